import JvmDerived
import JvmDerived.Pilot.@@N@@Statement
import JvmDerived.Pilot.@@N@@Code
set_option linter.unusedVariables false
set_option linter.unusedSimpArgs false
namespace Jvm.RoadKit
open Sem ClassFile Op Lib Jvm.Stand Jvm.Free Jvm.LawKit
/-- the run from S comes to an end that Post allows -/
def own_Fin (tb : Tables) (e : Env) (below : List Frame) (Post : Outcome → State → Prop) (S : State) : Prop := ∃ s₂ o, Steps tb e below S s₂ ∧ s₂.status = .running ∧ Ended s₂ below o ∧ Post o s₂
def own_post (Q : Option Value → Heap → List Loc → Prop) (s : State) (k n : Nat) (o : Outcome) (U : State) : Prop := ∃ v L, o = .returned v ∧ Q v U.heap L ∧ FrameEnd s o U L k n
def own_bool (P : Prop) (v : Option Value) : Prop := (v = some (.int 1) ∧ P) ∨ (v = some (.int 0) ∧ ¬ P)
theorem own_Fin.step {tb : Tables} {e : Env} {below : List Frame} {Post : Outcome → State → Prop} {S S' : State} (h : ∀ t, Steps tb e below S' t → Steps tb e below S t) (k : own_Fin tb e below Post S') : own_Fin tb e below Post S := by
  obtain ⟨s2, o, h1, h2⟩ := k
  exact ⟨s2, o, h _ h1, h2⟩
theorem own_Fin.trans {tb : Tables} {e : Env} {below : List Frame} {Post : Outcome → State → Prop} {S S' : State} (h : Steps tb e below S S') (k : own_Fin tb e below Post S') : own_Fin tb e below Post S := by
  obtain ⟨s2, o, h1, h2⟩ := k
  exact ⟨s2, o, h.trans h1, h2⟩
section New
variable {p : Program} {l : Launch} {e : Env} {R : Room} {s : State} {m : MethodId} {args : Array Value} {below : List Frame} {meth : Method} {c : Code} {T : State} {locs : List Loc} {cells slots : Nat} {Q : Option Value → Heap → List Loc → Prop} {kc ks : Nat} {h : Heap}
theorem retI (X : Stand p l e R s m args below meth c T locs cells slots) (hx : p.tables.exec = Jvm.exec) {pc : Nat} {Ls : Array Slot} {z : Int32} {rest : List Value} (hret : meth.sig.returnType = some .int) (hd : decode c.code pc = .ok (.ireturn, 1)) {fs : List Frame}
    (hl : ∀ (f : JFrame) (acts : List Action), f.method = m → f.locked = none → f.entered = [] → (doReturn e (T.setTop f) acts (some (.int z))).1 = T.setFrames fs) : Steps p.tables e below (T.setTop (mkF m pc Ls (.int z :: rest))) (T.setFrames fs) := by
  have hm' : T.vm.method? m = some meth := X.method'
  have hn : narrow .int (.int z) = .int z := rfl
  show Steps p.tables e below (T.setTop { method := m, pc := pc, locals := Ls, stack := _ :: rest, locked := none }) _
  jvm_step X.here [X.here.top, hx, hd, hm', hret, hn]
  first | (intro acts; rw [hl _ acts rfl rfl rfl]) | rw [hl _ _ rfl rfl rfl]
  exact Steps.refl _
theorem own_retN (X : Stand p l e R s m args below meth c T locs cells slots) (hx : p.tables.exec = Jvm.exec) (hlk : meth.locks = false) {pc : Nat} {Ls : Array Slot} {z : Int32} {t : FieldType} {rest : List Value} (hret : meth.sig.returnType = some t) (ht : t = .boolean ∨ t = .byte ∨ t = .char ∨ t = .short)
    (hd : decode c.code pc = .ok (.ireturn, 1)) (eT : T.heap = h) (hq : Q (some (.int (nar t z))) h locs) (hc : cells ≤ kc) (hs : slots ≤ ks) : own_Fin p.tables e below (own_post Q s kc ks) (T.setTop (mkF m pc Ls (.int z :: rest))) := by
  obtain ⟨fs, hr, hrun, hended, hW, hsame⟩ := X.leave (v := some (.int (nar t z))) (fun h => by rw [hret] at h; cases h) hlk
  exact ⟨_, _, retN X hx hret ht hd hr, hrun, hended, _, _, rfl, (eT ▸ hq : Q (some (.int (nar t z))) T.heap locs), ⟨_, rfl⟩, hW, hsame.mono hc hs⟩
theorem own_retI (X : Stand p l e R s m args below meth c T locs cells slots) (hx : p.tables.exec = Jvm.exec) (hlk : meth.locks = false) {pc : Nat} {Ls : Array Slot} {z : Int32} {rest : List Value} (hret : meth.sig.returnType = some .int)
    (hd : decode c.code pc = .ok (.ireturn, 1)) (eT : T.heap = h) (hq : Q (some (.int z)) h locs) (hc : cells ≤ kc) (hs : slots ≤ ks) : own_Fin p.tables e below (own_post Q s kc ks) (T.setTop (mkF m pc Ls (.int z :: rest))) := by
  obtain ⟨fs, hr, hrun, hended, hW, hsame⟩ := X.leave (v := some (.int z)) (fun h => by rw [hret] at h; cases h) hlk
  exact ⟨_, _, retI X hx hret hd hr, hrun, hended, _, _, rfl, (eT ▸ hq : Q (some (.int z)) T.heap locs), ⟨_, rfl⟩, hW, hsame.mono hc hs⟩
theorem own_retJ (X : Stand p l e R s m args below meth c T locs cells slots) (hx : p.tables.exec = Jvm.exec) (hlk : meth.locks = false) {pc : Nat} {Ls : Array Slot} {z : Int64} (hret : meth.sig.returnType = some .long)
    (hd : decode c.code pc = .ok (.lreturn, 1)) (eT : T.heap = h) (hq : Q (some (.long z)) h locs) (hc : cells ≤ kc) (hs : slots ≤ ks) : own_Fin p.tables e below (own_post Q s kc ks) (T.setTop (mkF m pc Ls [.long z])) := by
  obtain ⟨fs, hr, hrun, hended, hW, hsame⟩ := X.leave (v := some (.long z)) (fun h => by rw [hret] at h; cases h) hlk
  exact ⟨_, _, X.lreturnOut hx hret hd hr, hrun, hended, _, _, rfl, (eT ▸ hq : Q (some (.long z)) T.heap locs), ⟨_, rfl⟩, hW, hsame.mono hc hs⟩
theorem own_retR (X : Stand p l e R s m args below meth c T locs cells slots) (hx : p.tables.exec = Jvm.exec) (hlk : meth.locks = false) {pc : Nat} {Ls : Array Slot} {w : Value} {t : FieldType} (hw : w.isRef = true) (hret : meth.sig.returnType = some t) (ht : t.isReference = true)
    (hd : decode c.code pc = .ok (.areturn, 1)) (eT : T.heap = h) (hq : Q (some w) h locs) (hc : cells ≤ kc) (hs : slots ≤ ks) : own_Fin p.tables e below (own_post Q s kc ks) (T.setTop (mkF m pc Ls [w])) := by
  obtain ⟨fs, hr, hrun, hended, hW, hsame⟩ := X.leave (v := some w) (fun h => by rw [hret] at h; cases h) hlk
  exact ⟨_, _, X.areturnOut hx hw hret ht hd hr, hrun, hended, _, _, rfl, (eT ▸ hq : Q (some w) T.heap locs), ⟨_, rfl⟩, hW, hsame.mono hc hs⟩
theorem own_retV (X : Stand p l e R s m args below meth c T locs cells slots) (hx : p.tables.exec = Jvm.exec) (hlk : meth.locks = false) {pc : Nat} {Ls : Array Slot} (hret : meth.sig.returnType = none)
    (hd : decode c.code pc = .ok (.return_, 1)) (eT : T.heap = h) (hq : Q none h locs) (hc : cells ≤ kc) (hs : slots ≤ ks) : own_Fin p.tables e below (own_post Q s kc ks) (T.setTop (mkF m pc Ls [])) := by
  obtain ⟨fs, hr, hrun, hended, hW, hsame⟩ := X.leave (v := none) (fun _ => rfl) hlk
  exact ⟨_, _, X.returnOut hx hret hd hr, hrun, hended, _, _, rfl, (eT ▸ hq : Q none T.heap locs), ⟨_, rfl⟩, hW, hsame.mono hc hs⟩
theorem own_cat1 {v : Value} (h : v.isRef = true) : v.category = 1 := by cases v <;> simp [Value.isRef, Value.category] at h ⊢
theorem own_catR {a : Addr} : (Value.ref a).category = 1 := rfl
theorem own_catN : Value.null.category = 1 := rfl
theorem own_catI {a : Int32} : (Value.int a).category = 1 := rfl
theorem own_catJ {a : Int64} : (Value.long a).category = 2 := rfl
theorem own_fitR {v : Value} {C : String} (h : v.isRef = true) : fits (.object C) v = true := by cases v <;> simp [Value.isRef, fits] at h ⊢
theorem own_fitA {v : Value} {ty : FieldType} (h : v.isRef = true) : fits (.array ty) v = true := by cases v <;> simp [Value.isRef, fits] at h ⊢
theorem own_selPriv {s : State} {args : Array Value} {y : MethodName} {n : Nat} (hi : (Cond.instantiable y.cls n).before args s = true) (hpriv : s.PrivateAt y) (hinst : (Cond.instanceMethod y).before args s = true) (hy : y.cls ≠ "java/lang/invoke/MethodHandle" ∧ y.cls ≠ "java/lang/invoke/VarHandle") : (Cond.selects y.cls y y).before args s = true := by
  obtain ⟨c, k, h1, h2, -, h4, -, -⟩ := Cond.instantiable_spec hi
  have h5 : k.isInterface = false := by
    cases hk : k.isInterface with
    | false => rfl
    | true => simp [hk] at h4
  exact selects_self_of_private h1 h2 h5 hpriv hinst hy
theorem own_eqI {a b : Term} {args : Array Value} {first st : State} {o : Option Outcome} {idx : List Nat} {y : Int32} (h : (Cond.eq a b).value args first o st idx = some true) (hb : b.eval args first o idx st = some (.int y)) : a.eval args first o idx st = some (.int y) := by
  cases ha : a.eval args first o idx st with
  | none => simp [Cond.value, ha] at h
  | some x => cases x <;> simp [Cond.value, ha, hb] at h ⊢ <;> exact h
theorem own_eqR {a b : Term} {args : Array Value} {first st : State} {o : Option Outcome} {idx : List Nat} {y : Addr} (h : (Cond.eq a b).value args first o st idx = some true) (hb : b.eval args first o idx st = some (.ref y)) : a.eval args first o idx st = some (.ref y) := by
  cases ha : a.eval args first o idx st with
  | none => simp [Cond.value, ha] at h
  | some x => cases x <;> simp [Cond.value, ha, hb] at h ⊢ <;> exact h
theorem own_elem {t : Term} {args : Array Value} {Z : State} {a : Addr} {cl : Cell} {ty : FieldType} {j : Int32} {v : Value} (ev : t.eval args Z none [] Z = some (.ref a)) (A : Arr Z Z.heap a cl ty) (h : (Term.elem t (.int j)).eval args Z none [] Z = some v) : cl.slots[j.toNatClampNeg]? = some v := by
  obtain ⟨a', j', cell, e1, e2, e3, -, e5⟩ := Term.elem_spec h
  cases e1.symm.trans ev
  have e6 : some (Value.int j) = some (Value.int j') := e2
  cases e6
  have := IntBox.arrayAt_of A.1 A.2.1 A.2.2
  cases e3.symm.trans this
  exact e5
theorem own_arv {t : Term} {args : Array Value} {Z : State} {a : Addr} {cl : Cell} {ty : FieldType} {z : Int32} {vs : List Value} {dv : Value} (hf : Fit Z) (ev : t.eval args Z none [] Z = some (.ref a)) (A : Arr Z Z.heap a cl ty) (hl : (Term.length t).eval args Z none [] Z = some (.int z)) (hz : ¬ z < 0) (hn : z.toNatClampNeg = vs.length) (H : HasL cl 0 vs) : Arv Z Z.heap a cl.cls ty z vs dv := by
  have hA := IntBox.arrayAt_of A.1 A.2.1 A.2.2
  have hlt : cl.slots.size < 2 ^ 31 := by
    by_cases hq : cl.slots.size < 2 ^ 31
    · exact hq
    · simp [Term.eval, ev, hA, hq] at hl
  have e := len_f (t := t) (args := args) (first := Z) (o := none) (idx := []) ev hA hlt
  have e2 : cl.slots.size.toInt32 = z := by
    have := e.symm.trans hl
    cases this; rfl
  exact Arv.start hf A hlt e2 hz hn H
end New
end Jvm.RoadKit
namespace Jvm.RoadKit
open Sem ClassFile Op Lib Jvm.Stand Jvm.Free Jvm.LawKit
section Refs
variable {p : Program} {l : Launch} {e : Env} {R : Room} {s : State} {m : MethodId} {args : Array Value} {below : List Frame} {meth : Method} {c : Code} {T : State} {locs : List Loc} {cells slots : Nat} {Z : State} {a0 : Array Value} {h : Heap}
/-- a resolved Fieldref, at the tables where the walk stands -/
theorem own_fref (X : Stand p l e R s m args below meth c T locs cells slots) (hZ : Z.Warmed39 s.vm) {own R0 n d : String} {index : Nat} (hown : s.vm.findClass own = some m.cls) (w : (Cond.fieldRef own index R0 n d).before a0 Z = true) {cf i : Nat} {k : Class} {f : Field} (hf : Z.fieldFound? R0 n d = some (cf, k, i, f)) : T.vm.fieldReady m.cls index cf f := by
  have hT : Z.Warmed39 T.vm := wtrans hZ X.warmed
  have w2 := Cond.fieldRef_warmed39 hT w
  have ho : (Z.setVm T.vm).vm.findClass own = some m.cls := by
    show T.vm.findClass own = some m.cls
    rw [X.warmed.alike.findClass]; exact hown
  obtain ⟨c', k', i', f', h1, h2⟩ := Cond.fieldRef_spec ho (show _ from w2)
  obtain ⟨k2, h3, -⟩ := State.fieldFound?_setVm (s := Z) hT.alike hf
  cases h1.symm.trans h3
  exact h2
theorem own_getFR (X : Stand p l e R s m args below meth c T locs cells slots) (hx : p.tables.exec = Jvm.exec) (hZ : Z.Warmed39 s.vm) {own R0 O n d : String} {index : Nat} (hown : s.vm.findClass own = some m.cls) (w : (Cond.fieldRef own index R0 n d).before a0 Z = true) (via : Via Z R0 O n d)
    (eT : T.heap = h) {a : Addr} {v : Value} (F : Fld Z h a O n d v) {g : JFrame} (hg : g.method = m) {rest : List Value} (hs : g.stack = .ref a :: rest) (hd : decode c.code g.pc = .ok (.getfield index, 3)) : ∃ T', Stand p l e R s m args below meth c T' locs cells slots ∧ T'.heap = h ∧ ∀ target, Steps p.tables e below (T'.setTop { g with pc := g.pc + 3, stack := v :: rest }) target → Steps p.tables e below (T.setTop g) target := by
  obtain ⟨cell, cf, k, i, f, h1, h2, h3, h4, -, -, h7⟩ := F
  have hr := own_fref X hZ hown w (via _ h2)
  refine ⟨T, X, eT, fun target hrest => ?_⟩
  subst hg
  jvm_step X.here [hx, hd, getfield.wp_ready (e := e) (s := T) (f := g) X.here.top hr h3 hs (show T.heap[a]? = some cell by rw [eT]; exact h1) h4 h7]
  exact hrest
/-- a resolved Methodref, at the tables where the walk stands -/
theorem own_mref (X : Stand p l e R s m args below meth c T locs cells slots) (hZ : Z.Warmed39 s.vm) {own : String} {index : Nat} {y : MethodName} (hown : s.vm.findClass own = some m.cls) (w : (Cond.methodRef own index y).before a0 Z = true) {mk : MethodId} (hn : Z.methodNamed? y = some mk) (hy : y.cls ≠ "java/lang/invoke/MethodHandle" ∧ y.cls ≠ "java/lang/invoke/VarHandle") :
    ∃ cY, T.vm.findClass y.cls = some cY ∧ namesResolved T.vm m.cls index cY ∧ T.vm.methodReady m.cls index mk := by
  have hT : Z.Warmed39 T.vm := wtrans hZ X.warmed
  have w2 := Cond.methodRef_warmed39 hT hn hy w
  have ho : (Z.setVm T.vm).vm.findClass own = some m.cls := by
    show T.vm.findClass own = some m.cls
    rw [X.warmed.alike.findClass]; exact hown
  obtain ⟨m', c', ci, b, h1, h2, h3, h4, h5⟩ := Cond.methodRef_spec (e := e) ho (show _ from w2)
  have hn' : (Z.setVm T.vm).methodNamed? y = some mk := by rw [State.methodNamed?_setVm hT.alike]; exact hn
  cases h1.symm.trans (State.methodFound?_of_named hn' hy)
  have hnames : (Z.setVm T.vm).names own index (.method y.cls y.name y.desc) = true := by
    have w3 := Cond.before_iff.mp w2
    simp only [Cond.value, ho, h1, Option.some.injEq, Bool.and_eq_true] at w3
    exact w3.1.1
  obtain ⟨cp, hcp, hn2⟩ := State.names_spec hnames
  obtain ⟨ci', nt, hentry, hnt, -⟩ := namesOf?_method hn2
  obtain ⟨k, cf, hk, hcf, rfl⟩ := State.poolOf?_spec ho hcp
  obtain ⟨b', hask⟩ := memberRef_ask' (e := e) hk hcf hentry hnt
  have hci : ci = ci' := by rw [h4] at hask; simp at hask; exact hask.1
  subst hci
  exact ⟨c', h3, ⟨k, cf, ci, nt, hk, hcf, hentry, h5⟩, h2⟩
/-- a private method of a nest mate by its contract, the entry being resolved -/
theorem own_privR (X : Stand p l e R s m args below meth c T locs cells slots) (hx : p.tables.exec = Jvm.exec) (hZ : Z.Warmed39 s.vm) {own : String} {index kk : Nat} {y : MethodName} (hown : s.vm.findClass own = some m.cls) (w : (Cond.methodRef own index y).before a0 Z = true)
    (wi : (Cond.instanceMethod y).before a0 Z = true) (wp : (Cond.privateMethod y).before a0 Z = true) (wn : (Cond.instantiable y.cls kk).before a0 Z = true) (hy : y.cls ≠ "java/lang/invoke/MethodHandle" ∧ y.cls ≠ "java/lang/invoke/VarHandle")
    {W : Nat} {Pre : Pt → Array Value → Prop} {Post : Pt → Array Value → Option Value → Pt → Prop} (hK : Back l R p e below s args y 3 W Pre Post)
    {g : JFrame} (hg : g.method = m) (hsize : g.locals.size = c.maxLocals) {s₀ : State} (hcome : Steps p.tables e below s₀ (T.setTop g)) {a : Addr} {cell : Cell} (hcell : T.heap[a]? = some cell) (hobj : ∀ q, cell.vm ≠ .statics q)
    {argsL rest : List Value} (hlen : ∀ sig, parseMethodDescriptor y.desc = some sig → argsL.length = sig.parameters.length)
    (hstack : g.stack = argsL.reverse ++ .ref a :: rest) (hW : 2 * g.monitorRoom + (rest.map fun v => v.category).sum ≤ W) (hdg : decode c.code g.pc = .ok (.invokevirtual index, 3))
    {bytes : ByteArray} {maxL : Nat} {ret : Option FieldType} (wc : (Cond.code y bytes maxL ret).before a0 Z = true)
    (hpre : ∀ vm₁, s.WarmedH vm₁ → Pre ⟨T.setVm vm₁, locs, cells, slots⟩ (.ref a :: argsL).toArray) :
    ∃ (v : Option Value) (vm₁ : Vm) (B : Pt), s.WarmedH vm₁ ∧ Stand p l e R s m args below meth c B.U B.locs B.cells B.slots ∧ Post ⟨T.setVm vm₁, locs, cells, slots⟩ (.ref a :: argsL).toArray v B ∧
      Steps p.tables e below s₀ (B.U.setTop { g with pc := g.pc + 3, stack := v.toList ++ rest }) := by
  obtain ⟨mk, methM, hnamed, hmethM, hstM, habM⟩ := Cond.instanceMethod_spec (mvT (args := args) hZ wi)
  obtain ⟨methM', cM, hmethM', -, -, -, -, -, -, hsigM⟩ := Cond.code_spec hnamed (mvT (args := args) hZ wc)
  cases hmethM.symm.trans hmethM'
  have hnZ : Z.methodNamed? y = some mk := by rw [← State.methodNamed?_setVm hZ.alike]; exact hnamed
  obtain ⟨cY, hcY, hnr, hready⟩ := own_mref X hZ hown w hnZ hy
  obtain ⟨cI, kI, i1, i2, -, i4, -, -⟩ := Cond.instantiable_spec (mvT (args := args) hZ wn)
  have hfc := findClass_of_methodNamed hnamed
  cases i1.symm.trans hfc
  have hni : kI.isInterface = false := by
    cases hk : kI.isInterface with
    | false => rfl
    | true => simp [hk] at i4
  have al := X.warmed.alike
  have hcY' : cY = mk.cls := by
    rw [al.findClass, hfc] at hcY
    exact (Option.some.inj hcY).symm
  subst hcY'
  obtain ⟨kx, hkx, hnx⟩ := className_of_methodNamed hnamed
  cases i2.symm.trans hkx
  obtain ⟨k2, hk2, he2⟩ := al.2.2 _ _ i2
  have hpriv : s.PrivateAt y := Cond.privateMethod_at (mvP hZ wp (args := #[]))
  have hsel : selectMethod e.platform s.vm cell.cls mk = .method mk := selectMethod_private hmethM (hpriv mk methM hnamed hmethM)
  have hm2 : T.vm.method? mk = some methM := by rw [al.method?]; exact hmethM
  have hstep : ∀ target, (∀ acts, Steps p.tables e below (doInvoke e (T.setTop { g with stack := rest }) acts mk (.ref a :: argsL).toArray).1 target) → Steps p.tables e below (T.setTop g) target := by
    intro target hrest
    subst hg
    jvm_step X.here [hx, hdg, invokevirtual.wp_named (e := e) (s := T) (f := g) (r := mk) (m := mk) (c' := mk.cls) (k := k2) (k' := k2) (mk := k2) (rmeth := methM) (meth := methM) (a := a) (args := argsL) (rest := rest) (cell := cell)
      X.here.top hnr hk2 (by rw [he2]; exact hni) hready hk2 hm2 (by rw [he2]; simp [signaturePolymorphic, hnx, hy.1, hy.2]) hstM (hlen _ hsigM) hstack hcell hobj
      (by rw [al.selectMethod]; exact hsel) hm2 habM hk2 (by rw [he2]; exact hni)]
    exact hrest
  obtain ⟨v, B, X', hpost, hsteps⟩ := hK m meth c ⟨T, locs, cells, slots⟩ { g with stack := rest } (.invokevirtual index) mk (Value.ref a :: argsL).toArray X hg hsize hdg hW (X.named hnamed) (show Pre ⟨T, locs, cells, slots⟩ (Value.ref a :: argsL).toArray from hpre T.vm X.warmed)
  exact ⟨v, T.vm, B, X.warmed, X', hpost, (hcome.trans (hstep _ fun acts => by rw [doInvoke_state]; exact Steps.refl _)).trans hsteps⟩
/-- a private constructor of a nest mate by its contract, the entry being resolved -/
theorem own_initR (X : Stand p l e R s m args below meth c T locs cells slots) (hx : p.tables.exec = Jvm.exec) (hZ : Z.Warmed39 s.vm) {own : String} {index : Nat} {y : MethodName} (hy1 : y.name = "<init>") (hown : s.vm.findClass own = some m.cls) (w : (Cond.methodRef own index y).before a0 Z = true)
    (wi : (Cond.instanceMethod y).before a0 Z = true) (hy : y.cls ≠ "java/lang/invoke/MethodHandle" ∧ y.cls ≠ "java/lang/invoke/VarHandle")
    {W : Nat} {Pre : Pt → Array Value → Prop} {Post : Pt → Array Value → Option Value → Pt → Prop} (hK : Back l R p e below s args y 3 W Pre Post)
    {g : JFrame} (hg : g.method = m) (hsize : g.locals.size = c.maxLocals) {s₀ : State} (hcome : Steps p.tables e below s₀ (T.setTop g)) {a : Addr}
    {argsL rest : List Value} (hlen : ∀ sig, parseMethodDescriptor y.desc = some sig → argsL.length = sig.parameters.length)
    (hstack : g.stack = argsL.reverse ++ .ref a :: rest) (hW : 2 * g.monitorRoom + (rest.map fun v => v.category).sum ≤ W) (hdg : decode c.code g.pc = .ok (.invokespecial index, 3))
    {bytes : ByteArray} {maxL : Nat} {ret : Option FieldType} (wc : (Cond.code y bytes maxL ret).before a0 Z = true)
    (hpre : ∀ vm₁, s.WarmedH vm₁ → Pre ⟨T.setVm vm₁, locs, cells, slots⟩ (.ref a :: argsL).toArray) :
    ∃ (v : Option Value) (vm₁ : Vm) (B : Pt), s.WarmedH vm₁ ∧ Stand p l e R s m args below meth c B.U B.locs B.cells B.slots ∧ Post ⟨T.setVm vm₁, locs, cells, slots⟩ (.ref a :: argsL).toArray v B ∧
      Steps p.tables e below s₀ (B.U.setTop { g with pc := g.pc + 3, stack := v.toList ++ rest }) := by
  obtain ⟨mk, methM, hnamed, hmethM, hstM, habM⟩ := Cond.instanceMethod_spec (mvT (args := args) hZ wi)
  obtain ⟨methM', cM, hmethM', -, -, -, -, -, -, hsigM⟩ := Cond.code_spec hnamed (mvT (args := args) hZ wc)
  cases hmethM.symm.trans hmethM'
  have hnZ : Z.methodNamed? y = some mk := by rw [← State.methodNamed?_setVm hZ.alike]; exact hnamed
  obtain ⟨cY, hcY, hnr, hready⟩ := own_mref X hZ hown w hnZ hy
  have hfc := findClass_of_methodNamed hnamed
  have al := X.warmed.alike
  have hcY' : cY = mk.cls := by
    rw [al.findClass, hfc] at hcY
    exact (Option.some.inj hcY).symm
  subst hcY'
  obtain ⟨kx, hkx, hnx⟩ := className_of_methodNamed hnamed
  obtain ⟨k2, hk2, he2⟩ := al.2.2 _ _ hkx
  have hm2 : T.vm.method? mk = some methM := by rw [al.method?]; exact hmethM
  obtain ⟨hname, hdesc⟩ := name_of_methodNamed hnamed hmethM
  have hstep : ∀ target, (∀ acts, Steps p.tables e below (doInvoke e (T.setTop { g with stack := rest }) acts mk (.ref a :: argsL).toArray).1 target) → Steps p.tables e below (T.setTop g) target := by
    intro target hrest
    subst hg
    jvm_step X.here [hx, hdg, invokespecial.wp_init (e := e) (s := T) (f := g) (m := mk) (k := k2) (meth := methM) (a := a) (args := argsL) (rest := rest)
      X.here.top hnr hready hk2 hm2 (hname.trans hy1) hstM habM (by rw [al.lookupSpecial, hdesc, ← hy1]; exact lookupSpecial_of_named hnamed hmethM hstM) (hlen _ hsigM) hstack]
    exact hrest
  obtain ⟨v, B, X', hpost, hsteps⟩ := hK m meth c ⟨T, locs, cells, slots⟩ { g with stack := rest } (.invokespecial index) mk (Value.ref a :: argsL).toArray X hg hsize hdg hW (X.named hnamed) (show Pre ⟨T, locs, cells, slots⟩ (Value.ref a :: argsL).toArray from hpre T.vm X.warmed)
  exact ⟨v, T.vm, B, X.warmed, X', hpost, (hcome.trans (hstep _ fun acts => by rw [doInvoke_state]; exact Steps.refl _)).trans hsteps⟩
/-- a field of a nest mate is written, the entry being resolved; the field isn't final -/
theorem own_putFR (X : Stand p l e R s m args below meth c T locs cells slots) (hx : p.tables.exec = Jvm.exec) (hZ : Z.Warmed39 s.vm) {own O n d C : String} {index kk : Nat} {ty : FieldType} (hown : s.vm.findClass own = some m.cls) (w : (Cond.fieldRef own index O n d).before a0 Z = true)
    (eT : T.heap = h) {a : Addr} {v old : Value} (F : Fld Z h a O n d old) (E : Exa Z h a C) (L : (Cond.lays C O n d).before a0 Z = true) (wi : (Cond.instantiable C kk).before a0 Z = true)
    (hty : parseFieldDescriptor d = some ty) (hn : narrow ty v = v) (hf : fits ty v = true) {g : JFrame} (hg : g.method = m) {rest : List Value} (hs : g.stack = v :: .ref a :: rest) (hd : decode c.code g.pc = .ok (.putfield index, 3)) :
    ∃ T' h', Stand p l e R s m args below meth c T' (locs ++ [⟨a, slotOf Z O n d⟩]) cells slots ∧ T'.heap = h' ∧ Wr h h' a (slotOf Z O n d) v ∧ ∀ target, Steps p.tables e below (T'.setTop { g with pc := g.pc + 3, stack := rest }) target → Steps p.tables e below (T.setTop g) target := by
  obtain ⟨cell, cf, k, i, f, h1, h2, h3, h4, h5, h6, h7⟩ := F
  obtain ⟨cell', kc, e1, e2, e3, e4, e5⟩ := E
  cases h1.symm.trans e1
  obtain ⟨c1, k1, cf1, kf1, i1, f1, a1, a2, a3, a4, a5, a6, a7, -⟩ := Cond.lays_spec L
  cases h2.symm.trans a3
  cases e2.symm.trans a1
  cases e3.symm.trans a2
  obtain ⟨c2, k2, j1, j2, j3, -⟩ := Cond.instantiable_spec wi
  cases e2.symm.trans j1
  cases e3.symm.trans j2
  have hft := (State.fieldFound?_type h2 hty).2
  have hr := own_fref X hZ hown w h2
  have hlt : f.slot < cell.slots.size := (Array.getElem?_eq_some_iff.mp h7).1
  have hst : cell.vm.isStatics = false := e4
  have hq : Z.slotType? cell.cls cell.vm f.slot = some ty := by
    simp only [State.slotType?, e3, Option.bind_eq_bind, Option.bind_some, j3]
    cases hv : cell.vm <;> first | (rw [hv] at hst; exact Bool.noConfusion hst) | (rw [a7, hft])
  have hfit : Z.fitsSlot cell.cls cell.vm f.slot v = true := by simp [State.fitsSlot, hq, hf]
  have hT : Z.Warmed39 T.vm := wtrans hZ X.warmed
  have hfitT : T.fitsSlot cell.cls cell.vm f.slot v = true := by
    have := hfit
    rw [← State.fitsSlot_setVm hT.alike] at this
    exact this
  have hsl : slotOf Z O n d = f.slot := by simp [slotOf, h2]
  obtain ⟨X', st⟩ := X.putfieldReady hx hr h3 (Or.inl a5) (show T.heap[a]? = some cell by rw [eT]; exact h1) h4 hlt (by rw [hft]; exact hn) hfitT hg hs hd
  rw [hsl]
  exact ⟨_, _, X', rfl, ⟨cell, h1, hst, hlt, by subst eT; rfl⟩, st⟩
end Refs
end Jvm.RoadKit
namespace Jvm.RoadKit
open Sem ClassFile Op Lib Jvm.Stand Jvm.Free Jvm.LawKit
section Sync
variable {p : Program} {l : Launch} {e : Env} {R : Room} {s : State} {m : MethodId} {args : Array Value} {below : List Frame} {meth : Method} {c : Code} {T : State} {locs : List Loc} {cells slots : Nat} {Z : State} {a0 : Array Value} {h h' : Heap}
theorem own_sigC {y : MethodName} {bytes : ByteArray} {maxL : Nat} {ret : Option FieldType} (wc : (Cond.code y bytes maxL ret).before args s = true) : ∀ mk methM, s.methodNamed? y = some mk → s.vm.method? mk = some methM → parseMethodDescriptor y.desc = some methM.sig := fun mk mm hn hm => by
  obtain ⟨m2, c2, q1, -, -, -, -, -, -, hs⟩ := Cond.code_spec hn wc
  cases hm.symm.trans q1
  exact hs
theorem own_sigS {y : MethodName} {bytes : ByteArray} {maxL : Nat} {ret : Option FieldType} (wc : (Cond.codeSync y bytes maxL ret).before args s = true) : ∀ mk methM, s.methodNamed? y = some mk → s.vm.method? mk = some methM → parseMethodDescriptor y.desc = some methM.sig := fun mk mm hn hm => by
  obtain ⟨m2, c2, q1, -, -, -, -, -, -, hs⟩ := Cond.codeSync_spec hn wc
  cases hm.symm.trans q1
  exact hs
/-- a private method by its contract, whatever its entry word is; 'selects' of any class below it -/
theorem own_privG (X : Stand p l e R s m args below meth c T locs cells slots) (hx : p.tables.exec = Jvm.exec) {own C : String} {index : Nat} {y : MethodName} (hown : s.vm.findClass own = some m.cls) (hlink : (Cond.methodLink own index y).before args s = true)
    (hinst : (Cond.instanceMethod y).before args s = true) (hsel : (Cond.selects C y y).before args s = true) (hpriv : s.PrivateAt y) (hsig : ∀ mk methM, s.methodNamed? y = some mk → s.vm.method? mk = some methM → parseMethodDescriptor y.desc = some methM.sig)
    (hy : y.cls ≠ "java/lang/invoke/MethodHandle" ∧ y.cls ≠ "java/lang/invoke/VarHandle") {W : Nat} {Pre : Pt → Array Value → Prop} {Post : Pt → Array Value → Option Value → Pt → Prop} (hK : Back l R p e below s args y 3 W Pre Post)
    {g : JFrame} (hg : g.method = m) (hsize : g.locals.size = c.maxLocals) {s₀ : State} (hcome : Steps p.tables e below s₀ (T.setTop g)) {a : Addr} {cell : Cell} (hcell : T.heap[a]? = some cell) (hobj : ∀ q, cell.vm ≠ .statics q)
    {argsL rest : List Value} (hlen : ∀ sig, parseMethodDescriptor y.desc = some sig → argsL.length = sig.parameters.length)
    (hstack : g.stack = argsL.reverse ++ .ref a :: rest) (hW : 2 * g.monitorRoom + (rest.map fun v => v.category).sum ≤ W) (hdg : decode c.code g.pc = .ok (.invokevirtual index, 3))
    (hpre : ∀ vm₁, s.WarmedH vm₁ → Pre ⟨T.setVm vm₁, locs, cells, slots⟩ (.ref a :: argsL).toArray) :
    ∃ (v : Option Value) (vm₁ : Vm) (B : Pt), s.WarmedH vm₁ ∧ Stand p l e R s m args below meth c B.U B.locs B.cells B.slots ∧ Post ⟨T.setVm vm₁, locs, cells, slots⟩ (.ref a :: argsL).toArray v B ∧
      Steps p.tables e below s₀ (B.U.setTop { g with pc := g.pc + 3, stack := v.toList ++ rest }) := by
  obtain ⟨mk, methM, hnamed, hmethM, hstM, habM⟩ := Cond.instanceMethod_spec hinst
  have hsigM := hsig mk methM hnamed hmethM
  obtain ⟨c2, r2, m2, -, -, q3, -, kP, hkP, hkPi⟩ := Cond.selects_spec hsel
  cases hnamed.symm.trans q3
  have hselP : selectMethod e.platform s.vm cell.cls mk = .method mk := selectMethod_private hmethM (hpriv mk methM hnamed hmethM)
  obtain ⟨vm₁, X₁, hstep₁⟩ := X.invokevirtual hx hown hlink hnamed hmethM hstM hkP hkPi hy (a := a) (cell := cell) hcell hobj hselP hmethM habM hkP hkPi (g := g) hg (argsL := argsL) (rest := rest) (hlen _ hsigM) hstack hdg
  obtain ⟨v, B, X', hpost, hsteps⟩ := hK m meth c ⟨T.setVm vm₁, locs, cells, slots⟩ { g with stack := rest } (.invokevirtual index) mk (.ref a :: argsL).toArray X₁ hg hsize hdg hW (X₁.named hnamed) (hpre vm₁ X₁.warmed)
  exact ⟨v, vm₁, B, X₁.warmed, X', hpost, (hcome.trans (hstep₁ _ fun acts => by rw [doInvoke_state]; exact Steps.refl _)).trans hsteps⟩
/-- the payer of a synchronized method, in backOf's shape; the receiver's monitor is free -/
theorem own_backS {y : MethodName} {bytes : ByteArray} {maxL : Nat} {ret : Option FieldType} {rm : Room} {len W : Nat} {as' : Array Value} {a : Addr} {Q : Option Value → Heap → List Loc → Prop}
    (hM : MetFree l y (head1 [Cond.codeSync y bytes maxL ret, Cond.instanceMethod y] rm) (fun as U => as = as' ∧ Z.Warmed39 U.vm ∧ U.heap = h ∧ ∃ cell : Cell, h[a]? = some cell ∧ cell.enterable U.cur) (fun _ _ _ _ _ => True) (fun _ U o U' => ∃ v L, o = .returned v ∧ Q v U'.heap L ∧ FrameEnd U o U' L rm.cells rm.slots))
    (hZ : Z.Warmed39 s.vm) (wc : (Cond.codeSync y bytes maxL ret).before a0 Z = true) (wi : (Cond.instanceMethod y).before a0 Z = true) (wz : (Cond.initialized y.cls).before a0 Z = true) (N : Unt h a) (hf : rm.frames + 1 ≤ R.frames) (hl : W + (maxL + 11) + rm.locals ≤ R.locals) :
    Back l R p e below s args y len W (fun A as => as = as' ∧ A.U.heap = h ∧ A.cells + rm.cells ≤ R.cells ∧ A.slots + rm.slots ≤ R.slots)
      (fun A _ v B => ∃ L, Q v B.U.heap L ∧ B.locs = A.locs ++ L ∧ B.cells = A.cells + rm.cells ∧ B.slots = A.slots + rm.slots) :=
  Jvm.Free.XT.back_of_sync (bytes := bytes) (maxL := maxL) (ret := ret) (E := fun _ _ o t L k n => k = rm.cells ∧ n = rm.slots ∧ ∃ v, o = .returned v ∧ Q v t.heap L) hM hf hl
    (fun m meth c A as Y hp => have hU : Z.Warmed39 A.U.vm := wtrans hZ Y.warmed
      ⟨by show (Cond.and _ (Cond.and _ .tt)).before as A.U = true; rw [Cond.before_and, Cond.before_and, mv hU wc, mv hU wi]; rfl, mv hU wc, mv hU wz, hp.2.2.1, hp.2.2.2⟩)
    (fun m meth c A as g mk Y hp => ⟨hp.1, wtrans hZ Y.warmed, hp.2.1, by obtain ⟨cl, u1, -, u3⟩ := N; exact ⟨cl, u1, by rw [Cell.enterable, u3]; simp⟩⟩)
    (fun _ _ _ _ _ _ _ _ _ => trivial)
    (fun _ _ _ _ ⟨v, L, h1, h2, h3⟩ => ⟨L, _, _, h3, rfl, rfl, v, h1, h2⟩)
    (fun m meth c A as g mk v t L k n Y hp _ _ ⟨e1, e2, v', e3, e4⟩ => by cases e3; subst e1 e2; exact ⟨L, e4, rfl, rfl, rfl⟩)
theorem own_sameDecl {y x z : MethodName} {C : String} (hd : (Cond.declares y).before a0 Z = true) (hs : (Cond.selects C x z).before a0 Z = true) (hz : z.cls = y.cls) (hy : y.cls ≠ "java/lang/invoke/MethodHandle" ∧ y.cls ≠ "java/lang/invoke/VarHandle") : (Cond.sameMethod y.cls y.cls y.name y.desc).before a0 Z = true := by
  obtain ⟨m, meth, hn, -⟩ := Cond.declares_spec hd
  obtain ⟨c, r, m2, -, -, h3, -, mk, h4, h5⟩ := Cond.selects_spec hs
  have hf := State.methodFound?_of_named hn hy
  have hc := findClass_of_methodNamed hn
  have hc2 := findClass_of_methodNamed h3
  rw [hz] at hc2
  have e : m2.cls = m.cls := Option.some.inj (hc2.symm.trans hc)
  rw [e] at h4
  obtain ⟨yc, yn, yd⟩ := y
  simp only at hf hc
  simp [Cond.before, Cond.holds, Cond.value, hc, hf, hn, h4, h5]
theorem own_arvMon {b : Addr} {k : ClassId} {ty : FieldType} {z : Int32} {vs : List Value} {d : Value} (W : Mon h h') (F : Arv Z h b k ty z vs d) : Arv Z h' b k ty z vs d := by
  obtain ⟨c, A, r⟩ := F
  obtain ⟨mo, q⟩ := W.2 _ _ A.1
  exact ⟨_, ⟨q, A.2.1, A.2.2⟩, r⟩
theorem own_oldSet {n0 : Nat} {a : Addr} {c : Cell} (O : Old Z n0 h) (hn : n0 ≤ a) : Old Z n0 (h.setIfInBounds a c) :=
  ⟨O.1, by rw [Array.size_setIfInBounds]; exact O.2.1, fun x d q => by
    have h1 : x < n0 := O.1 ▸ (Array.getElem?_eq_some_iff.mp q).1
    rw [Array.getElem?_setIfInBounds_ne (fun z => absurd (Nat.lt_of_lt_of_le h1 hn) (by rw [z]; exact Nat.lt_irrefl _))]
    exact O.2.2 x d q⟩
theorem own_oldEnd {s0 V : State} {n0 : Nat} {L : List Loc} {k n : Nat} (hs : s0.sameButNew { V with vm := s0.vm } L k n) (N : Fr n0 L) (O : Old Z n0 s0.heap) : Old Z n0 V.heap :=
  ⟨O.1, Nat.le_trans O.2.1 hs.2.1, fun x d q => by
    have h1 : x < n0 := O.1 ▸ (Array.getElem?_eq_some_iff.mp q).1
    obtain ⟨c', hc', he, hsz, hsl⟩ := hs.2.2.2.2.2 x d (O.2.2 x d q)
    have h2 : c'.slots = d.slots := Array.ext (by rw [hsz]) (fun i i1 i2 => by
      have := hsl i (fun z => absurd h1 (Nat.not_lt.mpr (N _ z)))
      rw [Array.getElem?_eq_getElem i1, Array.getElem?_eq_getElem i2] at this
      exact Option.some.inj this)
    have h3 : c' = d := by rw [he, h2]
    rw [← h3]; exact hc'⟩
theorem own_untEnd {s0 V : State} {a : Addr} {L : List Loc} {k n : Nat} (hs : s0.sameButNew { V with vm := s0.vm } L k n) (U : Unt s0.heap a) : Unt V.heap a := by
  obtain ⟨d, q, r1, r2⟩ := U
  obtain ⟨c', hc', he, -⟩ := hs.2.2.2.2.2 a d q
  refine ⟨c', hc', ?_, ?_⟩
  · rw [he]; exact r1
  · rw [he]; exact r2
end Sync
end Jvm.RoadKit
namespace Jvm.RoadKit
open Sem ClassFile Op Lib Jvm.Stand Jvm.Free Jvm.LawKit
theorem own_notFace {s : State} {args : Array Value} {C : String} {x y z : MethodName} (hs : (Cond.selects C x z).before args s = true) (hz : z.cls = y.cls) : NotFace s y := fun r0 h0 => by
  obtain ⟨c, r, m2, -, -, h3, -, mk, h4, h5⟩ := Cond.selects_spec hs
  have hc := findClass_of_methodNamed h0
  have hc2 := findClass_of_methodNamed h3
  rw [hz] at hc2
  have e : m2.cls = r0.cls := Option.some.inj (hc2.symm.trans hc)
  rw [e] at h4
  exact ⟨mk, h4, h5⟩
end Jvm.RoadKit
namespace Jvm.RoadKit
open Sem ClassFile Op Lib Jvm.Stand Jvm.Free Jvm.LawKit
section Cps
variable {p : Program} {l : Launch} {e : Env} {R : Room} {s : State} {m : MethodId} {args : Array Value} {below : List Frame} {meth : Method} {c : Code} {T : State} {locs : List Loc} {cells slots : Nat} {Z : State} {a0 : Array Value} {h : Heap} {Post : Outcome → State → Prop} {pc : Nat} {Ls : Array Slot} {st : List Value}
theorem own_st (q : Nat) (st' : List Value) (h1 : ∀ t, Steps p.tables e below (T.setTop (mkF m q Ls st')) t → Steps p.tables e below (T.setTop (mkF m pc Ls st)) t) (k : own_Fin p.tables e below Post (T.setTop (mkF m q Ls st'))) : own_Fin p.tables e below Post (T.setTop (mkF m pc Ls st)) := own_Fin.step h1 k
theorem own_sl (q : Nat) (Ls' : Array Slot) (st' : List Value) (h1 : ∀ t, Steps p.tables e below (T.setTop (mkF m q Ls' st')) t → Steps p.tables e below (T.setTop (mkF m pc Ls st)) t) (k : own_Fin p.tables e below Post (T.setTop (mkF m q Ls' st'))) : own_Fin p.tables e below Post (T.setTop (mkF m pc Ls st)) := own_Fin.step h1 k
theorem own_sT {T' : State} (q : Nat) (st' : List Value) (h1 : ∀ t, Steps p.tables e below (T'.setTop (mkF m q Ls st')) t → Steps p.tables e below (T.setTop (mkF m pc Ls st)) t) (k : own_Fin p.tables e below Post (T'.setTop (mkF m q Ls st'))) : own_Fin p.tables e below Post (T.setTop (mkF m pc Ls st)) := own_Fin.step h1 k
theorem own_nO (X : Stand p l e R s m args below meth c T locs cells slots) (hx : p.tables.exec = Jvm.exec) (hZ : Z.Warmed39 s.vm) {own C : String} {index n : Nat} (hown : s.vm.findClass own = some m.cls) (w : (Cond.classLink own index C).before a0 Z = true) (wi : (Cond.instantiable C n).before a0 Z = true) (wz : (Cond.initialized C).before a0 Z = true) (eT : T.heap = h)
    (q : Nat) (hd : decode c.code pc = .ok (.new index, 3)) (hq : pc + 3 = q) (hc : cells + 1 ≤ R.cells) (hl : slots + n ≤ R.slots)
    (k : ∀ T' h' b, b = h.size → Stand p l e R s m args below meth c T' locs (cells + 1) (slots + n) → T'.heap = h' → Ext h h' → Exa Z h' b C → (∀ {O nm d : String} {ty : FieldType}, Laid Z a0 C O nm d → parseFieldDescriptor d = some ty → Fld Z h' b O nm d (defaultValue ty)) → Unt h' b → own_Fin p.tables e below Post (T'.setTop (mkF m q Ls (.ref b :: st)))) : own_Fin p.tables e below Post (T.setTop (mkF m pc Ls st)) := by
  subst hq
  obtain ⟨T', h', X', e', E', A', D', U', t⟩ := newO X hx hZ hown w wi wz eT (g := mkF m pc Ls st) rfl hd hc hl
  exact own_Fin.step t (k T' h' _ rfl X' e' E' A' D' U')
theorem own_nP (X : Stand p l e R s m args below meth c T locs cells slots) (hx : p.tables.exec = Jvm.exec) (hZ : Z.Warmed39 s.vm) {aty : ArrayType} (w : (Cond.arrayClass (newarray.typeOf aty)).before a0 Z = true) (eT : T.heap = h) (q : Nat) (hd : decode c.code pc = .ok (.newarray aty, 2)) (hq : pc + 2 = q) {n : Int32} {rest : List Value} (hs : st = .int n :: rest)
    (hn : ¬ n < 0) {cap : Nat} (hcap : n.toNatClampNeg ≤ cap) (hb : cap * 8 ≤ 536870912) (hc : cells + 1 ≤ R.cells) (hl : slots + cap ≤ R.slots) {ad : String} (had : "[" ++ (newarray.typeOf aty).toString = ad)
    (k : ∀ T' h' cA b, b = h.size → Stand p l e R s m args below meth c T' locs (cells + 1) (slots + cap) → T'.heap = h' → Ext h h' → Arr Z h' b (newA cA (newarray.typeOf aty) n) (newarray.typeOf aty) → Exa Z h' b ad → own_Fin p.tables e below Post (T'.setTop (mkF m q Ls (.ref b :: rest)))) : own_Fin p.tables e below Post (T.setTop (mkF m pc Ls st)) := by
  subst hq hs
  obtain ⟨T', h', cA, X', e', E', A', B', t⟩ := newPE X hx hZ w eT (g := mkF m pc Ls (.int n :: rest)) rfl hd rfl hn hcap hb hc hl had
  exact own_Fin.step t (k T' h' cA _ rfl X' e' E' A' B')
theorem own_nR (X : Stand p l e R s m args below meth c T locs cells slots) (hx : p.tables.exec = Jvm.exec) (hZ : Z.Warmed39 s.vm) {own C : String} {index : Nat} (hown : s.vm.findClass own = some m.cls) (w1 : (Cond.classLink own index C).before a0 Z = true) (w2 : (Cond.arrayOver (.object C)).before a0 Z = true)
    (eT : T.heap = h) (q : Nat) (hd : decode c.code pc = .ok (.anewarray index, 3)) (hq : pc + 3 = q) {n : Int32} {rest : List Value} (hs : st = .int n :: rest) (hn : ¬ n < 0) {cap : Nat} (hcap : n.toNatClampNeg ≤ cap) (hb : cap * 8 ≤ 536870912) (hc : cells + 1 ≤ R.cells) (hl : slots + cap ≤ R.slots) {ad : String} (had : "[" ++ (FieldType.object C).toString = ad)
    (k : ∀ T' h' cA b, b = h.size → Stand p l e R s m args below meth c T' locs (cells + 1) (slots + cap) → T'.heap = h' → Ext h h' → Arr Z h' b (newA cA (.object C) n) (.object C) → Exa Z h' b ad → Ovr Z cA C → own_Fin p.tables e below Post (T'.setTop (mkF m q Ls (.ref b :: rest)))) : own_Fin p.tables e below Post (T.setTop (mkF m pc Ls st)) := by
  subst hq hs
  obtain ⟨T', h', cA, X', e', E', A', B', O', t⟩ := newRE X hx hZ hown w1 w2 eT (g := mkF m pc Ls (.int n :: rest)) rfl hd rfl hn hcap hb hc hl had
  exact own_Fin.step t (k T' h' cA _ rfl X' e' E' A' B' O')
theorem own_go (q : Nat) (X : Stand p l e R s m args below meth c T locs cells slots) (hx : p.tables.exec = Jvm.exec) {o : Int} (hd : decode c.code pc = .ok (.goto o, 3)) (ho : 0 ≤ (pc : Int) + o) (hp : ((pc : Int) + o).toNat = q) (k : own_Fin p.tables e below Post (T.setTop (mkF m q Ls st))) : own_Fin p.tables e below Post (T.setTop (mkF m pc Ls st)) :=
  own_Fin.step (fun t r => XS.goto X.here hx rfl (pc0 := pc) (pc' := q) rfl hd ho hp r) k
theorem own_iY (q : Nat) (X : Stand p l e R s m args below meth c T locs cells slots) (hx : p.tables.exec = Jvm.exec) {cd : ClassFile.Cond} {x : Int32} {rest : List Value} {o : Int} (hd : decode c.code pc = .ok (.ifCond cd o, 3)) (hs : st = .int x :: rest) (hc : ifCond.holds cd x = true) (ho : 0 ≤ (pc : Int) + o) (hp : ((pc : Int) + o).toNat = q) (k : own_Fin p.tables e below Post (T.setTop (mkF m q Ls rest))) : own_Fin p.tables e below Post (T.setTop (mkF m pc Ls st)) :=
  own_Fin.step (fun t r => XS.ifYes X.here hx rfl (pc0 := pc) (pc' := q) rfl hd hs hc ho hp r) k
theorem own_iN (q : Nat) (X : Stand p l e R s m args below meth c T locs cells slots) (hx : p.tables.exec = Jvm.exec) {cd : ClassFile.Cond} {x : Int32} {rest : List Value} {o : Int} (hd : decode c.code pc = .ok (.ifCond cd o, 3)) (hs : st = .int x :: rest) (hc : ifCond.holds cd x = false) (hq : pc + 3 = q) (k : own_Fin p.tables e below Post (T.setTop (mkF m q Ls rest))) : own_Fin p.tables e below Post (T.setTop (mkF m pc Ls st)) := by
  subst hq
  exact own_Fin.step (fun t r => XS.ifNo X.here hx rfl hd hs hc r) k
theorem own_kY (q : Nat) (X : Stand p l e R s m args below meth c T locs cells slots) (hx : p.tables.exec = Jvm.exec) {cd : ClassFile.Cond} {x y : Int32} {rest : List Value} {o : Int} (hd : decode c.code pc = .ok (.if_icmp cd o, 3)) (hs : st = .int y :: .int x :: rest) (hc : if_icmp.holds cd x y = true) (ho : 0 ≤ (pc : Int) + o) (hp : ((pc : Int) + o).toNat = q) (k : own_Fin p.tables e below Post (T.setTop (mkF m q Ls rest))) : own_Fin p.tables e below Post (T.setTop (mkF m pc Ls st)) :=
  own_Fin.step (fun t r => XS.icmpYes X.here hx rfl (pc0 := pc) (pc' := q) rfl hd hs hc ho hp r) k
theorem own_kN (q : Nat) (X : Stand p l e R s m args below meth c T locs cells slots) (hx : p.tables.exec = Jvm.exec) {cd : ClassFile.Cond} {x y : Int32} {rest : List Value} {o : Int} (hd : decode c.code pc = .ok (.if_icmp cd o, 3)) (hs : st = .int y :: .int x :: rest) (hc : if_icmp.holds cd x y = false) (hq : pc + 3 = q) (k : own_Fin p.tables e below Post (T.setTop (mkF m q Ls rest))) : own_Fin p.tables e below Post (T.setTop (mkF m pc Ls st)) := by
  subst hq
  exact own_Fin.step (fun t r => XS.icmpNo X.here hx rfl hd hs hc r) k
theorem own_gF (X : Stand p l e R s m args below meth c T locs cells slots) (hx : p.tables.exec = Jvm.exec) (hZ : Z.Warmed39 s.vm) {own R0 O n d host : String} {index : Nat} (hown : s.vm.findClass own = some m.cls) (w : (Cond.fieldLink own index R0 n d).before a0 Z = true ∨ (Cond.fieldLinkNest own index R0 n d host).before a0 Z = true) (via : Via Z R0 O n d) (eT : T.heap = h) {a : Addr} {v : Value} (F : Fld Z h a O n d v) {rest : List Value} (q : Nat) (hs : st = .ref a :: rest) (hd : decode c.code pc = .ok (.getfield index, 3)) (hq : pc + 3 = q)
    (k : ∀ T', Stand p l e R s m args below meth c T' locs cells slots → T'.heap = h → own_Fin p.tables e below Post (T'.setTop (mkF m q Ls (v :: rest)))) : own_Fin p.tables e below Post (T.setTop (mkF m pc Ls st)) := by
  subst hq hs
  obtain ⟨T', a', b', t⟩ := getF X hx hZ hown w via eT F (g := mkF m pc Ls (.ref a :: rest)) rfl rfl hd
  exact own_Fin.step t (k T' a' b')
theorem own_gR (X : Stand p l e R s m args below meth c T locs cells slots) (hx : p.tables.exec = Jvm.exec) (hZ : Z.Warmed39 s.vm) {own O R0 n d : String} {index : Nat} (hown : s.vm.findClass own = some m.cls) (w : (Cond.fieldRef own index R0 n d).before a0 Z = true) (via : Via Z R0 O n d) (eT : T.heap = h) {a : Addr} {v : Value} (F : Fld Z h a O n d v) {rest : List Value} (q : Nat) (hs : st = .ref a :: rest) (hd : decode c.code pc = .ok (.getfield index, 3)) (hq : pc + 3 = q)
    (k : ∀ T', Stand p l e R s m args below meth c T' locs cells slots → T'.heap = h → own_Fin p.tables e below Post (T'.setTop (mkF m q Ls (v :: rest)))) : own_Fin p.tables e below Post (T.setTop (mkF m pc Ls st)) := by
  subst hq hs
  obtain ⟨T', a', b', t⟩ := own_getFR X hx hZ hown w via eT F (g := mkF m pc Ls (.ref a :: rest)) rfl rfl hd
  exact own_Fin.step t (k T' a' b')
theorem own_gS (X : Stand p l e R s m args below meth c T locs cells slots) (hx : p.tables.exec = Jvm.exec) (hZ : Z.Warmed39 s.vm) {own R0 O n d host : String} {index : Nat} (hown : s.vm.findClass own = some m.cls) (w : (Cond.fieldLink own index R0 n d).before a0 Z = true ∨ (Cond.fieldLinkNest own index R0 n d host).before a0 Z = true) (via : Via Z R0 O n d) (eT : T.heap = h) {v : Value} (F : Sta Z h O n d v) (q : Nat) (hd : decode c.code pc = .ok (.getstatic index, 3)) (hq : pc + 3 = q)
    (k : ∀ T', Stand p l e R s m args below meth c T' locs cells slots → T'.heap = h → own_Fin p.tables e below Post (T'.setTop (mkF m q Ls (v :: st)))) : own_Fin p.tables e below Post (T.setTop (mkF m pc Ls st)) := by
  subst hq
  obtain ⟨T', a', b', t⟩ := getS2 X hx hZ hown w via eT F (g := mkF m pc Ls st) rfl hd
  exact own_Fin.step t (k T' a' b')
theorem own_ca (X : Stand p l e R s m args below meth c T locs cells slots) (hx : p.tables.exec = Jvm.exec) (hZ : Z.Warmed39 s.vm) {own K : String} {index : Nat} (hown : s.vm.findClass own = some m.cls) (w : (Cond.classLink own index K).before a0 Z = true) (eT : T.heap = h) {a : Addr} (F : Ins Z h a K true) {rest : List Value} (q : Nat) (hs : st = .ref a :: rest) (hd : decode c.code pc = .ok (.checkcast index, 3)) (hq : pc + 3 = q)
    (k : ∀ T', Stand p l e R s m args below meth c T' locs cells slots → T'.heap = h → own_Fin p.tables e below Post (T'.setTop (mkF m q Ls (.ref a :: rest)))) : own_Fin p.tables e below Post (T.setTop (mkF m pc Ls st)) := by
  subst hq hs
  obtain ⟨T', a', b', t⟩ := castY X hx hZ hown w eT F (g := mkF m pc Ls (.ref a :: rest)) rfl rfl hd
  exact own_Fin.step t (k T' a' b')
theorem own_iO (X : Stand p l e R s m args below meth c T locs cells slots) (hx : p.tables.exec = Jvm.exec) (hZ : Z.Warmed39 s.vm) {own : String} {idx : Nat} (hown : s.vm.findClass own = some m.cls) (w1 : (Cond.methodLink own idx Lib.objectInit).before a0 Z = true) (w2 : (Cond.instanceMethod Lib.objectInit).before a0 Z = true) (w3 : (Cond.code Lib.objectInit ⟨#[0xb1]⟩ 1 none).before a0 Z = true) (eT : T.heap = h) {a : Addr} {rest : List Value} (q W : Nat) (hsz : Ls.size = c.maxLocals) (hs : st = .ref a :: rest) (hd : decode c.code pc = .ok (.invokespecial idx, 3)) (hq : pc + 3 = q) (hf : 1 ≤ R.frames) (hW : 2 * 0 + (rest.map fun v => v.category).sum = W) (hl : W + 12 ≤ R.locals)
    (k : ∀ T', Stand p l e R s m args below meth c T' locs cells slots → T'.heap = h → own_Fin p.tables e below Post (T'.setTop (mkF m q Ls (rest)))) : own_Fin p.tables e below Post (T.setTop (mkF m pc Ls st)) := by
  subst hq hs
  obtain ⟨T', a', b', t⟩ := initO X hx hZ hown w1 w2 w3 eT (g := mkF m pc Ls (.ref a :: rest)) rfl hsz rfl hd hf (W := W) (Nat.le_of_eq hW) hl
  exact own_Fin.step t (k T' a' b')
theorem own_pF (X : Stand p l e R s m args below meth c T locs cells slots) (hx : p.tables.exec = Jvm.exec) (hZ : Z.Warmed39 s.vm) {own R0 O n d host C : String} {index kk : Nat} {ty : FieldType} (hown : s.vm.findClass own = some m.cls) (w : (Cond.fieldLink own index R0 n d).before a0 Z = true ∨ (Cond.fieldLinkNest own index R0 n d host).before a0 Z = true) (via : Via Z R0 O n d) (eT : T.heap = h) {a : Addr} {v old : Value} (F : Fld Z h a O n d old) (E : Exa Z h a C) (L : (Cond.lays C O n d).before a0 Z = true ∨ ((Cond.laysFinal C O n d).before a0 Z = true ∧ own = O ∧ meth.name = "<init>")) (wi : (Cond.instantiable C kk).before a0 Z = true) (hty : parseFieldDescriptor d = some ty) (hn : narrow ty v = v) (hf : fits ty v = true) {rest : List Value} (q : Nat) (hs : st = v :: .ref a :: rest) (hd : decode c.code pc = .ok (.putfield index, 3)) (hq : pc + 3 = q)
    (k : ∀ T' h', Stand p l e R s m args below meth c T' (locs ++ [⟨a, slotOf Z O n d⟩]) cells slots → T'.heap = h' → Wr h h' a (slotOf Z O n d) v → own_Fin p.tables e below Post (T'.setTop (mkF m q Ls rest))) : own_Fin p.tables e below Post (T.setTop (mkF m pc Ls st)) := by
  subst hq hs
  obtain ⟨T', h', a', b', c', t⟩ := putF X hx hZ hown w via eT F E L wi hty hn hf (g := mkF m pc Ls (v :: .ref a :: rest)) rfl rfl hd
  exact own_Fin.step t (k T' h' a' b' c')
theorem own_pN (X : Stand p l e R s m args below meth c T locs cells slots) (hx : p.tables.exec = Jvm.exec) (hZ : Z.Warmed39 s.vm) {own R0 O n d C : String} {index kk : Nat} {ty : FieldType} (hown : s.vm.findClass own = some m.cls) (w : (Cond.fieldLink own index R0 n d).before a0 Z = true) (via : Via Z R0 O n d) (eT : T.heap = h) {a : Addr} {v v' old : Value} (F : Fld Z h a O n d old) (E : Exa Z h a C) (L : (Cond.lays C O n d).before a0 Z = true ∨ ((Cond.laysFinal C O n d).before a0 Z = true ∧ own = O ∧ meth.name = "<init>")) (wi : (Cond.instantiable C kk).before a0 Z = true) (hty : parseFieldDescriptor d = some ty) (hn : narrow ty v = v') (hf : fits ty v' = true) {rest : List Value} (q : Nat) (hs : st = v :: .ref a :: rest) (hd : decode c.code pc = .ok (.putfield index, 3)) (hq : pc + 3 = q)
    (k : ∀ T' h', Stand p l e R s m args below meth c T' (locs ++ [⟨a, slotOf Z O n d⟩]) cells slots → T'.heap = h' → Wr h h' a (slotOf Z O n d) v' → own_Fin p.tables e below Post (T'.setTop (mkF m q Ls rest))) : own_Fin p.tables e below Post (T.setTop (mkF m pc Ls st)) := by
  subst hq hs
  obtain ⟨T', h', a', b', c', t⟩ := putFN X hx hZ hown w via eT F E L wi hty hn hf (g := mkF m pc Ls (v :: .ref a :: rest)) rfl rfl hd
  exact own_Fin.step t (k T' h' a' b' c')
theorem own_pR (X : Stand p l e R s m args below meth c T locs cells slots) (hx : p.tables.exec = Jvm.exec) (hZ : Z.Warmed39 s.vm) {own O n d C : String} {index kk : Nat} {ty : FieldType} (hown : s.vm.findClass own = some m.cls) (w : (Cond.fieldRef own index O n d).before a0 Z = true) (eT : T.heap = h) {a : Addr} {v old : Value} (F : Fld Z h a O n d old) (E : Exa Z h a C) (L : (Cond.lays C O n d).before a0 Z = true) (wi : (Cond.instantiable C kk).before a0 Z = true) (hty : parseFieldDescriptor d = some ty) (hn : narrow ty v = v) (hf : fits ty v = true) {rest : List Value} (q : Nat) (hs : st = v :: .ref a :: rest) (hd : decode c.code pc = .ok (.putfield index, 3)) (hq : pc + 3 = q)
    (k : ∀ T' h', Stand p l e R s m args below meth c T' (locs ++ [⟨a, slotOf Z O n d⟩]) cells slots → T'.heap = h' → Wr h h' a (slotOf Z O n d) v → own_Fin p.tables e below Post (T'.setTop (mkF m q Ls rest))) : own_Fin p.tables e below Post (T.setTop (mkF m pc Ls st)) := by
  subst hq hs
  obtain ⟨T', h', a', b', c', t⟩ := own_putFR X hx hZ hown w eT F E L wi hty hn hf (g := mkF m pc Ls (v :: .ref a :: rest)) rfl rfl hd
  exact own_Fin.step t (k T' h' a' b' c')
theorem own_cS (X : Stand p l e R s m args below meth c T locs cells slots) (hx : p.tables.exec = Jvm.exec) (hZ : Z.Warmed39 s.vm) {own : String} {index : Nat} {y : MethodName} {bytes : ByteArray} {maxL : Nat} {ret : Option FieldType} {rm : Room} {Q : Option Value → Heap → List Loc → Prop} {as' : Array Value} (hown : s.vm.findClass own = some m.cls) (w1 : (Cond.methodLink own index y).before a0 Z = true) (w2 : (Cond.static y).before a0 Z = true) (hy : y.cls ≠ "java/lang/invoke/MethodHandle" ∧ y.cls ≠ "java/lang/invoke/VarHandle")
    (wc : (Cond.code y bytes maxL ret).before a0 Z = true) (wz : (Cond.initialized y.cls).before a0 Z = true) (hM : MetFree l y (head1 [Cond.code y bytes maxL ret] rm) (fun as U => as = as' ∧ Z.Warmed39 U.vm ∧ U.heap = h) (fun _ _ _ _ _ => True) (fun _ U o U' => ∃ v L, o = .returned v ∧ Q v U'.heap L ∧ FrameEnd U o U' L rm.cells rm.slots))
    (eT : T.heap = h) (argsL rest : List Value) (q W : Nat) (hd : decode c.code pc = .ok (.invokestatic index, 3)) (hq : pc + 3 = q) (hsz : Ls.size = c.maxLocals) (has : argsL.toArray = as') (hst : st = argsL.reverse ++ rest) (hlen : ∀ sig, parseMethodDescriptor y.desc = some sig → argsL.length = sig.parameters.length) (hW : 2 * 0 + (rest.map fun v => v.category).sum = W) (hr : (rm.frames + 1 ≤ R.frames ∧ W + (maxL + 11) + rm.locals ≤ R.locals) ∧ cells + rm.cells ≤ R.cells ∧ slots + rm.slots ≤ R.slots)
    (k : ∀ v T' L, Stand p l e R s m args below meth c T' (locs ++ L) (cells + rm.cells) (slots + rm.slots) → Q v T'.heap L → own_Fin p.tables e below Post (T'.setTop (mkF m q Ls (v.toList ++ rest)))) : own_Fin p.tables e below Post (T.setTop (mkF m pc Ls st)) := by
  subst hst hq has
  obtain ⟨v, vm1, ⟨T', L', k', n'⟩, -, X', ⟨Lc, hQ, l', y', z'⟩, t'⟩ := Jvm.LawKit.callS X hx (y := y) hown (mvT hZ w1) (mvT hZ w2) (mvT hZ wz) (mvT hZ wc) hy (backOf (W := W) hM hZ wc wz hr.1.1 hr.1.2) (g := mkF m pc Ls (argsL.reverse ++ rest)) rfl hsz (argsL := argsL) (rest := rest) hlen rfl (Nat.le_of_eq hW) hd (fun _ _ => ⟨rfl, eT, hr.2.1, hr.2.2⟩)
  dsimp only [Pt.U, Pt.locs, Pt.cells, Pt.slots] at X' l' y' z' t' hQ
  subst l' y' z'
  exact own_Fin.step t' (k v T' Lc X' hQ)
theorem own_cN (X : Stand p l e R s m args below meth c T locs cells slots) (hx : p.tables.exec = Jvm.exec) (hZ : Z.Warmed39 s.vm) {own : String} {index : Nat} {y : MethodName} {bytes : ByteArray} {maxL : Nat} {rm : Room} {Q : Option Value → Heap → List Loc → Prop} {as' : Array Value} {a : Addr} (hown : s.vm.findClass own = some m.cls) (hy1 : y.name = "<init>") (w1 : (Cond.methodLink own index y).before a0 Z = true) (w3 : (Cond.instanceMethod y).before a0 Z = true) (hy : y.cls ≠ "java/lang/invoke/MethodHandle" ∧ y.cls ≠ "java/lang/invoke/VarHandle")
    (wc : (Cond.code y bytes maxL none).before a0 Z = true) (wz : (Cond.initialized y.cls).before a0 Z = true) (hM : MetFree l y (head1 [Cond.code y bytes maxL none] rm) (fun as U => as = as' ∧ Z.Warmed39 U.vm ∧ U.heap = h) (fun _ _ _ _ _ => True) (fun _ U o U' => ∃ v L, o = .returned v ∧ Q v U'.heap L ∧ FrameEnd U o U' L rm.cells rm.slots))
    (eT : T.heap = h) (argsL rest : List Value) (q W : Nat) (hd : decode c.code pc = .ok (.invokespecial index, 3)) (hq : pc + 3 = q) (hsz : Ls.size = c.maxLocals) (has : (.ref a :: argsL).toArray = as') (hst : st = argsL.reverse ++ .ref a :: rest) (hlen : ∀ sig, parseMethodDescriptor y.desc = some sig → argsL.length = sig.parameters.length) (hW : 2 * 0 + (rest.map fun v => v.category).sum = W) (hr : (rm.frames + 1 ≤ R.frames ∧ W + (maxL + 11) + rm.locals ≤ R.locals) ∧ cells + rm.cells ≤ R.cells ∧ slots + rm.slots ≤ R.slots)
    (k : ∀ v T' L, Stand p l e R s m args below meth c T' (locs ++ L) (cells + rm.cells) (slots + rm.slots) → Q v T'.heap L → own_Fin p.tables e below Post (T'.setTop (mkF m q Ls (v.toList ++ rest)))) : own_Fin p.tables e below Post (T.setTop (mkF m pc Ls st)) := by
  subst hst hq has
  obtain ⟨v, vm1, ⟨T', L', k', n'⟩, -, X', ⟨Lc, hQ, l', y', z'⟩, t'⟩ := X.specialBack hx (y := y) hy1 hown (mvT hZ w1) (mvT hZ w3) (mvT hZ wc) hy (backOf (W := W) hM hZ wc wz hr.1.1 hr.1.2) (g := mkF m pc Ls (argsL.reverse ++ .ref a :: rest)) rfl hsz (Steps.refl _) (a := a) (argsL := argsL) (rest := rest) hlen rfl (Nat.le_of_eq hW) hd (fun _ _ => ⟨rfl, eT, hr.2.1, hr.2.2⟩)
  dsimp only [Pt.U, Pt.locs, Pt.cells, Pt.slots] at X' l' y' z' t' hQ
  subst l' y' z'
  exact own_Fin.trans t' (k v T' Lc X' hQ)
theorem own_cV (X : Stand p l e R s m args below meth c T locs cells slots) (hx : p.tables.exec = Jvm.exec) (hZ : Z.Warmed39 s.vm) {own : String} {C : String} {index : Nat} {x y : MethodName} {bytes : ByteArray} {maxL : Nat} {ret : Option FieldType} {rm : Room} {Q : Option Value → Heap → List Loc → Prop} {as' : Array Value} {a : Addr} (hown : s.vm.findClass own = some m.cls) (w1 : (Cond.methodLink own index x).before a0 Z = true) (w2 : (Cond.declares x).before a0 Z = true) (nf : NotFace s x) (w4 : (Cond.selects C x y).before a0 Z = true) (w3 : (Cond.instanceMethod y).before a0 Z = true) (hy : x.cls ≠ "java/lang/invoke/MethodHandle" ∧ x.cls ≠ "java/lang/invoke/VarHandle")
    (wc : (Cond.code y bytes maxL ret).before a0 Z = true) (wz : (Cond.initialized y.cls).before a0 Z = true) (hM : MetFree l y (head1 [Cond.code y bytes maxL ret] rm) (fun as U => as = as' ∧ Z.Warmed39 U.vm ∧ U.heap = h) (fun _ _ _ _ _ => True) (fun _ U o U' => ∃ v L, o = .returned v ∧ Q v U'.heap L ∧ FrameEnd U o U' L rm.cells rm.slots))
    (eT : T.heap = h) (E : Exa Z h a C) (argsL rest : List Value) (q W : Nat) (hd : decode c.code pc = .ok (.invokevirtual index, 3)) (hq : pc + 3 = q) (hsz : Ls.size = c.maxLocals) (has : (.ref a :: argsL).toArray = as') (hst : st = argsL.reverse ++ .ref a :: rest) (hlen : ∀ sig, parseMethodDescriptor x.desc = some sig → argsL.length = sig.parameters.length) (hW : 2 * 0 + (rest.map fun v => v.category).sum = W) (hr : (rm.frames + 1 ≤ R.frames ∧ W + (maxL + 11) + rm.locals ≤ R.locals) ∧ cells + rm.cells ≤ R.cells ∧ slots + rm.slots ≤ R.slots)
    (k : ∀ v T' L, Stand p l e R s m args below meth c T' (locs ++ L) (cells + rm.cells) (slots + rm.slots) → Q v T'.heap L → own_Fin p.tables e below Post (T'.setTop (mkF m q Ls (v.toList ++ rest)))) : own_Fin p.tables e below Post (T.setTop (mkF m pc Ls st)) := by
  subst hst hq has
  obtain ⟨cB, kB, q1, q2, q3⟩ := isOf hZ eT E
  obtain ⟨v, vm1, ⟨T', L', k', n'⟩, -, X', ⟨Lc, hQ, l', y', z'⟩, t'⟩ := X.virtualBack hx (y := x) (z := y) hown (mvT hZ w1) (mvT hZ w2) nf (mvT hZ w4) (mvT hZ w3) hy (backOf (W := W) hM hZ wc wz hr.1.1 hr.1.2) q1 q3 (g := mkF m pc Ls (argsL.reverse ++ .ref a :: rest)) rfl hsz (Steps.refl _) (argsL := argsL) (rest := rest) hlen rfl (Nat.le_of_eq hW) hd (fun _ _ => ⟨rfl, eT, hr.2.1, hr.2.2⟩)
  dsimp only [Pt.U, Pt.locs, Pt.cells, Pt.slots] at X' l' y' z' t' hQ
  subst l' y' z'
  exact own_Fin.trans t' (k v T' Lc X' hQ)
theorem own_cI (X : Stand p l e R s m args below meth c T locs cells slots) (hx : p.tables.exec = Jvm.exec) (hZ : Z.Warmed39 s.vm) {own : String} {C : String} {index count : Nat} {xi y : MethodName} {bytes : ByteArray} {maxL : Nat} {ret : Option FieldType} {rm : Room} {Q : Option Value → Heap → List Loc → Prop} {as' : Array Value} {a : Addr} (hown : s.vm.findClass own = some m.cls) (w1 : (Cond.methodLink own index xi).before a0 Z = true) (w2 : (Cond.declares xi).before a0 Z = true) (w5 : (Cond.interfaceMethod xi.cls xi.cls xi.name xi.desc).before args s = true) (w4 : (Cond.selects C xi y).before a0 Z = true) (w3 : (Cond.instanceMethod y).before a0 Z = true) (w6 : (Cond.publicMethod y).before a0 Z = true) (w7 : (Cond.unhidden C xi.name xi.desc).before a0 Z = true) (w8 : (Cond.castable C xi.cls).before a0 Z = true) (hy : xi.cls ≠ "java/lang/invoke/MethodHandle" ∧ xi.cls ≠ "java/lang/invoke/VarHandle")
    (wc : (Cond.code y bytes maxL ret).before a0 Z = true) (wz : (Cond.initialized y.cls).before a0 Z = true) (hM : MetFree l y (head1 [Cond.code y bytes maxL ret] rm) (fun as U => as = as' ∧ Z.Warmed39 U.vm ∧ U.heap = h) (fun _ _ _ _ _ => True) (fun _ U o U' => ∃ v L, o = .returned v ∧ Q v U'.heap L ∧ FrameEnd U o U' L rm.cells rm.slots))
    (eT : T.heap = h) (E : Exa Z h a C) (argsL rest : List Value) (q W : Nat) (hd : decode c.code pc = .ok (.invokeinterface index count, 5)) (hq : pc + 5 = q) (hsz : Ls.size = c.maxLocals) (has : (.ref a :: argsL).toArray = as') (hst : st = argsL.reverse ++ .ref a :: rest) (hlen : ∀ sig, parseMethodDescriptor xi.desc = some sig → argsL.length = sig.parameters.length) (hW : 2 * 0 + (rest.map fun v => v.category).sum = W) (hr : (rm.frames + 1 ≤ R.frames ∧ W + (maxL + 11) + rm.locals ≤ R.locals) ∧ cells + rm.cells ≤ R.cells ∧ slots + rm.slots ≤ R.slots)
    (k : ∀ v T' L, Stand p l e R s m args below meth c T' (locs ++ L) (cells + rm.cells) (slots + rm.slots) → Q v T'.heap L → own_Fin p.tables e below Post (T'.setTop (mkF m q Ls (v.toList ++ rest)))) : own_Fin p.tables e below Post (T.setTop (mkF m pc Ls st)) := by
  subst hst hq has
  obtain ⟨cB, kB, q1, q2, q3⟩ := isOf hZ eT E
  obtain ⟨v, vm1, ⟨T', L', k', n'⟩, -, X', ⟨Lc, hQ, l', y', z'⟩, t'⟩ := X.interfaceBack hx (xi := xi) (y := y) hown (mvT hZ w1) (mvT hZ w2) w5 (mvT hZ w4) (mvT hZ w3) (mvT hZ w6) (mvT hZ w7) (mvT hZ w8) hy (backOf (W := W) hM hZ wc wz hr.1.1 hr.1.2) q1 q2 q3 (g := mkF m pc Ls (argsL.reverse ++ .ref a :: rest)) rfl hsz (Steps.refl _) (argsL := argsL) (rest := rest) hlen rfl (Nat.le_of_eq hW) hd (fun _ _ => ⟨rfl, eT, hr.2.1, hr.2.2⟩)
  dsimp only [Pt.U, Pt.locs, Pt.cells, Pt.slots] at X' l' y' z' t' hQ
  subst l' y' z'
  exact own_Fin.trans t' (k v T' Lc X' hQ)
theorem own_cG (X : Stand p l e R s m args below meth c T locs cells slots) (hx : p.tables.exec = Jvm.exec) (hZ : Z.Warmed39 s.vm) {own : String} {C D : String} {index : Nat} {y : MethodName} {bytes : ByteArray} {maxL : Nat} {ret : Option FieldType} {rm : Room} {Q : Option Value → Heap → List Loc → Prop} {as' : Array Value} {a : Addr} (hown : s.vm.findClass own = some m.cls) (w1 : (Cond.methodLink own index y).before a0 Z = true) (w3 : (Cond.instanceMethod y).before a0 Z = true) (hsel : (Cond.selects D y y).before args s = true) (w6 : (Cond.privateMethod y).before a0 Z = true) (hy : y.cls ≠ "java/lang/invoke/MethodHandle" ∧ y.cls ≠ "java/lang/invoke/VarHandle")
    (wc : (Cond.code y bytes maxL ret).before a0 Z = true) (wz : (Cond.initialized y.cls).before a0 Z = true) (hM : MetFree l y (head1 [Cond.code y bytes maxL ret] rm) (fun as U => as = as' ∧ Z.Warmed39 U.vm ∧ U.heap = h) (fun _ _ _ _ _ => True) (fun _ U o U' => ∃ v L, o = .returned v ∧ Q v U'.heap L ∧ FrameEnd U o U' L rm.cells rm.slots))
    (eT : T.heap = h) (E : Exa Z h a C) (argsL rest : List Value) (q W : Nat) (hd : decode c.code pc = .ok (.invokevirtual index, 3)) (hq : pc + 3 = q) (hsz : Ls.size = c.maxLocals) (has : (.ref a :: argsL).toArray = as') (hst : st = argsL.reverse ++ .ref a :: rest) (hlen : ∀ sig, parseMethodDescriptor y.desc = some sig → argsL.length = sig.parameters.length) (hW : 2 * 0 + (rest.map fun v => v.category).sum = W) (hr : (rm.frames + 1 ≤ R.frames ∧ W + (maxL + 11) + rm.locals ≤ R.locals) ∧ cells + rm.cells ≤ R.cells ∧ slots + rm.slots ≤ R.slots)
    (k : ∀ v T' L, Stand p l e R s m args below meth c T' (locs ++ L) (cells + rm.cells) (slots + rm.slots) → Q v T'.heap L → own_Fin p.tables e below Post (T'.setTop (mkF m q Ls (v.toList ++ rest)))) : own_Fin p.tables e below Post (T.setTop (mkF m pc Ls st)) := by
  subst hst hq has
  obtain ⟨cq, q1, q2⟩ := E.cell
  obtain ⟨v, vm1, ⟨T', L', k', n'⟩, -, X', ⟨Lc, hQ, l', y', z'⟩, t'⟩ := own_privG X hx (y := y) hown (mvT hZ w1) (mvT hZ w3) hsel (Cond.privateMethod_at (mvP hZ w6 (args := #[]))) (own_sigC (args := args) (mvT hZ wc)) hy (backOf (W := W) hM hZ wc wz hr.1.1 hr.1.2) (g := mkF m pc Ls (argsL.reverse ++ .ref a :: rest)) rfl hsz (Steps.refl _) (a := a) (by rw [eT]; exact q1) q2 (argsL := argsL) (rest := rest) hlen rfl (Nat.le_of_eq hW) hd (fun _ _ => ⟨rfl, eT, hr.2.1, hr.2.2⟩)
  dsimp only [Pt.U, Pt.locs, Pt.cells, Pt.slots] at X' l' y' z' t' hQ
  subst l' y' z'
  exact own_Fin.trans t' (k v T' Lc X' hQ)
theorem own_cY (X : Stand p l e R s m args below meth c T locs cells slots) (hx : p.tables.exec = Jvm.exec) (hZ : Z.Warmed39 s.vm) {own : String} {C D : String} {index : Nat} {y : MethodName} {bytes : ByteArray} {maxL : Nat} {ret : Option FieldType} {rm : Room} {Q : Option Value → Heap → List Loc → Prop} {as' : Array Value} {a : Addr} (hown : s.vm.findClass own = some m.cls) (w1 : (Cond.methodLink own index y).before a0 Z = true) (w3 : (Cond.instanceMethod y).before a0 Z = true) (hsel : (Cond.selects D y y).before args s = true) (w6 : (Cond.privateMethod y).before a0 Z = true) (hy : y.cls ≠ "java/lang/invoke/MethodHandle" ∧ y.cls ≠ "java/lang/invoke/VarHandle")
    (wc : (Cond.codeSync y bytes maxL ret).before a0 Z = true) (wz : (Cond.initialized y.cls).before a0 Z = true) (hM : MetFree l y (head1 [Cond.codeSync y bytes maxL ret, Cond.instanceMethod y] rm) (fun as U => as = as' ∧ Z.Warmed39 U.vm ∧ U.heap = h ∧ ∃ cell : Cell, h[a]? = some cell ∧ cell.enterable U.cur) (fun _ _ _ _ _ => True) (fun _ U o U' => ∃ v L, o = .returned v ∧ Q v U'.heap L ∧ FrameEnd U o U' L rm.cells rm.slots))
    (eT : T.heap = h) (E : Exa Z h a C) (N : Unt h a) (argsL rest : List Value) (q W : Nat) (hd : decode c.code pc = .ok (.invokevirtual index, 3)) (hq : pc + 3 = q) (hsz : Ls.size = c.maxLocals) (has : (.ref a :: argsL).toArray = as') (hst : st = argsL.reverse ++ .ref a :: rest) (hlen : ∀ sig, parseMethodDescriptor y.desc = some sig → argsL.length = sig.parameters.length) (hW : 2 * 0 + (rest.map fun v => v.category).sum = W) (hr : (rm.frames + 1 ≤ R.frames ∧ W + (maxL + 11) + rm.locals ≤ R.locals) ∧ cells + rm.cells ≤ R.cells ∧ slots + rm.slots ≤ R.slots)
    (k : ∀ v T' L, Stand p l e R s m args below meth c T' (locs ++ L) (cells + rm.cells) (slots + rm.slots) → Q v T'.heap L → own_Fin p.tables e below Post (T'.setTop (mkF m q Ls (v.toList ++ rest)))) : own_Fin p.tables e below Post (T.setTop (mkF m pc Ls st)) := by
  subst hst hq has
  obtain ⟨cq, q1, q2⟩ := E.cell
  obtain ⟨v, vm1, ⟨T', L', k', n'⟩, -, X', ⟨Lc, hQ, l', y', z'⟩, t'⟩ := own_privG X hx (y := y) hown (mvT hZ w1) (mvT hZ w3) hsel (Cond.privateMethod_at (mvP hZ w6 (args := #[]))) (own_sigS (args := args) (mvT hZ wc)) hy (own_backS (W := W) hM hZ wc w3 wz N hr.1.1 hr.1.2) (g := mkF m pc Ls (argsL.reverse ++ .ref a :: rest)) rfl hsz (Steps.refl _) (a := a) (by rw [eT]; exact q1) q2 (argsL := argsL) (rest := rest) hlen rfl (Nat.le_of_eq hW) hd (fun _ _ => ⟨rfl, eT, hr.2.1, hr.2.2⟩)
  dsimp only [Pt.U, Pt.locs, Pt.cells, Pt.slots] at X' l' y' z' t' hQ
  subst l' y' z'
  exact own_Fin.trans t' (k v T' Lc X' hQ)
theorem own_cU (X : Stand p l e R s m args below meth c T locs cells slots) (hx : p.tables.exec = Jvm.exec) (hZ : Z.Warmed39 s.vm) {own : String} {C : String} {index : Nat} {y : MethodName} {bytes : ByteArray} {maxL : Nat} {ret : Option FieldType} {rm : Room} {Q : Option Value → Heap → List Loc → Prop} {as' : Array Value} {a : Addr} (hown : s.vm.findClass own = some m.cls) (w1 : (Cond.methodLink own index y).before a0 Z = true) (w2 : (Cond.sameMethod y.cls y.cls y.name y.desc).before a0 Z = true) (w3 : (Cond.instanceMethod y).before a0 Z = true) (w4 : (Cond.superclass own y.cls).before a0 Z = true) (hn : y.name ≠ "<init>") 
    (wc : (Cond.code y bytes maxL ret).before a0 Z = true) (wz : (Cond.initialized y.cls).before a0 Z = true) (hM : MetFree l y (head1 [Cond.code y bytes maxL ret] rm) (fun as U => as = as' ∧ Z.Warmed39 U.vm ∧ U.heap = h) (fun _ _ _ _ _ => True) (fun _ U o U' => ∃ v L, o = .returned v ∧ Q v U'.heap L ∧ FrameEnd U o U' L rm.cells rm.slots))
    (eT : T.heap = h) (E : Exa Z h a C) (argsL rest : List Value) (q W : Nat) (hd : decode c.code pc = .ok (.invokespecial index, 3)) (hq : pc + 3 = q) (hsz : Ls.size = c.maxLocals) (has : (.ref a :: argsL).toArray = as') (hst : st = argsL.reverse ++ .ref a :: rest) (hlen : ∀ sig, parseMethodDescriptor y.desc = some sig → argsL.length = sig.parameters.length) (hW : 2 * 0 + (rest.map fun v => v.category).sum = W) (hr : (rm.frames + 1 ≤ R.frames ∧ W + (maxL + 11) + rm.locals ≤ R.locals) ∧ cells + rm.cells ≤ R.cells ∧ slots + rm.slots ≤ R.slots)
    (k : ∀ v T' L, Stand p l e R s m args below meth c T' (locs ++ L) (cells + rm.cells) (slots + rm.slots) → Q v T'.heap L → own_Fin p.tables e below Post (T'.setTop (mkF m q Ls (v.toList ++ rest)))) : own_Fin p.tables e below Post (T.setTop (mkF m pc Ls st)) := by
  subst hst hq has
  obtain ⟨v, vm1, ⟨T', L', k', n'⟩, -, X', ⟨Lc, hQ, l', y', z'⟩, t'⟩ := superBack X hx hZ (y := y) hown w1 w2 w3 w4 hn (backOf (W := W) hM hZ wc wz hr.1.1 hr.1.2) eT (Ins.self E) (g := mkF m pc Ls (argsL.reverse ++ .ref a :: rest)) rfl hsz wc (argsL := argsL) (rest := rest) hlen rfl (Nat.le_of_eq hW) hd (fun _ _ => ⟨rfl, eT, hr.2.1, hr.2.2⟩)
  dsimp only [Pt.U, Pt.locs, Pt.cells, Pt.slots] at X' l' y' z' t' hQ
  subst l' y' z'
  exact own_Fin.trans t' (k v T' Lc X' hQ)
theorem own_cR (X : Stand p l e R s m args below meth c T locs cells slots) (hx : p.tables.exec = Jvm.exec) (hZ : Z.Warmed39 s.vm) {own : String} {C : String} {index kk : Nat} {y : MethodName} {bytes : ByteArray} {maxL : Nat} {ret : Option FieldType} {rm : Room} {Q : Option Value → Heap → List Loc → Prop} {as' : Array Value} {a : Addr} (hown : s.vm.findClass own = some m.cls) (w1 : (Cond.methodRef own index y).before a0 Z = true) (w3 : (Cond.instanceMethod y).before a0 Z = true) (w6 : (Cond.privateMethod y).before a0 Z = true) (w7 : (Cond.instantiable y.cls kk).before a0 Z = true) (hy : y.cls ≠ "java/lang/invoke/MethodHandle" ∧ y.cls ≠ "java/lang/invoke/VarHandle")
    (wc : (Cond.code y bytes maxL ret).before a0 Z = true) (wz : (Cond.initialized y.cls).before a0 Z = true) (hM : MetFree l y (head1 [Cond.code y bytes maxL ret] rm) (fun as U => as = as' ∧ Z.Warmed39 U.vm ∧ U.heap = h) (fun _ _ _ _ _ => True) (fun _ U o U' => ∃ v L, o = .returned v ∧ Q v U'.heap L ∧ FrameEnd U o U' L rm.cells rm.slots))
    (eT : T.heap = h) (E : Exa Z h a C) (argsL rest : List Value) (q W : Nat) (hd : decode c.code pc = .ok (.invokevirtual index, 3)) (hq : pc + 3 = q) (hsz : Ls.size = c.maxLocals) (has : (.ref a :: argsL).toArray = as') (hst : st = argsL.reverse ++ .ref a :: rest) (hlen : ∀ sig, parseMethodDescriptor y.desc = some sig → argsL.length = sig.parameters.length) (hW : 2 * 0 + (rest.map fun v => v.category).sum = W) (hr : (rm.frames + 1 ≤ R.frames ∧ W + (maxL + 11) + rm.locals ≤ R.locals) ∧ cells + rm.cells ≤ R.cells ∧ slots + rm.slots ≤ R.slots)
    (k : ∀ v T' L, Stand p l e R s m args below meth c T' (locs ++ L) (cells + rm.cells) (slots + rm.slots) → Q v T'.heap L → own_Fin p.tables e below Post (T'.setTop (mkF m q Ls (v.toList ++ rest)))) : own_Fin p.tables e below Post (T.setTop (mkF m pc Ls st)) := by
  subst hst hq has
  obtain ⟨cq, q1, q2⟩ := E.cell
  obtain ⟨v, vm1, ⟨T', L', k', n'⟩, -, X', ⟨Lc, hQ, l', y', z'⟩, t'⟩ := own_privR X hx hZ (y := y) hown w1 w3 w6 w7 hy (backOf (W := W) hM hZ wc wz hr.1.1 hr.1.2) (g := mkF m pc Ls (argsL.reverse ++ .ref a :: rest)) rfl hsz (Steps.refl _) (a := a) (by rw [eT]; exact q1) q2 (argsL := argsL) (rest := rest) hlen rfl (Nat.le_of_eq hW) hd wc (fun _ _ => ⟨rfl, eT, hr.2.1, hr.2.2⟩)
  dsimp only [Pt.U, Pt.locs, Pt.cells, Pt.slots] at X' l' y' z' t' hQ
  subst l' y' z'
  exact own_Fin.trans t' (k v T' Lc X' hQ)
theorem own_cRi (X : Stand p l e R s m args below meth c T locs cells slots) (hx : p.tables.exec = Jvm.exec) (hZ : Z.Warmed39 s.vm) {own : String} {index : Nat} {y : MethodName} {bytes : ByteArray} {maxL : Nat} {ret : Option FieldType} {rm : Room} {Q : Option Value → Heap → List Loc → Prop} {as' : Array Value} {a : Addr} (hown : s.vm.findClass own = some m.cls) (hy1 : y.name = "<init>") (w1 : (Cond.methodRef own index y).before a0 Z = true) (w3 : (Cond.instanceMethod y).before a0 Z = true) (hy : y.cls ≠ "java/lang/invoke/MethodHandle" ∧ y.cls ≠ "java/lang/invoke/VarHandle")
    (wc : (Cond.code y bytes maxL ret).before a0 Z = true) (wz : (Cond.initialized y.cls).before a0 Z = true) (hM : MetFree l y (head1 [Cond.code y bytes maxL ret] rm) (fun as U => as = as' ∧ Z.Warmed39 U.vm ∧ U.heap = h) (fun _ _ _ _ _ => True) (fun _ U o U' => ∃ v L, o = .returned v ∧ Q v U'.heap L ∧ FrameEnd U o U' L rm.cells rm.slots))
    (eT : T.heap = h) (argsL rest : List Value) (q W : Nat) (hd : decode c.code pc = .ok (.invokespecial index, 3)) (hq : pc + 3 = q) (hsz : Ls.size = c.maxLocals) (has : (.ref a :: argsL).toArray = as') (hst : st = argsL.reverse ++ .ref a :: rest) (hlen : ∀ sig, parseMethodDescriptor y.desc = some sig → argsL.length = sig.parameters.length) (hW : 2 * 0 + (rest.map fun v => v.category).sum = W) (hr : (rm.frames + 1 ≤ R.frames ∧ W + (maxL + 11) + rm.locals ≤ R.locals) ∧ cells + rm.cells ≤ R.cells ∧ slots + rm.slots ≤ R.slots)
    (k : ∀ v T' L, Stand p l e R s m args below meth c T' (locs ++ L) (cells + rm.cells) (slots + rm.slots) → Q v T'.heap L → own_Fin p.tables e below Post (T'.setTop (mkF m q Ls (v.toList ++ rest)))) : own_Fin p.tables e below Post (T.setTop (mkF m pc Ls st)) := by
  subst hst hq has
  obtain ⟨v, vm1, ⟨T', L', k', n'⟩, -, X', ⟨Lc, hQ, l', y', z'⟩, t'⟩ := own_initR X hx hZ (y := y) hy1 hown w1 w3 hy (backOf (W := W) hM hZ wc wz hr.1.1 hr.1.2) (g := mkF m pc Ls (argsL.reverse ++ .ref a :: rest)) rfl hsz (Steps.refl _) (a := a) (argsL := argsL) (rest := rest) hlen rfl (Nat.le_of_eq hW) hd wc (fun _ _ => ⟨rfl, eT, hr.2.1, hr.2.2⟩)
  dsimp only [Pt.U, Pt.locs, Pt.cells, Pt.slots] at X' l' y' z' t' hQ
  subst l' y' z'
  exact own_Fin.trans t' (k v T' Lc X' hQ)
theorem own_nS {a x : Addr} {xs : List Addr} (q : @Ne Nat a x) (k : a ∉ xs) : a ∉ x :: xs := ninS q k
theorem own_aL (X : Stand p l e R s m args below meth c T locs cells slots) (hx : p.tables.exec = Jvm.exec) (hZ : Z.Warmed39 s.vm) (eT : T.heap = h) {a : Addr} {kc : ClassId} {ty : FieldType} {z : Int32} {vs : List Value} {dv : Value} (F : Arv Z h a kc ty z vs dv) {rest : List Value} (q : Nat) (hs : st = .ref a :: rest) (hd : decode c.code pc = .ok (.arraylength, 1)) (hq : pc + 1 = q) (k : own_Fin p.tables e below Post (T.setTop (mkF m q Ls (.int z :: rest)))) : own_Fin p.tables e below Post (T.setTop (mkF m pc Ls st)) := by
  subst hq hs
  obtain ⟨cl, Ar, q1, S, N, Hs, G⟩ := F
  refine own_Fin.step (X.arraylength hx (by rw [eT]; exact Ar.1) (State.isArrayOf_alike hZ.alike Ar.2.1) (g := mkF m pc Ls (.ref a :: rest)) rfl rfl hd) ?_
  rw [len_of S N]
  exact k
theorem own_bL (X : Stand p l e R s m args below meth c T locs cells slots) (hx : p.tables.exec = Jvm.exec) (hZ : Z.Warmed39 s.vm) (eT : T.heap = h) {a : Addr} {kc : ClassId} {z : Int32} {vs : List Value} {dv : Value} (F : Arv Z h a kc .byte z vs dv) {j x : Int32} {rest : List Value} (q : Nat) (hs : st = .int j :: .ref a :: rest) (hd : decode c.code pc = .ok (.baload, 1)) (hq : pc + 1 = q) (hin : ¬ j < 0 ∧ j < z) (hv : vs.getD j.toNatClampNeg dv = .int x) (k : own_Fin p.tables e below Post (T.setTop (mkF m q Ls (.int x :: rest)))) : own_Fin p.tables e below Post (T.setTop (mkF m pc Ls st)) := by
  subst hq hs
  obtain ⟨cl, Ar, q1, S, N, Hs, G⟩ := F
  have h1 := inb_of S hin
  exact own_Fin.step (X.baloadBytes hx (j := j) (v := .int x) (by rw [eT]; exact Ar.1) (State.isArrayOf_alike hZ.alike Ar.2.1) Ar.2.2 h1 (Hs.at h1 hv) (g := mkF m pc Ls (.int j :: .ref a :: rest)) rfl rfl hd) k
theorem own_ne {a b : Addr} (q : @Ne Nat a b) : a ≠ b := q
end Cps
end Jvm.RoadKit
namespace Jvm.RoadKit
open Sem ClassFile Op Lib Jvm.Stand Jvm.Free Jvm.LawKit
section Run
variable {p : Program} {l : Launch} {e : Env} {R : Room} {s : State} {m : MethodId} {args : Array Value} {below : List Frame} {meth : Method} {c : Code} {T : State} {locs : List Loc} {cells slots : Nat} {Post : Outcome → State → Prop} {pc q : Nat} {Ls Ls' : Array Slot} {st st' : List Value}
def own_x_iload (k : Nat) (Ls : Array Slot) (st : List Value) : Option (Array Slot × List Value) := match Ls[k]? with | some (.val (.int v)) => (some (Ls, .int v :: st)) | _ => none
theorem own_x_iload_s (X : Stand p l e R s m args below meth c T locs cells slots) (hx : p.tables.exec = Jvm.exec) {k : Nat} (hd : decode c.code pc = .ok (.iload k, 2)) (h : own_x_iload k Ls st = some (Ls', st')) (t : State) (r : Steps p.tables e below (T.setTop (mkF m (pc + 2) Ls' st')) t) : Steps p.tables e below (T.setTop (mkF m pc Ls st)) t := by
  unfold own_x_iload at h
  split at h
  · rename_i hv
    cases h
    exact XS.iload X.here hx rfl hd hv r
  · cases h
def own_x_iload_n (k : Fin 4) (Ls : Array Slot) (st : List Value) : Option (Array Slot × List Value) := match Ls[k.val]? with | some (.val (.int v)) => (some (Ls, .int v :: st)) | _ => none
theorem own_x_iload_n_s (X : Stand p l e R s m args below meth c T locs cells slots) (hx : p.tables.exec = Jvm.exec) {k : Fin 4} (hd : decode c.code pc = .ok (.iload_n k, 1)) (h : own_x_iload_n k Ls st = some (Ls', st')) (t : State) (r : Steps p.tables e below (T.setTop (mkF m (pc + 1) Ls' st')) t) : Steps p.tables e below (T.setTop (mkF m pc Ls st)) t := by
  unfold own_x_iload_n at h
  split at h
  · rename_i hv
    cases h
    exact XS.iloadN X.here hx rfl hd hv r
  · cases h
def own_x_lload (k : Nat) (Ls : Array Slot) (st : List Value) : Option (Array Slot × List Value) := match Ls[k]? with | some (.val (.long v)) => (some (Ls, .long v :: st)) | _ => none
theorem own_x_lload_s (X : Stand p l e R s m args below meth c T locs cells slots) (hx : p.tables.exec = Jvm.exec) {k : Nat} (hd : decode c.code pc = .ok (.lload k, 2)) (h : own_x_lload k Ls st = some (Ls', st')) (t : State) (r : Steps p.tables e below (T.setTop (mkF m (pc + 2) Ls' st')) t) : Steps p.tables e below (T.setTop (mkF m pc Ls st)) t := by
  unfold own_x_lload at h
  split at h
  · rename_i hv
    cases h
    exact XS.lload X.here hx rfl hd hv r
  · cases h
def own_x_lload_n (k : Fin 4) (Ls : Array Slot) (st : List Value) : Option (Array Slot × List Value) := match Ls[k.val]? with | some (.val (.long v)) => (some (Ls, .long v :: st)) | _ => none
theorem own_x_lload_n_s (X : Stand p l e R s m args below meth c T locs cells slots) (hx : p.tables.exec = Jvm.exec) {k : Fin 4} (hd : decode c.code pc = .ok (.lload_n k, 1)) (h : own_x_lload_n k Ls st = some (Ls', st')) (t : State) (r : Steps p.tables e below (T.setTop (mkF m (pc + 1) Ls' st')) t) : Steps p.tables e below (T.setTop (mkF m pc Ls st)) t := by
  unfold own_x_lload_n at h
  split at h
  · rename_i hv
    cases h
    exact XS.lloadN X.here hx rfl hd hv r
  · cases h
def own_x_aload (k : Nat) (Ls : Array Slot) (st : List Value) : Option (Array Slot × List Value) := match Ls[k]? with | some (.val (.ref v)) => (some (Ls, .ref v :: st)) | some (.val .null) => (some (Ls, .null :: st)) | _ => none
theorem own_x_aload_s (X : Stand p l e R s m args below meth c T locs cells slots) (hx : p.tables.exec = Jvm.exec) {k : Nat} (hd : decode c.code pc = .ok (.aload k, 2)) (h : own_x_aload k Ls st = some (Ls', st')) (t : State) (r : Steps p.tables e below (T.setTop (mkF m (pc + 2) Ls' st')) t) : Steps p.tables e below (T.setTop (mkF m pc Ls st)) t := by
  unfold own_x_aload at h
  split at h
  · rename_i hv
    cases h
    exact XS.aload X.here hx rfl hd hv rfl r
  · rename_i hv
    cases h
    exact XS.aload X.here hx rfl hd hv rfl r
  · cases h
def own_x_aload_n (k : Fin 4) (Ls : Array Slot) (st : List Value) : Option (Array Slot × List Value) := match Ls[k.val]? with | some (.val (.ref v)) => (some (Ls, .ref v :: st)) | some (.val .null) => (some (Ls, .null :: st)) | _ => none
theorem own_x_aload_n_s (X : Stand p l e R s m args below meth c T locs cells slots) (hx : p.tables.exec = Jvm.exec) {k : Fin 4} (hd : decode c.code pc = .ok (.aload_n k, 1)) (h : own_x_aload_n k Ls st = some (Ls', st')) (t : State) (r : Steps p.tables e below (T.setTop (mkF m (pc + 1) Ls' st')) t) : Steps p.tables e below (T.setTop (mkF m pc Ls st)) t := by
  unfold own_x_aload_n at h
  split at h
  · rename_i hv
    cases h
    exact XS.aloadN X.here hx rfl hd hv rfl r
  · rename_i hv
    cases h
    exact XS.aloadN X.here hx rfl hd hv rfl r
  · cases h
def own_x_istore (k : Nat) (Ls : Array Slot) (st : List Value) : Option (Array Slot × List Value) := match st with | .int v :: rest => (match storeLocals Ls k (.int v) with | some l' => some (l', rest) | none => none) | _ => none
theorem own_x_istore_s (X : Stand p l e R s m args below meth c T locs cells slots) (hx : p.tables.exec = Jvm.exec) {k : Nat} (hd : decode c.code pc = .ok (.istore k, 2)) (h : own_x_istore k Ls st = some (Ls', st')) (t : State) (r : Steps p.tables e below (T.setTop (mkF m (pc + 2) Ls' st')) t) : Steps p.tables e below (T.setTop (mkF m pc Ls st)) t := by
  unfold own_x_istore at h
  split at h
  · split at h
    · rename_i ho
      cases h
      exact XS.istore X.here hx rfl hd rfl ho r
    · cases h
  · cases h
def own_x_istore_n (k : Fin 4) (Ls : Array Slot) (st : List Value) : Option (Array Slot × List Value) := match st with | .int v :: rest => (match storeLocals Ls k.val (.int v) with | some l' => some (l', rest) | none => none) | _ => none
theorem own_x_istore_n_s (X : Stand p l e R s m args below meth c T locs cells slots) (hx : p.tables.exec = Jvm.exec) {k : Fin 4} (hd : decode c.code pc = .ok (.istore_n k, 1)) (h : own_x_istore_n k Ls st = some (Ls', st')) (t : State) (r : Steps p.tables e below (T.setTop (mkF m (pc + 1) Ls' st')) t) : Steps p.tables e below (T.setTop (mkF m pc Ls st)) t := by
  unfold own_x_istore_n at h
  split at h
  · split at h
    · rename_i ho
      cases h
      exact XS.istoreN X.here hx rfl hd rfl ho r
    · cases h
  · cases h
def own_x_lstore (k : Nat) (Ls : Array Slot) (st : List Value) : Option (Array Slot × List Value) := match st with | .long v :: rest => (match storeLocals Ls k (.long v) with | some l' => some (l', rest) | none => none) | _ => none
theorem own_x_lstore_s (X : Stand p l e R s m args below meth c T locs cells slots) (hx : p.tables.exec = Jvm.exec) {k : Nat} (hd : decode c.code pc = .ok (.lstore k, 2)) (h : own_x_lstore k Ls st = some (Ls', st')) (t : State) (r : Steps p.tables e below (T.setTop (mkF m (pc + 2) Ls' st')) t) : Steps p.tables e below (T.setTop (mkF m pc Ls st)) t := by
  unfold own_x_lstore at h
  split at h
  · split at h
    · rename_i ho
      cases h
      exact XS.lstore X.here hx rfl hd rfl ho r
    · cases h
  · cases h
def own_x_lstore_n (k : Fin 4) (Ls : Array Slot) (st : List Value) : Option (Array Slot × List Value) := match st with | .long v :: rest => (match storeLocals Ls k.val (.long v) with | some l' => some (l', rest) | none => none) | _ => none
theorem own_x_lstore_n_s (X : Stand p l e R s m args below meth c T locs cells slots) (hx : p.tables.exec = Jvm.exec) {k : Fin 4} (hd : decode c.code pc = .ok (.lstore_n k, 1)) (h : own_x_lstore_n k Ls st = some (Ls', st')) (t : State) (r : Steps p.tables e below (T.setTop (mkF m (pc + 1) Ls' st')) t) : Steps p.tables e below (T.setTop (mkF m pc Ls st)) t := by
  unfold own_x_lstore_n at h
  split at h
  · split at h
    · rename_i ho
      cases h
      exact XS.lstoreN X.here hx rfl hd rfl ho r
    · cases h
  · cases h
def own_x_astore (k : Nat) (Ls : Array Slot) (st : List Value) : Option (Array Slot × List Value) := match st with | .ref v :: rest => (match storeLocals Ls k (.ref v) with | some l' => some (l', rest) | none => none) | .null :: rest => (match storeLocals Ls k (.null) with | some l' => some (l', rest) | none => none) | _ => none
theorem own_x_astore_s (X : Stand p l e R s m args below meth c T locs cells slots) (hx : p.tables.exec = Jvm.exec) {k : Nat} (hd : decode c.code pc = .ok (.astore k, 2)) (h : own_x_astore k Ls st = some (Ls', st')) (t : State) (r : Steps p.tables e below (T.setTop (mkF m (pc + 2) Ls' st')) t) : Steps p.tables e below (T.setTop (mkF m pc Ls st)) t := by
  unfold own_x_astore at h
  split at h
  · split at h
    · rename_i ho
      cases h
      exact XS.astore X.here hx rfl hd rfl rfl ho r
    · cases h
  · split at h
    · rename_i ho
      cases h
      exact XS.astore X.here hx rfl hd rfl rfl ho r
    · cases h
  · cases h
def own_x_astore_n (k : Fin 4) (Ls : Array Slot) (st : List Value) : Option (Array Slot × List Value) := match st with | .ref v :: rest => (match storeLocals Ls k.val (.ref v) with | some l' => some (l', rest) | none => none) | .null :: rest => (match storeLocals Ls k.val (.null) with | some l' => some (l', rest) | none => none) | _ => none
theorem own_x_astore_n_s (X : Stand p l e R s m args below meth c T locs cells slots) (hx : p.tables.exec = Jvm.exec) {k : Fin 4} (hd : decode c.code pc = .ok (.astore_n k, 1)) (h : own_x_astore_n k Ls st = some (Ls', st')) (t : State) (r : Steps p.tables e below (T.setTop (mkF m (pc + 1) Ls' st')) t) : Steps p.tables e below (T.setTop (mkF m pc Ls st)) t := by
  unfold own_x_astore_n at h
  split at h
  · split at h
    · rename_i ho
      cases h
      exact XS.astoreN X.here hx rfl hd rfl rfl ho r
    · cases h
  · split at h
    · rename_i ho
      cases h
      exact XS.astoreN X.here hx rfl hd rfl rfl ho r
    · cases h
  · cases h
def own_x_iconst (i : Int) (Ls : Array Slot) (st : List Value) : Option (Array Slot × List Value) := some (Ls, .int (Int32.ofInt i) :: st)
theorem own_x_iconst_s (X : Stand p l e R s m args below meth c T locs cells slots) (hx : p.tables.exec = Jvm.exec) {i : Int} (hd : decode c.code pc = .ok (.iconst i, 1)) (h : own_x_iconst i Ls st = some (Ls', st')) (t : State) (r : Steps p.tables e below (T.setTop (mkF m (pc + 1) Ls' st')) t) : Steps p.tables e below (T.setTop (mkF m pc Ls st)) t := by
  unfold own_x_iconst at h
  cases h
  exact XS.iconst X.here hx rfl hd r
def own_x_bipush (i : Int) (Ls : Array Slot) (st : List Value) : Option (Array Slot × List Value) := some (Ls, .int (Int8.ofInt i).toInt32 :: st)
theorem own_x_bipush_s (X : Stand p l e R s m args below meth c T locs cells slots) (hx : p.tables.exec = Jvm.exec) {i : Int} (hd : decode c.code pc = .ok (.bipush i, 2)) (h : own_x_bipush i Ls st = some (Ls', st')) (t : State) (r : Steps p.tables e below (T.setTop (mkF m (pc + 2) Ls' st')) t) : Steps p.tables e below (T.setTop (mkF m pc Ls st)) t := by
  unfold own_x_bipush at h
  cases h
  exact XS.bipush X.here hx rfl hd r
def own_x_sipush (i : Int) (Ls : Array Slot) (st : List Value) : Option (Array Slot × List Value) := some (Ls, .int (Int16.ofInt i).toInt32 :: st)
theorem own_x_sipush_s (X : Stand p l e R s m args below meth c T locs cells slots) (hx : p.tables.exec = Jvm.exec) {i : Int} (hd : decode c.code pc = .ok (.sipush i, 3)) (h : own_x_sipush i Ls st = some (Ls', st')) (t : State) (r : Steps p.tables e below (T.setTop (mkF m (pc + 3) Ls' st')) t) : Steps p.tables e below (T.setTop (mkF m pc Ls st)) t := by
  unfold own_x_sipush at h
  cases h
  exact XS.sipush X.here hx rfl hd r
def own_x_aconst_null (Ls : Array Slot) (st : List Value) : Option (Array Slot × List Value) := some (Ls, .null :: st)
theorem own_x_aconst_null_s (X : Stand p l e R s m args below meth c T locs cells slots) (hx : p.tables.exec = Jvm.exec) (hd : decode c.code pc = .ok (.aconst_null, 1)) (h : own_x_aconst_null Ls st = some (Ls', st')) (t : State) (r : Steps p.tables e below (T.setTop (mkF m (pc + 1) Ls' st')) t) : Steps p.tables e below (T.setTop (mkF m pc Ls st)) t := by
  unfold own_x_aconst_null at h
  cases h
  exact XS.aconstNull X.here hx rfl hd r
def own_x_iadd (Ls : Array Slot) (st : List Value) : Option (Array Slot × List Value) := match st with | .int y :: .int x :: rest => (some (Ls, .int (x + y) :: rest)) | _ => none
theorem own_x_iadd_s (X : Stand p l e R s m args below meth c T locs cells slots) (hx : p.tables.exec = Jvm.exec) (hd : decode c.code pc = .ok (.iadd, 1)) (h : own_x_iadd Ls st = some (Ls', st')) (t : State) (r : Steps p.tables e below (T.setTop (mkF m (pc + 1) Ls' st')) t) : Steps p.tables e below (T.setTop (mkF m pc Ls st)) t := by
  unfold own_x_iadd at h
  split at h
  · cases h
    exact XS.iadd X.here hx rfl hd rfl r
  · cases h
def own_x_isub (Ls : Array Slot) (st : List Value) : Option (Array Slot × List Value) := match st with | .int y :: .int x :: rest => (some (Ls, .int (x - y) :: rest)) | _ => none
theorem own_x_isub_s (X : Stand p l e R s m args below meth c T locs cells slots) (hx : p.tables.exec = Jvm.exec) (hd : decode c.code pc = .ok (.isub, 1)) (h : own_x_isub Ls st = some (Ls', st')) (t : State) (r : Steps p.tables e below (T.setTop (mkF m (pc + 1) Ls' st')) t) : Steps p.tables e below (T.setTop (mkF m pc Ls st)) t := by
  unfold own_x_isub at h
  split at h
  · cases h
    exact XS.isub X.here hx rfl hd rfl r
  · cases h
def own_x_imul (Ls : Array Slot) (st : List Value) : Option (Array Slot × List Value) := match st with | .int y :: .int x :: rest => (some (Ls, .int (x * y) :: rest)) | _ => none
theorem own_x_imul_s (X : Stand p l e R s m args below meth c T locs cells slots) (hx : p.tables.exec = Jvm.exec) (hd : decode c.code pc = .ok (.imul, 1)) (h : own_x_imul Ls st = some (Ls', st')) (t : State) (r : Steps p.tables e below (T.setTop (mkF m (pc + 1) Ls' st')) t) : Steps p.tables e below (T.setTop (mkF m pc Ls st)) t := by
  unfold own_x_imul at h
  split at h
  · cases h
    exact XS.imul X.here hx rfl hd rfl r
  · cases h
def own_x_iand (Ls : Array Slot) (st : List Value) : Option (Array Slot × List Value) := match st with | .int y :: .int x :: rest => (some (Ls, .int (x &&& y) :: rest)) | _ => none
theorem own_x_iand_s (X : Stand p l e R s m args below meth c T locs cells slots) (hx : p.tables.exec = Jvm.exec) (hd : decode c.code pc = .ok (.iand, 1)) (h : own_x_iand Ls st = some (Ls', st')) (t : State) (r : Steps p.tables e below (T.setTop (mkF m (pc + 1) Ls' st')) t) : Steps p.tables e below (T.setTop (mkF m pc Ls st)) t := by
  unfold own_x_iand at h
  split at h
  · cases h
    exact XS.iand X.here hx rfl hd rfl r
  · cases h
def own_x_ior (Ls : Array Slot) (st : List Value) : Option (Array Slot × List Value) := match st with | .int y :: .int x :: rest => (some (Ls, .int (x ||| y) :: rest)) | _ => none
theorem own_x_ior_s (X : Stand p l e R s m args below meth c T locs cells slots) (hx : p.tables.exec = Jvm.exec) (hd : decode c.code pc = .ok (.ior, 1)) (h : own_x_ior Ls st = some (Ls', st')) (t : State) (r : Steps p.tables e below (T.setTop (mkF m (pc + 1) Ls' st')) t) : Steps p.tables e below (T.setTop (mkF m pc Ls st)) t := by
  unfold own_x_ior at h
  split at h
  · cases h
    exact XS.ior X.here hx rfl hd rfl r
  · cases h
def own_x_ixor (Ls : Array Slot) (st : List Value) : Option (Array Slot × List Value) := match st with | .int y :: .int x :: rest => (some (Ls, .int (x ^^^ y) :: rest)) | _ => none
theorem own_x_ixor_s (X : Stand p l e R s m args below meth c T locs cells slots) (hx : p.tables.exec = Jvm.exec) (hd : decode c.code pc = .ok (.ixor, 1)) (h : own_x_ixor Ls st = some (Ls', st')) (t : State) (r : Steps p.tables e below (T.setTop (mkF m (pc + 1) Ls' st')) t) : Steps p.tables e below (T.setTop (mkF m pc Ls st)) t := by
  unfold own_x_ixor at h
  split at h
  · cases h
    exact XS.ixor X.here hx rfl hd rfl r
  · cases h
def own_x_ishl (Ls : Array Slot) (st : List Value) : Option (Array Slot × List Value) := match st with | .int y :: .int x :: rest => (some (Ls, .int (x <<< (y &&& 31)) :: rest)) | _ => none
theorem own_x_ishl_s (X : Stand p l e R s m args below meth c T locs cells slots) (hx : p.tables.exec = Jvm.exec) (hd : decode c.code pc = .ok (.ishl, 1)) (h : own_x_ishl Ls st = some (Ls', st')) (t : State) (r : Steps p.tables e below (T.setTop (mkF m (pc + 1) Ls' st')) t) : Steps p.tables e below (T.setTop (mkF m pc Ls st)) t := by
  unfold own_x_ishl at h
  split at h
  · cases h
    exact XS.ishl X.here hx rfl hd rfl r
  · cases h
def own_x_ishr (Ls : Array Slot) (st : List Value) : Option (Array Slot × List Value) := match st with | .int y :: .int x :: rest => (some (Ls, .int (x >>> (y &&& 31)) :: rest)) | _ => none
theorem own_x_ishr_s (X : Stand p l e R s m args below meth c T locs cells slots) (hx : p.tables.exec = Jvm.exec) (hd : decode c.code pc = .ok (.ishr, 1)) (h : own_x_ishr Ls st = some (Ls', st')) (t : State) (r : Steps p.tables e below (T.setTop (mkF m (pc + 1) Ls' st')) t) : Steps p.tables e below (T.setTop (mkF m pc Ls st)) t := by
  unfold own_x_ishr at h
  split at h
  · cases h
    exact XS.ishr X.here hx rfl hd rfl r
  · cases h
def own_x_iushr (Ls : Array Slot) (st : List Value) : Option (Array Slot × List Value) := match st with | .int y :: .int x :: rest => (some (Ls, .int ((x.toUInt32 >>> (y &&& 31).toUInt32).toInt32) :: rest)) | _ => none
theorem own_x_iushr_s (X : Stand p l e R s m args below meth c T locs cells slots) (hx : p.tables.exec = Jvm.exec) (hd : decode c.code pc = .ok (.iushr, 1)) (h : own_x_iushr Ls st = some (Ls', st')) (t : State) (r : Steps p.tables e below (T.setTop (mkF m (pc + 1) Ls' st')) t) : Steps p.tables e below (T.setTop (mkF m pc Ls st)) t := by
  unfold own_x_iushr at h
  split at h
  · cases h
    exact XS.iushr X.here hx rfl hd rfl r
  · cases h
def own_x_ladd (Ls : Array Slot) (st : List Value) : Option (Array Slot × List Value) := match st with | .long y :: .long x :: rest => (some (Ls, .long (x + y) :: rest)) | _ => none
theorem own_x_ladd_s (X : Stand p l e R s m args below meth c T locs cells slots) (hx : p.tables.exec = Jvm.exec) (hd : decode c.code pc = .ok (.ladd, 1)) (h : own_x_ladd Ls st = some (Ls', st')) (t : State) (r : Steps p.tables e below (T.setTop (mkF m (pc + 1) Ls' st')) t) : Steps p.tables e below (T.setTop (mkF m pc Ls st)) t := by
  unfold own_x_ladd at h
  split at h
  · cases h
    exact XS.ladd X.here hx rfl hd rfl r
  · cases h
def own_x_lsub (Ls : Array Slot) (st : List Value) : Option (Array Slot × List Value) := match st with | .long y :: .long x :: rest => (some (Ls, .long (x - y) :: rest)) | _ => none
theorem own_x_lsub_s (X : Stand p l e R s m args below meth c T locs cells slots) (hx : p.tables.exec = Jvm.exec) (hd : decode c.code pc = .ok (.lsub, 1)) (h : own_x_lsub Ls st = some (Ls', st')) (t : State) (r : Steps p.tables e below (T.setTop (mkF m (pc + 1) Ls' st')) t) : Steps p.tables e below (T.setTop (mkF m pc Ls st)) t := by
  unfold own_x_lsub at h
  split at h
  · cases h
    exact XS.lsub X.here hx rfl hd rfl r
  · cases h
def own_x_land (Ls : Array Slot) (st : List Value) : Option (Array Slot × List Value) := match st with | .long y :: .long x :: rest => (some (Ls, .long (x &&& y) :: rest)) | _ => none
theorem own_x_land_s (X : Stand p l e R s m args below meth c T locs cells slots) (hx : p.tables.exec = Jvm.exec) (hd : decode c.code pc = .ok (.land, 1)) (h : own_x_land Ls st = some (Ls', st')) (t : State) (r : Steps p.tables e below (T.setTop (mkF m (pc + 1) Ls' st')) t) : Steps p.tables e below (T.setTop (mkF m pc Ls st)) t := by
  unfold own_x_land at h
  split at h
  · cases h
    exact XS.land X.here hx rfl hd rfl r
  · cases h
def own_x_lxor (Ls : Array Slot) (st : List Value) : Option (Array Slot × List Value) := match st with | .long y :: .long x :: rest => (some (Ls, .long (x ^^^ y) :: rest)) | _ => none
theorem own_x_lxor_s (X : Stand p l e R s m args below meth c T locs cells slots) (hx : p.tables.exec = Jvm.exec) (hd : decode c.code pc = .ok (.lxor, 1)) (h : own_x_lxor Ls st = some (Ls', st')) (t : State) (r : Steps p.tables e below (T.setTop (mkF m (pc + 1) Ls' st')) t) : Steps p.tables e below (T.setTop (mkF m pc Ls st)) t := by
  unfold own_x_lxor at h
  split at h
  · cases h
    exact XS.lxor X.here hx rfl hd rfl r
  · cases h
def own_x_i2b (Ls : Array Slot) (st : List Value) : Option (Array Slot × List Value) := match st with | .int x :: rest => (some (Ls, .int x.toInt8.toInt32 :: rest)) | _ => none
theorem own_x_i2b_s (X : Stand p l e R s m args below meth c T locs cells slots) (hx : p.tables.exec = Jvm.exec) (hd : decode c.code pc = .ok (.i2b, 1)) (h : own_x_i2b Ls st = some (Ls', st')) (t : State) (r : Steps p.tables e below (T.setTop (mkF m (pc + 1) Ls' st')) t) : Steps p.tables e below (T.setTop (mkF m pc Ls st)) t := by
  unfold own_x_i2b at h
  split at h
  · cases h
    exact XS.i2b X.here hx rfl hd rfl r
  · cases h
def own_x_i2c (Ls : Array Slot) (st : List Value) : Option (Array Slot × List Value) := match st with | .int x :: rest => (some (Ls, .int x.toUInt32.toUInt16.toUInt32.toInt32 :: rest)) | _ => none
theorem own_x_i2c_s (X : Stand p l e R s m args below meth c T locs cells slots) (hx : p.tables.exec = Jvm.exec) (hd : decode c.code pc = .ok (.i2c, 1)) (h : own_x_i2c Ls st = some (Ls', st')) (t : State) (r : Steps p.tables e below (T.setTop (mkF m (pc + 1) Ls' st')) t) : Steps p.tables e below (T.setTop (mkF m pc Ls st)) t := by
  unfold own_x_i2c at h
  split at h
  · cases h
    exact XS.i2c X.here hx rfl hd rfl r
  · cases h
def own_x_i2l (Ls : Array Slot) (st : List Value) : Option (Array Slot × List Value) := match st with | .int x :: rest => (some (Ls, .long x.toInt64 :: rest)) | _ => none
theorem own_x_i2l_s (X : Stand p l e R s m args below meth c T locs cells slots) (hx : p.tables.exec = Jvm.exec) (hd : decode c.code pc = .ok (.i2l, 1)) (h : own_x_i2l Ls st = some (Ls', st')) (t : State) (r : Steps p.tables e below (T.setTop (mkF m (pc + 1) Ls' st')) t) : Steps p.tables e below (T.setTop (mkF m pc Ls st)) t := by
  unfold own_x_i2l at h
  split at h
  · cases h
    exact XS.i2l X.here hx rfl hd rfl r
  · cases h
def own_x_l2i (Ls : Array Slot) (st : List Value) : Option (Array Slot × List Value) := match st with | .long x :: rest => (some (Ls, .int x.toInt32 :: rest)) | _ => none
theorem own_x_l2i_s (X : Stand p l e R s m args below meth c T locs cells slots) (hx : p.tables.exec = Jvm.exec) (hd : decode c.code pc = .ok (.l2i, 1)) (h : own_x_l2i Ls st = some (Ls', st')) (t : State) (r : Steps p.tables e below (T.setTop (mkF m (pc + 1) Ls' st')) t) : Steps p.tables e below (T.setTop (mkF m pc Ls st)) t := by
  unfold own_x_l2i at h
  split at h
  · cases h
    exact XS.l2i X.here hx rfl hd rfl r
  · cases h
def own_x_ineg (Ls : Array Slot) (st : List Value) : Option (Array Slot × List Value) := match st with | .int x :: rest => (some (Ls, .int (-x) :: rest)) | _ => none
theorem own_x_ineg_s (X : Stand p l e R s m args below meth c T locs cells slots) (hx : p.tables.exec = Jvm.exec) (hd : decode c.code pc = .ok (.ineg, 1)) (h : own_x_ineg Ls st = some (Ls', st')) (t : State) (r : Steps p.tables e below (T.setTop (mkF m (pc + 1) Ls' st')) t) : Steps p.tables e below (T.setTop (mkF m pc Ls st)) t := by
  unfold own_x_ineg at h
  split at h
  · cases h
    exact XS.ineg X.here hx rfl hd rfl r
  · cases h
def own_x_lneg (Ls : Array Slot) (st : List Value) : Option (Array Slot × List Value) := match st with | .long x :: rest => (some (Ls, .long (-x) :: rest)) | _ => none
theorem own_x_lneg_s (X : Stand p l e R s m args below meth c T locs cells slots) (hx : p.tables.exec = Jvm.exec) (hd : decode c.code pc = .ok (.lneg, 1)) (h : own_x_lneg Ls st = some (Ls', st')) (t : State) (r : Steps p.tables e below (T.setTop (mkF m (pc + 1) Ls' st')) t) : Steps p.tables e below (T.setTop (mkF m pc Ls st)) t := by
  unfold own_x_lneg at h
  split at h
  · cases h
    exact XS.lneg X.here hx rfl hd rfl r
  · cases h
def own_x_dup (Ls : Array Slot) (st : List Value) : Option (Array Slot × List Value) := match st with | .ref v :: rest => (some (Ls, .ref v :: .ref v :: rest)) | .null :: rest => (some (Ls, .null :: .null :: rest)) | .int v :: rest => (some (Ls, .int v :: .int v :: rest)) | _ => none
theorem own_x_dup_s (X : Stand p l e R s m args below meth c T locs cells slots) (hx : p.tables.exec = Jvm.exec) (hd : decode c.code pc = .ok (.dup, 1)) (h : own_x_dup Ls st = some (Ls', st')) (t : State) (r : Steps p.tables e below (T.setTop (mkF m (pc + 1) Ls' st')) t) : Steps p.tables e below (T.setTop (mkF m pc Ls st)) t := by
  unfold own_x_dup at h
  split at h
  · cases h
    exact XS.dup X.here hx rfl hd rfl rfl r
  · cases h
    exact XS.dup X.here hx rfl hd rfl rfl r
  · cases h
    exact XS.dup X.here hx rfl hd rfl rfl r
  · cases h
def own_x_pop (Ls : Array Slot) (st : List Value) : Option (Array Slot × List Value) := match st with | .ref v :: rest => (some (Ls, rest)) | .null :: rest => (some (Ls, rest)) | .int v :: rest => (some (Ls, rest)) | _ => none
theorem own_x_pop_s (X : Stand p l e R s m args below meth c T locs cells slots) (hx : p.tables.exec = Jvm.exec) (hd : decode c.code pc = .ok (.pop, 1)) (h : own_x_pop Ls st = some (Ls', st')) (t : State) (r : Steps p.tables e below (T.setTop (mkF m (pc + 1) Ls' st')) t) : Steps p.tables e below (T.setTop (mkF m pc Ls st)) t := by
  unfold own_x_pop at h
  split at h
  · cases h
    exact XS.pop X.here hx rfl hd rfl rfl r
  · cases h
    exact XS.pop X.here hx rfl hd rfl rfl r
  · cases h
    exact XS.pop X.here hx rfl hd rfl rfl r
  · cases h
def own_x_dup_x1 (Ls : Array Slot) (st : List Value) : Option (Array Slot × List Value) := match st with | .ref v :: .ref y :: rest => (some (Ls, .ref v :: .ref y :: .ref v :: rest)) | .null :: .ref y :: rest => (some (Ls, .null :: .ref y :: .null :: rest)) | .int v :: .ref y :: rest => (some (Ls, .int v :: .ref y :: .int v :: rest)) | _ => none
theorem own_x_dup_x1_s (X : Stand p l e R s m args below meth c T locs cells slots) (hx : p.tables.exec = Jvm.exec) (hd : decode c.code pc = .ok (.dup_x1, 1)) (h : own_x_dup_x1 Ls st = some (Ls', st')) (t : State) (r : Steps p.tables e below (T.setTop (mkF m (pc + 1) Ls' st')) t) : Steps p.tables e below (T.setTop (mkF m pc Ls st)) t := by
  unfold own_x_dup_x1 at h
  split at h
  · cases h
    exact XS.dupX1 X.here hx rfl hd rfl rfl rfl r
  · cases h
    exact XS.dupX1 X.here hx rfl hd rfl rfl rfl r
  · cases h
    exact XS.dupX1 X.here hx rfl hd rfl rfl rfl r
  · cases h
def own_x_iinc (k : Nat) (i : Int) (Ls : Array Slot) (st : List Value) : Option (Array Slot × List Value) := match Ls[k]? with | some (.val (.int x)) => (match storeLocals Ls k (.int (x + Int32.ofInt i)) with | some l' => some (l', st) | none => none) | _ => none
theorem own_x_iinc_s (X : Stand p l e R s m args below meth c T locs cells slots) (hx : p.tables.exec = Jvm.exec) {k : Nat} {i : Int} (hd : decode c.code pc = .ok (.iinc k i, 3)) (h : own_x_iinc k i Ls st = some (Ls', st')) (t : State) (r : Steps p.tables e below (T.setTop (mkF m (pc + 3) Ls' st')) t) : Steps p.tables e below (T.setTop (mkF m pc Ls st)) t := by
  unfold own_x_iinc at h
  split at h
  · rename_i hv
    split at h
    · rename_i ho
      cases h
      exact XS.iinc X.here hx rfl hd hv ho r
    · cases h
  · cases h
def own_ex (i : Instr) (n : Nat) (Ls : Array Slot) (st : List Value) : Option (Array Slot × List Value) := match i, n with | .iload k, 2 => own_x_iload k Ls st | .iload_n k, 1 => own_x_iload_n k Ls st | .lload k, 2 => own_x_lload k Ls st | .lload_n k, 1 => own_x_lload_n k Ls st | .aload k, 2 => own_x_aload k Ls st | .aload_n k, 1 => own_x_aload_n k Ls st | .istore k, 2 => own_x_istore k Ls st | .istore_n k, 1 => own_x_istore_n k Ls st | .lstore k, 2 => own_x_lstore k Ls st | .lstore_n k, 1 => own_x_lstore_n k Ls st | .astore k, 2 => own_x_astore k Ls st | .astore_n k, 1 => own_x_astore_n k Ls st | .iconst i, 1 => own_x_iconst i Ls st | .bipush i, 2 => own_x_bipush i Ls st | .sipush i, 3 => own_x_sipush i Ls st | .aconst_null, 1 => own_x_aconst_null Ls st | .iadd, 1 => own_x_iadd Ls st | .isub, 1 => own_x_isub Ls st | .imul, 1 => own_x_imul Ls st | .iand, 1 => own_x_iand Ls st | .ior, 1 => own_x_ior Ls st | .ixor, 1 => own_x_ixor Ls st | .ishl, 1 => own_x_ishl Ls st | .ishr, 1 => own_x_ishr Ls st | .iushr, 1 => own_x_iushr Ls st | .ladd, 1 => own_x_ladd Ls st | .lsub, 1 => own_x_lsub Ls st | .land, 1 => own_x_land Ls st | .lxor, 1 => own_x_lxor Ls st | .i2b, 1 => own_x_i2b Ls st | .i2c, 1 => own_x_i2c Ls st | .i2l, 1 => own_x_i2l Ls st | .l2i, 1 => own_x_l2i Ls st | .ineg, 1 => own_x_ineg Ls st | .lneg, 1 => own_x_lneg Ls st | .dup, 1 => own_x_dup Ls st | .pop, 1 => own_x_pop Ls st | .dup_x1, 1 => own_x_dup_x1 Ls st | .iinc k i, 3 => own_x_iinc k i Ls st | _, _ => none
theorem own_ex_s (X : Stand p l e R s m args below meth c T locs cells slots) (hx : p.tables.exec = Jvm.exec) {i : Instr} {n : Nat} (hd : decode c.code pc = .ok (i, n)) (h : own_ex i n Ls st = some (Ls', st')) (t : State) (r : Steps p.tables e below (T.setTop (mkF m (pc + n) Ls' st')) t) : Steps p.tables e below (T.setTop (mkF m pc Ls st)) t := by
  unfold own_ex at h
  split at h
  · exact own_x_iload_s X hx hd h t r
  · exact own_x_iload_n_s X hx hd h t r
  · exact own_x_lload_s X hx hd h t r
  · exact own_x_lload_n_s X hx hd h t r
  · exact own_x_aload_s X hx hd h t r
  · exact own_x_aload_n_s X hx hd h t r
  · exact own_x_istore_s X hx hd h t r
  · exact own_x_istore_n_s X hx hd h t r
  · exact own_x_lstore_s X hx hd h t r
  · exact own_x_lstore_n_s X hx hd h t r
  · exact own_x_astore_s X hx hd h t r
  · exact own_x_astore_n_s X hx hd h t r
  · exact own_x_iconst_s X hx hd h t r
  · exact own_x_bipush_s X hx hd h t r
  · exact own_x_sipush_s X hx hd h t r
  · exact own_x_aconst_null_s X hx hd h t r
  · exact own_x_iadd_s X hx hd h t r
  · exact own_x_isub_s X hx hd h t r
  · exact own_x_imul_s X hx hd h t r
  · exact own_x_iand_s X hx hd h t r
  · exact own_x_ior_s X hx hd h t r
  · exact own_x_ixor_s X hx hd h t r
  · exact own_x_ishl_s X hx hd h t r
  · exact own_x_ishr_s X hx hd h t r
  · exact own_x_iushr_s X hx hd h t r
  · exact own_x_ladd_s X hx hd h t r
  · exact own_x_lsub_s X hx hd h t r
  · exact own_x_land_s X hx hd h t r
  · exact own_x_lxor_s X hx hd h t r
  · exact own_x_i2b_s X hx hd h t r
  · exact own_x_i2c_s X hx hd h t r
  · exact own_x_i2l_s X hx hd h t r
  · exact own_x_l2i_s X hx hd h t r
  · exact own_x_ineg_s X hx hd h t r
  · exact own_x_lneg_s X hx hd h t r
  · exact own_x_dup_s X hx hd h t r
  · exact own_x_pop_s X hx hd h t r
  · exact own_x_dup_x1_s X hx hd h t r
  · exact own_x_iinc_s X hx hd h t r
  · cases h
def own_exs : List (Instr × Nat) → Array Slot → List Value → Option (Array Slot × List Value)
  | [], Ls, st => some (Ls, st)
  | (i, n) :: is, Ls, st => match own_ex i n Ls st with | some (Ls1, st1) => own_exs is Ls1 st1 | none => none
def own_dec (b : ByteArray) : Nat → List (Instr × Nat) → Bool
  | _, [] => true
  | pc, (i, n) :: is => decide (decode b pc = .ok (i, n)) && own_dec b (pc + n) is
def own_end : Nat → List (Instr × Nat) → Nat
  | pc, [] => pc
  | pc, (_, n) :: is => own_end (pc + n) is
theorem own_run (X : Stand p l e R s m args below meth c T locs cells slots) (hx : p.tables.exec = Jvm.exec) {b : ByteArray} (hb : c.code = b) : ∀ (is : List (Instr × Nat)) {pc : Nat} {Ls : Array Slot} {st : List Value}, own_dec b pc is = true → own_exs is Ls st = some (Ls', st') → ∀ t, Steps p.tables e below (T.setTop (mkF m (own_end pc is) Ls' st')) t → Steps p.tables e below (T.setTop (mkF m pc Ls st)) t
  | [], pc, Ls, st, _, h, t, r => by cases h; exact r
  | (i, n) :: is, pc, Ls, st, hd, h, t, r => by
    unfold own_dec at hd
    unfold own_exs at h
    obtain ⟨h1, h2⟩ := Bool.and_eq_true_iff.mp hd
    split at h
    · rename_i Ls1 st1 h3
      exact own_ex_s X hx (by rw [hb]; exact of_decide_eq_true h1) h3 t (own_run X hx hb is h2 h t r)
    · cases h
theorem own_ru (q : Nat) (st' : List Value) (X : Stand p l e R s m args below meth c T locs cells slots) (hx : p.tables.exec = Jvm.exec) {b : ByteArray} (hb : c.code = b) {is : List (Instr × Nat)} (hd : own_dec b pc is = true) (h : own_exs is Ls st = some (Ls, st')) (hq : own_end pc is = q) (k : own_Fin p.tables e below Post (T.setTop (mkF m q Ls st'))) : own_Fin p.tables e below Post (T.setTop (mkF m pc Ls st)) := by
  subst hq
  exact own_Fin.step (own_run X hx hb is hd h) k
theorem own_rl (q : Nat) (Ls' : Array Slot) (st' : List Value) (X : Stand p l e R s m args below meth c T locs cells slots) (hx : p.tables.exec = Jvm.exec) {b : ByteArray} (hb : c.code = b) {is : List (Instr × Nat)} (hd : own_dec b pc is = true) (h : own_exs is Ls st = some (Ls', st')) (hq : own_end pc is = q) (k : own_Fin p.tables e below Post (T.setTop (mkF m q Ls' st'))) : own_Fin p.tables e below Post (T.setTop (mkF m pc Ls st)) := by
  subst hq
  exact own_Fin.step (own_run X hx hb is hd h) k
end Run
end Jvm.RoadKit
namespace Jvm.RoadKit
open Sem ClassFile Op Lib Jvm.Stand Jvm.Free Jvm.LawKit
abbrev own_rm (f c s l : Nat) : Room := { frames := f, cells := c, slots := s, locals := l }
/-- the contract of a body: handed 'as' at the heap h0 it returns, and Q tells what -/
abbrev own_Met (l : Launch) (y : MethodName) (b : ByteArray) (ml : Nat) (rt : Option FieldType) (ws : List Cond) (rm : Room) (as : Array Value) (Z : State) (h0 : Heap) (Q : Option Value → Heap → List Loc → Prop) (kc ks : Nat) : Prop :=
  MetFree l y (head1 (Cond.code y b ml rt :: ws) rm) (fun a U => a = as ∧ Z.Warmed39 U.vm ∧ U.heap = h0) (fun _ _ _ _ _ => True) (fun _ U o U' => ∃ v L, o = .returned v ∧ Q v U'.heap L ∧ FrameEnd U o U' L kc ks)
theorem own_body {l : Launch} {y : MethodName} {b : ByteArray} {ml : Nat} {rt : Option FieldType} {ws : List Cond} {rm : Room} {as : Array Value} {Z : State} {h0 : Heap} {Q : Option Value → Heap → List Loc → Prop} {kc ks : Nat} (hpl : plainFor y = true) {Ls : Array Slot} (hef : ∀ m, entryFrame m as ml = mkF m 0 Ls [])
    (k : ∀ (p : Program) (e : Env) (s : State) (m : MethodId) (below : List Frame) (meth : Method) (c : Code) (T : State), Stand p l e rm s m as below meth c T [] 0 0 → p.tables.exec = Jvm.exec → c.code = b → c.maxLocals = ml → Z.Warmed39 s.vm → T.heap = h0 → s.vm.findClass y.cls = some m.cls → meth.name = y.name → meth.locks = false → meth.sig.returnType = rt →
      own_Fin p.tables e below (own_post Q s kc ks) (T.setTop (mkF m 0 Ls []))) : own_Met l y b ml rt ws rm as Z h0 Q kc ks := by
  refine MetFree.of_bodySF hpl hisR ?_
  intro p e s m args below meth c s₁ Bd hml0 hP hK
  obtain ⟨rfl, hZ, hh⟩ := hP
  have X0 : Stand p l e rm s m args below meth c s₁ [] 0 0 := Stand.of_body Bd
  have e0 : s₁.heap = h0 := by rw [← hh, Bd.state]; rfl
  have k1 := k p e s m below meth c s₁ X0 Bd.exec Bd.bytes hml0 hZ e0 (findClass_of_methodNamed Bd.named) (name_of_methodNamed Bd.named Bd.method).1 (BodyLoose.notSynchronized Bd) Bd.returns
  show own_Fin p.tables e below (own_post Q s kc ks) (s₁.setTop (entryFrame m args ml))
  rw [hef m]
  exact k1
theorem own_insKeep {Z : State} {h h' : Heap} {b : Addr} {C : String} {bo : Bool} {ws : List Addr} (F : Ins Z h b C bo) (K : Keep h h' ws) : Ins Z h' b C bo := by
  obtain ⟨cell, k, h1, r⟩ := F
  obtain ⟨c', q, e1, e2, -⟩ := K.2.2 _ _ h1
  refine ⟨c', k, q, ?_⟩
  rw [e1, e2]
  exact r
end Jvm.RoadKit

namespace Jvm.Pilot.@@N@@
open Jvm Jvm.ClassFile Sem Op Lib Jvm.Free Jvm.Stand Jvm.LawKit Jvm.RoadKit Bundle Jvm.Pilot.@@N@@.Jvm.D
abbrev OW (a0 : Array Value) (Z : State) : Prop := ∀ d ∈ tables_1, d.before a0 Z = true
abbrev nm0 : MethodName := (⟨"java/lang/AbstractStringBuilder", "isLatin1", "()Z"⟩ : MethodName)
abbrev nm1 : MethodName := (⟨"java/lang/Object", "<init>", "()V"⟩ : MethodName)
abbrev nm2 : MethodName := (⟨"com/example/annotree/annotree/tree/SingleByteDecoder", "<init>", "(Ljava/lang/String;Z[I)V"⟩ : MethodName)
abbrev nm3 : MethodName := (⟨"java/util/Arrays", "fill", "([II)V"⟩ : MethodName)
abbrev nm4 : MethodName := (⟨"com/example/annotree/annotree/tree/Index", "<init>", "(I)V"⟩ : MethodName)
abbrev nm5 : MethodName := (⟨"com/example/annotree/annotree/tree/Index", "empty", "(I)Lcom/example/annotree/annotree/tree/Index;"⟩ : MethodName)
abbrev nm6 : MethodName := (⟨"java/lang/AbstractStringBuilder", "<init>", "(I)V"⟩ : MethodName)
abbrev nm7 : MethodName := (⟨"jdk/internal/util/Preconditions", "checkIndex", "(IILjava/util/function/BiFunction;)I"⟩ : MethodName)
abbrev nm8 : MethodName := (⟨"java/lang/StringUTF16", "length", "([B)I"⟩ : MethodName)
abbrev nm9 : MethodName := (⟨"java/lang/String", "checkIndex", "(II)V"⟩ : MethodName)
abbrev nm10 : MethodName := (⟨"java/lang/StringUTF16", "checkIndex", "(I[B)V"⟩ : MethodName)
abbrev nm11 : MethodName := (⟨"java/lang/StringUTF16", "putChar", "([BII)V"⟩ : MethodName)
abbrev nm12 : MethodName := (⟨"jdk/internal/util/Preconditions", "checkFromIndexSize", "(IIILjava/util/function/BiFunction;)I"⟩ : MethodName)
abbrev nm13 : MethodName := (⟨"java/lang/String", "checkBoundsOffCount", "(III)I"⟩ : MethodName)
abbrev nm14 : MethodName := (⟨"java/lang/StringUTF16", "newBytesLength", "(I)I"⟩ : MethodName)
abbrev nm15 : MethodName := (⟨"java/lang/StringUTF16", "checkBoundsOffCount", "(II[B)V"⟩ : MethodName)
abbrev nm16 : MethodName := (⟨"java/lang/StringUTF16", "inflate", "([BI[BII)V"⟩ : MethodName)
abbrev nm17 : MethodName := (⟨"java/lang/StringUTF16", "newBytesFor", "(I)[B"⟩ : MethodName)
abbrev nm18 : MethodName := (⟨"java/lang/StringLatin1", "inflate", "([BI[BII)V"⟩ : MethodName)
abbrev nm19 : MethodName := (⟨"java/lang/AbstractStringBuilder", "ensureCapacityInternal", "(I)V"⟩ : MethodName)
abbrev nm20 : MethodName := (⟨"java/lang/StringLatin1", "canEncode", "(C)Z"⟩ : MethodName)
abbrev nm21 : MethodName := (⟨"java/lang/StringUTF16", "putCharSB", "([BII)V"⟩ : MethodName)
abbrev nm22 : MethodName := (⟨"java/lang/AbstractStringBuilder", "inflate", "()V"⟩ : MethodName)
abbrev nm23 : MethodName := (⟨"java/lang/AbstractStringBuilder", "append", "(C)Ljava/lang/AbstractStringBuilder;"⟩ : MethodName)
abbrev nm24 : MethodName := (⟨"java/lang/AbstractStringBuilder", "length", "()I"⟩ : MethodName)
abbrev nm25 : MethodName := (⟨"[B", "clone", "()Ljava/lang/Object;"⟩ : MethodName)
abbrev nm26 : MethodName := (⟨"java/lang/Object", "clone", "()Ljava/lang/Object;"⟩ : MethodName)
abbrev nm27 : MethodName := (⟨"java/lang/AbstractStringBuilder", "getValue", "()[B"⟩ : MethodName)
abbrev nm28 : MethodName := (⟨"java/lang/StringBuilder", "length", "()I"⟩ : MethodName)
abbrev nm29 : MethodName := (⟨"java/util/Arrays", "copyOfRange", "([BII)[B"⟩ : MethodName)
abbrev nm30 : MethodName := (⟨"java/lang/String", "<init>", "(Ljava/lang/AbstractStringBuilder;Ljava/lang/Void;)V"⟩ : MethodName)
abbrev nm31 : MethodName := (⟨"java/lang/String", "<init>", "(Ljava/lang/StringBuilder;)V"⟩ : MethodName)
abbrev nm32 : MethodName := (⟨"com/example/annotree/annotree/tree/SingleByteDecoder", "index", "()Lcom/example/annotree/annotree/tree/Index;"⟩ : MethodName)
abbrev nm33 : MethodName := (⟨"java/lang/StringBuilder", "<init>", "(I)V"⟩ : MethodName)
abbrev nm34 : MethodName := (⟨"java/lang/StringBuilder", "toString", "()Ljava/lang/String;"⟩ : MethodName)
abbrev nm35 : MethodName := (⟨"java/lang/StringBuilder", "append", "(C)Ljava/lang/StringBuilder;"⟩ : MethodName)
abbrev nm36 : MethodName := (⟨"com/example/annotree/annotree/tree/Index", "codePoint", "(I)I"⟩ : MethodName)
abbrev nm37 : MethodName := (⟨"java/lang/String", "coder", "()B"⟩ : MethodName)
abbrev nm38 : MethodName := (⟨"java/lang/StringUTF16", "getChar", "([BI)C"⟩ : MethodName)
abbrev nm39 : MethodName := (⟨"java/lang/String", "isLatin1", "()Z"⟩ : MethodName)
abbrev nm40 : MethodName := (⟨"java/lang/StringLatin1", "charAt", "([BI)C"⟩ : MethodName)
abbrev nm41 : MethodName := (⟨"java/lang/StringUTF16", "charAt", "([BI)C"⟩ : MethodName)
abbrev nm42 : MethodName := (⟨"java/lang/String", "charAt", "(I)C"⟩ : MethodName)
abbrev nm43 : MethodName := (⟨"com/example/annotree/annotree/tree/SingleByteDecoderWithoutIndexPinLaw", "expect", "(B)C"⟩ : MethodName)
abbrev nm44 : MethodName := (⟨"java/lang/String", "length", "()I"⟩ : MethodName)
abbrev nm45 : MethodName := (⟨"com/example/annotree/annotree/tree/SingleByteDecoderWithoutIndexPinLaw", "at", "(Ljava/lang/String;[BII)Z"⟩ : MethodName)
abbrev nm46 : MethodName := (⟨"com/example/annotree/annotree/tree/SingleByteDecoder", "withoutIndex", "()Lcom/example/annotree/annotree/tree/SingleByteDecoder;"⟩ : MethodName)
abbrev nm47 : MethodName := (⟨"com/example/annotree/annotree/tree/SingleByteDecoder", "decode", "([BI)Ljava/lang/String;"⟩ : MethodName)
abbrev nm48 : MethodName := (⟨"com/example/annotree/annotree/tree/SingleByteDecoderWithoutIndexPinLaw", "matches", "(Ljava/lang/String;[BI)Z"⟩ : MethodName)
abbrev ex0 (Z : State) (h : Heap) (a : Addr) : Prop := Exa Z h a "com/example/annotree/annotree/tree/SingleByteDecoder"
abbrev fl1 (Z : State) (h : Heap) (a : Addr) (v : Value) : Prop := Fld Z h a "com/example/annotree/annotree/tree/SingleByteDecoder" "index" "Lcom/example/annotree/annotree/tree/Index;" v
abbrev fl2 (Z : State) (h : Heap) (a : Addr) (v : Value) : Prop := Fld Z h a "com/example/annotree/annotree/tree/SingleByteDecoder" "charset" "Ljava/lang/String;" v
abbrev fl3 (Z : State) (h : Heap) (a : Addr) (v : Value) : Prop := Fld Z h a "com/example/annotree/annotree/tree/SingleByteDecoder" "c1Controls" "Z" v
abbrev fl4 (Z : State) (h : Heap) (a : Addr) (v : Value) : Prop := Fld Z h a "com/example/annotree/annotree/tree/SingleByteDecoder" "corrections" "[I" v
abbrev ex5 (Z : State) (h : Heap) (a : Addr) : Prop := Exa Z h a "com/example/annotree/annotree/tree/Index"
abbrev fl6 (Z : State) (h : Heap) (a : Addr) (v : Value) : Prop := Fld Z h a "com/example/annotree/annotree/tree/Index" "codePoints" "[I" v
abbrev ex7 (Z : State) (h : Heap) (a : Addr) : Prop := Exa Z h a "java/lang/StringBuilder"
abbrev fl8 (Z : State) (h : Heap) (a : Addr) (v : Value) : Prop := Fld Z h a "java/lang/AbstractStringBuilder" "count" "I" v
abbrev fl9 (Z : State) (h : Heap) (a : Addr) (v : Value) : Prop := Fld Z h a "java/lang/AbstractStringBuilder" "coder" "B" v
abbrev fl10 (Z : State) (h : Heap) (a : Addr) (v : Value) : Prop := Fld Z h a "java/lang/AbstractStringBuilder" "value" "[B" v
abbrev fl11 (Z : State) (h : Heap) (a : Addr) (v : Value) : Prop := Fld Z h a "java/lang/AbstractStringBuilder" "maybeLatin1" "Z" v
abbrev ex12 (Z : State) (h : Heap) (a : Addr) : Prop := Exa Z h a "[B"
abbrev fl13 (Z : State) (h : Heap) (a : Addr) (v : Value) : Prop := Fld Z h a "java/lang/String" "coder" "B" v
abbrev ex14 (Z : State) (h : Heap) (a : Addr) : Prop := Exa Z h a "java/lang/String"
abbrev fl15 (Z : State) (h : Heap) (a : Addr) (v : Value) : Prop := Fld Z h a "java/lang/String" "value" "[B" v
theorem wd0 {a0 : Array Value} {Z : State} (hw : OW a0 Z) : (Jvm.Cond.arrayClass Jvm.ClassFile.FieldType.byte).before a0 Z = true := hw _ (List.mem_of_getElem? (i := 0) rfl)
theorem wd1 {a0 : Array Value} {Z : State} (hw : OW a0 Z) : (Jvm.Cond.methodLink "com/example/annotree/annotree/tree/SingleByteDecoderWithoutIndexPinLaw" (7 : Nat) nm46).before a0 Z = true := hw _ (List.mem_of_getElem? (i := 1) rfl)
theorem wd2 {a0 : Array Value} {Z : State} (hw : OW a0 Z) : (Jvm.Cond.static nm46).before a0 Z = true := hw _ (List.mem_of_getElem? (i := 2) rfl)
theorem wd3 {a0 : Array Value} {Z : State} (hw : OW a0 Z) : (Jvm.Cond.initialized "com/example/annotree/annotree/tree/SingleByteDecoder").before a0 Z = true := hw _ (List.mem_of_getElem? (i := 3) rfl)
theorem wd4 {a0 : Array Value} {Z : State} (hw : OW a0 Z) : (Jvm.Cond.code nm46 prog_33_method_4_code (0 : Nat) (Option.some (Jvm.ClassFile.FieldType.object "com/example/annotree/annotree/tree/SingleByteDecoder"))).before a0 Z = true := hw _ (List.mem_of_getElem? (i := 4) rfl)
theorem wd5 {a0 : Array Value} {Z : State} (hw : OW a0 Z) : (Jvm.Cond.classLink "com/example/annotree/annotree/tree/SingleByteDecoder" (8 : Nat) "com/example/annotree/annotree/tree/SingleByteDecoder").before a0 Z = true := hw _ (List.mem_of_getElem? (i := 5) rfl)
theorem wd6 {a0 : Array Value} {Z : State} (hw : OW a0 Z) : (Jvm.Cond.instantiable "com/example/annotree/annotree/tree/SingleByteDecoder" (4 : Nat)).before a0 Z = true := hw _ (List.mem_of_getElem? (i := 6) rfl)
theorem wd7 {a0 : Array Value} {Z : State} (hw : OW a0 Z) : (Jvm.Cond.arrayClass Jvm.ClassFile.FieldType.int).before a0 Z = true := hw _ (List.mem_of_getElem? (i := 7) rfl)
theorem wd8 {a0 : Array Value} {Z : State} (hw : OW a0 Z) : (Jvm.Cond.methodLink "com/example/annotree/annotree/tree/SingleByteDecoder" (21 : Nat) nm2).before a0 Z = true := hw _ (List.mem_of_getElem? (i := 8) rfl)
theorem wd9 {a0 : Array Value} {Z : State} (hw : OW a0 Z) : (Jvm.Cond.instanceMethod nm2).before a0 Z = true := hw _ (List.mem_of_getElem? (i := 9) rfl)
theorem wd10 {a0 : Array Value} {Z : State} (hw : OW a0 Z) : (Jvm.Cond.code nm2 prog_33_method_1_code (4 : Nat) (Option.none : Option Jvm.ClassFile.FieldType)).before a0 Z = true := hw _ (List.mem_of_getElem? (i := 10) rfl)
theorem wd11 {a0 : Array Value} {Z : State} (hw : OW a0 Z) : (Jvm.Cond.methodLink "com/example/annotree/annotree/tree/SingleByteDecoder" (1 : Nat) nm1).before a0 Z = true := hw _ (List.mem_of_getElem? (i := 11) rfl)
theorem wd12 {a0 : Array Value} {Z : State} (hw : OW a0 Z) : (Jvm.Cond.instanceMethod nm1).before a0 Z = true := hw _ (List.mem_of_getElem? (i := 12) rfl)
theorem wd13 {a0 : Array Value} {Z : State} (hw : OW a0 Z) : (Jvm.Cond.code nm1 object_method_1_code (1 : Nat) (Option.none : Option Jvm.ClassFile.FieldType)).before a0 Z = true := hw _ (List.mem_of_getElem? (i := 13) rfl)
theorem wd14 {a0 : Array Value} {Z : State} (hw : OW a0 Z) : (Jvm.Cond.fieldLink "com/example/annotree/annotree/tree/SingleByteDecoder" (7 : Nat) "com/example/annotree/annotree/tree/SingleByteDecoder" "charset" "Ljava/lang/String;").before a0 Z = true := hw _ (List.mem_of_getElem? (i := 14) rfl)
theorem wd15 {a0 : Array Value} {Z : State} (hw : OW a0 Z) : (Jvm.Cond.laysFinal "com/example/annotree/annotree/tree/SingleByteDecoder" "com/example/annotree/annotree/tree/SingleByteDecoder" "charset" "Ljava/lang/String;").before a0 Z = true := hw _ (List.mem_of_getElem? (i := 15) rfl)
theorem wd16 {a0 : Array Value} {Z : State} (hw : OW a0 Z) : (Jvm.Cond.fieldLink "com/example/annotree/annotree/tree/SingleByteDecoder" (13 : Nat) "com/example/annotree/annotree/tree/SingleByteDecoder" "c1Controls" "Z").before a0 Z = true := hw _ (List.mem_of_getElem? (i := 16) rfl)
theorem wd17 {a0 : Array Value} {Z : State} (hw : OW a0 Z) : (Jvm.Cond.laysFinal "com/example/annotree/annotree/tree/SingleByteDecoder" "com/example/annotree/annotree/tree/SingleByteDecoder" "c1Controls" "Z").before a0 Z = true := hw _ (List.mem_of_getElem? (i := 17) rfl)
theorem wd18 {a0 : Array Value} {Z : State} (hw : OW a0 Z) : (Jvm.Cond.fieldLink "com/example/annotree/annotree/tree/SingleByteDecoder" (17 : Nat) "com/example/annotree/annotree/tree/SingleByteDecoder" "corrections" "[I").before a0 Z = true := hw _ (List.mem_of_getElem? (i := 18) rfl)
theorem wd19 {a0 : Array Value} {Z : State} (hw : OW a0 Z) : (Jvm.Cond.laysFinal "com/example/annotree/annotree/tree/SingleByteDecoder" "com/example/annotree/annotree/tree/SingleByteDecoder" "corrections" "[I").before a0 Z = true := hw _ (List.mem_of_getElem? (i := 19) rfl)
theorem wd20 {a0 : Array Value} {Z : State} (hw : OW a0 Z) : (Jvm.Cond.methodLink "com/example/annotree/annotree/tree/SingleByteDecoderWithoutIndexPinLaw" (13 : Nat) nm47).before a0 Z = true := hw _ (List.mem_of_getElem? (i := 20) rfl)
theorem wd21 {a0 : Array Value} {Z : State} (hw : OW a0 Z) : (Jvm.Cond.declares nm47).before a0 Z = true := hw _ (List.mem_of_getElem? (i := 21) rfl)
theorem wd22 {a0 : Array Value} {Z : State} (hw : OW a0 Z) : (Jvm.Cond.instanceMethod nm47).before a0 Z = true := hw _ (List.mem_of_getElem? (i := 22) rfl)
theorem wd23 {a0 : Array Value} {Z : State} (hw : OW a0 Z) : (Jvm.Cond.selects "com/example/annotree/annotree/tree/SingleByteDecoder" nm47 nm47).before a0 Z = true := hw _ (List.mem_of_getElem? (i := 23) rfl)
theorem wd24 {a0 : Array Value} {Z : State} (hw : OW a0 Z) : (Jvm.Cond.code nm47 prog_33_method_5_code (8 : Nat) (Option.some (Jvm.ClassFile.FieldType.object "java/lang/String"))).before a0 Z = true := hw _ (List.mem_of_getElem? (i := 24) rfl)
theorem wd25 {a0 : Array Value} {Z : State} (hw : OW a0 Z) : (Jvm.Cond.methodLink "com/example/annotree/annotree/tree/SingleByteDecoder" (24 : Nat) nm32).before a0 Z = true := hw _ (List.mem_of_getElem? (i := 25) rfl)
theorem wd26 {a0 : Array Value} {Z : State} (hw : OW a0 Z) : (Jvm.Cond.instanceMethod nm32).before a0 Z = true := hw _ (List.mem_of_getElem? (i := 26) rfl)
theorem wd27 {a0 : Array Value} {Z : State} (hw : OW a0 Z) : (Jvm.Cond.privateMethod nm32).before a0 Z = true := hw _ (List.mem_of_getElem? (i := 27) rfl)
theorem wd28 {a0 : Array Value} {Z : State} (hw : OW a0 Z) : (Jvm.Cond.codeSync nm32 prog_33_method_6_code (2 : Nat) (Option.some (Jvm.ClassFile.FieldType.object "com/example/annotree/annotree/tree/Index"))).before a0 Z = true := hw _ (List.mem_of_getElem? (i := 28) rfl)
theorem wd29 {a0 : Array Value} {Z : State} (hw : OW a0 Z) : (Jvm.Cond.fieldLink "com/example/annotree/annotree/tree/SingleByteDecoder" (50 : Nat) "com/example/annotree/annotree/tree/SingleByteDecoder" "index" "Lcom/example/annotree/annotree/tree/Index;").before a0 Z = true := hw _ (List.mem_of_getElem? (i := 29) rfl)
theorem wd30 {a0 : Array Value} {Z : State} (hw : OW a0 Z) : (Jvm.Cond.lays "com/example/annotree/annotree/tree/SingleByteDecoder" "com/example/annotree/annotree/tree/SingleByteDecoder" "index" "Lcom/example/annotree/annotree/tree/Index;").before a0 Z = true := hw _ (List.mem_of_getElem? (i := 30) rfl)
theorem wd31 {a0 : Array Value} {Z : State} (hw : OW a0 Z) : (Jvm.Cond.methodLink "com/example/annotree/annotree/tree/SingleByteDecoder" (53 : Nat) nm5).before a0 Z = true := hw _ (List.mem_of_getElem? (i := 31) rfl)
theorem wd32 {a0 : Array Value} {Z : State} (hw : OW a0 Z) : (Jvm.Cond.static nm5).before a0 Z = true := hw _ (List.mem_of_getElem? (i := 32) rfl)
theorem wd33 {a0 : Array Value} {Z : State} (hw : OW a0 Z) : (Jvm.Cond.initialized "com/example/annotree/annotree/tree/Index").before a0 Z = true := hw _ (List.mem_of_getElem? (i := 33) rfl)
theorem wd34 {a0 : Array Value} {Z : State} (hw : OW a0 Z) : (Jvm.Cond.code nm5 prog_25_method_2_code (1 : Nat) (Option.some (Jvm.ClassFile.FieldType.object "com/example/annotree/annotree/tree/Index"))).before a0 Z = true := hw _ (List.mem_of_getElem? (i := 34) rfl)
theorem wd35 {a0 : Array Value} {Z : State} (hw : OW a0 Z) : (Jvm.Cond.classLink "com/example/annotree/annotree/tree/Index" (8 : Nat) "com/example/annotree/annotree/tree/Index").before a0 Z = true := hw _ (List.mem_of_getElem? (i := 35) rfl)
theorem wd36 {a0 : Array Value} {Z : State} (hw : OW a0 Z) : (Jvm.Cond.instantiable "com/example/annotree/annotree/tree/Index" (1 : Nat)).before a0 Z = true := hw _ (List.mem_of_getElem? (i := 36) rfl)
theorem wd37 {a0 : Array Value} {Z : State} (hw : OW a0 Z) : (Jvm.Cond.methodLink "com/example/annotree/annotree/tree/Index" (19 : Nat) nm4).before a0 Z = true := hw _ (List.mem_of_getElem? (i := 37) rfl)
theorem wd38 {a0 : Array Value} {Z : State} (hw : OW a0 Z) : (Jvm.Cond.instanceMethod nm4).before a0 Z = true := hw _ (List.mem_of_getElem? (i := 38) rfl)
theorem wd39 {a0 : Array Value} {Z : State} (hw : OW a0 Z) : (Jvm.Cond.code nm4 prog_25_method_1_code (2 : Nat) (Option.none : Option Jvm.ClassFile.FieldType)).before a0 Z = true := hw _ (List.mem_of_getElem? (i := 39) rfl)
theorem wd40 {a0 : Array Value} {Z : State} (hw : OW a0 Z) : (Jvm.Cond.methodLink "com/example/annotree/annotree/tree/Index" (1 : Nat) nm1).before a0 Z = true := hw _ (List.mem_of_getElem? (i := 40) rfl)
theorem wd41 {a0 : Array Value} {Z : State} (hw : OW a0 Z) : (Jvm.Cond.fieldLink "com/example/annotree/annotree/tree/Index" (7 : Nat) "com/example/annotree/annotree/tree/Index" "codePoints" "[I").before a0 Z = true := hw _ (List.mem_of_getElem? (i := 41) rfl)
theorem wd42 {a0 : Array Value} {Z : State} (hw : OW a0 Z) : (Jvm.Cond.laysFinal "com/example/annotree/annotree/tree/Index" "com/example/annotree/annotree/tree/Index" "codePoints" "[I").before a0 Z = true := hw _ (List.mem_of_getElem? (i := 42) rfl)
theorem wd43 {a0 : Array Value} {Z : State} (hw : OW a0 Z) : (Jvm.Cond.methodLink "com/example/annotree/annotree/tree/Index" (13 : Nat) nm3).before a0 Z = true := hw _ (List.mem_of_getElem? (i := 43) rfl)
theorem wd44 {a0 : Array Value} {Z : State} (hw : OW a0 Z) : (Jvm.Cond.static nm3).before a0 Z = true := hw _ (List.mem_of_getElem? (i := 44) rfl)
theorem wd45 {a0 : Array Value} {Z : State} (hw : OW a0 Z) : (Jvm.Cond.initialized "java/util/Arrays").before a0 Z = true := hw _ (List.mem_of_getElem? (i := 45) rfl)
theorem wd46 {a0 : Array Value} {Z : State} (hw : OW a0 Z) : (Jvm.Cond.code nm3 jdk_65_method_103_code (4 : Nat) (Option.none : Option Jvm.ClassFile.FieldType)).before a0 Z = true := hw _ (List.mem_of_getElem? (i := 46) rfl)
theorem wd47 {a0 : Array Value} {Z : State} (hw : OW a0 Z) : (Jvm.Cond.classLink "com/example/annotree/annotree/tree/SingleByteDecoder" (28 : Nat) "java/lang/StringBuilder").before a0 Z = true := hw _ (List.mem_of_getElem? (i := 47) rfl)
theorem wd48 {a0 : Array Value} {Z : State} (hw : OW a0 Z) : (Jvm.Cond.instantiable "java/lang/StringBuilder" (4 : Nat)).before a0 Z = true := hw _ (List.mem_of_getElem? (i := 48) rfl)
theorem wd49 {a0 : Array Value} {Z : State} (hw : OW a0 Z) : (Jvm.Cond.initialized "java/lang/StringBuilder").before a0 Z = true := hw _ (List.mem_of_getElem? (i := 49) rfl)
theorem wd50 {a0 : Array Value} {Z : State} (hw : OW a0 Z) : (Jvm.Cond.methodLink "com/example/annotree/annotree/tree/SingleByteDecoder" (30 : Nat) nm33).before a0 Z = true := hw _ (List.mem_of_getElem? (i := 50) rfl)
theorem wd51 {a0 : Array Value} {Z : State} (hw : OW a0 Z) : (Jvm.Cond.instanceMethod nm33).before a0 Z = true := hw _ (List.mem_of_getElem? (i := 51) rfl)
theorem wd52 {a0 : Array Value} {Z : State} (hw : OW a0 Z) : (Jvm.Cond.code nm33 jdk_67_method_2_code (2 : Nat) (Option.none : Option Jvm.ClassFile.FieldType)).before a0 Z = true := hw _ (List.mem_of_getElem? (i := 52) rfl)
theorem wd53 {a0 : Array Value} {Z : State} (hw : OW a0 Z) : (Jvm.Cond.methodLink "java/lang/StringBuilder" (1 : Nat) nm6).before a0 Z = true := hw _ (List.mem_of_getElem? (i := 53) rfl)
theorem wd54 {a0 : Array Value} {Z : State} (hw : OW a0 Z) : (Jvm.Cond.instanceMethod nm6).before a0 Z = true := hw _ (List.mem_of_getElem? (i := 54) rfl)
theorem wd57 {a0 : Array Value} {Z : State} (hw : OW a0 Z) : (Jvm.Cond.initialized "java/lang/AbstractStringBuilder").before a0 Z = true := hw _ (List.mem_of_getElem? (i := 57) rfl)
theorem wd58 {a0 : Array Value} {Z : State} (hw : OW a0 Z) : (Jvm.Cond.code nm6 jdk_68_method_2_code (2 : Nat) (Option.none : Option Jvm.ClassFile.FieldType)).before a0 Z = true := hw _ (List.mem_of_getElem? (i := 58) rfl)
theorem wd59 {a0 : Array Value} {Z : State} (hw : OW a0 Z) : (Jvm.Cond.methodLink "java/lang/AbstractStringBuilder" (3 : Nat) nm1).before a0 Z = true := hw _ (List.mem_of_getElem? (i := 59) rfl)
theorem wd60 {a0 : Array Value} {Z : State} (hw : OW a0 Z) : (Jvm.Cond.fieldLink "java/lang/AbstractStringBuilder" (18 : Nat) "java/lang/String" "COMPACT_STRINGS" "Z").before a0 Z = true := hw _ (List.mem_of_getElem? (i := 60) rfl)
theorem wd61 {a0 : Array Value} {Z : State} (hw : OW a0 Z) : (Jvm.Cond.initialized "java/lang/String").before a0 Z = true := hw _ (List.mem_of_getElem? (i := 61) rfl)
theorem wd62 {a0 : Array Value} {Z : State} (hw : OW a0 Z) : (Jvm.Cond.fieldLink "java/lang/AbstractStringBuilder" (15 : Nat) "java/lang/AbstractStringBuilder" "value" "[B").before a0 Z = true := hw _ (List.mem_of_getElem? (i := 62) rfl)
theorem wd63 {a0 : Array Value} {Z : State} (hw : OW a0 Z) : (Jvm.Cond.lays "java/lang/StringBuilder" "java/lang/AbstractStringBuilder" "value" "[B").before a0 Z = true := hw _ (List.mem_of_getElem? (i := 63) rfl)
theorem wd64 {a0 : Array Value} {Z : State} (hw : OW a0 Z) : (Jvm.Cond.fieldLink "java/lang/AbstractStringBuilder" (22 : Nat) "java/lang/AbstractStringBuilder" "coder" "B").before a0 Z = true := hw _ (List.mem_of_getElem? (i := 64) rfl)
theorem wd65 {a0 : Array Value} {Z : State} (hw : OW a0 Z) : (Jvm.Cond.lays "java/lang/StringBuilder" "java/lang/AbstractStringBuilder" "coder" "B").before a0 Z = true := hw _ (List.mem_of_getElem? (i := 65) rfl)
theorem wd66 {a0 : Array Value} {Z : State} (hw : OW a0 Z) : (Jvm.Cond.methodLink "com/example/annotree/annotree/tree/SingleByteDecoder" (33 : Nat) nm35).before a0 Z = true := hw _ (List.mem_of_getElem? (i := 66) rfl)
theorem wd67 {a0 : Array Value} {Z : State} (hw : OW a0 Z) : (Jvm.Cond.declares nm35).before a0 Z = true := hw _ (List.mem_of_getElem? (i := 67) rfl)
theorem wd68 {a0 : Array Value} {Z : State} (hw : OW a0 Z) : (Jvm.Cond.instanceMethod nm35).before a0 Z = true := hw _ (List.mem_of_getElem? (i := 68) rfl)
theorem wd69 {a0 : Array Value} {Z : State} (hw : OW a0 Z) : (Jvm.Cond.selects "java/lang/StringBuilder" nm35 nm35).before a0 Z = true := hw _ (List.mem_of_getElem? (i := 69) rfl)
theorem wd70 {a0 : Array Value} {Z : State} (hw : OW a0 Z) : (Jvm.Cond.code nm35 jdk_67_method_14_code (2 : Nat) (Option.some (Jvm.ClassFile.FieldType.object "java/lang/StringBuilder"))).before a0 Z = true := hw _ (List.mem_of_getElem? (i := 70) rfl)
theorem wd71 {a0 : Array Value} {Z : State} (hw : OW a0 Z) : (Jvm.Cond.methodLink "java/lang/StringBuilder" (50 : Nat) nm23).before a0 Z = true := hw _ (List.mem_of_getElem? (i := 71) rfl)
theorem wd72 {a0 : Array Value} {Z : State} (hw : OW a0 Z) : (Jvm.Cond.instanceMethod nm23).before a0 Z = true := hw _ (List.mem_of_getElem? (i := 72) rfl)
theorem wd73 {a0 : Array Value} {Z : State} (hw : OW a0 Z) : (Jvm.Cond.superclass "java/lang/StringBuilder" "java/lang/AbstractStringBuilder").before a0 Z = true := hw _ (List.mem_of_getElem? (i := 73) rfl)
theorem wd74 {a0 : Array Value} {Z : State} (hw : OW a0 Z) : (Jvm.Cond.declares nm23).before a0 Z = true := hw _ (List.mem_of_getElem? (i := 74) rfl)
theorem wd75 {a0 : Array Value} {Z : State} (hw : OW a0 Z) : (Jvm.Cond.code nm23 jdk_68_method_31_code (2 : Nat) (Option.some (Jvm.ClassFile.FieldType.object "java/lang/AbstractStringBuilder"))).before a0 Z = true := hw _ (List.mem_of_getElem? (i := 75) rfl)
theorem wd76 {a0 : Array Value} {Z : State} (hw : OW a0 Z) : (Jvm.Cond.fieldLink "java/lang/AbstractStringBuilder" (79 : Nat) "java/lang/AbstractStringBuilder" "count" "I").before a0 Z = true := hw _ (List.mem_of_getElem? (i := 76) rfl)
theorem wd77 {a0 : Array Value} {Z : State} (hw : OW a0 Z) : (Jvm.Cond.lays "java/lang/StringBuilder" "java/lang/AbstractStringBuilder" "count" "I").before a0 Z = true := hw _ (List.mem_of_getElem? (i := 77) rfl)
theorem wd78 {a0 : Array Value} {Z : State} (hw : OW a0 Z) : (Jvm.Cond.methodLink "java/lang/AbstractStringBuilder" (100 : Nat) nm19).before a0 Z = true := hw _ (List.mem_of_getElem? (i := 78) rfl)
theorem wd79 {a0 : Array Value} {Z : State} (hw : OW a0 Z) : (Jvm.Cond.instanceMethod nm19).before a0 Z = true := hw _ (List.mem_of_getElem? (i := 79) rfl)
theorem wd80 {a0 : Array Value} {Z : State} (hw : OW a0 Z) : (Jvm.Cond.privateMethod nm19).before a0 Z = true := hw _ (List.mem_of_getElem? (i := 80) rfl)
theorem wd81 {a0 : Array Value} {Z : State} (hw : OW a0 Z) : (Jvm.Cond.selects "java/lang/StringBuilder" nm19 nm19).before a0 Z = true := hw _ (List.mem_of_getElem? (i := 81) rfl)
theorem wd82 {a0 : Array Value} {Z : State} (hw : OW a0 Z) : (Jvm.Cond.code nm19 jdk_68_method_9_code (3 : Nat) (Option.none : Option Jvm.ClassFile.FieldType)).before a0 Z = true := hw _ (List.mem_of_getElem? (i := 82) rfl)
theorem wd83 {a0 : Array Value} {Z : State} (hw : OW a0 Z) : (Jvm.Cond.methodLink "java/lang/AbstractStringBuilder" (83 : Nat) nm0).before a0 Z = true := hw _ (List.mem_of_getElem? (i := 83) rfl)
theorem wd84 {a0 : Array Value} {Z : State} (hw : OW a0 Z) : (Jvm.Cond.declares nm0).before a0 Z = true := hw _ (List.mem_of_getElem? (i := 84) rfl)
theorem wd85 {a0 : Array Value} {Z : State} (hw : OW a0 Z) : (Jvm.Cond.instanceMethod nm0).before a0 Z = true := hw _ (List.mem_of_getElem? (i := 85) rfl)
theorem wd86 {a0 : Array Value} {Z : State} (hw : OW a0 Z) : (Jvm.Cond.selects "java/lang/StringBuilder" nm0 nm0).before a0 Z = true := hw _ (List.mem_of_getElem? (i := 86) rfl)
theorem wd87 {a0 : Array Value} {Z : State} (hw : OW a0 Z) : (Jvm.Cond.code nm0 jdk_68_method_68_code (1 : Nat) (Option.some Jvm.ClassFile.FieldType.boolean)).before a0 Z = true := hw _ (List.mem_of_getElem? (i := 87) rfl)
theorem wd88 {a0 : Array Value} {Z : State} (hw : OW a0 Z) : (Jvm.Cond.methodLink "java/lang/AbstractStringBuilder" (191 : Nat) nm20).before a0 Z = true := hw _ (List.mem_of_getElem? (i := 88) rfl)
theorem wd89 {a0 : Array Value} {Z : State} (hw : OW a0 Z) : (Jvm.Cond.static nm20).before a0 Z = true := hw _ (List.mem_of_getElem? (i := 89) rfl)
theorem wd90 {a0 : Array Value} {Z : State} (hw : OW a0 Z) : (Jvm.Cond.initialized "java/lang/StringLatin1").before a0 Z = true := hw _ (List.mem_of_getElem? (i := 90) rfl)
theorem wd91 {a0 : Array Value} {Z : State} (hw : OW a0 Z) : (Jvm.Cond.code nm20 jdk_43_method_3_code (1 : Nat) (Option.some Jvm.ClassFile.FieldType.boolean)).before a0 Z = true := hw _ (List.mem_of_getElem? (i := 91) rfl)
theorem wd92 {a0 : Array Value} {Z : State} (hw : OW a0 Z) : (Jvm.Cond.methodLink "com/example/annotree/annotree/tree/SingleByteDecoder" (46 : Nat) nm34).before a0 Z = true := hw _ (List.mem_of_getElem? (i := 92) rfl)
theorem wd93 {a0 : Array Value} {Z : State} (hw : OW a0 Z) : (Jvm.Cond.declares nm34).before a0 Z = true := hw _ (List.mem_of_getElem? (i := 93) rfl)
theorem wd94 {a0 : Array Value} {Z : State} (hw : OW a0 Z) : (Jvm.Cond.instanceMethod nm34).before a0 Z = true := hw _ (List.mem_of_getElem? (i := 94) rfl)
theorem wd95 {a0 : Array Value} {Z : State} (hw : OW a0 Z) : (Jvm.Cond.selects "java/lang/StringBuilder" nm34 nm34).before a0 Z = true := hw _ (List.mem_of_getElem? (i := 95) rfl)
theorem wd96 {a0 : Array Value} {Z : State} (hw : OW a0 Z) : (Jvm.Cond.code nm34 jdk_67_method_42_code (1 : Nat) (Option.some (Jvm.ClassFile.FieldType.object "java/lang/String"))).before a0 Z = true := hw _ (List.mem_of_getElem? (i := 96) rfl)
theorem wd97 {a0 : Array Value} {Z : State} (hw : OW a0 Z) : (Jvm.Cond.classLink "java/lang/StringBuilder" (18 : Nat) "java/lang/String").before a0 Z = true := hw _ (List.mem_of_getElem? (i := 97) rfl)
theorem wd98 {a0 : Array Value} {Z : State} (hw : OW a0 Z) : (Jvm.Cond.instantiable "java/lang/String" (4 : Nat)).before a0 Z = true := hw _ (List.mem_of_getElem? (i := 98) rfl)
theorem wd99 {a0 : Array Value} {Z : State} (hw : OW a0 Z) : (Jvm.Cond.methodLink "java/lang/StringBuilder" (137 : Nat) nm31).before a0 Z = true := hw _ (List.mem_of_getElem? (i := 99) rfl)
theorem wd100 {a0 : Array Value} {Z : State} (hw : OW a0 Z) : (Jvm.Cond.instanceMethod nm31).before a0 Z = true := hw _ (List.mem_of_getElem? (i := 100) rfl)
theorem wd102 {a0 : Array Value} {Z : State} (hw : OW a0 Z) : (Jvm.Cond.code nm31 jdk_42_method_53_code (2 : Nat) (Option.none : Option Jvm.ClassFile.FieldType)).before a0 Z = true := hw _ (List.mem_of_getElem? (i := 102) rfl)
theorem wd103 {a0 : Array Value} {Z : State} (hw : OW a0 Z) : (Jvm.Cond.methodLink "java/lang/String" (489 : Nat) nm30).before a0 Z = true := hw _ (List.mem_of_getElem? (i := 103) rfl)
theorem wd104 {a0 : Array Value} {Z : State} (hw : OW a0 Z) : (Jvm.Cond.instanceMethod nm30).before a0 Z = true := hw _ (List.mem_of_getElem? (i := 104) rfl)
theorem wd105 {a0 : Array Value} {Z : State} (hw : OW a0 Z) : (Jvm.Cond.code nm30 jdk_42_method_150_code (5 : Nat) (Option.none : Option Jvm.ClassFile.FieldType)).before a0 Z = true := hw _ (List.mem_of_getElem? (i := 105) rfl)
theorem wd106 {a0 : Array Value} {Z : State} (hw : OW a0 Z) : (Jvm.Cond.methodLink "java/lang/String" (1 : Nat) nm1).before a0 Z = true := hw _ (List.mem_of_getElem? (i := 106) rfl)
theorem wd107 {a0 : Array Value} {Z : State} (hw : OW a0 Z) : (Jvm.Cond.methodLink "java/lang/String" (552 : Nat) nm27).before a0 Z = true := hw _ (List.mem_of_getElem? (i := 107) rfl)
theorem wd108 {a0 : Array Value} {Z : State} (hw : OW a0 Z) : (Jvm.Cond.declares nm27).before a0 Z = true := hw _ (List.mem_of_getElem? (i := 108) rfl)
theorem wd109 {a0 : Array Value} {Z : State} (hw : OW a0 Z) : (Jvm.Cond.instanceMethod nm27).before a0 Z = true := hw _ (List.mem_of_getElem? (i := 109) rfl)
theorem wd110 {a0 : Array Value} {Z : State} (hw : OW a0 Z) : (Jvm.Cond.selects "java/lang/StringBuilder" nm27 nm27).before a0 Z = true := hw _ (List.mem_of_getElem? (i := 110) rfl)
theorem wd111 {a0 : Array Value} {Z : State} (hw : OW a0 Z) : (Jvm.Cond.code nm27 jdk_68_method_64_code (1 : Nat) (Option.some (Jvm.ClassFile.FieldType.array Jvm.ClassFile.FieldType.byte))).before a0 Z = true := hw _ (List.mem_of_getElem? (i := 111) rfl)
theorem wd112 {a0 : Array Value} {Z : State} (hw : OW a0 Z) : (Jvm.Cond.methodLink "java/lang/String" (549 : Nat) nm24).before a0 Z = true := hw _ (List.mem_of_getElem? (i := 112) rfl)
theorem wd113 {a0 : Array Value} {Z : State} (hw : OW a0 Z) : (Jvm.Cond.declares nm24).before a0 Z = true := hw _ (List.mem_of_getElem? (i := 113) rfl)
theorem wd114 {a0 : Array Value} {Z : State} (hw : OW a0 Z) : (Jvm.Cond.instanceMethod nm24).before a0 Z = true := hw _ (List.mem_of_getElem? (i := 114) rfl)
theorem wd115 {a0 : Array Value} {Z : State} (hw : OW a0 Z) : (Jvm.Cond.selects "java/lang/StringBuilder" nm24 nm28).before a0 Z = true := hw _ (List.mem_of_getElem? (i := 115) rfl)
theorem wd116 {a0 : Array Value} {Z : State} (hw : OW a0 Z) : (Jvm.Cond.instanceMethod nm28).before a0 Z = true := hw _ (List.mem_of_getElem? (i := 116) rfl)
theorem wd117 {a0 : Array Value} {Z : State} (hw : OW a0 Z) : (Jvm.Cond.code nm28 jdk_67_method_93_code (1 : Nat) (Option.some Jvm.ClassFile.FieldType.int)).before a0 Z = true := hw _ (List.mem_of_getElem? (i := 117) rfl)
theorem wd118 {a0 : Array Value} {Z : State} (hw : OW a0 Z) : (Jvm.Cond.methodLink "java/lang/StringBuilder" (343 : Nat) nm24).before a0 Z = true := hw _ (List.mem_of_getElem? (i := 118) rfl)
theorem wd119 {a0 : Array Value} {Z : State} (hw : OW a0 Z) : (Jvm.Cond.code nm24 jdk_68_method_6_code (1 : Nat) (Option.some Jvm.ClassFile.FieldType.int)).before a0 Z = true := hw _ (List.mem_of_getElem? (i := 119) rfl)
theorem wd120 {a0 : Array Value} {Z : State} (hw : OW a0 Z) : (Jvm.Cond.methodLink "java/lang/String" (1047 : Nat) nm0).before a0 Z = true := hw _ (List.mem_of_getElem? (i := 120) rfl)
theorem wd121 {a0 : Array Value} {Z : State} (hw : OW a0 Z) : (Jvm.Cond.fieldLink "java/lang/String" (15 : Nat) "java/lang/String" "coder" "B").before a0 Z = true := hw _ (List.mem_of_getElem? (i := 121) rfl)
theorem wd122 {a0 : Array Value} {Z : State} (hw : OW a0 Z) : (Jvm.Cond.laysFinal "java/lang/String" "java/lang/String" "coder" "B").before a0 Z = true := hw _ (List.mem_of_getElem? (i := 122) rfl)
theorem wd123 {a0 : Array Value} {Z : State} (hw : OW a0 Z) : (Jvm.Cond.methodLink "java/lang/String" (54 : Nat) nm29).before a0 Z = true := hw _ (List.mem_of_getElem? (i := 123) rfl)
theorem wd124 {a0 : Array Value} {Z : State} (hw : OW a0 Z) : (Jvm.Cond.static nm29).before a0 Z = true := hw _ (List.mem_of_getElem? (i := 124) rfl)
theorem wd125 {a0 : Array Value} {Z : State} (hw : OW a0 Z) : (Jvm.Cond.code nm29 jdk_65_method_132_code (3 : Nat) (Option.some (Jvm.ClassFile.FieldType.array Jvm.ClassFile.FieldType.byte))).before a0 Z = true := hw _ (List.mem_of_getElem? (i := 125) rfl)
theorem wd126 {a0 : Array Value} {Z : State} (hw : OW a0 Z) : (Jvm.Cond.methodLink "java/util/Arrays" (310 : Nat) nm25).before a0 Z = true := hw _ (List.mem_of_getElem? (i := 126) rfl)
theorem wd127 {a0 : Array Value} {Z : State} (hw : OW a0 Z) : (Jvm.Cond.sameMethod "[B" "java/lang/Object" "clone" "()Ljava/lang/Object;").before a0 Z = true := hw _ (List.mem_of_getElem? (i := 127) rfl)
theorem wd129 {a0 : Array Value} {Z : State} (hw : OW a0 Z) : (Jvm.Cond.instanceMethod nm26).before a0 Z = true := hw _ (List.mem_of_getElem? (i := 129) rfl)
theorem wd130 {a0 : Array Value} {Z : State} (hw : OW a0 Z) : (Jvm.Cond.selects "[B" nm25 nm26).before a0 Z = true := hw _ (List.mem_of_getElem? (i := 130) rfl)
theorem wd131 {a0 : Array Value} {Z : State} (hw : OW a0 Z) : (Jvm.Cond.native nm26).before a0 Z = true := hw _ (List.mem_of_getElem? (i := 131) rfl)
theorem wd132 {a0 : Array Value} {Z : State} (hw : OW a0 Z) : (Jvm.Cond.castable "[B" "java/lang/Cloneable").before a0 Z = true := hw _ (List.mem_of_getElem? (i := 132) rfl)
theorem wd133 {a0 : Array Value} {Z : State} (hw : OW a0 Z) : (Jvm.Cond.classLink "java/util/Arrays" (311 : Nat) "[B").before a0 Z = true := hw _ (List.mem_of_getElem? (i := 133) rfl)
theorem wd135 {a0 : Array Value} {Z : State} (hw : OW a0 Z) : (Jvm.Cond.fieldLink "java/lang/String" (9 : Nat) "java/lang/String" "value" "[B").before a0 Z = true := hw _ (List.mem_of_getElem? (i := 135) rfl)
theorem wd136 {a0 : Array Value} {Z : State} (hw : OW a0 Z) : (Jvm.Cond.laysFinal "java/lang/String" "java/lang/String" "value" "[B").before a0 Z = true := hw _ (List.mem_of_getElem? (i := 136) rfl)
theorem wd137 {a0 : Array Value} {Z : State} (hw : OW a0 Z) : (Jvm.Cond.methodLink "com/example/annotree/annotree/tree/SingleByteDecoderWithoutIndexPinLaw" (17 : Nat) nm48).before a0 Z = true := hw _ (List.mem_of_getElem? (i := 137) rfl)
theorem wd138 {a0 : Array Value} {Z : State} (hw : OW a0 Z) : (Jvm.Cond.static nm48).before a0 Z = true := hw _ (List.mem_of_getElem? (i := 138) rfl)
theorem wd139 {a0 : Array Value} {Z : State} (hw : OW a0 Z) : (Jvm.Cond.initialized "com/example/annotree/annotree/tree/SingleByteDecoderWithoutIndexPinLaw").before a0 Z = true := hw _ (List.mem_of_getElem? (i := 139) rfl)
theorem wd140 {a0 : Array Value} {Z : State} (hw : OW a0 Z) : (Jvm.Cond.code nm48 method_5_code (3 : Nat) (Option.some Jvm.ClassFile.FieldType.boolean)).before a0 Z = true := hw _ (List.mem_of_getElem? (i := 140) rfl)
theorem wd141 {a0 : Array Value} {Z : State} (hw : OW a0 Z) : (Jvm.Cond.methodLink "com/example/annotree/annotree/tree/SingleByteDecoderWithoutIndexPinLaw" (34 : Nat) nm44).before a0 Z = true := hw _ (List.mem_of_getElem? (i := 141) rfl)
theorem wd142 {a0 : Array Value} {Z : State} (hw : OW a0 Z) : (Jvm.Cond.declares nm44).before a0 Z = true := hw _ (List.mem_of_getElem? (i := 142) rfl)
theorem wd143 {a0 : Array Value} {Z : State} (hw : OW a0 Z) : (Jvm.Cond.instanceMethod nm44).before a0 Z = true := hw _ (List.mem_of_getElem? (i := 143) rfl)
theorem wd144 {a0 : Array Value} {Z : State} (hw : OW a0 Z) : (Jvm.Cond.selects "java/lang/String" nm44 nm44).before a0 Z = true := hw _ (List.mem_of_getElem? (i := 144) rfl)
theorem wd145 {a0 : Array Value} {Z : State} (hw : OW a0 Z) : (Jvm.Cond.code nm44 jdk_42_method_54_code (1 : Nat) (Option.some Jvm.ClassFile.FieldType.int)).before a0 Z = true := hw _ (List.mem_of_getElem? (i := 145) rfl)
theorem wd146 {a0 : Array Value} {Z : State} (hw : OW a0 Z) : (Jvm.Cond.methodLink "java/lang/String" (335 : Nat) nm37).before a0 Z = true := hw _ (List.mem_of_getElem? (i := 146) rfl)
theorem wd147 {a0 : Array Value} {Z : State} (hw : OW a0 Z) : (Jvm.Cond.declares nm37).before a0 Z = true := hw _ (List.mem_of_getElem? (i := 147) rfl)
theorem wd148 {a0 : Array Value} {Z : State} (hw : OW a0 Z) : (Jvm.Cond.instanceMethod nm37).before a0 Z = true := hw _ (List.mem_of_getElem? (i := 148) rfl)
theorem wd149 {a0 : Array Value} {Z : State} (hw : OW a0 Z) : (Jvm.Cond.selects "java/lang/String" nm37 nm37).before a0 Z = true := hw _ (List.mem_of_getElem? (i := 149) rfl)
theorem wd150 {a0 : Array Value} {Z : State} (hw : OW a0 Z) : (Jvm.Cond.code nm37 jdk_42_method_152_code (1 : Nat) (Option.some Jvm.ClassFile.FieldType.byte)).before a0 Z = true := hw _ (List.mem_of_getElem? (i := 150) rfl)
theorem wd151 {a0 : Array Value} {Z : State} (hw : OW a0 Z) : (Jvm.Cond.fieldLink "java/lang/String" (38 : Nat) "java/lang/String" "COMPACT_STRINGS" "Z").before a0 Z = true := hw _ (List.mem_of_getElem? (i := 151) rfl)
theorem wd152 {a0 : Array Value} {Z : State} (hw : OW a0 Z) : (Jvm.Cond.methodLink "com/example/annotree/annotree/tree/SingleByteDecoderWithoutIndexPinLaw" (38 : Nat) nm45).before a0 Z = true := hw _ (List.mem_of_getElem? (i := 152) rfl)
theorem wd153 {a0 : Array Value} {Z : State} (hw : OW a0 Z) : (Jvm.Cond.static nm45).before a0 Z = true := hw _ (List.mem_of_getElem? (i := 153) rfl)
theorem wd154 {a0 : Array Value} {Z : State} (hw : OW a0 Z) : (Jvm.Cond.code nm45 method_4_code (4 : Nat) (Option.some Jvm.ClassFile.FieldType.boolean)).before a0 Z = true := hw _ (List.mem_of_getElem? (i := 154) rfl)
theorem wd155 {a0 : Array Value} {Z : State} (hw : OW a0 Z) : (Jvm.Cond.methodLink "com/example/annotree/annotree/tree/SingleByteDecoderWithoutIndexPinLaw" (24 : Nat) nm42).before a0 Z = true := hw _ (List.mem_of_getElem? (i := 155) rfl)
theorem wd156 {a0 : Array Value} {Z : State} (hw : OW a0 Z) : (Jvm.Cond.declares nm42).before a0 Z = true := hw _ (List.mem_of_getElem? (i := 156) rfl)
theorem wd157 {a0 : Array Value} {Z : State} (hw : OW a0 Z) : (Jvm.Cond.instanceMethod nm42).before a0 Z = true := hw _ (List.mem_of_getElem? (i := 157) rfl)
theorem wd158 {a0 : Array Value} {Z : State} (hw : OW a0 Z) : (Jvm.Cond.selects "java/lang/String" nm42 nm42).before a0 Z = true := hw _ (List.mem_of_getElem? (i := 158) rfl)
theorem wd159 {a0 : Array Value} {Z : State} (hw : OW a0 Z) : (Jvm.Cond.code nm42 jdk_42_method_56_code (2 : Nat) (Option.some Jvm.ClassFile.FieldType.char)).before a0 Z = true := hw _ (List.mem_of_getElem? (i := 159) rfl)
theorem wd160 {a0 : Array Value} {Z : State} (hw : OW a0 Z) : (Jvm.Cond.methodLink "java/lang/String" (492 : Nat) nm39).before a0 Z = true := hw _ (List.mem_of_getElem? (i := 160) rfl)
theorem wd161 {a0 : Array Value} {Z : State} (hw : OW a0 Z) : (Jvm.Cond.declares nm39).before a0 Z = true := hw _ (List.mem_of_getElem? (i := 161) rfl)
theorem wd162 {a0 : Array Value} {Z : State} (hw : OW a0 Z) : (Jvm.Cond.instanceMethod nm39).before a0 Z = true := hw _ (List.mem_of_getElem? (i := 162) rfl)
theorem wd163 {a0 : Array Value} {Z : State} (hw : OW a0 Z) : (Jvm.Cond.selects "java/lang/String" nm39 nm39).before a0 Z = true := hw _ (List.mem_of_getElem? (i := 163) rfl)
theorem wd164 {a0 : Array Value} {Z : State} (hw : OW a0 Z) : (Jvm.Cond.code nm39 jdk_42_method_154_code (1 : Nat) (Option.some Jvm.ClassFile.FieldType.boolean)).before a0 Z = true := hw _ (List.mem_of_getElem? (i := 164) rfl)
theorem wd165 {a0 : Array Value} {Z : State} (hw : OW a0 Z) : (Jvm.Cond.methodLink "java/lang/String" (495 : Nat) nm40).before a0 Z = true := hw _ (List.mem_of_getElem? (i := 165) rfl)
theorem wd166 {a0 : Array Value} {Z : State} (hw : OW a0 Z) : (Jvm.Cond.static nm40).before a0 Z = true := hw _ (List.mem_of_getElem? (i := 166) rfl)
theorem wd167 {a0 : Array Value} {Z : State} (hw : OW a0 Z) : (Jvm.Cond.code nm40 jdk_43_method_2_code (2 : Nat) (Option.some Jvm.ClassFile.FieldType.char)).before a0 Z = true := hw _ (List.mem_of_getElem? (i := 167) rfl)
theorem wd168 {a0 : Array Value} {Z : State} (hw : OW a0 Z) : (Jvm.Cond.methodLink "java/lang/StringLatin1" (9 : Nat) nm9).before a0 Z = true := hw _ (List.mem_of_getElem? (i := 168) rfl)
theorem wd169 {a0 : Array Value} {Z : State} (hw : OW a0 Z) : (Jvm.Cond.static nm9).before a0 Z = true := hw _ (List.mem_of_getElem? (i := 169) rfl)
theorem wd170 {a0 : Array Value} {Z : State} (hw : OW a0 Z) : (Jvm.Cond.code nm9 jdk_42_method_155_code (2 : Nat) (Option.none : Option Jvm.ClassFile.FieldType)).before a0 Z = true := hw _ (List.mem_of_getElem? (i := 170) rfl)
theorem wd171 {a0 : Array Value} {Z : State} (hw : OW a0 Z) : (Jvm.Cond.fieldLink "java/lang/String" (1053 : Nat) "jdk/internal/util/Preconditions" "SIOOBE_FORMATTER" "Ljava/util/function/BiFunction;").before a0 Z = true := hw _ (List.mem_of_getElem? (i := 171) rfl)
theorem wd172 {a0 : Array Value} {Z : State} (hw : OW a0 Z) : (Jvm.Cond.initialized "jdk/internal/util/Preconditions").before a0 Z = true := hw _ (List.mem_of_getElem? (i := 172) rfl)
theorem wd173 {a0 : Array Value} {Z : State} (hw : OW a0 Z) : (Jvm.Cond.methodLink "java/lang/String" (1059 : Nat) nm7).before a0 Z = true := hw _ (List.mem_of_getElem? (i := 173) rfl)
theorem wd174 {a0 : Array Value} {Z : State} (hw : OW a0 Z) : (Jvm.Cond.static nm7).before a0 Z = true := hw _ (List.mem_of_getElem? (i := 174) rfl)
theorem wd175 {a0 : Array Value} {Z : State} (hw : OW a0 Z) : (Jvm.Cond.code nm7 jdk_41_method_11_code (3 : Nat) (Option.some Jvm.ClassFile.FieldType.int)).before a0 Z = true := hw _ (List.mem_of_getElem? (i := 175) rfl)
theorem wd176 {a0 : Array Value} {Z : State} (hw : OW a0 Z) : (Jvm.Cond.methodLink "com/example/annotree/annotree/tree/SingleByteDecoderWithoutIndexPinLaw" (30 : Nat) nm43).before a0 Z = true := hw _ (List.mem_of_getElem? (i := 176) rfl)
theorem wd177 {a0 : Array Value} {Z : State} (hw : OW a0 Z) : (Jvm.Cond.static nm43).before a0 Z = true := hw _ (List.mem_of_getElem? (i := 177) rfl)
theorem wd178 {a0 : Array Value} {Z : State} (hw : OW a0 Z) : (Jvm.Cond.code nm43 method_3_code (2 : Nat) (Option.some Jvm.ClassFile.FieldType.char)).before a0 Z = true := hw _ (List.mem_of_getElem? (i := 178) rfl)
theorem wd179 {a0 : Array Value} {Z : State} (hw : OW a0 Z) : (Jvm.Cond.methodLink "com/example/annotree/annotree/tree/SingleByteDecoder" (37 : Nat) nm36).before a0 Z = true := hw _ (List.mem_of_getElem? (i := 179) rfl)
theorem wd180 {a0 : Array Value} {Z : State} (hw : OW a0 Z) : (Jvm.Cond.declares nm36).before a0 Z = true := hw _ (List.mem_of_getElem? (i := 180) rfl)
theorem wd181 {a0 : Array Value} {Z : State} (hw : OW a0 Z) : (Jvm.Cond.instanceMethod nm36).before a0 Z = true := hw _ (List.mem_of_getElem? (i := 181) rfl)
theorem wd182 {a0 : Array Value} {Z : State} (hw : OW a0 Z) : (Jvm.Cond.selects "com/example/annotree/annotree/tree/Index" nm36 nm36).before a0 Z = true := hw _ (List.mem_of_getElem? (i := 182) rfl)
theorem wd183 {a0 : Array Value} {Z : State} (hw : OW a0 Z) : (Jvm.Cond.code nm36 prog_25_method_7_code (2 : Nat) (Option.some Jvm.ClassFile.FieldType.int)).before a0 Z = true := hw _ (List.mem_of_getElem? (i := 183) rfl)
theorem wd184 {a0 : Array Value} {Z : State} (hw : OW a0 Z) : (Jvm.Cond.constant "com/example/annotree/annotree/tree/SingleByteDecoder" (45 : Nat) (65533 : Int32)).before a0 Z = true := hw _ (List.mem_of_getElem? (i := 184) rfl)
theorem wd185 {a0 : Array Value} {Z : State} (hw : OW a0 Z) : (Jvm.Cond.methodLink "java/lang/AbstractStringBuilder" (195 : Nat) nm22).before a0 Z = true := hw _ (List.mem_of_getElem? (i := 185) rfl)
theorem wd186 {a0 : Array Value} {Z : State} (hw : OW a0 Z) : (Jvm.Cond.instanceMethod nm22).before a0 Z = true := hw _ (List.mem_of_getElem? (i := 186) rfl)
theorem wd187 {a0 : Array Value} {Z : State} (hw : OW a0 Z) : (Jvm.Cond.privateMethod nm22).before a0 Z = true := hw _ (List.mem_of_getElem? (i := 187) rfl)
theorem wd188 {a0 : Array Value} {Z : State} (hw : OW a0 Z) : (Jvm.Cond.selects "java/lang/StringBuilder" nm22 nm22).before a0 Z = true := hw _ (List.mem_of_getElem? (i := 188) rfl)
theorem wd189 {a0 : Array Value} {Z : State} (hw : OW a0 Z) : (Jvm.Cond.code nm22 jdk_68_method_11_code (2 : Nat) (Option.none : Option Jvm.ClassFile.FieldType)).before a0 Z = true := hw _ (List.mem_of_getElem? (i := 189) rfl)
theorem wd190 {a0 : Array Value} {Z : State} (hw : OW a0 Z) : (Jvm.Cond.methodLink "java/lang/AbstractStringBuilder" (26 : Nat) nm17).before a0 Z = true := hw _ (List.mem_of_getElem? (i := 190) rfl)
theorem wd191 {a0 : Array Value} {Z : State} (hw : OW a0 Z) : (Jvm.Cond.static nm17).before a0 Z = true := hw _ (List.mem_of_getElem? (i := 191) rfl)
theorem wd192 {a0 : Array Value} {Z : State} (hw : OW a0 Z) : (Jvm.Cond.initialized "java/lang/StringUTF16").before a0 Z = true := hw _ (List.mem_of_getElem? (i := 192) rfl)
theorem wd193 {a0 : Array Value} {Z : State} (hw : OW a0 Z) : (Jvm.Cond.code nm17 jdk_52_method_2_code (1 : Nat) (Option.some (Jvm.ClassFile.FieldType.array Jvm.ClassFile.FieldType.byte))).before a0 Z = true := hw _ (List.mem_of_getElem? (i := 193) rfl)
theorem wd194 {a0 : Array Value} {Z : State} (hw : OW a0 Z) : (Jvm.Cond.methodLink "java/lang/StringUTF16" (11 : Nat) nm14).before a0 Z = true := hw _ (List.mem_of_getElem? (i := 194) rfl)
theorem wd195 {a0 : Array Value} {Z : State} (hw : OW a0 Z) : (Jvm.Cond.static nm14).before a0 Z = true := hw _ (List.mem_of_getElem? (i := 195) rfl)
theorem wd196 {a0 : Array Value} {Z : State} (hw : OW a0 Z) : (Jvm.Cond.code nm14 jdk_52_method_3_code (1 : Nat) (Option.some Jvm.ClassFile.FieldType.int)).before a0 Z = true := hw _ (List.mem_of_getElem? (i := 196) rfl)
theorem wd197 {a0 : Array Value} {Z : State} (hw : OW a0 Z) : (Jvm.Cond.constant "java/lang/StringUTF16" (20 : Nat) (1073741823 : Int32)).before a0 Z = true := hw _ (List.mem_of_getElem? (i := 197) rfl)
theorem wd198 {a0 : Array Value} {Z : State} (hw : OW a0 Z) : (Jvm.Cond.methodLink "java/lang/AbstractStringBuilder" (125 : Nat) nm18).before a0 Z = true := hw _ (List.mem_of_getElem? (i := 198) rfl)
theorem wd199 {a0 : Array Value} {Z : State} (hw : OW a0 Z) : (Jvm.Cond.static nm18).before a0 Z = true := hw _ (List.mem_of_getElem? (i := 199) rfl)
theorem wd200 {a0 : Array Value} {Z : State} (hw : OW a0 Z) : (Jvm.Cond.code nm18 jdk_43_method_50_code (5 : Nat) (Option.none : Option Jvm.ClassFile.FieldType)).before a0 Z = true := hw _ (List.mem_of_getElem? (i := 200) rfl)
theorem wd201 {a0 : Array Value} {Z : State} (hw : OW a0 Z) : (Jvm.Cond.methodLink "java/lang/StringLatin1" (240 : Nat) nm16).before a0 Z = true := hw _ (List.mem_of_getElem? (i := 201) rfl)
theorem wd202 {a0 : Array Value} {Z : State} (hw : OW a0 Z) : (Jvm.Cond.static nm16).before a0 Z = true := hw _ (List.mem_of_getElem? (i := 202) rfl)
theorem wd203 {a0 : Array Value} {Z : State} (hw : OW a0 Z) : (Jvm.Cond.code nm16 jdk_52_method_86_code (6 : Nat) (Option.none : Option Jvm.ClassFile.FieldType)).before a0 Z = true := hw _ (List.mem_of_getElem? (i := 203) rfl)
theorem wd204 {a0 : Array Value} {Z : State} (hw : OW a0 Z) : (Jvm.Cond.methodLink "java/lang/StringUTF16" (173 : Nat) nm15).before a0 Z = true := hw _ (List.mem_of_getElem? (i := 204) rfl)
theorem wd205 {a0 : Array Value} {Z : State} (hw : OW a0 Z) : (Jvm.Cond.static nm15).before a0 Z = true := hw _ (List.mem_of_getElem? (i := 205) rfl)
theorem wd206 {a0 : Array Value} {Z : State} (hw : OW a0 Z) : (Jvm.Cond.code nm15 jdk_52_method_94_code (3 : Nat) (Option.none : Option Jvm.ClassFile.FieldType)).before a0 Z = true := hw _ (List.mem_of_getElem? (i := 206) rfl)
theorem wd207 {a0 : Array Value} {Z : State} (hw : OW a0 Z) : (Jvm.Cond.methodLink "java/lang/StringUTF16" (48 : Nat) nm8).before a0 Z = true := hw _ (List.mem_of_getElem? (i := 207) rfl)
theorem wd208 {a0 : Array Value} {Z : State} (hw : OW a0 Z) : (Jvm.Cond.static nm8).before a0 Z = true := hw _ (List.mem_of_getElem? (i := 208) rfl)
theorem wd209 {a0 : Array Value} {Z : State} (hw : OW a0 Z) : (Jvm.Cond.code nm8 jdk_52_method_6_code (1 : Nat) (Option.some Jvm.ClassFile.FieldType.int)).before a0 Z = true := hw _ (List.mem_of_getElem? (i := 209) rfl)
theorem wd210 {a0 : Array Value} {Z : State} (hw : OW a0 Z) : (Jvm.Cond.methodLink "java/lang/StringUTF16" (419 : Nat) nm13).before a0 Z = true := hw _ (List.mem_of_getElem? (i := 210) rfl)
theorem wd211 {a0 : Array Value} {Z : State} (hw : OW a0 Z) : (Jvm.Cond.static nm13).before a0 Z = true := hw _ (List.mem_of_getElem? (i := 211) rfl)
theorem wd212 {a0 : Array Value} {Z : State} (hw : OW a0 Z) : (Jvm.Cond.code nm13 jdk_42_method_157_code (3 : Nat) (Option.some Jvm.ClassFile.FieldType.int)).before a0 Z = true := hw _ (List.mem_of_getElem? (i := 212) rfl)
theorem wd213 {a0 : Array Value} {Z : State} (hw : OW a0 Z) : (Jvm.Cond.methodLink "java/lang/String" (1065 : Nat) nm12).before a0 Z = true := hw _ (List.mem_of_getElem? (i := 213) rfl)
theorem wd214 {a0 : Array Value} {Z : State} (hw : OW a0 Z) : (Jvm.Cond.static nm12).before a0 Z = true := hw _ (List.mem_of_getElem? (i := 214) rfl)
theorem wd215 {a0 : Array Value} {Z : State} (hw : OW a0 Z) : (Jvm.Cond.code nm12 jdk_41_method_13_code (4 : Nat) (Option.some Jvm.ClassFile.FieldType.int)).before a0 Z = true := hw _ (List.mem_of_getElem? (i := 215) rfl)
theorem wd216 {a0 : Array Value} {Z : State} (hw : OW a0 Z) : (Jvm.Cond.methodLink "java/lang/StringUTF16" (111 : Nat) nm11).before a0 Z = true := hw _ (List.mem_of_getElem? (i := 216) rfl)
theorem wd217 {a0 : Array Value} {Z : State} (hw : OW a0 Z) : (Jvm.Cond.static nm11).before a0 Z = true := hw _ (List.mem_of_getElem? (i := 217) rfl)
theorem wd218 {a0 : Array Value} {Z : State} (hw : OW a0 Z) : (Jvm.Cond.code nm11 jdk_52_method_4_code (3 : Nat) (Option.none : Option Jvm.ClassFile.FieldType)).before a0 Z = true := hw _ (List.mem_of_getElem? (i := 218) rfl)
theorem wd219 {a0 : Array Value} {Z : State} (hw : OW a0 Z) : (Jvm.Cond.fieldLink "java/lang/StringUTF16" (44 : Nat) "java/lang/StringUTF16" "$assertionsDisabled" "Z").before a0 Z = true := hw _ (List.mem_of_getElem? (i := 219) rfl)
theorem wd220 {a0 : Array Value} {Z : State} (hw : OW a0 Z) : (Jvm.Cond.fieldLink "java/lang/StringUTF16" (59 : Nat) "java/lang/StringUTF16" "HI_BYTE_SHIFT" "I").before a0 Z = true := hw _ (List.mem_of_getElem? (i := 220) rfl)
theorem wd221 {a0 : Array Value} {Z : State} (hw : OW a0 Z) : (Jvm.Cond.fieldLink "java/lang/StringUTF16" (63 : Nat) "java/lang/StringUTF16" "LO_BYTE_SHIFT" "I").before a0 Z = true := hw _ (List.mem_of_getElem? (i := 221) rfl)
theorem wd222 {a0 : Array Value} {Z : State} (hw : OW a0 Z) : (Jvm.Cond.methodLink "java/lang/AbstractStringBuilder" (197 : Nat) nm21).before a0 Z = true := hw _ (List.mem_of_getElem? (i := 222) rfl)
theorem wd223 {a0 : Array Value} {Z : State} (hw : OW a0 Z) : (Jvm.Cond.static nm21).before a0 Z = true := hw _ (List.mem_of_getElem? (i := 223) rfl)
theorem wd224 {a0 : Array Value} {Z : State} (hw : OW a0 Z) : (Jvm.Cond.code nm21 jdk_52_method_71_code (3 : Nat) (Option.none : Option Jvm.ClassFile.FieldType)).before a0 Z = true := hw _ (List.mem_of_getElem? (i := 224) rfl)
theorem wd225 {a0 : Array Value} {Z : State} (hw : OW a0 Z) : (Jvm.Cond.methodLink "java/lang/StringUTF16" (67 : Nat) nm10).before a0 Z = true := hw _ (List.mem_of_getElem? (i := 225) rfl)
theorem wd226 {a0 : Array Value} {Z : State} (hw : OW a0 Z) : (Jvm.Cond.static nm10).before a0 Z = true := hw _ (List.mem_of_getElem? (i := 226) rfl)
theorem wd227 {a0 : Array Value} {Z : State} (hw : OW a0 Z) : (Jvm.Cond.code nm10 jdk_52_method_91_code (2 : Nat) (Option.none : Option Jvm.ClassFile.FieldType)).before a0 Z = true := hw _ (List.mem_of_getElem? (i := 227) rfl)
theorem wd228 {a0 : Array Value} {Z : State} (hw : OW a0 Z) : (Jvm.Cond.methodLink "java/lang/StringUTF16" (414 : Nat) nm9).before a0 Z = true := hw _ (List.mem_of_getElem? (i := 228) rfl)
theorem wd229 {a0 : Array Value} {Z : State} (hw : OW a0 Z) : (Jvm.Cond.fieldLink "java/lang/String" (1048 : Nat) "java/lang/AbstractStringBuilder" "maybeLatin1" "Z").before a0 Z = true := hw _ (List.mem_of_getElem? (i := 229) rfl)
theorem wd230 {a0 : Array Value} {Z : State} (hw : OW a0 Z) : (Jvm.Cond.lays "java/lang/StringBuilder" "java/lang/AbstractStringBuilder" "maybeLatin1" "Z").before a0 Z = true := hw _ (List.mem_of_getElem? (i := 230) rfl)
theorem wd231 {a0 : Array Value} {Z : State} (hw : OW a0 Z) : (Jvm.Cond.methodLink "java/lang/String" (498 : Nat) nm41).before a0 Z = true := hw _ (List.mem_of_getElem? (i := 231) rfl)
theorem wd232 {a0 : Array Value} {Z : State} (hw : OW a0 Z) : (Jvm.Cond.static nm41).before a0 Z = true := hw _ (List.mem_of_getElem? (i := 232) rfl)
theorem wd233 {a0 : Array Value} {Z : State} (hw : OW a0 Z) : (Jvm.Cond.code nm41 jdk_52_method_83_code (2 : Nat) (Option.some Jvm.ClassFile.FieldType.char)).before a0 Z = true := hw _ (List.mem_of_getElem? (i := 233) rfl)
theorem wd234 {a0 : Array Value} {Z : State} (hw : OW a0 Z) : (Jvm.Cond.methodLink "java/lang/StringUTF16" (71 : Nat) nm38).before a0 Z = true := hw _ (List.mem_of_getElem? (i := 234) rfl)
theorem wd235 {a0 : Array Value} {Z : State} (hw : OW a0 Z) : (Jvm.Cond.static nm38).before a0 Z = true := hw _ (List.mem_of_getElem? (i := 235) rfl)
theorem wd236 {a0 : Array Value} {Z : State} (hw : OW a0 Z) : (Jvm.Cond.code nm38 jdk_52_method_5_code (2 : Nat) (Option.some Jvm.ClassFile.FieldType.char)).before a0 Z = true := hw _ (List.mem_of_getElem? (i := 236) rfl)
theorem wd237 {a0 : Array Value} {Z : State} (hw : OW a0 Z) : (Jvm.Cond.constant "com/example/annotree/annotree/tree/SingleByteDecoderWithoutIndexPinLaw" (23 : Nat) (65533 : Int32)).before a0 Z = true := hw _ (List.mem_of_getElem? (i := 237) rfl)
theorem own_irem (a r : Int32) : (a - (a / r) * r) = a % r := irem_eq_mod a r
theorem own_rem {q r : Int32} (k : Int) (hk : r.toInt = k) (h0 : 0 < k) {v : Int32} (hv : v = ((q &&& (2147483647 : Int32)) - ((q &&& (2147483647 : Int32)) / r) * r)) : 0 ≤ v.toInt ∧ v.toInt < k := by
  have h1 := c_mask q 2147483647 31 (by decide) (by decide)
  have e : v = (q &&& (2147483647 : Int32)) % r := by
    rw [hv]; exact own_irem _ _
  have h2 := c_irem (q &&& (2147483647 : Int32)) r k hk
  rw [← e] at h2
  have h3 : 0 ≤ (q &&& (2147483647 : Int32)).toInt := by omega
  rw [h2.1 h3]
  exact ⟨Int.emod_nonneg _ (by omega), Int.emod_lt_of_pos _ h0⟩
theorem own_lit {v : Int32} (n : Int32) (h : v.toInt = n.toInt) : v = n := Int32.toInt_inj.mp h
def Amb (Z : State) (G1 : Int32) (G2 : Value) : Prop := Sta Z Z.heap "java/lang/String" "COMPACT_STRINGS" "Z" (.int G1) ∧ Sta Z Z.heap "jdk/internal/util/Preconditions" "SIOOBE_FORMATTER" "Ljava/util/function/BiFunction;" G2 ∧ Sta Z Z.heap "java/lang/StringUTF16" "$assertionsDisabled" "Z" (.int (1 : Int32)) ∧ Sta Z Z.heap "java/lang/StringUTF16" "HI_BYTE_SHIFT" "I" (.int (0 : Int32)) ∧ Sta Z Z.heap "java/lang/StringUTF16" "LO_BYTE_SHIFT" "I" (.int (8 : Int32)) ∧ (¬ (G1 = (0 : Int32))) ∧ (G2.isRef = true) ∧ True
theorem Amb.a0 {Z : State} {G1 : Int32} {G2 : Value} (A : Amb Z G1 G2) : Sta Z Z.heap "java/lang/String" "COMPACT_STRINGS" "Z" (.int G1) := A.1
theorem Amb.a1 {Z : State} {G1 : Int32} {G2 : Value} (A : Amb Z G1 G2) : Sta Z Z.heap "jdk/internal/util/Preconditions" "SIOOBE_FORMATTER" "Ljava/util/function/BiFunction;" G2 := A.2.1
theorem Amb.a2 {Z : State} {G1 : Int32} {G2 : Value} (A : Amb Z G1 G2) : Sta Z Z.heap "java/lang/StringUTF16" "$assertionsDisabled" "Z" (.int (1 : Int32)) := A.2.2.1
theorem Amb.a3 {Z : State} {G1 : Int32} {G2 : Value} (A : Amb Z G1 G2) : Sta Z Z.heap "java/lang/StringUTF16" "HI_BYTE_SHIFT" "I" (.int (0 : Int32)) := A.2.2.2.1
theorem Amb.a4 {Z : State} {G1 : Int32} {G2 : Value} (A : Amb Z G1 G2) : Sta Z Z.heap "java/lang/StringUTF16" "LO_BYTE_SHIFT" "I" (.int (8 : Int32)) := A.2.2.2.2.1
theorem Amb.g1 {Z : State} {G1 : Int32} {G2 : Value} (A : Amb Z G1 G2) : ¬ (G1 = (0 : Int32)) := A.2.2.2.2.2.1
theorem Amb.g2 {Z : State} {G1 : Int32} {G2 : Value} (A : Amb Z G1 G2) : G2.isRef = true := A.2.2.2.2.2.2.1

def own_b8 (q : Int32) : Int32 := nar .byte (q.toInt8.toInt32)
def own_e0 (q : Int32) : Int32 := nar .byte ((q >>> ((0 : Int32) &&& 31)).toInt8.toInt32)
def own_e1 (q : Int32) : Int32 := nar .byte ((q >>> ((8 : Int32) &&& 31)).toInt8.toInt32)
def own_lc (y : Int32) : Int32 := nar .char ((y &&& (255 : Int32)).toUInt32.toUInt16.toUInt32.toInt32)
def own_u (y0 y1 : Int32) : Int32 := nar .char ((((y0 &&& (255 : Int32)) <<< ((0 : Int32) &&& 31)) ||| ((y1 &&& (255 : Int32)) <<< ((8 : Int32) &&& 31))).toUInt32.toUInt16.toUInt32.toInt32)
def own_exp (b : Int32) : Int32 := if (b &&& (255 : Int32)) < (128 : Int32) then (b &&& (255 : Int32)) else (65533 : Int32)
def own_ok (x : Int32) : Bool := nar .char (x.toUInt32.toUInt16.toUInt32.toInt32) == x && own_lc (own_b8 (x.toUInt32.toUInt16.toUInt32.toInt32)) == x && own_u (own_e0 (x.toUInt32.toUInt16.toUInt32.toInt32)) (own_e1 (x.toUInt32.toUInt16.toUInt32.toInt32)) == x && own_u (own_e0 (own_b8 (x.toUInt32.toUInt16.toUInt32.toInt32) &&& (255 : Int32))) (own_e1 (own_b8 (x.toUInt32.toUInt16.toUInt32.toInt32) &&& (255 : Int32))) == x && !decide ((255 : Int32) < x.toUInt32.toUInt16.toUInt32.toInt32)
theorem own_fin : ∀ k : Fin 128, own_ok (Int32.ofNat k.val) = true := by decide +kernel
theorem own_x128 {b : Int32} (h : (b &&& (255 : Int32)) < (128 : Int32)) : own_ok (b &&& (255 : Int32)) = true := by
  have h1 := c_mask b 255 8 (by decide) (by decide)
  have h2 := Int32.lt_iff_toInt_lt.mp h
  have e2 : (128 : Int32).toInt = 128 := rfl
  have h3 : 0 ≤ (b &&& (255 : Int32)).toInt := by omega
  have e : (b &&& (255 : Int32)) = Int32.ofNat (b &&& (255 : Int32)).toInt.toNat := by
    apply Int32.toInt_inj.mp
    rw [Int32.toInt_ofNat_of_lt (by omega)]
    omega
  rw [e]
  exact own_fin ⟨(b &&& (255 : Int32)).toInt.toNat, by omega⟩
theorem own_okE {x : Int32} (h : own_ok x = true) : nar .char (x.toUInt32.toUInt16.toUInt32.toInt32) = x ∧ own_lc (own_b8 (x.toUInt32.toUInt16.toUInt32.toInt32)) = x ∧ own_u (own_e0 (x.toUInt32.toUInt16.toUInt32.toInt32)) (own_e1 (x.toUInt32.toUInt16.toUInt32.toInt32)) = x ∧ own_u (own_e0 (own_b8 (x.toUInt32.toUInt16.toUInt32.toInt32) &&& (255 : Int32))) (own_e1 (own_b8 (x.toUInt32.toUInt16.toUInt32.toInt32) &&& (255 : Int32))) = x ∧ ¬ (255 : Int32) < x.toUInt32.toUInt16.toUInt32.toInt32 := by
  unfold own_ok at h
  simp only [Bool.and_eq_true, beq_iff_eq, Bool.not_eq_true', decide_eq_false_iff_not] at h
  obtain ⟨⟨⟨⟨h1, h2⟩, h3⟩, h4⟩, h5⟩ := h
  exact ⟨h1, h2, h3, h4, h5⟩
theorem own_expY {b : Int32} (h : (b &&& (255 : Int32)) < (128 : Int32)) : own_exp b = (b &&& (255 : Int32)) := if_pos h
theorem own_expN {b : Int32} (h : ¬ (b &&& (255 : Int32)) < (128 : Int32)) : own_exp b = (65533 : Int32) := if_neg h
theorem own_P1 {b : Int32} (h : (b &&& (255 : Int32)) < (128 : Int32)) : own_lc (own_b8 ((b &&& (255 : Int32)).toUInt32.toUInt16.toUInt32.toInt32)) = own_exp b := (own_okE (own_x128 h)).2.1.trans (own_expY h).symm
theorem own_P2 {b : Int32} (h : (b &&& (255 : Int32)) < (128 : Int32)) : own_u (own_e0 ((b &&& (255 : Int32)).toUInt32.toUInt16.toUInt32.toInt32)) (own_e1 ((b &&& (255 : Int32)).toUInt32.toUInt16.toUInt32.toInt32)) = own_exp b := (own_okE (own_x128 h)).2.2.1.trans (own_expY h).symm
theorem own_P3 {b : Int32} (h : (b &&& (255 : Int32)) < (128 : Int32)) : own_u (own_e0 (own_b8 ((b &&& (255 : Int32)).toUInt32.toUInt16.toUInt32.toInt32) &&& (255 : Int32))) (own_e1 (own_b8 ((b &&& (255 : Int32)).toUInt32.toUInt16.toUInt32.toInt32) &&& (255 : Int32))) = own_exp b := (own_okE (own_x128 h)).2.2.2.1.trans (own_expY h).symm
theorem own_P4 {b : Int32} (h : ¬ (b &&& (255 : Int32)) < (128 : Int32)) : own_u (own_e0 (65533 : Int32)) (own_e1 (65533 : Int32)) = own_exp b := (show own_u (own_e0 (65533 : Int32)) (own_e1 (65533 : Int32)) = (65533 : Int32) by decide +kernel).trans (own_expN h).symm
theorem own_q255 {b : Int32} (h : (b &&& (255 : Int32)) < (128 : Int32)) : ¬ (255 : Int32) < (b &&& (255 : Int32)).toUInt32.toUInt16.toUInt32.toInt32 := (own_okE (own_x128 h)).2.2.2.2
theorem own_ex1 {b : Int32} (h : (b &&& (255 : Int32)) < (128 : Int32)) : some (Value.int (nar .char ((b &&& (255 : Int32)).toUInt32.toUInt16.toUInt32.toInt32))) = some (Value.int (own_exp b)) := by rw [(own_okE (own_x128 h)).1, own_expY h]
theorem own_ex2 {b : Int32} (h : ¬ (b &&& (255 : Int32)) < (128 : Int32)) : some (Value.int (nar .char (65533 : Int32))) = some (Value.int (own_exp b)) := by rw [own_expN h]; rfl
theorem own_nn (x : Int32) : nar .char (nar .char x) = nar .char x := by
  have h1 := c_i2c x
  have h2 := c_i2c (x.toUInt32.toUInt16.toUInt32.toInt32)
  show (x.toUInt32.toUInt16.toUInt32.toInt32).toUInt32.toUInt16.toUInt32.toInt32 = x.toUInt32.toUInt16.toUInt32.toInt32
  apply Int32.toInt_inj.mp
  omega
theorem own_jr {b : Int32} (h : ¬ (b &&& (255 : Int32)) < (128 : Int32)) : ¬ ((b &&& (255 : Int32)) - (128 : Int32)) < (0 : Int32) ∧ ((b &&& (255 : Int32)) - (128 : Int32)) < (128 : Int32) := by
  have h1 := c_mask b 255 8 (by decide) (by decide)
  rw [Int32.lt_iff_toInt_lt] at h
  rw [Int32.lt_iff_toInt_lt, Int32.lt_iff_toInt_lt]
  have e2 : (128 : Int32).toInt = 128 := rfl
  have e0 : (0 : Int32).toInt = 0 := rfl
  have h2 := c_isub (b &&& (255 : Int32)) 128
  have r := rng32 ((b &&& (255 : Int32)) - 128)
  omega
theorem own_j128 {j : Int32} (h0 : ¬ j < (0 : Int32)) (h1 : j < (128 : Int32)) : j.toNatClampNeg < 128 := by
  rw [Int32.lt_iff_toInt_lt] at h0 h1
  have e2 : (128 : Int32).toInt = 128 := rfl
  have e0 : (0 : Int32).toInt = 0 := rfl
  simp only [Int32.toNatClampNeg]; omega
theorem own_i128 {ii : Int32} (hii : 0 ≤ ii.toInt ∧ ii.toInt ≤ 128) (h : ii < (128 : Int32)) : ¬ ii < (0 : Int32) ∧ ii < (128 : Int32) := by
  refine ⟨?_, h⟩
  rw [Int32.lt_iff_toInt_lt]
  have e0 : (0 : Int32).toInt = 0 := rfl
  omega
theorem own_fs0 {ii : Int32} (h : ii < (128 : Int32)) (hm : (128 : Int) ≤ ii.toInt + ((0 : Nat) : Int)) : False := by
  rw [Int32.lt_iff_toInt_lt] at h
  have e2 : (128 : Int32).toInt = 128 := rfl
  omega
theorem own_inc {ii : Int32} (hii : 0 ≤ ii.toInt ∧ ii.toInt ≤ 128) (h : ii < (128 : Int32)) : (ii + (1 : Int32)).toInt = ii.toInt + 1 := by
  rw [Int32.lt_iff_toInt_lt] at h
  have e2 : (128 : Int32).toInt = 128 := rfl
  have e1 : (1 : Int32).toInt = 1 := rfl
  have h2 := c_iadd ii 1
  have r := rng32 (ii + 1)
  omega
theorem own_fs1 {ii : Int32} (hii : 0 ≤ ii.toInt ∧ ii.toInt ≤ 128) (h : ii < (128 : Int32)) : 0 ≤ (ii + (1 : Int32)).toInt ∧ (ii + (1 : Int32)).toInt ≤ 128 := by
  rw [own_inc hii h]
  rw [Int32.lt_iff_toInt_lt] at h
  have e2 : (128 : Int32).toInt = 128 := rfl
  omega
theorem own_fs2 {ii q : Int32} {vs : List Value} (hii : 0 ≤ ii.toInt ∧ ii.toInt ≤ 128) (h : ii < (128 : Int32)) (hl : vs.length = 128) (hv : ∀ j : Nat, (j : Int) < ii.toInt → vs.getD j (.int (0 : Int32)) = .int q) : ∀ j : Nat, (j : Int) < (ii + (1 : Int32)).toInt → (vs.set (ii).toNatClampNeg (.int q)).getD j (.int (0 : Int32)) = .int q := by
  intro j hj
  rw [own_inc hii h] at hj
  have e : ii.toNatClampNeg = ii.toInt.toNat := rfl
  have h2 := Int32.lt_iff_toInt_lt.mp h
  have e2 : (128 : Int32).toInt = 128 := rfl
  simp only [List.getD_eq_getElem?_getD]
  by_cases q1 : ii.toNatClampNeg = j
  · subst q1
    rw [List.getElem?_set_self (by rw [hl, e]; omega)]
    rfl
  · rw [List.getElem?_set_ne q1]
    have := hv j (by rw [e] at q1; omega)
    rwa [List.getD_eq_getElem?_getD] at this
theorem own_fs3 {ii : Int32} {kJ : Nat} (hii : 0 ≤ ii.toInt ∧ ii.toInt ≤ 128) (h : ii < (128 : Int32)) (hm : (128 : Int) ≤ ii.toInt + ((kJ + 1 : Nat) : Int)) : (128 : Int) ≤ (ii + (1 : Int32)).toInt + (kJ : Int) := by
  rw [own_inc hii h]; omega
theorem own_fs4 {ii q : Int32} {vs : List Value} (hii : 0 ≤ ii.toInt ∧ ii.toInt ≤ 128) (h : ¬ ii < (128 : Int32)) (hv : ∀ j : Nat, (j : Int) < ii.toInt → vs.getD j (.int (0 : Int32)) = .int q) : ∀ j : Nat, j < 128 → vs.getD j (.int (0 : Int32)) = .int q := by
  intro j hj
  rw [Int32.lt_iff_toInt_lt] at h
  have e2 : (128 : Int32).toInt = 128 := rfl
  exact hv j (by omega)
theorem own_f5 {q z : Int32} (hv : z = ((q &&& (7 : Int32)) - ((q &&& (7 : Int32)) / (5 : Int32)) * (5 : Int32))) : z = (0 : Int32) ∨ z = (1 : Int32) ∨ z = (2 : Int32) ∨ z = (3 : Int32) ∨ z = (4 : Int32) := by
  have h1 := c_mask q 7 3 (by decide) (by decide)
  have e : z = (q &&& (7 : Int32)) % (5 : Int32) := by rw [hv]; exact own_irem _ _
  have h2 := c_irem (q &&& (7 : Int32)) 5 5 rfl
  rw [← e] at h2
  have h3 : 0 ≤ (q &&& (7 : Int32)).toInt := by omega
  have h4 := h2.1 h3
  have h5 := Int.emod_nonneg (q &&& (7 : Int32)).toInt (show (5 : Int) ≠ 0 by decide)
  have h6 := Int.emod_lt_of_pos (q &&& (7 : Int32)).toInt (show (0 : Int) < 5 by decide)
  have h7 : z.toInt = 0 ∨ z.toInt = 1 ∨ z.toInt = 2 ∨ z.toInt = 3 ∨ z.toInt = 4 := by omega
  rcases h7 with h | h | h | h | h
  · exact Or.inl (own_lit 0 h)
  · exact Or.inr (Or.inl (own_lit 1 h))
  · exact Or.inr (Or.inr (Or.inl (own_lit 2 h)))
  · exact Or.inr (Or.inr (Or.inr (Or.inl (own_lit 3 h))))
  · exact Or.inr (Or.inr (Or.inr (Or.inr (own_lit 4 h))))

def own_la (ys : List Int32) (cap : Nat) : List Value := ys.map Value.int ++ List.replicate (cap - ys.length) (.int (0 : Int32))
def own_fl : List (Int32 × Int32) → List Value
  | [] => []
  | (a, b) :: r => .int a :: .int b :: own_fl r
def own_ua (ps : List (Int32 × Int32)) (cap : Nat) : List Value := own_fl ps ++ List.replicate (2 * (cap - ps.length)) (.int (0 : Int32))
def own_pr (y : Int32) : Int32 × Int32 := (own_e0 (y &&& (255 : Int32)), own_e1 (y &&& (255 : Int32)))
theorem own_la_get {ys : List Int32} {cap j : Nat} (hj : j < ys.length) : (own_la ys cap).getD j (.int (0 : Int32)) = .int (ys.getD j 0) := by
  unfold own_la
  simp only [List.getD_eq_getElem?_getD]
  rw [List.getElem?_append_left (by rw [List.length_map]; exact hj), List.getElem?_map, List.getElem?_eq_getElem hj]
  rfl
theorem own_fl_app (ps : List (Int32 × Int32)) (a b : Int32) : own_fl (ps ++ [(a, b)]) = own_fl ps ++ [.int a, .int b] := by
  induction ps with
  | nil => rfl
  | cons x r ih =>
    obtain ⟨c, d⟩ := x
    show .int c :: .int d :: own_fl (r ++ [(a, b)]) = _
    rw [ih]; rfl
theorem own_fl_len (ps : List (Int32 × Int32)) : (own_fl ps).length = 2 * ps.length := by
  induction ps with
  | nil => rfl
  | cons x r ih =>
    obtain ⟨c, d⟩ := x
    show (own_fl r).length + 1 + 1 = _
    rw [ih, List.length_cons]; omega
theorem own_ua_len {ps : List (Int32 × Int32)} {cap : Nat} (h : ps.length ≤ cap) : (own_ua ps cap).length = 2 * cap := by
  unfold own_ua
  rw [List.length_append, own_fl_len, List.length_replicate]; omega
theorem own_ua_put {ps : List (Int32 × Int32)} {cap : Nat} {a b : Int32} (h : ps.length < cap) : ((own_ua ps cap).set (2 * ps.length) (.int a)).set (2 * ps.length + 1) (.int b) = own_ua (ps ++ [(a, b)]) cap := by
  unfold own_ua
  have e1 : 2 * (cap - ps.length) = 2 * (cap - (ps ++ [(a, b)]).length) + 1 + 1 := by rw [List.length_append, List.length_singleton]; omega
  rw [e1, List.replicate_succ, List.replicate_succ, own_fl_app]
  rw [List.set_append_right (h := by rw [own_fl_len]; omega), own_fl_len, Nat.sub_self]
  rw [List.set_append_right (h := by rw [own_fl_len]; omega), own_fl_len]
  have e2 : 2 * ps.length + 1 - 2 * ps.length = 1 := by omega
  rw [e2, List.append_assoc]
  rfl
theorem own_sh1 {n : Int32} {k : Nat} (h : n.toInt = (k : Int)) (hk : k < 1000000) : (n <<< ((1 : Int32) &&& 31)).toInt = 2 * (k : Int) := by
  have h1 := c_ishl n 1 1 (by decide)
  have r := rng32 (n <<< ((1 : Int32) &&& 31))
  have e : ((2 ^ 1 : Nat) : Int) = 2 := rfl
  rw [e, h] at h1
  omega
theorem own_cl {n : Int32} {k : Nat} (h : n.toInt = (k : Int)) : n.toNatClampNeg = k := by
  show n.toInt.toNat = k
  omega
theorem own_cl1 {n : Int32} {k : Nat} (h : n.toInt = 2 * (k : Int)) (hk : k < 1000000) : n.toNatClampNeg = 2 * k ∧ (n + (1 : Int32)).toNatClampNeg = 2 * k + 1 ∧ (n + (1 : Int32)).toInt = 2 * (k : Int) + 1 := by
  have h1 := c_iadd n 1
  have e1 : (1 : Int32).toInt = 1 := rfl
  have r := rng32 (n + 1)
  have h2 : (n + (1 : Int32)).toInt = 2 * (k : Int) + 1 := by omega
  refine ⟨?_, ?_, h2⟩
  · show n.toInt.toNat = _; omega
  · show (n + 1).toInt.toNat = _; omega
theorem own_lt32 {a b : Int32} {x y : Int} (ha : a.toInt = x) (hb : b.toInt = y) : (a < b ↔ x < y) := by rw [Int32.lt_iff_toInt_lt, ha, hb]
theorem own_take {ys : List Int32} {ii : Int32} (h0 : 0 ≤ ii.toInt) (h1 : ii.toInt < ys.length) (hi : (ii + (1 : Int32)).toInt = ii.toInt + 1) : (ys.take (ii + (1 : Int32)).toInt.toNat).map own_pr = (ys.take ii.toInt.toNat).map own_pr ++ [own_pr (ys.getD ii.toNatClampNeg 0)] := by
  have e : (ii + (1 : Int32)).toInt.toNat = ii.toInt.toNat + 1 := by omega
  have e2 : ii.toNatClampNeg = ii.toInt.toNat := rfl
  rw [e, e2, List.take_succ, List.map_append, List.getElem?_eq_getElem (by omega), List.getD_eq_getElem?_getD, List.getElem?_eq_getElem (by omega)]
  rfl
theorem own_inc4 {ii : Int32} {n : Nat} (h0 : 0 ≤ ii.toInt) (h1 : ii.toInt < n) (hn : n ≤ 4) : (ii + (1 : Int32)).toInt = ii.toInt + 1 := by
  have h := c_iadd ii 1
  have e1 : (1 : Int32).toInt = 1 := rfl
  have r := rng32 (ii + 1)
  omega
/-- what a turn of the loop wants of its index -/
theorem own_tix {ii nn zz z2 : Int32} {ys : List Int32} {cap : Nat} (hii : 0 ≤ ii.toInt ∧ ii.toInt ≤ ys.length) (hc : ii < nn) (hz : zz.toInt = (cap : Int)) (hz2 : z2.toInt = 2 * (cap : Int)) (hn : nn.toInt = (ys.length : Int)) (hle : ys.length ≤ cap) (hc4 : cap ≤ 4) :
    (ii.toInt < ys.length ∧ (¬ ii < (0 : Int32) ∧ ii < zz)) ∧ (¬ (ii <<< ((1 : Int32) &&& 31)) < (0 : Int32) ∧ (ii <<< ((1 : Int32) &&& 31)) < z2) ∧ (¬ ((ii <<< ((1 : Int32) &&& 31)) + (1 : Int32)) < (0 : Int32) ∧ ((ii <<< ((1 : Int32) &&& 31)) + (1 : Int32)) < z2) ∧ (ii <<< ((1 : Int32) &&& 31)).toNatClampNeg = 2 * ii.toInt.toNat ∧ ((ii <<< ((1 : Int32) &&& 31)) + (1 : Int32)).toNatClampNeg = 2 * ii.toInt.toNat + 1 := by
  rw [Int32.lt_iff_toInt_lt, hn] at hc
  have e0 : (0 : Int32).toInt = 0 := rfl
  have hk : ii.toInt = (ii.toInt.toNat : Int) := by omega
  have h1 := own_sh1 hk (by omega)
  obtain ⟨h2, h3, h4⟩ := own_cl1 h1 (by omega)
  refine ⟨⟨hc, ?_, ?_⟩, ⟨?_, ?_⟩, ⟨?_, ?_⟩, h2, h3⟩
  all_goals rw [Int32.lt_iff_toInt_lt]
  all_goals omega
theorem own_ns0 {ys : List Int32} {cap : Nat} : own_ua ((ys.take (0 : Int32).toInt.toNat).map own_pr) cap = own_ua [] cap := rfl
theorem own_nsE {ii nn : Int32} {ys : List Int32} {cap : Nat} (hii : 0 ≤ ii.toInt ∧ ii.toInt ≤ ys.length) (hc : ¬ ii < nn) (hn : nn.toInt = (ys.length : Int)) : own_ua ((ys.take ii.toInt.toNat).map own_pr) cap = own_ua (ys.map own_pr) cap := by
  rw [Int32.lt_iff_toInt_lt, hn] at hc
  rw [List.take_of_length_le (by omega)]
theorem own_pad0 (cap : Nat) : ∀ i, (own_ua [] cap).getD i (.int (0 : Int32)) = ([] : List Value).getD i (.int (0 : Int32)) := pad_rep [] _ _
theorem own_padL (cap : Nat) : ∀ i, (own_la [] cap).getD i (.int (0 : Int32)) = ([] : List Value).getD i (.int (0 : Int32)) := pad_rep [] _ _

abbrev my2 : MethodName := (⟨"com/example/annotree/annotree/tree/SingleByteDecoder", "<init>", "(Ljava/lang/String;Z[I)V"⟩ : MethodName)
theorem d2_1 : decode prog_33_method_1_code 1 = .ok (.invokespecial 1, 3) := by decide +kernel
theorem d2_6 : decode prog_33_method_1_code 6 = .ok (.putfield 7, 3) := by decide +kernel
theorem d2_11 : decode prog_33_method_1_code 11 = .ok (.putfield 13, 3) := by decide +kernel
theorem d2_16 : decode prog_33_method_1_code 16 = .ok (.putfield 17, 3) := by decide +kernel
theorem d2_19 : decode prog_33_method_1_code 19 = .ok (.return_, 1) := by decide +kernel
theorem e2_0_1 : own_dec prog_33_method_1_code 0 [(.aload_n 0, 1)] = true := by decide +kernel
theorem e2_4_2 : own_dec prog_33_method_1_code 4 [(.aload_n 0, 1), (.aload_n 1, 1)] = true := by decide +kernel
theorem e2_9_2 : own_dec prog_33_method_1_code 9 [(.aload_n 0, 1), (.iload_n 2, 1)] = true := by decide +kernel
theorem e2_14_2 : own_dec prog_33_method_1_code 14 [(.aload_n 0, 1), (.aload_n 3, 1)] = true := by decide +kernel
theorem pn_0 : plainName "com/example/annotree/annotree/tree/SingleByteDecoder" = true := by first | (simp [plainName, overriddenIn]; done) | decide +kernel
def Q2 (Z : State) (a1 : Addr) (ci : Addr) (h0 : Heap) (n0 : Nat) (v : Option Value) (h : Heap) (L : List Loc) : Prop := v = none ∧ Fr n0 L ∧ Keep h0 h [a1] ∧ ex0 Z h a1 ∧ fl1 Z h a1 .null ∧ fl2 Z h a1 .null ∧ Unt h a1
set_option maxRecDepth 65536 in
set_option maxHeartbeats 40000000 in
theorem rm2 (l : Launch) (Z : State) (a0 : Array Value) (hw : OW a0 Z) (ws : List Jvm.Cond) (a1 : Addr) (ci : Addr) (h0 : Heap) (n0 : Nat) (Z0 : n0 ≤ h0.size) (P0 : ex0 Z h0 a1) (P1 : fl1 Z h0 a1 .null) (P2 : fl2 Z h0 a1 .null) (P3 : fl3 Z h0 a1 (.int (0 : Int32))) (P4 : fl4 Z h0 a1 .null) (P5 : Unt h0 a1) (g_a1 : n0 ≤ a1) :
    own_Met l my2 prog_33_method_1_code 4 none ws (own_rm 1 0 0 12) #[(.ref a1), .null, (.int (0 : Int32)), (.ref ci)] Z h0 (Q2 Z a1 ci h0 n0) 0 0 := by
  refine own_body (plainFor_of_name pn_0) (fun m => by first | (simp [entryFrame, mkF, argsToLocals, Value.category]; done) | rfl) (Ls := #[.val (.ref a1), .val .null, .val (.int (0 : Int32)), .val (.ref ci)]) fun p e s m below meth c s₁ X0 hx hby hml hZ e0 hown hnm hlk hrt => ?_
  have N0 := Fr.nil n0
  have lt_P0 : @LT.lt Nat _ a1 (Array.size h0) := P0.lt
  refine own_ru 1 [(.ref a1)] X0 hx hby e2_0_1 rfl rfl ?_
  refine own_iO X0 hx hZ hown (wd11 hw) (wd12 hw) (wd13 hw) e0 4 0 (by rw [hml]; rfl) rfl (hb hby d2_1) rfl (by decide) rfl (by decide) fun T1 X1 e1 => ?_
  refine own_ru 6 [.null, (.ref a1)] X1 hx hby e2_4_2 rfl rfl ?_
  refine own_pF X1 hx hZ hown (host := "") (Or.inl (wd14 hw)) Via.refl e1 P2 P0 (Or.inr ⟨(wd15 hw), rfl, hnm⟩) (wd6 hw) (ty := (.object "java/lang/String")) (by decide) rfl rfl 9 rfl (hb hby d2_6) rfl fun T2 h2 X2 e2 W2 => ?_
  have F2 := Fld.same W2 P2
  have z2 := W2.size
  have KK2 : Keep h0 h2 [a1] := (Keep.refl h0 [a1]).wr W2 (Or.inl (by simp))
  have N2 := Fr.snoc X2 N0 (by omega)
  refine own_ru 11 [(.int (0 : Int32)), (.ref a1)] X2 hx hby e2_9_2 rfl rfl ?_
  have f3 := (Exa.wr W2 P0)
  have f4 := (Fld.other W2 P3 (Or.inr (slot_ne (Or.inr (wd17 hw)) (Or.inr (wd15 hw)) (by decide) (t := .boolean) (t' := (.object "java/lang/String")) (by decide) (by decide))))
  refine own_pN X2 hx hZ hown (wd16 hw) Via.refl e2 f4 f3 (Or.inr ⟨(wd17 hw), rfl, hnm⟩) (wd6 hw) (ty := .boolean) (v' := (.int (0 : Int32))) (by decide) rfl (by decide) 14 rfl (hb hby d2_11) rfl fun T5 h5 X5 e5 W5 => ?_
  have F5 := Fld.same W5 f4
  have z5 := W5.size
  have KK5 : Keep h0 h5 [a1] := KK2.wr W5 (Or.inl (by simp))
  have N5 := Fr.snoc X5 N2 (by omega)
  refine own_ru 16 [(.ref ci), (.ref a1)] X5 hx hby e2_14_2 rfl rfl ?_
  have f6 := (Exa.wr W5 f3)
  have f7 := (Fld.other W5 (Fld.other W2 P4 (Or.inr (slot_ne (Or.inr (wd19 hw)) (Or.inr (wd15 hw)) (by decide) (t := (.array .int)) (t' := (.object "java/lang/String")) (by decide) (by decide)))) (Or.inr (slot_ne (Or.inr (wd19 hw)) (Or.inr (wd17 hw)) (by decide) (t := (.array .int)) (t' := .boolean) (by decide) (by decide))))
  refine own_pF X5 hx hZ hown (host := "") (Or.inl (wd18 hw)) Via.refl e5 f7 f6 (Or.inr ⟨(wd19 hw), rfl, hnm⟩) (wd6 hw) (ty := (.array .int)) (by decide) rfl rfl 19 rfl (hb hby d2_16) rfl fun T8 h8 X8 e8 W8 => ?_
  have F8 := Fld.same W8 f7
  have z8 := W8.size
  have KK8 : Keep h0 h8 [a1] := KK5.wr W8 (Or.inl (by simp))
  have N8 := Fr.snoc X8 N5 (by omega)
  have f10 := (Exa.wr W8 f6)
  have f11 := (Fld.other W8 (Fld.other W5 (Fld.other W2 P1 (Or.inr (slot_ne (Or.inl (wd30 hw)) (Or.inr (wd15 hw)) (by decide) (t := (.object "com/example/annotree/annotree/tree/Index")) (t' := (.object "java/lang/String")) (by decide) (by decide)))) (Or.inr (slot_ne (Or.inl (wd30 hw)) (Or.inr (wd17 hw)) (by decide) (t := (.object "com/example/annotree/annotree/tree/Index")) (t' := .boolean) (by decide) (by decide)))) (Or.inr (slot_ne (Or.inl (wd30 hw)) (Or.inr (wd19 hw)) (by decide) (t := (.object "com/example/annotree/annotree/tree/Index")) (t' := (.array .int)) (by decide) (by decide))))
  have f12 := (Fld.other W8 (Fld.other W5 F2 (Or.inr (slot_ne (Or.inr (wd15 hw)) (Or.inr (wd17 hw)) (by decide) (t := (.object "java/lang/String")) (t' := .boolean) (by decide) (by decide)))) (Or.inr (slot_ne (Or.inr (wd15 hw)) (Or.inr (wd19 hw)) (by decide) (t := (.object "java/lang/String")) (t' := (.array .int)) (by decide) (by decide))))
  have f13 : Unt h8 a1 := (Unt.wr W8 (Unt.wr W5 (Unt.wr W2 P5)))
  have hq9 : Q2 Z a1 ci h0 n0 none h8 _ := ⟨rfl, N8, KK8, f10, f11, f12, f13⟩
  exact own_retV X8 hx hlk hrt (hb hby d2_19) e8 hq9 (by decide) (by decide)
abbrev my1 : MethodName := (⟨"com/example/annotree/annotree/tree/SingleByteDecoder", "withoutIndex", "()Lcom/example/annotree/annotree/tree/SingleByteDecoder;"⟩ : MethodName)
theorem d1_0 : decode prog_33_method_4_code 0 = .ok (.new 8, 3) := by decide +kernel
theorem d1_7 : decode prog_33_method_4_code 7 = .ok (.newarray .int, 2) := by decide +kernel
theorem d1_9 : decode prog_33_method_4_code 9 = .ok (.invokespecial 21, 3) := by decide +kernel
theorem d1_12 : decode prog_33_method_4_code 12 = .ok (.areturn, 1) := by decide +kernel
theorem e1_3_4 : own_dec prog_33_method_4_code 3 [(.dup, 1), (.aconst_null, 1), (.iconst 0, 1), (.iconst 0, 1)] = true := by decide +kernel
theorem pd_0 : parseMethodDescriptor "(Ljava/lang/String;Z[I)V" = some ⟨[(.object "java/lang/String"), .boolean, (.array .int)], none⟩ := by decide +kernel
def Q1 (Z : State)  (h0 : Heap) (n0 : Nat) (v : Option Value) (h : Heap) (L : List Loc) : Prop := ∃ ob : Addr, v = some (.ref ob) ∧ Fr n0 L ∧ Keep h0 h [] ∧ ex0 Z h ob ∧ fl1 Z h ob .null ∧ fl2 Z h ob .null ∧ Unt h ob ∧ (h0.size ≤ ob)
set_option maxRecDepth 65536 in
set_option maxHeartbeats 40000000 in
theorem rm1 (l : Launch) (Z : State) (a0 : Array Value) (hw : OW a0 Z) (ws : List Jvm.Cond)  (h0 : Heap) (n0 : Nat) (Z0 : n0 ≤ h0.size)  :
    own_Met l my1 prog_33_method_4_code 0 (some (.object "com/example/annotree/annotree/tree/SingleByteDecoder")) ws (own_rm 2 2 4 28) #[] Z h0 (Q1 Z  h0 n0) 2 4 := by
  refine own_body (plainFor_of_name pn_0) (fun m => by first | (simp [entryFrame, mkF, argsToLocals, Value.category]; done) | rfl) (Ls := #[]) fun p e s m below meth c s₁ X0 hx hby hml hZ e0 hown hnm hlk hrt => ?_
  have N0 := Fr.nil n0
  refine own_nO X0 hx hZ hown (wd5 hw) (wd6 hw) (wd3 hw) e0 3 (hb hby d1_0) rfl (by decide) (by decide) fun T14 h14 b14 g14 X14 e14 E14 A14 D14 UN14 => ?_
  have ll14 : @LT.lt Nat _ b14 (Array.size h14) := A14.lt
  have KK14 : Keep h0 h14 [] := (Keep.refl h0 []).ext E14
  have z14 := E14.1
  have F15 : fl2 Z h14 b14 .null := D14 (Or.inr (wd15 hw)) (ty := (.object "java/lang/String")) (by decide)
  have F16 : fl3 Z h14 b14 (.int (0 : Int32)) := D14 (Or.inr (wd17 hw)) (ty := .boolean) (by decide)
  have F17 : fl4 Z h14 b14 .null := D14 (Or.inr (wd19 hw)) (ty := (.array .int)) (by decide)
  have F18 : fl1 Z h14 b14 .null := D14 (Or.inl (wd30 hw)) (ty := (.object "com/example/annotree/annotree/tree/Index")) (by decide)
  refine own_ru 7 [(.int (0 : Int32)), (.int (0 : Int32)), .null, (.ref b14), (.ref b14)] X14 hx hby e1_3_4 rfl rfl ?_
  refine own_nP (aty := .int) X14 hx hZ (wd7 hw) e14 9 (hb hby d1_7) rfl rfl (by decide) (cap := 0) (by decide) (by decide) (by decide) (by decide) (ad := "[I") rfl fun T19 h19 k19 b19 g19 X19 e19 E19 A19 B19 => ?_
  have ll19 : @LT.lt Nat _ b19 (Array.size h19) := A19.lt
  have KK19 : Keep h0 h19 [] := KK14.ext E19
  have z19 := E19.1
  have V19 : Arv Z h19 b19 k19 .int (0 : Int32) [] (.int (0 : Int32)) := (Arv.new A19 (by decide)).pad (pad_rep [] (.int (0 : Int32)) 0)
  have f20 := (Exa.ext E19 A14)
  have f21 := (Fld.ext E19 F18)
  have f22 := (Fld.ext E19 F15)
  have f23 := (Fld.ext E19 F16)
  have f24 := (Fld.ext E19 F17)
  have f25 : Unt h19 b14 := (Unt.ext E19 UN14)
  refine own_cN X19 hx hZ hown rfl (wd8 hw) (wd9 hw) (by decide) (wd10 hw) (wd3 hw) (rm2 l Z a0 hw [] b14 b19 h19 n0 (by omega) f20 f21 f22 f23 f24 f25 (by omega)) e19  [.null, (.int (0 : Int32)), (.ref b19)] [(.ref b14)] 12 1 (hb hby d1_9) rfl (by rw [hml]; rfl) rfl rfl (lenOf pd_0 rfl) rfl (by decide) fun v26 T26 Lc26 X26 hQ26 => ?_
  obtain ⟨rfl, N26q, K26, G26_0, G26_1, G26_2, G26_3⟩ := hQ26
  have N26 := Fr.app N0 N26q
  have z26 := K26.1
  have KK26 : Keep h0 T26.heap [] := KK19.trans K26 (allS (Or.inr (by omega)) all0)
  have lt26_0 : @LT.lt Nat _ b14 (Array.size T26.heap) := G26_0.lt
  have hq27 : Q1 Z  h0 n0 (some (.ref b14)) T26.heap _ := ⟨b14, rfl, N26, KK26, G26_0, G26_1, G26_2, G26_3, (by first | omega | assumption)⟩
  exact own_retR X26 hx hlk (w := (.ref b14)) rfl hrt rfl (hb hby d1_12) rfl hq27 (by decide) (by decide)
abbrev my8 : MethodName := (⟨"java/util/Arrays", "fill", "([II)V"⟩ : MethodName)
theorem d8_3 : decode jdk_65_method_103_code 3 = .ok (.arraylength, 1) := by decide +kernel
theorem d8_7 : decode jdk_65_method_103_code 7 = .ok (.if_icmp .ge 13, 3) := by decide +kernel
theorem d8_13 : decode jdk_65_method_103_code 13 = .ok (.iastore, 1) := by decide +kernel
theorem d8_17 : decode jdk_65_method_103_code 17 = .ok (.goto (-12), 3) := by decide +kernel
theorem d8_20 : decode jdk_65_method_103_code 20 = .ok (.return_, 1) := by decide +kernel
theorem e8_0_3 : own_dec jdk_65_method_103_code 0 [(.iconst 0, 1), (.istore_n 2, 1), (.aload_n 0, 1)] = true := by decide +kernel
theorem e8_4_1 : own_dec jdk_65_method_103_code 4 [(.istore_n 3, 1)] = true := by decide +kernel
theorem e8_5_2 : own_dec jdk_65_method_103_code 5 [(.iload_n 2, 1), (.iload_n 3, 1)] = true := by decide +kernel
theorem e8_10_3 : own_dec jdk_65_method_103_code 10 [(.aload_n 0, 1), (.iload_n 2, 1), (.iload_n 1, 1)] = true := by decide +kernel
theorem e8_14_1 : own_dec jdk_65_method_103_code 14 [(.iinc 2 1, 3)] = true := by decide +kernel
theorem pn_1 : plainName "java/util/Arrays" = true := by first | (simp [plainName, overriddenIn]; done) | decide +kernel
def Q8 (Z : State) (a1 : Addr) (kk : ClassId) (q : Int32) (vs : List Value) (h0 : Heap) (n0 : Nat) (v : Option Value) (h : Heap) (L : List Loc) : Prop := ∃ vz : List Value, v = none ∧ Fr n0 L ∧ Keep h0 h [a1] ∧ Arv Z h a1 kk .int (128 : Int32) vz (.int (0 : Int32)) ∧ (∀ j : Nat, j < 128 → vz.getD j (.int (0 : Int32)) = .int q)
set_option maxRecDepth 65536 in
set_option maxHeartbeats 40000000 in
theorem rm8 (l : Launch) (Z : State) (a0 : Array Value) (hw : OW a0 Z) (ws : List Jvm.Cond) (a1 : Addr) (kk : ClassId) (q : Int32) (vs : List Value) (h0 : Heap) (n0 : Nat) (Z0 : n0 ≤ h0.size) (P0 : Arv Z h0 a1 kk .int (128 : Int32) vs (.int (0 : Int32))) (g_a1 : n0 ≤ a1) (hl : vs.length = 128) :
    own_Met l my8 jdk_65_method_103_code 4 none ws (own_rm 0 0 0 0) #[(.ref a1), (.int q)] Z h0 (Q8 Z a1 kk q vs h0 n0) 0 0 := by
  refine own_body (plainFor_of_name pn_1) (fun m => by first | (simp [entryFrame, mkF, argsToLocals, Value.category]; done) | rfl) (Ls := #[.val (.ref a1), .val (.int q), .unset, .unset]) fun p e s m below meth c s₁ X0 hx hby hml hZ e0 hown hnm hlk hrt => ?_
  have N0 := Fr.nil n0
  have lt_P0 : @LT.lt Nat _ a1 (Array.size h0) := P0.lt
  refine own_rl 3 #[.val (.ref a1), .val (.int q), .val (.int (0 : Int32)), .unset] [(.ref a1)] X0 hx hby e8_0_3 rfl rfl ?_
  refine own_aL X0 hx hZ e0 P0 4 rfl (hb hby d8_3) rfl ?_
  refine own_rl 5 #[.val (.ref a1), .val (.int q), .val (.int (0 : Int32)), .val (.int (128 : Int32))] [] X0 hx hby e8_4_1 rfl rfl ?_
  have J28 : ∀ (kJ : Nat) (TJ28 : State) (LJ28 : List Loc) (hJ28 : Heap) (ii : Int32) (vs1 : List Value), ((128 : Int) ≤ ii.toInt + (kJ : Int)) → Stand p l e (own_rm 0 0 0 0) s m #[(.ref a1), (.int q)] below meth c TJ28 LJ28 0 0 → TJ28.heap = hJ28 → Fr n0 LJ28 → h0.size ≤ hJ28.size → Keep h0 hJ28 [a1] → Arv Z hJ28 a1 kk .int (128 : Int32) vs1 (.int (0 : Int32)) → (0 ≤ ii.toInt ∧ ii.toInt ≤ 128) → (vs1.length = 128) → (∀ j : Nat, (j : Int) < ii.toInt → vs1.getD j (.int (0 : Int32)) = .int q) → own_Fin p.tables e below (own_post (Q8 Z a1 kk q vs h0 n0) s 0 0) (TJ28.setTop (mkF m 5 #[.val (.ref a1), .val (.int q), .val (.int ii), .val (.int (128 : Int32))] [])) := by
    intro kJ
    induction kJ with
    | zero =>
      intro TJ28 LJ28 hJ28 ii vs1 hmeas XJ28 eJ28 NJ28 zJ28 KJ28 FJ28_0 hii hvl hvv
      have ltJ28_0 : @LT.lt Nat _ a1 (Array.size hJ28) := FJ28_0.lt
      refine own_ru 7 [(.int (128 : Int32)), (.int ii)] XJ28 hx hby e8_5_2 rfl rfl ?_
      by_cases hc7 : ii < (128 : Int32)
      · refine own_kN 10 XJ28 hx (hb hby d8_7) rfl (tlt hc7).2.1 rfl ?_
        refine own_ru 13 [(.int q), (.int ii), (.ref a1)] XJ28 hx hby e8_10_3 rfl rfl ?_
        obtain ⟨cl29, Ar29, q29, S29, N29z, Hs29, G29⟩ := id FJ28_0
        have hin29 : ¬ (ii < 0 ∨ cl29.slots.size ≤ (ii).toNatClampNeg) := inb_of S29 (own_i128 hii hc7)
        obtain ⟨T30, h30, X30, e30, W30, st30⟩ := stI XJ28 hx hZ eJ28 Ar29 (j := ii) hin29 (g := (mkF m 13 #[.val (.ref a1), .val (.int q), .val (.int ii), .val (.int (128 : Int32))] [(.int q), (.int ii), (.ref a1)])) rfl rfl (hb hby d8_13)
        have V30 : Arv Z h30 a1 kk .int (128 : Int32) (vs1.set (ii).toNatClampNeg (.int q)) (.int (0 : Int32)) := Arv.set Ar29 q29 S29 N29z Hs29 G29 rfl W30 _ rfl (by rw [hvl]; exact own_j128 (own_i128 hii hc7).1 hc7)
        have z30 := W30.size
        have KK30 : Keep h0 h30 [a1] := KJ28.wr W30 (Or.inl (by simp))
        have N30 := Fr.snoc X30 NJ28 (by omega)
        refine own_sT 14 [] st30 ?_
        refine own_rl 17 #[.val (.ref a1), .val (.int q), .val (.int (ii + (1 : Int32))), .val (.int (128 : Int32))] [] X30 hx hby e8_14_1 rfl rfl ?_
        refine own_go 5 X30 hx (hb hby d8_17) (by decide) (by decide) ?_
        exfalso; exact own_fs0 hc7 hmeas
      · refine own_kY 20 XJ28 hx (hb hby d8_7) rfl (flt hc7).2.1 (by decide) (by decide) ?_
        have hq31 : Q8 Z a1 kk q vs h0 n0 none hJ28 _ := ⟨vs1, rfl, NJ28, KJ28, FJ28_0, (own_fs4 hii hc7 hvv)⟩
        exact own_retV XJ28 hx hlk hrt (hb hby d8_20) eJ28 hq31 (by decide) (by decide)
    | succ kJ IH28 =>
      intro TJ28 LJ28 hJ28 ii vs1 hmeas XJ28 eJ28 NJ28 zJ28 KJ28 FJ28_0 hii hvl hvv
      have ltJ28_0 : @LT.lt Nat _ a1 (Array.size hJ28) := FJ28_0.lt
      refine own_ru 7 [(.int (128 : Int32)), (.int ii)] XJ28 hx hby e8_5_2 rfl rfl ?_
      by_cases hc7 : ii < (128 : Int32)
      · refine own_kN 10 XJ28 hx (hb hby d8_7) rfl (tlt hc7).2.1 rfl ?_
        refine own_ru 13 [(.int q), (.int ii), (.ref a1)] XJ28 hx hby e8_10_3 rfl rfl ?_
        obtain ⟨cl32, Ar32, q32, S32, N32z, Hs32, G32⟩ := id FJ28_0
        have hin32 : ¬ (ii < 0 ∨ cl32.slots.size ≤ (ii).toNatClampNeg) := inb_of S32 (own_i128 hii hc7)
        obtain ⟨T33, h33, X33, e33, W33, st33⟩ := stI XJ28 hx hZ eJ28 Ar32 (j := ii) hin32 (g := (mkF m 13 #[.val (.ref a1), .val (.int q), .val (.int ii), .val (.int (128 : Int32))] [(.int q), (.int ii), (.ref a1)])) rfl rfl (hb hby d8_13)
        have V33 : Arv Z h33 a1 kk .int (128 : Int32) (vs1.set (ii).toNatClampNeg (.int q)) (.int (0 : Int32)) := Arv.set Ar32 q32 S32 N32z Hs32 G32 rfl W33 _ rfl (by rw [hvl]; exact own_j128 (own_i128 hii hc7).1 hc7)
        have z33 := W33.size
        have KK33 : Keep h0 h33 [a1] := KJ28.wr W33 (Or.inl (by simp))
        have N33 := Fr.snoc X33 NJ28 (by omega)
        refine own_sT 14 [] st33 ?_
        refine own_rl 17 #[.val (.ref a1), .val (.int q), .val (.int (ii + (1 : Int32))), .val (.int (128 : Int32))] [] X33 hx hby e8_14_1 rfl rfl ?_
        refine own_go 5 X33 hx (hb hby d8_17) (by decide) (by decide) ?_
        exact IH28 _ _ _ (ii + (1 : Int32)) (vs1.set (ii).toNatClampNeg (.int q)) (own_fs3 hii hc7 hmeas) (X33.more (by decide) (by decide)) e33 N33 (by omega) KK33 V33 (own_fs1 hii hc7) (by rw [List.length_set]; exact hvl) (own_fs2 hii hc7 hvl hvv)
      · refine own_kY 20 XJ28 hx (hb hby d8_7) rfl (flt hc7).2.1 (by decide) (by decide) ?_
        have hq34 : Q8 Z a1 kk q vs h0 n0 none hJ28 _ := ⟨vs1, rfl, NJ28, KJ28, FJ28_0, (own_fs4 hii hc7 hvv)⟩
        exact own_retV XJ28 hx hlk hrt (hb hby d8_20) eJ28 hq34 (by decide) (by decide)
  exact J28 128 _ _ _ (0 : Int32) vs (by decide) (X0.more (by decide) (by decide)) e0 N0 (by omega) (Keep.refl h0 [a1]) P0 (by decide) hl (fun j h => absurd h (by have e : (0 : Int32).toInt = 0 := rfl; omega))
abbrev my7 : MethodName := (⟨"com/example/annotree/annotree/tree/Index", "<init>", "(I)V"⟩ : MethodName)
theorem d7_1 : decode prog_25_method_1_code 1 = .ok (.invokespecial 1, 3) := by decide +kernel
theorem d7_6 : decode prog_25_method_1_code 6 = .ok (.newarray .int, 2) := by decide +kernel
theorem d7_8 : decode prog_25_method_1_code 8 = .ok (.putfield 7, 3) := by decide +kernel
theorem d7_12 : decode prog_25_method_1_code 12 = .ok (.getfield 7, 3) := by decide +kernel
theorem d7_16 : decode prog_25_method_1_code 16 = .ok (.invokestatic 13, 3) := by decide +kernel
theorem d7_19 : decode prog_25_method_1_code 19 = .ok (.return_, 1) := by decide +kernel
theorem e7_0_1 : own_dec prog_25_method_1_code 0 [(.aload_n 0, 1)] = true := by decide +kernel
theorem e7_4_2 : own_dec prog_25_method_1_code 4 [(.aload_n 0, 1), (.iload_n 1, 1)] = true := by decide +kernel
theorem e7_11_1 : own_dec prog_25_method_1_code 11 [(.aload_n 0, 1)] = true := by decide +kernel
theorem e7_15_1 : own_dec prog_25_method_1_code 15 [(.iconst (-1), 1)] = true := by decide +kernel
theorem pn_2 : plainName "com/example/annotree/annotree/tree/Index" = true := by first | (simp [plainName, overriddenIn]; done) | decide +kernel
theorem pd_1 : parseMethodDescriptor "([II)V" = some ⟨[(.array .int), .int], none⟩ := by decide +kernel
def Q7 (Z : State) (a1 : Addr) (h0 : Heap) (n0 : Nat) (v : Option Value) (h : Heap) (L : List Loc) : Prop := ∃ ca : Addr, ∃ kk : ClassId, ∃ vz : List Value, v = none ∧ Fr n0 L ∧ Keep h0 h [a1] ∧ ex5 Z h a1 ∧ fl6 Z h a1 (.ref ca) ∧ Arv Z h ca kk .int (128 : Int32) vz (.int (0 : Int32)) ∧ (∀ j : Nat, j < 128 → vz.getD j (.int (0 : Int32)) = .int (-1 : Int32)) ∧ (h0.size ≤ ca)
set_option maxRecDepth 65536 in
set_option maxHeartbeats 40000000 in
theorem rm7 (l : Launch) (Z : State) (a0 : Array Value) (hw : OW a0 Z) (ws : List Jvm.Cond) (a1 : Addr) (h0 : Heap) (n0 : Nat) (Z0 : n0 ≤ h0.size) (P0 : ex5 Z h0 a1) (P1 : fl6 Z h0 a1 .null) (g_a1 : n0 ≤ a1) :
    own_Met l my7 prog_25_method_1_code 2 none ws (own_rm 1 1 128 15) #[(.ref a1), (.int (128 : Int32))] Z h0 (Q7 Z a1 h0 n0) 1 128 := by
  refine own_body (plainFor_of_name pn_2) (fun m => by first | (simp [entryFrame, mkF, argsToLocals, Value.category]; done) | rfl) (Ls := #[.val (.ref a1), .val (.int (128 : Int32))]) fun p e s m below meth c s₁ X0 hx hby hml hZ e0 hown hnm hlk hrt => ?_
  have N0 := Fr.nil n0
  have lt_P0 : @LT.lt Nat _ a1 (Array.size h0) := P0.lt
  refine own_ru 1 [(.ref a1)] X0 hx hby e7_0_1 rfl rfl ?_
  refine own_iO X0 hx hZ hown (wd40 hw) (wd12 hw) (wd13 hw) e0 4 0 (by rw [hml]; rfl) rfl (hb hby d7_1) rfl (by decide) rfl (by decide) fun T35 X35 e35 => ?_
  refine own_ru 6 [(.int (128 : Int32)), (.ref a1)] X35 hx hby e7_4_2 rfl rfl ?_
  refine own_nP (aty := .int) X35 hx hZ (wd7 hw) e35 8 (hb hby d7_6) rfl rfl (by decide) (cap := 128) (by decide) (by decide) (by decide) (by decide) (ad := "[I") rfl fun T36 h36 k36 b36 g36 X36 e36 E36 A36 B36 => ?_
  have ll36 : @LT.lt Nat _ b36 (Array.size h36) := A36.lt
  have KK36 : Keep h0 h36 [a1] := (Keep.refl h0 [a1]).ext E36
  have z36 := E36.1
  have V36 : Arv Z h36 b36 k36 .int (128 : Int32) (List.replicate 128 (.int (0 : Int32))) (.int (0 : Int32)) := (Arv.new A36 (by decide)).pad (pad_rep [] (.int (0 : Int32)) 128)
  have f37 := (Exa.ext E36 P0)
  have f38 := (Fld.ext E36 P1)
  refine own_pF X36 hx hZ hown (host := "") (Or.inl (wd41 hw)) Via.refl e36 f38 f37 (Or.inr ⟨(wd42 hw), rfl, hnm⟩) (wd36 hw) (ty := (.array .int)) (by decide) rfl rfl 11 rfl (hb hby d7_8) rfl fun T39 h39 X39 e39 W39 => ?_
  have F39 := Fld.same W39 f38
  have z39 := W39.size
  have KK39 : Keep h0 h39 [a1] := KK36.wr W39 (Or.inl (by simp))
  have N39 := Fr.snoc X39 N0 (by omega)
  refine own_ru 12 [(.ref a1)] X39 hx hby e7_11_1 rfl rfl ?_
  refine own_gF X39 hx hZ hown (host := "") (Or.inl (wd41 hw)) Via.refl e39 F39 15 rfl (hb hby d7_12) rfl fun T40 X40 e40 => ?_
  refine own_ru 16 [(.int (-1 : Int32)), (.ref b36)] X40 hx hby e7_15_1 rfl rfl ?_
  have f41 := (V36.other W39 (own_ne (by omega)))
  refine own_cS X40 hx hZ hown (wd43 hw) (wd44 hw) (by decide) (wd46 hw) (wd45 hw) (rm8 l Z a0 hw [] b36 k36 (-1 : Int32) (List.replicate 128 (.int (0 : Int32))) h39 n0 (by omega) f41 (by omega) (List.length_replicate ..)) e40  [(.ref b36), (.int (-1 : Int32))] [] 19 0 (hb hby d7_16) rfl (by rw [hml]; rfl) rfl rfl (lenOf pd_1 rfl) rfl (by decide) fun v42 T42 Lc42 X42 hQ42 => ?_
  obtain ⟨vz_42, rfl, N42q, K42, G42_0, U42_0⟩ := hQ42
  have N42 := Fr.app N39 N42q
  have z42 := K42.1
  have KK42 : Keep h0 T42.heap [a1] := KK39.trans K42 (allS (Or.inr (by omega)) all0)
  have lt42_0 : @LT.lt Nat _ b36 (Array.size T42.heap) := G42_0.lt
  have f44 := (Exa.keep (Exa.wr W39 f37) K42)
  have f45 := (F39.keep K42 (own_nS (by omega) nin0))
  have hq43 : Q7 Z a1 h0 n0 none T42.heap _ := ⟨b36, k36, vz_42, rfl, N42, KK42, f44, f45, G42_0, U42_0, (by omega)⟩
  exact own_retV X42 hx hlk hrt (hb hby d7_19) rfl hq43 (by decide) (by decide)
abbrev my6 : MethodName := (⟨"com/example/annotree/annotree/tree/Index", "empty", "(I)Lcom/example/annotree/annotree/tree/Index;"⟩ : MethodName)
theorem d6_0 : decode prog_25_method_2_code 0 = .ok (.new 8, 3) := by decide +kernel
theorem d6_5 : decode prog_25_method_2_code 5 = .ok (.invokespecial 19, 3) := by decide +kernel
theorem d6_8 : decode prog_25_method_2_code 8 = .ok (.areturn, 1) := by decide +kernel
theorem e6_3_2 : own_dec prog_25_method_2_code 3 [(.dup, 1), (.iload_n 0, 1)] = true := by decide +kernel
theorem pd_2 : parseMethodDescriptor "(I)V" = some ⟨[.int], none⟩ := by decide +kernel
def Q6 (Z : State)  (h0 : Heap) (n0 : Nat) (v : Option Value) (h : Heap) (L : List Loc) : Prop := ∃ ob : Addr, ∃ ca : Addr, ∃ kk : ClassId, ∃ vz : List Value, v = some (.ref ob) ∧ Fr n0 L ∧ Keep h0 h [] ∧ ex5 Z h ob ∧ fl6 Z h ob (.ref ca) ∧ Arv Z h ca kk .int (128 : Int32) vz (.int (0 : Int32)) ∧ (∀ j : Nat, j < 128 → vz.getD j (.int (0 : Int32)) = .int (-1 : Int32)) ∧ (h0.size ≤ ob) ∧ (h0.size ≤ ca)
set_option maxRecDepth 65536 in
set_option maxHeartbeats 40000000 in
theorem rm6 (l : Launch) (Z : State) (a0 : Array Value) (hw : OW a0 Z) (ws : List Jvm.Cond)  (h0 : Heap) (n0 : Nat) (Z0 : n0 ≤ h0.size)  :
    own_Met l my6 prog_25_method_2_code 1 (some (.object "com/example/annotree/annotree/tree/Index")) ws (own_rm 2 2 129 29) #[(.int (128 : Int32))] Z h0 (Q6 Z  h0 n0) 2 129 := by
  refine own_body (plainFor_of_name pn_2) (fun m => by first | (simp [entryFrame, mkF, argsToLocals, Value.category]; done) | rfl) (Ls := #[.val (.int (128 : Int32))]) fun p e s m below meth c s₁ X0 hx hby hml hZ e0 hown hnm hlk hrt => ?_
  have N0 := Fr.nil n0
  refine own_nO X0 hx hZ hown (wd35 hw) (wd36 hw) (wd33 hw) e0 3 (hb hby d6_0) rfl (by decide) (by decide) fun T46 h46 b46 g46 X46 e46 E46 A46 D46 UN46 => ?_
  have ll46 : @LT.lt Nat _ b46 (Array.size h46) := A46.lt
  have KK46 : Keep h0 h46 [] := (Keep.refl h0 []).ext E46
  have z46 := E46.1
  have F47 : fl6 Z h46 b46 .null := D46 (Or.inr (wd42 hw)) (ty := (.array .int)) (by decide)
  refine own_ru 5 [(.int (128 : Int32)), (.ref b46), (.ref b46)] X46 hx hby e6_3_2 rfl rfl ?_
  refine own_cN X46 hx hZ hown rfl (wd37 hw) (wd38 hw) (by decide) (wd39 hw) (wd33 hw) (rm7 l Z a0 hw [] b46 h46 n0 (by omega) A46 F47 (by omega)) e46  [(.int (128 : Int32))] [(.ref b46)] 8 1 (hb hby d6_5) rfl (by rw [hml]; rfl) rfl rfl (lenOf pd_2 rfl) rfl (by decide) fun v48 T48 Lc48 X48 hQ48 => ?_
  obtain ⟨ca_48, kk_48, vz_48, rfl, N48q, K48, G48_0, G48_1, G48_2, U48_0, U48_1⟩ := hQ48
  have N48 := Fr.app N0 N48q
  have z48 := K48.1
  have KK48 : Keep h0 T48.heap [] := KK46.trans K48 (allS (Or.inr (by omega)) all0)
  have lt48_0 : @LT.lt Nat _ b46 (Array.size T48.heap) := G48_0.lt
  have lt48_2 : @LT.lt Nat _ ca_48 (Array.size T48.heap) := G48_2.lt
  have hq49 : Q6 Z  h0 n0 (some (.ref b46)) T48.heap _ := ⟨b46, ca_48, kk_48, vz_48, rfl, N48, KK48, G48_0, G48_1, G48_2, U48_0, (by omega), (by omega)⟩
  exact own_retR X48 hx hlk (w := (.ref b46)) rfl hrt rfl (hb hby d6_8) rfl hq49 (by decide) (by decide)
abbrev my5 : MethodName := (⟨"com/example/annotree/annotree/tree/SingleByteDecoder", "index", "()Lcom/example/annotree/annotree/tree/Index;"⟩ : MethodName)
theorem d5_0 : decode prog_33_method_6_code 0 = .ok (.aload_n 0, 1) := by decide +kernel
theorem d5_1 : decode prog_33_method_6_code 1 = .ok (.getfield 50, 3) := by decide +kernel
theorem d5_4 : decode prog_33_method_6_code 4 = .ok (.ifnull 8, 3) := by decide +kernel
theorem d5_12 : decode prog_33_method_6_code 12 = .ok (.aload_n 0, 1) := by decide +kernel
theorem d5_13 : decode prog_33_method_6_code 13 = .ok (.getfield 7, 3) := by decide +kernel
theorem d5_16 : decode prog_33_method_6_code 16 = .ok (.ifnonnull 18, 3) := by decide +kernel
theorem d5_19 : decode prog_33_method_6_code 19 = .ok (.aload_n 0, 1) := by decide +kernel
theorem d5_20 : decode prog_33_method_6_code 20 = .ok (.sipush 128, 3) := by decide +kernel
theorem d5_23 : decode prog_33_method_6_code 23 = .ok (.invokestatic 53, 3) := by decide +kernel
theorem d5_26 : decode prog_33_method_6_code 26 = .ok (.putfield 50, 3) := by decide +kernel
theorem d5_29 : decode prog_33_method_6_code 29 = .ok (.aload_n 0, 1) := by decide +kernel
theorem d5_30 : decode prog_33_method_6_code 30 = .ok (.getfield 50, 3) := by decide +kernel
theorem d5_33 : decode prog_33_method_6_code 33 = .ok (.areturn, 1) := by decide +kernel
theorem pd_3 : parseMethodDescriptor "(I)Lcom/example/annotree/annotree/tree/Index;" = some ⟨[.int], some (.object "com/example/annotree/annotree/tree/Index")⟩ := by decide +kernel
theorem ef_5n (m : MethodId) (x0 : Addr) : entryFrameSync m #[(.ref x0)] 2 x0 = mkL x0 m 0 #[.val (.ref x0), .unset] [] := by first | (simp [entryFrameSync, entryFrame, mkL, argsToLocals, Value.category]; done) | rfl
def Q5n (Z : State) (G1 : Int32) (G2 : Value) (a1 : Addr) (bb : Addr) (kb : ClassId) (bs : List Value) (h0 : Heap) (n0 : Nat) (v : Option Value) (h : Heap) (L : List Loc) : Prop := ∃ ix : Addr, ∃ ca : Addr, ∃ kk : ClassId, ∃ vz : List Value, v = some (.ref ix) ∧ Fr n0 L ∧ h0.size ≤ h.size ∧ Old Z n0 h ∧ ex0 Z h a1 ∧ fl1 Z h a1 (.ref ix) ∧ fl2 Z h a1 .null ∧ Unt h a1 ∧ ex5 Z h ix ∧ fl6 Z h ix (.ref ca) ∧ Arv Z h ca kk .int (128 : Int32) vz (.int (0 : Int32)) ∧ Arv Z h bb kb .byte (4 : Int32) bs (.int (0 : Int32)) ∧ (∀ j : Nat, j < 128 → vz.getD j (.int (0 : Int32)) = .int (-1 : Int32))
set_option maxRecDepth 65536 in
set_option maxHeartbeats 40000000 in
theorem rm5n (l : Launch) (Z : State) (a0 : Array Value) (hw : OW a0 Z) (ws : List Jvm.Cond) (G1 : Int32) (G2 : Value) (a1 : Addr) (bb : Addr) (kb : ClassId) (bs : List Value) (h0 : Heap) (n0 : Nat) (Z0 : n0 ≤ h0.size) (OLD : Old Z n0 h0) (A : Amb Z G1 G2) (P0 : ex0 Z h0 a1) (P1 : fl1 Z h0 a1 .null) (P2 : fl2 Z h0 a1 .null) (P3 : Arv Z h0 bb kb .byte (4 : Int32) bs (.int (0 : Int32))) (P4 : Unt h0 a1) (g_a1 : n0 ≤ a1) (hne : @Ne Nat bb a1) :
    MetFree l (⟨"com/example/annotree/annotree/tree/SingleByteDecoder", "index", "()Lcom/example/annotree/annotree/tree/Index;"⟩ : MethodName) (head1 [Jvm.Cond.codeSync (⟨"com/example/annotree/annotree/tree/SingleByteDecoder", "index", "()Lcom/example/annotree/annotree/tree/Index;"⟩ : MethodName) prog_33_method_6_code 2 (some (.object "com/example/annotree/annotree/tree/Index")), Jvm.Cond.instanceMethod (⟨"com/example/annotree/annotree/tree/SingleByteDecoder", "index", "()Lcom/example/annotree/annotree/tree/Index;"⟩ : MethodName)] (own_rm 3 2 129 44)) (fun a U => a = #[(.ref a1)] ∧ Z.Warmed39 U.vm ∧ U.heap = h0 ∧ ∃ cell : Cell, h0[a1]? = some cell ∧ cell.enterable U.cur) (fun _ _ _ _ _ => True) (fun _ U o U' => ∃ v L, o = .returned v ∧ Q5n Z G1 G2 a1 bb kb bs h0 n0 v U'.heap L ∧ FrameEnd U o U' L (own_rm 3 2 129 44).cells (own_rm 3 2 129 44).slots) := by
  refine MetFree.of_bodySync (plainFor_of_name pn_0) (hisS (List.mem_cons_self ..)) (fun _ s _ ⟨h1, _, h2, cl, h3, h4⟩ => ⟨a1, cl, by rw [h1]; rfl, by rw [h2]; exact h3, h4⟩) ?_
  intro p e s0 m args below meth c a' cell s₁ Bd hml0 hP hK
  obtain ⟨rfl, hZ0, hh, -⟩ := hP
  cases Bd.receiver
  have hx := Bd.exec
  have hby := Bd.bytes
  have hml : c.maxLocals = 2 := hml0
  obtain ⟨s, hs⟩ : ∃ z, z = s0.setCell a1 (cell.withEntry s0.cur) := ⟨_, rfl⟩
  have hown : s.vm.findClass "com/example/annotree/annotree/tree/SingleByteDecoder" = some m.cls := by rw [hs]; exact (findClass_of_methodNamed Bd.named :)
  have hnm := (name_of_methodNamed Bd.named Bd.method).1
  have hZ : Z.Warmed39 s.vm := by rw [hs]; exact hZ0
  have hrt := Bd.returns
  have X0 : Stand p l e (own_rm 3 2 129 44) s m #[(.ref a1)] below meth c s₁ [] 0 0 := by rw [hs]; exact Stand.of_bodySync Bd
  have M0 : Mon h0 s₁.heap := by rw [← hh, Bd.state]; exact mon_set Bd.object _
  have OLDM : Old Z n0 s₁.heap := by
    rw [Bd.state]
    exact own_oldSet (h := s0.heap) (by rw [hh]; exact OLD) g_a1
  obtain ⟨hM, e0⟩ : ∃ z, s₁.heap = z := ⟨_, rfl⟩
  rw [e0] at M0 OLDM
  have zM := M0.size
  have N0 := Fr.nil n0
  have PM0 : ex0 Z hM a1 := Exa.mon M0 P0
  have PM1 : fl1 Z hM a1 .null := Fld.mon M0 P1
  have PM2 : fl2 Z hM a1 .null := Fld.mon M0 P2
  have PM3 : Arv Z hM bb kb .byte (4 : Int32) bs (.int (0 : Int32)) := own_arvMon M0 P3
  show own_Fin p.tables e below (own_post (Q5n Z G1 G2 a1 bb kb bs h0 n0) s0 (own_rm 3 2 129 44).cells (own_rm 3 2 129 44).slots) (s₁.setTop (entryFrameSync m #[(.ref a1)] 2 a1))
  refine own_Fin.step (fun t k => castTop (ef_5n m a1) k) ?_
  have lt_P0 : @LT.lt Nat _ a1 (Array.size h0) := P0.lt
  have lt_P3 : @LT.lt Nat _ bb (Array.size h0) := P3.lt
  refine own_Fin.step (S' := s₁.setTop (mkL a1 m 1 #[.val (.ref a1), .unset] [(.ref a1)])) (fun t k => XS.aloadN X0.here hx rfl (hb hby d5_0) rfl rfl  k) ?_
  obtain ⟨T50, X50, e50, st50⟩ := getF X0 hx hZ hown (host := "") (Or.inl (wd29 hw)) Via.refl e0 PM1 (g := (mkL a1 m 1 #[.val (.ref a1), .unset] [(.ref a1)])) rfl rfl (hb hby d5_1)
  refine own_Fin.step (S' := T50.setTop (mkL a1 m 4 #[.val (.ref a1), .unset] [.null])) st50 ?_
  refine own_Fin.step (S' := T50.setTop (mkL a1 m 12 #[.val (.ref a1), .unset] [])) (fun t k => XS.ifnullYes X50.here hx rfl (pc0 := 4) (pc' := 12) rfl (hb hby d5_4) rfl (by decide) (by decide) k) ?_
  refine own_Fin.step (S' := T50.setTop (mkL a1 m 13 #[.val (.ref a1), .unset] [(.ref a1)])) (fun t k => XS.aloadN X50.here hx rfl (hb hby d5_12) rfl rfl  k) ?_
  obtain ⟨T51, X51, e51, st51⟩ := getF X50 hx hZ hown (host := "") (Or.inl (wd14 hw)) Via.refl e50 PM2 (g := (mkL a1 m 13 #[.val (.ref a1), .unset] [(.ref a1)])) rfl rfl (hb hby d5_13)
  refine own_Fin.step (S' := T51.setTop (mkL a1 m 16 #[.val (.ref a1), .unset] [.null])) st51 ?_
  refine own_Fin.step (S' := T51.setTop (mkL a1 m 19 #[.val (.ref a1), .unset] [])) (fun t k => XS.ifnonnullNo X51.here hx rfl (hb hby d5_16) rfl k) ?_
  refine own_Fin.step (S' := T51.setTop (mkL a1 m 20 #[.val (.ref a1), .unset] [(.ref a1)])) (fun t k => XS.aloadN X51.here hx rfl (hb hby d5_19) rfl rfl  k) ?_
  refine own_Fin.step (S' := T51.setTop (mkL a1 m 23 #[.val (.ref a1), .unset] [(.int (128 : Int32)), (.ref a1)])) (fun t k => XS.sipush X51.here hx rfl (hb hby d5_20) k) ?_
  obtain ⟨_, _, ⟨T52, L52, k52, n52⟩, -, X52, ⟨Lc52, hQ52, l52, y52, zz52⟩, st52⟩ := Jvm.LawKit.callS X51 hx (y := (⟨"com/example/annotree/annotree/tree/Index", "empty", "(I)Lcom/example/annotree/annotree/tree/Index;"⟩ : MethodName)) hown (mvT hZ (wd31 hw)) (mvT hZ (wd32 hw)) (mvT hZ (wd33 hw)) (mvT hZ (wd34 hw)) (by decide) (backOf (W := 3) (rm6 l Z a0 hw []  hM n0 (by omega) ) hZ (wd34 hw) (wd33 hw) (by decide) (by decide)) (g := (mkL a1 m 23 #[.val (.ref a1), .unset] [(.int (128 : Int32)), (.ref a1)])) rfl (by rw [hml]; rfl) (argsL := [(.int (128 : Int32))]) (rest := [(.ref a1)]) (lenOf pd_3 rfl) rfl (by show 2 * 1 + _ ≤ _; exact Nat.le_of_eq rfl) (hb hby d5_23) (fun _ _ => ⟨rfl, e51, (by decide : 0 + 2 ≤ _), (by decide : 0 + 129 ≤ _)⟩)
  dsimp only [Pt.U, Pt.locs, Pt.cells, Pt.slots] at X52 l52 y52 zz52 st52 hQ52
  subst l52 y52 zz52
  obtain ⟨ob_52, ca_52, kk_52, vz_52, rfl, N52q, K52, G52_0, G52_1, G52_2, U52_0, U52_1, U52_2⟩ := hQ52
  have N52 := Fr.app N0 N52q
  have z52 := K52.1
  have lt52_0 : @LT.lt Nat _ ob_52 (Array.size T52.heap) := G52_0.lt
  have lt52_2 : @LT.lt Nat _ ca_52 (Array.size T52.heap) := G52_2.lt
  refine own_Fin.step (S' := T52.setTop (mkL a1 m 26 #[.val (.ref a1), .unset] [(.ref ob_52), (.ref a1)])) st52 ?_
  have f53 := (Exa.keep PM0 K52)
  have f54 := (PM1.keep K52 nin0)
  obtain ⟨T55, h55, X55, e55, W55, st55⟩ := putF X52 hx hZ hown (host := "") (Or.inl (wd29 hw)) Via.refl rfl f54 f53 (Or.inl (wd30 hw)) (wd6 hw) (ty := (.object "com/example/annotree/annotree/tree/Index")) (by decide) rfl rfl (g := (mkL a1 m 26 #[.val (.ref a1), .unset] [(.ref ob_52), (.ref a1)])) rfl rfl (hb hby d5_26)
  have F55 := Fld.same W55 f54
  have z55 := W55.size
  have N55 := Fr.snoc X55 N52 (by omega)
  refine own_Fin.step (S' := T55.setTop (mkL a1 m 29 #[.val (.ref a1), .unset] [])) st55 ?_
  refine own_Fin.step (S' := T55.setTop (mkL a1 m 30 #[.val (.ref a1), .unset] [(.ref a1)])) (fun t k => XS.aloadN X55.here hx rfl (hb hby d5_29) rfl rfl  k) ?_
  obtain ⟨T56, X56, e56, st56⟩ := getF X55 hx hZ hown (host := "") (Or.inl (wd29 hw)) Via.refl e55 F55 (g := (mkL a1 m 30 #[.val (.ref a1), .unset] [(.ref a1)])) rfl rfl (hb hby d5_30)
  refine own_Fin.step (S' := T56.setTop (mkL a1 m 33 #[.val (.ref a1), .unset] [(.ref ob_52)])) st56 ?_
  have f57 := (Exa.wr W55 f53)
  have f58 := (Fld.other W55 (PM2.keep K52 nin0) (Or.inr (slot_ne (Or.inr (wd15 hw)) (Or.inl (wd30 hw)) (by decide) (t := (.object "java/lang/String")) (t' := (.object "com/example/annotree/annotree/tree/Index")) (by decide) (by decide))))
  have f59 := (Exa.wr W55 G52_0)
  have f60 := (Fld.other W55 G52_1 (Or.inl (own_ne (by omega))))
  have f61 := (G52_2.other W55 (own_ne (by omega)))
  have f62 := ((PM3.keep K52 nin0).other W55 (own_ne (by omega)))
  subst hs
  obtain ⟨V, hr, hrun, hended, M1, hWm, hsame⟩ := leaveS X56 Bd.object Bd.enterable Bd.synchronized (v := some (.ref ob_52)) (fun h => by rw [Bd.returns] at h; cases h)
  rw [e56] at M1
  have hq63 : Q5n Z G1 G2 a1 bb kb bs h0 n0 (some (.ref ob_52)) V.heap _ := ⟨ob_52, ca_52, kk_52, vz_52, rfl, N55, (by have q1 := hsame.2.1; rw [hh] at q1; exact q1), (own_oldEnd hsame N55 (by rw [hh]; exact OLD)), (Exa.mon M1 f57), (Fld.mon M1 F55), (Fld.mon M1 f58), (own_untEnd hsame (by rw [hh]; exact P4)), (Exa.mon M1 f59), (Fld.mon M1 f60), (own_arvMon M1 f61), (own_arvMon M1 f62), U52_0⟩
  exact ⟨V, _, retS X56 hx Bd.returns rfl (Or.inr (Or.inr (Or.inr (Or.inr ⟨rfl, rfl, rfl⟩)))) (hb hby d5_33) hr, hrun, hended, _, _, rfl, hq63, ⟨_, rfl⟩, hWm, hsame.mono (by decide) (by decide)⟩
theorem d5_7 : decode prog_33_method_6_code 7 = .ok (.aload_n 0, 1) := by decide +kernel
theorem d5_8 : decode prog_33_method_6_code 8 = .ok (.getfield 50, 3) := by decide +kernel
theorem d5_11 : decode prog_33_method_6_code 11 = .ok (.areturn, 1) := by decide +kernel
theorem ef_5r (m : MethodId) (x0 : Addr) : entryFrameSync m #[(.ref x0)] 2 x0 = mkL x0 m 0 #[.val (.ref x0), .unset] [] := by first | (simp [entryFrameSync, entryFrame, mkL, argsToLocals, Value.category]; done) | rfl
def Q5r (Z : State) (a1 : Addr) (ix : Addr) (h0 : Heap) (n0 : Nat) (v : Option Value) (h : Heap) (L : List Loc) : Prop := v = some (.ref ix) ∧ Fr n0 L ∧ h = h0
set_option maxRecDepth 65536 in
set_option maxHeartbeats 40000000 in
theorem rm5r (l : Launch) (Z : State) (a0 : Array Value) (hw : OW a0 Z) (ws : List Jvm.Cond) (a1 : Addr) (ix : Addr) (h0 : Heap) (n0 : Nat) (Z0 : n0 ≤ h0.size) (P0 : ex0 Z h0 a1) (P1 : fl1 Z h0 a1 (.ref ix)) (P2 : Unt h0 a1) :
    MetFree l (⟨"com/example/annotree/annotree/tree/SingleByteDecoder", "index", "()Lcom/example/annotree/annotree/tree/Index;"⟩ : MethodName) (head1 [Jvm.Cond.codeSync (⟨"com/example/annotree/annotree/tree/SingleByteDecoder", "index", "()Lcom/example/annotree/annotree/tree/Index;"⟩ : MethodName) prog_33_method_6_code 2 (some (.object "com/example/annotree/annotree/tree/Index")), Jvm.Cond.instanceMethod (⟨"com/example/annotree/annotree/tree/SingleByteDecoder", "index", "()Lcom/example/annotree/annotree/tree/Index;"⟩ : MethodName)] (own_rm 0 0 0 0)) (fun a U => a = #[(.ref a1)] ∧ Z.Warmed39 U.vm ∧ U.heap = h0 ∧ ∃ cell : Cell, h0[a1]? = some cell ∧ cell.enterable U.cur) (fun _ _ _ _ _ => True) (fun _ U o U' => ∃ v L, o = .returned v ∧ Q5r Z a1 ix h0 n0 v U'.heap L ∧ FrameEnd U o U' L (own_rm 0 0 0 0).cells (own_rm 0 0 0 0).slots) := by
  refine MetFree.of_bodySync (plainFor_of_name pn_0) (hisS (List.mem_cons_self ..)) (fun _ s _ ⟨h1, _, h2, cl, h3, h4⟩ => ⟨a1, cl, by rw [h1]; rfl, by rw [h2]; exact h3, h4⟩) ?_
  intro p e s0 m args below meth c a' cell s₁ Bd hml0 hP hK
  obtain ⟨rfl, hZ0, hh, -⟩ := hP
  cases Bd.receiver
  have hx := Bd.exec
  have hby := Bd.bytes
  have hml : c.maxLocals = 2 := hml0
  obtain ⟨s, hs⟩ : ∃ z, z = s0.setCell a1 (cell.withEntry s0.cur) := ⟨_, rfl⟩
  have hown : s.vm.findClass "com/example/annotree/annotree/tree/SingleByteDecoder" = some m.cls := by rw [hs]; exact (findClass_of_methodNamed Bd.named :)
  have hnm := (name_of_methodNamed Bd.named Bd.method).1
  have hZ : Z.Warmed39 s.vm := by rw [hs]; exact hZ0
  have hrt := Bd.returns
  have X0 : Stand p l e (own_rm 0 0 0 0) s m #[(.ref a1)] below meth c s₁ [] 0 0 := by rw [hs]; exact Stand.of_bodySync Bd
  have M0 : Mon h0 s₁.heap := by rw [← hh, Bd.state]; exact mon_set Bd.object _
  obtain ⟨hM, e0⟩ : ∃ z, s₁.heap = z := ⟨_, rfl⟩
  rw [e0] at M0
  have zM := M0.size
  have N0 := Fr.nil n0
  have PM0 : ex0 Z hM a1 := Exa.mon M0 P0
  have PM1 : fl1 Z hM a1 (.ref ix) := Fld.mon M0 P1
  show own_Fin p.tables e below (own_post (Q5r Z a1 ix h0 n0) s0 (own_rm 0 0 0 0).cells (own_rm 0 0 0 0).slots) (s₁.setTop (entryFrameSync m #[(.ref a1)] 2 a1))
  refine own_Fin.step (fun t k => castTop (ef_5r m a1) k) ?_
  have lt_P0 : @LT.lt Nat _ a1 (Array.size h0) := P0.lt
  refine own_Fin.step (S' := s₁.setTop (mkL a1 m 1 #[.val (.ref a1), .unset] [(.ref a1)])) (fun t k => XS.aloadN X0.here hx rfl (hb hby d5_0) rfl rfl  k) ?_
  obtain ⟨T64, X64, e64, st64⟩ := getF X0 hx hZ hown (host := "") (Or.inl (wd29 hw)) Via.refl e0 PM1 (g := (mkL a1 m 1 #[.val (.ref a1), .unset] [(.ref a1)])) rfl rfl (hb hby d5_1)
  refine own_Fin.step (S' := T64.setTop (mkL a1 m 4 #[.val (.ref a1), .unset] [(.ref ix)])) st64 ?_
  refine own_Fin.step (S' := T64.setTop (mkL a1 m 7 #[.val (.ref a1), .unset] [])) (fun t k => XS.ifnullNo X64.here hx rfl (hb hby d5_4) rfl k) ?_
  refine own_Fin.step (S' := T64.setTop (mkL a1 m 8 #[.val (.ref a1), .unset] [(.ref a1)])) (fun t k => XS.aloadN X64.here hx rfl (hb hby d5_7) rfl rfl  k) ?_
  obtain ⟨T65, X65, e65, st65⟩ := getF X64 hx hZ hown (host := "") (Or.inl (wd29 hw)) Via.refl e64 PM1 (g := (mkL a1 m 8 #[.val (.ref a1), .unset] [(.ref a1)])) rfl rfl (hb hby d5_8)
  refine own_Fin.step (S' := T65.setTop (mkL a1 m 11 #[.val (.ref a1), .unset] [(.ref ix)])) st65 ?_
  subst hs
  obtain ⟨V, hr, hrun, hended, M1, hWm, hsame⟩ := leaveS X65 Bd.object Bd.enterable Bd.synchronized (v := some (.ref ix)) (fun h => by rw [Bd.returns] at h; cases h)
  rw [e65] at M1
  have hq66 : Q5r Z a1 ix h0 n0 (some (.ref ix)) V.heap _ := ⟨rfl, N0, ((heap_of_end (o := .returned (some (.ref ix))) (⟨⟨_, rfl⟩, hWm, hsame⟩ : FrameEnd s0 _ V [] 0 0)).trans hh)⟩
  exact ⟨V, _, retS X65 hx Bd.returns rfl (Or.inr (Or.inr (Or.inr (Or.inr ⟨rfl, rfl, rfl⟩)))) (hb hby d5_11) hr, hrun, hended, _, _, rfl, hq66, ⟨_, rfl⟩, hWm, hsame.mono (by decide) (by decide)⟩
abbrev my33 : MethodName := (⟨"com/example/annotree/annotree/tree/Index", "codePoint", "(I)I"⟩ : MethodName)
theorem d33_1 : decode prog_25_method_7_code 1 = .ok (.ifCond .lt 21, 3) := by decide +kernel
theorem d33_6 : decode prog_25_method_7_code 6 = .ok (.getfield 7, 3) := by decide +kernel
theorem d33_9 : decode prog_25_method_7_code 9 = .ok (.arraylength, 1) := by decide +kernel
theorem d33_10 : decode prog_25_method_7_code 10 = .ok (.if_icmp .ge 12, 3) := by decide +kernel
theorem d33_14 : decode prog_25_method_7_code 14 = .ok (.getfield 7, 3) := by decide +kernel
theorem d33_18 : decode prog_25_method_7_code 18 = .ok (.iaload, 1) := by decide +kernel
theorem d33_19 : decode prog_25_method_7_code 19 = .ok (.goto 4, 3) := by decide +kernel
theorem d33_23 : decode prog_25_method_7_code 23 = .ok (.ireturn, 1) := by decide +kernel
theorem e33_0_1 : own_dec prog_25_method_7_code 0 [(.iload_n 1, 1)] = true := by decide +kernel
theorem e33_4_2 : own_dec prog_25_method_7_code 4 [(.iload_n 1, 1), (.aload_n 0, 1)] = true := by decide +kernel
theorem e33_13_1 : own_dec prog_25_method_7_code 13 [(.aload_n 0, 1)] = true := by decide +kernel
theorem e33_17_1 : own_dec prog_25_method_7_code 17 [(.iload_n 1, 1)] = true := by decide +kernel
def Q33 (Z : State) (a1 : Addr) (j1 : Int32) (ca : Addr) (kk : ClassId) (vz : List Value) (h0 : Heap) (n0 : Nat) (v : Option Value) (h : Heap) (L : List Loc) : Prop := v = some (.int (-1 : Int32)) ∧ Fr n0 L ∧ h = h0
set_option maxRecDepth 65536 in
set_option maxHeartbeats 40000000 in
theorem rm33 (l : Launch) (Z : State) (a0 : Array Value) (hw : OW a0 Z) (ws : List Jvm.Cond) (a1 : Addr) (j1 : Int32) (ca : Addr) (kk : ClassId) (vz : List Value) (h0 : Heap) (n0 : Nat) (Z0 : n0 ≤ h0.size) (P0 : fl6 Z h0 a1 (.ref ca)) (P1 : Arv Z h0 ca kk .int (128 : Int32) vz (.int (0 : Int32))) (hj : ¬ j1 < (0 : Int32) ∧ j1 < (128 : Int32)) (hall : ∀ j : Nat, j < 128 → vz.getD j (.int (0 : Int32)) = .int (-1 : Int32)) :
    own_Met l my33 prog_25_method_7_code 2 (some .int) ws (own_rm 0 0 0 0) #[(.ref a1), (.int j1)] Z h0 (Q33 Z a1 j1 ca kk vz h0 n0) 0 0 := by
  refine own_body (plainFor_of_name pn_2) (fun m => by first | (simp [entryFrame, mkF, argsToLocals, Value.category]; done) | rfl) (Ls := #[.val (.ref a1), .val (.int j1)]) fun p e s m below meth c s₁ X0 hx hby hml hZ e0 hown hnm hlk hrt => ?_
  have N0 := Fr.nil n0
  have lt_P0 : @LT.lt Nat _ a1 (Array.size h0) := P0.lt
  have lt_P1 : @LT.lt Nat _ ca (Array.size h0) := P1.lt
  refine own_ru 1 [(.int j1)] X0 hx hby e33_0_1 rfl rfl ?_
  refine own_iN 4 X0 hx (hb hby d33_1) rfl ((if0 _ _).trans (flt hj.1).1) rfl ?_
  refine own_ru 6 [(.ref a1), (.int j1)] X0 hx hby e33_4_2 rfl rfl ?_
  refine own_gF X0 hx hZ hown (host := "") (Or.inl (wd41 hw)) Via.refl e0 P0 9 rfl (hb hby d33_6) rfl fun T67 X67 e67 => ?_
  refine own_aL X67 hx hZ e67 P1 10 rfl (hb hby d33_9) rfl ?_
  refine own_kN 13 X67 hx (hb hby d33_10) rfl (tlt hj.2).2.1 rfl ?_
  refine own_ru 14 [(.ref a1)] X67 hx hby e33_13_1 rfl rfl ?_
  refine own_gF X67 hx hZ hown (host := "") (Or.inl (wd41 hw)) Via.refl e67 P0 17 rfl (hb hby d33_14) rfl fun T68 X68 e68 => ?_
  refine own_ru 18 [(.int j1), (.ref ca)] X68 hx hby e33_17_1 rfl rfl ?_
  obtain ⟨cl69, Ar69, q69, S69, N69z, Hs69, G69⟩ := id P1
  have hin69 : ¬ (j1 < 0 ∨ cl69.slots.size ≤ (j1).toNatClampNeg) := inb_of S69 hj
  have hat69 : cl69.slots[(j1).toNatClampNeg]? = some (.int (-1 : Int32)) := Hs69.at hin69 (hall _ (own_j128 hj.1 hj.2))
  refine own_st 19 [(.int (-1 : Int32))] (X68.iaload hx (j := j1) (v := (.int (-1 : Int32))) (by rw [e68]; exact Ar69.1) (State.isArrayOf_alike hZ.alike Ar69.2.1) Ar69.2.2 hin69 hat69 (g := (mkF m 18 #[.val (.ref a1), .val (.int j1)] [(.int j1), (.ref ca)])) rfl rfl (hb hby d33_18)) ?_
  refine own_go 23 X68 hx (hb hby d33_19) (by decide) (by decide) ?_
  have hq70 : Q33 Z a1 j1 ca kk vz h0 n0 (some (.int (-1 : Int32))) h0 _ := ⟨rfl, N0, rfl⟩
  exact own_retI X68 hx hlk hrt (hb hby d33_23) e68 hq70 (by decide) (by decide)
abbrev my10 : MethodName := (⟨"java/lang/AbstractStringBuilder", "<init>", "(I)V"⟩ : MethodName)
theorem d10_1 : decode jdk_68_method_2_code 1 = .ok (.invokespecial 3, 3) := by decide +kernel
theorem d10_4 : decode jdk_68_method_2_code 4 = .ok (.getstatic 18, 3) := by decide +kernel
theorem d10_7 : decode jdk_68_method_2_code 7 = .ok (.ifCond .eq 18, 3) := by decide +kernel
theorem d10_12 : decode jdk_68_method_2_code 12 = .ok (.newarray .byte, 2) := by decide +kernel
theorem d10_14 : decode jdk_68_method_2_code 14 = .ok (.putfield 15, 3) := by decide +kernel
theorem d10_19 : decode jdk_68_method_2_code 19 = .ok (.putfield 22, 3) := by decide +kernel
theorem d10_22 : decode jdk_68_method_2_code 22 = .ok (.goto 16, 3) := by decide +kernel
theorem d10_38 : decode jdk_68_method_2_code 38 = .ok (.return_, 1) := by decide +kernel
theorem e10_0_1 : own_dec jdk_68_method_2_code 0 [(.aload_n 0, 1)] = true := by decide +kernel
theorem e10_10_2 : own_dec jdk_68_method_2_code 10 [(.aload_n 0, 1), (.iload_n 1, 1)] = true := by decide +kernel
theorem e10_17_2 : own_dec jdk_68_method_2_code 17 [(.aload_n 0, 1), (.iconst 0, 1)] = true := by decide +kernel
theorem pn_3 : plainName "java/lang/AbstractStringBuilder" = true := by first | (simp [plainName, overriddenIn]; done) | decide +kernel
def Q10 (Z : State) (G1 : Int32) (G2 : Value) (a1 : Addr) (zz : Int32) (cap : Nat) (h0 : Heap) (n0 : Nat) (v : Option Value) (h : Heap) (L : List Loc) : Prop := ∃ vn : Addr, ∃ kk : ClassId, v = none ∧ Fr n0 L ∧ Keep h0 h [a1] ∧ ex7 Z h a1 ∧ fl8 Z h a1 (.int (0 : Int32)) ∧ fl9 Z h a1 (.int (0 : Int32)) ∧ fl10 Z h a1 (.ref vn) ∧ fl11 Z h a1 (.int (0 : Int32)) ∧ ex12 Z h vn ∧ Arv Z h vn kk .byte zz (own_la ([] : List Int32) cap) (.int (0 : Int32)) ∧ (h0.size ≤ vn)
set_option maxRecDepth 65536 in
set_option maxHeartbeats 40000000 in
theorem rm10 (l : Launch) (Z : State) (a0 : Array Value) (hw : OW a0 Z) (ws : List Jvm.Cond) (G1 : Int32) (G2 : Value) (a1 : Addr) (zz : Int32) (cap : Nat) (h0 : Heap) (n0 : Nat) (Z0 : n0 ≤ h0.size) (OLD : Old Z n0 h0) (A : Amb Z G1 G2) (P0 : ex7 Z h0 a1) (P1 : fl8 Z h0 a1 (.int (0 : Int32))) (P2 : fl9 Z h0 a1 (.int (0 : Int32))) (P3 : fl10 Z h0 a1 .null) (P4 : fl11 Z h0 a1 (.int (0 : Int32))) (g_a1 : n0 ≤ a1) (hz0 : ¬ zz < (0 : Int32)) (hz4 : zz.toNatClampNeg ≤ 4) :
    own_Met l my10 jdk_68_method_2_code 2 none ws (own_rm 1 1 4 12) #[(.ref a1), (.int zz)] Z h0 (Q10 Z G1 G2 a1 zz cap h0 n0) 1 4 := by
  refine own_body (plainFor_of_name pn_3) (fun m => by first | (simp [entryFrame, mkF, argsToLocals, Value.category]; done) | rfl) (Ls := #[.val (.ref a1), .val (.int zz)]) fun p e s m below meth c s₁ X0 hx hby hml hZ e0 hown hnm hlk hrt => ?_
  have N0 := Fr.nil n0
  have lt_P0 : @LT.lt Nat _ a1 (Array.size h0) := P0.lt
  refine own_ru 1 [(.ref a1)] X0 hx hby e10_0_1 rfl rfl ?_
  refine own_iO X0 hx hZ hown (wd59 hw) (wd12 hw) (wd13 hw) e0 4 0 (by rw [hml]; rfl) rfl (hb hby d10_1) rfl (by decide) rfl (by decide) fun T71 X71 e71 => ?_
  have f72 : Sta Z h0 "java/lang/String" "COMPACT_STRINGS" "Z" (.int G1) := Sta.ext OLD.2 (Amb.a0 A)
  refine own_gS X71 hx hZ hown (host := "") (Or.inl (wd60 hw)) Via.refl e71 f72 7 (hb hby d10_4) rfl fun T73 X73 e73 => ?_
  refine own_iN 10 X73 hx (hb hby d10_7) rfl ((if0 _ _).trans (feq (Amb.g1 A)).1) rfl ?_
  refine own_ru 12 [(.int zz), (.ref a1)] X73 hx hby e10_10_2 rfl rfl ?_
  refine own_nP (aty := .byte) X73 hx hZ (wd0 hw) e73 14 (hb hby d10_12) rfl rfl hz0 (cap := 4) hz4 (by decide) (by decide) (by decide) (ad := "[B") rfl fun T74 h74 k74 b74 g74 X74 e74 E74 A74 B74 => ?_
  have ll74 : @LT.lt Nat _ b74 (Array.size h74) := A74.lt
  have KK74 : Keep h0 h74 [a1] := (Keep.refl h0 [a1]).ext E74
  have z74 := E74.1
  have V74 : Arv Z h74 b74 k74 .byte zz [] (.int (0 : Int32)) := Arv.new A74 hz0
  have f75 := (Exa.ext E74 P0)
  have f76 := (Fld.ext E74 P3)
  refine own_pF X74 hx hZ hown (host := "") (Or.inl (wd62 hw)) Via.refl e74 f76 f75 (Or.inl (wd63 hw)) (wd48 hw) (ty := (.array .byte)) (by decide) rfl rfl 17 rfl (hb hby d10_14) rfl fun T77 h77 X77 e77 W77 => ?_
  have F77 := Fld.same W77 f76
  have z77 := W77.size
  have KK77 : Keep h0 h77 [a1] := KK74.wr W77 (Or.inl (by simp))
  have N77 := Fr.snoc X77 N0 (by omega)
  refine own_ru 19 [(.int (0 : Int32)), (.ref a1)] X77 hx hby e10_17_2 rfl rfl ?_
  have f78 := (Exa.wr W77 f75)
  have f79 := (Fld.other W77 (Fld.ext E74 P2) (Or.inr (slot_ne (Or.inl (wd65 hw)) (Or.inl (wd63 hw)) (by decide) (t := .byte) (t' := (.array .byte)) (by decide) (by decide))))
  refine own_pN X77 hx hZ hown (wd64 hw) Via.refl e77 f79 f78 (Or.inl (wd65 hw)) (wd48 hw) (ty := .byte) (v' := (.int (0 : Int32))) (by decide) rfl (by decide) 22 rfl (hb hby d10_19) rfl fun T80 h80 X80 e80 W80 => ?_
  have F80 := Fld.same W80 f79
  have z80 := W80.size
  have KK80 : Keep h0 h80 [a1] := KK77.wr W80 (Or.inl (by simp))
  have N80 := Fr.snoc X80 N77 (by omega)
  refine own_go 38 X80 hx (hb hby d10_22) (by decide) (by decide) ?_
  have f82 := (Exa.wr W80 f78)
  have f83 := (Fld.other W80 (Fld.other W77 (Fld.ext E74 P1) (Or.inr (slot_ne (Or.inl (wd77 hw)) (Or.inl (wd63 hw)) (by decide) (t := .int) (t' := (.array .byte)) (by decide) (by decide)))) (Or.inr (slot_ne (Or.inl (wd77 hw)) (Or.inl (wd65 hw)) (by decide) (t := .int) (t' := .byte) (by decide) (by decide))))
  have f84 := (Fld.other W80 F77 (Or.inr (slot_ne (Or.inl (wd63 hw)) (Or.inl (wd65 hw)) (by decide) (t := (.array .byte)) (t' := .byte) (by decide) (by decide))))
  have f85 := (Fld.other W80 (Fld.other W77 (Fld.ext E74 P4) (Or.inr (slot_ne (Or.inl (wd230 hw)) (Or.inl (wd63 hw)) (by decide) (t := .boolean) (t' := (.array .byte)) (by decide) (by decide)))) (Or.inr (slot_ne (Or.inl (wd230 hw)) (Or.inl (wd65 hw)) (by decide) (t := .boolean) (t' := .byte) (by decide) (by decide))))
  have f86 := (Exa.wr W80 (Exa.wr W77 B74))
  have f87 := ((V74.other W77 (own_ne (by omega))).other W80 (own_ne (by omega)))
  have hq81 : Q10 Z G1 G2 a1 zz cap h0 n0 none h80 _ := ⟨b74, k74, rfl, N80, KK80, f82, f83, F80, f84, f85, f86, (Arv.pad f87 (own_padL cap)), (by first | omega | assumption)⟩
  exact own_retV X80 hx hlk hrt (hb hby d10_38) e80 hq81 (by decide) (by decide)
abbrev my9 : MethodName := (⟨"java/lang/StringBuilder", "<init>", "(I)V"⟩ : MethodName)
theorem d9_2 : decode jdk_67_method_2_code 2 = .ok (.invokespecial 1, 3) := by decide +kernel
theorem d9_5 : decode jdk_67_method_2_code 5 = .ok (.return_, 1) := by decide +kernel
theorem e9_0_2 : own_dec jdk_67_method_2_code 0 [(.aload_n 0, 1), (.iload_n 1, 1)] = true := by decide +kernel
theorem pn_4 : plainName "java/lang/StringBuilder" = true := by first | (simp [plainName, overriddenIn]; done) | decide +kernel
def Q9 (Z : State) (G1 : Int32) (G2 : Value) (a1 : Addr) (zz : Int32) (cap : Nat) (h0 : Heap) (n0 : Nat) (v : Option Value) (h : Heap) (L : List Loc) : Prop := ∃ vn : Addr, ∃ kk : ClassId, v = none ∧ Fr n0 L ∧ Keep h0 h [a1] ∧ ex7 Z h a1 ∧ fl8 Z h a1 (.int (0 : Int32)) ∧ fl9 Z h a1 (.int (0 : Int32)) ∧ fl10 Z h a1 (.ref vn) ∧ fl11 Z h a1 (.int (0 : Int32)) ∧ ex12 Z h vn ∧ Arv Z h vn kk .byte zz (own_la ([] : List Int32) cap) (.int (0 : Int32)) ∧ (h0.size ≤ vn)
set_option maxRecDepth 65536 in
set_option maxHeartbeats 40000000 in
theorem rm9 (l : Launch) (Z : State) (a0 : Array Value) (hw : OW a0 Z) (ws : List Jvm.Cond) (G1 : Int32) (G2 : Value) (a1 : Addr) (zz : Int32) (cap : Nat) (h0 : Heap) (n0 : Nat) (Z0 : n0 ≤ h0.size) (OLD : Old Z n0 h0) (A : Amb Z G1 G2) (P0 : ex7 Z h0 a1) (P1 : fl8 Z h0 a1 (.int (0 : Int32))) (P2 : fl9 Z h0 a1 (.int (0 : Int32))) (P3 : fl10 Z h0 a1 .null) (P4 : fl11 Z h0 a1 (.int (0 : Int32))) (g_a1 : n0 ≤ a1) (hz0 : ¬ zz < (0 : Int32)) (hz4 : zz.toNatClampNeg ≤ 4) :
    own_Met l my9 jdk_67_method_2_code 2 none ws (own_rm 2 1 4 25) #[(.ref a1), (.int zz)] Z h0 (Q9 Z G1 G2 a1 zz cap h0 n0) 1 4 := by
  refine own_body (plainFor_of_name pn_4) (fun m => by first | (simp [entryFrame, mkF, argsToLocals, Value.category]; done) | rfl) (Ls := #[.val (.ref a1), .val (.int zz)]) fun p e s m below meth c s₁ X0 hx hby hml hZ e0 hown hnm hlk hrt => ?_
  have N0 := Fr.nil n0
  have lt_P0 : @LT.lt Nat _ a1 (Array.size h0) := P0.lt
  refine own_ru 2 [(.int zz), (.ref a1)] X0 hx hby e9_0_2 rfl rfl ?_
  refine own_cN X0 hx hZ hown rfl (wd53 hw) (wd54 hw) (by decide) (wd58 hw) (wd57 hw) (rm10 l Z a0 hw [] G1 G2 a1 zz cap h0 n0 (by omega) OLD A P0 P1 P2 P3 P4 (by omega) hz0 hz4) e0  [(.int zz)] [] 5 0 (hb hby d9_2) rfl (by rw [hml]; rfl) rfl rfl (lenOf pd_2 rfl) rfl (by decide) fun v88 T88 Lc88 X88 hQ88 => ?_
  obtain ⟨vn_88, kk_88, rfl, N88q, K88, G88_0, G88_1, G88_2, G88_3, G88_4, G88_5, G88_6, U88_0⟩ := hQ88
  have N88 := Fr.app N0 N88q
  have z88 := K88.1
  have KK88 : Keep h0 T88.heap [a1] := (Keep.refl h0 [a1]).trans K88 (allS (Or.inl (by simp)) all0)
  have lt88_0 : @LT.lt Nat _ a1 (Array.size T88.heap) := G88_0.lt
  have lt88_5 : @LT.lt Nat _ vn_88 (Array.size T88.heap) := G88_5.lt
  have hq89 : Q9 Z G1 G2 a1 zz cap h0 n0 none T88.heap _ := ⟨vn_88, kk_88, rfl, N88, KK88, G88_0, G88_1, G88_2, G88_3, G88_4, G88_5, G88_6, (by first | omega | assumption)⟩
  exact own_retV X88 hx hlk hrt (hb hby d9_5) rfl hq89 (by decide) (by decide)
abbrev my14 : MethodName := (⟨"java/lang/AbstractStringBuilder", "isLatin1", "()Z"⟩ : MethodName)
theorem d14_0 : decode jdk_68_method_68_code 0 = .ok (.getstatic 18, 3) := by decide +kernel
theorem d14_3 : decode jdk_68_method_68_code 3 = .ok (.ifCond .eq 14, 3) := by decide +kernel
theorem d14_7 : decode jdk_68_method_68_code 7 = .ok (.getfield 22, 3) := by decide +kernel
theorem d14_10 : decode jdk_68_method_68_code 10 = .ok (.ifCond .ne 7, 3) := by decide +kernel
theorem d14_14 : decode jdk_68_method_68_code 14 = .ok (.goto 4, 3) := by decide +kernel
theorem d14_18 : decode jdk_68_method_68_code 18 = .ok (.ireturn, 1) := by decide +kernel
theorem e14_6_1 : own_dec jdk_68_method_68_code 6 [(.aload_n 0, 1)] = true := by decide +kernel
theorem e14_13_1 : own_dec jdk_68_method_68_code 13 [(.iconst 1, 1)] = true := by decide +kernel
def Q14d0 (Z : State) (G1 : Int32) (G2 : Value) (a1 : Addr) (h0 : Heap) (n0 : Nat) (v : Option Value) (h : Heap) (L : List Loc) : Prop := v = some (.int (1 : Int32)) ∧ Fr n0 L ∧ h = h0
set_option maxRecDepth 65536 in
set_option maxHeartbeats 40000000 in
theorem rm14d0 (l : Launch) (Z : State) (a0 : Array Value) (hw : OW a0 Z) (ws : List Jvm.Cond) (G1 : Int32) (G2 : Value) (a1 : Addr) (h0 : Heap) (n0 : Nat) (Z0 : n0 ≤ h0.size) (OLD : Old Z n0 h0) (A : Amb Z G1 G2) (P0 : fl9 Z h0 a1 (.int (0 : Int32))) :
    own_Met l my14 jdk_68_method_68_code 1 (some .boolean) ws (own_rm 0 0 0 0) #[(.ref a1)] Z h0 (Q14d0 Z G1 G2 a1 h0 n0) 0 0 := by
  refine own_body (plainFor_of_name pn_3) (fun m => by first | (simp [entryFrame, mkF, argsToLocals, Value.category]; done) | rfl) (Ls := #[.val (.ref a1)]) fun p e s m below meth c s₁ X0 hx hby hml hZ e0 hown hnm hlk hrt => ?_
  have N0 := Fr.nil n0
  have lt_P0 : @LT.lt Nat _ a1 (Array.size h0) := P0.lt
  have f90 : Sta Z h0 "java/lang/String" "COMPACT_STRINGS" "Z" (.int G1) := Sta.ext OLD.2 (Amb.a0 A)
  refine own_gS X0 hx hZ hown (host := "") (Or.inl (wd60 hw)) Via.refl e0 f90 3 (hb hby d14_0) rfl fun T91 X91 e91 => ?_
  refine own_iN 6 X91 hx (hb hby d14_3) rfl ((if0 _ _).trans (feq (Amb.g1 A)).1) rfl ?_
  refine own_ru 7 [(.ref a1)] X91 hx hby e14_6_1 rfl rfl ?_
  refine own_gF X91 hx hZ hown (host := "") (Or.inl (wd64 hw)) Via.refl e91 P0 10 rfl (hb hby d14_7) rfl fun T92 X92 e92 => ?_
  refine own_iN 13 X92 hx (hb hby d14_10) rfl ((if0 _ _).trans (teq (by decide : ((0 : Int32) = (0 : Int32)))).2) rfl ?_
  refine own_ru 14 [(.int (1 : Int32))] X92 hx hby e14_13_1 rfl rfl ?_
  refine own_go 18 X92 hx (hb hby d14_14) (by decide) (by decide) ?_
  have hq93 : Q14d0 Z G1 G2 a1 h0 n0 (some (.int (nar .boolean (1 : Int32)))) h0 _ := ⟨rfl, N0, rfl⟩
  exact own_retN X92 hx hlk (t := .boolean) hrt (by simp) (hb hby d14_18) e92 hq93 (by decide) (by decide)
theorem e14_17_1 : own_dec jdk_68_method_68_code 17 [(.iconst 0, 1)] = true := by decide +kernel
def Q14d1 (Z : State) (G1 : Int32) (G2 : Value) (a1 : Addr) (h0 : Heap) (n0 : Nat) (v : Option Value) (h : Heap) (L : List Loc) : Prop := v = some (.int (0 : Int32)) ∧ Fr n0 L ∧ h = h0
set_option maxRecDepth 65536 in
set_option maxHeartbeats 40000000 in
theorem rm14d1 (l : Launch) (Z : State) (a0 : Array Value) (hw : OW a0 Z) (ws : List Jvm.Cond) (G1 : Int32) (G2 : Value) (a1 : Addr) (h0 : Heap) (n0 : Nat) (Z0 : n0 ≤ h0.size) (OLD : Old Z n0 h0) (A : Amb Z G1 G2) (P0 : fl9 Z h0 a1 (.int (1 : Int32))) :
    own_Met l my14 jdk_68_method_68_code 1 (some .boolean) ws (own_rm 0 0 0 0) #[(.ref a1)] Z h0 (Q14d1 Z G1 G2 a1 h0 n0) 0 0 := by
  refine own_body (plainFor_of_name pn_3) (fun m => by first | (simp [entryFrame, mkF, argsToLocals, Value.category]; done) | rfl) (Ls := #[.val (.ref a1)]) fun p e s m below meth c s₁ X0 hx hby hml hZ e0 hown hnm hlk hrt => ?_
  have N0 := Fr.nil n0
  have lt_P0 : @LT.lt Nat _ a1 (Array.size h0) := P0.lt
  have f94 : Sta Z h0 "java/lang/String" "COMPACT_STRINGS" "Z" (.int G1) := Sta.ext OLD.2 (Amb.a0 A)
  refine own_gS X0 hx hZ hown (host := "") (Or.inl (wd60 hw)) Via.refl e0 f94 3 (hb hby d14_0) rfl fun T95 X95 e95 => ?_
  refine own_iN 6 X95 hx (hb hby d14_3) rfl ((if0 _ _).trans (feq (Amb.g1 A)).1) rfl ?_
  refine own_ru 7 [(.ref a1)] X95 hx hby e14_6_1 rfl rfl ?_
  refine own_gF X95 hx hZ hown (host := "") (Or.inl (wd64 hw)) Via.refl e95 P0 10 rfl (hb hby d14_7) rfl fun T96 X96 e96 => ?_
  refine own_iY 17 X96 hx (hb hby d14_10) rfl ((if0 _ _).trans (feq (by decide : ¬ ((1 : Int32) = (0 : Int32)))).2) (by decide) (by decide) ?_
  refine own_ru 18 [(.int (0 : Int32))] X96 hx hby e14_17_1 rfl rfl ?_
  have hq97 : Q14d1 Z G1 G2 a1 h0 n0 (some (.int (nar .boolean (0 : Int32)))) h0 _ := ⟨rfl, N0, rfl⟩
  exact own_retN X96 hx hlk (t := .boolean) hrt (by simp) (hb hby d14_18) e96 hq97 (by decide) (by decide)
abbrev my28 : MethodName := (⟨"java/lang/String", "isLatin1", "()Z"⟩ : MethodName)
theorem d28_0 : decode jdk_42_method_154_code 0 = .ok (.getstatic 38, 3) := by decide +kernel
theorem d28_3 : decode jdk_42_method_154_code 3 = .ok (.ifCond .eq 14, 3) := by decide +kernel
theorem d28_7 : decode jdk_42_method_154_code 7 = .ok (.getfield 15, 3) := by decide +kernel
theorem d28_10 : decode jdk_42_method_154_code 10 = .ok (.ifCond .ne 7, 3) := by decide +kernel
theorem d28_14 : decode jdk_42_method_154_code 14 = .ok (.goto 4, 3) := by decide +kernel
theorem d28_18 : decode jdk_42_method_154_code 18 = .ok (.ireturn, 1) := by decide +kernel
theorem e28_6_1 : own_dec jdk_42_method_154_code 6 [(.aload_n 0, 1)] = true := by decide +kernel
theorem e28_13_1 : own_dec jdk_42_method_154_code 13 [(.iconst 1, 1)] = true := by decide +kernel
theorem pn_5 : plainName "java/lang/String" = true := by first | (simp [plainName, overriddenIn]; done) | decide +kernel
def Q28d0 (Z : State) (G1 : Int32) (G2 : Value) (a1 : Addr) (h0 : Heap) (n0 : Nat) (v : Option Value) (h : Heap) (L : List Loc) : Prop := v = some (.int (1 : Int32)) ∧ Fr n0 L ∧ h = h0
set_option maxRecDepth 65536 in
set_option maxHeartbeats 40000000 in
theorem rm28d0 (l : Launch) (Z : State) (a0 : Array Value) (hw : OW a0 Z) (ws : List Jvm.Cond) (G1 : Int32) (G2 : Value) (a1 : Addr) (h0 : Heap) (n0 : Nat) (Z0 : n0 ≤ h0.size) (OLD : Old Z n0 h0) (A : Amb Z G1 G2) (P0 : fl13 Z h0 a1 (.int (0 : Int32))) :
    own_Met l my28 jdk_42_method_154_code 1 (some .boolean) ws (own_rm 0 0 0 0) #[(.ref a1)] Z h0 (Q28d0 Z G1 G2 a1 h0 n0) 0 0 := by
  refine own_body (plainFor_of_name pn_5) (fun m => by first | (simp [entryFrame, mkF, argsToLocals, Value.category]; done) | rfl) (Ls := #[.val (.ref a1)]) fun p e s m below meth c s₁ X0 hx hby hml hZ e0 hown hnm hlk hrt => ?_
  have N0 := Fr.nil n0
  have lt_P0 : @LT.lt Nat _ a1 (Array.size h0) := P0.lt
  have f98 : Sta Z h0 "java/lang/String" "COMPACT_STRINGS" "Z" (.int G1) := Sta.ext OLD.2 (Amb.a0 A)
  refine own_gS X0 hx hZ hown (host := "") (Or.inl (wd151 hw)) Via.refl e0 f98 3 (hb hby d28_0) rfl fun T99 X99 e99 => ?_
  refine own_iN 6 X99 hx (hb hby d28_3) rfl ((if0 _ _).trans (feq (Amb.g1 A)).1) rfl ?_
  refine own_ru 7 [(.ref a1)] X99 hx hby e28_6_1 rfl rfl ?_
  refine own_gF X99 hx hZ hown (host := "") (Or.inl (wd121 hw)) Via.refl e99 P0 10 rfl (hb hby d28_7) rfl fun T100 X100 e100 => ?_
  refine own_iN 13 X100 hx (hb hby d28_10) rfl ((if0 _ _).trans (teq (by decide : ((0 : Int32) = (0 : Int32)))).2) rfl ?_
  refine own_ru 14 [(.int (1 : Int32))] X100 hx hby e28_13_1 rfl rfl ?_
  refine own_go 18 X100 hx (hb hby d28_14) (by decide) (by decide) ?_
  have hq101 : Q28d0 Z G1 G2 a1 h0 n0 (some (.int (nar .boolean (1 : Int32)))) h0 _ := ⟨rfl, N0, rfl⟩
  exact own_retN X100 hx hlk (t := .boolean) hrt (by simp) (hb hby d28_18) e100 hq101 (by decide) (by decide)
theorem e28_17_1 : own_dec jdk_42_method_154_code 17 [(.iconst 0, 1)] = true := by decide +kernel
def Q28d1 (Z : State) (G1 : Int32) (G2 : Value) (a1 : Addr) (h0 : Heap) (n0 : Nat) (v : Option Value) (h : Heap) (L : List Loc) : Prop := v = some (.int (0 : Int32)) ∧ Fr n0 L ∧ h = h0
set_option maxRecDepth 65536 in
set_option maxHeartbeats 40000000 in
theorem rm28d1 (l : Launch) (Z : State) (a0 : Array Value) (hw : OW a0 Z) (ws : List Jvm.Cond) (G1 : Int32) (G2 : Value) (a1 : Addr) (h0 : Heap) (n0 : Nat) (Z0 : n0 ≤ h0.size) (OLD : Old Z n0 h0) (A : Amb Z G1 G2) (P0 : fl13 Z h0 a1 (.int (1 : Int32))) :
    own_Met l my28 jdk_42_method_154_code 1 (some .boolean) ws (own_rm 0 0 0 0) #[(.ref a1)] Z h0 (Q28d1 Z G1 G2 a1 h0 n0) 0 0 := by
  refine own_body (plainFor_of_name pn_5) (fun m => by first | (simp [entryFrame, mkF, argsToLocals, Value.category]; done) | rfl) (Ls := #[.val (.ref a1)]) fun p e s m below meth c s₁ X0 hx hby hml hZ e0 hown hnm hlk hrt => ?_
  have N0 := Fr.nil n0
  have lt_P0 : @LT.lt Nat _ a1 (Array.size h0) := P0.lt
  have f102 : Sta Z h0 "java/lang/String" "COMPACT_STRINGS" "Z" (.int G1) := Sta.ext OLD.2 (Amb.a0 A)
  refine own_gS X0 hx hZ hown (host := "") (Or.inl (wd151 hw)) Via.refl e0 f102 3 (hb hby d28_0) rfl fun T103 X103 e103 => ?_
  refine own_iN 6 X103 hx (hb hby d28_3) rfl ((if0 _ _).trans (feq (Amb.g1 A)).1) rfl ?_
  refine own_ru 7 [(.ref a1)] X103 hx hby e28_6_1 rfl rfl ?_
  refine own_gF X103 hx hZ hown (host := "") (Or.inl (wd121 hw)) Via.refl e103 P0 10 rfl (hb hby d28_7) rfl fun T104 X104 e104 => ?_
  refine own_iY 17 X104 hx (hb hby d28_10) rfl ((if0 _ _).trans (feq (by decide : ¬ ((1 : Int32) = (0 : Int32)))).2) (by decide) (by decide) ?_
  refine own_ru 18 [(.int (0 : Int32))] X104 hx hby e28_17_1 rfl rfl ?_
  have hq105 : Q28d1 Z G1 G2 a1 h0 n0 (some (.int (nar .boolean (0 : Int32)))) h0 _ := ⟨rfl, N0, rfl⟩
  exact own_retN X104 hx hlk (t := .boolean) hrt (by simp) (hb hby d28_18) e104 hq105 (by decide) (by decide)
abbrev my15 : MethodName := (⟨"java/lang/StringLatin1", "canEncode", "(C)Z"⟩ : MethodName)
theorem d15_4 : decode jdk_43_method_3_code 4 = .ok (.if_icmp .gt 7, 3) := by decide +kernel
theorem d15_12 : decode jdk_43_method_3_code 12 = .ok (.ireturn, 1) := by decide +kernel
theorem e15_0_2 : own_dec jdk_43_method_3_code 0 [(.iload_n 0, 1), (.sipush 255, 3)] = true := by decide +kernel
theorem e15_11_1 : own_dec jdk_43_method_3_code 11 [(.iconst 0, 1)] = true := by decide +kernel
theorem pn_6 : plainName "java/lang/StringLatin1" = true := by first | (simp [plainName, overriddenIn]; done) | decide +kernel
def Q15n (Z : State)  (h0 : Heap) (n0 : Nat) (v : Option Value) (h : Heap) (L : List Loc) : Prop := v = some (.int (0 : Int32)) ∧ Fr n0 L ∧ h = h0
set_option maxRecDepth 65536 in
set_option maxHeartbeats 40000000 in
theorem rm15n (l : Launch) (Z : State) (a0 : Array Value) (hw : OW a0 Z) (ws : List Jvm.Cond)  (h0 : Heap) (n0 : Nat) (Z0 : n0 ≤ h0.size)  :
    own_Met l my15 jdk_43_method_3_code 1 (some .boolean) ws (own_rm 0 0 0 0) #[(.int (65533 : Int32))] Z h0 (Q15n Z  h0 n0) 0 0 := by
  refine own_body (plainFor_of_name pn_6) (fun m => by first | (simp [entryFrame, mkF, argsToLocals, Value.category]; done) | rfl) (Ls := #[.val (.int (65533 : Int32))]) fun p e s m below meth c s₁ X0 hx hby hml hZ e0 hown hnm hlk hrt => ?_
  have N0 := Fr.nil n0
  refine own_ru 4 [(.int (255 : Int32)), (.int (65533 : Int32))] X0 hx hby e15_0_2 rfl rfl ?_
  refine own_kY 11 X0 hx (hb hby d15_4) rfl (tlt (by decide : ((255 : Int32) < (65533 : Int32)))).2.2.1 (by decide) (by decide) ?_
  refine own_ru 12 [(.int (0 : Int32))] X0 hx hby e15_11_1 rfl rfl ?_
  have hq106 : Q15n Z  h0 n0 (some (.int (nar .boolean (0 : Int32)))) h0 _ := ⟨rfl, N0, rfl⟩
  exact own_retN X0 hx hlk (t := .boolean) hrt (by simp) (hb hby d15_12) e0 hq106 (by decide) (by decide)
theorem d15_8 : decode jdk_43_method_3_code 8 = .ok (.goto 4, 3) := by decide +kernel
theorem e15_7_1 : own_dec jdk_43_method_3_code 7 [(.iconst 1, 1)] = true := by decide +kernel
def Q15y (Z : State) (q : Int32) (h0 : Heap) (n0 : Nat) (v : Option Value) (h : Heap) (L : List Loc) : Prop := v = some (.int (1 : Int32)) ∧ Fr n0 L ∧ h = h0
set_option maxRecDepth 65536 in
set_option maxHeartbeats 40000000 in
theorem rm15y (l : Launch) (Z : State) (a0 : Array Value) (hw : OW a0 Z) (ws : List Jvm.Cond) (q : Int32) (h0 : Heap) (n0 : Nat) (Z0 : n0 ≤ h0.size) (hq : ¬ (255 : Int32) < q) :
    own_Met l my15 jdk_43_method_3_code 1 (some .boolean) ws (own_rm 0 0 0 0) #[(.int q)] Z h0 (Q15y Z q h0 n0) 0 0 := by
  refine own_body (plainFor_of_name pn_6) (fun m => by first | (simp [entryFrame, mkF, argsToLocals, Value.category]; done) | rfl) (Ls := #[.val (.int q)]) fun p e s m below meth c s₁ X0 hx hby hml hZ e0 hown hnm hlk hrt => ?_
  have N0 := Fr.nil n0
  refine own_ru 4 [(.int (255 : Int32)), (.int q)] X0 hx hby e15_0_2 rfl rfl ?_
  refine own_kN 7 X0 hx (hb hby d15_4) rfl (flt hq).2.2.1 rfl ?_
  refine own_ru 8 [(.int (1 : Int32))] X0 hx hby e15_7_1 rfl rfl ?_
  refine own_go 12 X0 hx (hb hby d15_8) (by decide) (by decide) ?_
  have hq107 : Q15y Z q h0 n0 (some (.int (nar .boolean (1 : Int32)))) h0 _ := ⟨rfl, N0, rfl⟩
  exact own_retN X0 hx hlk (t := .boolean) hrt (by simp) (hb hby d15_12) e0 hq107 (by decide) (by decide)
abbrev my13 : MethodName := (⟨"java/lang/AbstractStringBuilder", "ensureCapacityInternal", "(I)V"⟩ : MethodName)
theorem d13_1 : decode jdk_68_method_9_code 1 = .ok (.getfield 15, 3) := by decide +kernel
theorem d13_4 : decode jdk_68_method_9_code 4 = .ok (.arraylength, 1) := by decide +kernel
theorem d13_6 : decode jdk_68_method_9_code 6 = .ok (.getfield 22, 3) := by decide +kernel
theorem d13_14 : decode jdk_68_method_9_code 14 = .ok (.ifCond .le 24, 3) := by decide +kernel
theorem d13_38 : decode jdk_68_method_9_code 38 = .ok (.return_, 1) := by decide +kernel
theorem e13_0_1 : own_dec jdk_68_method_9_code 0 [(.aload_n 0, 1)] = true := by decide +kernel
theorem e13_5_1 : own_dec jdk_68_method_9_code 5 [(.aload_n 0, 1)] = true := by decide +kernel
theorem e13_9_5 : own_dec jdk_68_method_9_code 9 [(.ishr, 1), (.istore_n 2, 1), (.iload_n 1, 1), (.iload_n 2, 1), (.isub, 1)] = true := by decide +kernel
def Q13 (Z : State) (a1 : Addr) (n1 : Int32) (va : Addr) (cd : Int32) (kk : ClassId) (zz : Int32) (vs : List Value) (h0 : Heap) (n0 : Nat) (v : Option Value) (h : Heap) (L : List Loc) : Prop := v = none ∧ Fr n0 L ∧ h = h0
set_option maxRecDepth 65536 in
set_option maxHeartbeats 40000000 in
theorem rm13 (l : Launch) (Z : State) (a0 : Array Value) (hw : OW a0 Z) (ws : List Jvm.Cond) (a1 : Addr) (n1 : Int32) (va : Addr) (cd : Int32) (kk : ClassId) (zz : Int32) (vs : List Value) (h0 : Heap) (n0 : Nat) (Z0 : n0 ≤ h0.size) (P0 : fl10 Z h0 a1 (.ref va)) (P1 : fl9 Z h0 a1 (.int cd)) (P2 : Arv Z h0 va kk .byte zz vs (.int (0 : Int32))) (hcap : ¬ (0 : Int32) < (n1 - (zz >>> (cd &&& 31)))) :
    own_Met l my13 jdk_68_method_9_code 3 none ws (own_rm 0 0 0 0) #[(.ref a1), (.int n1)] Z h0 (Q13 Z a1 n1 va cd kk zz vs h0 n0) 0 0 := by
  refine own_body (plainFor_of_name pn_3) (fun m => by first | (simp [entryFrame, mkF, argsToLocals, Value.category]; done) | rfl) (Ls := #[.val (.ref a1), .val (.int n1), .unset]) fun p e s m below meth c s₁ X0 hx hby hml hZ e0 hown hnm hlk hrt => ?_
  have N0 := Fr.nil n0
  have lt_P0 : @LT.lt Nat _ a1 (Array.size h0) := P0.lt
  have lt_P2 : @LT.lt Nat _ va (Array.size h0) := P2.lt
  refine own_ru 1 [(.ref a1)] X0 hx hby e13_0_1 rfl rfl ?_
  refine own_gF X0 hx hZ hown (host := "") (Or.inl (wd62 hw)) Via.refl e0 P0 4 rfl (hb hby d13_1) rfl fun T108 X108 e108 => ?_
  refine own_aL X108 hx hZ e108 P2 5 rfl (hb hby d13_4) rfl ?_
  refine own_ru 6 [(.ref a1), (.int zz)] X108 hx hby e13_5_1 rfl rfl ?_
  refine own_gF X108 hx hZ hown (host := "") (Or.inl (wd64 hw)) Via.refl e108 P1 9 rfl (hb hby d13_6) rfl fun T109 X109 e109 => ?_
  refine own_rl 14 #[.val (.ref a1), .val (.int n1), .val (.int (zz >>> (cd &&& 31)))] [(.int (n1 - (zz >>> (cd &&& 31))))] X109 hx hby e13_9_5 rfl rfl ?_
  refine own_iY 38 X109 hx (hb hby d13_14) rfl ((if0 _ _).trans (flt hcap).2.2.2) (by decide) (by decide) ?_
  have hq110 : Q13 Z a1 n1 va cd kk zz vs h0 n0 none h0 _ := ⟨rfl, N0, rfl⟩
  exact own_retV X109 hx hlk hrt (hb hby d13_38) e109 hq110 (by decide) (by decide)
abbrev my40 : MethodName := (⟨"java/lang/StringUTF16", "length", "([B)I"⟩ : MethodName)
theorem d40_1 : decode jdk_52_method_6_code 1 = .ok (.arraylength, 1) := by decide +kernel
theorem d40_4 : decode jdk_52_method_6_code 4 = .ok (.ireturn, 1) := by decide +kernel
theorem e40_0_1 : own_dec jdk_52_method_6_code 0 [(.aload_n 0, 1)] = true := by decide +kernel
theorem e40_2_2 : own_dec jdk_52_method_6_code 2 [(.iconst 1, 1), (.ishr, 1)] = true := by decide +kernel
theorem pn_7 : plainName "java/lang/StringUTF16" = true := by first | (simp [plainName, overriddenIn]; done) | decide +kernel
def Q40 (Z : State) (a1 : Addr) (kk : ClassId) (zz : Int32) (vs : List Value) (h0 : Heap) (n0 : Nat) (v : Option Value) (h : Heap) (L : List Loc) : Prop := v = some (.int (zz >>> ((1 : Int32) &&& 31))) ∧ Fr n0 L ∧ h = h0
set_option maxRecDepth 65536 in
set_option maxHeartbeats 40000000 in
theorem rm40 (l : Launch) (Z : State) (a0 : Array Value) (hw : OW a0 Z) (ws : List Jvm.Cond) (a1 : Addr) (kk : ClassId) (zz : Int32) (vs : List Value) (h0 : Heap) (n0 : Nat) (Z0 : n0 ≤ h0.size) (P0 : Arv Z h0 a1 kk .byte zz vs (.int (0 : Int32))) :
    own_Met l my40 jdk_52_method_6_code 1 (some .int) ws (own_rm 0 0 0 0) #[(.ref a1)] Z h0 (Q40 Z a1 kk zz vs h0 n0) 0 0 := by
  refine own_body (plainFor_of_name pn_7) (fun m => by first | (simp [entryFrame, mkF, argsToLocals, Value.category]; done) | rfl) (Ls := #[.val (.ref a1)]) fun p e s m below meth c s₁ X0 hx hby hml hZ e0 hown hnm hlk hrt => ?_
  have N0 := Fr.nil n0
  have lt_P0 : @LT.lt Nat _ a1 (Array.size h0) := P0.lt
  refine own_ru 1 [(.ref a1)] X0 hx hby e40_0_1 rfl rfl ?_
  refine own_aL X0 hx hZ e0 P0 2 rfl (hb hby d40_1) rfl ?_
  refine own_ru 4 [(.int (zz >>> ((1 : Int32) &&& 31)))] X0 hx hby e40_2_2 rfl rfl ?_
  have hq111 : Q40 Z a1 kk zz vs h0 n0 (some (.int (zz >>> ((1 : Int32) &&& 31)))) h0 _ := ⟨rfl, N0, rfl⟩
  exact own_retI X0 hx hlk hrt (hb hby d40_4) e0 hq111 (by decide) (by decide)
abbrev my31 : MethodName := (⟨"jdk/internal/util/Preconditions", "checkIndex", "(IILjava/util/function/BiFunction;)I"⟩ : MethodName)
theorem d31_1 : decode jdk_41_method_11_code 1 = .ok (.ifCond .lt 8, 3) := by decide +kernel
theorem d31_6 : decode jdk_41_method_11_code 6 = .ok (.if_icmp .lt 10, 3) := by decide +kernel
theorem d31_17 : decode jdk_41_method_11_code 17 = .ok (.ireturn, 1) := by decide +kernel
theorem e31_0_1 : own_dec jdk_41_method_11_code 0 [(.iload_n 0, 1)] = true := by decide +kernel
theorem e31_4_2 : own_dec jdk_41_method_11_code 4 [(.iload_n 0, 1), (.iload_n 1, 1)] = true := by decide +kernel
theorem e31_16_1 : own_dec jdk_41_method_11_code 16 [(.iload_n 0, 1)] = true := by decide +kernel
theorem pn_8 : plainName "jdk/internal/util/Preconditions" = true := by first | (simp [plainName, overriddenIn]; done) | decide +kernel
def Q31 (Z : State) (j1 : Int32) (nn : Int32) (uf : Value) (h0 : Heap) (n0 : Nat) (v : Option Value) (h : Heap) (L : List Loc) : Prop := v = some (.int j1) ∧ Fr n0 L ∧ h = h0
set_option maxRecDepth 65536 in
set_option maxHeartbeats 40000000 in
theorem rm31 (l : Launch) (Z : State) (a0 : Array Value) (hw : OW a0 Z) (ws : List Jvm.Cond) (j1 : Int32) (nn : Int32) (uf : Value) (h0 : Heap) (n0 : Nat) (Z0 : n0 ≤ h0.size) (h_uf : uf.isRef = true) (hi0 : ¬ j1 < (0 : Int32)) (hi1 : j1 < nn) :
    own_Met l my31 jdk_41_method_11_code 3 (some .int) ws (own_rm 0 0 0 0) #[(.int j1), (.int nn), uf] Z h0 (Q31 Z j1 nn uf h0 n0) 0 0 := by
  refine own_body (plainFor_of_name pn_8) (fun m => by first | (simp [entryFrame, mkF, argsToLocals, own_catR, own_catI, own_catJ, own_catN, own_cat1 h_uf]; done) | rfl) (Ls := #[.val (.int j1), .val (.int nn), .val uf]) fun p e s m below meth c s₁ X0 hx hby hml hZ e0 hown hnm hlk hrt => ?_
  have N0 := Fr.nil n0
  refine own_ru 1 [(.int j1)] X0 hx hby e31_0_1 rfl rfl ?_
  refine own_iN 4 X0 hx (hb hby d31_1) rfl ((if0 _ _).trans (flt hi0).1) rfl ?_
  refine own_ru 6 [(.int nn), (.int j1)] X0 hx hby e31_4_2 rfl rfl ?_
  refine own_kY 16 X0 hx (hb hby d31_6) rfl (tlt hi1).1 (by decide) (by decide) ?_
  refine own_ru 17 [(.int j1)] X0 hx hby e31_16_1 rfl rfl ?_
  have hq112 : Q31 Z j1 nn uf h0 n0 (some (.int j1)) h0 _ := ⟨rfl, N0, rfl⟩
  exact own_retI X0 hx hlk hrt (hb hby d31_17) e0 hq112 (by decide) (by decide)
abbrev my30 : MethodName := (⟨"java/lang/String", "checkIndex", "(II)V"⟩ : MethodName)
theorem d30_2 : decode jdk_42_method_155_code 2 = .ok (.getstatic 1053, 3) := by decide +kernel
theorem d30_5 : decode jdk_42_method_155_code 5 = .ok (.invokestatic 1059, 3) := by decide +kernel
theorem d30_9 : decode jdk_42_method_155_code 9 = .ok (.return_, 1) := by decide +kernel
theorem e30_0_2 : own_dec jdk_42_method_155_code 0 [(.iload_n 0, 1), (.iload_n 1, 1)] = true := by decide +kernel
theorem e30_8_1 : own_dec jdk_42_method_155_code 8 [(.pop, 1)] = true := by decide +kernel
theorem pd_4 : parseMethodDescriptor "(IILjava/util/function/BiFunction;)I" = some ⟨[.int, .int, (.object "java/util/function/BiFunction")], some .int⟩ := by decide +kernel
def Q30 (Z : State) (G1 : Int32) (G2 : Value) (j1 : Int32) (nn : Int32) (h0 : Heap) (n0 : Nat) (v : Option Value) (h : Heap) (L : List Loc) : Prop := v = none ∧ Fr n0 L ∧ h = h0
set_option maxRecDepth 65536 in
set_option maxHeartbeats 40000000 in
theorem rm30 (l : Launch) (Z : State) (a0 : Array Value) (hw : OW a0 Z) (ws : List Jvm.Cond) (G1 : Int32) (G2 : Value) (j1 : Int32) (nn : Int32) (h0 : Heap) (n0 : Nat) (Z0 : n0 ≤ h0.size) (OLD : Old Z n0 h0) (A : Amb Z G1 G2) (hi0 : ¬ j1 < (0 : Int32)) (hi1 : j1 < nn) :
    own_Met l my30 jdk_42_method_155_code 2 none ws (own_rm 1 0 0 14) #[(.int j1), (.int nn)] Z h0 (Q30 Z G1 G2 j1 nn h0 n0) 0 0 := by
  refine own_body (plainFor_of_name pn_5) (fun m => by first | (simp [entryFrame, mkF, argsToLocals, Value.category]; done) | rfl) (Ls := #[.val (.int j1), .val (.int nn)]) fun p e s m below meth c s₁ X0 hx hby hml hZ e0 hown hnm hlk hrt => ?_
  have N0 := Fr.nil n0
  have h_G2 := Amb.g2 A
  refine own_ru 2 [(.int nn), (.int j1)] X0 hx hby e30_0_2 rfl rfl ?_
  have f113 : Sta Z h0 "jdk/internal/util/Preconditions" "SIOOBE_FORMATTER" "Ljava/util/function/BiFunction;" G2 := Sta.ext OLD.2 (Amb.a1 A)
  refine own_gS X0 hx hZ hown (host := "") (Or.inl (wd171 hw)) Via.refl e0 f113 5 (hb hby d30_2) rfl fun T114 X114 e114 => ?_
  refine own_cS X114 hx hZ hown (wd173 hw) (wd174 hw) (by decide) (wd175 hw) (wd172 hw) (rm31 l Z a0 hw [] j1 nn G2 h0 n0 (by omega) h_G2 (by first | assumption | decide | omega) (by first | assumption | decide | omega)) e114  [(.int j1), (.int nn), G2] [] 8 0 (hb hby d30_5) rfl (by rw [hml]; rfl) rfl rfl (lenOf pd_4 rfl) rfl (by decide) fun v115 T115 Lc115 X115 hQ115 => ?_
  obtain ⟨rfl, N115q, e115⟩ := hQ115
  have N115 := Fr.app N0 N115q
  refine own_ru 9 [] X115 hx hby e30_8_1 rfl rfl ?_
  have hq116 : Q30 Z G1 G2 j1 nn h0 n0 none h0 _ := ⟨rfl, N115, rfl⟩
  exact own_retV X115 hx hlk hrt (hb hby d30_9) e115 hq116 (by decide) (by decide)
abbrev my45 : MethodName := (⟨"java/lang/StringUTF16", "checkIndex", "(I[B)V"⟩ : MethodName)
theorem d45_2 : decode jdk_52_method_91_code 2 = .ok (.invokestatic 48, 3) := by decide +kernel
theorem d45_5 : decode jdk_52_method_91_code 5 = .ok (.invokestatic 414, 3) := by decide +kernel
theorem d45_8 : decode jdk_52_method_91_code 8 = .ok (.return_, 1) := by decide +kernel
theorem e45_0_2 : own_dec jdk_52_method_91_code 0 [(.iload_n 0, 1), (.aload_n 1, 1)] = true := by decide +kernel
theorem pd_5 : parseMethodDescriptor "([B)I" = some ⟨[(.array .byte)], some .int⟩ := by decide +kernel
theorem pd_6 : parseMethodDescriptor "(II)V" = some ⟨[.int, .int], none⟩ := by decide +kernel
def Q45 (Z : State) (G1 : Int32) (G2 : Value) (j1 : Int32) (va : Addr) (kk : ClassId) (zz : Int32) (vs : List Value) (h0 : Heap) (n0 : Nat) (v : Option Value) (h : Heap) (L : List Loc) : Prop := v = none ∧ Fr n0 L ∧ h = h0
set_option maxRecDepth 65536 in
set_option maxHeartbeats 40000000 in
theorem rm45 (l : Launch) (Z : State) (a0 : Array Value) (hw : OW a0 Z) (ws : List Jvm.Cond) (G1 : Int32) (G2 : Value) (j1 : Int32) (va : Addr) (kk : ClassId) (zz : Int32) (vs : List Value) (h0 : Heap) (n0 : Nat) (Z0 : n0 ≤ h0.size) (OLD : Old Z n0 h0) (A : Amb Z G1 G2) (P0 : Arv Z h0 va kk .byte zz vs (.int (0 : Int32))) (hi0 : ¬ j1 < (0 : Int32)) (hi1 : j1 < (zz >>> ((1 : Int32) &&& 31))) :
    own_Met l my45 jdk_52_method_91_code 2 none ws (own_rm 2 0 0 27) #[(.int j1), (.ref va)] Z h0 (Q45 Z G1 G2 j1 va kk zz vs h0 n0) 0 0 := by
  refine own_body (plainFor_of_name pn_7) (fun m => by first | (simp [entryFrame, mkF, argsToLocals, Value.category]; done) | rfl) (Ls := #[.val (.int j1), .val (.ref va)]) fun p e s m below meth c s₁ X0 hx hby hml hZ e0 hown hnm hlk hrt => ?_
  have N0 := Fr.nil n0
  have lt_P0 : @LT.lt Nat _ va (Array.size h0) := P0.lt
  refine own_ru 2 [(.ref va), (.int j1)] X0 hx hby e45_0_2 rfl rfl ?_
  refine own_cS X0 hx hZ hown (wd207 hw) (wd208 hw) (by decide) (wd209 hw) (wd192 hw) (rm40 l Z a0 hw [] va kk zz vs h0 n0 (by omega) P0) e0  [(.ref va)] [(.int j1)] 5 1 (hb hby d45_2) rfl (by rw [hml]; rfl) rfl rfl (lenOf pd_5 rfl) rfl (by decide) fun v117 T117 Lc117 X117 hQ117 => ?_
  obtain ⟨rfl, N117q, e117⟩ := hQ117
  have N117 := Fr.app N0 N117q
  refine own_cS X117 hx hZ hown (wd228 hw) (wd169 hw) (by decide) (wd170 hw) (wd61 hw) (rm30 l Z a0 hw [] G1 G2 j1 (zz >>> ((1 : Int32) &&& 31)) h0 n0 (by omega) OLD A (by first | assumption | decide | omega) (by first | assumption | decide | omega)) e117  [(.int j1), (.int (zz >>> ((1 : Int32) &&& 31)))] [] 8 0 (hb hby d45_5) rfl (by rw [hml]; rfl) rfl rfl (lenOf pd_6 rfl) rfl (by decide) fun v118 T118 Lc118 X118 hQ118 => ?_
  obtain ⟨rfl, N118q, e118⟩ := hQ118
  have N118 := Fr.app N117 N118q
  have hq119 : Q45 Z G1 G2 j1 va kk zz vs h0 n0 none h0 _ := ⟨rfl, N118, rfl⟩
  exact own_retV X118 hx hlk hrt (hb hby d45_8) e118 hq119 (by decide) (by decide)
abbrev my43 : MethodName := (⟨"java/lang/StringUTF16", "putChar", "([BII)V"⟩ : MethodName)
theorem d43_0 : decode jdk_52_method_4_code 0 = .ok (.getstatic 44, 3) := by decide +kernel
theorem d43_3 : decode jdk_52_method_4_code 3 = .ok (.ifCond .ne 25, 3) := by decide +kernel
theorem d43_38 : decode jdk_52_method_4_code 38 = .ok (.getstatic 59, 3) := by decide +kernel
theorem d43_43 : decode jdk_52_method_4_code 43 = .ok (.bastore, 1) := by decide +kernel
theorem d43_47 : decode jdk_52_method_4_code 47 = .ok (.getstatic 63, 3) := by decide +kernel
theorem d43_52 : decode jdk_52_method_4_code 52 = .ok (.bastore, 1) := by decide +kernel
theorem d43_53 : decode jdk_52_method_4_code 53 = .ok (.return_, 1) := by decide +kernel
theorem e43_28_8 : own_dec jdk_52_method_4_code 28 [(.iload_n 1, 1), (.iconst 1, 1), (.ishl, 1), (.istore_n 1, 1), (.aload_n 0, 1), (.iload_n 1, 1), (.iinc 1 1, 3), (.iload_n 2, 1)] = true := by decide +kernel
theorem e43_41_2 : own_dec jdk_52_method_4_code 41 [(.ishr, 1), (.i2b, 1)] = true := by decide +kernel
theorem e43_44_3 : own_dec jdk_52_method_4_code 44 [(.aload_n 0, 1), (.iload_n 1, 1), (.iload_n 2, 1)] = true := by decide +kernel
theorem e43_50_2 : own_dec jdk_52_method_4_code 50 [(.ishr, 1), (.i2b, 1)] = true := by decide +kernel
def Q43 (Z : State) (G1 : Int32) (G2 : Value) (va : Addr) (nn : Int32) (q : Int32) (kk : ClassId) (zz : Int32) (vs : List Value) (h0 : Heap) (n0 : Nat) (v : Option Value) (h : Heap) (L : List Loc) : Prop := v = none ∧ Fr n0 L ∧ Keep h0 h [va] ∧ Arv Z h va kk .byte zz ((vs.set ((nn <<< ((1 : Int32) &&& 31))).toNatClampNeg (.int (own_e0 q))).set (((nn <<< ((1 : Int32) &&& 31)) + (1 : Int32))).toNatClampNeg (.int (own_e1 q))) (.int (0 : Int32))
set_option maxRecDepth 65536 in
set_option maxHeartbeats 40000000 in
theorem rm43 (l : Launch) (Z : State) (a0 : Array Value) (hw : OW a0 Z) (ws : List Jvm.Cond) (G1 : Int32) (G2 : Value) (va : Addr) (nn : Int32) (q : Int32) (kk : ClassId) (zz : Int32) (vs : List Value) (h0 : Heap) (n0 : Nat) (Z0 : n0 ≤ h0.size) (OLD : Old Z n0 h0) (A : Amb Z G1 G2) (P0 : Arv Z h0 va kk .byte zz vs (.int (0 : Int32))) (g_va : n0 ≤ va) (hp0 : ¬ (nn <<< ((1 : Int32) &&& 31)) < (0 : Int32) ∧ (nn <<< ((1 : Int32) &&& 31)) < zz) (hp1 : ¬ ((nn <<< ((1 : Int32) &&& 31)) + (1 : Int32)) < (0 : Int32) ∧ ((nn <<< ((1 : Int32) &&& 31)) + (1 : Int32)) < zz) (hl0 : (nn <<< ((1 : Int32) &&& 31)).toNatClampNeg < vs.length) (hl1 : ((nn <<< ((1 : Int32) &&& 31)) + (1 : Int32)).toNatClampNeg < vs.length) :
    own_Met l my43 jdk_52_method_4_code 3 none ws (own_rm 0 0 0 0) #[(.ref va), (.int nn), (.int q)] Z h0 (Q43 Z G1 G2 va nn q kk zz vs h0 n0) 0 0 := by
  refine own_body (plainFor_of_name pn_7) (fun m => by first | (simp [entryFrame, mkF, argsToLocals, Value.category]; done) | rfl) (Ls := #[.val (.ref va), .val (.int nn), .val (.int q)]) fun p e s m below meth c s₁ X0 hx hby hml hZ e0 hown hnm hlk hrt => ?_
  have N0 := Fr.nil n0
  have lt_P0 : @LT.lt Nat _ va (Array.size h0) := P0.lt
  have f120 : Sta Z h0 "java/lang/StringUTF16" "$assertionsDisabled" "Z" (.int (1 : Int32)) := Sta.ext OLD.2 (Amb.a2 A)
  refine own_gS X0 hx hZ hown (host := "") (Or.inl (wd219 hw)) Via.refl e0 f120 3 (hb hby d43_0) rfl fun T121 X121 e121 => ?_
  refine own_iY 28 X121 hx (hb hby d43_3) rfl ((if0 _ _).trans (feq (by decide : ¬ ((1 : Int32) = (0 : Int32)))).2) (by decide) (by decide) ?_
  refine own_rl 38 #[.val (.ref va), .val (.int ((nn <<< ((1 : Int32) &&& 31)) + (1 : Int32))), .val (.int q)] [(.int q), (.int (nn <<< ((1 : Int32) &&& 31))), (.ref va)] X121 hx hby e43_28_8 rfl rfl ?_
  have f122 : Sta Z h0 "java/lang/StringUTF16" "HI_BYTE_SHIFT" "I" (.int (0 : Int32)) := Sta.ext OLD.2 (Amb.a3 A)
  refine own_gS X121 hx hZ hown (host := "") (Or.inl (wd220 hw)) Via.refl e121 f122 41 (hb hby d43_38) rfl fun T123 X123 e123 => ?_
  refine own_ru 43 [(.int ((q >>> ((0 : Int32) &&& 31)).toInt8.toInt32)), (.int (nn <<< ((1 : Int32) &&& 31))), (.ref va)] X123 hx hby e43_41_2 rfl rfl ?_
  obtain ⟨cl124, Ar124, q124, S124, N124z, Hs124, G124⟩ := id P0
  have hin124 : ¬ ((nn <<< ((1 : Int32) &&& 31)) < 0 ∨ cl124.slots.size ≤ ((nn <<< ((1 : Int32) &&& 31))).toNatClampNeg) := inb_of S124 hp0
  obtain ⟨T125, h125, X125, e125, W125, st125⟩ := stB X123 hx hZ e123 Ar124 (j := (nn <<< ((1 : Int32) &&& 31))) hin124 (g := (mkF m 43 #[.val (.ref va), .val (.int ((nn <<< ((1 : Int32) &&& 31)) + (1 : Int32))), .val (.int q)] [(.int ((q >>> ((0 : Int32) &&& 31)).toInt8.toInt32)), (.int (nn <<< ((1 : Int32) &&& 31))), (.ref va)])) rfl rfl (hb hby d43_43)
  have V125 : Arv Z h125 va kk .byte zz (vs.set ((nn <<< ((1 : Int32) &&& 31))).toNatClampNeg (.int (nar .byte ((q >>> ((0 : Int32) &&& 31)).toInt8.toInt32)))) (.int (0 : Int32)) := Arv.set Ar124 q124 S124 N124z Hs124 G124 (fits_nar_byte _) W125 _ rfl hl0
  have z125 := W125.size
  have KK125 : Keep h0 h125 [va] := (Keep.refl h0 [va]).wr W125 (Or.inl (by simp))
  have N125 := Fr.snoc X125 N0 (by omega)
  refine own_sT 44 [] st125 ?_
  refine own_ru 47 [(.int q), (.int ((nn <<< ((1 : Int32) &&& 31)) + (1 : Int32))), (.ref va)] X125 hx hby e43_44_3 rfl rfl ?_
  have f126 := (OLD.wr W125 (by omega))
  have f127 : Sta Z h125 "java/lang/StringUTF16" "LO_BYTE_SHIFT" "I" (.int (8 : Int32)) := Sta.ext f126.2 (Amb.a4 A)
  refine own_gS X125 hx hZ hown (host := "") (Or.inl (wd221 hw)) Via.refl e125 f127 50 (hb hby d43_47) rfl fun T128 X128 e128 => ?_
  refine own_ru 52 [(.int ((q >>> ((8 : Int32) &&& 31)).toInt8.toInt32)), (.int ((nn <<< ((1 : Int32) &&& 31)) + (1 : Int32))), (.ref va)] X128 hx hby e43_50_2 rfl rfl ?_
  obtain ⟨cl129, Ar129, q129, S129, N129z, Hs129, G129⟩ := id V125
  have hin129 : ¬ (((nn <<< ((1 : Int32) &&& 31)) + (1 : Int32)) < 0 ∨ cl129.slots.size ≤ (((nn <<< ((1 : Int32) &&& 31)) + (1 : Int32))).toNatClampNeg) := inb_of S129 hp1
  obtain ⟨T130, h130, X130, e130, W130, st130⟩ := stB X128 hx hZ e128 Ar129 (j := ((nn <<< ((1 : Int32) &&& 31)) + (1 : Int32))) hin129 (g := (mkF m 52 #[.val (.ref va), .val (.int ((nn <<< ((1 : Int32) &&& 31)) + (1 : Int32))), .val (.int q)] [(.int ((q >>> ((8 : Int32) &&& 31)).toInt8.toInt32)), (.int ((nn <<< ((1 : Int32) &&& 31)) + (1 : Int32))), (.ref va)])) rfl rfl (hb hby d43_52)
  have V130 : Arv Z h130 va kk .byte zz ((vs.set ((nn <<< ((1 : Int32) &&& 31))).toNatClampNeg (.int (nar .byte ((q >>> ((0 : Int32) &&& 31)).toInt8.toInt32)))).set (((nn <<< ((1 : Int32) &&& 31)) + (1 : Int32))).toNatClampNeg (.int (nar .byte ((q >>> ((8 : Int32) &&& 31)).toInt8.toInt32)))) (.int (0 : Int32)) := Arv.set Ar129 q129 S129 N129z Hs129 G129 (fits_nar_byte _) W130 _ rfl (by rw [List.length_set]; exact hl1)
  have z130 := W130.size
  have KK130 : Keep h0 h130 [va] := KK125.wr W130 (Or.inl (by simp))
  have N130 := Fr.snoc X130 N125 (by omega)
  refine own_sT 53 [] st130 ?_
  have hq131 : Q43 Z G1 G2 va nn q kk zz vs h0 n0 none h130 _ := ⟨rfl, N130, KK130, V130⟩
  exact own_retV X130 hx hlk hrt (hb hby d43_53) e130 hq131 (by decide) (by decide)
abbrev my44 : MethodName := (⟨"java/lang/StringUTF16", "putCharSB", "([BII)V"⟩ : MethodName)
theorem d44_2 : decode jdk_52_method_71_code 2 = .ok (.invokestatic 67, 3) := by decide +kernel
theorem d44_8 : decode jdk_52_method_71_code 8 = .ok (.invokestatic 111, 3) := by decide +kernel
theorem d44_11 : decode jdk_52_method_71_code 11 = .ok (.return_, 1) := by decide +kernel
theorem e44_0_2 : own_dec jdk_52_method_71_code 0 [(.iload_n 1, 1), (.aload_n 0, 1)] = true := by decide +kernel
theorem e44_5_3 : own_dec jdk_52_method_71_code 5 [(.aload_n 0, 1), (.iload_n 1, 1), (.iload_n 2, 1)] = true := by decide +kernel
theorem pd_7 : parseMethodDescriptor "(I[B)V" = some ⟨[.int, (.array .byte)], none⟩ := by decide +kernel
theorem pd_8 : parseMethodDescriptor "([BII)V" = some ⟨[(.array .byte), .int, .int], none⟩ := by decide +kernel
def Q44 (Z : State) (G1 : Int32) (G2 : Value) (va : Addr) (nn : Int32) (q : Int32) (kk : ClassId) (zz : Int32) (vs : List Value) (h0 : Heap) (n0 : Nat) (v : Option Value) (h : Heap) (L : List Loc) : Prop := v = none ∧ Fr n0 L ∧ Keep h0 h [va] ∧ Arv Z h va kk .byte zz ((vs.set ((nn <<< ((1 : Int32) &&& 31))).toNatClampNeg (.int (own_e0 q))).set (((nn <<< ((1 : Int32) &&& 31)) + (1 : Int32))).toNatClampNeg (.int (own_e1 q))) (.int (0 : Int32))
set_option maxRecDepth 65536 in
set_option maxHeartbeats 40000000 in
theorem rm44 (l : Launch) (Z : State) (a0 : Array Value) (hw : OW a0 Z) (ws : List Jvm.Cond) (G1 : Int32) (G2 : Value) (va : Addr) (nn : Int32) (q : Int32) (kk : ClassId) (zz : Int32) (vs : List Value) (h0 : Heap) (n0 : Nat) (Z0 : n0 ≤ h0.size) (OLD : Old Z n0 h0) (A : Amb Z G1 G2) (P0 : Arv Z h0 va kk .byte zz vs (.int (0 : Int32))) (g_va : n0 ≤ va) (hi0 : ¬ nn < (0 : Int32)) (hi1 : nn < (zz >>> ((1 : Int32) &&& 31))) (hp0 : ¬ (nn <<< ((1 : Int32) &&& 31)) < (0 : Int32) ∧ (nn <<< ((1 : Int32) &&& 31)) < zz) (hp1 : ¬ ((nn <<< ((1 : Int32) &&& 31)) + (1 : Int32)) < (0 : Int32) ∧ ((nn <<< ((1 : Int32) &&& 31)) + (1 : Int32)) < zz) (hl0 : (nn <<< ((1 : Int32) &&& 31)).toNatClampNeg < vs.length) (hl1 : ((nn <<< ((1 : Int32) &&& 31)) + (1 : Int32)).toNatClampNeg < vs.length) :
    own_Met l my44 jdk_52_method_71_code 3 none ws (own_rm 3 0 0 40) #[(.ref va), (.int nn), (.int q)] Z h0 (Q44 Z G1 G2 va nn q kk zz vs h0 n0) 0 0 := by
  refine own_body (plainFor_of_name pn_7) (fun m => by first | (simp [entryFrame, mkF, argsToLocals, Value.category]; done) | rfl) (Ls := #[.val (.ref va), .val (.int nn), .val (.int q)]) fun p e s m below meth c s₁ X0 hx hby hml hZ e0 hown hnm hlk hrt => ?_
  have N0 := Fr.nil n0
  have lt_P0 : @LT.lt Nat _ va (Array.size h0) := P0.lt
  refine own_ru 2 [(.ref va), (.int nn)] X0 hx hby e44_0_2 rfl rfl ?_
  refine own_cS X0 hx hZ hown (wd225 hw) (wd226 hw) (by decide) (wd227 hw) (wd192 hw) (rm45 l Z a0 hw [] G1 G2 nn va kk zz vs h0 n0 (by omega) OLD A P0 hi0 hi1) e0  [(.int nn), (.ref va)] [] 5 0 (hb hby d44_2) rfl (by rw [hml]; rfl) rfl rfl (lenOf pd_7 rfl) rfl (by decide) fun v132 T132 Lc132 X132 hQ132 => ?_
  obtain ⟨rfl, N132q, e132⟩ := hQ132
  have N132 := Fr.app N0 N132q
  refine own_ru 8 [(.int q), (.int nn), (.ref va)] X132 hx hby e44_5_3 rfl rfl ?_
  refine own_cS X132 hx hZ hown (wd216 hw) (wd217 hw) (by decide) (wd218 hw) (wd192 hw) (rm43 l Z a0 hw [] G1 G2 va nn q kk zz vs h0 n0 (by omega) OLD A P0 (by omega) hp0 hp1 hl0 hl1) e132  [(.ref va), (.int nn), (.int q)] [] 11 0 (hb hby d44_8) rfl (by rw [hml]; rfl) rfl rfl (lenOf pd_8 rfl) rfl (by decide) fun v133 T133 Lc133 X133 hQ133 => ?_
  obtain ⟨rfl, N133q, K133, G133_0⟩ := hQ133
  have N133 := Fr.app N132 N133q
  have z133 := K133.1
  have KK133 : Keep h0 T133.heap [va] := (Keep.refl h0 [va]).trans K133 (allS (Or.inl (by simp)) all0)
  have lt133_0 : @LT.lt Nat _ va (Array.size T133.heap) := G133_0.lt
  have hq134 : Q44 Z G1 G2 va nn q kk zz vs h0 n0 none T133.heap _ := ⟨rfl, N133, KK133, G133_0⟩
  exact own_retV X133 hx hlk hrt (hb hby d44_11) rfl hq134 (by decide) (by decide)
abbrev my42 : MethodName := (⟨"jdk/internal/util/Preconditions", "checkFromIndexSize", "(IIILjava/util/function/BiFunction;)I"⟩ : MethodName)
theorem d42_5 : decode jdk_41_method_13_code 5 = .ok (.ifCond .lt 10, 3) := by decide +kernel
theorem d42_12 : decode jdk_41_method_13_code 12 = .ok (.if_icmp .le 11, 3) := by decide +kernel
theorem d42_24 : decode jdk_41_method_13_code 24 = .ok (.ireturn, 1) := by decide +kernel
theorem e42_0_5 : own_dec jdk_41_method_13_code 0 [(.iload_n 2, 1), (.iload_n 0, 1), (.ior, 1), (.iload_n 1, 1), (.ior, 1)] = true := by decide +kernel
theorem e42_8_4 : own_dec jdk_41_method_13_code 8 [(.iload_n 1, 1), (.iload_n 2, 1), (.iload_n 0, 1), (.isub, 1)] = true := by decide +kernel
theorem e42_23_1 : own_dec jdk_41_method_13_code 23 [(.iload_n 0, 1)] = true := by decide +kernel
def Q42 (Z : State) (o1 : Int32) (k1 : Int32) (nn : Int32) (uf : Value) (h0 : Heap) (n0 : Nat) (v : Option Value) (h : Heap) (L : List Loc) : Prop := v = some (.int o1) ∧ Fr n0 L ∧ h = h0
set_option maxRecDepth 65536 in
set_option maxHeartbeats 40000000 in
theorem rm42 (l : Launch) (Z : State) (a0 : Array Value) (hw : OW a0 Z) (ws : List Jvm.Cond) (o1 : Int32) (k1 : Int32) (nn : Int32) (uf : Value) (h0 : Heap) (n0 : Nat) (Z0 : n0 ≤ h0.size) (h_uf : uf.isRef = true) (p1 : ¬ ((nn ||| o1) ||| k1) < (0 : Int32)) (p2 : ¬ (nn - o1) < k1) :
    own_Met l my42 jdk_41_method_13_code 4 (some .int) ws (own_rm 0 0 0 0) #[(.int o1), (.int k1), (.int nn), uf] Z h0 (Q42 Z o1 k1 nn uf h0 n0) 0 0 := by
  refine own_body (plainFor_of_name pn_8) (fun m => by first | (simp [entryFrame, mkF, argsToLocals, own_catR, own_catI, own_catJ, own_catN, own_cat1 h_uf]; done) | rfl) (Ls := #[.val (.int o1), .val (.int k1), .val (.int nn), .val uf]) fun p e s m below meth c s₁ X0 hx hby hml hZ e0 hown hnm hlk hrt => ?_
  have N0 := Fr.nil n0
  refine own_ru 5 [(.int ((nn ||| o1) ||| k1))] X0 hx hby e42_0_5 rfl rfl ?_
  refine own_iN 8 X0 hx (hb hby d42_5) rfl ((if0 _ _).trans (flt p1).1) rfl ?_
  refine own_ru 12 [(.int (nn - o1)), (.int k1)] X0 hx hby e42_8_4 rfl rfl ?_
  refine own_kY 23 X0 hx (hb hby d42_12) rfl (flt p2).2.2.2 (by decide) (by decide) ?_
  refine own_ru 24 [(.int o1)] X0 hx hby e42_23_1 rfl rfl ?_
  have hq135 : Q42 Z o1 k1 nn uf h0 n0 (some (.int o1)) h0 _ := ⟨rfl, N0, rfl⟩
  exact own_retI X0 hx hlk hrt (hb hby d42_24) e0 hq135 (by decide) (by decide)
abbrev my41 : MethodName := (⟨"java/lang/String", "checkBoundsOffCount", "(III)I"⟩ : MethodName)
theorem d41_3 : decode jdk_42_method_157_code 3 = .ok (.getstatic 1053, 3) := by decide +kernel
theorem d41_6 : decode jdk_42_method_157_code 6 = .ok (.invokestatic 1065, 3) := by decide +kernel
theorem d41_9 : decode jdk_42_method_157_code 9 = .ok (.ireturn, 1) := by decide +kernel
theorem e41_0_3 : own_dec jdk_42_method_157_code 0 [(.iload_n 0, 1), (.iload_n 1, 1), (.iload_n 2, 1)] = true := by decide +kernel
theorem pd_9 : parseMethodDescriptor "(IIILjava/util/function/BiFunction;)I" = some ⟨[.int, .int, .int, (.object "java/util/function/BiFunction")], some .int⟩ := by decide +kernel
def Q41 (Z : State) (G1 : Int32) (G2 : Value) (o1 : Int32) (k1 : Int32) (nn : Int32) (h0 : Heap) (n0 : Nat) (v : Option Value) (h : Heap) (L : List Loc) : Prop := v = some (.int o1) ∧ Fr n0 L ∧ h = h0
set_option maxRecDepth 65536 in
set_option maxHeartbeats 40000000 in
theorem rm41 (l : Launch) (Z : State) (a0 : Array Value) (hw : OW a0 Z) (ws : List Jvm.Cond) (G1 : Int32) (G2 : Value) (o1 : Int32) (k1 : Int32) (nn : Int32) (h0 : Heap) (n0 : Nat) (Z0 : n0 ≤ h0.size) (OLD : Old Z n0 h0) (A : Amb Z G1 G2) (p1 : ¬ ((nn ||| o1) ||| k1) < (0 : Int32)) (p2 : ¬ (nn - o1) < k1) :
    own_Met l my41 jdk_42_method_157_code 3 (some .int) ws (own_rm 1 0 0 15) #[(.int o1), (.int k1), (.int nn)] Z h0 (Q41 Z G1 G2 o1 k1 nn h0 n0) 0 0 := by
  refine own_body (plainFor_of_name pn_5) (fun m => by first | (simp [entryFrame, mkF, argsToLocals, Value.category]; done) | rfl) (Ls := #[.val (.int o1), .val (.int k1), .val (.int nn)]) fun p e s m below meth c s₁ X0 hx hby hml hZ e0 hown hnm hlk hrt => ?_
  have N0 := Fr.nil n0
  have h_G2 := Amb.g2 A
  refine own_ru 3 [(.int nn), (.int k1), (.int o1)] X0 hx hby e41_0_3 rfl rfl ?_
  have f136 : Sta Z h0 "jdk/internal/util/Preconditions" "SIOOBE_FORMATTER" "Ljava/util/function/BiFunction;" G2 := Sta.ext OLD.2 (Amb.a1 A)
  refine own_gS X0 hx hZ hown (host := "") (Or.inl (wd171 hw)) Via.refl e0 f136 6 (hb hby d41_3) rfl fun T137 X137 e137 => ?_
  refine own_cS X137 hx hZ hown (wd213 hw) (wd214 hw) (by decide) (wd215 hw) (wd172 hw) (rm42 l Z a0 hw [] o1 k1 nn G2 h0 n0 (by omega) h_G2 (by first | assumption | decide | omega) (by first | assumption | decide | omega)) e137  [(.int o1), (.int k1), (.int nn), G2] [] 9 0 (hb hby d41_6) rfl (by rw [hml]; rfl) rfl rfl (lenOf pd_9 rfl) rfl (by decide) fun v138 T138 Lc138 X138 hQ138 => ?_
  obtain ⟨rfl, N138q, e138⟩ := hQ138
  have N138 := Fr.app N0 N138q
  have hq139 : Q41 Z G1 G2 o1 k1 nn h0 n0 (some (.int o1)) h0 _ := ⟨rfl, N138, rfl⟩
  exact own_retI X138 hx hlk hrt (hb hby d41_9) e138 hq139 (by decide) (by decide)
abbrev my39 : MethodName := (⟨"java/lang/StringUTF16", "checkBoundsOffCount", "(II[B)V"⟩ : MethodName)
theorem d39_3 : decode jdk_52_method_94_code 3 = .ok (.invokestatic 48, 3) := by decide +kernel
theorem d39_6 : decode jdk_52_method_94_code 6 = .ok (.invokestatic 419, 3) := by decide +kernel
theorem d39_10 : decode jdk_52_method_94_code 10 = .ok (.return_, 1) := by decide +kernel
theorem e39_0_3 : own_dec jdk_52_method_94_code 0 [(.iload_n 0, 1), (.iload_n 1, 1), (.aload_n 2, 1)] = true := by decide +kernel
theorem e39_9_1 : own_dec jdk_52_method_94_code 9 [(.pop, 1)] = true := by decide +kernel
theorem pd_10 : parseMethodDescriptor "(III)I" = some ⟨[.int, .int, .int], some .int⟩ := by decide +kernel
def Q39 (Z : State) (G1 : Int32) (G2 : Value) (o1 : Int32) (k1 : Int32) (va : Addr) (kk : ClassId) (zz : Int32) (vs : List Value) (h0 : Heap) (n0 : Nat) (v : Option Value) (h : Heap) (L : List Loc) : Prop := v = none ∧ Fr n0 L ∧ h = h0
set_option maxRecDepth 65536 in
set_option maxHeartbeats 40000000 in
theorem rm39 (l : Launch) (Z : State) (a0 : Array Value) (hw : OW a0 Z) (ws : List Jvm.Cond) (G1 : Int32) (G2 : Value) (o1 : Int32) (k1 : Int32) (va : Addr) (kk : ClassId) (zz : Int32) (vs : List Value) (h0 : Heap) (n0 : Nat) (Z0 : n0 ≤ h0.size) (OLD : Old Z n0 h0) (A : Amb Z G1 G2) (P0 : Arv Z h0 va kk .byte zz vs (.int (0 : Int32))) (p1 : ¬ (((zz >>> ((1 : Int32) &&& 31)) ||| o1) ||| k1) < (0 : Int32)) (p2 : ¬ ((zz >>> ((1 : Int32) &&& 31)) - o1) < k1) :
    own_Met l my39 jdk_52_method_94_code 3 none ws (own_rm 2 0 0 29) #[(.int o1), (.int k1), (.ref va)] Z h0 (Q39 Z G1 G2 o1 k1 va kk zz vs h0 n0) 0 0 := by
  refine own_body (plainFor_of_name pn_7) (fun m => by first | (simp [entryFrame, mkF, argsToLocals, Value.category]; done) | rfl) (Ls := #[.val (.int o1), .val (.int k1), .val (.ref va)]) fun p e s m below meth c s₁ X0 hx hby hml hZ e0 hown hnm hlk hrt => ?_
  have N0 := Fr.nil n0
  have lt_P0 : @LT.lt Nat _ va (Array.size h0) := P0.lt
  refine own_ru 3 [(.ref va), (.int k1), (.int o1)] X0 hx hby e39_0_3 rfl rfl ?_
  refine own_cS X0 hx hZ hown (wd207 hw) (wd208 hw) (by decide) (wd209 hw) (wd192 hw) (rm40 l Z a0 hw [] va kk zz vs h0 n0 (by omega) P0) e0  [(.ref va)] [(.int k1), (.int o1)] 6 2 (hb hby d39_3) rfl (by rw [hml]; rfl) rfl rfl (lenOf pd_5 rfl) rfl (by decide) fun v140 T140 Lc140 X140 hQ140 => ?_
  obtain ⟨rfl, N140q, e140⟩ := hQ140
  have N140 := Fr.app N0 N140q
  refine own_cS X140 hx hZ hown (wd210 hw) (wd211 hw) (by decide) (wd212 hw) (wd61 hw) (rm41 l Z a0 hw [] G1 G2 o1 k1 (zz >>> ((1 : Int32) &&& 31)) h0 n0 (by omega) OLD A (by first | assumption | decide | omega) (by first | assumption | decide | omega)) e140  [(.int o1), (.int k1), (.int (zz >>> ((1 : Int32) &&& 31)))] [] 9 0 (hb hby d39_6) rfl (by rw [hml]; rfl) rfl rfl (lenOf pd_10 rfl) rfl (by decide) fun v141 T141 Lc141 X141 hQ141 => ?_
  obtain ⟨rfl, N141q, e141⟩ := hQ141
  have N141 := Fr.app N140 N141q
  refine own_ru 10 [] X141 hx hby e39_9_1 rfl rfl ?_
  have hq142 : Q39 Z G1 G2 o1 k1 va kk zz vs h0 n0 none h0 _ := ⟨rfl, N141, rfl⟩
  exact own_retV X141 hx hlk hrt (hb hby d39_10) e141 hq142 (by decide) (by decide)
abbrev my36 : MethodName := (⟨"java/lang/StringUTF16", "newBytesLength", "(I)I"⟩ : MethodName)
theorem d36_1 : decode jdk_52_method_3_code 1 = .ok (.ifCond .ge 11, 3) := by decide +kernel
theorem d36_13 : decode jdk_52_method_3_code 13 = .ok (.ldc 20, 2) := by decide +kernel
theorem d36_15 : decode jdk_52_method_3_code 15 = .ok (.if_icmp .lt 40, 3) := by decide +kernel
theorem d36_58 : decode jdk_52_method_3_code 58 = .ok (.ireturn, 1) := by decide +kernel
theorem e36_0_1 : own_dec jdk_52_method_3_code 0 [(.iload_n 0, 1)] = true := by decide +kernel
theorem e36_12_1 : own_dec jdk_52_method_3_code 12 [(.iload_n 0, 1)] = true := by decide +kernel
theorem e36_55_3 : own_dec jdk_52_method_3_code 55 [(.iload_n 0, 1), (.iconst 1, 1), (.ishl, 1)] = true := by decide +kernel
def Q36 (Z : State) (zz : Int32) (h0 : Heap) (n0 : Nat) (v : Option Value) (h : Heap) (L : List Loc) : Prop := v = some (.int (zz <<< ((1 : Int32) &&& 31))) ∧ Fr n0 L ∧ h = h0
set_option maxRecDepth 65536 in
set_option maxHeartbeats 40000000 in
theorem rm36 (l : Launch) (Z : State) (a0 : Array Value) (hw : OW a0 Z) (ws : List Jvm.Cond) (zz : Int32) (h0 : Heap) (n0 : Nat) (Z0 : n0 ≤ h0.size) (hz0 : ¬ zz < (0 : Int32)) (hz1 : zz < (1073741823 : Int32)) :
    own_Met l my36 jdk_52_method_3_code 1 (some .int) ws (own_rm 0 0 0 0) #[(.int zz)] Z h0 (Q36 Z zz h0 n0) 0 0 := by
  refine own_body (plainFor_of_name pn_7) (fun m => by first | (simp [entryFrame, mkF, argsToLocals, Value.category]; done) | rfl) (Ls := #[.val (.int zz)]) fun p e s m below meth c s₁ X0 hx hby hml hZ e0 hown hnm hlk hrt => ?_
  have N0 := Fr.nil n0
  refine own_ru 1 [(.int zz)] X0 hx hby e36_0_1 rfl rfl ?_
  refine own_iY 12 X0 hx (hb hby d36_1) rfl ((if0 _ _).trans (flt hz0).2.1) (by decide) (by decide) ?_
  refine own_ru 13 [(.int zz)] X0 hx hby e36_12_1 rfl rfl ?_
  refine own_st 15 [(.int (1073741823 : Int32)), (.int zz)] (X0.ldcInt hx hown (mvT hZ (wd197 hw)) (g := (mkF m 13 #[.val (.int zz)] [(.int zz)])) rfl (hb hby d36_13)) ?_
  refine own_kY 55 X0 hx (hb hby d36_15) rfl (tlt hz1).1 (by decide) (by decide) ?_
  refine own_ru 58 [(.int (zz <<< ((1 : Int32) &&& 31)))] X0 hx hby e36_55_3 rfl rfl ?_
  have hq143 : Q36 Z zz h0 n0 (some (.int (zz <<< ((1 : Int32) &&& 31)))) h0 _ := ⟨rfl, N0, rfl⟩
  exact own_retI X0 hx hlk hrt (hb hby d36_58) e0 hq143 (by decide) (by decide)
abbrev my35 : MethodName := (⟨"java/lang/StringUTF16", "newBytesFor", "(I)[B"⟩ : MethodName)
theorem d35_1 : decode jdk_52_method_2_code 1 = .ok (.invokestatic 11, 3) := by decide +kernel
theorem d35_4 : decode jdk_52_method_2_code 4 = .ok (.newarray .byte, 2) := by decide +kernel
theorem d35_6 : decode jdk_52_method_2_code 6 = .ok (.areturn, 1) := by decide +kernel
theorem e35_0_1 : own_dec jdk_52_method_2_code 0 [(.iload_n 0, 1)] = true := by decide +kernel
theorem pd_11 : parseMethodDescriptor "(I)I" = some ⟨[.int], some .int⟩ := by decide +kernel
def Q35 (Z : State) (zz : Int32) (cap : Nat) (h0 : Heap) (n0 : Nat) (v : Option Value) (h : Heap) (L : List Loc) : Prop := ∃ ob : Addr, ∃ kk : ClassId, v = some (.ref ob) ∧ Fr n0 L ∧ Keep h0 h [] ∧ Arv Z h ob kk .byte (zz <<< ((1 : Int32) &&& 31)) (own_ua [] cap) (.int (0 : Int32)) ∧ ex12 Z h ob ∧ (h0.size ≤ ob)
set_option maxRecDepth 65536 in
set_option maxHeartbeats 40000000 in
theorem rm35 (l : Launch) (Z : State) (a0 : Array Value) (hw : OW a0 Z) (ws : List Jvm.Cond) (zz : Int32) (cap : Nat) (h0 : Heap) (n0 : Nat) (Z0 : n0 ≤ h0.size) (hz0 : ¬ zz < (0 : Int32)) (hz1 : zz < (1073741823 : Int32)) (hz9 : ¬ (zz <<< ((1 : Int32) &&& 31)) < (0 : Int32)) (hz8 : (zz <<< ((1 : Int32) &&& 31)).toNatClampNeg ≤ 8) :
    own_Met l my35 jdk_52_method_2_code 1 (some (.array .byte)) ws (own_rm 1 1 8 12) #[(.int zz)] Z h0 (Q35 Z zz cap h0 n0) 1 8 := by
  refine own_body (plainFor_of_name pn_7) (fun m => by first | (simp [entryFrame, mkF, argsToLocals, Value.category]; done) | rfl) (Ls := #[.val (.int zz)]) fun p e s m below meth c s₁ X0 hx hby hml hZ e0 hown hnm hlk hrt => ?_
  have N0 := Fr.nil n0
  refine own_ru 1 [(.int zz)] X0 hx hby e35_0_1 rfl rfl ?_
  refine own_cS X0 hx hZ hown (wd194 hw) (wd195 hw) (by decide) (wd196 hw) (wd192 hw) (rm36 l Z a0 hw [] zz h0 n0 (by omega) hz0 hz1) e0  [(.int zz)] [] 4 0 (hb hby d35_1) rfl (by rw [hml]; rfl) rfl rfl (lenOf pd_11 rfl) rfl (by decide) fun v144 T144 Lc144 X144 hQ144 => ?_
  obtain ⟨rfl, N144q, e144⟩ := hQ144
  have N144 := Fr.app N0 N144q
  refine own_nP (aty := .byte) X144 hx hZ (wd0 hw) e144 6 (hb hby d35_4) rfl rfl hz9 (cap := 8) hz8 (by decide) (by decide) (by decide) (ad := "[B") rfl fun T145 h145 k145 b145 g145 X145 e145 E145 A145 B145 => ?_
  have ll145 : @LT.lt Nat _ b145 (Array.size h145) := A145.lt
  have KK145 : Keep h0 h145 [] := (Keep.refl h0 []).ext E145
  have z145 := E145.1
  have V145 : Arv Z h145 b145 k145 .byte (zz <<< ((1 : Int32) &&& 31)) [] (.int (0 : Int32)) := Arv.new A145 hz9
  have hq146 : Q35 Z zz cap h0 n0 (some (.ref b145)) h145 _ := ⟨b145, k145, rfl, N144, KK145, (Arv.pad V145 (own_pad0 cap)), B145, (by first | omega | assumption)⟩
  exact own_retR X145 hx hlk (w := (.ref b145)) rfl hrt rfl (hb hby d35_6) e145 hq146 (by decide) (by decide)
abbrev my38 : MethodName := (⟨"java/lang/StringUTF16", "inflate", "([BI[BII)V"⟩ : MethodName)
theorem d38_4 : decode jdk_52_method_86_code 4 = .ok (.invokestatic 173, 3) := by decide +kernel
theorem d38_14 : decode jdk_52_method_86_code 14 = .ok (.if_icmp .ge 27, 3) := by decide +kernel
theorem d38_27 : decode jdk_52_method_86_code 27 = .ok (.baload, 1) := by decide +kernel
theorem d38_32 : decode jdk_52_method_86_code 32 = .ok (.invokestatic 111, 3) := by decide +kernel
theorem d38_38 : decode jdk_52_method_86_code 38 = .ok (.goto (-28), 3) := by decide +kernel
theorem d38_41 : decode jdk_52_method_86_code 41 = .ok (.return_, 1) := by decide +kernel
theorem e38_0_3 : own_dec jdk_52_method_86_code 0 [(.iload_n 3, 1), (.iload 4, 2), (.aload_n 2, 1)] = true := by decide +kernel
theorem e38_7_2 : own_dec jdk_52_method_86_code 7 [(.iconst 0, 1), (.istore 5, 2)] = true := by decide +kernel
theorem e38_10_2 : own_dec jdk_52_method_86_code 10 [(.iload 5, 2), (.iload 4, 2)] = true := by decide +kernel
theorem e38_17_6 : own_dec jdk_52_method_86_code 17 [(.aload_n 2, 1), (.iload_n 3, 1), (.iinc 3 1, 3), (.aload_n 0, 1), (.iload_n 1, 1), (.iinc 1 1, 3)] = true := by decide +kernel
theorem e38_28_2 : own_dec jdk_52_method_86_code 28 [(.sipush 255, 3), (.iand, 1)] = true := by decide +kernel
theorem e38_35_1 : own_dec jdk_52_method_86_code 35 [(.iinc 5 1, 3)] = true := by decide +kernel
theorem pd_12 : parseMethodDescriptor "(II[B)V" = some ⟨[.int, .int, (.array .byte)], none⟩ := by decide +kernel
def Q38 (Z : State) (G1 : Int32) (G2 : Value) (va : Addr) (vb : Addr) (kk : ClassId) (kb : ClassId) (z2 : Int32) (zz : Int32) (nn : Int32) (ys : List Int32) (cap : Nat) (h0 : Heap) (n0 : Nat) (v : Option Value) (h : Heap) (L : List Loc) : Prop := v = none ∧ Fr n0 L ∧ Keep h0 h [vb] ∧ Arv Z h vb kb .byte z2 (own_ua (ys.map own_pr) cap) (.int (0 : Int32))
set_option maxRecDepth 65536 in
set_option maxHeartbeats 40000000 in
theorem rm38 (l : Launch) (Z : State) (a0 : Array Value) (hw : OW a0 Z) (ws : List Jvm.Cond) (G1 : Int32) (G2 : Value) (va : Addr) (vb : Addr) (kk : ClassId) (kb : ClassId) (z2 : Int32) (zz : Int32) (nn : Int32) (ys : List Int32) (cap : Nat) (h0 : Heap) (n0 : Nat) (Z0 : n0 ≤ h0.size) (OLD : Old Z n0 h0) (A : Amb Z G1 G2) (P0 : Arv Z h0 va kk .byte zz (own_la ys cap) (.int (0 : Int32))) (P1 : Arv Z h0 vb kb .byte z2 (own_ua [] cap) (.int (0 : Int32))) (g_vb : n0 ≤ vb) (hne : @Ne Nat va vb) (hz : zz.toInt = (cap : Int)) (hz2 : z2.toInt = 2 * (cap : Int)) (hn : nn.toInt = (ys.length : Int)) (hle : ys.length ≤ cap) (hc4 : cap ≤ 4) (p1 : ¬ (((z2 >>> ((1 : Int32) &&& 31)) ||| (0 : Int32)) ||| nn) < (0 : Int32)) (p2 : ¬ ((z2 >>> ((1 : Int32) &&& 31)) - (0 : Int32)) < nn) :
    own_Met l my38 jdk_52_method_86_code 6 none ws (own_rm 3 0 0 43) #[(.ref va), (.int (0 : Int32)), (.ref vb), (.int (0 : Int32)), (.int nn)] Z h0 (Q38 Z G1 G2 va vb kk kb z2 zz nn ys cap h0 n0) 0 0 := by
  refine own_body (plainFor_of_name pn_7) (fun m => by first | (simp [entryFrame, mkF, argsToLocals, Value.category]; done) | rfl) (Ls := #[.val (.ref va), .val (.int (0 : Int32)), .val (.ref vb), .val (.int (0 : Int32)), .val (.int nn), .unset]) fun p e s m below meth c s₁ X0 hx hby hml hZ e0 hown hnm hlk hrt => ?_
  have N0 := Fr.nil n0
  have lt_P0 : @LT.lt Nat _ va (Array.size h0) := P0.lt
  have lt_P1 : @LT.lt Nat _ vb (Array.size h0) := P1.lt
  refine own_ru 4 [(.ref vb), (.int nn), (.int (0 : Int32))] X0 hx hby e38_0_3 rfl rfl ?_
  refine own_cS X0 hx hZ hown (wd204 hw) (wd205 hw) (by decide) (wd206 hw) (wd192 hw) (rm39 l Z a0 hw [] G1 G2 (0 : Int32) nn vb kb z2 (own_ua [] cap) h0 n0 (by omega) OLD A P1 p1 p2) e0  [(.int (0 : Int32)), (.int nn), (.ref vb)] [] 7 0 (hb hby d38_4) rfl (by rw [hml]; rfl) rfl rfl (lenOf pd_12 rfl) rfl (by decide) fun v147 T147 Lc147 X147 hQ147 => ?_
  obtain ⟨rfl, N147q, e147⟩ := hQ147
  have N147 := Fr.app N0 N147q
  refine own_rl 10 #[.val (.ref va), .val (.int (0 : Int32)), .val (.ref vb), .val (.int (0 : Int32)), .val (.int nn), .val (.int (0 : Int32))] [] X147 hx hby e38_7_2 rfl rfl ?_
  have J148 : ∀ (kJ : Nat) (TJ148 : State) (LJ148 : List Loc) (hJ148 : Heap) (ii : Int32), ((ys.length : Int) ≤ ii.toInt + (kJ : Int)) → Stand p l e (own_rm 3 0 0 43) s m #[(.ref va), (.int (0 : Int32)), (.ref vb), (.int (0 : Int32)), (.int nn)] below meth c TJ148 LJ148 0 0 → TJ148.heap = hJ148 → Fr n0 LJ148 → h0.size ≤ hJ148.size → Keep h0 hJ148 [vb] → Old Z n0 hJ148 → Arv Z hJ148 va kk .byte zz (own_la ys cap) (.int (0 : Int32)) → Arv Z hJ148 vb kb .byte z2 (own_ua ((ys.take ii.toInt.toNat).map own_pr) cap) (.int (0 : Int32)) → (0 ≤ ii.toInt ∧ ii.toInt ≤ ys.length) → own_Fin p.tables e below (own_post (Q38 Z G1 G2 va vb kk kb z2 zz nn ys cap h0 n0) s 0 0) (TJ148.setTop (mkF m 10 #[.val (.ref va), .val (.int ii), .val (.ref vb), .val (.int ii), .val (.int nn), .val (.int ii)] [])) := by
    intro kJ
    induction kJ with
    | zero =>
      intro TJ148 LJ148 hJ148 ii hmeas XJ148 eJ148 NJ148 zJ148 KJ148 FJ148_0 FJ148_1 FJ148_2 hii
      have ltJ148_1 : @LT.lt Nat _ va (Array.size hJ148) := FJ148_1.lt
      have ltJ148_2 : @LT.lt Nat _ vb (Array.size hJ148) := FJ148_2.lt
      refine own_ru 14 [(.int nn), (.int ii)] XJ148 hx hby e38_10_2 rfl rfl ?_
      by_cases hc14 : ii < nn
      · refine own_kN 17 XJ148 hx (hb hby d38_14) rfl (tlt hc14).2.1 rfl ?_
        have TX := own_tix hii hc14 hz hz2 hn hle hc4
        have hul : ((own_ua ((ys.take ii.toInt.toNat).map own_pr) cap)).length = 2 * cap := own_ua_len (by rw [List.length_map, List.length_take]; omega)
        refine own_rl 27 #[.val (.ref va), .val (.int (ii + (1 : Int32))), .val (.ref vb), .val (.int (ii + (1 : Int32))), .val (.int nn), .val (.int ii)] [(.int ii), (.ref va), (.int ii), (.ref vb)] XJ148 hx hby e38_17_6 rfl rfl ?_
        refine own_bL XJ148 hx hZ eJ148 FJ148_1 (x := (ys.getD (ii).toNatClampNeg 0)) 28 rfl (hb hby d38_27) rfl TX.1.2 (own_la_get (by rw [own_cl (show ii.toInt = (ii.toInt.toNat : Int) by omega)]; have := TX.1.1; omega)) ?_
        refine own_ru 32 [(.int ((ys.getD (ii).toNatClampNeg 0) &&& (255 : Int32))), (.int ii), (.ref vb)] XJ148 hx hby e38_28_2 rfl rfl ?_
        refine own_cS XJ148 hx hZ hown (wd216 hw) (wd217 hw) (by decide) (wd218 hw) (wd192 hw) (rm43 l Z a0 hw [] G1 G2 vb ii ((ys.getD (ii).toNatClampNeg 0) &&& (255 : Int32)) kb z2 (own_ua ((ys.take ii.toInt.toNat).map own_pr) cap) hJ148 n0 (by omega) FJ148_0 A FJ148_2 (by omega) TX.2.1 TX.2.2.1 (by rw [hul, TX.2.2.2.1]; have := TX.1.1; omega) (by rw [hul, TX.2.2.2.2]; have := TX.1.1; omega)) eJ148  [(.ref vb), (.int ii), (.int ((ys.getD (ii).toNatClampNeg 0) &&& (255 : Int32)))] [] 35 0 (hb hby d38_32) rfl (by rw [hml]; rfl) rfl rfl (lenOf pd_8 rfl) rfl (by decide) fun v149 T149 Lc149 X149 hQ149 => ?_
        obtain ⟨rfl, N149q, K149, G149_0⟩ := hQ149
        have N149 := Fr.app NJ148 N149q
        have z149 := K149.1
        have KK149 : Keep h0 T149.heap [vb] := KJ148.trans K149 (allS (Or.inl (by simp)) all0)
        have lt149_0 : @LT.lt Nat _ vb (Array.size T149.heap) := G149_0.lt
        refine own_rl 38 #[.val (.ref va), .val (.int (ii + (1 : Int32))), .val (.ref vb), .val (.int (ii + (1 : Int32))), .val (.int nn), .val (.int (ii + (1 : Int32)))] [] X149 hx hby e38_35_1 rfl rfl ?_
        refine own_go 10 X149 hx (hb hby d38_38) (by decide) (by decide) ?_
        exfalso; have := TX.1.1; omega
      · refine own_kY 41 XJ148 hx (hb hby d38_14) rfl (flt hc14).2.1 (by decide) (by decide) ?_
        have hq150 : Q38 Z G1 G2 va vb kk kb z2 zz nn ys cap h0 n0 none hJ148 _ := ⟨rfl, NJ148, KJ148, (own_nsE hii hc14 hn ▸ FJ148_2)⟩
        exact own_retV XJ148 hx hlk hrt (hb hby d38_41) eJ148 hq150 (by decide) (by decide)
    | succ kJ IH148 =>
      intro TJ148 LJ148 hJ148 ii hmeas XJ148 eJ148 NJ148 zJ148 KJ148 FJ148_0 FJ148_1 FJ148_2 hii
      have ltJ148_1 : @LT.lt Nat _ va (Array.size hJ148) := FJ148_1.lt
      have ltJ148_2 : @LT.lt Nat _ vb (Array.size hJ148) := FJ148_2.lt
      refine own_ru 14 [(.int nn), (.int ii)] XJ148 hx hby e38_10_2 rfl rfl ?_
      by_cases hc14 : ii < nn
      · refine own_kN 17 XJ148 hx (hb hby d38_14) rfl (tlt hc14).2.1 rfl ?_
        have TX := own_tix hii hc14 hz hz2 hn hle hc4
        have hul : ((own_ua ((ys.take ii.toInt.toNat).map own_pr) cap)).length = 2 * cap := own_ua_len (by rw [List.length_map, List.length_take]; omega)
        refine own_rl 27 #[.val (.ref va), .val (.int (ii + (1 : Int32))), .val (.ref vb), .val (.int (ii + (1 : Int32))), .val (.int nn), .val (.int ii)] [(.int ii), (.ref va), (.int ii), (.ref vb)] XJ148 hx hby e38_17_6 rfl rfl ?_
        refine own_bL XJ148 hx hZ eJ148 FJ148_1 (x := (ys.getD (ii).toNatClampNeg 0)) 28 rfl (hb hby d38_27) rfl TX.1.2 (own_la_get (by rw [own_cl (show ii.toInt = (ii.toInt.toNat : Int) by omega)]; have := TX.1.1; omega)) ?_
        refine own_ru 32 [(.int ((ys.getD (ii).toNatClampNeg 0) &&& (255 : Int32))), (.int ii), (.ref vb)] XJ148 hx hby e38_28_2 rfl rfl ?_
        refine own_cS XJ148 hx hZ hown (wd216 hw) (wd217 hw) (by decide) (wd218 hw) (wd192 hw) (rm43 l Z a0 hw [] G1 G2 vb ii ((ys.getD (ii).toNatClampNeg 0) &&& (255 : Int32)) kb z2 (own_ua ((ys.take ii.toInt.toNat).map own_pr) cap) hJ148 n0 (by omega) FJ148_0 A FJ148_2 (by omega) TX.2.1 TX.2.2.1 (by rw [hul, TX.2.2.2.1]; have := TX.1.1; omega) (by rw [hul, TX.2.2.2.2]; have := TX.1.1; omega)) eJ148  [(.ref vb), (.int ii), (.int ((ys.getD (ii).toNatClampNeg 0) &&& (255 : Int32)))] [] 35 0 (hb hby d38_32) rfl (by rw [hml]; rfl) rfl rfl (lenOf pd_8 rfl) rfl (by decide) fun v151 T151 Lc151 X151 hQ151 => ?_
        obtain ⟨rfl, N151q, K151, G151_0⟩ := hQ151
        have N151 := Fr.app NJ148 N151q
        have z151 := K151.1
        have KK151 : Keep h0 T151.heap [vb] := KJ148.trans K151 (allS (Or.inl (by simp)) all0)
        have lt151_0 : @LT.lt Nat _ vb (Array.size T151.heap) := G151_0.lt
        refine own_rl 38 #[.val (.ref va), .val (.int (ii + (1 : Int32))), .val (.ref vb), .val (.int (ii + (1 : Int32))), .val (.int nn), .val (.int (ii + (1 : Int32)))] [] X151 hx hby e38_35_1 rfl rfl ?_
        refine own_go 10 X151 hx (hb hby d38_38) (by decide) (by decide) ?_
        have f152 := (FJ148_0.keep K151 (allS (by omega) all0))
        have f153 := (FJ148_1.keep K151 (own_nS (by omega) nin0))
        exact IH148 _ _ _ (ii + (1 : Int32)) (by rw [own_inc4 hii.1 TX.1.1 (by omega)]; omega) (X151.more (by decide) (by decide)) rfl N151 (by omega) KK151 f152 f153 (by rw [own_take hii.1 TX.1.1 (own_inc4 hii.1 TX.1.1 (by omega)), show own_pr (ys.getD ii.toNatClampNeg 0) = (own_e0 ((ys.getD (ii).toNatClampNeg 0) &&& (255 : Int32)), own_e1 ((ys.getD (ii).toNatClampNeg 0) &&& (255 : Int32))) from rfl, ← own_ua_put (by rw [List.length_map, List.length_take]; have := TX.1.1; omega), List.length_map, List.length_take, Nat.min_eq_left (by have := TX.1.1; omega), ← TX.2.2.2.2, ← TX.2.2.2.1]; exact G151_0) (by rw [own_inc4 hii.1 TX.1.1 (by omega)]; have := TX.1.1; omega)
      · refine own_kY 41 XJ148 hx (hb hby d38_14) rfl (flt hc14).2.1 (by decide) (by decide) ?_
        have hq154 : Q38 Z G1 G2 va vb kk kb z2 zz nn ys cap h0 n0 none hJ148 _ := ⟨rfl, NJ148, KJ148, (own_nsE hii hc14 hn ▸ FJ148_2)⟩
        exact own_retV XJ148 hx hlk hrt (hb hby d38_41) eJ148 hq154 (by decide) (by decide)
  exact J148 ys.length _ _ _ (0 : Int32) (by have e0 : (0 : Int32).toInt = 0 := rfl; omega) (X147.more (by decide) (by decide)) e147 N147 (by omega) (Keep.refl h0 [vb]) OLD P0 P1 ⟨by decide, by have e0 : (0 : Int32).toInt = 0 := rfl; omega⟩
abbrev my37 : MethodName := (⟨"java/lang/StringLatin1", "inflate", "([BI[BII)V"⟩ : MethodName)
theorem d37_6 : decode jdk_43_method_50_code 6 = .ok (.invokestatic 240, 3) := by decide +kernel
theorem d37_9 : decode jdk_43_method_50_code 9 = .ok (.return_, 1) := by decide +kernel
theorem e37_0_5 : own_dec jdk_43_method_50_code 0 [(.aload_n 0, 1), (.iload_n 1, 1), (.aload_n 2, 1), (.iload_n 3, 1), (.iload 4, 2)] = true := by decide +kernel
theorem pd_13 : parseMethodDescriptor "([BI[BII)V" = some ⟨[(.array .byte), .int, (.array .byte), .int, .int], none⟩ := by decide +kernel
def Q37 (Z : State) (G1 : Int32) (G2 : Value) (va : Addr) (vb : Addr) (kk : ClassId) (kb : ClassId) (z2 : Int32) (zz : Int32) (nn : Int32) (ys : List Int32) (cap : Nat) (h0 : Heap) (n0 : Nat) (v : Option Value) (h : Heap) (L : List Loc) : Prop := v = none ∧ Fr n0 L ∧ Keep h0 h [vb] ∧ Arv Z h vb kb .byte z2 (own_ua (ys.map own_pr) cap) (.int (0 : Int32))
set_option maxRecDepth 65536 in
set_option maxHeartbeats 40000000 in
theorem rm37 (l : Launch) (Z : State) (a0 : Array Value) (hw : OW a0 Z) (ws : List Jvm.Cond) (G1 : Int32) (G2 : Value) (va : Addr) (vb : Addr) (kk : ClassId) (kb : ClassId) (z2 : Int32) (zz : Int32) (nn : Int32) (ys : List Int32) (cap : Nat) (h0 : Heap) (n0 : Nat) (Z0 : n0 ≤ h0.size) (OLD : Old Z n0 h0) (A : Amb Z G1 G2) (P0 : Arv Z h0 va kk .byte zz (own_la ys cap) (.int (0 : Int32))) (P1 : Arv Z h0 vb kb .byte z2 (own_ua [] cap) (.int (0 : Int32))) (g_vb : n0 ≤ vb) (hne : @Ne Nat va vb) (hz : zz.toInt = (cap : Int)) (hz2 : z2.toInt = 2 * (cap : Int)) (hn : nn.toInt = (ys.length : Int)) (hle : ys.length ≤ cap) (hc4 : cap ≤ 4) (p1 : ¬ (((z2 >>> ((1 : Int32) &&& 31)) ||| (0 : Int32)) ||| nn) < (0 : Int32)) (p2 : ¬ ((z2 >>> ((1 : Int32) &&& 31)) - (0 : Int32)) < nn) :
    own_Met l my37 jdk_43_method_50_code 5 none ws (own_rm 4 0 0 60) #[(.ref va), (.int (0 : Int32)), (.ref vb), (.int (0 : Int32)), (.int nn)] Z h0 (Q37 Z G1 G2 va vb kk kb z2 zz nn ys cap h0 n0) 0 0 := by
  refine own_body (plainFor_of_name pn_6) (fun m => by first | (simp [entryFrame, mkF, argsToLocals, Value.category]; done) | rfl) (Ls := #[.val (.ref va), .val (.int (0 : Int32)), .val (.ref vb), .val (.int (0 : Int32)), .val (.int nn)]) fun p e s m below meth c s₁ X0 hx hby hml hZ e0 hown hnm hlk hrt => ?_
  have N0 := Fr.nil n0
  have lt_P0 : @LT.lt Nat _ va (Array.size h0) := P0.lt
  have lt_P1 : @LT.lt Nat _ vb (Array.size h0) := P1.lt
  refine own_ru 6 [(.int nn), (.int (0 : Int32)), (.ref vb), (.int (0 : Int32)), (.ref va)] X0 hx hby e37_0_5 rfl rfl ?_
  refine own_cS X0 hx hZ hown (wd201 hw) (wd202 hw) (by decide) (wd203 hw) (wd192 hw) (rm38 l Z a0 hw [] G1 G2 va vb kk kb z2 zz nn ys cap h0 n0 (by omega) OLD A P0 P1 (by omega) hne hz hz2 hn hle hc4 p1 p2) e0  [(.ref va), (.int (0 : Int32)), (.ref vb), (.int (0 : Int32)), (.int nn)] [] 9 0 (hb hby d37_6) rfl (by rw [hml]; rfl) rfl rfl (lenOf pd_13 rfl) rfl (by decide) fun v155 T155 Lc155 X155 hQ155 => ?_
  obtain ⟨rfl, N155q, K155, G155_0⟩ := hQ155
  have N155 := Fr.app N0 N155q
  have z155 := K155.1
  have KK155 : Keep h0 T155.heap [vb] := (Keep.refl h0 [vb]).trans K155 (allS (Or.inl (by simp)) all0)
  have lt155_0 : @LT.lt Nat _ vb (Array.size T155.heap) := G155_0.lt
  have hq156 : Q37 Z G1 G2 va vb kk kb z2 zz nn ys cap h0 n0 none T155.heap _ := ⟨rfl, N155, KK155, G155_0⟩
  exact own_retV X155 hx hlk hrt (hb hby d37_9) rfl hq156 (by decide) (by decide)
abbrev my34 : MethodName := (⟨"java/lang/AbstractStringBuilder", "inflate", "()V"⟩ : MethodName)
theorem d34_1 : decode jdk_68_method_11_code 1 = .ok (.invokevirtual 83, 3) := by decide +kernel
theorem d34_4 : decode jdk_68_method_11_code 4 = .ok (.ifCond .ne 4, 3) := by decide +kernel
theorem d34_9 : decode jdk_68_method_11_code 9 = .ok (.getfield 15, 3) := by decide +kernel
theorem d34_12 : decode jdk_68_method_11_code 12 = .ok (.arraylength, 1) := by decide +kernel
theorem d34_13 : decode jdk_68_method_11_code 13 = .ok (.invokestatic 26, 3) := by decide +kernel
theorem d34_18 : decode jdk_68_method_11_code 18 = .ok (.getfield 15, 3) := by decide +kernel
theorem d34_25 : decode jdk_68_method_11_code 25 = .ok (.getfield 79, 3) := by decide +kernel
theorem d34_28 : decode jdk_68_method_11_code 28 = .ok (.invokestatic 125, 3) := by decide +kernel
theorem d34_33 : decode jdk_68_method_11_code 33 = .ok (.putfield 15, 3) := by decide +kernel
theorem d34_38 : decode jdk_68_method_11_code 38 = .ok (.putfield 22, 3) := by decide +kernel
theorem d34_41 : decode jdk_68_method_11_code 41 = .ok (.return_, 1) := by decide +kernel
theorem e34_0_1 : own_dec jdk_68_method_11_code 0 [(.aload_n 0, 1)] = true := by decide +kernel
theorem e34_8_1 : own_dec jdk_68_method_11_code 8 [(.aload_n 0, 1)] = true := by decide +kernel
theorem e34_16_2 : own_dec jdk_68_method_11_code 16 [(.astore_n 1, 1), (.aload_n 0, 1)] = true := by decide +kernel
theorem e34_21_4 : own_dec jdk_68_method_11_code 21 [(.iconst 0, 1), (.aload_n 1, 1), (.iconst 0, 1), (.aload_n 0, 1)] = true := by decide +kernel
theorem e34_31_2 : own_dec jdk_68_method_11_code 31 [(.aload_n 0, 1), (.aload_n 1, 1)] = true := by decide +kernel
theorem e34_36_2 : own_dec jdk_68_method_11_code 36 [(.aload_n 0, 1), (.iconst 1, 1)] = true := by decide +kernel
theorem pd_14 : parseMethodDescriptor "()Z" = some ⟨[], some .boolean⟩ := by decide +kernel
theorem pd_15 : parseMethodDescriptor "(I)[B" = some ⟨[.int], some (.array .byte)⟩ := by decide +kernel
def Q34 (Z : State) (G1 : Int32) (G2 : Value) (a1 : Addr) (va : Addr) (kk : ClassId) (zz : Int32) (nn : Int32) (ys : List Int32) (cap : Nat) (h0 : Heap) (n0 : Nat) (v : Option Value) (h : Heap) (L : List Loc) : Prop := ∃ vb : Addr, ∃ kb : ClassId, v = none ∧ Fr n0 L ∧ Keep h0 h [a1] ∧ ex7 Z h a1 ∧ fl8 Z h a1 (.int nn) ∧ fl9 Z h a1 (.int (1 : Int32)) ∧ fl10 Z h a1 (.ref vb) ∧ fl11 Z h a1 (.int (0 : Int32)) ∧ ex12 Z h vb ∧ Arv Z h vb kb .byte (zz <<< ((1 : Int32) &&& 31)) (own_ua (ys.map own_pr) cap) (.int (0 : Int32)) ∧ (h0.size ≤ vb)
set_option maxRecDepth 65536 in
set_option maxHeartbeats 40000000 in
theorem rm34 (l : Launch) (Z : State) (a0 : Array Value) (hw : OW a0 Z) (ws : List Jvm.Cond) (G1 : Int32) (G2 : Value) (a1 : Addr) (va : Addr) (kk : ClassId) (zz : Int32) (nn : Int32) (ys : List Int32) (cap : Nat) (h0 : Heap) (n0 : Nat) (Z0 : n0 ≤ h0.size) (OLD : Old Z n0 h0) (A : Amb Z G1 G2) (P0 : ex7 Z h0 a1) (P1 : fl8 Z h0 a1 (.int nn)) (P2 : fl9 Z h0 a1 (.int (0 : Int32))) (P3 : fl10 Z h0 a1 (.ref va)) (P4 : fl11 Z h0 a1 (.int (0 : Int32))) (P5 : ex12 Z h0 va) (P6 : Arv Z h0 va kk .byte zz (own_la ys cap) (.int (0 : Int32))) (g_a1 : n0 ≤ a1) (hz : zz.toInt = (cap : Int)) (hz2 : (zz <<< ((1 : Int32) &&& 31)).toInt = 2 * (cap : Int)) (hn : nn.toInt = (ys.length : Int)) (hle : ys.length ≤ cap) (hc4 : cap ≤ 4) (p1 : ¬ ((((zz <<< ((1 : Int32) &&& 31)) >>> ((1 : Int32) &&& 31)) ||| (0 : Int32)) ||| nn) < (0 : Int32)) (p2 : ¬ (((zz <<< ((1 : Int32) &&& 31)) >>> ((1 : Int32) &&& 31)) - (0 : Int32)) < nn) (hz0 : ¬ zz < (0 : Int32)) (hz1 : zz < (1073741823 : Int32)) (hz9 : ¬ (zz <<< ((1 : Int32) &&& 31)) < (0 : Int32)) (hz8 : (zz <<< ((1 : Int32) &&& 31)).toNatClampNeg ≤ 8) (hne : @Ne Nat a1 va) :
    own_Met l my34 jdk_68_method_11_code 2 none ws (own_rm 5 1 8 76) #[(.ref a1)] Z h0 (Q34 Z G1 G2 a1 va kk zz nn ys cap h0 n0) 1 8 := by
  refine own_body (plainFor_of_name pn_3) (fun m => by first | (simp [entryFrame, mkF, argsToLocals, Value.category]; done) | rfl) (Ls := #[.val (.ref a1), .unset]) fun p e s m below meth c s₁ X0 hx hby hml hZ e0 hown hnm hlk hrt => ?_
  have N0 := Fr.nil n0
  have lt_P0 : @LT.lt Nat _ a1 (Array.size h0) := P0.lt
  have lt_P5 : @LT.lt Nat _ va (Array.size h0) := P5.lt
  refine own_ru 1 [(.ref a1)] X0 hx hby e34_0_1 rfl rfl ?_
  refine own_cV X0 hx hZ hown (wd83 hw) (wd84 hw) (notFace_of_selects (args := #[]) (mvT hZ (wd86 hw))) (wd86 hw) (wd85 hw) (by decide) (wd87 hw) (wd57 hw) (rm14d0 l Z a0 hw [] G1 G2 a1 h0 n0 (by omega) OLD A P2) e0 P0 [] [] 4 0 (hb hby d34_1) rfl (by rw [hml]; rfl) rfl rfl (lenOf pd_14 rfl) rfl (by decide) fun v157 T157 Lc157 X157 hQ157 => ?_
  obtain ⟨rfl, N157q, e157⟩ := hQ157
  have N157 := Fr.app N0 N157q
  refine own_iY 8 X157 hx (hb hby d34_4) rfl ((if0 _ _).trans (feq (by decide : ¬ ((1 : Int32) = (0 : Int32)))).2) (by decide) (by decide) ?_
  refine own_ru 9 [(.ref a1)] X157 hx hby e34_8_1 rfl rfl ?_
  refine own_gF X157 hx hZ hown (host := "") (Or.inl (wd62 hw)) Via.refl e157 P3 12 rfl (hb hby d34_9) rfl fun T158 X158 e158 => ?_
  refine own_aL X158 hx hZ e158 P6 13 rfl (hb hby d34_12) rfl ?_
  refine own_cS X158 hx hZ hown (wd190 hw) (wd191 hw) (by decide) (wd193 hw) (wd192 hw) (rm35 l Z a0 hw [] zz cap h0 n0 (by omega) hz0 hz1 hz9 hz8) e158  [(.int zz)] [] 16 0 (hb hby d34_13) rfl (by rw [hml]; rfl) rfl rfl (lenOf pd_15 rfl) rfl (by decide) fun v159 T159 Lc159 X159 hQ159 => ?_
  obtain ⟨ob_159, kk_159, rfl, N159q, K159, G159_0, G159_1, U159_0⟩ := hQ159
  have N159 := Fr.app N157 N159q
  have z159 := K159.1
  have KK159 : Keep h0 T159.heap [a1] := (Keep.refl h0 [a1]).trans K159 all0
  have lt159_0 : @LT.lt Nat _ ob_159 (Array.size T159.heap) := G159_0.lt
  refine own_rl 18 #[.val (.ref a1), .val (.ref ob_159)] [(.ref a1)] X159 hx hby e34_16_2 rfl rfl ?_
  have f160 := (P3.keep K159 nin0)
  refine own_gF X159 hx hZ hown (host := "") (Or.inl (wd62 hw)) Via.refl rfl f160 21 rfl (hb hby d34_18) rfl fun T161 X161 e161 => ?_
  refine own_ru 25 [(.ref a1), (.int (0 : Int32)), (.ref ob_159), (.int (0 : Int32)), (.ref va)] X161 hx hby e34_21_4 rfl rfl ?_
  have f162 := (P1.keep K159 nin0)
  refine own_gF X161 hx hZ hown (host := "") (Or.inl (wd76 hw)) Via.refl e161 f162 28 rfl (hb hby d34_25) rfl fun T163 X163 e163 => ?_
  have f164 := (OLD.keep K159 all0)
  have f165 := (P6.keep K159 nin0)
  refine own_cS X163 hx hZ hown (wd198 hw) (wd199 hw) (by decide) (wd200 hw) (wd90 hw) (rm37 l Z a0 hw [] G1 G2 va ob_159 kk kk_159 (zz <<< ((1 : Int32) &&& 31)) zz nn ys cap T159.heap n0 (by omega) f164 A f165 G159_0 (by omega) (by first | assumption | decide | omega) hz hz2 hn hle hc4 p1 p2) e163  [(.ref va), (.int (0 : Int32)), (.ref ob_159), (.int (0 : Int32)), (.int nn)] [] 31 0 (hb hby d34_28) rfl (by rw [hml]; rfl) rfl rfl (lenOf pd_13 rfl) rfl (by decide) fun v166 T166 Lc166 X166 hQ166 => ?_
  obtain ⟨rfl, N166q, K166, G166_0⟩ := hQ166
  have N166 := Fr.app N159 N166q
  have z166 := K166.1
  have KK166 : Keep h0 T166.heap [a1] := KK159.trans K166 (allS (Or.inr (by omega)) all0)
  have lt166_0 : @LT.lt Nat _ ob_159 (Array.size T166.heap) := G166_0.lt
  refine own_ru 33 [(.ref ob_159), (.ref a1)] X166 hx hby e34_31_2 rfl rfl ?_
  have f167 := (Exa.keep (Exa.keep P0 K159) K166)
  have f168 := (f160.keep K166 (own_nS (by omega) nin0))
  refine own_pF X166 hx hZ hown (host := "") (Or.inl (wd62 hw)) Via.refl rfl f168 f167 (Or.inl (wd63 hw)) (wd48 hw) (ty := (.array .byte)) (by decide) rfl rfl 36 rfl (hb hby d34_33) rfl fun T169 h169 X169 e169 W169 => ?_
  have F169 := Fld.same W169 f168
  have z169 := W169.size
  have KK169 : Keep h0 h169 [a1] := KK166.wr W169 (Or.inl (by simp))
  have N169 := Fr.snoc X169 N166 (by omega)
  refine own_ru 38 [(.int (1 : Int32)), (.ref a1)] X169 hx hby e34_36_2 rfl rfl ?_
  have f170 := (Exa.wr W169 f167)
  have f171 := (Fld.other W169 ((P2.keep K159 nin0).keep K166 (own_nS (by omega) nin0)) (Or.inr (slot_ne (Or.inl (wd65 hw)) (Or.inl (wd63 hw)) (by decide) (t := .byte) (t' := (.array .byte)) (by decide) (by decide))))
  refine own_pN X169 hx hZ hown (wd64 hw) Via.refl e169 f171 f170 (Or.inl (wd65 hw)) (wd48 hw) (ty := .byte) (v' := (.int (1 : Int32))) (by decide) rfl (by decide) 41 rfl (hb hby d34_38) rfl fun T172 h172 X172 e172 W172 => ?_
  have F172 := Fld.same W172 f171
  have z172 := W172.size
  have KK172 : Keep h0 h172 [a1] := KK169.wr W172 (Or.inl (by simp))
  have N172 := Fr.snoc X172 N169 (by omega)
  have f174 := (Exa.wr W172 f170)
  have f175 := (Fld.other W172 (Fld.other W169 (f162.keep K166 (own_nS (by omega) nin0)) (Or.inr (slot_ne (Or.inl (wd77 hw)) (Or.inl (wd63 hw)) (by decide) (t := .int) (t' := (.array .byte)) (by decide) (by decide)))) (Or.inr (slot_ne (Or.inl (wd77 hw)) (Or.inl (wd65 hw)) (by decide) (t := .int) (t' := .byte) (by decide) (by decide))))
  have f176 := (Fld.other W172 F169 (Or.inr (slot_ne (Or.inl (wd63 hw)) (Or.inl (wd65 hw)) (by decide) (t := (.array .byte)) (t' := .byte) (by decide) (by decide))))
  have f177 := (Fld.other W172 (Fld.other W169 ((P4.keep K159 nin0).keep K166 (own_nS (by omega) nin0)) (Or.inr (slot_ne (Or.inl (wd230 hw)) (Or.inl (wd63 hw)) (by decide) (t := .boolean) (t' := (.array .byte)) (by decide) (by decide)))) (Or.inr (slot_ne (Or.inl (wd230 hw)) (Or.inl (wd65 hw)) (by decide) (t := .boolean) (t' := .byte) (by decide) (by decide))))
  have f178 := (Exa.wr W172 (Exa.wr W169 (Exa.keep G159_1 K166)))
  have f179 := ((G166_0.other W169 (own_ne (by omega))).other W172 (own_ne (by omega)))
  have hq173 : Q34 Z G1 G2 a1 va kk zz nn ys cap h0 n0 none h172 _ := ⟨ob_159, kk_159, rfl, N172, KK172, f174, f175, F172, f176, f177, f178, f179, (by first | omega | assumption)⟩
  exact own_retV X172 hx hlk hrt (hb hby d34_41) e172 hq173 (by decide) (by decide)
abbrev my12 : MethodName := (⟨"java/lang/AbstractStringBuilder", "append", "(C)Ljava/lang/AbstractStringBuilder;"⟩ : MethodName)
theorem d12_2 : decode jdk_68_method_31_code 2 = .ok (.getfield 79, 3) := by decide +kernel
theorem d12_7 : decode jdk_68_method_31_code 7 = .ok (.invokevirtual 100, 3) := by decide +kernel
theorem d12_11 : decode jdk_68_method_31_code 11 = .ok (.invokevirtual 83, 3) := by decide +kernel
theorem d12_14 : decode jdk_68_method_31_code 14 = .ok (.ifCond .eq 31, 3) := by decide +kernel
theorem d12_18 : decode jdk_68_method_31_code 18 = .ok (.invokestatic 191, 3) := by decide +kernel
theorem d12_21 : decode jdk_68_method_31_code 21 = .ok (.ifCond .eq 24, 3) := by decide +kernel
theorem d12_25 : decode jdk_68_method_31_code 25 = .ok (.getfield 15, 3) := by decide +kernel
theorem d12_30 : decode jdk_68_method_31_code 30 = .ok (.getfield 79, 3) := by decide +kernel
theorem d12_36 : decode jdk_68_method_31_code 36 = .ok (.putfield 79, 3) := by decide +kernel
theorem d12_41 : decode jdk_68_method_31_code 41 = .ok (.bastore, 1) := by decide +kernel
theorem d12_42 : decode jdk_68_method_31_code 42 = .ok (.goto 33, 3) := by decide +kernel
theorem d12_76 : decode jdk_68_method_31_code 76 = .ok (.areturn, 1) := by decide +kernel
theorem e12_0_2 : own_dec jdk_68_method_31_code 0 [(.aload_n 0, 1), (.aload_n 0, 1)] = true := by decide +kernel
theorem e12_5_2 : own_dec jdk_68_method_31_code 5 [(.iconst 1, 1), (.iadd, 1)] = true := by decide +kernel
theorem e12_10_1 : own_dec jdk_68_method_31_code 10 [(.aload_n 0, 1)] = true := by decide +kernel
theorem e12_17_1 : own_dec jdk_68_method_31_code 17 [(.iload_n 1, 1)] = true := by decide +kernel
theorem e12_24_1 : own_dec jdk_68_method_31_code 24 [(.aload_n 0, 1)] = true := by decide +kernel
theorem e12_28_2 : own_dec jdk_68_method_31_code 28 [(.aload_n 0, 1), (.dup, 1)] = true := by decide +kernel
theorem e12_33_3 : own_dec jdk_68_method_31_code 33 [(.dup_x1, 1), (.iconst 1, 1), (.iadd, 1)] = true := by decide +kernel
theorem e12_39_2 : own_dec jdk_68_method_31_code 39 [(.iload_n 1, 1), (.i2b, 1)] = true := by decide +kernel
theorem e12_75_1 : own_dec jdk_68_method_31_code 75 [(.aload_n 0, 1)] = true := by decide +kernel
theorem pd_16 : parseMethodDescriptor "(C)Z" = some ⟨[.char], some .boolean⟩ := by decide +kernel
def Q12a (Z : State) (G1 : Int32) (G2 : Value) (a1 : Addr) (q : Int32) (nn : Int32) (va : Addr) (kk : ClassId) (zz : Int32) (vs : List Value) (h0 : Heap) (n0 : Nat) (v : Option Value) (h : Heap) (L : List Loc) : Prop := v = some (.ref a1) ∧ Fr n0 L ∧ Keep h0 h [a1, va] ∧ ex7 Z h a1 ∧ fl8 Z h a1 (.int (nn + (1 : Int32))) ∧ fl9 Z h a1 (.int (0 : Int32)) ∧ fl10 Z h a1 (.ref va) ∧ fl11 Z h a1 (.int (0 : Int32)) ∧ ex12 Z h va ∧ Arv Z h va kk .byte zz (vs.set (nn).toNatClampNeg (.int (own_b8 q))) (.int (0 : Int32))
set_option maxRecDepth 65536 in
set_option maxHeartbeats 40000000 in
theorem rm12a (l : Launch) (Z : State) (a0 : Array Value) (hw : OW a0 Z) (ws : List Jvm.Cond) (G1 : Int32) (G2 : Value) (a1 : Addr) (q : Int32) (nn : Int32) (va : Addr) (kk : ClassId) (zz : Int32) (vs : List Value) (h0 : Heap) (n0 : Nat) (Z0 : n0 ≤ h0.size) (OLD : Old Z n0 h0) (A : Amb Z G1 G2) (P0 : ex7 Z h0 a1) (P1 : fl8 Z h0 a1 (.int nn)) (P2 : fl9 Z h0 a1 (.int (0 : Int32))) (P3 : fl10 Z h0 a1 (.ref va)) (P4 : fl11 Z h0 a1 (.int (0 : Int32))) (P5 : ex12 Z h0 va) (P6 : Arv Z h0 va kk .byte zz vs (.int (0 : Int32))) (g_a1 : n0 ≤ a1) (g_va : n0 ≤ va) (hq : ¬ (255 : Int32) < q) (hcap : ¬ (0 : Int32) < ((nn + (1 : Int32)) - (zz >>> ((0 : Int32) &&& 31)))) (hin : ¬ nn < (0 : Int32) ∧ nn < zz) (hl : (nn).toNatClampNeg < vs.length) (hne : @Ne Nat a1 va) :
    own_Met l my12 jdk_68_method_31_code 2 (some (.object "java/lang/AbstractStringBuilder")) ws (own_rm 1 0 0 14) #[(.ref a1), (.int q)] Z h0 (Q12a Z G1 G2 a1 q nn va kk zz vs h0 n0) 0 0 := by
  refine own_body (plainFor_of_name pn_3) (fun m => by first | (simp [entryFrame, mkF, argsToLocals, Value.category]; done) | rfl) (Ls := #[.val (.ref a1), .val (.int q)]) fun p e s m below meth c s₁ X0 hx hby hml hZ e0 hown hnm hlk hrt => ?_
  have N0 := Fr.nil n0
  have lt_P0 : @LT.lt Nat _ a1 (Array.size h0) := P0.lt
  have lt_P5 : @LT.lt Nat _ va (Array.size h0) := P5.lt
  refine own_ru 2 [(.ref a1), (.ref a1)] X0 hx hby e12_0_2 rfl rfl ?_
  refine own_gF X0 hx hZ hown (host := "") (Or.inl (wd76 hw)) Via.refl e0 P1 5 rfl (hb hby d12_2) rfl fun T180 X180 e180 => ?_
  refine own_ru 7 [(.int (nn + (1 : Int32))), (.ref a1)] X180 hx hby e12_5_2 rfl rfl ?_
  refine own_cG X180 hx hZ hown (wd78 hw) (wd79 hw) (mvT hZ (wd81 hw)) (wd80 hw) (by decide) (wd82 hw) (wd57 hw) (rm13 l Z a0 hw [] a1 (nn + (1 : Int32)) va (0 : Int32) kk zz vs h0 n0 (by omega) P3 P2 P6 hcap) e180 P0 [(.int (nn + (1 : Int32)))] [] 10 0 (hb hby d12_7) rfl (by rw [hml]; rfl) rfl rfl (lenOf pd_2 rfl) rfl (by decide) fun v181 T181 Lc181 X181 hQ181 => ?_
  obtain ⟨rfl, N181q, e181⟩ := hQ181
  have N181 := Fr.app N0 N181q
  refine own_ru 11 [(.ref a1)] X181 hx hby e12_10_1 rfl rfl ?_
  refine own_cV X181 hx hZ hown (wd83 hw) (wd84 hw) (notFace_of_selects (args := #[]) (mvT hZ (wd86 hw))) (wd86 hw) (wd85 hw) (by decide) (wd87 hw) (wd57 hw) (rm14d0 l Z a0 hw [] G1 G2 a1 h0 n0 (by omega) OLD A P2) e181 P0 [] [] 14 0 (hb hby d12_11) rfl (by rw [hml]; rfl) rfl rfl (lenOf pd_14 rfl) rfl (by decide) fun v182 T182 Lc182 X182 hQ182 => ?_
  obtain ⟨rfl, N182q, e182⟩ := hQ182
  have N182 := Fr.app N181 N182q
  refine own_iN 17 X182 hx (hb hby d12_14) rfl ((if0 _ _).trans (feq (by decide : ¬ ((1 : Int32) = (0 : Int32)))).1) rfl ?_
  refine own_ru 18 [(.int q)] X182 hx hby e12_17_1 rfl rfl ?_
  refine own_cS X182 hx hZ hown (wd88 hw) (wd89 hw) (by decide) (wd91 hw) (wd90 hw) (rm15y l Z a0 hw [] q h0 n0 (by omega) hq) e182  [(.int q)] [] 21 0 (hb hby d12_18) rfl (by rw [hml]; rfl) rfl rfl (lenOf pd_16 rfl) rfl (by decide) fun v183 T183 Lc183 X183 hQ183 => ?_
  obtain ⟨rfl, N183q, e183⟩ := hQ183
  have N183 := Fr.app N182 N183q
  refine own_iN 24 X183 hx (hb hby d12_21) rfl ((if0 _ _).trans (feq (by decide : ¬ ((1 : Int32) = (0 : Int32)))).1) rfl ?_
  refine own_ru 25 [(.ref a1)] X183 hx hby e12_24_1 rfl rfl ?_
  refine own_gF X183 hx hZ hown (host := "") (Or.inl (wd62 hw)) Via.refl e183 P3 28 rfl (hb hby d12_25) rfl fun T184 X184 e184 => ?_
  refine own_ru 30 [(.ref a1), (.ref a1), (.ref va)] X184 hx hby e12_28_2 rfl rfl ?_
  refine own_gF X184 hx hZ hown (host := "") (Or.inl (wd76 hw)) Via.refl e184 P1 33 rfl (hb hby d12_30) rfl fun T185 X185 e185 => ?_
  refine own_ru 36 [(.int (nn + (1 : Int32))), (.ref a1), (.int nn), (.ref va)] X185 hx hby e12_33_3 rfl rfl ?_
  refine own_pF X185 hx hZ hown (host := "") (Or.inl (wd76 hw)) Via.refl e185 P1 P0 (Or.inl (wd77 hw)) (wd48 hw) (ty := .int) (by decide) rfl rfl 39 rfl (hb hby d12_36) rfl fun T186 h186 X186 e186 W186 => ?_
  have F186 := Fld.same W186 P1
  have z186 := W186.size
  have KK186 : Keep h0 h186 [a1, va] := (Keep.refl h0 [a1, va]).wr W186 (Or.inl (by simp))
  have N186 := Fr.snoc X186 N183 (by omega)
  refine own_ru 41 [(.int (q.toInt8.toInt32)), (.int nn), (.ref va)] X186 hx hby e12_39_2 rfl rfl ?_
  have f187 := (P6.other W186 (own_ne (by omega)))
  obtain ⟨cl188, Ar188, q188, S188, N188z, Hs188, G188⟩ := id f187
  have hin188 : ¬ (nn < 0 ∨ cl188.slots.size ≤ (nn).toNatClampNeg) := inb_of S188 hin
  obtain ⟨T189, h189, X189, e189, W189, st189⟩ := stB X186 hx hZ e186 Ar188 (j := nn) hin188 (g := (mkF m 41 #[.val (.ref a1), .val (.int q)] [(.int (q.toInt8.toInt32)), (.int nn), (.ref va)])) rfl rfl (hb hby d12_41)
  have V189 : Arv Z h189 va kk .byte zz (vs.set (nn).toNatClampNeg (.int (nar .byte (q.toInt8.toInt32)))) (.int (0 : Int32)) := Arv.set Ar188 q188 S188 N188z Hs188 G188 (fits_nar_byte _) W189 _ rfl hl
  have z189 := W189.size
  have KK189 : Keep h0 h189 [a1, va] := KK186.wr W189 (Or.inl (by simp))
  have N189 := Fr.snoc X189 N186 (by omega)
  refine own_sT 42 [] st189 ?_
  refine own_go 75 X189 hx (hb hby d12_42) (by decide) (by decide) ?_
  refine own_ru 76 [(.ref a1)] X189 hx hby e12_75_1 rfl rfl ?_
  have f191 := (Exa.wr W189 (Exa.wr W186 P0))
  have f192 := (Fld.other W189 F186 (Or.inl (own_ne (by omega))))
  have f193 := (Fld.other W189 (Fld.other W186 P2 (Or.inr (slot_ne (Or.inl (wd65 hw)) (Or.inl (wd77 hw)) (by decide) (t := .byte) (t' := .int) (by decide) (by decide)))) (Or.inl (own_ne (by omega))))
  have f194 := (Fld.other W189 (Fld.other W186 P3 (Or.inr (slot_ne (Or.inl (wd63 hw)) (Or.inl (wd77 hw)) (by decide) (t := (.array .byte)) (t' := .int) (by decide) (by decide)))) (Or.inl (own_ne (by omega))))
  have f195 := (Fld.other W189 (Fld.other W186 P4 (Or.inr (slot_ne (Or.inl (wd230 hw)) (Or.inl (wd77 hw)) (by decide) (t := .boolean) (t' := .int) (by decide) (by decide)))) (Or.inl (own_ne (by omega))))
  have f196 := (Exa.wr W189 (Exa.wr W186 P5))
  have hq190 : Q12a Z G1 G2 a1 q nn va kk zz vs h0 n0 (some (.ref a1)) h189 _ := ⟨rfl, N189, KK189, f191, f192, f193, f194, f195, f196, V189⟩
  exact own_retR X189 hx hlk (w := (.ref a1)) rfl hrt rfl (hb hby d12_76) e189 hq190 (by decide) (by decide)
theorem d12_46 : decode jdk_68_method_31_code 46 = .ok (.invokevirtual 83, 3) := by decide +kernel
theorem d12_49 : decode jdk_68_method_31_code 49 = .ok (.ifCond .eq 7, 3) := by decide +kernel
theorem d12_57 : decode jdk_68_method_31_code 57 = .ok (.getfield 15, 3) := by decide +kernel
theorem d12_62 : decode jdk_68_method_31_code 62 = .ok (.getfield 79, 3) := by decide +kernel
theorem d12_68 : decode jdk_68_method_31_code 68 = .ok (.putfield 79, 3) := by decide +kernel
theorem d12_72 : decode jdk_68_method_31_code 72 = .ok (.invokestatic 197, 3) := by decide +kernel
theorem e12_45_1 : own_dec jdk_68_method_31_code 45 [(.aload_n 0, 1)] = true := by decide +kernel
theorem e12_56_1 : own_dec jdk_68_method_31_code 56 [(.aload_n 0, 1)] = true := by decide +kernel
theorem e12_60_2 : own_dec jdk_68_method_31_code 60 [(.aload_n 0, 1), (.dup, 1)] = true := by decide +kernel
theorem e12_65_3 : own_dec jdk_68_method_31_code 65 [(.dup_x1, 1), (.iconst 1, 1), (.iadd, 1)] = true := by decide +kernel
theorem e12_71_1 : own_dec jdk_68_method_31_code 71 [(.iload_n 1, 1)] = true := by decide +kernel
def Q12u (Z : State) (G1 : Int32) (G2 : Value) (a1 : Addr) (q : Int32) (nn : Int32) (va : Addr) (kk : ClassId) (zz : Int32) (vs : List Value) (h0 : Heap) (n0 : Nat) (v : Option Value) (h : Heap) (L : List Loc) : Prop := v = some (.ref a1) ∧ Fr n0 L ∧ Keep h0 h [a1, va] ∧ ex7 Z h a1 ∧ fl8 Z h a1 (.int (nn + (1 : Int32))) ∧ fl9 Z h a1 (.int (1 : Int32)) ∧ fl10 Z h a1 (.ref va) ∧ fl11 Z h a1 (.int (0 : Int32)) ∧ ex12 Z h va ∧ Arv Z h va kk .byte zz ((vs.set ((nn <<< ((1 : Int32) &&& 31))).toNatClampNeg (.int (own_e0 q))).set (((nn <<< ((1 : Int32) &&& 31)) + (1 : Int32))).toNatClampNeg (.int (own_e1 q))) (.int (0 : Int32))
set_option maxRecDepth 65536 in
set_option maxHeartbeats 40000000 in
theorem rm12u (l : Launch) (Z : State) (a0 : Array Value) (hw : OW a0 Z) (ws : List Jvm.Cond) (G1 : Int32) (G2 : Value) (a1 : Addr) (q : Int32) (nn : Int32) (va : Addr) (kk : ClassId) (zz : Int32) (vs : List Value) (h0 : Heap) (n0 : Nat) (Z0 : n0 ≤ h0.size) (OLD : Old Z n0 h0) (A : Amb Z G1 G2) (P0 : ex7 Z h0 a1) (P1 : fl8 Z h0 a1 (.int nn)) (P2 : fl9 Z h0 a1 (.int (1 : Int32))) (P3 : fl10 Z h0 a1 (.ref va)) (P4 : fl11 Z h0 a1 (.int (0 : Int32))) (P5 : ex12 Z h0 va) (P6 : Arv Z h0 va kk .byte zz vs (.int (0 : Int32))) (g_a1 : n0 ≤ a1) (g_va : n0 ≤ va) (hcap : ¬ (0 : Int32) < ((nn + (1 : Int32)) - (zz >>> ((1 : Int32) &&& 31)))) (hi0 : ¬ nn < (0 : Int32)) (hi1 : nn < (zz >>> ((1 : Int32) &&& 31))) (hp0 : ¬ (nn <<< ((1 : Int32) &&& 31)) < (0 : Int32) ∧ (nn <<< ((1 : Int32) &&& 31)) < zz) (hp1 : ¬ ((nn <<< ((1 : Int32) &&& 31)) + (1 : Int32)) < (0 : Int32) ∧ ((nn <<< ((1 : Int32) &&& 31)) + (1 : Int32)) < zz) (hl0 : (nn <<< ((1 : Int32) &&& 31)).toNatClampNeg < vs.length) (hl1 : ((nn <<< ((1 : Int32) &&& 31)) + (1 : Int32)).toNatClampNeg < vs.length) (hne : @Ne Nat a1 va) :
    own_Met l my12 jdk_68_method_31_code 2 (some (.object "java/lang/AbstractStringBuilder")) ws (own_rm 4 0 0 54) #[(.ref a1), (.int q)] Z h0 (Q12u Z G1 G2 a1 q nn va kk zz vs h0 n0) 0 0 := by
  refine own_body (plainFor_of_name pn_3) (fun m => by first | (simp [entryFrame, mkF, argsToLocals, Value.category]; done) | rfl) (Ls := #[.val (.ref a1), .val (.int q)]) fun p e s m below meth c s₁ X0 hx hby hml hZ e0 hown hnm hlk hrt => ?_
  have N0 := Fr.nil n0
  have lt_P0 : @LT.lt Nat _ a1 (Array.size h0) := P0.lt
  have lt_P5 : @LT.lt Nat _ va (Array.size h0) := P5.lt
  refine own_ru 2 [(.ref a1), (.ref a1)] X0 hx hby e12_0_2 rfl rfl ?_
  refine own_gF X0 hx hZ hown (host := "") (Or.inl (wd76 hw)) Via.refl e0 P1 5 rfl (hb hby d12_2) rfl fun T197 X197 e197 => ?_
  refine own_ru 7 [(.int (nn + (1 : Int32))), (.ref a1)] X197 hx hby e12_5_2 rfl rfl ?_
  refine own_cG X197 hx hZ hown (wd78 hw) (wd79 hw) (mvT hZ (wd81 hw)) (wd80 hw) (by decide) (wd82 hw) (wd57 hw) (rm13 l Z a0 hw [] a1 (nn + (1 : Int32)) va (1 : Int32) kk zz vs h0 n0 (by omega) P3 P2 P6 hcap) e197 P0 [(.int (nn + (1 : Int32)))] [] 10 0 (hb hby d12_7) rfl (by rw [hml]; rfl) rfl rfl (lenOf pd_2 rfl) rfl (by decide) fun v198 T198 Lc198 X198 hQ198 => ?_
  obtain ⟨rfl, N198q, e198⟩ := hQ198
  have N198 := Fr.app N0 N198q
  refine own_ru 11 [(.ref a1)] X198 hx hby e12_10_1 rfl rfl ?_
  refine own_cV X198 hx hZ hown (wd83 hw) (wd84 hw) (notFace_of_selects (args := #[]) (mvT hZ (wd86 hw))) (wd86 hw) (wd85 hw) (by decide) (wd87 hw) (wd57 hw) (rm14d1 l Z a0 hw [] G1 G2 a1 h0 n0 (by omega) OLD A P2) e198 P0 [] [] 14 0 (hb hby d12_11) rfl (by rw [hml]; rfl) rfl rfl (lenOf pd_14 rfl) rfl (by decide) fun v199 T199 Lc199 X199 hQ199 => ?_
  obtain ⟨rfl, N199q, e199⟩ := hQ199
  have N199 := Fr.app N198 N199q
  refine own_iY 45 X199 hx (hb hby d12_14) rfl ((if0 _ _).trans (teq (by decide : ((0 : Int32) = (0 : Int32)))).1) (by decide) (by decide) ?_
  refine own_ru 46 [(.ref a1)] X199 hx hby e12_45_1 rfl rfl ?_
  refine own_cV X199 hx hZ hown (wd83 hw) (wd84 hw) (notFace_of_selects (args := #[]) (mvT hZ (wd86 hw))) (wd86 hw) (wd85 hw) (by decide) (wd87 hw) (wd57 hw) (rm14d1 l Z a0 hw [] G1 G2 a1 h0 n0 (by omega) OLD A P2) e199 P0 [] [] 49 0 (hb hby d12_46) rfl (by rw [hml]; rfl) rfl rfl (lenOf pd_14 rfl) rfl (by decide) fun v200 T200 Lc200 X200 hQ200 => ?_
  obtain ⟨rfl, N200q, e200⟩ := hQ200
  have N200 := Fr.app N199 N200q
  refine own_iY 56 X200 hx (hb hby d12_49) rfl ((if0 _ _).trans (teq (by decide : ((0 : Int32) = (0 : Int32)))).1) (by decide) (by decide) ?_
  refine own_ru 57 [(.ref a1)] X200 hx hby e12_56_1 rfl rfl ?_
  refine own_gF X200 hx hZ hown (host := "") (Or.inl (wd62 hw)) Via.refl e200 P3 60 rfl (hb hby d12_57) rfl fun T201 X201 e201 => ?_
  refine own_ru 62 [(.ref a1), (.ref a1), (.ref va)] X201 hx hby e12_60_2 rfl rfl ?_
  refine own_gF X201 hx hZ hown (host := "") (Or.inl (wd76 hw)) Via.refl e201 P1 65 rfl (hb hby d12_62) rfl fun T202 X202 e202 => ?_
  refine own_ru 68 [(.int (nn + (1 : Int32))), (.ref a1), (.int nn), (.ref va)] X202 hx hby e12_65_3 rfl rfl ?_
  refine own_pF X202 hx hZ hown (host := "") (Or.inl (wd76 hw)) Via.refl e202 P1 P0 (Or.inl (wd77 hw)) (wd48 hw) (ty := .int) (by decide) rfl rfl 71 rfl (hb hby d12_68) rfl fun T203 h203 X203 e203 W203 => ?_
  have F203 := Fld.same W203 P1
  have z203 := W203.size
  have KK203 : Keep h0 h203 [a1, va] := (Keep.refl h0 [a1, va]).wr W203 (Or.inl (by simp))
  have N203 := Fr.snoc X203 N200 (by omega)
  refine own_ru 72 [(.int q), (.int nn), (.ref va)] X203 hx hby e12_71_1 rfl rfl ?_
  have f204 := (OLD.wr W203 (by omega))
  have f205 := (P6.other W203 (own_ne (by omega)))
  refine own_cS X203 hx hZ hown (wd222 hw) (wd223 hw) (by decide) (wd224 hw) (wd192 hw) (rm44 l Z a0 hw [] G1 G2 va nn q kk zz vs h203 n0 (by omega) f204 A f205 (by omega) hi0 hi1 hp0 hp1 hl0 hl1) e203  [(.ref va), (.int nn), (.int q)] [] 75 0 (hb hby d12_72) rfl (by rw [hml]; rfl) rfl rfl (lenOf pd_8 rfl) rfl (by decide) fun v206 T206 Lc206 X206 hQ206 => ?_
  obtain ⟨rfl, N206q, K206, G206_0⟩ := hQ206
  have N206 := Fr.app N203 N206q
  have z206 := K206.1
  have KK206 : Keep h0 T206.heap [a1, va] := KK203.trans K206 (allS (Or.inl (by simp)) all0)
  have lt206_0 : @LT.lt Nat _ va (Array.size T206.heap) := G206_0.lt
  refine own_ru 76 [(.ref a1)] X206 hx hby e12_75_1 rfl rfl ?_
  have f208 := (Exa.keep (Exa.wr W203 P0) K206)
  have f209 := (F203.keep K206 (own_nS (by omega) nin0))
  have f210 := ((Fld.other W203 P2 (Or.inr (slot_ne (Or.inl (wd65 hw)) (Or.inl (wd77 hw)) (by decide) (t := .byte) (t' := .int) (by decide) (by decide)))).keep K206 (own_nS (by omega) nin0))
  have f211 := ((Fld.other W203 P3 (Or.inr (slot_ne (Or.inl (wd63 hw)) (Or.inl (wd77 hw)) (by decide) (t := (.array .byte)) (t' := .int) (by decide) (by decide)))).keep K206 (own_nS (by omega) nin0))
  have f212 := ((Fld.other W203 P4 (Or.inr (slot_ne (Or.inl (wd230 hw)) (Or.inl (wd77 hw)) (by decide) (t := .boolean) (t' := .int) (by decide) (by decide)))).keep K206 (own_nS (by omega) nin0))
  have f213 := (Exa.keep (Exa.wr W203 P5) K206)
  have hq207 : Q12u Z G1 G2 a1 q nn va kk zz vs h0 n0 (some (.ref a1)) T206.heap _ := ⟨rfl, N206, KK206, f208, f209, f210, f211, f212, f213, G206_0⟩
  exact own_retR X206 hx hlk (w := (.ref a1)) rfl hrt rfl (hb hby d12_76) rfl hq207 (by decide) (by decide)
theorem d12_53 : decode jdk_68_method_31_code 53 = .ok (.invokevirtual 195, 3) := by decide +kernel
theorem e12_52_1 : own_dec jdk_68_method_31_code 52 [(.aload_n 0, 1)] = true := by decide +kernel
theorem pd_17 : parseMethodDescriptor "()V" = some ⟨[], none⟩ := by decide +kernel
def Q12i (Z : State) (G1 : Int32) (G2 : Value) (a1 : Addr) (va : Addr) (kk : ClassId) (zz : Int32) (nn : Int32) (ys : List Int32) (cap : Nat) (h0 : Heap) (n0 : Nat) (v : Option Value) (h : Heap) (L : List Loc) : Prop := ∃ vb : Addr, ∃ kb : ClassId, v = some (.ref a1) ∧ Fr n0 L ∧ Keep h0 h [a1] ∧ ex7 Z h a1 ∧ fl8 Z h a1 (.int (nn + (1 : Int32))) ∧ fl9 Z h a1 (.int (1 : Int32)) ∧ fl10 Z h a1 (.ref vb) ∧ fl11 Z h a1 (.int (0 : Int32)) ∧ ex12 Z h vb ∧ Arv Z h vb kb .byte (zz <<< ((1 : Int32) &&& 31)) (((own_ua (ys.map own_pr) cap).set ((nn <<< ((1 : Int32) &&& 31))).toNatClampNeg (.int (own_e0 (65533 : Int32)))).set (((nn <<< ((1 : Int32) &&& 31)) + (1 : Int32))).toNatClampNeg (.int (own_e1 (65533 : Int32)))) (.int (0 : Int32)) ∧ (h0.size ≤ vb)
set_option maxRecDepth 65536 in
set_option maxHeartbeats 40000000 in
theorem rm12i (l : Launch) (Z : State) (a0 : Array Value) (hw : OW a0 Z) (ws : List Jvm.Cond) (G1 : Int32) (G2 : Value) (a1 : Addr) (va : Addr) (kk : ClassId) (zz : Int32) (nn : Int32) (ys : List Int32) (cap : Nat) (h0 : Heap) (n0 : Nat) (Z0 : n0 ≤ h0.size) (OLD : Old Z n0 h0) (A : Amb Z G1 G2) (P0 : ex7 Z h0 a1) (P1 : fl8 Z h0 a1 (.int nn)) (P2 : fl9 Z h0 a1 (.int (0 : Int32))) (P3 : fl10 Z h0 a1 (.ref va)) (P4 : fl11 Z h0 a1 (.int (0 : Int32))) (P5 : ex12 Z h0 va) (P6 : Arv Z h0 va kk .byte zz (own_la ys cap) (.int (0 : Int32))) (g_a1 : n0 ≤ a1) (hcap : ¬ (0 : Int32) < ((nn + (1 : Int32)) - (zz >>> ((0 : Int32) &&& 31)))) (hz : zz.toInt = (cap : Int)) (hz2 : (zz <<< ((1 : Int32) &&& 31)).toInt = 2 * (cap : Int)) (hn : nn.toInt = (ys.length : Int)) (hle : ys.length ≤ cap) (hc4 : cap ≤ 4) (p1 : ¬ ((((zz <<< ((1 : Int32) &&& 31)) >>> ((1 : Int32) &&& 31)) ||| (0 : Int32)) ||| nn) < (0 : Int32)) (p2 : ¬ (((zz <<< ((1 : Int32) &&& 31)) >>> ((1 : Int32) &&& 31)) - (0 : Int32)) < nn) (hz0 : ¬ zz < (0 : Int32)) (hz1 : zz < (1073741823 : Int32)) (hz9 : ¬ (zz <<< ((1 : Int32) &&& 31)) < (0 : Int32)) (hz8 : (zz <<< ((1 : Int32) &&& 31)).toNatClampNeg ≤ 8) (hi0 : ¬ nn < (0 : Int32)) (hi1 : nn < ((zz <<< ((1 : Int32) &&& 31)) >>> ((1 : Int32) &&& 31))) (hp0 : ¬ (nn <<< ((1 : Int32) &&& 31)) < (0 : Int32) ∧ (nn <<< ((1 : Int32) &&& 31)) < (zz <<< ((1 : Int32) &&& 31))) (hp1 : ¬ ((nn <<< ((1 : Int32) &&& 31)) + (1 : Int32)) < (0 : Int32) ∧ ((nn <<< ((1 : Int32) &&& 31)) + (1 : Int32)) < (zz <<< ((1 : Int32) &&& 31))) (hl0 : (nn <<< ((1 : Int32) &&& 31)).toNatClampNeg < (own_ua (ys.map own_pr) cap).length) (hl1 : ((nn <<< ((1 : Int32) &&& 31)) + (1 : Int32)).toNatClampNeg < (own_ua (ys.map own_pr) cap).length) (hne : @Ne Nat a1 va) :
    own_Met l my12 jdk_68_method_31_code 2 (some (.object "java/lang/AbstractStringBuilder")) ws (own_rm 6 1 8 89) #[(.ref a1), (.int (65533 : Int32))] Z h0 (Q12i Z G1 G2 a1 va kk zz nn ys cap h0 n0) 1 8 := by
  refine own_body (plainFor_of_name pn_3) (fun m => by first | (simp [entryFrame, mkF, argsToLocals, Value.category]; done) | rfl) (Ls := #[.val (.ref a1), .val (.int (65533 : Int32))]) fun p e s m below meth c s₁ X0 hx hby hml hZ e0 hown hnm hlk hrt => ?_
  have N0 := Fr.nil n0
  have lt_P0 : @LT.lt Nat _ a1 (Array.size h0) := P0.lt
  have lt_P5 : @LT.lt Nat _ va (Array.size h0) := P5.lt
  refine own_ru 2 [(.ref a1), (.ref a1)] X0 hx hby e12_0_2 rfl rfl ?_
  refine own_gF X0 hx hZ hown (host := "") (Or.inl (wd76 hw)) Via.refl e0 P1 5 rfl (hb hby d12_2) rfl fun T214 X214 e214 => ?_
  refine own_ru 7 [(.int (nn + (1 : Int32))), (.ref a1)] X214 hx hby e12_5_2 rfl rfl ?_
  refine own_cG X214 hx hZ hown (wd78 hw) (wd79 hw) (mvT hZ (wd81 hw)) (wd80 hw) (by decide) (wd82 hw) (wd57 hw) (rm13 l Z a0 hw [] a1 (nn + (1 : Int32)) va (0 : Int32) kk zz (own_la ys cap) h0 n0 (by omega) P3 P2 P6 hcap) e214 P0 [(.int (nn + (1 : Int32)))] [] 10 0 (hb hby d12_7) rfl (by rw [hml]; rfl) rfl rfl (lenOf pd_2 rfl) rfl (by decide) fun v215 T215 Lc215 X215 hQ215 => ?_
  obtain ⟨rfl, N215q, e215⟩ := hQ215
  have N215 := Fr.app N0 N215q
  refine own_ru 11 [(.ref a1)] X215 hx hby e12_10_1 rfl rfl ?_
  refine own_cV X215 hx hZ hown (wd83 hw) (wd84 hw) (notFace_of_selects (args := #[]) (mvT hZ (wd86 hw))) (wd86 hw) (wd85 hw) (by decide) (wd87 hw) (wd57 hw) (rm14d0 l Z a0 hw [] G1 G2 a1 h0 n0 (by omega) OLD A P2) e215 P0 [] [] 14 0 (hb hby d12_11) rfl (by rw [hml]; rfl) rfl rfl (lenOf pd_14 rfl) rfl (by decide) fun v216 T216 Lc216 X216 hQ216 => ?_
  obtain ⟨rfl, N216q, e216⟩ := hQ216
  have N216 := Fr.app N215 N216q
  refine own_iN 17 X216 hx (hb hby d12_14) rfl ((if0 _ _).trans (feq (by decide : ¬ ((1 : Int32) = (0 : Int32)))).1) rfl ?_
  refine own_ru 18 [(.int (65533 : Int32))] X216 hx hby e12_17_1 rfl rfl ?_
  refine own_cS X216 hx hZ hown (wd88 hw) (wd89 hw) (by decide) (wd91 hw) (wd90 hw) (rm15n l Z a0 hw []  h0 n0 (by omega) ) e216  [(.int (65533 : Int32))] [] 21 0 (hb hby d12_18) rfl (by rw [hml]; rfl) rfl rfl (lenOf pd_16 rfl) rfl (by decide) fun v217 T217 Lc217 X217 hQ217 => ?_
  obtain ⟨rfl, N217q, e217⟩ := hQ217
  have N217 := Fr.app N216 N217q
  refine own_iY 45 X217 hx (hb hby d12_21) rfl ((if0 _ _).trans (teq (by decide : ((0 : Int32) = (0 : Int32)))).1) (by decide) (by decide) ?_
  refine own_ru 46 [(.ref a1)] X217 hx hby e12_45_1 rfl rfl ?_
  refine own_cV X217 hx hZ hown (wd83 hw) (wd84 hw) (notFace_of_selects (args := #[]) (mvT hZ (wd86 hw))) (wd86 hw) (wd85 hw) (by decide) (wd87 hw) (wd57 hw) (rm14d0 l Z a0 hw [] G1 G2 a1 h0 n0 (by omega) OLD A P2) e217 P0 [] [] 49 0 (hb hby d12_46) rfl (by rw [hml]; rfl) rfl rfl (lenOf pd_14 rfl) rfl (by decide) fun v218 T218 Lc218 X218 hQ218 => ?_
  obtain ⟨rfl, N218q, e218⟩ := hQ218
  have N218 := Fr.app N217 N218q
  refine own_iN 52 X218 hx (hb hby d12_49) rfl ((if0 _ _).trans (feq (by decide : ¬ ((1 : Int32) = (0 : Int32)))).1) rfl ?_
  refine own_ru 53 [(.ref a1)] X218 hx hby e12_52_1 rfl rfl ?_
  refine own_cG X218 hx hZ hown (wd185 hw) (wd186 hw) (mvT hZ (wd188 hw)) (wd187 hw) (by decide) (wd189 hw) (wd57 hw) (rm34 l Z a0 hw [] G1 G2 a1 va kk zz nn ys cap h0 n0 (by omega) OLD A P0 P1 P2 P3 P4 P5 P6 (by omega) hz hz2 hn hle hc4 p1 p2 hz0 hz1 hz9 hz8 hne) e218 P0 [] [] 56 0 (hb hby d12_53) rfl (by rw [hml]; rfl) rfl rfl (lenOf pd_17 rfl) rfl (by decide) fun v219 T219 Lc219 X219 hQ219 => ?_
  obtain ⟨vb_219, kb_219, rfl, N219q, K219, G219_0, G219_1, G219_2, G219_3, G219_4, G219_5, G219_6, U219_0⟩ := hQ219
  have N219 := Fr.app N218 N219q
  have z219 := K219.1
  have KK219 : Keep h0 T219.heap [a1] := (Keep.refl h0 [a1]).trans K219 (allS (Or.inl (by simp)) all0)
  have lt219_0 : @LT.lt Nat _ a1 (Array.size T219.heap) := G219_0.lt
  have lt219_5 : @LT.lt Nat _ vb_219 (Array.size T219.heap) := G219_5.lt
  refine own_ru 57 [(.ref a1)] X219 hx hby e12_56_1 rfl rfl ?_
  refine own_gF X219 hx hZ hown (host := "") (Or.inl (wd62 hw)) Via.refl rfl G219_3 60 rfl (hb hby d12_57) rfl fun T220 X220 e220 => ?_
  refine own_ru 62 [(.ref a1), (.ref a1), (.ref vb_219)] X220 hx hby e12_60_2 rfl rfl ?_
  refine own_gF X220 hx hZ hown (host := "") (Or.inl (wd76 hw)) Via.refl e220 G219_1 65 rfl (hb hby d12_62) rfl fun T221 X221 e221 => ?_
  refine own_ru 68 [(.int (nn + (1 : Int32))), (.ref a1), (.int nn), (.ref vb_219)] X221 hx hby e12_65_3 rfl rfl ?_
  refine own_pF X221 hx hZ hown (host := "") (Or.inl (wd76 hw)) Via.refl e221 G219_1 G219_0 (Or.inl (wd77 hw)) (wd48 hw) (ty := .int) (by decide) rfl rfl 71 rfl (hb hby d12_68) rfl fun T222 h222 X222 e222 W222 => ?_
  have F222 := Fld.same W222 G219_1
  have z222 := W222.size
  have KK222 : Keep h0 h222 [a1] := KK219.wr W222 (Or.inl (by simp))
  have N222 := Fr.snoc X222 N219 (by omega)
  refine own_ru 72 [(.int (65533 : Int32)), (.int nn), (.ref vb_219)] X222 hx hby e12_71_1 rfl rfl ?_
  have f223 := ((OLD.keep K219 (allS (by omega) all0)).wr W222 (by omega))
  have f224 := (G219_6.other W222 (own_ne (by omega)))
  refine own_cS X222 hx hZ hown (wd222 hw) (wd223 hw) (by decide) (wd224 hw) (wd192 hw) (rm44 l Z a0 hw [] G1 G2 vb_219 nn (65533 : Int32) kb_219 (zz <<< ((1 : Int32) &&& 31)) (own_ua (ys.map own_pr) cap) h222 n0 (by omega) f223 A f224 (by omega) hi0 hi1 hp0 hp1 hl0 hl1) e222  [(.ref vb_219), (.int nn), (.int (65533 : Int32))] [] 75 0 (hb hby d12_72) rfl (by rw [hml]; rfl) rfl rfl (lenOf pd_8 rfl) rfl (by decide) fun v225 T225 Lc225 X225 hQ225 => ?_
  obtain ⟨rfl, N225q, K225, G225_0⟩ := hQ225
  have N225 := Fr.app N222 N225q
  have z225 := K225.1
  have KK225 : Keep h0 T225.heap [a1] := KK222.trans K225 (allS (Or.inr (by omega)) all0)
  have lt225_0 : @LT.lt Nat _ vb_219 (Array.size T225.heap) := G225_0.lt
  refine own_ru 76 [(.ref a1)] X225 hx hby e12_75_1 rfl rfl ?_
  have f227 := (Exa.keep (Exa.wr W222 G219_0) K225)
  have f228 := (F222.keep K225 (own_nS (by omega) nin0))
  have f229 := ((Fld.other W222 G219_2 (Or.inr (slot_ne (Or.inl (wd65 hw)) (Or.inl (wd77 hw)) (by decide) (t := .byte) (t' := .int) (by decide) (by decide)))).keep K225 (own_nS (by omega) nin0))
  have f230 := ((Fld.other W222 G219_3 (Or.inr (slot_ne (Or.inl (wd63 hw)) (Or.inl (wd77 hw)) (by decide) (t := (.array .byte)) (t' := .int) (by decide) (by decide)))).keep K225 (own_nS (by omega) nin0))
  have f231 := ((Fld.other W222 G219_4 (Or.inr (slot_ne (Or.inl (wd230 hw)) (Or.inl (wd77 hw)) (by decide) (t := .boolean) (t' := .int) (by decide) (by decide)))).keep K225 (own_nS (by omega) nin0))
  have f232 := (Exa.keep (Exa.wr W222 G219_5) K225)
  have hq226 : Q12i Z G1 G2 a1 va kk zz nn ys cap h0 n0 (some (.ref a1)) T225.heap _ := ⟨vb_219, kb_219, rfl, N225, KK225, f227, f228, f229, f230, f231, f232, G225_0, (by first | omega | assumption)⟩
  exact own_retR X225 hx hlk (w := (.ref a1)) rfl hrt rfl (hb hby d12_76) rfl hq226 (by decide) (by decide)
abbrev my11 : MethodName := (⟨"java/lang/StringBuilder", "append", "(C)Ljava/lang/StringBuilder;"⟩ : MethodName)
theorem d11_2 : decode jdk_67_method_14_code 2 = .ok (.invokespecial 50, 3) := by decide +kernel
theorem d11_7 : decode jdk_67_method_14_code 7 = .ok (.areturn, 1) := by decide +kernel
theorem e11_0_2 : own_dec jdk_67_method_14_code 0 [(.aload_n 0, 1), (.iload_n 1, 1)] = true := by decide +kernel
theorem e11_5_2 : own_dec jdk_67_method_14_code 5 [(.pop, 1), (.aload_n 0, 1)] = true := by decide +kernel
theorem pd_18 : parseMethodDescriptor "(C)Ljava/lang/AbstractStringBuilder;" = some ⟨[.char], some (.object "java/lang/AbstractStringBuilder")⟩ := by decide +kernel
def Q11a (Z : State) (G1 : Int32) (G2 : Value) (a1 : Addr) (q : Int32) (nn : Int32) (va : Addr) (kk : ClassId) (zz : Int32) (vs : List Value) (h0 : Heap) (n0 : Nat) (v : Option Value) (h : Heap) (L : List Loc) : Prop := v = some (.ref a1) ∧ Fr n0 L ∧ Keep h0 h [a1, va] ∧ ex7 Z h a1 ∧ fl8 Z h a1 (.int (nn + (1 : Int32))) ∧ fl9 Z h a1 (.int (0 : Int32)) ∧ fl10 Z h a1 (.ref va) ∧ fl11 Z h a1 (.int (0 : Int32)) ∧ ex12 Z h va ∧ Arv Z h va kk .byte zz (vs.set (nn).toNatClampNeg (.int (own_b8 q))) (.int (0 : Int32))
set_option maxRecDepth 65536 in
set_option maxHeartbeats 40000000 in
theorem rm11a (l : Launch) (Z : State) (a0 : Array Value) (hw : OW a0 Z) (ws : List Jvm.Cond) (G1 : Int32) (G2 : Value) (a1 : Addr) (q : Int32) (nn : Int32) (va : Addr) (kk : ClassId) (zz : Int32) (vs : List Value) (h0 : Heap) (n0 : Nat) (Z0 : n0 ≤ h0.size) (OLD : Old Z n0 h0) (A : Amb Z G1 G2) (P0 : ex7 Z h0 a1) (P1 : fl8 Z h0 a1 (.int nn)) (P2 : fl9 Z h0 a1 (.int (0 : Int32))) (P3 : fl10 Z h0 a1 (.ref va)) (P4 : fl11 Z h0 a1 (.int (0 : Int32))) (P5 : ex12 Z h0 va) (P6 : Arv Z h0 va kk .byte zz vs (.int (0 : Int32))) (g_a1 : n0 ≤ a1) (g_va : n0 ≤ va) (hq : ¬ (255 : Int32) < q) (hcap : ¬ (0 : Int32) < ((nn + (1 : Int32)) - (zz >>> ((0 : Int32) &&& 31)))) (hin : ¬ nn < (0 : Int32) ∧ nn < zz) (hl : (nn).toNatClampNeg < vs.length) (hne : @Ne Nat a1 va) :
    own_Met l my11 jdk_67_method_14_code 2 (some (.object "java/lang/StringBuilder")) ws (own_rm 2 0 0 27) #[(.ref a1), (.int q)] Z h0 (Q11a Z G1 G2 a1 q nn va kk zz vs h0 n0) 0 0 := by
  refine own_body (plainFor_of_name pn_4) (fun m => by first | (simp [entryFrame, mkF, argsToLocals, Value.category]; done) | rfl) (Ls := #[.val (.ref a1), .val (.int q)]) fun p e s m below meth c s₁ X0 hx hby hml hZ e0 hown hnm hlk hrt => ?_
  have N0 := Fr.nil n0
  have lt_P0 : @LT.lt Nat _ a1 (Array.size h0) := P0.lt
  have lt_P5 : @LT.lt Nat _ va (Array.size h0) := P5.lt
  refine own_ru 2 [(.int q), (.ref a1)] X0 hx hby e11_0_2 rfl rfl ?_
  refine own_cU X0 hx hZ hown (wd71 hw) (own_sameDecl (y := (⟨"java/lang/AbstractStringBuilder", "append", "(C)Ljava/lang/AbstractStringBuilder;"⟩ : MethodName)) (wd74 hw) (wd81 hw) rfl (by decide)) (wd72 hw) (wd73 hw) (by decide) (wd75 hw) (wd57 hw) (rm12a l Z a0 hw [] G1 G2 a1 q nn va kk zz vs h0 n0 (by omega) OLD A P0 P1 P2 P3 P4 P5 P6 (by omega) (by omega) hq hcap hin hl hne) e0 P0 [(.int q)] [] 5 0 (hb hby d11_2) rfl (by rw [hml]; rfl) rfl rfl (lenOf pd_18 rfl) rfl (by decide) fun v233 T233 Lc233 X233 hQ233 => ?_
  obtain ⟨rfl, N233q, K233, G233_0, G233_1, G233_2, G233_3, G233_4, G233_5, G233_6⟩ := hQ233
  have N233 := Fr.app N0 N233q
  have z233 := K233.1
  have KK233 : Keep h0 T233.heap [a1, va] := (Keep.refl h0 [a1, va]).trans K233 (allS (Or.inl (by simp)) (allS (Or.inl (by simp)) all0))
  have lt233_0 : @LT.lt Nat _ a1 (Array.size T233.heap) := G233_0.lt
  have lt233_5 : @LT.lt Nat _ va (Array.size T233.heap) := G233_5.lt
  refine own_ru 7 [(.ref a1)] X233 hx hby e11_5_2 rfl rfl ?_
  have hq234 : Q11a Z G1 G2 a1 q nn va kk zz vs h0 n0 (some (.ref a1)) T233.heap _ := ⟨rfl, N233, KK233, G233_0, G233_1, G233_2, G233_3, G233_4, G233_5, G233_6⟩
  exact own_retR X233 hx hlk (w := (.ref a1)) rfl hrt rfl (hb hby d11_7) rfl hq234 (by decide) (by decide)
def Q11u (Z : State) (G1 : Int32) (G2 : Value) (a1 : Addr) (q : Int32) (nn : Int32) (va : Addr) (kk : ClassId) (zz : Int32) (vs : List Value) (h0 : Heap) (n0 : Nat) (v : Option Value) (h : Heap) (L : List Loc) : Prop := v = some (.ref a1) ∧ Fr n0 L ∧ Keep h0 h [a1, va] ∧ ex7 Z h a1 ∧ fl8 Z h a1 (.int (nn + (1 : Int32))) ∧ fl9 Z h a1 (.int (1 : Int32)) ∧ fl10 Z h a1 (.ref va) ∧ fl11 Z h a1 (.int (0 : Int32)) ∧ ex12 Z h va ∧ Arv Z h va kk .byte zz ((vs.set ((nn <<< ((1 : Int32) &&& 31))).toNatClampNeg (.int (own_e0 q))).set (((nn <<< ((1 : Int32) &&& 31)) + (1 : Int32))).toNatClampNeg (.int (own_e1 q))) (.int (0 : Int32))
set_option maxRecDepth 65536 in
set_option maxHeartbeats 40000000 in
theorem rm11u (l : Launch) (Z : State) (a0 : Array Value) (hw : OW a0 Z) (ws : List Jvm.Cond) (G1 : Int32) (G2 : Value) (a1 : Addr) (q : Int32) (nn : Int32) (va : Addr) (kk : ClassId) (zz : Int32) (vs : List Value) (h0 : Heap) (n0 : Nat) (Z0 : n0 ≤ h0.size) (OLD : Old Z n0 h0) (A : Amb Z G1 G2) (P0 : ex7 Z h0 a1) (P1 : fl8 Z h0 a1 (.int nn)) (P2 : fl9 Z h0 a1 (.int (1 : Int32))) (P3 : fl10 Z h0 a1 (.ref va)) (P4 : fl11 Z h0 a1 (.int (0 : Int32))) (P5 : ex12 Z h0 va) (P6 : Arv Z h0 va kk .byte zz vs (.int (0 : Int32))) (g_a1 : n0 ≤ a1) (g_va : n0 ≤ va) (hcap : ¬ (0 : Int32) < ((nn + (1 : Int32)) - (zz >>> ((1 : Int32) &&& 31)))) (hi0 : ¬ nn < (0 : Int32)) (hi1 : nn < (zz >>> ((1 : Int32) &&& 31))) (hp0 : ¬ (nn <<< ((1 : Int32) &&& 31)) < (0 : Int32) ∧ (nn <<< ((1 : Int32) &&& 31)) < zz) (hp1 : ¬ ((nn <<< ((1 : Int32) &&& 31)) + (1 : Int32)) < (0 : Int32) ∧ ((nn <<< ((1 : Int32) &&& 31)) + (1 : Int32)) < zz) (hl0 : (nn <<< ((1 : Int32) &&& 31)).toNatClampNeg < vs.length) (hl1 : ((nn <<< ((1 : Int32) &&& 31)) + (1 : Int32)).toNatClampNeg < vs.length) (hne : @Ne Nat a1 va) :
    own_Met l my11 jdk_67_method_14_code 2 (some (.object "java/lang/StringBuilder")) ws (own_rm 5 0 0 67) #[(.ref a1), (.int q)] Z h0 (Q11u Z G1 G2 a1 q nn va kk zz vs h0 n0) 0 0 := by
  refine own_body (plainFor_of_name pn_4) (fun m => by first | (simp [entryFrame, mkF, argsToLocals, Value.category]; done) | rfl) (Ls := #[.val (.ref a1), .val (.int q)]) fun p e s m below meth c s₁ X0 hx hby hml hZ e0 hown hnm hlk hrt => ?_
  have N0 := Fr.nil n0
  have lt_P0 : @LT.lt Nat _ a1 (Array.size h0) := P0.lt
  have lt_P5 : @LT.lt Nat _ va (Array.size h0) := P5.lt
  refine own_ru 2 [(.int q), (.ref a1)] X0 hx hby e11_0_2 rfl rfl ?_
  refine own_cU X0 hx hZ hown (wd71 hw) (own_sameDecl (y := (⟨"java/lang/AbstractStringBuilder", "append", "(C)Ljava/lang/AbstractStringBuilder;"⟩ : MethodName)) (wd74 hw) (wd81 hw) rfl (by decide)) (wd72 hw) (wd73 hw) (by decide) (wd75 hw) (wd57 hw) (rm12u l Z a0 hw [] G1 G2 a1 q nn va kk zz vs h0 n0 (by omega) OLD A P0 P1 P2 P3 P4 P5 P6 (by omega) (by omega) hcap hi0 hi1 hp0 hp1 hl0 hl1 hne) e0 P0 [(.int q)] [] 5 0 (hb hby d11_2) rfl (by rw [hml]; rfl) rfl rfl (lenOf pd_18 rfl) rfl (by decide) fun v235 T235 Lc235 X235 hQ235 => ?_
  obtain ⟨rfl, N235q, K235, G235_0, G235_1, G235_2, G235_3, G235_4, G235_5, G235_6⟩ := hQ235
  have N235 := Fr.app N0 N235q
  have z235 := K235.1
  have KK235 : Keep h0 T235.heap [a1, va] := (Keep.refl h0 [a1, va]).trans K235 (allS (Or.inl (by simp)) (allS (Or.inl (by simp)) all0))
  have lt235_0 : @LT.lt Nat _ a1 (Array.size T235.heap) := G235_0.lt
  have lt235_5 : @LT.lt Nat _ va (Array.size T235.heap) := G235_5.lt
  refine own_ru 7 [(.ref a1)] X235 hx hby e11_5_2 rfl rfl ?_
  have hq236 : Q11u Z G1 G2 a1 q nn va kk zz vs h0 n0 (some (.ref a1)) T235.heap _ := ⟨rfl, N235, KK235, G235_0, G235_1, G235_2, G235_3, G235_4, G235_5, G235_6⟩
  exact own_retR X235 hx hlk (w := (.ref a1)) rfl hrt rfl (hb hby d11_7) rfl hq236 (by decide) (by decide)
def Q11i (Z : State) (G1 : Int32) (G2 : Value) (a1 : Addr) (va : Addr) (kk : ClassId) (zz : Int32) (nn : Int32) (ys : List Int32) (cap : Nat) (h0 : Heap) (n0 : Nat) (v : Option Value) (h : Heap) (L : List Loc) : Prop := ∃ vb : Addr, ∃ kb : ClassId, v = some (.ref a1) ∧ Fr n0 L ∧ Keep h0 h [a1] ∧ ex7 Z h a1 ∧ fl8 Z h a1 (.int (nn + (1 : Int32))) ∧ fl9 Z h a1 (.int (1 : Int32)) ∧ fl10 Z h a1 (.ref vb) ∧ fl11 Z h a1 (.int (0 : Int32)) ∧ ex12 Z h vb ∧ Arv Z h vb kb .byte (zz <<< ((1 : Int32) &&& 31)) (((own_ua (ys.map own_pr) cap).set ((nn <<< ((1 : Int32) &&& 31))).toNatClampNeg (.int (own_e0 (65533 : Int32)))).set (((nn <<< ((1 : Int32) &&& 31)) + (1 : Int32))).toNatClampNeg (.int (own_e1 (65533 : Int32)))) (.int (0 : Int32)) ∧ (h0.size ≤ vb)
set_option maxRecDepth 65536 in
set_option maxHeartbeats 40000000 in
theorem rm11i (l : Launch) (Z : State) (a0 : Array Value) (hw : OW a0 Z) (ws : List Jvm.Cond) (G1 : Int32) (G2 : Value) (a1 : Addr) (va : Addr) (kk : ClassId) (zz : Int32) (nn : Int32) (ys : List Int32) (cap : Nat) (h0 : Heap) (n0 : Nat) (Z0 : n0 ≤ h0.size) (OLD : Old Z n0 h0) (A : Amb Z G1 G2) (P0 : ex7 Z h0 a1) (P1 : fl8 Z h0 a1 (.int nn)) (P2 : fl9 Z h0 a1 (.int (0 : Int32))) (P3 : fl10 Z h0 a1 (.ref va)) (P4 : fl11 Z h0 a1 (.int (0 : Int32))) (P5 : ex12 Z h0 va) (P6 : Arv Z h0 va kk .byte zz (own_la ys cap) (.int (0 : Int32))) (g_a1 : n0 ≤ a1) (hcap : ¬ (0 : Int32) < ((nn + (1 : Int32)) - (zz >>> ((0 : Int32) &&& 31)))) (hz : zz.toInt = (cap : Int)) (hz2 : (zz <<< ((1 : Int32) &&& 31)).toInt = 2 * (cap : Int)) (hn : nn.toInt = (ys.length : Int)) (hle : ys.length ≤ cap) (hc4 : cap ≤ 4) (p1 : ¬ ((((zz <<< ((1 : Int32) &&& 31)) >>> ((1 : Int32) &&& 31)) ||| (0 : Int32)) ||| nn) < (0 : Int32)) (p2 : ¬ (((zz <<< ((1 : Int32) &&& 31)) >>> ((1 : Int32) &&& 31)) - (0 : Int32)) < nn) (hz0 : ¬ zz < (0 : Int32)) (hz1 : zz < (1073741823 : Int32)) (hz9 : ¬ (zz <<< ((1 : Int32) &&& 31)) < (0 : Int32)) (hz8 : (zz <<< ((1 : Int32) &&& 31)).toNatClampNeg ≤ 8) (hi0 : ¬ nn < (0 : Int32)) (hi1 : nn < ((zz <<< ((1 : Int32) &&& 31)) >>> ((1 : Int32) &&& 31))) (hp0 : ¬ (nn <<< ((1 : Int32) &&& 31)) < (0 : Int32) ∧ (nn <<< ((1 : Int32) &&& 31)) < (zz <<< ((1 : Int32) &&& 31))) (hp1 : ¬ ((nn <<< ((1 : Int32) &&& 31)) + (1 : Int32)) < (0 : Int32) ∧ ((nn <<< ((1 : Int32) &&& 31)) + (1 : Int32)) < (zz <<< ((1 : Int32) &&& 31))) (hl0 : (nn <<< ((1 : Int32) &&& 31)).toNatClampNeg < (own_ua (ys.map own_pr) cap).length) (hl1 : ((nn <<< ((1 : Int32) &&& 31)) + (1 : Int32)).toNatClampNeg < (own_ua (ys.map own_pr) cap).length) (hne : @Ne Nat a1 va) :
    own_Met l my11 jdk_67_method_14_code 2 (some (.object "java/lang/StringBuilder")) ws (own_rm 7 1 8 102) #[(.ref a1), (.int (65533 : Int32))] Z h0 (Q11i Z G1 G2 a1 va kk zz nn ys cap h0 n0) 1 8 := by
  refine own_body (plainFor_of_name pn_4) (fun m => by first | (simp [entryFrame, mkF, argsToLocals, Value.category]; done) | rfl) (Ls := #[.val (.ref a1), .val (.int (65533 : Int32))]) fun p e s m below meth c s₁ X0 hx hby hml hZ e0 hown hnm hlk hrt => ?_
  have N0 := Fr.nil n0
  have lt_P0 : @LT.lt Nat _ a1 (Array.size h0) := P0.lt
  have lt_P5 : @LT.lt Nat _ va (Array.size h0) := P5.lt
  refine own_ru 2 [(.int (65533 : Int32)), (.ref a1)] X0 hx hby e11_0_2 rfl rfl ?_
  refine own_cU X0 hx hZ hown (wd71 hw) (own_sameDecl (y := (⟨"java/lang/AbstractStringBuilder", "append", "(C)Ljava/lang/AbstractStringBuilder;"⟩ : MethodName)) (wd74 hw) (wd81 hw) rfl (by decide)) (wd72 hw) (wd73 hw) (by decide) (wd75 hw) (wd57 hw) (rm12i l Z a0 hw [] G1 G2 a1 va kk zz nn ys cap h0 n0 (by omega) OLD A P0 P1 P2 P3 P4 P5 P6 (by omega) hcap hz hz2 hn hle hc4 p1 p2 hz0 hz1 hz9 hz8 hi0 hi1 hp0 hp1 hl0 hl1 hne) e0 P0 [(.int (65533 : Int32))] [] 5 0 (hb hby d11_2) rfl (by rw [hml]; rfl) rfl rfl (lenOf pd_18 rfl) rfl (by decide) fun v237 T237 Lc237 X237 hQ237 => ?_
  obtain ⟨vb_237, kb_237, rfl, N237q, K237, G237_0, G237_1, G237_2, G237_3, G237_4, G237_5, G237_6, U237_0⟩ := hQ237
  have N237 := Fr.app N0 N237q
  have z237 := K237.1
  have KK237 : Keep h0 T237.heap [a1] := (Keep.refl h0 [a1]).trans K237 (allS (Or.inl (by simp)) all0)
  have lt237_0 : @LT.lt Nat _ a1 (Array.size T237.heap) := G237_0.lt
  have lt237_5 : @LT.lt Nat _ vb_237 (Array.size T237.heap) := G237_5.lt
  refine own_ru 7 [(.ref a1)] X237 hx hby e11_5_2 rfl rfl ?_
  have hq238 : Q11i Z G1 G2 a1 va kk zz nn ys cap h0 n0 (some (.ref a1)) T237.heap _ := ⟨vb_237, kb_237, rfl, N237, KK237, G237_0, G237_1, G237_2, G237_3, G237_4, G237_5, G237_6, (by first | omega | assumption)⟩
  exact own_retR X237 hx hlk (w := (.ref a1)) rfl hrt rfl (hb hby d11_7) rfl hq238 (by decide) (by decide)
abbrev my19 : MethodName := (⟨"java/lang/AbstractStringBuilder", "getValue", "()[B"⟩ : MethodName)
theorem d19_1 : decode jdk_68_method_64_code 1 = .ok (.getfield 15, 3) := by decide +kernel
theorem d19_4 : decode jdk_68_method_64_code 4 = .ok (.areturn, 1) := by decide +kernel
theorem e19_0_1 : own_dec jdk_68_method_64_code 0 [(.aload_n 0, 1)] = true := by decide +kernel
def Q19 (Z : State) (a1 : Addr) (va : Addr) (h0 : Heap) (n0 : Nat) (v : Option Value) (h : Heap) (L : List Loc) : Prop := v = some (.ref va) ∧ Fr n0 L ∧ h = h0
set_option maxRecDepth 65536 in
set_option maxHeartbeats 40000000 in
theorem rm19 (l : Launch) (Z : State) (a0 : Array Value) (hw : OW a0 Z) (ws : List Jvm.Cond) (a1 : Addr) (va : Addr) (h0 : Heap) (n0 : Nat) (Z0 : n0 ≤ h0.size) (P0 : fl10 Z h0 a1 (.ref va)) :
    own_Met l my19 jdk_68_method_64_code 1 (some (.array .byte)) ws (own_rm 0 0 0 0) #[(.ref a1)] Z h0 (Q19 Z a1 va h0 n0) 0 0 := by
  refine own_body (plainFor_of_name pn_3) (fun m => by first | (simp [entryFrame, mkF, argsToLocals, Value.category]; done) | rfl) (Ls := #[.val (.ref a1)]) fun p e s m below meth c s₁ X0 hx hby hml hZ e0 hown hnm hlk hrt => ?_
  have N0 := Fr.nil n0
  have lt_P0 : @LT.lt Nat _ a1 (Array.size h0) := P0.lt
  refine own_ru 1 [(.ref a1)] X0 hx hby e19_0_1 rfl rfl ?_
  refine own_gF X0 hx hZ hown (host := "") (Or.inl (wd62 hw)) Via.refl e0 P0 4 rfl (hb hby d19_1) rfl fun T239 X239 e239 => ?_
  have hq240 : Q19 Z a1 va h0 n0 (some (.ref va)) h0 _ := ⟨rfl, N0, rfl⟩
  exact own_retR X239 hx hlk (w := (.ref va)) rfl hrt rfl (hb hby d19_4) e239 hq240 (by decide) (by decide)
abbrev my21 : MethodName := (⟨"java/lang/AbstractStringBuilder", "length", "()I"⟩ : MethodName)
theorem d21_1 : decode jdk_68_method_6_code 1 = .ok (.getfield 79, 3) := by decide +kernel
theorem d21_4 : decode jdk_68_method_6_code 4 = .ok (.ireturn, 1) := by decide +kernel
theorem e21_0_1 : own_dec jdk_68_method_6_code 0 [(.aload_n 0, 1)] = true := by decide +kernel
def Q21 (Z : State) (a1 : Addr) (nn : Int32) (h0 : Heap) (n0 : Nat) (v : Option Value) (h : Heap) (L : List Loc) : Prop := v = some (.int nn) ∧ Fr n0 L ∧ h = h0
set_option maxRecDepth 65536 in
set_option maxHeartbeats 40000000 in
theorem rm21 (l : Launch) (Z : State) (a0 : Array Value) (hw : OW a0 Z) (ws : List Jvm.Cond) (a1 : Addr) (nn : Int32) (h0 : Heap) (n0 : Nat) (Z0 : n0 ≤ h0.size) (P0 : ex7 Z h0 a1) (P1 : fl8 Z h0 a1 (.int nn)) :
    own_Met l my21 jdk_68_method_6_code 1 (some .int) ws (own_rm 0 0 0 0) #[(.ref a1)] Z h0 (Q21 Z a1 nn h0 n0) 0 0 := by
  refine own_body (plainFor_of_name pn_3) (fun m => by first | (simp [entryFrame, mkF, argsToLocals, Value.category]; done) | rfl) (Ls := #[.val (.ref a1)]) fun p e s m below meth c s₁ X0 hx hby hml hZ e0 hown hnm hlk hrt => ?_
  have N0 := Fr.nil n0
  have lt_P0 : @LT.lt Nat _ a1 (Array.size h0) := P0.lt
  refine own_ru 1 [(.ref a1)] X0 hx hby e21_0_1 rfl rfl ?_
  refine own_gF X0 hx hZ hown (host := "") (Or.inl (wd76 hw)) Via.refl e0 P1 4 rfl (hb hby d21_1) rfl fun T241 X241 e241 => ?_
  have hq242 : Q21 Z a1 nn h0 n0 (some (.int nn)) h0 _ := ⟨rfl, N0, rfl⟩
  exact own_retI X241 hx hlk hrt (hb hby d21_4) e241 hq242 (by decide) (by decide)
abbrev my20 : MethodName := (⟨"java/lang/StringBuilder", "length", "()I"⟩ : MethodName)
theorem d20_1 : decode jdk_67_method_93_code 1 = .ok (.invokespecial 343, 3) := by decide +kernel
theorem d20_4 : decode jdk_67_method_93_code 4 = .ok (.ireturn, 1) := by decide +kernel
theorem e20_0_1 : own_dec jdk_67_method_93_code 0 [(.aload_n 0, 1)] = true := by decide +kernel
theorem pd_19 : parseMethodDescriptor "()I" = some ⟨[], some .int⟩ := by decide +kernel
def Q20 (Z : State) (a1 : Addr) (nn : Int32) (h0 : Heap) (n0 : Nat) (v : Option Value) (h : Heap) (L : List Loc) : Prop := v = some (.int nn) ∧ Fr n0 L ∧ h = h0
set_option maxRecDepth 65536 in
set_option maxHeartbeats 40000000 in
theorem rm20 (l : Launch) (Z : State) (a0 : Array Value) (hw : OW a0 Z) (ws : List Jvm.Cond) (a1 : Addr) (nn : Int32) (h0 : Heap) (n0 : Nat) (Z0 : n0 ≤ h0.size) (P0 : ex7 Z h0 a1) (P1 : fl8 Z h0 a1 (.int nn)) :
    own_Met l my20 jdk_67_method_93_code 1 (some .int) ws (own_rm 1 0 0 12) #[(.ref a1)] Z h0 (Q20 Z a1 nn h0 n0) 0 0 := by
  refine own_body (plainFor_of_name pn_4) (fun m => by first | (simp [entryFrame, mkF, argsToLocals, Value.category]; done) | rfl) (Ls := #[.val (.ref a1)]) fun p e s m below meth c s₁ X0 hx hby hml hZ e0 hown hnm hlk hrt => ?_
  have N0 := Fr.nil n0
  have lt_P0 : @LT.lt Nat _ a1 (Array.size h0) := P0.lt
  refine own_ru 1 [(.ref a1)] X0 hx hby e20_0_1 rfl rfl ?_
  refine own_cU X0 hx hZ hown (wd118 hw) (own_sameDecl (y := (⟨"java/lang/AbstractStringBuilder", "length", "()I"⟩ : MethodName)) (wd113 hw) (wd81 hw) rfl (by decide)) (wd114 hw) (wd73 hw) (by decide) (wd119 hw) (wd57 hw) (rm21 l Z a0 hw [] a1 nn h0 n0 (by omega) P0 P1) e0 P0 [] [] 4 0 (hb hby d20_1) rfl (by rw [hml]; rfl) rfl rfl (lenOf pd_19 rfl) rfl (by decide) fun v243 T243 Lc243 X243 hQ243 => ?_
  obtain ⟨rfl, N243q, e243⟩ := hQ243
  have N243 := Fr.app N0 N243q
  have hq244 : Q20 Z a1 nn h0 n0 (some (.int nn)) h0 _ := ⟨rfl, N243, rfl⟩
  exact own_retI X243 hx hlk hrt (hb hby d20_4) e243 hq244 (by decide) (by decide)
abbrev my22 : MethodName := (⟨"java/util/Arrays", "copyOfRange", "([BII)[B"⟩ : MethodName)
theorem d22_1 : decode jdk_65_method_132_code 1 = .ok (.ifCond .ne 9, 3) := by decide +kernel
theorem d22_6 : decode jdk_65_method_132_code 6 = .ok (.arraylength, 1) := by decide +kernel
theorem d22_7 : decode jdk_65_method_132_code 7 = .ok (.if_icmp .eq 10, 3) := by decide +kernel
theorem d22_18 : decode jdk_65_method_132_code 18 = .ok (.invokevirtual 310, 3) := by decide +kernel
theorem d22_21 : decode jdk_65_method_132_code 21 = .ok (.checkcast 311, 3) := by decide +kernel
theorem d22_24 : decode jdk_65_method_132_code 24 = .ok (.areturn, 1) := by decide +kernel
theorem e22_0_1 : own_dec jdk_65_method_132_code 0 [(.iload_n 1, 1)] = true := by decide +kernel
theorem e22_4_2 : own_dec jdk_65_method_132_code 4 [(.iload_n 2, 1), (.aload_n 0, 1)] = true := by decide +kernel
theorem e22_17_1 : own_dec jdk_65_method_132_code 17 [(.aload_n 0, 1)] = true := by decide +kernel
def Q22 (Z : State) (va : Addr) (n2 : Int32) (kk : ClassId) (zz : Int32) (vs : List Value) (h0 : Heap) (n0 : Nat) (v : Option Value) (h : Heap) (L : List Loc) : Prop := ∃ ob : Addr, v = some (.ref ob) ∧ Fr n0 L ∧ Keep h0 h [] ∧ Arv Z h ob kk .byte zz vs (.int (0 : Int32)) ∧ ex12 Z h ob ∧ (h0.size ≤ ob)
set_option maxRecDepth 65536 in
set_option maxHeartbeats 40000000 in
theorem rm22 (l : Launch) (Z : State) (a0 : Array Value) (hw : OW a0 Z) (ws : List Jvm.Cond) (va : Addr) (n2 : Int32) (kk : ClassId) (zz : Int32) (vs : List Value) (h0 : Heap) (n0 : Nat) (Z0 : n0 ≤ h0.size) (P0 : Arv Z h0 va kk .byte zz vs (.int (0 : Int32))) (P1 : ex12 Z h0 va) (he : n2 = zz) (hz8 : zz.toNatClampNeg ≤ 8) :
    own_Met l my22 jdk_65_method_132_code 3 (some (.array .byte)) ws (own_rm 1 1 8 14) #[(.ref va), (.int (0 : Int32)), (.int n2)] Z h0 (Q22 Z va n2 kk zz vs h0 n0) 1 8 := by
  refine own_body (plainFor_of_name pn_1) (fun m => by first | (simp [entryFrame, mkF, argsToLocals, Value.category]; done) | rfl) (Ls := #[.val (.ref va), .val (.int (0 : Int32)), .val (.int n2)]) fun p e s m below meth c s₁ X0 hx hby hml hZ e0 hown hnm hlk hrt => ?_
  have N0 := Fr.nil n0
  have lt_P0 : @LT.lt Nat _ va (Array.size h0) := P0.lt
  refine own_ru 1 [(.int (0 : Int32))] X0 hx hby e22_0_1 rfl rfl ?_
  refine own_iN 4 X0 hx (hb hby d22_1) rfl ((if0 _ _).trans (teq (by decide : ((0 : Int32) = (0 : Int32)))).2) rfl ?_
  refine own_ru 6 [(.ref va), (.int n2)] X0 hx hby e22_4_2 rfl rfl ?_
  refine own_aL X0 hx hZ e0 P0 7 rfl (hb hby d22_6) rfl ?_
  refine own_kY 17 X0 hx (hb hby d22_7) rfl (teq he).1 (by decide) (by decide) ?_
  refine own_ru 18 [(.ref va)] X0 hx hby e22_17_1 rfl rfl ?_
  obtain ⟨T245, h245, X245, e245, E245, A245, B245, st245⟩ := cloneH X0 hx hZ hown (wd126 hw) (wd127 hw) (wd131 hw) (wd129 hw) (wd130 hw) (wd132 hw) e0 (Arv.arh P0) P1 (g := (mkF m 18 #[.val (.ref va), .val (.int (0 : Int32)), .val (.int n2)] [(.ref va)])) rfl (by rw [hml]; rfl) rfl (hb hby d22_18) (by decide) (W := 0) (by show 2 * 0 + _ ≤ _; exact Nat.le_of_eq rfl) (by decide) (cap := 8) hz8 (by decide) (by decide)
  obtain ⟨b245, g245⟩ : ∃ z, z = h0.size := ⟨_, rfl⟩
  rw [← g245] at A245 B245 st245
  have KK245 : Keep h0 h245 [] := (Keep.refl h0 []).ext E245
  have z245 := E245.1
  have V245 : Arv Z h245 b245 kk .byte zz vs (.int (0 : Int32)) := A245
  have ll245 : @LT.lt Nat _ b245 (Array.size h245) := V245.lt
  refine own_sT 21 [(.ref b245)] st245 ?_
  refine own_ca X245 hx hZ hown (wd133 hw) e245 (Ins.self B245) 24 rfl (hb hby d22_21) rfl fun T246 X246 e246 => ?_
  have hq247 : Q22 Z va n2 kk zz vs h0 n0 (some (.ref b245)) h245 _ := ⟨b245, rfl, N0, KK245, V245, B245, (by first | omega | assumption)⟩
  exact own_retR X246 hx hlk (w := (.ref b245)) rfl hrt rfl (hb hby d22_24) e246 hq247 (by decide) (by decide)
abbrev my18 : MethodName := (⟨"java/lang/String", "<init>", "(Ljava/lang/AbstractStringBuilder;Ljava/lang/Void;)V"⟩ : MethodName)
theorem d18_1 : decode jdk_42_method_150_code 1 = .ok (.invokespecial 1, 3) := by decide +kernel
theorem d18_5 : decode jdk_42_method_150_code 5 = .ok (.invokevirtual 552, 3) := by decide +kernel
theorem d18_10 : decode jdk_42_method_150_code 10 = .ok (.invokevirtual 549, 3) := by decide +kernel
theorem d18_16 : decode jdk_42_method_150_code 16 = .ok (.invokevirtual 1047, 3) := by decide +kernel
theorem d18_19 : decode jdk_42_method_150_code 19 = .ok (.ifCond .eq 22, 3) := by decide +kernel
theorem d18_24 : decode jdk_42_method_150_code 24 = .ok (.putfield 15, 3) := by decide +kernel
theorem d18_32 : decode jdk_42_method_150_code 32 = .ok (.invokestatic 54, 3) := by decide +kernel
theorem d18_35 : decode jdk_42_method_150_code 35 = .ok (.putfield 9, 3) := by decide +kernel
theorem d18_38 : decode jdk_42_method_150_code 38 = .ok (.goto 59, 3) := by decide +kernel
theorem d18_97 : decode jdk_42_method_150_code 97 = .ok (.return_, 1) := by decide +kernel
theorem e18_0_1 : own_dec jdk_42_method_150_code 0 [(.aload_n 0, 1)] = true := by decide +kernel
theorem e18_4_1 : own_dec jdk_42_method_150_code 4 [(.aload_n 1, 1)] = true := by decide +kernel
theorem e18_8_2 : own_dec jdk_42_method_150_code 8 [(.astore_n 3, 1), (.aload_n 1, 1)] = true := by decide +kernel
theorem e18_13_2 : own_dec jdk_42_method_150_code 13 [(.istore 4, 2), (.aload_n 1, 1)] = true := by decide +kernel
theorem e18_22_2 : own_dec jdk_42_method_150_code 22 [(.aload_n 0, 1), (.iconst 0, 1)] = true := by decide +kernel
theorem e18_27_4 : own_dec jdk_42_method_150_code 27 [(.aload_n 0, 1), (.aload_n 3, 1), (.iconst 0, 1), (.iload 4, 2)] = true := by decide +kernel
theorem pd_20 : parseMethodDescriptor "()[B" = some ⟨[], some (.array .byte)⟩ := by decide +kernel
theorem pd_21 : parseMethodDescriptor "([BII)[B" = some ⟨[(.array .byte), .int, .int], some (.array .byte)⟩ := by decide +kernel
def Q18s0 (Z : State) (G1 : Int32) (G2 : Value) (s1 : Addr) (a1 : Addr) (va : Addr) (kk : ClassId) (nn : Int32) (zz : Int32) (vs : List Value) (h0 : Heap) (n0 : Nat) (v : Option Value) (h : Heap) (L : List Loc) : Prop := ∃ ta : Addr, v = none ∧ Fr n0 L ∧ Keep h0 h [s1] ∧ ex14 Z h s1 ∧ fl15 Z h s1 (.ref ta) ∧ fl13 Z h s1 (.int (0 : Int32)) ∧ Arv Z h ta kk .byte zz vs (.int (0 : Int32))
set_option maxRecDepth 65536 in
set_option maxHeartbeats 40000000 in
theorem rm18s0 (l : Launch) (Z : State) (a0 : Array Value) (hw : OW a0 Z) (ws : List Jvm.Cond) (G1 : Int32) (G2 : Value) (s1 : Addr) (a1 : Addr) (va : Addr) (kk : ClassId) (nn : Int32) (zz : Int32) (vs : List Value) (h0 : Heap) (n0 : Nat) (Z0 : n0 ≤ h0.size) (OLD : Old Z n0 h0) (A : Amb Z G1 G2) (P0 : ex14 Z h0 s1) (P1 : fl15 Z h0 s1 .null) (P2 : fl13 Z h0 s1 (.int (0 : Int32))) (P3 : ex7 Z h0 a1) (P4 : fl8 Z h0 a1 (.int nn)) (P5 : fl9 Z h0 a1 (.int (0 : Int32))) (P6 : fl10 Z h0 a1 (.ref va)) (P7 : fl11 Z h0 a1 (.int (0 : Int32))) (P8 : ex12 Z h0 va) (P9 : Arv Z h0 va kk .byte zz vs (.int (0 : Int32))) (g_s1 : n0 ≤ s1) (he : nn = zz) (hz8 : zz.toNatClampNeg ≤ 8) (hne : @Ne Nat s1 a1) (hne2 : @Ne Nat s1 va) :
    own_Met l my18 jdk_42_method_150_code 5 none ws (own_rm 2 1 8 29) #[(.ref s1), (.ref a1), .null] Z h0 (Q18s0 Z G1 G2 s1 a1 va kk nn zz vs h0 n0) 1 8 := by
  refine own_body (plainFor_of_name pn_5) (fun m => by first | (simp [entryFrame, mkF, argsToLocals, Value.category]; done) | rfl) (Ls := #[.val (.ref s1), .val (.ref a1), .val .null, .unset, .unset]) fun p e s m below meth c s₁ X0 hx hby hml hZ e0 hown hnm hlk hrt => ?_
  have N0 := Fr.nil n0
  have lt_P0 : @LT.lt Nat _ s1 (Array.size h0) := P0.lt
  have lt_P3 : @LT.lt Nat _ a1 (Array.size h0) := P3.lt
  have lt_P8 : @LT.lt Nat _ va (Array.size h0) := P8.lt
  refine own_ru 1 [(.ref s1)] X0 hx hby e18_0_1 rfl rfl ?_
  refine own_iO X0 hx hZ hown (wd106 hw) (wd12 hw) (wd13 hw) e0 4 0 (by rw [hml]; rfl) rfl (hb hby d18_1) rfl (by decide) rfl (by decide) fun T248 X248 e248 => ?_
  refine own_ru 5 [(.ref a1)] X248 hx hby e18_4_1 rfl rfl ?_
  refine own_cV X248 hx hZ hown (wd107 hw) (wd108 hw) (notFace_of_selects (args := #[]) (mvT hZ (wd110 hw))) (wd110 hw) (wd109 hw) (by decide) (wd111 hw) (wd57 hw) (rm19 l Z a0 hw [] a1 va h0 n0 (by omega) P6) e248 P3 [] [] 8 0 (hb hby d18_5) rfl (by rw [hml]; rfl) rfl rfl (lenOf pd_20 rfl) rfl (by decide) fun v249 T249 Lc249 X249 hQ249 => ?_
  obtain ⟨rfl, N249q, e249⟩ := hQ249
  have N249 := Fr.app N0 N249q
  refine own_rl 10 #[.val (.ref s1), .val (.ref a1), .val .null, .val (.ref va), .unset] [(.ref a1)] X249 hx hby e18_8_2 rfl rfl ?_
  refine own_cV X249 hx hZ hown (wd112 hw) (wd113 hw) (own_notFace (args := #[]) (mvT hZ (wd86 hw)) rfl) (wd115 hw) (wd116 hw) (by decide) (wd117 hw) (wd49 hw) (rm20 l Z a0 hw [] a1 nn h0 n0 (by omega) P3 P4) e249 P3 [] [] 13 0 (hb hby d18_10) rfl (by rw [hml]; rfl) rfl rfl (lenOf pd_19 rfl) rfl (by decide) fun v250 T250 Lc250 X250 hQ250 => ?_
  obtain ⟨rfl, N250q, e250⟩ := hQ250
  have N250 := Fr.app N249 N250q
  refine own_rl 16 #[.val (.ref s1), .val (.ref a1), .val .null, .val (.ref va), .val (.int nn)] [(.ref a1)] X250 hx hby e18_13_2 rfl rfl ?_
  refine own_cV X250 hx hZ hown (wd120 hw) (wd84 hw) (notFace_of_selects (args := #[]) (mvT hZ (wd86 hw))) (wd86 hw) (wd85 hw) (by decide) (wd87 hw) (wd57 hw) (rm14d0 l Z a0 hw [] G1 G2 a1 h0 n0 (by omega) OLD A P5) e250 P3 [] [] 19 0 (hb hby d18_16) rfl (by rw [hml]; rfl) rfl rfl (lenOf pd_14 rfl) rfl (by decide) fun v251 T251 Lc251 X251 hQ251 => ?_
  obtain ⟨rfl, N251q, e251⟩ := hQ251
  have N251 := Fr.app N250 N251q
  refine own_iN 22 X251 hx (hb hby d18_19) rfl ((if0 _ _).trans (feq (by decide : ¬ ((1 : Int32) = (0 : Int32)))).1) rfl ?_
  refine own_ru 24 [(.int (0 : Int32)), (.ref s1)] X251 hx hby e18_22_2 rfl rfl ?_
  refine own_pN X251 hx hZ hown (wd121 hw) Via.refl e251 P2 P0 (Or.inr ⟨(wd122 hw), rfl, hnm⟩) (wd98 hw) (ty := .byte) (v' := (.int (0 : Int32))) (by decide) rfl (by decide) 27 rfl (hb hby d18_24) rfl fun T252 h252 X252 e252 W252 => ?_
  have F252 := Fld.same W252 P2
  have z252 := W252.size
  have KK252 : Keep h0 h252 [s1] := (Keep.refl h0 [s1]).wr W252 (Or.inl (by simp))
  have N252 := Fr.snoc X252 N251 (by omega)
  refine own_ru 32 [(.int nn), (.int (0 : Int32)), (.ref va), (.ref s1)] X252 hx hby e18_27_4 rfl rfl ?_
  have f253 := (P9.other W252 (own_ne (by omega)))
  have f254 := (Exa.wr W252 P8)
  refine own_cS X252 hx hZ hown (wd123 hw) (wd124 hw) (by decide) (wd125 hw) (wd45 hw) (rm22 l Z a0 hw [] va nn kk zz vs h252 n0 (by omega) f253 f254 he hz8) e252  [(.ref va), (.int (0 : Int32)), (.int nn)] [(.ref s1)] 35 1 (hb hby d18_32) rfl (by rw [hml]; rfl) rfl rfl (lenOf pd_21 rfl) rfl (by decide) fun v255 T255 Lc255 X255 hQ255 => ?_
  obtain ⟨ob_255, rfl, N255q, K255, G255_0, G255_1, U255_0⟩ := hQ255
  have N255 := Fr.app N252 N255q
  have z255 := K255.1
  have KK255 : Keep h0 T255.heap [s1] := KK252.trans K255 all0
  have lt255_0 : @LT.lt Nat _ ob_255 (Array.size T255.heap) := G255_0.lt
  have f256 := (Exa.keep (Exa.wr W252 P0) K255)
  have f257 := ((Fld.other W252 P1 (Or.inr (slot_ne (Or.inr (wd136 hw)) (Or.inr (wd122 hw)) (by decide) (t := (.array .byte)) (t' := .byte) (by decide) (by decide)))).keep K255 nin0)
  refine own_pF X255 hx hZ hown (host := "") (Or.inl (wd135 hw)) Via.refl rfl f257 f256 (Or.inr ⟨(wd136 hw), rfl, hnm⟩) (wd98 hw) (ty := (.array .byte)) (by decide) rfl rfl 38 rfl (hb hby d18_35) rfl fun T258 h258 X258 e258 W258 => ?_
  have F258 := Fld.same W258 f257
  have z258 := W258.size
  have KK258 : Keep h0 h258 [s1] := KK255.wr W258 (Or.inl (by simp))
  have N258 := Fr.snoc X258 N255 (by omega)
  refine own_go 97 X258 hx (hb hby d18_38) (by decide) (by decide) ?_
  have f260 := (Exa.wr W258 f256)
  have f261 := (Fld.other W258 (F252.keep K255 nin0) (Or.inr (slot_ne (Or.inr (wd122 hw)) (Or.inr (wd136 hw)) (by decide) (t := .byte) (t' := (.array .byte)) (by decide) (by decide))))
  have f262 := (G255_0.other W258 (own_ne (by omega)))
  have hq259 : Q18s0 Z G1 G2 s1 a1 va kk nn zz vs h0 n0 none h258 _ := ⟨ob_255, rfl, N258, KK258, f260, F258, f261, f262⟩
  exact own_retV X258 hx hlk hrt (hb hby d18_97) e258 hq259 (by decide) (by decide)
abbrev my17 : MethodName := (⟨"java/lang/String", "<init>", "(Ljava/lang/StringBuilder;)V"⟩ : MethodName)
theorem d17_3 : decode jdk_42_method_53_code 3 = .ok (.invokespecial 489, 3) := by decide +kernel
theorem d17_6 : decode jdk_42_method_53_code 6 = .ok (.return_, 1) := by decide +kernel
theorem e17_0_3 : own_dec jdk_42_method_53_code 0 [(.aload_n 0, 1), (.aload_n 1, 1), (.aconst_null, 1)] = true := by decide +kernel
theorem pd_22 : parseMethodDescriptor "(Ljava/lang/AbstractStringBuilder;Ljava/lang/Void;)V" = some ⟨[(.object "java/lang/AbstractStringBuilder"), (.object "java/lang/Void")], none⟩ := by decide +kernel
def Q17s0 (Z : State) (G1 : Int32) (G2 : Value) (s1 : Addr) (a1 : Addr) (va : Addr) (kk : ClassId) (nn : Int32) (zz : Int32) (vs : List Value) (h0 : Heap) (n0 : Nat) (v : Option Value) (h : Heap) (L : List Loc) : Prop := ∃ ta : Addr, v = none ∧ Fr n0 L ∧ Keep h0 h [s1] ∧ ex14 Z h s1 ∧ fl15 Z h s1 (.ref ta) ∧ fl13 Z h s1 (.int (0 : Int32)) ∧ Arv Z h ta kk .byte zz vs (.int (0 : Int32))
set_option maxRecDepth 65536 in
set_option maxHeartbeats 40000000 in
theorem rm17s0 (l : Launch) (Z : State) (a0 : Array Value) (hw : OW a0 Z) (ws : List Jvm.Cond) (G1 : Int32) (G2 : Value) (s1 : Addr) (a1 : Addr) (va : Addr) (kk : ClassId) (nn : Int32) (zz : Int32) (vs : List Value) (h0 : Heap) (n0 : Nat) (Z0 : n0 ≤ h0.size) (OLD : Old Z n0 h0) (A : Amb Z G1 G2) (P0 : ex14 Z h0 s1) (P1 : fl15 Z h0 s1 .null) (P2 : fl13 Z h0 s1 (.int (0 : Int32))) (P3 : ex7 Z h0 a1) (P4 : fl8 Z h0 a1 (.int nn)) (P5 : fl9 Z h0 a1 (.int (0 : Int32))) (P6 : fl10 Z h0 a1 (.ref va)) (P7 : fl11 Z h0 a1 (.int (0 : Int32))) (P8 : ex12 Z h0 va) (P9 : Arv Z h0 va kk .byte zz vs (.int (0 : Int32))) (g_s1 : n0 ≤ s1) (he : nn = zz) (hz8 : zz.toNatClampNeg ≤ 8) (hne : @Ne Nat s1 a1) (hne2 : @Ne Nat s1 va) :
    own_Met l my17 jdk_42_method_53_code 2 none ws (own_rm 3 1 8 45) #[(.ref s1), (.ref a1)] Z h0 (Q17s0 Z G1 G2 s1 a1 va kk nn zz vs h0 n0) 1 8 := by
  refine own_body (plainFor_of_name pn_5) (fun m => by first | (simp [entryFrame, mkF, argsToLocals, Value.category]; done) | rfl) (Ls := #[.val (.ref s1), .val (.ref a1)]) fun p e s m below meth c s₁ X0 hx hby hml hZ e0 hown hnm hlk hrt => ?_
  have N0 := Fr.nil n0
  have lt_P0 : @LT.lt Nat _ s1 (Array.size h0) := P0.lt
  have lt_P3 : @LT.lt Nat _ a1 (Array.size h0) := P3.lt
  have lt_P8 : @LT.lt Nat _ va (Array.size h0) := P8.lt
  refine own_ru 3 [.null, (.ref a1), (.ref s1)] X0 hx hby e17_0_3 rfl rfl ?_
  refine own_cN X0 hx hZ hown rfl (wd103 hw) (wd104 hw) (by decide) (wd105 hw) (wd61 hw) (rm18s0 l Z a0 hw [] G1 G2 s1 a1 va kk nn zz vs h0 n0 (by omega) OLD A P0 P1 P2 P3 P4 P5 P6 P7 P8 P9 (by omega) he hz8 (by first | assumption | decide | omega) (by first | assumption | decide | omega)) e0  [(.ref a1), .null] [] 6 0 (hb hby d17_3) rfl (by rw [hml]; rfl) rfl rfl (lenOf pd_22 rfl) rfl (by decide) fun v263 T263 Lc263 X263 hQ263 => ?_
  obtain ⟨ta_263, rfl, N263q, K263, G263_0, G263_1, G263_2, G263_3⟩ := hQ263
  have N263 := Fr.app N0 N263q
  have z263 := K263.1
  have KK263 : Keep h0 T263.heap [s1] := (Keep.refl h0 [s1]).trans K263 (allS (Or.inl (by simp)) all0)
  have lt263_0 : @LT.lt Nat _ s1 (Array.size T263.heap) := G263_0.lt
  have lt263_3 : @LT.lt Nat _ ta_263 (Array.size T263.heap) := G263_3.lt
  have hq264 : Q17s0 Z G1 G2 s1 a1 va kk nn zz vs h0 n0 none T263.heap _ := ⟨ta_263, rfl, N263, KK263, G263_0, G263_1, G263_2, G263_3⟩
  exact own_retV X263 hx hlk hrt (hb hby d17_6) rfl hq264 (by decide) (by decide)
abbrev my16 : MethodName := (⟨"java/lang/StringBuilder", "toString", "()Ljava/lang/String;"⟩ : MethodName)
theorem d16_0 : decode jdk_67_method_42_code 0 = .ok (.new 18, 3) := by decide +kernel
theorem d16_5 : decode jdk_67_method_42_code 5 = .ok (.invokespecial 137, 3) := by decide +kernel
theorem d16_8 : decode jdk_67_method_42_code 8 = .ok (.areturn, 1) := by decide +kernel
theorem e16_3_2 : own_dec jdk_67_method_42_code 3 [(.dup, 1), (.aload_n 0, 1)] = true := by decide +kernel
theorem pd_23 : parseMethodDescriptor "(Ljava/lang/StringBuilder;)V" = some ⟨[(.object "java/lang/StringBuilder")], none⟩ := by decide +kernel
def Q16s0 (Z : State) (G1 : Int32) (G2 : Value) (a1 : Addr) (va : Addr) (kk : ClassId) (nn : Int32) (zz : Int32) (vs : List Value) (h0 : Heap) (n0 : Nat) (v : Option Value) (h : Heap) (L : List Loc) : Prop := ∃ so : Addr, ∃ ta : Addr, v = some (.ref so) ∧ Fr n0 L ∧ Keep h0 h [] ∧ ex14 Z h so ∧ fl15 Z h so (.ref ta) ∧ fl13 Z h so (.int (0 : Int32)) ∧ Arv Z h ta kk .byte zz vs (.int (0 : Int32)) ∧ (h0.size ≤ so)
set_option maxRecDepth 65536 in
set_option maxHeartbeats 40000000 in
theorem rm16s0 (l : Launch) (Z : State) (a0 : Array Value) (hw : OW a0 Z) (ws : List Jvm.Cond) (G1 : Int32) (G2 : Value) (a1 : Addr) (va : Addr) (kk : ClassId) (nn : Int32) (zz : Int32) (vs : List Value) (h0 : Heap) (n0 : Nat) (Z0 : n0 ≤ h0.size) (OLD : Old Z n0 h0) (A : Amb Z G1 G2) (P0 : ex7 Z h0 a1) (P1 : fl8 Z h0 a1 (.int nn)) (P2 : fl9 Z h0 a1 (.int (0 : Int32))) (P3 : fl10 Z h0 a1 (.ref va)) (P4 : fl11 Z h0 a1 (.int (0 : Int32))) (P5 : ex12 Z h0 va) (P6 : Arv Z h0 va kk .byte zz vs (.int (0 : Int32))) (he : nn = zz) (hz8 : zz.toNatClampNeg ≤ 8) :
    own_Met l my16 jdk_67_method_42_code 1 (some (.object "java/lang/String")) ws (own_rm 4 2 12 59) #[(.ref a1)] Z h0 (Q16s0 Z G1 G2 a1 va kk nn zz vs h0 n0) 2 12 := by
  refine own_body (plainFor_of_name pn_4) (fun m => by first | (simp [entryFrame, mkF, argsToLocals, Value.category]; done) | rfl) (Ls := #[.val (.ref a1)]) fun p e s m below meth c s₁ X0 hx hby hml hZ e0 hown hnm hlk hrt => ?_
  have N0 := Fr.nil n0
  have lt_P0 : @LT.lt Nat _ a1 (Array.size h0) := P0.lt
  have lt_P5 : @LT.lt Nat _ va (Array.size h0) := P5.lt
  refine own_nO X0 hx hZ hown (wd97 hw) (wd98 hw) (wd61 hw) e0 3 (hb hby d16_0) rfl (by decide) (by decide) fun T265 h265 b265 g265 X265 e265 E265 A265 D265 UN265 => ?_
  have ll265 : @LT.lt Nat _ b265 (Array.size h265) := A265.lt
  have KK265 : Keep h0 h265 [] := (Keep.refl h0 []).ext E265
  have z265 := E265.1
  have F266 : fl13 Z h265 b265 (.int (0 : Int32)) := D265 (Or.inr (wd122 hw)) (ty := .byte) (by decide)
  have F267 : fl15 Z h265 b265 .null := D265 (Or.inr (wd136 hw)) (ty := (.array .byte)) (by decide)
  refine own_ru 5 [(.ref a1), (.ref b265), (.ref b265)] X265 hx hby e16_3_2 rfl rfl ?_
  have f268 := (OLD.ext E265)
  have f269 := (Exa.ext E265 P0)
  have f270 := (Fld.ext E265 P1)
  have f271 := (Fld.ext E265 P2)
  have f272 := (Fld.ext E265 P3)
  have f273 := (Fld.ext E265 P4)
  have f274 := (Exa.ext E265 P5)
  have f275 := (P6.ext E265)
  refine own_cN X265 hx hZ hown rfl (wd99 hw) (wd100 hw) (by decide) (wd102 hw) (wd61 hw) (rm17s0 l Z a0 hw [] G1 G2 b265 a1 va kk nn zz vs h265 n0 (by omega) f268 A A265 F267 F266 f269 f270 f271 f272 f273 f274 f275 (by omega) he hz8 (by first | assumption | decide | omega) (by first | assumption | decide | omega)) e265  [(.ref a1)] [(.ref b265)] 8 1 (hb hby d16_5) rfl (by rw [hml]; rfl) rfl rfl (lenOf pd_23 rfl) rfl (by decide) fun v276 T276 Lc276 X276 hQ276 => ?_
  obtain ⟨ta_276, rfl, N276q, K276, G276_0, G276_1, G276_2, G276_3⟩ := hQ276
  have N276 := Fr.app N0 N276q
  have z276 := K276.1
  have KK276 : Keep h0 T276.heap [] := KK265.trans K276 (allS (Or.inr (by omega)) all0)
  have lt276_0 : @LT.lt Nat _ b265 (Array.size T276.heap) := G276_0.lt
  have lt276_3 : @LT.lt Nat _ ta_276 (Array.size T276.heap) := G276_3.lt
  have hq277 : Q16s0 Z G1 G2 a1 va kk nn zz vs h0 n0 (some (.ref b265)) T276.heap _ := ⟨b265, ta_276, rfl, N276, KK276, G276_0, G276_1, G276_2, G276_3, (by first | omega | assumption)⟩
  exact own_retR X276 hx hlk (w := (.ref b265)) rfl hrt rfl (hb hby d16_8) rfl hq277 (by decide) (by decide)
theorem d18_41 : decode jdk_42_method_150_code 41 = .ok (.getstatic 38, 3) := by decide +kernel
theorem d18_44 : decode jdk_42_method_150_code 44 = .ok (.ifCond .eq 35, 3) := by decide +kernel
theorem d18_48 : decode jdk_42_method_150_code 48 = .ok (.getfield 1048, 3) := by decide +kernel
theorem d18_51 : decode jdk_42_method_150_code 51 = .ok (.ifCond .eq 28, 3) := by decide +kernel
theorem d18_81 : decode jdk_42_method_150_code 81 = .ok (.putfield 15, 3) := by decide +kernel
theorem d18_91 : decode jdk_42_method_150_code 91 = .ok (.invokestatic 54, 3) := by decide +kernel
theorem d18_94 : decode jdk_42_method_150_code 94 = .ok (.putfield 9, 3) := by decide +kernel
theorem e18_47_1 : own_dec jdk_42_method_150_code 47 [(.aload_n 1, 1)] = true := by decide +kernel
theorem e18_79_2 : own_dec jdk_42_method_150_code 79 [(.aload_n 0, 1), (.iconst 1, 1)] = true := by decide +kernel
theorem e18_84_6 : own_dec jdk_42_method_150_code 84 [(.aload_n 0, 1), (.aload_n 3, 1), (.iconst 0, 1), (.iload 4, 2), (.iconst 1, 1), (.ishl, 1)] = true := by decide +kernel
def Q18s1 (Z : State) (G1 : Int32) (G2 : Value) (s1 : Addr) (a1 : Addr) (va : Addr) (kk : ClassId) (nn : Int32) (zz : Int32) (vs : List Value) (h0 : Heap) (n0 : Nat) (v : Option Value) (h : Heap) (L : List Loc) : Prop := ∃ ta : Addr, v = none ∧ Fr n0 L ∧ Keep h0 h [s1] ∧ ex14 Z h s1 ∧ fl15 Z h s1 (.ref ta) ∧ fl13 Z h s1 (.int (1 : Int32)) ∧ Arv Z h ta kk .byte zz vs (.int (0 : Int32))
set_option maxRecDepth 65536 in
set_option maxHeartbeats 40000000 in
theorem rm18s1 (l : Launch) (Z : State) (a0 : Array Value) (hw : OW a0 Z) (ws : List Jvm.Cond) (G1 : Int32) (G2 : Value) (s1 : Addr) (a1 : Addr) (va : Addr) (kk : ClassId) (nn : Int32) (zz : Int32) (vs : List Value) (h0 : Heap) (n0 : Nat) (Z0 : n0 ≤ h0.size) (OLD : Old Z n0 h0) (A : Amb Z G1 G2) (P0 : ex14 Z h0 s1) (P1 : fl15 Z h0 s1 .null) (P2 : fl13 Z h0 s1 (.int (0 : Int32))) (P3 : ex7 Z h0 a1) (P4 : fl8 Z h0 a1 (.int nn)) (P5 : fl9 Z h0 a1 (.int (1 : Int32))) (P6 : fl10 Z h0 a1 (.ref va)) (P7 : fl11 Z h0 a1 (.int (0 : Int32))) (P8 : ex12 Z h0 va) (P9 : Arv Z h0 va kk .byte zz vs (.int (0 : Int32))) (g_s1 : n0 ≤ s1) (he : (nn <<< ((1 : Int32) &&& 31)) = zz) (hz8 : zz.toNatClampNeg ≤ 8) (hne : @Ne Nat s1 a1) (hne2 : @Ne Nat s1 va) :
    own_Met l my18 jdk_42_method_150_code 5 none ws (own_rm 2 1 8 29) #[(.ref s1), (.ref a1), .null] Z h0 (Q18s1 Z G1 G2 s1 a1 va kk nn zz vs h0 n0) 1 8 := by
  refine own_body (plainFor_of_name pn_5) (fun m => by first | (simp [entryFrame, mkF, argsToLocals, Value.category]; done) | rfl) (Ls := #[.val (.ref s1), .val (.ref a1), .val .null, .unset, .unset]) fun p e s m below meth c s₁ X0 hx hby hml hZ e0 hown hnm hlk hrt => ?_
  have N0 := Fr.nil n0
  have lt_P0 : @LT.lt Nat _ s1 (Array.size h0) := P0.lt
  have lt_P3 : @LT.lt Nat _ a1 (Array.size h0) := P3.lt
  have lt_P8 : @LT.lt Nat _ va (Array.size h0) := P8.lt
  refine own_ru 1 [(.ref s1)] X0 hx hby e18_0_1 rfl rfl ?_
  refine own_iO X0 hx hZ hown (wd106 hw) (wd12 hw) (wd13 hw) e0 4 0 (by rw [hml]; rfl) rfl (hb hby d18_1) rfl (by decide) rfl (by decide) fun T278 X278 e278 => ?_
  refine own_ru 5 [(.ref a1)] X278 hx hby e18_4_1 rfl rfl ?_
  refine own_cV X278 hx hZ hown (wd107 hw) (wd108 hw) (notFace_of_selects (args := #[]) (mvT hZ (wd110 hw))) (wd110 hw) (wd109 hw) (by decide) (wd111 hw) (wd57 hw) (rm19 l Z a0 hw [] a1 va h0 n0 (by omega) P6) e278 P3 [] [] 8 0 (hb hby d18_5) rfl (by rw [hml]; rfl) rfl rfl (lenOf pd_20 rfl) rfl (by decide) fun v279 T279 Lc279 X279 hQ279 => ?_
  obtain ⟨rfl, N279q, e279⟩ := hQ279
  have N279 := Fr.app N0 N279q
  refine own_rl 10 #[.val (.ref s1), .val (.ref a1), .val .null, .val (.ref va), .unset] [(.ref a1)] X279 hx hby e18_8_2 rfl rfl ?_
  refine own_cV X279 hx hZ hown (wd112 hw) (wd113 hw) (own_notFace (args := #[]) (mvT hZ (wd86 hw)) rfl) (wd115 hw) (wd116 hw) (by decide) (wd117 hw) (wd49 hw) (rm20 l Z a0 hw [] a1 nn h0 n0 (by omega) P3 P4) e279 P3 [] [] 13 0 (hb hby d18_10) rfl (by rw [hml]; rfl) rfl rfl (lenOf pd_19 rfl) rfl (by decide) fun v280 T280 Lc280 X280 hQ280 => ?_
  obtain ⟨rfl, N280q, e280⟩ := hQ280
  have N280 := Fr.app N279 N280q
  refine own_rl 16 #[.val (.ref s1), .val (.ref a1), .val .null, .val (.ref va), .val (.int nn)] [(.ref a1)] X280 hx hby e18_13_2 rfl rfl ?_
  refine own_cV X280 hx hZ hown (wd120 hw) (wd84 hw) (notFace_of_selects (args := #[]) (mvT hZ (wd86 hw))) (wd86 hw) (wd85 hw) (by decide) (wd87 hw) (wd57 hw) (rm14d1 l Z a0 hw [] G1 G2 a1 h0 n0 (by omega) OLD A P5) e280 P3 [] [] 19 0 (hb hby d18_16) rfl (by rw [hml]; rfl) rfl rfl (lenOf pd_14 rfl) rfl (by decide) fun v281 T281 Lc281 X281 hQ281 => ?_
  obtain ⟨rfl, N281q, e281⟩ := hQ281
  have N281 := Fr.app N280 N281q
  refine own_iY 41 X281 hx (hb hby d18_19) rfl ((if0 _ _).trans (teq (by decide : ((0 : Int32) = (0 : Int32)))).1) (by decide) (by decide) ?_
  have f282 : Sta Z h0 "java/lang/String" "COMPACT_STRINGS" "Z" (.int G1) := Sta.ext OLD.2 (Amb.a0 A)
  refine own_gS X281 hx hZ hown (host := "") (Or.inl (wd151 hw)) Via.refl e281 f282 44 (hb hby d18_41) rfl fun T283 X283 e283 => ?_
  refine own_iN 47 X283 hx (hb hby d18_44) rfl ((if0 _ _).trans (feq (Amb.g1 A)).1) rfl ?_
  refine own_ru 48 [(.ref a1)] X283 hx hby e18_47_1 rfl rfl ?_
  refine own_gF X283 hx hZ hown (host := "") (Or.inl (wd229 hw)) Via.refl e283 P7 51 rfl (hb hby d18_48) rfl fun T284 X284 e284 => ?_
  refine own_iY 79 X284 hx (hb hby d18_51) rfl ((if0 _ _).trans (teq (by decide : ((0 : Int32) = (0 : Int32)))).1) (by decide) (by decide) ?_
  refine own_ru 81 [(.int (1 : Int32)), (.ref s1)] X284 hx hby e18_79_2 rfl rfl ?_
  refine own_pN X284 hx hZ hown (wd121 hw) Via.refl e284 P2 P0 (Or.inr ⟨(wd122 hw), rfl, hnm⟩) (wd98 hw) (ty := .byte) (v' := (.int (1 : Int32))) (by decide) rfl (by decide) 84 rfl (hb hby d18_81) rfl fun T285 h285 X285 e285 W285 => ?_
  have F285 := Fld.same W285 P2
  have z285 := W285.size
  have KK285 : Keep h0 h285 [s1] := (Keep.refl h0 [s1]).wr W285 (Or.inl (by simp))
  have N285 := Fr.snoc X285 N281 (by omega)
  refine own_ru 91 [(.int (nn <<< ((1 : Int32) &&& 31))), (.int (0 : Int32)), (.ref va), (.ref s1)] X285 hx hby e18_84_6 rfl rfl ?_
  have f286 := (P9.other W285 (own_ne (by omega)))
  have f287 := (Exa.wr W285 P8)
  refine own_cS X285 hx hZ hown (wd123 hw) (wd124 hw) (by decide) (wd125 hw) (wd45 hw) (rm22 l Z a0 hw [] va (nn <<< ((1 : Int32) &&& 31)) kk zz vs h285 n0 (by omega) f286 f287 he hz8) e285  [(.ref va), (.int (0 : Int32)), (.int (nn <<< ((1 : Int32) &&& 31)))] [(.ref s1)] 94 1 (hb hby d18_91) rfl (by rw [hml]; rfl) rfl rfl (lenOf pd_21 rfl) rfl (by decide) fun v288 T288 Lc288 X288 hQ288 => ?_
  obtain ⟨ob_288, rfl, N288q, K288, G288_0, G288_1, U288_0⟩ := hQ288
  have N288 := Fr.app N285 N288q
  have z288 := K288.1
  have KK288 : Keep h0 T288.heap [s1] := KK285.trans K288 all0
  have lt288_0 : @LT.lt Nat _ ob_288 (Array.size T288.heap) := G288_0.lt
  have f289 := (Exa.keep (Exa.wr W285 P0) K288)
  have f290 := ((Fld.other W285 P1 (Or.inr (slot_ne (Or.inr (wd136 hw)) (Or.inr (wd122 hw)) (by decide) (t := (.array .byte)) (t' := .byte) (by decide) (by decide)))).keep K288 nin0)
  refine own_pF X288 hx hZ hown (host := "") (Or.inl (wd135 hw)) Via.refl rfl f290 f289 (Or.inr ⟨(wd136 hw), rfl, hnm⟩) (wd98 hw) (ty := (.array .byte)) (by decide) rfl rfl 97 rfl (hb hby d18_94) rfl fun T291 h291 X291 e291 W291 => ?_
  have F291 := Fld.same W291 f290
  have z291 := W291.size
  have KK291 : Keep h0 h291 [s1] := KK288.wr W291 (Or.inl (by simp))
  have N291 := Fr.snoc X291 N288 (by omega)
  have f293 := (Exa.wr W291 f289)
  have f294 := (Fld.other W291 (F285.keep K288 nin0) (Or.inr (slot_ne (Or.inr (wd122 hw)) (Or.inr (wd136 hw)) (by decide) (t := .byte) (t' := (.array .byte)) (by decide) (by decide))))
  have f295 := (G288_0.other W291 (own_ne (by omega)))
  have hq292 : Q18s1 Z G1 G2 s1 a1 va kk nn zz vs h0 n0 none h291 _ := ⟨ob_288, rfl, N291, KK291, f293, F291, f294, f295⟩
  exact own_retV X291 hx hlk hrt (hb hby d18_97) e291 hq292 (by decide) (by decide)
def Q17s1 (Z : State) (G1 : Int32) (G2 : Value) (s1 : Addr) (a1 : Addr) (va : Addr) (kk : ClassId) (nn : Int32) (zz : Int32) (vs : List Value) (h0 : Heap) (n0 : Nat) (v : Option Value) (h : Heap) (L : List Loc) : Prop := ∃ ta : Addr, v = none ∧ Fr n0 L ∧ Keep h0 h [s1] ∧ ex14 Z h s1 ∧ fl15 Z h s1 (.ref ta) ∧ fl13 Z h s1 (.int (1 : Int32)) ∧ Arv Z h ta kk .byte zz vs (.int (0 : Int32))
set_option maxRecDepth 65536 in
set_option maxHeartbeats 40000000 in
theorem rm17s1 (l : Launch) (Z : State) (a0 : Array Value) (hw : OW a0 Z) (ws : List Jvm.Cond) (G1 : Int32) (G2 : Value) (s1 : Addr) (a1 : Addr) (va : Addr) (kk : ClassId) (nn : Int32) (zz : Int32) (vs : List Value) (h0 : Heap) (n0 : Nat) (Z0 : n0 ≤ h0.size) (OLD : Old Z n0 h0) (A : Amb Z G1 G2) (P0 : ex14 Z h0 s1) (P1 : fl15 Z h0 s1 .null) (P2 : fl13 Z h0 s1 (.int (0 : Int32))) (P3 : ex7 Z h0 a1) (P4 : fl8 Z h0 a1 (.int nn)) (P5 : fl9 Z h0 a1 (.int (1 : Int32))) (P6 : fl10 Z h0 a1 (.ref va)) (P7 : fl11 Z h0 a1 (.int (0 : Int32))) (P8 : ex12 Z h0 va) (P9 : Arv Z h0 va kk .byte zz vs (.int (0 : Int32))) (g_s1 : n0 ≤ s1) (he : (nn <<< ((1 : Int32) &&& 31)) = zz) (hz8 : zz.toNatClampNeg ≤ 8) (hne : @Ne Nat s1 a1) (hne2 : @Ne Nat s1 va) :
    own_Met l my17 jdk_42_method_53_code 2 none ws (own_rm 3 1 8 45) #[(.ref s1), (.ref a1)] Z h0 (Q17s1 Z G1 G2 s1 a1 va kk nn zz vs h0 n0) 1 8 := by
  refine own_body (plainFor_of_name pn_5) (fun m => by first | (simp [entryFrame, mkF, argsToLocals, Value.category]; done) | rfl) (Ls := #[.val (.ref s1), .val (.ref a1)]) fun p e s m below meth c s₁ X0 hx hby hml hZ e0 hown hnm hlk hrt => ?_
  have N0 := Fr.nil n0
  have lt_P0 : @LT.lt Nat _ s1 (Array.size h0) := P0.lt
  have lt_P3 : @LT.lt Nat _ a1 (Array.size h0) := P3.lt
  have lt_P8 : @LT.lt Nat _ va (Array.size h0) := P8.lt
  refine own_ru 3 [.null, (.ref a1), (.ref s1)] X0 hx hby e17_0_3 rfl rfl ?_
  refine own_cN X0 hx hZ hown rfl (wd103 hw) (wd104 hw) (by decide) (wd105 hw) (wd61 hw) (rm18s1 l Z a0 hw [] G1 G2 s1 a1 va kk nn zz vs h0 n0 (by omega) OLD A P0 P1 P2 P3 P4 P5 P6 P7 P8 P9 (by omega) he hz8 (by first | assumption | decide | omega) (by first | assumption | decide | omega)) e0  [(.ref a1), .null] [] 6 0 (hb hby d17_3) rfl (by rw [hml]; rfl) rfl rfl (lenOf pd_22 rfl) rfl (by decide) fun v296 T296 Lc296 X296 hQ296 => ?_
  obtain ⟨ta_296, rfl, N296q, K296, G296_0, G296_1, G296_2, G296_3⟩ := hQ296
  have N296 := Fr.app N0 N296q
  have z296 := K296.1
  have KK296 : Keep h0 T296.heap [s1] := (Keep.refl h0 [s1]).trans K296 (allS (Or.inl (by simp)) all0)
  have lt296_0 : @LT.lt Nat _ s1 (Array.size T296.heap) := G296_0.lt
  have lt296_3 : @LT.lt Nat _ ta_296 (Array.size T296.heap) := G296_3.lt
  have hq297 : Q17s1 Z G1 G2 s1 a1 va kk nn zz vs h0 n0 none T296.heap _ := ⟨ta_296, rfl, N296, KK296, G296_0, G296_1, G296_2, G296_3⟩
  exact own_retV X296 hx hlk hrt (hb hby d17_6) rfl hq297 (by decide) (by decide)
def Q16s1 (Z : State) (G1 : Int32) (G2 : Value) (a1 : Addr) (va : Addr) (kk : ClassId) (nn : Int32) (zz : Int32) (vs : List Value) (h0 : Heap) (n0 : Nat) (v : Option Value) (h : Heap) (L : List Loc) : Prop := ∃ so : Addr, ∃ ta : Addr, v = some (.ref so) ∧ Fr n0 L ∧ Keep h0 h [] ∧ ex14 Z h so ∧ fl15 Z h so (.ref ta) ∧ fl13 Z h so (.int (1 : Int32)) ∧ Arv Z h ta kk .byte zz vs (.int (0 : Int32)) ∧ (h0.size ≤ so)
set_option maxRecDepth 65536 in
set_option maxHeartbeats 40000000 in
theorem rm16s1 (l : Launch) (Z : State) (a0 : Array Value) (hw : OW a0 Z) (ws : List Jvm.Cond) (G1 : Int32) (G2 : Value) (a1 : Addr) (va : Addr) (kk : ClassId) (nn : Int32) (zz : Int32) (vs : List Value) (h0 : Heap) (n0 : Nat) (Z0 : n0 ≤ h0.size) (OLD : Old Z n0 h0) (A : Amb Z G1 G2) (P0 : ex7 Z h0 a1) (P1 : fl8 Z h0 a1 (.int nn)) (P2 : fl9 Z h0 a1 (.int (1 : Int32))) (P3 : fl10 Z h0 a1 (.ref va)) (P4 : fl11 Z h0 a1 (.int (0 : Int32))) (P5 : ex12 Z h0 va) (P6 : Arv Z h0 va kk .byte zz vs (.int (0 : Int32))) (he : (nn <<< ((1 : Int32) &&& 31)) = zz) (hz8 : zz.toNatClampNeg ≤ 8) :
    own_Met l my16 jdk_67_method_42_code 1 (some (.object "java/lang/String")) ws (own_rm 4 2 12 59) #[(.ref a1)] Z h0 (Q16s1 Z G1 G2 a1 va kk nn zz vs h0 n0) 2 12 := by
  refine own_body (plainFor_of_name pn_4) (fun m => by first | (simp [entryFrame, mkF, argsToLocals, Value.category]; done) | rfl) (Ls := #[.val (.ref a1)]) fun p e s m below meth c s₁ X0 hx hby hml hZ e0 hown hnm hlk hrt => ?_
  have N0 := Fr.nil n0
  have lt_P0 : @LT.lt Nat _ a1 (Array.size h0) := P0.lt
  have lt_P5 : @LT.lt Nat _ va (Array.size h0) := P5.lt
  refine own_nO X0 hx hZ hown (wd97 hw) (wd98 hw) (wd61 hw) e0 3 (hb hby d16_0) rfl (by decide) (by decide) fun T298 h298 b298 g298 X298 e298 E298 A298 D298 UN298 => ?_
  have ll298 : @LT.lt Nat _ b298 (Array.size h298) := A298.lt
  have KK298 : Keep h0 h298 [] := (Keep.refl h0 []).ext E298
  have z298 := E298.1
  have F299 : fl13 Z h298 b298 (.int (0 : Int32)) := D298 (Or.inr (wd122 hw)) (ty := .byte) (by decide)
  have F300 : fl15 Z h298 b298 .null := D298 (Or.inr (wd136 hw)) (ty := (.array .byte)) (by decide)
  refine own_ru 5 [(.ref a1), (.ref b298), (.ref b298)] X298 hx hby e16_3_2 rfl rfl ?_
  have f301 := (OLD.ext E298)
  have f302 := (Exa.ext E298 P0)
  have f303 := (Fld.ext E298 P1)
  have f304 := (Fld.ext E298 P2)
  have f305 := (Fld.ext E298 P3)
  have f306 := (Fld.ext E298 P4)
  have f307 := (Exa.ext E298 P5)
  have f308 := (P6.ext E298)
  refine own_cN X298 hx hZ hown rfl (wd99 hw) (wd100 hw) (by decide) (wd102 hw) (wd61 hw) (rm17s1 l Z a0 hw [] G1 G2 b298 a1 va kk nn zz vs h298 n0 (by omega) f301 A A298 F300 F299 f302 f303 f304 f305 f306 f307 f308 (by omega) he hz8 (by first | assumption | decide | omega) (by first | assumption | decide | omega)) e298  [(.ref a1)] [(.ref b298)] 8 1 (hb hby d16_5) rfl (by rw [hml]; rfl) rfl rfl (lenOf pd_23 rfl) rfl (by decide) fun v309 T309 Lc309 X309 hQ309 => ?_
  obtain ⟨ta_309, rfl, N309q, K309, G309_0, G309_1, G309_2, G309_3⟩ := hQ309
  have N309 := Fr.app N0 N309q
  have z309 := K309.1
  have KK309 : Keep h0 T309.heap [] := KK298.trans K309 (allS (Or.inr (by omega)) all0)
  have lt309_0 : @LT.lt Nat _ b298 (Array.size T309.heap) := G309_0.lt
  have lt309_3 : @LT.lt Nat _ ta_309 (Array.size T309.heap) := G309_3.lt
  have hq310 : Q16s1 Z G1 G2 a1 va kk nn zz vs h0 n0 (some (.ref b298)) T309.heap _ := ⟨b298, ta_309, rfl, N309, KK309, G309_0, G309_1, G309_2, G309_3, (by first | omega | assumption)⟩
  exact own_retR X309 hx hlk (w := (.ref b298)) rfl hrt rfl (hb hby d16_8) rfl hq310 (by decide) (by decide)
def own_Str0 (Z : State) (h : Heap) (so : Addr) : Prop := (∃ (ta : Addr) (kt : ClassId), ex14 Z h so ∧ fl15 Z h so (.ref ta) ∧ fl13 Z h so (.int (0 : Int32)) ∧ Arv Z h ta kt .byte (0 : Int32) [] (.int (0 : Int32)))
theorem own_StrK0 {Z : State} {h h' : Heap} {so : Addr} (K : Keep h h' []) (H : own_Str0 Z h so) : own_Str0 Z h' so := by
  obtain ⟨ta, kt, f0, f1, f2, f3⟩ := H
  exact ⟨ta, kt, Exa.keep f0 K, f1.keep K nin0, f2.keep K nin0, f3.keep K nin0⟩
def own_Str1 (Z : State) (h : Heap) (so : Addr) (q0 : Int32) : Prop := (∃ (ta : Addr) (kt : ClassId) (y0 : Int32), ex14 Z h so ∧ fl15 Z h so (.ref ta) ∧ fl13 Z h so (.int (0 : Int32)) ∧ Arv Z h ta kt .byte (1 : Int32) [(.int y0)] (.int (0 : Int32)) ∧ own_lc y0 = q0) ∨ (∃ (ta : Addr) (kt : ClassId) (y0 : Int32) (z0 : Int32), ex14 Z h so ∧ fl15 Z h so (.ref ta) ∧ fl13 Z h so (.int (1 : Int32)) ∧ Arv Z h ta kt .byte (2 : Int32) [(.int y0), (.int z0)] (.int (0 : Int32)) ∧ own_u y0 z0 = q0)
theorem own_StrK1 {Z : State} {h h' : Heap} {so : Addr} {q0 : Int32} (K : Keep h h' []) (H : own_Str1 Z h so q0) : own_Str1 Z h' so q0 := by
  rcases H with ⟨ta, kt, y0, f0, f1, f2, f3, g0⟩ | ⟨ta, kt, y0, z0, f0, f1, f2, f3, g0⟩
  · exact Or.inl ⟨ta, kt, y0, Exa.keep f0 K, f1.keep K nin0, f2.keep K nin0, f3.keep K nin0, g0⟩
  · exact Or.inr ⟨ta, kt, y0, z0, Exa.keep f0 K, f1.keep K nin0, f2.keep K nin0, f3.keep K nin0, g0⟩
def own_Str2 (Z : State) (h : Heap) (so : Addr) (q0 : Int32) (q1 : Int32) : Prop := (∃ (ta : Addr) (kt : ClassId) (y0 : Int32) (y1 : Int32), ex14 Z h so ∧ fl15 Z h so (.ref ta) ∧ fl13 Z h so (.int (0 : Int32)) ∧ Arv Z h ta kt .byte (2 : Int32) [(.int y0), (.int y1)] (.int (0 : Int32)) ∧ own_lc y0 = q0 ∧ own_lc y1 = q1) ∨ (∃ (ta : Addr) (kt : ClassId) (y0 : Int32) (y1 : Int32) (z0 : Int32) (z1 : Int32), ex14 Z h so ∧ fl15 Z h so (.ref ta) ∧ fl13 Z h so (.int (1 : Int32)) ∧ Arv Z h ta kt .byte (4 : Int32) [(.int y0), (.int z0), (.int y1), (.int z1)] (.int (0 : Int32)) ∧ own_u y0 z0 = q0 ∧ own_u y1 z1 = q1)
theorem own_StrK2 {Z : State} {h h' : Heap} {so : Addr} {q0 : Int32} {q1 : Int32} (K : Keep h h' []) (H : own_Str2 Z h so q0 q1) : own_Str2 Z h' so q0 q1 := by
  rcases H with ⟨ta, kt, y0, y1, f0, f1, f2, f3, g0, g1⟩ | ⟨ta, kt, y0, y1, z0, z1, f0, f1, f2, f3, g0, g1⟩
  · exact Or.inl ⟨ta, kt, y0, y1, Exa.keep f0 K, f1.keep K nin0, f2.keep K nin0, f3.keep K nin0, g0, g1⟩
  · exact Or.inr ⟨ta, kt, y0, y1, z0, z1, Exa.keep f0 K, f1.keep K nin0, f2.keep K nin0, f3.keep K nin0, g0, g1⟩
def own_Str3 (Z : State) (h : Heap) (so : Addr) (q0 : Int32) (q1 : Int32) (q2 : Int32) : Prop := (∃ (ta : Addr) (kt : ClassId) (y0 : Int32) (y1 : Int32) (y2 : Int32), ex14 Z h so ∧ fl15 Z h so (.ref ta) ∧ fl13 Z h so (.int (0 : Int32)) ∧ Arv Z h ta kt .byte (3 : Int32) [(.int y0), (.int y1), (.int y2)] (.int (0 : Int32)) ∧ own_lc y0 = q0 ∧ own_lc y1 = q1 ∧ own_lc y2 = q2) ∨ (∃ (ta : Addr) (kt : ClassId) (y0 : Int32) (y1 : Int32) (y2 : Int32) (z0 : Int32) (z1 : Int32) (z2 : Int32), ex14 Z h so ∧ fl15 Z h so (.ref ta) ∧ fl13 Z h so (.int (1 : Int32)) ∧ Arv Z h ta kt .byte (6 : Int32) [(.int y0), (.int z0), (.int y1), (.int z1), (.int y2), (.int z2)] (.int (0 : Int32)) ∧ own_u y0 z0 = q0 ∧ own_u y1 z1 = q1 ∧ own_u y2 z2 = q2)
theorem own_StrK3 {Z : State} {h h' : Heap} {so : Addr} {q0 : Int32} {q1 : Int32} {q2 : Int32} (K : Keep h h' []) (H : own_Str3 Z h so q0 q1 q2) : own_Str3 Z h' so q0 q1 q2 := by
  rcases H with ⟨ta, kt, y0, y1, y2, f0, f1, f2, f3, g0, g1, g2⟩ | ⟨ta, kt, y0, y1, y2, z0, z1, z2, f0, f1, f2, f3, g0, g1, g2⟩
  · exact Or.inl ⟨ta, kt, y0, y1, y2, Exa.keep f0 K, f1.keep K nin0, f2.keep K nin0, f3.keep K nin0, g0, g1, g2⟩
  · exact Or.inr ⟨ta, kt, y0, y1, y2, z0, z1, z2, Exa.keep f0 K, f1.keep K nin0, f2.keep K nin0, f3.keep K nin0, g0, g1, g2⟩
def own_Str4 (Z : State) (h : Heap) (so : Addr) (q0 : Int32) (q1 : Int32) (q2 : Int32) (q3 : Int32) : Prop := (∃ (ta : Addr) (kt : ClassId) (y0 : Int32) (y1 : Int32) (y2 : Int32) (y3 : Int32), ex14 Z h so ∧ fl15 Z h so (.ref ta) ∧ fl13 Z h so (.int (0 : Int32)) ∧ Arv Z h ta kt .byte (4 : Int32) [(.int y0), (.int y1), (.int y2), (.int y3)] (.int (0 : Int32)) ∧ own_lc y0 = q0 ∧ own_lc y1 = q1 ∧ own_lc y2 = q2 ∧ own_lc y3 = q3) ∨ (∃ (ta : Addr) (kt : ClassId) (y0 : Int32) (y1 : Int32) (y2 : Int32) (y3 : Int32) (z0 : Int32) (z1 : Int32) (z2 : Int32) (z3 : Int32), ex14 Z h so ∧ fl15 Z h so (.ref ta) ∧ fl13 Z h so (.int (1 : Int32)) ∧ Arv Z h ta kt .byte (8 : Int32) [(.int y0), (.int z0), (.int y1), (.int z1), (.int y2), (.int z2), (.int y3), (.int z3)] (.int (0 : Int32)) ∧ own_u y0 z0 = q0 ∧ own_u y1 z1 = q1 ∧ own_u y2 z2 = q2 ∧ own_u y3 z3 = q3)
theorem own_StrK4 {Z : State} {h h' : Heap} {so : Addr} {q0 : Int32} {q1 : Int32} {q2 : Int32} {q3 : Int32} (K : Keep h h' []) (H : own_Str4 Z h so q0 q1 q2 q3) : own_Str4 Z h' so q0 q1 q2 q3 := by
  rcases H with ⟨ta, kt, y0, y1, y2, y3, f0, f1, f2, f3, g0, g1, g2, g3⟩ | ⟨ta, kt, y0, y1, y2, y3, z0, z1, z2, z3, f0, f1, f2, f3, g0, g1, g2, g3⟩
  · exact Or.inl ⟨ta, kt, y0, y1, y2, y3, Exa.keep f0 K, f1.keep K nin0, f2.keep K nin0, f3.keep K nin0, g0, g1, g2, g3⟩
  · exact Or.inr ⟨ta, kt, y0, y1, y2, y3, z0, z1, z2, z3, Exa.keep f0 K, f1.keep K nin0, f2.keep K nin0, f3.keep K nin0, g0, g1, g2, g3⟩
def own_Pq (y q : Int32) : Prop := own_lc y = q ∧ own_u (own_e0 (y &&& (255 : Int32))) (own_e1 (y &&& (255 : Int32))) = q
def own_SB11 (Z : State) (h : Heap) (n0 : Nat) (sb : Addr) (q0 : Int32) : Prop := (∃ (va : Addr) (kk : ClassId) (y0 : Int32), ex7 Z h sb ∧ fl8 Z h sb (.int (1 : Int32)) ∧ fl9 Z h sb (.int (0 : Int32)) ∧ fl10 Z h sb (.ref va) ∧ fl11 Z h sb (.int (0 : Int32)) ∧ ex12 Z h va ∧ Arv Z h va kk .byte (1 : Int32) [(.int y0)] (.int (0 : Int32)) ∧ @LT.lt Nat _ sb va ∧ own_Pq y0 q0) ∨ (∃ (va : Addr) (kk : ClassId) (y0 : Int32) (z0 : Int32), ex7 Z h sb ∧ fl8 Z h sb (.int (1 : Int32)) ∧ fl9 Z h sb (.int (1 : Int32)) ∧ fl10 Z h sb (.ref va) ∧ fl11 Z h sb (.int (0 : Int32)) ∧ ex12 Z h va ∧ Arv Z h va kk .byte (2 : Int32) [(.int y0), (.int z0)] (.int (0 : Int32)) ∧ @LT.lt Nat _ sb va ∧ own_u y0 z0 = q0)
def own_SB21 (Z : State) (h : Heap) (n0 : Nat) (sb : Addr) (q0 : Int32) : Prop := (∃ (va : Addr) (kk : ClassId) (y0 : Int32), ex7 Z h sb ∧ fl8 Z h sb (.int (1 : Int32)) ∧ fl9 Z h sb (.int (0 : Int32)) ∧ fl10 Z h sb (.ref va) ∧ fl11 Z h sb (.int (0 : Int32)) ∧ ex12 Z h va ∧ Arv Z h va kk .byte (2 : Int32) [(.int y0), (.int (0 : Int32))] (.int (0 : Int32)) ∧ @LT.lt Nat _ sb va ∧ own_Pq y0 q0) ∨ (∃ (va : Addr) (kk : ClassId) (y0 : Int32) (z0 : Int32), ex7 Z h sb ∧ fl8 Z h sb (.int (1 : Int32)) ∧ fl9 Z h sb (.int (1 : Int32)) ∧ fl10 Z h sb (.ref va) ∧ fl11 Z h sb (.int (0 : Int32)) ∧ ex12 Z h va ∧ Arv Z h va kk .byte (4 : Int32) [(.int y0), (.int z0), (.int (0 : Int32)), (.int (0 : Int32))] (.int (0 : Int32)) ∧ @LT.lt Nat _ sb va ∧ own_u y0 z0 = q0)
def own_SB22 (Z : State) (h : Heap) (n0 : Nat) (sb : Addr) (q0 : Int32) (q1 : Int32) : Prop := (∃ (va : Addr) (kk : ClassId) (y0 : Int32) (y1 : Int32), ex7 Z h sb ∧ fl8 Z h sb (.int (2 : Int32)) ∧ fl9 Z h sb (.int (0 : Int32)) ∧ fl10 Z h sb (.ref va) ∧ fl11 Z h sb (.int (0 : Int32)) ∧ ex12 Z h va ∧ Arv Z h va kk .byte (2 : Int32) [(.int y0), (.int y1)] (.int (0 : Int32)) ∧ @LT.lt Nat _ sb va ∧ own_Pq y0 q0 ∧ own_Pq y1 q1) ∨ (∃ (va : Addr) (kk : ClassId) (y0 : Int32) (y1 : Int32) (z0 : Int32) (z1 : Int32), ex7 Z h sb ∧ fl8 Z h sb (.int (2 : Int32)) ∧ fl9 Z h sb (.int (1 : Int32)) ∧ fl10 Z h sb (.ref va) ∧ fl11 Z h sb (.int (0 : Int32)) ∧ ex12 Z h va ∧ Arv Z h va kk .byte (4 : Int32) [(.int y0), (.int z0), (.int y1), (.int z1)] (.int (0 : Int32)) ∧ @LT.lt Nat _ sb va ∧ own_u y0 z0 = q0 ∧ own_u y1 z1 = q1)
def own_SB31 (Z : State) (h : Heap) (n0 : Nat) (sb : Addr) (q0 : Int32) : Prop := (∃ (va : Addr) (kk : ClassId) (y0 : Int32), ex7 Z h sb ∧ fl8 Z h sb (.int (1 : Int32)) ∧ fl9 Z h sb (.int (0 : Int32)) ∧ fl10 Z h sb (.ref va) ∧ fl11 Z h sb (.int (0 : Int32)) ∧ ex12 Z h va ∧ Arv Z h va kk .byte (3 : Int32) [(.int y0), (.int (0 : Int32)), (.int (0 : Int32))] (.int (0 : Int32)) ∧ @LT.lt Nat _ sb va ∧ own_Pq y0 q0) ∨ (∃ (va : Addr) (kk : ClassId) (y0 : Int32) (z0 : Int32), ex7 Z h sb ∧ fl8 Z h sb (.int (1 : Int32)) ∧ fl9 Z h sb (.int (1 : Int32)) ∧ fl10 Z h sb (.ref va) ∧ fl11 Z h sb (.int (0 : Int32)) ∧ ex12 Z h va ∧ Arv Z h va kk .byte (6 : Int32) [(.int y0), (.int z0), (.int (0 : Int32)), (.int (0 : Int32)), (.int (0 : Int32)), (.int (0 : Int32))] (.int (0 : Int32)) ∧ @LT.lt Nat _ sb va ∧ own_u y0 z0 = q0)
def own_SB32 (Z : State) (h : Heap) (n0 : Nat) (sb : Addr) (q0 : Int32) (q1 : Int32) : Prop := (∃ (va : Addr) (kk : ClassId) (y0 : Int32) (y1 : Int32), ex7 Z h sb ∧ fl8 Z h sb (.int (2 : Int32)) ∧ fl9 Z h sb (.int (0 : Int32)) ∧ fl10 Z h sb (.ref va) ∧ fl11 Z h sb (.int (0 : Int32)) ∧ ex12 Z h va ∧ Arv Z h va kk .byte (3 : Int32) [(.int y0), (.int y1), (.int (0 : Int32))] (.int (0 : Int32)) ∧ @LT.lt Nat _ sb va ∧ own_Pq y0 q0 ∧ own_Pq y1 q1) ∨ (∃ (va : Addr) (kk : ClassId) (y0 : Int32) (y1 : Int32) (z0 : Int32) (z1 : Int32), ex7 Z h sb ∧ fl8 Z h sb (.int (2 : Int32)) ∧ fl9 Z h sb (.int (1 : Int32)) ∧ fl10 Z h sb (.ref va) ∧ fl11 Z h sb (.int (0 : Int32)) ∧ ex12 Z h va ∧ Arv Z h va kk .byte (6 : Int32) [(.int y0), (.int z0), (.int y1), (.int z1), (.int (0 : Int32)), (.int (0 : Int32))] (.int (0 : Int32)) ∧ @LT.lt Nat _ sb va ∧ own_u y0 z0 = q0 ∧ own_u y1 z1 = q1)
def own_SB33 (Z : State) (h : Heap) (n0 : Nat) (sb : Addr) (q0 : Int32) (q1 : Int32) (q2 : Int32) : Prop := (∃ (va : Addr) (kk : ClassId) (y0 : Int32) (y1 : Int32) (y2 : Int32), ex7 Z h sb ∧ fl8 Z h sb (.int (3 : Int32)) ∧ fl9 Z h sb (.int (0 : Int32)) ∧ fl10 Z h sb (.ref va) ∧ fl11 Z h sb (.int (0 : Int32)) ∧ ex12 Z h va ∧ Arv Z h va kk .byte (3 : Int32) [(.int y0), (.int y1), (.int y2)] (.int (0 : Int32)) ∧ @LT.lt Nat _ sb va ∧ own_Pq y0 q0 ∧ own_Pq y1 q1 ∧ own_Pq y2 q2) ∨ (∃ (va : Addr) (kk : ClassId) (y0 : Int32) (y1 : Int32) (y2 : Int32) (z0 : Int32) (z1 : Int32) (z2 : Int32), ex7 Z h sb ∧ fl8 Z h sb (.int (3 : Int32)) ∧ fl9 Z h sb (.int (1 : Int32)) ∧ fl10 Z h sb (.ref va) ∧ fl11 Z h sb (.int (0 : Int32)) ∧ ex12 Z h va ∧ Arv Z h va kk .byte (6 : Int32) [(.int y0), (.int z0), (.int y1), (.int z1), (.int y2), (.int z2)] (.int (0 : Int32)) ∧ @LT.lt Nat _ sb va ∧ own_u y0 z0 = q0 ∧ own_u y1 z1 = q1 ∧ own_u y2 z2 = q2)
def own_SB41 (Z : State) (h : Heap) (n0 : Nat) (sb : Addr) (q0 : Int32) : Prop := (∃ (va : Addr) (kk : ClassId) (y0 : Int32), ex7 Z h sb ∧ fl8 Z h sb (.int (1 : Int32)) ∧ fl9 Z h sb (.int (0 : Int32)) ∧ fl10 Z h sb (.ref va) ∧ fl11 Z h sb (.int (0 : Int32)) ∧ ex12 Z h va ∧ Arv Z h va kk .byte (4 : Int32) [(.int y0), (.int (0 : Int32)), (.int (0 : Int32)), (.int (0 : Int32))] (.int (0 : Int32)) ∧ @LT.lt Nat _ sb va ∧ own_Pq y0 q0) ∨ (∃ (va : Addr) (kk : ClassId) (y0 : Int32) (z0 : Int32), ex7 Z h sb ∧ fl8 Z h sb (.int (1 : Int32)) ∧ fl9 Z h sb (.int (1 : Int32)) ∧ fl10 Z h sb (.ref va) ∧ fl11 Z h sb (.int (0 : Int32)) ∧ ex12 Z h va ∧ Arv Z h va kk .byte (8 : Int32) [(.int y0), (.int z0), (.int (0 : Int32)), (.int (0 : Int32)), (.int (0 : Int32)), (.int (0 : Int32)), (.int (0 : Int32)), (.int (0 : Int32))] (.int (0 : Int32)) ∧ @LT.lt Nat _ sb va ∧ own_u y0 z0 = q0)
def own_SB42 (Z : State) (h : Heap) (n0 : Nat) (sb : Addr) (q0 : Int32) (q1 : Int32) : Prop := (∃ (va : Addr) (kk : ClassId) (y0 : Int32) (y1 : Int32), ex7 Z h sb ∧ fl8 Z h sb (.int (2 : Int32)) ∧ fl9 Z h sb (.int (0 : Int32)) ∧ fl10 Z h sb (.ref va) ∧ fl11 Z h sb (.int (0 : Int32)) ∧ ex12 Z h va ∧ Arv Z h va kk .byte (4 : Int32) [(.int y0), (.int y1), (.int (0 : Int32)), (.int (0 : Int32))] (.int (0 : Int32)) ∧ @LT.lt Nat _ sb va ∧ own_Pq y0 q0 ∧ own_Pq y1 q1) ∨ (∃ (va : Addr) (kk : ClassId) (y0 : Int32) (y1 : Int32) (z0 : Int32) (z1 : Int32), ex7 Z h sb ∧ fl8 Z h sb (.int (2 : Int32)) ∧ fl9 Z h sb (.int (1 : Int32)) ∧ fl10 Z h sb (.ref va) ∧ fl11 Z h sb (.int (0 : Int32)) ∧ ex12 Z h va ∧ Arv Z h va kk .byte (8 : Int32) [(.int y0), (.int z0), (.int y1), (.int z1), (.int (0 : Int32)), (.int (0 : Int32)), (.int (0 : Int32)), (.int (0 : Int32))] (.int (0 : Int32)) ∧ @LT.lt Nat _ sb va ∧ own_u y0 z0 = q0 ∧ own_u y1 z1 = q1)
def own_SB43 (Z : State) (h : Heap) (n0 : Nat) (sb : Addr) (q0 : Int32) (q1 : Int32) (q2 : Int32) : Prop := (∃ (va : Addr) (kk : ClassId) (y0 : Int32) (y1 : Int32) (y2 : Int32), ex7 Z h sb ∧ fl8 Z h sb (.int (3 : Int32)) ∧ fl9 Z h sb (.int (0 : Int32)) ∧ fl10 Z h sb (.ref va) ∧ fl11 Z h sb (.int (0 : Int32)) ∧ ex12 Z h va ∧ Arv Z h va kk .byte (4 : Int32) [(.int y0), (.int y1), (.int y2), (.int (0 : Int32))] (.int (0 : Int32)) ∧ @LT.lt Nat _ sb va ∧ own_Pq y0 q0 ∧ own_Pq y1 q1 ∧ own_Pq y2 q2) ∨ (∃ (va : Addr) (kk : ClassId) (y0 : Int32) (y1 : Int32) (y2 : Int32) (z0 : Int32) (z1 : Int32) (z2 : Int32), ex7 Z h sb ∧ fl8 Z h sb (.int (3 : Int32)) ∧ fl9 Z h sb (.int (1 : Int32)) ∧ fl10 Z h sb (.ref va) ∧ fl11 Z h sb (.int (0 : Int32)) ∧ ex12 Z h va ∧ Arv Z h va kk .byte (8 : Int32) [(.int y0), (.int z0), (.int y1), (.int z1), (.int y2), (.int z2), (.int (0 : Int32)), (.int (0 : Int32))] (.int (0 : Int32)) ∧ @LT.lt Nat _ sb va ∧ own_u y0 z0 = q0 ∧ own_u y1 z1 = q1 ∧ own_u y2 z2 = q2)
def own_SB44 (Z : State) (h : Heap) (n0 : Nat) (sb : Addr) (q0 : Int32) (q1 : Int32) (q2 : Int32) (q3 : Int32) : Prop := (∃ (va : Addr) (kk : ClassId) (y0 : Int32) (y1 : Int32) (y2 : Int32) (y3 : Int32), ex7 Z h sb ∧ fl8 Z h sb (.int (4 : Int32)) ∧ fl9 Z h sb (.int (0 : Int32)) ∧ fl10 Z h sb (.ref va) ∧ fl11 Z h sb (.int (0 : Int32)) ∧ ex12 Z h va ∧ Arv Z h va kk .byte (4 : Int32) [(.int y0), (.int y1), (.int y2), (.int y3)] (.int (0 : Int32)) ∧ @LT.lt Nat _ sb va ∧ own_Pq y0 q0 ∧ own_Pq y1 q1 ∧ own_Pq y2 q2 ∧ own_Pq y3 q3) ∨ (∃ (va : Addr) (kk : ClassId) (y0 : Int32) (y1 : Int32) (y2 : Int32) (y3 : Int32) (z0 : Int32) (z1 : Int32) (z2 : Int32) (z3 : Int32), ex7 Z h sb ∧ fl8 Z h sb (.int (4 : Int32)) ∧ fl9 Z h sb (.int (1 : Int32)) ∧ fl10 Z h sb (.ref va) ∧ fl11 Z h sb (.int (0 : Int32)) ∧ ex12 Z h va ∧ Arv Z h va kk .byte (8 : Int32) [(.int y0), (.int z0), (.int y1), (.int z1), (.int y2), (.int z2), (.int y3), (.int z3)] (.int (0 : Int32)) ∧ @LT.lt Nat _ sb va ∧ own_u y0 z0 = q0 ∧ own_u y1 z1 = q1 ∧ own_u y2 z2 = q2 ∧ own_u y3 z3 = q3)
abbrev my4 : MethodName := (⟨"com/example/annotree/annotree/tree/SingleByteDecoder", "decode", "([BI)Ljava/lang/String;"⟩ : MethodName)
theorem d4_1 : decode prog_33_method_5_code 1 = .ok (.invokevirtual 24, 3) := by decide +kernel
theorem d4_5 : decode prog_33_method_5_code 5 = .ok (.new 28, 3) := by decide +kernel
theorem d4_10 : decode prog_33_method_5_code 10 = .ok (.arraylength, 1) := by decide +kernel
theorem d4_13 : decode prog_33_method_5_code 13 = .ok (.invokespecial 30, 3) := by decide +kernel
theorem d4_21 : decode prog_33_method_5_code 21 = .ok (.iload 5, 2) := by decide +kernel
theorem d4_24 : decode prog_33_method_5_code 24 = .ok (.arraylength, 1) := by decide +kernel
theorem d4_25 : decode prog_33_method_5_code 25 = .ok (.if_icmp .ge 71, 3) := by decide +kernel
theorem d4_31 : decode prog_33_method_5_code 31 = .ok (.baload, 1) := by decide +kernel
theorem d4_43 : decode prog_33_method_5_code 43 = .ok (.if_icmp .ge 15, 3) := by decide +kernel
theorem d4_51 : decode prog_33_method_5_code 51 = .ok (.invokevirtual 33, 3) := by decide +kernel
theorem d4_55 : decode prog_33_method_5_code 55 = .ok (.goto 35, 3) := by decide +kernel
theorem d4_65 : decode prog_33_method_5_code 65 = .ok (.invokevirtual 37, 3) := by decide +kernel
theorem d4_68 : decode prog_33_method_5_code 68 = .ok (.istore 7, 2) := by decide +kernel
theorem d4_75 : decode prog_33_method_5_code 75 = .ok (.if_icmp .ne 8, 3) := by decide +kernel
theorem d4_78 : decode prog_33_method_5_code 78 = .ok (.ldc 45, 2) := by decide +kernel
theorem d4_80 : decode prog_33_method_5_code 80 = .ok (.goto 6, 3) := by decide +kernel
theorem d4_86 : decode prog_33_method_5_code 86 = .ok (.invokevirtual 33, 3) := by decide +kernel
theorem d4_93 : decode prog_33_method_5_code 93 = .ok (.goto (-72), 3) := by decide +kernel
theorem d4_98 : decode prog_33_method_5_code 98 = .ok (.invokevirtual 46, 3) := by decide +kernel
theorem d4_101 : decode prog_33_method_5_code 101 = .ok (.areturn, 1) := by decide +kernel
theorem e4_0_1 : own_dec prog_33_method_5_code 0 [(.aload_n 0, 1)] = true := by decide +kernel
theorem e4_4_1 : own_dec prog_33_method_5_code 4 [(.astore_n 3, 1)] = true := by decide +kernel
theorem e4_8_2 : own_dec prog_33_method_5_code 8 [(.dup, 1), (.aload_n 1, 1)] = true := by decide +kernel
theorem e4_11_2 : own_dec prog_33_method_5_code 11 [(.iload_n 2, 1), (.isub, 1)] = true := by decide +kernel
theorem e4_16_3 : own_dec prog_33_method_5_code 16 [(.astore 4, 2), (.iload_n 2, 1), (.istore 5, 2)] = true := by decide +kernel
theorem e4_21_2 : own_dec prog_33_method_5_code 21 [(.iload 5, 2), (.aload_n 1, 1)] = true := by decide +kernel
theorem e4_96_1 : own_dec prog_33_method_5_code 96 [(.aload 4, 2)] = true := by decide +kernel
theorem e4_28_2 : own_dec prog_33_method_5_code 28 [(.aload_n 1, 1), (.iload 5, 2)] = true := by decide +kernel
theorem e4_32_5 : own_dec prog_33_method_5_code 32 [(.sipush 255, 3), (.iand, 1), (.istore 6, 2), (.iload 6, 2), (.sipush 128, 3)] = true := by decide +kernel
theorem e4_46_3 : own_dec prog_33_method_5_code 46 [(.aload 4, 2), (.iload 6, 2), (.i2c, 1)] = true := by decide +kernel
theorem e4_54_1 : own_dec prog_33_method_5_code 54 [(.pop, 1)] = true := by decide +kernel
theorem e4_90_1 : own_dec prog_33_method_5_code 90 [(.iinc 5 1, 3)] = true := by decide +kernel
theorem e4_58_4 : own_dec prog_33_method_5_code 58 [(.aload_n 3, 1), (.iload 6, 2), (.sipush 128, 3), (.isub, 1)] = true := by decide +kernel
theorem e4_70_3 : own_dec prog_33_method_5_code 70 [(.aload 4, 2), (.iload 7, 2), (.iconst (-1), 1)] = true := by decide +kernel
theorem e4_89_2 : own_dec prog_33_method_5_code 89 [(.pop, 1), (.iinc 5 1, 3)] = true := by decide +kernel
theorem e4_23_1 : own_dec prog_33_method_5_code 23 [(.aload_n 1, 1)] = true := by decide +kernel
theorem e4_68_4 : own_dec prog_33_method_5_code 68 [(.istore 7, 2), (.aload 4, 2), (.iload 7, 2), (.iconst (-1), 1)] = true := by decide +kernel
theorem pd_24 : parseMethodDescriptor "()Lcom/example/annotree/annotree/tree/Index;" = some ⟨[], some (.object "com/example/annotree/annotree/tree/Index")⟩ := by decide +kernel
theorem pd_25 : parseMethodDescriptor "()Ljava/lang/String;" = some ⟨[], some (.object "java/lang/String")⟩ := by decide +kernel
theorem pd_26 : parseMethodDescriptor "(C)Ljava/lang/StringBuilder;" = some ⟨[.char], some (.object "java/lang/StringBuilder")⟩ := by decide +kernel
def Q4f0n (Z : State) (G1 : Int32) (G2 : Value) (a1 : Addr) (bb : Addr) (kb : ClassId) (b0 : Int32) (b1 : Int32) (b2 : Int32) (b3 : Int32) (h0 : Heap) (n0 : Nat) (v : Option Value) (h : Heap) (L : List Loc) : Prop := ∃ so : Addr, ∃ ix : Addr, ∃ ca : Addr, ∃ kk : ClassId, ∃ vz : List Value, v = some (.ref so) ∧ Fr n0 L ∧ h0.size ≤ h.size ∧ Old Z n0 h ∧ ex0 Z h a1 ∧ fl1 Z h a1 (.ref ix) ∧ fl2 Z h a1 .null ∧ Unt h a1 ∧ ex5 Z h ix ∧ fl6 Z h ix (.ref ca) ∧ Arv Z h ca kk .int (128 : Int32) vz (.int (0 : Int32)) ∧ Arv Z h bb kb .byte (4 : Int32) [(.int b0), (.int b1), (.int b2), (.int b3)] (.int (0 : Int32)) ∧ own_Str4 Z h so (own_exp b0) (own_exp b1) (own_exp b2) (own_exp b3) ∧ (∀ j : Nat, j < 128 → vz.getD j (.int (0 : Int32)) = .int (-1 : Int32))
set_option maxRecDepth 65536 in
set_option maxHeartbeats 40000000 in
theorem rm4f0n (l : Launch) (Z : State) (a0 : Array Value) (hw : OW a0 Z) (ws : List Jvm.Cond) (G1 : Int32) (G2 : Value) (a1 : Addr) (bb : Addr) (kb : ClassId) (b0 : Int32) (b1 : Int32) (b2 : Int32) (b3 : Int32) (h0 : Heap) (n0 : Nat) (Z0 : n0 ≤ h0.size) (OLD : Old Z n0 h0) (A : Amb Z G1 G2) (P0 : ex0 Z h0 a1) (P1 : fl1 Z h0 a1 .null) (P2 : fl2 Z h0 a1 .null) (P3 : Unt h0 a1) (P4 : Arv Z h0 bb kb .byte (4 : Int32) [(.int b0), (.int b1), (.int b2), (.int b3)] (.int (0 : Int32))) (g_a1 : n0 ≤ a1) (hne : @Ne Nat bb a1) :
    own_Met l my4 prog_33_method_5_code 8 (some (.object "java/lang/String")) ws (own_rm 8 10 181 115) #[(.ref a1), (.ref bb), (.int (0 : Int32))] Z h0 (Q4f0n Z G1 G2 a1 bb kb b0 b1 b2 b3 h0 n0) 10 181 := by
  refine own_body (plainFor_of_name pn_0) (fun m => by first | (simp [entryFrame, mkF, argsToLocals, Value.category]; done) | rfl) (Ls := #[.val (.ref a1), .val (.ref bb), .val (.int (0 : Int32)), .unset, .unset, .unset, .unset, .unset]) fun p e s m below meth c s₁ X0 hx hby hml hZ e0 hown hnm hlk hrt => ?_
  have N0 := Fr.nil n0
  have lt_P0 : @LT.lt Nat _ a1 (Array.size h0) := P0.lt
  have lt_P4 : @LT.lt Nat _ bb (Array.size h0) := P4.lt
  refine own_ru 1 [(.ref a1)] X0 hx hby e4_0_1 rfl rfl ?_
  refine own_cY X0 hx hZ hown (wd25 hw) (wd26 hw) (own_selPriv (mvT hZ (wd6 hw)) (Cond.privateMethod_at (mvP hZ (wd27 hw) (args := #[]))) (mvT hZ (wd26 hw)) (by decide)) (wd27 hw) (by decide) (wd28 hw) (wd3 hw) (rm5n l Z a0 hw [] G1 G2 a1 bb kb [(.int b0), (.int b1), (.int b2), (.int b3)] h0 n0 (by omega) OLD A P0 P1 P2 P4 P3 (by omega) (by first | assumption | decide | omega)) e0 P0 P3 [] [] 4 0 (hb hby d4_1) rfl (by rw [hml]; rfl) rfl rfl (lenOf pd_24 rfl) rfl (by decide) fun v311 T311 Lc311 X311 hQ311 => ?_
  obtain ⟨ix_311, ca_311, kk_311, vz_311, rfl, N311q, K311, G311_0, G311_1, G311_2, G311_3, G311_4, G311_5, G311_6, G311_7, G311_8, U311_0⟩ := hQ311
  have N311 := Fr.app N0 N311q
  have lt311_1 : @LT.lt Nat _ a1 (Array.size T311.heap) := G311_1.lt
  have lt311_5 : @LT.lt Nat _ ix_311 (Array.size T311.heap) := G311_5.lt
  have lt311_7 : @LT.lt Nat _ ca_311 (Array.size T311.heap) := G311_7.lt
  have lt311_8 : @LT.lt Nat _ bb (Array.size T311.heap) := G311_8.lt
  refine own_rl 5 #[.val (.ref a1), .val (.ref bb), .val (.int (0 : Int32)), .val (.ref ix_311), .unset, .unset, .unset, .unset] [] X311 hx hby e4_4_1 rfl rfl ?_
  refine own_nO X311 hx hZ hown (wd47 hw) (wd48 hw) (wd49 hw) rfl 8 (hb hby d4_5) rfl (by decide) (by decide) fun T312 h312 b312 g312 X312 e312 E312 A312 D312 UN312 => ?_
  have ll312 : @LT.lt Nat _ b312 (Array.size h312) := A312.lt
  have z312 := E312.1
  have F313 : fl10 Z h312 b312 .null := D312 (Or.inl (wd63 hw)) (ty := (.array .byte)) (by decide)
  have F314 : fl9 Z h312 b312 (.int (0 : Int32)) := D312 (Or.inl (wd65 hw)) (ty := .byte) (by decide)
  have F315 : fl8 Z h312 b312 (.int (0 : Int32)) := D312 (Or.inl (wd77 hw)) (ty := .int) (by decide)
  have F316 : fl11 Z h312 b312 (.int (0 : Int32)) := D312 (Or.inl (wd230 hw)) (ty := .boolean) (by decide)
  refine own_ru 10 [(.ref bb), (.ref b312), (.ref b312)] X312 hx hby e4_8_2 rfl rfl ?_
  have f317 := (G311_8.ext E312)
  refine own_aL X312 hx hZ e312 f317 11 rfl (hb hby d4_10) rfl ?_
  refine own_ru 13 [(.int (4 : Int32)), (.ref b312), (.ref b312)] X312 hx hby e4_11_2 rfl rfl ?_
  have f318 := (G311_0.ext E312)
  refine own_cN X312 hx hZ hown rfl (wd50 hw) (wd51 hw) (by decide) (wd52 hw) (wd49 hw) (rm9 l Z a0 hw [] G1 G2 b312 (4 : Int32) 4 h312 n0 (by omega) f318 A A312 F315 F314 F313 F316 (by omega) (by decide) (by decide)) e312  [(.int (4 : Int32))] [(.ref b312)] 16 1 (hb hby d4_13) rfl (by rw [hml]; rfl) rfl rfl (lenOf pd_2 rfl) rfl (by decide) fun v319 T319 Lc319 X319 hQ319 => ?_
  obtain ⟨vn_319, kk_319, rfl, N319q, K319, G319_0, G319_1, G319_2, G319_3, G319_4, G319_5, G319_6, U319_0⟩ := hQ319
  have N319 := Fr.app N311 N319q
  have z319 := K319.1
  have lt319_0 : @LT.lt Nat _ b312 (Array.size T319.heap) := G319_0.lt
  have lt319_5 : @LT.lt Nat _ vn_319 (Array.size T319.heap) := G319_5.lt
  have G319_6' : Arv Z T319.heap vn_319 kk_319 .byte (4 : Int32) [(.int (0 : Int32)), (.int (0 : Int32)), (.int (0 : Int32)), (.int (0 : Int32))] (.int (0 : Int32)) := G319_6
  refine own_rl 21 #[.val (.ref a1), .val (.ref bb), .val (.int (0 : Int32)), .val (.ref ix_311), .val (.ref b312), .val (.int (0 : Int32)), .unset, .unset] [] X319 hx hby e4_16_3 rfl rfl ?_
  have J320 : ∀ (TJ320 : State) (LJ320 : List Loc) (hJ320 : Heap) (sl7 : Slot), Stand p l e (own_rm 8 10 181 115) s m #[(.ref a1), (.ref bb), (.int (0 : Int32))] below meth c TJ320 LJ320 5 145 → TJ320.heap = hJ320 → Fr n0 LJ320 → h0.size ≤ hJ320.size → Old Z n0 hJ320 → ex0 Z hJ320 a1 → fl1 Z hJ320 a1 (.ref ix_311) → fl2 Z hJ320 a1 .null → Unt hJ320 a1 → ex5 Z hJ320 ix_311 → fl6 Z hJ320 ix_311 (.ref ca_311) → Arv Z hJ320 ca_311 kk_311 .int (128 : Int32) vz_311 (.int (0 : Int32)) → Arv Z hJ320 bb kb .byte (4 : Int32) [(.int b0), (.int b1), (.int b2), (.int b3)] (.int (0 : Int32)) → own_SB41 Z hJ320 n0 b312 (own_exp b0) → ((sl7 = .unset ∨ ∃ w : Value, sl7 = .val w ∧ w.category = 1)) → own_Fin p.tables e below (own_post (Q4f0n Z G1 G2 a1 bb kb b0 b1 b2 b3 h0 n0) s 10 181) (TJ320.setTop (mkF m 21 #[.val (.ref a1), .val (.ref bb), .val (.int (0 : Int32)), .val (.ref ix_311), .val (.ref b312), .val (.int (1 : Int32)), .val (.int (b0 &&& (255 : Int32))), sl7] [])) := by
    as_aux_lemma =>
      intro TJ320 LJ320 hJ320 sl7 XJ320 eJ320 NJ320 zJ320 FJ320_0 FJ320_1 FJ320_2 FJ320_3 FJ320_4 FJ320_5 FJ320_6 FJ320_7 FJ320_8 FJ320_9 hs_sl7
      have ltJ320_1 : @LT.lt Nat _ a1 (Array.size hJ320) := FJ320_1.lt
      have ltJ320_5 : @LT.lt Nat _ ix_311 (Array.size hJ320) := FJ320_5.lt
      have ltJ320_7 : @LT.lt Nat _ ca_311 (Array.size hJ320) := FJ320_7.lt
      have ltJ320_8 : @LT.lt Nat _ bb (Array.size hJ320) := FJ320_8.lt
      have J321 : ∀ (TJ321 : State) (LJ321 : List Loc) (hJ321 : Heap) (sl7 : Slot), Stand p l e (own_rm 8 10 181 115) s m #[(.ref a1), (.ref bb), (.int (0 : Int32))] below meth c TJ321 LJ321 6 153 → TJ321.heap = hJ321 → Fr n0 LJ321 → h0.size ≤ hJ321.size → Old Z n0 hJ321 → ex0 Z hJ321 a1 → fl1 Z hJ321 a1 (.ref ix_311) → fl2 Z hJ321 a1 .null → Unt hJ321 a1 → ex5 Z hJ321 ix_311 → fl6 Z hJ321 ix_311 (.ref ca_311) → Arv Z hJ321 ca_311 kk_311 .int (128 : Int32) vz_311 (.int (0 : Int32)) → Arv Z hJ321 bb kb .byte (4 : Int32) [(.int b0), (.int b1), (.int b2), (.int b3)] (.int (0 : Int32)) → own_SB42 Z hJ321 n0 b312 (own_exp b0) (own_exp b1) → ((sl7 = .unset ∨ ∃ w : Value, sl7 = .val w ∧ w.category = 1)) → own_Fin p.tables e below (own_post (Q4f0n Z G1 G2 a1 bb kb b0 b1 b2 b3 h0 n0) s 10 181) (TJ321.setTop (mkF m 21 #[.val (.ref a1), .val (.ref bb), .val (.int (0 : Int32)), .val (.ref ix_311), .val (.ref b312), .val (.int (2 : Int32)), .val (.int (b1 &&& (255 : Int32))), sl7] [])) := by
        as_aux_lemma =>
          intro TJ321 LJ321 hJ321 sl7 XJ321 eJ321 NJ321 zJ321 FJ321_0 FJ321_1 FJ321_2 FJ321_3 FJ321_4 FJ321_5 FJ321_6 FJ321_7 FJ321_8 FJ321_9 hs_sl7
          have ltJ321_1 : @LT.lt Nat _ a1 (Array.size hJ321) := FJ321_1.lt
          have ltJ321_5 : @LT.lt Nat _ ix_311 (Array.size hJ321) := FJ321_5.lt
          have ltJ321_7 : @LT.lt Nat _ ca_311 (Array.size hJ321) := FJ321_7.lt
          have ltJ321_8 : @LT.lt Nat _ bb (Array.size hJ321) := FJ321_8.lt
          have J322 : ∀ (TJ322 : State) (LJ322 : List Loc) (hJ322 : Heap) (sl7 : Slot), Stand p l e (own_rm 8 10 181 115) s m #[(.ref a1), (.ref bb), (.int (0 : Int32))] below meth c TJ322 LJ322 7 161 → TJ322.heap = hJ322 → Fr n0 LJ322 → h0.size ≤ hJ322.size → Old Z n0 hJ322 → ex0 Z hJ322 a1 → fl1 Z hJ322 a1 (.ref ix_311) → fl2 Z hJ322 a1 .null → Unt hJ322 a1 → ex5 Z hJ322 ix_311 → fl6 Z hJ322 ix_311 (.ref ca_311) → Arv Z hJ322 ca_311 kk_311 .int (128 : Int32) vz_311 (.int (0 : Int32)) → Arv Z hJ322 bb kb .byte (4 : Int32) [(.int b0), (.int b1), (.int b2), (.int b3)] (.int (0 : Int32)) → own_SB43 Z hJ322 n0 b312 (own_exp b0) (own_exp b1) (own_exp b2) → ((sl7 = .unset ∨ ∃ w : Value, sl7 = .val w ∧ w.category = 1)) → own_Fin p.tables e below (own_post (Q4f0n Z G1 G2 a1 bb kb b0 b1 b2 b3 h0 n0) s 10 181) (TJ322.setTop (mkF m 21 #[.val (.ref a1), .val (.ref bb), .val (.int (0 : Int32)), .val (.ref ix_311), .val (.ref b312), .val (.int (3 : Int32)), .val (.int (b2 &&& (255 : Int32))), sl7] [])) := by
            as_aux_lemma =>
              intro TJ322 LJ322 hJ322 sl7 XJ322 eJ322 NJ322 zJ322 FJ322_0 FJ322_1 FJ322_2 FJ322_3 FJ322_4 FJ322_5 FJ322_6 FJ322_7 FJ322_8 FJ322_9 hs_sl7
              have ltJ322_1 : @LT.lt Nat _ a1 (Array.size hJ322) := FJ322_1.lt
              have ltJ322_5 : @LT.lt Nat _ ix_311 (Array.size hJ322) := FJ322_5.lt
              have ltJ322_7 : @LT.lt Nat _ ca_311 (Array.size hJ322) := FJ322_7.lt
              have ltJ322_8 : @LT.lt Nat _ bb (Array.size hJ322) := FJ322_8.lt
              have J323 : ∀ (TJ323 : State) (LJ323 : List Loc) (hJ323 : Heap) (sl7 : Slot), Stand p l e (own_rm 8 10 181 115) s m #[(.ref a1), (.ref bb), (.int (0 : Int32))] below meth c TJ323 LJ323 8 169 → TJ323.heap = hJ323 → Fr n0 LJ323 → h0.size ≤ hJ323.size → Old Z n0 hJ323 → ex0 Z hJ323 a1 → fl1 Z hJ323 a1 (.ref ix_311) → fl2 Z hJ323 a1 .null → Unt hJ323 a1 → ex5 Z hJ323 ix_311 → fl6 Z hJ323 ix_311 (.ref ca_311) → Arv Z hJ323 ca_311 kk_311 .int (128 : Int32) vz_311 (.int (0 : Int32)) → Arv Z hJ323 bb kb .byte (4 : Int32) [(.int b0), (.int b1), (.int b2), (.int b3)] (.int (0 : Int32)) → own_SB44 Z hJ323 n0 b312 (own_exp b0) (own_exp b1) (own_exp b2) (own_exp b3) → ((sl7 = .unset ∨ ∃ w : Value, sl7 = .val w ∧ w.category = 1)) → own_Fin p.tables e below (own_post (Q4f0n Z G1 G2 a1 bb kb b0 b1 b2 b3 h0 n0) s 10 181) (TJ323.setTop (mkF m 21 #[.val (.ref a1), .val (.ref bb), .val (.int (0 : Int32)), .val (.ref ix_311), .val (.ref b312), .val (.int (4 : Int32)), .val (.int (b3 &&& (255 : Int32))), sl7] [])) := by
                as_aux_lemma =>
                  intro TJ323 LJ323 hJ323 sl7 XJ323 eJ323 NJ323 zJ323 FJ323_0 FJ323_1 FJ323_2 FJ323_3 FJ323_4 FJ323_5 FJ323_6 FJ323_7 FJ323_8 FJ323_9 hs_sl7
                  have ltJ323_1 : @LT.lt Nat _ a1 (Array.size hJ323) := FJ323_1.lt
                  have ltJ323_5 : @LT.lt Nat _ ix_311 (Array.size hJ323) := FJ323_5.lt
                  have ltJ323_7 : @LT.lt Nat _ ca_311 (Array.size hJ323) := FJ323_7.lt
                  have ltJ323_8 : @LT.lt Nat _ bb (Array.size hJ323) := FJ323_8.lt
                  rcases FJ323_9 with ⟨va4, kv4, y4_0, y4_1, y4_2, y4_3, fs4_0, fs4_1, fs4_2, fs4_3, fs4_4, fs4_5, fs4_6, og4, pe4_0, pe4_1, pe4_2, pe4_3⟩ | ⟨va4, kv4, y4_0, y4_1, y4_2, y4_3, z4_0, z4_1, z4_2, z4_3, fs4_0, fs4_1, fs4_2, fs4_3, fs4_4, fs4_5, fs4_6, og4, pe4_0, pe4_1, pe4_2, pe4_3⟩
                  · have ltv4 : @LT.lt Nat _ va4 (Array.size hJ323) := fs4_6.lt
                    have lts4 : @LT.lt Nat _ b312 (Array.size hJ323) := fs4_0.lt
                    refine own_ru 24 [(.ref bb), (.int (4 : Int32))] XJ323 hx hby e4_21_2 rfl rfl ?_
                    refine own_aL XJ323 hx hZ eJ323 FJ323_8 25 rfl (hb hby d4_24) rfl ?_
                    refine own_kY 96 XJ323 hx (hb hby d4_25) rfl (flt (by decide : ¬ ((4 : Int32) < (4 : Int32)))).2.1 (by decide) (by decide) ?_
                    refine own_ru 98 [(.ref b312)] XJ323 hx hby e4_96_1 rfl rfl ?_
                    refine own_cV XJ323 hx hZ hown (wd92 hw) (wd93 hw) (notFace_of_selects (args := #[]) (mvT hZ (wd95 hw))) (wd95 hw) (wd94 hw) (by decide) (wd96 hw) (wd49 hw) (rm16s0 l Z a0 hw [] G1 G2 b312 va4 kv4 (4 : Int32) (4 : Int32) [(.int y4_0), (.int y4_1), (.int y4_2), (.int y4_3)] hJ323 n0 (by omega) FJ323_0 A fs4_0 fs4_1 fs4_2 fs4_3 fs4_4 fs4_5 fs4_6 rfl (by decide)) eJ323 fs4_0 [] [] 101 0 (hb hby d4_98) rfl (by rw [hml]; rfl) rfl rfl (lenOf pd_25 rfl) rfl (by decide) fun v324 T324 Lc324 X324 hQ324 => ?_
                    obtain ⟨so_324, ta_324, rfl, N324q, K324, G324_0, G324_1, G324_2, G324_3, U324_0⟩ := hQ324
                    have N324 := Fr.app NJ323 N324q
                    have z324 := K324.1
                    have lt324_0 : @LT.lt Nat _ so_324 (Array.size T324.heap) := G324_0.lt
                    have lt324_3 : @LT.lt Nat _ ta_324 (Array.size T324.heap) := G324_3.lt
                    have f326 := (FJ323_0.keep K324 all0)
                    have f327 := (Exa.keep FJ323_1 K324)
                    have f328 := (FJ323_2.keep K324 nin0)
                    have f329 := (FJ323_3.keep K324 nin0)
                    have f330 : Unt T324.heap a1 := (Unt.keep K324 nin0 FJ323_4)
                    have f331 := (Exa.keep FJ323_5 K324)
                    have f332 := (FJ323_6.keep K324 nin0)
                    have f333 := (FJ323_7.keep K324 nin0)
                    have f334 := (FJ323_8.keep K324 nin0)
                    have hq325 : Q4f0n Z G1 G2 a1 bb kb b0 b1 b2 b3 h0 n0 (some (.ref so_324)) T324.heap _ := ⟨so_324, ix_311, ca_311, kk_311, vz_311, rfl, N324, (by omega), f326, f327, f328, f329, f330, f331, f332, f333, f334, Or.inl ⟨ta_324, kv4, y4_0, y4_1, y4_2, y4_3, G324_0, G324_1, G324_2, G324_3, pe4_0.1, pe4_1.1, pe4_2.1, pe4_3.1⟩, U311_0⟩
                    exact own_retR X324 hx hlk (w := (.ref so_324)) rfl hrt rfl (hb hby d4_101) rfl hq325 (by decide) (by decide)
                  · have ltv4 : @LT.lt Nat _ va4 (Array.size hJ323) := fs4_6.lt
                    have lts4 : @LT.lt Nat _ b312 (Array.size hJ323) := fs4_0.lt
                    refine own_ru 24 [(.ref bb), (.int (4 : Int32))] XJ323 hx hby e4_21_2 rfl rfl ?_
                    refine own_aL XJ323 hx hZ eJ323 FJ323_8 25 rfl (hb hby d4_24) rfl ?_
                    refine own_kY 96 XJ323 hx (hb hby d4_25) rfl (flt (by decide : ¬ ((4 : Int32) < (4 : Int32)))).2.1 (by decide) (by decide) ?_
                    refine own_ru 98 [(.ref b312)] XJ323 hx hby e4_96_1 rfl rfl ?_
                    refine own_cV XJ323 hx hZ hown (wd92 hw) (wd93 hw) (notFace_of_selects (args := #[]) (mvT hZ (wd95 hw))) (wd95 hw) (wd94 hw) (by decide) (wd96 hw) (wd49 hw) (rm16s1 l Z a0 hw [] G1 G2 b312 va4 kv4 (4 : Int32) (8 : Int32) [(.int y4_0), (.int z4_0), (.int y4_1), (.int z4_1), (.int y4_2), (.int z4_2), (.int y4_3), (.int z4_3)] hJ323 n0 (by omega) FJ323_0 A fs4_0 fs4_1 fs4_2 fs4_3 fs4_4 fs4_5 fs4_6 rfl (by decide)) eJ323 fs4_0 [] [] 101 0 (hb hby d4_98) rfl (by rw [hml]; rfl) rfl rfl (lenOf pd_25 rfl) rfl (by decide) fun v335 T335 Lc335 X335 hQ335 => ?_
                    obtain ⟨so_335, ta_335, rfl, N335q, K335, G335_0, G335_1, G335_2, G335_3, U335_0⟩ := hQ335
                    have N335 := Fr.app NJ323 N335q
                    have z335 := K335.1
                    have lt335_0 : @LT.lt Nat _ so_335 (Array.size T335.heap) := G335_0.lt
                    have lt335_3 : @LT.lt Nat _ ta_335 (Array.size T335.heap) := G335_3.lt
                    have f337 := (FJ323_0.keep K335 all0)
                    have f338 := (Exa.keep FJ323_1 K335)
                    have f339 := (FJ323_2.keep K335 nin0)
                    have f340 := (FJ323_3.keep K335 nin0)
                    have f341 : Unt T335.heap a1 := (Unt.keep K335 nin0 FJ323_4)
                    have f342 := (Exa.keep FJ323_5 K335)
                    have f343 := (FJ323_6.keep K335 nin0)
                    have f344 := (FJ323_7.keep K335 nin0)
                    have f345 := (FJ323_8.keep K335 nin0)
                    have hq336 : Q4f0n Z G1 G2 a1 bb kb b0 b1 b2 b3 h0 n0 (some (.ref so_335)) T335.heap _ := ⟨so_335, ix_311, ca_311, kk_311, vz_311, rfl, N335, (by omega), f337, f338, f339, f340, f341, f342, f343, f344, f345, Or.inr ⟨ta_335, kv4, y4_0, y4_1, y4_2, y4_3, z4_0, z4_1, z4_2, z4_3, G335_0, G335_1, G335_2, G335_3, pe4_0, pe4_1, pe4_2, pe4_3⟩, U311_0⟩
                    exact own_retR X335 hx hlk (w := (.ref so_335)) rfl hrt rfl (hb hby d4_101) rfl hq336 (by decide) (by decide)
              rcases FJ322_9 with ⟨va3, kv3, y3_0, y3_1, y3_2, fs3_0, fs3_1, fs3_2, fs3_3, fs3_4, fs3_5, fs3_6, og3, pe3_0, pe3_1, pe3_2⟩ | ⟨va3, kv3, y3_0, y3_1, y3_2, z3_0, z3_1, z3_2, fs3_0, fs3_1, fs3_2, fs3_3, fs3_4, fs3_5, fs3_6, og3, pe3_0, pe3_1, pe3_2⟩
              · have ltv3 : @LT.lt Nat _ va3 (Array.size hJ322) := fs3_6.lt
                have lts3 : @LT.lt Nat _ b312 (Array.size hJ322) := fs3_0.lt
                refine own_ru 24 [(.ref bb), (.int (3 : Int32))] XJ322 hx hby e4_21_2 rfl rfl ?_
                refine own_aL XJ322 hx hZ eJ322 FJ322_8 25 rfl (hb hby d4_24) rfl ?_
                refine own_kN 28 XJ322 hx (hb hby d4_25) rfl (tlt (by decide : ((3 : Int32) < (4 : Int32)))).2.1 rfl ?_
                refine own_ru 31 [(.int (3 : Int32)), (.ref bb)] XJ322 hx hby e4_28_2 rfl rfl ?_
                refine own_bL XJ322 hx hZ eJ322 FJ322_8 (x := b3) 32 rfl (hb hby d4_31) rfl ⟨by decide, by decide⟩ rfl ?_
                refine own_rl 43 #[.val (.ref a1), .val (.ref bb), .val (.int (0 : Int32)), .val (.ref ix_311), .val (.ref b312), .val (.int (3 : Int32)), .val (.int (b3 &&& (255 : Int32))), sl7] [(.int (128 : Int32)), (.int (b3 &&& (255 : Int32)))] XJ322 hx hby e4_32_5 rfl rfl ?_
                by_cases hc43 : (b3 &&& (255 : Int32)) < (128 : Int32)
                · refine own_kN 46 XJ322 hx (hb hby d4_43) rfl (tlt hc43).2.1 rfl ?_
                  refine own_ru 51 [(.int ((b3 &&& (255 : Int32)).toUInt32.toUInt16.toUInt32.toInt32)), (.ref b312)] XJ322 hx hby e4_46_3 rfl rfl ?_
                  refine own_cV XJ322 hx hZ hown (wd66 hw) (wd67 hw) (notFace_of_selects (args := #[]) (mvT hZ (wd69 hw))) (wd69 hw) (wd68 hw) (by decide) (wd70 hw) (wd49 hw) (rm11a l Z a0 hw [] G1 G2 b312 ((b3 &&& (255 : Int32)).toUInt32.toUInt16.toUInt32.toInt32) (3 : Int32) va3 kv3 (4 : Int32) [(.int y3_0), (.int y3_1), (.int y3_2), (.int (0 : Int32))] hJ322 n0 (by omega) FJ322_0 A fs3_0 fs3_1 fs3_2 fs3_3 fs3_4 fs3_5 fs3_6 (by omega) (by omega) (own_q255 hc43) (by decide) ⟨by decide, by decide⟩ (Nat.le_of_ble_eq_true rfl) (by first | assumption | decide | omega)) eJ322 fs3_0 [(.int ((b3 &&& (255 : Int32)).toUInt32.toUInt16.toUInt32.toInt32))] [] 54 0 (hb hby d4_51) rfl (by rw [hml]; rfl) rfl rfl (lenOf pd_26 rfl) rfl (by decide) fun v346 T346 Lc346 X346 hQ346 => ?_
                  obtain ⟨rfl, N346q, K346, G346_0, G346_1, G346_2, G346_3, G346_4, G346_5, G346_6⟩ := hQ346
                  have N346 := Fr.app NJ322 N346q
                  have z346 := K346.1
                  have lt346_0 : @LT.lt Nat _ b312 (Array.size T346.heap) := G346_0.lt
                  have G346_1' : fl8 Z T346.heap b312 (.int (4 : Int32)) := G346_1
                  have lt346_5 : @LT.lt Nat _ va3 (Array.size T346.heap) := G346_5.lt
                  have G346_6' : Arv Z T346.heap va3 kv3 .byte (4 : Int32) [(.int y3_0), (.int y3_1), (.int y3_2), (.int (own_b8 ((b3 &&& (255 : Int32)).toUInt32.toUInt16.toUInt32.toInt32)))] (.int (0 : Int32)) := G346_6
                  refine own_ru 55 [] X346 hx hby e4_54_1 rfl rfl ?_
                  refine own_go 90 X346 hx (hb hby d4_55) (by decide) (by decide) ?_
                  refine own_rl 93 #[.val (.ref a1), .val (.ref bb), .val (.int (0 : Int32)), .val (.ref ix_311), .val (.ref b312), .val (.int (4 : Int32)), .val (.int (b3 &&& (255 : Int32))), sl7] [] X346 hx hby e4_90_1 rfl rfl ?_
                  refine own_go 21 X346 hx (hb hby d4_93) (by decide) (by decide) ?_
                  have f347 := (FJ322_0.keep K346 (allS (by omega) (allS (by omega) all0)))
                  have f348 := (Exa.keep FJ322_1 K346)
                  have f349 := (FJ322_2.keep K346 (own_nS (by omega) (own_nS (by omega) nin0)))
                  have f350 := (FJ322_3.keep K346 (own_nS (by omega) (own_nS (by omega) nin0)))
                  have f351 : Unt T346.heap a1 := (Unt.keep K346 (own_nS (by omega) (own_nS (by omega) nin0)) FJ322_4)
                  have f352 := (Exa.keep FJ322_5 K346)
                  have f353 := (FJ322_6.keep K346 (own_nS (by omega) (own_nS (by omega) nin0)))
                  have f354 := (FJ322_7.keep K346 (own_nS (by omega) (own_nS (by omega) nin0)))
                  have f355 := (FJ322_8.keep K346 (own_nS (by omega) (own_nS (by omega) nin0)))
                  have f356 : own_SB44 Z T346.heap n0 b312 (own_exp b0) (own_exp b1) (own_exp b2) (own_exp b3) := Or.inl ⟨va3, kv3, y3_0, y3_1, y3_2, (own_b8 ((b3 &&& (255 : Int32)).toUInt32.toUInt16.toUInt32.toInt32)), G346_0, G346_1', G346_2, G346_3, G346_4, G346_5, G346_6', by omega, pe3_0, pe3_1, pe3_2, ⟨own_P1 hc43, own_P3 hc43⟩⟩
                  exact J323 _ _ _ sl7 (X346.more (by decide) (by decide)) rfl N346 (by omega) f347 f348 f349 f350 f351 f352 f353 f354 f355 f356 hs_sl7
                · refine own_kY 58 XJ322 hx (hb hby d4_43) rfl (flt hc43).2.1 (by decide) (by decide) ?_
                  refine own_ru 65 [(.int ((b3 &&& (255 : Int32)) - (128 : Int32))), (.ref ix_311)] XJ322 hx hby e4_58_4 rfl rfl ?_
                  refine own_cV XJ322 hx hZ hown (wd179 hw) (wd180 hw) (notFace_of_selects (args := #[]) (mvT hZ (wd182 hw))) (wd182 hw) (wd181 hw) (by decide) (wd183 hw) (wd33 hw) (rm33 l Z a0 hw [] ix_311 ((b3 &&& (255 : Int32)) - (128 : Int32)) ca_311 kk_311 vz_311 hJ322 n0 (by omega) FJ322_6 FJ322_7 (own_jr hc43) U311_0) eJ322 FJ322_5 [(.int ((b3 &&& (255 : Int32)) - (128 : Int32)))] [] 68 0 (hb hby d4_65) rfl (by rw [hml]; rfl) rfl rfl (lenOf pd_11 rfl) rfl (by decide) fun v357 T357 Lc357 X357 hQ357 => ?_
                  obtain ⟨rfl, N357q, e357⟩ := hQ357
                  have N357 := Fr.app NJ322 N357q
                  refine own_sl 70 #[.val (.ref a1), .val (.ref bb), .val (.int (0 : Int32)), .val (.ref ix_311), .val (.ref b312), .val (.int (3 : Int32)), .val (.int (b3 &&& (255 : Int32))), .val (.int (-1 : Int32))] [] (fun t k => XS.istore X357.here hx rfl (hb hby d4_68) rfl (l' := #[.val (.ref a1), .val (.ref bb), .val (.int (0 : Int32)), .val (.ref ix_311), .val (.ref b312), .val (.int (3 : Int32)), .val (.int (b3 &&& (255 : Int32))), .val (.int (-1 : Int32))]) ((XS.store1 (o := sl7) rfl (hs_sl7) rfl).trans rfl) k) ?_
                  refine own_ru 75 [(.int (-1 : Int32)), (.int (-1 : Int32)), (.ref b312)] X357 hx hby e4_70_3 rfl rfl ?_
                  refine own_kN 78 X357 hx (hb hby d4_75) rfl (teq (by decide : ((-1 : Int32) = (-1 : Int32)))).2 rfl ?_
                  refine own_st 80 [(.int (65533 : Int32)), (.ref b312)] (X357.ldcInt hx hown (mvT hZ (wd184 hw)) (g := (mkF m 78 #[.val (.ref a1), .val (.ref bb), .val (.int (0 : Int32)), .val (.ref ix_311), .val (.ref b312), .val (.int (3 : Int32)), .val (.int (b3 &&& (255 : Int32))), .val (.int (-1 : Int32))] [(.ref b312)])) rfl (hb hby d4_78)) ?_
                  refine own_go 86 X357 hx (hb hby d4_80) (by decide) (by decide) ?_
                  refine own_cV X357 hx hZ hown (wd66 hw) (wd67 hw) (notFace_of_selects (args := #[]) (mvT hZ (wd69 hw))) (wd69 hw) (wd68 hw) (by decide) (wd70 hw) (wd49 hw) (rm11i l Z a0 hw [] G1 G2 b312 va3 kv3 (4 : Int32) (3 : Int32) ([y3_0, y3_1, y3_2] : List Int32) 4 hJ322 n0 (by omega) FJ322_0 A fs3_0 fs3_1 fs3_2 fs3_3 fs3_4 fs3_5 fs3_6 (by omega) (by decide) rfl rfl rfl (Nat.le_of_ble_eq_true rfl) (by decide) (by decide) (by decide) (by decide) (by decide) (by decide) (by decide) (by decide) (by decide) ⟨by decide, by decide⟩ ⟨by decide, by decide⟩ (Nat.le_of_ble_eq_true rfl) (Nat.le_of_ble_eq_true rfl) (by first | assumption | decide | omega)) e357 fs3_0 [(.int (65533 : Int32))] [] 89 0 (hb hby d4_86) rfl (by rw [hml]; rfl) rfl rfl (lenOf pd_26 rfl) rfl (by decide) fun v358 T358 Lc358 X358 hQ358 => ?_
                  obtain ⟨vb_358, kb_358, rfl, N358q, K358, G358_0, G358_1, G358_2, G358_3, G358_4, G358_5, G358_6, U358_0⟩ := hQ358
                  have N358 := Fr.app N357 N358q
                  have z358 := K358.1
                  have lt358_0 : @LT.lt Nat _ b312 (Array.size T358.heap) := G358_0.lt
                  have G358_1' : fl8 Z T358.heap b312 (.int (4 : Int32)) := G358_1
                  have lt358_5 : @LT.lt Nat _ vb_358 (Array.size T358.heap) := G358_5.lt
                  have G358_6' : Arv Z T358.heap vb_358 kb_358 .byte (8 : Int32) [(.int (own_e0 (y3_0 &&& (255 : Int32)))), (.int (own_e1 (y3_0 &&& (255 : Int32)))), (.int (own_e0 (y3_1 &&& (255 : Int32)))), (.int (own_e1 (y3_1 &&& (255 : Int32)))), (.int (own_e0 (y3_2 &&& (255 : Int32)))), (.int (own_e1 (y3_2 &&& (255 : Int32)))), (.int (own_e0 (65533 : Int32))), (.int (own_e1 (65533 : Int32)))] (.int (0 : Int32)) := G358_6
                  refine own_rl 93 #[.val (.ref a1), .val (.ref bb), .val (.int (0 : Int32)), .val (.ref ix_311), .val (.ref b312), .val (.int (4 : Int32)), .val (.int (b3 &&& (255 : Int32))), .val (.int (-1 : Int32))] [] X358 hx hby e4_89_2 rfl rfl ?_
                  refine own_go 21 X358 hx (hb hby d4_93) (by decide) (by decide) ?_
                  have f359 := (FJ322_0.keep K358 (allS (by omega) all0))
                  have f360 := (Exa.keep FJ322_1 K358)
                  have f361 := (FJ322_2.keep K358 (own_nS (by omega) nin0))
                  have f362 := (FJ322_3.keep K358 (own_nS (by omega) nin0))
                  have f363 : Unt T358.heap a1 := (Unt.keep K358 (own_nS (by omega) nin0) FJ322_4)
                  have f364 := (Exa.keep FJ322_5 K358)
                  have f365 := (FJ322_6.keep K358 (own_nS (by omega) nin0))
                  have f366 := (FJ322_7.keep K358 (own_nS (by omega) nin0))
                  have f367 := (FJ322_8.keep K358 (own_nS (by omega) nin0))
                  have f368 : own_SB44 Z T358.heap n0 b312 (own_exp b0) (own_exp b1) (own_exp b2) (own_exp b3) := Or.inr ⟨vb_358, kb_358, (own_e0 (y3_0 &&& (255 : Int32))), (own_e0 (y3_1 &&& (255 : Int32))), (own_e0 (y3_2 &&& (255 : Int32))), (own_e0 (65533 : Int32)), (own_e1 (y3_0 &&& (255 : Int32))), (own_e1 (y3_1 &&& (255 : Int32))), (own_e1 (y3_2 &&& (255 : Int32))), (own_e1 (65533 : Int32)), G358_0, G358_1', G358_2, G358_3, G358_4, G358_5, G358_6', by omega, pe3_0.2, pe3_1.2, pe3_2.2, own_P4 hc43⟩
                  exact J323 _ _ _ (.val (.int (-1 : Int32))) (X358.more (by decide) (by decide)) rfl N358 (by omega) f359 f360 f361 f362 f363 f364 f365 f366 f367 f368 (Or.inr ⟨_, rfl, rfl⟩)
              · have ltv3 : @LT.lt Nat _ va3 (Array.size hJ322) := fs3_6.lt
                have lts3 : @LT.lt Nat _ b312 (Array.size hJ322) := fs3_0.lt
                refine own_ru 24 [(.ref bb), (.int (3 : Int32))] XJ322 hx hby e4_21_2 rfl rfl ?_
                refine own_aL XJ322 hx hZ eJ322 FJ322_8 25 rfl (hb hby d4_24) rfl ?_
                refine own_kN 28 XJ322 hx (hb hby d4_25) rfl (tlt (by decide : ((3 : Int32) < (4 : Int32)))).2.1 rfl ?_
                refine own_ru 31 [(.int (3 : Int32)), (.ref bb)] XJ322 hx hby e4_28_2 rfl rfl ?_
                refine own_bL XJ322 hx hZ eJ322 FJ322_8 (x := b3) 32 rfl (hb hby d4_31) rfl ⟨by decide, by decide⟩ rfl ?_
                refine own_rl 43 #[.val (.ref a1), .val (.ref bb), .val (.int (0 : Int32)), .val (.ref ix_311), .val (.ref b312), .val (.int (3 : Int32)), .val (.int (b3 &&& (255 : Int32))), sl7] [(.int (128 : Int32)), (.int (b3 &&& (255 : Int32)))] XJ322 hx hby e4_32_5 rfl rfl ?_
                by_cases hc43 : (b3 &&& (255 : Int32)) < (128 : Int32)
                · refine own_kN 46 XJ322 hx (hb hby d4_43) rfl (tlt hc43).2.1 rfl ?_
                  refine own_ru 51 [(.int ((b3 &&& (255 : Int32)).toUInt32.toUInt16.toUInt32.toInt32)), (.ref b312)] XJ322 hx hby e4_46_3 rfl rfl ?_
                  refine own_cV XJ322 hx hZ hown (wd66 hw) (wd67 hw) (notFace_of_selects (args := #[]) (mvT hZ (wd69 hw))) (wd69 hw) (wd68 hw) (by decide) (wd70 hw) (wd49 hw) (rm11u l Z a0 hw [] G1 G2 b312 ((b3 &&& (255 : Int32)).toUInt32.toUInt16.toUInt32.toInt32) (3 : Int32) va3 kv3 (8 : Int32) [(.int y3_0), (.int z3_0), (.int y3_1), (.int z3_1), (.int y3_2), (.int z3_2), (.int (0 : Int32)), (.int (0 : Int32))] hJ322 n0 (by omega) FJ322_0 A fs3_0 fs3_1 fs3_2 fs3_3 fs3_4 fs3_5 fs3_6 (by omega) (by omega) (by decide) (by decide) (by decide) ⟨by decide, by decide⟩ ⟨by decide, by decide⟩ (Nat.le_of_ble_eq_true rfl) (Nat.le_of_ble_eq_true rfl) (by first | assumption | decide | omega)) eJ322 fs3_0 [(.int ((b3 &&& (255 : Int32)).toUInt32.toUInt16.toUInt32.toInt32))] [] 54 0 (hb hby d4_51) rfl (by rw [hml]; rfl) rfl rfl (lenOf pd_26 rfl) rfl (by decide) fun v369 T369 Lc369 X369 hQ369 => ?_
                  obtain ⟨rfl, N369q, K369, G369_0, G369_1, G369_2, G369_3, G369_4, G369_5, G369_6⟩ := hQ369
                  have N369 := Fr.app NJ322 N369q
                  have z369 := K369.1
                  have lt369_0 : @LT.lt Nat _ b312 (Array.size T369.heap) := G369_0.lt
                  have G369_1' : fl8 Z T369.heap b312 (.int (4 : Int32)) := G369_1
                  have lt369_5 : @LT.lt Nat _ va3 (Array.size T369.heap) := G369_5.lt
                  have G369_6' : Arv Z T369.heap va3 kv3 .byte (8 : Int32) [(.int y3_0), (.int z3_0), (.int y3_1), (.int z3_1), (.int y3_2), (.int z3_2), (.int (own_e0 ((b3 &&& (255 : Int32)).toUInt32.toUInt16.toUInt32.toInt32))), (.int (own_e1 ((b3 &&& (255 : Int32)).toUInt32.toUInt16.toUInt32.toInt32)))] (.int (0 : Int32)) := G369_6
                  refine own_ru 55 [] X369 hx hby e4_54_1 rfl rfl ?_
                  refine own_go 90 X369 hx (hb hby d4_55) (by decide) (by decide) ?_
                  refine own_rl 93 #[.val (.ref a1), .val (.ref bb), .val (.int (0 : Int32)), .val (.ref ix_311), .val (.ref b312), .val (.int (4 : Int32)), .val (.int (b3 &&& (255 : Int32))), sl7] [] X369 hx hby e4_90_1 rfl rfl ?_
                  refine own_go 21 X369 hx (hb hby d4_93) (by decide) (by decide) ?_
                  have f370 := (FJ322_0.keep K369 (allS (by omega) (allS (by omega) all0)))
                  have f371 := (Exa.keep FJ322_1 K369)
                  have f372 := (FJ322_2.keep K369 (own_nS (by omega) (own_nS (by omega) nin0)))
                  have f373 := (FJ322_3.keep K369 (own_nS (by omega) (own_nS (by omega) nin0)))
                  have f374 : Unt T369.heap a1 := (Unt.keep K369 (own_nS (by omega) (own_nS (by omega) nin0)) FJ322_4)
                  have f375 := (Exa.keep FJ322_5 K369)
                  have f376 := (FJ322_6.keep K369 (own_nS (by omega) (own_nS (by omega) nin0)))
                  have f377 := (FJ322_7.keep K369 (own_nS (by omega) (own_nS (by omega) nin0)))
                  have f378 := (FJ322_8.keep K369 (own_nS (by omega) (own_nS (by omega) nin0)))
                  have f379 : own_SB44 Z T369.heap n0 b312 (own_exp b0) (own_exp b1) (own_exp b2) (own_exp b3) := Or.inr ⟨va3, kv3, y3_0, y3_1, y3_2, (own_e0 ((b3 &&& (255 : Int32)).toUInt32.toUInt16.toUInt32.toInt32)), z3_0, z3_1, z3_2, (own_e1 ((b3 &&& (255 : Int32)).toUInt32.toUInt16.toUInt32.toInt32)), G369_0, G369_1', G369_2, G369_3, G369_4, G369_5, G369_6', by omega, pe3_0, pe3_1, pe3_2, own_P2 hc43⟩
                  exact J323 _ _ _ sl7 (X369.more (by decide) (by decide)) rfl N369 (by omega) f370 f371 f372 f373 f374 f375 f376 f377 f378 f379 hs_sl7
                · refine own_kY 58 XJ322 hx (hb hby d4_43) rfl (flt hc43).2.1 (by decide) (by decide) ?_
                  refine own_ru 65 [(.int ((b3 &&& (255 : Int32)) - (128 : Int32))), (.ref ix_311)] XJ322 hx hby e4_58_4 rfl rfl ?_
                  refine own_cV XJ322 hx hZ hown (wd179 hw) (wd180 hw) (notFace_of_selects (args := #[]) (mvT hZ (wd182 hw))) (wd182 hw) (wd181 hw) (by decide) (wd183 hw) (wd33 hw) (rm33 l Z a0 hw [] ix_311 ((b3 &&& (255 : Int32)) - (128 : Int32)) ca_311 kk_311 vz_311 hJ322 n0 (by omega) FJ322_6 FJ322_7 (own_jr hc43) U311_0) eJ322 FJ322_5 [(.int ((b3 &&& (255 : Int32)) - (128 : Int32)))] [] 68 0 (hb hby d4_65) rfl (by rw [hml]; rfl) rfl rfl (lenOf pd_11 rfl) rfl (by decide) fun v380 T380 Lc380 X380 hQ380 => ?_
                  obtain ⟨rfl, N380q, e380⟩ := hQ380
                  have N380 := Fr.app NJ322 N380q
                  refine own_sl 70 #[.val (.ref a1), .val (.ref bb), .val (.int (0 : Int32)), .val (.ref ix_311), .val (.ref b312), .val (.int (3 : Int32)), .val (.int (b3 &&& (255 : Int32))), .val (.int (-1 : Int32))] [] (fun t k => XS.istore X380.here hx rfl (hb hby d4_68) rfl (l' := #[.val (.ref a1), .val (.ref bb), .val (.int (0 : Int32)), .val (.ref ix_311), .val (.ref b312), .val (.int (3 : Int32)), .val (.int (b3 &&& (255 : Int32))), .val (.int (-1 : Int32))]) ((XS.store1 (o := sl7) rfl (hs_sl7) rfl).trans rfl) k) ?_
                  refine own_ru 75 [(.int (-1 : Int32)), (.int (-1 : Int32)), (.ref b312)] X380 hx hby e4_70_3 rfl rfl ?_
                  refine own_kN 78 X380 hx (hb hby d4_75) rfl (teq (by decide : ((-1 : Int32) = (-1 : Int32)))).2 rfl ?_
                  refine own_st 80 [(.int (65533 : Int32)), (.ref b312)] (X380.ldcInt hx hown (mvT hZ (wd184 hw)) (g := (mkF m 78 #[.val (.ref a1), .val (.ref bb), .val (.int (0 : Int32)), .val (.ref ix_311), .val (.ref b312), .val (.int (3 : Int32)), .val (.int (b3 &&& (255 : Int32))), .val (.int (-1 : Int32))] [(.ref b312)])) rfl (hb hby d4_78)) ?_
                  refine own_go 86 X380 hx (hb hby d4_80) (by decide) (by decide) ?_
                  refine own_cV X380 hx hZ hown (wd66 hw) (wd67 hw) (notFace_of_selects (args := #[]) (mvT hZ (wd69 hw))) (wd69 hw) (wd68 hw) (by decide) (wd70 hw) (wd49 hw) (rm11u l Z a0 hw [] G1 G2 b312 (65533 : Int32) (3 : Int32) va3 kv3 (8 : Int32) [(.int y3_0), (.int z3_0), (.int y3_1), (.int z3_1), (.int y3_2), (.int z3_2), (.int (0 : Int32)), (.int (0 : Int32))] hJ322 n0 (by omega) FJ322_0 A fs3_0 fs3_1 fs3_2 fs3_3 fs3_4 fs3_5 fs3_6 (by omega) (by omega) (by decide) (by decide) (by decide) ⟨by decide, by decide⟩ ⟨by decide, by decide⟩ (Nat.le_of_ble_eq_true rfl) (Nat.le_of_ble_eq_true rfl) (by first | assumption | decide | omega)) e380 fs3_0 [(.int (65533 : Int32))] [] 89 0 (hb hby d4_86) rfl (by rw [hml]; rfl) rfl rfl (lenOf pd_26 rfl) rfl (by decide) fun v381 T381 Lc381 X381 hQ381 => ?_
                  obtain ⟨rfl, N381q, K381, G381_0, G381_1, G381_2, G381_3, G381_4, G381_5, G381_6⟩ := hQ381
                  have N381 := Fr.app N380 N381q
                  have z381 := K381.1
                  have lt381_0 : @LT.lt Nat _ b312 (Array.size T381.heap) := G381_0.lt
                  have G381_1' : fl8 Z T381.heap b312 (.int (4 : Int32)) := G381_1
                  have lt381_5 : @LT.lt Nat _ va3 (Array.size T381.heap) := G381_5.lt
                  have G381_6' : Arv Z T381.heap va3 kv3 .byte (8 : Int32) [(.int y3_0), (.int z3_0), (.int y3_1), (.int z3_1), (.int y3_2), (.int z3_2), (.int (own_e0 (65533 : Int32))), (.int (own_e1 (65533 : Int32)))] (.int (0 : Int32)) := G381_6
                  refine own_rl 93 #[.val (.ref a1), .val (.ref bb), .val (.int (0 : Int32)), .val (.ref ix_311), .val (.ref b312), .val (.int (4 : Int32)), .val (.int (b3 &&& (255 : Int32))), .val (.int (-1 : Int32))] [] X381 hx hby e4_89_2 rfl rfl ?_
                  refine own_go 21 X381 hx (hb hby d4_93) (by decide) (by decide) ?_
                  have f382 := (FJ322_0.keep K381 (allS (by omega) (allS (by omega) all0)))
                  have f383 := (Exa.keep FJ322_1 K381)
                  have f384 := (FJ322_2.keep K381 (own_nS (by omega) (own_nS (by omega) nin0)))
                  have f385 := (FJ322_3.keep K381 (own_nS (by omega) (own_nS (by omega) nin0)))
                  have f386 : Unt T381.heap a1 := (Unt.keep K381 (own_nS (by omega) (own_nS (by omega) nin0)) FJ322_4)
                  have f387 := (Exa.keep FJ322_5 K381)
                  have f388 := (FJ322_6.keep K381 (own_nS (by omega) (own_nS (by omega) nin0)))
                  have f389 := (FJ322_7.keep K381 (own_nS (by omega) (own_nS (by omega) nin0)))
                  have f390 := (FJ322_8.keep K381 (own_nS (by omega) (own_nS (by omega) nin0)))
                  have f391 : own_SB44 Z T381.heap n0 b312 (own_exp b0) (own_exp b1) (own_exp b2) (own_exp b3) := Or.inr ⟨va3, kv3, y3_0, y3_1, y3_2, (own_e0 (65533 : Int32)), z3_0, z3_1, z3_2, (own_e1 (65533 : Int32)), G381_0, G381_1', G381_2, G381_3, G381_4, G381_5, G381_6', by omega, pe3_0, pe3_1, pe3_2, own_P4 hc43⟩
                  exact J323 _ _ _ (.val (.int (-1 : Int32))) (X381.more (by decide) (by decide)) rfl N381 (by omega) f382 f383 f384 f385 f386 f387 f388 f389 f390 f391 (Or.inr ⟨_, rfl, rfl⟩)
          rcases FJ321_9 with ⟨va2, kv2, y2_0, y2_1, fs2_0, fs2_1, fs2_2, fs2_3, fs2_4, fs2_5, fs2_6, og2, pe2_0, pe2_1⟩ | ⟨va2, kv2, y2_0, y2_1, z2_0, z2_1, fs2_0, fs2_1, fs2_2, fs2_3, fs2_4, fs2_5, fs2_6, og2, pe2_0, pe2_1⟩
          · have ltv2 : @LT.lt Nat _ va2 (Array.size hJ321) := fs2_6.lt
            have lts2 : @LT.lt Nat _ b312 (Array.size hJ321) := fs2_0.lt
            refine own_ru 24 [(.ref bb), (.int (2 : Int32))] XJ321 hx hby e4_21_2 rfl rfl ?_
            refine own_aL XJ321 hx hZ eJ321 FJ321_8 25 rfl (hb hby d4_24) rfl ?_
            refine own_kN 28 XJ321 hx (hb hby d4_25) rfl (tlt (by decide : ((2 : Int32) < (4 : Int32)))).2.1 rfl ?_
            refine own_ru 31 [(.int (2 : Int32)), (.ref bb)] XJ321 hx hby e4_28_2 rfl rfl ?_
            refine own_bL XJ321 hx hZ eJ321 FJ321_8 (x := b2) 32 rfl (hb hby d4_31) rfl ⟨by decide, by decide⟩ rfl ?_
            refine own_rl 43 #[.val (.ref a1), .val (.ref bb), .val (.int (0 : Int32)), .val (.ref ix_311), .val (.ref b312), .val (.int (2 : Int32)), .val (.int (b2 &&& (255 : Int32))), sl7] [(.int (128 : Int32)), (.int (b2 &&& (255 : Int32)))] XJ321 hx hby e4_32_5 rfl rfl ?_
            by_cases hc43 : (b2 &&& (255 : Int32)) < (128 : Int32)
            · refine own_kN 46 XJ321 hx (hb hby d4_43) rfl (tlt hc43).2.1 rfl ?_
              refine own_ru 51 [(.int ((b2 &&& (255 : Int32)).toUInt32.toUInt16.toUInt32.toInt32)), (.ref b312)] XJ321 hx hby e4_46_3 rfl rfl ?_
              refine own_cV XJ321 hx hZ hown (wd66 hw) (wd67 hw) (notFace_of_selects (args := #[]) (mvT hZ (wd69 hw))) (wd69 hw) (wd68 hw) (by decide) (wd70 hw) (wd49 hw) (rm11a l Z a0 hw [] G1 G2 b312 ((b2 &&& (255 : Int32)).toUInt32.toUInt16.toUInt32.toInt32) (2 : Int32) va2 kv2 (4 : Int32) [(.int y2_0), (.int y2_1), (.int (0 : Int32)), (.int (0 : Int32))] hJ321 n0 (by omega) FJ321_0 A fs2_0 fs2_1 fs2_2 fs2_3 fs2_4 fs2_5 fs2_6 (by omega) (by omega) (own_q255 hc43) (by decide) ⟨by decide, by decide⟩ (Nat.le_of_ble_eq_true rfl) (by first | assumption | decide | omega)) eJ321 fs2_0 [(.int ((b2 &&& (255 : Int32)).toUInt32.toUInt16.toUInt32.toInt32))] [] 54 0 (hb hby d4_51) rfl (by rw [hml]; rfl) rfl rfl (lenOf pd_26 rfl) rfl (by decide) fun v392 T392 Lc392 X392 hQ392 => ?_
              obtain ⟨rfl, N392q, K392, G392_0, G392_1, G392_2, G392_3, G392_4, G392_5, G392_6⟩ := hQ392
              have N392 := Fr.app NJ321 N392q
              have z392 := K392.1
              have lt392_0 : @LT.lt Nat _ b312 (Array.size T392.heap) := G392_0.lt
              have G392_1' : fl8 Z T392.heap b312 (.int (3 : Int32)) := G392_1
              have lt392_5 : @LT.lt Nat _ va2 (Array.size T392.heap) := G392_5.lt
              have G392_6' : Arv Z T392.heap va2 kv2 .byte (4 : Int32) [(.int y2_0), (.int y2_1), (.int (own_b8 ((b2 &&& (255 : Int32)).toUInt32.toUInt16.toUInt32.toInt32))), (.int (0 : Int32))] (.int (0 : Int32)) := G392_6
              refine own_ru 55 [] X392 hx hby e4_54_1 rfl rfl ?_
              refine own_go 90 X392 hx (hb hby d4_55) (by decide) (by decide) ?_
              refine own_rl 93 #[.val (.ref a1), .val (.ref bb), .val (.int (0 : Int32)), .val (.ref ix_311), .val (.ref b312), .val (.int (3 : Int32)), .val (.int (b2 &&& (255 : Int32))), sl7] [] X392 hx hby e4_90_1 rfl rfl ?_
              refine own_go 21 X392 hx (hb hby d4_93) (by decide) (by decide) ?_
              have f393 := (FJ321_0.keep K392 (allS (by omega) (allS (by omega) all0)))
              have f394 := (Exa.keep FJ321_1 K392)
              have f395 := (FJ321_2.keep K392 (own_nS (by omega) (own_nS (by omega) nin0)))
              have f396 := (FJ321_3.keep K392 (own_nS (by omega) (own_nS (by omega) nin0)))
              have f397 : Unt T392.heap a1 := (Unt.keep K392 (own_nS (by omega) (own_nS (by omega) nin0)) FJ321_4)
              have f398 := (Exa.keep FJ321_5 K392)
              have f399 := (FJ321_6.keep K392 (own_nS (by omega) (own_nS (by omega) nin0)))
              have f400 := (FJ321_7.keep K392 (own_nS (by omega) (own_nS (by omega) nin0)))
              have f401 := (FJ321_8.keep K392 (own_nS (by omega) (own_nS (by omega) nin0)))
              have f402 : own_SB43 Z T392.heap n0 b312 (own_exp b0) (own_exp b1) (own_exp b2) := Or.inl ⟨va2, kv2, y2_0, y2_1, (own_b8 ((b2 &&& (255 : Int32)).toUInt32.toUInt16.toUInt32.toInt32)), G392_0, G392_1', G392_2, G392_3, G392_4, G392_5, G392_6', by omega, pe2_0, pe2_1, ⟨own_P1 hc43, own_P3 hc43⟩⟩
              exact J322 _ _ _ sl7 (X392.more (by decide) (by decide)) rfl N392 (by omega) f393 f394 f395 f396 f397 f398 f399 f400 f401 f402 hs_sl7
            · refine own_kY 58 XJ321 hx (hb hby d4_43) rfl (flt hc43).2.1 (by decide) (by decide) ?_
              refine own_ru 65 [(.int ((b2 &&& (255 : Int32)) - (128 : Int32))), (.ref ix_311)] XJ321 hx hby e4_58_4 rfl rfl ?_
              refine own_cV XJ321 hx hZ hown (wd179 hw) (wd180 hw) (notFace_of_selects (args := #[]) (mvT hZ (wd182 hw))) (wd182 hw) (wd181 hw) (by decide) (wd183 hw) (wd33 hw) (rm33 l Z a0 hw [] ix_311 ((b2 &&& (255 : Int32)) - (128 : Int32)) ca_311 kk_311 vz_311 hJ321 n0 (by omega) FJ321_6 FJ321_7 (own_jr hc43) U311_0) eJ321 FJ321_5 [(.int ((b2 &&& (255 : Int32)) - (128 : Int32)))] [] 68 0 (hb hby d4_65) rfl (by rw [hml]; rfl) rfl rfl (lenOf pd_11 rfl) rfl (by decide) fun v403 T403 Lc403 X403 hQ403 => ?_
              obtain ⟨rfl, N403q, e403⟩ := hQ403
              have N403 := Fr.app NJ321 N403q
              refine own_sl 70 #[.val (.ref a1), .val (.ref bb), .val (.int (0 : Int32)), .val (.ref ix_311), .val (.ref b312), .val (.int (2 : Int32)), .val (.int (b2 &&& (255 : Int32))), .val (.int (-1 : Int32))] [] (fun t k => XS.istore X403.here hx rfl (hb hby d4_68) rfl (l' := #[.val (.ref a1), .val (.ref bb), .val (.int (0 : Int32)), .val (.ref ix_311), .val (.ref b312), .val (.int (2 : Int32)), .val (.int (b2 &&& (255 : Int32))), .val (.int (-1 : Int32))]) ((XS.store1 (o := sl7) rfl (hs_sl7) rfl).trans rfl) k) ?_
              refine own_ru 75 [(.int (-1 : Int32)), (.int (-1 : Int32)), (.ref b312)] X403 hx hby e4_70_3 rfl rfl ?_
              refine own_kN 78 X403 hx (hb hby d4_75) rfl (teq (by decide : ((-1 : Int32) = (-1 : Int32)))).2 rfl ?_
              refine own_st 80 [(.int (65533 : Int32)), (.ref b312)] (X403.ldcInt hx hown (mvT hZ (wd184 hw)) (g := (mkF m 78 #[.val (.ref a1), .val (.ref bb), .val (.int (0 : Int32)), .val (.ref ix_311), .val (.ref b312), .val (.int (2 : Int32)), .val (.int (b2 &&& (255 : Int32))), .val (.int (-1 : Int32))] [(.ref b312)])) rfl (hb hby d4_78)) ?_
              refine own_go 86 X403 hx (hb hby d4_80) (by decide) (by decide) ?_
              refine own_cV X403 hx hZ hown (wd66 hw) (wd67 hw) (notFace_of_selects (args := #[]) (mvT hZ (wd69 hw))) (wd69 hw) (wd68 hw) (by decide) (wd70 hw) (wd49 hw) (rm11i l Z a0 hw [] G1 G2 b312 va2 kv2 (4 : Int32) (2 : Int32) ([y2_0, y2_1] : List Int32) 4 hJ321 n0 (by omega) FJ321_0 A fs2_0 fs2_1 fs2_2 fs2_3 fs2_4 fs2_5 fs2_6 (by omega) (by decide) rfl rfl rfl (Nat.le_of_ble_eq_true rfl) (by decide) (by decide) (by decide) (by decide) (by decide) (by decide) (by decide) (by decide) (by decide) ⟨by decide, by decide⟩ ⟨by decide, by decide⟩ (Nat.le_of_ble_eq_true rfl) (Nat.le_of_ble_eq_true rfl) (by first | assumption | decide | omega)) e403 fs2_0 [(.int (65533 : Int32))] [] 89 0 (hb hby d4_86) rfl (by rw [hml]; rfl) rfl rfl (lenOf pd_26 rfl) rfl (by decide) fun v404 T404 Lc404 X404 hQ404 => ?_
              obtain ⟨vb_404, kb_404, rfl, N404q, K404, G404_0, G404_1, G404_2, G404_3, G404_4, G404_5, G404_6, U404_0⟩ := hQ404
              have N404 := Fr.app N403 N404q
              have z404 := K404.1
              have lt404_0 : @LT.lt Nat _ b312 (Array.size T404.heap) := G404_0.lt
              have G404_1' : fl8 Z T404.heap b312 (.int (3 : Int32)) := G404_1
              have lt404_5 : @LT.lt Nat _ vb_404 (Array.size T404.heap) := G404_5.lt
              have G404_6' : Arv Z T404.heap vb_404 kb_404 .byte (8 : Int32) [(.int (own_e0 (y2_0 &&& (255 : Int32)))), (.int (own_e1 (y2_0 &&& (255 : Int32)))), (.int (own_e0 (y2_1 &&& (255 : Int32)))), (.int (own_e1 (y2_1 &&& (255 : Int32)))), (.int (own_e0 (65533 : Int32))), (.int (own_e1 (65533 : Int32))), (.int (0 : Int32)), (.int (0 : Int32))] (.int (0 : Int32)) := G404_6
              refine own_rl 93 #[.val (.ref a1), .val (.ref bb), .val (.int (0 : Int32)), .val (.ref ix_311), .val (.ref b312), .val (.int (3 : Int32)), .val (.int (b2 &&& (255 : Int32))), .val (.int (-1 : Int32))] [] X404 hx hby e4_89_2 rfl rfl ?_
              refine own_go 21 X404 hx (hb hby d4_93) (by decide) (by decide) ?_
              have f405 := (FJ321_0.keep K404 (allS (by omega) all0))
              have f406 := (Exa.keep FJ321_1 K404)
              have f407 := (FJ321_2.keep K404 (own_nS (by omega) nin0))
              have f408 := (FJ321_3.keep K404 (own_nS (by omega) nin0))
              have f409 : Unt T404.heap a1 := (Unt.keep K404 (own_nS (by omega) nin0) FJ321_4)
              have f410 := (Exa.keep FJ321_5 K404)
              have f411 := (FJ321_6.keep K404 (own_nS (by omega) nin0))
              have f412 := (FJ321_7.keep K404 (own_nS (by omega) nin0))
              have f413 := (FJ321_8.keep K404 (own_nS (by omega) nin0))
              have f414 : own_SB43 Z T404.heap n0 b312 (own_exp b0) (own_exp b1) (own_exp b2) := Or.inr ⟨vb_404, kb_404, (own_e0 (y2_0 &&& (255 : Int32))), (own_e0 (y2_1 &&& (255 : Int32))), (own_e0 (65533 : Int32)), (own_e1 (y2_0 &&& (255 : Int32))), (own_e1 (y2_1 &&& (255 : Int32))), (own_e1 (65533 : Int32)), G404_0, G404_1', G404_2, G404_3, G404_4, G404_5, G404_6', by omega, pe2_0.2, pe2_1.2, own_P4 hc43⟩
              exact J322 _ _ _ (.val (.int (-1 : Int32))) (X404.more (by decide) (by decide)) rfl N404 (by omega) f405 f406 f407 f408 f409 f410 f411 f412 f413 f414 (Or.inr ⟨_, rfl, rfl⟩)
          · have ltv2 : @LT.lt Nat _ va2 (Array.size hJ321) := fs2_6.lt
            have lts2 : @LT.lt Nat _ b312 (Array.size hJ321) := fs2_0.lt
            refine own_ru 24 [(.ref bb), (.int (2 : Int32))] XJ321 hx hby e4_21_2 rfl rfl ?_
            refine own_aL XJ321 hx hZ eJ321 FJ321_8 25 rfl (hb hby d4_24) rfl ?_
            refine own_kN 28 XJ321 hx (hb hby d4_25) rfl (tlt (by decide : ((2 : Int32) < (4 : Int32)))).2.1 rfl ?_
            refine own_ru 31 [(.int (2 : Int32)), (.ref bb)] XJ321 hx hby e4_28_2 rfl rfl ?_
            refine own_bL XJ321 hx hZ eJ321 FJ321_8 (x := b2) 32 rfl (hb hby d4_31) rfl ⟨by decide, by decide⟩ rfl ?_
            refine own_rl 43 #[.val (.ref a1), .val (.ref bb), .val (.int (0 : Int32)), .val (.ref ix_311), .val (.ref b312), .val (.int (2 : Int32)), .val (.int (b2 &&& (255 : Int32))), sl7] [(.int (128 : Int32)), (.int (b2 &&& (255 : Int32)))] XJ321 hx hby e4_32_5 rfl rfl ?_
            by_cases hc43 : (b2 &&& (255 : Int32)) < (128 : Int32)
            · refine own_kN 46 XJ321 hx (hb hby d4_43) rfl (tlt hc43).2.1 rfl ?_
              refine own_ru 51 [(.int ((b2 &&& (255 : Int32)).toUInt32.toUInt16.toUInt32.toInt32)), (.ref b312)] XJ321 hx hby e4_46_3 rfl rfl ?_
              refine own_cV XJ321 hx hZ hown (wd66 hw) (wd67 hw) (notFace_of_selects (args := #[]) (mvT hZ (wd69 hw))) (wd69 hw) (wd68 hw) (by decide) (wd70 hw) (wd49 hw) (rm11u l Z a0 hw [] G1 G2 b312 ((b2 &&& (255 : Int32)).toUInt32.toUInt16.toUInt32.toInt32) (2 : Int32) va2 kv2 (8 : Int32) [(.int y2_0), (.int z2_0), (.int y2_1), (.int z2_1), (.int (0 : Int32)), (.int (0 : Int32)), (.int (0 : Int32)), (.int (0 : Int32))] hJ321 n0 (by omega) FJ321_0 A fs2_0 fs2_1 fs2_2 fs2_3 fs2_4 fs2_5 fs2_6 (by omega) (by omega) (by decide) (by decide) (by decide) ⟨by decide, by decide⟩ ⟨by decide, by decide⟩ (Nat.le_of_ble_eq_true rfl) (Nat.le_of_ble_eq_true rfl) (by first | assumption | decide | omega)) eJ321 fs2_0 [(.int ((b2 &&& (255 : Int32)).toUInt32.toUInt16.toUInt32.toInt32))] [] 54 0 (hb hby d4_51) rfl (by rw [hml]; rfl) rfl rfl (lenOf pd_26 rfl) rfl (by decide) fun v415 T415 Lc415 X415 hQ415 => ?_
              obtain ⟨rfl, N415q, K415, G415_0, G415_1, G415_2, G415_3, G415_4, G415_5, G415_6⟩ := hQ415
              have N415 := Fr.app NJ321 N415q
              have z415 := K415.1
              have lt415_0 : @LT.lt Nat _ b312 (Array.size T415.heap) := G415_0.lt
              have G415_1' : fl8 Z T415.heap b312 (.int (3 : Int32)) := G415_1
              have lt415_5 : @LT.lt Nat _ va2 (Array.size T415.heap) := G415_5.lt
              have G415_6' : Arv Z T415.heap va2 kv2 .byte (8 : Int32) [(.int y2_0), (.int z2_0), (.int y2_1), (.int z2_1), (.int (own_e0 ((b2 &&& (255 : Int32)).toUInt32.toUInt16.toUInt32.toInt32))), (.int (own_e1 ((b2 &&& (255 : Int32)).toUInt32.toUInt16.toUInt32.toInt32))), (.int (0 : Int32)), (.int (0 : Int32))] (.int (0 : Int32)) := G415_6
              refine own_ru 55 [] X415 hx hby e4_54_1 rfl rfl ?_
              refine own_go 90 X415 hx (hb hby d4_55) (by decide) (by decide) ?_
              refine own_rl 93 #[.val (.ref a1), .val (.ref bb), .val (.int (0 : Int32)), .val (.ref ix_311), .val (.ref b312), .val (.int (3 : Int32)), .val (.int (b2 &&& (255 : Int32))), sl7] [] X415 hx hby e4_90_1 rfl rfl ?_
              refine own_go 21 X415 hx (hb hby d4_93) (by decide) (by decide) ?_
              have f416 := (FJ321_0.keep K415 (allS (by omega) (allS (by omega) all0)))
              have f417 := (Exa.keep FJ321_1 K415)
              have f418 := (FJ321_2.keep K415 (own_nS (by omega) (own_nS (by omega) nin0)))
              have f419 := (FJ321_3.keep K415 (own_nS (by omega) (own_nS (by omega) nin0)))
              have f420 : Unt T415.heap a1 := (Unt.keep K415 (own_nS (by omega) (own_nS (by omega) nin0)) FJ321_4)
              have f421 := (Exa.keep FJ321_5 K415)
              have f422 := (FJ321_6.keep K415 (own_nS (by omega) (own_nS (by omega) nin0)))
              have f423 := (FJ321_7.keep K415 (own_nS (by omega) (own_nS (by omega) nin0)))
              have f424 := (FJ321_8.keep K415 (own_nS (by omega) (own_nS (by omega) nin0)))
              have f425 : own_SB43 Z T415.heap n0 b312 (own_exp b0) (own_exp b1) (own_exp b2) := Or.inr ⟨va2, kv2, y2_0, y2_1, (own_e0 ((b2 &&& (255 : Int32)).toUInt32.toUInt16.toUInt32.toInt32)), z2_0, z2_1, (own_e1 ((b2 &&& (255 : Int32)).toUInt32.toUInt16.toUInt32.toInt32)), G415_0, G415_1', G415_2, G415_3, G415_4, G415_5, G415_6', by omega, pe2_0, pe2_1, own_P2 hc43⟩
              exact J322 _ _ _ sl7 (X415.more (by decide) (by decide)) rfl N415 (by omega) f416 f417 f418 f419 f420 f421 f422 f423 f424 f425 hs_sl7
            · refine own_kY 58 XJ321 hx (hb hby d4_43) rfl (flt hc43).2.1 (by decide) (by decide) ?_
              refine own_ru 65 [(.int ((b2 &&& (255 : Int32)) - (128 : Int32))), (.ref ix_311)] XJ321 hx hby e4_58_4 rfl rfl ?_
              refine own_cV XJ321 hx hZ hown (wd179 hw) (wd180 hw) (notFace_of_selects (args := #[]) (mvT hZ (wd182 hw))) (wd182 hw) (wd181 hw) (by decide) (wd183 hw) (wd33 hw) (rm33 l Z a0 hw [] ix_311 ((b2 &&& (255 : Int32)) - (128 : Int32)) ca_311 kk_311 vz_311 hJ321 n0 (by omega) FJ321_6 FJ321_7 (own_jr hc43) U311_0) eJ321 FJ321_5 [(.int ((b2 &&& (255 : Int32)) - (128 : Int32)))] [] 68 0 (hb hby d4_65) rfl (by rw [hml]; rfl) rfl rfl (lenOf pd_11 rfl) rfl (by decide) fun v426 T426 Lc426 X426 hQ426 => ?_
              obtain ⟨rfl, N426q, e426⟩ := hQ426
              have N426 := Fr.app NJ321 N426q
              refine own_sl 70 #[.val (.ref a1), .val (.ref bb), .val (.int (0 : Int32)), .val (.ref ix_311), .val (.ref b312), .val (.int (2 : Int32)), .val (.int (b2 &&& (255 : Int32))), .val (.int (-1 : Int32))] [] (fun t k => XS.istore X426.here hx rfl (hb hby d4_68) rfl (l' := #[.val (.ref a1), .val (.ref bb), .val (.int (0 : Int32)), .val (.ref ix_311), .val (.ref b312), .val (.int (2 : Int32)), .val (.int (b2 &&& (255 : Int32))), .val (.int (-1 : Int32))]) ((XS.store1 (o := sl7) rfl (hs_sl7) rfl).trans rfl) k) ?_
              refine own_ru 75 [(.int (-1 : Int32)), (.int (-1 : Int32)), (.ref b312)] X426 hx hby e4_70_3 rfl rfl ?_
              refine own_kN 78 X426 hx (hb hby d4_75) rfl (teq (by decide : ((-1 : Int32) = (-1 : Int32)))).2 rfl ?_
              refine own_st 80 [(.int (65533 : Int32)), (.ref b312)] (X426.ldcInt hx hown (mvT hZ (wd184 hw)) (g := (mkF m 78 #[.val (.ref a1), .val (.ref bb), .val (.int (0 : Int32)), .val (.ref ix_311), .val (.ref b312), .val (.int (2 : Int32)), .val (.int (b2 &&& (255 : Int32))), .val (.int (-1 : Int32))] [(.ref b312)])) rfl (hb hby d4_78)) ?_
              refine own_go 86 X426 hx (hb hby d4_80) (by decide) (by decide) ?_
              refine own_cV X426 hx hZ hown (wd66 hw) (wd67 hw) (notFace_of_selects (args := #[]) (mvT hZ (wd69 hw))) (wd69 hw) (wd68 hw) (by decide) (wd70 hw) (wd49 hw) (rm11u l Z a0 hw [] G1 G2 b312 (65533 : Int32) (2 : Int32) va2 kv2 (8 : Int32) [(.int y2_0), (.int z2_0), (.int y2_1), (.int z2_1), (.int (0 : Int32)), (.int (0 : Int32)), (.int (0 : Int32)), (.int (0 : Int32))] hJ321 n0 (by omega) FJ321_0 A fs2_0 fs2_1 fs2_2 fs2_3 fs2_4 fs2_5 fs2_6 (by omega) (by omega) (by decide) (by decide) (by decide) ⟨by decide, by decide⟩ ⟨by decide, by decide⟩ (Nat.le_of_ble_eq_true rfl) (Nat.le_of_ble_eq_true rfl) (by first | assumption | decide | omega)) e426 fs2_0 [(.int (65533 : Int32))] [] 89 0 (hb hby d4_86) rfl (by rw [hml]; rfl) rfl rfl (lenOf pd_26 rfl) rfl (by decide) fun v427 T427 Lc427 X427 hQ427 => ?_
              obtain ⟨rfl, N427q, K427, G427_0, G427_1, G427_2, G427_3, G427_4, G427_5, G427_6⟩ := hQ427
              have N427 := Fr.app N426 N427q
              have z427 := K427.1
              have lt427_0 : @LT.lt Nat _ b312 (Array.size T427.heap) := G427_0.lt
              have G427_1' : fl8 Z T427.heap b312 (.int (3 : Int32)) := G427_1
              have lt427_5 : @LT.lt Nat _ va2 (Array.size T427.heap) := G427_5.lt
              have G427_6' : Arv Z T427.heap va2 kv2 .byte (8 : Int32) [(.int y2_0), (.int z2_0), (.int y2_1), (.int z2_1), (.int (own_e0 (65533 : Int32))), (.int (own_e1 (65533 : Int32))), (.int (0 : Int32)), (.int (0 : Int32))] (.int (0 : Int32)) := G427_6
              refine own_rl 93 #[.val (.ref a1), .val (.ref bb), .val (.int (0 : Int32)), .val (.ref ix_311), .val (.ref b312), .val (.int (3 : Int32)), .val (.int (b2 &&& (255 : Int32))), .val (.int (-1 : Int32))] [] X427 hx hby e4_89_2 rfl rfl ?_
              refine own_go 21 X427 hx (hb hby d4_93) (by decide) (by decide) ?_
              have f428 := (FJ321_0.keep K427 (allS (by omega) (allS (by omega) all0)))
              have f429 := (Exa.keep FJ321_1 K427)
              have f430 := (FJ321_2.keep K427 (own_nS (by omega) (own_nS (by omega) nin0)))
              have f431 := (FJ321_3.keep K427 (own_nS (by omega) (own_nS (by omega) nin0)))
              have f432 : Unt T427.heap a1 := (Unt.keep K427 (own_nS (by omega) (own_nS (by omega) nin0)) FJ321_4)
              have f433 := (Exa.keep FJ321_5 K427)
              have f434 := (FJ321_6.keep K427 (own_nS (by omega) (own_nS (by omega) nin0)))
              have f435 := (FJ321_7.keep K427 (own_nS (by omega) (own_nS (by omega) nin0)))
              have f436 := (FJ321_8.keep K427 (own_nS (by omega) (own_nS (by omega) nin0)))
              have f437 : own_SB43 Z T427.heap n0 b312 (own_exp b0) (own_exp b1) (own_exp b2) := Or.inr ⟨va2, kv2, y2_0, y2_1, (own_e0 (65533 : Int32)), z2_0, z2_1, (own_e1 (65533 : Int32)), G427_0, G427_1', G427_2, G427_3, G427_4, G427_5, G427_6', by omega, pe2_0, pe2_1, own_P4 hc43⟩
              exact J322 _ _ _ (.val (.int (-1 : Int32))) (X427.more (by decide) (by decide)) rfl N427 (by omega) f428 f429 f430 f431 f432 f433 f434 f435 f436 f437 (Or.inr ⟨_, rfl, rfl⟩)
      rcases FJ320_9 with ⟨va1, kv1, y1_0, fs1_0, fs1_1, fs1_2, fs1_3, fs1_4, fs1_5, fs1_6, og1, pe1_0⟩ | ⟨va1, kv1, y1_0, z1_0, fs1_0, fs1_1, fs1_2, fs1_3, fs1_4, fs1_5, fs1_6, og1, pe1_0⟩
      · have ltv1 : @LT.lt Nat _ va1 (Array.size hJ320) := fs1_6.lt
        have lts1 : @LT.lt Nat _ b312 (Array.size hJ320) := fs1_0.lt
        refine own_ru 24 [(.ref bb), (.int (1 : Int32))] XJ320 hx hby e4_21_2 rfl rfl ?_
        refine own_aL XJ320 hx hZ eJ320 FJ320_8 25 rfl (hb hby d4_24) rfl ?_
        refine own_kN 28 XJ320 hx (hb hby d4_25) rfl (tlt (by decide : ((1 : Int32) < (4 : Int32)))).2.1 rfl ?_
        refine own_ru 31 [(.int (1 : Int32)), (.ref bb)] XJ320 hx hby e4_28_2 rfl rfl ?_
        refine own_bL XJ320 hx hZ eJ320 FJ320_8 (x := b1) 32 rfl (hb hby d4_31) rfl ⟨by decide, by decide⟩ rfl ?_
        refine own_rl 43 #[.val (.ref a1), .val (.ref bb), .val (.int (0 : Int32)), .val (.ref ix_311), .val (.ref b312), .val (.int (1 : Int32)), .val (.int (b1 &&& (255 : Int32))), sl7] [(.int (128 : Int32)), (.int (b1 &&& (255 : Int32)))] XJ320 hx hby e4_32_5 rfl rfl ?_
        by_cases hc43 : (b1 &&& (255 : Int32)) < (128 : Int32)
        · refine own_kN 46 XJ320 hx (hb hby d4_43) rfl (tlt hc43).2.1 rfl ?_
          refine own_ru 51 [(.int ((b1 &&& (255 : Int32)).toUInt32.toUInt16.toUInt32.toInt32)), (.ref b312)] XJ320 hx hby e4_46_3 rfl rfl ?_
          refine own_cV XJ320 hx hZ hown (wd66 hw) (wd67 hw) (notFace_of_selects (args := #[]) (mvT hZ (wd69 hw))) (wd69 hw) (wd68 hw) (by decide) (wd70 hw) (wd49 hw) (rm11a l Z a0 hw [] G1 G2 b312 ((b1 &&& (255 : Int32)).toUInt32.toUInt16.toUInt32.toInt32) (1 : Int32) va1 kv1 (4 : Int32) [(.int y1_0), (.int (0 : Int32)), (.int (0 : Int32)), (.int (0 : Int32))] hJ320 n0 (by omega) FJ320_0 A fs1_0 fs1_1 fs1_2 fs1_3 fs1_4 fs1_5 fs1_6 (by omega) (by omega) (own_q255 hc43) (by decide) ⟨by decide, by decide⟩ (Nat.le_of_ble_eq_true rfl) (by first | assumption | decide | omega)) eJ320 fs1_0 [(.int ((b1 &&& (255 : Int32)).toUInt32.toUInt16.toUInt32.toInt32))] [] 54 0 (hb hby d4_51) rfl (by rw [hml]; rfl) rfl rfl (lenOf pd_26 rfl) rfl (by decide) fun v438 T438 Lc438 X438 hQ438 => ?_
          obtain ⟨rfl, N438q, K438, G438_0, G438_1, G438_2, G438_3, G438_4, G438_5, G438_6⟩ := hQ438
          have N438 := Fr.app NJ320 N438q
          have z438 := K438.1
          have lt438_0 : @LT.lt Nat _ b312 (Array.size T438.heap) := G438_0.lt
          have G438_1' : fl8 Z T438.heap b312 (.int (2 : Int32)) := G438_1
          have lt438_5 : @LT.lt Nat _ va1 (Array.size T438.heap) := G438_5.lt
          have G438_6' : Arv Z T438.heap va1 kv1 .byte (4 : Int32) [(.int y1_0), (.int (own_b8 ((b1 &&& (255 : Int32)).toUInt32.toUInt16.toUInt32.toInt32))), (.int (0 : Int32)), (.int (0 : Int32))] (.int (0 : Int32)) := G438_6
          refine own_ru 55 [] X438 hx hby e4_54_1 rfl rfl ?_
          refine own_go 90 X438 hx (hb hby d4_55) (by decide) (by decide) ?_
          refine own_rl 93 #[.val (.ref a1), .val (.ref bb), .val (.int (0 : Int32)), .val (.ref ix_311), .val (.ref b312), .val (.int (2 : Int32)), .val (.int (b1 &&& (255 : Int32))), sl7] [] X438 hx hby e4_90_1 rfl rfl ?_
          refine own_go 21 X438 hx (hb hby d4_93) (by decide) (by decide) ?_
          have f439 := (FJ320_0.keep K438 (allS (by omega) (allS (by omega) all0)))
          have f440 := (Exa.keep FJ320_1 K438)
          have f441 := (FJ320_2.keep K438 (own_nS (by omega) (own_nS (by omega) nin0)))
          have f442 := (FJ320_3.keep K438 (own_nS (by omega) (own_nS (by omega) nin0)))
          have f443 : Unt T438.heap a1 := (Unt.keep K438 (own_nS (by omega) (own_nS (by omega) nin0)) FJ320_4)
          have f444 := (Exa.keep FJ320_5 K438)
          have f445 := (FJ320_6.keep K438 (own_nS (by omega) (own_nS (by omega) nin0)))
          have f446 := (FJ320_7.keep K438 (own_nS (by omega) (own_nS (by omega) nin0)))
          have f447 := (FJ320_8.keep K438 (own_nS (by omega) (own_nS (by omega) nin0)))
          have f448 : own_SB42 Z T438.heap n0 b312 (own_exp b0) (own_exp b1) := Or.inl ⟨va1, kv1, y1_0, (own_b8 ((b1 &&& (255 : Int32)).toUInt32.toUInt16.toUInt32.toInt32)), G438_0, G438_1', G438_2, G438_3, G438_4, G438_5, G438_6', by omega, pe1_0, ⟨own_P1 hc43, own_P3 hc43⟩⟩
          exact J321 _ _ _ sl7 (X438.more (by decide) (by decide)) rfl N438 (by omega) f439 f440 f441 f442 f443 f444 f445 f446 f447 f448 hs_sl7
        · refine own_kY 58 XJ320 hx (hb hby d4_43) rfl (flt hc43).2.1 (by decide) (by decide) ?_
          refine own_ru 65 [(.int ((b1 &&& (255 : Int32)) - (128 : Int32))), (.ref ix_311)] XJ320 hx hby e4_58_4 rfl rfl ?_
          refine own_cV XJ320 hx hZ hown (wd179 hw) (wd180 hw) (notFace_of_selects (args := #[]) (mvT hZ (wd182 hw))) (wd182 hw) (wd181 hw) (by decide) (wd183 hw) (wd33 hw) (rm33 l Z a0 hw [] ix_311 ((b1 &&& (255 : Int32)) - (128 : Int32)) ca_311 kk_311 vz_311 hJ320 n0 (by omega) FJ320_6 FJ320_7 (own_jr hc43) U311_0) eJ320 FJ320_5 [(.int ((b1 &&& (255 : Int32)) - (128 : Int32)))] [] 68 0 (hb hby d4_65) rfl (by rw [hml]; rfl) rfl rfl (lenOf pd_11 rfl) rfl (by decide) fun v449 T449 Lc449 X449 hQ449 => ?_
          obtain ⟨rfl, N449q, e449⟩ := hQ449
          have N449 := Fr.app NJ320 N449q
          refine own_sl 70 #[.val (.ref a1), .val (.ref bb), .val (.int (0 : Int32)), .val (.ref ix_311), .val (.ref b312), .val (.int (1 : Int32)), .val (.int (b1 &&& (255 : Int32))), .val (.int (-1 : Int32))] [] (fun t k => XS.istore X449.here hx rfl (hb hby d4_68) rfl (l' := #[.val (.ref a1), .val (.ref bb), .val (.int (0 : Int32)), .val (.ref ix_311), .val (.ref b312), .val (.int (1 : Int32)), .val (.int (b1 &&& (255 : Int32))), .val (.int (-1 : Int32))]) ((XS.store1 (o := sl7) rfl (hs_sl7) rfl).trans rfl) k) ?_
          refine own_ru 75 [(.int (-1 : Int32)), (.int (-1 : Int32)), (.ref b312)] X449 hx hby e4_70_3 rfl rfl ?_
          refine own_kN 78 X449 hx (hb hby d4_75) rfl (teq (by decide : ((-1 : Int32) = (-1 : Int32)))).2 rfl ?_
          refine own_st 80 [(.int (65533 : Int32)), (.ref b312)] (X449.ldcInt hx hown (mvT hZ (wd184 hw)) (g := (mkF m 78 #[.val (.ref a1), .val (.ref bb), .val (.int (0 : Int32)), .val (.ref ix_311), .val (.ref b312), .val (.int (1 : Int32)), .val (.int (b1 &&& (255 : Int32))), .val (.int (-1 : Int32))] [(.ref b312)])) rfl (hb hby d4_78)) ?_
          refine own_go 86 X449 hx (hb hby d4_80) (by decide) (by decide) ?_
          refine own_cV X449 hx hZ hown (wd66 hw) (wd67 hw) (notFace_of_selects (args := #[]) (mvT hZ (wd69 hw))) (wd69 hw) (wd68 hw) (by decide) (wd70 hw) (wd49 hw) (rm11i l Z a0 hw [] G1 G2 b312 va1 kv1 (4 : Int32) (1 : Int32) ([y1_0] : List Int32) 4 hJ320 n0 (by omega) FJ320_0 A fs1_0 fs1_1 fs1_2 fs1_3 fs1_4 fs1_5 fs1_6 (by omega) (by decide) rfl rfl rfl (Nat.le_of_ble_eq_true rfl) (by decide) (by decide) (by decide) (by decide) (by decide) (by decide) (by decide) (by decide) (by decide) ⟨by decide, by decide⟩ ⟨by decide, by decide⟩ (Nat.le_of_ble_eq_true rfl) (Nat.le_of_ble_eq_true rfl) (by first | assumption | decide | omega)) e449 fs1_0 [(.int (65533 : Int32))] [] 89 0 (hb hby d4_86) rfl (by rw [hml]; rfl) rfl rfl (lenOf pd_26 rfl) rfl (by decide) fun v450 T450 Lc450 X450 hQ450 => ?_
          obtain ⟨vb_450, kb_450, rfl, N450q, K450, G450_0, G450_1, G450_2, G450_3, G450_4, G450_5, G450_6, U450_0⟩ := hQ450
          have N450 := Fr.app N449 N450q
          have z450 := K450.1
          have lt450_0 : @LT.lt Nat _ b312 (Array.size T450.heap) := G450_0.lt
          have G450_1' : fl8 Z T450.heap b312 (.int (2 : Int32)) := G450_1
          have lt450_5 : @LT.lt Nat _ vb_450 (Array.size T450.heap) := G450_5.lt
          have G450_6' : Arv Z T450.heap vb_450 kb_450 .byte (8 : Int32) [(.int (own_e0 (y1_0 &&& (255 : Int32)))), (.int (own_e1 (y1_0 &&& (255 : Int32)))), (.int (own_e0 (65533 : Int32))), (.int (own_e1 (65533 : Int32))), (.int (0 : Int32)), (.int (0 : Int32)), (.int (0 : Int32)), (.int (0 : Int32))] (.int (0 : Int32)) := G450_6
          refine own_rl 93 #[.val (.ref a1), .val (.ref bb), .val (.int (0 : Int32)), .val (.ref ix_311), .val (.ref b312), .val (.int (2 : Int32)), .val (.int (b1 &&& (255 : Int32))), .val (.int (-1 : Int32))] [] X450 hx hby e4_89_2 rfl rfl ?_
          refine own_go 21 X450 hx (hb hby d4_93) (by decide) (by decide) ?_
          have f451 := (FJ320_0.keep K450 (allS (by omega) all0))
          have f452 := (Exa.keep FJ320_1 K450)
          have f453 := (FJ320_2.keep K450 (own_nS (by omega) nin0))
          have f454 := (FJ320_3.keep K450 (own_nS (by omega) nin0))
          have f455 : Unt T450.heap a1 := (Unt.keep K450 (own_nS (by omega) nin0) FJ320_4)
          have f456 := (Exa.keep FJ320_5 K450)
          have f457 := (FJ320_6.keep K450 (own_nS (by omega) nin0))
          have f458 := (FJ320_7.keep K450 (own_nS (by omega) nin0))
          have f459 := (FJ320_8.keep K450 (own_nS (by omega) nin0))
          have f460 : own_SB42 Z T450.heap n0 b312 (own_exp b0) (own_exp b1) := Or.inr ⟨vb_450, kb_450, (own_e0 (y1_0 &&& (255 : Int32))), (own_e0 (65533 : Int32)), (own_e1 (y1_0 &&& (255 : Int32))), (own_e1 (65533 : Int32)), G450_0, G450_1', G450_2, G450_3, G450_4, G450_5, G450_6', by omega, pe1_0.2, own_P4 hc43⟩
          exact J321 _ _ _ (.val (.int (-1 : Int32))) (X450.more (by decide) (by decide)) rfl N450 (by omega) f451 f452 f453 f454 f455 f456 f457 f458 f459 f460 (Or.inr ⟨_, rfl, rfl⟩)
      · have ltv1 : @LT.lt Nat _ va1 (Array.size hJ320) := fs1_6.lt
        have lts1 : @LT.lt Nat _ b312 (Array.size hJ320) := fs1_0.lt
        refine own_ru 24 [(.ref bb), (.int (1 : Int32))] XJ320 hx hby e4_21_2 rfl rfl ?_
        refine own_aL XJ320 hx hZ eJ320 FJ320_8 25 rfl (hb hby d4_24) rfl ?_
        refine own_kN 28 XJ320 hx (hb hby d4_25) rfl (tlt (by decide : ((1 : Int32) < (4 : Int32)))).2.1 rfl ?_
        refine own_ru 31 [(.int (1 : Int32)), (.ref bb)] XJ320 hx hby e4_28_2 rfl rfl ?_
        refine own_bL XJ320 hx hZ eJ320 FJ320_8 (x := b1) 32 rfl (hb hby d4_31) rfl ⟨by decide, by decide⟩ rfl ?_
        refine own_rl 43 #[.val (.ref a1), .val (.ref bb), .val (.int (0 : Int32)), .val (.ref ix_311), .val (.ref b312), .val (.int (1 : Int32)), .val (.int (b1 &&& (255 : Int32))), sl7] [(.int (128 : Int32)), (.int (b1 &&& (255 : Int32)))] XJ320 hx hby e4_32_5 rfl rfl ?_
        by_cases hc43 : (b1 &&& (255 : Int32)) < (128 : Int32)
        · refine own_kN 46 XJ320 hx (hb hby d4_43) rfl (tlt hc43).2.1 rfl ?_
          refine own_ru 51 [(.int ((b1 &&& (255 : Int32)).toUInt32.toUInt16.toUInt32.toInt32)), (.ref b312)] XJ320 hx hby e4_46_3 rfl rfl ?_
          refine own_cV XJ320 hx hZ hown (wd66 hw) (wd67 hw) (notFace_of_selects (args := #[]) (mvT hZ (wd69 hw))) (wd69 hw) (wd68 hw) (by decide) (wd70 hw) (wd49 hw) (rm11u l Z a0 hw [] G1 G2 b312 ((b1 &&& (255 : Int32)).toUInt32.toUInt16.toUInt32.toInt32) (1 : Int32) va1 kv1 (8 : Int32) [(.int y1_0), (.int z1_0), (.int (0 : Int32)), (.int (0 : Int32)), (.int (0 : Int32)), (.int (0 : Int32)), (.int (0 : Int32)), (.int (0 : Int32))] hJ320 n0 (by omega) FJ320_0 A fs1_0 fs1_1 fs1_2 fs1_3 fs1_4 fs1_5 fs1_6 (by omega) (by omega) (by decide) (by decide) (by decide) ⟨by decide, by decide⟩ ⟨by decide, by decide⟩ (Nat.le_of_ble_eq_true rfl) (Nat.le_of_ble_eq_true rfl) (by first | assumption | decide | omega)) eJ320 fs1_0 [(.int ((b1 &&& (255 : Int32)).toUInt32.toUInt16.toUInt32.toInt32))] [] 54 0 (hb hby d4_51) rfl (by rw [hml]; rfl) rfl rfl (lenOf pd_26 rfl) rfl (by decide) fun v461 T461 Lc461 X461 hQ461 => ?_
          obtain ⟨rfl, N461q, K461, G461_0, G461_1, G461_2, G461_3, G461_4, G461_5, G461_6⟩ := hQ461
          have N461 := Fr.app NJ320 N461q
          have z461 := K461.1
          have lt461_0 : @LT.lt Nat _ b312 (Array.size T461.heap) := G461_0.lt
          have G461_1' : fl8 Z T461.heap b312 (.int (2 : Int32)) := G461_1
          have lt461_5 : @LT.lt Nat _ va1 (Array.size T461.heap) := G461_5.lt
          have G461_6' : Arv Z T461.heap va1 kv1 .byte (8 : Int32) [(.int y1_0), (.int z1_0), (.int (own_e0 ((b1 &&& (255 : Int32)).toUInt32.toUInt16.toUInt32.toInt32))), (.int (own_e1 ((b1 &&& (255 : Int32)).toUInt32.toUInt16.toUInt32.toInt32))), (.int (0 : Int32)), (.int (0 : Int32)), (.int (0 : Int32)), (.int (0 : Int32))] (.int (0 : Int32)) := G461_6
          refine own_ru 55 [] X461 hx hby e4_54_1 rfl rfl ?_
          refine own_go 90 X461 hx (hb hby d4_55) (by decide) (by decide) ?_
          refine own_rl 93 #[.val (.ref a1), .val (.ref bb), .val (.int (0 : Int32)), .val (.ref ix_311), .val (.ref b312), .val (.int (2 : Int32)), .val (.int (b1 &&& (255 : Int32))), sl7] [] X461 hx hby e4_90_1 rfl rfl ?_
          refine own_go 21 X461 hx (hb hby d4_93) (by decide) (by decide) ?_
          have f462 := (FJ320_0.keep K461 (allS (by omega) (allS (by omega) all0)))
          have f463 := (Exa.keep FJ320_1 K461)
          have f464 := (FJ320_2.keep K461 (own_nS (by omega) (own_nS (by omega) nin0)))
          have f465 := (FJ320_3.keep K461 (own_nS (by omega) (own_nS (by omega) nin0)))
          have f466 : Unt T461.heap a1 := (Unt.keep K461 (own_nS (by omega) (own_nS (by omega) nin0)) FJ320_4)
          have f467 := (Exa.keep FJ320_5 K461)
          have f468 := (FJ320_6.keep K461 (own_nS (by omega) (own_nS (by omega) nin0)))
          have f469 := (FJ320_7.keep K461 (own_nS (by omega) (own_nS (by omega) nin0)))
          have f470 := (FJ320_8.keep K461 (own_nS (by omega) (own_nS (by omega) nin0)))
          have f471 : own_SB42 Z T461.heap n0 b312 (own_exp b0) (own_exp b1) := Or.inr ⟨va1, kv1, y1_0, (own_e0 ((b1 &&& (255 : Int32)).toUInt32.toUInt16.toUInt32.toInt32)), z1_0, (own_e1 ((b1 &&& (255 : Int32)).toUInt32.toUInt16.toUInt32.toInt32)), G461_0, G461_1', G461_2, G461_3, G461_4, G461_5, G461_6', by omega, pe1_0, own_P2 hc43⟩
          exact J321 _ _ _ sl7 (X461.more (by decide) (by decide)) rfl N461 (by omega) f462 f463 f464 f465 f466 f467 f468 f469 f470 f471 hs_sl7
        · refine own_kY 58 XJ320 hx (hb hby d4_43) rfl (flt hc43).2.1 (by decide) (by decide) ?_
          refine own_ru 65 [(.int ((b1 &&& (255 : Int32)) - (128 : Int32))), (.ref ix_311)] XJ320 hx hby e4_58_4 rfl rfl ?_
          refine own_cV XJ320 hx hZ hown (wd179 hw) (wd180 hw) (notFace_of_selects (args := #[]) (mvT hZ (wd182 hw))) (wd182 hw) (wd181 hw) (by decide) (wd183 hw) (wd33 hw) (rm33 l Z a0 hw [] ix_311 ((b1 &&& (255 : Int32)) - (128 : Int32)) ca_311 kk_311 vz_311 hJ320 n0 (by omega) FJ320_6 FJ320_7 (own_jr hc43) U311_0) eJ320 FJ320_5 [(.int ((b1 &&& (255 : Int32)) - (128 : Int32)))] [] 68 0 (hb hby d4_65) rfl (by rw [hml]; rfl) rfl rfl (lenOf pd_11 rfl) rfl (by decide) fun v472 T472 Lc472 X472 hQ472 => ?_
          obtain ⟨rfl, N472q, e472⟩ := hQ472
          have N472 := Fr.app NJ320 N472q
          refine own_sl 70 #[.val (.ref a1), .val (.ref bb), .val (.int (0 : Int32)), .val (.ref ix_311), .val (.ref b312), .val (.int (1 : Int32)), .val (.int (b1 &&& (255 : Int32))), .val (.int (-1 : Int32))] [] (fun t k => XS.istore X472.here hx rfl (hb hby d4_68) rfl (l' := #[.val (.ref a1), .val (.ref bb), .val (.int (0 : Int32)), .val (.ref ix_311), .val (.ref b312), .val (.int (1 : Int32)), .val (.int (b1 &&& (255 : Int32))), .val (.int (-1 : Int32))]) ((XS.store1 (o := sl7) rfl (hs_sl7) rfl).trans rfl) k) ?_
          refine own_ru 75 [(.int (-1 : Int32)), (.int (-1 : Int32)), (.ref b312)] X472 hx hby e4_70_3 rfl rfl ?_
          refine own_kN 78 X472 hx (hb hby d4_75) rfl (teq (by decide : ((-1 : Int32) = (-1 : Int32)))).2 rfl ?_
          refine own_st 80 [(.int (65533 : Int32)), (.ref b312)] (X472.ldcInt hx hown (mvT hZ (wd184 hw)) (g := (mkF m 78 #[.val (.ref a1), .val (.ref bb), .val (.int (0 : Int32)), .val (.ref ix_311), .val (.ref b312), .val (.int (1 : Int32)), .val (.int (b1 &&& (255 : Int32))), .val (.int (-1 : Int32))] [(.ref b312)])) rfl (hb hby d4_78)) ?_
          refine own_go 86 X472 hx (hb hby d4_80) (by decide) (by decide) ?_
          refine own_cV X472 hx hZ hown (wd66 hw) (wd67 hw) (notFace_of_selects (args := #[]) (mvT hZ (wd69 hw))) (wd69 hw) (wd68 hw) (by decide) (wd70 hw) (wd49 hw) (rm11u l Z a0 hw [] G1 G2 b312 (65533 : Int32) (1 : Int32) va1 kv1 (8 : Int32) [(.int y1_0), (.int z1_0), (.int (0 : Int32)), (.int (0 : Int32)), (.int (0 : Int32)), (.int (0 : Int32)), (.int (0 : Int32)), (.int (0 : Int32))] hJ320 n0 (by omega) FJ320_0 A fs1_0 fs1_1 fs1_2 fs1_3 fs1_4 fs1_5 fs1_6 (by omega) (by omega) (by decide) (by decide) (by decide) ⟨by decide, by decide⟩ ⟨by decide, by decide⟩ (Nat.le_of_ble_eq_true rfl) (Nat.le_of_ble_eq_true rfl) (by first | assumption | decide | omega)) e472 fs1_0 [(.int (65533 : Int32))] [] 89 0 (hb hby d4_86) rfl (by rw [hml]; rfl) rfl rfl (lenOf pd_26 rfl) rfl (by decide) fun v473 T473 Lc473 X473 hQ473 => ?_
          obtain ⟨rfl, N473q, K473, G473_0, G473_1, G473_2, G473_3, G473_4, G473_5, G473_6⟩ := hQ473
          have N473 := Fr.app N472 N473q
          have z473 := K473.1
          have lt473_0 : @LT.lt Nat _ b312 (Array.size T473.heap) := G473_0.lt
          have G473_1' : fl8 Z T473.heap b312 (.int (2 : Int32)) := G473_1
          have lt473_5 : @LT.lt Nat _ va1 (Array.size T473.heap) := G473_5.lt
          have G473_6' : Arv Z T473.heap va1 kv1 .byte (8 : Int32) [(.int y1_0), (.int z1_0), (.int (own_e0 (65533 : Int32))), (.int (own_e1 (65533 : Int32))), (.int (0 : Int32)), (.int (0 : Int32)), (.int (0 : Int32)), (.int (0 : Int32))] (.int (0 : Int32)) := G473_6
          refine own_rl 93 #[.val (.ref a1), .val (.ref bb), .val (.int (0 : Int32)), .val (.ref ix_311), .val (.ref b312), .val (.int (2 : Int32)), .val (.int (b1 &&& (255 : Int32))), .val (.int (-1 : Int32))] [] X473 hx hby e4_89_2 rfl rfl ?_
          refine own_go 21 X473 hx (hb hby d4_93) (by decide) (by decide) ?_
          have f474 := (FJ320_0.keep K473 (allS (by omega) (allS (by omega) all0)))
          have f475 := (Exa.keep FJ320_1 K473)
          have f476 := (FJ320_2.keep K473 (own_nS (by omega) (own_nS (by omega) nin0)))
          have f477 := (FJ320_3.keep K473 (own_nS (by omega) (own_nS (by omega) nin0)))
          have f478 : Unt T473.heap a1 := (Unt.keep K473 (own_nS (by omega) (own_nS (by omega) nin0)) FJ320_4)
          have f479 := (Exa.keep FJ320_5 K473)
          have f480 := (FJ320_6.keep K473 (own_nS (by omega) (own_nS (by omega) nin0)))
          have f481 := (FJ320_7.keep K473 (own_nS (by omega) (own_nS (by omega) nin0)))
          have f482 := (FJ320_8.keep K473 (own_nS (by omega) (own_nS (by omega) nin0)))
          have f483 : own_SB42 Z T473.heap n0 b312 (own_exp b0) (own_exp b1) := Or.inr ⟨va1, kv1, y1_0, (own_e0 (65533 : Int32)), z1_0, (own_e1 (65533 : Int32)), G473_0, G473_1', G473_2, G473_3, G473_4, G473_5, G473_6', by omega, pe1_0, own_P4 hc43⟩
          exact J321 _ _ _ (.val (.int (-1 : Int32))) (X473.more (by decide) (by decide)) rfl N473 (by omega) f474 f475 f476 f477 f478 f479 f480 f481 f482 f483 (Or.inr ⟨_, rfl, rfl⟩)
  refine own_st 23 [(.int (0 : Int32))] (fun t k => XS.iload X319.here hx rfl (hb hby d4_21) rfl  k) ?_
  refine own_ru 24 [(.ref bb), (.int (0 : Int32))] X319 hx hby e4_23_1 rfl rfl ?_
  have f484 := (f317.keep K319 (own_nS (by omega) nin0))
  refine own_aL X319 hx hZ rfl f484 25 rfl (hb hby d4_24) rfl ?_
  refine own_kN 28 X319 hx (hb hby d4_25) rfl (tlt (by decide : ((0 : Int32) < (4 : Int32)))).2.1 rfl ?_
  refine own_ru 31 [(.int (0 : Int32)), (.ref bb)] X319 hx hby e4_28_2 rfl rfl ?_
  refine own_bL X319 hx hZ rfl f484 (x := b0) 32 rfl (hb hby d4_31) rfl ⟨by decide, by decide⟩ rfl ?_
  refine own_rl 43 #[.val (.ref a1), .val (.ref bb), .val (.int (0 : Int32)), .val (.ref ix_311), .val (.ref b312), .val (.int (0 : Int32)), .val (.int (b0 &&& (255 : Int32))), .unset] [(.int (128 : Int32)), (.int (b0 &&& (255 : Int32)))] X319 hx hby e4_32_5 rfl rfl ?_
  by_cases hc43 : (b0 &&& (255 : Int32)) < (128 : Int32)
  · refine own_kN 46 X319 hx (hb hby d4_43) rfl (tlt hc43).2.1 rfl ?_
    refine own_ru 51 [(.int ((b0 &&& (255 : Int32)).toUInt32.toUInt16.toUInt32.toInt32)), (.ref b312)] X319 hx hby e4_46_3 rfl rfl ?_
    have f485 := (f318.keep K319 (allS (by omega) all0))
    refine own_cV X319 hx hZ hown (wd66 hw) (wd67 hw) (notFace_of_selects (args := #[]) (mvT hZ (wd69 hw))) (wd69 hw) (wd68 hw) (by decide) (wd70 hw) (wd49 hw) (rm11a l Z a0 hw [] G1 G2 b312 ((b0 &&& (255 : Int32)).toUInt32.toUInt16.toUInt32.toInt32) (0 : Int32) vn_319 kk_319 (4 : Int32) [(.int (0 : Int32)), (.int (0 : Int32)), (.int (0 : Int32)), (.int (0 : Int32))] T319.heap n0 (by omega) f485 A G319_0 G319_1 G319_2 G319_3 G319_4 G319_5 G319_6' (by omega) (by omega) (own_q255 hc43) (by decide) ⟨by decide, by decide⟩ (Nat.le_of_ble_eq_true rfl) (by first | assumption | decide | omega)) rfl G319_0 [(.int ((b0 &&& (255 : Int32)).toUInt32.toUInt16.toUInt32.toInt32))] [] 54 0 (hb hby d4_51) rfl (by rw [hml]; rfl) rfl rfl (lenOf pd_26 rfl) rfl (by decide) fun v486 T486 Lc486 X486 hQ486 => ?_
    obtain ⟨rfl, N486q, K486, G486_0, G486_1, G486_2, G486_3, G486_4, G486_5, G486_6⟩ := hQ486
    have N486 := Fr.app N319 N486q
    have z486 := K486.1
    have lt486_0 : @LT.lt Nat _ b312 (Array.size T486.heap) := G486_0.lt
    have G486_1' : fl8 Z T486.heap b312 (.int (1 : Int32)) := G486_1
    have lt486_5 : @LT.lt Nat _ vn_319 (Array.size T486.heap) := G486_5.lt
    have G486_6' : Arv Z T486.heap vn_319 kk_319 .byte (4 : Int32) [(.int (own_b8 ((b0 &&& (255 : Int32)).toUInt32.toUInt16.toUInt32.toInt32))), (.int (0 : Int32)), (.int (0 : Int32)), (.int (0 : Int32))] (.int (0 : Int32)) := G486_6
    refine own_ru 55 [] X486 hx hby e4_54_1 rfl rfl ?_
    refine own_go 90 X486 hx (hb hby d4_55) (by decide) (by decide) ?_
    refine own_rl 93 #[.val (.ref a1), .val (.ref bb), .val (.int (0 : Int32)), .val (.ref ix_311), .val (.ref b312), .val (.int (1 : Int32)), .val (.int (b0 &&& (255 : Int32))), .unset] [] X486 hx hby e4_90_1 rfl rfl ?_
    refine own_go 21 X486 hx (hb hby d4_93) (by decide) (by decide) ?_
    have f487 := (f485.keep K486 (allS (by omega) (allS (by omega) all0)))
    have f488 := (Exa.keep (Exa.keep (Exa.ext E312 G311_1) K319) K486)
    have f489 := (((Fld.ext E312 G311_2).keep K319 (own_nS (by omega) nin0)).keep K486 (own_nS (by omega) (own_nS (by omega) nin0)))
    have f490 := (((Fld.ext E312 G311_3).keep K319 (own_nS (by omega) nin0)).keep K486 (own_nS (by omega) (own_nS (by omega) nin0)))
    have f491 : Unt T486.heap a1 := (Unt.keep K486 (own_nS (by omega) (own_nS (by omega) nin0)) (Unt.keep K319 (own_nS (by omega) nin0) (Unt.ext E312 G311_4)))
    have f492 := (Exa.keep (Exa.keep (Exa.ext E312 G311_5) K319) K486)
    have f493 := (((Fld.ext E312 G311_6).keep K319 (own_nS (by omega) nin0)).keep K486 (own_nS (by omega) (own_nS (by omega) nin0)))
    have f494 := (((G311_7.ext E312).keep K319 (own_nS (by omega) nin0)).keep K486 (own_nS (by omega) (own_nS (by omega) nin0)))
    have f495 := (f484.keep K486 (own_nS (by omega) (own_nS (by omega) nin0)))
    have f496 : own_SB41 Z T486.heap n0 b312 (own_exp b0) := Or.inl ⟨vn_319, kk_319, (own_b8 ((b0 &&& (255 : Int32)).toUInt32.toUInt16.toUInt32.toInt32)), G486_0, G486_1', G486_2, G486_3, G486_4, G486_5, G486_6', by omega, ⟨own_P1 hc43, own_P3 hc43⟩⟩
    exact J320 _ _ _ .unset (X486.more (by decide) (by decide)) rfl N486 (by omega) f487 f488 f489 f490 f491 f492 f493 f494 f495 f496 (Or.inl rfl)
  · refine own_kY 58 X319 hx (hb hby d4_43) rfl (flt hc43).2.1 (by decide) (by decide) ?_
    refine own_ru 65 [(.int ((b0 &&& (255 : Int32)) - (128 : Int32))), (.ref ix_311)] X319 hx hby e4_58_4 rfl rfl ?_
    have f497 := ((Fld.ext E312 G311_6).keep K319 (own_nS (by omega) nin0))
    have f498 := ((G311_7.ext E312).keep K319 (own_nS (by omega) nin0))
    have f500 := (Exa.keep (Exa.ext E312 G311_5) K319)
    refine own_cV X319 hx hZ hown (wd179 hw) (wd180 hw) (notFace_of_selects (args := #[]) (mvT hZ (wd182 hw))) (wd182 hw) (wd181 hw) (by decide) (wd183 hw) (wd33 hw) (rm33 l Z a0 hw [] ix_311 ((b0 &&& (255 : Int32)) - (128 : Int32)) ca_311 kk_311 vz_311 T319.heap n0 (by omega) f497 f498 (own_jr hc43) U311_0) rfl f500 [(.int ((b0 &&& (255 : Int32)) - (128 : Int32)))] [] 68 0 (hb hby d4_65) rfl (by rw [hml]; rfl) rfl rfl (lenOf pd_11 rfl) rfl (by decide) fun v499 T499 Lc499 X499 hQ499 => ?_
    obtain ⟨rfl, N499q, e499⟩ := hQ499
    have N499 := Fr.app N319 N499q
    refine own_rl 75 #[.val (.ref a1), .val (.ref bb), .val (.int (0 : Int32)), .val (.ref ix_311), .val (.ref b312), .val (.int (0 : Int32)), .val (.int (b0 &&& (255 : Int32))), .val (.int (-1 : Int32))] [(.int (-1 : Int32)), (.int (-1 : Int32)), (.ref b312)] X499 hx hby e4_68_4 rfl rfl ?_
    refine own_kN 78 X499 hx (hb hby d4_75) rfl (teq (by decide : ((-1 : Int32) = (-1 : Int32)))).2 rfl ?_
    refine own_st 80 [(.int (65533 : Int32)), (.ref b312)] (X499.ldcInt hx hown (mvT hZ (wd184 hw)) (g := (mkF m 78 #[.val (.ref a1), .val (.ref bb), .val (.int (0 : Int32)), .val (.ref ix_311), .val (.ref b312), .val (.int (0 : Int32)), .val (.int (b0 &&& (255 : Int32))), .val (.int (-1 : Int32))] [(.ref b312)])) rfl (hb hby d4_78)) ?_
    refine own_go 86 X499 hx (hb hby d4_80) (by decide) (by decide) ?_
    have f501 := (f318.keep K319 (allS (by omega) all0))
    refine own_cV X499 hx hZ hown (wd66 hw) (wd67 hw) (notFace_of_selects (args := #[]) (mvT hZ (wd69 hw))) (wd69 hw) (wd68 hw) (by decide) (wd70 hw) (wd49 hw) (rm11i l Z a0 hw [] G1 G2 b312 vn_319 kk_319 (4 : Int32) (0 : Int32) ([] : List Int32) 4 T319.heap n0 (by omega) f501 A G319_0 G319_1 G319_2 G319_3 G319_4 G319_5 G319_6' (by omega) (by decide) rfl rfl rfl (Nat.le_of_ble_eq_true rfl) (by decide) (by decide) (by decide) (by decide) (by decide) (by decide) (by decide) (by decide) (by decide) ⟨by decide, by decide⟩ ⟨by decide, by decide⟩ (Nat.le_of_ble_eq_true rfl) (Nat.le_of_ble_eq_true rfl) (by first | assumption | decide | omega)) e499 G319_0 [(.int (65533 : Int32))] [] 89 0 (hb hby d4_86) rfl (by rw [hml]; rfl) rfl rfl (lenOf pd_26 rfl) rfl (by decide) fun v502 T502 Lc502 X502 hQ502 => ?_
    obtain ⟨vb_502, kb_502, rfl, N502q, K502, G502_0, G502_1, G502_2, G502_3, G502_4, G502_5, G502_6, U502_0⟩ := hQ502
    have N502 := Fr.app N499 N502q
    have z502 := K502.1
    have lt502_0 : @LT.lt Nat _ b312 (Array.size T502.heap) := G502_0.lt
    have G502_1' : fl8 Z T502.heap b312 (.int (1 : Int32)) := G502_1
    have lt502_5 : @LT.lt Nat _ vb_502 (Array.size T502.heap) := G502_5.lt
    have G502_6' : Arv Z T502.heap vb_502 kb_502 .byte (8 : Int32) [(.int (own_e0 (65533 : Int32))), (.int (own_e1 (65533 : Int32))), (.int (0 : Int32)), (.int (0 : Int32)), (.int (0 : Int32)), (.int (0 : Int32)), (.int (0 : Int32)), (.int (0 : Int32))] (.int (0 : Int32)) := G502_6
    refine own_rl 93 #[.val (.ref a1), .val (.ref bb), .val (.int (0 : Int32)), .val (.ref ix_311), .val (.ref b312), .val (.int (1 : Int32)), .val (.int (b0 &&& (255 : Int32))), .val (.int (-1 : Int32))] [] X502 hx hby e4_89_2 rfl rfl ?_
    refine own_go 21 X502 hx (hb hby d4_93) (by decide) (by decide) ?_
    have f503 := (f501.keep K502 (allS (by omega) all0))
    have f504 := (Exa.keep (Exa.keep (Exa.ext E312 G311_1) K319) K502)
    have f505 := (((Fld.ext E312 G311_2).keep K319 (own_nS (by omega) nin0)).keep K502 (own_nS (by omega) nin0))
    have f506 := (((Fld.ext E312 G311_3).keep K319 (own_nS (by omega) nin0)).keep K502 (own_nS (by omega) nin0))
    have f507 : Unt T502.heap a1 := (Unt.keep K502 (own_nS (by omega) nin0) (Unt.keep K319 (own_nS (by omega) nin0) (Unt.ext E312 G311_4)))
    have f508 := (Exa.keep f500 K502)
    have f509 := (f497.keep K502 (own_nS (by omega) nin0))
    have f510 := (f498.keep K502 (own_nS (by omega) nin0))
    have f511 := (f484.keep K502 (own_nS (by omega) nin0))
    have f512 : own_SB41 Z T502.heap n0 b312 (own_exp b0) := Or.inr ⟨vb_502, kb_502, (own_e0 (65533 : Int32)), (own_e1 (65533 : Int32)), G502_0, G502_1', G502_2, G502_3, G502_4, G502_5, G502_6', by omega, own_P4 hc43⟩
    exact J320 _ _ _ (.val (.int (-1 : Int32))) (X502.more (by decide) (by decide)) rfl N502 (by omega) f503 f504 f505 f506 f507 f508 f509 f510 f511 f512 (Or.inr ⟨_, rfl, rfl⟩)
def Q4f1n (Z : State) (G1 : Int32) (G2 : Value) (a1 : Addr) (bb : Addr) (kb : ClassId) (b0 : Int32) (b1 : Int32) (b2 : Int32) (b3 : Int32) (h0 : Heap) (n0 : Nat) (v : Option Value) (h : Heap) (L : List Loc) : Prop := ∃ so : Addr, ∃ ix : Addr, ∃ ca : Addr, ∃ kk : ClassId, ∃ vz : List Value, v = some (.ref so) ∧ Fr n0 L ∧ h0.size ≤ h.size ∧ Old Z n0 h ∧ ex0 Z h a1 ∧ fl1 Z h a1 (.ref ix) ∧ fl2 Z h a1 .null ∧ Unt h a1 ∧ ex5 Z h ix ∧ fl6 Z h ix (.ref ca) ∧ Arv Z h ca kk .int (128 : Int32) vz (.int (0 : Int32)) ∧ Arv Z h bb kb .byte (4 : Int32) [(.int b0), (.int b1), (.int b2), (.int b3)] (.int (0 : Int32)) ∧ own_Str3 Z h so (own_exp b1) (own_exp b2) (own_exp b3) ∧ (∀ j : Nat, j < 128 → vz.getD j (.int (0 : Int32)) = .int (-1 : Int32))
set_option maxRecDepth 65536 in
set_option maxHeartbeats 40000000 in
theorem rm4f1n (l : Launch) (Z : State) (a0 : Array Value) (hw : OW a0 Z) (ws : List Jvm.Cond) (G1 : Int32) (G2 : Value) (a1 : Addr) (bb : Addr) (kb : ClassId) (b0 : Int32) (b1 : Int32) (b2 : Int32) (b3 : Int32) (h0 : Heap) (n0 : Nat) (Z0 : n0 ≤ h0.size) (OLD : Old Z n0 h0) (A : Amb Z G1 G2) (P0 : ex0 Z h0 a1) (P1 : fl1 Z h0 a1 .null) (P2 : fl2 Z h0 a1 .null) (P3 : Unt h0 a1) (P4 : Arv Z h0 bb kb .byte (4 : Int32) [(.int b0), (.int b1), (.int b2), (.int b3)] (.int (0 : Int32))) (g_a1 : n0 ≤ a1) (hne : @Ne Nat bb a1) :
    own_Met l my4 prog_33_method_5_code 8 (some (.object "java/lang/String")) ws (own_rm 8 9 173 115) #[(.ref a1), (.ref bb), (.int (1 : Int32))] Z h0 (Q4f1n Z G1 G2 a1 bb kb b0 b1 b2 b3 h0 n0) 9 173 := by
  refine own_body (plainFor_of_name pn_0) (fun m => by first | (simp [entryFrame, mkF, argsToLocals, Value.category]; done) | rfl) (Ls := #[.val (.ref a1), .val (.ref bb), .val (.int (1 : Int32)), .unset, .unset, .unset, .unset, .unset]) fun p e s m below meth c s₁ X0 hx hby hml hZ e0 hown hnm hlk hrt => ?_
  have N0 := Fr.nil n0
  have lt_P0 : @LT.lt Nat _ a1 (Array.size h0) := P0.lt
  have lt_P4 : @LT.lt Nat _ bb (Array.size h0) := P4.lt
  refine own_ru 1 [(.ref a1)] X0 hx hby e4_0_1 rfl rfl ?_
  refine own_cY X0 hx hZ hown (wd25 hw) (wd26 hw) (own_selPriv (mvT hZ (wd6 hw)) (Cond.privateMethod_at (mvP hZ (wd27 hw) (args := #[]))) (mvT hZ (wd26 hw)) (by decide)) (wd27 hw) (by decide) (wd28 hw) (wd3 hw) (rm5n l Z a0 hw [] G1 G2 a1 bb kb [(.int b0), (.int b1), (.int b2), (.int b3)] h0 n0 (by omega) OLD A P0 P1 P2 P4 P3 (by omega) (by first | assumption | decide | omega)) e0 P0 P3 [] [] 4 0 (hb hby d4_1) rfl (by rw [hml]; rfl) rfl rfl (lenOf pd_24 rfl) rfl (by decide) fun v513 T513 Lc513 X513 hQ513 => ?_
  obtain ⟨ix_513, ca_513, kk_513, vz_513, rfl, N513q, K513, G513_0, G513_1, G513_2, G513_3, G513_4, G513_5, G513_6, G513_7, G513_8, U513_0⟩ := hQ513
  have N513 := Fr.app N0 N513q
  have lt513_1 : @LT.lt Nat _ a1 (Array.size T513.heap) := G513_1.lt
  have lt513_5 : @LT.lt Nat _ ix_513 (Array.size T513.heap) := G513_5.lt
  have lt513_7 : @LT.lt Nat _ ca_513 (Array.size T513.heap) := G513_7.lt
  have lt513_8 : @LT.lt Nat _ bb (Array.size T513.heap) := G513_8.lt
  refine own_rl 5 #[.val (.ref a1), .val (.ref bb), .val (.int (1 : Int32)), .val (.ref ix_513), .unset, .unset, .unset, .unset] [] X513 hx hby e4_4_1 rfl rfl ?_
  refine own_nO X513 hx hZ hown (wd47 hw) (wd48 hw) (wd49 hw) rfl 8 (hb hby d4_5) rfl (by decide) (by decide) fun T514 h514 b514 g514 X514 e514 E514 A514 D514 UN514 => ?_
  have ll514 : @LT.lt Nat _ b514 (Array.size h514) := A514.lt
  have z514 := E514.1
  have F515 : fl10 Z h514 b514 .null := D514 (Or.inl (wd63 hw)) (ty := (.array .byte)) (by decide)
  have F516 : fl9 Z h514 b514 (.int (0 : Int32)) := D514 (Or.inl (wd65 hw)) (ty := .byte) (by decide)
  have F517 : fl8 Z h514 b514 (.int (0 : Int32)) := D514 (Or.inl (wd77 hw)) (ty := .int) (by decide)
  have F518 : fl11 Z h514 b514 (.int (0 : Int32)) := D514 (Or.inl (wd230 hw)) (ty := .boolean) (by decide)
  refine own_ru 10 [(.ref bb), (.ref b514), (.ref b514)] X514 hx hby e4_8_2 rfl rfl ?_
  have f519 := (G513_8.ext E514)
  refine own_aL X514 hx hZ e514 f519 11 rfl (hb hby d4_10) rfl ?_
  refine own_ru 13 [(.int (3 : Int32)), (.ref b514), (.ref b514)] X514 hx hby e4_11_2 rfl rfl ?_
  have f520 := (G513_0.ext E514)
  refine own_cN X514 hx hZ hown rfl (wd50 hw) (wd51 hw) (by decide) (wd52 hw) (wd49 hw) (rm9 l Z a0 hw [] G1 G2 b514 (3 : Int32) 3 h514 n0 (by omega) f520 A A514 F517 F516 F515 F518 (by omega) (by decide) (by decide)) e514  [(.int (3 : Int32))] [(.ref b514)] 16 1 (hb hby d4_13) rfl (by rw [hml]; rfl) rfl rfl (lenOf pd_2 rfl) rfl (by decide) fun v521 T521 Lc521 X521 hQ521 => ?_
  obtain ⟨vn_521, kk_521, rfl, N521q, K521, G521_0, G521_1, G521_2, G521_3, G521_4, G521_5, G521_6, U521_0⟩ := hQ521
  have N521 := Fr.app N513 N521q
  have z521 := K521.1
  have lt521_0 : @LT.lt Nat _ b514 (Array.size T521.heap) := G521_0.lt
  have lt521_5 : @LT.lt Nat _ vn_521 (Array.size T521.heap) := G521_5.lt
  have G521_6' : Arv Z T521.heap vn_521 kk_521 .byte (3 : Int32) [(.int (0 : Int32)), (.int (0 : Int32)), (.int (0 : Int32))] (.int (0 : Int32)) := G521_6
  refine own_rl 21 #[.val (.ref a1), .val (.ref bb), .val (.int (1 : Int32)), .val (.ref ix_513), .val (.ref b514), .val (.int (1 : Int32)), .unset, .unset] [] X521 hx hby e4_16_3 rfl rfl ?_
  have J522 : ∀ (TJ522 : State) (LJ522 : List Loc) (hJ522 : Heap) (sl7 : Slot), Stand p l e (own_rm 8 9 173 115) s m #[(.ref a1), (.ref bb), (.int (1 : Int32))] below meth c TJ522 LJ522 5 145 → TJ522.heap = hJ522 → Fr n0 LJ522 → h0.size ≤ hJ522.size → Old Z n0 hJ522 → ex0 Z hJ522 a1 → fl1 Z hJ522 a1 (.ref ix_513) → fl2 Z hJ522 a1 .null → Unt hJ522 a1 → ex5 Z hJ522 ix_513 → fl6 Z hJ522 ix_513 (.ref ca_513) → Arv Z hJ522 ca_513 kk_513 .int (128 : Int32) vz_513 (.int (0 : Int32)) → Arv Z hJ522 bb kb .byte (4 : Int32) [(.int b0), (.int b1), (.int b2), (.int b3)] (.int (0 : Int32)) → own_SB31 Z hJ522 n0 b514 (own_exp b1) → ((sl7 = .unset ∨ ∃ w : Value, sl7 = .val w ∧ w.category = 1)) → own_Fin p.tables e below (own_post (Q4f1n Z G1 G2 a1 bb kb b0 b1 b2 b3 h0 n0) s 9 173) (TJ522.setTop (mkF m 21 #[.val (.ref a1), .val (.ref bb), .val (.int (1 : Int32)), .val (.ref ix_513), .val (.ref b514), .val (.int (2 : Int32)), .val (.int (b1 &&& (255 : Int32))), sl7] [])) := by
    as_aux_lemma =>
      intro TJ522 LJ522 hJ522 sl7 XJ522 eJ522 NJ522 zJ522 FJ522_0 FJ522_1 FJ522_2 FJ522_3 FJ522_4 FJ522_5 FJ522_6 FJ522_7 FJ522_8 FJ522_9 hs_sl7
      have ltJ522_1 : @LT.lt Nat _ a1 (Array.size hJ522) := FJ522_1.lt
      have ltJ522_5 : @LT.lt Nat _ ix_513 (Array.size hJ522) := FJ522_5.lt
      have ltJ522_7 : @LT.lt Nat _ ca_513 (Array.size hJ522) := FJ522_7.lt
      have ltJ522_8 : @LT.lt Nat _ bb (Array.size hJ522) := FJ522_8.lt
      have J523 : ∀ (TJ523 : State) (LJ523 : List Loc) (hJ523 : Heap) (sl7 : Slot), Stand p l e (own_rm 8 9 173 115) s m #[(.ref a1), (.ref bb), (.int (1 : Int32))] below meth c TJ523 LJ523 6 153 → TJ523.heap = hJ523 → Fr n0 LJ523 → h0.size ≤ hJ523.size → Old Z n0 hJ523 → ex0 Z hJ523 a1 → fl1 Z hJ523 a1 (.ref ix_513) → fl2 Z hJ523 a1 .null → Unt hJ523 a1 → ex5 Z hJ523 ix_513 → fl6 Z hJ523 ix_513 (.ref ca_513) → Arv Z hJ523 ca_513 kk_513 .int (128 : Int32) vz_513 (.int (0 : Int32)) → Arv Z hJ523 bb kb .byte (4 : Int32) [(.int b0), (.int b1), (.int b2), (.int b3)] (.int (0 : Int32)) → own_SB32 Z hJ523 n0 b514 (own_exp b1) (own_exp b2) → ((sl7 = .unset ∨ ∃ w : Value, sl7 = .val w ∧ w.category = 1)) → own_Fin p.tables e below (own_post (Q4f1n Z G1 G2 a1 bb kb b0 b1 b2 b3 h0 n0) s 9 173) (TJ523.setTop (mkF m 21 #[.val (.ref a1), .val (.ref bb), .val (.int (1 : Int32)), .val (.ref ix_513), .val (.ref b514), .val (.int (3 : Int32)), .val (.int (b2 &&& (255 : Int32))), sl7] [])) := by
        as_aux_lemma =>
          intro TJ523 LJ523 hJ523 sl7 XJ523 eJ523 NJ523 zJ523 FJ523_0 FJ523_1 FJ523_2 FJ523_3 FJ523_4 FJ523_5 FJ523_6 FJ523_7 FJ523_8 FJ523_9 hs_sl7
          have ltJ523_1 : @LT.lt Nat _ a1 (Array.size hJ523) := FJ523_1.lt
          have ltJ523_5 : @LT.lt Nat _ ix_513 (Array.size hJ523) := FJ523_5.lt
          have ltJ523_7 : @LT.lt Nat _ ca_513 (Array.size hJ523) := FJ523_7.lt
          have ltJ523_8 : @LT.lt Nat _ bb (Array.size hJ523) := FJ523_8.lt
          have J524 : ∀ (TJ524 : State) (LJ524 : List Loc) (hJ524 : Heap) (sl7 : Slot), Stand p l e (own_rm 8 9 173 115) s m #[(.ref a1), (.ref bb), (.int (1 : Int32))] below meth c TJ524 LJ524 7 161 → TJ524.heap = hJ524 → Fr n0 LJ524 → h0.size ≤ hJ524.size → Old Z n0 hJ524 → ex0 Z hJ524 a1 → fl1 Z hJ524 a1 (.ref ix_513) → fl2 Z hJ524 a1 .null → Unt hJ524 a1 → ex5 Z hJ524 ix_513 → fl6 Z hJ524 ix_513 (.ref ca_513) → Arv Z hJ524 ca_513 kk_513 .int (128 : Int32) vz_513 (.int (0 : Int32)) → Arv Z hJ524 bb kb .byte (4 : Int32) [(.int b0), (.int b1), (.int b2), (.int b3)] (.int (0 : Int32)) → own_SB33 Z hJ524 n0 b514 (own_exp b1) (own_exp b2) (own_exp b3) → ((sl7 = .unset ∨ ∃ w : Value, sl7 = .val w ∧ w.category = 1)) → own_Fin p.tables e below (own_post (Q4f1n Z G1 G2 a1 bb kb b0 b1 b2 b3 h0 n0) s 9 173) (TJ524.setTop (mkF m 21 #[.val (.ref a1), .val (.ref bb), .val (.int (1 : Int32)), .val (.ref ix_513), .val (.ref b514), .val (.int (4 : Int32)), .val (.int (b3 &&& (255 : Int32))), sl7] [])) := by
            as_aux_lemma =>
              intro TJ524 LJ524 hJ524 sl7 XJ524 eJ524 NJ524 zJ524 FJ524_0 FJ524_1 FJ524_2 FJ524_3 FJ524_4 FJ524_5 FJ524_6 FJ524_7 FJ524_8 FJ524_9 hs_sl7
              have ltJ524_1 : @LT.lt Nat _ a1 (Array.size hJ524) := FJ524_1.lt
              have ltJ524_5 : @LT.lt Nat _ ix_513 (Array.size hJ524) := FJ524_5.lt
              have ltJ524_7 : @LT.lt Nat _ ca_513 (Array.size hJ524) := FJ524_7.lt
              have ltJ524_8 : @LT.lt Nat _ bb (Array.size hJ524) := FJ524_8.lt
              rcases FJ524_9 with ⟨va3, kv3, y3_0, y3_1, y3_2, fs3_0, fs3_1, fs3_2, fs3_3, fs3_4, fs3_5, fs3_6, og3, pe3_0, pe3_1, pe3_2⟩ | ⟨va3, kv3, y3_0, y3_1, y3_2, z3_0, z3_1, z3_2, fs3_0, fs3_1, fs3_2, fs3_3, fs3_4, fs3_5, fs3_6, og3, pe3_0, pe3_1, pe3_2⟩
              · have ltv3 : @LT.lt Nat _ va3 (Array.size hJ524) := fs3_6.lt
                have lts3 : @LT.lt Nat _ b514 (Array.size hJ524) := fs3_0.lt
                refine own_ru 24 [(.ref bb), (.int (4 : Int32))] XJ524 hx hby e4_21_2 rfl rfl ?_
                refine own_aL XJ524 hx hZ eJ524 FJ524_8 25 rfl (hb hby d4_24) rfl ?_
                refine own_kY 96 XJ524 hx (hb hby d4_25) rfl (flt (by decide : ¬ ((4 : Int32) < (4 : Int32)))).2.1 (by decide) (by decide) ?_
                refine own_ru 98 [(.ref b514)] XJ524 hx hby e4_96_1 rfl rfl ?_
                refine own_cV XJ524 hx hZ hown (wd92 hw) (wd93 hw) (notFace_of_selects (args := #[]) (mvT hZ (wd95 hw))) (wd95 hw) (wd94 hw) (by decide) (wd96 hw) (wd49 hw) (rm16s0 l Z a0 hw [] G1 G2 b514 va3 kv3 (3 : Int32) (3 : Int32) [(.int y3_0), (.int y3_1), (.int y3_2)] hJ524 n0 (by omega) FJ524_0 A fs3_0 fs3_1 fs3_2 fs3_3 fs3_4 fs3_5 fs3_6 rfl (by decide)) eJ524 fs3_0 [] [] 101 0 (hb hby d4_98) rfl (by rw [hml]; rfl) rfl rfl (lenOf pd_25 rfl) rfl (by decide) fun v525 T525 Lc525 X525 hQ525 => ?_
                obtain ⟨so_525, ta_525, rfl, N525q, K525, G525_0, G525_1, G525_2, G525_3, U525_0⟩ := hQ525
                have N525 := Fr.app NJ524 N525q
                have z525 := K525.1
                have lt525_0 : @LT.lt Nat _ so_525 (Array.size T525.heap) := G525_0.lt
                have lt525_3 : @LT.lt Nat _ ta_525 (Array.size T525.heap) := G525_3.lt
                have f527 := (FJ524_0.keep K525 all0)
                have f528 := (Exa.keep FJ524_1 K525)
                have f529 := (FJ524_2.keep K525 nin0)
                have f530 := (FJ524_3.keep K525 nin0)
                have f531 : Unt T525.heap a1 := (Unt.keep K525 nin0 FJ524_4)
                have f532 := (Exa.keep FJ524_5 K525)
                have f533 := (FJ524_6.keep K525 nin0)
                have f534 := (FJ524_7.keep K525 nin0)
                have f535 := (FJ524_8.keep K525 nin0)
                have hq526 : Q4f1n Z G1 G2 a1 bb kb b0 b1 b2 b3 h0 n0 (some (.ref so_525)) T525.heap _ := ⟨so_525, ix_513, ca_513, kk_513, vz_513, rfl, N525, (by omega), f527, f528, f529, f530, f531, f532, f533, f534, f535, Or.inl ⟨ta_525, kv3, y3_0, y3_1, y3_2, G525_0, G525_1, G525_2, G525_3, pe3_0.1, pe3_1.1, pe3_2.1⟩, U513_0⟩
                exact own_retR X525 hx hlk (w := (.ref so_525)) rfl hrt rfl (hb hby d4_101) rfl hq526 (by decide) (by decide)
              · have ltv3 : @LT.lt Nat _ va3 (Array.size hJ524) := fs3_6.lt
                have lts3 : @LT.lt Nat _ b514 (Array.size hJ524) := fs3_0.lt
                refine own_ru 24 [(.ref bb), (.int (4 : Int32))] XJ524 hx hby e4_21_2 rfl rfl ?_
                refine own_aL XJ524 hx hZ eJ524 FJ524_8 25 rfl (hb hby d4_24) rfl ?_
                refine own_kY 96 XJ524 hx (hb hby d4_25) rfl (flt (by decide : ¬ ((4 : Int32) < (4 : Int32)))).2.1 (by decide) (by decide) ?_
                refine own_ru 98 [(.ref b514)] XJ524 hx hby e4_96_1 rfl rfl ?_
                refine own_cV XJ524 hx hZ hown (wd92 hw) (wd93 hw) (notFace_of_selects (args := #[]) (mvT hZ (wd95 hw))) (wd95 hw) (wd94 hw) (by decide) (wd96 hw) (wd49 hw) (rm16s1 l Z a0 hw [] G1 G2 b514 va3 kv3 (3 : Int32) (6 : Int32) [(.int y3_0), (.int z3_0), (.int y3_1), (.int z3_1), (.int y3_2), (.int z3_2)] hJ524 n0 (by omega) FJ524_0 A fs3_0 fs3_1 fs3_2 fs3_3 fs3_4 fs3_5 fs3_6 rfl (by decide)) eJ524 fs3_0 [] [] 101 0 (hb hby d4_98) rfl (by rw [hml]; rfl) rfl rfl (lenOf pd_25 rfl) rfl (by decide) fun v536 T536 Lc536 X536 hQ536 => ?_
                obtain ⟨so_536, ta_536, rfl, N536q, K536, G536_0, G536_1, G536_2, G536_3, U536_0⟩ := hQ536
                have N536 := Fr.app NJ524 N536q
                have z536 := K536.1
                have lt536_0 : @LT.lt Nat _ so_536 (Array.size T536.heap) := G536_0.lt
                have lt536_3 : @LT.lt Nat _ ta_536 (Array.size T536.heap) := G536_3.lt
                have f538 := (FJ524_0.keep K536 all0)
                have f539 := (Exa.keep FJ524_1 K536)
                have f540 := (FJ524_2.keep K536 nin0)
                have f541 := (FJ524_3.keep K536 nin0)
                have f542 : Unt T536.heap a1 := (Unt.keep K536 nin0 FJ524_4)
                have f543 := (Exa.keep FJ524_5 K536)
                have f544 := (FJ524_6.keep K536 nin0)
                have f545 := (FJ524_7.keep K536 nin0)
                have f546 := (FJ524_8.keep K536 nin0)
                have hq537 : Q4f1n Z G1 G2 a1 bb kb b0 b1 b2 b3 h0 n0 (some (.ref so_536)) T536.heap _ := ⟨so_536, ix_513, ca_513, kk_513, vz_513, rfl, N536, (by omega), f538, f539, f540, f541, f542, f543, f544, f545, f546, Or.inr ⟨ta_536, kv3, y3_0, y3_1, y3_2, z3_0, z3_1, z3_2, G536_0, G536_1, G536_2, G536_3, pe3_0, pe3_1, pe3_2⟩, U513_0⟩
                exact own_retR X536 hx hlk (w := (.ref so_536)) rfl hrt rfl (hb hby d4_101) rfl hq537 (by decide) (by decide)
          rcases FJ523_9 with ⟨va2, kv2, y2_0, y2_1, fs2_0, fs2_1, fs2_2, fs2_3, fs2_4, fs2_5, fs2_6, og2, pe2_0, pe2_1⟩ | ⟨va2, kv2, y2_0, y2_1, z2_0, z2_1, fs2_0, fs2_1, fs2_2, fs2_3, fs2_4, fs2_5, fs2_6, og2, pe2_0, pe2_1⟩
          · have ltv2 : @LT.lt Nat _ va2 (Array.size hJ523) := fs2_6.lt
            have lts2 : @LT.lt Nat _ b514 (Array.size hJ523) := fs2_0.lt
            refine own_ru 24 [(.ref bb), (.int (3 : Int32))] XJ523 hx hby e4_21_2 rfl rfl ?_
            refine own_aL XJ523 hx hZ eJ523 FJ523_8 25 rfl (hb hby d4_24) rfl ?_
            refine own_kN 28 XJ523 hx (hb hby d4_25) rfl (tlt (by decide : ((3 : Int32) < (4 : Int32)))).2.1 rfl ?_
            refine own_ru 31 [(.int (3 : Int32)), (.ref bb)] XJ523 hx hby e4_28_2 rfl rfl ?_
            refine own_bL XJ523 hx hZ eJ523 FJ523_8 (x := b3) 32 rfl (hb hby d4_31) rfl ⟨by decide, by decide⟩ rfl ?_
            refine own_rl 43 #[.val (.ref a1), .val (.ref bb), .val (.int (1 : Int32)), .val (.ref ix_513), .val (.ref b514), .val (.int (3 : Int32)), .val (.int (b3 &&& (255 : Int32))), sl7] [(.int (128 : Int32)), (.int (b3 &&& (255 : Int32)))] XJ523 hx hby e4_32_5 rfl rfl ?_
            by_cases hc43 : (b3 &&& (255 : Int32)) < (128 : Int32)
            · refine own_kN 46 XJ523 hx (hb hby d4_43) rfl (tlt hc43).2.1 rfl ?_
              refine own_ru 51 [(.int ((b3 &&& (255 : Int32)).toUInt32.toUInt16.toUInt32.toInt32)), (.ref b514)] XJ523 hx hby e4_46_3 rfl rfl ?_
              refine own_cV XJ523 hx hZ hown (wd66 hw) (wd67 hw) (notFace_of_selects (args := #[]) (mvT hZ (wd69 hw))) (wd69 hw) (wd68 hw) (by decide) (wd70 hw) (wd49 hw) (rm11a l Z a0 hw [] G1 G2 b514 ((b3 &&& (255 : Int32)).toUInt32.toUInt16.toUInt32.toInt32) (2 : Int32) va2 kv2 (3 : Int32) [(.int y2_0), (.int y2_1), (.int (0 : Int32))] hJ523 n0 (by omega) FJ523_0 A fs2_0 fs2_1 fs2_2 fs2_3 fs2_4 fs2_5 fs2_6 (by omega) (by omega) (own_q255 hc43) (by decide) ⟨by decide, by decide⟩ (Nat.le_of_ble_eq_true rfl) (by first | assumption | decide | omega)) eJ523 fs2_0 [(.int ((b3 &&& (255 : Int32)).toUInt32.toUInt16.toUInt32.toInt32))] [] 54 0 (hb hby d4_51) rfl (by rw [hml]; rfl) rfl rfl (lenOf pd_26 rfl) rfl (by decide) fun v547 T547 Lc547 X547 hQ547 => ?_
              obtain ⟨rfl, N547q, K547, G547_0, G547_1, G547_2, G547_3, G547_4, G547_5, G547_6⟩ := hQ547
              have N547 := Fr.app NJ523 N547q
              have z547 := K547.1
              have lt547_0 : @LT.lt Nat _ b514 (Array.size T547.heap) := G547_0.lt
              have G547_1' : fl8 Z T547.heap b514 (.int (3 : Int32)) := G547_1
              have lt547_5 : @LT.lt Nat _ va2 (Array.size T547.heap) := G547_5.lt
              have G547_6' : Arv Z T547.heap va2 kv2 .byte (3 : Int32) [(.int y2_0), (.int y2_1), (.int (own_b8 ((b3 &&& (255 : Int32)).toUInt32.toUInt16.toUInt32.toInt32)))] (.int (0 : Int32)) := G547_6
              refine own_ru 55 [] X547 hx hby e4_54_1 rfl rfl ?_
              refine own_go 90 X547 hx (hb hby d4_55) (by decide) (by decide) ?_
              refine own_rl 93 #[.val (.ref a1), .val (.ref bb), .val (.int (1 : Int32)), .val (.ref ix_513), .val (.ref b514), .val (.int (4 : Int32)), .val (.int (b3 &&& (255 : Int32))), sl7] [] X547 hx hby e4_90_1 rfl rfl ?_
              refine own_go 21 X547 hx (hb hby d4_93) (by decide) (by decide) ?_
              have f548 := (FJ523_0.keep K547 (allS (by omega) (allS (by omega) all0)))
              have f549 := (Exa.keep FJ523_1 K547)
              have f550 := (FJ523_2.keep K547 (own_nS (by omega) (own_nS (by omega) nin0)))
              have f551 := (FJ523_3.keep K547 (own_nS (by omega) (own_nS (by omega) nin0)))
              have f552 : Unt T547.heap a1 := (Unt.keep K547 (own_nS (by omega) (own_nS (by omega) nin0)) FJ523_4)
              have f553 := (Exa.keep FJ523_5 K547)
              have f554 := (FJ523_6.keep K547 (own_nS (by omega) (own_nS (by omega) nin0)))
              have f555 := (FJ523_7.keep K547 (own_nS (by omega) (own_nS (by omega) nin0)))
              have f556 := (FJ523_8.keep K547 (own_nS (by omega) (own_nS (by omega) nin0)))
              have f557 : own_SB33 Z T547.heap n0 b514 (own_exp b1) (own_exp b2) (own_exp b3) := Or.inl ⟨va2, kv2, y2_0, y2_1, (own_b8 ((b3 &&& (255 : Int32)).toUInt32.toUInt16.toUInt32.toInt32)), G547_0, G547_1', G547_2, G547_3, G547_4, G547_5, G547_6', by omega, pe2_0, pe2_1, ⟨own_P1 hc43, own_P3 hc43⟩⟩
              exact J524 _ _ _ sl7 (X547.more (by decide) (by decide)) rfl N547 (by omega) f548 f549 f550 f551 f552 f553 f554 f555 f556 f557 hs_sl7
            · refine own_kY 58 XJ523 hx (hb hby d4_43) rfl (flt hc43).2.1 (by decide) (by decide) ?_
              refine own_ru 65 [(.int ((b3 &&& (255 : Int32)) - (128 : Int32))), (.ref ix_513)] XJ523 hx hby e4_58_4 rfl rfl ?_
              refine own_cV XJ523 hx hZ hown (wd179 hw) (wd180 hw) (notFace_of_selects (args := #[]) (mvT hZ (wd182 hw))) (wd182 hw) (wd181 hw) (by decide) (wd183 hw) (wd33 hw) (rm33 l Z a0 hw [] ix_513 ((b3 &&& (255 : Int32)) - (128 : Int32)) ca_513 kk_513 vz_513 hJ523 n0 (by omega) FJ523_6 FJ523_7 (own_jr hc43) U513_0) eJ523 FJ523_5 [(.int ((b3 &&& (255 : Int32)) - (128 : Int32)))] [] 68 0 (hb hby d4_65) rfl (by rw [hml]; rfl) rfl rfl (lenOf pd_11 rfl) rfl (by decide) fun v558 T558 Lc558 X558 hQ558 => ?_
              obtain ⟨rfl, N558q, e558⟩ := hQ558
              have N558 := Fr.app NJ523 N558q
              refine own_sl 70 #[.val (.ref a1), .val (.ref bb), .val (.int (1 : Int32)), .val (.ref ix_513), .val (.ref b514), .val (.int (3 : Int32)), .val (.int (b3 &&& (255 : Int32))), .val (.int (-1 : Int32))] [] (fun t k => XS.istore X558.here hx rfl (hb hby d4_68) rfl (l' := #[.val (.ref a1), .val (.ref bb), .val (.int (1 : Int32)), .val (.ref ix_513), .val (.ref b514), .val (.int (3 : Int32)), .val (.int (b3 &&& (255 : Int32))), .val (.int (-1 : Int32))]) ((XS.store1 (o := sl7) rfl (hs_sl7) rfl).trans rfl) k) ?_
              refine own_ru 75 [(.int (-1 : Int32)), (.int (-1 : Int32)), (.ref b514)] X558 hx hby e4_70_3 rfl rfl ?_
              refine own_kN 78 X558 hx (hb hby d4_75) rfl (teq (by decide : ((-1 : Int32) = (-1 : Int32)))).2 rfl ?_
              refine own_st 80 [(.int (65533 : Int32)), (.ref b514)] (X558.ldcInt hx hown (mvT hZ (wd184 hw)) (g := (mkF m 78 #[.val (.ref a1), .val (.ref bb), .val (.int (1 : Int32)), .val (.ref ix_513), .val (.ref b514), .val (.int (3 : Int32)), .val (.int (b3 &&& (255 : Int32))), .val (.int (-1 : Int32))] [(.ref b514)])) rfl (hb hby d4_78)) ?_
              refine own_go 86 X558 hx (hb hby d4_80) (by decide) (by decide) ?_
              refine own_cV X558 hx hZ hown (wd66 hw) (wd67 hw) (notFace_of_selects (args := #[]) (mvT hZ (wd69 hw))) (wd69 hw) (wd68 hw) (by decide) (wd70 hw) (wd49 hw) (rm11i l Z a0 hw [] G1 G2 b514 va2 kv2 (3 : Int32) (2 : Int32) ([y2_0, y2_1] : List Int32) 3 hJ523 n0 (by omega) FJ523_0 A fs2_0 fs2_1 fs2_2 fs2_3 fs2_4 fs2_5 fs2_6 (by omega) (by decide) rfl rfl rfl (Nat.le_of_ble_eq_true rfl) (by decide) (by decide) (by decide) (by decide) (by decide) (by decide) (by decide) (by decide) (by decide) ⟨by decide, by decide⟩ ⟨by decide, by decide⟩ (Nat.le_of_ble_eq_true rfl) (Nat.le_of_ble_eq_true rfl) (by first | assumption | decide | omega)) e558 fs2_0 [(.int (65533 : Int32))] [] 89 0 (hb hby d4_86) rfl (by rw [hml]; rfl) rfl rfl (lenOf pd_26 rfl) rfl (by decide) fun v559 T559 Lc559 X559 hQ559 => ?_
              obtain ⟨vb_559, kb_559, rfl, N559q, K559, G559_0, G559_1, G559_2, G559_3, G559_4, G559_5, G559_6, U559_0⟩ := hQ559
              have N559 := Fr.app N558 N559q
              have z559 := K559.1
              have lt559_0 : @LT.lt Nat _ b514 (Array.size T559.heap) := G559_0.lt
              have G559_1' : fl8 Z T559.heap b514 (.int (3 : Int32)) := G559_1
              have lt559_5 : @LT.lt Nat _ vb_559 (Array.size T559.heap) := G559_5.lt
              have G559_6' : Arv Z T559.heap vb_559 kb_559 .byte (6 : Int32) [(.int (own_e0 (y2_0 &&& (255 : Int32)))), (.int (own_e1 (y2_0 &&& (255 : Int32)))), (.int (own_e0 (y2_1 &&& (255 : Int32)))), (.int (own_e1 (y2_1 &&& (255 : Int32)))), (.int (own_e0 (65533 : Int32))), (.int (own_e1 (65533 : Int32)))] (.int (0 : Int32)) := G559_6
              refine own_rl 93 #[.val (.ref a1), .val (.ref bb), .val (.int (1 : Int32)), .val (.ref ix_513), .val (.ref b514), .val (.int (4 : Int32)), .val (.int (b3 &&& (255 : Int32))), .val (.int (-1 : Int32))] [] X559 hx hby e4_89_2 rfl rfl ?_
              refine own_go 21 X559 hx (hb hby d4_93) (by decide) (by decide) ?_
              have f560 := (FJ523_0.keep K559 (allS (by omega) all0))
              have f561 := (Exa.keep FJ523_1 K559)
              have f562 := (FJ523_2.keep K559 (own_nS (by omega) nin0))
              have f563 := (FJ523_3.keep K559 (own_nS (by omega) nin0))
              have f564 : Unt T559.heap a1 := (Unt.keep K559 (own_nS (by omega) nin0) FJ523_4)
              have f565 := (Exa.keep FJ523_5 K559)
              have f566 := (FJ523_6.keep K559 (own_nS (by omega) nin0))
              have f567 := (FJ523_7.keep K559 (own_nS (by omega) nin0))
              have f568 := (FJ523_8.keep K559 (own_nS (by omega) nin0))
              have f569 : own_SB33 Z T559.heap n0 b514 (own_exp b1) (own_exp b2) (own_exp b3) := Or.inr ⟨vb_559, kb_559, (own_e0 (y2_0 &&& (255 : Int32))), (own_e0 (y2_1 &&& (255 : Int32))), (own_e0 (65533 : Int32)), (own_e1 (y2_0 &&& (255 : Int32))), (own_e1 (y2_1 &&& (255 : Int32))), (own_e1 (65533 : Int32)), G559_0, G559_1', G559_2, G559_3, G559_4, G559_5, G559_6', by omega, pe2_0.2, pe2_1.2, own_P4 hc43⟩
              exact J524 _ _ _ (.val (.int (-1 : Int32))) (X559.more (by decide) (by decide)) rfl N559 (by omega) f560 f561 f562 f563 f564 f565 f566 f567 f568 f569 (Or.inr ⟨_, rfl, rfl⟩)
          · have ltv2 : @LT.lt Nat _ va2 (Array.size hJ523) := fs2_6.lt
            have lts2 : @LT.lt Nat _ b514 (Array.size hJ523) := fs2_0.lt
            refine own_ru 24 [(.ref bb), (.int (3 : Int32))] XJ523 hx hby e4_21_2 rfl rfl ?_
            refine own_aL XJ523 hx hZ eJ523 FJ523_8 25 rfl (hb hby d4_24) rfl ?_
            refine own_kN 28 XJ523 hx (hb hby d4_25) rfl (tlt (by decide : ((3 : Int32) < (4 : Int32)))).2.1 rfl ?_
            refine own_ru 31 [(.int (3 : Int32)), (.ref bb)] XJ523 hx hby e4_28_2 rfl rfl ?_
            refine own_bL XJ523 hx hZ eJ523 FJ523_8 (x := b3) 32 rfl (hb hby d4_31) rfl ⟨by decide, by decide⟩ rfl ?_
            refine own_rl 43 #[.val (.ref a1), .val (.ref bb), .val (.int (1 : Int32)), .val (.ref ix_513), .val (.ref b514), .val (.int (3 : Int32)), .val (.int (b3 &&& (255 : Int32))), sl7] [(.int (128 : Int32)), (.int (b3 &&& (255 : Int32)))] XJ523 hx hby e4_32_5 rfl rfl ?_
            by_cases hc43 : (b3 &&& (255 : Int32)) < (128 : Int32)
            · refine own_kN 46 XJ523 hx (hb hby d4_43) rfl (tlt hc43).2.1 rfl ?_
              refine own_ru 51 [(.int ((b3 &&& (255 : Int32)).toUInt32.toUInt16.toUInt32.toInt32)), (.ref b514)] XJ523 hx hby e4_46_3 rfl rfl ?_
              refine own_cV XJ523 hx hZ hown (wd66 hw) (wd67 hw) (notFace_of_selects (args := #[]) (mvT hZ (wd69 hw))) (wd69 hw) (wd68 hw) (by decide) (wd70 hw) (wd49 hw) (rm11u l Z a0 hw [] G1 G2 b514 ((b3 &&& (255 : Int32)).toUInt32.toUInt16.toUInt32.toInt32) (2 : Int32) va2 kv2 (6 : Int32) [(.int y2_0), (.int z2_0), (.int y2_1), (.int z2_1), (.int (0 : Int32)), (.int (0 : Int32))] hJ523 n0 (by omega) FJ523_0 A fs2_0 fs2_1 fs2_2 fs2_3 fs2_4 fs2_5 fs2_6 (by omega) (by omega) (by decide) (by decide) (by decide) ⟨by decide, by decide⟩ ⟨by decide, by decide⟩ (Nat.le_of_ble_eq_true rfl) (Nat.le_of_ble_eq_true rfl) (by first | assumption | decide | omega)) eJ523 fs2_0 [(.int ((b3 &&& (255 : Int32)).toUInt32.toUInt16.toUInt32.toInt32))] [] 54 0 (hb hby d4_51) rfl (by rw [hml]; rfl) rfl rfl (lenOf pd_26 rfl) rfl (by decide) fun v570 T570 Lc570 X570 hQ570 => ?_
              obtain ⟨rfl, N570q, K570, G570_0, G570_1, G570_2, G570_3, G570_4, G570_5, G570_6⟩ := hQ570
              have N570 := Fr.app NJ523 N570q
              have z570 := K570.1
              have lt570_0 : @LT.lt Nat _ b514 (Array.size T570.heap) := G570_0.lt
              have G570_1' : fl8 Z T570.heap b514 (.int (3 : Int32)) := G570_1
              have lt570_5 : @LT.lt Nat _ va2 (Array.size T570.heap) := G570_5.lt
              have G570_6' : Arv Z T570.heap va2 kv2 .byte (6 : Int32) [(.int y2_0), (.int z2_0), (.int y2_1), (.int z2_1), (.int (own_e0 ((b3 &&& (255 : Int32)).toUInt32.toUInt16.toUInt32.toInt32))), (.int (own_e1 ((b3 &&& (255 : Int32)).toUInt32.toUInt16.toUInt32.toInt32)))] (.int (0 : Int32)) := G570_6
              refine own_ru 55 [] X570 hx hby e4_54_1 rfl rfl ?_
              refine own_go 90 X570 hx (hb hby d4_55) (by decide) (by decide) ?_
              refine own_rl 93 #[.val (.ref a1), .val (.ref bb), .val (.int (1 : Int32)), .val (.ref ix_513), .val (.ref b514), .val (.int (4 : Int32)), .val (.int (b3 &&& (255 : Int32))), sl7] [] X570 hx hby e4_90_1 rfl rfl ?_
              refine own_go 21 X570 hx (hb hby d4_93) (by decide) (by decide) ?_
              have f571 := (FJ523_0.keep K570 (allS (by omega) (allS (by omega) all0)))
              have f572 := (Exa.keep FJ523_1 K570)
              have f573 := (FJ523_2.keep K570 (own_nS (by omega) (own_nS (by omega) nin0)))
              have f574 := (FJ523_3.keep K570 (own_nS (by omega) (own_nS (by omega) nin0)))
              have f575 : Unt T570.heap a1 := (Unt.keep K570 (own_nS (by omega) (own_nS (by omega) nin0)) FJ523_4)
              have f576 := (Exa.keep FJ523_5 K570)
              have f577 := (FJ523_6.keep K570 (own_nS (by omega) (own_nS (by omega) nin0)))
              have f578 := (FJ523_7.keep K570 (own_nS (by omega) (own_nS (by omega) nin0)))
              have f579 := (FJ523_8.keep K570 (own_nS (by omega) (own_nS (by omega) nin0)))
              have f580 : own_SB33 Z T570.heap n0 b514 (own_exp b1) (own_exp b2) (own_exp b3) := Or.inr ⟨va2, kv2, y2_0, y2_1, (own_e0 ((b3 &&& (255 : Int32)).toUInt32.toUInt16.toUInt32.toInt32)), z2_0, z2_1, (own_e1 ((b3 &&& (255 : Int32)).toUInt32.toUInt16.toUInt32.toInt32)), G570_0, G570_1', G570_2, G570_3, G570_4, G570_5, G570_6', by omega, pe2_0, pe2_1, own_P2 hc43⟩
              exact J524 _ _ _ sl7 (X570.more (by decide) (by decide)) rfl N570 (by omega) f571 f572 f573 f574 f575 f576 f577 f578 f579 f580 hs_sl7
            · refine own_kY 58 XJ523 hx (hb hby d4_43) rfl (flt hc43).2.1 (by decide) (by decide) ?_
              refine own_ru 65 [(.int ((b3 &&& (255 : Int32)) - (128 : Int32))), (.ref ix_513)] XJ523 hx hby e4_58_4 rfl rfl ?_
              refine own_cV XJ523 hx hZ hown (wd179 hw) (wd180 hw) (notFace_of_selects (args := #[]) (mvT hZ (wd182 hw))) (wd182 hw) (wd181 hw) (by decide) (wd183 hw) (wd33 hw) (rm33 l Z a0 hw [] ix_513 ((b3 &&& (255 : Int32)) - (128 : Int32)) ca_513 kk_513 vz_513 hJ523 n0 (by omega) FJ523_6 FJ523_7 (own_jr hc43) U513_0) eJ523 FJ523_5 [(.int ((b3 &&& (255 : Int32)) - (128 : Int32)))] [] 68 0 (hb hby d4_65) rfl (by rw [hml]; rfl) rfl rfl (lenOf pd_11 rfl) rfl (by decide) fun v581 T581 Lc581 X581 hQ581 => ?_
              obtain ⟨rfl, N581q, e581⟩ := hQ581
              have N581 := Fr.app NJ523 N581q
              refine own_sl 70 #[.val (.ref a1), .val (.ref bb), .val (.int (1 : Int32)), .val (.ref ix_513), .val (.ref b514), .val (.int (3 : Int32)), .val (.int (b3 &&& (255 : Int32))), .val (.int (-1 : Int32))] [] (fun t k => XS.istore X581.here hx rfl (hb hby d4_68) rfl (l' := #[.val (.ref a1), .val (.ref bb), .val (.int (1 : Int32)), .val (.ref ix_513), .val (.ref b514), .val (.int (3 : Int32)), .val (.int (b3 &&& (255 : Int32))), .val (.int (-1 : Int32))]) ((XS.store1 (o := sl7) rfl (hs_sl7) rfl).trans rfl) k) ?_
              refine own_ru 75 [(.int (-1 : Int32)), (.int (-1 : Int32)), (.ref b514)] X581 hx hby e4_70_3 rfl rfl ?_
              refine own_kN 78 X581 hx (hb hby d4_75) rfl (teq (by decide : ((-1 : Int32) = (-1 : Int32)))).2 rfl ?_
              refine own_st 80 [(.int (65533 : Int32)), (.ref b514)] (X581.ldcInt hx hown (mvT hZ (wd184 hw)) (g := (mkF m 78 #[.val (.ref a1), .val (.ref bb), .val (.int (1 : Int32)), .val (.ref ix_513), .val (.ref b514), .val (.int (3 : Int32)), .val (.int (b3 &&& (255 : Int32))), .val (.int (-1 : Int32))] [(.ref b514)])) rfl (hb hby d4_78)) ?_
              refine own_go 86 X581 hx (hb hby d4_80) (by decide) (by decide) ?_
              refine own_cV X581 hx hZ hown (wd66 hw) (wd67 hw) (notFace_of_selects (args := #[]) (mvT hZ (wd69 hw))) (wd69 hw) (wd68 hw) (by decide) (wd70 hw) (wd49 hw) (rm11u l Z a0 hw [] G1 G2 b514 (65533 : Int32) (2 : Int32) va2 kv2 (6 : Int32) [(.int y2_0), (.int z2_0), (.int y2_1), (.int z2_1), (.int (0 : Int32)), (.int (0 : Int32))] hJ523 n0 (by omega) FJ523_0 A fs2_0 fs2_1 fs2_2 fs2_3 fs2_4 fs2_5 fs2_6 (by omega) (by omega) (by decide) (by decide) (by decide) ⟨by decide, by decide⟩ ⟨by decide, by decide⟩ (Nat.le_of_ble_eq_true rfl) (Nat.le_of_ble_eq_true rfl) (by first | assumption | decide | omega)) e581 fs2_0 [(.int (65533 : Int32))] [] 89 0 (hb hby d4_86) rfl (by rw [hml]; rfl) rfl rfl (lenOf pd_26 rfl) rfl (by decide) fun v582 T582 Lc582 X582 hQ582 => ?_
              obtain ⟨rfl, N582q, K582, G582_0, G582_1, G582_2, G582_3, G582_4, G582_5, G582_6⟩ := hQ582
              have N582 := Fr.app N581 N582q
              have z582 := K582.1
              have lt582_0 : @LT.lt Nat _ b514 (Array.size T582.heap) := G582_0.lt
              have G582_1' : fl8 Z T582.heap b514 (.int (3 : Int32)) := G582_1
              have lt582_5 : @LT.lt Nat _ va2 (Array.size T582.heap) := G582_5.lt
              have G582_6' : Arv Z T582.heap va2 kv2 .byte (6 : Int32) [(.int y2_0), (.int z2_0), (.int y2_1), (.int z2_1), (.int (own_e0 (65533 : Int32))), (.int (own_e1 (65533 : Int32)))] (.int (0 : Int32)) := G582_6
              refine own_rl 93 #[.val (.ref a1), .val (.ref bb), .val (.int (1 : Int32)), .val (.ref ix_513), .val (.ref b514), .val (.int (4 : Int32)), .val (.int (b3 &&& (255 : Int32))), .val (.int (-1 : Int32))] [] X582 hx hby e4_89_2 rfl rfl ?_
              refine own_go 21 X582 hx (hb hby d4_93) (by decide) (by decide) ?_
              have f583 := (FJ523_0.keep K582 (allS (by omega) (allS (by omega) all0)))
              have f584 := (Exa.keep FJ523_1 K582)
              have f585 := (FJ523_2.keep K582 (own_nS (by omega) (own_nS (by omega) nin0)))
              have f586 := (FJ523_3.keep K582 (own_nS (by omega) (own_nS (by omega) nin0)))
              have f587 : Unt T582.heap a1 := (Unt.keep K582 (own_nS (by omega) (own_nS (by omega) nin0)) FJ523_4)
              have f588 := (Exa.keep FJ523_5 K582)
              have f589 := (FJ523_6.keep K582 (own_nS (by omega) (own_nS (by omega) nin0)))
              have f590 := (FJ523_7.keep K582 (own_nS (by omega) (own_nS (by omega) nin0)))
              have f591 := (FJ523_8.keep K582 (own_nS (by omega) (own_nS (by omega) nin0)))
              have f592 : own_SB33 Z T582.heap n0 b514 (own_exp b1) (own_exp b2) (own_exp b3) := Or.inr ⟨va2, kv2, y2_0, y2_1, (own_e0 (65533 : Int32)), z2_0, z2_1, (own_e1 (65533 : Int32)), G582_0, G582_1', G582_2, G582_3, G582_4, G582_5, G582_6', by omega, pe2_0, pe2_1, own_P4 hc43⟩
              exact J524 _ _ _ (.val (.int (-1 : Int32))) (X582.more (by decide) (by decide)) rfl N582 (by omega) f583 f584 f585 f586 f587 f588 f589 f590 f591 f592 (Or.inr ⟨_, rfl, rfl⟩)
      rcases FJ522_9 with ⟨va1, kv1, y1_0, fs1_0, fs1_1, fs1_2, fs1_3, fs1_4, fs1_5, fs1_6, og1, pe1_0⟩ | ⟨va1, kv1, y1_0, z1_0, fs1_0, fs1_1, fs1_2, fs1_3, fs1_4, fs1_5, fs1_6, og1, pe1_0⟩
      · have ltv1 : @LT.lt Nat _ va1 (Array.size hJ522) := fs1_6.lt
        have lts1 : @LT.lt Nat _ b514 (Array.size hJ522) := fs1_0.lt
        refine own_ru 24 [(.ref bb), (.int (2 : Int32))] XJ522 hx hby e4_21_2 rfl rfl ?_
        refine own_aL XJ522 hx hZ eJ522 FJ522_8 25 rfl (hb hby d4_24) rfl ?_
        refine own_kN 28 XJ522 hx (hb hby d4_25) rfl (tlt (by decide : ((2 : Int32) < (4 : Int32)))).2.1 rfl ?_
        refine own_ru 31 [(.int (2 : Int32)), (.ref bb)] XJ522 hx hby e4_28_2 rfl rfl ?_
        refine own_bL XJ522 hx hZ eJ522 FJ522_8 (x := b2) 32 rfl (hb hby d4_31) rfl ⟨by decide, by decide⟩ rfl ?_
        refine own_rl 43 #[.val (.ref a1), .val (.ref bb), .val (.int (1 : Int32)), .val (.ref ix_513), .val (.ref b514), .val (.int (2 : Int32)), .val (.int (b2 &&& (255 : Int32))), sl7] [(.int (128 : Int32)), (.int (b2 &&& (255 : Int32)))] XJ522 hx hby e4_32_5 rfl rfl ?_
        by_cases hc43 : (b2 &&& (255 : Int32)) < (128 : Int32)
        · refine own_kN 46 XJ522 hx (hb hby d4_43) rfl (tlt hc43).2.1 rfl ?_
          refine own_ru 51 [(.int ((b2 &&& (255 : Int32)).toUInt32.toUInt16.toUInt32.toInt32)), (.ref b514)] XJ522 hx hby e4_46_3 rfl rfl ?_
          refine own_cV XJ522 hx hZ hown (wd66 hw) (wd67 hw) (notFace_of_selects (args := #[]) (mvT hZ (wd69 hw))) (wd69 hw) (wd68 hw) (by decide) (wd70 hw) (wd49 hw) (rm11a l Z a0 hw [] G1 G2 b514 ((b2 &&& (255 : Int32)).toUInt32.toUInt16.toUInt32.toInt32) (1 : Int32) va1 kv1 (3 : Int32) [(.int y1_0), (.int (0 : Int32)), (.int (0 : Int32))] hJ522 n0 (by omega) FJ522_0 A fs1_0 fs1_1 fs1_2 fs1_3 fs1_4 fs1_5 fs1_6 (by omega) (by omega) (own_q255 hc43) (by decide) ⟨by decide, by decide⟩ (Nat.le_of_ble_eq_true rfl) (by first | assumption | decide | omega)) eJ522 fs1_0 [(.int ((b2 &&& (255 : Int32)).toUInt32.toUInt16.toUInt32.toInt32))] [] 54 0 (hb hby d4_51) rfl (by rw [hml]; rfl) rfl rfl (lenOf pd_26 rfl) rfl (by decide) fun v593 T593 Lc593 X593 hQ593 => ?_
          obtain ⟨rfl, N593q, K593, G593_0, G593_1, G593_2, G593_3, G593_4, G593_5, G593_6⟩ := hQ593
          have N593 := Fr.app NJ522 N593q
          have z593 := K593.1
          have lt593_0 : @LT.lt Nat _ b514 (Array.size T593.heap) := G593_0.lt
          have G593_1' : fl8 Z T593.heap b514 (.int (2 : Int32)) := G593_1
          have lt593_5 : @LT.lt Nat _ va1 (Array.size T593.heap) := G593_5.lt
          have G593_6' : Arv Z T593.heap va1 kv1 .byte (3 : Int32) [(.int y1_0), (.int (own_b8 ((b2 &&& (255 : Int32)).toUInt32.toUInt16.toUInt32.toInt32))), (.int (0 : Int32))] (.int (0 : Int32)) := G593_6
          refine own_ru 55 [] X593 hx hby e4_54_1 rfl rfl ?_
          refine own_go 90 X593 hx (hb hby d4_55) (by decide) (by decide) ?_
          refine own_rl 93 #[.val (.ref a1), .val (.ref bb), .val (.int (1 : Int32)), .val (.ref ix_513), .val (.ref b514), .val (.int (3 : Int32)), .val (.int (b2 &&& (255 : Int32))), sl7] [] X593 hx hby e4_90_1 rfl rfl ?_
          refine own_go 21 X593 hx (hb hby d4_93) (by decide) (by decide) ?_
          have f594 := (FJ522_0.keep K593 (allS (by omega) (allS (by omega) all0)))
          have f595 := (Exa.keep FJ522_1 K593)
          have f596 := (FJ522_2.keep K593 (own_nS (by omega) (own_nS (by omega) nin0)))
          have f597 := (FJ522_3.keep K593 (own_nS (by omega) (own_nS (by omega) nin0)))
          have f598 : Unt T593.heap a1 := (Unt.keep K593 (own_nS (by omega) (own_nS (by omega) nin0)) FJ522_4)
          have f599 := (Exa.keep FJ522_5 K593)
          have f600 := (FJ522_6.keep K593 (own_nS (by omega) (own_nS (by omega) nin0)))
          have f601 := (FJ522_7.keep K593 (own_nS (by omega) (own_nS (by omega) nin0)))
          have f602 := (FJ522_8.keep K593 (own_nS (by omega) (own_nS (by omega) nin0)))
          have f603 : own_SB32 Z T593.heap n0 b514 (own_exp b1) (own_exp b2) := Or.inl ⟨va1, kv1, y1_0, (own_b8 ((b2 &&& (255 : Int32)).toUInt32.toUInt16.toUInt32.toInt32)), G593_0, G593_1', G593_2, G593_3, G593_4, G593_5, G593_6', by omega, pe1_0, ⟨own_P1 hc43, own_P3 hc43⟩⟩
          exact J523 _ _ _ sl7 (X593.more (by decide) (by decide)) rfl N593 (by omega) f594 f595 f596 f597 f598 f599 f600 f601 f602 f603 hs_sl7
        · refine own_kY 58 XJ522 hx (hb hby d4_43) rfl (flt hc43).2.1 (by decide) (by decide) ?_
          refine own_ru 65 [(.int ((b2 &&& (255 : Int32)) - (128 : Int32))), (.ref ix_513)] XJ522 hx hby e4_58_4 rfl rfl ?_
          refine own_cV XJ522 hx hZ hown (wd179 hw) (wd180 hw) (notFace_of_selects (args := #[]) (mvT hZ (wd182 hw))) (wd182 hw) (wd181 hw) (by decide) (wd183 hw) (wd33 hw) (rm33 l Z a0 hw [] ix_513 ((b2 &&& (255 : Int32)) - (128 : Int32)) ca_513 kk_513 vz_513 hJ522 n0 (by omega) FJ522_6 FJ522_7 (own_jr hc43) U513_0) eJ522 FJ522_5 [(.int ((b2 &&& (255 : Int32)) - (128 : Int32)))] [] 68 0 (hb hby d4_65) rfl (by rw [hml]; rfl) rfl rfl (lenOf pd_11 rfl) rfl (by decide) fun v604 T604 Lc604 X604 hQ604 => ?_
          obtain ⟨rfl, N604q, e604⟩ := hQ604
          have N604 := Fr.app NJ522 N604q
          refine own_sl 70 #[.val (.ref a1), .val (.ref bb), .val (.int (1 : Int32)), .val (.ref ix_513), .val (.ref b514), .val (.int (2 : Int32)), .val (.int (b2 &&& (255 : Int32))), .val (.int (-1 : Int32))] [] (fun t k => XS.istore X604.here hx rfl (hb hby d4_68) rfl (l' := #[.val (.ref a1), .val (.ref bb), .val (.int (1 : Int32)), .val (.ref ix_513), .val (.ref b514), .val (.int (2 : Int32)), .val (.int (b2 &&& (255 : Int32))), .val (.int (-1 : Int32))]) ((XS.store1 (o := sl7) rfl (hs_sl7) rfl).trans rfl) k) ?_
          refine own_ru 75 [(.int (-1 : Int32)), (.int (-1 : Int32)), (.ref b514)] X604 hx hby e4_70_3 rfl rfl ?_
          refine own_kN 78 X604 hx (hb hby d4_75) rfl (teq (by decide : ((-1 : Int32) = (-1 : Int32)))).2 rfl ?_
          refine own_st 80 [(.int (65533 : Int32)), (.ref b514)] (X604.ldcInt hx hown (mvT hZ (wd184 hw)) (g := (mkF m 78 #[.val (.ref a1), .val (.ref bb), .val (.int (1 : Int32)), .val (.ref ix_513), .val (.ref b514), .val (.int (2 : Int32)), .val (.int (b2 &&& (255 : Int32))), .val (.int (-1 : Int32))] [(.ref b514)])) rfl (hb hby d4_78)) ?_
          refine own_go 86 X604 hx (hb hby d4_80) (by decide) (by decide) ?_
          refine own_cV X604 hx hZ hown (wd66 hw) (wd67 hw) (notFace_of_selects (args := #[]) (mvT hZ (wd69 hw))) (wd69 hw) (wd68 hw) (by decide) (wd70 hw) (wd49 hw) (rm11i l Z a0 hw [] G1 G2 b514 va1 kv1 (3 : Int32) (1 : Int32) ([y1_0] : List Int32) 3 hJ522 n0 (by omega) FJ522_0 A fs1_0 fs1_1 fs1_2 fs1_3 fs1_4 fs1_5 fs1_6 (by omega) (by decide) rfl rfl rfl (Nat.le_of_ble_eq_true rfl) (by decide) (by decide) (by decide) (by decide) (by decide) (by decide) (by decide) (by decide) (by decide) ⟨by decide, by decide⟩ ⟨by decide, by decide⟩ (Nat.le_of_ble_eq_true rfl) (Nat.le_of_ble_eq_true rfl) (by first | assumption | decide | omega)) e604 fs1_0 [(.int (65533 : Int32))] [] 89 0 (hb hby d4_86) rfl (by rw [hml]; rfl) rfl rfl (lenOf pd_26 rfl) rfl (by decide) fun v605 T605 Lc605 X605 hQ605 => ?_
          obtain ⟨vb_605, kb_605, rfl, N605q, K605, G605_0, G605_1, G605_2, G605_3, G605_4, G605_5, G605_6, U605_0⟩ := hQ605
          have N605 := Fr.app N604 N605q
          have z605 := K605.1
          have lt605_0 : @LT.lt Nat _ b514 (Array.size T605.heap) := G605_0.lt
          have G605_1' : fl8 Z T605.heap b514 (.int (2 : Int32)) := G605_1
          have lt605_5 : @LT.lt Nat _ vb_605 (Array.size T605.heap) := G605_5.lt
          have G605_6' : Arv Z T605.heap vb_605 kb_605 .byte (6 : Int32) [(.int (own_e0 (y1_0 &&& (255 : Int32)))), (.int (own_e1 (y1_0 &&& (255 : Int32)))), (.int (own_e0 (65533 : Int32))), (.int (own_e1 (65533 : Int32))), (.int (0 : Int32)), (.int (0 : Int32))] (.int (0 : Int32)) := G605_6
          refine own_rl 93 #[.val (.ref a1), .val (.ref bb), .val (.int (1 : Int32)), .val (.ref ix_513), .val (.ref b514), .val (.int (3 : Int32)), .val (.int (b2 &&& (255 : Int32))), .val (.int (-1 : Int32))] [] X605 hx hby e4_89_2 rfl rfl ?_
          refine own_go 21 X605 hx (hb hby d4_93) (by decide) (by decide) ?_
          have f606 := (FJ522_0.keep K605 (allS (by omega) all0))
          have f607 := (Exa.keep FJ522_1 K605)
          have f608 := (FJ522_2.keep K605 (own_nS (by omega) nin0))
          have f609 := (FJ522_3.keep K605 (own_nS (by omega) nin0))
          have f610 : Unt T605.heap a1 := (Unt.keep K605 (own_nS (by omega) nin0) FJ522_4)
          have f611 := (Exa.keep FJ522_5 K605)
          have f612 := (FJ522_6.keep K605 (own_nS (by omega) nin0))
          have f613 := (FJ522_7.keep K605 (own_nS (by omega) nin0))
          have f614 := (FJ522_8.keep K605 (own_nS (by omega) nin0))
          have f615 : own_SB32 Z T605.heap n0 b514 (own_exp b1) (own_exp b2) := Or.inr ⟨vb_605, kb_605, (own_e0 (y1_0 &&& (255 : Int32))), (own_e0 (65533 : Int32)), (own_e1 (y1_0 &&& (255 : Int32))), (own_e1 (65533 : Int32)), G605_0, G605_1', G605_2, G605_3, G605_4, G605_5, G605_6', by omega, pe1_0.2, own_P4 hc43⟩
          exact J523 _ _ _ (.val (.int (-1 : Int32))) (X605.more (by decide) (by decide)) rfl N605 (by omega) f606 f607 f608 f609 f610 f611 f612 f613 f614 f615 (Or.inr ⟨_, rfl, rfl⟩)
      · have ltv1 : @LT.lt Nat _ va1 (Array.size hJ522) := fs1_6.lt
        have lts1 : @LT.lt Nat _ b514 (Array.size hJ522) := fs1_0.lt
        refine own_ru 24 [(.ref bb), (.int (2 : Int32))] XJ522 hx hby e4_21_2 rfl rfl ?_
        refine own_aL XJ522 hx hZ eJ522 FJ522_8 25 rfl (hb hby d4_24) rfl ?_
        refine own_kN 28 XJ522 hx (hb hby d4_25) rfl (tlt (by decide : ((2 : Int32) < (4 : Int32)))).2.1 rfl ?_
        refine own_ru 31 [(.int (2 : Int32)), (.ref bb)] XJ522 hx hby e4_28_2 rfl rfl ?_
        refine own_bL XJ522 hx hZ eJ522 FJ522_8 (x := b2) 32 rfl (hb hby d4_31) rfl ⟨by decide, by decide⟩ rfl ?_
        refine own_rl 43 #[.val (.ref a1), .val (.ref bb), .val (.int (1 : Int32)), .val (.ref ix_513), .val (.ref b514), .val (.int (2 : Int32)), .val (.int (b2 &&& (255 : Int32))), sl7] [(.int (128 : Int32)), (.int (b2 &&& (255 : Int32)))] XJ522 hx hby e4_32_5 rfl rfl ?_
        by_cases hc43 : (b2 &&& (255 : Int32)) < (128 : Int32)
        · refine own_kN 46 XJ522 hx (hb hby d4_43) rfl (tlt hc43).2.1 rfl ?_
          refine own_ru 51 [(.int ((b2 &&& (255 : Int32)).toUInt32.toUInt16.toUInt32.toInt32)), (.ref b514)] XJ522 hx hby e4_46_3 rfl rfl ?_
          refine own_cV XJ522 hx hZ hown (wd66 hw) (wd67 hw) (notFace_of_selects (args := #[]) (mvT hZ (wd69 hw))) (wd69 hw) (wd68 hw) (by decide) (wd70 hw) (wd49 hw) (rm11u l Z a0 hw [] G1 G2 b514 ((b2 &&& (255 : Int32)).toUInt32.toUInt16.toUInt32.toInt32) (1 : Int32) va1 kv1 (6 : Int32) [(.int y1_0), (.int z1_0), (.int (0 : Int32)), (.int (0 : Int32)), (.int (0 : Int32)), (.int (0 : Int32))] hJ522 n0 (by omega) FJ522_0 A fs1_0 fs1_1 fs1_2 fs1_3 fs1_4 fs1_5 fs1_6 (by omega) (by omega) (by decide) (by decide) (by decide) ⟨by decide, by decide⟩ ⟨by decide, by decide⟩ (Nat.le_of_ble_eq_true rfl) (Nat.le_of_ble_eq_true rfl) (by first | assumption | decide | omega)) eJ522 fs1_0 [(.int ((b2 &&& (255 : Int32)).toUInt32.toUInt16.toUInt32.toInt32))] [] 54 0 (hb hby d4_51) rfl (by rw [hml]; rfl) rfl rfl (lenOf pd_26 rfl) rfl (by decide) fun v616 T616 Lc616 X616 hQ616 => ?_
          obtain ⟨rfl, N616q, K616, G616_0, G616_1, G616_2, G616_3, G616_4, G616_5, G616_6⟩ := hQ616
          have N616 := Fr.app NJ522 N616q
          have z616 := K616.1
          have lt616_0 : @LT.lt Nat _ b514 (Array.size T616.heap) := G616_0.lt
          have G616_1' : fl8 Z T616.heap b514 (.int (2 : Int32)) := G616_1
          have lt616_5 : @LT.lt Nat _ va1 (Array.size T616.heap) := G616_5.lt
          have G616_6' : Arv Z T616.heap va1 kv1 .byte (6 : Int32) [(.int y1_0), (.int z1_0), (.int (own_e0 ((b2 &&& (255 : Int32)).toUInt32.toUInt16.toUInt32.toInt32))), (.int (own_e1 ((b2 &&& (255 : Int32)).toUInt32.toUInt16.toUInt32.toInt32))), (.int (0 : Int32)), (.int (0 : Int32))] (.int (0 : Int32)) := G616_6
          refine own_ru 55 [] X616 hx hby e4_54_1 rfl rfl ?_
          refine own_go 90 X616 hx (hb hby d4_55) (by decide) (by decide) ?_
          refine own_rl 93 #[.val (.ref a1), .val (.ref bb), .val (.int (1 : Int32)), .val (.ref ix_513), .val (.ref b514), .val (.int (3 : Int32)), .val (.int (b2 &&& (255 : Int32))), sl7] [] X616 hx hby e4_90_1 rfl rfl ?_
          refine own_go 21 X616 hx (hb hby d4_93) (by decide) (by decide) ?_
          have f617 := (FJ522_0.keep K616 (allS (by omega) (allS (by omega) all0)))
          have f618 := (Exa.keep FJ522_1 K616)
          have f619 := (FJ522_2.keep K616 (own_nS (by omega) (own_nS (by omega) nin0)))
          have f620 := (FJ522_3.keep K616 (own_nS (by omega) (own_nS (by omega) nin0)))
          have f621 : Unt T616.heap a1 := (Unt.keep K616 (own_nS (by omega) (own_nS (by omega) nin0)) FJ522_4)
          have f622 := (Exa.keep FJ522_5 K616)
          have f623 := (FJ522_6.keep K616 (own_nS (by omega) (own_nS (by omega) nin0)))
          have f624 := (FJ522_7.keep K616 (own_nS (by omega) (own_nS (by omega) nin0)))
          have f625 := (FJ522_8.keep K616 (own_nS (by omega) (own_nS (by omega) nin0)))
          have f626 : own_SB32 Z T616.heap n0 b514 (own_exp b1) (own_exp b2) := Or.inr ⟨va1, kv1, y1_0, (own_e0 ((b2 &&& (255 : Int32)).toUInt32.toUInt16.toUInt32.toInt32)), z1_0, (own_e1 ((b2 &&& (255 : Int32)).toUInt32.toUInt16.toUInt32.toInt32)), G616_0, G616_1', G616_2, G616_3, G616_4, G616_5, G616_6', by omega, pe1_0, own_P2 hc43⟩
          exact J523 _ _ _ sl7 (X616.more (by decide) (by decide)) rfl N616 (by omega) f617 f618 f619 f620 f621 f622 f623 f624 f625 f626 hs_sl7
        · refine own_kY 58 XJ522 hx (hb hby d4_43) rfl (flt hc43).2.1 (by decide) (by decide) ?_
          refine own_ru 65 [(.int ((b2 &&& (255 : Int32)) - (128 : Int32))), (.ref ix_513)] XJ522 hx hby e4_58_4 rfl rfl ?_
          refine own_cV XJ522 hx hZ hown (wd179 hw) (wd180 hw) (notFace_of_selects (args := #[]) (mvT hZ (wd182 hw))) (wd182 hw) (wd181 hw) (by decide) (wd183 hw) (wd33 hw) (rm33 l Z a0 hw [] ix_513 ((b2 &&& (255 : Int32)) - (128 : Int32)) ca_513 kk_513 vz_513 hJ522 n0 (by omega) FJ522_6 FJ522_7 (own_jr hc43) U513_0) eJ522 FJ522_5 [(.int ((b2 &&& (255 : Int32)) - (128 : Int32)))] [] 68 0 (hb hby d4_65) rfl (by rw [hml]; rfl) rfl rfl (lenOf pd_11 rfl) rfl (by decide) fun v627 T627 Lc627 X627 hQ627 => ?_
          obtain ⟨rfl, N627q, e627⟩ := hQ627
          have N627 := Fr.app NJ522 N627q
          refine own_sl 70 #[.val (.ref a1), .val (.ref bb), .val (.int (1 : Int32)), .val (.ref ix_513), .val (.ref b514), .val (.int (2 : Int32)), .val (.int (b2 &&& (255 : Int32))), .val (.int (-1 : Int32))] [] (fun t k => XS.istore X627.here hx rfl (hb hby d4_68) rfl (l' := #[.val (.ref a1), .val (.ref bb), .val (.int (1 : Int32)), .val (.ref ix_513), .val (.ref b514), .val (.int (2 : Int32)), .val (.int (b2 &&& (255 : Int32))), .val (.int (-1 : Int32))]) ((XS.store1 (o := sl7) rfl (hs_sl7) rfl).trans rfl) k) ?_
          refine own_ru 75 [(.int (-1 : Int32)), (.int (-1 : Int32)), (.ref b514)] X627 hx hby e4_70_3 rfl rfl ?_
          refine own_kN 78 X627 hx (hb hby d4_75) rfl (teq (by decide : ((-1 : Int32) = (-1 : Int32)))).2 rfl ?_
          refine own_st 80 [(.int (65533 : Int32)), (.ref b514)] (X627.ldcInt hx hown (mvT hZ (wd184 hw)) (g := (mkF m 78 #[.val (.ref a1), .val (.ref bb), .val (.int (1 : Int32)), .val (.ref ix_513), .val (.ref b514), .val (.int (2 : Int32)), .val (.int (b2 &&& (255 : Int32))), .val (.int (-1 : Int32))] [(.ref b514)])) rfl (hb hby d4_78)) ?_
          refine own_go 86 X627 hx (hb hby d4_80) (by decide) (by decide) ?_
          refine own_cV X627 hx hZ hown (wd66 hw) (wd67 hw) (notFace_of_selects (args := #[]) (mvT hZ (wd69 hw))) (wd69 hw) (wd68 hw) (by decide) (wd70 hw) (wd49 hw) (rm11u l Z a0 hw [] G1 G2 b514 (65533 : Int32) (1 : Int32) va1 kv1 (6 : Int32) [(.int y1_0), (.int z1_0), (.int (0 : Int32)), (.int (0 : Int32)), (.int (0 : Int32)), (.int (0 : Int32))] hJ522 n0 (by omega) FJ522_0 A fs1_0 fs1_1 fs1_2 fs1_3 fs1_4 fs1_5 fs1_6 (by omega) (by omega) (by decide) (by decide) (by decide) ⟨by decide, by decide⟩ ⟨by decide, by decide⟩ (Nat.le_of_ble_eq_true rfl) (Nat.le_of_ble_eq_true rfl) (by first | assumption | decide | omega)) e627 fs1_0 [(.int (65533 : Int32))] [] 89 0 (hb hby d4_86) rfl (by rw [hml]; rfl) rfl rfl (lenOf pd_26 rfl) rfl (by decide) fun v628 T628 Lc628 X628 hQ628 => ?_
          obtain ⟨rfl, N628q, K628, G628_0, G628_1, G628_2, G628_3, G628_4, G628_5, G628_6⟩ := hQ628
          have N628 := Fr.app N627 N628q
          have z628 := K628.1
          have lt628_0 : @LT.lt Nat _ b514 (Array.size T628.heap) := G628_0.lt
          have G628_1' : fl8 Z T628.heap b514 (.int (2 : Int32)) := G628_1
          have lt628_5 : @LT.lt Nat _ va1 (Array.size T628.heap) := G628_5.lt
          have G628_6' : Arv Z T628.heap va1 kv1 .byte (6 : Int32) [(.int y1_0), (.int z1_0), (.int (own_e0 (65533 : Int32))), (.int (own_e1 (65533 : Int32))), (.int (0 : Int32)), (.int (0 : Int32))] (.int (0 : Int32)) := G628_6
          refine own_rl 93 #[.val (.ref a1), .val (.ref bb), .val (.int (1 : Int32)), .val (.ref ix_513), .val (.ref b514), .val (.int (3 : Int32)), .val (.int (b2 &&& (255 : Int32))), .val (.int (-1 : Int32))] [] X628 hx hby e4_89_2 rfl rfl ?_
          refine own_go 21 X628 hx (hb hby d4_93) (by decide) (by decide) ?_
          have f629 := (FJ522_0.keep K628 (allS (by omega) (allS (by omega) all0)))
          have f630 := (Exa.keep FJ522_1 K628)
          have f631 := (FJ522_2.keep K628 (own_nS (by omega) (own_nS (by omega) nin0)))
          have f632 := (FJ522_3.keep K628 (own_nS (by omega) (own_nS (by omega) nin0)))
          have f633 : Unt T628.heap a1 := (Unt.keep K628 (own_nS (by omega) (own_nS (by omega) nin0)) FJ522_4)
          have f634 := (Exa.keep FJ522_5 K628)
          have f635 := (FJ522_6.keep K628 (own_nS (by omega) (own_nS (by omega) nin0)))
          have f636 := (FJ522_7.keep K628 (own_nS (by omega) (own_nS (by omega) nin0)))
          have f637 := (FJ522_8.keep K628 (own_nS (by omega) (own_nS (by omega) nin0)))
          have f638 : own_SB32 Z T628.heap n0 b514 (own_exp b1) (own_exp b2) := Or.inr ⟨va1, kv1, y1_0, (own_e0 (65533 : Int32)), z1_0, (own_e1 (65533 : Int32)), G628_0, G628_1', G628_2, G628_3, G628_4, G628_5, G628_6', by omega, pe1_0, own_P4 hc43⟩
          exact J523 _ _ _ (.val (.int (-1 : Int32))) (X628.more (by decide) (by decide)) rfl N628 (by omega) f629 f630 f631 f632 f633 f634 f635 f636 f637 f638 (Or.inr ⟨_, rfl, rfl⟩)
  refine own_st 23 [(.int (1 : Int32))] (fun t k => XS.iload X521.here hx rfl (hb hby d4_21) rfl  k) ?_
  refine own_ru 24 [(.ref bb), (.int (1 : Int32))] X521 hx hby e4_23_1 rfl rfl ?_
  have f639 := (f519.keep K521 (own_nS (by omega) nin0))
  refine own_aL X521 hx hZ rfl f639 25 rfl (hb hby d4_24) rfl ?_
  refine own_kN 28 X521 hx (hb hby d4_25) rfl (tlt (by decide : ((1 : Int32) < (4 : Int32)))).2.1 rfl ?_
  refine own_ru 31 [(.int (1 : Int32)), (.ref bb)] X521 hx hby e4_28_2 rfl rfl ?_
  refine own_bL X521 hx hZ rfl f639 (x := b1) 32 rfl (hb hby d4_31) rfl ⟨by decide, by decide⟩ rfl ?_
  refine own_rl 43 #[.val (.ref a1), .val (.ref bb), .val (.int (1 : Int32)), .val (.ref ix_513), .val (.ref b514), .val (.int (1 : Int32)), .val (.int (b1 &&& (255 : Int32))), .unset] [(.int (128 : Int32)), (.int (b1 &&& (255 : Int32)))] X521 hx hby e4_32_5 rfl rfl ?_
  by_cases hc43 : (b1 &&& (255 : Int32)) < (128 : Int32)
  · refine own_kN 46 X521 hx (hb hby d4_43) rfl (tlt hc43).2.1 rfl ?_
    refine own_ru 51 [(.int ((b1 &&& (255 : Int32)).toUInt32.toUInt16.toUInt32.toInt32)), (.ref b514)] X521 hx hby e4_46_3 rfl rfl ?_
    have f640 := (f520.keep K521 (allS (by omega) all0))
    refine own_cV X521 hx hZ hown (wd66 hw) (wd67 hw) (notFace_of_selects (args := #[]) (mvT hZ (wd69 hw))) (wd69 hw) (wd68 hw) (by decide) (wd70 hw) (wd49 hw) (rm11a l Z a0 hw [] G1 G2 b514 ((b1 &&& (255 : Int32)).toUInt32.toUInt16.toUInt32.toInt32) (0 : Int32) vn_521 kk_521 (3 : Int32) [(.int (0 : Int32)), (.int (0 : Int32)), (.int (0 : Int32))] T521.heap n0 (by omega) f640 A G521_0 G521_1 G521_2 G521_3 G521_4 G521_5 G521_6' (by omega) (by omega) (own_q255 hc43) (by decide) ⟨by decide, by decide⟩ (Nat.le_of_ble_eq_true rfl) (by first | assumption | decide | omega)) rfl G521_0 [(.int ((b1 &&& (255 : Int32)).toUInt32.toUInt16.toUInt32.toInt32))] [] 54 0 (hb hby d4_51) rfl (by rw [hml]; rfl) rfl rfl (lenOf pd_26 rfl) rfl (by decide) fun v641 T641 Lc641 X641 hQ641 => ?_
    obtain ⟨rfl, N641q, K641, G641_0, G641_1, G641_2, G641_3, G641_4, G641_5, G641_6⟩ := hQ641
    have N641 := Fr.app N521 N641q
    have z641 := K641.1
    have lt641_0 : @LT.lt Nat _ b514 (Array.size T641.heap) := G641_0.lt
    have G641_1' : fl8 Z T641.heap b514 (.int (1 : Int32)) := G641_1
    have lt641_5 : @LT.lt Nat _ vn_521 (Array.size T641.heap) := G641_5.lt
    have G641_6' : Arv Z T641.heap vn_521 kk_521 .byte (3 : Int32) [(.int (own_b8 ((b1 &&& (255 : Int32)).toUInt32.toUInt16.toUInt32.toInt32))), (.int (0 : Int32)), (.int (0 : Int32))] (.int (0 : Int32)) := G641_6
    refine own_ru 55 [] X641 hx hby e4_54_1 rfl rfl ?_
    refine own_go 90 X641 hx (hb hby d4_55) (by decide) (by decide) ?_
    refine own_rl 93 #[.val (.ref a1), .val (.ref bb), .val (.int (1 : Int32)), .val (.ref ix_513), .val (.ref b514), .val (.int (2 : Int32)), .val (.int (b1 &&& (255 : Int32))), .unset] [] X641 hx hby e4_90_1 rfl rfl ?_
    refine own_go 21 X641 hx (hb hby d4_93) (by decide) (by decide) ?_
    have f642 := (f640.keep K641 (allS (by omega) (allS (by omega) all0)))
    have f643 := (Exa.keep (Exa.keep (Exa.ext E514 G513_1) K521) K641)
    have f644 := (((Fld.ext E514 G513_2).keep K521 (own_nS (by omega) nin0)).keep K641 (own_nS (by omega) (own_nS (by omega) nin0)))
    have f645 := (((Fld.ext E514 G513_3).keep K521 (own_nS (by omega) nin0)).keep K641 (own_nS (by omega) (own_nS (by omega) nin0)))
    have f646 : Unt T641.heap a1 := (Unt.keep K641 (own_nS (by omega) (own_nS (by omega) nin0)) (Unt.keep K521 (own_nS (by omega) nin0) (Unt.ext E514 G513_4)))
    have f647 := (Exa.keep (Exa.keep (Exa.ext E514 G513_5) K521) K641)
    have f648 := (((Fld.ext E514 G513_6).keep K521 (own_nS (by omega) nin0)).keep K641 (own_nS (by omega) (own_nS (by omega) nin0)))
    have f649 := (((G513_7.ext E514).keep K521 (own_nS (by omega) nin0)).keep K641 (own_nS (by omega) (own_nS (by omega) nin0)))
    have f650 := (f639.keep K641 (own_nS (by omega) (own_nS (by omega) nin0)))
    have f651 : own_SB31 Z T641.heap n0 b514 (own_exp b1) := Or.inl ⟨vn_521, kk_521, (own_b8 ((b1 &&& (255 : Int32)).toUInt32.toUInt16.toUInt32.toInt32)), G641_0, G641_1', G641_2, G641_3, G641_4, G641_5, G641_6', by omega, ⟨own_P1 hc43, own_P3 hc43⟩⟩
    exact J522 _ _ _ .unset (X641.more (by decide) (by decide)) rfl N641 (by omega) f642 f643 f644 f645 f646 f647 f648 f649 f650 f651 (Or.inl rfl)
  · refine own_kY 58 X521 hx (hb hby d4_43) rfl (flt hc43).2.1 (by decide) (by decide) ?_
    refine own_ru 65 [(.int ((b1 &&& (255 : Int32)) - (128 : Int32))), (.ref ix_513)] X521 hx hby e4_58_4 rfl rfl ?_
    have f652 := ((Fld.ext E514 G513_6).keep K521 (own_nS (by omega) nin0))
    have f653 := ((G513_7.ext E514).keep K521 (own_nS (by omega) nin0))
    have f655 := (Exa.keep (Exa.ext E514 G513_5) K521)
    refine own_cV X521 hx hZ hown (wd179 hw) (wd180 hw) (notFace_of_selects (args := #[]) (mvT hZ (wd182 hw))) (wd182 hw) (wd181 hw) (by decide) (wd183 hw) (wd33 hw) (rm33 l Z a0 hw [] ix_513 ((b1 &&& (255 : Int32)) - (128 : Int32)) ca_513 kk_513 vz_513 T521.heap n0 (by omega) f652 f653 (own_jr hc43) U513_0) rfl f655 [(.int ((b1 &&& (255 : Int32)) - (128 : Int32)))] [] 68 0 (hb hby d4_65) rfl (by rw [hml]; rfl) rfl rfl (lenOf pd_11 rfl) rfl (by decide) fun v654 T654 Lc654 X654 hQ654 => ?_
    obtain ⟨rfl, N654q, e654⟩ := hQ654
    have N654 := Fr.app N521 N654q
    refine own_rl 75 #[.val (.ref a1), .val (.ref bb), .val (.int (1 : Int32)), .val (.ref ix_513), .val (.ref b514), .val (.int (1 : Int32)), .val (.int (b1 &&& (255 : Int32))), .val (.int (-1 : Int32))] [(.int (-1 : Int32)), (.int (-1 : Int32)), (.ref b514)] X654 hx hby e4_68_4 rfl rfl ?_
    refine own_kN 78 X654 hx (hb hby d4_75) rfl (teq (by decide : ((-1 : Int32) = (-1 : Int32)))).2 rfl ?_
    refine own_st 80 [(.int (65533 : Int32)), (.ref b514)] (X654.ldcInt hx hown (mvT hZ (wd184 hw)) (g := (mkF m 78 #[.val (.ref a1), .val (.ref bb), .val (.int (1 : Int32)), .val (.ref ix_513), .val (.ref b514), .val (.int (1 : Int32)), .val (.int (b1 &&& (255 : Int32))), .val (.int (-1 : Int32))] [(.ref b514)])) rfl (hb hby d4_78)) ?_
    refine own_go 86 X654 hx (hb hby d4_80) (by decide) (by decide) ?_
    have f656 := (f520.keep K521 (allS (by omega) all0))
    refine own_cV X654 hx hZ hown (wd66 hw) (wd67 hw) (notFace_of_selects (args := #[]) (mvT hZ (wd69 hw))) (wd69 hw) (wd68 hw) (by decide) (wd70 hw) (wd49 hw) (rm11i l Z a0 hw [] G1 G2 b514 vn_521 kk_521 (3 : Int32) (0 : Int32) ([] : List Int32) 3 T521.heap n0 (by omega) f656 A G521_0 G521_1 G521_2 G521_3 G521_4 G521_5 G521_6' (by omega) (by decide) rfl rfl rfl (Nat.le_of_ble_eq_true rfl) (by decide) (by decide) (by decide) (by decide) (by decide) (by decide) (by decide) (by decide) (by decide) ⟨by decide, by decide⟩ ⟨by decide, by decide⟩ (Nat.le_of_ble_eq_true rfl) (Nat.le_of_ble_eq_true rfl) (by first | assumption | decide | omega)) e654 G521_0 [(.int (65533 : Int32))] [] 89 0 (hb hby d4_86) rfl (by rw [hml]; rfl) rfl rfl (lenOf pd_26 rfl) rfl (by decide) fun v657 T657 Lc657 X657 hQ657 => ?_
    obtain ⟨vb_657, kb_657, rfl, N657q, K657, G657_0, G657_1, G657_2, G657_3, G657_4, G657_5, G657_6, U657_0⟩ := hQ657
    have N657 := Fr.app N654 N657q
    have z657 := K657.1
    have lt657_0 : @LT.lt Nat _ b514 (Array.size T657.heap) := G657_0.lt
    have G657_1' : fl8 Z T657.heap b514 (.int (1 : Int32)) := G657_1
    have lt657_5 : @LT.lt Nat _ vb_657 (Array.size T657.heap) := G657_5.lt
    have G657_6' : Arv Z T657.heap vb_657 kb_657 .byte (6 : Int32) [(.int (own_e0 (65533 : Int32))), (.int (own_e1 (65533 : Int32))), (.int (0 : Int32)), (.int (0 : Int32)), (.int (0 : Int32)), (.int (0 : Int32))] (.int (0 : Int32)) := G657_6
    refine own_rl 93 #[.val (.ref a1), .val (.ref bb), .val (.int (1 : Int32)), .val (.ref ix_513), .val (.ref b514), .val (.int (2 : Int32)), .val (.int (b1 &&& (255 : Int32))), .val (.int (-1 : Int32))] [] X657 hx hby e4_89_2 rfl rfl ?_
    refine own_go 21 X657 hx (hb hby d4_93) (by decide) (by decide) ?_
    have f658 := (f656.keep K657 (allS (by omega) all0))
    have f659 := (Exa.keep (Exa.keep (Exa.ext E514 G513_1) K521) K657)
    have f660 := (((Fld.ext E514 G513_2).keep K521 (own_nS (by omega) nin0)).keep K657 (own_nS (by omega) nin0))
    have f661 := (((Fld.ext E514 G513_3).keep K521 (own_nS (by omega) nin0)).keep K657 (own_nS (by omega) nin0))
    have f662 : Unt T657.heap a1 := (Unt.keep K657 (own_nS (by omega) nin0) (Unt.keep K521 (own_nS (by omega) nin0) (Unt.ext E514 G513_4)))
    have f663 := (Exa.keep f655 K657)
    have f664 := (f652.keep K657 (own_nS (by omega) nin0))
    have f665 := (f653.keep K657 (own_nS (by omega) nin0))
    have f666 := (f639.keep K657 (own_nS (by omega) nin0))
    have f667 : own_SB31 Z T657.heap n0 b514 (own_exp b1) := Or.inr ⟨vb_657, kb_657, (own_e0 (65533 : Int32)), (own_e1 (65533 : Int32)), G657_0, G657_1', G657_2, G657_3, G657_4, G657_5, G657_6', by omega, own_P4 hc43⟩
    exact J522 _ _ _ (.val (.int (-1 : Int32))) (X657.more (by decide) (by decide)) rfl N657 (by omega) f658 f659 f660 f661 f662 f663 f664 f665 f666 f667 (Or.inr ⟨_, rfl, rfl⟩)
def Q4f2n (Z : State) (G1 : Int32) (G2 : Value) (a1 : Addr) (bb : Addr) (kb : ClassId) (b0 : Int32) (b1 : Int32) (b2 : Int32) (b3 : Int32) (h0 : Heap) (n0 : Nat) (v : Option Value) (h : Heap) (L : List Loc) : Prop := ∃ so : Addr, ∃ ix : Addr, ∃ ca : Addr, ∃ kk : ClassId, ∃ vz : List Value, v = some (.ref so) ∧ Fr n0 L ∧ h0.size ≤ h.size ∧ Old Z n0 h ∧ ex0 Z h a1 ∧ fl1 Z h a1 (.ref ix) ∧ fl2 Z h a1 .null ∧ Unt h a1 ∧ ex5 Z h ix ∧ fl6 Z h ix (.ref ca) ∧ Arv Z h ca kk .int (128 : Int32) vz (.int (0 : Int32)) ∧ Arv Z h bb kb .byte (4 : Int32) [(.int b0), (.int b1), (.int b2), (.int b3)] (.int (0 : Int32)) ∧ own_Str2 Z h so (own_exp b2) (own_exp b3) ∧ (∀ j : Nat, j < 128 → vz.getD j (.int (0 : Int32)) = .int (-1 : Int32))
set_option maxRecDepth 65536 in
set_option maxHeartbeats 40000000 in
theorem rm4f2n (l : Launch) (Z : State) (a0 : Array Value) (hw : OW a0 Z) (ws : List Jvm.Cond) (G1 : Int32) (G2 : Value) (a1 : Addr) (bb : Addr) (kb : ClassId) (b0 : Int32) (b1 : Int32) (b2 : Int32) (b3 : Int32) (h0 : Heap) (n0 : Nat) (Z0 : n0 ≤ h0.size) (OLD : Old Z n0 h0) (A : Amb Z G1 G2) (P0 : ex0 Z h0 a1) (P1 : fl1 Z h0 a1 .null) (P2 : fl2 Z h0 a1 .null) (P3 : Unt h0 a1) (P4 : Arv Z h0 bb kb .byte (4 : Int32) [(.int b0), (.int b1), (.int b2), (.int b3)] (.int (0 : Int32))) (g_a1 : n0 ≤ a1) (hne : @Ne Nat bb a1) :
    own_Met l my4 prog_33_method_5_code 8 (some (.object "java/lang/String")) ws (own_rm 8 8 165 115) #[(.ref a1), (.ref bb), (.int (2 : Int32))] Z h0 (Q4f2n Z G1 G2 a1 bb kb b0 b1 b2 b3 h0 n0) 8 165 := by
  refine own_body (plainFor_of_name pn_0) (fun m => by first | (simp [entryFrame, mkF, argsToLocals, Value.category]; done) | rfl) (Ls := #[.val (.ref a1), .val (.ref bb), .val (.int (2 : Int32)), .unset, .unset, .unset, .unset, .unset]) fun p e s m below meth c s₁ X0 hx hby hml hZ e0 hown hnm hlk hrt => ?_
  have N0 := Fr.nil n0
  have lt_P0 : @LT.lt Nat _ a1 (Array.size h0) := P0.lt
  have lt_P4 : @LT.lt Nat _ bb (Array.size h0) := P4.lt
  refine own_ru 1 [(.ref a1)] X0 hx hby e4_0_1 rfl rfl ?_
  refine own_cY X0 hx hZ hown (wd25 hw) (wd26 hw) (own_selPriv (mvT hZ (wd6 hw)) (Cond.privateMethod_at (mvP hZ (wd27 hw) (args := #[]))) (mvT hZ (wd26 hw)) (by decide)) (wd27 hw) (by decide) (wd28 hw) (wd3 hw) (rm5n l Z a0 hw [] G1 G2 a1 bb kb [(.int b0), (.int b1), (.int b2), (.int b3)] h0 n0 (by omega) OLD A P0 P1 P2 P4 P3 (by omega) (by first | assumption | decide | omega)) e0 P0 P3 [] [] 4 0 (hb hby d4_1) rfl (by rw [hml]; rfl) rfl rfl (lenOf pd_24 rfl) rfl (by decide) fun v668 T668 Lc668 X668 hQ668 => ?_
  obtain ⟨ix_668, ca_668, kk_668, vz_668, rfl, N668q, K668, G668_0, G668_1, G668_2, G668_3, G668_4, G668_5, G668_6, G668_7, G668_8, U668_0⟩ := hQ668
  have N668 := Fr.app N0 N668q
  have lt668_1 : @LT.lt Nat _ a1 (Array.size T668.heap) := G668_1.lt
  have lt668_5 : @LT.lt Nat _ ix_668 (Array.size T668.heap) := G668_5.lt
  have lt668_7 : @LT.lt Nat _ ca_668 (Array.size T668.heap) := G668_7.lt
  have lt668_8 : @LT.lt Nat _ bb (Array.size T668.heap) := G668_8.lt
  refine own_rl 5 #[.val (.ref a1), .val (.ref bb), .val (.int (2 : Int32)), .val (.ref ix_668), .unset, .unset, .unset, .unset] [] X668 hx hby e4_4_1 rfl rfl ?_
  refine own_nO X668 hx hZ hown (wd47 hw) (wd48 hw) (wd49 hw) rfl 8 (hb hby d4_5) rfl (by decide) (by decide) fun T669 h669 b669 g669 X669 e669 E669 A669 D669 UN669 => ?_
  have ll669 : @LT.lt Nat _ b669 (Array.size h669) := A669.lt
  have z669 := E669.1
  have F670 : fl10 Z h669 b669 .null := D669 (Or.inl (wd63 hw)) (ty := (.array .byte)) (by decide)
  have F671 : fl9 Z h669 b669 (.int (0 : Int32)) := D669 (Or.inl (wd65 hw)) (ty := .byte) (by decide)
  have F672 : fl8 Z h669 b669 (.int (0 : Int32)) := D669 (Or.inl (wd77 hw)) (ty := .int) (by decide)
  have F673 : fl11 Z h669 b669 (.int (0 : Int32)) := D669 (Or.inl (wd230 hw)) (ty := .boolean) (by decide)
  refine own_ru 10 [(.ref bb), (.ref b669), (.ref b669)] X669 hx hby e4_8_2 rfl rfl ?_
  have f674 := (G668_8.ext E669)
  refine own_aL X669 hx hZ e669 f674 11 rfl (hb hby d4_10) rfl ?_
  refine own_ru 13 [(.int (2 : Int32)), (.ref b669), (.ref b669)] X669 hx hby e4_11_2 rfl rfl ?_
  have f675 := (G668_0.ext E669)
  refine own_cN X669 hx hZ hown rfl (wd50 hw) (wd51 hw) (by decide) (wd52 hw) (wd49 hw) (rm9 l Z a0 hw [] G1 G2 b669 (2 : Int32) 2 h669 n0 (by omega) f675 A A669 F672 F671 F670 F673 (by omega) (by decide) (by decide)) e669  [(.int (2 : Int32))] [(.ref b669)] 16 1 (hb hby d4_13) rfl (by rw [hml]; rfl) rfl rfl (lenOf pd_2 rfl) rfl (by decide) fun v676 T676 Lc676 X676 hQ676 => ?_
  obtain ⟨vn_676, kk_676, rfl, N676q, K676, G676_0, G676_1, G676_2, G676_3, G676_4, G676_5, G676_6, U676_0⟩ := hQ676
  have N676 := Fr.app N668 N676q
  have z676 := K676.1
  have lt676_0 : @LT.lt Nat _ b669 (Array.size T676.heap) := G676_0.lt
  have lt676_5 : @LT.lt Nat _ vn_676 (Array.size T676.heap) := G676_5.lt
  have G676_6' : Arv Z T676.heap vn_676 kk_676 .byte (2 : Int32) [(.int (0 : Int32)), (.int (0 : Int32))] (.int (0 : Int32)) := G676_6
  refine own_rl 21 #[.val (.ref a1), .val (.ref bb), .val (.int (2 : Int32)), .val (.ref ix_668), .val (.ref b669), .val (.int (2 : Int32)), .unset, .unset] [] X676 hx hby e4_16_3 rfl rfl ?_
  have J677 : ∀ (TJ677 : State) (LJ677 : List Loc) (hJ677 : Heap) (sl7 : Slot), Stand p l e (own_rm 8 8 165 115) s m #[(.ref a1), (.ref bb), (.int (2 : Int32))] below meth c TJ677 LJ677 5 145 → TJ677.heap = hJ677 → Fr n0 LJ677 → h0.size ≤ hJ677.size → Old Z n0 hJ677 → ex0 Z hJ677 a1 → fl1 Z hJ677 a1 (.ref ix_668) → fl2 Z hJ677 a1 .null → Unt hJ677 a1 → ex5 Z hJ677 ix_668 → fl6 Z hJ677 ix_668 (.ref ca_668) → Arv Z hJ677 ca_668 kk_668 .int (128 : Int32) vz_668 (.int (0 : Int32)) → Arv Z hJ677 bb kb .byte (4 : Int32) [(.int b0), (.int b1), (.int b2), (.int b3)] (.int (0 : Int32)) → own_SB21 Z hJ677 n0 b669 (own_exp b2) → ((sl7 = .unset ∨ ∃ w : Value, sl7 = .val w ∧ w.category = 1)) → own_Fin p.tables e below (own_post (Q4f2n Z G1 G2 a1 bb kb b0 b1 b2 b3 h0 n0) s 8 165) (TJ677.setTop (mkF m 21 #[.val (.ref a1), .val (.ref bb), .val (.int (2 : Int32)), .val (.ref ix_668), .val (.ref b669), .val (.int (3 : Int32)), .val (.int (b2 &&& (255 : Int32))), sl7] [])) := by
    as_aux_lemma =>
      intro TJ677 LJ677 hJ677 sl7 XJ677 eJ677 NJ677 zJ677 FJ677_0 FJ677_1 FJ677_2 FJ677_3 FJ677_4 FJ677_5 FJ677_6 FJ677_7 FJ677_8 FJ677_9 hs_sl7
      have ltJ677_1 : @LT.lt Nat _ a1 (Array.size hJ677) := FJ677_1.lt
      have ltJ677_5 : @LT.lt Nat _ ix_668 (Array.size hJ677) := FJ677_5.lt
      have ltJ677_7 : @LT.lt Nat _ ca_668 (Array.size hJ677) := FJ677_7.lt
      have ltJ677_8 : @LT.lt Nat _ bb (Array.size hJ677) := FJ677_8.lt
      have J678 : ∀ (TJ678 : State) (LJ678 : List Loc) (hJ678 : Heap) (sl7 : Slot), Stand p l e (own_rm 8 8 165 115) s m #[(.ref a1), (.ref bb), (.int (2 : Int32))] below meth c TJ678 LJ678 6 153 → TJ678.heap = hJ678 → Fr n0 LJ678 → h0.size ≤ hJ678.size → Old Z n0 hJ678 → ex0 Z hJ678 a1 → fl1 Z hJ678 a1 (.ref ix_668) → fl2 Z hJ678 a1 .null → Unt hJ678 a1 → ex5 Z hJ678 ix_668 → fl6 Z hJ678 ix_668 (.ref ca_668) → Arv Z hJ678 ca_668 kk_668 .int (128 : Int32) vz_668 (.int (0 : Int32)) → Arv Z hJ678 bb kb .byte (4 : Int32) [(.int b0), (.int b1), (.int b2), (.int b3)] (.int (0 : Int32)) → own_SB22 Z hJ678 n0 b669 (own_exp b2) (own_exp b3) → ((sl7 = .unset ∨ ∃ w : Value, sl7 = .val w ∧ w.category = 1)) → own_Fin p.tables e below (own_post (Q4f2n Z G1 G2 a1 bb kb b0 b1 b2 b3 h0 n0) s 8 165) (TJ678.setTop (mkF m 21 #[.val (.ref a1), .val (.ref bb), .val (.int (2 : Int32)), .val (.ref ix_668), .val (.ref b669), .val (.int (4 : Int32)), .val (.int (b3 &&& (255 : Int32))), sl7] [])) := by
        as_aux_lemma =>
          intro TJ678 LJ678 hJ678 sl7 XJ678 eJ678 NJ678 zJ678 FJ678_0 FJ678_1 FJ678_2 FJ678_3 FJ678_4 FJ678_5 FJ678_6 FJ678_7 FJ678_8 FJ678_9 hs_sl7
          have ltJ678_1 : @LT.lt Nat _ a1 (Array.size hJ678) := FJ678_1.lt
          have ltJ678_5 : @LT.lt Nat _ ix_668 (Array.size hJ678) := FJ678_5.lt
          have ltJ678_7 : @LT.lt Nat _ ca_668 (Array.size hJ678) := FJ678_7.lt
          have ltJ678_8 : @LT.lt Nat _ bb (Array.size hJ678) := FJ678_8.lt
          rcases FJ678_9 with ⟨va2, kv2, y2_0, y2_1, fs2_0, fs2_1, fs2_2, fs2_3, fs2_4, fs2_5, fs2_6, og2, pe2_0, pe2_1⟩ | ⟨va2, kv2, y2_0, y2_1, z2_0, z2_1, fs2_0, fs2_1, fs2_2, fs2_3, fs2_4, fs2_5, fs2_6, og2, pe2_0, pe2_1⟩
          · have ltv2 : @LT.lt Nat _ va2 (Array.size hJ678) := fs2_6.lt
            have lts2 : @LT.lt Nat _ b669 (Array.size hJ678) := fs2_0.lt
            refine own_ru 24 [(.ref bb), (.int (4 : Int32))] XJ678 hx hby e4_21_2 rfl rfl ?_
            refine own_aL XJ678 hx hZ eJ678 FJ678_8 25 rfl (hb hby d4_24) rfl ?_
            refine own_kY 96 XJ678 hx (hb hby d4_25) rfl (flt (by decide : ¬ ((4 : Int32) < (4 : Int32)))).2.1 (by decide) (by decide) ?_
            refine own_ru 98 [(.ref b669)] XJ678 hx hby e4_96_1 rfl rfl ?_
            refine own_cV XJ678 hx hZ hown (wd92 hw) (wd93 hw) (notFace_of_selects (args := #[]) (mvT hZ (wd95 hw))) (wd95 hw) (wd94 hw) (by decide) (wd96 hw) (wd49 hw) (rm16s0 l Z a0 hw [] G1 G2 b669 va2 kv2 (2 : Int32) (2 : Int32) [(.int y2_0), (.int y2_1)] hJ678 n0 (by omega) FJ678_0 A fs2_0 fs2_1 fs2_2 fs2_3 fs2_4 fs2_5 fs2_6 rfl (by decide)) eJ678 fs2_0 [] [] 101 0 (hb hby d4_98) rfl (by rw [hml]; rfl) rfl rfl (lenOf pd_25 rfl) rfl (by decide) fun v679 T679 Lc679 X679 hQ679 => ?_
            obtain ⟨so_679, ta_679, rfl, N679q, K679, G679_0, G679_1, G679_2, G679_3, U679_0⟩ := hQ679
            have N679 := Fr.app NJ678 N679q
            have z679 := K679.1
            have lt679_0 : @LT.lt Nat _ so_679 (Array.size T679.heap) := G679_0.lt
            have lt679_3 : @LT.lt Nat _ ta_679 (Array.size T679.heap) := G679_3.lt
            have f681 := (FJ678_0.keep K679 all0)
            have f682 := (Exa.keep FJ678_1 K679)
            have f683 := (FJ678_2.keep K679 nin0)
            have f684 := (FJ678_3.keep K679 nin0)
            have f685 : Unt T679.heap a1 := (Unt.keep K679 nin0 FJ678_4)
            have f686 := (Exa.keep FJ678_5 K679)
            have f687 := (FJ678_6.keep K679 nin0)
            have f688 := (FJ678_7.keep K679 nin0)
            have f689 := (FJ678_8.keep K679 nin0)
            have hq680 : Q4f2n Z G1 G2 a1 bb kb b0 b1 b2 b3 h0 n0 (some (.ref so_679)) T679.heap _ := ⟨so_679, ix_668, ca_668, kk_668, vz_668, rfl, N679, (by omega), f681, f682, f683, f684, f685, f686, f687, f688, f689, Or.inl ⟨ta_679, kv2, y2_0, y2_1, G679_0, G679_1, G679_2, G679_3, pe2_0.1, pe2_1.1⟩, U668_0⟩
            exact own_retR X679 hx hlk (w := (.ref so_679)) rfl hrt rfl (hb hby d4_101) rfl hq680 (by decide) (by decide)
          · have ltv2 : @LT.lt Nat _ va2 (Array.size hJ678) := fs2_6.lt
            have lts2 : @LT.lt Nat _ b669 (Array.size hJ678) := fs2_0.lt
            refine own_ru 24 [(.ref bb), (.int (4 : Int32))] XJ678 hx hby e4_21_2 rfl rfl ?_
            refine own_aL XJ678 hx hZ eJ678 FJ678_8 25 rfl (hb hby d4_24) rfl ?_
            refine own_kY 96 XJ678 hx (hb hby d4_25) rfl (flt (by decide : ¬ ((4 : Int32) < (4 : Int32)))).2.1 (by decide) (by decide) ?_
            refine own_ru 98 [(.ref b669)] XJ678 hx hby e4_96_1 rfl rfl ?_
            refine own_cV XJ678 hx hZ hown (wd92 hw) (wd93 hw) (notFace_of_selects (args := #[]) (mvT hZ (wd95 hw))) (wd95 hw) (wd94 hw) (by decide) (wd96 hw) (wd49 hw) (rm16s1 l Z a0 hw [] G1 G2 b669 va2 kv2 (2 : Int32) (4 : Int32) [(.int y2_0), (.int z2_0), (.int y2_1), (.int z2_1)] hJ678 n0 (by omega) FJ678_0 A fs2_0 fs2_1 fs2_2 fs2_3 fs2_4 fs2_5 fs2_6 rfl (by decide)) eJ678 fs2_0 [] [] 101 0 (hb hby d4_98) rfl (by rw [hml]; rfl) rfl rfl (lenOf pd_25 rfl) rfl (by decide) fun v690 T690 Lc690 X690 hQ690 => ?_
            obtain ⟨so_690, ta_690, rfl, N690q, K690, G690_0, G690_1, G690_2, G690_3, U690_0⟩ := hQ690
            have N690 := Fr.app NJ678 N690q
            have z690 := K690.1
            have lt690_0 : @LT.lt Nat _ so_690 (Array.size T690.heap) := G690_0.lt
            have lt690_3 : @LT.lt Nat _ ta_690 (Array.size T690.heap) := G690_3.lt
            have f692 := (FJ678_0.keep K690 all0)
            have f693 := (Exa.keep FJ678_1 K690)
            have f694 := (FJ678_2.keep K690 nin0)
            have f695 := (FJ678_3.keep K690 nin0)
            have f696 : Unt T690.heap a1 := (Unt.keep K690 nin0 FJ678_4)
            have f697 := (Exa.keep FJ678_5 K690)
            have f698 := (FJ678_6.keep K690 nin0)
            have f699 := (FJ678_7.keep K690 nin0)
            have f700 := (FJ678_8.keep K690 nin0)
            have hq691 : Q4f2n Z G1 G2 a1 bb kb b0 b1 b2 b3 h0 n0 (some (.ref so_690)) T690.heap _ := ⟨so_690, ix_668, ca_668, kk_668, vz_668, rfl, N690, (by omega), f692, f693, f694, f695, f696, f697, f698, f699, f700, Or.inr ⟨ta_690, kv2, y2_0, y2_1, z2_0, z2_1, G690_0, G690_1, G690_2, G690_3, pe2_0, pe2_1⟩, U668_0⟩
            exact own_retR X690 hx hlk (w := (.ref so_690)) rfl hrt rfl (hb hby d4_101) rfl hq691 (by decide) (by decide)
      rcases FJ677_9 with ⟨va1, kv1, y1_0, fs1_0, fs1_1, fs1_2, fs1_3, fs1_4, fs1_5, fs1_6, og1, pe1_0⟩ | ⟨va1, kv1, y1_0, z1_0, fs1_0, fs1_1, fs1_2, fs1_3, fs1_4, fs1_5, fs1_6, og1, pe1_0⟩
      · have ltv1 : @LT.lt Nat _ va1 (Array.size hJ677) := fs1_6.lt
        have lts1 : @LT.lt Nat _ b669 (Array.size hJ677) := fs1_0.lt
        refine own_ru 24 [(.ref bb), (.int (3 : Int32))] XJ677 hx hby e4_21_2 rfl rfl ?_
        refine own_aL XJ677 hx hZ eJ677 FJ677_8 25 rfl (hb hby d4_24) rfl ?_
        refine own_kN 28 XJ677 hx (hb hby d4_25) rfl (tlt (by decide : ((3 : Int32) < (4 : Int32)))).2.1 rfl ?_
        refine own_ru 31 [(.int (3 : Int32)), (.ref bb)] XJ677 hx hby e4_28_2 rfl rfl ?_
        refine own_bL XJ677 hx hZ eJ677 FJ677_8 (x := b3) 32 rfl (hb hby d4_31) rfl ⟨by decide, by decide⟩ rfl ?_
        refine own_rl 43 #[.val (.ref a1), .val (.ref bb), .val (.int (2 : Int32)), .val (.ref ix_668), .val (.ref b669), .val (.int (3 : Int32)), .val (.int (b3 &&& (255 : Int32))), sl7] [(.int (128 : Int32)), (.int (b3 &&& (255 : Int32)))] XJ677 hx hby e4_32_5 rfl rfl ?_
        by_cases hc43 : (b3 &&& (255 : Int32)) < (128 : Int32)
        · refine own_kN 46 XJ677 hx (hb hby d4_43) rfl (tlt hc43).2.1 rfl ?_
          refine own_ru 51 [(.int ((b3 &&& (255 : Int32)).toUInt32.toUInt16.toUInt32.toInt32)), (.ref b669)] XJ677 hx hby e4_46_3 rfl rfl ?_
          refine own_cV XJ677 hx hZ hown (wd66 hw) (wd67 hw) (notFace_of_selects (args := #[]) (mvT hZ (wd69 hw))) (wd69 hw) (wd68 hw) (by decide) (wd70 hw) (wd49 hw) (rm11a l Z a0 hw [] G1 G2 b669 ((b3 &&& (255 : Int32)).toUInt32.toUInt16.toUInt32.toInt32) (1 : Int32) va1 kv1 (2 : Int32) [(.int y1_0), (.int (0 : Int32))] hJ677 n0 (by omega) FJ677_0 A fs1_0 fs1_1 fs1_2 fs1_3 fs1_4 fs1_5 fs1_6 (by omega) (by omega) (own_q255 hc43) (by decide) ⟨by decide, by decide⟩ (Nat.le_of_ble_eq_true rfl) (by first | assumption | decide | omega)) eJ677 fs1_0 [(.int ((b3 &&& (255 : Int32)).toUInt32.toUInt16.toUInt32.toInt32))] [] 54 0 (hb hby d4_51) rfl (by rw [hml]; rfl) rfl rfl (lenOf pd_26 rfl) rfl (by decide) fun v701 T701 Lc701 X701 hQ701 => ?_
          obtain ⟨rfl, N701q, K701, G701_0, G701_1, G701_2, G701_3, G701_4, G701_5, G701_6⟩ := hQ701
          have N701 := Fr.app NJ677 N701q
          have z701 := K701.1
          have lt701_0 : @LT.lt Nat _ b669 (Array.size T701.heap) := G701_0.lt
          have G701_1' : fl8 Z T701.heap b669 (.int (2 : Int32)) := G701_1
          have lt701_5 : @LT.lt Nat _ va1 (Array.size T701.heap) := G701_5.lt
          have G701_6' : Arv Z T701.heap va1 kv1 .byte (2 : Int32) [(.int y1_0), (.int (own_b8 ((b3 &&& (255 : Int32)).toUInt32.toUInt16.toUInt32.toInt32)))] (.int (0 : Int32)) := G701_6
          refine own_ru 55 [] X701 hx hby e4_54_1 rfl rfl ?_
          refine own_go 90 X701 hx (hb hby d4_55) (by decide) (by decide) ?_
          refine own_rl 93 #[.val (.ref a1), .val (.ref bb), .val (.int (2 : Int32)), .val (.ref ix_668), .val (.ref b669), .val (.int (4 : Int32)), .val (.int (b3 &&& (255 : Int32))), sl7] [] X701 hx hby e4_90_1 rfl rfl ?_
          refine own_go 21 X701 hx (hb hby d4_93) (by decide) (by decide) ?_
          have f702 := (FJ677_0.keep K701 (allS (by omega) (allS (by omega) all0)))
          have f703 := (Exa.keep FJ677_1 K701)
          have f704 := (FJ677_2.keep K701 (own_nS (by omega) (own_nS (by omega) nin0)))
          have f705 := (FJ677_3.keep K701 (own_nS (by omega) (own_nS (by omega) nin0)))
          have f706 : Unt T701.heap a1 := (Unt.keep K701 (own_nS (by omega) (own_nS (by omega) nin0)) FJ677_4)
          have f707 := (Exa.keep FJ677_5 K701)
          have f708 := (FJ677_6.keep K701 (own_nS (by omega) (own_nS (by omega) nin0)))
          have f709 := (FJ677_7.keep K701 (own_nS (by omega) (own_nS (by omega) nin0)))
          have f710 := (FJ677_8.keep K701 (own_nS (by omega) (own_nS (by omega) nin0)))
          have f711 : own_SB22 Z T701.heap n0 b669 (own_exp b2) (own_exp b3) := Or.inl ⟨va1, kv1, y1_0, (own_b8 ((b3 &&& (255 : Int32)).toUInt32.toUInt16.toUInt32.toInt32)), G701_0, G701_1', G701_2, G701_3, G701_4, G701_5, G701_6', by omega, pe1_0, ⟨own_P1 hc43, own_P3 hc43⟩⟩
          exact J678 _ _ _ sl7 (X701.more (by decide) (by decide)) rfl N701 (by omega) f702 f703 f704 f705 f706 f707 f708 f709 f710 f711 hs_sl7
        · refine own_kY 58 XJ677 hx (hb hby d4_43) rfl (flt hc43).2.1 (by decide) (by decide) ?_
          refine own_ru 65 [(.int ((b3 &&& (255 : Int32)) - (128 : Int32))), (.ref ix_668)] XJ677 hx hby e4_58_4 rfl rfl ?_
          refine own_cV XJ677 hx hZ hown (wd179 hw) (wd180 hw) (notFace_of_selects (args := #[]) (mvT hZ (wd182 hw))) (wd182 hw) (wd181 hw) (by decide) (wd183 hw) (wd33 hw) (rm33 l Z a0 hw [] ix_668 ((b3 &&& (255 : Int32)) - (128 : Int32)) ca_668 kk_668 vz_668 hJ677 n0 (by omega) FJ677_6 FJ677_7 (own_jr hc43) U668_0) eJ677 FJ677_5 [(.int ((b3 &&& (255 : Int32)) - (128 : Int32)))] [] 68 0 (hb hby d4_65) rfl (by rw [hml]; rfl) rfl rfl (lenOf pd_11 rfl) rfl (by decide) fun v712 T712 Lc712 X712 hQ712 => ?_
          obtain ⟨rfl, N712q, e712⟩ := hQ712
          have N712 := Fr.app NJ677 N712q
          refine own_sl 70 #[.val (.ref a1), .val (.ref bb), .val (.int (2 : Int32)), .val (.ref ix_668), .val (.ref b669), .val (.int (3 : Int32)), .val (.int (b3 &&& (255 : Int32))), .val (.int (-1 : Int32))] [] (fun t k => XS.istore X712.here hx rfl (hb hby d4_68) rfl (l' := #[.val (.ref a1), .val (.ref bb), .val (.int (2 : Int32)), .val (.ref ix_668), .val (.ref b669), .val (.int (3 : Int32)), .val (.int (b3 &&& (255 : Int32))), .val (.int (-1 : Int32))]) ((XS.store1 (o := sl7) rfl (hs_sl7) rfl).trans rfl) k) ?_
          refine own_ru 75 [(.int (-1 : Int32)), (.int (-1 : Int32)), (.ref b669)] X712 hx hby e4_70_3 rfl rfl ?_
          refine own_kN 78 X712 hx (hb hby d4_75) rfl (teq (by decide : ((-1 : Int32) = (-1 : Int32)))).2 rfl ?_
          refine own_st 80 [(.int (65533 : Int32)), (.ref b669)] (X712.ldcInt hx hown (mvT hZ (wd184 hw)) (g := (mkF m 78 #[.val (.ref a1), .val (.ref bb), .val (.int (2 : Int32)), .val (.ref ix_668), .val (.ref b669), .val (.int (3 : Int32)), .val (.int (b3 &&& (255 : Int32))), .val (.int (-1 : Int32))] [(.ref b669)])) rfl (hb hby d4_78)) ?_
          refine own_go 86 X712 hx (hb hby d4_80) (by decide) (by decide) ?_
          refine own_cV X712 hx hZ hown (wd66 hw) (wd67 hw) (notFace_of_selects (args := #[]) (mvT hZ (wd69 hw))) (wd69 hw) (wd68 hw) (by decide) (wd70 hw) (wd49 hw) (rm11i l Z a0 hw [] G1 G2 b669 va1 kv1 (2 : Int32) (1 : Int32) ([y1_0] : List Int32) 2 hJ677 n0 (by omega) FJ677_0 A fs1_0 fs1_1 fs1_2 fs1_3 fs1_4 fs1_5 fs1_6 (by omega) (by decide) rfl rfl rfl (Nat.le_of_ble_eq_true rfl) (by decide) (by decide) (by decide) (by decide) (by decide) (by decide) (by decide) (by decide) (by decide) ⟨by decide, by decide⟩ ⟨by decide, by decide⟩ (Nat.le_of_ble_eq_true rfl) (Nat.le_of_ble_eq_true rfl) (by first | assumption | decide | omega)) e712 fs1_0 [(.int (65533 : Int32))] [] 89 0 (hb hby d4_86) rfl (by rw [hml]; rfl) rfl rfl (lenOf pd_26 rfl) rfl (by decide) fun v713 T713 Lc713 X713 hQ713 => ?_
          obtain ⟨vb_713, kb_713, rfl, N713q, K713, G713_0, G713_1, G713_2, G713_3, G713_4, G713_5, G713_6, U713_0⟩ := hQ713
          have N713 := Fr.app N712 N713q
          have z713 := K713.1
          have lt713_0 : @LT.lt Nat _ b669 (Array.size T713.heap) := G713_0.lt
          have G713_1' : fl8 Z T713.heap b669 (.int (2 : Int32)) := G713_1
          have lt713_5 : @LT.lt Nat _ vb_713 (Array.size T713.heap) := G713_5.lt
          have G713_6' : Arv Z T713.heap vb_713 kb_713 .byte (4 : Int32) [(.int (own_e0 (y1_0 &&& (255 : Int32)))), (.int (own_e1 (y1_0 &&& (255 : Int32)))), (.int (own_e0 (65533 : Int32))), (.int (own_e1 (65533 : Int32)))] (.int (0 : Int32)) := G713_6
          refine own_rl 93 #[.val (.ref a1), .val (.ref bb), .val (.int (2 : Int32)), .val (.ref ix_668), .val (.ref b669), .val (.int (4 : Int32)), .val (.int (b3 &&& (255 : Int32))), .val (.int (-1 : Int32))] [] X713 hx hby e4_89_2 rfl rfl ?_
          refine own_go 21 X713 hx (hb hby d4_93) (by decide) (by decide) ?_
          have f714 := (FJ677_0.keep K713 (allS (by omega) all0))
          have f715 := (Exa.keep FJ677_1 K713)
          have f716 := (FJ677_2.keep K713 (own_nS (by omega) nin0))
          have f717 := (FJ677_3.keep K713 (own_nS (by omega) nin0))
          have f718 : Unt T713.heap a1 := (Unt.keep K713 (own_nS (by omega) nin0) FJ677_4)
          have f719 := (Exa.keep FJ677_5 K713)
          have f720 := (FJ677_6.keep K713 (own_nS (by omega) nin0))
          have f721 := (FJ677_7.keep K713 (own_nS (by omega) nin0))
          have f722 := (FJ677_8.keep K713 (own_nS (by omega) nin0))
          have f723 : own_SB22 Z T713.heap n0 b669 (own_exp b2) (own_exp b3) := Or.inr ⟨vb_713, kb_713, (own_e0 (y1_0 &&& (255 : Int32))), (own_e0 (65533 : Int32)), (own_e1 (y1_0 &&& (255 : Int32))), (own_e1 (65533 : Int32)), G713_0, G713_1', G713_2, G713_3, G713_4, G713_5, G713_6', by omega, pe1_0.2, own_P4 hc43⟩
          exact J678 _ _ _ (.val (.int (-1 : Int32))) (X713.more (by decide) (by decide)) rfl N713 (by omega) f714 f715 f716 f717 f718 f719 f720 f721 f722 f723 (Or.inr ⟨_, rfl, rfl⟩)
      · have ltv1 : @LT.lt Nat _ va1 (Array.size hJ677) := fs1_6.lt
        have lts1 : @LT.lt Nat _ b669 (Array.size hJ677) := fs1_0.lt
        refine own_ru 24 [(.ref bb), (.int (3 : Int32))] XJ677 hx hby e4_21_2 rfl rfl ?_
        refine own_aL XJ677 hx hZ eJ677 FJ677_8 25 rfl (hb hby d4_24) rfl ?_
        refine own_kN 28 XJ677 hx (hb hby d4_25) rfl (tlt (by decide : ((3 : Int32) < (4 : Int32)))).2.1 rfl ?_
        refine own_ru 31 [(.int (3 : Int32)), (.ref bb)] XJ677 hx hby e4_28_2 rfl rfl ?_
        refine own_bL XJ677 hx hZ eJ677 FJ677_8 (x := b3) 32 rfl (hb hby d4_31) rfl ⟨by decide, by decide⟩ rfl ?_
        refine own_rl 43 #[.val (.ref a1), .val (.ref bb), .val (.int (2 : Int32)), .val (.ref ix_668), .val (.ref b669), .val (.int (3 : Int32)), .val (.int (b3 &&& (255 : Int32))), sl7] [(.int (128 : Int32)), (.int (b3 &&& (255 : Int32)))] XJ677 hx hby e4_32_5 rfl rfl ?_
        by_cases hc43 : (b3 &&& (255 : Int32)) < (128 : Int32)
        · refine own_kN 46 XJ677 hx (hb hby d4_43) rfl (tlt hc43).2.1 rfl ?_
          refine own_ru 51 [(.int ((b3 &&& (255 : Int32)).toUInt32.toUInt16.toUInt32.toInt32)), (.ref b669)] XJ677 hx hby e4_46_3 rfl rfl ?_
          refine own_cV XJ677 hx hZ hown (wd66 hw) (wd67 hw) (notFace_of_selects (args := #[]) (mvT hZ (wd69 hw))) (wd69 hw) (wd68 hw) (by decide) (wd70 hw) (wd49 hw) (rm11u l Z a0 hw [] G1 G2 b669 ((b3 &&& (255 : Int32)).toUInt32.toUInt16.toUInt32.toInt32) (1 : Int32) va1 kv1 (4 : Int32) [(.int y1_0), (.int z1_0), (.int (0 : Int32)), (.int (0 : Int32))] hJ677 n0 (by omega) FJ677_0 A fs1_0 fs1_1 fs1_2 fs1_3 fs1_4 fs1_5 fs1_6 (by omega) (by omega) (by decide) (by decide) (by decide) ⟨by decide, by decide⟩ ⟨by decide, by decide⟩ (Nat.le_of_ble_eq_true rfl) (Nat.le_of_ble_eq_true rfl) (by first | assumption | decide | omega)) eJ677 fs1_0 [(.int ((b3 &&& (255 : Int32)).toUInt32.toUInt16.toUInt32.toInt32))] [] 54 0 (hb hby d4_51) rfl (by rw [hml]; rfl) rfl rfl (lenOf pd_26 rfl) rfl (by decide) fun v724 T724 Lc724 X724 hQ724 => ?_
          obtain ⟨rfl, N724q, K724, G724_0, G724_1, G724_2, G724_3, G724_4, G724_5, G724_6⟩ := hQ724
          have N724 := Fr.app NJ677 N724q
          have z724 := K724.1
          have lt724_0 : @LT.lt Nat _ b669 (Array.size T724.heap) := G724_0.lt
          have G724_1' : fl8 Z T724.heap b669 (.int (2 : Int32)) := G724_1
          have lt724_5 : @LT.lt Nat _ va1 (Array.size T724.heap) := G724_5.lt
          have G724_6' : Arv Z T724.heap va1 kv1 .byte (4 : Int32) [(.int y1_0), (.int z1_0), (.int (own_e0 ((b3 &&& (255 : Int32)).toUInt32.toUInt16.toUInt32.toInt32))), (.int (own_e1 ((b3 &&& (255 : Int32)).toUInt32.toUInt16.toUInt32.toInt32)))] (.int (0 : Int32)) := G724_6
          refine own_ru 55 [] X724 hx hby e4_54_1 rfl rfl ?_
          refine own_go 90 X724 hx (hb hby d4_55) (by decide) (by decide) ?_
          refine own_rl 93 #[.val (.ref a1), .val (.ref bb), .val (.int (2 : Int32)), .val (.ref ix_668), .val (.ref b669), .val (.int (4 : Int32)), .val (.int (b3 &&& (255 : Int32))), sl7] [] X724 hx hby e4_90_1 rfl rfl ?_
          refine own_go 21 X724 hx (hb hby d4_93) (by decide) (by decide) ?_
          have f725 := (FJ677_0.keep K724 (allS (by omega) (allS (by omega) all0)))
          have f726 := (Exa.keep FJ677_1 K724)
          have f727 := (FJ677_2.keep K724 (own_nS (by omega) (own_nS (by omega) nin0)))
          have f728 := (FJ677_3.keep K724 (own_nS (by omega) (own_nS (by omega) nin0)))
          have f729 : Unt T724.heap a1 := (Unt.keep K724 (own_nS (by omega) (own_nS (by omega) nin0)) FJ677_4)
          have f730 := (Exa.keep FJ677_5 K724)
          have f731 := (FJ677_6.keep K724 (own_nS (by omega) (own_nS (by omega) nin0)))
          have f732 := (FJ677_7.keep K724 (own_nS (by omega) (own_nS (by omega) nin0)))
          have f733 := (FJ677_8.keep K724 (own_nS (by omega) (own_nS (by omega) nin0)))
          have f734 : own_SB22 Z T724.heap n0 b669 (own_exp b2) (own_exp b3) := Or.inr ⟨va1, kv1, y1_0, (own_e0 ((b3 &&& (255 : Int32)).toUInt32.toUInt16.toUInt32.toInt32)), z1_0, (own_e1 ((b3 &&& (255 : Int32)).toUInt32.toUInt16.toUInt32.toInt32)), G724_0, G724_1', G724_2, G724_3, G724_4, G724_5, G724_6', by omega, pe1_0, own_P2 hc43⟩
          exact J678 _ _ _ sl7 (X724.more (by decide) (by decide)) rfl N724 (by omega) f725 f726 f727 f728 f729 f730 f731 f732 f733 f734 hs_sl7
        · refine own_kY 58 XJ677 hx (hb hby d4_43) rfl (flt hc43).2.1 (by decide) (by decide) ?_
          refine own_ru 65 [(.int ((b3 &&& (255 : Int32)) - (128 : Int32))), (.ref ix_668)] XJ677 hx hby e4_58_4 rfl rfl ?_
          refine own_cV XJ677 hx hZ hown (wd179 hw) (wd180 hw) (notFace_of_selects (args := #[]) (mvT hZ (wd182 hw))) (wd182 hw) (wd181 hw) (by decide) (wd183 hw) (wd33 hw) (rm33 l Z a0 hw [] ix_668 ((b3 &&& (255 : Int32)) - (128 : Int32)) ca_668 kk_668 vz_668 hJ677 n0 (by omega) FJ677_6 FJ677_7 (own_jr hc43) U668_0) eJ677 FJ677_5 [(.int ((b3 &&& (255 : Int32)) - (128 : Int32)))] [] 68 0 (hb hby d4_65) rfl (by rw [hml]; rfl) rfl rfl (lenOf pd_11 rfl) rfl (by decide) fun v735 T735 Lc735 X735 hQ735 => ?_
          obtain ⟨rfl, N735q, e735⟩ := hQ735
          have N735 := Fr.app NJ677 N735q
          refine own_sl 70 #[.val (.ref a1), .val (.ref bb), .val (.int (2 : Int32)), .val (.ref ix_668), .val (.ref b669), .val (.int (3 : Int32)), .val (.int (b3 &&& (255 : Int32))), .val (.int (-1 : Int32))] [] (fun t k => XS.istore X735.here hx rfl (hb hby d4_68) rfl (l' := #[.val (.ref a1), .val (.ref bb), .val (.int (2 : Int32)), .val (.ref ix_668), .val (.ref b669), .val (.int (3 : Int32)), .val (.int (b3 &&& (255 : Int32))), .val (.int (-1 : Int32))]) ((XS.store1 (o := sl7) rfl (hs_sl7) rfl).trans rfl) k) ?_
          refine own_ru 75 [(.int (-1 : Int32)), (.int (-1 : Int32)), (.ref b669)] X735 hx hby e4_70_3 rfl rfl ?_
          refine own_kN 78 X735 hx (hb hby d4_75) rfl (teq (by decide : ((-1 : Int32) = (-1 : Int32)))).2 rfl ?_
          refine own_st 80 [(.int (65533 : Int32)), (.ref b669)] (X735.ldcInt hx hown (mvT hZ (wd184 hw)) (g := (mkF m 78 #[.val (.ref a1), .val (.ref bb), .val (.int (2 : Int32)), .val (.ref ix_668), .val (.ref b669), .val (.int (3 : Int32)), .val (.int (b3 &&& (255 : Int32))), .val (.int (-1 : Int32))] [(.ref b669)])) rfl (hb hby d4_78)) ?_
          refine own_go 86 X735 hx (hb hby d4_80) (by decide) (by decide) ?_
          refine own_cV X735 hx hZ hown (wd66 hw) (wd67 hw) (notFace_of_selects (args := #[]) (mvT hZ (wd69 hw))) (wd69 hw) (wd68 hw) (by decide) (wd70 hw) (wd49 hw) (rm11u l Z a0 hw [] G1 G2 b669 (65533 : Int32) (1 : Int32) va1 kv1 (4 : Int32) [(.int y1_0), (.int z1_0), (.int (0 : Int32)), (.int (0 : Int32))] hJ677 n0 (by omega) FJ677_0 A fs1_0 fs1_1 fs1_2 fs1_3 fs1_4 fs1_5 fs1_6 (by omega) (by omega) (by decide) (by decide) (by decide) ⟨by decide, by decide⟩ ⟨by decide, by decide⟩ (Nat.le_of_ble_eq_true rfl) (Nat.le_of_ble_eq_true rfl) (by first | assumption | decide | omega)) e735 fs1_0 [(.int (65533 : Int32))] [] 89 0 (hb hby d4_86) rfl (by rw [hml]; rfl) rfl rfl (lenOf pd_26 rfl) rfl (by decide) fun v736 T736 Lc736 X736 hQ736 => ?_
          obtain ⟨rfl, N736q, K736, G736_0, G736_1, G736_2, G736_3, G736_4, G736_5, G736_6⟩ := hQ736
          have N736 := Fr.app N735 N736q
          have z736 := K736.1
          have lt736_0 : @LT.lt Nat _ b669 (Array.size T736.heap) := G736_0.lt
          have G736_1' : fl8 Z T736.heap b669 (.int (2 : Int32)) := G736_1
          have lt736_5 : @LT.lt Nat _ va1 (Array.size T736.heap) := G736_5.lt
          have G736_6' : Arv Z T736.heap va1 kv1 .byte (4 : Int32) [(.int y1_0), (.int z1_0), (.int (own_e0 (65533 : Int32))), (.int (own_e1 (65533 : Int32)))] (.int (0 : Int32)) := G736_6
          refine own_rl 93 #[.val (.ref a1), .val (.ref bb), .val (.int (2 : Int32)), .val (.ref ix_668), .val (.ref b669), .val (.int (4 : Int32)), .val (.int (b3 &&& (255 : Int32))), .val (.int (-1 : Int32))] [] X736 hx hby e4_89_2 rfl rfl ?_
          refine own_go 21 X736 hx (hb hby d4_93) (by decide) (by decide) ?_
          have f737 := (FJ677_0.keep K736 (allS (by omega) (allS (by omega) all0)))
          have f738 := (Exa.keep FJ677_1 K736)
          have f739 := (FJ677_2.keep K736 (own_nS (by omega) (own_nS (by omega) nin0)))
          have f740 := (FJ677_3.keep K736 (own_nS (by omega) (own_nS (by omega) nin0)))
          have f741 : Unt T736.heap a1 := (Unt.keep K736 (own_nS (by omega) (own_nS (by omega) nin0)) FJ677_4)
          have f742 := (Exa.keep FJ677_5 K736)
          have f743 := (FJ677_6.keep K736 (own_nS (by omega) (own_nS (by omega) nin0)))
          have f744 := (FJ677_7.keep K736 (own_nS (by omega) (own_nS (by omega) nin0)))
          have f745 := (FJ677_8.keep K736 (own_nS (by omega) (own_nS (by omega) nin0)))
          have f746 : own_SB22 Z T736.heap n0 b669 (own_exp b2) (own_exp b3) := Or.inr ⟨va1, kv1, y1_0, (own_e0 (65533 : Int32)), z1_0, (own_e1 (65533 : Int32)), G736_0, G736_1', G736_2, G736_3, G736_4, G736_5, G736_6', by omega, pe1_0, own_P4 hc43⟩
          exact J678 _ _ _ (.val (.int (-1 : Int32))) (X736.more (by decide) (by decide)) rfl N736 (by omega) f737 f738 f739 f740 f741 f742 f743 f744 f745 f746 (Or.inr ⟨_, rfl, rfl⟩)
  refine own_st 23 [(.int (2 : Int32))] (fun t k => XS.iload X676.here hx rfl (hb hby d4_21) rfl  k) ?_
  refine own_ru 24 [(.ref bb), (.int (2 : Int32))] X676 hx hby e4_23_1 rfl rfl ?_
  have f747 := (f674.keep K676 (own_nS (by omega) nin0))
  refine own_aL X676 hx hZ rfl f747 25 rfl (hb hby d4_24) rfl ?_
  refine own_kN 28 X676 hx (hb hby d4_25) rfl (tlt (by decide : ((2 : Int32) < (4 : Int32)))).2.1 rfl ?_
  refine own_ru 31 [(.int (2 : Int32)), (.ref bb)] X676 hx hby e4_28_2 rfl rfl ?_
  refine own_bL X676 hx hZ rfl f747 (x := b2) 32 rfl (hb hby d4_31) rfl ⟨by decide, by decide⟩ rfl ?_
  refine own_rl 43 #[.val (.ref a1), .val (.ref bb), .val (.int (2 : Int32)), .val (.ref ix_668), .val (.ref b669), .val (.int (2 : Int32)), .val (.int (b2 &&& (255 : Int32))), .unset] [(.int (128 : Int32)), (.int (b2 &&& (255 : Int32)))] X676 hx hby e4_32_5 rfl rfl ?_
  by_cases hc43 : (b2 &&& (255 : Int32)) < (128 : Int32)
  · refine own_kN 46 X676 hx (hb hby d4_43) rfl (tlt hc43).2.1 rfl ?_
    refine own_ru 51 [(.int ((b2 &&& (255 : Int32)).toUInt32.toUInt16.toUInt32.toInt32)), (.ref b669)] X676 hx hby e4_46_3 rfl rfl ?_
    have f748 := (f675.keep K676 (allS (by omega) all0))
    refine own_cV X676 hx hZ hown (wd66 hw) (wd67 hw) (notFace_of_selects (args := #[]) (mvT hZ (wd69 hw))) (wd69 hw) (wd68 hw) (by decide) (wd70 hw) (wd49 hw) (rm11a l Z a0 hw [] G1 G2 b669 ((b2 &&& (255 : Int32)).toUInt32.toUInt16.toUInt32.toInt32) (0 : Int32) vn_676 kk_676 (2 : Int32) [(.int (0 : Int32)), (.int (0 : Int32))] T676.heap n0 (by omega) f748 A G676_0 G676_1 G676_2 G676_3 G676_4 G676_5 G676_6' (by omega) (by omega) (own_q255 hc43) (by decide) ⟨by decide, by decide⟩ (Nat.le_of_ble_eq_true rfl) (by first | assumption | decide | omega)) rfl G676_0 [(.int ((b2 &&& (255 : Int32)).toUInt32.toUInt16.toUInt32.toInt32))] [] 54 0 (hb hby d4_51) rfl (by rw [hml]; rfl) rfl rfl (lenOf pd_26 rfl) rfl (by decide) fun v749 T749 Lc749 X749 hQ749 => ?_
    obtain ⟨rfl, N749q, K749, G749_0, G749_1, G749_2, G749_3, G749_4, G749_5, G749_6⟩ := hQ749
    have N749 := Fr.app N676 N749q
    have z749 := K749.1
    have lt749_0 : @LT.lt Nat _ b669 (Array.size T749.heap) := G749_0.lt
    have G749_1' : fl8 Z T749.heap b669 (.int (1 : Int32)) := G749_1
    have lt749_5 : @LT.lt Nat _ vn_676 (Array.size T749.heap) := G749_5.lt
    have G749_6' : Arv Z T749.heap vn_676 kk_676 .byte (2 : Int32) [(.int (own_b8 ((b2 &&& (255 : Int32)).toUInt32.toUInt16.toUInt32.toInt32))), (.int (0 : Int32))] (.int (0 : Int32)) := G749_6
    refine own_ru 55 [] X749 hx hby e4_54_1 rfl rfl ?_
    refine own_go 90 X749 hx (hb hby d4_55) (by decide) (by decide) ?_
    refine own_rl 93 #[.val (.ref a1), .val (.ref bb), .val (.int (2 : Int32)), .val (.ref ix_668), .val (.ref b669), .val (.int (3 : Int32)), .val (.int (b2 &&& (255 : Int32))), .unset] [] X749 hx hby e4_90_1 rfl rfl ?_
    refine own_go 21 X749 hx (hb hby d4_93) (by decide) (by decide) ?_
    have f750 := (f748.keep K749 (allS (by omega) (allS (by omega) all0)))
    have f751 := (Exa.keep (Exa.keep (Exa.ext E669 G668_1) K676) K749)
    have f752 := (((Fld.ext E669 G668_2).keep K676 (own_nS (by omega) nin0)).keep K749 (own_nS (by omega) (own_nS (by omega) nin0)))
    have f753 := (((Fld.ext E669 G668_3).keep K676 (own_nS (by omega) nin0)).keep K749 (own_nS (by omega) (own_nS (by omega) nin0)))
    have f754 : Unt T749.heap a1 := (Unt.keep K749 (own_nS (by omega) (own_nS (by omega) nin0)) (Unt.keep K676 (own_nS (by omega) nin0) (Unt.ext E669 G668_4)))
    have f755 := (Exa.keep (Exa.keep (Exa.ext E669 G668_5) K676) K749)
    have f756 := (((Fld.ext E669 G668_6).keep K676 (own_nS (by omega) nin0)).keep K749 (own_nS (by omega) (own_nS (by omega) nin0)))
    have f757 := (((G668_7.ext E669).keep K676 (own_nS (by omega) nin0)).keep K749 (own_nS (by omega) (own_nS (by omega) nin0)))
    have f758 := (f747.keep K749 (own_nS (by omega) (own_nS (by omega) nin0)))
    have f759 : own_SB21 Z T749.heap n0 b669 (own_exp b2) := Or.inl ⟨vn_676, kk_676, (own_b8 ((b2 &&& (255 : Int32)).toUInt32.toUInt16.toUInt32.toInt32)), G749_0, G749_1', G749_2, G749_3, G749_4, G749_5, G749_6', by omega, ⟨own_P1 hc43, own_P3 hc43⟩⟩
    exact J677 _ _ _ .unset (X749.more (by decide) (by decide)) rfl N749 (by omega) f750 f751 f752 f753 f754 f755 f756 f757 f758 f759 (Or.inl rfl)
  · refine own_kY 58 X676 hx (hb hby d4_43) rfl (flt hc43).2.1 (by decide) (by decide) ?_
    refine own_ru 65 [(.int ((b2 &&& (255 : Int32)) - (128 : Int32))), (.ref ix_668)] X676 hx hby e4_58_4 rfl rfl ?_
    have f760 := ((Fld.ext E669 G668_6).keep K676 (own_nS (by omega) nin0))
    have f761 := ((G668_7.ext E669).keep K676 (own_nS (by omega) nin0))
    have f763 := (Exa.keep (Exa.ext E669 G668_5) K676)
    refine own_cV X676 hx hZ hown (wd179 hw) (wd180 hw) (notFace_of_selects (args := #[]) (mvT hZ (wd182 hw))) (wd182 hw) (wd181 hw) (by decide) (wd183 hw) (wd33 hw) (rm33 l Z a0 hw [] ix_668 ((b2 &&& (255 : Int32)) - (128 : Int32)) ca_668 kk_668 vz_668 T676.heap n0 (by omega) f760 f761 (own_jr hc43) U668_0) rfl f763 [(.int ((b2 &&& (255 : Int32)) - (128 : Int32)))] [] 68 0 (hb hby d4_65) rfl (by rw [hml]; rfl) rfl rfl (lenOf pd_11 rfl) rfl (by decide) fun v762 T762 Lc762 X762 hQ762 => ?_
    obtain ⟨rfl, N762q, e762⟩ := hQ762
    have N762 := Fr.app N676 N762q
    refine own_rl 75 #[.val (.ref a1), .val (.ref bb), .val (.int (2 : Int32)), .val (.ref ix_668), .val (.ref b669), .val (.int (2 : Int32)), .val (.int (b2 &&& (255 : Int32))), .val (.int (-1 : Int32))] [(.int (-1 : Int32)), (.int (-1 : Int32)), (.ref b669)] X762 hx hby e4_68_4 rfl rfl ?_
    refine own_kN 78 X762 hx (hb hby d4_75) rfl (teq (by decide : ((-1 : Int32) = (-1 : Int32)))).2 rfl ?_
    refine own_st 80 [(.int (65533 : Int32)), (.ref b669)] (X762.ldcInt hx hown (mvT hZ (wd184 hw)) (g := (mkF m 78 #[.val (.ref a1), .val (.ref bb), .val (.int (2 : Int32)), .val (.ref ix_668), .val (.ref b669), .val (.int (2 : Int32)), .val (.int (b2 &&& (255 : Int32))), .val (.int (-1 : Int32))] [(.ref b669)])) rfl (hb hby d4_78)) ?_
    refine own_go 86 X762 hx (hb hby d4_80) (by decide) (by decide) ?_
    have f764 := (f675.keep K676 (allS (by omega) all0))
    refine own_cV X762 hx hZ hown (wd66 hw) (wd67 hw) (notFace_of_selects (args := #[]) (mvT hZ (wd69 hw))) (wd69 hw) (wd68 hw) (by decide) (wd70 hw) (wd49 hw) (rm11i l Z a0 hw [] G1 G2 b669 vn_676 kk_676 (2 : Int32) (0 : Int32) ([] : List Int32) 2 T676.heap n0 (by omega) f764 A G676_0 G676_1 G676_2 G676_3 G676_4 G676_5 G676_6' (by omega) (by decide) rfl rfl rfl (Nat.le_of_ble_eq_true rfl) (by decide) (by decide) (by decide) (by decide) (by decide) (by decide) (by decide) (by decide) (by decide) ⟨by decide, by decide⟩ ⟨by decide, by decide⟩ (Nat.le_of_ble_eq_true rfl) (Nat.le_of_ble_eq_true rfl) (by first | assumption | decide | omega)) e762 G676_0 [(.int (65533 : Int32))] [] 89 0 (hb hby d4_86) rfl (by rw [hml]; rfl) rfl rfl (lenOf pd_26 rfl) rfl (by decide) fun v765 T765 Lc765 X765 hQ765 => ?_
    obtain ⟨vb_765, kb_765, rfl, N765q, K765, G765_0, G765_1, G765_2, G765_3, G765_4, G765_5, G765_6, U765_0⟩ := hQ765
    have N765 := Fr.app N762 N765q
    have z765 := K765.1
    have lt765_0 : @LT.lt Nat _ b669 (Array.size T765.heap) := G765_0.lt
    have G765_1' : fl8 Z T765.heap b669 (.int (1 : Int32)) := G765_1
    have lt765_5 : @LT.lt Nat _ vb_765 (Array.size T765.heap) := G765_5.lt
    have G765_6' : Arv Z T765.heap vb_765 kb_765 .byte (4 : Int32) [(.int (own_e0 (65533 : Int32))), (.int (own_e1 (65533 : Int32))), (.int (0 : Int32)), (.int (0 : Int32))] (.int (0 : Int32)) := G765_6
    refine own_rl 93 #[.val (.ref a1), .val (.ref bb), .val (.int (2 : Int32)), .val (.ref ix_668), .val (.ref b669), .val (.int (3 : Int32)), .val (.int (b2 &&& (255 : Int32))), .val (.int (-1 : Int32))] [] X765 hx hby e4_89_2 rfl rfl ?_
    refine own_go 21 X765 hx (hb hby d4_93) (by decide) (by decide) ?_
    have f766 := (f764.keep K765 (allS (by omega) all0))
    have f767 := (Exa.keep (Exa.keep (Exa.ext E669 G668_1) K676) K765)
    have f768 := (((Fld.ext E669 G668_2).keep K676 (own_nS (by omega) nin0)).keep K765 (own_nS (by omega) nin0))
    have f769 := (((Fld.ext E669 G668_3).keep K676 (own_nS (by omega) nin0)).keep K765 (own_nS (by omega) nin0))
    have f770 : Unt T765.heap a1 := (Unt.keep K765 (own_nS (by omega) nin0) (Unt.keep K676 (own_nS (by omega) nin0) (Unt.ext E669 G668_4)))
    have f771 := (Exa.keep f763 K765)
    have f772 := (f760.keep K765 (own_nS (by omega) nin0))
    have f773 := (f761.keep K765 (own_nS (by omega) nin0))
    have f774 := (f747.keep K765 (own_nS (by omega) nin0))
    have f775 : own_SB21 Z T765.heap n0 b669 (own_exp b2) := Or.inr ⟨vb_765, kb_765, (own_e0 (65533 : Int32)), (own_e1 (65533 : Int32)), G765_0, G765_1', G765_2, G765_3, G765_4, G765_5, G765_6', by omega, own_P4 hc43⟩
    exact J677 _ _ _ (.val (.int (-1 : Int32))) (X765.more (by decide) (by decide)) rfl N765 (by omega) f766 f767 f768 f769 f770 f771 f772 f773 f774 f775 (Or.inr ⟨_, rfl, rfl⟩)
def Q4f3n (Z : State) (G1 : Int32) (G2 : Value) (a1 : Addr) (bb : Addr) (kb : ClassId) (b0 : Int32) (b1 : Int32) (b2 : Int32) (b3 : Int32) (h0 : Heap) (n0 : Nat) (v : Option Value) (h : Heap) (L : List Loc) : Prop := ∃ so : Addr, ∃ ix : Addr, ∃ ca : Addr, ∃ kk : ClassId, ∃ vz : List Value, v = some (.ref so) ∧ Fr n0 L ∧ h0.size ≤ h.size ∧ Old Z n0 h ∧ ex0 Z h a1 ∧ fl1 Z h a1 (.ref ix) ∧ fl2 Z h a1 .null ∧ Unt h a1 ∧ ex5 Z h ix ∧ fl6 Z h ix (.ref ca) ∧ Arv Z h ca kk .int (128 : Int32) vz (.int (0 : Int32)) ∧ Arv Z h bb kb .byte (4 : Int32) [(.int b0), (.int b1), (.int b2), (.int b3)] (.int (0 : Int32)) ∧ own_Str1 Z h so (own_exp b3) ∧ (∀ j : Nat, j < 128 → vz.getD j (.int (0 : Int32)) = .int (-1 : Int32))
set_option maxRecDepth 65536 in
set_option maxHeartbeats 40000000 in
theorem rm4f3n (l : Launch) (Z : State) (a0 : Array Value) (hw : OW a0 Z) (ws : List Jvm.Cond) (G1 : Int32) (G2 : Value) (a1 : Addr) (bb : Addr) (kb : ClassId) (b0 : Int32) (b1 : Int32) (b2 : Int32) (b3 : Int32) (h0 : Heap) (n0 : Nat) (Z0 : n0 ≤ h0.size) (OLD : Old Z n0 h0) (A : Amb Z G1 G2) (P0 : ex0 Z h0 a1) (P1 : fl1 Z h0 a1 .null) (P2 : fl2 Z h0 a1 .null) (P3 : Unt h0 a1) (P4 : Arv Z h0 bb kb .byte (4 : Int32) [(.int b0), (.int b1), (.int b2), (.int b3)] (.int (0 : Int32))) (g_a1 : n0 ≤ a1) (hne : @Ne Nat bb a1) :
    own_Met l my4 prog_33_method_5_code 8 (some (.object "java/lang/String")) ws (own_rm 8 7 157 115) #[(.ref a1), (.ref bb), (.int (3 : Int32))] Z h0 (Q4f3n Z G1 G2 a1 bb kb b0 b1 b2 b3 h0 n0) 7 157 := by
  refine own_body (plainFor_of_name pn_0) (fun m => by first | (simp [entryFrame, mkF, argsToLocals, Value.category]; done) | rfl) (Ls := #[.val (.ref a1), .val (.ref bb), .val (.int (3 : Int32)), .unset, .unset, .unset, .unset, .unset]) fun p e s m below meth c s₁ X0 hx hby hml hZ e0 hown hnm hlk hrt => ?_
  have N0 := Fr.nil n0
  have lt_P0 : @LT.lt Nat _ a1 (Array.size h0) := P0.lt
  have lt_P4 : @LT.lt Nat _ bb (Array.size h0) := P4.lt
  refine own_ru 1 [(.ref a1)] X0 hx hby e4_0_1 rfl rfl ?_
  refine own_cY X0 hx hZ hown (wd25 hw) (wd26 hw) (own_selPriv (mvT hZ (wd6 hw)) (Cond.privateMethod_at (mvP hZ (wd27 hw) (args := #[]))) (mvT hZ (wd26 hw)) (by decide)) (wd27 hw) (by decide) (wd28 hw) (wd3 hw) (rm5n l Z a0 hw [] G1 G2 a1 bb kb [(.int b0), (.int b1), (.int b2), (.int b3)] h0 n0 (by omega) OLD A P0 P1 P2 P4 P3 (by omega) (by first | assumption | decide | omega)) e0 P0 P3 [] [] 4 0 (hb hby d4_1) rfl (by rw [hml]; rfl) rfl rfl (lenOf pd_24 rfl) rfl (by decide) fun v776 T776 Lc776 X776 hQ776 => ?_
  obtain ⟨ix_776, ca_776, kk_776, vz_776, rfl, N776q, K776, G776_0, G776_1, G776_2, G776_3, G776_4, G776_5, G776_6, G776_7, G776_8, U776_0⟩ := hQ776
  have N776 := Fr.app N0 N776q
  have lt776_1 : @LT.lt Nat _ a1 (Array.size T776.heap) := G776_1.lt
  have lt776_5 : @LT.lt Nat _ ix_776 (Array.size T776.heap) := G776_5.lt
  have lt776_7 : @LT.lt Nat _ ca_776 (Array.size T776.heap) := G776_7.lt
  have lt776_8 : @LT.lt Nat _ bb (Array.size T776.heap) := G776_8.lt
  refine own_rl 5 #[.val (.ref a1), .val (.ref bb), .val (.int (3 : Int32)), .val (.ref ix_776), .unset, .unset, .unset, .unset] [] X776 hx hby e4_4_1 rfl rfl ?_
  refine own_nO X776 hx hZ hown (wd47 hw) (wd48 hw) (wd49 hw) rfl 8 (hb hby d4_5) rfl (by decide) (by decide) fun T777 h777 b777 g777 X777 e777 E777 A777 D777 UN777 => ?_
  have ll777 : @LT.lt Nat _ b777 (Array.size h777) := A777.lt
  have z777 := E777.1
  have F778 : fl10 Z h777 b777 .null := D777 (Or.inl (wd63 hw)) (ty := (.array .byte)) (by decide)
  have F779 : fl9 Z h777 b777 (.int (0 : Int32)) := D777 (Or.inl (wd65 hw)) (ty := .byte) (by decide)
  have F780 : fl8 Z h777 b777 (.int (0 : Int32)) := D777 (Or.inl (wd77 hw)) (ty := .int) (by decide)
  have F781 : fl11 Z h777 b777 (.int (0 : Int32)) := D777 (Or.inl (wd230 hw)) (ty := .boolean) (by decide)
  refine own_ru 10 [(.ref bb), (.ref b777), (.ref b777)] X777 hx hby e4_8_2 rfl rfl ?_
  have f782 := (G776_8.ext E777)
  refine own_aL X777 hx hZ e777 f782 11 rfl (hb hby d4_10) rfl ?_
  refine own_ru 13 [(.int (1 : Int32)), (.ref b777), (.ref b777)] X777 hx hby e4_11_2 rfl rfl ?_
  have f783 := (G776_0.ext E777)
  refine own_cN X777 hx hZ hown rfl (wd50 hw) (wd51 hw) (by decide) (wd52 hw) (wd49 hw) (rm9 l Z a0 hw [] G1 G2 b777 (1 : Int32) 1 h777 n0 (by omega) f783 A A777 F780 F779 F778 F781 (by omega) (by decide) (by decide)) e777  [(.int (1 : Int32))] [(.ref b777)] 16 1 (hb hby d4_13) rfl (by rw [hml]; rfl) rfl rfl (lenOf pd_2 rfl) rfl (by decide) fun v784 T784 Lc784 X784 hQ784 => ?_
  obtain ⟨vn_784, kk_784, rfl, N784q, K784, G784_0, G784_1, G784_2, G784_3, G784_4, G784_5, G784_6, U784_0⟩ := hQ784
  have N784 := Fr.app N776 N784q
  have z784 := K784.1
  have lt784_0 : @LT.lt Nat _ b777 (Array.size T784.heap) := G784_0.lt
  have lt784_5 : @LT.lt Nat _ vn_784 (Array.size T784.heap) := G784_5.lt
  have G784_6' : Arv Z T784.heap vn_784 kk_784 .byte (1 : Int32) [(.int (0 : Int32))] (.int (0 : Int32)) := G784_6
  refine own_rl 21 #[.val (.ref a1), .val (.ref bb), .val (.int (3 : Int32)), .val (.ref ix_776), .val (.ref b777), .val (.int (3 : Int32)), .unset, .unset] [] X784 hx hby e4_16_3 rfl rfl ?_
  have J785 : ∀ (TJ785 : State) (LJ785 : List Loc) (hJ785 : Heap) (sl7 : Slot), Stand p l e (own_rm 8 7 157 115) s m #[(.ref a1), (.ref bb), (.int (3 : Int32))] below meth c TJ785 LJ785 5 145 → TJ785.heap = hJ785 → Fr n0 LJ785 → h0.size ≤ hJ785.size → Old Z n0 hJ785 → ex0 Z hJ785 a1 → fl1 Z hJ785 a1 (.ref ix_776) → fl2 Z hJ785 a1 .null → Unt hJ785 a1 → ex5 Z hJ785 ix_776 → fl6 Z hJ785 ix_776 (.ref ca_776) → Arv Z hJ785 ca_776 kk_776 .int (128 : Int32) vz_776 (.int (0 : Int32)) → Arv Z hJ785 bb kb .byte (4 : Int32) [(.int b0), (.int b1), (.int b2), (.int b3)] (.int (0 : Int32)) → own_SB11 Z hJ785 n0 b777 (own_exp b3) → ((sl7 = .unset ∨ ∃ w : Value, sl7 = .val w ∧ w.category = 1)) → own_Fin p.tables e below (own_post (Q4f3n Z G1 G2 a1 bb kb b0 b1 b2 b3 h0 n0) s 7 157) (TJ785.setTop (mkF m 21 #[.val (.ref a1), .val (.ref bb), .val (.int (3 : Int32)), .val (.ref ix_776), .val (.ref b777), .val (.int (4 : Int32)), .val (.int (b3 &&& (255 : Int32))), sl7] [])) := by
    as_aux_lemma =>
      intro TJ785 LJ785 hJ785 sl7 XJ785 eJ785 NJ785 zJ785 FJ785_0 FJ785_1 FJ785_2 FJ785_3 FJ785_4 FJ785_5 FJ785_6 FJ785_7 FJ785_8 FJ785_9 hs_sl7
      have ltJ785_1 : @LT.lt Nat _ a1 (Array.size hJ785) := FJ785_1.lt
      have ltJ785_5 : @LT.lt Nat _ ix_776 (Array.size hJ785) := FJ785_5.lt
      have ltJ785_7 : @LT.lt Nat _ ca_776 (Array.size hJ785) := FJ785_7.lt
      have ltJ785_8 : @LT.lt Nat _ bb (Array.size hJ785) := FJ785_8.lt
      rcases FJ785_9 with ⟨va1, kv1, y1_0, fs1_0, fs1_1, fs1_2, fs1_3, fs1_4, fs1_5, fs1_6, og1, pe1_0⟩ | ⟨va1, kv1, y1_0, z1_0, fs1_0, fs1_1, fs1_2, fs1_3, fs1_4, fs1_5, fs1_6, og1, pe1_0⟩
      · have ltv1 : @LT.lt Nat _ va1 (Array.size hJ785) := fs1_6.lt
        have lts1 : @LT.lt Nat _ b777 (Array.size hJ785) := fs1_0.lt
        refine own_ru 24 [(.ref bb), (.int (4 : Int32))] XJ785 hx hby e4_21_2 rfl rfl ?_
        refine own_aL XJ785 hx hZ eJ785 FJ785_8 25 rfl (hb hby d4_24) rfl ?_
        refine own_kY 96 XJ785 hx (hb hby d4_25) rfl (flt (by decide : ¬ ((4 : Int32) < (4 : Int32)))).2.1 (by decide) (by decide) ?_
        refine own_ru 98 [(.ref b777)] XJ785 hx hby e4_96_1 rfl rfl ?_
        refine own_cV XJ785 hx hZ hown (wd92 hw) (wd93 hw) (notFace_of_selects (args := #[]) (mvT hZ (wd95 hw))) (wd95 hw) (wd94 hw) (by decide) (wd96 hw) (wd49 hw) (rm16s0 l Z a0 hw [] G1 G2 b777 va1 kv1 (1 : Int32) (1 : Int32) [(.int y1_0)] hJ785 n0 (by omega) FJ785_0 A fs1_0 fs1_1 fs1_2 fs1_3 fs1_4 fs1_5 fs1_6 rfl (by decide)) eJ785 fs1_0 [] [] 101 0 (hb hby d4_98) rfl (by rw [hml]; rfl) rfl rfl (lenOf pd_25 rfl) rfl (by decide) fun v786 T786 Lc786 X786 hQ786 => ?_
        obtain ⟨so_786, ta_786, rfl, N786q, K786, G786_0, G786_1, G786_2, G786_3, U786_0⟩ := hQ786
        have N786 := Fr.app NJ785 N786q
        have z786 := K786.1
        have lt786_0 : @LT.lt Nat _ so_786 (Array.size T786.heap) := G786_0.lt
        have lt786_3 : @LT.lt Nat _ ta_786 (Array.size T786.heap) := G786_3.lt
        have f788 := (FJ785_0.keep K786 all0)
        have f789 := (Exa.keep FJ785_1 K786)
        have f790 := (FJ785_2.keep K786 nin0)
        have f791 := (FJ785_3.keep K786 nin0)
        have f792 : Unt T786.heap a1 := (Unt.keep K786 nin0 FJ785_4)
        have f793 := (Exa.keep FJ785_5 K786)
        have f794 := (FJ785_6.keep K786 nin0)
        have f795 := (FJ785_7.keep K786 nin0)
        have f796 := (FJ785_8.keep K786 nin0)
        have hq787 : Q4f3n Z G1 G2 a1 bb kb b0 b1 b2 b3 h0 n0 (some (.ref so_786)) T786.heap _ := ⟨so_786, ix_776, ca_776, kk_776, vz_776, rfl, N786, (by omega), f788, f789, f790, f791, f792, f793, f794, f795, f796, Or.inl ⟨ta_786, kv1, y1_0, G786_0, G786_1, G786_2, G786_3, pe1_0.1⟩, U776_0⟩
        exact own_retR X786 hx hlk (w := (.ref so_786)) rfl hrt rfl (hb hby d4_101) rfl hq787 (by decide) (by decide)
      · have ltv1 : @LT.lt Nat _ va1 (Array.size hJ785) := fs1_6.lt
        have lts1 : @LT.lt Nat _ b777 (Array.size hJ785) := fs1_0.lt
        refine own_ru 24 [(.ref bb), (.int (4 : Int32))] XJ785 hx hby e4_21_2 rfl rfl ?_
        refine own_aL XJ785 hx hZ eJ785 FJ785_8 25 rfl (hb hby d4_24) rfl ?_
        refine own_kY 96 XJ785 hx (hb hby d4_25) rfl (flt (by decide : ¬ ((4 : Int32) < (4 : Int32)))).2.1 (by decide) (by decide) ?_
        refine own_ru 98 [(.ref b777)] XJ785 hx hby e4_96_1 rfl rfl ?_
        refine own_cV XJ785 hx hZ hown (wd92 hw) (wd93 hw) (notFace_of_selects (args := #[]) (mvT hZ (wd95 hw))) (wd95 hw) (wd94 hw) (by decide) (wd96 hw) (wd49 hw) (rm16s1 l Z a0 hw [] G1 G2 b777 va1 kv1 (1 : Int32) (2 : Int32) [(.int y1_0), (.int z1_0)] hJ785 n0 (by omega) FJ785_0 A fs1_0 fs1_1 fs1_2 fs1_3 fs1_4 fs1_5 fs1_6 rfl (by decide)) eJ785 fs1_0 [] [] 101 0 (hb hby d4_98) rfl (by rw [hml]; rfl) rfl rfl (lenOf pd_25 rfl) rfl (by decide) fun v797 T797 Lc797 X797 hQ797 => ?_
        obtain ⟨so_797, ta_797, rfl, N797q, K797, G797_0, G797_1, G797_2, G797_3, U797_0⟩ := hQ797
        have N797 := Fr.app NJ785 N797q
        have z797 := K797.1
        have lt797_0 : @LT.lt Nat _ so_797 (Array.size T797.heap) := G797_0.lt
        have lt797_3 : @LT.lt Nat _ ta_797 (Array.size T797.heap) := G797_3.lt
        have f799 := (FJ785_0.keep K797 all0)
        have f800 := (Exa.keep FJ785_1 K797)
        have f801 := (FJ785_2.keep K797 nin0)
        have f802 := (FJ785_3.keep K797 nin0)
        have f803 : Unt T797.heap a1 := (Unt.keep K797 nin0 FJ785_4)
        have f804 := (Exa.keep FJ785_5 K797)
        have f805 := (FJ785_6.keep K797 nin0)
        have f806 := (FJ785_7.keep K797 nin0)
        have f807 := (FJ785_8.keep K797 nin0)
        have hq798 : Q4f3n Z G1 G2 a1 bb kb b0 b1 b2 b3 h0 n0 (some (.ref so_797)) T797.heap _ := ⟨so_797, ix_776, ca_776, kk_776, vz_776, rfl, N797, (by omega), f799, f800, f801, f802, f803, f804, f805, f806, f807, Or.inr ⟨ta_797, kv1, y1_0, z1_0, G797_0, G797_1, G797_2, G797_3, pe1_0⟩, U776_0⟩
        exact own_retR X797 hx hlk (w := (.ref so_797)) rfl hrt rfl (hb hby d4_101) rfl hq798 (by decide) (by decide)
  refine own_st 23 [(.int (3 : Int32))] (fun t k => XS.iload X784.here hx rfl (hb hby d4_21) rfl  k) ?_
  refine own_ru 24 [(.ref bb), (.int (3 : Int32))] X784 hx hby e4_23_1 rfl rfl ?_
  have f808 := (f782.keep K784 (own_nS (by omega) nin0))
  refine own_aL X784 hx hZ rfl f808 25 rfl (hb hby d4_24) rfl ?_
  refine own_kN 28 X784 hx (hb hby d4_25) rfl (tlt (by decide : ((3 : Int32) < (4 : Int32)))).2.1 rfl ?_
  refine own_ru 31 [(.int (3 : Int32)), (.ref bb)] X784 hx hby e4_28_2 rfl rfl ?_
  refine own_bL X784 hx hZ rfl f808 (x := b3) 32 rfl (hb hby d4_31) rfl ⟨by decide, by decide⟩ rfl ?_
  refine own_rl 43 #[.val (.ref a1), .val (.ref bb), .val (.int (3 : Int32)), .val (.ref ix_776), .val (.ref b777), .val (.int (3 : Int32)), .val (.int (b3 &&& (255 : Int32))), .unset] [(.int (128 : Int32)), (.int (b3 &&& (255 : Int32)))] X784 hx hby e4_32_5 rfl rfl ?_
  by_cases hc43 : (b3 &&& (255 : Int32)) < (128 : Int32)
  · refine own_kN 46 X784 hx (hb hby d4_43) rfl (tlt hc43).2.1 rfl ?_
    refine own_ru 51 [(.int ((b3 &&& (255 : Int32)).toUInt32.toUInt16.toUInt32.toInt32)), (.ref b777)] X784 hx hby e4_46_3 rfl rfl ?_
    have f809 := (f783.keep K784 (allS (by omega) all0))
    refine own_cV X784 hx hZ hown (wd66 hw) (wd67 hw) (notFace_of_selects (args := #[]) (mvT hZ (wd69 hw))) (wd69 hw) (wd68 hw) (by decide) (wd70 hw) (wd49 hw) (rm11a l Z a0 hw [] G1 G2 b777 ((b3 &&& (255 : Int32)).toUInt32.toUInt16.toUInt32.toInt32) (0 : Int32) vn_784 kk_784 (1 : Int32) [(.int (0 : Int32))] T784.heap n0 (by omega) f809 A G784_0 G784_1 G784_2 G784_3 G784_4 G784_5 G784_6' (by omega) (by omega) (own_q255 hc43) (by decide) ⟨by decide, by decide⟩ (Nat.le_of_ble_eq_true rfl) (by first | assumption | decide | omega)) rfl G784_0 [(.int ((b3 &&& (255 : Int32)).toUInt32.toUInt16.toUInt32.toInt32))] [] 54 0 (hb hby d4_51) rfl (by rw [hml]; rfl) rfl rfl (lenOf pd_26 rfl) rfl (by decide) fun v810 T810 Lc810 X810 hQ810 => ?_
    obtain ⟨rfl, N810q, K810, G810_0, G810_1, G810_2, G810_3, G810_4, G810_5, G810_6⟩ := hQ810
    have N810 := Fr.app N784 N810q
    have z810 := K810.1
    have lt810_0 : @LT.lt Nat _ b777 (Array.size T810.heap) := G810_0.lt
    have G810_1' : fl8 Z T810.heap b777 (.int (1 : Int32)) := G810_1
    have lt810_5 : @LT.lt Nat _ vn_784 (Array.size T810.heap) := G810_5.lt
    have G810_6' : Arv Z T810.heap vn_784 kk_784 .byte (1 : Int32) [(.int (own_b8 ((b3 &&& (255 : Int32)).toUInt32.toUInt16.toUInt32.toInt32)))] (.int (0 : Int32)) := G810_6
    refine own_ru 55 [] X810 hx hby e4_54_1 rfl rfl ?_
    refine own_go 90 X810 hx (hb hby d4_55) (by decide) (by decide) ?_
    refine own_rl 93 #[.val (.ref a1), .val (.ref bb), .val (.int (3 : Int32)), .val (.ref ix_776), .val (.ref b777), .val (.int (4 : Int32)), .val (.int (b3 &&& (255 : Int32))), .unset] [] X810 hx hby e4_90_1 rfl rfl ?_
    refine own_go 21 X810 hx (hb hby d4_93) (by decide) (by decide) ?_
    have f811 := (f809.keep K810 (allS (by omega) (allS (by omega) all0)))
    have f812 := (Exa.keep (Exa.keep (Exa.ext E777 G776_1) K784) K810)
    have f813 := (((Fld.ext E777 G776_2).keep K784 (own_nS (by omega) nin0)).keep K810 (own_nS (by omega) (own_nS (by omega) nin0)))
    have f814 := (((Fld.ext E777 G776_3).keep K784 (own_nS (by omega) nin0)).keep K810 (own_nS (by omega) (own_nS (by omega) nin0)))
    have f815 : Unt T810.heap a1 := (Unt.keep K810 (own_nS (by omega) (own_nS (by omega) nin0)) (Unt.keep K784 (own_nS (by omega) nin0) (Unt.ext E777 G776_4)))
    have f816 := (Exa.keep (Exa.keep (Exa.ext E777 G776_5) K784) K810)
    have f817 := (((Fld.ext E777 G776_6).keep K784 (own_nS (by omega) nin0)).keep K810 (own_nS (by omega) (own_nS (by omega) nin0)))
    have f818 := (((G776_7.ext E777).keep K784 (own_nS (by omega) nin0)).keep K810 (own_nS (by omega) (own_nS (by omega) nin0)))
    have f819 := (f808.keep K810 (own_nS (by omega) (own_nS (by omega) nin0)))
    have f820 : own_SB11 Z T810.heap n0 b777 (own_exp b3) := Or.inl ⟨vn_784, kk_784, (own_b8 ((b3 &&& (255 : Int32)).toUInt32.toUInt16.toUInt32.toInt32)), G810_0, G810_1', G810_2, G810_3, G810_4, G810_5, G810_6', by omega, ⟨own_P1 hc43, own_P3 hc43⟩⟩
    exact J785 _ _ _ .unset (X810.more (by decide) (by decide)) rfl N810 (by omega) f811 f812 f813 f814 f815 f816 f817 f818 f819 f820 (Or.inl rfl)
  · refine own_kY 58 X784 hx (hb hby d4_43) rfl (flt hc43).2.1 (by decide) (by decide) ?_
    refine own_ru 65 [(.int ((b3 &&& (255 : Int32)) - (128 : Int32))), (.ref ix_776)] X784 hx hby e4_58_4 rfl rfl ?_
    have f821 := ((Fld.ext E777 G776_6).keep K784 (own_nS (by omega) nin0))
    have f822 := ((G776_7.ext E777).keep K784 (own_nS (by omega) nin0))
    have f824 := (Exa.keep (Exa.ext E777 G776_5) K784)
    refine own_cV X784 hx hZ hown (wd179 hw) (wd180 hw) (notFace_of_selects (args := #[]) (mvT hZ (wd182 hw))) (wd182 hw) (wd181 hw) (by decide) (wd183 hw) (wd33 hw) (rm33 l Z a0 hw [] ix_776 ((b3 &&& (255 : Int32)) - (128 : Int32)) ca_776 kk_776 vz_776 T784.heap n0 (by omega) f821 f822 (own_jr hc43) U776_0) rfl f824 [(.int ((b3 &&& (255 : Int32)) - (128 : Int32)))] [] 68 0 (hb hby d4_65) rfl (by rw [hml]; rfl) rfl rfl (lenOf pd_11 rfl) rfl (by decide) fun v823 T823 Lc823 X823 hQ823 => ?_
    obtain ⟨rfl, N823q, e823⟩ := hQ823
    have N823 := Fr.app N784 N823q
    refine own_rl 75 #[.val (.ref a1), .val (.ref bb), .val (.int (3 : Int32)), .val (.ref ix_776), .val (.ref b777), .val (.int (3 : Int32)), .val (.int (b3 &&& (255 : Int32))), .val (.int (-1 : Int32))] [(.int (-1 : Int32)), (.int (-1 : Int32)), (.ref b777)] X823 hx hby e4_68_4 rfl rfl ?_
    refine own_kN 78 X823 hx (hb hby d4_75) rfl (teq (by decide : ((-1 : Int32) = (-1 : Int32)))).2 rfl ?_
    refine own_st 80 [(.int (65533 : Int32)), (.ref b777)] (X823.ldcInt hx hown (mvT hZ (wd184 hw)) (g := (mkF m 78 #[.val (.ref a1), .val (.ref bb), .val (.int (3 : Int32)), .val (.ref ix_776), .val (.ref b777), .val (.int (3 : Int32)), .val (.int (b3 &&& (255 : Int32))), .val (.int (-1 : Int32))] [(.ref b777)])) rfl (hb hby d4_78)) ?_
    refine own_go 86 X823 hx (hb hby d4_80) (by decide) (by decide) ?_
    have f825 := (f783.keep K784 (allS (by omega) all0))
    refine own_cV X823 hx hZ hown (wd66 hw) (wd67 hw) (notFace_of_selects (args := #[]) (mvT hZ (wd69 hw))) (wd69 hw) (wd68 hw) (by decide) (wd70 hw) (wd49 hw) (rm11i l Z a0 hw [] G1 G2 b777 vn_784 kk_784 (1 : Int32) (0 : Int32) ([] : List Int32) 1 T784.heap n0 (by omega) f825 A G784_0 G784_1 G784_2 G784_3 G784_4 G784_5 G784_6' (by omega) (by decide) rfl rfl rfl (Nat.le_of_ble_eq_true rfl) (by decide) (by decide) (by decide) (by decide) (by decide) (by decide) (by decide) (by decide) (by decide) ⟨by decide, by decide⟩ ⟨by decide, by decide⟩ (Nat.le_of_ble_eq_true rfl) (Nat.le_of_ble_eq_true rfl) (by first | assumption | decide | omega)) e823 G784_0 [(.int (65533 : Int32))] [] 89 0 (hb hby d4_86) rfl (by rw [hml]; rfl) rfl rfl (lenOf pd_26 rfl) rfl (by decide) fun v826 T826 Lc826 X826 hQ826 => ?_
    obtain ⟨vb_826, kb_826, rfl, N826q, K826, G826_0, G826_1, G826_2, G826_3, G826_4, G826_5, G826_6, U826_0⟩ := hQ826
    have N826 := Fr.app N823 N826q
    have z826 := K826.1
    have lt826_0 : @LT.lt Nat _ b777 (Array.size T826.heap) := G826_0.lt
    have G826_1' : fl8 Z T826.heap b777 (.int (1 : Int32)) := G826_1
    have lt826_5 : @LT.lt Nat _ vb_826 (Array.size T826.heap) := G826_5.lt
    have G826_6' : Arv Z T826.heap vb_826 kb_826 .byte (2 : Int32) [(.int (own_e0 (65533 : Int32))), (.int (own_e1 (65533 : Int32)))] (.int (0 : Int32)) := G826_6
    refine own_rl 93 #[.val (.ref a1), .val (.ref bb), .val (.int (3 : Int32)), .val (.ref ix_776), .val (.ref b777), .val (.int (4 : Int32)), .val (.int (b3 &&& (255 : Int32))), .val (.int (-1 : Int32))] [] X826 hx hby e4_89_2 rfl rfl ?_
    refine own_go 21 X826 hx (hb hby d4_93) (by decide) (by decide) ?_
    have f827 := (f825.keep K826 (allS (by omega) all0))
    have f828 := (Exa.keep (Exa.keep (Exa.ext E777 G776_1) K784) K826)
    have f829 := (((Fld.ext E777 G776_2).keep K784 (own_nS (by omega) nin0)).keep K826 (own_nS (by omega) nin0))
    have f830 := (((Fld.ext E777 G776_3).keep K784 (own_nS (by omega) nin0)).keep K826 (own_nS (by omega) nin0))
    have f831 : Unt T826.heap a1 := (Unt.keep K826 (own_nS (by omega) nin0) (Unt.keep K784 (own_nS (by omega) nin0) (Unt.ext E777 G776_4)))
    have f832 := (Exa.keep f824 K826)
    have f833 := (f821.keep K826 (own_nS (by omega) nin0))
    have f834 := (f822.keep K826 (own_nS (by omega) nin0))
    have f835 := (f808.keep K826 (own_nS (by omega) nin0))
    have f836 : own_SB11 Z T826.heap n0 b777 (own_exp b3) := Or.inr ⟨vb_826, kb_826, (own_e0 (65533 : Int32)), (own_e1 (65533 : Int32)), G826_0, G826_1', G826_2, G826_3, G826_4, G826_5, G826_6', by omega, own_P4 hc43⟩
    exact J785 _ _ _ (.val (.int (-1 : Int32))) (X826.more (by decide) (by decide)) rfl N826 (by omega) f827 f828 f829 f830 f831 f832 f833 f834 f835 f836 (Or.inr ⟨_, rfl, rfl⟩)
def Q4f4n (Z : State) (G1 : Int32) (G2 : Value) (a1 : Addr) (bb : Addr) (kb : ClassId) (b0 : Int32) (b1 : Int32) (b2 : Int32) (b3 : Int32) (h0 : Heap) (n0 : Nat) (v : Option Value) (h : Heap) (L : List Loc) : Prop := ∃ so : Addr, ∃ ix : Addr, ∃ ca : Addr, ∃ kk : ClassId, ∃ vz : List Value, v = some (.ref so) ∧ Fr n0 L ∧ h0.size ≤ h.size ∧ Old Z n0 h ∧ ex0 Z h a1 ∧ fl1 Z h a1 (.ref ix) ∧ fl2 Z h a1 .null ∧ Unt h a1 ∧ ex5 Z h ix ∧ fl6 Z h ix (.ref ca) ∧ Arv Z h ca kk .int (128 : Int32) vz (.int (0 : Int32)) ∧ Arv Z h bb kb .byte (4 : Int32) [(.int b0), (.int b1), (.int b2), (.int b3)] (.int (0 : Int32)) ∧ own_Str0 Z h so ∧ (∀ j : Nat, j < 128 → vz.getD j (.int (0 : Int32)) = .int (-1 : Int32))
set_option maxRecDepth 65536 in
set_option maxHeartbeats 40000000 in
theorem rm4f4n (l : Launch) (Z : State) (a0 : Array Value) (hw : OW a0 Z) (ws : List Jvm.Cond) (G1 : Int32) (G2 : Value) (a1 : Addr) (bb : Addr) (kb : ClassId) (b0 : Int32) (b1 : Int32) (b2 : Int32) (b3 : Int32) (h0 : Heap) (n0 : Nat) (Z0 : n0 ≤ h0.size) (OLD : Old Z n0 h0) (A : Amb Z G1 G2) (P0 : ex0 Z h0 a1) (P1 : fl1 Z h0 a1 .null) (P2 : fl2 Z h0 a1 .null) (P3 : Unt h0 a1) (P4 : Arv Z h0 bb kb .byte (4 : Int32) [(.int b0), (.int b1), (.int b2), (.int b3)] (.int (0 : Int32))) (g_a1 : n0 ≤ a1) (hne : @Ne Nat bb a1) :
    own_Met l my4 prog_33_method_5_code 8 (some (.object "java/lang/String")) ws (own_rm 5 6 149 71) #[(.ref a1), (.ref bb), (.int (4 : Int32))] Z h0 (Q4f4n Z G1 G2 a1 bb kb b0 b1 b2 b3 h0 n0) 6 149 := by
  refine own_body (plainFor_of_name pn_0) (fun m => by first | (simp [entryFrame, mkF, argsToLocals, Value.category]; done) | rfl) (Ls := #[.val (.ref a1), .val (.ref bb), .val (.int (4 : Int32)), .unset, .unset, .unset, .unset, .unset]) fun p e s m below meth c s₁ X0 hx hby hml hZ e0 hown hnm hlk hrt => ?_
  have N0 := Fr.nil n0
  have lt_P0 : @LT.lt Nat _ a1 (Array.size h0) := P0.lt
  have lt_P4 : @LT.lt Nat _ bb (Array.size h0) := P4.lt
  refine own_ru 1 [(.ref a1)] X0 hx hby e4_0_1 rfl rfl ?_
  refine own_cY X0 hx hZ hown (wd25 hw) (wd26 hw) (own_selPriv (mvT hZ (wd6 hw)) (Cond.privateMethod_at (mvP hZ (wd27 hw) (args := #[]))) (mvT hZ (wd26 hw)) (by decide)) (wd27 hw) (by decide) (wd28 hw) (wd3 hw) (rm5n l Z a0 hw [] G1 G2 a1 bb kb [(.int b0), (.int b1), (.int b2), (.int b3)] h0 n0 (by omega) OLD A P0 P1 P2 P4 P3 (by omega) (by first | assumption | decide | omega)) e0 P0 P3 [] [] 4 0 (hb hby d4_1) rfl (by rw [hml]; rfl) rfl rfl (lenOf pd_24 rfl) rfl (by decide) fun v837 T837 Lc837 X837 hQ837 => ?_
  obtain ⟨ix_837, ca_837, kk_837, vz_837, rfl, N837q, K837, G837_0, G837_1, G837_2, G837_3, G837_4, G837_5, G837_6, G837_7, G837_8, U837_0⟩ := hQ837
  have N837 := Fr.app N0 N837q
  have lt837_1 : @LT.lt Nat _ a1 (Array.size T837.heap) := G837_1.lt
  have lt837_5 : @LT.lt Nat _ ix_837 (Array.size T837.heap) := G837_5.lt
  have lt837_7 : @LT.lt Nat _ ca_837 (Array.size T837.heap) := G837_7.lt
  have lt837_8 : @LT.lt Nat _ bb (Array.size T837.heap) := G837_8.lt
  refine own_rl 5 #[.val (.ref a1), .val (.ref bb), .val (.int (4 : Int32)), .val (.ref ix_837), .unset, .unset, .unset, .unset] [] X837 hx hby e4_4_1 rfl rfl ?_
  refine own_nO X837 hx hZ hown (wd47 hw) (wd48 hw) (wd49 hw) rfl 8 (hb hby d4_5) rfl (by decide) (by decide) fun T838 h838 b838 g838 X838 e838 E838 A838 D838 UN838 => ?_
  have ll838 : @LT.lt Nat _ b838 (Array.size h838) := A838.lt
  have z838 := E838.1
  have F839 : fl10 Z h838 b838 .null := D838 (Or.inl (wd63 hw)) (ty := (.array .byte)) (by decide)
  have F840 : fl9 Z h838 b838 (.int (0 : Int32)) := D838 (Or.inl (wd65 hw)) (ty := .byte) (by decide)
  have F841 : fl8 Z h838 b838 (.int (0 : Int32)) := D838 (Or.inl (wd77 hw)) (ty := .int) (by decide)
  have F842 : fl11 Z h838 b838 (.int (0 : Int32)) := D838 (Or.inl (wd230 hw)) (ty := .boolean) (by decide)
  refine own_ru 10 [(.ref bb), (.ref b838), (.ref b838)] X838 hx hby e4_8_2 rfl rfl ?_
  have f843 := (G837_8.ext E838)
  refine own_aL X838 hx hZ e838 f843 11 rfl (hb hby d4_10) rfl ?_
  refine own_ru 13 [(.int (0 : Int32)), (.ref b838), (.ref b838)] X838 hx hby e4_11_2 rfl rfl ?_
  have f844 := (G837_0.ext E838)
  refine own_cN X838 hx hZ hown rfl (wd50 hw) (wd51 hw) (by decide) (wd52 hw) (wd49 hw) (rm9 l Z a0 hw [] G1 G2 b838 (0 : Int32) 0 h838 n0 (by omega) f844 A A838 F841 F840 F839 F842 (by omega) (by decide) (by decide)) e838  [(.int (0 : Int32))] [(.ref b838)] 16 1 (hb hby d4_13) rfl (by rw [hml]; rfl) rfl rfl (lenOf pd_2 rfl) rfl (by decide) fun v845 T845 Lc845 X845 hQ845 => ?_
  obtain ⟨vn_845, kk_845, rfl, N845q, K845, G845_0, G845_1, G845_2, G845_3, G845_4, G845_5, G845_6, U845_0⟩ := hQ845
  have N845 := Fr.app N837 N845q
  have z845 := K845.1
  have lt845_0 : @LT.lt Nat _ b838 (Array.size T845.heap) := G845_0.lt
  have lt845_5 : @LT.lt Nat _ vn_845 (Array.size T845.heap) := G845_5.lt
  have G845_6' : Arv Z T845.heap vn_845 kk_845 .byte (0 : Int32) [] (.int (0 : Int32)) := G845_6
  refine own_rl 21 #[.val (.ref a1), .val (.ref bb), .val (.int (4 : Int32)), .val (.ref ix_837), .val (.ref b838), .val (.int (4 : Int32)), .unset, .unset] [] X845 hx hby e4_16_3 rfl rfl ?_
  refine own_ru 24 [(.ref bb), (.int (4 : Int32))] X845 hx hby e4_21_2 rfl rfl ?_
  have f846 := (f843.keep K845 (own_nS (by omega) nin0))
  refine own_aL X845 hx hZ rfl f846 25 rfl (hb hby d4_24) rfl ?_
  refine own_kY 96 X845 hx (hb hby d4_25) rfl (flt (by decide : ¬ ((4 : Int32) < (4 : Int32)))).2.1 (by decide) (by decide) ?_
  refine own_ru 98 [(.ref b838)] X845 hx hby e4_96_1 rfl rfl ?_
  have f847 := (f844.keep K845 (allS (by omega) all0))
  refine own_cV X845 hx hZ hown (wd92 hw) (wd93 hw) (notFace_of_selects (args := #[]) (mvT hZ (wd95 hw))) (wd95 hw) (wd94 hw) (by decide) (wd96 hw) (wd49 hw) (rm16s0 l Z a0 hw [] G1 G2 b838 vn_845 kk_845 (0 : Int32) (0 : Int32) [] T845.heap n0 (by omega) f847 A G845_0 G845_1 G845_2 G845_3 G845_4 G845_5 G845_6' rfl (by decide)) rfl G845_0 [] [] 101 0 (hb hby d4_98) rfl (by rw [hml]; rfl) rfl rfl (lenOf pd_25 rfl) rfl (by decide) fun v848 T848 Lc848 X848 hQ848 => ?_
  obtain ⟨so_848, ta_848, rfl, N848q, K848, G848_0, G848_1, G848_2, G848_3, U848_0⟩ := hQ848
  have N848 := Fr.app N845 N848q
  have z848 := K848.1
  have lt848_0 : @LT.lt Nat _ so_848 (Array.size T848.heap) := G848_0.lt
  have lt848_3 : @LT.lt Nat _ ta_848 (Array.size T848.heap) := G848_3.lt
  have f850 := (f847.keep K848 all0)
  have f851 := (Exa.keep (Exa.keep (Exa.ext E838 G837_1) K845) K848)
  have f852 := (((Fld.ext E838 G837_2).keep K845 (own_nS (by omega) nin0)).keep K848 nin0)
  have f853 := (((Fld.ext E838 G837_3).keep K845 (own_nS (by omega) nin0)).keep K848 nin0)
  have f854 : Unt T848.heap a1 := (Unt.keep K848 nin0 (Unt.keep K845 (own_nS (by omega) nin0) (Unt.ext E838 G837_4)))
  have f855 := (Exa.keep (Exa.keep (Exa.ext E838 G837_5) K845) K848)
  have f856 := (((Fld.ext E838 G837_6).keep K845 (own_nS (by omega) nin0)).keep K848 nin0)
  have f857 := (((G837_7.ext E838).keep K845 (own_nS (by omega) nin0)).keep K848 nin0)
  have f858 := (f846.keep K848 nin0)
  have hq849 : Q4f4n Z G1 G2 a1 bb kb b0 b1 b2 b3 h0 n0 (some (.ref so_848)) T848.heap _ := ⟨so_848, ix_837, ca_837, kk_837, vz_837, rfl, N848, (by omega), f850, f851, f852, f853, f854, f855, f856, f857, f858, ⟨ta_848, kk_845, G848_0, G848_1, G848_2, G848_3⟩, U837_0⟩
  exact own_retR X848 hx hlk (w := (.ref so_848)) rfl hrt rfl (hb hby d4_101) rfl hq849 (by decide) (by decide)
def Q4f0r (Z : State) (G1 : Int32) (G2 : Value) (a1 : Addr) (bb : Addr) (kb : ClassId) (b0 : Int32) (b1 : Int32) (b2 : Int32) (b3 : Int32) (ix : Addr) (ca : Addr) (kk : ClassId) (vz : List Value) (h0 : Heap) (n0 : Nat) (v : Option Value) (h : Heap) (L : List Loc) : Prop := ∃ so : Addr, v = some (.ref so) ∧ Fr n0 L ∧ Keep h0 h [] ∧ own_Str4 Z h so (own_exp b0) (own_exp b1) (own_exp b2) (own_exp b3)
set_option maxRecDepth 65536 in
set_option maxHeartbeats 40000000 in
theorem rm4f0r (l : Launch) (Z : State) (a0 : Array Value) (hw : OW a0 Z) (ws : List Jvm.Cond) (G1 : Int32) (G2 : Value) (a1 : Addr) (bb : Addr) (kb : ClassId) (b0 : Int32) (b1 : Int32) (b2 : Int32) (b3 : Int32) (ix : Addr) (ca : Addr) (kk : ClassId) (vz : List Value) (h0 : Heap) (n0 : Nat) (Z0 : n0 ≤ h0.size) (OLD : Old Z n0 h0) (A : Amb Z G1 G2) (P0 : ex0 Z h0 a1) (P1 : fl1 Z h0 a1 (.ref ix)) (P2 : fl2 Z h0 a1 .null) (P3 : Unt h0 a1) (P4 : ex5 Z h0 ix) (P5 : fl6 Z h0 ix (.ref ca)) (P6 : Arv Z h0 ca kk .int (128 : Int32) vz (.int (0 : Int32))) (P7 : Arv Z h0 bb kb .byte (4 : Int32) [(.int b0), (.int b1), (.int b2), (.int b3)] (.int (0 : Int32))) (hall : ∀ j : Nat, j < 128 → vz.getD j (.int (0 : Int32)) = .int (-1 : Int32)) :
    own_Met l my4 prog_33_method_5_code 8 (some (.object "java/lang/String")) ws (own_rm 8 8 52 115) #[(.ref a1), (.ref bb), (.int (0 : Int32))] Z h0 (Q4f0r Z G1 G2 a1 bb kb b0 b1 b2 b3 ix ca kk vz h0 n0) 8 52 := by
  refine own_body (plainFor_of_name pn_0) (fun m => by first | (simp [entryFrame, mkF, argsToLocals, Value.category]; done) | rfl) (Ls := #[.val (.ref a1), .val (.ref bb), .val (.int (0 : Int32)), .unset, .unset, .unset, .unset, .unset]) fun p e s m below meth c s₁ X0 hx hby hml hZ e0 hown hnm hlk hrt => ?_
  have N0 := Fr.nil n0
  have lt_P0 : @LT.lt Nat _ a1 (Array.size h0) := P0.lt
  have lt_P4 : @LT.lt Nat _ ix (Array.size h0) := P4.lt
  have lt_P6 : @LT.lt Nat _ ca (Array.size h0) := P6.lt
  have lt_P7 : @LT.lt Nat _ bb (Array.size h0) := P7.lt
  refine own_ru 1 [(.ref a1)] X0 hx hby e4_0_1 rfl rfl ?_
  refine own_cY X0 hx hZ hown (wd25 hw) (wd26 hw) (own_selPriv (mvT hZ (wd6 hw)) (Cond.privateMethod_at (mvP hZ (wd27 hw) (args := #[]))) (mvT hZ (wd26 hw)) (by decide)) (wd27 hw) (by decide) (wd28 hw) (wd3 hw) (rm5r l Z a0 hw [] a1 ix h0 n0 (by omega) P0 P1 P3) e0 P0 P3 [] [] 4 0 (hb hby d4_1) rfl (by rw [hml]; rfl) rfl rfl (lenOf pd_24 rfl) rfl (by decide) fun v859 T859 Lc859 X859 hQ859 => ?_
  obtain ⟨rfl, N859q, e859⟩ := hQ859
  have N859 := Fr.app N0 N859q
  refine own_rl 5 #[.val (.ref a1), .val (.ref bb), .val (.int (0 : Int32)), .val (.ref ix), .unset, .unset, .unset, .unset] [] X859 hx hby e4_4_1 rfl rfl ?_
  refine own_nO X859 hx hZ hown (wd47 hw) (wd48 hw) (wd49 hw) e859 8 (hb hby d4_5) rfl (by decide) (by decide) fun T860 h860 b860 g860 X860 e860 E860 A860 D860 UN860 => ?_
  have ll860 : @LT.lt Nat _ b860 (Array.size h860) := A860.lt
  have KK860 : Keep h0 h860 [] := (Keep.refl h0 []).ext E860
  have z860 := E860.1
  have F861 : fl10 Z h860 b860 .null := D860 (Or.inl (wd63 hw)) (ty := (.array .byte)) (by decide)
  have F862 : fl9 Z h860 b860 (.int (0 : Int32)) := D860 (Or.inl (wd65 hw)) (ty := .byte) (by decide)
  have F863 : fl8 Z h860 b860 (.int (0 : Int32)) := D860 (Or.inl (wd77 hw)) (ty := .int) (by decide)
  have F864 : fl11 Z h860 b860 (.int (0 : Int32)) := D860 (Or.inl (wd230 hw)) (ty := .boolean) (by decide)
  refine own_ru 10 [(.ref bb), (.ref b860), (.ref b860)] X860 hx hby e4_8_2 rfl rfl ?_
  have f865 := (P7.ext E860)
  refine own_aL X860 hx hZ e860 f865 11 rfl (hb hby d4_10) rfl ?_
  refine own_ru 13 [(.int (4 : Int32)), (.ref b860), (.ref b860)] X860 hx hby e4_11_2 rfl rfl ?_
  have f866 := (OLD.ext E860)
  refine own_cN X860 hx hZ hown rfl (wd50 hw) (wd51 hw) (by decide) (wd52 hw) (wd49 hw) (rm9 l Z a0 hw [] G1 G2 b860 (4 : Int32) 4 h860 n0 (by omega) f866 A A860 F863 F862 F861 F864 (by omega) (by decide) (by decide)) e860  [(.int (4 : Int32))] [(.ref b860)] 16 1 (hb hby d4_13) rfl (by rw [hml]; rfl) rfl rfl (lenOf pd_2 rfl) rfl (by decide) fun v867 T867 Lc867 X867 hQ867 => ?_
  obtain ⟨vn_867, kk_867, rfl, N867q, K867, G867_0, G867_1, G867_2, G867_3, G867_4, G867_5, G867_6, U867_0⟩ := hQ867
  have N867 := Fr.app N859 N867q
  have z867 := K867.1
  have KK867 : Keep h0 T867.heap [] := KK860.trans K867 (allS (Or.inr (by omega)) all0)
  have lt867_0 : @LT.lt Nat _ b860 (Array.size T867.heap) := G867_0.lt
  have lt867_5 : @LT.lt Nat _ vn_867 (Array.size T867.heap) := G867_5.lt
  have G867_6' : Arv Z T867.heap vn_867 kk_867 .byte (4 : Int32) [(.int (0 : Int32)), (.int (0 : Int32)), (.int (0 : Int32)), (.int (0 : Int32))] (.int (0 : Int32)) := G867_6
  refine own_rl 21 #[.val (.ref a1), .val (.ref bb), .val (.int (0 : Int32)), .val (.ref ix), .val (.ref b860), .val (.int (0 : Int32)), .unset, .unset] [] X867 hx hby e4_16_3 rfl rfl ?_
  have J868 : ∀ (TJ868 : State) (LJ868 : List Loc) (hJ868 : Heap) (sl7 : Slot), Stand p l e (own_rm 8 8 52 115) s m #[(.ref a1), (.ref bb), (.int (0 : Int32))] below meth c TJ868 LJ868 3 16 → TJ868.heap = hJ868 → Fr n0 LJ868 → h0.size ≤ hJ868.size → Keep h0 hJ868 [] → Old Z n0 hJ868 → ex0 Z hJ868 a1 → fl1 Z hJ868 a1 (.ref ix) → fl2 Z hJ868 a1 .null → Unt hJ868 a1 → ex5 Z hJ868 ix → fl6 Z hJ868 ix (.ref ca) → Arv Z hJ868 ca kk .int (128 : Int32) vz (.int (0 : Int32)) → Arv Z hJ868 bb kb .byte (4 : Int32) [(.int b0), (.int b1), (.int b2), (.int b3)] (.int (0 : Int32)) → own_SB41 Z hJ868 n0 b860 (own_exp b0) → ((sl7 = .unset ∨ ∃ w : Value, sl7 = .val w ∧ w.category = 1)) → own_Fin p.tables e below (own_post (Q4f0r Z G1 G2 a1 bb kb b0 b1 b2 b3 ix ca kk vz h0 n0) s 8 52) (TJ868.setTop (mkF m 21 #[.val (.ref a1), .val (.ref bb), .val (.int (0 : Int32)), .val (.ref ix), .val (.ref b860), .val (.int (1 : Int32)), .val (.int (b0 &&& (255 : Int32))), sl7] [])) := by
    as_aux_lemma =>
      intro TJ868 LJ868 hJ868 sl7 XJ868 eJ868 NJ868 zJ868 KJ868 FJ868_0 FJ868_1 FJ868_2 FJ868_3 FJ868_4 FJ868_5 FJ868_6 FJ868_7 FJ868_8 FJ868_9 hs_sl7
      have ltJ868_1 : @LT.lt Nat _ a1 (Array.size hJ868) := FJ868_1.lt
      have ltJ868_5 : @LT.lt Nat _ ix (Array.size hJ868) := FJ868_5.lt
      have ltJ868_7 : @LT.lt Nat _ ca (Array.size hJ868) := FJ868_7.lt
      have ltJ868_8 : @LT.lt Nat _ bb (Array.size hJ868) := FJ868_8.lt
      have J869 : ∀ (TJ869 : State) (LJ869 : List Loc) (hJ869 : Heap) (sl7 : Slot), Stand p l e (own_rm 8 8 52 115) s m #[(.ref a1), (.ref bb), (.int (0 : Int32))] below meth c TJ869 LJ869 4 24 → TJ869.heap = hJ869 → Fr n0 LJ869 → h0.size ≤ hJ869.size → Keep h0 hJ869 [] → Old Z n0 hJ869 → ex0 Z hJ869 a1 → fl1 Z hJ869 a1 (.ref ix) → fl2 Z hJ869 a1 .null → Unt hJ869 a1 → ex5 Z hJ869 ix → fl6 Z hJ869 ix (.ref ca) → Arv Z hJ869 ca kk .int (128 : Int32) vz (.int (0 : Int32)) → Arv Z hJ869 bb kb .byte (4 : Int32) [(.int b0), (.int b1), (.int b2), (.int b3)] (.int (0 : Int32)) → own_SB42 Z hJ869 n0 b860 (own_exp b0) (own_exp b1) → ((sl7 = .unset ∨ ∃ w : Value, sl7 = .val w ∧ w.category = 1)) → own_Fin p.tables e below (own_post (Q4f0r Z G1 G2 a1 bb kb b0 b1 b2 b3 ix ca kk vz h0 n0) s 8 52) (TJ869.setTop (mkF m 21 #[.val (.ref a1), .val (.ref bb), .val (.int (0 : Int32)), .val (.ref ix), .val (.ref b860), .val (.int (2 : Int32)), .val (.int (b1 &&& (255 : Int32))), sl7] [])) := by
        as_aux_lemma =>
          intro TJ869 LJ869 hJ869 sl7 XJ869 eJ869 NJ869 zJ869 KJ869 FJ869_0 FJ869_1 FJ869_2 FJ869_3 FJ869_4 FJ869_5 FJ869_6 FJ869_7 FJ869_8 FJ869_9 hs_sl7
          have ltJ869_1 : @LT.lt Nat _ a1 (Array.size hJ869) := FJ869_1.lt
          have ltJ869_5 : @LT.lt Nat _ ix (Array.size hJ869) := FJ869_5.lt
          have ltJ869_7 : @LT.lt Nat _ ca (Array.size hJ869) := FJ869_7.lt
          have ltJ869_8 : @LT.lt Nat _ bb (Array.size hJ869) := FJ869_8.lt
          have J870 : ∀ (TJ870 : State) (LJ870 : List Loc) (hJ870 : Heap) (sl7 : Slot), Stand p l e (own_rm 8 8 52 115) s m #[(.ref a1), (.ref bb), (.int (0 : Int32))] below meth c TJ870 LJ870 5 32 → TJ870.heap = hJ870 → Fr n0 LJ870 → h0.size ≤ hJ870.size → Keep h0 hJ870 [] → Old Z n0 hJ870 → ex0 Z hJ870 a1 → fl1 Z hJ870 a1 (.ref ix) → fl2 Z hJ870 a1 .null → Unt hJ870 a1 → ex5 Z hJ870 ix → fl6 Z hJ870 ix (.ref ca) → Arv Z hJ870 ca kk .int (128 : Int32) vz (.int (0 : Int32)) → Arv Z hJ870 bb kb .byte (4 : Int32) [(.int b0), (.int b1), (.int b2), (.int b3)] (.int (0 : Int32)) → own_SB43 Z hJ870 n0 b860 (own_exp b0) (own_exp b1) (own_exp b2) → ((sl7 = .unset ∨ ∃ w : Value, sl7 = .val w ∧ w.category = 1)) → own_Fin p.tables e below (own_post (Q4f0r Z G1 G2 a1 bb kb b0 b1 b2 b3 ix ca kk vz h0 n0) s 8 52) (TJ870.setTop (mkF m 21 #[.val (.ref a1), .val (.ref bb), .val (.int (0 : Int32)), .val (.ref ix), .val (.ref b860), .val (.int (3 : Int32)), .val (.int (b2 &&& (255 : Int32))), sl7] [])) := by
            as_aux_lemma =>
              intro TJ870 LJ870 hJ870 sl7 XJ870 eJ870 NJ870 zJ870 KJ870 FJ870_0 FJ870_1 FJ870_2 FJ870_3 FJ870_4 FJ870_5 FJ870_6 FJ870_7 FJ870_8 FJ870_9 hs_sl7
              have ltJ870_1 : @LT.lt Nat _ a1 (Array.size hJ870) := FJ870_1.lt
              have ltJ870_5 : @LT.lt Nat _ ix (Array.size hJ870) := FJ870_5.lt
              have ltJ870_7 : @LT.lt Nat _ ca (Array.size hJ870) := FJ870_7.lt
              have ltJ870_8 : @LT.lt Nat _ bb (Array.size hJ870) := FJ870_8.lt
              have J871 : ∀ (TJ871 : State) (LJ871 : List Loc) (hJ871 : Heap) (sl7 : Slot), Stand p l e (own_rm 8 8 52 115) s m #[(.ref a1), (.ref bb), (.int (0 : Int32))] below meth c TJ871 LJ871 6 40 → TJ871.heap = hJ871 → Fr n0 LJ871 → h0.size ≤ hJ871.size → Keep h0 hJ871 [] → Old Z n0 hJ871 → ex0 Z hJ871 a1 → fl1 Z hJ871 a1 (.ref ix) → fl2 Z hJ871 a1 .null → Unt hJ871 a1 → ex5 Z hJ871 ix → fl6 Z hJ871 ix (.ref ca) → Arv Z hJ871 ca kk .int (128 : Int32) vz (.int (0 : Int32)) → Arv Z hJ871 bb kb .byte (4 : Int32) [(.int b0), (.int b1), (.int b2), (.int b3)] (.int (0 : Int32)) → own_SB44 Z hJ871 n0 b860 (own_exp b0) (own_exp b1) (own_exp b2) (own_exp b3) → ((sl7 = .unset ∨ ∃ w : Value, sl7 = .val w ∧ w.category = 1)) → own_Fin p.tables e below (own_post (Q4f0r Z G1 G2 a1 bb kb b0 b1 b2 b3 ix ca kk vz h0 n0) s 8 52) (TJ871.setTop (mkF m 21 #[.val (.ref a1), .val (.ref bb), .val (.int (0 : Int32)), .val (.ref ix), .val (.ref b860), .val (.int (4 : Int32)), .val (.int (b3 &&& (255 : Int32))), sl7] [])) := by
                as_aux_lemma =>
                  intro TJ871 LJ871 hJ871 sl7 XJ871 eJ871 NJ871 zJ871 KJ871 FJ871_0 FJ871_1 FJ871_2 FJ871_3 FJ871_4 FJ871_5 FJ871_6 FJ871_7 FJ871_8 FJ871_9 hs_sl7
                  have ltJ871_1 : @LT.lt Nat _ a1 (Array.size hJ871) := FJ871_1.lt
                  have ltJ871_5 : @LT.lt Nat _ ix (Array.size hJ871) := FJ871_5.lt
                  have ltJ871_7 : @LT.lt Nat _ ca (Array.size hJ871) := FJ871_7.lt
                  have ltJ871_8 : @LT.lt Nat _ bb (Array.size hJ871) := FJ871_8.lt
                  rcases FJ871_9 with ⟨va4, kv4, y4_0, y4_1, y4_2, y4_3, fs4_0, fs4_1, fs4_2, fs4_3, fs4_4, fs4_5, fs4_6, og4, pe4_0, pe4_1, pe4_2, pe4_3⟩ | ⟨va4, kv4, y4_0, y4_1, y4_2, y4_3, z4_0, z4_1, z4_2, z4_3, fs4_0, fs4_1, fs4_2, fs4_3, fs4_4, fs4_5, fs4_6, og4, pe4_0, pe4_1, pe4_2, pe4_3⟩
                  · have ltv4 : @LT.lt Nat _ va4 (Array.size hJ871) := fs4_6.lt
                    have lts4 : @LT.lt Nat _ b860 (Array.size hJ871) := fs4_0.lt
                    refine own_ru 24 [(.ref bb), (.int (4 : Int32))] XJ871 hx hby e4_21_2 rfl rfl ?_
                    refine own_aL XJ871 hx hZ eJ871 FJ871_8 25 rfl (hb hby d4_24) rfl ?_
                    refine own_kY 96 XJ871 hx (hb hby d4_25) rfl (flt (by decide : ¬ ((4 : Int32) < (4 : Int32)))).2.1 (by decide) (by decide) ?_
                    refine own_ru 98 [(.ref b860)] XJ871 hx hby e4_96_1 rfl rfl ?_
                    refine own_cV XJ871 hx hZ hown (wd92 hw) (wd93 hw) (notFace_of_selects (args := #[]) (mvT hZ (wd95 hw))) (wd95 hw) (wd94 hw) (by decide) (wd96 hw) (wd49 hw) (rm16s0 l Z a0 hw [] G1 G2 b860 va4 kv4 (4 : Int32) (4 : Int32) [(.int y4_0), (.int y4_1), (.int y4_2), (.int y4_3)] hJ871 n0 (by omega) FJ871_0 A fs4_0 fs4_1 fs4_2 fs4_3 fs4_4 fs4_5 fs4_6 rfl (by decide)) eJ871 fs4_0 [] [] 101 0 (hb hby d4_98) rfl (by rw [hml]; rfl) rfl rfl (lenOf pd_25 rfl) rfl (by decide) fun v872 T872 Lc872 X872 hQ872 => ?_
                    obtain ⟨so_872, ta_872, rfl, N872q, K872, G872_0, G872_1, G872_2, G872_3, U872_0⟩ := hQ872
                    have N872 := Fr.app NJ871 N872q
                    have z872 := K872.1
                    have KK872 : Keep h0 T872.heap [] := KJ871.trans K872 all0
                    have lt872_0 : @LT.lt Nat _ so_872 (Array.size T872.heap) := G872_0.lt
                    have lt872_3 : @LT.lt Nat _ ta_872 (Array.size T872.heap) := G872_3.lt
                    have hq873 : Q4f0r Z G1 G2 a1 bb kb b0 b1 b2 b3 ix ca kk vz h0 n0 (some (.ref so_872)) T872.heap _ := ⟨so_872, rfl, N872, KK872, Or.inl ⟨ta_872, kv4, y4_0, y4_1, y4_2, y4_3, G872_0, G872_1, G872_2, G872_3, pe4_0.1, pe4_1.1, pe4_2.1, pe4_3.1⟩⟩
                    exact own_retR X872 hx hlk (w := (.ref so_872)) rfl hrt rfl (hb hby d4_101) rfl hq873 (by decide) (by decide)
                  · have ltv4 : @LT.lt Nat _ va4 (Array.size hJ871) := fs4_6.lt
                    have lts4 : @LT.lt Nat _ b860 (Array.size hJ871) := fs4_0.lt
                    refine own_ru 24 [(.ref bb), (.int (4 : Int32))] XJ871 hx hby e4_21_2 rfl rfl ?_
                    refine own_aL XJ871 hx hZ eJ871 FJ871_8 25 rfl (hb hby d4_24) rfl ?_
                    refine own_kY 96 XJ871 hx (hb hby d4_25) rfl (flt (by decide : ¬ ((4 : Int32) < (4 : Int32)))).2.1 (by decide) (by decide) ?_
                    refine own_ru 98 [(.ref b860)] XJ871 hx hby e4_96_1 rfl rfl ?_
                    refine own_cV XJ871 hx hZ hown (wd92 hw) (wd93 hw) (notFace_of_selects (args := #[]) (mvT hZ (wd95 hw))) (wd95 hw) (wd94 hw) (by decide) (wd96 hw) (wd49 hw) (rm16s1 l Z a0 hw [] G1 G2 b860 va4 kv4 (4 : Int32) (8 : Int32) [(.int y4_0), (.int z4_0), (.int y4_1), (.int z4_1), (.int y4_2), (.int z4_2), (.int y4_3), (.int z4_3)] hJ871 n0 (by omega) FJ871_0 A fs4_0 fs4_1 fs4_2 fs4_3 fs4_4 fs4_5 fs4_6 rfl (by decide)) eJ871 fs4_0 [] [] 101 0 (hb hby d4_98) rfl (by rw [hml]; rfl) rfl rfl (lenOf pd_25 rfl) rfl (by decide) fun v874 T874 Lc874 X874 hQ874 => ?_
                    obtain ⟨so_874, ta_874, rfl, N874q, K874, G874_0, G874_1, G874_2, G874_3, U874_0⟩ := hQ874
                    have N874 := Fr.app NJ871 N874q
                    have z874 := K874.1
                    have KK874 : Keep h0 T874.heap [] := KJ871.trans K874 all0
                    have lt874_0 : @LT.lt Nat _ so_874 (Array.size T874.heap) := G874_0.lt
                    have lt874_3 : @LT.lt Nat _ ta_874 (Array.size T874.heap) := G874_3.lt
                    have hq875 : Q4f0r Z G1 G2 a1 bb kb b0 b1 b2 b3 ix ca kk vz h0 n0 (some (.ref so_874)) T874.heap _ := ⟨so_874, rfl, N874, KK874, Or.inr ⟨ta_874, kv4, y4_0, y4_1, y4_2, y4_3, z4_0, z4_1, z4_2, z4_3, G874_0, G874_1, G874_2, G874_3, pe4_0, pe4_1, pe4_2, pe4_3⟩⟩
                    exact own_retR X874 hx hlk (w := (.ref so_874)) rfl hrt rfl (hb hby d4_101) rfl hq875 (by decide) (by decide)
              rcases FJ870_9 with ⟨va3, kv3, y3_0, y3_1, y3_2, fs3_0, fs3_1, fs3_2, fs3_3, fs3_4, fs3_5, fs3_6, og3, pe3_0, pe3_1, pe3_2⟩ | ⟨va3, kv3, y3_0, y3_1, y3_2, z3_0, z3_1, z3_2, fs3_0, fs3_1, fs3_2, fs3_3, fs3_4, fs3_5, fs3_6, og3, pe3_0, pe3_1, pe3_2⟩
              · have ltv3 : @LT.lt Nat _ va3 (Array.size hJ870) := fs3_6.lt
                have lts3 : @LT.lt Nat _ b860 (Array.size hJ870) := fs3_0.lt
                refine own_ru 24 [(.ref bb), (.int (3 : Int32))] XJ870 hx hby e4_21_2 rfl rfl ?_
                refine own_aL XJ870 hx hZ eJ870 FJ870_8 25 rfl (hb hby d4_24) rfl ?_
                refine own_kN 28 XJ870 hx (hb hby d4_25) rfl (tlt (by decide : ((3 : Int32) < (4 : Int32)))).2.1 rfl ?_
                refine own_ru 31 [(.int (3 : Int32)), (.ref bb)] XJ870 hx hby e4_28_2 rfl rfl ?_
                refine own_bL XJ870 hx hZ eJ870 FJ870_8 (x := b3) 32 rfl (hb hby d4_31) rfl ⟨by decide, by decide⟩ rfl ?_
                refine own_rl 43 #[.val (.ref a1), .val (.ref bb), .val (.int (0 : Int32)), .val (.ref ix), .val (.ref b860), .val (.int (3 : Int32)), .val (.int (b3 &&& (255 : Int32))), sl7] [(.int (128 : Int32)), (.int (b3 &&& (255 : Int32)))] XJ870 hx hby e4_32_5 rfl rfl ?_
                by_cases hc43 : (b3 &&& (255 : Int32)) < (128 : Int32)
                · refine own_kN 46 XJ870 hx (hb hby d4_43) rfl (tlt hc43).2.1 rfl ?_
                  refine own_ru 51 [(.int ((b3 &&& (255 : Int32)).toUInt32.toUInt16.toUInt32.toInt32)), (.ref b860)] XJ870 hx hby e4_46_3 rfl rfl ?_
                  refine own_cV XJ870 hx hZ hown (wd66 hw) (wd67 hw) (notFace_of_selects (args := #[]) (mvT hZ (wd69 hw))) (wd69 hw) (wd68 hw) (by decide) (wd70 hw) (wd49 hw) (rm11a l Z a0 hw [] G1 G2 b860 ((b3 &&& (255 : Int32)).toUInt32.toUInt16.toUInt32.toInt32) (3 : Int32) va3 kv3 (4 : Int32) [(.int y3_0), (.int y3_1), (.int y3_2), (.int (0 : Int32))] hJ870 n0 (by omega) FJ870_0 A fs3_0 fs3_1 fs3_2 fs3_3 fs3_4 fs3_5 fs3_6 (by omega) (by omega) (own_q255 hc43) (by decide) ⟨by decide, by decide⟩ (Nat.le_of_ble_eq_true rfl) (by first | assumption | decide | omega)) eJ870 fs3_0 [(.int ((b3 &&& (255 : Int32)).toUInt32.toUInt16.toUInt32.toInt32))] [] 54 0 (hb hby d4_51) rfl (by rw [hml]; rfl) rfl rfl (lenOf pd_26 rfl) rfl (by decide) fun v876 T876 Lc876 X876 hQ876 => ?_
                  obtain ⟨rfl, N876q, K876, G876_0, G876_1, G876_2, G876_3, G876_4, G876_5, G876_6⟩ := hQ876
                  have N876 := Fr.app NJ870 N876q
                  have z876 := K876.1
                  have KK876 : Keep h0 T876.heap [] := KJ870.trans K876 (allS (Or.inr (by omega)) (allS (Or.inr (by omega)) all0))
                  have lt876_0 : @LT.lt Nat _ b860 (Array.size T876.heap) := G876_0.lt
                  have G876_1' : fl8 Z T876.heap b860 (.int (4 : Int32)) := G876_1
                  have lt876_5 : @LT.lt Nat _ va3 (Array.size T876.heap) := G876_5.lt
                  have G876_6' : Arv Z T876.heap va3 kv3 .byte (4 : Int32) [(.int y3_0), (.int y3_1), (.int y3_2), (.int (own_b8 ((b3 &&& (255 : Int32)).toUInt32.toUInt16.toUInt32.toInt32)))] (.int (0 : Int32)) := G876_6
                  refine own_ru 55 [] X876 hx hby e4_54_1 rfl rfl ?_
                  refine own_go 90 X876 hx (hb hby d4_55) (by decide) (by decide) ?_
                  refine own_rl 93 #[.val (.ref a1), .val (.ref bb), .val (.int (0 : Int32)), .val (.ref ix), .val (.ref b860), .val (.int (4 : Int32)), .val (.int (b3 &&& (255 : Int32))), sl7] [] X876 hx hby e4_90_1 rfl rfl ?_
                  refine own_go 21 X876 hx (hb hby d4_93) (by decide) (by decide) ?_
                  have f877 := (FJ870_0.keep K876 (allS (by omega) (allS (by omega) all0)))
                  have f878 := (Exa.keep FJ870_1 K876)
                  have f879 := (FJ870_2.keep K876 (own_nS (by omega) (own_nS (by omega) nin0)))
                  have f880 := (FJ870_3.keep K876 (own_nS (by omega) (own_nS (by omega) nin0)))
                  have f881 : Unt T876.heap a1 := (Unt.keep K876 (own_nS (by omega) (own_nS (by omega) nin0)) FJ870_4)
                  have f882 := (Exa.keep FJ870_5 K876)
                  have f883 := (FJ870_6.keep K876 (own_nS (by omega) (own_nS (by omega) nin0)))
                  have f884 := (FJ870_7.keep K876 (own_nS (by omega) (own_nS (by omega) nin0)))
                  have f885 := (FJ870_8.keep K876 (own_nS (by omega) (own_nS (by omega) nin0)))
                  have f886 : own_SB44 Z T876.heap n0 b860 (own_exp b0) (own_exp b1) (own_exp b2) (own_exp b3) := Or.inl ⟨va3, kv3, y3_0, y3_1, y3_2, (own_b8 ((b3 &&& (255 : Int32)).toUInt32.toUInt16.toUInt32.toInt32)), G876_0, G876_1', G876_2, G876_3, G876_4, G876_5, G876_6', by omega, pe3_0, pe3_1, pe3_2, ⟨own_P1 hc43, own_P3 hc43⟩⟩
                  exact J871 _ _ _ sl7 (X876.more (by decide) (by decide)) rfl N876 (by omega) KK876 f877 f878 f879 f880 f881 f882 f883 f884 f885 f886 hs_sl7
                · refine own_kY 58 XJ870 hx (hb hby d4_43) rfl (flt hc43).2.1 (by decide) (by decide) ?_
                  refine own_ru 65 [(.int ((b3 &&& (255 : Int32)) - (128 : Int32))), (.ref ix)] XJ870 hx hby e4_58_4 rfl rfl ?_
                  refine own_cV XJ870 hx hZ hown (wd179 hw) (wd180 hw) (notFace_of_selects (args := #[]) (mvT hZ (wd182 hw))) (wd182 hw) (wd181 hw) (by decide) (wd183 hw) (wd33 hw) (rm33 l Z a0 hw [] ix ((b3 &&& (255 : Int32)) - (128 : Int32)) ca kk vz hJ870 n0 (by omega) FJ870_6 FJ870_7 (own_jr hc43) hall) eJ870 FJ870_5 [(.int ((b3 &&& (255 : Int32)) - (128 : Int32)))] [] 68 0 (hb hby d4_65) rfl (by rw [hml]; rfl) rfl rfl (lenOf pd_11 rfl) rfl (by decide) fun v887 T887 Lc887 X887 hQ887 => ?_
                  obtain ⟨rfl, N887q, e887⟩ := hQ887
                  have N887 := Fr.app NJ870 N887q
                  refine own_sl 70 #[.val (.ref a1), .val (.ref bb), .val (.int (0 : Int32)), .val (.ref ix), .val (.ref b860), .val (.int (3 : Int32)), .val (.int (b3 &&& (255 : Int32))), .val (.int (-1 : Int32))] [] (fun t k => XS.istore X887.here hx rfl (hb hby d4_68) rfl (l' := #[.val (.ref a1), .val (.ref bb), .val (.int (0 : Int32)), .val (.ref ix), .val (.ref b860), .val (.int (3 : Int32)), .val (.int (b3 &&& (255 : Int32))), .val (.int (-1 : Int32))]) ((XS.store1 (o := sl7) rfl (hs_sl7) rfl).trans rfl) k) ?_
                  refine own_ru 75 [(.int (-1 : Int32)), (.int (-1 : Int32)), (.ref b860)] X887 hx hby e4_70_3 rfl rfl ?_
                  refine own_kN 78 X887 hx (hb hby d4_75) rfl (teq (by decide : ((-1 : Int32) = (-1 : Int32)))).2 rfl ?_
                  refine own_st 80 [(.int (65533 : Int32)), (.ref b860)] (X887.ldcInt hx hown (mvT hZ (wd184 hw)) (g := (mkF m 78 #[.val (.ref a1), .val (.ref bb), .val (.int (0 : Int32)), .val (.ref ix), .val (.ref b860), .val (.int (3 : Int32)), .val (.int (b3 &&& (255 : Int32))), .val (.int (-1 : Int32))] [(.ref b860)])) rfl (hb hby d4_78)) ?_
                  refine own_go 86 X887 hx (hb hby d4_80) (by decide) (by decide) ?_
                  refine own_cV X887 hx hZ hown (wd66 hw) (wd67 hw) (notFace_of_selects (args := #[]) (mvT hZ (wd69 hw))) (wd69 hw) (wd68 hw) (by decide) (wd70 hw) (wd49 hw) (rm11i l Z a0 hw [] G1 G2 b860 va3 kv3 (4 : Int32) (3 : Int32) ([y3_0, y3_1, y3_2] : List Int32) 4 hJ870 n0 (by omega) FJ870_0 A fs3_0 fs3_1 fs3_2 fs3_3 fs3_4 fs3_5 fs3_6 (by omega) (by decide) rfl rfl rfl (Nat.le_of_ble_eq_true rfl) (by decide) (by decide) (by decide) (by decide) (by decide) (by decide) (by decide) (by decide) (by decide) ⟨by decide, by decide⟩ ⟨by decide, by decide⟩ (Nat.le_of_ble_eq_true rfl) (Nat.le_of_ble_eq_true rfl) (by first | assumption | decide | omega)) e887 fs3_0 [(.int (65533 : Int32))] [] 89 0 (hb hby d4_86) rfl (by rw [hml]; rfl) rfl rfl (lenOf pd_26 rfl) rfl (by decide) fun v888 T888 Lc888 X888 hQ888 => ?_
                  obtain ⟨vb_888, kb_888, rfl, N888q, K888, G888_0, G888_1, G888_2, G888_3, G888_4, G888_5, G888_6, U888_0⟩ := hQ888
                  have N888 := Fr.app N887 N888q
                  have z888 := K888.1
                  have KK888 : Keep h0 T888.heap [] := KJ870.trans K888 (allS (Or.inr (by omega)) all0)
                  have lt888_0 : @LT.lt Nat _ b860 (Array.size T888.heap) := G888_0.lt
                  have G888_1' : fl8 Z T888.heap b860 (.int (4 : Int32)) := G888_1
                  have lt888_5 : @LT.lt Nat _ vb_888 (Array.size T888.heap) := G888_5.lt
                  have G888_6' : Arv Z T888.heap vb_888 kb_888 .byte (8 : Int32) [(.int (own_e0 (y3_0 &&& (255 : Int32)))), (.int (own_e1 (y3_0 &&& (255 : Int32)))), (.int (own_e0 (y3_1 &&& (255 : Int32)))), (.int (own_e1 (y3_1 &&& (255 : Int32)))), (.int (own_e0 (y3_2 &&& (255 : Int32)))), (.int (own_e1 (y3_2 &&& (255 : Int32)))), (.int (own_e0 (65533 : Int32))), (.int (own_e1 (65533 : Int32)))] (.int (0 : Int32)) := G888_6
                  refine own_rl 93 #[.val (.ref a1), .val (.ref bb), .val (.int (0 : Int32)), .val (.ref ix), .val (.ref b860), .val (.int (4 : Int32)), .val (.int (b3 &&& (255 : Int32))), .val (.int (-1 : Int32))] [] X888 hx hby e4_89_2 rfl rfl ?_
                  refine own_go 21 X888 hx (hb hby d4_93) (by decide) (by decide) ?_
                  have f889 := (FJ870_0.keep K888 (allS (by omega) all0))
                  have f890 := (Exa.keep FJ870_1 K888)
                  have f891 := (FJ870_2.keep K888 (own_nS (by omega) nin0))
                  have f892 := (FJ870_3.keep K888 (own_nS (by omega) nin0))
                  have f893 : Unt T888.heap a1 := (Unt.keep K888 (own_nS (by omega) nin0) FJ870_4)
                  have f894 := (Exa.keep FJ870_5 K888)
                  have f895 := (FJ870_6.keep K888 (own_nS (by omega) nin0))
                  have f896 := (FJ870_7.keep K888 (own_nS (by omega) nin0))
                  have f897 := (FJ870_8.keep K888 (own_nS (by omega) nin0))
                  have f898 : own_SB44 Z T888.heap n0 b860 (own_exp b0) (own_exp b1) (own_exp b2) (own_exp b3) := Or.inr ⟨vb_888, kb_888, (own_e0 (y3_0 &&& (255 : Int32))), (own_e0 (y3_1 &&& (255 : Int32))), (own_e0 (y3_2 &&& (255 : Int32))), (own_e0 (65533 : Int32)), (own_e1 (y3_0 &&& (255 : Int32))), (own_e1 (y3_1 &&& (255 : Int32))), (own_e1 (y3_2 &&& (255 : Int32))), (own_e1 (65533 : Int32)), G888_0, G888_1', G888_2, G888_3, G888_4, G888_5, G888_6', by omega, pe3_0.2, pe3_1.2, pe3_2.2, own_P4 hc43⟩
                  exact J871 _ _ _ (.val (.int (-1 : Int32))) (X888.more (by decide) (by decide)) rfl N888 (by omega) KK888 f889 f890 f891 f892 f893 f894 f895 f896 f897 f898 (Or.inr ⟨_, rfl, rfl⟩)
              · have ltv3 : @LT.lt Nat _ va3 (Array.size hJ870) := fs3_6.lt
                have lts3 : @LT.lt Nat _ b860 (Array.size hJ870) := fs3_0.lt
                refine own_ru 24 [(.ref bb), (.int (3 : Int32))] XJ870 hx hby e4_21_2 rfl rfl ?_
                refine own_aL XJ870 hx hZ eJ870 FJ870_8 25 rfl (hb hby d4_24) rfl ?_
                refine own_kN 28 XJ870 hx (hb hby d4_25) rfl (tlt (by decide : ((3 : Int32) < (4 : Int32)))).2.1 rfl ?_
                refine own_ru 31 [(.int (3 : Int32)), (.ref bb)] XJ870 hx hby e4_28_2 rfl rfl ?_
                refine own_bL XJ870 hx hZ eJ870 FJ870_8 (x := b3) 32 rfl (hb hby d4_31) rfl ⟨by decide, by decide⟩ rfl ?_
                refine own_rl 43 #[.val (.ref a1), .val (.ref bb), .val (.int (0 : Int32)), .val (.ref ix), .val (.ref b860), .val (.int (3 : Int32)), .val (.int (b3 &&& (255 : Int32))), sl7] [(.int (128 : Int32)), (.int (b3 &&& (255 : Int32)))] XJ870 hx hby e4_32_5 rfl rfl ?_
                by_cases hc43 : (b3 &&& (255 : Int32)) < (128 : Int32)
                · refine own_kN 46 XJ870 hx (hb hby d4_43) rfl (tlt hc43).2.1 rfl ?_
                  refine own_ru 51 [(.int ((b3 &&& (255 : Int32)).toUInt32.toUInt16.toUInt32.toInt32)), (.ref b860)] XJ870 hx hby e4_46_3 rfl rfl ?_
                  refine own_cV XJ870 hx hZ hown (wd66 hw) (wd67 hw) (notFace_of_selects (args := #[]) (mvT hZ (wd69 hw))) (wd69 hw) (wd68 hw) (by decide) (wd70 hw) (wd49 hw) (rm11u l Z a0 hw [] G1 G2 b860 ((b3 &&& (255 : Int32)).toUInt32.toUInt16.toUInt32.toInt32) (3 : Int32) va3 kv3 (8 : Int32) [(.int y3_0), (.int z3_0), (.int y3_1), (.int z3_1), (.int y3_2), (.int z3_2), (.int (0 : Int32)), (.int (0 : Int32))] hJ870 n0 (by omega) FJ870_0 A fs3_0 fs3_1 fs3_2 fs3_3 fs3_4 fs3_5 fs3_6 (by omega) (by omega) (by decide) (by decide) (by decide) ⟨by decide, by decide⟩ ⟨by decide, by decide⟩ (Nat.le_of_ble_eq_true rfl) (Nat.le_of_ble_eq_true rfl) (by first | assumption | decide | omega)) eJ870 fs3_0 [(.int ((b3 &&& (255 : Int32)).toUInt32.toUInt16.toUInt32.toInt32))] [] 54 0 (hb hby d4_51) rfl (by rw [hml]; rfl) rfl rfl (lenOf pd_26 rfl) rfl (by decide) fun v899 T899 Lc899 X899 hQ899 => ?_
                  obtain ⟨rfl, N899q, K899, G899_0, G899_1, G899_2, G899_3, G899_4, G899_5, G899_6⟩ := hQ899
                  have N899 := Fr.app NJ870 N899q
                  have z899 := K899.1
                  have KK899 : Keep h0 T899.heap [] := KJ870.trans K899 (allS (Or.inr (by omega)) (allS (Or.inr (by omega)) all0))
                  have lt899_0 : @LT.lt Nat _ b860 (Array.size T899.heap) := G899_0.lt
                  have G899_1' : fl8 Z T899.heap b860 (.int (4 : Int32)) := G899_1
                  have lt899_5 : @LT.lt Nat _ va3 (Array.size T899.heap) := G899_5.lt
                  have G899_6' : Arv Z T899.heap va3 kv3 .byte (8 : Int32) [(.int y3_0), (.int z3_0), (.int y3_1), (.int z3_1), (.int y3_2), (.int z3_2), (.int (own_e0 ((b3 &&& (255 : Int32)).toUInt32.toUInt16.toUInt32.toInt32))), (.int (own_e1 ((b3 &&& (255 : Int32)).toUInt32.toUInt16.toUInt32.toInt32)))] (.int (0 : Int32)) := G899_6
                  refine own_ru 55 [] X899 hx hby e4_54_1 rfl rfl ?_
                  refine own_go 90 X899 hx (hb hby d4_55) (by decide) (by decide) ?_
                  refine own_rl 93 #[.val (.ref a1), .val (.ref bb), .val (.int (0 : Int32)), .val (.ref ix), .val (.ref b860), .val (.int (4 : Int32)), .val (.int (b3 &&& (255 : Int32))), sl7] [] X899 hx hby e4_90_1 rfl rfl ?_
                  refine own_go 21 X899 hx (hb hby d4_93) (by decide) (by decide) ?_
                  have f900 := (FJ870_0.keep K899 (allS (by omega) (allS (by omega) all0)))
                  have f901 := (Exa.keep FJ870_1 K899)
                  have f902 := (FJ870_2.keep K899 (own_nS (by omega) (own_nS (by omega) nin0)))
                  have f903 := (FJ870_3.keep K899 (own_nS (by omega) (own_nS (by omega) nin0)))
                  have f904 : Unt T899.heap a1 := (Unt.keep K899 (own_nS (by omega) (own_nS (by omega) nin0)) FJ870_4)
                  have f905 := (Exa.keep FJ870_5 K899)
                  have f906 := (FJ870_6.keep K899 (own_nS (by omega) (own_nS (by omega) nin0)))
                  have f907 := (FJ870_7.keep K899 (own_nS (by omega) (own_nS (by omega) nin0)))
                  have f908 := (FJ870_8.keep K899 (own_nS (by omega) (own_nS (by omega) nin0)))
                  have f909 : own_SB44 Z T899.heap n0 b860 (own_exp b0) (own_exp b1) (own_exp b2) (own_exp b3) := Or.inr ⟨va3, kv3, y3_0, y3_1, y3_2, (own_e0 ((b3 &&& (255 : Int32)).toUInt32.toUInt16.toUInt32.toInt32)), z3_0, z3_1, z3_2, (own_e1 ((b3 &&& (255 : Int32)).toUInt32.toUInt16.toUInt32.toInt32)), G899_0, G899_1', G899_2, G899_3, G899_4, G899_5, G899_6', by omega, pe3_0, pe3_1, pe3_2, own_P2 hc43⟩
                  exact J871 _ _ _ sl7 (X899.more (by decide) (by decide)) rfl N899 (by omega) KK899 f900 f901 f902 f903 f904 f905 f906 f907 f908 f909 hs_sl7
                · refine own_kY 58 XJ870 hx (hb hby d4_43) rfl (flt hc43).2.1 (by decide) (by decide) ?_
                  refine own_ru 65 [(.int ((b3 &&& (255 : Int32)) - (128 : Int32))), (.ref ix)] XJ870 hx hby e4_58_4 rfl rfl ?_
                  refine own_cV XJ870 hx hZ hown (wd179 hw) (wd180 hw) (notFace_of_selects (args := #[]) (mvT hZ (wd182 hw))) (wd182 hw) (wd181 hw) (by decide) (wd183 hw) (wd33 hw) (rm33 l Z a0 hw [] ix ((b3 &&& (255 : Int32)) - (128 : Int32)) ca kk vz hJ870 n0 (by omega) FJ870_6 FJ870_7 (own_jr hc43) hall) eJ870 FJ870_5 [(.int ((b3 &&& (255 : Int32)) - (128 : Int32)))] [] 68 0 (hb hby d4_65) rfl (by rw [hml]; rfl) rfl rfl (lenOf pd_11 rfl) rfl (by decide) fun v910 T910 Lc910 X910 hQ910 => ?_
                  obtain ⟨rfl, N910q, e910⟩ := hQ910
                  have N910 := Fr.app NJ870 N910q
                  refine own_sl 70 #[.val (.ref a1), .val (.ref bb), .val (.int (0 : Int32)), .val (.ref ix), .val (.ref b860), .val (.int (3 : Int32)), .val (.int (b3 &&& (255 : Int32))), .val (.int (-1 : Int32))] [] (fun t k => XS.istore X910.here hx rfl (hb hby d4_68) rfl (l' := #[.val (.ref a1), .val (.ref bb), .val (.int (0 : Int32)), .val (.ref ix), .val (.ref b860), .val (.int (3 : Int32)), .val (.int (b3 &&& (255 : Int32))), .val (.int (-1 : Int32))]) ((XS.store1 (o := sl7) rfl (hs_sl7) rfl).trans rfl) k) ?_
                  refine own_ru 75 [(.int (-1 : Int32)), (.int (-1 : Int32)), (.ref b860)] X910 hx hby e4_70_3 rfl rfl ?_
                  refine own_kN 78 X910 hx (hb hby d4_75) rfl (teq (by decide : ((-1 : Int32) = (-1 : Int32)))).2 rfl ?_
                  refine own_st 80 [(.int (65533 : Int32)), (.ref b860)] (X910.ldcInt hx hown (mvT hZ (wd184 hw)) (g := (mkF m 78 #[.val (.ref a1), .val (.ref bb), .val (.int (0 : Int32)), .val (.ref ix), .val (.ref b860), .val (.int (3 : Int32)), .val (.int (b3 &&& (255 : Int32))), .val (.int (-1 : Int32))] [(.ref b860)])) rfl (hb hby d4_78)) ?_
                  refine own_go 86 X910 hx (hb hby d4_80) (by decide) (by decide) ?_
                  refine own_cV X910 hx hZ hown (wd66 hw) (wd67 hw) (notFace_of_selects (args := #[]) (mvT hZ (wd69 hw))) (wd69 hw) (wd68 hw) (by decide) (wd70 hw) (wd49 hw) (rm11u l Z a0 hw [] G1 G2 b860 (65533 : Int32) (3 : Int32) va3 kv3 (8 : Int32) [(.int y3_0), (.int z3_0), (.int y3_1), (.int z3_1), (.int y3_2), (.int z3_2), (.int (0 : Int32)), (.int (0 : Int32))] hJ870 n0 (by omega) FJ870_0 A fs3_0 fs3_1 fs3_2 fs3_3 fs3_4 fs3_5 fs3_6 (by omega) (by omega) (by decide) (by decide) (by decide) ⟨by decide, by decide⟩ ⟨by decide, by decide⟩ (Nat.le_of_ble_eq_true rfl) (Nat.le_of_ble_eq_true rfl) (by first | assumption | decide | omega)) e910 fs3_0 [(.int (65533 : Int32))] [] 89 0 (hb hby d4_86) rfl (by rw [hml]; rfl) rfl rfl (lenOf pd_26 rfl) rfl (by decide) fun v911 T911 Lc911 X911 hQ911 => ?_
                  obtain ⟨rfl, N911q, K911, G911_0, G911_1, G911_2, G911_3, G911_4, G911_5, G911_6⟩ := hQ911
                  have N911 := Fr.app N910 N911q
                  have z911 := K911.1
                  have KK911 : Keep h0 T911.heap [] := KJ870.trans K911 (allS (Or.inr (by omega)) (allS (Or.inr (by omega)) all0))
                  have lt911_0 : @LT.lt Nat _ b860 (Array.size T911.heap) := G911_0.lt
                  have G911_1' : fl8 Z T911.heap b860 (.int (4 : Int32)) := G911_1
                  have lt911_5 : @LT.lt Nat _ va3 (Array.size T911.heap) := G911_5.lt
                  have G911_6' : Arv Z T911.heap va3 kv3 .byte (8 : Int32) [(.int y3_0), (.int z3_0), (.int y3_1), (.int z3_1), (.int y3_2), (.int z3_2), (.int (own_e0 (65533 : Int32))), (.int (own_e1 (65533 : Int32)))] (.int (0 : Int32)) := G911_6
                  refine own_rl 93 #[.val (.ref a1), .val (.ref bb), .val (.int (0 : Int32)), .val (.ref ix), .val (.ref b860), .val (.int (4 : Int32)), .val (.int (b3 &&& (255 : Int32))), .val (.int (-1 : Int32))] [] X911 hx hby e4_89_2 rfl rfl ?_
                  refine own_go 21 X911 hx (hb hby d4_93) (by decide) (by decide) ?_
                  have f912 := (FJ870_0.keep K911 (allS (by omega) (allS (by omega) all0)))
                  have f913 := (Exa.keep FJ870_1 K911)
                  have f914 := (FJ870_2.keep K911 (own_nS (by omega) (own_nS (by omega) nin0)))
                  have f915 := (FJ870_3.keep K911 (own_nS (by omega) (own_nS (by omega) nin0)))
                  have f916 : Unt T911.heap a1 := (Unt.keep K911 (own_nS (by omega) (own_nS (by omega) nin0)) FJ870_4)
                  have f917 := (Exa.keep FJ870_5 K911)
                  have f918 := (FJ870_6.keep K911 (own_nS (by omega) (own_nS (by omega) nin0)))
                  have f919 := (FJ870_7.keep K911 (own_nS (by omega) (own_nS (by omega) nin0)))
                  have f920 := (FJ870_8.keep K911 (own_nS (by omega) (own_nS (by omega) nin0)))
                  have f921 : own_SB44 Z T911.heap n0 b860 (own_exp b0) (own_exp b1) (own_exp b2) (own_exp b3) := Or.inr ⟨va3, kv3, y3_0, y3_1, y3_2, (own_e0 (65533 : Int32)), z3_0, z3_1, z3_2, (own_e1 (65533 : Int32)), G911_0, G911_1', G911_2, G911_3, G911_4, G911_5, G911_6', by omega, pe3_0, pe3_1, pe3_2, own_P4 hc43⟩
                  exact J871 _ _ _ (.val (.int (-1 : Int32))) (X911.more (by decide) (by decide)) rfl N911 (by omega) KK911 f912 f913 f914 f915 f916 f917 f918 f919 f920 f921 (Or.inr ⟨_, rfl, rfl⟩)
          rcases FJ869_9 with ⟨va2, kv2, y2_0, y2_1, fs2_0, fs2_1, fs2_2, fs2_3, fs2_4, fs2_5, fs2_6, og2, pe2_0, pe2_1⟩ | ⟨va2, kv2, y2_0, y2_1, z2_0, z2_1, fs2_0, fs2_1, fs2_2, fs2_3, fs2_4, fs2_5, fs2_6, og2, pe2_0, pe2_1⟩
          · have ltv2 : @LT.lt Nat _ va2 (Array.size hJ869) := fs2_6.lt
            have lts2 : @LT.lt Nat _ b860 (Array.size hJ869) := fs2_0.lt
            refine own_ru 24 [(.ref bb), (.int (2 : Int32))] XJ869 hx hby e4_21_2 rfl rfl ?_
            refine own_aL XJ869 hx hZ eJ869 FJ869_8 25 rfl (hb hby d4_24) rfl ?_
            refine own_kN 28 XJ869 hx (hb hby d4_25) rfl (tlt (by decide : ((2 : Int32) < (4 : Int32)))).2.1 rfl ?_
            refine own_ru 31 [(.int (2 : Int32)), (.ref bb)] XJ869 hx hby e4_28_2 rfl rfl ?_
            refine own_bL XJ869 hx hZ eJ869 FJ869_8 (x := b2) 32 rfl (hb hby d4_31) rfl ⟨by decide, by decide⟩ rfl ?_
            refine own_rl 43 #[.val (.ref a1), .val (.ref bb), .val (.int (0 : Int32)), .val (.ref ix), .val (.ref b860), .val (.int (2 : Int32)), .val (.int (b2 &&& (255 : Int32))), sl7] [(.int (128 : Int32)), (.int (b2 &&& (255 : Int32)))] XJ869 hx hby e4_32_5 rfl rfl ?_
            by_cases hc43 : (b2 &&& (255 : Int32)) < (128 : Int32)
            · refine own_kN 46 XJ869 hx (hb hby d4_43) rfl (tlt hc43).2.1 rfl ?_
              refine own_ru 51 [(.int ((b2 &&& (255 : Int32)).toUInt32.toUInt16.toUInt32.toInt32)), (.ref b860)] XJ869 hx hby e4_46_3 rfl rfl ?_
              refine own_cV XJ869 hx hZ hown (wd66 hw) (wd67 hw) (notFace_of_selects (args := #[]) (mvT hZ (wd69 hw))) (wd69 hw) (wd68 hw) (by decide) (wd70 hw) (wd49 hw) (rm11a l Z a0 hw [] G1 G2 b860 ((b2 &&& (255 : Int32)).toUInt32.toUInt16.toUInt32.toInt32) (2 : Int32) va2 kv2 (4 : Int32) [(.int y2_0), (.int y2_1), (.int (0 : Int32)), (.int (0 : Int32))] hJ869 n0 (by omega) FJ869_0 A fs2_0 fs2_1 fs2_2 fs2_3 fs2_4 fs2_5 fs2_6 (by omega) (by omega) (own_q255 hc43) (by decide) ⟨by decide, by decide⟩ (Nat.le_of_ble_eq_true rfl) (by first | assumption | decide | omega)) eJ869 fs2_0 [(.int ((b2 &&& (255 : Int32)).toUInt32.toUInt16.toUInt32.toInt32))] [] 54 0 (hb hby d4_51) rfl (by rw [hml]; rfl) rfl rfl (lenOf pd_26 rfl) rfl (by decide) fun v922 T922 Lc922 X922 hQ922 => ?_
              obtain ⟨rfl, N922q, K922, G922_0, G922_1, G922_2, G922_3, G922_4, G922_5, G922_6⟩ := hQ922
              have N922 := Fr.app NJ869 N922q
              have z922 := K922.1
              have KK922 : Keep h0 T922.heap [] := KJ869.trans K922 (allS (Or.inr (by omega)) (allS (Or.inr (by omega)) all0))
              have lt922_0 : @LT.lt Nat _ b860 (Array.size T922.heap) := G922_0.lt
              have G922_1' : fl8 Z T922.heap b860 (.int (3 : Int32)) := G922_1
              have lt922_5 : @LT.lt Nat _ va2 (Array.size T922.heap) := G922_5.lt
              have G922_6' : Arv Z T922.heap va2 kv2 .byte (4 : Int32) [(.int y2_0), (.int y2_1), (.int (own_b8 ((b2 &&& (255 : Int32)).toUInt32.toUInt16.toUInt32.toInt32))), (.int (0 : Int32))] (.int (0 : Int32)) := G922_6
              refine own_ru 55 [] X922 hx hby e4_54_1 rfl rfl ?_
              refine own_go 90 X922 hx (hb hby d4_55) (by decide) (by decide) ?_
              refine own_rl 93 #[.val (.ref a1), .val (.ref bb), .val (.int (0 : Int32)), .val (.ref ix), .val (.ref b860), .val (.int (3 : Int32)), .val (.int (b2 &&& (255 : Int32))), sl7] [] X922 hx hby e4_90_1 rfl rfl ?_
              refine own_go 21 X922 hx (hb hby d4_93) (by decide) (by decide) ?_
              have f923 := (FJ869_0.keep K922 (allS (by omega) (allS (by omega) all0)))
              have f924 := (Exa.keep FJ869_1 K922)
              have f925 := (FJ869_2.keep K922 (own_nS (by omega) (own_nS (by omega) nin0)))
              have f926 := (FJ869_3.keep K922 (own_nS (by omega) (own_nS (by omega) nin0)))
              have f927 : Unt T922.heap a1 := (Unt.keep K922 (own_nS (by omega) (own_nS (by omega) nin0)) FJ869_4)
              have f928 := (Exa.keep FJ869_5 K922)
              have f929 := (FJ869_6.keep K922 (own_nS (by omega) (own_nS (by omega) nin0)))
              have f930 := (FJ869_7.keep K922 (own_nS (by omega) (own_nS (by omega) nin0)))
              have f931 := (FJ869_8.keep K922 (own_nS (by omega) (own_nS (by omega) nin0)))
              have f932 : own_SB43 Z T922.heap n0 b860 (own_exp b0) (own_exp b1) (own_exp b2) := Or.inl ⟨va2, kv2, y2_0, y2_1, (own_b8 ((b2 &&& (255 : Int32)).toUInt32.toUInt16.toUInt32.toInt32)), G922_0, G922_1', G922_2, G922_3, G922_4, G922_5, G922_6', by omega, pe2_0, pe2_1, ⟨own_P1 hc43, own_P3 hc43⟩⟩
              exact J870 _ _ _ sl7 (X922.more (by decide) (by decide)) rfl N922 (by omega) KK922 f923 f924 f925 f926 f927 f928 f929 f930 f931 f932 hs_sl7
            · refine own_kY 58 XJ869 hx (hb hby d4_43) rfl (flt hc43).2.1 (by decide) (by decide) ?_
              refine own_ru 65 [(.int ((b2 &&& (255 : Int32)) - (128 : Int32))), (.ref ix)] XJ869 hx hby e4_58_4 rfl rfl ?_
              refine own_cV XJ869 hx hZ hown (wd179 hw) (wd180 hw) (notFace_of_selects (args := #[]) (mvT hZ (wd182 hw))) (wd182 hw) (wd181 hw) (by decide) (wd183 hw) (wd33 hw) (rm33 l Z a0 hw [] ix ((b2 &&& (255 : Int32)) - (128 : Int32)) ca kk vz hJ869 n0 (by omega) FJ869_6 FJ869_7 (own_jr hc43) hall) eJ869 FJ869_5 [(.int ((b2 &&& (255 : Int32)) - (128 : Int32)))] [] 68 0 (hb hby d4_65) rfl (by rw [hml]; rfl) rfl rfl (lenOf pd_11 rfl) rfl (by decide) fun v933 T933 Lc933 X933 hQ933 => ?_
              obtain ⟨rfl, N933q, e933⟩ := hQ933
              have N933 := Fr.app NJ869 N933q
              refine own_sl 70 #[.val (.ref a1), .val (.ref bb), .val (.int (0 : Int32)), .val (.ref ix), .val (.ref b860), .val (.int (2 : Int32)), .val (.int (b2 &&& (255 : Int32))), .val (.int (-1 : Int32))] [] (fun t k => XS.istore X933.here hx rfl (hb hby d4_68) rfl (l' := #[.val (.ref a1), .val (.ref bb), .val (.int (0 : Int32)), .val (.ref ix), .val (.ref b860), .val (.int (2 : Int32)), .val (.int (b2 &&& (255 : Int32))), .val (.int (-1 : Int32))]) ((XS.store1 (o := sl7) rfl (hs_sl7) rfl).trans rfl) k) ?_
              refine own_ru 75 [(.int (-1 : Int32)), (.int (-1 : Int32)), (.ref b860)] X933 hx hby e4_70_3 rfl rfl ?_
              refine own_kN 78 X933 hx (hb hby d4_75) rfl (teq (by decide : ((-1 : Int32) = (-1 : Int32)))).2 rfl ?_
              refine own_st 80 [(.int (65533 : Int32)), (.ref b860)] (X933.ldcInt hx hown (mvT hZ (wd184 hw)) (g := (mkF m 78 #[.val (.ref a1), .val (.ref bb), .val (.int (0 : Int32)), .val (.ref ix), .val (.ref b860), .val (.int (2 : Int32)), .val (.int (b2 &&& (255 : Int32))), .val (.int (-1 : Int32))] [(.ref b860)])) rfl (hb hby d4_78)) ?_
              refine own_go 86 X933 hx (hb hby d4_80) (by decide) (by decide) ?_
              refine own_cV X933 hx hZ hown (wd66 hw) (wd67 hw) (notFace_of_selects (args := #[]) (mvT hZ (wd69 hw))) (wd69 hw) (wd68 hw) (by decide) (wd70 hw) (wd49 hw) (rm11i l Z a0 hw [] G1 G2 b860 va2 kv2 (4 : Int32) (2 : Int32) ([y2_0, y2_1] : List Int32) 4 hJ869 n0 (by omega) FJ869_0 A fs2_0 fs2_1 fs2_2 fs2_3 fs2_4 fs2_5 fs2_6 (by omega) (by decide) rfl rfl rfl (Nat.le_of_ble_eq_true rfl) (by decide) (by decide) (by decide) (by decide) (by decide) (by decide) (by decide) (by decide) (by decide) ⟨by decide, by decide⟩ ⟨by decide, by decide⟩ (Nat.le_of_ble_eq_true rfl) (Nat.le_of_ble_eq_true rfl) (by first | assumption | decide | omega)) e933 fs2_0 [(.int (65533 : Int32))] [] 89 0 (hb hby d4_86) rfl (by rw [hml]; rfl) rfl rfl (lenOf pd_26 rfl) rfl (by decide) fun v934 T934 Lc934 X934 hQ934 => ?_
              obtain ⟨vb_934, kb_934, rfl, N934q, K934, G934_0, G934_1, G934_2, G934_3, G934_4, G934_5, G934_6, U934_0⟩ := hQ934
              have N934 := Fr.app N933 N934q
              have z934 := K934.1
              have KK934 : Keep h0 T934.heap [] := KJ869.trans K934 (allS (Or.inr (by omega)) all0)
              have lt934_0 : @LT.lt Nat _ b860 (Array.size T934.heap) := G934_0.lt
              have G934_1' : fl8 Z T934.heap b860 (.int (3 : Int32)) := G934_1
              have lt934_5 : @LT.lt Nat _ vb_934 (Array.size T934.heap) := G934_5.lt
              have G934_6' : Arv Z T934.heap vb_934 kb_934 .byte (8 : Int32) [(.int (own_e0 (y2_0 &&& (255 : Int32)))), (.int (own_e1 (y2_0 &&& (255 : Int32)))), (.int (own_e0 (y2_1 &&& (255 : Int32)))), (.int (own_e1 (y2_1 &&& (255 : Int32)))), (.int (own_e0 (65533 : Int32))), (.int (own_e1 (65533 : Int32))), (.int (0 : Int32)), (.int (0 : Int32))] (.int (0 : Int32)) := G934_6
              refine own_rl 93 #[.val (.ref a1), .val (.ref bb), .val (.int (0 : Int32)), .val (.ref ix), .val (.ref b860), .val (.int (3 : Int32)), .val (.int (b2 &&& (255 : Int32))), .val (.int (-1 : Int32))] [] X934 hx hby e4_89_2 rfl rfl ?_
              refine own_go 21 X934 hx (hb hby d4_93) (by decide) (by decide) ?_
              have f935 := (FJ869_0.keep K934 (allS (by omega) all0))
              have f936 := (Exa.keep FJ869_1 K934)
              have f937 := (FJ869_2.keep K934 (own_nS (by omega) nin0))
              have f938 := (FJ869_3.keep K934 (own_nS (by omega) nin0))
              have f939 : Unt T934.heap a1 := (Unt.keep K934 (own_nS (by omega) nin0) FJ869_4)
              have f940 := (Exa.keep FJ869_5 K934)
              have f941 := (FJ869_6.keep K934 (own_nS (by omega) nin0))
              have f942 := (FJ869_7.keep K934 (own_nS (by omega) nin0))
              have f943 := (FJ869_8.keep K934 (own_nS (by omega) nin0))
              have f944 : own_SB43 Z T934.heap n0 b860 (own_exp b0) (own_exp b1) (own_exp b2) := Or.inr ⟨vb_934, kb_934, (own_e0 (y2_0 &&& (255 : Int32))), (own_e0 (y2_1 &&& (255 : Int32))), (own_e0 (65533 : Int32)), (own_e1 (y2_0 &&& (255 : Int32))), (own_e1 (y2_1 &&& (255 : Int32))), (own_e1 (65533 : Int32)), G934_0, G934_1', G934_2, G934_3, G934_4, G934_5, G934_6', by omega, pe2_0.2, pe2_1.2, own_P4 hc43⟩
              exact J870 _ _ _ (.val (.int (-1 : Int32))) (X934.more (by decide) (by decide)) rfl N934 (by omega) KK934 f935 f936 f937 f938 f939 f940 f941 f942 f943 f944 (Or.inr ⟨_, rfl, rfl⟩)
          · have ltv2 : @LT.lt Nat _ va2 (Array.size hJ869) := fs2_6.lt
            have lts2 : @LT.lt Nat _ b860 (Array.size hJ869) := fs2_0.lt
            refine own_ru 24 [(.ref bb), (.int (2 : Int32))] XJ869 hx hby e4_21_2 rfl rfl ?_
            refine own_aL XJ869 hx hZ eJ869 FJ869_8 25 rfl (hb hby d4_24) rfl ?_
            refine own_kN 28 XJ869 hx (hb hby d4_25) rfl (tlt (by decide : ((2 : Int32) < (4 : Int32)))).2.1 rfl ?_
            refine own_ru 31 [(.int (2 : Int32)), (.ref bb)] XJ869 hx hby e4_28_2 rfl rfl ?_
            refine own_bL XJ869 hx hZ eJ869 FJ869_8 (x := b2) 32 rfl (hb hby d4_31) rfl ⟨by decide, by decide⟩ rfl ?_
            refine own_rl 43 #[.val (.ref a1), .val (.ref bb), .val (.int (0 : Int32)), .val (.ref ix), .val (.ref b860), .val (.int (2 : Int32)), .val (.int (b2 &&& (255 : Int32))), sl7] [(.int (128 : Int32)), (.int (b2 &&& (255 : Int32)))] XJ869 hx hby e4_32_5 rfl rfl ?_
            by_cases hc43 : (b2 &&& (255 : Int32)) < (128 : Int32)
            · refine own_kN 46 XJ869 hx (hb hby d4_43) rfl (tlt hc43).2.1 rfl ?_
              refine own_ru 51 [(.int ((b2 &&& (255 : Int32)).toUInt32.toUInt16.toUInt32.toInt32)), (.ref b860)] XJ869 hx hby e4_46_3 rfl rfl ?_
              refine own_cV XJ869 hx hZ hown (wd66 hw) (wd67 hw) (notFace_of_selects (args := #[]) (mvT hZ (wd69 hw))) (wd69 hw) (wd68 hw) (by decide) (wd70 hw) (wd49 hw) (rm11u l Z a0 hw [] G1 G2 b860 ((b2 &&& (255 : Int32)).toUInt32.toUInt16.toUInt32.toInt32) (2 : Int32) va2 kv2 (8 : Int32) [(.int y2_0), (.int z2_0), (.int y2_1), (.int z2_1), (.int (0 : Int32)), (.int (0 : Int32)), (.int (0 : Int32)), (.int (0 : Int32))] hJ869 n0 (by omega) FJ869_0 A fs2_0 fs2_1 fs2_2 fs2_3 fs2_4 fs2_5 fs2_6 (by omega) (by omega) (by decide) (by decide) (by decide) ⟨by decide, by decide⟩ ⟨by decide, by decide⟩ (Nat.le_of_ble_eq_true rfl) (Nat.le_of_ble_eq_true rfl) (by first | assumption | decide | omega)) eJ869 fs2_0 [(.int ((b2 &&& (255 : Int32)).toUInt32.toUInt16.toUInt32.toInt32))] [] 54 0 (hb hby d4_51) rfl (by rw [hml]; rfl) rfl rfl (lenOf pd_26 rfl) rfl (by decide) fun v945 T945 Lc945 X945 hQ945 => ?_
              obtain ⟨rfl, N945q, K945, G945_0, G945_1, G945_2, G945_3, G945_4, G945_5, G945_6⟩ := hQ945
              have N945 := Fr.app NJ869 N945q
              have z945 := K945.1
              have KK945 : Keep h0 T945.heap [] := KJ869.trans K945 (allS (Or.inr (by omega)) (allS (Or.inr (by omega)) all0))
              have lt945_0 : @LT.lt Nat _ b860 (Array.size T945.heap) := G945_0.lt
              have G945_1' : fl8 Z T945.heap b860 (.int (3 : Int32)) := G945_1
              have lt945_5 : @LT.lt Nat _ va2 (Array.size T945.heap) := G945_5.lt
              have G945_6' : Arv Z T945.heap va2 kv2 .byte (8 : Int32) [(.int y2_0), (.int z2_0), (.int y2_1), (.int z2_1), (.int (own_e0 ((b2 &&& (255 : Int32)).toUInt32.toUInt16.toUInt32.toInt32))), (.int (own_e1 ((b2 &&& (255 : Int32)).toUInt32.toUInt16.toUInt32.toInt32))), (.int (0 : Int32)), (.int (0 : Int32))] (.int (0 : Int32)) := G945_6
              refine own_ru 55 [] X945 hx hby e4_54_1 rfl rfl ?_
              refine own_go 90 X945 hx (hb hby d4_55) (by decide) (by decide) ?_
              refine own_rl 93 #[.val (.ref a1), .val (.ref bb), .val (.int (0 : Int32)), .val (.ref ix), .val (.ref b860), .val (.int (3 : Int32)), .val (.int (b2 &&& (255 : Int32))), sl7] [] X945 hx hby e4_90_1 rfl rfl ?_
              refine own_go 21 X945 hx (hb hby d4_93) (by decide) (by decide) ?_
              have f946 := (FJ869_0.keep K945 (allS (by omega) (allS (by omega) all0)))
              have f947 := (Exa.keep FJ869_1 K945)
              have f948 := (FJ869_2.keep K945 (own_nS (by omega) (own_nS (by omega) nin0)))
              have f949 := (FJ869_3.keep K945 (own_nS (by omega) (own_nS (by omega) nin0)))
              have f950 : Unt T945.heap a1 := (Unt.keep K945 (own_nS (by omega) (own_nS (by omega) nin0)) FJ869_4)
              have f951 := (Exa.keep FJ869_5 K945)
              have f952 := (FJ869_6.keep K945 (own_nS (by omega) (own_nS (by omega) nin0)))
              have f953 := (FJ869_7.keep K945 (own_nS (by omega) (own_nS (by omega) nin0)))
              have f954 := (FJ869_8.keep K945 (own_nS (by omega) (own_nS (by omega) nin0)))
              have f955 : own_SB43 Z T945.heap n0 b860 (own_exp b0) (own_exp b1) (own_exp b2) := Or.inr ⟨va2, kv2, y2_0, y2_1, (own_e0 ((b2 &&& (255 : Int32)).toUInt32.toUInt16.toUInt32.toInt32)), z2_0, z2_1, (own_e1 ((b2 &&& (255 : Int32)).toUInt32.toUInt16.toUInt32.toInt32)), G945_0, G945_1', G945_2, G945_3, G945_4, G945_5, G945_6', by omega, pe2_0, pe2_1, own_P2 hc43⟩
              exact J870 _ _ _ sl7 (X945.more (by decide) (by decide)) rfl N945 (by omega) KK945 f946 f947 f948 f949 f950 f951 f952 f953 f954 f955 hs_sl7
            · refine own_kY 58 XJ869 hx (hb hby d4_43) rfl (flt hc43).2.1 (by decide) (by decide) ?_
              refine own_ru 65 [(.int ((b2 &&& (255 : Int32)) - (128 : Int32))), (.ref ix)] XJ869 hx hby e4_58_4 rfl rfl ?_
              refine own_cV XJ869 hx hZ hown (wd179 hw) (wd180 hw) (notFace_of_selects (args := #[]) (mvT hZ (wd182 hw))) (wd182 hw) (wd181 hw) (by decide) (wd183 hw) (wd33 hw) (rm33 l Z a0 hw [] ix ((b2 &&& (255 : Int32)) - (128 : Int32)) ca kk vz hJ869 n0 (by omega) FJ869_6 FJ869_7 (own_jr hc43) hall) eJ869 FJ869_5 [(.int ((b2 &&& (255 : Int32)) - (128 : Int32)))] [] 68 0 (hb hby d4_65) rfl (by rw [hml]; rfl) rfl rfl (lenOf pd_11 rfl) rfl (by decide) fun v956 T956 Lc956 X956 hQ956 => ?_
              obtain ⟨rfl, N956q, e956⟩ := hQ956
              have N956 := Fr.app NJ869 N956q
              refine own_sl 70 #[.val (.ref a1), .val (.ref bb), .val (.int (0 : Int32)), .val (.ref ix), .val (.ref b860), .val (.int (2 : Int32)), .val (.int (b2 &&& (255 : Int32))), .val (.int (-1 : Int32))] [] (fun t k => XS.istore X956.here hx rfl (hb hby d4_68) rfl (l' := #[.val (.ref a1), .val (.ref bb), .val (.int (0 : Int32)), .val (.ref ix), .val (.ref b860), .val (.int (2 : Int32)), .val (.int (b2 &&& (255 : Int32))), .val (.int (-1 : Int32))]) ((XS.store1 (o := sl7) rfl (hs_sl7) rfl).trans rfl) k) ?_
              refine own_ru 75 [(.int (-1 : Int32)), (.int (-1 : Int32)), (.ref b860)] X956 hx hby e4_70_3 rfl rfl ?_
              refine own_kN 78 X956 hx (hb hby d4_75) rfl (teq (by decide : ((-1 : Int32) = (-1 : Int32)))).2 rfl ?_
              refine own_st 80 [(.int (65533 : Int32)), (.ref b860)] (X956.ldcInt hx hown (mvT hZ (wd184 hw)) (g := (mkF m 78 #[.val (.ref a1), .val (.ref bb), .val (.int (0 : Int32)), .val (.ref ix), .val (.ref b860), .val (.int (2 : Int32)), .val (.int (b2 &&& (255 : Int32))), .val (.int (-1 : Int32))] [(.ref b860)])) rfl (hb hby d4_78)) ?_
              refine own_go 86 X956 hx (hb hby d4_80) (by decide) (by decide) ?_
              refine own_cV X956 hx hZ hown (wd66 hw) (wd67 hw) (notFace_of_selects (args := #[]) (mvT hZ (wd69 hw))) (wd69 hw) (wd68 hw) (by decide) (wd70 hw) (wd49 hw) (rm11u l Z a0 hw [] G1 G2 b860 (65533 : Int32) (2 : Int32) va2 kv2 (8 : Int32) [(.int y2_0), (.int z2_0), (.int y2_1), (.int z2_1), (.int (0 : Int32)), (.int (0 : Int32)), (.int (0 : Int32)), (.int (0 : Int32))] hJ869 n0 (by omega) FJ869_0 A fs2_0 fs2_1 fs2_2 fs2_3 fs2_4 fs2_5 fs2_6 (by omega) (by omega) (by decide) (by decide) (by decide) ⟨by decide, by decide⟩ ⟨by decide, by decide⟩ (Nat.le_of_ble_eq_true rfl) (Nat.le_of_ble_eq_true rfl) (by first | assumption | decide | omega)) e956 fs2_0 [(.int (65533 : Int32))] [] 89 0 (hb hby d4_86) rfl (by rw [hml]; rfl) rfl rfl (lenOf pd_26 rfl) rfl (by decide) fun v957 T957 Lc957 X957 hQ957 => ?_
              obtain ⟨rfl, N957q, K957, G957_0, G957_1, G957_2, G957_3, G957_4, G957_5, G957_6⟩ := hQ957
              have N957 := Fr.app N956 N957q
              have z957 := K957.1
              have KK957 : Keep h0 T957.heap [] := KJ869.trans K957 (allS (Or.inr (by omega)) (allS (Or.inr (by omega)) all0))
              have lt957_0 : @LT.lt Nat _ b860 (Array.size T957.heap) := G957_0.lt
              have G957_1' : fl8 Z T957.heap b860 (.int (3 : Int32)) := G957_1
              have lt957_5 : @LT.lt Nat _ va2 (Array.size T957.heap) := G957_5.lt
              have G957_6' : Arv Z T957.heap va2 kv2 .byte (8 : Int32) [(.int y2_0), (.int z2_0), (.int y2_1), (.int z2_1), (.int (own_e0 (65533 : Int32))), (.int (own_e1 (65533 : Int32))), (.int (0 : Int32)), (.int (0 : Int32))] (.int (0 : Int32)) := G957_6
              refine own_rl 93 #[.val (.ref a1), .val (.ref bb), .val (.int (0 : Int32)), .val (.ref ix), .val (.ref b860), .val (.int (3 : Int32)), .val (.int (b2 &&& (255 : Int32))), .val (.int (-1 : Int32))] [] X957 hx hby e4_89_2 rfl rfl ?_
              refine own_go 21 X957 hx (hb hby d4_93) (by decide) (by decide) ?_
              have f958 := (FJ869_0.keep K957 (allS (by omega) (allS (by omega) all0)))
              have f959 := (Exa.keep FJ869_1 K957)
              have f960 := (FJ869_2.keep K957 (own_nS (by omega) (own_nS (by omega) nin0)))
              have f961 := (FJ869_3.keep K957 (own_nS (by omega) (own_nS (by omega) nin0)))
              have f962 : Unt T957.heap a1 := (Unt.keep K957 (own_nS (by omega) (own_nS (by omega) nin0)) FJ869_4)
              have f963 := (Exa.keep FJ869_5 K957)
              have f964 := (FJ869_6.keep K957 (own_nS (by omega) (own_nS (by omega) nin0)))
              have f965 := (FJ869_7.keep K957 (own_nS (by omega) (own_nS (by omega) nin0)))
              have f966 := (FJ869_8.keep K957 (own_nS (by omega) (own_nS (by omega) nin0)))
              have f967 : own_SB43 Z T957.heap n0 b860 (own_exp b0) (own_exp b1) (own_exp b2) := Or.inr ⟨va2, kv2, y2_0, y2_1, (own_e0 (65533 : Int32)), z2_0, z2_1, (own_e1 (65533 : Int32)), G957_0, G957_1', G957_2, G957_3, G957_4, G957_5, G957_6', by omega, pe2_0, pe2_1, own_P4 hc43⟩
              exact J870 _ _ _ (.val (.int (-1 : Int32))) (X957.more (by decide) (by decide)) rfl N957 (by omega) KK957 f958 f959 f960 f961 f962 f963 f964 f965 f966 f967 (Or.inr ⟨_, rfl, rfl⟩)
      rcases FJ868_9 with ⟨va1, kv1, y1_0, fs1_0, fs1_1, fs1_2, fs1_3, fs1_4, fs1_5, fs1_6, og1, pe1_0⟩ | ⟨va1, kv1, y1_0, z1_0, fs1_0, fs1_1, fs1_2, fs1_3, fs1_4, fs1_5, fs1_6, og1, pe1_0⟩
      · have ltv1 : @LT.lt Nat _ va1 (Array.size hJ868) := fs1_6.lt
        have lts1 : @LT.lt Nat _ b860 (Array.size hJ868) := fs1_0.lt
        refine own_ru 24 [(.ref bb), (.int (1 : Int32))] XJ868 hx hby e4_21_2 rfl rfl ?_
        refine own_aL XJ868 hx hZ eJ868 FJ868_8 25 rfl (hb hby d4_24) rfl ?_
        refine own_kN 28 XJ868 hx (hb hby d4_25) rfl (tlt (by decide : ((1 : Int32) < (4 : Int32)))).2.1 rfl ?_
        refine own_ru 31 [(.int (1 : Int32)), (.ref bb)] XJ868 hx hby e4_28_2 rfl rfl ?_
        refine own_bL XJ868 hx hZ eJ868 FJ868_8 (x := b1) 32 rfl (hb hby d4_31) rfl ⟨by decide, by decide⟩ rfl ?_
        refine own_rl 43 #[.val (.ref a1), .val (.ref bb), .val (.int (0 : Int32)), .val (.ref ix), .val (.ref b860), .val (.int (1 : Int32)), .val (.int (b1 &&& (255 : Int32))), sl7] [(.int (128 : Int32)), (.int (b1 &&& (255 : Int32)))] XJ868 hx hby e4_32_5 rfl rfl ?_
        by_cases hc43 : (b1 &&& (255 : Int32)) < (128 : Int32)
        · refine own_kN 46 XJ868 hx (hb hby d4_43) rfl (tlt hc43).2.1 rfl ?_
          refine own_ru 51 [(.int ((b1 &&& (255 : Int32)).toUInt32.toUInt16.toUInt32.toInt32)), (.ref b860)] XJ868 hx hby e4_46_3 rfl rfl ?_
          refine own_cV XJ868 hx hZ hown (wd66 hw) (wd67 hw) (notFace_of_selects (args := #[]) (mvT hZ (wd69 hw))) (wd69 hw) (wd68 hw) (by decide) (wd70 hw) (wd49 hw) (rm11a l Z a0 hw [] G1 G2 b860 ((b1 &&& (255 : Int32)).toUInt32.toUInt16.toUInt32.toInt32) (1 : Int32) va1 kv1 (4 : Int32) [(.int y1_0), (.int (0 : Int32)), (.int (0 : Int32)), (.int (0 : Int32))] hJ868 n0 (by omega) FJ868_0 A fs1_0 fs1_1 fs1_2 fs1_3 fs1_4 fs1_5 fs1_6 (by omega) (by omega) (own_q255 hc43) (by decide) ⟨by decide, by decide⟩ (Nat.le_of_ble_eq_true rfl) (by first | assumption | decide | omega)) eJ868 fs1_0 [(.int ((b1 &&& (255 : Int32)).toUInt32.toUInt16.toUInt32.toInt32))] [] 54 0 (hb hby d4_51) rfl (by rw [hml]; rfl) rfl rfl (lenOf pd_26 rfl) rfl (by decide) fun v968 T968 Lc968 X968 hQ968 => ?_
          obtain ⟨rfl, N968q, K968, G968_0, G968_1, G968_2, G968_3, G968_4, G968_5, G968_6⟩ := hQ968
          have N968 := Fr.app NJ868 N968q
          have z968 := K968.1
          have KK968 : Keep h0 T968.heap [] := KJ868.trans K968 (allS (Or.inr (by omega)) (allS (Or.inr (by omega)) all0))
          have lt968_0 : @LT.lt Nat _ b860 (Array.size T968.heap) := G968_0.lt
          have G968_1' : fl8 Z T968.heap b860 (.int (2 : Int32)) := G968_1
          have lt968_5 : @LT.lt Nat _ va1 (Array.size T968.heap) := G968_5.lt
          have G968_6' : Arv Z T968.heap va1 kv1 .byte (4 : Int32) [(.int y1_0), (.int (own_b8 ((b1 &&& (255 : Int32)).toUInt32.toUInt16.toUInt32.toInt32))), (.int (0 : Int32)), (.int (0 : Int32))] (.int (0 : Int32)) := G968_6
          refine own_ru 55 [] X968 hx hby e4_54_1 rfl rfl ?_
          refine own_go 90 X968 hx (hb hby d4_55) (by decide) (by decide) ?_
          refine own_rl 93 #[.val (.ref a1), .val (.ref bb), .val (.int (0 : Int32)), .val (.ref ix), .val (.ref b860), .val (.int (2 : Int32)), .val (.int (b1 &&& (255 : Int32))), sl7] [] X968 hx hby e4_90_1 rfl rfl ?_
          refine own_go 21 X968 hx (hb hby d4_93) (by decide) (by decide) ?_
          have f969 := (FJ868_0.keep K968 (allS (by omega) (allS (by omega) all0)))
          have f970 := (Exa.keep FJ868_1 K968)
          have f971 := (FJ868_2.keep K968 (own_nS (by omega) (own_nS (by omega) nin0)))
          have f972 := (FJ868_3.keep K968 (own_nS (by omega) (own_nS (by omega) nin0)))
          have f973 : Unt T968.heap a1 := (Unt.keep K968 (own_nS (by omega) (own_nS (by omega) nin0)) FJ868_4)
          have f974 := (Exa.keep FJ868_5 K968)
          have f975 := (FJ868_6.keep K968 (own_nS (by omega) (own_nS (by omega) nin0)))
          have f976 := (FJ868_7.keep K968 (own_nS (by omega) (own_nS (by omega) nin0)))
          have f977 := (FJ868_8.keep K968 (own_nS (by omega) (own_nS (by omega) nin0)))
          have f978 : own_SB42 Z T968.heap n0 b860 (own_exp b0) (own_exp b1) := Or.inl ⟨va1, kv1, y1_0, (own_b8 ((b1 &&& (255 : Int32)).toUInt32.toUInt16.toUInt32.toInt32)), G968_0, G968_1', G968_2, G968_3, G968_4, G968_5, G968_6', by omega, pe1_0, ⟨own_P1 hc43, own_P3 hc43⟩⟩
          exact J869 _ _ _ sl7 (X968.more (by decide) (by decide)) rfl N968 (by omega) KK968 f969 f970 f971 f972 f973 f974 f975 f976 f977 f978 hs_sl7
        · refine own_kY 58 XJ868 hx (hb hby d4_43) rfl (flt hc43).2.1 (by decide) (by decide) ?_
          refine own_ru 65 [(.int ((b1 &&& (255 : Int32)) - (128 : Int32))), (.ref ix)] XJ868 hx hby e4_58_4 rfl rfl ?_
          refine own_cV XJ868 hx hZ hown (wd179 hw) (wd180 hw) (notFace_of_selects (args := #[]) (mvT hZ (wd182 hw))) (wd182 hw) (wd181 hw) (by decide) (wd183 hw) (wd33 hw) (rm33 l Z a0 hw [] ix ((b1 &&& (255 : Int32)) - (128 : Int32)) ca kk vz hJ868 n0 (by omega) FJ868_6 FJ868_7 (own_jr hc43) hall) eJ868 FJ868_5 [(.int ((b1 &&& (255 : Int32)) - (128 : Int32)))] [] 68 0 (hb hby d4_65) rfl (by rw [hml]; rfl) rfl rfl (lenOf pd_11 rfl) rfl (by decide) fun v979 T979 Lc979 X979 hQ979 => ?_
          obtain ⟨rfl, N979q, e979⟩ := hQ979
          have N979 := Fr.app NJ868 N979q
          refine own_sl 70 #[.val (.ref a1), .val (.ref bb), .val (.int (0 : Int32)), .val (.ref ix), .val (.ref b860), .val (.int (1 : Int32)), .val (.int (b1 &&& (255 : Int32))), .val (.int (-1 : Int32))] [] (fun t k => XS.istore X979.here hx rfl (hb hby d4_68) rfl (l' := #[.val (.ref a1), .val (.ref bb), .val (.int (0 : Int32)), .val (.ref ix), .val (.ref b860), .val (.int (1 : Int32)), .val (.int (b1 &&& (255 : Int32))), .val (.int (-1 : Int32))]) ((XS.store1 (o := sl7) rfl (hs_sl7) rfl).trans rfl) k) ?_
          refine own_ru 75 [(.int (-1 : Int32)), (.int (-1 : Int32)), (.ref b860)] X979 hx hby e4_70_3 rfl rfl ?_
          refine own_kN 78 X979 hx (hb hby d4_75) rfl (teq (by decide : ((-1 : Int32) = (-1 : Int32)))).2 rfl ?_
          refine own_st 80 [(.int (65533 : Int32)), (.ref b860)] (X979.ldcInt hx hown (mvT hZ (wd184 hw)) (g := (mkF m 78 #[.val (.ref a1), .val (.ref bb), .val (.int (0 : Int32)), .val (.ref ix), .val (.ref b860), .val (.int (1 : Int32)), .val (.int (b1 &&& (255 : Int32))), .val (.int (-1 : Int32))] [(.ref b860)])) rfl (hb hby d4_78)) ?_
          refine own_go 86 X979 hx (hb hby d4_80) (by decide) (by decide) ?_
          refine own_cV X979 hx hZ hown (wd66 hw) (wd67 hw) (notFace_of_selects (args := #[]) (mvT hZ (wd69 hw))) (wd69 hw) (wd68 hw) (by decide) (wd70 hw) (wd49 hw) (rm11i l Z a0 hw [] G1 G2 b860 va1 kv1 (4 : Int32) (1 : Int32) ([y1_0] : List Int32) 4 hJ868 n0 (by omega) FJ868_0 A fs1_0 fs1_1 fs1_2 fs1_3 fs1_4 fs1_5 fs1_6 (by omega) (by decide) rfl rfl rfl (Nat.le_of_ble_eq_true rfl) (by decide) (by decide) (by decide) (by decide) (by decide) (by decide) (by decide) (by decide) (by decide) ⟨by decide, by decide⟩ ⟨by decide, by decide⟩ (Nat.le_of_ble_eq_true rfl) (Nat.le_of_ble_eq_true rfl) (by first | assumption | decide | omega)) e979 fs1_0 [(.int (65533 : Int32))] [] 89 0 (hb hby d4_86) rfl (by rw [hml]; rfl) rfl rfl (lenOf pd_26 rfl) rfl (by decide) fun v980 T980 Lc980 X980 hQ980 => ?_
          obtain ⟨vb_980, kb_980, rfl, N980q, K980, G980_0, G980_1, G980_2, G980_3, G980_4, G980_5, G980_6, U980_0⟩ := hQ980
          have N980 := Fr.app N979 N980q
          have z980 := K980.1
          have KK980 : Keep h0 T980.heap [] := KJ868.trans K980 (allS (Or.inr (by omega)) all0)
          have lt980_0 : @LT.lt Nat _ b860 (Array.size T980.heap) := G980_0.lt
          have G980_1' : fl8 Z T980.heap b860 (.int (2 : Int32)) := G980_1
          have lt980_5 : @LT.lt Nat _ vb_980 (Array.size T980.heap) := G980_5.lt
          have G980_6' : Arv Z T980.heap vb_980 kb_980 .byte (8 : Int32) [(.int (own_e0 (y1_0 &&& (255 : Int32)))), (.int (own_e1 (y1_0 &&& (255 : Int32)))), (.int (own_e0 (65533 : Int32))), (.int (own_e1 (65533 : Int32))), (.int (0 : Int32)), (.int (0 : Int32)), (.int (0 : Int32)), (.int (0 : Int32))] (.int (0 : Int32)) := G980_6
          refine own_rl 93 #[.val (.ref a1), .val (.ref bb), .val (.int (0 : Int32)), .val (.ref ix), .val (.ref b860), .val (.int (2 : Int32)), .val (.int (b1 &&& (255 : Int32))), .val (.int (-1 : Int32))] [] X980 hx hby e4_89_2 rfl rfl ?_
          refine own_go 21 X980 hx (hb hby d4_93) (by decide) (by decide) ?_
          have f981 := (FJ868_0.keep K980 (allS (by omega) all0))
          have f982 := (Exa.keep FJ868_1 K980)
          have f983 := (FJ868_2.keep K980 (own_nS (by omega) nin0))
          have f984 := (FJ868_3.keep K980 (own_nS (by omega) nin0))
          have f985 : Unt T980.heap a1 := (Unt.keep K980 (own_nS (by omega) nin0) FJ868_4)
          have f986 := (Exa.keep FJ868_5 K980)
          have f987 := (FJ868_6.keep K980 (own_nS (by omega) nin0))
          have f988 := (FJ868_7.keep K980 (own_nS (by omega) nin0))
          have f989 := (FJ868_8.keep K980 (own_nS (by omega) nin0))
          have f990 : own_SB42 Z T980.heap n0 b860 (own_exp b0) (own_exp b1) := Or.inr ⟨vb_980, kb_980, (own_e0 (y1_0 &&& (255 : Int32))), (own_e0 (65533 : Int32)), (own_e1 (y1_0 &&& (255 : Int32))), (own_e1 (65533 : Int32)), G980_0, G980_1', G980_2, G980_3, G980_4, G980_5, G980_6', by omega, pe1_0.2, own_P4 hc43⟩
          exact J869 _ _ _ (.val (.int (-1 : Int32))) (X980.more (by decide) (by decide)) rfl N980 (by omega) KK980 f981 f982 f983 f984 f985 f986 f987 f988 f989 f990 (Or.inr ⟨_, rfl, rfl⟩)
      · have ltv1 : @LT.lt Nat _ va1 (Array.size hJ868) := fs1_6.lt
        have lts1 : @LT.lt Nat _ b860 (Array.size hJ868) := fs1_0.lt
        refine own_ru 24 [(.ref bb), (.int (1 : Int32))] XJ868 hx hby e4_21_2 rfl rfl ?_
        refine own_aL XJ868 hx hZ eJ868 FJ868_8 25 rfl (hb hby d4_24) rfl ?_
        refine own_kN 28 XJ868 hx (hb hby d4_25) rfl (tlt (by decide : ((1 : Int32) < (4 : Int32)))).2.1 rfl ?_
        refine own_ru 31 [(.int (1 : Int32)), (.ref bb)] XJ868 hx hby e4_28_2 rfl rfl ?_
        refine own_bL XJ868 hx hZ eJ868 FJ868_8 (x := b1) 32 rfl (hb hby d4_31) rfl ⟨by decide, by decide⟩ rfl ?_
        refine own_rl 43 #[.val (.ref a1), .val (.ref bb), .val (.int (0 : Int32)), .val (.ref ix), .val (.ref b860), .val (.int (1 : Int32)), .val (.int (b1 &&& (255 : Int32))), sl7] [(.int (128 : Int32)), (.int (b1 &&& (255 : Int32)))] XJ868 hx hby e4_32_5 rfl rfl ?_
        by_cases hc43 : (b1 &&& (255 : Int32)) < (128 : Int32)
        · refine own_kN 46 XJ868 hx (hb hby d4_43) rfl (tlt hc43).2.1 rfl ?_
          refine own_ru 51 [(.int ((b1 &&& (255 : Int32)).toUInt32.toUInt16.toUInt32.toInt32)), (.ref b860)] XJ868 hx hby e4_46_3 rfl rfl ?_
          refine own_cV XJ868 hx hZ hown (wd66 hw) (wd67 hw) (notFace_of_selects (args := #[]) (mvT hZ (wd69 hw))) (wd69 hw) (wd68 hw) (by decide) (wd70 hw) (wd49 hw) (rm11u l Z a0 hw [] G1 G2 b860 ((b1 &&& (255 : Int32)).toUInt32.toUInt16.toUInt32.toInt32) (1 : Int32) va1 kv1 (8 : Int32) [(.int y1_0), (.int z1_0), (.int (0 : Int32)), (.int (0 : Int32)), (.int (0 : Int32)), (.int (0 : Int32)), (.int (0 : Int32)), (.int (0 : Int32))] hJ868 n0 (by omega) FJ868_0 A fs1_0 fs1_1 fs1_2 fs1_3 fs1_4 fs1_5 fs1_6 (by omega) (by omega) (by decide) (by decide) (by decide) ⟨by decide, by decide⟩ ⟨by decide, by decide⟩ (Nat.le_of_ble_eq_true rfl) (Nat.le_of_ble_eq_true rfl) (by first | assumption | decide | omega)) eJ868 fs1_0 [(.int ((b1 &&& (255 : Int32)).toUInt32.toUInt16.toUInt32.toInt32))] [] 54 0 (hb hby d4_51) rfl (by rw [hml]; rfl) rfl rfl (lenOf pd_26 rfl) rfl (by decide) fun v991 T991 Lc991 X991 hQ991 => ?_
          obtain ⟨rfl, N991q, K991, G991_0, G991_1, G991_2, G991_3, G991_4, G991_5, G991_6⟩ := hQ991
          have N991 := Fr.app NJ868 N991q
          have z991 := K991.1
          have KK991 : Keep h0 T991.heap [] := KJ868.trans K991 (allS (Or.inr (by omega)) (allS (Or.inr (by omega)) all0))
          have lt991_0 : @LT.lt Nat _ b860 (Array.size T991.heap) := G991_0.lt
          have G991_1' : fl8 Z T991.heap b860 (.int (2 : Int32)) := G991_1
          have lt991_5 : @LT.lt Nat _ va1 (Array.size T991.heap) := G991_5.lt
          have G991_6' : Arv Z T991.heap va1 kv1 .byte (8 : Int32) [(.int y1_0), (.int z1_0), (.int (own_e0 ((b1 &&& (255 : Int32)).toUInt32.toUInt16.toUInt32.toInt32))), (.int (own_e1 ((b1 &&& (255 : Int32)).toUInt32.toUInt16.toUInt32.toInt32))), (.int (0 : Int32)), (.int (0 : Int32)), (.int (0 : Int32)), (.int (0 : Int32))] (.int (0 : Int32)) := G991_6
          refine own_ru 55 [] X991 hx hby e4_54_1 rfl rfl ?_
          refine own_go 90 X991 hx (hb hby d4_55) (by decide) (by decide) ?_
          refine own_rl 93 #[.val (.ref a1), .val (.ref bb), .val (.int (0 : Int32)), .val (.ref ix), .val (.ref b860), .val (.int (2 : Int32)), .val (.int (b1 &&& (255 : Int32))), sl7] [] X991 hx hby e4_90_1 rfl rfl ?_
          refine own_go 21 X991 hx (hb hby d4_93) (by decide) (by decide) ?_
          have f992 := (FJ868_0.keep K991 (allS (by omega) (allS (by omega) all0)))
          have f993 := (Exa.keep FJ868_1 K991)
          have f994 := (FJ868_2.keep K991 (own_nS (by omega) (own_nS (by omega) nin0)))
          have f995 := (FJ868_3.keep K991 (own_nS (by omega) (own_nS (by omega) nin0)))
          have f996 : Unt T991.heap a1 := (Unt.keep K991 (own_nS (by omega) (own_nS (by omega) nin0)) FJ868_4)
          have f997 := (Exa.keep FJ868_5 K991)
          have f998 := (FJ868_6.keep K991 (own_nS (by omega) (own_nS (by omega) nin0)))
          have f999 := (FJ868_7.keep K991 (own_nS (by omega) (own_nS (by omega) nin0)))
          have f1000 := (FJ868_8.keep K991 (own_nS (by omega) (own_nS (by omega) nin0)))
          have f1001 : own_SB42 Z T991.heap n0 b860 (own_exp b0) (own_exp b1) := Or.inr ⟨va1, kv1, y1_0, (own_e0 ((b1 &&& (255 : Int32)).toUInt32.toUInt16.toUInt32.toInt32)), z1_0, (own_e1 ((b1 &&& (255 : Int32)).toUInt32.toUInt16.toUInt32.toInt32)), G991_0, G991_1', G991_2, G991_3, G991_4, G991_5, G991_6', by omega, pe1_0, own_P2 hc43⟩
          exact J869 _ _ _ sl7 (X991.more (by decide) (by decide)) rfl N991 (by omega) KK991 f992 f993 f994 f995 f996 f997 f998 f999 f1000 f1001 hs_sl7
        · refine own_kY 58 XJ868 hx (hb hby d4_43) rfl (flt hc43).2.1 (by decide) (by decide) ?_
          refine own_ru 65 [(.int ((b1 &&& (255 : Int32)) - (128 : Int32))), (.ref ix)] XJ868 hx hby e4_58_4 rfl rfl ?_
          refine own_cV XJ868 hx hZ hown (wd179 hw) (wd180 hw) (notFace_of_selects (args := #[]) (mvT hZ (wd182 hw))) (wd182 hw) (wd181 hw) (by decide) (wd183 hw) (wd33 hw) (rm33 l Z a0 hw [] ix ((b1 &&& (255 : Int32)) - (128 : Int32)) ca kk vz hJ868 n0 (by omega) FJ868_6 FJ868_7 (own_jr hc43) hall) eJ868 FJ868_5 [(.int ((b1 &&& (255 : Int32)) - (128 : Int32)))] [] 68 0 (hb hby d4_65) rfl (by rw [hml]; rfl) rfl rfl (lenOf pd_11 rfl) rfl (by decide) fun v1002 T1002 Lc1002 X1002 hQ1002 => ?_
          obtain ⟨rfl, N1002q, e1002⟩ := hQ1002
          have N1002 := Fr.app NJ868 N1002q
          refine own_sl 70 #[.val (.ref a1), .val (.ref bb), .val (.int (0 : Int32)), .val (.ref ix), .val (.ref b860), .val (.int (1 : Int32)), .val (.int (b1 &&& (255 : Int32))), .val (.int (-1 : Int32))] [] (fun t k => XS.istore X1002.here hx rfl (hb hby d4_68) rfl (l' := #[.val (.ref a1), .val (.ref bb), .val (.int (0 : Int32)), .val (.ref ix), .val (.ref b860), .val (.int (1 : Int32)), .val (.int (b1 &&& (255 : Int32))), .val (.int (-1 : Int32))]) ((XS.store1 (o := sl7) rfl (hs_sl7) rfl).trans rfl) k) ?_
          refine own_ru 75 [(.int (-1 : Int32)), (.int (-1 : Int32)), (.ref b860)] X1002 hx hby e4_70_3 rfl rfl ?_
          refine own_kN 78 X1002 hx (hb hby d4_75) rfl (teq (by decide : ((-1 : Int32) = (-1 : Int32)))).2 rfl ?_
          refine own_st 80 [(.int (65533 : Int32)), (.ref b860)] (X1002.ldcInt hx hown (mvT hZ (wd184 hw)) (g := (mkF m 78 #[.val (.ref a1), .val (.ref bb), .val (.int (0 : Int32)), .val (.ref ix), .val (.ref b860), .val (.int (1 : Int32)), .val (.int (b1 &&& (255 : Int32))), .val (.int (-1 : Int32))] [(.ref b860)])) rfl (hb hby d4_78)) ?_
          refine own_go 86 X1002 hx (hb hby d4_80) (by decide) (by decide) ?_
          refine own_cV X1002 hx hZ hown (wd66 hw) (wd67 hw) (notFace_of_selects (args := #[]) (mvT hZ (wd69 hw))) (wd69 hw) (wd68 hw) (by decide) (wd70 hw) (wd49 hw) (rm11u l Z a0 hw [] G1 G2 b860 (65533 : Int32) (1 : Int32) va1 kv1 (8 : Int32) [(.int y1_0), (.int z1_0), (.int (0 : Int32)), (.int (0 : Int32)), (.int (0 : Int32)), (.int (0 : Int32)), (.int (0 : Int32)), (.int (0 : Int32))] hJ868 n0 (by omega) FJ868_0 A fs1_0 fs1_1 fs1_2 fs1_3 fs1_4 fs1_5 fs1_6 (by omega) (by omega) (by decide) (by decide) (by decide) ⟨by decide, by decide⟩ ⟨by decide, by decide⟩ (Nat.le_of_ble_eq_true rfl) (Nat.le_of_ble_eq_true rfl) (by first | assumption | decide | omega)) e1002 fs1_0 [(.int (65533 : Int32))] [] 89 0 (hb hby d4_86) rfl (by rw [hml]; rfl) rfl rfl (lenOf pd_26 rfl) rfl (by decide) fun v1003 T1003 Lc1003 X1003 hQ1003 => ?_
          obtain ⟨rfl, N1003q, K1003, G1003_0, G1003_1, G1003_2, G1003_3, G1003_4, G1003_5, G1003_6⟩ := hQ1003
          have N1003 := Fr.app N1002 N1003q
          have z1003 := K1003.1
          have KK1003 : Keep h0 T1003.heap [] := KJ868.trans K1003 (allS (Or.inr (by omega)) (allS (Or.inr (by omega)) all0))
          have lt1003_0 : @LT.lt Nat _ b860 (Array.size T1003.heap) := G1003_0.lt
          have G1003_1' : fl8 Z T1003.heap b860 (.int (2 : Int32)) := G1003_1
          have lt1003_5 : @LT.lt Nat _ va1 (Array.size T1003.heap) := G1003_5.lt
          have G1003_6' : Arv Z T1003.heap va1 kv1 .byte (8 : Int32) [(.int y1_0), (.int z1_0), (.int (own_e0 (65533 : Int32))), (.int (own_e1 (65533 : Int32))), (.int (0 : Int32)), (.int (0 : Int32)), (.int (0 : Int32)), (.int (0 : Int32))] (.int (0 : Int32)) := G1003_6
          refine own_rl 93 #[.val (.ref a1), .val (.ref bb), .val (.int (0 : Int32)), .val (.ref ix), .val (.ref b860), .val (.int (2 : Int32)), .val (.int (b1 &&& (255 : Int32))), .val (.int (-1 : Int32))] [] X1003 hx hby e4_89_2 rfl rfl ?_
          refine own_go 21 X1003 hx (hb hby d4_93) (by decide) (by decide) ?_
          have f1004 := (FJ868_0.keep K1003 (allS (by omega) (allS (by omega) all0)))
          have f1005 := (Exa.keep FJ868_1 K1003)
          have f1006 := (FJ868_2.keep K1003 (own_nS (by omega) (own_nS (by omega) nin0)))
          have f1007 := (FJ868_3.keep K1003 (own_nS (by omega) (own_nS (by omega) nin0)))
          have f1008 : Unt T1003.heap a1 := (Unt.keep K1003 (own_nS (by omega) (own_nS (by omega) nin0)) FJ868_4)
          have f1009 := (Exa.keep FJ868_5 K1003)
          have f1010 := (FJ868_6.keep K1003 (own_nS (by omega) (own_nS (by omega) nin0)))
          have f1011 := (FJ868_7.keep K1003 (own_nS (by omega) (own_nS (by omega) nin0)))
          have f1012 := (FJ868_8.keep K1003 (own_nS (by omega) (own_nS (by omega) nin0)))
          have f1013 : own_SB42 Z T1003.heap n0 b860 (own_exp b0) (own_exp b1) := Or.inr ⟨va1, kv1, y1_0, (own_e0 (65533 : Int32)), z1_0, (own_e1 (65533 : Int32)), G1003_0, G1003_1', G1003_2, G1003_3, G1003_4, G1003_5, G1003_6', by omega, pe1_0, own_P4 hc43⟩
          exact J869 _ _ _ (.val (.int (-1 : Int32))) (X1003.more (by decide) (by decide)) rfl N1003 (by omega) KK1003 f1004 f1005 f1006 f1007 f1008 f1009 f1010 f1011 f1012 f1013 (Or.inr ⟨_, rfl, rfl⟩)
  refine own_st 23 [(.int (0 : Int32))] (fun t k => XS.iload X867.here hx rfl (hb hby d4_21) rfl  k) ?_
  refine own_ru 24 [(.ref bb), (.int (0 : Int32))] X867 hx hby e4_23_1 rfl rfl ?_
  have f1014 := (f865.keep K867 (own_nS (by omega) nin0))
  refine own_aL X867 hx hZ rfl f1014 25 rfl (hb hby d4_24) rfl ?_
  refine own_kN 28 X867 hx (hb hby d4_25) rfl (tlt (by decide : ((0 : Int32) < (4 : Int32)))).2.1 rfl ?_
  refine own_ru 31 [(.int (0 : Int32)), (.ref bb)] X867 hx hby e4_28_2 rfl rfl ?_
  refine own_bL X867 hx hZ rfl f1014 (x := b0) 32 rfl (hb hby d4_31) rfl ⟨by decide, by decide⟩ rfl ?_
  refine own_rl 43 #[.val (.ref a1), .val (.ref bb), .val (.int (0 : Int32)), .val (.ref ix), .val (.ref b860), .val (.int (0 : Int32)), .val (.int (b0 &&& (255 : Int32))), .unset] [(.int (128 : Int32)), (.int (b0 &&& (255 : Int32)))] X867 hx hby e4_32_5 rfl rfl ?_
  by_cases hc43 : (b0 &&& (255 : Int32)) < (128 : Int32)
  · refine own_kN 46 X867 hx (hb hby d4_43) rfl (tlt hc43).2.1 rfl ?_
    refine own_ru 51 [(.int ((b0 &&& (255 : Int32)).toUInt32.toUInt16.toUInt32.toInt32)), (.ref b860)] X867 hx hby e4_46_3 rfl rfl ?_
    have f1015 := (f866.keep K867 (allS (by omega) all0))
    refine own_cV X867 hx hZ hown (wd66 hw) (wd67 hw) (notFace_of_selects (args := #[]) (mvT hZ (wd69 hw))) (wd69 hw) (wd68 hw) (by decide) (wd70 hw) (wd49 hw) (rm11a l Z a0 hw [] G1 G2 b860 ((b0 &&& (255 : Int32)).toUInt32.toUInt16.toUInt32.toInt32) (0 : Int32) vn_867 kk_867 (4 : Int32) [(.int (0 : Int32)), (.int (0 : Int32)), (.int (0 : Int32)), (.int (0 : Int32))] T867.heap n0 (by omega) f1015 A G867_0 G867_1 G867_2 G867_3 G867_4 G867_5 G867_6' (by omega) (by omega) (own_q255 hc43) (by decide) ⟨by decide, by decide⟩ (Nat.le_of_ble_eq_true rfl) (by first | assumption | decide | omega)) rfl G867_0 [(.int ((b0 &&& (255 : Int32)).toUInt32.toUInt16.toUInt32.toInt32))] [] 54 0 (hb hby d4_51) rfl (by rw [hml]; rfl) rfl rfl (lenOf pd_26 rfl) rfl (by decide) fun v1016 T1016 Lc1016 X1016 hQ1016 => ?_
    obtain ⟨rfl, N1016q, K1016, G1016_0, G1016_1, G1016_2, G1016_3, G1016_4, G1016_5, G1016_6⟩ := hQ1016
    have N1016 := Fr.app N867 N1016q
    have z1016 := K1016.1
    have KK1016 : Keep h0 T1016.heap [] := KK867.trans K1016 (allS (Or.inr (by omega)) (allS (Or.inr (by omega)) all0))
    have lt1016_0 : @LT.lt Nat _ b860 (Array.size T1016.heap) := G1016_0.lt
    have G1016_1' : fl8 Z T1016.heap b860 (.int (1 : Int32)) := G1016_1
    have lt1016_5 : @LT.lt Nat _ vn_867 (Array.size T1016.heap) := G1016_5.lt
    have G1016_6' : Arv Z T1016.heap vn_867 kk_867 .byte (4 : Int32) [(.int (own_b8 ((b0 &&& (255 : Int32)).toUInt32.toUInt16.toUInt32.toInt32))), (.int (0 : Int32)), (.int (0 : Int32)), (.int (0 : Int32))] (.int (0 : Int32)) := G1016_6
    refine own_ru 55 [] X1016 hx hby e4_54_1 rfl rfl ?_
    refine own_go 90 X1016 hx (hb hby d4_55) (by decide) (by decide) ?_
    refine own_rl 93 #[.val (.ref a1), .val (.ref bb), .val (.int (0 : Int32)), .val (.ref ix), .val (.ref b860), .val (.int (1 : Int32)), .val (.int (b0 &&& (255 : Int32))), .unset] [] X1016 hx hby e4_90_1 rfl rfl ?_
    refine own_go 21 X1016 hx (hb hby d4_93) (by decide) (by decide) ?_
    have f1017 := (f1015.keep K1016 (allS (by omega) (allS (by omega) all0)))
    have f1018 := (Exa.keep (Exa.keep (Exa.ext E860 P0) K867) K1016)
    have f1019 := (((Fld.ext E860 P1).keep K867 (own_nS (by omega) nin0)).keep K1016 (own_nS (by omega) (own_nS (by omega) nin0)))
    have f1020 := (((Fld.ext E860 P2).keep K867 (own_nS (by omega) nin0)).keep K1016 (own_nS (by omega) (own_nS (by omega) nin0)))
    have f1021 : Unt T1016.heap a1 := (Unt.keep K1016 (own_nS (by omega) (own_nS (by omega) nin0)) (Unt.keep K867 (own_nS (by omega) nin0) (Unt.ext E860 P3)))
    have f1022 := (Exa.keep (Exa.keep (Exa.ext E860 P4) K867) K1016)
    have f1023 := (((Fld.ext E860 P5).keep K867 (own_nS (by omega) nin0)).keep K1016 (own_nS (by omega) (own_nS (by omega) nin0)))
    have f1024 := (((P6.ext E860).keep K867 (own_nS (by omega) nin0)).keep K1016 (own_nS (by omega) (own_nS (by omega) nin0)))
    have f1025 := (f1014.keep K1016 (own_nS (by omega) (own_nS (by omega) nin0)))
    have f1026 : own_SB41 Z T1016.heap n0 b860 (own_exp b0) := Or.inl ⟨vn_867, kk_867, (own_b8 ((b0 &&& (255 : Int32)).toUInt32.toUInt16.toUInt32.toInt32)), G1016_0, G1016_1', G1016_2, G1016_3, G1016_4, G1016_5, G1016_6', by omega, ⟨own_P1 hc43, own_P3 hc43⟩⟩
    exact J868 _ _ _ .unset (X1016.more (by decide) (by decide)) rfl N1016 (by omega) KK1016 f1017 f1018 f1019 f1020 f1021 f1022 f1023 f1024 f1025 f1026 (Or.inl rfl)
  · refine own_kY 58 X867 hx (hb hby d4_43) rfl (flt hc43).2.1 (by decide) (by decide) ?_
    refine own_ru 65 [(.int ((b0 &&& (255 : Int32)) - (128 : Int32))), (.ref ix)] X867 hx hby e4_58_4 rfl rfl ?_
    have f1027 := ((Fld.ext E860 P5).keep K867 (own_nS (by omega) nin0))
    have f1028 := ((P6.ext E860).keep K867 (own_nS (by omega) nin0))
    have f1030 := (Exa.keep (Exa.ext E860 P4) K867)
    refine own_cV X867 hx hZ hown (wd179 hw) (wd180 hw) (notFace_of_selects (args := #[]) (mvT hZ (wd182 hw))) (wd182 hw) (wd181 hw) (by decide) (wd183 hw) (wd33 hw) (rm33 l Z a0 hw [] ix ((b0 &&& (255 : Int32)) - (128 : Int32)) ca kk vz T867.heap n0 (by omega) f1027 f1028 (own_jr hc43) hall) rfl f1030 [(.int ((b0 &&& (255 : Int32)) - (128 : Int32)))] [] 68 0 (hb hby d4_65) rfl (by rw [hml]; rfl) rfl rfl (lenOf pd_11 rfl) rfl (by decide) fun v1029 T1029 Lc1029 X1029 hQ1029 => ?_
    obtain ⟨rfl, N1029q, e1029⟩ := hQ1029
    have N1029 := Fr.app N867 N1029q
    refine own_rl 75 #[.val (.ref a1), .val (.ref bb), .val (.int (0 : Int32)), .val (.ref ix), .val (.ref b860), .val (.int (0 : Int32)), .val (.int (b0 &&& (255 : Int32))), .val (.int (-1 : Int32))] [(.int (-1 : Int32)), (.int (-1 : Int32)), (.ref b860)] X1029 hx hby e4_68_4 rfl rfl ?_
    refine own_kN 78 X1029 hx (hb hby d4_75) rfl (teq (by decide : ((-1 : Int32) = (-1 : Int32)))).2 rfl ?_
    refine own_st 80 [(.int (65533 : Int32)), (.ref b860)] (X1029.ldcInt hx hown (mvT hZ (wd184 hw)) (g := (mkF m 78 #[.val (.ref a1), .val (.ref bb), .val (.int (0 : Int32)), .val (.ref ix), .val (.ref b860), .val (.int (0 : Int32)), .val (.int (b0 &&& (255 : Int32))), .val (.int (-1 : Int32))] [(.ref b860)])) rfl (hb hby d4_78)) ?_
    refine own_go 86 X1029 hx (hb hby d4_80) (by decide) (by decide) ?_
    have f1031 := (f866.keep K867 (allS (by omega) all0))
    refine own_cV X1029 hx hZ hown (wd66 hw) (wd67 hw) (notFace_of_selects (args := #[]) (mvT hZ (wd69 hw))) (wd69 hw) (wd68 hw) (by decide) (wd70 hw) (wd49 hw) (rm11i l Z a0 hw [] G1 G2 b860 vn_867 kk_867 (4 : Int32) (0 : Int32) ([] : List Int32) 4 T867.heap n0 (by omega) f1031 A G867_0 G867_1 G867_2 G867_3 G867_4 G867_5 G867_6' (by omega) (by decide) rfl rfl rfl (Nat.le_of_ble_eq_true rfl) (by decide) (by decide) (by decide) (by decide) (by decide) (by decide) (by decide) (by decide) (by decide) ⟨by decide, by decide⟩ ⟨by decide, by decide⟩ (Nat.le_of_ble_eq_true rfl) (Nat.le_of_ble_eq_true rfl) (by first | assumption | decide | omega)) e1029 G867_0 [(.int (65533 : Int32))] [] 89 0 (hb hby d4_86) rfl (by rw [hml]; rfl) rfl rfl (lenOf pd_26 rfl) rfl (by decide) fun v1032 T1032 Lc1032 X1032 hQ1032 => ?_
    obtain ⟨vb_1032, kb_1032, rfl, N1032q, K1032, G1032_0, G1032_1, G1032_2, G1032_3, G1032_4, G1032_5, G1032_6, U1032_0⟩ := hQ1032
    have N1032 := Fr.app N1029 N1032q
    have z1032 := K1032.1
    have KK1032 : Keep h0 T1032.heap [] := KK867.trans K1032 (allS (Or.inr (by omega)) all0)
    have lt1032_0 : @LT.lt Nat _ b860 (Array.size T1032.heap) := G1032_0.lt
    have G1032_1' : fl8 Z T1032.heap b860 (.int (1 : Int32)) := G1032_1
    have lt1032_5 : @LT.lt Nat _ vb_1032 (Array.size T1032.heap) := G1032_5.lt
    have G1032_6' : Arv Z T1032.heap vb_1032 kb_1032 .byte (8 : Int32) [(.int (own_e0 (65533 : Int32))), (.int (own_e1 (65533 : Int32))), (.int (0 : Int32)), (.int (0 : Int32)), (.int (0 : Int32)), (.int (0 : Int32)), (.int (0 : Int32)), (.int (0 : Int32))] (.int (0 : Int32)) := G1032_6
    refine own_rl 93 #[.val (.ref a1), .val (.ref bb), .val (.int (0 : Int32)), .val (.ref ix), .val (.ref b860), .val (.int (1 : Int32)), .val (.int (b0 &&& (255 : Int32))), .val (.int (-1 : Int32))] [] X1032 hx hby e4_89_2 rfl rfl ?_
    refine own_go 21 X1032 hx (hb hby d4_93) (by decide) (by decide) ?_
    have f1033 := (f1031.keep K1032 (allS (by omega) all0))
    have f1034 := (Exa.keep (Exa.keep (Exa.ext E860 P0) K867) K1032)
    have f1035 := (((Fld.ext E860 P1).keep K867 (own_nS (by omega) nin0)).keep K1032 (own_nS (by omega) nin0))
    have f1036 := (((Fld.ext E860 P2).keep K867 (own_nS (by omega) nin0)).keep K1032 (own_nS (by omega) nin0))
    have f1037 : Unt T1032.heap a1 := (Unt.keep K1032 (own_nS (by omega) nin0) (Unt.keep K867 (own_nS (by omega) nin0) (Unt.ext E860 P3)))
    have f1038 := (Exa.keep f1030 K1032)
    have f1039 := (f1027.keep K1032 (own_nS (by omega) nin0))
    have f1040 := (f1028.keep K1032 (own_nS (by omega) nin0))
    have f1041 := (f1014.keep K1032 (own_nS (by omega) nin0))
    have f1042 : own_SB41 Z T1032.heap n0 b860 (own_exp b0) := Or.inr ⟨vb_1032, kb_1032, (own_e0 (65533 : Int32)), (own_e1 (65533 : Int32)), G1032_0, G1032_1', G1032_2, G1032_3, G1032_4, G1032_5, G1032_6', by omega, own_P4 hc43⟩
    exact J868 _ _ _ (.val (.int (-1 : Int32))) (X1032.more (by decide) (by decide)) rfl N1032 (by omega) KK1032 f1033 f1034 f1035 f1036 f1037 f1038 f1039 f1040 f1041 f1042 (Or.inr ⟨_, rfl, rfl⟩)
abbrev my25 : MethodName := (⟨"java/lang/String", "coder", "()B"⟩ : MethodName)
theorem d25_0 : decode jdk_42_method_152_code 0 = .ok (.getstatic 38, 3) := by decide +kernel
theorem d25_3 : decode jdk_42_method_152_code 3 = .ok (.ifCond .eq 10, 3) := by decide +kernel
theorem d25_7 : decode jdk_42_method_152_code 7 = .ok (.getfield 15, 3) := by decide +kernel
theorem d25_10 : decode jdk_42_method_152_code 10 = .ok (.goto 4, 3) := by decide +kernel
theorem d25_14 : decode jdk_42_method_152_code 14 = .ok (.ireturn, 1) := by decide +kernel
theorem e25_6_1 : own_dec jdk_42_method_152_code 6 [(.aload_n 0, 1)] = true := by decide +kernel
def Q25d0 (Z : State) (G1 : Int32) (G2 : Value) (a1 : Addr) (h0 : Heap) (n0 : Nat) (v : Option Value) (h : Heap) (L : List Loc) : Prop := v = some (.int (0 : Int32)) ∧ Fr n0 L ∧ h = h0
set_option maxRecDepth 65536 in
set_option maxHeartbeats 40000000 in
theorem rm25d0 (l : Launch) (Z : State) (a0 : Array Value) (hw : OW a0 Z) (ws : List Jvm.Cond) (G1 : Int32) (G2 : Value) (a1 : Addr) (h0 : Heap) (n0 : Nat) (Z0 : n0 ≤ h0.size) (OLD : Old Z n0 h0) (A : Amb Z G1 G2) (P0 : fl13 Z h0 a1 (.int (0 : Int32))) :
    own_Met l my25 jdk_42_method_152_code 1 (some .byte) ws (own_rm 0 0 0 0) #[(.ref a1)] Z h0 (Q25d0 Z G1 G2 a1 h0 n0) 0 0 := by
  refine own_body (plainFor_of_name pn_5) (fun m => by first | (simp [entryFrame, mkF, argsToLocals, Value.category]; done) | rfl) (Ls := #[.val (.ref a1)]) fun p e s m below meth c s₁ X0 hx hby hml hZ e0 hown hnm hlk hrt => ?_
  have N0 := Fr.nil n0
  have lt_P0 : @LT.lt Nat _ a1 (Array.size h0) := P0.lt
  have f1043 : Sta Z h0 "java/lang/String" "COMPACT_STRINGS" "Z" (.int G1) := Sta.ext OLD.2 (Amb.a0 A)
  refine own_gS X0 hx hZ hown (host := "") (Or.inl (wd151 hw)) Via.refl e0 f1043 3 (hb hby d25_0) rfl fun T1044 X1044 e1044 => ?_
  refine own_iN 6 X1044 hx (hb hby d25_3) rfl ((if0 _ _).trans (feq (Amb.g1 A)).1) rfl ?_
  refine own_ru 7 [(.ref a1)] X1044 hx hby e25_6_1 rfl rfl ?_
  refine own_gF X1044 hx hZ hown (host := "") (Or.inl (wd121 hw)) Via.refl e1044 P0 10 rfl (hb hby d25_7) rfl fun T1045 X1045 e1045 => ?_
  refine own_go 14 X1045 hx (hb hby d25_10) (by decide) (by decide) ?_
  have hq1046 : Q25d0 Z G1 G2 a1 h0 n0 (some (.int (nar .byte (0 : Int32)))) h0 _ := ⟨rfl, N0, rfl⟩
  exact own_retN X1045 hx hlk (t := .byte) hrt (by simp) (hb hby d25_14) e1045 hq1046 (by decide) (by decide)
abbrev my24 : MethodName := (⟨"java/lang/String", "length", "()I"⟩ : MethodName)
theorem d24_1 : decode jdk_42_method_54_code 1 = .ok (.getfield 9, 3) := by decide +kernel
theorem d24_4 : decode jdk_42_method_54_code 4 = .ok (.arraylength, 1) := by decide +kernel
theorem d24_6 : decode jdk_42_method_54_code 6 = .ok (.invokevirtual 335, 3) := by decide +kernel
theorem d24_10 : decode jdk_42_method_54_code 10 = .ok (.ireturn, 1) := by decide +kernel
theorem e24_0_1 : own_dec jdk_42_method_54_code 0 [(.aload_n 0, 1)] = true := by decide +kernel
theorem e24_5_1 : own_dec jdk_42_method_54_code 5 [(.aload_n 0, 1)] = true := by decide +kernel
theorem e24_9_1 : own_dec jdk_42_method_54_code 9 [(.ishr, 1)] = true := by decide +kernel
theorem pd_27 : parseMethodDescriptor "()B" = some ⟨[], some .byte⟩ := by decide +kernel
def Q24d0 (Z : State) (G1 : Int32) (G2 : Value) (a1 : Addr) (ta : Addr) (kt : ClassId) (zz : Int32) (vs : List Value) (h0 : Heap) (n0 : Nat) (v : Option Value) (h : Heap) (L : List Loc) : Prop := v = some (.int (zz >>> ((0 : Int32) &&& 31))) ∧ Fr n0 L ∧ h = h0
set_option maxRecDepth 65536 in
set_option maxHeartbeats 40000000 in
theorem rm24d0 (l : Launch) (Z : State) (a0 : Array Value) (hw : OW a0 Z) (ws : List Jvm.Cond) (G1 : Int32) (G2 : Value) (a1 : Addr) (ta : Addr) (kt : ClassId) (zz : Int32) (vs : List Value) (h0 : Heap) (n0 : Nat) (Z0 : n0 ≤ h0.size) (OLD : Old Z n0 h0) (A : Amb Z G1 G2) (P0 : ex14 Z h0 a1) (P1 : fl15 Z h0 a1 (.ref ta)) (P2 : fl13 Z h0 a1 (.int (0 : Int32))) (P3 : Arv Z h0 ta kt .byte zz vs (.int (0 : Int32))) :
    own_Met l my24 jdk_42_method_54_code 1 (some .int) ws (own_rm 1 0 0 13) #[(.ref a1)] Z h0 (Q24d0 Z G1 G2 a1 ta kt zz vs h0 n0) 0 0 := by
  refine own_body (plainFor_of_name pn_5) (fun m => by first | (simp [entryFrame, mkF, argsToLocals, Value.category]; done) | rfl) (Ls := #[.val (.ref a1)]) fun p e s m below meth c s₁ X0 hx hby hml hZ e0 hown hnm hlk hrt => ?_
  have N0 := Fr.nil n0
  have lt_P0 : @LT.lt Nat _ a1 (Array.size h0) := P0.lt
  have lt_P3 : @LT.lt Nat _ ta (Array.size h0) := P3.lt
  refine own_ru 1 [(.ref a1)] X0 hx hby e24_0_1 rfl rfl ?_
  refine own_gF X0 hx hZ hown (host := "") (Or.inl (wd135 hw)) Via.refl e0 P1 4 rfl (hb hby d24_1) rfl fun T1047 X1047 e1047 => ?_
  refine own_aL X1047 hx hZ e1047 P3 5 rfl (hb hby d24_4) rfl ?_
  refine own_ru 6 [(.ref a1), (.int zz)] X1047 hx hby e24_5_1 rfl rfl ?_
  refine own_cV X1047 hx hZ hown (wd146 hw) (wd147 hw) (notFace_of_selects (args := #[]) (mvT hZ (wd149 hw))) (wd149 hw) (wd148 hw) (by decide) (wd150 hw) (wd61 hw) (rm25d0 l Z a0 hw [] G1 G2 a1 h0 n0 (by omega) OLD A P2) e1047 P0 [] [(.int zz)] 9 1 (hb hby d24_6) rfl (by rw [hml]; rfl) rfl rfl (lenOf pd_27 rfl) rfl (by decide) fun v1048 T1048 Lc1048 X1048 hQ1048 => ?_
  obtain ⟨rfl, N1048q, e1048⟩ := hQ1048
  have N1048 := Fr.app N0 N1048q
  refine own_ru 10 [(.int (zz >>> ((0 : Int32) &&& 31)))] X1048 hx hby e24_9_1 rfl rfl ?_
  have hq1049 : Q24d0 Z G1 G2 a1 ta kt zz vs h0 n0 (some (.int (zz >>> ((0 : Int32) &&& 31)))) h0 _ := ⟨rfl, N1048, rfl⟩
  exact own_retI X1048 hx hlk hrt (hb hby d24_10) e1048 hq1049 (by decide) (by decide)
def Q25d1 (Z : State) (G1 : Int32) (G2 : Value) (a1 : Addr) (h0 : Heap) (n0 : Nat) (v : Option Value) (h : Heap) (L : List Loc) : Prop := v = some (.int (1 : Int32)) ∧ Fr n0 L ∧ h = h0
set_option maxRecDepth 65536 in
set_option maxHeartbeats 40000000 in
theorem rm25d1 (l : Launch) (Z : State) (a0 : Array Value) (hw : OW a0 Z) (ws : List Jvm.Cond) (G1 : Int32) (G2 : Value) (a1 : Addr) (h0 : Heap) (n0 : Nat) (Z0 : n0 ≤ h0.size) (OLD : Old Z n0 h0) (A : Amb Z G1 G2) (P0 : fl13 Z h0 a1 (.int (1 : Int32))) :
    own_Met l my25 jdk_42_method_152_code 1 (some .byte) ws (own_rm 0 0 0 0) #[(.ref a1)] Z h0 (Q25d1 Z G1 G2 a1 h0 n0) 0 0 := by
  refine own_body (plainFor_of_name pn_5) (fun m => by first | (simp [entryFrame, mkF, argsToLocals, Value.category]; done) | rfl) (Ls := #[.val (.ref a1)]) fun p e s m below meth c s₁ X0 hx hby hml hZ e0 hown hnm hlk hrt => ?_
  have N0 := Fr.nil n0
  have lt_P0 : @LT.lt Nat _ a1 (Array.size h0) := P0.lt
  have f1050 : Sta Z h0 "java/lang/String" "COMPACT_STRINGS" "Z" (.int G1) := Sta.ext OLD.2 (Amb.a0 A)
  refine own_gS X0 hx hZ hown (host := "") (Or.inl (wd151 hw)) Via.refl e0 f1050 3 (hb hby d25_0) rfl fun T1051 X1051 e1051 => ?_
  refine own_iN 6 X1051 hx (hb hby d25_3) rfl ((if0 _ _).trans (feq (Amb.g1 A)).1) rfl ?_
  refine own_ru 7 [(.ref a1)] X1051 hx hby e25_6_1 rfl rfl ?_
  refine own_gF X1051 hx hZ hown (host := "") (Or.inl (wd121 hw)) Via.refl e1051 P0 10 rfl (hb hby d25_7) rfl fun T1052 X1052 e1052 => ?_
  refine own_go 14 X1052 hx (hb hby d25_10) (by decide) (by decide) ?_
  have hq1053 : Q25d1 Z G1 G2 a1 h0 n0 (some (.int (nar .byte (1 : Int32)))) h0 _ := ⟨rfl, N0, rfl⟩
  exact own_retN X1052 hx hlk (t := .byte) hrt (by simp) (hb hby d25_14) e1052 hq1053 (by decide) (by decide)
def Q24d1 (Z : State) (G1 : Int32) (G2 : Value) (a1 : Addr) (ta : Addr) (kt : ClassId) (zz : Int32) (vs : List Value) (h0 : Heap) (n0 : Nat) (v : Option Value) (h : Heap) (L : List Loc) : Prop := v = some (.int (zz >>> ((1 : Int32) &&& 31))) ∧ Fr n0 L ∧ h = h0
set_option maxRecDepth 65536 in
set_option maxHeartbeats 40000000 in
theorem rm24d1 (l : Launch) (Z : State) (a0 : Array Value) (hw : OW a0 Z) (ws : List Jvm.Cond) (G1 : Int32) (G2 : Value) (a1 : Addr) (ta : Addr) (kt : ClassId) (zz : Int32) (vs : List Value) (h0 : Heap) (n0 : Nat) (Z0 : n0 ≤ h0.size) (OLD : Old Z n0 h0) (A : Amb Z G1 G2) (P0 : ex14 Z h0 a1) (P1 : fl15 Z h0 a1 (.ref ta)) (P2 : fl13 Z h0 a1 (.int (1 : Int32))) (P3 : Arv Z h0 ta kt .byte zz vs (.int (0 : Int32))) :
    own_Met l my24 jdk_42_method_54_code 1 (some .int) ws (own_rm 1 0 0 13) #[(.ref a1)] Z h0 (Q24d1 Z G1 G2 a1 ta kt zz vs h0 n0) 0 0 := by
  refine own_body (plainFor_of_name pn_5) (fun m => by first | (simp [entryFrame, mkF, argsToLocals, Value.category]; done) | rfl) (Ls := #[.val (.ref a1)]) fun p e s m below meth c s₁ X0 hx hby hml hZ e0 hown hnm hlk hrt => ?_
  have N0 := Fr.nil n0
  have lt_P0 : @LT.lt Nat _ a1 (Array.size h0) := P0.lt
  have lt_P3 : @LT.lt Nat _ ta (Array.size h0) := P3.lt
  refine own_ru 1 [(.ref a1)] X0 hx hby e24_0_1 rfl rfl ?_
  refine own_gF X0 hx hZ hown (host := "") (Or.inl (wd135 hw)) Via.refl e0 P1 4 rfl (hb hby d24_1) rfl fun T1054 X1054 e1054 => ?_
  refine own_aL X1054 hx hZ e1054 P3 5 rfl (hb hby d24_4) rfl ?_
  refine own_ru 6 [(.ref a1), (.int zz)] X1054 hx hby e24_5_1 rfl rfl ?_
  refine own_cV X1054 hx hZ hown (wd146 hw) (wd147 hw) (notFace_of_selects (args := #[]) (mvT hZ (wd149 hw))) (wd149 hw) (wd148 hw) (by decide) (wd150 hw) (wd61 hw) (rm25d1 l Z a0 hw [] G1 G2 a1 h0 n0 (by omega) OLD A P2) e1054 P0 [] [(.int zz)] 9 1 (hb hby d24_6) rfl (by rw [hml]; rfl) rfl rfl (lenOf pd_27 rfl) rfl (by decide) fun v1055 T1055 Lc1055 X1055 hQ1055 => ?_
  obtain ⟨rfl, N1055q, e1055⟩ := hQ1055
  have N1055 := Fr.app N0 N1055q
  refine own_ru 10 [(.int (zz >>> ((1 : Int32) &&& 31)))] X1055 hx hby e24_9_1 rfl rfl ?_
  have hq1056 : Q24d1 Z G1 G2 a1 ta kt zz vs h0 n0 (some (.int (zz >>> ((1 : Int32) &&& 31)))) h0 _ := ⟨rfl, N1055, rfl⟩
  exact own_retI X1055 hx hlk hrt (hb hby d24_10) e1055 hq1056 (by decide) (by decide)
abbrev my29 : MethodName := (⟨"java/lang/StringLatin1", "charAt", "([BI)C"⟩ : MethodName)
theorem d29_2 : decode jdk_43_method_2_code 2 = .ok (.arraylength, 1) := by decide +kernel
theorem d29_3 : decode jdk_43_method_2_code 3 = .ok (.invokestatic 9, 3) := by decide +kernel
theorem d29_8 : decode jdk_43_method_2_code 8 = .ok (.baload, 1) := by decide +kernel
theorem d29_14 : decode jdk_43_method_2_code 14 = .ok (.ireturn, 1) := by decide +kernel
theorem e29_0_2 : own_dec jdk_43_method_2_code 0 [(.iload_n 1, 1), (.aload_n 0, 1)] = true := by decide +kernel
theorem e29_6_2 : own_dec jdk_43_method_2_code 6 [(.aload_n 0, 1), (.iload_n 1, 1)] = true := by decide +kernel
theorem e29_9_3 : own_dec jdk_43_method_2_code 9 [(.sipush 255, 3), (.iand, 1), (.i2c, 1)] = true := by decide +kernel
def Q29 (Z : State) (G1 : Int32) (G2 : Value) (ta : Addr) (j1 : Int32) (kt : ClassId) (zz : Int32) (vs : List Value) (y1 : Int32) (h0 : Heap) (n0 : Nat) (v : Option Value) (h : Heap) (L : List Loc) : Prop := v = some (.int (own_lc y1)) ∧ Fr n0 L ∧ h = h0
set_option maxRecDepth 65536 in
set_option maxHeartbeats 40000000 in
theorem rm29 (l : Launch) (Z : State) (a0 : Array Value) (hw : OW a0 Z) (ws : List Jvm.Cond) (G1 : Int32) (G2 : Value) (ta : Addr) (j1 : Int32) (kt : ClassId) (zz : Int32) (vs : List Value) (y1 : Int32) (h0 : Heap) (n0 : Nat) (Z0 : n0 ≤ h0.size) (OLD : Old Z n0 h0) (A : Amb Z G1 G2) (P0 : Arv Z h0 ta kt .byte zz vs (.int (0 : Int32))) (hi0 : ¬ j1 < (0 : Int32)) (hi1 : j1 < zz) (hv : vs.getD (j1).toNatClampNeg (.int (0 : Int32)) = .int y1) :
    own_Met l my29 jdk_43_method_2_code 2 (some .char) ws (own_rm 2 0 0 27) #[(.ref ta), (.int j1)] Z h0 (Q29 Z G1 G2 ta j1 kt zz vs y1 h0 n0) 0 0 := by
  refine own_body (plainFor_of_name pn_6) (fun m => by first | (simp [entryFrame, mkF, argsToLocals, Value.category]; done) | rfl) (Ls := #[.val (.ref ta), .val (.int j1)]) fun p e s m below meth c s₁ X0 hx hby hml hZ e0 hown hnm hlk hrt => ?_
  have N0 := Fr.nil n0
  have lt_P0 : @LT.lt Nat _ ta (Array.size h0) := P0.lt
  refine own_ru 2 [(.ref ta), (.int j1)] X0 hx hby e29_0_2 rfl rfl ?_
  refine own_aL X0 hx hZ e0 P0 3 rfl (hb hby d29_2) rfl ?_
  refine own_cS X0 hx hZ hown (wd168 hw) (wd169 hw) (by decide) (wd170 hw) (wd61 hw) (rm30 l Z a0 hw [] G1 G2 j1 zz h0 n0 (by omega) OLD A hi0 hi1) e0  [(.int j1), (.int zz)] [] 6 0 (hb hby d29_3) rfl (by rw [hml]; rfl) rfl rfl (lenOf pd_6 rfl) rfl (by decide) fun v1057 T1057 Lc1057 X1057 hQ1057 => ?_
  obtain ⟨rfl, N1057q, e1057⟩ := hQ1057
  have N1057 := Fr.app N0 N1057q
  refine own_ru 8 [(.int j1), (.ref ta)] X1057 hx hby e29_6_2 rfl rfl ?_
  refine own_bL X1057 hx hZ e1057 P0 (x := y1) 9 rfl (hb hby d29_8) rfl ⟨hi0, hi1⟩ hv ?_
  refine own_ru 14 [(.int ((y1 &&& (255 : Int32)).toUInt32.toUInt16.toUInt32.toInt32))] X1057 hx hby e29_9_3 rfl rfl ?_
  have hq1058 : Q29 Z G1 G2 ta j1 kt zz vs y1 h0 n0 (some (.int (nar .char ((y1 &&& (255 : Int32)).toUInt32.toUInt16.toUInt32.toInt32)))) h0 _ := ⟨rfl, N1057, rfl⟩
  exact own_retN X1057 hx hlk (t := .char) hrt (by simp) (hb hby d29_14) e1057 hq1058 (by decide) (by decide)
abbrev my47 : MethodName := (⟨"java/lang/StringUTF16", "getChar", "([BI)C"⟩ : MethodName)
theorem d47_0 : decode jdk_52_method_5_code 0 = .ok (.getstatic 44, 3) := by decide +kernel
theorem d47_3 : decode jdk_52_method_5_code 3 = .ok (.ifCond .ne 25, 3) := by decide +kernel
theorem d47_37 : decode jdk_52_method_5_code 37 = .ok (.baload, 1) := by decide +kernel
theorem d47_42 : decode jdk_52_method_5_code 42 = .ok (.getstatic 59, 3) := by decide +kernel
theorem d47_48 : decode jdk_52_method_5_code 48 = .ok (.baload, 1) := by decide +kernel
theorem d47_53 : decode jdk_52_method_5_code 53 = .ok (.getstatic 63, 3) := by decide +kernel
theorem d47_59 : decode jdk_52_method_5_code 59 = .ok (.ireturn, 1) := by decide +kernel
theorem e47_28_7 : own_dec jdk_52_method_5_code 28 [(.iload_n 1, 1), (.iconst 1, 1), (.ishl, 1), (.istore_n 1, 1), (.aload_n 0, 1), (.iload_n 1, 1), (.iinc 1 1, 3)] = true := by decide +kernel
theorem e47_38_2 : own_dec jdk_52_method_5_code 38 [(.sipush 255, 3), (.iand, 1)] = true := by decide +kernel
theorem e47_45_3 : own_dec jdk_52_method_5_code 45 [(.ishl, 1), (.aload_n 0, 1), (.iload_n 1, 1)] = true := by decide +kernel
theorem e47_49_2 : own_dec jdk_52_method_5_code 49 [(.sipush 255, 3), (.iand, 1)] = true := by decide +kernel
theorem e47_56_3 : own_dec jdk_52_method_5_code 56 [(.ishl, 1), (.ior, 1), (.i2c, 1)] = true := by decide +kernel
def Q47 (Z : State) (G1 : Int32) (G2 : Value) (ta : Addr) (j1 : Int32) (kt : ClassId) (zz : Int32) (vs : List Value) (y1 : Int32) (z1 : Int32) (h0 : Heap) (n0 : Nat) (v : Option Value) (h : Heap) (L : List Loc) : Prop := v = some (.int (own_u y1 z1)) ∧ Fr n0 L ∧ h = h0
set_option maxRecDepth 65536 in
set_option maxHeartbeats 40000000 in
theorem rm47 (l : Launch) (Z : State) (a0 : Array Value) (hw : OW a0 Z) (ws : List Jvm.Cond) (G1 : Int32) (G2 : Value) (ta : Addr) (j1 : Int32) (kt : ClassId) (zz : Int32) (vs : List Value) (y1 : Int32) (z1 : Int32) (h0 : Heap) (n0 : Nat) (Z0 : n0 ≤ h0.size) (OLD : Old Z n0 h0) (A : Amb Z G1 G2) (P0 : Arv Z h0 ta kt .byte zz vs (.int (0 : Int32))) (hu0 : ¬ (j1 <<< ((1 : Int32) &&& 31)) < (0 : Int32) ∧ (j1 <<< ((1 : Int32) &&& 31)) < zz) (hu1 : ¬ ((j1 <<< ((1 : Int32) &&& 31)) + (1 : Int32)) < (0 : Int32) ∧ ((j1 <<< ((1 : Int32) &&& 31)) + (1 : Int32)) < zz) (hv : vs.getD ((j1 <<< ((1 : Int32) &&& 31))).toNatClampNeg (.int (0 : Int32)) = .int y1) (hw1 : vs.getD (((j1 <<< ((1 : Int32) &&& 31)) + (1 : Int32))).toNatClampNeg (.int (0 : Int32)) = .int z1) :
    own_Met l my47 jdk_52_method_5_code 2 (some .char) ws (own_rm 0 0 0 0) #[(.ref ta), (.int j1)] Z h0 (Q47 Z G1 G2 ta j1 kt zz vs y1 z1 h0 n0) 0 0 := by
  refine own_body (plainFor_of_name pn_7) (fun m => by first | (simp [entryFrame, mkF, argsToLocals, Value.category]; done) | rfl) (Ls := #[.val (.ref ta), .val (.int j1)]) fun p e s m below meth c s₁ X0 hx hby hml hZ e0 hown hnm hlk hrt => ?_
  have N0 := Fr.nil n0
  have lt_P0 : @LT.lt Nat _ ta (Array.size h0) := P0.lt
  have f1059 : Sta Z h0 "java/lang/StringUTF16" "$assertionsDisabled" "Z" (.int (1 : Int32)) := Sta.ext OLD.2 (Amb.a2 A)
  refine own_gS X0 hx hZ hown (host := "") (Or.inl (wd219 hw)) Via.refl e0 f1059 3 (hb hby d47_0) rfl fun T1060 X1060 e1060 => ?_
  refine own_iY 28 X1060 hx (hb hby d47_3) rfl ((if0 _ _).trans (feq (by decide : ¬ ((1 : Int32) = (0 : Int32)))).2) (by decide) (by decide) ?_
  refine own_rl 37 #[.val (.ref ta), .val (.int ((j1 <<< ((1 : Int32) &&& 31)) + (1 : Int32)))] [(.int (j1 <<< ((1 : Int32) &&& 31))), (.ref ta)] X1060 hx hby e47_28_7 rfl rfl ?_
  refine own_bL X1060 hx hZ e1060 P0 (x := y1) 38 rfl (hb hby d47_37) rfl hu0 hv ?_
  refine own_ru 42 [(.int (y1 &&& (255 : Int32)))] X1060 hx hby e47_38_2 rfl rfl ?_
  have f1061 : Sta Z h0 "java/lang/StringUTF16" "HI_BYTE_SHIFT" "I" (.int (0 : Int32)) := Sta.ext OLD.2 (Amb.a3 A)
  refine own_gS X1060 hx hZ hown (host := "") (Or.inl (wd220 hw)) Via.refl e1060 f1061 45 (hb hby d47_42) rfl fun T1062 X1062 e1062 => ?_
  refine own_ru 48 [(.int ((j1 <<< ((1 : Int32) &&& 31)) + (1 : Int32))), (.ref ta), (.int ((y1 &&& (255 : Int32)) <<< ((0 : Int32) &&& 31)))] X1062 hx hby e47_45_3 rfl rfl ?_
  refine own_bL X1062 hx hZ e1062 P0 (x := z1) 49 rfl (hb hby d47_48) rfl hu1 hw1 ?_
  refine own_ru 53 [(.int (z1 &&& (255 : Int32))), (.int ((y1 &&& (255 : Int32)) <<< ((0 : Int32) &&& 31)))] X1062 hx hby e47_49_2 rfl rfl ?_
  have f1063 : Sta Z h0 "java/lang/StringUTF16" "LO_BYTE_SHIFT" "I" (.int (8 : Int32)) := Sta.ext OLD.2 (Amb.a4 A)
  refine own_gS X1062 hx hZ hown (host := "") (Or.inl (wd221 hw)) Via.refl e1062 f1063 56 (hb hby d47_53) rfl fun T1064 X1064 e1064 => ?_
  refine own_ru 59 [(.int ((((y1 &&& (255 : Int32)) <<< ((0 : Int32) &&& 31)) ||| ((z1 &&& (255 : Int32)) <<< ((8 : Int32) &&& 31))).toUInt32.toUInt16.toUInt32.toInt32))] X1064 hx hby e47_56_3 rfl rfl ?_
  have hq1065 : Q47 Z G1 G2 ta j1 kt zz vs y1 z1 h0 n0 (some (.int (nar .char ((((y1 &&& (255 : Int32)) <<< ((0 : Int32) &&& 31)) ||| ((z1 &&& (255 : Int32)) <<< ((8 : Int32) &&& 31))).toUInt32.toUInt16.toUInt32.toInt32)))) h0 _ := ⟨rfl, N0, rfl⟩
  exact own_retN X1064 hx hlk (t := .char) hrt (by simp) (hb hby d47_59) e1064 hq1065 (by decide) (by decide)
abbrev my46 : MethodName := (⟨"java/lang/StringUTF16", "charAt", "([BI)C"⟩ : MethodName)
theorem d46_2 : decode jdk_52_method_83_code 2 = .ok (.invokestatic 67, 3) := by decide +kernel
theorem d46_7 : decode jdk_52_method_83_code 7 = .ok (.invokestatic 71, 3) := by decide +kernel
theorem d46_10 : decode jdk_52_method_83_code 10 = .ok (.ireturn, 1) := by decide +kernel
theorem e46_0_2 : own_dec jdk_52_method_83_code 0 [(.iload_n 1, 1), (.aload_n 0, 1)] = true := by decide +kernel
theorem e46_5_2 : own_dec jdk_52_method_83_code 5 [(.aload_n 0, 1), (.iload_n 1, 1)] = true := by decide +kernel
theorem pd_28 : parseMethodDescriptor "([BI)C" = some ⟨[(.array .byte), .int], some .char⟩ := by decide +kernel
def Q46 (Z : State) (G1 : Int32) (G2 : Value) (ta : Addr) (j1 : Int32) (kt : ClassId) (zz : Int32) (vs : List Value) (y1 : Int32) (z1 : Int32) (h0 : Heap) (n0 : Nat) (v : Option Value) (h : Heap) (L : List Loc) : Prop := v = some (.int (own_u y1 z1)) ∧ Fr n0 L ∧ h = h0
set_option maxRecDepth 65536 in
set_option maxHeartbeats 40000000 in
theorem rm46 (l : Launch) (Z : State) (a0 : Array Value) (hw : OW a0 Z) (ws : List Jvm.Cond) (G1 : Int32) (G2 : Value) (ta : Addr) (j1 : Int32) (kt : ClassId) (zz : Int32) (vs : List Value) (y1 : Int32) (z1 : Int32) (h0 : Heap) (n0 : Nat) (Z0 : n0 ≤ h0.size) (OLD : Old Z n0 h0) (A : Amb Z G1 G2) (P0 : Arv Z h0 ta kt .byte zz vs (.int (0 : Int32))) (hi0 : ¬ j1 < (0 : Int32)) (hi1 : j1 < (zz >>> ((1 : Int32) &&& 31))) (hu0 : ¬ (j1 <<< ((1 : Int32) &&& 31)) < (0 : Int32) ∧ (j1 <<< ((1 : Int32) &&& 31)) < zz) (hu1 : ¬ ((j1 <<< ((1 : Int32) &&& 31)) + (1 : Int32)) < (0 : Int32) ∧ ((j1 <<< ((1 : Int32) &&& 31)) + (1 : Int32)) < zz) (hv : vs.getD ((j1 <<< ((1 : Int32) &&& 31))).toNatClampNeg (.int (0 : Int32)) = .int y1) (hw1 : vs.getD (((j1 <<< ((1 : Int32) &&& 31)) + (1 : Int32))).toNatClampNeg (.int (0 : Int32)) = .int z1) :
    own_Met l my46 jdk_52_method_83_code 2 (some .char) ws (own_rm 3 0 0 40) #[(.ref ta), (.int j1)] Z h0 (Q46 Z G1 G2 ta j1 kt zz vs y1 z1 h0 n0) 0 0 := by
  refine own_body (plainFor_of_name pn_7) (fun m => by first | (simp [entryFrame, mkF, argsToLocals, Value.category]; done) | rfl) (Ls := #[.val (.ref ta), .val (.int j1)]) fun p e s m below meth c s₁ X0 hx hby hml hZ e0 hown hnm hlk hrt => ?_
  have N0 := Fr.nil n0
  have lt_P0 : @LT.lt Nat _ ta (Array.size h0) := P0.lt
  refine own_ru 2 [(.ref ta), (.int j1)] X0 hx hby e46_0_2 rfl rfl ?_
  refine own_cS X0 hx hZ hown (wd225 hw) (wd226 hw) (by decide) (wd227 hw) (wd192 hw) (rm45 l Z a0 hw [] G1 G2 j1 ta kt zz vs h0 n0 (by omega) OLD A P0 hi0 hi1) e0  [(.int j1), (.ref ta)] [] 5 0 (hb hby d46_2) rfl (by rw [hml]; rfl) rfl rfl (lenOf pd_7 rfl) rfl (by decide) fun v1066 T1066 Lc1066 X1066 hQ1066 => ?_
  obtain ⟨rfl, N1066q, e1066⟩ := hQ1066
  have N1066 := Fr.app N0 N1066q
  refine own_ru 7 [(.int j1), (.ref ta)] X1066 hx hby e46_5_2 rfl rfl ?_
  refine own_cS X1066 hx hZ hown (wd234 hw) (wd235 hw) (by decide) (wd236 hw) (wd192 hw) (rm47 l Z a0 hw [] G1 G2 ta j1 kt zz vs y1 z1 h0 n0 (by omega) OLD A P0 hu0 hu1 hv hw1) e1066  [(.ref ta), (.int j1)] [] 10 0 (hb hby d46_7) rfl (by rw [hml]; rfl) rfl rfl (lenOf pd_28 rfl) rfl (by decide) fun v1067 T1067 Lc1067 X1067 hQ1067 => ?_
  obtain ⟨rfl, N1067q, e1067⟩ := hQ1067
  have N1067 := Fr.app N1066 N1067q
  have hq1068 : Q46 Z G1 G2 ta j1 kt zz vs y1 z1 h0 n0 (some (.int (nar .char (own_u y1 z1)))) h0 _ := ⟨(congrArg (fun z => some (Value.int z)) (own_nn _)), N1067, rfl⟩
  exact own_retN X1067 hx hlk (t := .char) hrt (by simp) (hb hby d46_10) e1067 hq1068 (by decide) (by decide)
abbrev my27 : MethodName := (⟨"java/lang/String", "charAt", "(I)C"⟩ : MethodName)
theorem d27_1 : decode jdk_42_method_56_code 1 = .ok (.invokevirtual 492, 3) := by decide +kernel
theorem d27_4 : decode jdk_42_method_56_code 4 = .ok (.ifCond .eq 12, 3) := by decide +kernel
theorem d27_8 : decode jdk_42_method_56_code 8 = .ok (.getfield 9, 3) := by decide +kernel
theorem d27_12 : decode jdk_42_method_56_code 12 = .ok (.invokestatic 495, 3) := by decide +kernel
theorem d27_15 : decode jdk_42_method_56_code 15 = .ok (.ireturn, 1) := by decide +kernel
theorem e27_0_1 : own_dec jdk_42_method_56_code 0 [(.aload_n 0, 1)] = true := by decide +kernel
theorem e27_7_1 : own_dec jdk_42_method_56_code 7 [(.aload_n 0, 1)] = true := by decide +kernel
theorem e27_11_1 : own_dec jdk_42_method_56_code 11 [(.iload_n 1, 1)] = true := by decide +kernel
def Q27l (Z : State) (G1 : Int32) (G2 : Value) (a1 : Addr) (j1 : Int32) (ta : Addr) (kt : ClassId) (zz : Int32) (vs : List Value) (y1 : Int32) (h0 : Heap) (n0 : Nat) (v : Option Value) (h : Heap) (L : List Loc) : Prop := v = some (.int (own_lc y1)) ∧ Fr n0 L ∧ h = h0
set_option maxRecDepth 65536 in
set_option maxHeartbeats 40000000 in
theorem rm27l (l : Launch) (Z : State) (a0 : Array Value) (hw : OW a0 Z) (ws : List Jvm.Cond) (G1 : Int32) (G2 : Value) (a1 : Addr) (j1 : Int32) (ta : Addr) (kt : ClassId) (zz : Int32) (vs : List Value) (y1 : Int32) (h0 : Heap) (n0 : Nat) (Z0 : n0 ≤ h0.size) (OLD : Old Z n0 h0) (A : Amb Z G1 G2) (P0 : ex14 Z h0 a1) (P1 : fl15 Z h0 a1 (.ref ta)) (P2 : fl13 Z h0 a1 (.int (0 : Int32))) (P3 : Arv Z h0 ta kt .byte zz vs (.int (0 : Int32))) (hi0 : ¬ j1 < (0 : Int32)) (hi1 : j1 < zz) (hv : vs.getD (j1).toNatClampNeg (.int (0 : Int32)) = .int y1) :
    own_Met l my27 jdk_42_method_56_code 2 (some .char) ws (own_rm 3 0 0 40) #[(.ref a1), (.int j1)] Z h0 (Q27l Z G1 G2 a1 j1 ta kt zz vs y1 h0 n0) 0 0 := by
  refine own_body (plainFor_of_name pn_5) (fun m => by first | (simp [entryFrame, mkF, argsToLocals, Value.category]; done) | rfl) (Ls := #[.val (.ref a1), .val (.int j1)]) fun p e s m below meth c s₁ X0 hx hby hml hZ e0 hown hnm hlk hrt => ?_
  have N0 := Fr.nil n0
  have lt_P0 : @LT.lt Nat _ a1 (Array.size h0) := P0.lt
  have lt_P3 : @LT.lt Nat _ ta (Array.size h0) := P3.lt
  refine own_ru 1 [(.ref a1)] X0 hx hby e27_0_1 rfl rfl ?_
  refine own_cV X0 hx hZ hown (wd160 hw) (wd161 hw) (notFace_of_selects (args := #[]) (mvT hZ (wd163 hw))) (wd163 hw) (wd162 hw) (by decide) (wd164 hw) (wd61 hw) (rm28d0 l Z a0 hw [] G1 G2 a1 h0 n0 (by omega) OLD A P2) e0 P0 [] [] 4 0 (hb hby d27_1) rfl (by rw [hml]; rfl) rfl rfl (lenOf pd_14 rfl) rfl (by decide) fun v1069 T1069 Lc1069 X1069 hQ1069 => ?_
  obtain ⟨rfl, N1069q, e1069⟩ := hQ1069
  have N1069 := Fr.app N0 N1069q
  refine own_iN 7 X1069 hx (hb hby d27_4) rfl ((if0 _ _).trans (feq (by decide : ¬ ((1 : Int32) = (0 : Int32)))).1) rfl ?_
  refine own_ru 8 [(.ref a1)] X1069 hx hby e27_7_1 rfl rfl ?_
  refine own_gF X1069 hx hZ hown (host := "") (Or.inl (wd135 hw)) Via.refl e1069 P1 11 rfl (hb hby d27_8) rfl fun T1070 X1070 e1070 => ?_
  refine own_ru 12 [(.int j1), (.ref ta)] X1070 hx hby e27_11_1 rfl rfl ?_
  refine own_cS X1070 hx hZ hown (wd165 hw) (wd166 hw) (by decide) (wd167 hw) (wd90 hw) (rm29 l Z a0 hw [] G1 G2 ta j1 kt zz vs y1 h0 n0 (by omega) OLD A P3 hi0 hi1 hv) e1070  [(.ref ta), (.int j1)] [] 15 0 (hb hby d27_12) rfl (by rw [hml]; rfl) rfl rfl (lenOf pd_28 rfl) rfl (by decide) fun v1071 T1071 Lc1071 X1071 hQ1071 => ?_
  obtain ⟨rfl, N1071q, e1071⟩ := hQ1071
  have N1071 := Fr.app N1069 N1071q
  have hq1072 : Q27l Z G1 G2 a1 j1 ta kt zz vs y1 h0 n0 (some (.int (nar .char (own_lc y1)))) h0 _ := ⟨(congrArg (fun z => some (Value.int z)) (own_nn _)), N1071, rfl⟩
  exact own_retN X1071 hx hlk (t := .char) hrt (by simp) (hb hby d27_15) e1071 hq1072 (by decide) (by decide)
theorem d27_17 : decode jdk_42_method_56_code 17 = .ok (.getfield 9, 3) := by decide +kernel
theorem d27_21 : decode jdk_42_method_56_code 21 = .ok (.invokestatic 498, 3) := by decide +kernel
theorem d27_24 : decode jdk_42_method_56_code 24 = .ok (.ireturn, 1) := by decide +kernel
theorem e27_16_1 : own_dec jdk_42_method_56_code 16 [(.aload_n 0, 1)] = true := by decide +kernel
theorem e27_20_1 : own_dec jdk_42_method_56_code 20 [(.iload_n 1, 1)] = true := by decide +kernel
def Q27u (Z : State) (G1 : Int32) (G2 : Value) (a1 : Addr) (j1 : Int32) (ta : Addr) (kt : ClassId) (zz : Int32) (vs : List Value) (y1 : Int32) (z1 : Int32) (h0 : Heap) (n0 : Nat) (v : Option Value) (h : Heap) (L : List Loc) : Prop := v = some (.int (own_u y1 z1)) ∧ Fr n0 L ∧ h = h0
set_option maxRecDepth 65536 in
set_option maxHeartbeats 40000000 in
theorem rm27u (l : Launch) (Z : State) (a0 : Array Value) (hw : OW a0 Z) (ws : List Jvm.Cond) (G1 : Int32) (G2 : Value) (a1 : Addr) (j1 : Int32) (ta : Addr) (kt : ClassId) (zz : Int32) (vs : List Value) (y1 : Int32) (z1 : Int32) (h0 : Heap) (n0 : Nat) (Z0 : n0 ≤ h0.size) (OLD : Old Z n0 h0) (A : Amb Z G1 G2) (P0 : ex14 Z h0 a1) (P1 : fl15 Z h0 a1 (.ref ta)) (P2 : fl13 Z h0 a1 (.int (1 : Int32))) (P3 : Arv Z h0 ta kt .byte zz vs (.int (0 : Int32))) (hi0 : ¬ j1 < (0 : Int32)) (hi1 : j1 < (zz >>> ((1 : Int32) &&& 31))) (hu0 : ¬ (j1 <<< ((1 : Int32) &&& 31)) < (0 : Int32) ∧ (j1 <<< ((1 : Int32) &&& 31)) < zz) (hu1 : ¬ ((j1 <<< ((1 : Int32) &&& 31)) + (1 : Int32)) < (0 : Int32) ∧ ((j1 <<< ((1 : Int32) &&& 31)) + (1 : Int32)) < zz) (hv : vs.getD ((j1 <<< ((1 : Int32) &&& 31))).toNatClampNeg (.int (0 : Int32)) = .int y1) (hw1 : vs.getD (((j1 <<< ((1 : Int32) &&& 31)) + (1 : Int32))).toNatClampNeg (.int (0 : Int32)) = .int z1) :
    own_Met l my27 jdk_42_method_56_code 2 (some .char) ws (own_rm 4 0 0 53) #[(.ref a1), (.int j1)] Z h0 (Q27u Z G1 G2 a1 j1 ta kt zz vs y1 z1 h0 n0) 0 0 := by
  refine own_body (plainFor_of_name pn_5) (fun m => by first | (simp [entryFrame, mkF, argsToLocals, Value.category]; done) | rfl) (Ls := #[.val (.ref a1), .val (.int j1)]) fun p e s m below meth c s₁ X0 hx hby hml hZ e0 hown hnm hlk hrt => ?_
  have N0 := Fr.nil n0
  have lt_P0 : @LT.lt Nat _ a1 (Array.size h0) := P0.lt
  have lt_P3 : @LT.lt Nat _ ta (Array.size h0) := P3.lt
  refine own_ru 1 [(.ref a1)] X0 hx hby e27_0_1 rfl rfl ?_
  refine own_cV X0 hx hZ hown (wd160 hw) (wd161 hw) (notFace_of_selects (args := #[]) (mvT hZ (wd163 hw))) (wd163 hw) (wd162 hw) (by decide) (wd164 hw) (wd61 hw) (rm28d1 l Z a0 hw [] G1 G2 a1 h0 n0 (by omega) OLD A P2) e0 P0 [] [] 4 0 (hb hby d27_1) rfl (by rw [hml]; rfl) rfl rfl (lenOf pd_14 rfl) rfl (by decide) fun v1073 T1073 Lc1073 X1073 hQ1073 => ?_
  obtain ⟨rfl, N1073q, e1073⟩ := hQ1073
  have N1073 := Fr.app N0 N1073q
  refine own_iY 16 X1073 hx (hb hby d27_4) rfl ((if0 _ _).trans (teq (by decide : ((0 : Int32) = (0 : Int32)))).1) (by decide) (by decide) ?_
  refine own_ru 17 [(.ref a1)] X1073 hx hby e27_16_1 rfl rfl ?_
  refine own_gF X1073 hx hZ hown (host := "") (Or.inl (wd135 hw)) Via.refl e1073 P1 20 rfl (hb hby d27_17) rfl fun T1074 X1074 e1074 => ?_
  refine own_ru 21 [(.int j1), (.ref ta)] X1074 hx hby e27_20_1 rfl rfl ?_
  refine own_cS X1074 hx hZ hown (wd231 hw) (wd232 hw) (by decide) (wd233 hw) (wd192 hw) (rm46 l Z a0 hw [] G1 G2 ta j1 kt zz vs y1 z1 h0 n0 (by omega) OLD A P3 hi0 hi1 hu0 hu1 hv hw1) e1074  [(.ref ta), (.int j1)] [] 24 0 (hb hby d27_21) rfl (by rw [hml]; rfl) rfl rfl (lenOf pd_28 rfl) rfl (by decide) fun v1075 T1075 Lc1075 X1075 hQ1075 => ?_
  obtain ⟨rfl, N1075q, e1075⟩ := hQ1075
  have N1075 := Fr.app N1073 N1075q
  have hq1076 : Q27u Z G1 G2 a1 j1 ta kt zz vs y1 z1 h0 n0 (some (.int (nar .char (own_u y1 z1)))) h0 _ := ⟨(congrArg (fun z => some (Value.int z)) (own_nn _)), N1075, rfl⟩
  exact own_retN X1075 hx hlk (t := .char) hrt (by simp) (hb hby d27_24) e1075 hq1076 (by decide) (by decide)
abbrev my32 : MethodName := (⟨"com/example/annotree/annotree/tree/SingleByteDecoderWithoutIndexPinLaw", "expect", "(B)C"⟩ : MethodName)
theorem d32_10 : decode method_3_code 10 = .ok (.if_icmp .ge 8, 3) := by decide +kernel
theorem d32_15 : decode method_3_code 15 = .ok (.goto 5, 3) := by decide +kernel
theorem d32_18 : decode method_3_code 18 = .ok (.ldc 23, 2) := by decide +kernel
theorem d32_20 : decode method_3_code 20 = .ok (.ireturn, 1) := by decide +kernel
theorem e32_0_6 : own_dec method_3_code 0 [(.iload_n 0, 1), (.sipush 255, 3), (.iand, 1), (.istore_n 1, 1), (.iload_n 1, 1), (.sipush 128, 3)] = true := by decide +kernel
theorem e32_13_2 : own_dec method_3_code 13 [(.iload_n 1, 1), (.i2c, 1)] = true := by decide +kernel
theorem pn_9 : plainName "com/example/annotree/annotree/tree/SingleByteDecoderWithoutIndexPinLaw" = true := by first | (simp [plainName, overriddenIn]; done) | decide +kernel
def Q32 (Z : State) (b1 : Int32) (h0 : Heap) (n0 : Nat) (v : Option Value) (h : Heap) (L : List Loc) : Prop := v = some (.int (own_exp b1)) ∧ Fr n0 L ∧ h = h0
set_option maxRecDepth 65536 in
set_option maxHeartbeats 40000000 in
theorem rm32 (l : Launch) (Z : State) (a0 : Array Value) (hw : OW a0 Z) (ws : List Jvm.Cond) (b1 : Int32) (h0 : Heap) (n0 : Nat) (Z0 : n0 ≤ h0.size)  :
    own_Met l my32 method_3_code 2 (some .char) ws (own_rm 0 0 0 0) #[(.int b1)] Z h0 (Q32 Z b1 h0 n0) 0 0 := by
  refine own_body (plainFor_of_name pn_9) (fun m => by first | (simp [entryFrame, mkF, argsToLocals, Value.category]; done) | rfl) (Ls := #[.val (.int b1), .unset]) fun p e s m below meth c s₁ X0 hx hby hml hZ e0 hown hnm hlk hrt => ?_
  have N0 := Fr.nil n0
  refine own_rl 10 #[.val (.int b1), .val (.int (b1 &&& (255 : Int32)))] [(.int (128 : Int32)), (.int (b1 &&& (255 : Int32)))] X0 hx hby e32_0_6 rfl rfl ?_
  by_cases hc10 : (b1 &&& (255 : Int32)) < (128 : Int32)
  · refine own_kN 13 X0 hx (hb hby d32_10) rfl (tlt hc10).2.1 rfl ?_
    refine own_ru 15 [(.int ((b1 &&& (255 : Int32)).toUInt32.toUInt16.toUInt32.toInt32))] X0 hx hby e32_13_2 rfl rfl ?_
    refine own_go 20 X0 hx (hb hby d32_15) (by decide) (by decide) ?_
    have hq1077 : Q32 Z b1 h0 n0 (some (.int (nar .char ((b1 &&& (255 : Int32)).toUInt32.toUInt16.toUInt32.toInt32)))) h0 _ := ⟨(own_ex1 hc10), N0, rfl⟩
    exact own_retN X0 hx hlk (t := .char) hrt (by simp) (hb hby d32_20) e0 hq1077 (by decide) (by decide)
  · refine own_kY 18 X0 hx (hb hby d32_10) rfl (flt hc10).2.1 (by decide) (by decide) ?_
    refine own_st 20 [(.int (65533 : Int32))] (X0.ldcInt hx hown (mvT hZ (wd237 hw)) (g := (mkF m 18 #[.val (.int b1), .val (.int (b1 &&& (255 : Int32)))] [])) rfl (hb hby d32_18)) ?_
    have hq1078 : Q32 Z b1 h0 n0 (some (.int (nar .char (65533 : Int32)))) h0 _ := ⟨(own_ex2 hc10), N0, rfl⟩
    exact own_retN X0 hx hlk (t := .char) hrt (by simp) (hb hby d32_20) e0 hq1078 (by decide) (by decide)
abbrev my26 : MethodName := (⟨"com/example/annotree/annotree/tree/SingleByteDecoderWithoutIndexPinLaw", "at", "(Ljava/lang/String;[BII)Z"⟩ : MethodName)
theorem d26_2 : decode method_4_code 2 = .ok (.if_icmp .lt 19, 3) := by decide +kernel
theorem d26_22 : decode method_4_code 22 = .ok (.goto 4, 3) := by decide +kernel
theorem d26_26 : decode method_4_code 26 = .ok (.ireturn, 1) := by decide +kernel
theorem e26_0_2 : own_dec method_4_code 0 [(.iload_n 3, 1), (.iload_n 2, 1)] = true := by decide +kernel
theorem e26_21_1 : own_dec method_4_code 21 [(.iconst 1, 1)] = true := by decide +kernel
def Q26k (Z : State) (a1 : Addr) (bb : Addr) (f1 : Int32) (ii : Int32) (h0 : Heap) (n0 : Nat) (v : Option Value) (h : Heap) (L : List Loc) : Prop := v = some (.int (1 : Int32)) ∧ Fr n0 L ∧ h = h0
set_option maxRecDepth 65536 in
set_option maxHeartbeats 40000000 in
theorem rm26k (l : Launch) (Z : State) (a0 : Array Value) (hw : OW a0 Z) (ws : List Jvm.Cond) (a1 : Addr) (bb : Addr) (f1 : Int32) (ii : Int32) (h0 : Heap) (n0 : Nat) (Z0 : n0 ≤ h0.size) (hsk : ii < f1) :
    own_Met l my26 method_4_code 4 (some .boolean) ws (own_rm 0 0 0 0) #[(.ref a1), (.ref bb), (.int f1), (.int ii)] Z h0 (Q26k Z a1 bb f1 ii h0 n0) 0 0 := by
  refine own_body (plainFor_of_name pn_9) (fun m => by first | (simp [entryFrame, mkF, argsToLocals, Value.category]; done) | rfl) (Ls := #[.val (.ref a1), .val (.ref bb), .val (.int f1), .val (.int ii)]) fun p e s m below meth c s₁ X0 hx hby hml hZ e0 hown hnm hlk hrt => ?_
  have N0 := Fr.nil n0
  refine own_ru 2 [(.int f1), (.int ii)] X0 hx hby e26_0_2 rfl rfl ?_
  refine own_kY 21 X0 hx (hb hby d26_2) rfl (tlt hsk).1 (by decide) (by decide) ?_
  refine own_ru 22 [(.int (1 : Int32))] X0 hx hby e26_21_1 rfl rfl ?_
  refine own_go 26 X0 hx (hb hby d26_22) (by decide) (by decide) ?_
  have hq1079 : Q26k Z a1 bb f1 ii h0 n0 (some (.int (nar .boolean (1 : Int32)))) h0 _ := ⟨rfl, N0, rfl⟩
  exact own_retN X0 hx hlk (t := .boolean) hrt (by simp) (hb hby d26_26) e0 hq1079 (by decide) (by decide)
theorem d26_9 : decode method_4_code 9 = .ok (.invokevirtual 24, 3) := by decide +kernel
theorem d26_14 : decode method_4_code 14 = .ok (.baload, 1) := by decide +kernel
theorem d26_15 : decode method_4_code 15 = .ok (.invokestatic 30, 3) := by decide +kernel
theorem d26_18 : decode method_4_code 18 = .ok (.if_icmp .ne 7, 3) := by decide +kernel
theorem e26_5_4 : own_dec method_4_code 5 [(.aload_n 0, 1), (.iload_n 3, 1), (.iload_n 2, 1), (.isub, 1)] = true := by decide +kernel
theorem e26_12_2 : own_dec method_4_code 12 [(.aload_n 1, 1), (.iload_n 3, 1)] = true := by decide +kernel
theorem pd_29 : parseMethodDescriptor "(I)C" = some ⟨[.int], some .char⟩ := by decide +kernel
theorem pd_30 : parseMethodDescriptor "(B)C" = some ⟨[.byte], some .char⟩ := by decide +kernel
def Q26l (Z : State) (G1 : Int32) (G2 : Value) (a1 : Addr) (bb : Addr) (f1 : Int32) (ii : Int32) (ta : Addr) (kt : ClassId) (zz : Int32) (vs : List Value) (kb : ClassId) (wb : List Value) (b1 : Int32) (y1 : Int32) (h0 : Heap) (n0 : Nat) (v : Option Value) (h : Heap) (L : List Loc) : Prop := v = some (.int (1 : Int32)) ∧ Fr n0 L ∧ h = h0
set_option maxRecDepth 65536 in
set_option maxHeartbeats 40000000 in
theorem rm26l (l : Launch) (Z : State) (a0 : Array Value) (hw : OW a0 Z) (ws : List Jvm.Cond) (G1 : Int32) (G2 : Value) (a1 : Addr) (bb : Addr) (f1 : Int32) (ii : Int32) (ta : Addr) (kt : ClassId) (zz : Int32) (vs : List Value) (kb : ClassId) (wb : List Value) (b1 : Int32) (y1 : Int32) (h0 : Heap) (n0 : Nat) (Z0 : n0 ≤ h0.size) (OLD : Old Z n0 h0) (A : Amb Z G1 G2) (P0 : ex14 Z h0 a1) (P1 : fl15 Z h0 a1 (.ref ta)) (P2 : fl13 Z h0 a1 (.int (0 : Int32))) (P3 : Arv Z h0 ta kt .byte zz vs (.int (0 : Int32))) (P4 : Arv Z h0 bb kb .byte (4 : Int32) wb (.int (0 : Int32))) (hsk : ¬ ii < f1) (hib : ¬ ii < (0 : Int32) ∧ ii < (4 : Int32)) (hbb : wb.getD (ii).toNatClampNeg (.int (0 : Int32)) = .int b1) (hi0 : ¬ (ii - f1) < (0 : Int32)) (hi1 : (ii - f1) < zz) (hv : vs.getD ((ii - f1)).toNatClampNeg (.int (0 : Int32)) = .int y1) (heq : (own_lc y1) = (own_exp b1)) :
    own_Met l my26 method_4_code 4 (some .boolean) ws (own_rm 4 0 0 53) #[(.ref a1), (.ref bb), (.int f1), (.int ii)] Z h0 (Q26l Z G1 G2 a1 bb f1 ii ta kt zz vs kb wb b1 y1 h0 n0) 0 0 := by
  refine own_body (plainFor_of_name pn_9) (fun m => by first | (simp [entryFrame, mkF, argsToLocals, Value.category]; done) | rfl) (Ls := #[.val (.ref a1), .val (.ref bb), .val (.int f1), .val (.int ii)]) fun p e s m below meth c s₁ X0 hx hby hml hZ e0 hown hnm hlk hrt => ?_
  have N0 := Fr.nil n0
  have lt_P0 : @LT.lt Nat _ a1 (Array.size h0) := P0.lt
  have lt_P3 : @LT.lt Nat _ ta (Array.size h0) := P3.lt
  have lt_P4 : @LT.lt Nat _ bb (Array.size h0) := P4.lt
  refine own_ru 2 [(.int f1), (.int ii)] X0 hx hby e26_0_2 rfl rfl ?_
  refine own_kN 5 X0 hx (hb hby d26_2) rfl (flt hsk).1 rfl ?_
  refine own_ru 9 [(.int (ii - f1)), (.ref a1)] X0 hx hby e26_5_4 rfl rfl ?_
  refine own_cV X0 hx hZ hown (wd155 hw) (wd156 hw) (notFace_of_selects (args := #[]) (mvT hZ (wd158 hw))) (wd158 hw) (wd157 hw) (by decide) (wd159 hw) (wd61 hw) (rm27l l Z a0 hw [] G1 G2 a1 (ii - f1) ta kt zz vs y1 h0 n0 (by omega) OLD A P0 P1 P2 P3 hi0 hi1 hv) e0 P0 [(.int (ii - f1))] [] 12 0 (hb hby d26_9) rfl (by rw [hml]; rfl) rfl rfl (lenOf pd_29 rfl) rfl (by decide) fun v1080 T1080 Lc1080 X1080 hQ1080 => ?_
  obtain ⟨rfl, N1080q, e1080⟩ := hQ1080
  have N1080 := Fr.app N0 N1080q
  refine own_ru 14 [(.int ii), (.ref bb), (.int (own_lc y1))] X1080 hx hby e26_12_2 rfl rfl ?_
  refine own_bL X1080 hx hZ e1080 P4 (x := b1) 15 rfl (hb hby d26_14) rfl hib hbb ?_
  refine own_cS X1080 hx hZ hown (wd176 hw) (wd177 hw) (by decide) (wd178 hw) (wd139 hw) (rm32 l Z a0 hw [] b1 h0 n0 (by omega) ) e1080  [(.int b1)] [(.int (own_lc y1))] 18 1 (hb hby d26_15) rfl (by rw [hml]; rfl) rfl rfl (lenOf pd_30 rfl) rfl (by decide) fun v1081 T1081 Lc1081 X1081 hQ1081 => ?_
  obtain ⟨rfl, N1081q, e1081⟩ := hQ1081
  have N1081 := Fr.app N1080 N1081q
  refine own_kN 21 X1081 hx (hb hby d26_18) rfl (teq heq).2 rfl ?_
  refine own_ru 22 [(.int (1 : Int32))] X1081 hx hby e26_21_1 rfl rfl ?_
  refine own_go 26 X1081 hx (hb hby d26_22) (by decide) (by decide) ?_
  have hq1082 : Q26l Z G1 G2 a1 bb f1 ii ta kt zz vs kb wb b1 y1 h0 n0 (some (.int (nar .boolean (1 : Int32)))) h0 _ := ⟨rfl, N1081, rfl⟩
  exact own_retN X1081 hx hlk (t := .boolean) hrt (by simp) (hb hby d26_26) e1081 hq1082 (by decide) (by decide)
def Q26u (Z : State) (G1 : Int32) (G2 : Value) (a1 : Addr) (bb : Addr) (f1 : Int32) (ii : Int32) (ta : Addr) (kt : ClassId) (zz : Int32) (vs : List Value) (kb : ClassId) (wb : List Value) (b1 : Int32) (y1 : Int32) (z1 : Int32) (h0 : Heap) (n0 : Nat) (v : Option Value) (h : Heap) (L : List Loc) : Prop := v = some (.int (1 : Int32)) ∧ Fr n0 L ∧ h = h0
set_option maxRecDepth 65536 in
set_option maxHeartbeats 40000000 in
theorem rm26u (l : Launch) (Z : State) (a0 : Array Value) (hw : OW a0 Z) (ws : List Jvm.Cond) (G1 : Int32) (G2 : Value) (a1 : Addr) (bb : Addr) (f1 : Int32) (ii : Int32) (ta : Addr) (kt : ClassId) (zz : Int32) (vs : List Value) (kb : ClassId) (wb : List Value) (b1 : Int32) (y1 : Int32) (z1 : Int32) (h0 : Heap) (n0 : Nat) (Z0 : n0 ≤ h0.size) (OLD : Old Z n0 h0) (A : Amb Z G1 G2) (P0 : ex14 Z h0 a1) (P1 : fl15 Z h0 a1 (.ref ta)) (P2 : fl13 Z h0 a1 (.int (1 : Int32))) (P3 : Arv Z h0 ta kt .byte zz vs (.int (0 : Int32))) (P4 : Arv Z h0 bb kb .byte (4 : Int32) wb (.int (0 : Int32))) (hsk : ¬ ii < f1) (hib : ¬ ii < (0 : Int32) ∧ ii < (4 : Int32)) (hbb : wb.getD (ii).toNatClampNeg (.int (0 : Int32)) = .int b1) (hi0 : ¬ (ii - f1) < (0 : Int32)) (hi1 : (ii - f1) < (zz >>> ((1 : Int32) &&& 31))) (hu0 : ¬ ((ii - f1) <<< ((1 : Int32) &&& 31)) < (0 : Int32) ∧ ((ii - f1) <<< ((1 : Int32) &&& 31)) < zz) (hu1 : ¬ (((ii - f1) <<< ((1 : Int32) &&& 31)) + (1 : Int32)) < (0 : Int32) ∧ (((ii - f1) <<< ((1 : Int32) &&& 31)) + (1 : Int32)) < zz) (hv : vs.getD (((ii - f1) <<< ((1 : Int32) &&& 31))).toNatClampNeg (.int (0 : Int32)) = .int y1) (hw1 : vs.getD ((((ii - f1) <<< ((1 : Int32) &&& 31)) + (1 : Int32))).toNatClampNeg (.int (0 : Int32)) = .int z1) (heq : (own_u y1 z1) = (own_exp b1)) :
    own_Met l my26 method_4_code 4 (some .boolean) ws (own_rm 5 0 0 66) #[(.ref a1), (.ref bb), (.int f1), (.int ii)] Z h0 (Q26u Z G1 G2 a1 bb f1 ii ta kt zz vs kb wb b1 y1 z1 h0 n0) 0 0 := by
  refine own_body (plainFor_of_name pn_9) (fun m => by first | (simp [entryFrame, mkF, argsToLocals, Value.category]; done) | rfl) (Ls := #[.val (.ref a1), .val (.ref bb), .val (.int f1), .val (.int ii)]) fun p e s m below meth c s₁ X0 hx hby hml hZ e0 hown hnm hlk hrt => ?_
  have N0 := Fr.nil n0
  have lt_P0 : @LT.lt Nat _ a1 (Array.size h0) := P0.lt
  have lt_P3 : @LT.lt Nat _ ta (Array.size h0) := P3.lt
  have lt_P4 : @LT.lt Nat _ bb (Array.size h0) := P4.lt
  refine own_ru 2 [(.int f1), (.int ii)] X0 hx hby e26_0_2 rfl rfl ?_
  refine own_kN 5 X0 hx (hb hby d26_2) rfl (flt hsk).1 rfl ?_
  refine own_ru 9 [(.int (ii - f1)), (.ref a1)] X0 hx hby e26_5_4 rfl rfl ?_
  refine own_cV X0 hx hZ hown (wd155 hw) (wd156 hw) (notFace_of_selects (args := #[]) (mvT hZ (wd158 hw))) (wd158 hw) (wd157 hw) (by decide) (wd159 hw) (wd61 hw) (rm27u l Z a0 hw [] G1 G2 a1 (ii - f1) ta kt zz vs y1 z1 h0 n0 (by omega) OLD A P0 P1 P2 P3 hi0 hi1 hu0 hu1 hv hw1) e0 P0 [(.int (ii - f1))] [] 12 0 (hb hby d26_9) rfl (by rw [hml]; rfl) rfl rfl (lenOf pd_29 rfl) rfl (by decide) fun v1083 T1083 Lc1083 X1083 hQ1083 => ?_
  obtain ⟨rfl, N1083q, e1083⟩ := hQ1083
  have N1083 := Fr.app N0 N1083q
  refine own_ru 14 [(.int ii), (.ref bb), (.int (own_u y1 z1))] X1083 hx hby e26_12_2 rfl rfl ?_
  refine own_bL X1083 hx hZ e1083 P4 (x := b1) 15 rfl (hb hby d26_14) rfl hib hbb ?_
  refine own_cS X1083 hx hZ hown (wd176 hw) (wd177 hw) (by decide) (wd178 hw) (wd139 hw) (rm32 l Z a0 hw [] b1 h0 n0 (by omega) ) e1083  [(.int b1)] [(.int (own_u y1 z1))] 18 1 (hb hby d26_15) rfl (by rw [hml]; rfl) rfl rfl (lenOf pd_30 rfl) rfl (by decide) fun v1084 T1084 Lc1084 X1084 hQ1084 => ?_
  obtain ⟨rfl, N1084q, e1084⟩ := hQ1084
  have N1084 := Fr.app N1083 N1084q
  refine own_kN 21 X1084 hx (hb hby d26_18) rfl (teq heq).2 rfl ?_
  refine own_ru 22 [(.int (1 : Int32))] X1084 hx hby e26_21_1 rfl rfl ?_
  refine own_go 26 X1084 hx (hb hby d26_22) (by decide) (by decide) ?_
  have hq1085 : Q26u Z G1 G2 a1 bb f1 ii ta kt zz vs kb wb b1 y1 z1 h0 n0 (some (.int (nar .boolean (1 : Int32)))) h0 _ := ⟨rfl, N1084, rfl⟩
  exact own_retN X1084 hx hlk (t := .boolean) hrt (by simp) (hb hby d26_26) e1084 hq1085 (by decide) (by decide)
abbrev my23 : MethodName := (⟨"com/example/annotree/annotree/tree/SingleByteDecoderWithoutIndexPinLaw", "matches", "(Ljava/lang/String;[BI)Z"⟩ : MethodName)
theorem d23_1 : decode method_5_code 1 = .ok (.invokevirtual 34, 3) := by decide +kernel
theorem d23_7 : decode method_5_code 7 = .ok (.if_icmp .eq 5, 3) := by decide +kernel
theorem d23_16 : decode method_5_code 16 = .ok (.invokestatic 38, 3) := by decide +kernel
theorem d23_19 : decode method_5_code 19 = .ok (.ifCond .eq 37, 3) := by decide +kernel
theorem d23_26 : decode method_5_code 26 = .ok (.invokestatic 38, 3) := by decide +kernel
theorem d23_29 : decode method_5_code 29 = .ok (.ifCond .eq 27, 3) := by decide +kernel
theorem d23_36 : decode method_5_code 36 = .ok (.invokestatic 38, 3) := by decide +kernel
theorem d23_39 : decode method_5_code 39 = .ok (.ifCond .eq 17, 3) := by decide +kernel
theorem d23_46 : decode method_5_code 46 = .ok (.invokestatic 38, 3) := by decide +kernel
theorem d23_49 : decode method_5_code 49 = .ok (.ifCond .eq 7, 3) := by decide +kernel
theorem d23_53 : decode method_5_code 53 = .ok (.goto 4, 3) := by decide +kernel
theorem d23_57 : decode method_5_code 57 = .ok (.ireturn, 1) := by decide +kernel
theorem e23_0_1 : own_dec method_5_code 0 [(.aload_n 0, 1)] = true := by decide +kernel
theorem e23_4_3 : own_dec method_5_code 4 [(.iconst 4, 1), (.iload_n 2, 1), (.isub, 1)] = true := by decide +kernel
theorem e23_12_4 : own_dec method_5_code 12 [(.aload_n 0, 1), (.aload_n 1, 1), (.iload_n 2, 1), (.iconst 0, 1)] = true := by decide +kernel
theorem e23_22_4 : own_dec method_5_code 22 [(.aload_n 0, 1), (.aload_n 1, 1), (.iload_n 2, 1), (.iconst 1, 1)] = true := by decide +kernel
theorem e23_32_4 : own_dec method_5_code 32 [(.aload_n 0, 1), (.aload_n 1, 1), (.iload_n 2, 1), (.iconst 2, 1)] = true := by decide +kernel
theorem e23_42_4 : own_dec method_5_code 42 [(.aload_n 0, 1), (.aload_n 1, 1), (.iload_n 2, 1), (.iconst 3, 1)] = true := by decide +kernel
theorem e23_52_1 : own_dec method_5_code 52 [(.iconst 1, 1)] = true := by decide +kernel
theorem pd_31 : parseMethodDescriptor "(Ljava/lang/String;[BII)Z" = some ⟨[(.object "java/lang/String"), (.array .byte), .int, .int], some .boolean⟩ := by decide +kernel
def Q23m00 (Z : State) (G1 : Int32) (G2 : Value) (a1 : Addr) (bb : Addr) (ta : Addr) (kt : ClassId) (kb : ClassId) (b0 : Int32) (b1 : Int32) (b2 : Int32) (b3 : Int32) (y0 : Int32) (y1 : Int32) (y2 : Int32) (y3 : Int32) (h0 : Heap) (n0 : Nat) (v : Option Value) (h : Heap) (L : List Loc) : Prop := v = some (.int (1 : Int32)) ∧ Fr n0 L ∧ h = h0
set_option maxRecDepth 65536 in
set_option maxHeartbeats 40000000 in
theorem rm23m00 (l : Launch) (Z : State) (a0 : Array Value) (hw : OW a0 Z) (ws : List Jvm.Cond) (G1 : Int32) (G2 : Value) (a1 : Addr) (bb : Addr) (ta : Addr) (kt : ClassId) (kb : ClassId) (b0 : Int32) (b1 : Int32) (b2 : Int32) (b3 : Int32) (y0 : Int32) (y1 : Int32) (y2 : Int32) (y3 : Int32) (h0 : Heap) (n0 : Nat) (Z0 : n0 ≤ h0.size) (OLD : Old Z n0 h0) (A : Amb Z G1 G2) (P0 : ex14 Z h0 a1) (P1 : fl15 Z h0 a1 (.ref ta)) (P2 : fl13 Z h0 a1 (.int (0 : Int32))) (P3 : Arv Z h0 ta kt .byte (4 : Int32) [(.int y0), (.int y1), (.int y2), (.int y3)] (.int (0 : Int32))) (P4 : Arv Z h0 bb kb .byte (4 : Int32) [(.int b0), (.int b1), (.int b2), (.int b3)] (.int (0 : Int32))) (he0 : (own_lc y0) = (own_exp b0)) (he1 : (own_lc y1) = (own_exp b1)) (he2 : (own_lc y2) = (own_exp b2)) (he3 : (own_lc y3) = (own_exp b3)) :
    own_Met l my23 method_5_code 3 (some .boolean) ws (own_rm 5 0 0 68) #[(.ref a1), (.ref bb), (.int (0 : Int32))] Z h0 (Q23m00 Z G1 G2 a1 bb ta kt kb b0 b1 b2 b3 y0 y1 y2 y3 h0 n0) 0 0 := by
  refine own_body (plainFor_of_name pn_9) (fun m => by first | (simp [entryFrame, mkF, argsToLocals, Value.category]; done) | rfl) (Ls := #[.val (.ref a1), .val (.ref bb), .val (.int (0 : Int32))]) fun p e s m below meth c s₁ X0 hx hby hml hZ e0 hown hnm hlk hrt => ?_
  have N0 := Fr.nil n0
  have lt_P0 : @LT.lt Nat _ a1 (Array.size h0) := P0.lt
  have lt_P3 : @LT.lt Nat _ ta (Array.size h0) := P3.lt
  have lt_P4 : @LT.lt Nat _ bb (Array.size h0) := P4.lt
  refine own_ru 1 [(.ref a1)] X0 hx hby e23_0_1 rfl rfl ?_
  refine own_cV X0 hx hZ hown (wd141 hw) (wd142 hw) (notFace_of_selects (args := #[]) (mvT hZ (wd144 hw))) (wd144 hw) (wd143 hw) (by decide) (wd145 hw) (wd61 hw) (rm24d0 l Z a0 hw [] G1 G2 a1 ta kt (4 : Int32) [(.int y0), (.int y1), (.int y2), (.int y3)] h0 n0 (by omega) OLD A P0 P1 P2 P3) e0 P0 [] [] 4 0 (hb hby d23_1) rfl (by rw [hml]; rfl) rfl rfl (lenOf pd_19 rfl) rfl (by decide) fun v1086 T1086 Lc1086 X1086 hQ1086 => ?_
  obtain ⟨rfl, N1086q, e1086⟩ := hQ1086
  have N1086 := Fr.app N0 N1086q
  refine own_ru 7 [(.int (4 : Int32)), (.int (4 : Int32))] X1086 hx hby e23_4_3 rfl rfl ?_
  refine own_kY 12 X1086 hx (hb hby d23_7) rfl (teq (by decide : ((4 : Int32) = (4 : Int32)))).1 (by decide) (by decide) ?_
  refine own_ru 16 [(.int (0 : Int32)), (.int (0 : Int32)), (.ref bb), (.ref a1)] X1086 hx hby e23_12_4 rfl rfl ?_
  refine own_cS X1086 hx hZ hown (wd152 hw) (wd153 hw) (by decide) (wd154 hw) (wd139 hw) (rm26l l Z a0 hw [] G1 G2 a1 bb (0 : Int32) (0 : Int32) ta kt (4 : Int32) [(.int y0), (.int y1), (.int y2), (.int y3)] kb [(.int b0), (.int b1), (.int b2), (.int b3)] b0 y0 h0 n0 (by omega) OLD A P0 P1 P2 P3 P4 (by decide) ⟨by decide, by decide⟩ rfl (by decide) (by decide) rfl he0) e1086  [(.ref a1), (.ref bb), (.int (0 : Int32)), (.int (0 : Int32))] [] 19 0 (hb hby d23_16) rfl (by rw [hml]; rfl) rfl rfl (lenOf pd_31 rfl) rfl (by decide) fun v1087 T1087 Lc1087 X1087 hQ1087 => ?_
  obtain ⟨rfl, N1087q, e1087⟩ := hQ1087
  have N1087 := Fr.app N1086 N1087q
  refine own_iN 22 X1087 hx (hb hby d23_19) rfl ((if0 _ _).trans (feq (by decide : ¬ ((1 : Int32) = (0 : Int32)))).1) rfl ?_
  refine own_ru 26 [(.int (1 : Int32)), (.int (0 : Int32)), (.ref bb), (.ref a1)] X1087 hx hby e23_22_4 rfl rfl ?_
  refine own_cS X1087 hx hZ hown (wd152 hw) (wd153 hw) (by decide) (wd154 hw) (wd139 hw) (rm26l l Z a0 hw [] G1 G2 a1 bb (0 : Int32) (1 : Int32) ta kt (4 : Int32) [(.int y0), (.int y1), (.int y2), (.int y3)] kb [(.int b0), (.int b1), (.int b2), (.int b3)] b1 y1 h0 n0 (by omega) OLD A P0 P1 P2 P3 P4 (by decide) ⟨by decide, by decide⟩ rfl (by decide) (by decide) rfl he1) e1087  [(.ref a1), (.ref bb), (.int (0 : Int32)), (.int (1 : Int32))] [] 29 0 (hb hby d23_26) rfl (by rw [hml]; rfl) rfl rfl (lenOf pd_31 rfl) rfl (by decide) fun v1088 T1088 Lc1088 X1088 hQ1088 => ?_
  obtain ⟨rfl, N1088q, e1088⟩ := hQ1088
  have N1088 := Fr.app N1087 N1088q
  refine own_iN 32 X1088 hx (hb hby d23_29) rfl ((if0 _ _).trans (feq (by decide : ¬ ((1 : Int32) = (0 : Int32)))).1) rfl ?_
  refine own_ru 36 [(.int (2 : Int32)), (.int (0 : Int32)), (.ref bb), (.ref a1)] X1088 hx hby e23_32_4 rfl rfl ?_
  refine own_cS X1088 hx hZ hown (wd152 hw) (wd153 hw) (by decide) (wd154 hw) (wd139 hw) (rm26l l Z a0 hw [] G1 G2 a1 bb (0 : Int32) (2 : Int32) ta kt (4 : Int32) [(.int y0), (.int y1), (.int y2), (.int y3)] kb [(.int b0), (.int b1), (.int b2), (.int b3)] b2 y2 h0 n0 (by omega) OLD A P0 P1 P2 P3 P4 (by decide) ⟨by decide, by decide⟩ rfl (by decide) (by decide) rfl he2) e1088  [(.ref a1), (.ref bb), (.int (0 : Int32)), (.int (2 : Int32))] [] 39 0 (hb hby d23_36) rfl (by rw [hml]; rfl) rfl rfl (lenOf pd_31 rfl) rfl (by decide) fun v1089 T1089 Lc1089 X1089 hQ1089 => ?_
  obtain ⟨rfl, N1089q, e1089⟩ := hQ1089
  have N1089 := Fr.app N1088 N1089q
  refine own_iN 42 X1089 hx (hb hby d23_39) rfl ((if0 _ _).trans (feq (by decide : ¬ ((1 : Int32) = (0 : Int32)))).1) rfl ?_
  refine own_ru 46 [(.int (3 : Int32)), (.int (0 : Int32)), (.ref bb), (.ref a1)] X1089 hx hby e23_42_4 rfl rfl ?_
  refine own_cS X1089 hx hZ hown (wd152 hw) (wd153 hw) (by decide) (wd154 hw) (wd139 hw) (rm26l l Z a0 hw [] G1 G2 a1 bb (0 : Int32) (3 : Int32) ta kt (4 : Int32) [(.int y0), (.int y1), (.int y2), (.int y3)] kb [(.int b0), (.int b1), (.int b2), (.int b3)] b3 y3 h0 n0 (by omega) OLD A P0 P1 P2 P3 P4 (by decide) ⟨by decide, by decide⟩ rfl (by decide) (by decide) rfl he3) e1089  [(.ref a1), (.ref bb), (.int (0 : Int32)), (.int (3 : Int32))] [] 49 0 (hb hby d23_46) rfl (by rw [hml]; rfl) rfl rfl (lenOf pd_31 rfl) rfl (by decide) fun v1090 T1090 Lc1090 X1090 hQ1090 => ?_
  obtain ⟨rfl, N1090q, e1090⟩ := hQ1090
  have N1090 := Fr.app N1089 N1090q
  refine own_iN 52 X1090 hx (hb hby d23_49) rfl ((if0 _ _).trans (feq (by decide : ¬ ((1 : Int32) = (0 : Int32)))).1) rfl ?_
  refine own_ru 53 [(.int (1 : Int32))] X1090 hx hby e23_52_1 rfl rfl ?_
  refine own_go 57 X1090 hx (hb hby d23_53) (by decide) (by decide) ?_
  have hq1091 : Q23m00 Z G1 G2 a1 bb ta kt kb b0 b1 b2 b3 y0 y1 y2 y3 h0 n0 (some (.int (nar .boolean (1 : Int32)))) h0 _ := ⟨rfl, N1090, rfl⟩
  exact own_retN X1090 hx hlk (t := .boolean) hrt (by simp) (hb hby d23_57) e1090 hq1091 (by decide) (by decide)
def Q23m01 (Z : State) (G1 : Int32) (G2 : Value) (a1 : Addr) (bb : Addr) (ta : Addr) (kt : ClassId) (kb : ClassId) (b0 : Int32) (b1 : Int32) (b2 : Int32) (b3 : Int32) (y0 : Int32) (y1 : Int32) (y2 : Int32) (y3 : Int32) (z0 : Int32) (z1 : Int32) (z2 : Int32) (z3 : Int32) (h0 : Heap) (n0 : Nat) (v : Option Value) (h : Heap) (L : List Loc) : Prop := v = some (.int (1 : Int32)) ∧ Fr n0 L ∧ h = h0
set_option maxRecDepth 65536 in
set_option maxHeartbeats 40000000 in
theorem rm23m01 (l : Launch) (Z : State) (a0 : Array Value) (hw : OW a0 Z) (ws : List Jvm.Cond) (G1 : Int32) (G2 : Value) (a1 : Addr) (bb : Addr) (ta : Addr) (kt : ClassId) (kb : ClassId) (b0 : Int32) (b1 : Int32) (b2 : Int32) (b3 : Int32) (y0 : Int32) (y1 : Int32) (y2 : Int32) (y3 : Int32) (z0 : Int32) (z1 : Int32) (z2 : Int32) (z3 : Int32) (h0 : Heap) (n0 : Nat) (Z0 : n0 ≤ h0.size) (OLD : Old Z n0 h0) (A : Amb Z G1 G2) (P0 : ex14 Z h0 a1) (P1 : fl15 Z h0 a1 (.ref ta)) (P2 : fl13 Z h0 a1 (.int (1 : Int32))) (P3 : Arv Z h0 ta kt .byte (8 : Int32) [(.int y0), (.int z0), (.int y1), (.int z1), (.int y2), (.int z2), (.int y3), (.int z3)] (.int (0 : Int32))) (P4 : Arv Z h0 bb kb .byte (4 : Int32) [(.int b0), (.int b1), (.int b2), (.int b3)] (.int (0 : Int32))) (he0 : (own_u y0 z0) = (own_exp b0)) (he1 : (own_u y1 z1) = (own_exp b1)) (he2 : (own_u y2 z2) = (own_exp b2)) (he3 : (own_u y3 z3) = (own_exp b3)) :
    own_Met l my23 method_5_code 3 (some .boolean) ws (own_rm 6 0 0 81) #[(.ref a1), (.ref bb), (.int (0 : Int32))] Z h0 (Q23m01 Z G1 G2 a1 bb ta kt kb b0 b1 b2 b3 y0 y1 y2 y3 z0 z1 z2 z3 h0 n0) 0 0 := by
  refine own_body (plainFor_of_name pn_9) (fun m => by first | (simp [entryFrame, mkF, argsToLocals, Value.category]; done) | rfl) (Ls := #[.val (.ref a1), .val (.ref bb), .val (.int (0 : Int32))]) fun p e s m below meth c s₁ X0 hx hby hml hZ e0 hown hnm hlk hrt => ?_
  have N0 := Fr.nil n0
  have lt_P0 : @LT.lt Nat _ a1 (Array.size h0) := P0.lt
  have lt_P3 : @LT.lt Nat _ ta (Array.size h0) := P3.lt
  have lt_P4 : @LT.lt Nat _ bb (Array.size h0) := P4.lt
  refine own_ru 1 [(.ref a1)] X0 hx hby e23_0_1 rfl rfl ?_
  refine own_cV X0 hx hZ hown (wd141 hw) (wd142 hw) (notFace_of_selects (args := #[]) (mvT hZ (wd144 hw))) (wd144 hw) (wd143 hw) (by decide) (wd145 hw) (wd61 hw) (rm24d1 l Z a0 hw [] G1 G2 a1 ta kt (8 : Int32) [(.int y0), (.int z0), (.int y1), (.int z1), (.int y2), (.int z2), (.int y3), (.int z3)] h0 n0 (by omega) OLD A P0 P1 P2 P3) e0 P0 [] [] 4 0 (hb hby d23_1) rfl (by rw [hml]; rfl) rfl rfl (lenOf pd_19 rfl) rfl (by decide) fun v1092 T1092 Lc1092 X1092 hQ1092 => ?_
  obtain ⟨rfl, N1092q, e1092⟩ := hQ1092
  have N1092 := Fr.app N0 N1092q
  refine own_ru 7 [(.int (4 : Int32)), (.int (4 : Int32))] X1092 hx hby e23_4_3 rfl rfl ?_
  refine own_kY 12 X1092 hx (hb hby d23_7) rfl (teq (by decide : ((4 : Int32) = (4 : Int32)))).1 (by decide) (by decide) ?_
  refine own_ru 16 [(.int (0 : Int32)), (.int (0 : Int32)), (.ref bb), (.ref a1)] X1092 hx hby e23_12_4 rfl rfl ?_
  refine own_cS X1092 hx hZ hown (wd152 hw) (wd153 hw) (by decide) (wd154 hw) (wd139 hw) (rm26u l Z a0 hw [] G1 G2 a1 bb (0 : Int32) (0 : Int32) ta kt (8 : Int32) [(.int y0), (.int z0), (.int y1), (.int z1), (.int y2), (.int z2), (.int y3), (.int z3)] kb [(.int b0), (.int b1), (.int b2), (.int b3)] b0 y0 z0 h0 n0 (by omega) OLD A P0 P1 P2 P3 P4 (by decide) ⟨by decide, by decide⟩ rfl (by decide) (by decide) ⟨by decide, by decide⟩ ⟨by decide, by decide⟩ rfl rfl he0) e1092  [(.ref a1), (.ref bb), (.int (0 : Int32)), (.int (0 : Int32))] [] 19 0 (hb hby d23_16) rfl (by rw [hml]; rfl) rfl rfl (lenOf pd_31 rfl) rfl (by decide) fun v1093 T1093 Lc1093 X1093 hQ1093 => ?_
  obtain ⟨rfl, N1093q, e1093⟩ := hQ1093
  have N1093 := Fr.app N1092 N1093q
  refine own_iN 22 X1093 hx (hb hby d23_19) rfl ((if0 _ _).trans (feq (by decide : ¬ ((1 : Int32) = (0 : Int32)))).1) rfl ?_
  refine own_ru 26 [(.int (1 : Int32)), (.int (0 : Int32)), (.ref bb), (.ref a1)] X1093 hx hby e23_22_4 rfl rfl ?_
  refine own_cS X1093 hx hZ hown (wd152 hw) (wd153 hw) (by decide) (wd154 hw) (wd139 hw) (rm26u l Z a0 hw [] G1 G2 a1 bb (0 : Int32) (1 : Int32) ta kt (8 : Int32) [(.int y0), (.int z0), (.int y1), (.int z1), (.int y2), (.int z2), (.int y3), (.int z3)] kb [(.int b0), (.int b1), (.int b2), (.int b3)] b1 y1 z1 h0 n0 (by omega) OLD A P0 P1 P2 P3 P4 (by decide) ⟨by decide, by decide⟩ rfl (by decide) (by decide) ⟨by decide, by decide⟩ ⟨by decide, by decide⟩ rfl rfl he1) e1093  [(.ref a1), (.ref bb), (.int (0 : Int32)), (.int (1 : Int32))] [] 29 0 (hb hby d23_26) rfl (by rw [hml]; rfl) rfl rfl (lenOf pd_31 rfl) rfl (by decide) fun v1094 T1094 Lc1094 X1094 hQ1094 => ?_
  obtain ⟨rfl, N1094q, e1094⟩ := hQ1094
  have N1094 := Fr.app N1093 N1094q
  refine own_iN 32 X1094 hx (hb hby d23_29) rfl ((if0 _ _).trans (feq (by decide : ¬ ((1 : Int32) = (0 : Int32)))).1) rfl ?_
  refine own_ru 36 [(.int (2 : Int32)), (.int (0 : Int32)), (.ref bb), (.ref a1)] X1094 hx hby e23_32_4 rfl rfl ?_
  refine own_cS X1094 hx hZ hown (wd152 hw) (wd153 hw) (by decide) (wd154 hw) (wd139 hw) (rm26u l Z a0 hw [] G1 G2 a1 bb (0 : Int32) (2 : Int32) ta kt (8 : Int32) [(.int y0), (.int z0), (.int y1), (.int z1), (.int y2), (.int z2), (.int y3), (.int z3)] kb [(.int b0), (.int b1), (.int b2), (.int b3)] b2 y2 z2 h0 n0 (by omega) OLD A P0 P1 P2 P3 P4 (by decide) ⟨by decide, by decide⟩ rfl (by decide) (by decide) ⟨by decide, by decide⟩ ⟨by decide, by decide⟩ rfl rfl he2) e1094  [(.ref a1), (.ref bb), (.int (0 : Int32)), (.int (2 : Int32))] [] 39 0 (hb hby d23_36) rfl (by rw [hml]; rfl) rfl rfl (lenOf pd_31 rfl) rfl (by decide) fun v1095 T1095 Lc1095 X1095 hQ1095 => ?_
  obtain ⟨rfl, N1095q, e1095⟩ := hQ1095
  have N1095 := Fr.app N1094 N1095q
  refine own_iN 42 X1095 hx (hb hby d23_39) rfl ((if0 _ _).trans (feq (by decide : ¬ ((1 : Int32) = (0 : Int32)))).1) rfl ?_
  refine own_ru 46 [(.int (3 : Int32)), (.int (0 : Int32)), (.ref bb), (.ref a1)] X1095 hx hby e23_42_4 rfl rfl ?_
  refine own_cS X1095 hx hZ hown (wd152 hw) (wd153 hw) (by decide) (wd154 hw) (wd139 hw) (rm26u l Z a0 hw [] G1 G2 a1 bb (0 : Int32) (3 : Int32) ta kt (8 : Int32) [(.int y0), (.int z0), (.int y1), (.int z1), (.int y2), (.int z2), (.int y3), (.int z3)] kb [(.int b0), (.int b1), (.int b2), (.int b3)] b3 y3 z3 h0 n0 (by omega) OLD A P0 P1 P2 P3 P4 (by decide) ⟨by decide, by decide⟩ rfl (by decide) (by decide) ⟨by decide, by decide⟩ ⟨by decide, by decide⟩ rfl rfl he3) e1095  [(.ref a1), (.ref bb), (.int (0 : Int32)), (.int (3 : Int32))] [] 49 0 (hb hby d23_46) rfl (by rw [hml]; rfl) rfl rfl (lenOf pd_31 rfl) rfl (by decide) fun v1096 T1096 Lc1096 X1096 hQ1096 => ?_
  obtain ⟨rfl, N1096q, e1096⟩ := hQ1096
  have N1096 := Fr.app N1095 N1096q
  refine own_iN 52 X1096 hx (hb hby d23_49) rfl ((if0 _ _).trans (feq (by decide : ¬ ((1 : Int32) = (0 : Int32)))).1) rfl ?_
  refine own_ru 53 [(.int (1 : Int32))] X1096 hx hby e23_52_1 rfl rfl ?_
  refine own_go 57 X1096 hx (hb hby d23_53) (by decide) (by decide) ?_
  have hq1097 : Q23m01 Z G1 G2 a1 bb ta kt kb b0 b1 b2 b3 y0 y1 y2 y3 z0 z1 z2 z3 h0 n0 (some (.int (nar .boolean (1 : Int32)))) h0 _ := ⟨rfl, N1096, rfl⟩
  exact own_retN X1096 hx hlk (t := .boolean) hrt (by simp) (hb hby d23_57) e1096 hq1097 (by decide) (by decide)
def Q23m10 (Z : State) (G1 : Int32) (G2 : Value) (a1 : Addr) (bb : Addr) (ta : Addr) (kt : ClassId) (kb : ClassId) (b0 : Int32) (b1 : Int32) (b2 : Int32) (b3 : Int32) (y0 : Int32) (y1 : Int32) (y2 : Int32) (h0 : Heap) (n0 : Nat) (v : Option Value) (h : Heap) (L : List Loc) : Prop := v = some (.int (1 : Int32)) ∧ Fr n0 L ∧ h = h0
set_option maxRecDepth 65536 in
set_option maxHeartbeats 40000000 in
theorem rm23m10 (l : Launch) (Z : State) (a0 : Array Value) (hw : OW a0 Z) (ws : List Jvm.Cond) (G1 : Int32) (G2 : Value) (a1 : Addr) (bb : Addr) (ta : Addr) (kt : ClassId) (kb : ClassId) (b0 : Int32) (b1 : Int32) (b2 : Int32) (b3 : Int32) (y0 : Int32) (y1 : Int32) (y2 : Int32) (h0 : Heap) (n0 : Nat) (Z0 : n0 ≤ h0.size) (OLD : Old Z n0 h0) (A : Amb Z G1 G2) (P0 : ex14 Z h0 a1) (P1 : fl15 Z h0 a1 (.ref ta)) (P2 : fl13 Z h0 a1 (.int (0 : Int32))) (P3 : Arv Z h0 ta kt .byte (3 : Int32) [(.int y0), (.int y1), (.int y2)] (.int (0 : Int32))) (P4 : Arv Z h0 bb kb .byte (4 : Int32) [(.int b0), (.int b1), (.int b2), (.int b3)] (.int (0 : Int32))) (he0 : (own_lc y0) = (own_exp b1)) (he1 : (own_lc y1) = (own_exp b2)) (he2 : (own_lc y2) = (own_exp b3)) :
    own_Met l my23 method_5_code 3 (some .boolean) ws (own_rm 5 0 0 68) #[(.ref a1), (.ref bb), (.int (1 : Int32))] Z h0 (Q23m10 Z G1 G2 a1 bb ta kt kb b0 b1 b2 b3 y0 y1 y2 h0 n0) 0 0 := by
  refine own_body (plainFor_of_name pn_9) (fun m => by first | (simp [entryFrame, mkF, argsToLocals, Value.category]; done) | rfl) (Ls := #[.val (.ref a1), .val (.ref bb), .val (.int (1 : Int32))]) fun p e s m below meth c s₁ X0 hx hby hml hZ e0 hown hnm hlk hrt => ?_
  have N0 := Fr.nil n0
  have lt_P0 : @LT.lt Nat _ a1 (Array.size h0) := P0.lt
  have lt_P3 : @LT.lt Nat _ ta (Array.size h0) := P3.lt
  have lt_P4 : @LT.lt Nat _ bb (Array.size h0) := P4.lt
  refine own_ru 1 [(.ref a1)] X0 hx hby e23_0_1 rfl rfl ?_
  refine own_cV X0 hx hZ hown (wd141 hw) (wd142 hw) (notFace_of_selects (args := #[]) (mvT hZ (wd144 hw))) (wd144 hw) (wd143 hw) (by decide) (wd145 hw) (wd61 hw) (rm24d0 l Z a0 hw [] G1 G2 a1 ta kt (3 : Int32) [(.int y0), (.int y1), (.int y2)] h0 n0 (by omega) OLD A P0 P1 P2 P3) e0 P0 [] [] 4 0 (hb hby d23_1) rfl (by rw [hml]; rfl) rfl rfl (lenOf pd_19 rfl) rfl (by decide) fun v1098 T1098 Lc1098 X1098 hQ1098 => ?_
  obtain ⟨rfl, N1098q, e1098⟩ := hQ1098
  have N1098 := Fr.app N0 N1098q
  refine own_ru 7 [(.int (3 : Int32)), (.int (3 : Int32))] X1098 hx hby e23_4_3 rfl rfl ?_
  refine own_kY 12 X1098 hx (hb hby d23_7) rfl (teq (by decide : ((3 : Int32) = (3 : Int32)))).1 (by decide) (by decide) ?_
  refine own_ru 16 [(.int (0 : Int32)), (.int (1 : Int32)), (.ref bb), (.ref a1)] X1098 hx hby e23_12_4 rfl rfl ?_
  refine own_cS X1098 hx hZ hown (wd152 hw) (wd153 hw) (by decide) (wd154 hw) (wd139 hw) (rm26k l Z a0 hw [] a1 bb (1 : Int32) (0 : Int32) h0 n0 (by omega) (by decide)) e1098  [(.ref a1), (.ref bb), (.int (1 : Int32)), (.int (0 : Int32))] [] 19 0 (hb hby d23_16) rfl (by rw [hml]; rfl) rfl rfl (lenOf pd_31 rfl) rfl (by decide) fun v1099 T1099 Lc1099 X1099 hQ1099 => ?_
  obtain ⟨rfl, N1099q, e1099⟩ := hQ1099
  have N1099 := Fr.app N1098 N1099q
  refine own_iN 22 X1099 hx (hb hby d23_19) rfl ((if0 _ _).trans (feq (by decide : ¬ ((1 : Int32) = (0 : Int32)))).1) rfl ?_
  refine own_ru 26 [(.int (1 : Int32)), (.int (1 : Int32)), (.ref bb), (.ref a1)] X1099 hx hby e23_22_4 rfl rfl ?_
  refine own_cS X1099 hx hZ hown (wd152 hw) (wd153 hw) (by decide) (wd154 hw) (wd139 hw) (rm26l l Z a0 hw [] G1 G2 a1 bb (1 : Int32) (1 : Int32) ta kt (3 : Int32) [(.int y0), (.int y1), (.int y2)] kb [(.int b0), (.int b1), (.int b2), (.int b3)] b1 y0 h0 n0 (by omega) OLD A P0 P1 P2 P3 P4 (by decide) ⟨by decide, by decide⟩ rfl (by decide) (by decide) rfl he0) e1099  [(.ref a1), (.ref bb), (.int (1 : Int32)), (.int (1 : Int32))] [] 29 0 (hb hby d23_26) rfl (by rw [hml]; rfl) rfl rfl (lenOf pd_31 rfl) rfl (by decide) fun v1100 T1100 Lc1100 X1100 hQ1100 => ?_
  obtain ⟨rfl, N1100q, e1100⟩ := hQ1100
  have N1100 := Fr.app N1099 N1100q
  refine own_iN 32 X1100 hx (hb hby d23_29) rfl ((if0 _ _).trans (feq (by decide : ¬ ((1 : Int32) = (0 : Int32)))).1) rfl ?_
  refine own_ru 36 [(.int (2 : Int32)), (.int (1 : Int32)), (.ref bb), (.ref a1)] X1100 hx hby e23_32_4 rfl rfl ?_
  refine own_cS X1100 hx hZ hown (wd152 hw) (wd153 hw) (by decide) (wd154 hw) (wd139 hw) (rm26l l Z a0 hw [] G1 G2 a1 bb (1 : Int32) (2 : Int32) ta kt (3 : Int32) [(.int y0), (.int y1), (.int y2)] kb [(.int b0), (.int b1), (.int b2), (.int b3)] b2 y1 h0 n0 (by omega) OLD A P0 P1 P2 P3 P4 (by decide) ⟨by decide, by decide⟩ rfl (by decide) (by decide) rfl he1) e1100  [(.ref a1), (.ref bb), (.int (1 : Int32)), (.int (2 : Int32))] [] 39 0 (hb hby d23_36) rfl (by rw [hml]; rfl) rfl rfl (lenOf pd_31 rfl) rfl (by decide) fun v1101 T1101 Lc1101 X1101 hQ1101 => ?_
  obtain ⟨rfl, N1101q, e1101⟩ := hQ1101
  have N1101 := Fr.app N1100 N1101q
  refine own_iN 42 X1101 hx (hb hby d23_39) rfl ((if0 _ _).trans (feq (by decide : ¬ ((1 : Int32) = (0 : Int32)))).1) rfl ?_
  refine own_ru 46 [(.int (3 : Int32)), (.int (1 : Int32)), (.ref bb), (.ref a1)] X1101 hx hby e23_42_4 rfl rfl ?_
  refine own_cS X1101 hx hZ hown (wd152 hw) (wd153 hw) (by decide) (wd154 hw) (wd139 hw) (rm26l l Z a0 hw [] G1 G2 a1 bb (1 : Int32) (3 : Int32) ta kt (3 : Int32) [(.int y0), (.int y1), (.int y2)] kb [(.int b0), (.int b1), (.int b2), (.int b3)] b3 y2 h0 n0 (by omega) OLD A P0 P1 P2 P3 P4 (by decide) ⟨by decide, by decide⟩ rfl (by decide) (by decide) rfl he2) e1101  [(.ref a1), (.ref bb), (.int (1 : Int32)), (.int (3 : Int32))] [] 49 0 (hb hby d23_46) rfl (by rw [hml]; rfl) rfl rfl (lenOf pd_31 rfl) rfl (by decide) fun v1102 T1102 Lc1102 X1102 hQ1102 => ?_
  obtain ⟨rfl, N1102q, e1102⟩ := hQ1102
  have N1102 := Fr.app N1101 N1102q
  refine own_iN 52 X1102 hx (hb hby d23_49) rfl ((if0 _ _).trans (feq (by decide : ¬ ((1 : Int32) = (0 : Int32)))).1) rfl ?_
  refine own_ru 53 [(.int (1 : Int32))] X1102 hx hby e23_52_1 rfl rfl ?_
  refine own_go 57 X1102 hx (hb hby d23_53) (by decide) (by decide) ?_
  have hq1103 : Q23m10 Z G1 G2 a1 bb ta kt kb b0 b1 b2 b3 y0 y1 y2 h0 n0 (some (.int (nar .boolean (1 : Int32)))) h0 _ := ⟨rfl, N1102, rfl⟩
  exact own_retN X1102 hx hlk (t := .boolean) hrt (by simp) (hb hby d23_57) e1102 hq1103 (by decide) (by decide)
def Q23m11 (Z : State) (G1 : Int32) (G2 : Value) (a1 : Addr) (bb : Addr) (ta : Addr) (kt : ClassId) (kb : ClassId) (b0 : Int32) (b1 : Int32) (b2 : Int32) (b3 : Int32) (y0 : Int32) (y1 : Int32) (y2 : Int32) (z0 : Int32) (z1 : Int32) (z2 : Int32) (h0 : Heap) (n0 : Nat) (v : Option Value) (h : Heap) (L : List Loc) : Prop := v = some (.int (1 : Int32)) ∧ Fr n0 L ∧ h = h0
set_option maxRecDepth 65536 in
set_option maxHeartbeats 40000000 in
theorem rm23m11 (l : Launch) (Z : State) (a0 : Array Value) (hw : OW a0 Z) (ws : List Jvm.Cond) (G1 : Int32) (G2 : Value) (a1 : Addr) (bb : Addr) (ta : Addr) (kt : ClassId) (kb : ClassId) (b0 : Int32) (b1 : Int32) (b2 : Int32) (b3 : Int32) (y0 : Int32) (y1 : Int32) (y2 : Int32) (z0 : Int32) (z1 : Int32) (z2 : Int32) (h0 : Heap) (n0 : Nat) (Z0 : n0 ≤ h0.size) (OLD : Old Z n0 h0) (A : Amb Z G1 G2) (P0 : ex14 Z h0 a1) (P1 : fl15 Z h0 a1 (.ref ta)) (P2 : fl13 Z h0 a1 (.int (1 : Int32))) (P3 : Arv Z h0 ta kt .byte (6 : Int32) [(.int y0), (.int z0), (.int y1), (.int z1), (.int y2), (.int z2)] (.int (0 : Int32))) (P4 : Arv Z h0 bb kb .byte (4 : Int32) [(.int b0), (.int b1), (.int b2), (.int b3)] (.int (0 : Int32))) (he0 : (own_u y0 z0) = (own_exp b1)) (he1 : (own_u y1 z1) = (own_exp b2)) (he2 : (own_u y2 z2) = (own_exp b3)) :
    own_Met l my23 method_5_code 3 (some .boolean) ws (own_rm 6 0 0 81) #[(.ref a1), (.ref bb), (.int (1 : Int32))] Z h0 (Q23m11 Z G1 G2 a1 bb ta kt kb b0 b1 b2 b3 y0 y1 y2 z0 z1 z2 h0 n0) 0 0 := by
  refine own_body (plainFor_of_name pn_9) (fun m => by first | (simp [entryFrame, mkF, argsToLocals, Value.category]; done) | rfl) (Ls := #[.val (.ref a1), .val (.ref bb), .val (.int (1 : Int32))]) fun p e s m below meth c s₁ X0 hx hby hml hZ e0 hown hnm hlk hrt => ?_
  have N0 := Fr.nil n0
  have lt_P0 : @LT.lt Nat _ a1 (Array.size h0) := P0.lt
  have lt_P3 : @LT.lt Nat _ ta (Array.size h0) := P3.lt
  have lt_P4 : @LT.lt Nat _ bb (Array.size h0) := P4.lt
  refine own_ru 1 [(.ref a1)] X0 hx hby e23_0_1 rfl rfl ?_
  refine own_cV X0 hx hZ hown (wd141 hw) (wd142 hw) (notFace_of_selects (args := #[]) (mvT hZ (wd144 hw))) (wd144 hw) (wd143 hw) (by decide) (wd145 hw) (wd61 hw) (rm24d1 l Z a0 hw [] G1 G2 a1 ta kt (6 : Int32) [(.int y0), (.int z0), (.int y1), (.int z1), (.int y2), (.int z2)] h0 n0 (by omega) OLD A P0 P1 P2 P3) e0 P0 [] [] 4 0 (hb hby d23_1) rfl (by rw [hml]; rfl) rfl rfl (lenOf pd_19 rfl) rfl (by decide) fun v1104 T1104 Lc1104 X1104 hQ1104 => ?_
  obtain ⟨rfl, N1104q, e1104⟩ := hQ1104
  have N1104 := Fr.app N0 N1104q
  refine own_ru 7 [(.int (3 : Int32)), (.int (3 : Int32))] X1104 hx hby e23_4_3 rfl rfl ?_
  refine own_kY 12 X1104 hx (hb hby d23_7) rfl (teq (by decide : ((3 : Int32) = (3 : Int32)))).1 (by decide) (by decide) ?_
  refine own_ru 16 [(.int (0 : Int32)), (.int (1 : Int32)), (.ref bb), (.ref a1)] X1104 hx hby e23_12_4 rfl rfl ?_
  refine own_cS X1104 hx hZ hown (wd152 hw) (wd153 hw) (by decide) (wd154 hw) (wd139 hw) (rm26k l Z a0 hw [] a1 bb (1 : Int32) (0 : Int32) h0 n0 (by omega) (by decide)) e1104  [(.ref a1), (.ref bb), (.int (1 : Int32)), (.int (0 : Int32))] [] 19 0 (hb hby d23_16) rfl (by rw [hml]; rfl) rfl rfl (lenOf pd_31 rfl) rfl (by decide) fun v1105 T1105 Lc1105 X1105 hQ1105 => ?_
  obtain ⟨rfl, N1105q, e1105⟩ := hQ1105
  have N1105 := Fr.app N1104 N1105q
  refine own_iN 22 X1105 hx (hb hby d23_19) rfl ((if0 _ _).trans (feq (by decide : ¬ ((1 : Int32) = (0 : Int32)))).1) rfl ?_
  refine own_ru 26 [(.int (1 : Int32)), (.int (1 : Int32)), (.ref bb), (.ref a1)] X1105 hx hby e23_22_4 rfl rfl ?_
  refine own_cS X1105 hx hZ hown (wd152 hw) (wd153 hw) (by decide) (wd154 hw) (wd139 hw) (rm26u l Z a0 hw [] G1 G2 a1 bb (1 : Int32) (1 : Int32) ta kt (6 : Int32) [(.int y0), (.int z0), (.int y1), (.int z1), (.int y2), (.int z2)] kb [(.int b0), (.int b1), (.int b2), (.int b3)] b1 y0 z0 h0 n0 (by omega) OLD A P0 P1 P2 P3 P4 (by decide) ⟨by decide, by decide⟩ rfl (by decide) (by decide) ⟨by decide, by decide⟩ ⟨by decide, by decide⟩ rfl rfl he0) e1105  [(.ref a1), (.ref bb), (.int (1 : Int32)), (.int (1 : Int32))] [] 29 0 (hb hby d23_26) rfl (by rw [hml]; rfl) rfl rfl (lenOf pd_31 rfl) rfl (by decide) fun v1106 T1106 Lc1106 X1106 hQ1106 => ?_
  obtain ⟨rfl, N1106q, e1106⟩ := hQ1106
  have N1106 := Fr.app N1105 N1106q
  refine own_iN 32 X1106 hx (hb hby d23_29) rfl ((if0 _ _).trans (feq (by decide : ¬ ((1 : Int32) = (0 : Int32)))).1) rfl ?_
  refine own_ru 36 [(.int (2 : Int32)), (.int (1 : Int32)), (.ref bb), (.ref a1)] X1106 hx hby e23_32_4 rfl rfl ?_
  refine own_cS X1106 hx hZ hown (wd152 hw) (wd153 hw) (by decide) (wd154 hw) (wd139 hw) (rm26u l Z a0 hw [] G1 G2 a1 bb (1 : Int32) (2 : Int32) ta kt (6 : Int32) [(.int y0), (.int z0), (.int y1), (.int z1), (.int y2), (.int z2)] kb [(.int b0), (.int b1), (.int b2), (.int b3)] b2 y1 z1 h0 n0 (by omega) OLD A P0 P1 P2 P3 P4 (by decide) ⟨by decide, by decide⟩ rfl (by decide) (by decide) ⟨by decide, by decide⟩ ⟨by decide, by decide⟩ rfl rfl he1) e1106  [(.ref a1), (.ref bb), (.int (1 : Int32)), (.int (2 : Int32))] [] 39 0 (hb hby d23_36) rfl (by rw [hml]; rfl) rfl rfl (lenOf pd_31 rfl) rfl (by decide) fun v1107 T1107 Lc1107 X1107 hQ1107 => ?_
  obtain ⟨rfl, N1107q, e1107⟩ := hQ1107
  have N1107 := Fr.app N1106 N1107q
  refine own_iN 42 X1107 hx (hb hby d23_39) rfl ((if0 _ _).trans (feq (by decide : ¬ ((1 : Int32) = (0 : Int32)))).1) rfl ?_
  refine own_ru 46 [(.int (3 : Int32)), (.int (1 : Int32)), (.ref bb), (.ref a1)] X1107 hx hby e23_42_4 rfl rfl ?_
  refine own_cS X1107 hx hZ hown (wd152 hw) (wd153 hw) (by decide) (wd154 hw) (wd139 hw) (rm26u l Z a0 hw [] G1 G2 a1 bb (1 : Int32) (3 : Int32) ta kt (6 : Int32) [(.int y0), (.int z0), (.int y1), (.int z1), (.int y2), (.int z2)] kb [(.int b0), (.int b1), (.int b2), (.int b3)] b3 y2 z2 h0 n0 (by omega) OLD A P0 P1 P2 P3 P4 (by decide) ⟨by decide, by decide⟩ rfl (by decide) (by decide) ⟨by decide, by decide⟩ ⟨by decide, by decide⟩ rfl rfl he2) e1107  [(.ref a1), (.ref bb), (.int (1 : Int32)), (.int (3 : Int32))] [] 49 0 (hb hby d23_46) rfl (by rw [hml]; rfl) rfl rfl (lenOf pd_31 rfl) rfl (by decide) fun v1108 T1108 Lc1108 X1108 hQ1108 => ?_
  obtain ⟨rfl, N1108q, e1108⟩ := hQ1108
  have N1108 := Fr.app N1107 N1108q
  refine own_iN 52 X1108 hx (hb hby d23_49) rfl ((if0 _ _).trans (feq (by decide : ¬ ((1 : Int32) = (0 : Int32)))).1) rfl ?_
  refine own_ru 53 [(.int (1 : Int32))] X1108 hx hby e23_52_1 rfl rfl ?_
  refine own_go 57 X1108 hx (hb hby d23_53) (by decide) (by decide) ?_
  have hq1109 : Q23m11 Z G1 G2 a1 bb ta kt kb b0 b1 b2 b3 y0 y1 y2 z0 z1 z2 h0 n0 (some (.int (nar .boolean (1 : Int32)))) h0 _ := ⟨rfl, N1108, rfl⟩
  exact own_retN X1108 hx hlk (t := .boolean) hrt (by simp) (hb hby d23_57) e1108 hq1109 (by decide) (by decide)
def Q23m20 (Z : State) (G1 : Int32) (G2 : Value) (a1 : Addr) (bb : Addr) (ta : Addr) (kt : ClassId) (kb : ClassId) (b0 : Int32) (b1 : Int32) (b2 : Int32) (b3 : Int32) (y0 : Int32) (y1 : Int32) (h0 : Heap) (n0 : Nat) (v : Option Value) (h : Heap) (L : List Loc) : Prop := v = some (.int (1 : Int32)) ∧ Fr n0 L ∧ h = h0
set_option maxRecDepth 65536 in
set_option maxHeartbeats 40000000 in
theorem rm23m20 (l : Launch) (Z : State) (a0 : Array Value) (hw : OW a0 Z) (ws : List Jvm.Cond) (G1 : Int32) (G2 : Value) (a1 : Addr) (bb : Addr) (ta : Addr) (kt : ClassId) (kb : ClassId) (b0 : Int32) (b1 : Int32) (b2 : Int32) (b3 : Int32) (y0 : Int32) (y1 : Int32) (h0 : Heap) (n0 : Nat) (Z0 : n0 ≤ h0.size) (OLD : Old Z n0 h0) (A : Amb Z G1 G2) (P0 : ex14 Z h0 a1) (P1 : fl15 Z h0 a1 (.ref ta)) (P2 : fl13 Z h0 a1 (.int (0 : Int32))) (P3 : Arv Z h0 ta kt .byte (2 : Int32) [(.int y0), (.int y1)] (.int (0 : Int32))) (P4 : Arv Z h0 bb kb .byte (4 : Int32) [(.int b0), (.int b1), (.int b2), (.int b3)] (.int (0 : Int32))) (he0 : (own_lc y0) = (own_exp b2)) (he1 : (own_lc y1) = (own_exp b3)) :
    own_Met l my23 method_5_code 3 (some .boolean) ws (own_rm 5 0 0 68) #[(.ref a1), (.ref bb), (.int (2 : Int32))] Z h0 (Q23m20 Z G1 G2 a1 bb ta kt kb b0 b1 b2 b3 y0 y1 h0 n0) 0 0 := by
  refine own_body (plainFor_of_name pn_9) (fun m => by first | (simp [entryFrame, mkF, argsToLocals, Value.category]; done) | rfl) (Ls := #[.val (.ref a1), .val (.ref bb), .val (.int (2 : Int32))]) fun p e s m below meth c s₁ X0 hx hby hml hZ e0 hown hnm hlk hrt => ?_
  have N0 := Fr.nil n0
  have lt_P0 : @LT.lt Nat _ a1 (Array.size h0) := P0.lt
  have lt_P3 : @LT.lt Nat _ ta (Array.size h0) := P3.lt
  have lt_P4 : @LT.lt Nat _ bb (Array.size h0) := P4.lt
  refine own_ru 1 [(.ref a1)] X0 hx hby e23_0_1 rfl rfl ?_
  refine own_cV X0 hx hZ hown (wd141 hw) (wd142 hw) (notFace_of_selects (args := #[]) (mvT hZ (wd144 hw))) (wd144 hw) (wd143 hw) (by decide) (wd145 hw) (wd61 hw) (rm24d0 l Z a0 hw [] G1 G2 a1 ta kt (2 : Int32) [(.int y0), (.int y1)] h0 n0 (by omega) OLD A P0 P1 P2 P3) e0 P0 [] [] 4 0 (hb hby d23_1) rfl (by rw [hml]; rfl) rfl rfl (lenOf pd_19 rfl) rfl (by decide) fun v1110 T1110 Lc1110 X1110 hQ1110 => ?_
  obtain ⟨rfl, N1110q, e1110⟩ := hQ1110
  have N1110 := Fr.app N0 N1110q
  refine own_ru 7 [(.int (2 : Int32)), (.int (2 : Int32))] X1110 hx hby e23_4_3 rfl rfl ?_
  refine own_kY 12 X1110 hx (hb hby d23_7) rfl (teq (by decide : ((2 : Int32) = (2 : Int32)))).1 (by decide) (by decide) ?_
  refine own_ru 16 [(.int (0 : Int32)), (.int (2 : Int32)), (.ref bb), (.ref a1)] X1110 hx hby e23_12_4 rfl rfl ?_
  refine own_cS X1110 hx hZ hown (wd152 hw) (wd153 hw) (by decide) (wd154 hw) (wd139 hw) (rm26k l Z a0 hw [] a1 bb (2 : Int32) (0 : Int32) h0 n0 (by omega) (by decide)) e1110  [(.ref a1), (.ref bb), (.int (2 : Int32)), (.int (0 : Int32))] [] 19 0 (hb hby d23_16) rfl (by rw [hml]; rfl) rfl rfl (lenOf pd_31 rfl) rfl (by decide) fun v1111 T1111 Lc1111 X1111 hQ1111 => ?_
  obtain ⟨rfl, N1111q, e1111⟩ := hQ1111
  have N1111 := Fr.app N1110 N1111q
  refine own_iN 22 X1111 hx (hb hby d23_19) rfl ((if0 _ _).trans (feq (by decide : ¬ ((1 : Int32) = (0 : Int32)))).1) rfl ?_
  refine own_ru 26 [(.int (1 : Int32)), (.int (2 : Int32)), (.ref bb), (.ref a1)] X1111 hx hby e23_22_4 rfl rfl ?_
  refine own_cS X1111 hx hZ hown (wd152 hw) (wd153 hw) (by decide) (wd154 hw) (wd139 hw) (rm26k l Z a0 hw [] a1 bb (2 : Int32) (1 : Int32) h0 n0 (by omega) (by decide)) e1111  [(.ref a1), (.ref bb), (.int (2 : Int32)), (.int (1 : Int32))] [] 29 0 (hb hby d23_26) rfl (by rw [hml]; rfl) rfl rfl (lenOf pd_31 rfl) rfl (by decide) fun v1112 T1112 Lc1112 X1112 hQ1112 => ?_
  obtain ⟨rfl, N1112q, e1112⟩ := hQ1112
  have N1112 := Fr.app N1111 N1112q
  refine own_iN 32 X1112 hx (hb hby d23_29) rfl ((if0 _ _).trans (feq (by decide : ¬ ((1 : Int32) = (0 : Int32)))).1) rfl ?_
  refine own_ru 36 [(.int (2 : Int32)), (.int (2 : Int32)), (.ref bb), (.ref a1)] X1112 hx hby e23_32_4 rfl rfl ?_
  refine own_cS X1112 hx hZ hown (wd152 hw) (wd153 hw) (by decide) (wd154 hw) (wd139 hw) (rm26l l Z a0 hw [] G1 G2 a1 bb (2 : Int32) (2 : Int32) ta kt (2 : Int32) [(.int y0), (.int y1)] kb [(.int b0), (.int b1), (.int b2), (.int b3)] b2 y0 h0 n0 (by omega) OLD A P0 P1 P2 P3 P4 (by decide) ⟨by decide, by decide⟩ rfl (by decide) (by decide) rfl he0) e1112  [(.ref a1), (.ref bb), (.int (2 : Int32)), (.int (2 : Int32))] [] 39 0 (hb hby d23_36) rfl (by rw [hml]; rfl) rfl rfl (lenOf pd_31 rfl) rfl (by decide) fun v1113 T1113 Lc1113 X1113 hQ1113 => ?_
  obtain ⟨rfl, N1113q, e1113⟩ := hQ1113
  have N1113 := Fr.app N1112 N1113q
  refine own_iN 42 X1113 hx (hb hby d23_39) rfl ((if0 _ _).trans (feq (by decide : ¬ ((1 : Int32) = (0 : Int32)))).1) rfl ?_
  refine own_ru 46 [(.int (3 : Int32)), (.int (2 : Int32)), (.ref bb), (.ref a1)] X1113 hx hby e23_42_4 rfl rfl ?_
  refine own_cS X1113 hx hZ hown (wd152 hw) (wd153 hw) (by decide) (wd154 hw) (wd139 hw) (rm26l l Z a0 hw [] G1 G2 a1 bb (2 : Int32) (3 : Int32) ta kt (2 : Int32) [(.int y0), (.int y1)] kb [(.int b0), (.int b1), (.int b2), (.int b3)] b3 y1 h0 n0 (by omega) OLD A P0 P1 P2 P3 P4 (by decide) ⟨by decide, by decide⟩ rfl (by decide) (by decide) rfl he1) e1113  [(.ref a1), (.ref bb), (.int (2 : Int32)), (.int (3 : Int32))] [] 49 0 (hb hby d23_46) rfl (by rw [hml]; rfl) rfl rfl (lenOf pd_31 rfl) rfl (by decide) fun v1114 T1114 Lc1114 X1114 hQ1114 => ?_
  obtain ⟨rfl, N1114q, e1114⟩ := hQ1114
  have N1114 := Fr.app N1113 N1114q
  refine own_iN 52 X1114 hx (hb hby d23_49) rfl ((if0 _ _).trans (feq (by decide : ¬ ((1 : Int32) = (0 : Int32)))).1) rfl ?_
  refine own_ru 53 [(.int (1 : Int32))] X1114 hx hby e23_52_1 rfl rfl ?_
  refine own_go 57 X1114 hx (hb hby d23_53) (by decide) (by decide) ?_
  have hq1115 : Q23m20 Z G1 G2 a1 bb ta kt kb b0 b1 b2 b3 y0 y1 h0 n0 (some (.int (nar .boolean (1 : Int32)))) h0 _ := ⟨rfl, N1114, rfl⟩
  exact own_retN X1114 hx hlk (t := .boolean) hrt (by simp) (hb hby d23_57) e1114 hq1115 (by decide) (by decide)
def Q23m21 (Z : State) (G1 : Int32) (G2 : Value) (a1 : Addr) (bb : Addr) (ta : Addr) (kt : ClassId) (kb : ClassId) (b0 : Int32) (b1 : Int32) (b2 : Int32) (b3 : Int32) (y0 : Int32) (y1 : Int32) (z0 : Int32) (z1 : Int32) (h0 : Heap) (n0 : Nat) (v : Option Value) (h : Heap) (L : List Loc) : Prop := v = some (.int (1 : Int32)) ∧ Fr n0 L ∧ h = h0
set_option maxRecDepth 65536 in
set_option maxHeartbeats 40000000 in
theorem rm23m21 (l : Launch) (Z : State) (a0 : Array Value) (hw : OW a0 Z) (ws : List Jvm.Cond) (G1 : Int32) (G2 : Value) (a1 : Addr) (bb : Addr) (ta : Addr) (kt : ClassId) (kb : ClassId) (b0 : Int32) (b1 : Int32) (b2 : Int32) (b3 : Int32) (y0 : Int32) (y1 : Int32) (z0 : Int32) (z1 : Int32) (h0 : Heap) (n0 : Nat) (Z0 : n0 ≤ h0.size) (OLD : Old Z n0 h0) (A : Amb Z G1 G2) (P0 : ex14 Z h0 a1) (P1 : fl15 Z h0 a1 (.ref ta)) (P2 : fl13 Z h0 a1 (.int (1 : Int32))) (P3 : Arv Z h0 ta kt .byte (4 : Int32) [(.int y0), (.int z0), (.int y1), (.int z1)] (.int (0 : Int32))) (P4 : Arv Z h0 bb kb .byte (4 : Int32) [(.int b0), (.int b1), (.int b2), (.int b3)] (.int (0 : Int32))) (he0 : (own_u y0 z0) = (own_exp b2)) (he1 : (own_u y1 z1) = (own_exp b3)) :
    own_Met l my23 method_5_code 3 (some .boolean) ws (own_rm 6 0 0 81) #[(.ref a1), (.ref bb), (.int (2 : Int32))] Z h0 (Q23m21 Z G1 G2 a1 bb ta kt kb b0 b1 b2 b3 y0 y1 z0 z1 h0 n0) 0 0 := by
  refine own_body (plainFor_of_name pn_9) (fun m => by first | (simp [entryFrame, mkF, argsToLocals, Value.category]; done) | rfl) (Ls := #[.val (.ref a1), .val (.ref bb), .val (.int (2 : Int32))]) fun p e s m below meth c s₁ X0 hx hby hml hZ e0 hown hnm hlk hrt => ?_
  have N0 := Fr.nil n0
  have lt_P0 : @LT.lt Nat _ a1 (Array.size h0) := P0.lt
  have lt_P3 : @LT.lt Nat _ ta (Array.size h0) := P3.lt
  have lt_P4 : @LT.lt Nat _ bb (Array.size h0) := P4.lt
  refine own_ru 1 [(.ref a1)] X0 hx hby e23_0_1 rfl rfl ?_
  refine own_cV X0 hx hZ hown (wd141 hw) (wd142 hw) (notFace_of_selects (args := #[]) (mvT hZ (wd144 hw))) (wd144 hw) (wd143 hw) (by decide) (wd145 hw) (wd61 hw) (rm24d1 l Z a0 hw [] G1 G2 a1 ta kt (4 : Int32) [(.int y0), (.int z0), (.int y1), (.int z1)] h0 n0 (by omega) OLD A P0 P1 P2 P3) e0 P0 [] [] 4 0 (hb hby d23_1) rfl (by rw [hml]; rfl) rfl rfl (lenOf pd_19 rfl) rfl (by decide) fun v1116 T1116 Lc1116 X1116 hQ1116 => ?_
  obtain ⟨rfl, N1116q, e1116⟩ := hQ1116
  have N1116 := Fr.app N0 N1116q
  refine own_ru 7 [(.int (2 : Int32)), (.int (2 : Int32))] X1116 hx hby e23_4_3 rfl rfl ?_
  refine own_kY 12 X1116 hx (hb hby d23_7) rfl (teq (by decide : ((2 : Int32) = (2 : Int32)))).1 (by decide) (by decide) ?_
  refine own_ru 16 [(.int (0 : Int32)), (.int (2 : Int32)), (.ref bb), (.ref a1)] X1116 hx hby e23_12_4 rfl rfl ?_
  refine own_cS X1116 hx hZ hown (wd152 hw) (wd153 hw) (by decide) (wd154 hw) (wd139 hw) (rm26k l Z a0 hw [] a1 bb (2 : Int32) (0 : Int32) h0 n0 (by omega) (by decide)) e1116  [(.ref a1), (.ref bb), (.int (2 : Int32)), (.int (0 : Int32))] [] 19 0 (hb hby d23_16) rfl (by rw [hml]; rfl) rfl rfl (lenOf pd_31 rfl) rfl (by decide) fun v1117 T1117 Lc1117 X1117 hQ1117 => ?_
  obtain ⟨rfl, N1117q, e1117⟩ := hQ1117
  have N1117 := Fr.app N1116 N1117q
  refine own_iN 22 X1117 hx (hb hby d23_19) rfl ((if0 _ _).trans (feq (by decide : ¬ ((1 : Int32) = (0 : Int32)))).1) rfl ?_
  refine own_ru 26 [(.int (1 : Int32)), (.int (2 : Int32)), (.ref bb), (.ref a1)] X1117 hx hby e23_22_4 rfl rfl ?_
  refine own_cS X1117 hx hZ hown (wd152 hw) (wd153 hw) (by decide) (wd154 hw) (wd139 hw) (rm26k l Z a0 hw [] a1 bb (2 : Int32) (1 : Int32) h0 n0 (by omega) (by decide)) e1117  [(.ref a1), (.ref bb), (.int (2 : Int32)), (.int (1 : Int32))] [] 29 0 (hb hby d23_26) rfl (by rw [hml]; rfl) rfl rfl (lenOf pd_31 rfl) rfl (by decide) fun v1118 T1118 Lc1118 X1118 hQ1118 => ?_
  obtain ⟨rfl, N1118q, e1118⟩ := hQ1118
  have N1118 := Fr.app N1117 N1118q
  refine own_iN 32 X1118 hx (hb hby d23_29) rfl ((if0 _ _).trans (feq (by decide : ¬ ((1 : Int32) = (0 : Int32)))).1) rfl ?_
  refine own_ru 36 [(.int (2 : Int32)), (.int (2 : Int32)), (.ref bb), (.ref a1)] X1118 hx hby e23_32_4 rfl rfl ?_
  refine own_cS X1118 hx hZ hown (wd152 hw) (wd153 hw) (by decide) (wd154 hw) (wd139 hw) (rm26u l Z a0 hw [] G1 G2 a1 bb (2 : Int32) (2 : Int32) ta kt (4 : Int32) [(.int y0), (.int z0), (.int y1), (.int z1)] kb [(.int b0), (.int b1), (.int b2), (.int b3)] b2 y0 z0 h0 n0 (by omega) OLD A P0 P1 P2 P3 P4 (by decide) ⟨by decide, by decide⟩ rfl (by decide) (by decide) ⟨by decide, by decide⟩ ⟨by decide, by decide⟩ rfl rfl he0) e1118  [(.ref a1), (.ref bb), (.int (2 : Int32)), (.int (2 : Int32))] [] 39 0 (hb hby d23_36) rfl (by rw [hml]; rfl) rfl rfl (lenOf pd_31 rfl) rfl (by decide) fun v1119 T1119 Lc1119 X1119 hQ1119 => ?_
  obtain ⟨rfl, N1119q, e1119⟩ := hQ1119
  have N1119 := Fr.app N1118 N1119q
  refine own_iN 42 X1119 hx (hb hby d23_39) rfl ((if0 _ _).trans (feq (by decide : ¬ ((1 : Int32) = (0 : Int32)))).1) rfl ?_
  refine own_ru 46 [(.int (3 : Int32)), (.int (2 : Int32)), (.ref bb), (.ref a1)] X1119 hx hby e23_42_4 rfl rfl ?_
  refine own_cS X1119 hx hZ hown (wd152 hw) (wd153 hw) (by decide) (wd154 hw) (wd139 hw) (rm26u l Z a0 hw [] G1 G2 a1 bb (2 : Int32) (3 : Int32) ta kt (4 : Int32) [(.int y0), (.int z0), (.int y1), (.int z1)] kb [(.int b0), (.int b1), (.int b2), (.int b3)] b3 y1 z1 h0 n0 (by omega) OLD A P0 P1 P2 P3 P4 (by decide) ⟨by decide, by decide⟩ rfl (by decide) (by decide) ⟨by decide, by decide⟩ ⟨by decide, by decide⟩ rfl rfl he1) e1119  [(.ref a1), (.ref bb), (.int (2 : Int32)), (.int (3 : Int32))] [] 49 0 (hb hby d23_46) rfl (by rw [hml]; rfl) rfl rfl (lenOf pd_31 rfl) rfl (by decide) fun v1120 T1120 Lc1120 X1120 hQ1120 => ?_
  obtain ⟨rfl, N1120q, e1120⟩ := hQ1120
  have N1120 := Fr.app N1119 N1120q
  refine own_iN 52 X1120 hx (hb hby d23_49) rfl ((if0 _ _).trans (feq (by decide : ¬ ((1 : Int32) = (0 : Int32)))).1) rfl ?_
  refine own_ru 53 [(.int (1 : Int32))] X1120 hx hby e23_52_1 rfl rfl ?_
  refine own_go 57 X1120 hx (hb hby d23_53) (by decide) (by decide) ?_
  have hq1121 : Q23m21 Z G1 G2 a1 bb ta kt kb b0 b1 b2 b3 y0 y1 z0 z1 h0 n0 (some (.int (nar .boolean (1 : Int32)))) h0 _ := ⟨rfl, N1120, rfl⟩
  exact own_retN X1120 hx hlk (t := .boolean) hrt (by simp) (hb hby d23_57) e1120 hq1121 (by decide) (by decide)
def Q23m30 (Z : State) (G1 : Int32) (G2 : Value) (a1 : Addr) (bb : Addr) (ta : Addr) (kt : ClassId) (kb : ClassId) (b0 : Int32) (b1 : Int32) (b2 : Int32) (b3 : Int32) (y0 : Int32) (h0 : Heap) (n0 : Nat) (v : Option Value) (h : Heap) (L : List Loc) : Prop := v = some (.int (1 : Int32)) ∧ Fr n0 L ∧ h = h0
set_option maxRecDepth 65536 in
set_option maxHeartbeats 40000000 in
theorem rm23m30 (l : Launch) (Z : State) (a0 : Array Value) (hw : OW a0 Z) (ws : List Jvm.Cond) (G1 : Int32) (G2 : Value) (a1 : Addr) (bb : Addr) (ta : Addr) (kt : ClassId) (kb : ClassId) (b0 : Int32) (b1 : Int32) (b2 : Int32) (b3 : Int32) (y0 : Int32) (h0 : Heap) (n0 : Nat) (Z0 : n0 ≤ h0.size) (OLD : Old Z n0 h0) (A : Amb Z G1 G2) (P0 : ex14 Z h0 a1) (P1 : fl15 Z h0 a1 (.ref ta)) (P2 : fl13 Z h0 a1 (.int (0 : Int32))) (P3 : Arv Z h0 ta kt .byte (1 : Int32) [(.int y0)] (.int (0 : Int32))) (P4 : Arv Z h0 bb kb .byte (4 : Int32) [(.int b0), (.int b1), (.int b2), (.int b3)] (.int (0 : Int32))) (he0 : (own_lc y0) = (own_exp b3)) :
    own_Met l my23 method_5_code 3 (some .boolean) ws (own_rm 5 0 0 68) #[(.ref a1), (.ref bb), (.int (3 : Int32))] Z h0 (Q23m30 Z G1 G2 a1 bb ta kt kb b0 b1 b2 b3 y0 h0 n0) 0 0 := by
  refine own_body (plainFor_of_name pn_9) (fun m => by first | (simp [entryFrame, mkF, argsToLocals, Value.category]; done) | rfl) (Ls := #[.val (.ref a1), .val (.ref bb), .val (.int (3 : Int32))]) fun p e s m below meth c s₁ X0 hx hby hml hZ e0 hown hnm hlk hrt => ?_
  have N0 := Fr.nil n0
  have lt_P0 : @LT.lt Nat _ a1 (Array.size h0) := P0.lt
  have lt_P3 : @LT.lt Nat _ ta (Array.size h0) := P3.lt
  have lt_P4 : @LT.lt Nat _ bb (Array.size h0) := P4.lt
  refine own_ru 1 [(.ref a1)] X0 hx hby e23_0_1 rfl rfl ?_
  refine own_cV X0 hx hZ hown (wd141 hw) (wd142 hw) (notFace_of_selects (args := #[]) (mvT hZ (wd144 hw))) (wd144 hw) (wd143 hw) (by decide) (wd145 hw) (wd61 hw) (rm24d0 l Z a0 hw [] G1 G2 a1 ta kt (1 : Int32) [(.int y0)] h0 n0 (by omega) OLD A P0 P1 P2 P3) e0 P0 [] [] 4 0 (hb hby d23_1) rfl (by rw [hml]; rfl) rfl rfl (lenOf pd_19 rfl) rfl (by decide) fun v1122 T1122 Lc1122 X1122 hQ1122 => ?_
  obtain ⟨rfl, N1122q, e1122⟩ := hQ1122
  have N1122 := Fr.app N0 N1122q
  refine own_ru 7 [(.int (1 : Int32)), (.int (1 : Int32))] X1122 hx hby e23_4_3 rfl rfl ?_
  refine own_kY 12 X1122 hx (hb hby d23_7) rfl (teq (by decide : ((1 : Int32) = (1 : Int32)))).1 (by decide) (by decide) ?_
  refine own_ru 16 [(.int (0 : Int32)), (.int (3 : Int32)), (.ref bb), (.ref a1)] X1122 hx hby e23_12_4 rfl rfl ?_
  refine own_cS X1122 hx hZ hown (wd152 hw) (wd153 hw) (by decide) (wd154 hw) (wd139 hw) (rm26k l Z a0 hw [] a1 bb (3 : Int32) (0 : Int32) h0 n0 (by omega) (by decide)) e1122  [(.ref a1), (.ref bb), (.int (3 : Int32)), (.int (0 : Int32))] [] 19 0 (hb hby d23_16) rfl (by rw [hml]; rfl) rfl rfl (lenOf pd_31 rfl) rfl (by decide) fun v1123 T1123 Lc1123 X1123 hQ1123 => ?_
  obtain ⟨rfl, N1123q, e1123⟩ := hQ1123
  have N1123 := Fr.app N1122 N1123q
  refine own_iN 22 X1123 hx (hb hby d23_19) rfl ((if0 _ _).trans (feq (by decide : ¬ ((1 : Int32) = (0 : Int32)))).1) rfl ?_
  refine own_ru 26 [(.int (1 : Int32)), (.int (3 : Int32)), (.ref bb), (.ref a1)] X1123 hx hby e23_22_4 rfl rfl ?_
  refine own_cS X1123 hx hZ hown (wd152 hw) (wd153 hw) (by decide) (wd154 hw) (wd139 hw) (rm26k l Z a0 hw [] a1 bb (3 : Int32) (1 : Int32) h0 n0 (by omega) (by decide)) e1123  [(.ref a1), (.ref bb), (.int (3 : Int32)), (.int (1 : Int32))] [] 29 0 (hb hby d23_26) rfl (by rw [hml]; rfl) rfl rfl (lenOf pd_31 rfl) rfl (by decide) fun v1124 T1124 Lc1124 X1124 hQ1124 => ?_
  obtain ⟨rfl, N1124q, e1124⟩ := hQ1124
  have N1124 := Fr.app N1123 N1124q
  refine own_iN 32 X1124 hx (hb hby d23_29) rfl ((if0 _ _).trans (feq (by decide : ¬ ((1 : Int32) = (0 : Int32)))).1) rfl ?_
  refine own_ru 36 [(.int (2 : Int32)), (.int (3 : Int32)), (.ref bb), (.ref a1)] X1124 hx hby e23_32_4 rfl rfl ?_
  refine own_cS X1124 hx hZ hown (wd152 hw) (wd153 hw) (by decide) (wd154 hw) (wd139 hw) (rm26k l Z a0 hw [] a1 bb (3 : Int32) (2 : Int32) h0 n0 (by omega) (by decide)) e1124  [(.ref a1), (.ref bb), (.int (3 : Int32)), (.int (2 : Int32))] [] 39 0 (hb hby d23_36) rfl (by rw [hml]; rfl) rfl rfl (lenOf pd_31 rfl) rfl (by decide) fun v1125 T1125 Lc1125 X1125 hQ1125 => ?_
  obtain ⟨rfl, N1125q, e1125⟩ := hQ1125
  have N1125 := Fr.app N1124 N1125q
  refine own_iN 42 X1125 hx (hb hby d23_39) rfl ((if0 _ _).trans (feq (by decide : ¬ ((1 : Int32) = (0 : Int32)))).1) rfl ?_
  refine own_ru 46 [(.int (3 : Int32)), (.int (3 : Int32)), (.ref bb), (.ref a1)] X1125 hx hby e23_42_4 rfl rfl ?_
  refine own_cS X1125 hx hZ hown (wd152 hw) (wd153 hw) (by decide) (wd154 hw) (wd139 hw) (rm26l l Z a0 hw [] G1 G2 a1 bb (3 : Int32) (3 : Int32) ta kt (1 : Int32) [(.int y0)] kb [(.int b0), (.int b1), (.int b2), (.int b3)] b3 y0 h0 n0 (by omega) OLD A P0 P1 P2 P3 P4 (by decide) ⟨by decide, by decide⟩ rfl (by decide) (by decide) rfl he0) e1125  [(.ref a1), (.ref bb), (.int (3 : Int32)), (.int (3 : Int32))] [] 49 0 (hb hby d23_46) rfl (by rw [hml]; rfl) rfl rfl (lenOf pd_31 rfl) rfl (by decide) fun v1126 T1126 Lc1126 X1126 hQ1126 => ?_
  obtain ⟨rfl, N1126q, e1126⟩ := hQ1126
  have N1126 := Fr.app N1125 N1126q
  refine own_iN 52 X1126 hx (hb hby d23_49) rfl ((if0 _ _).trans (feq (by decide : ¬ ((1 : Int32) = (0 : Int32)))).1) rfl ?_
  refine own_ru 53 [(.int (1 : Int32))] X1126 hx hby e23_52_1 rfl rfl ?_
  refine own_go 57 X1126 hx (hb hby d23_53) (by decide) (by decide) ?_
  have hq1127 : Q23m30 Z G1 G2 a1 bb ta kt kb b0 b1 b2 b3 y0 h0 n0 (some (.int (nar .boolean (1 : Int32)))) h0 _ := ⟨rfl, N1126, rfl⟩
  exact own_retN X1126 hx hlk (t := .boolean) hrt (by simp) (hb hby d23_57) e1126 hq1127 (by decide) (by decide)
def Q23m31 (Z : State) (G1 : Int32) (G2 : Value) (a1 : Addr) (bb : Addr) (ta : Addr) (kt : ClassId) (kb : ClassId) (b0 : Int32) (b1 : Int32) (b2 : Int32) (b3 : Int32) (y0 : Int32) (z0 : Int32) (h0 : Heap) (n0 : Nat) (v : Option Value) (h : Heap) (L : List Loc) : Prop := v = some (.int (1 : Int32)) ∧ Fr n0 L ∧ h = h0
set_option maxRecDepth 65536 in
set_option maxHeartbeats 40000000 in
theorem rm23m31 (l : Launch) (Z : State) (a0 : Array Value) (hw : OW a0 Z) (ws : List Jvm.Cond) (G1 : Int32) (G2 : Value) (a1 : Addr) (bb : Addr) (ta : Addr) (kt : ClassId) (kb : ClassId) (b0 : Int32) (b1 : Int32) (b2 : Int32) (b3 : Int32) (y0 : Int32) (z0 : Int32) (h0 : Heap) (n0 : Nat) (Z0 : n0 ≤ h0.size) (OLD : Old Z n0 h0) (A : Amb Z G1 G2) (P0 : ex14 Z h0 a1) (P1 : fl15 Z h0 a1 (.ref ta)) (P2 : fl13 Z h0 a1 (.int (1 : Int32))) (P3 : Arv Z h0 ta kt .byte (2 : Int32) [(.int y0), (.int z0)] (.int (0 : Int32))) (P4 : Arv Z h0 bb kb .byte (4 : Int32) [(.int b0), (.int b1), (.int b2), (.int b3)] (.int (0 : Int32))) (he0 : (own_u y0 z0) = (own_exp b3)) :
    own_Met l my23 method_5_code 3 (some .boolean) ws (own_rm 6 0 0 81) #[(.ref a1), (.ref bb), (.int (3 : Int32))] Z h0 (Q23m31 Z G1 G2 a1 bb ta kt kb b0 b1 b2 b3 y0 z0 h0 n0) 0 0 := by
  refine own_body (plainFor_of_name pn_9) (fun m => by first | (simp [entryFrame, mkF, argsToLocals, Value.category]; done) | rfl) (Ls := #[.val (.ref a1), .val (.ref bb), .val (.int (3 : Int32))]) fun p e s m below meth c s₁ X0 hx hby hml hZ e0 hown hnm hlk hrt => ?_
  have N0 := Fr.nil n0
  have lt_P0 : @LT.lt Nat _ a1 (Array.size h0) := P0.lt
  have lt_P3 : @LT.lt Nat _ ta (Array.size h0) := P3.lt
  have lt_P4 : @LT.lt Nat _ bb (Array.size h0) := P4.lt
  refine own_ru 1 [(.ref a1)] X0 hx hby e23_0_1 rfl rfl ?_
  refine own_cV X0 hx hZ hown (wd141 hw) (wd142 hw) (notFace_of_selects (args := #[]) (mvT hZ (wd144 hw))) (wd144 hw) (wd143 hw) (by decide) (wd145 hw) (wd61 hw) (rm24d1 l Z a0 hw [] G1 G2 a1 ta kt (2 : Int32) [(.int y0), (.int z0)] h0 n0 (by omega) OLD A P0 P1 P2 P3) e0 P0 [] [] 4 0 (hb hby d23_1) rfl (by rw [hml]; rfl) rfl rfl (lenOf pd_19 rfl) rfl (by decide) fun v1128 T1128 Lc1128 X1128 hQ1128 => ?_
  obtain ⟨rfl, N1128q, e1128⟩ := hQ1128
  have N1128 := Fr.app N0 N1128q
  refine own_ru 7 [(.int (1 : Int32)), (.int (1 : Int32))] X1128 hx hby e23_4_3 rfl rfl ?_
  refine own_kY 12 X1128 hx (hb hby d23_7) rfl (teq (by decide : ((1 : Int32) = (1 : Int32)))).1 (by decide) (by decide) ?_
  refine own_ru 16 [(.int (0 : Int32)), (.int (3 : Int32)), (.ref bb), (.ref a1)] X1128 hx hby e23_12_4 rfl rfl ?_
  refine own_cS X1128 hx hZ hown (wd152 hw) (wd153 hw) (by decide) (wd154 hw) (wd139 hw) (rm26k l Z a0 hw [] a1 bb (3 : Int32) (0 : Int32) h0 n0 (by omega) (by decide)) e1128  [(.ref a1), (.ref bb), (.int (3 : Int32)), (.int (0 : Int32))] [] 19 0 (hb hby d23_16) rfl (by rw [hml]; rfl) rfl rfl (lenOf pd_31 rfl) rfl (by decide) fun v1129 T1129 Lc1129 X1129 hQ1129 => ?_
  obtain ⟨rfl, N1129q, e1129⟩ := hQ1129
  have N1129 := Fr.app N1128 N1129q
  refine own_iN 22 X1129 hx (hb hby d23_19) rfl ((if0 _ _).trans (feq (by decide : ¬ ((1 : Int32) = (0 : Int32)))).1) rfl ?_
  refine own_ru 26 [(.int (1 : Int32)), (.int (3 : Int32)), (.ref bb), (.ref a1)] X1129 hx hby e23_22_4 rfl rfl ?_
  refine own_cS X1129 hx hZ hown (wd152 hw) (wd153 hw) (by decide) (wd154 hw) (wd139 hw) (rm26k l Z a0 hw [] a1 bb (3 : Int32) (1 : Int32) h0 n0 (by omega) (by decide)) e1129  [(.ref a1), (.ref bb), (.int (3 : Int32)), (.int (1 : Int32))] [] 29 0 (hb hby d23_26) rfl (by rw [hml]; rfl) rfl rfl (lenOf pd_31 rfl) rfl (by decide) fun v1130 T1130 Lc1130 X1130 hQ1130 => ?_
  obtain ⟨rfl, N1130q, e1130⟩ := hQ1130
  have N1130 := Fr.app N1129 N1130q
  refine own_iN 32 X1130 hx (hb hby d23_29) rfl ((if0 _ _).trans (feq (by decide : ¬ ((1 : Int32) = (0 : Int32)))).1) rfl ?_
  refine own_ru 36 [(.int (2 : Int32)), (.int (3 : Int32)), (.ref bb), (.ref a1)] X1130 hx hby e23_32_4 rfl rfl ?_
  refine own_cS X1130 hx hZ hown (wd152 hw) (wd153 hw) (by decide) (wd154 hw) (wd139 hw) (rm26k l Z a0 hw [] a1 bb (3 : Int32) (2 : Int32) h0 n0 (by omega) (by decide)) e1130  [(.ref a1), (.ref bb), (.int (3 : Int32)), (.int (2 : Int32))] [] 39 0 (hb hby d23_36) rfl (by rw [hml]; rfl) rfl rfl (lenOf pd_31 rfl) rfl (by decide) fun v1131 T1131 Lc1131 X1131 hQ1131 => ?_
  obtain ⟨rfl, N1131q, e1131⟩ := hQ1131
  have N1131 := Fr.app N1130 N1131q
  refine own_iN 42 X1131 hx (hb hby d23_39) rfl ((if0 _ _).trans (feq (by decide : ¬ ((1 : Int32) = (0 : Int32)))).1) rfl ?_
  refine own_ru 46 [(.int (3 : Int32)), (.int (3 : Int32)), (.ref bb), (.ref a1)] X1131 hx hby e23_42_4 rfl rfl ?_
  refine own_cS X1131 hx hZ hown (wd152 hw) (wd153 hw) (by decide) (wd154 hw) (wd139 hw) (rm26u l Z a0 hw [] G1 G2 a1 bb (3 : Int32) (3 : Int32) ta kt (2 : Int32) [(.int y0), (.int z0)] kb [(.int b0), (.int b1), (.int b2), (.int b3)] b3 y0 z0 h0 n0 (by omega) OLD A P0 P1 P2 P3 P4 (by decide) ⟨by decide, by decide⟩ rfl (by decide) (by decide) ⟨by decide, by decide⟩ ⟨by decide, by decide⟩ rfl rfl he0) e1131  [(.ref a1), (.ref bb), (.int (3 : Int32)), (.int (3 : Int32))] [] 49 0 (hb hby d23_46) rfl (by rw [hml]; rfl) rfl rfl (lenOf pd_31 rfl) rfl (by decide) fun v1132 T1132 Lc1132 X1132 hQ1132 => ?_
  obtain ⟨rfl, N1132q, e1132⟩ := hQ1132
  have N1132 := Fr.app N1131 N1132q
  refine own_iN 52 X1132 hx (hb hby d23_49) rfl ((if0 _ _).trans (feq (by decide : ¬ ((1 : Int32) = (0 : Int32)))).1) rfl ?_
  refine own_ru 53 [(.int (1 : Int32))] X1132 hx hby e23_52_1 rfl rfl ?_
  refine own_go 57 X1132 hx (hb hby d23_53) (by decide) (by decide) ?_
  have hq1133 : Q23m31 Z G1 G2 a1 bb ta kt kb b0 b1 b2 b3 y0 z0 h0 n0 (some (.int (nar .boolean (1 : Int32)))) h0 _ := ⟨rfl, N1132, rfl⟩
  exact own_retN X1132 hx hlk (t := .boolean) hrt (by simp) (hb hby d23_57) e1132 hq1133 (by decide) (by decide)
def Q23m40 (Z : State) (G1 : Int32) (G2 : Value) (a1 : Addr) (bb : Addr) (ta : Addr) (kt : ClassId) (kb : ClassId) (b0 : Int32) (b1 : Int32) (b2 : Int32) (b3 : Int32) (h0 : Heap) (n0 : Nat) (v : Option Value) (h : Heap) (L : List Loc) : Prop := v = some (.int (1 : Int32)) ∧ Fr n0 L ∧ h = h0
set_option maxRecDepth 65536 in
set_option maxHeartbeats 40000000 in
theorem rm23m40 (l : Launch) (Z : State) (a0 : Array Value) (hw : OW a0 Z) (ws : List Jvm.Cond) (G1 : Int32) (G2 : Value) (a1 : Addr) (bb : Addr) (ta : Addr) (kt : ClassId) (kb : ClassId) (b0 : Int32) (b1 : Int32) (b2 : Int32) (b3 : Int32) (h0 : Heap) (n0 : Nat) (Z0 : n0 ≤ h0.size) (OLD : Old Z n0 h0) (A : Amb Z G1 G2) (P0 : ex14 Z h0 a1) (P1 : fl15 Z h0 a1 (.ref ta)) (P2 : fl13 Z h0 a1 (.int (0 : Int32))) (P3 : Arv Z h0 ta kt .byte (0 : Int32) [] (.int (0 : Int32))) (P4 : Arv Z h0 bb kb .byte (4 : Int32) [(.int b0), (.int b1), (.int b2), (.int b3)] (.int (0 : Int32))) :
    own_Met l my23 method_5_code 3 (some .boolean) ws (own_rm 2 0 0 25) #[(.ref a1), (.ref bb), (.int (4 : Int32))] Z h0 (Q23m40 Z G1 G2 a1 bb ta kt kb b0 b1 b2 b3 h0 n0) 0 0 := by
  refine own_body (plainFor_of_name pn_9) (fun m => by first | (simp [entryFrame, mkF, argsToLocals, Value.category]; done) | rfl) (Ls := #[.val (.ref a1), .val (.ref bb), .val (.int (4 : Int32))]) fun p e s m below meth c s₁ X0 hx hby hml hZ e0 hown hnm hlk hrt => ?_
  have N0 := Fr.nil n0
  have lt_P0 : @LT.lt Nat _ a1 (Array.size h0) := P0.lt
  have lt_P3 : @LT.lt Nat _ ta (Array.size h0) := P3.lt
  have lt_P4 : @LT.lt Nat _ bb (Array.size h0) := P4.lt
  refine own_ru 1 [(.ref a1)] X0 hx hby e23_0_1 rfl rfl ?_
  refine own_cV X0 hx hZ hown (wd141 hw) (wd142 hw) (notFace_of_selects (args := #[]) (mvT hZ (wd144 hw))) (wd144 hw) (wd143 hw) (by decide) (wd145 hw) (wd61 hw) (rm24d0 l Z a0 hw [] G1 G2 a1 ta kt (0 : Int32) [] h0 n0 (by omega) OLD A P0 P1 P2 P3) e0 P0 [] [] 4 0 (hb hby d23_1) rfl (by rw [hml]; rfl) rfl rfl (lenOf pd_19 rfl) rfl (by decide) fun v1134 T1134 Lc1134 X1134 hQ1134 => ?_
  obtain ⟨rfl, N1134q, e1134⟩ := hQ1134
  have N1134 := Fr.app N0 N1134q
  refine own_ru 7 [(.int (0 : Int32)), (.int (0 : Int32))] X1134 hx hby e23_4_3 rfl rfl ?_
  refine own_kY 12 X1134 hx (hb hby d23_7) rfl (teq (by decide : ((0 : Int32) = (0 : Int32)))).1 (by decide) (by decide) ?_
  refine own_ru 16 [(.int (0 : Int32)), (.int (4 : Int32)), (.ref bb), (.ref a1)] X1134 hx hby e23_12_4 rfl rfl ?_
  refine own_cS X1134 hx hZ hown (wd152 hw) (wd153 hw) (by decide) (wd154 hw) (wd139 hw) (rm26k l Z a0 hw [] a1 bb (4 : Int32) (0 : Int32) h0 n0 (by omega) (by decide)) e1134  [(.ref a1), (.ref bb), (.int (4 : Int32)), (.int (0 : Int32))] [] 19 0 (hb hby d23_16) rfl (by rw [hml]; rfl) rfl rfl (lenOf pd_31 rfl) rfl (by decide) fun v1135 T1135 Lc1135 X1135 hQ1135 => ?_
  obtain ⟨rfl, N1135q, e1135⟩ := hQ1135
  have N1135 := Fr.app N1134 N1135q
  refine own_iN 22 X1135 hx (hb hby d23_19) rfl ((if0 _ _).trans (feq (by decide : ¬ ((1 : Int32) = (0 : Int32)))).1) rfl ?_
  refine own_ru 26 [(.int (1 : Int32)), (.int (4 : Int32)), (.ref bb), (.ref a1)] X1135 hx hby e23_22_4 rfl rfl ?_
  refine own_cS X1135 hx hZ hown (wd152 hw) (wd153 hw) (by decide) (wd154 hw) (wd139 hw) (rm26k l Z a0 hw [] a1 bb (4 : Int32) (1 : Int32) h0 n0 (by omega) (by decide)) e1135  [(.ref a1), (.ref bb), (.int (4 : Int32)), (.int (1 : Int32))] [] 29 0 (hb hby d23_26) rfl (by rw [hml]; rfl) rfl rfl (lenOf pd_31 rfl) rfl (by decide) fun v1136 T1136 Lc1136 X1136 hQ1136 => ?_
  obtain ⟨rfl, N1136q, e1136⟩ := hQ1136
  have N1136 := Fr.app N1135 N1136q
  refine own_iN 32 X1136 hx (hb hby d23_29) rfl ((if0 _ _).trans (feq (by decide : ¬ ((1 : Int32) = (0 : Int32)))).1) rfl ?_
  refine own_ru 36 [(.int (2 : Int32)), (.int (4 : Int32)), (.ref bb), (.ref a1)] X1136 hx hby e23_32_4 rfl rfl ?_
  refine own_cS X1136 hx hZ hown (wd152 hw) (wd153 hw) (by decide) (wd154 hw) (wd139 hw) (rm26k l Z a0 hw [] a1 bb (4 : Int32) (2 : Int32) h0 n0 (by omega) (by decide)) e1136  [(.ref a1), (.ref bb), (.int (4 : Int32)), (.int (2 : Int32))] [] 39 0 (hb hby d23_36) rfl (by rw [hml]; rfl) rfl rfl (lenOf pd_31 rfl) rfl (by decide) fun v1137 T1137 Lc1137 X1137 hQ1137 => ?_
  obtain ⟨rfl, N1137q, e1137⟩ := hQ1137
  have N1137 := Fr.app N1136 N1137q
  refine own_iN 42 X1137 hx (hb hby d23_39) rfl ((if0 _ _).trans (feq (by decide : ¬ ((1 : Int32) = (0 : Int32)))).1) rfl ?_
  refine own_ru 46 [(.int (3 : Int32)), (.int (4 : Int32)), (.ref bb), (.ref a1)] X1137 hx hby e23_42_4 rfl rfl ?_
  refine own_cS X1137 hx hZ hown (wd152 hw) (wd153 hw) (by decide) (wd154 hw) (wd139 hw) (rm26k l Z a0 hw [] a1 bb (4 : Int32) (3 : Int32) h0 n0 (by omega) (by decide)) e1137  [(.ref a1), (.ref bb), (.int (4 : Int32)), (.int (3 : Int32))] [] 49 0 (hb hby d23_46) rfl (by rw [hml]; rfl) rfl rfl (lenOf pd_31 rfl) rfl (by decide) fun v1138 T1138 Lc1138 X1138 hQ1138 => ?_
  obtain ⟨rfl, N1138q, e1138⟩ := hQ1138
  have N1138 := Fr.app N1137 N1138q
  refine own_iN 52 X1138 hx (hb hby d23_49) rfl ((if0 _ _).trans (feq (by decide : ¬ ((1 : Int32) = (0 : Int32)))).1) rfl ?_
  refine own_ru 53 [(.int (1 : Int32))] X1138 hx hby e23_52_1 rfl rfl ?_
  refine own_go 57 X1138 hx (hb hby d23_53) (by decide) (by decide) ?_
  have hq1139 : Q23m40 Z G1 G2 a1 bb ta kt kb b0 b1 b2 b3 h0 n0 (some (.int (nar .boolean (1 : Int32)))) h0 _ := ⟨rfl, N1138, rfl⟩
  exact own_retN X1138 hx hlk (t := .boolean) hrt (by simp) (hb hby d23_57) e1138 hq1139 (by decide) (by decide)
theorem e0_0_1 : own_dec code 0 [(.iconst 4, 1)] = true := by decide +kernel
theorem e0_3_5 : own_dec code 3 [(.astore_n 2, 1), (.aload_n 2, 1), (.iconst 0, 1), (.iload_n 0, 1), (.i2b, 1)] = true := by decide +kernel
theorem e0_9_6 : own_dec code 9 [(.aload_n 2, 1), (.iconst 1, 1), (.iload_n 0, 1), (.bipush 8, 2), (.iushr, 1), (.i2b, 1)] = true := by decide +kernel
theorem e0_17_6 : own_dec code 17 [(.aload_n 2, 1), (.iconst 2, 1), (.iload_n 0, 1), (.bipush 16, 2), (.iushr, 1), (.i2b, 1)] = true := by decide +kernel
theorem e0_25_6 : own_dec code 25 [(.aload_n 2, 1), (.iconst 3, 1), (.iload_n 0, 1), (.bipush 24, 2), (.iushr, 1), (.i2b, 1)] = true := by decide +kernel
theorem e0_33_4 : own_dec code 33 [(.iload_n 1, 1), (.bipush 7, 2), (.iand, 1), (.iconst 5, 1)] = true := by decide +kernel
theorem e0_39_1 : own_dec code 39 [(.istore_n 3, 1)] = true := by decide +kernel
theorem e0_43_4 : own_dec code 43 [(.astore 4, 2), (.aload 4, 2), (.aload_n 2, 1), (.iload_n 3, 1)] = true := by decide +kernel
theorem e0_52_4 : own_dec code 52 [(.astore 5, 2), (.aload 4, 2), (.aload_n 2, 1), (.iconst 0, 1)] = true := by decide +kernel
theorem e0_61_4 : own_dec code 61 [(.astore 6, 2), (.aload 5, 2), (.aload_n 2, 1), (.iload_n 3, 1)] = true := by decide +kernel
theorem e0_73_3 : own_dec code 73 [(.aload 6, 2), (.aload_n 2, 1), (.iconst 0, 1)] = true := by decide +kernel
theorem e0_83_1 : own_dec code 83 [(.iconst 1, 1)] = true := by decide +kernel
theorem pd_32 : parseMethodDescriptor "()Lcom/example/annotree/annotree/tree/SingleByteDecoder;" = some ⟨[], some (.object "com/example/annotree/annotree/tree/SingleByteDecoder")⟩ := by decide +kernel
theorem pd_33 : parseMethodDescriptor "([BI)Ljava/lang/String;" = some ⟨[(.array .byte), .int], some (.object "java/lang/String")⟩ := by decide +kernel
theorem pd_34 : parseMethodDescriptor "(Ljava/lang/String;[BI)Z" = some ⟨[(.object "java/lang/String"), (.array .byte), .int], some .boolean⟩ := by decide +kernel
def Q0 (Z : State) (G1 : Int32) (G2 : Value) (i0 : Int32) (i1 : Int32) (h0 : Heap) (n0 : Nat) (v : Option Value) (h : Heap) (L : List Loc) : Prop := v = some (.int (1 : Int32)) ∧ Fr n0 L
set_option maxRecDepth 65536 in
set_option maxHeartbeats 40000000 in
theorem rm0 (l : Launch) (Z : State) (a0 : Array Value) (hw : OW a0 Z) (ws : List Jvm.Cond) (G1 : Int32) (G2 : Value) (i0 : Int32) (i1 : Int32) (h0 : Heap) (n0 : Nat) (Z0 : n0 ≤ h0.size) (OLD : Old Z n0 h0) (A : Amb Z G1 G2) :
    own_Met l x code maxLocals ret ws room_1 #[(.int i0), (.int i1)] Z h0 (Q0 Z G1 G2 i0 i1 h0 n0) 40 512 := by
  refine own_body (plainFor_of_name pn_9) (fun m => by first | (simp [entryFrame, mkF, argsToLocals, Value.category, maxLocals]; done) | rfl) (Ls := #[.val (.int i0), .val (.int i1), .unset, .unset, .unset, .unset, .unset]) fun p e s m below meth c s₁ X0 hx hby hml hZ e0 hown hnm hlk hrt => ?_
  have N0 := Fr.nil n0
  refine own_ru 1 [(.int (4 : Int32))] X0 hx hby e0_0_1 rfl rfl ?_
  refine own_nP (aty := .byte) X0 hx hZ (wd0 hw) e0 3 (hb hby at_1) rfl rfl (by decide) (cap := 4) (by decide) (by decide) (by decide) (by decide) (ad := "[B") rfl fun T1140 h1140 k1140 b1140 g1140 X1140 e1140 E1140 A1140 B1140 => ?_
  have ll1140 : @LT.lt Nat _ b1140 (Array.size h1140) := A1140.lt
  have z1140 := E1140.1
  have V1140 : Arv Z h1140 b1140 k1140 .byte (4 : Int32) [(.int (0 : Int32)), (.int (0 : Int32)), (.int (0 : Int32)), (.int (0 : Int32))] (.int (0 : Int32)) := (Arv.new A1140 (by decide)).pad (pad_rep [] (.int (0 : Int32)) 4)
  refine own_rl 8 #[.val (.int i0), .val (.int i1), .val (.ref b1140), .unset, .unset, .unset, .unset] [(.int (i0.toInt8.toInt32)), (.int (0 : Int32)), (.ref b1140)] X1140 hx hby e0_3_5 rfl rfl ?_
  obtain ⟨cl1141, Ar1141, q1141, S1141, N1141z, Hs1141, G1141⟩ := id V1140
  have hin1141 : ¬ ((0 : Int32) < 0 ∨ cl1141.slots.size ≤ ((0 : Int32)).toNatClampNeg) := inb_of S1141 ⟨by decide, by decide⟩
  obtain ⟨T1142, h1142, X1142, e1142, W1142, st1142⟩ := stB X1140 hx hZ e1140 Ar1141 (j := (0 : Int32)) hin1141 (g := (mkF m 8 #[.val (.int i0), .val (.int i1), .val (.ref b1140), .unset, .unset, .unset, .unset] [(.int (i0.toInt8.toInt32)), (.int (0 : Int32)), (.ref b1140)])) rfl rfl (hb hby at_8)
  have V1142 : Arv Z h1142 b1140 k1140 .byte (4 : Int32) [(.int (nar .byte (i0.toInt8.toInt32))), (.int (0 : Int32)), (.int (0 : Int32)), (.int (0 : Int32))] (.int (0 : Int32)) := Arv.set Ar1141 q1141 S1141 N1141z Hs1141 G1141 (fits_nar_byte _) W1142 0 rfl (Nat.le_of_ble_eq_true rfl)
  have z1142 := W1142.size
  have N1142 := Fr.snoc X1142 N0 (by omega)
  refine own_sT 9 [] st1142 ?_
  refine own_ru 16 [(.int (((i0.toUInt32 >>> ((8 : Int32) &&& 31).toUInt32).toInt32).toInt8.toInt32)), (.int (1 : Int32)), (.ref b1140)] X1142 hx hby e0_9_6 rfl rfl ?_
  obtain ⟨cl1143, Ar1143, q1143, S1143, N1143z, Hs1143, G1143⟩ := id V1142
  have hin1143 : ¬ ((1 : Int32) < 0 ∨ cl1143.slots.size ≤ ((1 : Int32)).toNatClampNeg) := inb_of S1143 ⟨by decide, by decide⟩
  obtain ⟨T1144, h1144, X1144, e1144, W1144, st1144⟩ := stB X1142 hx hZ e1142 Ar1143 (j := (1 : Int32)) hin1143 (g := (mkF m 16 #[.val (.int i0), .val (.int i1), .val (.ref b1140), .unset, .unset, .unset, .unset] [(.int (((i0.toUInt32 >>> ((8 : Int32) &&& 31).toUInt32).toInt32).toInt8.toInt32)), (.int (1 : Int32)), (.ref b1140)])) rfl rfl (hb hby at_16)
  have V1144 : Arv Z h1144 b1140 k1140 .byte (4 : Int32) [(.int (nar .byte (i0.toInt8.toInt32))), (.int (nar .byte (((i0.toUInt32 >>> ((8 : Int32) &&& 31).toUInt32).toInt32).toInt8.toInt32))), (.int (0 : Int32)), (.int (0 : Int32))] (.int (0 : Int32)) := Arv.set Ar1143 q1143 S1143 N1143z Hs1143 G1143 (fits_nar_byte _) W1144 1 rfl (Nat.le_of_ble_eq_true rfl)
  have z1144 := W1144.size
  have N1144 := Fr.snoc X1144 N1142 (by omega)
  refine own_sT 17 [] st1144 ?_
  refine own_ru 24 [(.int (((i0.toUInt32 >>> ((16 : Int32) &&& 31).toUInt32).toInt32).toInt8.toInt32)), (.int (2 : Int32)), (.ref b1140)] X1144 hx hby e0_17_6 rfl rfl ?_
  obtain ⟨cl1145, Ar1145, q1145, S1145, N1145z, Hs1145, G1145⟩ := id V1144
  have hin1145 : ¬ ((2 : Int32) < 0 ∨ cl1145.slots.size ≤ ((2 : Int32)).toNatClampNeg) := inb_of S1145 ⟨by decide, by decide⟩
  obtain ⟨T1146, h1146, X1146, e1146, W1146, st1146⟩ := stB X1144 hx hZ e1144 Ar1145 (j := (2 : Int32)) hin1145 (g := (mkF m 24 #[.val (.int i0), .val (.int i1), .val (.ref b1140), .unset, .unset, .unset, .unset] [(.int (((i0.toUInt32 >>> ((16 : Int32) &&& 31).toUInt32).toInt32).toInt8.toInt32)), (.int (2 : Int32)), (.ref b1140)])) rfl rfl (hb hby at_24)
  have V1146 : Arv Z h1146 b1140 k1140 .byte (4 : Int32) [(.int (nar .byte (i0.toInt8.toInt32))), (.int (nar .byte (((i0.toUInt32 >>> ((8 : Int32) &&& 31).toUInt32).toInt32).toInt8.toInt32))), (.int (nar .byte (((i0.toUInt32 >>> ((16 : Int32) &&& 31).toUInt32).toInt32).toInt8.toInt32))), (.int (0 : Int32))] (.int (0 : Int32)) := Arv.set Ar1145 q1145 S1145 N1145z Hs1145 G1145 (fits_nar_byte _) W1146 2 rfl (Nat.le_of_ble_eq_true rfl)
  have z1146 := W1146.size
  have N1146 := Fr.snoc X1146 N1144 (by omega)
  refine own_sT 25 [] st1146 ?_
  refine own_ru 32 [(.int (((i0.toUInt32 >>> ((24 : Int32) &&& 31).toUInt32).toInt32).toInt8.toInt32)), (.int (3 : Int32)), (.ref b1140)] X1146 hx hby e0_25_6 rfl rfl ?_
  obtain ⟨cl1147, Ar1147, q1147, S1147, N1147z, Hs1147, G1147⟩ := id V1146
  have hin1147 : ¬ ((3 : Int32) < 0 ∨ cl1147.slots.size ≤ ((3 : Int32)).toNatClampNeg) := inb_of S1147 ⟨by decide, by decide⟩
  obtain ⟨T1148, h1148, X1148, e1148, W1148, st1148⟩ := stB X1146 hx hZ e1146 Ar1147 (j := (3 : Int32)) hin1147 (g := (mkF m 32 #[.val (.int i0), .val (.int i1), .val (.ref b1140), .unset, .unset, .unset, .unset] [(.int (((i0.toUInt32 >>> ((24 : Int32) &&& 31).toUInt32).toInt32).toInt8.toInt32)), (.int (3 : Int32)), (.ref b1140)])) rfl rfl (hb hby at_32)
  have V1148 : Arv Z h1148 b1140 k1140 .byte (4 : Int32) [(.int (nar .byte (i0.toInt8.toInt32))), (.int (nar .byte (((i0.toUInt32 >>> ((8 : Int32) &&& 31).toUInt32).toInt32).toInt8.toInt32))), (.int (nar .byte (((i0.toUInt32 >>> ((16 : Int32) &&& 31).toUInt32).toInt32).toInt8.toInt32))), (.int (nar .byte (((i0.toUInt32 >>> ((24 : Int32) &&& 31).toUInt32).toInt32).toInt8.toInt32)))] (.int (0 : Int32)) := Arv.set Ar1147 q1147 S1147 N1147z Hs1147 G1147 (fits_nar_byte _) W1148 3 rfl (Nat.le_of_ble_eq_true rfl)
  have z1148 := W1148.size
  have N1148 := Fr.snoc X1148 N1146 (by omega)
  refine own_sT 33 [] st1148 ?_
  refine own_ru 38 [(.int (5 : Int32)), (.int (i1 &&& (7 : Int32)))] X1148 hx hby e0_33_4 rfl rfl ?_
  refine own_st 39 [(.int ((i1 &&& (7 : Int32)) - ((i1 &&& (7 : Int32)) / (5 : Int32)) * (5 : Int32)))] (fun t k => XS.irem X1148.here hx rfl (hb hby at_38) rfl (by decide) k) ?_
  obtain ⟨v39, hv39⟩ : ∃ z : Int32, z = ((i1 &&& (7 : Int32)) - ((i1 &&& (7 : Int32)) / (5 : Int32)) * (5 : Int32)) := ⟨_, rfl⟩
  rw [← hv39]
  refine own_rl 40 #[.val (.int i0), .val (.int i1), .val (.ref b1140), .val (.int v39), .unset, .unset, .unset] [] X1148 hx hby e0_39_1 rfl rfl ?_
  rcases own_f5 hv39 with hf | hf | hf | hf | hf <;> subst hf
  · as_aux_lemma =>
      refine own_cS X1148 hx hZ hown (wd1 hw) (wd2 hw) (by decide) (wd4 hw) (wd3 hw) (rm1 l Z a0 hw []  h1148 n0 (by omega) ) e1148  [] [] 43 0 (hb hby at_40) rfl (by rw [hml]; rfl) rfl rfl (lenOf pd_32 rfl) rfl (by decide) fun v1149 T1149 Lc1149 X1149 hQ1149 => ?_
      obtain ⟨ob_1149, rfl, N1149q, K1149, G1149_0, G1149_1, G1149_2, G1149_3, U1149_0⟩ := hQ1149
      have N1149 := Fr.app N1148 N1149q
      have z1149 := K1149.1
      have lt1149_0 : @LT.lt Nat _ ob_1149 (Array.size T1149.heap) := G1149_0.lt
      refine own_rl 49 #[.val (.int i0), .val (.int i1), .val (.ref b1140), .val (.int (0 : Int32)), .val (.ref ob_1149), .unset, .unset] [(.int (0 : Int32)), (.ref b1140), (.ref ob_1149)] X1149 hx hby e0_43_4 rfl rfl ?_
      have f1150 := ((((((OLD.ext E1140).wr W1142 (by omega)).wr W1144 (by omega)).wr W1146 (by omega)).wr W1148 (by omega)).keep K1149 all0)
      have f1151 := (V1148.keep K1149 nin0)
      refine own_cV X1149 hx hZ hown (wd20 hw) (wd21 hw) (notFace_of_selects (args := #[]) (mvT hZ (wd23 hw))) (wd23 hw) (wd22 hw) (by decide) (wd24 hw) (wd3 hw) (rm4f0n l Z a0 hw [] G1 G2 ob_1149 b1140 k1140 (nar .byte (i0.toInt8.toInt32)) (nar .byte (((i0.toUInt32 >>> ((8 : Int32) &&& 31).toUInt32).toInt32).toInt8.toInt32)) (nar .byte (((i0.toUInt32 >>> ((16 : Int32) &&& 31).toUInt32).toInt32).toInt8.toInt32)) (nar .byte (((i0.toUInt32 >>> ((24 : Int32) &&& 31).toUInt32).toInt32).toInt8.toInt32)) T1149.heap n0 (by omega) f1150 A G1149_0 G1149_1 G1149_2 G1149_3 f1151 (by omega) (by first | assumption | decide | omega)) rfl G1149_0 [(.ref b1140), (.int (0 : Int32))] [] 52 0 (hb hby at_49) rfl (by rw [hml]; rfl) rfl rfl (lenOf pd_33 rfl) rfl (by decide) fun v1152 T1152 Lc1152 X1152 hQ1152 => ?_
      obtain ⟨so_1152, ix_1152, ca_1152, kk_1152, vz_1152, rfl, N1152q, K1152, G1152_0, G1152_1, G1152_2, G1152_3, G1152_4, G1152_5, G1152_6, G1152_7, G1152_8, G1152_9, U1152_0⟩ := hQ1152
      have N1152 := Fr.app N1149 N1152q
      have lt1152_1 : @LT.lt Nat _ ob_1149 (Array.size T1152.heap) := G1152_1.lt
      have lt1152_5 : @LT.lt Nat _ ix_1152 (Array.size T1152.heap) := G1152_5.lt
      have lt1152_7 : @LT.lt Nat _ ca_1152 (Array.size T1152.heap) := G1152_7.lt
      have lt1152_8 : @LT.lt Nat _ b1140 (Array.size T1152.heap) := G1152_8.lt
      refine own_rl 58 #[.val (.int i0), .val (.int i1), .val (.ref b1140), .val (.int (0 : Int32)), .val (.ref ob_1149), .val (.ref so_1152), .unset] [(.int (0 : Int32)), (.ref b1140), (.ref ob_1149)] X1152 hx hby e0_52_4 rfl rfl ?_
      refine own_cV X1152 hx hZ hown (wd20 hw) (wd21 hw) (notFace_of_selects (args := #[]) (mvT hZ (wd23 hw))) (wd23 hw) (wd22 hw) (by decide) (wd24 hw) (wd3 hw) (rm4f0r l Z a0 hw [] G1 G2 ob_1149 b1140 k1140 (nar .byte (i0.toInt8.toInt32)) (nar .byte (((i0.toUInt32 >>> ((8 : Int32) &&& 31).toUInt32).toInt32).toInt8.toInt32)) (nar .byte (((i0.toUInt32 >>> ((16 : Int32) &&& 31).toUInt32).toInt32).toInt8.toInt32)) (nar .byte (((i0.toUInt32 >>> ((24 : Int32) &&& 31).toUInt32).toInt32).toInt8.toInt32)) ix_1152 ca_1152 kk_1152 vz_1152 T1152.heap n0 (by omega) G1152_0 A G1152_1 G1152_2 G1152_3 G1152_4 G1152_5 G1152_6 G1152_7 G1152_8 (by first | assumption | decide | omega)) rfl G1152_1 [(.ref b1140), (.int (0 : Int32))] [] 61 0 (hb hby at_58) rfl (by rw [hml]; rfl) rfl rfl (lenOf pd_33 rfl) rfl (by decide) fun v1153 T1153 Lc1153 X1153 hQ1153 => ?_
      obtain ⟨so_1153, rfl, N1153q, K1153, G1153_0⟩ := hQ1153
      have N1153 := Fr.app N1152 N1153q
      have z1153 := K1153.1
      refine own_rl 67 #[.val (.int i0), .val (.int i1), .val (.ref b1140), .val (.int (0 : Int32)), .val (.ref ob_1149), .val (.ref so_1152), .val (.ref so_1153)] [(.int (0 : Int32)), (.ref b1140), (.ref so_1152)] X1153 hx hby e0_61_4 rfl rfl ?_
      have f1154 : own_Str4 Z T1153.heap so_1152 (own_exp (nar .byte (i0.toInt8.toInt32))) (own_exp (nar .byte (((i0.toUInt32 >>> ((8 : Int32) &&& 31).toUInt32).toInt32).toInt8.toInt32))) (own_exp (nar .byte (((i0.toUInt32 >>> ((16 : Int32) &&& 31).toUInt32).toInt32).toInt8.toInt32))) (own_exp (nar .byte (((i0.toUInt32 >>> ((24 : Int32) &&& 31).toUInt32).toInt32).toInt8.toInt32))) := (own_StrK4 K1153 G1152_9)
      rcases f1154 with ⟨ata, akt, ay0, ay1, ay2, ay3, af0, af1, af2, af3, ae0, ae1, ae2, ae3⟩ | ⟨ata, akt, ay0, ay1, ay2, ay3, az0, az1, az2, az3, af0, af1, af2, af3, ae0, ae1, ae2, ae3⟩
      · have alt : @LT.lt Nat _ ata (Array.size T1153.heap) := af3.lt
        have f1155 := (G1152_0.keep K1153 all0)
        have f1156 := (G1152_8.keep K1153 nin0)
        refine own_cS X1153 hx hZ hown (wd137 hw) (wd138 hw) (by decide) (wd140 hw) (wd139 hw) (rm23m00 l Z a0 hw [] G1 G2 so_1152 b1140 ata akt k1140 (nar .byte (i0.toInt8.toInt32)) (nar .byte (((i0.toUInt32 >>> ((8 : Int32) &&& 31).toUInt32).toInt32).toInt8.toInt32)) (nar .byte (((i0.toUInt32 >>> ((16 : Int32) &&& 31).toUInt32).toInt32).toInt8.toInt32)) (nar .byte (((i0.toUInt32 >>> ((24 : Int32) &&& 31).toUInt32).toInt32).toInt8.toInt32)) ay0 ay1 ay2 ay3 T1153.heap n0 (by omega) f1155 A af0 af1 af2 af3 f1156 ae0 ae1 ae2 ae3) rfl  [(.ref so_1152), (.ref b1140), (.int (0 : Int32))] [] 70 0 (hb hby at_67) rfl (by rw [hml]; rfl) rfl rfl (lenOf pd_34 rfl) rfl (by decide) fun v1157 T1157 Lc1157 X1157 hQ1157 => ?_
        obtain ⟨rfl, N1157q, e1157⟩ := hQ1157
        have N1157 := Fr.app N1153 N1157q
        refine own_iN 73 X1157 hx (hb hby at_70) rfl ((if0 _ _).trans (feq (by decide : ¬ ((1 : Int32) = (0 : Int32)))).1) rfl ?_
        refine own_ru 77 [(.int (0 : Int32)), (.ref b1140), (.ref so_1153)] X1157 hx hby e0_73_3 rfl rfl ?_
        rcases G1153_0 with ⟨bta, bkt, by0, by1, by2, by3, bf0, bf1, bf2, bf3, be0, be1, be2, be3⟩ | ⟨bta, bkt, by0, by1, by2, by3, bz0, bz1, bz2, bz3, bf0, bf1, bf2, bf3, be0, be1, be2, be3⟩
        · have blt : @LT.lt Nat _ bta (Array.size T1153.heap) := bf3.lt
          refine own_cS X1157 hx hZ hown (wd137 hw) (wd138 hw) (by decide) (wd140 hw) (wd139 hw) (rm23m00 l Z a0 hw [] G1 G2 so_1153 b1140 bta bkt k1140 (nar .byte (i0.toInt8.toInt32)) (nar .byte (((i0.toUInt32 >>> ((8 : Int32) &&& 31).toUInt32).toInt32).toInt8.toInt32)) (nar .byte (((i0.toUInt32 >>> ((16 : Int32) &&& 31).toUInt32).toInt32).toInt8.toInt32)) (nar .byte (((i0.toUInt32 >>> ((24 : Int32) &&& 31).toUInt32).toInt32).toInt8.toInt32)) by0 by1 by2 by3 T1153.heap n0 (by omega) f1155 A bf0 bf1 bf2 bf3 f1156 be0 be1 be2 be3) e1157  [(.ref so_1153), (.ref b1140), (.int (0 : Int32))] [] 80 0 (hb hby at_77) rfl (by rw [hml]; rfl) rfl rfl (lenOf pd_34 rfl) rfl (by decide) fun v1158 T1158 Lc1158 X1158 hQ1158 => ?_
          obtain ⟨rfl, N1158q, e1158⟩ := hQ1158
          have N1158 := Fr.app N1157 N1158q
          refine own_iN 83 X1158 hx (hb hby at_80) rfl ((if0 _ _).trans (feq (by decide : ¬ ((1 : Int32) = (0 : Int32)))).1) rfl ?_
          refine own_ru 84 [(.int (1 : Int32))] X1158 hx hby e0_83_1 rfl rfl ?_
          refine own_go 88 X1158 hx (hb hby at_84) (by decide) (by decide) ?_
          have hq1159 : Q0 Z G1 G2 i0 i1 h0 n0 (some (.int (nar .boolean (1 : Int32)))) T1153.heap _ := ⟨rfl, N1158⟩
          exact own_retN X1158 hx hlk (t := .boolean) hrt (by simp) (hb hby at_88) e1158 hq1159 (by decide) (by decide)
        · have blt : @LT.lt Nat _ bta (Array.size T1153.heap) := bf3.lt
          refine own_cS X1157 hx hZ hown (wd137 hw) (wd138 hw) (by decide) (wd140 hw) (wd139 hw) (rm23m01 l Z a0 hw [] G1 G2 so_1153 b1140 bta bkt k1140 (nar .byte (i0.toInt8.toInt32)) (nar .byte (((i0.toUInt32 >>> ((8 : Int32) &&& 31).toUInt32).toInt32).toInt8.toInt32)) (nar .byte (((i0.toUInt32 >>> ((16 : Int32) &&& 31).toUInt32).toInt32).toInt8.toInt32)) (nar .byte (((i0.toUInt32 >>> ((24 : Int32) &&& 31).toUInt32).toInt32).toInt8.toInt32)) by0 by1 by2 by3 bz0 bz1 bz2 bz3 T1153.heap n0 (by omega) f1155 A bf0 bf1 bf2 bf3 f1156 be0 be1 be2 be3) e1157  [(.ref so_1153), (.ref b1140), (.int (0 : Int32))] [] 80 0 (hb hby at_77) rfl (by rw [hml]; rfl) rfl rfl (lenOf pd_34 rfl) rfl (by decide) fun v1160 T1160 Lc1160 X1160 hQ1160 => ?_
          obtain ⟨rfl, N1160q, e1160⟩ := hQ1160
          have N1160 := Fr.app N1157 N1160q
          refine own_iN 83 X1160 hx (hb hby at_80) rfl ((if0 _ _).trans (feq (by decide : ¬ ((1 : Int32) = (0 : Int32)))).1) rfl ?_
          refine own_ru 84 [(.int (1 : Int32))] X1160 hx hby e0_83_1 rfl rfl ?_
          refine own_go 88 X1160 hx (hb hby at_84) (by decide) (by decide) ?_
          have hq1161 : Q0 Z G1 G2 i0 i1 h0 n0 (some (.int (nar .boolean (1 : Int32)))) T1153.heap _ := ⟨rfl, N1160⟩
          exact own_retN X1160 hx hlk (t := .boolean) hrt (by simp) (hb hby at_88) e1160 hq1161 (by decide) (by decide)
      · have alt : @LT.lt Nat _ ata (Array.size T1153.heap) := af3.lt
        have f1162 := (G1152_0.keep K1153 all0)
        have f1163 := (G1152_8.keep K1153 nin0)
        refine own_cS X1153 hx hZ hown (wd137 hw) (wd138 hw) (by decide) (wd140 hw) (wd139 hw) (rm23m01 l Z a0 hw [] G1 G2 so_1152 b1140 ata akt k1140 (nar .byte (i0.toInt8.toInt32)) (nar .byte (((i0.toUInt32 >>> ((8 : Int32) &&& 31).toUInt32).toInt32).toInt8.toInt32)) (nar .byte (((i0.toUInt32 >>> ((16 : Int32) &&& 31).toUInt32).toInt32).toInt8.toInt32)) (nar .byte (((i0.toUInt32 >>> ((24 : Int32) &&& 31).toUInt32).toInt32).toInt8.toInt32)) ay0 ay1 ay2 ay3 az0 az1 az2 az3 T1153.heap n0 (by omega) f1162 A af0 af1 af2 af3 f1163 ae0 ae1 ae2 ae3) rfl  [(.ref so_1152), (.ref b1140), (.int (0 : Int32))] [] 70 0 (hb hby at_67) rfl (by rw [hml]; rfl) rfl rfl (lenOf pd_34 rfl) rfl (by decide) fun v1164 T1164 Lc1164 X1164 hQ1164 => ?_
        obtain ⟨rfl, N1164q, e1164⟩ := hQ1164
        have N1164 := Fr.app N1153 N1164q
        refine own_iN 73 X1164 hx (hb hby at_70) rfl ((if0 _ _).trans (feq (by decide : ¬ ((1 : Int32) = (0 : Int32)))).1) rfl ?_
        refine own_ru 77 [(.int (0 : Int32)), (.ref b1140), (.ref so_1153)] X1164 hx hby e0_73_3 rfl rfl ?_
        rcases G1153_0 with ⟨bta, bkt, by0, by1, by2, by3, bf0, bf1, bf2, bf3, be0, be1, be2, be3⟩ | ⟨bta, bkt, by0, by1, by2, by3, bz0, bz1, bz2, bz3, bf0, bf1, bf2, bf3, be0, be1, be2, be3⟩
        · have blt : @LT.lt Nat _ bta (Array.size T1153.heap) := bf3.lt
          refine own_cS X1164 hx hZ hown (wd137 hw) (wd138 hw) (by decide) (wd140 hw) (wd139 hw) (rm23m00 l Z a0 hw [] G1 G2 so_1153 b1140 bta bkt k1140 (nar .byte (i0.toInt8.toInt32)) (nar .byte (((i0.toUInt32 >>> ((8 : Int32) &&& 31).toUInt32).toInt32).toInt8.toInt32)) (nar .byte (((i0.toUInt32 >>> ((16 : Int32) &&& 31).toUInt32).toInt32).toInt8.toInt32)) (nar .byte (((i0.toUInt32 >>> ((24 : Int32) &&& 31).toUInt32).toInt32).toInt8.toInt32)) by0 by1 by2 by3 T1153.heap n0 (by omega) f1162 A bf0 bf1 bf2 bf3 f1163 be0 be1 be2 be3) e1164  [(.ref so_1153), (.ref b1140), (.int (0 : Int32))] [] 80 0 (hb hby at_77) rfl (by rw [hml]; rfl) rfl rfl (lenOf pd_34 rfl) rfl (by decide) fun v1165 T1165 Lc1165 X1165 hQ1165 => ?_
          obtain ⟨rfl, N1165q, e1165⟩ := hQ1165
          have N1165 := Fr.app N1164 N1165q
          refine own_iN 83 X1165 hx (hb hby at_80) rfl ((if0 _ _).trans (feq (by decide : ¬ ((1 : Int32) = (0 : Int32)))).1) rfl ?_
          refine own_ru 84 [(.int (1 : Int32))] X1165 hx hby e0_83_1 rfl rfl ?_
          refine own_go 88 X1165 hx (hb hby at_84) (by decide) (by decide) ?_
          have hq1166 : Q0 Z G1 G2 i0 i1 h0 n0 (some (.int (nar .boolean (1 : Int32)))) T1153.heap _ := ⟨rfl, N1165⟩
          exact own_retN X1165 hx hlk (t := .boolean) hrt (by simp) (hb hby at_88) e1165 hq1166 (by decide) (by decide)
        · have blt : @LT.lt Nat _ bta (Array.size T1153.heap) := bf3.lt
          refine own_cS X1164 hx hZ hown (wd137 hw) (wd138 hw) (by decide) (wd140 hw) (wd139 hw) (rm23m01 l Z a0 hw [] G1 G2 so_1153 b1140 bta bkt k1140 (nar .byte (i0.toInt8.toInt32)) (nar .byte (((i0.toUInt32 >>> ((8 : Int32) &&& 31).toUInt32).toInt32).toInt8.toInt32)) (nar .byte (((i0.toUInt32 >>> ((16 : Int32) &&& 31).toUInt32).toInt32).toInt8.toInt32)) (nar .byte (((i0.toUInt32 >>> ((24 : Int32) &&& 31).toUInt32).toInt32).toInt8.toInt32)) by0 by1 by2 by3 bz0 bz1 bz2 bz3 T1153.heap n0 (by omega) f1162 A bf0 bf1 bf2 bf3 f1163 be0 be1 be2 be3) e1164  [(.ref so_1153), (.ref b1140), (.int (0 : Int32))] [] 80 0 (hb hby at_77) rfl (by rw [hml]; rfl) rfl rfl (lenOf pd_34 rfl) rfl (by decide) fun v1167 T1167 Lc1167 X1167 hQ1167 => ?_
          obtain ⟨rfl, N1167q, e1167⟩ := hQ1167
          have N1167 := Fr.app N1164 N1167q
          refine own_iN 83 X1167 hx (hb hby at_80) rfl ((if0 _ _).trans (feq (by decide : ¬ ((1 : Int32) = (0 : Int32)))).1) rfl ?_
          refine own_ru 84 [(.int (1 : Int32))] X1167 hx hby e0_83_1 rfl rfl ?_
          refine own_go 88 X1167 hx (hb hby at_84) (by decide) (by decide) ?_
          have hq1168 : Q0 Z G1 G2 i0 i1 h0 n0 (some (.int (nar .boolean (1 : Int32)))) T1153.heap _ := ⟨rfl, N1167⟩
          exact own_retN X1167 hx hlk (t := .boolean) hrt (by simp) (hb hby at_88) e1167 hq1168 (by decide) (by decide)
  · as_aux_lemma =>
      refine own_cS X1148 hx hZ hown (wd1 hw) (wd2 hw) (by decide) (wd4 hw) (wd3 hw) (rm1 l Z a0 hw []  h1148 n0 (by omega) ) e1148  [] [] 43 0 (hb hby at_40) rfl (by rw [hml]; rfl) rfl rfl (lenOf pd_32 rfl) rfl (by decide) fun v1169 T1169 Lc1169 X1169 hQ1169 => ?_
      obtain ⟨ob_1169, rfl, N1169q, K1169, G1169_0, G1169_1, G1169_2, G1169_3, U1169_0⟩ := hQ1169
      have N1169 := Fr.app N1148 N1169q
      have z1169 := K1169.1
      have lt1169_0 : @LT.lt Nat _ ob_1169 (Array.size T1169.heap) := G1169_0.lt
      refine own_rl 49 #[.val (.int i0), .val (.int i1), .val (.ref b1140), .val (.int (1 : Int32)), .val (.ref ob_1169), .unset, .unset] [(.int (1 : Int32)), (.ref b1140), (.ref ob_1169)] X1169 hx hby e0_43_4 rfl rfl ?_
      have f1170 := ((((((OLD.ext E1140).wr W1142 (by omega)).wr W1144 (by omega)).wr W1146 (by omega)).wr W1148 (by omega)).keep K1169 all0)
      have f1171 := (V1148.keep K1169 nin0)
      refine own_cV X1169 hx hZ hown (wd20 hw) (wd21 hw) (notFace_of_selects (args := #[]) (mvT hZ (wd23 hw))) (wd23 hw) (wd22 hw) (by decide) (wd24 hw) (wd3 hw) (rm4f1n l Z a0 hw [] G1 G2 ob_1169 b1140 k1140 (nar .byte (i0.toInt8.toInt32)) (nar .byte (((i0.toUInt32 >>> ((8 : Int32) &&& 31).toUInt32).toInt32).toInt8.toInt32)) (nar .byte (((i0.toUInt32 >>> ((16 : Int32) &&& 31).toUInt32).toInt32).toInt8.toInt32)) (nar .byte (((i0.toUInt32 >>> ((24 : Int32) &&& 31).toUInt32).toInt32).toInt8.toInt32)) T1169.heap n0 (by omega) f1170 A G1169_0 G1169_1 G1169_2 G1169_3 f1171 (by omega) (by first | assumption | decide | omega)) rfl G1169_0 [(.ref b1140), (.int (1 : Int32))] [] 52 0 (hb hby at_49) rfl (by rw [hml]; rfl) rfl rfl (lenOf pd_33 rfl) rfl (by decide) fun v1172 T1172 Lc1172 X1172 hQ1172 => ?_
      obtain ⟨so_1172, ix_1172, ca_1172, kk_1172, vz_1172, rfl, N1172q, K1172, G1172_0, G1172_1, G1172_2, G1172_3, G1172_4, G1172_5, G1172_6, G1172_7, G1172_8, G1172_9, U1172_0⟩ := hQ1172
      have N1172 := Fr.app N1169 N1172q
      have lt1172_1 : @LT.lt Nat _ ob_1169 (Array.size T1172.heap) := G1172_1.lt
      have lt1172_5 : @LT.lt Nat _ ix_1172 (Array.size T1172.heap) := G1172_5.lt
      have lt1172_7 : @LT.lt Nat _ ca_1172 (Array.size T1172.heap) := G1172_7.lt
      have lt1172_8 : @LT.lt Nat _ b1140 (Array.size T1172.heap) := G1172_8.lt
      refine own_rl 58 #[.val (.int i0), .val (.int i1), .val (.ref b1140), .val (.int (1 : Int32)), .val (.ref ob_1169), .val (.ref so_1172), .unset] [(.int (0 : Int32)), (.ref b1140), (.ref ob_1169)] X1172 hx hby e0_52_4 rfl rfl ?_
      refine own_cV X1172 hx hZ hown (wd20 hw) (wd21 hw) (notFace_of_selects (args := #[]) (mvT hZ (wd23 hw))) (wd23 hw) (wd22 hw) (by decide) (wd24 hw) (wd3 hw) (rm4f0r l Z a0 hw [] G1 G2 ob_1169 b1140 k1140 (nar .byte (i0.toInt8.toInt32)) (nar .byte (((i0.toUInt32 >>> ((8 : Int32) &&& 31).toUInt32).toInt32).toInt8.toInt32)) (nar .byte (((i0.toUInt32 >>> ((16 : Int32) &&& 31).toUInt32).toInt32).toInt8.toInt32)) (nar .byte (((i0.toUInt32 >>> ((24 : Int32) &&& 31).toUInt32).toInt32).toInt8.toInt32)) ix_1172 ca_1172 kk_1172 vz_1172 T1172.heap n0 (by omega) G1172_0 A G1172_1 G1172_2 G1172_3 G1172_4 G1172_5 G1172_6 G1172_7 G1172_8 (by first | assumption | decide | omega)) rfl G1172_1 [(.ref b1140), (.int (0 : Int32))] [] 61 0 (hb hby at_58) rfl (by rw [hml]; rfl) rfl rfl (lenOf pd_33 rfl) rfl (by decide) fun v1173 T1173 Lc1173 X1173 hQ1173 => ?_
      obtain ⟨so_1173, rfl, N1173q, K1173, G1173_0⟩ := hQ1173
      have N1173 := Fr.app N1172 N1173q
      have z1173 := K1173.1
      refine own_rl 67 #[.val (.int i0), .val (.int i1), .val (.ref b1140), .val (.int (1 : Int32)), .val (.ref ob_1169), .val (.ref so_1172), .val (.ref so_1173)] [(.int (1 : Int32)), (.ref b1140), (.ref so_1172)] X1173 hx hby e0_61_4 rfl rfl ?_
      have f1174 : own_Str3 Z T1173.heap so_1172 (own_exp (nar .byte (((i0.toUInt32 >>> ((8 : Int32) &&& 31).toUInt32).toInt32).toInt8.toInt32))) (own_exp (nar .byte (((i0.toUInt32 >>> ((16 : Int32) &&& 31).toUInt32).toInt32).toInt8.toInt32))) (own_exp (nar .byte (((i0.toUInt32 >>> ((24 : Int32) &&& 31).toUInt32).toInt32).toInt8.toInt32))) := (own_StrK3 K1173 G1172_9)
      rcases f1174 with ⟨ata, akt, ay0, ay1, ay2, af0, af1, af2, af3, ae0, ae1, ae2⟩ | ⟨ata, akt, ay0, ay1, ay2, az0, az1, az2, af0, af1, af2, af3, ae0, ae1, ae2⟩
      · have alt : @LT.lt Nat _ ata (Array.size T1173.heap) := af3.lt
        have f1175 := (G1172_0.keep K1173 all0)
        have f1176 := (G1172_8.keep K1173 nin0)
        refine own_cS X1173 hx hZ hown (wd137 hw) (wd138 hw) (by decide) (wd140 hw) (wd139 hw) (rm23m10 l Z a0 hw [] G1 G2 so_1172 b1140 ata akt k1140 (nar .byte (i0.toInt8.toInt32)) (nar .byte (((i0.toUInt32 >>> ((8 : Int32) &&& 31).toUInt32).toInt32).toInt8.toInt32)) (nar .byte (((i0.toUInt32 >>> ((16 : Int32) &&& 31).toUInt32).toInt32).toInt8.toInt32)) (nar .byte (((i0.toUInt32 >>> ((24 : Int32) &&& 31).toUInt32).toInt32).toInt8.toInt32)) ay0 ay1 ay2 T1173.heap n0 (by omega) f1175 A af0 af1 af2 af3 f1176 ae0 ae1 ae2) rfl  [(.ref so_1172), (.ref b1140), (.int (1 : Int32))] [] 70 0 (hb hby at_67) rfl (by rw [hml]; rfl) rfl rfl (lenOf pd_34 rfl) rfl (by decide) fun v1177 T1177 Lc1177 X1177 hQ1177 => ?_
        obtain ⟨rfl, N1177q, e1177⟩ := hQ1177
        have N1177 := Fr.app N1173 N1177q
        refine own_iN 73 X1177 hx (hb hby at_70) rfl ((if0 _ _).trans (feq (by decide : ¬ ((1 : Int32) = (0 : Int32)))).1) rfl ?_
        refine own_ru 77 [(.int (0 : Int32)), (.ref b1140), (.ref so_1173)] X1177 hx hby e0_73_3 rfl rfl ?_
        rcases G1173_0 with ⟨bta, bkt, by0, by1, by2, by3, bf0, bf1, bf2, bf3, be0, be1, be2, be3⟩ | ⟨bta, bkt, by0, by1, by2, by3, bz0, bz1, bz2, bz3, bf0, bf1, bf2, bf3, be0, be1, be2, be3⟩
        · have blt : @LT.lt Nat _ bta (Array.size T1173.heap) := bf3.lt
          refine own_cS X1177 hx hZ hown (wd137 hw) (wd138 hw) (by decide) (wd140 hw) (wd139 hw) (rm23m00 l Z a0 hw [] G1 G2 so_1173 b1140 bta bkt k1140 (nar .byte (i0.toInt8.toInt32)) (nar .byte (((i0.toUInt32 >>> ((8 : Int32) &&& 31).toUInt32).toInt32).toInt8.toInt32)) (nar .byte (((i0.toUInt32 >>> ((16 : Int32) &&& 31).toUInt32).toInt32).toInt8.toInt32)) (nar .byte (((i0.toUInt32 >>> ((24 : Int32) &&& 31).toUInt32).toInt32).toInt8.toInt32)) by0 by1 by2 by3 T1173.heap n0 (by omega) f1175 A bf0 bf1 bf2 bf3 f1176 be0 be1 be2 be3) e1177  [(.ref so_1173), (.ref b1140), (.int (0 : Int32))] [] 80 0 (hb hby at_77) rfl (by rw [hml]; rfl) rfl rfl (lenOf pd_34 rfl) rfl (by decide) fun v1178 T1178 Lc1178 X1178 hQ1178 => ?_
          obtain ⟨rfl, N1178q, e1178⟩ := hQ1178
          have N1178 := Fr.app N1177 N1178q
          refine own_iN 83 X1178 hx (hb hby at_80) rfl ((if0 _ _).trans (feq (by decide : ¬ ((1 : Int32) = (0 : Int32)))).1) rfl ?_
          refine own_ru 84 [(.int (1 : Int32))] X1178 hx hby e0_83_1 rfl rfl ?_
          refine own_go 88 X1178 hx (hb hby at_84) (by decide) (by decide) ?_
          have hq1179 : Q0 Z G1 G2 i0 i1 h0 n0 (some (.int (nar .boolean (1 : Int32)))) T1173.heap _ := ⟨rfl, N1178⟩
          exact own_retN X1178 hx hlk (t := .boolean) hrt (by simp) (hb hby at_88) e1178 hq1179 (by decide) (by decide)
        · have blt : @LT.lt Nat _ bta (Array.size T1173.heap) := bf3.lt
          refine own_cS X1177 hx hZ hown (wd137 hw) (wd138 hw) (by decide) (wd140 hw) (wd139 hw) (rm23m01 l Z a0 hw [] G1 G2 so_1173 b1140 bta bkt k1140 (nar .byte (i0.toInt8.toInt32)) (nar .byte (((i0.toUInt32 >>> ((8 : Int32) &&& 31).toUInt32).toInt32).toInt8.toInt32)) (nar .byte (((i0.toUInt32 >>> ((16 : Int32) &&& 31).toUInt32).toInt32).toInt8.toInt32)) (nar .byte (((i0.toUInt32 >>> ((24 : Int32) &&& 31).toUInt32).toInt32).toInt8.toInt32)) by0 by1 by2 by3 bz0 bz1 bz2 bz3 T1173.heap n0 (by omega) f1175 A bf0 bf1 bf2 bf3 f1176 be0 be1 be2 be3) e1177  [(.ref so_1173), (.ref b1140), (.int (0 : Int32))] [] 80 0 (hb hby at_77) rfl (by rw [hml]; rfl) rfl rfl (lenOf pd_34 rfl) rfl (by decide) fun v1180 T1180 Lc1180 X1180 hQ1180 => ?_
          obtain ⟨rfl, N1180q, e1180⟩ := hQ1180
          have N1180 := Fr.app N1177 N1180q
          refine own_iN 83 X1180 hx (hb hby at_80) rfl ((if0 _ _).trans (feq (by decide : ¬ ((1 : Int32) = (0 : Int32)))).1) rfl ?_
          refine own_ru 84 [(.int (1 : Int32))] X1180 hx hby e0_83_1 rfl rfl ?_
          refine own_go 88 X1180 hx (hb hby at_84) (by decide) (by decide) ?_
          have hq1181 : Q0 Z G1 G2 i0 i1 h0 n0 (some (.int (nar .boolean (1 : Int32)))) T1173.heap _ := ⟨rfl, N1180⟩
          exact own_retN X1180 hx hlk (t := .boolean) hrt (by simp) (hb hby at_88) e1180 hq1181 (by decide) (by decide)
      · have alt : @LT.lt Nat _ ata (Array.size T1173.heap) := af3.lt
        have f1182 := (G1172_0.keep K1173 all0)
        have f1183 := (G1172_8.keep K1173 nin0)
        refine own_cS X1173 hx hZ hown (wd137 hw) (wd138 hw) (by decide) (wd140 hw) (wd139 hw) (rm23m11 l Z a0 hw [] G1 G2 so_1172 b1140 ata akt k1140 (nar .byte (i0.toInt8.toInt32)) (nar .byte (((i0.toUInt32 >>> ((8 : Int32) &&& 31).toUInt32).toInt32).toInt8.toInt32)) (nar .byte (((i0.toUInt32 >>> ((16 : Int32) &&& 31).toUInt32).toInt32).toInt8.toInt32)) (nar .byte (((i0.toUInt32 >>> ((24 : Int32) &&& 31).toUInt32).toInt32).toInt8.toInt32)) ay0 ay1 ay2 az0 az1 az2 T1173.heap n0 (by omega) f1182 A af0 af1 af2 af3 f1183 ae0 ae1 ae2) rfl  [(.ref so_1172), (.ref b1140), (.int (1 : Int32))] [] 70 0 (hb hby at_67) rfl (by rw [hml]; rfl) rfl rfl (lenOf pd_34 rfl) rfl (by decide) fun v1184 T1184 Lc1184 X1184 hQ1184 => ?_
        obtain ⟨rfl, N1184q, e1184⟩ := hQ1184
        have N1184 := Fr.app N1173 N1184q
        refine own_iN 73 X1184 hx (hb hby at_70) rfl ((if0 _ _).trans (feq (by decide : ¬ ((1 : Int32) = (0 : Int32)))).1) rfl ?_
        refine own_ru 77 [(.int (0 : Int32)), (.ref b1140), (.ref so_1173)] X1184 hx hby e0_73_3 rfl rfl ?_
        rcases G1173_0 with ⟨bta, bkt, by0, by1, by2, by3, bf0, bf1, bf2, bf3, be0, be1, be2, be3⟩ | ⟨bta, bkt, by0, by1, by2, by3, bz0, bz1, bz2, bz3, bf0, bf1, bf2, bf3, be0, be1, be2, be3⟩
        · have blt : @LT.lt Nat _ bta (Array.size T1173.heap) := bf3.lt
          refine own_cS X1184 hx hZ hown (wd137 hw) (wd138 hw) (by decide) (wd140 hw) (wd139 hw) (rm23m00 l Z a0 hw [] G1 G2 so_1173 b1140 bta bkt k1140 (nar .byte (i0.toInt8.toInt32)) (nar .byte (((i0.toUInt32 >>> ((8 : Int32) &&& 31).toUInt32).toInt32).toInt8.toInt32)) (nar .byte (((i0.toUInt32 >>> ((16 : Int32) &&& 31).toUInt32).toInt32).toInt8.toInt32)) (nar .byte (((i0.toUInt32 >>> ((24 : Int32) &&& 31).toUInt32).toInt32).toInt8.toInt32)) by0 by1 by2 by3 T1173.heap n0 (by omega) f1182 A bf0 bf1 bf2 bf3 f1183 be0 be1 be2 be3) e1184  [(.ref so_1173), (.ref b1140), (.int (0 : Int32))] [] 80 0 (hb hby at_77) rfl (by rw [hml]; rfl) rfl rfl (lenOf pd_34 rfl) rfl (by decide) fun v1185 T1185 Lc1185 X1185 hQ1185 => ?_
          obtain ⟨rfl, N1185q, e1185⟩ := hQ1185
          have N1185 := Fr.app N1184 N1185q
          refine own_iN 83 X1185 hx (hb hby at_80) rfl ((if0 _ _).trans (feq (by decide : ¬ ((1 : Int32) = (0 : Int32)))).1) rfl ?_
          refine own_ru 84 [(.int (1 : Int32))] X1185 hx hby e0_83_1 rfl rfl ?_
          refine own_go 88 X1185 hx (hb hby at_84) (by decide) (by decide) ?_
          have hq1186 : Q0 Z G1 G2 i0 i1 h0 n0 (some (.int (nar .boolean (1 : Int32)))) T1173.heap _ := ⟨rfl, N1185⟩
          exact own_retN X1185 hx hlk (t := .boolean) hrt (by simp) (hb hby at_88) e1185 hq1186 (by decide) (by decide)
        · have blt : @LT.lt Nat _ bta (Array.size T1173.heap) := bf3.lt
          refine own_cS X1184 hx hZ hown (wd137 hw) (wd138 hw) (by decide) (wd140 hw) (wd139 hw) (rm23m01 l Z a0 hw [] G1 G2 so_1173 b1140 bta bkt k1140 (nar .byte (i0.toInt8.toInt32)) (nar .byte (((i0.toUInt32 >>> ((8 : Int32) &&& 31).toUInt32).toInt32).toInt8.toInt32)) (nar .byte (((i0.toUInt32 >>> ((16 : Int32) &&& 31).toUInt32).toInt32).toInt8.toInt32)) (nar .byte (((i0.toUInt32 >>> ((24 : Int32) &&& 31).toUInt32).toInt32).toInt8.toInt32)) by0 by1 by2 by3 bz0 bz1 bz2 bz3 T1173.heap n0 (by omega) f1182 A bf0 bf1 bf2 bf3 f1183 be0 be1 be2 be3) e1184  [(.ref so_1173), (.ref b1140), (.int (0 : Int32))] [] 80 0 (hb hby at_77) rfl (by rw [hml]; rfl) rfl rfl (lenOf pd_34 rfl) rfl (by decide) fun v1187 T1187 Lc1187 X1187 hQ1187 => ?_
          obtain ⟨rfl, N1187q, e1187⟩ := hQ1187
          have N1187 := Fr.app N1184 N1187q
          refine own_iN 83 X1187 hx (hb hby at_80) rfl ((if0 _ _).trans (feq (by decide : ¬ ((1 : Int32) = (0 : Int32)))).1) rfl ?_
          refine own_ru 84 [(.int (1 : Int32))] X1187 hx hby e0_83_1 rfl rfl ?_
          refine own_go 88 X1187 hx (hb hby at_84) (by decide) (by decide) ?_
          have hq1188 : Q0 Z G1 G2 i0 i1 h0 n0 (some (.int (nar .boolean (1 : Int32)))) T1173.heap _ := ⟨rfl, N1187⟩
          exact own_retN X1187 hx hlk (t := .boolean) hrt (by simp) (hb hby at_88) e1187 hq1188 (by decide) (by decide)
  · as_aux_lemma =>
      refine own_cS X1148 hx hZ hown (wd1 hw) (wd2 hw) (by decide) (wd4 hw) (wd3 hw) (rm1 l Z a0 hw []  h1148 n0 (by omega) ) e1148  [] [] 43 0 (hb hby at_40) rfl (by rw [hml]; rfl) rfl rfl (lenOf pd_32 rfl) rfl (by decide) fun v1189 T1189 Lc1189 X1189 hQ1189 => ?_
      obtain ⟨ob_1189, rfl, N1189q, K1189, G1189_0, G1189_1, G1189_2, G1189_3, U1189_0⟩ := hQ1189
      have N1189 := Fr.app N1148 N1189q
      have z1189 := K1189.1
      have lt1189_0 : @LT.lt Nat _ ob_1189 (Array.size T1189.heap) := G1189_0.lt
      refine own_rl 49 #[.val (.int i0), .val (.int i1), .val (.ref b1140), .val (.int (2 : Int32)), .val (.ref ob_1189), .unset, .unset] [(.int (2 : Int32)), (.ref b1140), (.ref ob_1189)] X1189 hx hby e0_43_4 rfl rfl ?_
      have f1190 := ((((((OLD.ext E1140).wr W1142 (by omega)).wr W1144 (by omega)).wr W1146 (by omega)).wr W1148 (by omega)).keep K1189 all0)
      have f1191 := (V1148.keep K1189 nin0)
      refine own_cV X1189 hx hZ hown (wd20 hw) (wd21 hw) (notFace_of_selects (args := #[]) (mvT hZ (wd23 hw))) (wd23 hw) (wd22 hw) (by decide) (wd24 hw) (wd3 hw) (rm4f2n l Z a0 hw [] G1 G2 ob_1189 b1140 k1140 (nar .byte (i0.toInt8.toInt32)) (nar .byte (((i0.toUInt32 >>> ((8 : Int32) &&& 31).toUInt32).toInt32).toInt8.toInt32)) (nar .byte (((i0.toUInt32 >>> ((16 : Int32) &&& 31).toUInt32).toInt32).toInt8.toInt32)) (nar .byte (((i0.toUInt32 >>> ((24 : Int32) &&& 31).toUInt32).toInt32).toInt8.toInt32)) T1189.heap n0 (by omega) f1190 A G1189_0 G1189_1 G1189_2 G1189_3 f1191 (by omega) (by first | assumption | decide | omega)) rfl G1189_0 [(.ref b1140), (.int (2 : Int32))] [] 52 0 (hb hby at_49) rfl (by rw [hml]; rfl) rfl rfl (lenOf pd_33 rfl) rfl (by decide) fun v1192 T1192 Lc1192 X1192 hQ1192 => ?_
      obtain ⟨so_1192, ix_1192, ca_1192, kk_1192, vz_1192, rfl, N1192q, K1192, G1192_0, G1192_1, G1192_2, G1192_3, G1192_4, G1192_5, G1192_6, G1192_7, G1192_8, G1192_9, U1192_0⟩ := hQ1192
      have N1192 := Fr.app N1189 N1192q
      have lt1192_1 : @LT.lt Nat _ ob_1189 (Array.size T1192.heap) := G1192_1.lt
      have lt1192_5 : @LT.lt Nat _ ix_1192 (Array.size T1192.heap) := G1192_5.lt
      have lt1192_7 : @LT.lt Nat _ ca_1192 (Array.size T1192.heap) := G1192_7.lt
      have lt1192_8 : @LT.lt Nat _ b1140 (Array.size T1192.heap) := G1192_8.lt
      refine own_rl 58 #[.val (.int i0), .val (.int i1), .val (.ref b1140), .val (.int (2 : Int32)), .val (.ref ob_1189), .val (.ref so_1192), .unset] [(.int (0 : Int32)), (.ref b1140), (.ref ob_1189)] X1192 hx hby e0_52_4 rfl rfl ?_
      refine own_cV X1192 hx hZ hown (wd20 hw) (wd21 hw) (notFace_of_selects (args := #[]) (mvT hZ (wd23 hw))) (wd23 hw) (wd22 hw) (by decide) (wd24 hw) (wd3 hw) (rm4f0r l Z a0 hw [] G1 G2 ob_1189 b1140 k1140 (nar .byte (i0.toInt8.toInt32)) (nar .byte (((i0.toUInt32 >>> ((8 : Int32) &&& 31).toUInt32).toInt32).toInt8.toInt32)) (nar .byte (((i0.toUInt32 >>> ((16 : Int32) &&& 31).toUInt32).toInt32).toInt8.toInt32)) (nar .byte (((i0.toUInt32 >>> ((24 : Int32) &&& 31).toUInt32).toInt32).toInt8.toInt32)) ix_1192 ca_1192 kk_1192 vz_1192 T1192.heap n0 (by omega) G1192_0 A G1192_1 G1192_2 G1192_3 G1192_4 G1192_5 G1192_6 G1192_7 G1192_8 (by first | assumption | decide | omega)) rfl G1192_1 [(.ref b1140), (.int (0 : Int32))] [] 61 0 (hb hby at_58) rfl (by rw [hml]; rfl) rfl rfl (lenOf pd_33 rfl) rfl (by decide) fun v1193 T1193 Lc1193 X1193 hQ1193 => ?_
      obtain ⟨so_1193, rfl, N1193q, K1193, G1193_0⟩ := hQ1193
      have N1193 := Fr.app N1192 N1193q
      have z1193 := K1193.1
      refine own_rl 67 #[.val (.int i0), .val (.int i1), .val (.ref b1140), .val (.int (2 : Int32)), .val (.ref ob_1189), .val (.ref so_1192), .val (.ref so_1193)] [(.int (2 : Int32)), (.ref b1140), (.ref so_1192)] X1193 hx hby e0_61_4 rfl rfl ?_
      have f1194 : own_Str2 Z T1193.heap so_1192 (own_exp (nar .byte (((i0.toUInt32 >>> ((16 : Int32) &&& 31).toUInt32).toInt32).toInt8.toInt32))) (own_exp (nar .byte (((i0.toUInt32 >>> ((24 : Int32) &&& 31).toUInt32).toInt32).toInt8.toInt32))) := (own_StrK2 K1193 G1192_9)
      rcases f1194 with ⟨ata, akt, ay0, ay1, af0, af1, af2, af3, ae0, ae1⟩ | ⟨ata, akt, ay0, ay1, az0, az1, af0, af1, af2, af3, ae0, ae1⟩
      · have alt : @LT.lt Nat _ ata (Array.size T1193.heap) := af3.lt
        have f1195 := (G1192_0.keep K1193 all0)
        have f1196 := (G1192_8.keep K1193 nin0)
        refine own_cS X1193 hx hZ hown (wd137 hw) (wd138 hw) (by decide) (wd140 hw) (wd139 hw) (rm23m20 l Z a0 hw [] G1 G2 so_1192 b1140 ata akt k1140 (nar .byte (i0.toInt8.toInt32)) (nar .byte (((i0.toUInt32 >>> ((8 : Int32) &&& 31).toUInt32).toInt32).toInt8.toInt32)) (nar .byte (((i0.toUInt32 >>> ((16 : Int32) &&& 31).toUInt32).toInt32).toInt8.toInt32)) (nar .byte (((i0.toUInt32 >>> ((24 : Int32) &&& 31).toUInt32).toInt32).toInt8.toInt32)) ay0 ay1 T1193.heap n0 (by omega) f1195 A af0 af1 af2 af3 f1196 ae0 ae1) rfl  [(.ref so_1192), (.ref b1140), (.int (2 : Int32))] [] 70 0 (hb hby at_67) rfl (by rw [hml]; rfl) rfl rfl (lenOf pd_34 rfl) rfl (by decide) fun v1197 T1197 Lc1197 X1197 hQ1197 => ?_
        obtain ⟨rfl, N1197q, e1197⟩ := hQ1197
        have N1197 := Fr.app N1193 N1197q
        refine own_iN 73 X1197 hx (hb hby at_70) rfl ((if0 _ _).trans (feq (by decide : ¬ ((1 : Int32) = (0 : Int32)))).1) rfl ?_
        refine own_ru 77 [(.int (0 : Int32)), (.ref b1140), (.ref so_1193)] X1197 hx hby e0_73_3 rfl rfl ?_
        rcases G1193_0 with ⟨bta, bkt, by0, by1, by2, by3, bf0, bf1, bf2, bf3, be0, be1, be2, be3⟩ | ⟨bta, bkt, by0, by1, by2, by3, bz0, bz1, bz2, bz3, bf0, bf1, bf2, bf3, be0, be1, be2, be3⟩
        · have blt : @LT.lt Nat _ bta (Array.size T1193.heap) := bf3.lt
          refine own_cS X1197 hx hZ hown (wd137 hw) (wd138 hw) (by decide) (wd140 hw) (wd139 hw) (rm23m00 l Z a0 hw [] G1 G2 so_1193 b1140 bta bkt k1140 (nar .byte (i0.toInt8.toInt32)) (nar .byte (((i0.toUInt32 >>> ((8 : Int32) &&& 31).toUInt32).toInt32).toInt8.toInt32)) (nar .byte (((i0.toUInt32 >>> ((16 : Int32) &&& 31).toUInt32).toInt32).toInt8.toInt32)) (nar .byte (((i0.toUInt32 >>> ((24 : Int32) &&& 31).toUInt32).toInt32).toInt8.toInt32)) by0 by1 by2 by3 T1193.heap n0 (by omega) f1195 A bf0 bf1 bf2 bf3 f1196 be0 be1 be2 be3) e1197  [(.ref so_1193), (.ref b1140), (.int (0 : Int32))] [] 80 0 (hb hby at_77) rfl (by rw [hml]; rfl) rfl rfl (lenOf pd_34 rfl) rfl (by decide) fun v1198 T1198 Lc1198 X1198 hQ1198 => ?_
          obtain ⟨rfl, N1198q, e1198⟩ := hQ1198
          have N1198 := Fr.app N1197 N1198q
          refine own_iN 83 X1198 hx (hb hby at_80) rfl ((if0 _ _).trans (feq (by decide : ¬ ((1 : Int32) = (0 : Int32)))).1) rfl ?_
          refine own_ru 84 [(.int (1 : Int32))] X1198 hx hby e0_83_1 rfl rfl ?_
          refine own_go 88 X1198 hx (hb hby at_84) (by decide) (by decide) ?_
          have hq1199 : Q0 Z G1 G2 i0 i1 h0 n0 (some (.int (nar .boolean (1 : Int32)))) T1193.heap _ := ⟨rfl, N1198⟩
          exact own_retN X1198 hx hlk (t := .boolean) hrt (by simp) (hb hby at_88) e1198 hq1199 (by decide) (by decide)
        · have blt : @LT.lt Nat _ bta (Array.size T1193.heap) := bf3.lt
          refine own_cS X1197 hx hZ hown (wd137 hw) (wd138 hw) (by decide) (wd140 hw) (wd139 hw) (rm23m01 l Z a0 hw [] G1 G2 so_1193 b1140 bta bkt k1140 (nar .byte (i0.toInt8.toInt32)) (nar .byte (((i0.toUInt32 >>> ((8 : Int32) &&& 31).toUInt32).toInt32).toInt8.toInt32)) (nar .byte (((i0.toUInt32 >>> ((16 : Int32) &&& 31).toUInt32).toInt32).toInt8.toInt32)) (nar .byte (((i0.toUInt32 >>> ((24 : Int32) &&& 31).toUInt32).toInt32).toInt8.toInt32)) by0 by1 by2 by3 bz0 bz1 bz2 bz3 T1193.heap n0 (by omega) f1195 A bf0 bf1 bf2 bf3 f1196 be0 be1 be2 be3) e1197  [(.ref so_1193), (.ref b1140), (.int (0 : Int32))] [] 80 0 (hb hby at_77) rfl (by rw [hml]; rfl) rfl rfl (lenOf pd_34 rfl) rfl (by decide) fun v1200 T1200 Lc1200 X1200 hQ1200 => ?_
          obtain ⟨rfl, N1200q, e1200⟩ := hQ1200
          have N1200 := Fr.app N1197 N1200q
          refine own_iN 83 X1200 hx (hb hby at_80) rfl ((if0 _ _).trans (feq (by decide : ¬ ((1 : Int32) = (0 : Int32)))).1) rfl ?_
          refine own_ru 84 [(.int (1 : Int32))] X1200 hx hby e0_83_1 rfl rfl ?_
          refine own_go 88 X1200 hx (hb hby at_84) (by decide) (by decide) ?_
          have hq1201 : Q0 Z G1 G2 i0 i1 h0 n0 (some (.int (nar .boolean (1 : Int32)))) T1193.heap _ := ⟨rfl, N1200⟩
          exact own_retN X1200 hx hlk (t := .boolean) hrt (by simp) (hb hby at_88) e1200 hq1201 (by decide) (by decide)
      · have alt : @LT.lt Nat _ ata (Array.size T1193.heap) := af3.lt
        have f1202 := (G1192_0.keep K1193 all0)
        have f1203 := (G1192_8.keep K1193 nin0)
        refine own_cS X1193 hx hZ hown (wd137 hw) (wd138 hw) (by decide) (wd140 hw) (wd139 hw) (rm23m21 l Z a0 hw [] G1 G2 so_1192 b1140 ata akt k1140 (nar .byte (i0.toInt8.toInt32)) (nar .byte (((i0.toUInt32 >>> ((8 : Int32) &&& 31).toUInt32).toInt32).toInt8.toInt32)) (nar .byte (((i0.toUInt32 >>> ((16 : Int32) &&& 31).toUInt32).toInt32).toInt8.toInt32)) (nar .byte (((i0.toUInt32 >>> ((24 : Int32) &&& 31).toUInt32).toInt32).toInt8.toInt32)) ay0 ay1 az0 az1 T1193.heap n0 (by omega) f1202 A af0 af1 af2 af3 f1203 ae0 ae1) rfl  [(.ref so_1192), (.ref b1140), (.int (2 : Int32))] [] 70 0 (hb hby at_67) rfl (by rw [hml]; rfl) rfl rfl (lenOf pd_34 rfl) rfl (by decide) fun v1204 T1204 Lc1204 X1204 hQ1204 => ?_
        obtain ⟨rfl, N1204q, e1204⟩ := hQ1204
        have N1204 := Fr.app N1193 N1204q
        refine own_iN 73 X1204 hx (hb hby at_70) rfl ((if0 _ _).trans (feq (by decide : ¬ ((1 : Int32) = (0 : Int32)))).1) rfl ?_
        refine own_ru 77 [(.int (0 : Int32)), (.ref b1140), (.ref so_1193)] X1204 hx hby e0_73_3 rfl rfl ?_
        rcases G1193_0 with ⟨bta, bkt, by0, by1, by2, by3, bf0, bf1, bf2, bf3, be0, be1, be2, be3⟩ | ⟨bta, bkt, by0, by1, by2, by3, bz0, bz1, bz2, bz3, bf0, bf1, bf2, bf3, be0, be1, be2, be3⟩
        · have blt : @LT.lt Nat _ bta (Array.size T1193.heap) := bf3.lt
          refine own_cS X1204 hx hZ hown (wd137 hw) (wd138 hw) (by decide) (wd140 hw) (wd139 hw) (rm23m00 l Z a0 hw [] G1 G2 so_1193 b1140 bta bkt k1140 (nar .byte (i0.toInt8.toInt32)) (nar .byte (((i0.toUInt32 >>> ((8 : Int32) &&& 31).toUInt32).toInt32).toInt8.toInt32)) (nar .byte (((i0.toUInt32 >>> ((16 : Int32) &&& 31).toUInt32).toInt32).toInt8.toInt32)) (nar .byte (((i0.toUInt32 >>> ((24 : Int32) &&& 31).toUInt32).toInt32).toInt8.toInt32)) by0 by1 by2 by3 T1193.heap n0 (by omega) f1202 A bf0 bf1 bf2 bf3 f1203 be0 be1 be2 be3) e1204  [(.ref so_1193), (.ref b1140), (.int (0 : Int32))] [] 80 0 (hb hby at_77) rfl (by rw [hml]; rfl) rfl rfl (lenOf pd_34 rfl) rfl (by decide) fun v1205 T1205 Lc1205 X1205 hQ1205 => ?_
          obtain ⟨rfl, N1205q, e1205⟩ := hQ1205
          have N1205 := Fr.app N1204 N1205q
          refine own_iN 83 X1205 hx (hb hby at_80) rfl ((if0 _ _).trans (feq (by decide : ¬ ((1 : Int32) = (0 : Int32)))).1) rfl ?_
          refine own_ru 84 [(.int (1 : Int32))] X1205 hx hby e0_83_1 rfl rfl ?_
          refine own_go 88 X1205 hx (hb hby at_84) (by decide) (by decide) ?_
          have hq1206 : Q0 Z G1 G2 i0 i1 h0 n0 (some (.int (nar .boolean (1 : Int32)))) T1193.heap _ := ⟨rfl, N1205⟩
          exact own_retN X1205 hx hlk (t := .boolean) hrt (by simp) (hb hby at_88) e1205 hq1206 (by decide) (by decide)
        · have blt : @LT.lt Nat _ bta (Array.size T1193.heap) := bf3.lt
          refine own_cS X1204 hx hZ hown (wd137 hw) (wd138 hw) (by decide) (wd140 hw) (wd139 hw) (rm23m01 l Z a0 hw [] G1 G2 so_1193 b1140 bta bkt k1140 (nar .byte (i0.toInt8.toInt32)) (nar .byte (((i0.toUInt32 >>> ((8 : Int32) &&& 31).toUInt32).toInt32).toInt8.toInt32)) (nar .byte (((i0.toUInt32 >>> ((16 : Int32) &&& 31).toUInt32).toInt32).toInt8.toInt32)) (nar .byte (((i0.toUInt32 >>> ((24 : Int32) &&& 31).toUInt32).toInt32).toInt8.toInt32)) by0 by1 by2 by3 bz0 bz1 bz2 bz3 T1193.heap n0 (by omega) f1202 A bf0 bf1 bf2 bf3 f1203 be0 be1 be2 be3) e1204  [(.ref so_1193), (.ref b1140), (.int (0 : Int32))] [] 80 0 (hb hby at_77) rfl (by rw [hml]; rfl) rfl rfl (lenOf pd_34 rfl) rfl (by decide) fun v1207 T1207 Lc1207 X1207 hQ1207 => ?_
          obtain ⟨rfl, N1207q, e1207⟩ := hQ1207
          have N1207 := Fr.app N1204 N1207q
          refine own_iN 83 X1207 hx (hb hby at_80) rfl ((if0 _ _).trans (feq (by decide : ¬ ((1 : Int32) = (0 : Int32)))).1) rfl ?_
          refine own_ru 84 [(.int (1 : Int32))] X1207 hx hby e0_83_1 rfl rfl ?_
          refine own_go 88 X1207 hx (hb hby at_84) (by decide) (by decide) ?_
          have hq1208 : Q0 Z G1 G2 i0 i1 h0 n0 (some (.int (nar .boolean (1 : Int32)))) T1193.heap _ := ⟨rfl, N1207⟩
          exact own_retN X1207 hx hlk (t := .boolean) hrt (by simp) (hb hby at_88) e1207 hq1208 (by decide) (by decide)
  · as_aux_lemma =>
      refine own_cS X1148 hx hZ hown (wd1 hw) (wd2 hw) (by decide) (wd4 hw) (wd3 hw) (rm1 l Z a0 hw []  h1148 n0 (by omega) ) e1148  [] [] 43 0 (hb hby at_40) rfl (by rw [hml]; rfl) rfl rfl (lenOf pd_32 rfl) rfl (by decide) fun v1209 T1209 Lc1209 X1209 hQ1209 => ?_
      obtain ⟨ob_1209, rfl, N1209q, K1209, G1209_0, G1209_1, G1209_2, G1209_3, U1209_0⟩ := hQ1209
      have N1209 := Fr.app N1148 N1209q
      have z1209 := K1209.1
      have lt1209_0 : @LT.lt Nat _ ob_1209 (Array.size T1209.heap) := G1209_0.lt
      refine own_rl 49 #[.val (.int i0), .val (.int i1), .val (.ref b1140), .val (.int (3 : Int32)), .val (.ref ob_1209), .unset, .unset] [(.int (3 : Int32)), (.ref b1140), (.ref ob_1209)] X1209 hx hby e0_43_4 rfl rfl ?_
      have f1210 := ((((((OLD.ext E1140).wr W1142 (by omega)).wr W1144 (by omega)).wr W1146 (by omega)).wr W1148 (by omega)).keep K1209 all0)
      have f1211 := (V1148.keep K1209 nin0)
      refine own_cV X1209 hx hZ hown (wd20 hw) (wd21 hw) (notFace_of_selects (args := #[]) (mvT hZ (wd23 hw))) (wd23 hw) (wd22 hw) (by decide) (wd24 hw) (wd3 hw) (rm4f3n l Z a0 hw [] G1 G2 ob_1209 b1140 k1140 (nar .byte (i0.toInt8.toInt32)) (nar .byte (((i0.toUInt32 >>> ((8 : Int32) &&& 31).toUInt32).toInt32).toInt8.toInt32)) (nar .byte (((i0.toUInt32 >>> ((16 : Int32) &&& 31).toUInt32).toInt32).toInt8.toInt32)) (nar .byte (((i0.toUInt32 >>> ((24 : Int32) &&& 31).toUInt32).toInt32).toInt8.toInt32)) T1209.heap n0 (by omega) f1210 A G1209_0 G1209_1 G1209_2 G1209_3 f1211 (by omega) (by first | assumption | decide | omega)) rfl G1209_0 [(.ref b1140), (.int (3 : Int32))] [] 52 0 (hb hby at_49) rfl (by rw [hml]; rfl) rfl rfl (lenOf pd_33 rfl) rfl (by decide) fun v1212 T1212 Lc1212 X1212 hQ1212 => ?_
      obtain ⟨so_1212, ix_1212, ca_1212, kk_1212, vz_1212, rfl, N1212q, K1212, G1212_0, G1212_1, G1212_2, G1212_3, G1212_4, G1212_5, G1212_6, G1212_7, G1212_8, G1212_9, U1212_0⟩ := hQ1212
      have N1212 := Fr.app N1209 N1212q
      have lt1212_1 : @LT.lt Nat _ ob_1209 (Array.size T1212.heap) := G1212_1.lt
      have lt1212_5 : @LT.lt Nat _ ix_1212 (Array.size T1212.heap) := G1212_5.lt
      have lt1212_7 : @LT.lt Nat _ ca_1212 (Array.size T1212.heap) := G1212_7.lt
      have lt1212_8 : @LT.lt Nat _ b1140 (Array.size T1212.heap) := G1212_8.lt
      refine own_rl 58 #[.val (.int i0), .val (.int i1), .val (.ref b1140), .val (.int (3 : Int32)), .val (.ref ob_1209), .val (.ref so_1212), .unset] [(.int (0 : Int32)), (.ref b1140), (.ref ob_1209)] X1212 hx hby e0_52_4 rfl rfl ?_
      refine own_cV X1212 hx hZ hown (wd20 hw) (wd21 hw) (notFace_of_selects (args := #[]) (mvT hZ (wd23 hw))) (wd23 hw) (wd22 hw) (by decide) (wd24 hw) (wd3 hw) (rm4f0r l Z a0 hw [] G1 G2 ob_1209 b1140 k1140 (nar .byte (i0.toInt8.toInt32)) (nar .byte (((i0.toUInt32 >>> ((8 : Int32) &&& 31).toUInt32).toInt32).toInt8.toInt32)) (nar .byte (((i0.toUInt32 >>> ((16 : Int32) &&& 31).toUInt32).toInt32).toInt8.toInt32)) (nar .byte (((i0.toUInt32 >>> ((24 : Int32) &&& 31).toUInt32).toInt32).toInt8.toInt32)) ix_1212 ca_1212 kk_1212 vz_1212 T1212.heap n0 (by omega) G1212_0 A G1212_1 G1212_2 G1212_3 G1212_4 G1212_5 G1212_6 G1212_7 G1212_8 (by first | assumption | decide | omega)) rfl G1212_1 [(.ref b1140), (.int (0 : Int32))] [] 61 0 (hb hby at_58) rfl (by rw [hml]; rfl) rfl rfl (lenOf pd_33 rfl) rfl (by decide) fun v1213 T1213 Lc1213 X1213 hQ1213 => ?_
      obtain ⟨so_1213, rfl, N1213q, K1213, G1213_0⟩ := hQ1213
      have N1213 := Fr.app N1212 N1213q
      have z1213 := K1213.1
      refine own_rl 67 #[.val (.int i0), .val (.int i1), .val (.ref b1140), .val (.int (3 : Int32)), .val (.ref ob_1209), .val (.ref so_1212), .val (.ref so_1213)] [(.int (3 : Int32)), (.ref b1140), (.ref so_1212)] X1213 hx hby e0_61_4 rfl rfl ?_
      have f1214 : own_Str1 Z T1213.heap so_1212 (own_exp (nar .byte (((i0.toUInt32 >>> ((24 : Int32) &&& 31).toUInt32).toInt32).toInt8.toInt32))) := (own_StrK1 K1213 G1212_9)
      rcases f1214 with ⟨ata, akt, ay0, af0, af1, af2, af3, ae0⟩ | ⟨ata, akt, ay0, az0, af0, af1, af2, af3, ae0⟩
      · have alt : @LT.lt Nat _ ata (Array.size T1213.heap) := af3.lt
        have f1215 := (G1212_0.keep K1213 all0)
        have f1216 := (G1212_8.keep K1213 nin0)
        refine own_cS X1213 hx hZ hown (wd137 hw) (wd138 hw) (by decide) (wd140 hw) (wd139 hw) (rm23m30 l Z a0 hw [] G1 G2 so_1212 b1140 ata akt k1140 (nar .byte (i0.toInt8.toInt32)) (nar .byte (((i0.toUInt32 >>> ((8 : Int32) &&& 31).toUInt32).toInt32).toInt8.toInt32)) (nar .byte (((i0.toUInt32 >>> ((16 : Int32) &&& 31).toUInt32).toInt32).toInt8.toInt32)) (nar .byte (((i0.toUInt32 >>> ((24 : Int32) &&& 31).toUInt32).toInt32).toInt8.toInt32)) ay0 T1213.heap n0 (by omega) f1215 A af0 af1 af2 af3 f1216 ae0) rfl  [(.ref so_1212), (.ref b1140), (.int (3 : Int32))] [] 70 0 (hb hby at_67) rfl (by rw [hml]; rfl) rfl rfl (lenOf pd_34 rfl) rfl (by decide) fun v1217 T1217 Lc1217 X1217 hQ1217 => ?_
        obtain ⟨rfl, N1217q, e1217⟩ := hQ1217
        have N1217 := Fr.app N1213 N1217q
        refine own_iN 73 X1217 hx (hb hby at_70) rfl ((if0 _ _).trans (feq (by decide : ¬ ((1 : Int32) = (0 : Int32)))).1) rfl ?_
        refine own_ru 77 [(.int (0 : Int32)), (.ref b1140), (.ref so_1213)] X1217 hx hby e0_73_3 rfl rfl ?_
        rcases G1213_0 with ⟨bta, bkt, by0, by1, by2, by3, bf0, bf1, bf2, bf3, be0, be1, be2, be3⟩ | ⟨bta, bkt, by0, by1, by2, by3, bz0, bz1, bz2, bz3, bf0, bf1, bf2, bf3, be0, be1, be2, be3⟩
        · have blt : @LT.lt Nat _ bta (Array.size T1213.heap) := bf3.lt
          refine own_cS X1217 hx hZ hown (wd137 hw) (wd138 hw) (by decide) (wd140 hw) (wd139 hw) (rm23m00 l Z a0 hw [] G1 G2 so_1213 b1140 bta bkt k1140 (nar .byte (i0.toInt8.toInt32)) (nar .byte (((i0.toUInt32 >>> ((8 : Int32) &&& 31).toUInt32).toInt32).toInt8.toInt32)) (nar .byte (((i0.toUInt32 >>> ((16 : Int32) &&& 31).toUInt32).toInt32).toInt8.toInt32)) (nar .byte (((i0.toUInt32 >>> ((24 : Int32) &&& 31).toUInt32).toInt32).toInt8.toInt32)) by0 by1 by2 by3 T1213.heap n0 (by omega) f1215 A bf0 bf1 bf2 bf3 f1216 be0 be1 be2 be3) e1217  [(.ref so_1213), (.ref b1140), (.int (0 : Int32))] [] 80 0 (hb hby at_77) rfl (by rw [hml]; rfl) rfl rfl (lenOf pd_34 rfl) rfl (by decide) fun v1218 T1218 Lc1218 X1218 hQ1218 => ?_
          obtain ⟨rfl, N1218q, e1218⟩ := hQ1218
          have N1218 := Fr.app N1217 N1218q
          refine own_iN 83 X1218 hx (hb hby at_80) rfl ((if0 _ _).trans (feq (by decide : ¬ ((1 : Int32) = (0 : Int32)))).1) rfl ?_
          refine own_ru 84 [(.int (1 : Int32))] X1218 hx hby e0_83_1 rfl rfl ?_
          refine own_go 88 X1218 hx (hb hby at_84) (by decide) (by decide) ?_
          have hq1219 : Q0 Z G1 G2 i0 i1 h0 n0 (some (.int (nar .boolean (1 : Int32)))) T1213.heap _ := ⟨rfl, N1218⟩
          exact own_retN X1218 hx hlk (t := .boolean) hrt (by simp) (hb hby at_88) e1218 hq1219 (by decide) (by decide)
        · have blt : @LT.lt Nat _ bta (Array.size T1213.heap) := bf3.lt
          refine own_cS X1217 hx hZ hown (wd137 hw) (wd138 hw) (by decide) (wd140 hw) (wd139 hw) (rm23m01 l Z a0 hw [] G1 G2 so_1213 b1140 bta bkt k1140 (nar .byte (i0.toInt8.toInt32)) (nar .byte (((i0.toUInt32 >>> ((8 : Int32) &&& 31).toUInt32).toInt32).toInt8.toInt32)) (nar .byte (((i0.toUInt32 >>> ((16 : Int32) &&& 31).toUInt32).toInt32).toInt8.toInt32)) (nar .byte (((i0.toUInt32 >>> ((24 : Int32) &&& 31).toUInt32).toInt32).toInt8.toInt32)) by0 by1 by2 by3 bz0 bz1 bz2 bz3 T1213.heap n0 (by omega) f1215 A bf0 bf1 bf2 bf3 f1216 be0 be1 be2 be3) e1217  [(.ref so_1213), (.ref b1140), (.int (0 : Int32))] [] 80 0 (hb hby at_77) rfl (by rw [hml]; rfl) rfl rfl (lenOf pd_34 rfl) rfl (by decide) fun v1220 T1220 Lc1220 X1220 hQ1220 => ?_
          obtain ⟨rfl, N1220q, e1220⟩ := hQ1220
          have N1220 := Fr.app N1217 N1220q
          refine own_iN 83 X1220 hx (hb hby at_80) rfl ((if0 _ _).trans (feq (by decide : ¬ ((1 : Int32) = (0 : Int32)))).1) rfl ?_
          refine own_ru 84 [(.int (1 : Int32))] X1220 hx hby e0_83_1 rfl rfl ?_
          refine own_go 88 X1220 hx (hb hby at_84) (by decide) (by decide) ?_
          have hq1221 : Q0 Z G1 G2 i0 i1 h0 n0 (some (.int (nar .boolean (1 : Int32)))) T1213.heap _ := ⟨rfl, N1220⟩
          exact own_retN X1220 hx hlk (t := .boolean) hrt (by simp) (hb hby at_88) e1220 hq1221 (by decide) (by decide)
      · have alt : @LT.lt Nat _ ata (Array.size T1213.heap) := af3.lt
        have f1222 := (G1212_0.keep K1213 all0)
        have f1223 := (G1212_8.keep K1213 nin0)
        refine own_cS X1213 hx hZ hown (wd137 hw) (wd138 hw) (by decide) (wd140 hw) (wd139 hw) (rm23m31 l Z a0 hw [] G1 G2 so_1212 b1140 ata akt k1140 (nar .byte (i0.toInt8.toInt32)) (nar .byte (((i0.toUInt32 >>> ((8 : Int32) &&& 31).toUInt32).toInt32).toInt8.toInt32)) (nar .byte (((i0.toUInt32 >>> ((16 : Int32) &&& 31).toUInt32).toInt32).toInt8.toInt32)) (nar .byte (((i0.toUInt32 >>> ((24 : Int32) &&& 31).toUInt32).toInt32).toInt8.toInt32)) ay0 az0 T1213.heap n0 (by omega) f1222 A af0 af1 af2 af3 f1223 ae0) rfl  [(.ref so_1212), (.ref b1140), (.int (3 : Int32))] [] 70 0 (hb hby at_67) rfl (by rw [hml]; rfl) rfl rfl (lenOf pd_34 rfl) rfl (by decide) fun v1224 T1224 Lc1224 X1224 hQ1224 => ?_
        obtain ⟨rfl, N1224q, e1224⟩ := hQ1224
        have N1224 := Fr.app N1213 N1224q
        refine own_iN 73 X1224 hx (hb hby at_70) rfl ((if0 _ _).trans (feq (by decide : ¬ ((1 : Int32) = (0 : Int32)))).1) rfl ?_
        refine own_ru 77 [(.int (0 : Int32)), (.ref b1140), (.ref so_1213)] X1224 hx hby e0_73_3 rfl rfl ?_
        rcases G1213_0 with ⟨bta, bkt, by0, by1, by2, by3, bf0, bf1, bf2, bf3, be0, be1, be2, be3⟩ | ⟨bta, bkt, by0, by1, by2, by3, bz0, bz1, bz2, bz3, bf0, bf1, bf2, bf3, be0, be1, be2, be3⟩
        · have blt : @LT.lt Nat _ bta (Array.size T1213.heap) := bf3.lt
          refine own_cS X1224 hx hZ hown (wd137 hw) (wd138 hw) (by decide) (wd140 hw) (wd139 hw) (rm23m00 l Z a0 hw [] G1 G2 so_1213 b1140 bta bkt k1140 (nar .byte (i0.toInt8.toInt32)) (nar .byte (((i0.toUInt32 >>> ((8 : Int32) &&& 31).toUInt32).toInt32).toInt8.toInt32)) (nar .byte (((i0.toUInt32 >>> ((16 : Int32) &&& 31).toUInt32).toInt32).toInt8.toInt32)) (nar .byte (((i0.toUInt32 >>> ((24 : Int32) &&& 31).toUInt32).toInt32).toInt8.toInt32)) by0 by1 by2 by3 T1213.heap n0 (by omega) f1222 A bf0 bf1 bf2 bf3 f1223 be0 be1 be2 be3) e1224  [(.ref so_1213), (.ref b1140), (.int (0 : Int32))] [] 80 0 (hb hby at_77) rfl (by rw [hml]; rfl) rfl rfl (lenOf pd_34 rfl) rfl (by decide) fun v1225 T1225 Lc1225 X1225 hQ1225 => ?_
          obtain ⟨rfl, N1225q, e1225⟩ := hQ1225
          have N1225 := Fr.app N1224 N1225q
          refine own_iN 83 X1225 hx (hb hby at_80) rfl ((if0 _ _).trans (feq (by decide : ¬ ((1 : Int32) = (0 : Int32)))).1) rfl ?_
          refine own_ru 84 [(.int (1 : Int32))] X1225 hx hby e0_83_1 rfl rfl ?_
          refine own_go 88 X1225 hx (hb hby at_84) (by decide) (by decide) ?_
          have hq1226 : Q0 Z G1 G2 i0 i1 h0 n0 (some (.int (nar .boolean (1 : Int32)))) T1213.heap _ := ⟨rfl, N1225⟩
          exact own_retN X1225 hx hlk (t := .boolean) hrt (by simp) (hb hby at_88) e1225 hq1226 (by decide) (by decide)
        · have blt : @LT.lt Nat _ bta (Array.size T1213.heap) := bf3.lt
          refine own_cS X1224 hx hZ hown (wd137 hw) (wd138 hw) (by decide) (wd140 hw) (wd139 hw) (rm23m01 l Z a0 hw [] G1 G2 so_1213 b1140 bta bkt k1140 (nar .byte (i0.toInt8.toInt32)) (nar .byte (((i0.toUInt32 >>> ((8 : Int32) &&& 31).toUInt32).toInt32).toInt8.toInt32)) (nar .byte (((i0.toUInt32 >>> ((16 : Int32) &&& 31).toUInt32).toInt32).toInt8.toInt32)) (nar .byte (((i0.toUInt32 >>> ((24 : Int32) &&& 31).toUInt32).toInt32).toInt8.toInt32)) by0 by1 by2 by3 bz0 bz1 bz2 bz3 T1213.heap n0 (by omega) f1222 A bf0 bf1 bf2 bf3 f1223 be0 be1 be2 be3) e1224  [(.ref so_1213), (.ref b1140), (.int (0 : Int32))] [] 80 0 (hb hby at_77) rfl (by rw [hml]; rfl) rfl rfl (lenOf pd_34 rfl) rfl (by decide) fun v1227 T1227 Lc1227 X1227 hQ1227 => ?_
          obtain ⟨rfl, N1227q, e1227⟩ := hQ1227
          have N1227 := Fr.app N1224 N1227q
          refine own_iN 83 X1227 hx (hb hby at_80) rfl ((if0 _ _).trans (feq (by decide : ¬ ((1 : Int32) = (0 : Int32)))).1) rfl ?_
          refine own_ru 84 [(.int (1 : Int32))] X1227 hx hby e0_83_1 rfl rfl ?_
          refine own_go 88 X1227 hx (hb hby at_84) (by decide) (by decide) ?_
          have hq1228 : Q0 Z G1 G2 i0 i1 h0 n0 (some (.int (nar .boolean (1 : Int32)))) T1213.heap _ := ⟨rfl, N1227⟩
          exact own_retN X1227 hx hlk (t := .boolean) hrt (by simp) (hb hby at_88) e1227 hq1228 (by decide) (by decide)
  · as_aux_lemma =>
      refine own_cS X1148 hx hZ hown (wd1 hw) (wd2 hw) (by decide) (wd4 hw) (wd3 hw) (rm1 l Z a0 hw []  h1148 n0 (by omega) ) e1148  [] [] 43 0 (hb hby at_40) rfl (by rw [hml]; rfl) rfl rfl (lenOf pd_32 rfl) rfl (by decide) fun v1229 T1229 Lc1229 X1229 hQ1229 => ?_
      obtain ⟨ob_1229, rfl, N1229q, K1229, G1229_0, G1229_1, G1229_2, G1229_3, U1229_0⟩ := hQ1229
      have N1229 := Fr.app N1148 N1229q
      have z1229 := K1229.1
      have lt1229_0 : @LT.lt Nat _ ob_1229 (Array.size T1229.heap) := G1229_0.lt
      refine own_rl 49 #[.val (.int i0), .val (.int i1), .val (.ref b1140), .val (.int (4 : Int32)), .val (.ref ob_1229), .unset, .unset] [(.int (4 : Int32)), (.ref b1140), (.ref ob_1229)] X1229 hx hby e0_43_4 rfl rfl ?_
      have f1230 := ((((((OLD.ext E1140).wr W1142 (by omega)).wr W1144 (by omega)).wr W1146 (by omega)).wr W1148 (by omega)).keep K1229 all0)
      have f1231 := (V1148.keep K1229 nin0)
      refine own_cV X1229 hx hZ hown (wd20 hw) (wd21 hw) (notFace_of_selects (args := #[]) (mvT hZ (wd23 hw))) (wd23 hw) (wd22 hw) (by decide) (wd24 hw) (wd3 hw) (rm4f4n l Z a0 hw [] G1 G2 ob_1229 b1140 k1140 (nar .byte (i0.toInt8.toInt32)) (nar .byte (((i0.toUInt32 >>> ((8 : Int32) &&& 31).toUInt32).toInt32).toInt8.toInt32)) (nar .byte (((i0.toUInt32 >>> ((16 : Int32) &&& 31).toUInt32).toInt32).toInt8.toInt32)) (nar .byte (((i0.toUInt32 >>> ((24 : Int32) &&& 31).toUInt32).toInt32).toInt8.toInt32)) T1229.heap n0 (by omega) f1230 A G1229_0 G1229_1 G1229_2 G1229_3 f1231 (by omega) (by first | assumption | decide | omega)) rfl G1229_0 [(.ref b1140), (.int (4 : Int32))] [] 52 0 (hb hby at_49) rfl (by rw [hml]; rfl) rfl rfl (lenOf pd_33 rfl) rfl (by decide) fun v1232 T1232 Lc1232 X1232 hQ1232 => ?_
      obtain ⟨so_1232, ix_1232, ca_1232, kk_1232, vz_1232, rfl, N1232q, K1232, G1232_0, G1232_1, G1232_2, G1232_3, G1232_4, G1232_5, G1232_6, G1232_7, G1232_8, G1232_9, U1232_0⟩ := hQ1232
      have N1232 := Fr.app N1229 N1232q
      have lt1232_1 : @LT.lt Nat _ ob_1229 (Array.size T1232.heap) := G1232_1.lt
      have lt1232_5 : @LT.lt Nat _ ix_1232 (Array.size T1232.heap) := G1232_5.lt
      have lt1232_7 : @LT.lt Nat _ ca_1232 (Array.size T1232.heap) := G1232_7.lt
      have lt1232_8 : @LT.lt Nat _ b1140 (Array.size T1232.heap) := G1232_8.lt
      refine own_rl 58 #[.val (.int i0), .val (.int i1), .val (.ref b1140), .val (.int (4 : Int32)), .val (.ref ob_1229), .val (.ref so_1232), .unset] [(.int (0 : Int32)), (.ref b1140), (.ref ob_1229)] X1232 hx hby e0_52_4 rfl rfl ?_
      refine own_cV X1232 hx hZ hown (wd20 hw) (wd21 hw) (notFace_of_selects (args := #[]) (mvT hZ (wd23 hw))) (wd23 hw) (wd22 hw) (by decide) (wd24 hw) (wd3 hw) (rm4f0r l Z a0 hw [] G1 G2 ob_1229 b1140 k1140 (nar .byte (i0.toInt8.toInt32)) (nar .byte (((i0.toUInt32 >>> ((8 : Int32) &&& 31).toUInt32).toInt32).toInt8.toInt32)) (nar .byte (((i0.toUInt32 >>> ((16 : Int32) &&& 31).toUInt32).toInt32).toInt8.toInt32)) (nar .byte (((i0.toUInt32 >>> ((24 : Int32) &&& 31).toUInt32).toInt32).toInt8.toInt32)) ix_1232 ca_1232 kk_1232 vz_1232 T1232.heap n0 (by omega) G1232_0 A G1232_1 G1232_2 G1232_3 G1232_4 G1232_5 G1232_6 G1232_7 G1232_8 (by first | assumption | decide | omega)) rfl G1232_1 [(.ref b1140), (.int (0 : Int32))] [] 61 0 (hb hby at_58) rfl (by rw [hml]; rfl) rfl rfl (lenOf pd_33 rfl) rfl (by decide) fun v1233 T1233 Lc1233 X1233 hQ1233 => ?_
      obtain ⟨so_1233, rfl, N1233q, K1233, G1233_0⟩ := hQ1233
      have N1233 := Fr.app N1232 N1233q
      have z1233 := K1233.1
      refine own_rl 67 #[.val (.int i0), .val (.int i1), .val (.ref b1140), .val (.int (4 : Int32)), .val (.ref ob_1229), .val (.ref so_1232), .val (.ref so_1233)] [(.int (4 : Int32)), (.ref b1140), (.ref so_1232)] X1233 hx hby e0_61_4 rfl rfl ?_
      have f1234 : own_Str0 Z T1233.heap so_1232 := (own_StrK0 K1233 G1232_9)
      obtain ⟨ata, akt, af0, af1, af2, af3⟩ := f1234
      have alt : @LT.lt Nat _ ata (Array.size T1233.heap) := af3.lt
      have f1235 := (G1232_0.keep K1233 all0)
      have f1236 := (G1232_8.keep K1233 nin0)
      refine own_cS X1233 hx hZ hown (wd137 hw) (wd138 hw) (by decide) (wd140 hw) (wd139 hw) (rm23m40 l Z a0 hw [] G1 G2 so_1232 b1140 ata akt k1140 (nar .byte (i0.toInt8.toInt32)) (nar .byte (((i0.toUInt32 >>> ((8 : Int32) &&& 31).toUInt32).toInt32).toInt8.toInt32)) (nar .byte (((i0.toUInt32 >>> ((16 : Int32) &&& 31).toUInt32).toInt32).toInt8.toInt32)) (nar .byte (((i0.toUInt32 >>> ((24 : Int32) &&& 31).toUInt32).toInt32).toInt8.toInt32)) T1233.heap n0 (by omega) f1235 A af0 af1 af2 af3 f1236) rfl  [(.ref so_1232), (.ref b1140), (.int (4 : Int32))] [] 70 0 (hb hby at_67) rfl (by rw [hml]; rfl) rfl rfl (lenOf pd_34 rfl) rfl (by decide) fun v1237 T1237 Lc1237 X1237 hQ1237 => ?_
      obtain ⟨rfl, N1237q, e1237⟩ := hQ1237
      have N1237 := Fr.app N1233 N1237q
      refine own_iN 73 X1237 hx (hb hby at_70) rfl ((if0 _ _).trans (feq (by decide : ¬ ((1 : Int32) = (0 : Int32)))).1) rfl ?_
      refine own_ru 77 [(.int (0 : Int32)), (.ref b1140), (.ref so_1233)] X1237 hx hby e0_73_3 rfl rfl ?_
      rcases G1233_0 with ⟨bta, bkt, by0, by1, by2, by3, bf0, bf1, bf2, bf3, be0, be1, be2, be3⟩ | ⟨bta, bkt, by0, by1, by2, by3, bz0, bz1, bz2, bz3, bf0, bf1, bf2, bf3, be0, be1, be2, be3⟩
      · have blt : @LT.lt Nat _ bta (Array.size T1233.heap) := bf3.lt
        refine own_cS X1237 hx hZ hown (wd137 hw) (wd138 hw) (by decide) (wd140 hw) (wd139 hw) (rm23m00 l Z a0 hw [] G1 G2 so_1233 b1140 bta bkt k1140 (nar .byte (i0.toInt8.toInt32)) (nar .byte (((i0.toUInt32 >>> ((8 : Int32) &&& 31).toUInt32).toInt32).toInt8.toInt32)) (nar .byte (((i0.toUInt32 >>> ((16 : Int32) &&& 31).toUInt32).toInt32).toInt8.toInt32)) (nar .byte (((i0.toUInt32 >>> ((24 : Int32) &&& 31).toUInt32).toInt32).toInt8.toInt32)) by0 by1 by2 by3 T1233.heap n0 (by omega) f1235 A bf0 bf1 bf2 bf3 f1236 be0 be1 be2 be3) e1237  [(.ref so_1233), (.ref b1140), (.int (0 : Int32))] [] 80 0 (hb hby at_77) rfl (by rw [hml]; rfl) rfl rfl (lenOf pd_34 rfl) rfl (by decide) fun v1238 T1238 Lc1238 X1238 hQ1238 => ?_
        obtain ⟨rfl, N1238q, e1238⟩ := hQ1238
        have N1238 := Fr.app N1237 N1238q
        refine own_iN 83 X1238 hx (hb hby at_80) rfl ((if0 _ _).trans (feq (by decide : ¬ ((1 : Int32) = (0 : Int32)))).1) rfl ?_
        refine own_ru 84 [(.int (1 : Int32))] X1238 hx hby e0_83_1 rfl rfl ?_
        refine own_go 88 X1238 hx (hb hby at_84) (by decide) (by decide) ?_
        have hq1239 : Q0 Z G1 G2 i0 i1 h0 n0 (some (.int (nar .boolean (1 : Int32)))) T1233.heap _ := ⟨rfl, N1238⟩
        exact own_retN X1238 hx hlk (t := .boolean) hrt (by simp) (hb hby at_88) e1238 hq1239 (by decide) (by decide)
      · have blt : @LT.lt Nat _ bta (Array.size T1233.heap) := bf3.lt
        refine own_cS X1237 hx hZ hown (wd137 hw) (wd138 hw) (by decide) (wd140 hw) (wd139 hw) (rm23m01 l Z a0 hw [] G1 G2 so_1233 b1140 bta bkt k1140 (nar .byte (i0.toInt8.toInt32)) (nar .byte (((i0.toUInt32 >>> ((8 : Int32) &&& 31).toUInt32).toInt32).toInt8.toInt32)) (nar .byte (((i0.toUInt32 >>> ((16 : Int32) &&& 31).toUInt32).toInt32).toInt8.toInt32)) (nar .byte (((i0.toUInt32 >>> ((24 : Int32) &&& 31).toUInt32).toInt32).toInt8.toInt32)) by0 by1 by2 by3 bz0 bz1 bz2 bz3 T1233.heap n0 (by omega) f1235 A bf0 bf1 bf2 bf3 f1236 be0 be1 be2 be3) e1237  [(.ref so_1233), (.ref b1140), (.int (0 : Int32))] [] 80 0 (hb hby at_77) rfl (by rw [hml]; rfl) rfl rfl (lenOf pd_34 rfl) rfl (by decide) fun v1240 T1240 Lc1240 X1240 hQ1240 => ?_
        obtain ⟨rfl, N1240q, e1240⟩ := hQ1240
        have N1240 := Fr.app N1237 N1240q
        refine own_iN 83 X1240 hx (hb hby at_80) rfl ((if0 _ _).trans (feq (by decide : ¬ ((1 : Int32) = (0 : Int32)))).1) rfl ?_
        refine own_ru 84 [(.int (1 : Int32))] X1240 hx hby e0_83_1 rfl rfl ?_
        refine own_go 88 X1240 hx (hb hby at_84) (by decide) (by decide) ?_
        have hq1241 : Q0 Z G1 G2 i0 i1 h0 n0 (some (.int (nar .boolean (1 : Int32)))) T1233.heap _ := ⟨rfl, N1240⟩
        exact own_retN X1240 hx hlk (t := .boolean) hrt (by simp) (hb hby at_88) e1240 hq1241 (by decide) (by decide)
set_option maxRecDepth 65536 in
set_option maxHeartbeats 40000000 in
theorem comes_1 {Post : Tables → Env → Array Value → State → Outcome → State → Prop} (hpost : ∀ tb e args s v u, (limb_1_1.after args s (.returned v) u = true ∧ limb_1_2.after args s (.returned v) u = true ∧ True) → FrameEnd s (.returned v) u (Jvm.fieldLocs frame_1_writes args s ++ Jvm.arrayLocs frame_1_arrays args s ++ Jvm.staticLocs frame_1_statics s) 40 512 → Post tb e args s (.returned v) u) :
    ArmFor flags0 classFile x code maxLocals ret World_1 tables_1 room_1 Calls_1 rest_1 Pre_1 Post := by
  intro l hfl _ _ p e ha hc hk s m args below hf hA hF happ hP
  obtain ⟨hcalls, hrest, hpre⟩ := hP
  obtain ⟨-, -, -, hnamed, -, -, -, hat⟩ := (Spec.applies_iff hf).mp happ
  obtain ⟨hg, hn⟩ := and_e (Cond.before_iff.mp (show (Jvm.Cond.and given_1 narrow_1).before args s = true from hpre))
  obtain ⟨gg1, gg2⟩ := and_e hg
  obtain ⟨gg3, gg4⟩ := and_e gg2
  obtain ⟨w0, w1, rfl⟩ : ∃ w0 w1 : Value, args = #[w0, w1] := by
    have hs : args.size = 2 := by simpa [Cond.value, given_1] using gg1
    obtain ⟨L⟩ := args
    match L, hs with
    | [w0, w1], _ => exact ⟨w0, w1, rfl⟩
  have hw := fun d (hd : d ∈ tables_1) => atoms_spec (ws := Jvm.Cond.code x code maxLocals ret :: tables_1) hat d (List.mem_cons_of_mem _ hd)
  have hfit : Fit s := fun {y c} hc i hi => by
    obtain ⟨ha, rfl⟩ := Array.getElem?_eq_some_iff.mp hc
    have q := List.all_eq_true.mp ((Array.all_eq_true_iff_forall_mem.mp hF) _ (Array.getElem_mem ha)) i (List.mem_range.mpr hi)
    simpa [Array.getElem?_eq_getElem hi] using q
  obtain ⟨i0, ei0⟩ := is_v gg3
  obtain rfl : w0 = (.int i0) := Option.some.inj ei0
  obtain ⟨i1, ei1⟩ := is_v gg4
  obtain rfl : w1 = (.int i1) := Option.some.inj ei1
  obtain ⟨hsets, hown0⟩ := atoms_of _ (rest_1_c_eq ▸ (show rest_1_c.before _ s = true from hrest))
  have hn0 := hn
  obtain ⟨G1, eG1⟩ := is_v (Cond.before_iff.mp (hsets _ (List.mem_of_getElem? (i := 1) rfl)))
  obtain ⟨G2, eG2, rG2⟩ := isR_v (Cond.before_iff.mp (hsets _ (List.mem_of_getElem? (i := 8) rfl)))
  have M0 : Sta s s.heap "java/lang/String" "COMPACT_STRINGS" "Z" (.int G1) := Sta.start eG1 (Or.inl (hsets _ (List.mem_of_getElem? (i := 0) rfl)))
  have M1 : Sta s s.heap "jdk/internal/util/Preconditions" "SIOOBE_FORMATTER" "Ljava/util/function/BiFunction;" G2 := Sta.start eG2 (Or.inl (hsets _ (List.mem_of_getElem? (i := 7) rfl)))
  have M2 : Sta s s.heap "java/lang/StringUTF16" "$assertionsDisabled" "Z" (.int (1 : Int32)) := Sta.start (own_eqI (Cond.before_iff.mp (hsets _ (List.mem_of_getElem? (i := 12) rfl))) (Term.int_eval _)) (Or.inl (hsets _ (List.mem_of_getElem? (i := 11) rfl)))
  have M3 : Sta s s.heap "java/lang/StringUTF16" "HI_BYTE_SHIFT" "I" (.int (0 : Int32)) := Sta.start (own_eqI (Cond.before_iff.mp (hsets _ (List.mem_of_getElem? (i := 15) rfl))) (Term.int_eval _)) (Or.inl (hsets _ (List.mem_of_getElem? (i := 14) rfl)))
  have M4 : Sta s s.heap "java/lang/StringUTF16" "LO_BYTE_SHIFT" "I" (.int (8 : Int32)) := Sta.start (own_eqI (Cond.before_iff.mp (hsets _ (List.mem_of_getElem? (i := 18) rfl))) (Term.int_eval _)) (Or.inl (hsets _ (List.mem_of_getElem? (i := 17) rfl)))
  have MP0 : ¬ (G1 = (0 : Int32)) := gotF (Cond.eq_ints eG1 (Term.int_eval (0))) (not_v (Cond.before_iff.mp (hsets _ (List.mem_of_getElem? (i := 2) rfl))))
  have MP1 : G2.isRef = true := rG2
  have AM : Amb s G1 G2 := ⟨M0, M1, M2, M3, M4, MP0, MP1, trivial⟩
  obtain ⟨n, o, h1, h2, h3, _, L, rfl, ⟨rfl, N⟩, hq⟩ := rm0 l s _ hw tables_1 G1 G2 i0 i1 s.heap s.heap.size (Nat.le_refl _) (Old.start s) AM p e ha hc hk s m _ below hf ((Spec.applies_iff_loose hf).mp happ).1 ⟨rfl, State.Warmed39.refl s, rfl⟩ trivial
  refine ⟨n, _, h1, h2, h3, hpost _ _ _ _ _ _ ⟨Cond.after_iff.mpr rfl, Cond.after_iff.mpr (eq_i res_at (Term.int_eval (1)) rfl), trivial⟩ ⟨hq.1, hq.2.1, (hq.2.2.sift fun y hy => Or.inr (N y hy)).mono (by decide) (by decide)⟩⟩
theorem main_1_1 : Claimed_1_1 := comes_1 fun _ _ _ _ _ _ h hF => ⟨h.1, hF⟩
theorem main_1_2 : Claimed_1_2 := comes_1 fun _ _ _ _ _ _ h hF => ⟨h.2.1, hF⟩
end Jvm.Pilot.@@N@@
namespace Jvm.Pilot.@@N@@
open Jvm Jvm.ClassFile Sem Op Lib Jvm.Free Jvm.Stand Jvm.Pilot.@@N@@.Jvm.D
/-! MADE BY PROGRAM (witnessworld.py) out of the Statement's table words and the real class files: 24 classes; the members and pool entries that the words name. The judged class is class 1, her method 1. -/
namespace start1
open Jvm.ClassFile
def u (s : String) : CpInfo := .utf8 (stringToUtf16 s)
/-- a pool by its gaps: so many unusable entries, then the entry; so many at the end -/
def gap : Nat → List CpInfo → List CpInfo
  | 0, r => r
  | n + 1, r => .unusable :: gap n r
def poolList (es : List (Nat × CpInfo)) (last : Nat) : List CpInfo := es.foldr (fun e r => gap e.1 (e.2 :: r)) (gap last [])
def pool (es : List (Nat × CpInfo)) (last : Nat) : Array CpInfo := ⟨poolList es last⟩
def fileOf (pool : Array CpInfo) (this : Nat) (attrs : Array Attribute := #[]) (ms : Array MethodInfo := #[]) (fl : Nat := 33) (sup : Nat := 0) (ifs : Array Nat := #[]) (fds : Array FieldInfo := #[]) : ClassFile where
  minorVersion := 0
  majorVersion := 65
  constantPool := pool
  accessFlags := fl
  thisClass := this
  superClass := sup
  interfaces := ifs
  fields := fds
  methods := ms
  attributes := attrs
def plain (name : String) (sup : Option ClassId) : Class where
  name := name
  kind := .ordinary
  loader := none
  accessFlags := 33
  super := sup
  interfaces := #[]
  cf := none
  fields := #[]
  methods := #[]
  instanceTypes := #[]
  staticTypes := #[]
  resolved := #[]
  callSites := []
  init := .initialized
  statics := none
  mirror := none

def pool0 : Array CpInfo := pool [(5, u "<init>"), (0, u "()V"), (1, .class_ 10), (1, u "java/lang/Object"), (85, u "clone"), (0, u "()Ljava/lang/Object;")] 26

def k0c0 : Code := { maxStack := 0, maxLocals := 1, code := object_method_1_code, exceptionTable := #[], attributes := #[] }
def k0m0 : Method := { name := "<init>", desc := "()V", sig := { parameters := [], returnType := none }, accessFlags := 1, code := some k0c0 }
def k0m1 : Method := { name := "clone", desc := "()Ljava/lang/Object;", sig := { parameters := [], returnType := some (.object "java/lang/Object") }, accessFlags := 260, code := none }
/-- java/lang/Object -/
def k0 : Class := { plain "java/lang/Object" none with
  accessFlags := 33
  interfaces := #[]
  cf := some (fileOf pool0 8 #[] #[{ accessFlags := 1, nameIndex := 5, descriptorIndex := 6, attributes := #[] }, { accessFlags := 260, nameIndex := 96, descriptorIndex := 97, attributes := #[] }] 33 0 #[] #[])
  fields := #[]
  methods := #[k0m0, k0m1]
  instanceTypes := #[]
  staticTypes := #[]
  resolved := Array.replicate 124 none
  statics := none }

def pool1 : Array CpInfo := pool [(2, .class_ 4), (1, u "java/lang/Object"), (0, u "<init>"), (0, u "()V"), (0, .methodref 8 9), (0, .class_ 10), (0, .nameAndType 11 12), (0, u "com/example/annotree/annotree/tree/SingleByteDecoder"), (0, u "withoutIndex"), (0, u "()Lcom/example/annotree/annotree/tree/SingleByteDecoder;"), (0, .methodref 8 14), (0, .nameAndType 15 16), (0, u "decode"), (0, u "([BI)Ljava/lang/String;"), (0, .methodref 18 19), (0, .class_ 20), (0, .nameAndType 21 22), (0, u "com/example/annotree/annotree/tree/SingleByteDecoderWithoutIndexPinLaw"), (0, u "matches"), (0, u "(Ljava/lang/String;[BI)Z"), (0, .integer 65533), (0, .methodref 25 26), (0, .class_ 27), (0, .nameAndType 28 29), (0, u "java/lang/String"), (0, u "charAt"), (0, u "(I)C"), (0, .methodref 18 31), (0, .nameAndType 32 33), (0, u "expect"), (0, u "(B)C"), (0, .methodref 25 35), (0, .nameAndType 36 37), (0, u "length"), (0, u "()I"), (0, .methodref 18 39), (0, .nameAndType 40 41), (0, u "at"), (0, u "(Ljava/lang/String;[BII)Z"), (2, u "law"), (0, u "(II)Z")] 5

def k1m0 : Method := { name := "<init>", desc := "()V", sig := { parameters := [], returnType := none }, accessFlags := 2, code := none }
def k1c1 : Code := { maxStack := 4, maxLocals := 7, code := code, exceptionTable := #[], attributes := #[] }
def k1m1 : Method := { name := "law", desc := "(II)Z", sig := { parameters := [.int, .int], returnType := some .boolean }, accessFlags := 9, code := some k1c1 }
def k1c2 : Code := { maxStack := 2, maxLocals := 2, code := method_3_code, exceptionTable := #[], attributes := #[] }
def k1m2 : Method := { name := "expect", desc := "(B)C", sig := { parameters := [.byte], returnType := some .char }, accessFlags := 10, code := some k1c2 }
def k1c3 : Code := { maxStack := 3, maxLocals := 4, code := method_4_code, exceptionTable := #[], attributes := #[] }
def k1m3 : Method := { name := "at", desc := "(Ljava/lang/String;[BII)Z", sig := { parameters := [(.object "java/lang/String"), (.array .byte), .int, .int], returnType := some .boolean }, accessFlags := 10, code := some k1c3 }
def k1c4 : Code := { maxStack := 4, maxLocals := 3, code := method_5_code, exceptionTable := #[], attributes := #[] }
def k1m4 : Method := { name := "matches", desc := "(Ljava/lang/String;[BI)Z", sig := { parameters := [(.object "java/lang/String"), (.array .byte), .int], returnType := some .boolean }, accessFlags := 10, code := some k1c4 }
/-- com/example/annotree/annotree/tree/SingleByteDecoderWithoutIndexPinLaw -/
def k1 : Class := { plain "com/example/annotree/annotree/tree/SingleByteDecoderWithoutIndexPinLaw" (some 0) with
  accessFlags := 49
  interfaces := #[]
  cf := some (fileOf pool1 18 #[] #[{ accessFlags := 2, nameIndex := 5, descriptorIndex := 6, attributes := #[] }, { accessFlags := 9, nameIndex := 44, descriptorIndex := 45, attributes := #[] }, { accessFlags := 10, nameIndex := 32, descriptorIndex := 33, attributes := #[] }, { accessFlags := 10, nameIndex := 40, descriptorIndex := 41, attributes := #[] }, { accessFlags := 10, nameIndex := 21, descriptorIndex := 22, attributes := #[] }] 49 2 #[] #[])
  fields := #[]
  methods := #[k1m0, k1m1, k1m2, k1m3, k1m4]
  instanceTypes := #[]
  staticTypes := #[]
  resolved := Array.replicate 51 none
  statics := none }

def pool2 : Array CpInfo := pool [(1, .class_ 2), (0, u "com/example/annotree/annotree/tree/Encoding$Decoder"), (0, .class_ 4), (0, u "java/lang/Object"), (7, .class_ 13), (0, u "com/example/annotree/annotree/tree/Encoding")] 2

/-- com/example/annotree/annotree/tree/Encoding$Decoder -/
def k2 : Class := { plain "com/example/annotree/annotree/tree/Encoding$Decoder" (some 0) with
  accessFlags := 1536
  interfaces := #[]
  cf := some (fileOf pool2 1 #[.nestHost 12] #[] 1536 3 #[] #[])
  fields := #[]
  methods := #[]
  instanceTypes := #[]
  staticTypes := #[]
  resolved := Array.replicate 16 none
  statics := none }

def pool3 : Array CpInfo := pool [(1, .methodref 2 3), (0, .class_ 4), (0, .nameAndType 5 6), (0, u "java/lang/Object"), (0, u "<init>"), (0, u "()V"), (0, .fieldref 8 9), (0, .class_ 10), (0, .nameAndType 11 12), (0, u "com/example/annotree/annotree/tree/SingleByteDecoder"), (0, u "charset"), (0, u "Ljava/lang/String;"), (0, .fieldref 8 14), (0, .nameAndType 15 16), (0, u "c1Controls"), (0, u "Z"), (0, .fieldref 8 18), (0, .nameAndType 19 20), (0, u "corrections"), (0, u "[I"), (0, .methodref 8 22), (0, .nameAndType 5 23), (0, u "(Ljava/lang/String;Z[I)V"), (0, .methodref 8 25), (0, .nameAndType 26 27), (0, u "index"), (0, u "()Lcom/example/annotree/annotree/tree/Index;"), (0, .class_ 29), (0, u "java/lang/StringBuilder"), (0, .methodref 28 31), (0, .nameAndType 5 32), (0, u "(I)V"), (0, .methodref 28 34), (0, .nameAndType 35 36), (0, u "append"), (0, u "(C)Ljava/lang/StringBuilder;"), (0, .methodref 38 39), (0, .class_ 40), (0, .nameAndType 41 42), (0, u "com/example/annotree/annotree/tree/Index"), (0, u "codePoint"), (0, u "(I)I"), (2, .integer 65533), (0, .methodref 28 47), (0, .nameAndType 48 49), (0, u "toString"), (0, u "()Ljava/lang/String;"), (0, .fieldref 8 51), (0, .nameAndType 26 52), (0, u "Lcom/example/annotree/annotree/tree/Index;"), (0, .methodref 38 54), (0, .nameAndType 55 56), (0, u "empty"), (0, u "(I)Lcom/example/annotree/annotree/tree/Index;"), (12, .class_ 70), (0, u "com/example/annotree/annotree/tree/Encoding$Decoder"), (0, u "POINTERS"), (0, u "I"), (2, u "C1_POINTERS"), (6, u "withoutIndex"), (0, u "()Lcom/example/annotree/annotree/tree/SingleByteDecoder;"), (0, u "decode"), (0, u "([BI)Ljava/lang/String;")] 28

def k3c0 : Code := { maxStack := 2, maxLocals := 4, code := prog_33_method_1_code, exceptionTable := #[], attributes := #[] }
def k3m0 : Method := { name := "<init>", desc := "(Ljava/lang/String;Z[I)V", sig := { parameters := [(.object "java/lang/String"), .boolean, (.array .int)], returnType := none }, accessFlags := 130, code := some k3c0 }
def k3c1 : Code := { maxStack := 5, maxLocals := 0, code := prog_33_method_4_code, exceptionTable := #[], attributes := #[] }
def k3m1 : Method := { name := "withoutIndex", desc := "()Lcom/example/annotree/annotree/tree/SingleByteDecoder;", sig := { parameters := [], returnType := some (.object "com/example/annotree/annotree/tree/SingleByteDecoder") }, accessFlags := 8, code := some k3c1 }
def k3c2 : Code := { maxStack := 4, maxLocals := 8, code := prog_33_method_5_code, exceptionTable := #[], attributes := #[] }
def k3m2 : Method := { name := "decode", desc := "([BI)Ljava/lang/String;", sig := { parameters := [(.array .byte), .int], returnType := some (.object "java/lang/String") }, accessFlags := 1, code := some k3c2 }
def k3c3 : Code := { maxStack := 7, maxLocals := 2, code := ⟨#[0x2a, 0xb4, 0x00, 0x32, 0xc6, 0x00, 0x08, 0x2a, 0xb4, 0x00, 0x32, 0xb0, 0x2a, 0xb4, 0x00, 0x07, 0xc7, 0x00, 0x12, 0x2a, 0x11, 0x00, 0x80, 0xb8, 0x00, 0x35, 0xb5, 0x00, 0x32, 0x2a, 0xb4, 0x00, 0x32, 0xb0, 0x2a, 0x2a, 0xb4, 0x00, 0x07, 0x11, 0x00, 0x80, 0xba, 0x00, 0x39, 0x00, 0x00, 0xb8, 0x00, 0x3d, 0xb5, 0x00, 0x32, 0x2a, 0xb4, 0x00, 0x0d, 0x99, 0x00, 0x34, 0x03, 0x3c, 0x1b, 0x10, 0x20, 0xa2, 0x00, 0x2c, 0x2a, 0xb4, 0x00, 0x32, 0x1b, 0xb6, 0x00, 0x25, 0x02, 0xa0, 0x00, 0x1a, 0x2a, 0xb4, 0x00, 0x32, 0x05, 0xbc, 0x0a, 0x59, 0x03, 0x1b, 0x4f, 0x59, 0x04, 0x1b, 0x11, 0x00, 0x80, 0x60, 0x4f, 0xb6, 0x00, 0x41, 0x57, 0x84, 0x01, 0x01, 0xa7, 0xff, 0xd4, 0x03, 0x3c, 0x1b, 0x2a, 0xb4, 0x00, 0x11, 0xbe, 0xa2, 0x00, 0x2c, 0x2a, 0xb4, 0x00, 0x32, 0x05, 0xbc, 0x0a, 0x59, 0x03, 0x2a, 0xb4, 0x00, 0x11, 0x1b, 0x2e, 0x11, 0x00, 0x80, 0x64, 0x4f, 0x59, 0x04, 0x2a, 0xb4, 0x00, 0x11, 0x1b, 0x04, 0x60, 0x2e, 0x4f, 0xb6, 0x00, 0x41, 0x57, 0x84, 0x01, 0x02, 0xa7, 0xff, 0xd1, 0x2a, 0xb4, 0x00, 0x32, 0xb0]⟩, exceptionTable := #[], attributes := #[] }
def k3m3 : Method := { name := "index", desc := "()Lcom/example/annotree/annotree/tree/Index;", sig := { parameters := [], returnType := some (.object "com/example/annotree/annotree/tree/Index") }, accessFlags := 34, code := some k3c3 }
/-- com/example/annotree/annotree/tree/SingleByteDecoder -/
def k3 : Class := { plain "com/example/annotree/annotree/tree/SingleByteDecoder" (some 0) with
  accessFlags := 48
  interfaces := #[2]
  cf := some (fileOf pool3 8 #[] #[{ accessFlags := 130, nameIndex := 5, descriptorIndex := 23, attributes := #[] }, { accessFlags := 8, nameIndex := 82, descriptorIndex := 83, attributes := #[] }, { accessFlags := 1, nameIndex := 84, descriptorIndex := 85, attributes := #[] }, { accessFlags := 34, nameIndex := 26, descriptorIndex := 27, attributes := #[] }] 48 2 #[69] #[{ accessFlags := 26, nameIndex := 71, descriptorIndex := 72, attributes := #[] }, { accessFlags := 26, nameIndex := 75, descriptorIndex := 72, attributes := #[] }, { accessFlags := 18, nameIndex := 11, descriptorIndex := 12, attributes := #[] }, { accessFlags := 18, nameIndex := 15, descriptorIndex := 16, attributes := #[] }, { accessFlags := 18, nameIndex := 19, descriptorIndex := 20, attributes := #[] }, { accessFlags := 2, nameIndex := 26, descriptorIndex := 52, attributes := #[] }])
  fields := #[{ name := "POINTERS", type := .int, accessFlags := 26, slot := 0, constantValue := 0 }, { name := "C1_POINTERS", type := .int, accessFlags := 26, slot := 1, constantValue := 0 }, { name := "charset", type := (.object "java/lang/String"), accessFlags := 18, slot := 0, constantValue := 0 }, { name := "c1Controls", type := .boolean, accessFlags := 18, slot := 1, constantValue := 0 }, { name := "corrections", type := (.array .int), accessFlags := 18, slot := 2, constantValue := 0 }, { name := "index", type := (.object "com/example/annotree/annotree/tree/Index"), accessFlags := 2, slot := 3, constantValue := 0 }]
  methods := #[k3m0, k3m1, k3m2, k3m3]
  instanceTypes := #[(.object "java/lang/String"), .boolean, (.array .int), (.object "com/example/annotree/annotree/tree/Index")]
  staticTypes := #[.int, .int]
  resolved := Array.replicate 114 none
  statics := none }

def pool4 : Array CpInfo := pool [(1, .methodref 2 3), (0, .class_ 4), (0, .nameAndType 5 6), (0, u "java/lang/Object"), (0, u "<init>"), (0, u "()V"), (0, .fieldref 8 9), (0, .class_ 10), (0, .nameAndType 11 12), (0, u "com/example/annotree/annotree/tree/Index"), (0, u "codePoints"), (0, u "[I"), (0, .methodref 14 15), (0, .class_ 16), (0, .nameAndType 17 18), (0, u "java/util/Arrays"), (0, u "fill"), (0, u "([II)V"), (0, .methodref 8 20), (0, .nameAndType 5 21), (0, u "(I)V"), (90, u "NONE"), (0, u "I"), (4, u "empty"), (0, u "(I)Lcom/example/annotree/annotree/tree/Index;"), (10, u "codePoint"), (0, u "(I)I")] 2

def k4c0 : Code := { maxStack := 2, maxLocals := 2, code := prog_25_method_1_code, exceptionTable := #[], attributes := #[] }
def k4m0 : Method := { name := "<init>", desc := "(I)V", sig := { parameters := [.int], returnType := none }, accessFlags := 2, code := some k4c0 }
def k4c1 : Code := { maxStack := 3, maxLocals := 1, code := prog_25_method_2_code, exceptionTable := #[], attributes := #[] }
def k4m1 : Method := { name := "empty", desc := "(I)Lcom/example/annotree/annotree/tree/Index;", sig := { parameters := [.int], returnType := some (.object "com/example/annotree/annotree/tree/Index") }, accessFlags := 8, code := some k4c1 }
def k4c2 : Code := { maxStack := 2, maxLocals := 2, code := prog_25_method_7_code, exceptionTable := #[], attributes := #[] }
def k4m2 : Method := { name := "codePoint", desc := "(I)I", sig := { parameters := [.int], returnType := some .int }, accessFlags := 0, code := some k4c2 }
/-- com/example/annotree/annotree/tree/Index -/
def k4 : Class := { plain "com/example/annotree/annotree/tree/Index" (some 0) with
  accessFlags := 48
  interfaces := #[]
  cf := some (fileOf pool4 8 #[] #[{ accessFlags := 2, nameIndex := 5, descriptorIndex := 21, attributes := #[] }, { accessFlags := 8, nameIndex := 118, descriptorIndex := 119, attributes := #[] }, { accessFlags := 0, nameIndex := 130, descriptorIndex := 131, attributes := #[] }] 48 2 #[] #[{ accessFlags := 24, nameIndex := 112, descriptorIndex := 113, attributes := #[] }, { accessFlags := 18, nameIndex := 11, descriptorIndex := 12, attributes := #[] }])
  fields := #[{ name := "NONE", type := .int, accessFlags := 24, slot := 0, constantValue := 0 }, { name := "codePoints", type := (.array .int), accessFlags := 18, slot := 0, constantValue := 0 }]
  methods := #[k4m0, k4m1, k4m2]
  instanceTypes := #[(.array .int)]
  staticTypes := #[.int]
  resolved := Array.replicate 134 none
  statics := none }

def pool5 : Array CpInfo := pool [(2, .class_ 4), (1, u "java/lang/Object"), (0, u "<init>"), (0, u "()V"), (7, .class_ 16), (1, u "java/util/Arrays"), (57, .class_ 76), (1, u "java/util/Arrays$NaturalOrder"), (32, u "()Ljava/lang/Object;"), (3, .class_ 115), (1, u "java/util/Arrays$LegacyMergeSort"), (1, u "Z"), (10, .nameAndType 129 109), (0, u "clone"), (9, u "copyOfRange"), (170, .methodref 311 128), (0, .class_ 312), (0, u "[B"), (29, u "([BII)[B"), (32, .class_ 376), (0, u "java/util/Arrays$ArrayList"), (68, u "$assertionsDisabled"), (269, u "MIN_ARRAY_SORT_GRAN"), (0, u "I"), (2, u "INSERTIONSORT_THRESHOLD"), (120, u "fill"), (4, u "([II)V"), (129, .class_ 976), (0, u "java/util/Arrays$ArrayItr")] 52

def k5m0 : Method := { name := "<init>", desc := "()V", sig := { parameters := [], returnType := none }, accessFlags := 2, code := none }
def k5c1 : Code := { maxStack := 3, maxLocals := 4, code := jdk_65_method_103_code, exceptionTable := #[], attributes := #[] }
def k5m1 : Method := { name := "fill", desc := "([II)V", sig := { parameters := [(.array .int), .int], returnType := none }, accessFlags := 9, code := some k5c1 }
def k5c2 : Code := { maxStack := 3, maxLocals := 3, code := jdk_65_method_132_code, exceptionTable := #[], attributes := #[] }
def k5m2 : Method := { name := "copyOfRange", desc := "([BII)[B", sig := { parameters := [(.array .byte), .int, .int], returnType := some (.array .byte) }, accessFlags := 9, code := some k5c2 }
/-- java/util/Arrays -/
def k5 : Class := { plain "java/util/Arrays" (some 0) with
  accessFlags := 49
  interfaces := #[]
  cf := some (fileOf pool5 14 #[.nestMembers #[975, 375, 113, 74]] #[{ accessFlags := 2, nameIndex := 5, descriptorIndex := 6, attributes := #[] }, { accessFlags := 9, nameIndex := 840, descriptorIndex := 845, attributes := #[] }, { accessFlags := 9, nameIndex := 139, descriptorIndex := 342, attributes := #[] }] 49 2 #[] #[{ accessFlags := 26, nameIndex := 715, descriptorIndex := 716, attributes := #[] }, { accessFlags := 26, nameIndex := 719, descriptorIndex := 716, attributes := #[] }, { accessFlags := 4120, nameIndex := 445, descriptorIndex := 117, attributes := #[] }])
  fields := #[{ name := "MIN_ARRAY_SORT_GRAN", type := .int, accessFlags := 26, slot := 0, constantValue := 0 }, { name := "INSERTIONSORT_THRESHOLD", type := .int, accessFlags := 26, slot := 1, constantValue := 0 }, { name := "$assertionsDisabled", type := .boolean, accessFlags := 4120, slot := 2, constantValue := 0 }]
  methods := #[k5m0, k5m1, k5m2]
  instanceTypes := #[]
  staticTypes := #[.int, .int, .boolean]
  resolved := Array.replicate 1029 none
  statics := none }

def pool6 : Array CpInfo := pool [(1, .class_ 2), (0, u "java/lang/Appendable"), (0, .class_ 4), (0, u "java/lang/Object")] 9

/-- java/lang/Appendable -/
def k6 : Class := { plain "java/lang/Appendable" (some 0) with
  accessFlags := 1537
  interfaces := #[]
  cf := some (fileOf pool6 1 #[] #[] 1537 3 #[] #[])
  fields := #[]
  methods := #[]
  instanceTypes := #[]
  staticTypes := #[]
  resolved := Array.replicate 14 none
  statics := none }

def pool7 : Array CpInfo := pool [(2, .class_ 4), (1, u "java/lang/CharSequence"), (42, .class_ 48), (0, u "java/lang/CharSequence$1CodePointIterator"), (10, .class_ 60), (0, u "java/lang/CharSequence$1CharIterator"), (5, .class_ 67), (0, u "java/lang/Object")] 63

/-- java/lang/CharSequence -/
def k7 : Class := { plain "java/lang/CharSequence" (some 0) with
  accessFlags := 1537
  interfaces := #[]
  cf := some (fileOf pool7 2 #[.nestMembers #[47, 59]] #[] 1537 66 #[] #[])
  fields := #[]
  methods := #[]
  instanceTypes := #[]
  staticTypes := #[]
  resolved := Array.replicate 131 none
  statics := none }

def pool8 : Array CpInfo := pool [(1, .class_ 2), (0, u "java/lang/String"), (0, .methodref 4 5), (0, .class_ 6), (0, .nameAndType 7 8), (0, u "java/lang/Object"), (0, u "<init>"), (0, u "()V"), (1, .class_ 12), (1, u "java/lang/AbstractStringBuilder"), (0, u "EMPTYVALUE"), (0, u "[B"), (0, .fieldref 10 16), (0, .nameAndType 17 14), (0, u "value"), (0, .fieldref 1 19), (0, .nameAndType 20 21), (0, u "COMPACT_STRINGS"), (0, u "Z"), (0, .fieldref 10 23), (0, .nameAndType 24 25), (0, u "coder"), (0, u "B"), (0, .methodref 27 28), (0, .class_ 29), (0, .nameAndType 30 31), (0, u "java/lang/StringUTF16"), (0, u "newBytesFor"), (0, u "(I)[B"), (2, u "length"), (0, u "()I"), (9, u "append"), (2, .class_ 49), (0, u "java/lang/CharSequence"), (25, u "maybeLatin1"), (3, .fieldref 10 80), (0, .nameAndType 81 82), (0, u "count"), (0, u "I"), (0, .methodref 10 84), (0, .nameAndType 85 86), (0, u "isLatin1"), (0, u "()Z"), (1, .class_ 90), (1, u "java/lang/StringLatin1"), (9, .methodref 10 101), (0, .nameAndType 102 103), (0, u "ensureCapacityInternal"), (0, u "(I)V"), (21, .methodref 88 126), (0, .nameAndType 127 128), (0, u "inflate"), (0, u "([BI[BII)V"), (7, u "([BII)V"), (54, .methodref 88 192), (0, .nameAndType 193 194), (0, u "canEncode"), (0, u "(C)Z"), (0, .methodref 10 196), (0, .nameAndType 127 8), (0, .methodref 27 198), (0, .nameAndType 199 136), (0, u "putCharSB"), (92, u "(C)Ljava/lang/AbstractStringBuilder;"), (110, u "()[B"), (40, .class_ 445), (0, u "java/lang/Appendable"), (106, u "getValue")] 56

def k8m0 : Method := { name := "<init>", desc := "()V", sig := { parameters := [], returnType := none }, accessFlags := 0, code := none }
def k8c1 : Code := { maxStack := 2, maxLocals := 2, code := jdk_68_method_2_code, exceptionTable := #[], attributes := #[] }
def k8m1 : Method := { name := "<init>", desc := "(I)V", sig := { parameters := [.int], returnType := none }, accessFlags := 0, code := some k8c1 }
def k8c2 : Code := { maxStack := 1, maxLocals := 1, code := jdk_68_method_6_code, exceptionTable := #[], attributes := #[] }
def k8m2 : Method := { name := "length", desc := "()I", sig := { parameters := [], returnType := some .int }, accessFlags := 1, code := some k8c2 }
def k8c3 : Code := { maxStack := 4, maxLocals := 3, code := jdk_68_method_9_code, exceptionTable := #[], attributes := #[] }
def k8m3 : Method := { name := "ensureCapacityInternal", desc := "(I)V", sig := { parameters := [.int], returnType := none }, accessFlags := 2, code := some k8c3 }
def k8c4 : Code := { maxStack := 5, maxLocals := 2, code := jdk_68_method_11_code, exceptionTable := #[], attributes := #[] }
def k8m4 : Method := { name := "inflate", desc := "()V", sig := { parameters := [], returnType := none }, accessFlags := 2, code := some k8c4 }
def k8c5 : Code := { maxStack := 5, maxLocals := 2, code := jdk_68_method_31_code, exceptionTable := #[], attributes := #[] }
def k8m5 : Method := { name := "append", desc := "(C)Ljava/lang/AbstractStringBuilder;", sig := { parameters := [.char], returnType := some (.object "java/lang/AbstractStringBuilder") }, accessFlags := 1, code := some k8c5 }
def k8c6 : Code := { maxStack := 1, maxLocals := 1, code := jdk_68_method_64_code, exceptionTable := #[], attributes := #[] }
def k8m6 : Method := { name := "getValue", desc := "()[B", sig := { parameters := [], returnType := some (.array .byte) }, accessFlags := 16, code := some k8c6 }
def k8c7 : Code := { maxStack := 1, maxLocals := 1, code := jdk_68_method_68_code, exceptionTable := #[], attributes := #[] }
def k8m7 : Method := { name := "isLatin1", desc := "()Z", sig := { parameters := [], returnType := some .boolean }, accessFlags := 16, code := some k8c7 }
/-- java/lang/AbstractStringBuilder -/
def k8 : Class := { plain "java/lang/AbstractStringBuilder" (some 0) with
  accessFlags := 1056
  interfaces := #[6, 7]
  cf := some (fileOf pool8 10 #[] #[{ accessFlags := 0, nameIndex := 7, descriptorIndex := 8, attributes := #[] }, { accessFlags := 0, nameIndex := 7, descriptorIndex := 103, attributes := #[] }, { accessFlags := 1, nameIndex := 34, descriptorIndex := 35, attributes := #[] }, { accessFlags := 2, nameIndex := 102, descriptorIndex := 103, attributes := #[] }, { accessFlags := 2, nameIndex := 127, descriptorIndex := 8, attributes := #[] }, { accessFlags := 1, nameIndex := 45, descriptorIndex := 292, attributes := #[] }, { accessFlags := 16, nameIndex := 552, descriptorIndex := 403, attributes := #[] }, { accessFlags := 16, nameIndex := 85, descriptorIndex := 86, attributes := #[] }] 1056 4 #[444, 48] #[{ accessFlags := 0, nameIndex := 17, descriptorIndex := 14, attributes := #[] }, { accessFlags := 0, nameIndex := 24, descriptorIndex := 25, attributes := #[] }, { accessFlags := 0, nameIndex := 75, descriptorIndex := 21, attributes := #[] }, { accessFlags := 0, nameIndex := 81, descriptorIndex := 82, attributes := #[] }, { accessFlags := 26, nameIndex := 13, descriptorIndex := 14, attributes := #[] }])
  fields := #[{ name := "value", type := (.array .byte), accessFlags := 0, slot := 0, constantValue := 0 }, { name := "coder", type := .byte, accessFlags := 0, slot := 1, constantValue := 0 }, { name := "maybeLatin1", type := .boolean, accessFlags := 0, slot := 2, constantValue := 0 }, { name := "count", type := .int, accessFlags := 0, slot := 3, constantValue := 0 }, { name := "EMPTYVALUE", type := (.array .byte), accessFlags := 26, slot := 0, constantValue := 0 }]
  methods := #[k8m0, k8m1, k8m2, k8m3, k8m4, k8m5, k8m6, k8m7]
  instanceTypes := #[(.array .byte), .byte, .boolean, .int]
  staticTypes := #[(.array .byte)]
  resolved := Array.replicate 609 none
  statics := none }

def pool9 : Array CpInfo := pool [(1, .class_ 2), (0, u "java/io/Serializable"), (0, .class_ 4), (0, u "java/lang/Object")] 2

/-- java/io/Serializable -/
def k9 : Class := { plain "java/io/Serializable" (some 0) with
  accessFlags := 1537
  interfaces := #[]
  cf := some (fileOf pool9 1 #[] #[] 1537 3 #[] #[])
  fields := #[]
  methods := #[]
  instanceTypes := #[]
  staticTypes := #[]
  resolved := Array.replicate 7 none
  statics := none }

def pool10 : Array CpInfo := pool [(1, .class_ 2), (0, u "java/lang/Comparable"), (0, .class_ 4), (0, u "java/lang/Object")] 7

/-- java/lang/Comparable -/
def k10 : Class := { plain "java/lang/Comparable" (some 0) with
  accessFlags := 1537
  interfaces := #[]
  cf := some (fileOf pool10 1 #[] #[] 1537 3 #[] #[])
  fields := #[]
  methods := #[]
  instanceTypes := #[]
  staticTypes := #[]
  resolved := Array.replicate 12 none
  statics := none }

def pool11 : Array CpInfo := pool [(1, .methodref 2 3), (0, .class_ 4), (0, .nameAndType 5 6), (0, u "java/lang/AbstractStringBuilder"), (0, u "<init>"), (0, u "(I)V"), (11, .class_ 20), (1, u "java/lang/String"), (3, .class_ 26), (1, u "java/lang/StringBuilder"), (0, u "append"), (22, .methodref 2 51), (0, .nameAndType 27 52), (0, u "(C)Ljava/lang/AbstractStringBuilder;"), (84, .methodref 18 138), (0, .nameAndType 5 139), (0, u "(Ljava/lang/StringBuilder;)V"), (5, u "()V"), (10, u "()I"), (129, u "(C)Ljava/lang/StringBuilder;"), (56, .methodref 2 344), (0, .nameAndType 345 156), (0, u "length"), (3, .class_ 350), (0, u "java/lang/Appendable"), (0, .class_ 352), (0, u "java/io/Serializable"), (0, .class_ 354), (0, u "java/lang/Comparable"), (0, .class_ 356), (0, u "java/lang/CharSequence"), (0, u "serialVersionUID"), (0, u "J"), (40, u "toString"), (0, u "()Ljava/lang/String;")] 21

def k11m0 : Method := { name := "<init>", desc := "()V", sig := { parameters := [], returnType := none }, accessFlags := 1, code := none }
def k11c1 : Code := { maxStack := 2, maxLocals := 2, code := jdk_67_method_2_code, exceptionTable := #[], attributes := #[] }
def k11m1 : Method := { name := "<init>", desc := "(I)V", sig := { parameters := [.int], returnType := none }, accessFlags := 1, code := some k11c1 }
def k11c2 : Code := { maxStack := 2, maxLocals := 2, code := jdk_67_method_14_code, exceptionTable := #[], attributes := #[] }
def k11m2 : Method := { name := "append", desc := "(C)Ljava/lang/StringBuilder;", sig := { parameters := [.char], returnType := some (.object "java/lang/StringBuilder") }, accessFlags := 1, code := some k11c2 }
def k11c3 : Code := { maxStack := 3, maxLocals := 1, code := jdk_67_method_42_code, exceptionTable := #[], attributes := #[] }
def k11m3 : Method := { name := "toString", desc := "()Ljava/lang/String;", sig := { parameters := [], returnType := some (.object "java/lang/String") }, accessFlags := 1, code := some k11c3 }
def k11c4 : Code := { maxStack := 1, maxLocals := 1, code := jdk_67_method_93_code, exceptionTable := #[], attributes := #[] }
def k11m4 : Method := { name := "length", desc := "()I", sig := { parameters := [], returnType := some .int }, accessFlags := 4161, code := some k11c4 }
/-- java/lang/StringBuilder -/
def k11 : Class := { plain "java/lang/StringBuilder" (some 8) with
  accessFlags := 49
  interfaces := #[6, 9, 10, 7]
  cf := some (fileOf pool11 24 #[] #[{ accessFlags := 1, nameIndex := 5, descriptorIndex := 145, attributes := #[] }, { accessFlags := 1, nameIndex := 5, descriptorIndex := 6, attributes := #[] }, { accessFlags := 1, nameIndex := 27, descriptorIndex := 286, attributes := #[] }, { accessFlags := 1, nameIndex := 399, descriptorIndex := 400, attributes := #[] }, { accessFlags := 4161, nameIndex := 345, descriptorIndex := 156, attributes := #[] }] 49 2 #[349, 351, 353, 355] #[{ accessFlags := 24, nameIndex := 357, descriptorIndex := 358, attributes := #[] }])
  fields := #[{ name := "serialVersionUID", type := .long, accessFlags := 24, slot := 0, constantValue := 0 }]
  methods := #[k11m0, k11m1, k11m2, k11m3, k11m4]
  instanceTypes := #[(.array .byte), .byte, .boolean, .int]
  staticTypes := #[.long]
  resolved := Array.replicate 422 none
  statics := none }

def pool12 : Array CpInfo := pool [(1, .class_ 2), (0, u "java/lang/constant/Constable"), (0, .class_ 4), (0, u "java/lang/Object")] 6

/-- java/lang/constant/Constable -/
def k12 : Class := { plain "java/lang/constant/Constable" (some 0) with
  accessFlags := 1537
  interfaces := #[]
  cf := some (fileOf pool12 1 #[] #[] 1537 3 #[] #[])
  fields := #[]
  methods := #[]
  instanceTypes := #[]
  staticTypes := #[]
  resolved := Array.replicate 11 none
  statics := none }

def pool13 : Array CpInfo := pool [(1, .class_ 2), (0, u "java/lang/constant/ConstantDesc"), (0, .class_ 4), (0, u "java/lang/Object")] 32

/-- java/lang/constant/ConstantDesc -/
def k13 : Class := { plain "java/lang/constant/ConstantDesc" (some 0) with
  accessFlags := 1537
  interfaces := #[]
  cf := some (fileOf pool13 1 #[] #[] 1537 3 #[] #[])
  fields := #[]
  methods := #[]
  instanceTypes := #[]
  staticTypes := #[]
  resolved := Array.replicate 37 none
  statics := none }

def pool14 : Array CpInfo := pool [(1, .methodref 2 3), (0, .class_ 4), (0, .nameAndType 5 6), (0, u "java/lang/Object"), (0, u "<init>"), (0, u "()V"), (2, .fieldref 10 11), (0, .class_ 12), (0, .nameAndType 13 14), (0, u "java/lang/String"), (0, u "value"), (0, u "[B"), (0, .fieldref 10 16), (0, .nameAndType 17 18), (0, u "coder"), (0, u "B"), (2, u "hash"), (0, u "I"), (2, u "hashIsZero"), (0, u "Z"), (9, u "checkBoundsOffCount"), (0, u "(III)I"), (0, .fieldref 10 39), (0, .nameAndType 40 26), (0, u "COMPACT_STRINGS"), (1, .class_ 44), (1, u "java/lang/StringUTF16"), (9, .methodref 55 56), (0, .class_ 57), (0, .nameAndType 58 59), (0, u "java/util/Arrays"), (0, u "copyOfRange"), (0, u "([BII)[B"), (47, .class_ 109), (1, u "java/lang/StringLatin1"), (32, u "()Z"), (191, u "()I"), (0, .methodref 10 336), (0, .nameAndType 17 337), (0, u "()B"), (2, u "()[B"), (22, u "([BI)C"), (27, u "(II)V"), (35, u "(I)C"), (61, .methodref 10 490), (0, .nameAndType 5 491), (0, u "(Ljava/lang/AbstractStringBuilder;Ljava/lang/Void;)V"), (0, .methodref 10 493), (0, .nameAndType 494 142), (0, u "isLatin1"), (0, .methodref 107 496), (0, .nameAndType 497 363), (0, u "charAt"), (0, .methodref 42 496), (2, u "checkIndex"), (4, .nameAndType 507 334), (0, u "length"), (41, .methodref 550 506), (0, .class_ 551), (0, u "java/lang/AbstractStringBuilder"), (0, .methodref 550 553), (0, .nameAndType 554 340), (0, u "getValue"), (20, .class_ 576), (0, u "java/lang/CharSequence"), (22, u "CASE_INSENSITIVE_ORDER"), (0, u "Ljava/util/Comparator;"), (446, .methodref 550 493), (0, .fieldref 550 1049), (0, .nameAndType 1050 26), (0, u "maybeLatin1"), (2, .fieldref 1054 1055), (0, .class_ 1056), (0, .nameAndType 1057 1058), (0, u "jdk/internal/util/Preconditions"), (0, u "SIOOBE_FORMATTER"), (0, u "Ljava/util/function/BiFunction;"), (0, .methodref 1054 1060), (0, .nameAndType 501 1061), (0, u "(IILjava/util/function/BiFunction;)I"), (2, u "(IIILjava/util/function/BiFunction;)I"), (0, .methodref 1054 1066), (0, .nameAndType 1067 1064), (0, u "checkFromIndexSize"), (33, u "serialPersistentFields"), (0, u "[Ljava/io/ObjectStreamField;"), (0, .class_ 1104), (0, u "java/lang/String$CaseInsensitiveComparator"), (1, .class_ 1107), (0, u "java/io/Serializable"), (0, .class_ 1109), (0, u "java/lang/Comparable"), (0, .class_ 1111), (0, u "java/lang/constant/Constable"), (0, .class_ 1113), (0, u "java/lang/constant/ConstantDesc"), (2, u "serialVersionUID"), (0, u "J"), (3, u "REPL"), (0, u "C"), (2, u "LATIN1"), (1, u "UTF16"), (105, u "(Ljava/lang/StringBuilder;)V")] 217

def k14m0 : Method := { name := "<init>", desc := "()V", sig := { parameters := [], returnType := none }, accessFlags := 1, code := none }
def k14c1 : Code := { maxStack := 3, maxLocals := 2, code := jdk_42_method_53_code, exceptionTable := #[], attributes := #[] }
def k14m1 : Method := { name := "<init>", desc := "(Ljava/lang/StringBuilder;)V", sig := { parameters := [(.object "java/lang/StringBuilder")], returnType := none }, accessFlags := 1, code := some k14c1 }
def k14c2 : Code := { maxStack := 2, maxLocals := 1, code := jdk_42_method_54_code, exceptionTable := #[], attributes := #[] }
def k14m2 : Method := { name := "length", desc := "()I", sig := { parameters := [], returnType := some .int }, accessFlags := 1, code := some k14c2 }
def k14c3 : Code := { maxStack := 2, maxLocals := 2, code := jdk_42_method_56_code, exceptionTable := #[], attributes := #[] }
def k14m3 : Method := { name := "charAt", desc := "(I)C", sig := { parameters := [.int], returnType := some .char }, accessFlags := 1, code := some k14c3 }
def k14c4 : Code := { maxStack := 5, maxLocals := 5, code := jdk_42_method_150_code, exceptionTable := #[], attributes := #[] }
def k14m4 : Method := { name := "<init>", desc := "(Ljava/lang/AbstractStringBuilder;Ljava/lang/Void;)V", sig := { parameters := [(.object "java/lang/AbstractStringBuilder"), (.object "java/lang/Void")], returnType := none }, accessFlags := 0, code := some k14c4 }
def k14c5 : Code := { maxStack := 1, maxLocals := 1, code := jdk_42_method_152_code, exceptionTable := #[], attributes := #[] }
def k14m5 : Method := { name := "coder", desc := "()B", sig := { parameters := [], returnType := some .byte }, accessFlags := 0, code := some k14c5 }
def k14c6 : Code := { maxStack := 1, maxLocals := 1, code := jdk_42_method_154_code, exceptionTable := #[], attributes := #[] }
def k14m6 : Method := { name := "isLatin1", desc := "()Z", sig := { parameters := [], returnType := some .boolean }, accessFlags := 0, code := some k14c6 }
def k14c7 : Code := { maxStack := 3, maxLocals := 2, code := jdk_42_method_155_code, exceptionTable := #[], attributes := #[] }
def k14m7 : Method := { name := "checkIndex", desc := "(II)V", sig := { parameters := [.int, .int], returnType := none }, accessFlags := 8, code := some k14c7 }
def k14c8 : Code := { maxStack := 4, maxLocals := 3, code := jdk_42_method_157_code, exceptionTable := #[], attributes := #[] }
def k14m8 : Method := { name := "checkBoundsOffCount", desc := "(III)I", sig := { parameters := [.int, .int, .int], returnType := some .int }, accessFlags := 8, code := some k14c8 }
/-- java/lang/String -/
def k14 : Class := { plain "java/lang/String" (some 0) with
  accessFlags := 49
  interfaces := #[9, 10, 7, 12, 13]
  cf := some (fileOf pool14 10 #[.nestMembers #[1103]] #[{ accessFlags := 1, nameIndex := 5, descriptorIndex := 6, attributes := #[] }, { accessFlags := 1, nameIndex := 5, descriptorIndex := 1233, attributes := #[] }, { accessFlags := 1, nameIndex := 507, descriptorIndex := 334, attributes := #[] }, { accessFlags := 1, nameIndex := 497, descriptorIndex := 427, attributes := #[] }, { accessFlags := 0, nameIndex := 5, descriptorIndex := 491, attributes := #[] }, { accessFlags := 0, nameIndex := 17, descriptorIndex := 337, attributes := #[] }, { accessFlags := 0, nameIndex := 494, descriptorIndex := 142, attributes := #[] }, { accessFlags := 8, nameIndex := 501, descriptorIndex := 391, attributes := #[] }, { accessFlags := 8, nameIndex := 36, descriptorIndex := 37, attributes := #[] }] 49 2 #[1106, 1108, 575, 1110, 1112] #[{ accessFlags := 18, nameIndex := 13, descriptorIndex := 14, attributes := #[] }, { accessFlags := 18, nameIndex := 17, descriptorIndex := 18, attributes := #[] }, { accessFlags := 2, nameIndex := 21, descriptorIndex := 22, attributes := #[] }, { accessFlags := 2, nameIndex := 25, descriptorIndex := 26, attributes := #[] }, { accessFlags := 26, nameIndex := 1116, descriptorIndex := 1117, attributes := #[] }, { accessFlags := 24, nameIndex := 40, descriptorIndex := 26, attributes := #[] }, { accessFlags := 26, nameIndex := 1101, descriptorIndex := 1102, attributes := #[] }, { accessFlags := 26, nameIndex := 1121, descriptorIndex := 1122, attributes := #[] }, { accessFlags := 25, nameIndex := 599, descriptorIndex := 600, attributes := #[] }, { accessFlags := 24, nameIndex := 1125, descriptorIndex := 18, attributes := #[] }, { accessFlags := 24, nameIndex := 1127, descriptorIndex := 18, attributes := #[] }])
  fields := #[{ name := "value", type := (.array .byte), accessFlags := 18, slot := 0, constantValue := 0 }, { name := "coder", type := .byte, accessFlags := 18, slot := 1, constantValue := 0 }, { name := "hash", type := .int, accessFlags := 2, slot := 2, constantValue := 0 }, { name := "hashIsZero", type := .boolean, accessFlags := 2, slot := 3, constantValue := 0 }, { name := "serialVersionUID", type := .long, accessFlags := 26, slot := 0, constantValue := 0 }, { name := "COMPACT_STRINGS", type := .boolean, accessFlags := 24, slot := 1, constantValue := 0 }, { name := "serialPersistentFields", type := (.array (.object "java/io/ObjectStreamField")), accessFlags := 26, slot := 2, constantValue := 0 }, { name := "REPL", type := .char, accessFlags := 26, slot := 3, constantValue := 0 }, { name := "CASE_INSENSITIVE_ORDER", type := (.object "java/util/Comparator"), accessFlags := 25, slot := 4, constantValue := 0 }, { name := "LATIN1", type := .byte, accessFlags := 24, slot := 5, constantValue := 0 }, { name := "UTF16", type := .byte, accessFlags := 24, slot := 6, constantValue := 0 }]
  methods := #[k14m0, k14m1, k14m2, k14m3, k14m4, k14m5, k14m6, k14m7, k14m8]
  instanceTypes := #[(.array .byte), .byte, .int, .boolean]
  staticTypes := #[.long, .boolean, (.array (.object "java/io/ObjectStreamField")), .char, (.object "java/util/Comparator"), .byte, .byte]
  resolved := Array.replicate 1451 none
  statics := some 0 }

def pool15 : Array CpInfo := pool [(1, .class_ 2), (0, u "java/lang/String"), (1, .class_ 6), (1, u "java/lang/Object"), (0, u "<init>"), (0, u "()V"), (0, .methodref 1 10), (0, .nameAndType 11 12), (0, u "checkIndex"), (0, u "(II)V"), (1, .class_ 16), (1, u "java/lang/StringLatin1"), (0, u "inflate"), (2, .class_ 22), (1, u "java/lang/StringUTF16"), (3, .nameAndType 17 27), (0, u "([BI[BII)V"), (25, u "([BI)C"), (36, u "canEncode"), (14, u "(C)Z"), (15, u "$assertionsDisabled"), (0, u "Z"), (98, .class_ 223), (1, u "java/lang/StringLatin1$LinesSpliterator"), (16, .methodref 20 26), (11, u "charAt"), (137, .class_ 391), (0, u "java/lang/StringLatin1$CharsSpliterator")] 3

def k15m0 : Method := { name := "<init>", desc := "()V", sig := { parameters := [], returnType := none }, accessFlags := 0, code := none }
def k15c1 : Code := { maxStack := 2, maxLocals := 2, code := jdk_43_method_2_code, exceptionTable := #[], attributes := #[] }
def k15m1 : Method := { name := "charAt", desc := "([BI)C", sig := { parameters := [(.array .byte), .int], returnType := some .char }, accessFlags := 9, code := some k15c1 }
def k15c2 : Code := { maxStack := 2, maxLocals := 1, code := jdk_43_method_3_code, exceptionTable := #[], attributes := #[] }
def k15m2 : Method := { name := "canEncode", desc := "(C)Z", sig := { parameters := [.char], returnType := some .boolean }, accessFlags := 9, code := some k15c2 }
def k15c3 : Code := { maxStack := 5, maxLocals := 5, code := jdk_43_method_50_code, exceptionTable := #[], attributes := #[] }
def k15m3 : Method := { name := "inflate", desc := "([BI[BII)V", sig := { parameters := [(.array .byte), .int, (.array .byte), .int, .int], returnType := none }, accessFlags := 9, code := some k15c3 }
/-- java/lang/StringLatin1 -/
def k15 : Class := { plain "java/lang/StringLatin1" (some 0) with
  accessFlags := 48
  interfaces := #[]
  cf := some (fileOf pool15 14 #[.nestMembers #[390, 221]] #[{ accessFlags := 0, nameIndex := 7, descriptorIndex := 8, attributes := #[] }, { accessFlags := 9, nameIndex := 252, descriptorIndex := 53, attributes := #[] }, { accessFlags := 9, nameIndex := 90, descriptorIndex := 105, attributes := #[] }, { accessFlags := 9, nameIndex := 17, descriptorIndex := 27, attributes := #[] }] 48 4 #[] #[{ accessFlags := 4120, nameIndex := 121, descriptorIndex := 122, attributes := #[] }])
  fields := #[{ name := "$assertionsDisabled", type := .boolean, accessFlags := 4120, slot := 0, constantValue := 0 }]
  methods := #[k15m0, k15m1, k15m2, k15m3]
  instanceTypes := #[]
  staticTypes := #[.boolean]
  resolved := Array.replicate 395 none
  statics := none }

def pool16 : Array CpInfo := pool [(1, .class_ 2), (0, u "java/lang/Cloneable"), (0, .class_ 4), (0, u "java/lang/Object")] 2

/-- java/lang/Cloneable -/
def k16 : Class := { plain "java/lang/Cloneable" (some 0) with
  accessFlags := 1537
  interfaces := #[]
  cf := some (fileOf pool16 1 #[] #[] 1537 3 #[] #[])
  fields := #[]
  methods := #[]
  instanceTypes := #[]
  staticTypes := #[]
  resolved := Array.replicate 7 none
  statics := none }

def pool17 : Array CpInfo := pool [(2, .class_ 4), (1, u "java/lang/Object"), (0, u "<init>"), (0, u "()V"), (17, .class_ 26), (1, u "jdk/internal/util/Preconditions"), (6, u "checkIndex"), (15, u "checkFromIndexSize"), (5, .class_ 56), (0, u "jdk/internal/util/Preconditions$4"), (57, .class_ 115), (0, u "jdk/internal/util/Preconditions$1"), (7, u "SIOOBE_FORMATTER"), (0, u "Ljava/util/function/BiFunction;"), (0, .class_ 126), (0, u "jdk/internal/util/Preconditions$2"), (3, u "AIOOBE_FORMATTER"), (0, .class_ 132), (0, u "jdk/internal/util/Preconditions$3"), (3, u "IOOBE_FORMATTER"), (41, u "(IILjava/util/function/BiFunction;)I"), (4, u "(IIILjava/util/function/BiFunction;)I")] 10

def k17m0 : Method := { name := "<init>", desc := "()V", sig := { parameters := [], returnType := none }, accessFlags := 1, code := none }
def k17c1 : Code := { maxStack := 3, maxLocals := 3, code := jdk_41_method_11_code, exceptionTable := #[], attributes := #[] }
def k17m1 : Method := { name := "checkIndex", desc := "(IILjava/util/function/BiFunction;)I", sig := { parameters := [.int, .int, (.object "java/util/function/BiFunction")], returnType := some .int }, accessFlags := 9, code := some k17c1 }
def k17c2 : Code := { maxStack := 4, maxLocals := 4, code := jdk_41_method_13_code, exceptionTable := #[], attributes := #[] }
def k17m2 : Method := { name := "checkFromIndexSize", desc := "(IIILjava/util/function/BiFunction;)I", sig := { parameters := [.int, .int, .int, (.object "java/util/function/BiFunction")], returnType := some .int }, accessFlags := 9, code := some k17c2 }
/-- jdk/internal/util/Preconditions -/
def k17 : Class := { plain "jdk/internal/util/Preconditions" (some 0) with
  accessFlags := 33
  interfaces := #[]
  cf := some (fileOf pool17 24 #[.nestMembers #[55, 131, 125, 114]] #[{ accessFlags := 1, nameIndex := 5, descriptorIndex := 6, attributes := #[] }, { accessFlags := 9, nameIndex := 33, descriptorIndex := 178, attributes := #[] }, { accessFlags := 9, nameIndex := 49, descriptorIndex := 183, attributes := #[] }] 33 2 #[] #[{ accessFlags := 25, nameIndex := 123, descriptorIndex := 124, attributes := #[] }, { accessFlags := 25, nameIndex := 130, descriptorIndex := 124, attributes := #[] }, { accessFlags := 25, nameIndex := 136, descriptorIndex := 124, attributes := #[] }])
  fields := #[{ name := "SIOOBE_FORMATTER", type := (.object "java/util/function/BiFunction"), accessFlags := 25, slot := 0, constantValue := 0 }, { name := "AIOOBE_FORMATTER", type := (.object "java/util/function/BiFunction"), accessFlags := 25, slot := 1, constantValue := 0 }, { name := "IOOBE_FORMATTER", type := (.object "java/util/function/BiFunction"), accessFlags := 25, slot := 2, constantValue := 0 }]
  methods := #[k17m0, k17m1, k17m2]
  instanceTypes := #[]
  staticTypes := #[(.object "java/util/function/BiFunction"), (.object "java/util/function/BiFunction"), (.object "java/util/function/BiFunction")]
  resolved := Array.replicate 194 none
  statics := some 1 }

def pool18 : Array CpInfo := pool [(3, .class_ 4), (0, u "java/lang/String"), (1, .class_ 8), (1, u "java/lang/Object"), (0, u "<init>"), (0, u "()V"), (0, .methodref 12 13), (0, .class_ 14), (0, .nameAndType 15 16), (0, u "java/lang/StringUTF16"), (0, u "newBytesLength"), (0, u "(I)I"), (3, .integer 1073741823), (23, .fieldref 12 45), (0, .nameAndType 46 47), (0, u "$assertionsDisabled"), (0, u "Z"), (0, .methodref 12 49), (0, .nameAndType 50 51), (0, u "length"), (0, u "([B)I"), (7, .fieldref 12 60), (0, .nameAndType 61 62), (0, u "HI_BYTE_SHIFT"), (0, u "I"), (0, .fieldref 12 64), (0, .nameAndType 65 62), (0, u "LO_BYTE_SHIFT"), (1, .methodref 12 68), (0, .nameAndType 69 70), (0, u "checkIndex"), (0, u "(I[B)V"), (0, .methodref 12 72), (0, .nameAndType 73 74), (0, u "getChar"), (0, u "([BI)C"), (24, u "(II[B)V"), (9, u "newBytesFor"), (0, u "(I)[B"), (0, .methodref 12 112), (0, .nameAndType 113 114), (0, u "putChar"), (0, u "([BII)V"), (25, u "inflate"), (0, u "([BI[BII)V"), (31, .methodref 12 174), (0, .nameAndType 175 99), (0, u "checkBoundsOffCount"), (105, u "(III)I"), (87, .class_ 371), (1, u "java/lang/StringUTF16$LinesSpliterator"), (20, u "charAt"), (21, .methodref 3 415), (0, .nameAndType 69 416), (0, u "(II)V"), (2, .methodref 3 420), (0, .nameAndType 175 281), (9, u "MAX_LENGTH"), (155, u "putCharSB"), (40, .class_ 628), (0, u "java/lang/StringUTF16$CodePointsSpliterator"), (0, .class_ 630), (0, u "java/lang/StringUTF16$CharsSpliterator")] 4

def k18m0 : Method := { name := "<init>", desc := "()V", sig := { parameters := [], returnType := none }, accessFlags := 0, code := none }
def k18c1 : Code := { maxStack := 1, maxLocals := 1, code := jdk_52_method_2_code, exceptionTable := #[], attributes := #[] }
def k18m1 : Method := { name := "newBytesFor", desc := "(I)[B", sig := { parameters := [.int], returnType := some (.array .byte) }, accessFlags := 9, code := some k18c1 }
def k18c2 : Code := { maxStack := 4, maxLocals := 1, code := jdk_52_method_3_code, exceptionTable := #[], attributes := #[] }
def k18m2 : Method := { name := "newBytesLength", desc := "(I)I", sig := { parameters := [.int], returnType := some .int }, accessFlags := 9, code := some k18c2 }
def k18c3 : Code := { maxStack := 4, maxLocals := 3, code := jdk_52_method_4_code, exceptionTable := #[], attributes := #[] }
def k18m3 : Method := { name := "putChar", desc := "([BII)V", sig := { parameters := [(.array .byte), .int, .int], returnType := none }, accessFlags := 8, code := some k18c3 }
def k18c4 : Code := { maxStack := 3, maxLocals := 2, code := jdk_52_method_5_code, exceptionTable := #[], attributes := #[] }
def k18m4 : Method := { name := "getChar", desc := "([BI)C", sig := { parameters := [(.array .byte), .int], returnType := some .char }, accessFlags := 8, code := some k18c4 }
def k18c5 : Code := { maxStack := 2, maxLocals := 1, code := jdk_52_method_6_code, exceptionTable := #[], attributes := #[] }
def k18m5 : Method := { name := "length", desc := "([B)I", sig := { parameters := [(.array .byte)], returnType := some .int }, accessFlags := 9, code := some k18c5 }
def k18c6 : Code := { maxStack := 3, maxLocals := 3, code := jdk_52_method_71_code, exceptionTable := #[], attributes := #[] }
def k18m6 : Method := { name := "putCharSB", desc := "([BII)V", sig := { parameters := [(.array .byte), .int, .int], returnType := none }, accessFlags := 9, code := some k18c6 }
def k18c7 : Code := { maxStack := 2, maxLocals := 2, code := jdk_52_method_83_code, exceptionTable := #[], attributes := #[] }
def k18m7 : Method := { name := "charAt", desc := "([BI)C", sig := { parameters := [(.array .byte), .int], returnType := some .char }, accessFlags := 9, code := some k18c7 }
def k18c8 : Code := { maxStack := 4, maxLocals := 6, code := jdk_52_method_86_code, exceptionTable := #[], attributes := #[] }
def k18m8 : Method := { name := "inflate", desc := "([BI[BII)V", sig := { parameters := [(.array .byte), .int, (.array .byte), .int, .int], returnType := none }, accessFlags := 9, code := some k18c8 }
def k18c9 : Code := { maxStack := 2, maxLocals := 2, code := jdk_52_method_91_code, exceptionTable := #[], attributes := #[] }
def k18m9 : Method := { name := "checkIndex", desc := "(I[B)V", sig := { parameters := [.int, (.array .byte)], returnType := none }, accessFlags := 9, code := some k18c9 }
def k18c10 : Code := { maxStack := 3, maxLocals := 3, code := jdk_52_method_94_code, exceptionTable := #[], attributes := #[] }
def k18m10 : Method := { name := "checkBoundsOffCount", desc := "(II[B)V", sig := { parameters := [.int, .int, (.array .byte)], returnType := none }, accessFlags := 9, code := some k18c10 }
/-- java/lang/StringUTF16 -/
def k18 : Class := { plain "java/lang/StringUTF16" (some 0) with
  accessFlags := 48
  interfaces := #[]
  cf := some (fileOf pool18 12 #[.nestMembers #[627, 629, 369]] #[{ accessFlags := 0, nameIndex := 9, descriptorIndex := 10, attributes := #[] }, { accessFlags := 9, nameIndex := 109, descriptorIndex := 110, attributes := #[] }, { accessFlags := 9, nameIndex := 15, descriptorIndex := 16, attributes := #[] }, { accessFlags := 8, nameIndex := 113, descriptorIndex := 114, attributes := #[] }, { accessFlags := 8, nameIndex := 73, descriptorIndex := 74, attributes := #[] }, { accessFlags := 9, nameIndex := 50, descriptorIndex := 51, attributes := #[] }, { accessFlags := 9, nameIndex := 586, descriptorIndex := 114, attributes := #[] }, { accessFlags := 9, nameIndex := 392, descriptorIndex := 74, attributes := #[] }, { accessFlags := 9, nameIndex := 140, descriptorIndex := 141, attributes := #[] }, { accessFlags := 9, nameIndex := 69, descriptorIndex := 70, attributes := #[] }, { accessFlags := 9, nameIndex := 175, descriptorIndex := 99, attributes := #[] }] 48 6 #[] #[{ accessFlags := 26, nameIndex := 61, descriptorIndex := 62, attributes := #[] }, { accessFlags := 26, nameIndex := 65, descriptorIndex := 62, attributes := #[] }, { accessFlags := 24, nameIndex := 430, descriptorIndex := 62, attributes := #[] }, { accessFlags := 4120, nameIndex := 46, descriptorIndex := 47, attributes := #[] }])
  fields := #[{ name := "HI_BYTE_SHIFT", type := .int, accessFlags := 26, slot := 0, constantValue := 0 }, { name := "LO_BYTE_SHIFT", type := .int, accessFlags := 26, slot := 1, constantValue := 0 }, { name := "MAX_LENGTH", type := .int, accessFlags := 24, slot := 2, constantValue := 0 }, { name := "$assertionsDisabled", type := .boolean, accessFlags := 4120, slot := 3, constantValue := 0 }]
  methods := #[k18m0, k18m1, k18m2, k18m3, k18m4, k18m5, k18m6, k18m7, k18m8, k18m9, k18m10]
  instanceTypes := #[]
  staticTypes := #[.int, .int, .int, .boolean]
  resolved := Array.replicate 635 none
  statics := some 2 }

def pool19 : Array CpInfo := pool [(9, u "<init>"), (6, .class_ 18), (1, u "java/lang/Object"), (0, u "()V"), (1, .class_ 23), (1, u "jdk/internal/util/ArraysSupport"), (0, u "LOG2_ARRAY_LONG_INDEX_SCALE"), (0, u "I"), (2, u "U"), (0, u "Ljdk/internal/misc/Unsafe;"), (8, u "BIG_ENDIAN"), (0, u "Z"), (8, u "LOG2_BYTE_BIT_SIZE"), (4, u "LOG2_ARRAY_INT_INDEX_SCALE"), (54, u "JLA"), (0, u "Ljdk/internal/access/JavaLangAccess;"), (11, u "LOG2_ARRAY_BOOLEAN_INDEX_SCALE"), (9, u "LOG2_ARRAY_BYTE_INDEX_SCALE"), (5, u "LOG2_ARRAY_CHAR_INDEX_SCALE"), (5, u "LOG2_ARRAY_SHORT_INDEX_SCALE"), (18, u "LOG2_ARRAY_FLOAT_INDEX_SCALE"), (24, u "LOG2_ARRAY_DOUBLE_INDEX_SCALE"), (89, u "T_BOOLEAN"), (2, u "T_CHAR"), (1, u "T_FLOAT"), (1, u "T_DOUBLE"), (1, u "T_BYTE"), (1, u "T_SHORT"), (1, u "T_INT"), (1, u "T_LONG"), (1, u "SOFT_MAX_ARRAY_LENGTH")] 83

def k19m0 : Method := { name := "<init>", desc := "()V", sig := { parameters := [], returnType := none }, accessFlags := 2, code := none }
/-- jdk/internal/util/ArraysSupport -/
def k19 : Class := { plain "jdk/internal/util/ArraysSupport" (some 0) with
  accessFlags := 33
  interfaces := #[]
  cf := some (fileOf pool19 21 #[] #[{ accessFlags := 2, nameIndex := 9, descriptorIndex := 19, attributes := #[] }] 33 16 #[] #[{ accessFlags := 24, nameIndex := 28, descriptorIndex := 29, attributes := #[] }, { accessFlags := 26, nameIndex := 38, descriptorIndex := 39, attributes := #[] }, { accessFlags := 25, nameIndex := 121, descriptorIndex := 25, attributes := #[] }, { accessFlags := 25, nameIndex := 131, descriptorIndex := 25, attributes := #[] }, { accessFlags := 25, nameIndex := 137, descriptorIndex := 25, attributes := #[] }, { accessFlags := 25, nameIndex := 143, descriptorIndex := 25, attributes := #[] }, { accessFlags := 25, nameIndex := 53, descriptorIndex := 25, attributes := #[] }, { accessFlags := 25, nameIndex := 24, descriptorIndex := 25, attributes := #[] }, { accessFlags := 25, nameIndex := 162, descriptorIndex := 25, attributes := #[] }, { accessFlags := 25, nameIndex := 187, descriptorIndex := 25, attributes := #[] }, { accessFlags := 26, nameIndex := 48, descriptorIndex := 25, attributes := #[] }, { accessFlags := 25, nameIndex := 277, descriptorIndex := 25, attributes := #[] }, { accessFlags := 25, nameIndex := 280, descriptorIndex := 25, attributes := #[] }, { accessFlags := 25, nameIndex := 282, descriptorIndex := 25, attributes := #[] }, { accessFlags := 25, nameIndex := 284, descriptorIndex := 25, attributes := #[] }, { accessFlags := 25, nameIndex := 286, descriptorIndex := 25, attributes := #[] }, { accessFlags := 25, nameIndex := 288, descriptorIndex := 25, attributes := #[] }, { accessFlags := 25, nameIndex := 290, descriptorIndex := 25, attributes := #[] }, { accessFlags := 25, nameIndex := 292, descriptorIndex := 25, attributes := #[] }, { accessFlags := 26, nameIndex := 108, descriptorIndex := 109, attributes := #[] }, { accessFlags := 25, nameIndex := 294, descriptorIndex := 25, attributes := #[] }])
  fields := #[{ name := "U", type := (.object "jdk/internal/misc/Unsafe"), accessFlags := 24, slot := 0, constantValue := 0 }, { name := "BIG_ENDIAN", type := .boolean, accessFlags := 26, slot := 1, constantValue := 0 }, { name := "LOG2_ARRAY_BOOLEAN_INDEX_SCALE", type := .int, accessFlags := 25, slot := 2, constantValue := 0 }, { name := "LOG2_ARRAY_BYTE_INDEX_SCALE", type := .int, accessFlags := 25, slot := 3, constantValue := 0 }, { name := "LOG2_ARRAY_CHAR_INDEX_SCALE", type := .int, accessFlags := 25, slot := 4, constantValue := 0 }, { name := "LOG2_ARRAY_SHORT_INDEX_SCALE", type := .int, accessFlags := 25, slot := 5, constantValue := 0 }, { name := "LOG2_ARRAY_INT_INDEX_SCALE", type := .int, accessFlags := 25, slot := 6, constantValue := 0 }, { name := "LOG2_ARRAY_LONG_INDEX_SCALE", type := .int, accessFlags := 25, slot := 7, constantValue := 0 }, { name := "LOG2_ARRAY_FLOAT_INDEX_SCALE", type := .int, accessFlags := 25, slot := 8, constantValue := 0 }, { name := "LOG2_ARRAY_DOUBLE_INDEX_SCALE", type := .int, accessFlags := 25, slot := 9, constantValue := 0 }, { name := "LOG2_BYTE_BIT_SIZE", type := .int, accessFlags := 26, slot := 10, constantValue := 0 }, { name := "T_BOOLEAN", type := .int, accessFlags := 25, slot := 11, constantValue := 0 }, { name := "T_CHAR", type := .int, accessFlags := 25, slot := 12, constantValue := 0 }, { name := "T_FLOAT", type := .int, accessFlags := 25, slot := 13, constantValue := 0 }, { name := "T_DOUBLE", type := .int, accessFlags := 25, slot := 14, constantValue := 0 }, { name := "T_BYTE", type := .int, accessFlags := 25, slot := 15, constantValue := 0 }, { name := "T_SHORT", type := .int, accessFlags := 25, slot := 16, constantValue := 0 }, { name := "T_INT", type := .int, accessFlags := 25, slot := 17, constantValue := 0 }, { name := "T_LONG", type := .int, accessFlags := 25, slot := 18, constantValue := 0 }, { name := "JLA", type := (.object "jdk/internal/access/JavaLangAccess"), accessFlags := 26, slot := 19, constantValue := 0 }, { name := "SOFT_MAX_ARRAY_LENGTH", type := .int, accessFlags := 25, slot := 20, constantValue := 0 }]
  methods := #[k19m0]
  instanceTypes := #[]
  staticTypes := #[(.object "jdk/internal/misc/Unsafe"), .boolean, .int, .int, .int, .int, .int, .int, .int, .int, .int, .int, .int, .int, .int, .int, .int, .int, .int, (.object "jdk/internal/access/JavaLangAccess"), .int]
  resolved := Array.replicate 378 none
  statics := none }

/-- the primitive byte -/
def k20 : Class := { plain "byte" none with kind := .primitive 'B', accessFlags := 0x411 }
/-- [B -/
def k21 : Class := { plain "[B" (some 0) with kind := .array 20 .byte, interfaces := #[16, 9], accessFlags := 1041 }

/-- the primitive int -/
def k22 : Class := { plain "int" none with kind := .primitive 'I', accessFlags := 0x411 }
/-- [I -/
def k23 : Class := { plain "[I" (some 0) with kind := .array 22 .int, interfaces := #[16, 9], accessFlags := 1041 }

def heap : Heap := #[{ cls := 14, slots := #[.long 0, .int 1, .null, .int 0, .null, .int 0, .int 0], vm := .statics 14 },
  { cls := 17, slots := #[.null, .null, .null], vm := .statics 17 },
  { cls := 18, slots := #[.int 0, .int 8, .int 0, .int 1], vm := .statics 18 }]
def classes : Array Class := #[k0, k1, k2, k3, k4, k5, k6, k7, k8, k9, k10, k11, k12, k13, k14, k15, k16, k17, k18, k19, k20, k21, k22, k23]
def interned : List (Array UInt16 × Addr) := []
def slotsUsed : Nat := 14
def theMethod : MethodId := ⟨1, 1⟩
def args0 : Array Value := #[.int 305419896, .int 1]
def aboutOver (below : List Frame) : State where
  vm := { classes := classes, interned := interned.toArray }
  heap := heap
  slotsUsed := slotsUsed
  threads := #[{ frames := .invoking theMethod args0 :: below }]
def below0 : List Frame := [.native { method := ⟨0, 0⟩, args := #[] }]
def about1 : State := aboutOver below0
def p0 : Program := .bare "" "" ""
def e0 : Env := launch0.env 0 0 0
theorem w_frames : about1.frames = Frame.invoking theMethod args0 :: below0 := rfl
set_option maxRecDepth 65536 in
theorem w_args : argsFit about1.vm theMethod args0 = true := by decide +kernel
set_option maxRecDepth 65536 in
theorem w_heap : heapFits about1 = true := by decide +kernel
set_option maxRecDepth 65536 in
theorem w_runnable : about1.curStatus? = some .runnable := by decide +kernel
set_option maxRecDepth 65536 in
theorem w_alone : about1.alone = true := by decide +kernel
set_option maxRecDepth 65536 in
theorem w_named : about1.methodNamed? x = some theMethod := by decide +kernel
set_option maxRecDepth 65536 in
theorem w_hears : about1.hears theMethod below0 = true := by decide +kernel
set_option maxRecDepth 65536 in
theorem w_ripe : about1.ripe theMethod args0 below0 = true := by decide +kernel
theorem w_running : about1.status = .running := rfl
set_option maxRecDepth 65536 in
theorem w_room : about1.hasRoom e0.platform room_1 = true :=
  launch0.hasRoom_least _ room_1 (by decide +kernel) (by decide +kernel) (by decide +kernel) (by decide +kernel) (by decide +kernel) (by decide +kernel)
theorem allAtoms_all (ts : List Jvm.Cond) (a : Array Jvm.Value) (st : Jvm.State) : (allAtoms ts).before a st = ts.all (fun c => c.before a st) := by
  induction ts with
  | nil => rfl
  | cons c t ih =>
    show (Jvm.Cond.and c (allAtoms t)).before a st = _
    rw [Jvm.Cond.before_and, ih, List.all_cons]
def words1 : List Jvm.Cond := Jvm.Cond.code x code maxLocals ret :: tables_1
/-- a 'code' word, met by the world's own term for the bytes: nothing is compared byte by byte -/
theorem code_word {y : MethodName} {bytes : ByteArray} {mx : Nat} {rt : Option FieldType} {a : Array Value} {s : State} {m : MethodId} {meth : Method} {c : Code} (h1 : s.methodNamed? y = some m) (h2 : s.vm.method? m = some meth) (h3 : meth.code = some c) (h4 : c.code = bytes)
    (h5 : (c.maxLocals == mx && c.exceptionTable.isEmpty && decide (c.maxStack ≤ mostOperands) && decide (meth.sig.returnType = rt) && !meth.locks && decide (parseMethodDescriptor y.desc = some meth.sig)) = true) : (Jvm.Cond.code y bytes mx rt).before a s = true := by
  simp only [Bool.and_eq_true, beq_iff_eq, Bool.not_eq_true', decide_eq_true_eq] at h5
  obtain ⟨⟨⟨⟨⟨g1, g2⟩, g3⟩, g4⟩, g5⟩, g6⟩ := h5
  simp [Cond.before, Cond.holds, Cond.value, h1, h2, h3, h4, g1, g2, g3, g4, g5, g6]
def isCode : Jvm.Cond → Bool
  | .code _ _ _ _ => true
  | _ => false
theorem all_split {L : List Jvm.Cond} {P : Jvm.Cond → Bool} (h1 : L.all (fun c => isCode c || P c) = true) (h2 : ∀ c ∈ L.filter isCode, P c = true) : L.all P = true := by
  refine List.all_eq_true.mpr fun c hc => ?_
  have h := List.all_eq_true.mp h1 c hc
  rcases Bool.eq_false_or_eq_true (isCode c) with hi | hi
  · exact h2 c (List.mem_filter.mpr ⟨hc, hi⟩)
  · simpa [hi] using h
set_option maxRecDepth 65536 in
theorem w_c0 : (Jvm.Cond.code x code maxLocals ret).before args0 about1 = true := code_word (m := ⟨1, 1⟩) (meth := k1m1) (c := k1c1) (by decide +kernel) rfl rfl rfl (by decide +kernel)
set_option maxRecDepth 65536 in
theorem w_c1 : (Jvm.Cond.code ({ cls := "com/example/annotree/annotree/tree/SingleByteDecoder", name := "withoutIndex", desc := "()Lcom/example/annotree/annotree/tree/SingleByteDecoder;" } : Jvm.MethodName) prog_33_method_4_code (0 : Nat) (Option.some (Jvm.ClassFile.FieldType.object "com/example/annotree/annotree/tree/SingleByteDecoder"))).before args0 about1 = true := code_word (m := ⟨3, 1⟩) (meth := k3m1) (c := k3c1) (by decide +kernel) rfl rfl rfl (by decide +kernel)
set_option maxRecDepth 65536 in
theorem w_c2 : (Jvm.Cond.code ({ cls := "com/example/annotree/annotree/tree/SingleByteDecoder", name := "<init>", desc := "(Ljava/lang/String;Z[I)V" } : Jvm.MethodName) prog_33_method_1_code (4 : Nat) (Option.none : Option Jvm.ClassFile.FieldType)).before args0 about1 = true := code_word (m := ⟨3, 0⟩) (meth := k3m0) (c := k3c0) (by decide +kernel) rfl rfl rfl (by decide +kernel)
set_option maxRecDepth 65536 in
theorem w_c3 : (Jvm.Cond.code ({ cls := "java/lang/Object", name := "<init>", desc := "()V" } : Jvm.MethodName) object_method_1_code (1 : Nat) (Option.none : Option Jvm.ClassFile.FieldType)).before args0 about1 = true := code_word (m := ⟨0, 0⟩) (meth := k0m0) (c := k0c0) (by decide +kernel) rfl rfl rfl (by decide +kernel)
set_option maxRecDepth 65536 in
theorem w_c4 : (Jvm.Cond.code ({ cls := "com/example/annotree/annotree/tree/SingleByteDecoder", name := "decode", desc := "([BI)Ljava/lang/String;" } : Jvm.MethodName) prog_33_method_5_code (8 : Nat) (Option.some (Jvm.ClassFile.FieldType.object "java/lang/String"))).before args0 about1 = true := code_word (m := ⟨3, 2⟩) (meth := k3m2) (c := k3c2) (by decide +kernel) rfl rfl rfl (by decide +kernel)
set_option maxRecDepth 65536 in
theorem w_c5 : (Jvm.Cond.code ({ cls := "com/example/annotree/annotree/tree/Index", name := "empty", desc := "(I)Lcom/example/annotree/annotree/tree/Index;" } : Jvm.MethodName) prog_25_method_2_code (1 : Nat) (Option.some (Jvm.ClassFile.FieldType.object "com/example/annotree/annotree/tree/Index"))).before args0 about1 = true := code_word (m := ⟨4, 1⟩) (meth := k4m1) (c := k4c1) (by decide +kernel) rfl rfl rfl (by decide +kernel)
set_option maxRecDepth 65536 in
theorem w_c6 : (Jvm.Cond.code ({ cls := "com/example/annotree/annotree/tree/Index", name := "<init>", desc := "(I)V" } : Jvm.MethodName) prog_25_method_1_code (2 : Nat) (Option.none : Option Jvm.ClassFile.FieldType)).before args0 about1 = true := code_word (m := ⟨4, 0⟩) (meth := k4m0) (c := k4c0) (by decide +kernel) rfl rfl rfl (by decide +kernel)
set_option maxRecDepth 65536 in
theorem w_c7 : (Jvm.Cond.code ({ cls := "java/util/Arrays", name := "fill", desc := "([II)V" } : Jvm.MethodName) jdk_65_method_103_code (4 : Nat) (Option.none : Option Jvm.ClassFile.FieldType)).before args0 about1 = true := code_word (m := ⟨5, 1⟩) (meth := k5m1) (c := k5c1) (by decide +kernel) rfl rfl rfl (by decide +kernel)
set_option maxRecDepth 65536 in
theorem w_c8 : (Jvm.Cond.code ({ cls := "java/lang/StringBuilder", name := "<init>", desc := "(I)V" } : Jvm.MethodName) jdk_67_method_2_code (2 : Nat) (Option.none : Option Jvm.ClassFile.FieldType)).before args0 about1 = true := code_word (m := ⟨11, 1⟩) (meth := k11m1) (c := k11c1) (by decide +kernel) rfl rfl rfl (by decide +kernel)
set_option maxRecDepth 65536 in
theorem w_c9 : (Jvm.Cond.code ({ cls := "java/lang/AbstractStringBuilder", name := "<init>", desc := "(I)V" } : Jvm.MethodName) jdk_68_method_2_code (2 : Nat) (Option.none : Option Jvm.ClassFile.FieldType)).before args0 about1 = true := code_word (m := ⟨8, 1⟩) (meth := k8m1) (c := k8c1) (by decide +kernel) rfl rfl rfl (by decide +kernel)
set_option maxRecDepth 65536 in
theorem w_c10 : (Jvm.Cond.code ({ cls := "java/lang/StringBuilder", name := "append", desc := "(C)Ljava/lang/StringBuilder;" } : Jvm.MethodName) jdk_67_method_14_code (2 : Nat) (Option.some (Jvm.ClassFile.FieldType.object "java/lang/StringBuilder"))).before args0 about1 = true := code_word (m := ⟨11, 2⟩) (meth := k11m2) (c := k11c2) (by decide +kernel) rfl rfl rfl (by decide +kernel)
set_option maxRecDepth 65536 in
theorem w_c11 : (Jvm.Cond.code ({ cls := "java/lang/AbstractStringBuilder", name := "append", desc := "(C)Ljava/lang/AbstractStringBuilder;" } : Jvm.MethodName) jdk_68_method_31_code (2 : Nat) (Option.some (Jvm.ClassFile.FieldType.object "java/lang/AbstractStringBuilder"))).before args0 about1 = true := code_word (m := ⟨8, 5⟩) (meth := k8m5) (c := k8c5) (by decide +kernel) rfl rfl rfl (by decide +kernel)
set_option maxRecDepth 65536 in
theorem w_c12 : (Jvm.Cond.code ({ cls := "java/lang/AbstractStringBuilder", name := "ensureCapacityInternal", desc := "(I)V" } : Jvm.MethodName) jdk_68_method_9_code (3 : Nat) (Option.none : Option Jvm.ClassFile.FieldType)).before args0 about1 = true := code_word (m := ⟨8, 3⟩) (meth := k8m3) (c := k8c3) (by decide +kernel) rfl rfl rfl (by decide +kernel)
set_option maxRecDepth 65536 in
theorem w_c13 : (Jvm.Cond.code ({ cls := "java/lang/AbstractStringBuilder", name := "isLatin1", desc := "()Z" } : Jvm.MethodName) jdk_68_method_68_code (1 : Nat) (Option.some Jvm.ClassFile.FieldType.boolean)).before args0 about1 = true := code_word (m := ⟨8, 7⟩) (meth := k8m7) (c := k8c7) (by decide +kernel) rfl rfl rfl (by decide +kernel)
set_option maxRecDepth 65536 in
theorem w_c14 : (Jvm.Cond.code ({ cls := "java/lang/StringLatin1", name := "canEncode", desc := "(C)Z" } : Jvm.MethodName) jdk_43_method_3_code (1 : Nat) (Option.some Jvm.ClassFile.FieldType.boolean)).before args0 about1 = true := code_word (m := ⟨15, 2⟩) (meth := k15m2) (c := k15c2) (by decide +kernel) rfl rfl rfl (by decide +kernel)
set_option maxRecDepth 65536 in
theorem w_c15 : (Jvm.Cond.code ({ cls := "java/lang/StringBuilder", name := "toString", desc := "()Ljava/lang/String;" } : Jvm.MethodName) jdk_67_method_42_code (1 : Nat) (Option.some (Jvm.ClassFile.FieldType.object "java/lang/String"))).before args0 about1 = true := code_word (m := ⟨11, 3⟩) (meth := k11m3) (c := k11c3) (by decide +kernel) rfl rfl rfl (by decide +kernel)
set_option maxRecDepth 65536 in
theorem w_c16 : (Jvm.Cond.code ({ cls := "java/lang/String", name := "<init>", desc := "(Ljava/lang/StringBuilder;)V" } : Jvm.MethodName) jdk_42_method_53_code (2 : Nat) (Option.none : Option Jvm.ClassFile.FieldType)).before args0 about1 = true := code_word (m := ⟨14, 1⟩) (meth := k14m1) (c := k14c1) (by decide +kernel) rfl rfl rfl (by decide +kernel)
set_option maxRecDepth 65536 in
theorem w_c17 : (Jvm.Cond.code ({ cls := "java/lang/String", name := "<init>", desc := "(Ljava/lang/AbstractStringBuilder;Ljava/lang/Void;)V" } : Jvm.MethodName) jdk_42_method_150_code (5 : Nat) (Option.none : Option Jvm.ClassFile.FieldType)).before args0 about1 = true := code_word (m := ⟨14, 4⟩) (meth := k14m4) (c := k14c4) (by decide +kernel) rfl rfl rfl (by decide +kernel)
set_option maxRecDepth 65536 in
theorem w_c18 : (Jvm.Cond.code ({ cls := "java/lang/AbstractStringBuilder", name := "getValue", desc := "()[B" } : Jvm.MethodName) jdk_68_method_64_code (1 : Nat) (Option.some (Jvm.ClassFile.FieldType.array Jvm.ClassFile.FieldType.byte))).before args0 about1 = true := code_word (m := ⟨8, 6⟩) (meth := k8m6) (c := k8c6) (by decide +kernel) rfl rfl rfl (by decide +kernel)
set_option maxRecDepth 65536 in
theorem w_c19 : (Jvm.Cond.code ({ cls := "java/lang/StringBuilder", name := "length", desc := "()I" } : Jvm.MethodName) jdk_67_method_93_code (1 : Nat) (Option.some Jvm.ClassFile.FieldType.int)).before args0 about1 = true := code_word (m := ⟨11, 4⟩) (meth := k11m4) (c := k11c4) (by decide +kernel) rfl rfl rfl (by decide +kernel)
set_option maxRecDepth 65536 in
theorem w_c20 : (Jvm.Cond.code ({ cls := "java/lang/AbstractStringBuilder", name := "length", desc := "()I" } : Jvm.MethodName) jdk_68_method_6_code (1 : Nat) (Option.some Jvm.ClassFile.FieldType.int)).before args0 about1 = true := code_word (m := ⟨8, 2⟩) (meth := k8m2) (c := k8c2) (by decide +kernel) rfl rfl rfl (by decide +kernel)
set_option maxRecDepth 65536 in
theorem w_c21 : (Jvm.Cond.code ({ cls := "java/util/Arrays", name := "copyOfRange", desc := "([BII)[B" } : Jvm.MethodName) jdk_65_method_132_code (3 : Nat) (Option.some (Jvm.ClassFile.FieldType.array Jvm.ClassFile.FieldType.byte))).before args0 about1 = true := code_word (m := ⟨5, 2⟩) (meth := k5m2) (c := k5c2) (by decide +kernel) rfl rfl rfl (by decide +kernel)
set_option maxRecDepth 65536 in
theorem w_c22 : (Jvm.Cond.code ({ cls := "com/example/annotree/annotree/tree/SingleByteDecoderWithoutIndexPinLaw", name := "matches", desc := "(Ljava/lang/String;[BI)Z" } : Jvm.MethodName) method_5_code (3 : Nat) (Option.some Jvm.ClassFile.FieldType.boolean)).before args0 about1 = true := code_word (m := ⟨1, 4⟩) (meth := k1m4) (c := k1c4) (by decide +kernel) rfl rfl rfl (by decide +kernel)
set_option maxRecDepth 65536 in
theorem w_c23 : (Jvm.Cond.code ({ cls := "java/lang/String", name := "length", desc := "()I" } : Jvm.MethodName) jdk_42_method_54_code (1 : Nat) (Option.some Jvm.ClassFile.FieldType.int)).before args0 about1 = true := code_word (m := ⟨14, 2⟩) (meth := k14m2) (c := k14c2) (by decide +kernel) rfl rfl rfl (by decide +kernel)
set_option maxRecDepth 65536 in
theorem w_c24 : (Jvm.Cond.code ({ cls := "java/lang/String", name := "coder", desc := "()B" } : Jvm.MethodName) jdk_42_method_152_code (1 : Nat) (Option.some Jvm.ClassFile.FieldType.byte)).before args0 about1 = true := code_word (m := ⟨14, 5⟩) (meth := k14m5) (c := k14c5) (by decide +kernel) rfl rfl rfl (by decide +kernel)
set_option maxRecDepth 65536 in
theorem w_c25 : (Jvm.Cond.code ({ cls := "com/example/annotree/annotree/tree/SingleByteDecoderWithoutIndexPinLaw", name := "at", desc := "(Ljava/lang/String;[BII)Z" } : Jvm.MethodName) method_4_code (4 : Nat) (Option.some Jvm.ClassFile.FieldType.boolean)).before args0 about1 = true := code_word (m := ⟨1, 3⟩) (meth := k1m3) (c := k1c3) (by decide +kernel) rfl rfl rfl (by decide +kernel)
set_option maxRecDepth 65536 in
theorem w_c26 : (Jvm.Cond.code ({ cls := "java/lang/String", name := "charAt", desc := "(I)C" } : Jvm.MethodName) jdk_42_method_56_code (2 : Nat) (Option.some Jvm.ClassFile.FieldType.char)).before args0 about1 = true := code_word (m := ⟨14, 3⟩) (meth := k14m3) (c := k14c3) (by decide +kernel) rfl rfl rfl (by decide +kernel)
set_option maxRecDepth 65536 in
theorem w_c27 : (Jvm.Cond.code ({ cls := "java/lang/String", name := "isLatin1", desc := "()Z" } : Jvm.MethodName) jdk_42_method_154_code (1 : Nat) (Option.some Jvm.ClassFile.FieldType.boolean)).before args0 about1 = true := code_word (m := ⟨14, 6⟩) (meth := k14m6) (c := k14c6) (by decide +kernel) rfl rfl rfl (by decide +kernel)
set_option maxRecDepth 65536 in
theorem w_c28 : (Jvm.Cond.code ({ cls := "java/lang/StringLatin1", name := "charAt", desc := "([BI)C" } : Jvm.MethodName) jdk_43_method_2_code (2 : Nat) (Option.some Jvm.ClassFile.FieldType.char)).before args0 about1 = true := code_word (m := ⟨15, 1⟩) (meth := k15m1) (c := k15c1) (by decide +kernel) rfl rfl rfl (by decide +kernel)
set_option maxRecDepth 65536 in
theorem w_c29 : (Jvm.Cond.code ({ cls := "java/lang/String", name := "checkIndex", desc := "(II)V" } : Jvm.MethodName) jdk_42_method_155_code (2 : Nat) (Option.none : Option Jvm.ClassFile.FieldType)).before args0 about1 = true := code_word (m := ⟨14, 7⟩) (meth := k14m7) (c := k14c7) (by decide +kernel) rfl rfl rfl (by decide +kernel)
set_option maxRecDepth 65536 in
theorem w_c30 : (Jvm.Cond.code ({ cls := "jdk/internal/util/Preconditions", name := "checkIndex", desc := "(IILjava/util/function/BiFunction;)I" } : Jvm.MethodName) jdk_41_method_11_code (3 : Nat) (Option.some Jvm.ClassFile.FieldType.int)).before args0 about1 = true := code_word (m := ⟨17, 1⟩) (meth := k17m1) (c := k17c1) (by decide +kernel) rfl rfl rfl (by decide +kernel)
set_option maxRecDepth 65536 in
theorem w_c31 : (Jvm.Cond.code ({ cls := "com/example/annotree/annotree/tree/SingleByteDecoderWithoutIndexPinLaw", name := "expect", desc := "(B)C" } : Jvm.MethodName) method_3_code (2 : Nat) (Option.some Jvm.ClassFile.FieldType.char)).before args0 about1 = true := code_word (m := ⟨1, 2⟩) (meth := k1m2) (c := k1c2) (by decide +kernel) rfl rfl rfl (by decide +kernel)
set_option maxRecDepth 65536 in
theorem w_c32 : (Jvm.Cond.code ({ cls := "com/example/annotree/annotree/tree/Index", name := "codePoint", desc := "(I)I" } : Jvm.MethodName) prog_25_method_7_code (2 : Nat) (Option.some Jvm.ClassFile.FieldType.int)).before args0 about1 = true := code_word (m := ⟨4, 2⟩) (meth := k4m2) (c := k4c2) (by decide +kernel) rfl rfl rfl (by decide +kernel)
set_option maxRecDepth 65536 in
theorem w_c33 : (Jvm.Cond.code ({ cls := "java/lang/AbstractStringBuilder", name := "inflate", desc := "()V" } : Jvm.MethodName) jdk_68_method_11_code (2 : Nat) (Option.none : Option Jvm.ClassFile.FieldType)).before args0 about1 = true := code_word (m := ⟨8, 4⟩) (meth := k8m4) (c := k8c4) (by decide +kernel) rfl rfl rfl (by decide +kernel)
set_option maxRecDepth 65536 in
theorem w_c34 : (Jvm.Cond.code ({ cls := "java/lang/StringUTF16", name := "newBytesFor", desc := "(I)[B" } : Jvm.MethodName) jdk_52_method_2_code (1 : Nat) (Option.some (Jvm.ClassFile.FieldType.array Jvm.ClassFile.FieldType.byte))).before args0 about1 = true := code_word (m := ⟨18, 1⟩) (meth := k18m1) (c := k18c1) (by decide +kernel) rfl rfl rfl (by decide +kernel)
set_option maxRecDepth 65536 in
theorem w_c35 : (Jvm.Cond.code ({ cls := "java/lang/StringUTF16", name := "newBytesLength", desc := "(I)I" } : Jvm.MethodName) jdk_52_method_3_code (1 : Nat) (Option.some Jvm.ClassFile.FieldType.int)).before args0 about1 = true := code_word (m := ⟨18, 2⟩) (meth := k18m2) (c := k18c2) (by decide +kernel) rfl rfl rfl (by decide +kernel)
set_option maxRecDepth 65536 in
theorem w_c36 : (Jvm.Cond.code ({ cls := "java/lang/StringLatin1", name := "inflate", desc := "([BI[BII)V" } : Jvm.MethodName) jdk_43_method_50_code (5 : Nat) (Option.none : Option Jvm.ClassFile.FieldType)).before args0 about1 = true := code_word (m := ⟨15, 3⟩) (meth := k15m3) (c := k15c3) (by decide +kernel) rfl rfl rfl (by decide +kernel)
set_option maxRecDepth 65536 in
theorem w_c37 : (Jvm.Cond.code ({ cls := "java/lang/StringUTF16", name := "inflate", desc := "([BI[BII)V" } : Jvm.MethodName) jdk_52_method_86_code (6 : Nat) (Option.none : Option Jvm.ClassFile.FieldType)).before args0 about1 = true := code_word (m := ⟨18, 8⟩) (meth := k18m8) (c := k18c8) (by decide +kernel) rfl rfl rfl (by decide +kernel)
set_option maxRecDepth 65536 in
theorem w_c38 : (Jvm.Cond.code ({ cls := "java/lang/StringUTF16", name := "checkBoundsOffCount", desc := "(II[B)V" } : Jvm.MethodName) jdk_52_method_94_code (3 : Nat) (Option.none : Option Jvm.ClassFile.FieldType)).before args0 about1 = true := code_word (m := ⟨18, 10⟩) (meth := k18m10) (c := k18c10) (by decide +kernel) rfl rfl rfl (by decide +kernel)
set_option maxRecDepth 65536 in
theorem w_c39 : (Jvm.Cond.code ({ cls := "java/lang/StringUTF16", name := "length", desc := "([B)I" } : Jvm.MethodName) jdk_52_method_6_code (1 : Nat) (Option.some Jvm.ClassFile.FieldType.int)).before args0 about1 = true := code_word (m := ⟨18, 5⟩) (meth := k18m5) (c := k18c5) (by decide +kernel) rfl rfl rfl (by decide +kernel)
set_option maxRecDepth 65536 in
theorem w_c40 : (Jvm.Cond.code ({ cls := "java/lang/String", name := "checkBoundsOffCount", desc := "(III)I" } : Jvm.MethodName) jdk_42_method_157_code (3 : Nat) (Option.some Jvm.ClassFile.FieldType.int)).before args0 about1 = true := code_word (m := ⟨14, 8⟩) (meth := k14m8) (c := k14c8) (by decide +kernel) rfl rfl rfl (by decide +kernel)
set_option maxRecDepth 65536 in
theorem w_c41 : (Jvm.Cond.code ({ cls := "jdk/internal/util/Preconditions", name := "checkFromIndexSize", desc := "(IIILjava/util/function/BiFunction;)I" } : Jvm.MethodName) jdk_41_method_13_code (4 : Nat) (Option.some Jvm.ClassFile.FieldType.int)).before args0 about1 = true := code_word (m := ⟨17, 2⟩) (meth := k17m2) (c := k17c2) (by decide +kernel) rfl rfl rfl (by decide +kernel)
set_option maxRecDepth 65536 in
theorem w_c42 : (Jvm.Cond.code ({ cls := "java/lang/StringUTF16", name := "putChar", desc := "([BII)V" } : Jvm.MethodName) jdk_52_method_4_code (3 : Nat) (Option.none : Option Jvm.ClassFile.FieldType)).before args0 about1 = true := code_word (m := ⟨18, 3⟩) (meth := k18m3) (c := k18c3) (by decide +kernel) rfl rfl rfl (by decide +kernel)
set_option maxRecDepth 65536 in
theorem w_c43 : (Jvm.Cond.code ({ cls := "java/lang/StringUTF16", name := "putCharSB", desc := "([BII)V" } : Jvm.MethodName) jdk_52_method_71_code (3 : Nat) (Option.none : Option Jvm.ClassFile.FieldType)).before args0 about1 = true := code_word (m := ⟨18, 6⟩) (meth := k18m6) (c := k18c6) (by decide +kernel) rfl rfl rfl (by decide +kernel)
set_option maxRecDepth 65536 in
theorem w_c44 : (Jvm.Cond.code ({ cls := "java/lang/StringUTF16", name := "checkIndex", desc := "(I[B)V" } : Jvm.MethodName) jdk_52_method_91_code (2 : Nat) (Option.none : Option Jvm.ClassFile.FieldType)).before args0 about1 = true := code_word (m := ⟨18, 9⟩) (meth := k18m9) (c := k18c9) (by decide +kernel) rfl rfl rfl (by decide +kernel)
set_option maxRecDepth 65536 in
theorem w_c45 : (Jvm.Cond.code ({ cls := "java/lang/StringUTF16", name := "charAt", desc := "([BI)C" } : Jvm.MethodName) jdk_52_method_83_code (2 : Nat) (Option.some Jvm.ClassFile.FieldType.char)).before args0 about1 = true := code_word (m := ⟨18, 7⟩) (meth := k18m7) (c := k18c7) (by decide +kernel) rfl rfl rfl (by decide +kernel)
set_option maxRecDepth 65536 in
theorem w_c46 : (Jvm.Cond.code ({ cls := "java/lang/StringUTF16", name := "getChar", desc := "([BI)C" } : Jvm.MethodName) jdk_52_method_5_code (2 : Nat) (Option.some Jvm.ClassFile.FieldType.char)).before args0 about1 = true := code_word (m := ⟨18, 4⟩) (meth := k18m4) (c := k18c4) (by decide +kernel) rfl rfl rfl (by decide +kernel)
def codes1 : List Jvm.Cond := [Jvm.Cond.code x code maxLocals ret, Jvm.Cond.code ({ cls := "com/example/annotree/annotree/tree/SingleByteDecoder", name := "withoutIndex", desc := "()Lcom/example/annotree/annotree/tree/SingleByteDecoder;" } : Jvm.MethodName) prog_33_method_4_code (0 : Nat) (Option.some (Jvm.ClassFile.FieldType.object "com/example/annotree/annotree/tree/SingleByteDecoder")), Jvm.Cond.code ({ cls := "com/example/annotree/annotree/tree/SingleByteDecoder", name := "<init>", desc := "(Ljava/lang/String;Z[I)V" } : Jvm.MethodName) prog_33_method_1_code (4 : Nat) (Option.none : Option Jvm.ClassFile.FieldType), Jvm.Cond.code ({ cls := "java/lang/Object", name := "<init>", desc := "()V" } : Jvm.MethodName) object_method_1_code (1 : Nat) (Option.none : Option Jvm.ClassFile.FieldType), Jvm.Cond.code ({ cls := "com/example/annotree/annotree/tree/SingleByteDecoder", name := "decode", desc := "([BI)Ljava/lang/String;" } : Jvm.MethodName) prog_33_method_5_code (8 : Nat) (Option.some (Jvm.ClassFile.FieldType.object "java/lang/String")), Jvm.Cond.code ({ cls := "com/example/annotree/annotree/tree/Index", name := "empty", desc := "(I)Lcom/example/annotree/annotree/tree/Index;" } : Jvm.MethodName) prog_25_method_2_code (1 : Nat) (Option.some (Jvm.ClassFile.FieldType.object "com/example/annotree/annotree/tree/Index")), Jvm.Cond.code ({ cls := "com/example/annotree/annotree/tree/Index", name := "<init>", desc := "(I)V" } : Jvm.MethodName) prog_25_method_1_code (2 : Nat) (Option.none : Option Jvm.ClassFile.FieldType), Jvm.Cond.code ({ cls := "java/util/Arrays", name := "fill", desc := "([II)V" } : Jvm.MethodName) jdk_65_method_103_code (4 : Nat) (Option.none : Option Jvm.ClassFile.FieldType), Jvm.Cond.code ({ cls := "java/lang/StringBuilder", name := "<init>", desc := "(I)V" } : Jvm.MethodName) jdk_67_method_2_code (2 : Nat) (Option.none : Option Jvm.ClassFile.FieldType), Jvm.Cond.code ({ cls := "java/lang/AbstractStringBuilder", name := "<init>", desc := "(I)V" } : Jvm.MethodName) jdk_68_method_2_code (2 : Nat) (Option.none : Option Jvm.ClassFile.FieldType), Jvm.Cond.code ({ cls := "java/lang/StringBuilder", name := "append", desc := "(C)Ljava/lang/StringBuilder;" } : Jvm.MethodName) jdk_67_method_14_code (2 : Nat) (Option.some (Jvm.ClassFile.FieldType.object "java/lang/StringBuilder")), Jvm.Cond.code ({ cls := "java/lang/AbstractStringBuilder", name := "append", desc := "(C)Ljava/lang/AbstractStringBuilder;" } : Jvm.MethodName) jdk_68_method_31_code (2 : Nat) (Option.some (Jvm.ClassFile.FieldType.object "java/lang/AbstractStringBuilder")), Jvm.Cond.code ({ cls := "java/lang/AbstractStringBuilder", name := "ensureCapacityInternal", desc := "(I)V" } : Jvm.MethodName) jdk_68_method_9_code (3 : Nat) (Option.none : Option Jvm.ClassFile.FieldType), Jvm.Cond.code ({ cls := "java/lang/AbstractStringBuilder", name := "isLatin1", desc := "()Z" } : Jvm.MethodName) jdk_68_method_68_code (1 : Nat) (Option.some Jvm.ClassFile.FieldType.boolean), Jvm.Cond.code ({ cls := "java/lang/StringLatin1", name := "canEncode", desc := "(C)Z" } : Jvm.MethodName) jdk_43_method_3_code (1 : Nat) (Option.some Jvm.ClassFile.FieldType.boolean), Jvm.Cond.code ({ cls := "java/lang/StringBuilder", name := "toString", desc := "()Ljava/lang/String;" } : Jvm.MethodName) jdk_67_method_42_code (1 : Nat) (Option.some (Jvm.ClassFile.FieldType.object "java/lang/String")), Jvm.Cond.code ({ cls := "java/lang/String", name := "<init>", desc := "(Ljava/lang/StringBuilder;)V" } : Jvm.MethodName) jdk_42_method_53_code (2 : Nat) (Option.none : Option Jvm.ClassFile.FieldType), Jvm.Cond.code ({ cls := "java/lang/String", name := "<init>", desc := "(Ljava/lang/AbstractStringBuilder;Ljava/lang/Void;)V" } : Jvm.MethodName) jdk_42_method_150_code (5 : Nat) (Option.none : Option Jvm.ClassFile.FieldType), Jvm.Cond.code ({ cls := "java/lang/AbstractStringBuilder", name := "getValue", desc := "()[B" } : Jvm.MethodName) jdk_68_method_64_code (1 : Nat) (Option.some (Jvm.ClassFile.FieldType.array Jvm.ClassFile.FieldType.byte)), Jvm.Cond.code ({ cls := "java/lang/StringBuilder", name := "length", desc := "()I" } : Jvm.MethodName) jdk_67_method_93_code (1 : Nat) (Option.some Jvm.ClassFile.FieldType.int), Jvm.Cond.code ({ cls := "java/lang/AbstractStringBuilder", name := "length", desc := "()I" } : Jvm.MethodName) jdk_68_method_6_code (1 : Nat) (Option.some Jvm.ClassFile.FieldType.int), Jvm.Cond.code ({ cls := "java/util/Arrays", name := "copyOfRange", desc := "([BII)[B" } : Jvm.MethodName) jdk_65_method_132_code (3 : Nat) (Option.some (Jvm.ClassFile.FieldType.array Jvm.ClassFile.FieldType.byte)), Jvm.Cond.code ({ cls := "com/example/annotree/annotree/tree/SingleByteDecoderWithoutIndexPinLaw", name := "matches", desc := "(Ljava/lang/String;[BI)Z" } : Jvm.MethodName) method_5_code (3 : Nat) (Option.some Jvm.ClassFile.FieldType.boolean), Jvm.Cond.code ({ cls := "java/lang/String", name := "length", desc := "()I" } : Jvm.MethodName) jdk_42_method_54_code (1 : Nat) (Option.some Jvm.ClassFile.FieldType.int), Jvm.Cond.code ({ cls := "java/lang/String", name := "coder", desc := "()B" } : Jvm.MethodName) jdk_42_method_152_code (1 : Nat) (Option.some Jvm.ClassFile.FieldType.byte), Jvm.Cond.code ({ cls := "com/example/annotree/annotree/tree/SingleByteDecoderWithoutIndexPinLaw", name := "at", desc := "(Ljava/lang/String;[BII)Z" } : Jvm.MethodName) method_4_code (4 : Nat) (Option.some Jvm.ClassFile.FieldType.boolean), Jvm.Cond.code ({ cls := "java/lang/String", name := "charAt", desc := "(I)C" } : Jvm.MethodName) jdk_42_method_56_code (2 : Nat) (Option.some Jvm.ClassFile.FieldType.char), Jvm.Cond.code ({ cls := "java/lang/String", name := "isLatin1", desc := "()Z" } : Jvm.MethodName) jdk_42_method_154_code (1 : Nat) (Option.some Jvm.ClassFile.FieldType.boolean), Jvm.Cond.code ({ cls := "java/lang/StringLatin1", name := "charAt", desc := "([BI)C" } : Jvm.MethodName) jdk_43_method_2_code (2 : Nat) (Option.some Jvm.ClassFile.FieldType.char), Jvm.Cond.code ({ cls := "java/lang/String", name := "checkIndex", desc := "(II)V" } : Jvm.MethodName) jdk_42_method_155_code (2 : Nat) (Option.none : Option Jvm.ClassFile.FieldType), Jvm.Cond.code ({ cls := "jdk/internal/util/Preconditions", name := "checkIndex", desc := "(IILjava/util/function/BiFunction;)I" } : Jvm.MethodName) jdk_41_method_11_code (3 : Nat) (Option.some Jvm.ClassFile.FieldType.int), Jvm.Cond.code ({ cls := "com/example/annotree/annotree/tree/SingleByteDecoderWithoutIndexPinLaw", name := "expect", desc := "(B)C" } : Jvm.MethodName) method_3_code (2 : Nat) (Option.some Jvm.ClassFile.FieldType.char), Jvm.Cond.code ({ cls := "com/example/annotree/annotree/tree/Index", name := "codePoint", desc := "(I)I" } : Jvm.MethodName) prog_25_method_7_code (2 : Nat) (Option.some Jvm.ClassFile.FieldType.int), Jvm.Cond.code ({ cls := "java/lang/AbstractStringBuilder", name := "inflate", desc := "()V" } : Jvm.MethodName) jdk_68_method_11_code (2 : Nat) (Option.none : Option Jvm.ClassFile.FieldType), Jvm.Cond.code ({ cls := "java/lang/StringUTF16", name := "newBytesFor", desc := "(I)[B" } : Jvm.MethodName) jdk_52_method_2_code (1 : Nat) (Option.some (Jvm.ClassFile.FieldType.array Jvm.ClassFile.FieldType.byte)), Jvm.Cond.code ({ cls := "java/lang/StringUTF16", name := "newBytesLength", desc := "(I)I" } : Jvm.MethodName) jdk_52_method_3_code (1 : Nat) (Option.some Jvm.ClassFile.FieldType.int), Jvm.Cond.code ({ cls := "java/lang/StringLatin1", name := "inflate", desc := "([BI[BII)V" } : Jvm.MethodName) jdk_43_method_50_code (5 : Nat) (Option.none : Option Jvm.ClassFile.FieldType), Jvm.Cond.code ({ cls := "java/lang/StringUTF16", name := "inflate", desc := "([BI[BII)V" } : Jvm.MethodName) jdk_52_method_86_code (6 : Nat) (Option.none : Option Jvm.ClassFile.FieldType), Jvm.Cond.code ({ cls := "java/lang/StringUTF16", name := "checkBoundsOffCount", desc := "(II[B)V" } : Jvm.MethodName) jdk_52_method_94_code (3 : Nat) (Option.none : Option Jvm.ClassFile.FieldType), Jvm.Cond.code ({ cls := "java/lang/StringUTF16", name := "length", desc := "([B)I" } : Jvm.MethodName) jdk_52_method_6_code (1 : Nat) (Option.some Jvm.ClassFile.FieldType.int), Jvm.Cond.code ({ cls := "java/lang/String", name := "checkBoundsOffCount", desc := "(III)I" } : Jvm.MethodName) jdk_42_method_157_code (3 : Nat) (Option.some Jvm.ClassFile.FieldType.int), Jvm.Cond.code ({ cls := "jdk/internal/util/Preconditions", name := "checkFromIndexSize", desc := "(IIILjava/util/function/BiFunction;)I" } : Jvm.MethodName) jdk_41_method_13_code (4 : Nat) (Option.some Jvm.ClassFile.FieldType.int), Jvm.Cond.code ({ cls := "java/lang/StringUTF16", name := "putChar", desc := "([BII)V" } : Jvm.MethodName) jdk_52_method_4_code (3 : Nat) (Option.none : Option Jvm.ClassFile.FieldType), Jvm.Cond.code ({ cls := "java/lang/StringUTF16", name := "putCharSB", desc := "([BII)V" } : Jvm.MethodName) jdk_52_method_71_code (3 : Nat) (Option.none : Option Jvm.ClassFile.FieldType), Jvm.Cond.code ({ cls := "java/lang/StringUTF16", name := "checkIndex", desc := "(I[B)V" } : Jvm.MethodName) jdk_52_method_91_code (2 : Nat) (Option.none : Option Jvm.ClassFile.FieldType), Jvm.Cond.code ({ cls := "java/lang/StringUTF16", name := "charAt", desc := "([BI)C" } : Jvm.MethodName) jdk_52_method_83_code (2 : Nat) (Option.some Jvm.ClassFile.FieldType.char), Jvm.Cond.code ({ cls := "java/lang/StringUTF16", name := "getChar", desc := "([BI)C" } : Jvm.MethodName) jdk_52_method_5_code (2 : Nat) (Option.some Jvm.ClassFile.FieldType.char)]
set_option maxRecDepth 65536 in
theorem codes_eq : words1.filter isCode = codes1 := rfl
theorem w_codes : ∀ c ∈ words1.filter isCode, c.before args0 about1 = true := by
  rw [codes_eq]
  intro c hc
  simp only [codes1, List.mem_cons, List.not_mem_nil, or_false] at hc
  rcases hc with rfl | rfl | rfl | rfl | rfl | rfl | rfl | rfl | rfl | rfl | rfl | rfl | rfl | rfl | rfl | rfl | rfl | rfl | rfl | rfl | rfl | rfl | rfl | rfl | rfl | rfl | rfl | rfl | rfl | rfl | rfl | rfl | rfl | rfl | rfl | rfl | rfl | rfl | rfl | rfl | rfl | rfl | rfl | rfl | rfl | rfl | rfl
  · exact w_c0
  · exact w_c1
  · exact w_c2
  · exact w_c3
  · exact w_c4
  · exact w_c5
  · exact w_c6
  · exact w_c7
  · exact w_c8
  · exact w_c9
  · exact w_c10
  · exact w_c11
  · exact w_c12
  · exact w_c13
  · exact w_c14
  · exact w_c15
  · exact w_c16
  · exact w_c17
  · exact w_c18
  · exact w_c19
  · exact w_c20
  · exact w_c21
  · exact w_c22
  · exact w_c23
  · exact w_c24
  · exact w_c25
  · exact w_c26
  · exact w_c27
  · exact w_c28
  · exact w_c29
  · exact w_c30
  · exact w_c31
  · exact w_c32
  · exact w_c33
  · exact w_c34
  · exact w_c35
  · exact w_c36
  · exact w_c37
  · exact w_c38
  · exact w_c39
  · exact w_c40
  · exact w_c41
  · exact w_c42
  · exact w_c43
  · exact w_c44
  · exact w_c45
  · exact w_c46
set_option maxRecDepth 65536 in
theorem w_t1 : (words1.take 24).all (fun c => isCode c || c.before args0 about1) = true := by decide +kernel
set_option maxRecDepth 65536 in
theorem w_t2 : ((words1.drop 24).take 24).all (fun c => isCode c || c.before args0 about1) = true := by decide +kernel
set_option maxRecDepth 65536 in
theorem w_t3 : (((words1.drop 24).drop 24).take 24).all (fun c => isCode c || c.before args0 about1) = true := by decide +kernel
set_option maxRecDepth 65536 in
theorem w_t4 : ((((words1.drop 24).drop 24).drop 24).take 24).all (fun c => isCode c || c.before args0 about1) = true := by decide +kernel
set_option maxRecDepth 65536 in
theorem w_t5 : (((((words1.drop 24).drop 24).drop 24).drop 24).take 24).all (fun c => isCode c || c.before args0 about1) = true := by decide +kernel
set_option maxRecDepth 65536 in
theorem w_t6 : ((((((words1.drop 24).drop 24).drop 24).drop 24).drop 24).take 24).all (fun c => isCode c || c.before args0 about1) = true := by decide +kernel
set_option maxRecDepth 65536 in
theorem w_t7 : (((((((words1.drop 24).drop 24).drop 24).drop 24).drop 24).drop 24).take 24).all (fun c => isCode c || c.before args0 about1) = true := by decide +kernel
set_option maxRecDepth 65536 in
theorem w_t8 : ((((((((words1.drop 24).drop 24).drop 24).drop 24).drop 24).drop 24).drop 24).take 24).all (fun c => isCode c || c.before args0 about1) = true := by decide +kernel
set_option maxRecDepth 65536 in
theorem w_t9 : (((((((((words1.drop 24).drop 24).drop 24).drop 24).drop 24).drop 24).drop 24).drop 24).take 24).all (fun c => isCode c || c.before args0 about1) = true := by decide +kernel
set_option maxRecDepth 65536 in
theorem w_t10 : (((((((((words1.drop 24).drop 24).drop 24).drop 24).drop 24).drop 24).drop 24).drop 24).drop 24).all (fun c => isCode c || c.before args0 about1) = true := by decide +kernel
theorem w_tables : (allAtoms (Jvm.Cond.code x code maxLocals ret :: tables_1)).before args0 about1 = true := by
  rw [allAtoms_all]
  show words1.all (fun c => c.before args0 about1) = true
  refine all_split ?_ w_codes
  rw [← List.take_append_drop 24 words1, List.all_append, w_t1, ← List.take_append_drop 24 (words1.drop 24), List.all_append, w_t2, ← List.take_append_drop 24 ((words1.drop 24).drop 24), List.all_append, w_t3, ← List.take_append_drop 24 (((words1.drop 24).drop 24).drop 24), List.all_append, w_t4, ← List.take_append_drop 24 ((((words1.drop 24).drop 24).drop 24).drop 24), List.all_append, w_t5, ← List.take_append_drop 24 (((((words1.drop 24).drop 24).drop 24).drop 24).drop 24), List.all_append, w_t6, ← List.take_append_drop 24 ((((((words1.drop 24).drop 24).drop 24).drop 24).drop 24).drop 24), List.all_append, w_t7, ← List.take_append_drop 24 (((((((words1.drop 24).drop 24).drop 24).drop 24).drop 24).drop 24).drop 24), List.all_append, w_t8, ← List.take_append_drop 24 ((((((((words1.drop 24).drop 24).drop 24).drop 24).drop 24).drop 24).drop 24).drop 24), List.all_append, w_t9, w_t10]
  rfl
set_option maxRecDepth 65536 in
theorem w_rest : rest_1_c.before args0 about1 = true := by decide +kernel
set_option maxRecDepth 65536 in
theorem w_case : (Jvm.Cond.and given_1 narrow_1).before args0 about1 = true := by decide +kernel
theorem w_applies : (headSpec (Jvm.Cond.code x code maxLocals ret :: tables_1) room_1).applies x e0.platform about1 = true :=
  (Spec.applies_iff w_frames).mpr ⟨w_running, w_runnable, w_alone, w_named, w_hears, w_ripe, w_room, w_tables⟩
theorem atStart : AtStart classFile x code maxLocals ret World_1 tables_1 room_1 Calls_1 rest_1 Pre_1 launch0 p0 e0 about1 theMethod args0 below0 :=
  ⟨lists_1, trivial, launch0.admits_env _ _ _, launch0.least_env, fairChoices_fair.cas, fairChoices_fair.clock, w_frames, w_args, w_heap, w_applies, trivial, w_rest, w_case⟩
end start1
theorem witness_1 : WitnessClaimed_1 := ⟨start1.p0, start1.e0, start1.about1, start1.theMethod, start1.args0, start1.below0, start1.atStart⟩
end Jvm.Pilot.@@N@@
