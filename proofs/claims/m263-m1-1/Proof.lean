import JvmDerived
import JvmDerived.Pilot.@@N@@Statement
import JvmDerived.Pilot.@@N@@Code
set_option linter.unusedVariables false
set_option linter.unusedSimpArgs false
namespace Jvm.RoadKit
open Sem ClassFile Op Lib Jvm.Stand Jvm.Free Jvm.LawKit
/-- the run from S comes to an end that Post allows -/
def own_Fin (tb : Tables) (e : Env) (below : List Frame) (Post : Outcome → State → Prop) (S : State) : Prop := ∃ s₂ o, Steps tb e below S s₂ ∧ s₂.status = .running ∧ Ended s₂ below o ∧ Post o s₂
def own_post (Q : Option Value → Heap → List Loc → Prop) (s : State) (k n : Nat) (o : Outcome) (U : State) : Prop := ∃ v L, o = .returned v ∧ Q v U.heap L ∧ FrameEnd s o U L k n
def own_bool (P : Prop) (v : Option Value) : Prop := (v = some (.int 1) ∧ P) ∨ (v = some (.int 0) ∧ ¬ P)
theorem own_Fin.step {tb : Tables} {e : Env} {below : List Frame} {Post : Outcome → State → Prop} {S S' : State} (h : ∀ t, Steps tb e below S' t → Steps tb e below S t) (k : own_Fin tb e below Post S') : own_Fin tb e below Post S := by
  obtain ⟨s2, o, h1, h2⟩ := k
  exact ⟨s2, o, h _ h1, h2⟩
theorem own_Fin.trans {tb : Tables} {e : Env} {below : List Frame} {Post : Outcome → State → Prop} {S S' : State} (h : Steps tb e below S S') (k : own_Fin tb e below Post S') : own_Fin tb e below Post S := by
  obtain ⟨s2, o, h1, h2⟩ := k
  exact ⟨s2, o, h.trans h1, h2⟩
section New
variable {p : Program} {l : Launch} {e : Env} {R : Room} {s : State} {m : MethodId} {args : Array Value} {below : List Frame} {meth : Method} {c : Code} {T : State} {locs : List Loc} {cells slots : Nat} {Q : Option Value → Heap → List Loc → Prop} {kc ks : Nat} {h : Heap}
theorem retI (X : Stand p l e R s m args below meth c T locs cells slots) (hx : p.tables.exec = Jvm.exec) {pc : Nat} {Ls : Array Slot} {z : Int32} {rest : List Value} (hret : meth.sig.returnType = some .int) (hd : decode c.code pc = .ok (.ireturn, 1)) {fs : List Frame}
    (hl : ∀ (f : JFrame) (acts : List Action), f.method = m → f.locked = none → f.entered = [] → (doReturn e (T.setTop f) acts (some (.int z))).1 = T.setFrames fs) : Steps p.tables e below (T.setTop (mkF m pc Ls (.int z :: rest))) (T.setFrames fs) := by
  have hm' : T.vm.method? m = some meth := X.method'
  have hn : narrow .int (.int z) = .int z := rfl
  show Steps p.tables e below (T.setTop { method := m, pc := pc, locals := Ls, stack := _ :: rest, locked := none }) _
  jvm_step X.here [X.here.top, hx, hd, hm', hret, hn]
  first | (intro acts; rw [hl _ acts rfl rfl rfl]) | rw [hl _ _ rfl rfl rfl]
  exact Steps.refl _
theorem own_retN (X : Stand p l e R s m args below meth c T locs cells slots) (hx : p.tables.exec = Jvm.exec) (hlk : meth.locks = false) {pc : Nat} {Ls : Array Slot} {z : Int32} {t : FieldType} {rest : List Value} (hret : meth.sig.returnType = some t) (ht : t = .boolean ∨ t = .byte ∨ t = .char ∨ t = .short)
    (hd : decode c.code pc = .ok (.ireturn, 1)) (eT : T.heap = h) (hq : Q (some (.int (nar t z))) h locs) (hc : cells ≤ kc) (hs : slots ≤ ks) : own_Fin p.tables e below (own_post Q s kc ks) (T.setTop (mkF m pc Ls (.int z :: rest))) := by
  obtain ⟨fs, hr, hrun, hended, hW, hsame⟩ := X.leave (v := some (.int (nar t z))) (fun h => by rw [hret] at h; cases h) hlk
  exact ⟨_, _, retN X hx hret ht hd hr, hrun, hended, _, _, rfl, (eT ▸ hq : Q (some (.int (nar t z))) T.heap locs), ⟨_, rfl⟩, hW, hsame.mono hc hs⟩
theorem own_retI (X : Stand p l e R s m args below meth c T locs cells slots) (hx : p.tables.exec = Jvm.exec) (hlk : meth.locks = false) {pc : Nat} {Ls : Array Slot} {z : Int32} {rest : List Value} (hret : meth.sig.returnType = some .int)
    (hd : decode c.code pc = .ok (.ireturn, 1)) (eT : T.heap = h) (hq : Q (some (.int z)) h locs) (hc : cells ≤ kc) (hs : slots ≤ ks) : own_Fin p.tables e below (own_post Q s kc ks) (T.setTop (mkF m pc Ls (.int z :: rest))) := by
  obtain ⟨fs, hr, hrun, hended, hW, hsame⟩ := X.leave (v := some (.int z)) (fun h => by rw [hret] at h; cases h) hlk
  exact ⟨_, _, retI X hx hret hd hr, hrun, hended, _, _, rfl, (eT ▸ hq : Q (some (.int z)) T.heap locs), ⟨_, rfl⟩, hW, hsame.mono hc hs⟩
theorem own_retJ (X : Stand p l e R s m args below meth c T locs cells slots) (hx : p.tables.exec = Jvm.exec) (hlk : meth.locks = false) {pc : Nat} {Ls : Array Slot} {z : Int64} (hret : meth.sig.returnType = some .long)
    (hd : decode c.code pc = .ok (.lreturn, 1)) (eT : T.heap = h) (hq : Q (some (.long z)) h locs) (hc : cells ≤ kc) (hs : slots ≤ ks) : own_Fin p.tables e below (own_post Q s kc ks) (T.setTop (mkF m pc Ls [.long z])) := by
  obtain ⟨fs, hr, hrun, hended, hW, hsame⟩ := X.leave (v := some (.long z)) (fun h => by rw [hret] at h; cases h) hlk
  exact ⟨_, _, X.lreturnOut hx hret hd hr, hrun, hended, _, _, rfl, (eT ▸ hq : Q (some (.long z)) T.heap locs), ⟨_, rfl⟩, hW, hsame.mono hc hs⟩
theorem own_retR (X : Stand p l e R s m args below meth c T locs cells slots) (hx : p.tables.exec = Jvm.exec) (hlk : meth.locks = false) {pc : Nat} {Ls : Array Slot} {w : Value} {t : FieldType} (hw : w.isRef = true) (hret : meth.sig.returnType = some t) (ht : t.isReference = true)
    (hd : decode c.code pc = .ok (.areturn, 1)) (eT : T.heap = h) (hq : Q (some w) h locs) (hc : cells ≤ kc) (hs : slots ≤ ks) : own_Fin p.tables e below (own_post Q s kc ks) (T.setTop (mkF m pc Ls [w])) := by
  obtain ⟨fs, hr, hrun, hended, hW, hsame⟩ := X.leave (v := some w) (fun h => by rw [hret] at h; cases h) hlk
  exact ⟨_, _, X.areturnOut hx hw hret ht hd hr, hrun, hended, _, _, rfl, (eT ▸ hq : Q (some w) T.heap locs), ⟨_, rfl⟩, hW, hsame.mono hc hs⟩
theorem own_retV (X : Stand p l e R s m args below meth c T locs cells slots) (hx : p.tables.exec = Jvm.exec) (hlk : meth.locks = false) {pc : Nat} {Ls : Array Slot} (hret : meth.sig.returnType = none)
    (hd : decode c.code pc = .ok (.return_, 1)) (eT : T.heap = h) (hq : Q none h locs) (hc : cells ≤ kc) (hs : slots ≤ ks) : own_Fin p.tables e below (own_post Q s kc ks) (T.setTop (mkF m pc Ls [])) := by
  obtain ⟨fs, hr, hrun, hended, hW, hsame⟩ := X.leave (v := none) (fun _ => rfl) hlk
  exact ⟨_, _, X.returnOut hx hret hd hr, hrun, hended, _, _, rfl, (eT ▸ hq : Q none T.heap locs), ⟨_, rfl⟩, hW, hsame.mono hc hs⟩
theorem own_cat1 {v : Value} (h : v.isRef = true) : v.category = 1 := by cases v <;> simp [Value.isRef, Value.category] at h ⊢
theorem own_fitR {v : Value} {C : String} (h : v.isRef = true) : fits (.object C) v = true := by cases v <;> simp [Value.isRef, fits] at h ⊢
theorem own_fitA {v : Value} {ty : FieldType} (h : v.isRef = true) : fits (.array ty) v = true := by cases v <;> simp [Value.isRef, fits] at h ⊢
theorem own_selPriv {s : State} {args : Array Value} {y : MethodName} {n : Nat} (hi : (Cond.instantiable y.cls n).before args s = true) (hpriv : s.PrivateAt y) (hinst : (Cond.instanceMethod y).before args s = true) (hy : y.cls ≠ "java/lang/invoke/MethodHandle" ∧ y.cls ≠ "java/lang/invoke/VarHandle") : (Cond.selects y.cls y y).before args s = true := by
  obtain ⟨c, k, h1, h2, -, h4, -, -⟩ := Cond.instantiable_spec hi
  have h5 : k.isInterface = false := by
    cases hk : k.isInterface with
    | false => rfl
    | true => simp [hk] at h4
  exact selects_self_of_private h1 h2 h5 hpriv hinst hy
theorem own_eqI {a b : Term} {args : Array Value} {first st : State} {o : Option Outcome} {idx : List Nat} {y : Int32} (h : (Cond.eq a b).value args first o st idx = some true) (hb : b.eval args first o idx st = some (.int y)) : a.eval args first o idx st = some (.int y) := by
  cases ha : a.eval args first o idx st with
  | none => simp [Cond.value, ha] at h
  | some x => cases x <;> simp [Cond.value, ha, hb] at h ⊢ <;> exact h
theorem own_eqR {a b : Term} {args : Array Value} {first st : State} {o : Option Outcome} {idx : List Nat} {y : Addr} (h : (Cond.eq a b).value args first o st idx = some true) (hb : b.eval args first o idx st = some (.ref y)) : a.eval args first o idx st = some (.ref y) := by
  cases ha : a.eval args first o idx st with
  | none => simp [Cond.value, ha] at h
  | some x => cases x <;> simp [Cond.value, ha, hb] at h ⊢ <;> exact h
theorem own_elem {t : Term} {args : Array Value} {Z : State} {a : Addr} {cl : Cell} {ty : FieldType} {j : Int32} {v : Value} (ev : t.eval args Z none [] Z = some (.ref a)) (A : Arr Z Z.heap a cl ty) (h : (Term.elem t (.int j)).eval args Z none [] Z = some v) : cl.slots[j.toNatClampNeg]? = some v := by
  obtain ⟨a', j', cell, e1, e2, e3, -, e5⟩ := Term.elem_spec h
  cases e1.symm.trans ev
  have e6 : some (Value.int j) = some (Value.int j') := e2
  cases e6
  have := IntBox.arrayAt_of A.1 A.2.1 A.2.2
  cases e3.symm.trans this
  exact e5
theorem own_arv {t : Term} {args : Array Value} {Z : State} {a : Addr} {cl : Cell} {ty : FieldType} {z : Int32} {vs : List Value} {dv : Value} (hf : Fit Z) (ev : t.eval args Z none [] Z = some (.ref a)) (A : Arr Z Z.heap a cl ty) (hl : (Term.length t).eval args Z none [] Z = some (.int z)) (hz : ¬ z < 0) (hn : z.toNatClampNeg = vs.length) (H : HasL cl 0 vs) : Arv Z Z.heap a cl.cls ty z vs dv := by
  have hA := IntBox.arrayAt_of A.1 A.2.1 A.2.2
  have hlt : cl.slots.size < 2 ^ 31 := by
    by_cases hq : cl.slots.size < 2 ^ 31
    · exact hq
    · simp [Term.eval, ev, hA, hq] at hl
  have e := len_f (t := t) (args := args) (first := Z) (o := none) (idx := []) ev hA hlt
  have e2 : cl.slots.size.toInt32 = z := by
    have := e.symm.trans hl
    cases this; rfl
  exact Arv.start hf A hlt e2 hz hn H
end New
end Jvm.RoadKit
namespace Jvm.Pilot.@@N@@
open Jvm Jvm.ClassFile Sem Op Lib Jvm.Free Jvm.Stand Jvm.LawKit Jvm.RoadKit Bundle Jvm.Pilot.@@N@@.Jvm.D
theorem d2_0 : decode jdk_30_method_1_code 0 = .ok (.aload_n 0, 1) := by decide +kernel
theorem d2_1 : decode jdk_30_method_1_code 1 = .ok (.invokespecial 1, 3) := by decide +kernel
theorem d2_4 : decode jdk_30_method_1_code 4 = .ok (.return_, 1) := by decide +kernel
theorem pn_2 : plainName "java/lang/Record" = true := by first | (simp [plainName, overriddenIn]; done) | decide +kernel
theorem ef_2 (m : MethodId) (x0 : Addr) : entryFrame m #[(.ref x0)] 1 = mkF m 0 #[.val (.ref x0)] [] := by first | (simp [entryFrame, mkF, argsToLocals, Value.category]; done) | rfl
def Q2 (Z : State) (a1 : Addr) (h0 : Heap) (n0 : Nat) (v : Option Value) (h : Heap) (L : List Loc) : Prop := v = none ∧ Fr n0 L ∧ h = h0
set_option maxRecDepth 65536 in
set_option maxHeartbeats 40000000 in
theorem rm2 (l : Launch) (Z : State) (a0 : Array Value) (hw : ∀ d ∈ tables_1, d.before a0 Z = true) (ws : List Jvm.Cond) (a1 : Addr) (h0 : Heap) (n0 : Nat) (Z0 : n0 ≤ h0.size)  :
    MetFree l (⟨"java/lang/Record", "<init>", "()V"⟩ : MethodName) (head1 (Jvm.Cond.code (⟨"java/lang/Record", "<init>", "()V"⟩ : MethodName) jdk_30_method_1_code 1 none :: ws) ({ frames := 1, cells := 0, slots := 0, locals := 12 } : Room)) (fun a U => a = #[(.ref a1)] ∧ Z.Warmed39 U.vm ∧ U.heap = h0) (fun _ _ _ _ _ => True) (fun _ U o U' => ∃ v L, o = .returned v ∧ Q2 Z a1 h0 n0 v U'.heap L ∧ FrameEnd U o U' L ({ frames := 1, cells := 0, slots := 0, locals := 12 } : Room).cells ({ frames := 1, cells := 0, slots := 0, locals := 12 } : Room).slots) := by
  refine MetFree.of_bodySF (plainFor_of_name pn_2) hisR ?_
  intro p e s m args below meth c s₁ Bd hml0 hP hK
  obtain ⟨rfl, hZ, hh⟩ := hP
  have hx := Bd.exec
  have hby := Bd.bytes
  have hml : c.maxLocals = 1 := hml0
  have hown : s.vm.findClass "java/lang/Record" = some m.cls := findClass_of_methodNamed Bd.named
  have hnm := (name_of_methodNamed Bd.named Bd.method).1
  have hlk : meth.locks = false := BodyLoose.notSynchronized Bd
  have hrt := Bd.returns
  have X0 : Stand p l e ({ frames := 1, cells := 0, slots := 0, locals := 12 } : Room) s m #[(.ref a1)] below meth c s₁ [] 0 0 := Stand.of_body Bd
  have e0 : s₁.heap = h0 := by rw [← hh, Bd.state]; rfl
  have N0 := Fr.nil n0
  show own_Fin p.tables e below (own_post (Q2 Z a1 h0 n0) s ({ frames := 1, cells := 0, slots := 0, locals := 12 } : Room).cells ({ frames := 1, cells := 0, slots := 0, locals := 12 } : Room).slots) (s₁.setTop (entryFrame m #[(.ref a1)] 1))
  refine own_Fin.step (fun t k => castTop (ef_2 m a1) k) ?_
  refine own_Fin.step (S' := s₁.setTop (mkF m 1 #[.val (.ref a1)] [(.ref a1)])) (fun t k => XS.aloadN X0.here hx rfl (hb hby d2_0) rfl rfl  k) ?_
  obtain ⟨T1, X1, e1, st1⟩ := initO X0 hx hZ hown (hw _ (List.mem_of_getElem? (i := 11) rfl)) (hw _ (List.mem_of_getElem? (i := 12) rfl)) (hw _ (List.mem_of_getElem? (i := 13) rfl)) e0 (g := (mkF m 1 #[.val (.ref a1)] [(.ref a1)])) rfl (by rw [hml]; rfl) rfl (hb hby d2_1) (by decide) (W := 0) (by show 2 * 0 + _ ≤ _; exact Nat.le_of_eq rfl) (by decide)
  refine own_Fin.step (S' := T1.setTop (mkF m 4 #[.val (.ref a1)] [])) st1 ?_
  have hq2 : Q2 Z a1 h0 n0 none h0 _ := ⟨rfl, N0, rfl⟩
  exact own_retV X1 hx hlk hrt (hb hby d2_4) e1 hq2 (by decide) (by decide)
theorem d1_0 : decode prog_43_method_1_code 0 = .ok (.aload_n 0, 1) := by decide +kernel
theorem d1_1 : decode prog_43_method_1_code 1 = .ok (.invokespecial 1, 3) := by decide +kernel
theorem d1_4 : decode prog_43_method_1_code 4 = .ok (.aload_n 0, 1) := by decide +kernel
theorem d1_5 : decode prog_43_method_1_code 5 = .ok (.lload_n 1, 1) := by decide +kernel
theorem d1_6 : decode prog_43_method_1_code 6 = .ok (.putfield 7, 3) := by decide +kernel
theorem d1_9 : decode prog_43_method_1_code 9 = .ok (.aload_n 0, 1) := by decide +kernel
theorem d1_10 : decode prog_43_method_1_code 10 = .ok (.lload_n 3, 1) := by decide +kernel
theorem d1_11 : decode prog_43_method_1_code 11 = .ok (.putfield 13, 3) := by decide +kernel
theorem d1_14 : decode prog_43_method_1_code 14 = .ok (.aload_n 0, 1) := by decide +kernel
theorem d1_15 : decode prog_43_method_1_code 15 = .ok (.iload 5, 2) := by decide +kernel
theorem d1_17 : decode prog_43_method_1_code 17 = .ok (.putfield 16, 3) := by decide +kernel
theorem d1_20 : decode prog_43_method_1_code 20 = .ok (.aload_n 0, 1) := by decide +kernel
theorem d1_21 : decode prog_43_method_1_code 21 = .ok (.iload 6, 2) := by decide +kernel
theorem d1_23 : decode prog_43_method_1_code 23 = .ok (.putfield 20, 3) := by decide +kernel
theorem d1_26 : decode prog_43_method_1_code 26 = .ok (.return_, 1) := by decide +kernel
theorem pn_1 : plainName "com/example/mullion/mullion/service/Frame" = true := by first | (simp [plainName, overriddenIn]; done) | decide +kernel
theorem pd_1_0 : parseMethodDescriptor "()V" = some ⟨[], none⟩ := by decide +kernel
theorem ef_1 (m : MethodId) (x0 : Addr) (x1 : Int64) (x2 : Int64) (x3 : Int32) (x4 : Int32) : entryFrame m #[(.ref x0), (.long x1), (.long x2), (.int x3), (.int x4)] 7 = mkF m 0 #[.val (.ref x0), .val (.long x1), .second, .val (.long x2), .second, .val (.int x3), .val (.int x4)] [] := by first | (simp [entryFrame, mkF, argsToLocals, Value.category]; done) | rfl
def Q1 (Z : State) (a1 : Addr) (q1 : Int64) (q2 : Int64) (q3 : Int32) (q4 : Int32) (u0 : Value) (u1 : Value) (u2 : Value) (u3 : Value) (h0 : Heap) (n0 : Nat) (v : Option Value) (h : Heap) (L : List Loc) : Prop := v = none ∧ Fr n0 L ∧ Keep h0 h [a1] ∧ Exa Z h a1 "com/example/mullion/mullion/service/Frame" ∧ Fld Z h a1 "com/example/mullion/mullion/service/Frame" "left" "J" (.long q1) ∧ Fld Z h a1 "com/example/mullion/mullion/service/Frame" "top" "J" (.long q2) ∧ Fld Z h a1 "com/example/mullion/mullion/service/Frame" "width" "I" (.int q3) ∧ Fld Z h a1 "com/example/mullion/mullion/service/Frame" "height" "I" (.int q4)
set_option maxRecDepth 65536 in
set_option maxHeartbeats 40000000 in
theorem rm1 (l : Launch) (Z : State) (a0 : Array Value) (hw : ∀ d ∈ tables_1, d.before a0 Z = true) (ws : List Jvm.Cond) (a1 : Addr) (q1 : Int64) (q2 : Int64) (q3 : Int32) (q4 : Int32) (u0 : Value) (u1 : Value) (u2 : Value) (u3 : Value) (h0 : Heap) (n0 : Nat) (Z0 : n0 ≤ h0.size) (P0 : Exa Z h0 a1 "com/example/mullion/mullion/service/Frame") (P1 : Fld Z h0 a1 "com/example/mullion/mullion/service/Frame" "left" "J" u0) (P2 : Fld Z h0 a1 "com/example/mullion/mullion/service/Frame" "top" "J" u1) (P3 : Fld Z h0 a1 "com/example/mullion/mullion/service/Frame" "width" "I" u2) (P4 : Fld Z h0 a1 "com/example/mullion/mullion/service/Frame" "height" "I" u3) (g_a1 : n0 ≤ a1) :
    MetFree l (⟨"com/example/mullion/mullion/service/Frame", "<init>", "(JJII)V"⟩ : MethodName) (head1 (Jvm.Cond.code (⟨"com/example/mullion/mullion/service/Frame", "<init>", "(JJII)V"⟩ : MethodName) prog_43_method_1_code 7 none :: ws) ({ frames := 2, cells := 0, slots := 0, locals := 24 } : Room)) (fun a U => a = #[(.ref a1), (.long q1), (.long q2), (.int q3), (.int q4)] ∧ Z.Warmed39 U.vm ∧ U.heap = h0) (fun _ _ _ _ _ => True) (fun _ U o U' => ∃ v L, o = .returned v ∧ Q1 Z a1 q1 q2 q3 q4 u0 u1 u2 u3 h0 n0 v U'.heap L ∧ FrameEnd U o U' L ({ frames := 2, cells := 0, slots := 0, locals := 24 } : Room).cells ({ frames := 2, cells := 0, slots := 0, locals := 24 } : Room).slots) := by
  refine MetFree.of_bodySF (plainFor_of_name pn_1) hisR ?_
  intro p e s m args below meth c s₁ Bd hml0 hP hK
  obtain ⟨rfl, hZ, hh⟩ := hP
  have hx := Bd.exec
  have hby := Bd.bytes
  have hml : c.maxLocals = 7 := hml0
  have hown : s.vm.findClass "com/example/mullion/mullion/service/Frame" = some m.cls := findClass_of_methodNamed Bd.named
  have hnm := (name_of_methodNamed Bd.named Bd.method).1
  have hlk : meth.locks = false := BodyLoose.notSynchronized Bd
  have hrt := Bd.returns
  have X0 : Stand p l e ({ frames := 2, cells := 0, slots := 0, locals := 24 } : Room) s m #[(.ref a1), (.long q1), (.long q2), (.int q3), (.int q4)] below meth c s₁ [] 0 0 := Stand.of_body Bd
  have e0 : s₁.heap = h0 := by rw [← hh, Bd.state]; rfl
  have N0 := Fr.nil n0
  show own_Fin p.tables e below (own_post (Q1 Z a1 q1 q2 q3 q4 u0 u1 u2 u3 h0 n0) s ({ frames := 2, cells := 0, slots := 0, locals := 24 } : Room).cells ({ frames := 2, cells := 0, slots := 0, locals := 24 } : Room).slots) (s₁.setTop (entryFrame m #[(.ref a1), (.long q1), (.long q2), (.int q3), (.int q4)] 7))
  refine own_Fin.step (fun t k => castTop (ef_1 m a1 q1 q2 q3 q4) k) ?_
  have lt_P0 := P0.lt
  have lt_P1 := P1.lt
  have lt_P2 := P2.lt
  have lt_P3 := P3.lt
  have lt_P4 := P4.lt
  refine own_Fin.step (S' := s₁.setTop (mkF m 1 #[.val (.ref a1), .val (.long q1), .second, .val (.long q2), .second, .val (.int q3), .val (.int q4)] [(.ref a1)])) (fun t k => XS.aloadN X0.here hx rfl (hb hby d1_0) rfl rfl  k) ?_
  obtain ⟨_, _, ⟨T3, L3, k3, n3⟩, -, X3, ⟨Lc3, hQ3, l3, y3, zz3⟩, st3⟩ := X0.specialBack hx (y := (⟨"java/lang/Record", "<init>", "()V"⟩ : MethodName)) rfl hown (mvT hZ (hw _ (List.mem_of_getElem? (i := 6) rfl))) (mvT hZ (hw _ (List.mem_of_getElem? (i := 7) rfl))) (mvT hZ (hw _ (List.mem_of_getElem? (i := 10) rfl))) (by decide) (backOf (W := 0) (rm2 l Z a0 hw [] a1 h0 n0 (by omega) ) hZ (hw _ (List.mem_of_getElem? (i := 10) rfl)) (hw _ (List.mem_of_getElem? (i := 9) rfl)) (by decide) (by decide)) (g := (mkF m 1 #[.val (.ref a1), .val (.long q1), .second, .val (.long q2), .second, .val (.int q3), .val (.int q4)] [(.ref a1)])) rfl (by rw [hml]; rfl) (Steps.refl _) (a := a1) (argsL := []) (rest := []) (lenOf pd_1_0 rfl) rfl (by show 2 * 0 + _ ≤ _; exact Nat.le_of_eq rfl) (hb hby d1_1) (fun _ _ => ⟨rfl, e0, (by decide : 0 + 0 ≤ _), (by decide : 0 + 0 ≤ _)⟩)
  dsimp only [Pt.U, Pt.locs, Pt.cells, Pt.slots] at X3 l3 y3 zz3 st3 hQ3
  subst l3 y3 zz3
  obtain ⟨rfl, N3q, e3⟩ := hQ3
  have N3 := Fr.app N0 N3q
  refine own_Fin.trans (S' := T3.setTop (mkF m 4 #[.val (.ref a1), .val (.long q1), .second, .val (.long q2), .second, .val (.int q3), .val (.int q4)] [])) st3 ?_
  refine own_Fin.step (S' := T3.setTop (mkF m 5 #[.val (.ref a1), .val (.long q1), .second, .val (.long q2), .second, .val (.int q3), .val (.int q4)] [(.ref a1)])) (fun t k => XS.aloadN X3.here hx rfl (hb hby d1_4) rfl rfl  k) ?_
  refine own_Fin.step (S' := T3.setTop (mkF m 6 #[.val (.ref a1), .val (.long q1), .second, .val (.long q2), .second, .val (.int q3), .val (.int q4)] [(.long q1), (.ref a1)])) (fun t k => XS.lloadN X3.here hx rfl (hb hby d1_5) rfl  k) ?_
  obtain ⟨T4, h4, X4, e4, W4, st4⟩ := putF X3 hx hZ hown (host := "") (Or.inl (hw _ (List.mem_of_getElem? (i := 14) rfl))) Via.refl e3 P1 P0 (Or.inr ⟨(hw _ (List.mem_of_getElem? (i := 15) rfl)), rfl, hnm⟩) (hw _ (List.mem_of_getElem? (i := 1) rfl)) (ty := .long) (by decide) rfl rfl (g := (mkF m 6 #[.val (.ref a1), .val (.long q1), .second, .val (.long q2), .second, .val (.int q3), .val (.int q4)] [(.long q1), (.ref a1)])) rfl rfl (hb hby d1_6)
  have F4 := Fld.same W4 P1
  have z4 := W4.size
  have KK4 : Keep h0 h4 [a1] := (Keep.refl h0 [a1]).wr W4 (Or.inl (by simp))
  have N4 := Fr.snoc X4 N3 (by omega)
  refine own_Fin.step (S' := T4.setTop (mkF m 9 #[.val (.ref a1), .val (.long q1), .second, .val (.long q2), .second, .val (.int q3), .val (.int q4)] [])) st4 ?_
  refine own_Fin.step (S' := T4.setTop (mkF m 10 #[.val (.ref a1), .val (.long q1), .second, .val (.long q2), .second, .val (.int q3), .val (.int q4)] [(.ref a1)])) (fun t k => XS.aloadN X4.here hx rfl (hb hby d1_9) rfl rfl  k) ?_
  refine own_Fin.step (S' := T4.setTop (mkF m 11 #[.val (.ref a1), .val (.long q1), .second, .val (.long q2), .second, .val (.int q3), .val (.int q4)] [(.long q2), (.ref a1)])) (fun t k => XS.lloadN X4.here hx rfl (hb hby d1_10) rfl  k) ?_
  have f5 : Exa Z h4 a1 "com/example/mullion/mullion/service/Frame" := (Exa.wr W4 P0)
  have f6 : Fld Z h4 a1 "com/example/mullion/mullion/service/Frame" "top" "J" u1 := (Fld.other W4 P2 (Or.inr (slot_ne (Or.inr (hw _ (List.mem_of_getElem? (i := 17) rfl))) (Or.inr (hw _ (List.mem_of_getElem? (i := 15) rfl))) (by decide) (t := .long) (t' := .long) (by decide) (by decide))))
  obtain ⟨T7, h7, X7, e7, W7, st7⟩ := putF X4 hx hZ hown (host := "") (Or.inl (hw _ (List.mem_of_getElem? (i := 16) rfl))) Via.refl e4 f6 f5 (Or.inr ⟨(hw _ (List.mem_of_getElem? (i := 17) rfl)), rfl, hnm⟩) (hw _ (List.mem_of_getElem? (i := 1) rfl)) (ty := .long) (by decide) rfl rfl (g := (mkF m 11 #[.val (.ref a1), .val (.long q1), .second, .val (.long q2), .second, .val (.int q3), .val (.int q4)] [(.long q2), (.ref a1)])) rfl rfl (hb hby d1_11)
  have F7 := Fld.same W7 f6
  have z7 := W7.size
  have KK7 : Keep h0 h7 [a1] := KK4.wr W7 (Or.inl (by simp))
  have N7 := Fr.snoc X7 N4 (by omega)
  refine own_Fin.step (S' := T7.setTop (mkF m 14 #[.val (.ref a1), .val (.long q1), .second, .val (.long q2), .second, .val (.int q3), .val (.int q4)] [])) st7 ?_
  refine own_Fin.step (S' := T7.setTop (mkF m 15 #[.val (.ref a1), .val (.long q1), .second, .val (.long q2), .second, .val (.int q3), .val (.int q4)] [(.ref a1)])) (fun t k => XS.aloadN X7.here hx rfl (hb hby d1_14) rfl rfl  k) ?_
  refine own_Fin.step (S' := T7.setTop (mkF m 17 #[.val (.ref a1), .val (.long q1), .second, .val (.long q2), .second, .val (.int q3), .val (.int q4)] [(.int q3), (.ref a1)])) (fun t k => XS.iload X7.here hx rfl (hb hby d1_15) rfl  k) ?_
  have f8 : Exa Z h7 a1 "com/example/mullion/mullion/service/Frame" := (Exa.wr W7 f5)
  have f9 : Fld Z h7 a1 "com/example/mullion/mullion/service/Frame" "width" "I" u2 := (Fld.other W7 (Fld.other W4 P3 (Or.inr (slot_ne (Or.inr (hw _ (List.mem_of_getElem? (i := 19) rfl))) (Or.inr (hw _ (List.mem_of_getElem? (i := 15) rfl))) (by decide) (t := .int) (t' := .long) (by decide) (by decide)))) (Or.inr (slot_ne (Or.inr (hw _ (List.mem_of_getElem? (i := 19) rfl))) (Or.inr (hw _ (List.mem_of_getElem? (i := 17) rfl))) (by decide) (t := .int) (t' := .long) (by decide) (by decide))))
  obtain ⟨T10, h10, X10, e10, W10, st10⟩ := putF X7 hx hZ hown (host := "") (Or.inl (hw _ (List.mem_of_getElem? (i := 18) rfl))) Via.refl e7 f9 f8 (Or.inr ⟨(hw _ (List.mem_of_getElem? (i := 19) rfl)), rfl, hnm⟩) (hw _ (List.mem_of_getElem? (i := 1) rfl)) (ty := .int) (by decide) rfl rfl (g := (mkF m 17 #[.val (.ref a1), .val (.long q1), .second, .val (.long q2), .second, .val (.int q3), .val (.int q4)] [(.int q3), (.ref a1)])) rfl rfl (hb hby d1_17)
  have F10 := Fld.same W10 f9
  have z10 := W10.size
  have KK10 : Keep h0 h10 [a1] := KK7.wr W10 (Or.inl (by simp))
  have N10 := Fr.snoc X10 N7 (by omega)
  refine own_Fin.step (S' := T10.setTop (mkF m 20 #[.val (.ref a1), .val (.long q1), .second, .val (.long q2), .second, .val (.int q3), .val (.int q4)] [])) st10 ?_
  refine own_Fin.step (S' := T10.setTop (mkF m 21 #[.val (.ref a1), .val (.long q1), .second, .val (.long q2), .second, .val (.int q3), .val (.int q4)] [(.ref a1)])) (fun t k => XS.aloadN X10.here hx rfl (hb hby d1_20) rfl rfl  k) ?_
  refine own_Fin.step (S' := T10.setTop (mkF m 23 #[.val (.ref a1), .val (.long q1), .second, .val (.long q2), .second, .val (.int q3), .val (.int q4)] [(.int q4), (.ref a1)])) (fun t k => XS.iload X10.here hx rfl (hb hby d1_21) rfl  k) ?_
  have f11 : Exa Z h10 a1 "com/example/mullion/mullion/service/Frame" := (Exa.wr W10 f8)
  have f12 : Fld Z h10 a1 "com/example/mullion/mullion/service/Frame" "height" "I" u3 := (Fld.other W10 (Fld.other W7 (Fld.other W4 P4 (Or.inr (slot_ne (Or.inr (hw _ (List.mem_of_getElem? (i := 21) rfl))) (Or.inr (hw _ (List.mem_of_getElem? (i := 15) rfl))) (by decide) (t := .int) (t' := .long) (by decide) (by decide)))) (Or.inr (slot_ne (Or.inr (hw _ (List.mem_of_getElem? (i := 21) rfl))) (Or.inr (hw _ (List.mem_of_getElem? (i := 17) rfl))) (by decide) (t := .int) (t' := .long) (by decide) (by decide)))) (Or.inr (slot_ne (Or.inr (hw _ (List.mem_of_getElem? (i := 21) rfl))) (Or.inr (hw _ (List.mem_of_getElem? (i := 19) rfl))) (by decide) (t := .int) (t' := .int) (by decide) (by decide))))
  obtain ⟨T13, h13, X13, e13, W13, st13⟩ := putF X10 hx hZ hown (host := "") (Or.inl (hw _ (List.mem_of_getElem? (i := 20) rfl))) Via.refl e10 f12 f11 (Or.inr ⟨(hw _ (List.mem_of_getElem? (i := 21) rfl)), rfl, hnm⟩) (hw _ (List.mem_of_getElem? (i := 1) rfl)) (ty := .int) (by decide) rfl rfl (g := (mkF m 23 #[.val (.ref a1), .val (.long q1), .second, .val (.long q2), .second, .val (.int q3), .val (.int q4)] [(.int q4), (.ref a1)])) rfl rfl (hb hby d1_23)
  have F13 := Fld.same W13 f12
  have z13 := W13.size
  have KK13 : Keep h0 h13 [a1] := KK10.wr W13 (Or.inl (by simp))
  have N13 := Fr.snoc X13 N10 (by omega)
  refine own_Fin.step (S' := T13.setTop (mkF m 26 #[.val (.ref a1), .val (.long q1), .second, .val (.long q2), .second, .val (.int q3), .val (.int q4)] [])) st13 ?_
  have f15 : Exa Z h13 a1 "com/example/mullion/mullion/service/Frame" := (Exa.wr W13 f11)
  have f16 : Fld Z h13 a1 "com/example/mullion/mullion/service/Frame" "left" "J" (.long q1) := (Fld.other W13 (Fld.other W10 (Fld.other W7 F4 (Or.inr (slot_ne (Or.inr (hw _ (List.mem_of_getElem? (i := 15) rfl))) (Or.inr (hw _ (List.mem_of_getElem? (i := 17) rfl))) (by decide) (t := .long) (t' := .long) (by decide) (by decide)))) (Or.inr (slot_ne (Or.inr (hw _ (List.mem_of_getElem? (i := 15) rfl))) (Or.inr (hw _ (List.mem_of_getElem? (i := 19) rfl))) (by decide) (t := .long) (t' := .int) (by decide) (by decide)))) (Or.inr (slot_ne (Or.inr (hw _ (List.mem_of_getElem? (i := 15) rfl))) (Or.inr (hw _ (List.mem_of_getElem? (i := 21) rfl))) (by decide) (t := .long) (t' := .int) (by decide) (by decide))))
  have f17 : Fld Z h13 a1 "com/example/mullion/mullion/service/Frame" "top" "J" (.long q2) := (Fld.other W13 (Fld.other W10 F7 (Or.inr (slot_ne (Or.inr (hw _ (List.mem_of_getElem? (i := 17) rfl))) (Or.inr (hw _ (List.mem_of_getElem? (i := 19) rfl))) (by decide) (t := .long) (t' := .int) (by decide) (by decide)))) (Or.inr (slot_ne (Or.inr (hw _ (List.mem_of_getElem? (i := 17) rfl))) (Or.inr (hw _ (List.mem_of_getElem? (i := 21) rfl))) (by decide) (t := .long) (t' := .int) (by decide) (by decide))))
  have f18 : Fld Z h13 a1 "com/example/mullion/mullion/service/Frame" "width" "I" (.int q3) := (Fld.other W13 F10 (Or.inr (slot_ne (Or.inr (hw _ (List.mem_of_getElem? (i := 19) rfl))) (Or.inr (hw _ (List.mem_of_getElem? (i := 21) rfl))) (by decide) (t := .int) (t' := .int) (by decide) (by decide))))
  have hq14 : Q1 Z a1 q1 q2 q3 q4 u0 u1 u2 u3 h0 n0 none h13 _ := ⟨rfl, N13, KK13, f15, f16, f17, f18, F13⟩
  exact own_retV X13 hx hlk hrt (hb hby d1_26) e13 hq14 (by decide) (by decide)
theorem d4_0 : decode prog_43_method_2_code 0 = .ok (.iload_n 1, 1) := by decide +kernel
theorem d4_1 : decode prog_43_method_2_code 1 = .ok (.i2l, 1) := by decide +kernel
theorem d4_2 : decode prog_43_method_2_code 2 = .ok (.aload_n 0, 1) := by decide +kernel
theorem d4_3 : decode prog_43_method_2_code 3 = .ok (.getfield 7, 3) := by decide +kernel
theorem d4_6 : decode prog_43_method_2_code 6 = .ok (.lcmp, 1) := by decide +kernel
theorem d4_7 : decode prog_43_method_2_code 7 = .ok (.ifCond .lt 49, 3) := by decide +kernel
theorem d4_10 : decode prog_43_method_2_code 10 = .ok (.iload_n 1, 1) := by decide +kernel
theorem d4_11 : decode prog_43_method_2_code 11 = .ok (.i2l, 1) := by decide +kernel
theorem d4_12 : decode prog_43_method_2_code 12 = .ok (.aload_n 0, 1) := by decide +kernel
theorem d4_13 : decode prog_43_method_2_code 13 = .ok (.getfield 7, 3) := by decide +kernel
theorem d4_16 : decode prog_43_method_2_code 16 = .ok (.aload_n 0, 1) := by decide +kernel
theorem d4_17 : decode prog_43_method_2_code 17 = .ok (.getfield 16, 3) := by decide +kernel
theorem d4_20 : decode prog_43_method_2_code 20 = .ok (.i2l, 1) := by decide +kernel
theorem d4_21 : decode prog_43_method_2_code 21 = .ok (.ladd, 1) := by decide +kernel
theorem d4_22 : decode prog_43_method_2_code 22 = .ok (.lcmp, 1) := by decide +kernel
theorem d4_23 : decode prog_43_method_2_code 23 = .ok (.ifCond .ge 33, 3) := by decide +kernel
theorem d4_26 : decode prog_43_method_2_code 26 = .ok (.iload_n 2, 1) := by decide +kernel
theorem d4_27 : decode prog_43_method_2_code 27 = .ok (.i2l, 1) := by decide +kernel
theorem d4_28 : decode prog_43_method_2_code 28 = .ok (.aload_n 0, 1) := by decide +kernel
theorem d4_29 : decode prog_43_method_2_code 29 = .ok (.getfield 13, 3) := by decide +kernel
theorem d4_32 : decode prog_43_method_2_code 32 = .ok (.lcmp, 1) := by decide +kernel
theorem d4_33 : decode prog_43_method_2_code 33 = .ok (.ifCond .lt 23, 3) := by decide +kernel
theorem d4_36 : decode prog_43_method_2_code 36 = .ok (.iload_n 2, 1) := by decide +kernel
theorem d4_37 : decode prog_43_method_2_code 37 = .ok (.i2l, 1) := by decide +kernel
theorem d4_38 : decode prog_43_method_2_code 38 = .ok (.aload_n 0, 1) := by decide +kernel
theorem d4_39 : decode prog_43_method_2_code 39 = .ok (.getfield 13, 3) := by decide +kernel
theorem d4_42 : decode prog_43_method_2_code 42 = .ok (.aload_n 0, 1) := by decide +kernel
theorem d4_43 : decode prog_43_method_2_code 43 = .ok (.getfield 20, 3) := by decide +kernel
theorem d4_46 : decode prog_43_method_2_code 46 = .ok (.i2l, 1) := by decide +kernel
theorem d4_47 : decode prog_43_method_2_code 47 = .ok (.ladd, 1) := by decide +kernel
theorem d4_48 : decode prog_43_method_2_code 48 = .ok (.lcmp, 1) := by decide +kernel
theorem d4_49 : decode prog_43_method_2_code 49 = .ok (.ifCond .ge 7, 3) := by decide +kernel
theorem d4_52 : decode prog_43_method_2_code 52 = .ok (.iconst 1, 1) := by decide +kernel
theorem d4_53 : decode prog_43_method_2_code 53 = .ok (.goto 4, 3) := by decide +kernel
theorem d4_56 : decode prog_43_method_2_code 56 = .ok (.iconst 0, 1) := by decide +kernel
theorem d4_57 : decode prog_43_method_2_code 57 = .ok (.ireturn, 1) := by decide +kernel
theorem pn_4 : plainName "com/example/mullion/mullion/service/Frame" = true := by first | (simp [plainName, overriddenIn]; done) | decide +kernel
theorem ef_4 (m : MethodId) (x0 : Addr) (x1 : Int32) (x2 : Int32) : entryFrame m #[(.ref x0), (.int x1), (.int x2)] 3 = mkF m 0 #[.val (.ref x0), .val (.int x1), .val (.int x2)] [] := by first | (simp [entryFrame, mkF, argsToLocals, Value.category]; done) | rfl
def Q4 (Z : State) (a1 : Addr) (px : Int32) (py : Int32) (q1 : Int64) (q2 : Int64) (q3 : Int32) (q4 : Int32) (h0 : Heap) (n0 : Nat) (v : Option Value) (h : Heap) (L : List Loc) : Prop := own_bool (¬ px.toInt64 < q1 ∧ px.toInt64 < q1 + q3.toInt64 ∧ ¬ py.toInt64 < q2 ∧ py.toInt64 < q2 + q4.toInt64) v ∧ Fr n0 L ∧ h = h0
set_option maxRecDepth 65536 in
set_option maxHeartbeats 40000000 in
theorem rm4 (l : Launch) (Z : State) (a0 : Array Value) (hw : ∀ d ∈ tables_1, d.before a0 Z = true) (ws : List Jvm.Cond) (a1 : Addr) (px : Int32) (py : Int32) (q1 : Int64) (q2 : Int64) (q3 : Int32) (q4 : Int32) (h0 : Heap) (n0 : Nat) (Z0 : n0 ≤ h0.size) (P0 : Fld Z h0 a1 "com/example/mullion/mullion/service/Frame" "left" "J" (.long q1)) (P1 : Fld Z h0 a1 "com/example/mullion/mullion/service/Frame" "top" "J" (.long q2)) (P2 : Fld Z h0 a1 "com/example/mullion/mullion/service/Frame" "width" "I" (.int q3)) (P3 : Fld Z h0 a1 "com/example/mullion/mullion/service/Frame" "height" "I" (.int q4)) :
    MetFree l (⟨"com/example/mullion/mullion/service/Frame", "holds", "(II)Z"⟩ : MethodName) (head1 (Jvm.Cond.code (⟨"com/example/mullion/mullion/service/Frame", "holds", "(II)Z"⟩ : MethodName) prog_43_method_2_code 3 (some .boolean) :: ws) ({ frames := 0, cells := 0, slots := 0, locals := 0 } : Room)) (fun a U => a = #[(.ref a1), (.int px), (.int py)] ∧ Z.Warmed39 U.vm ∧ U.heap = h0) (fun _ _ _ _ _ => True) (fun _ U o U' => ∃ v L, o = .returned v ∧ Q4 Z a1 px py q1 q2 q3 q4 h0 n0 v U'.heap L ∧ FrameEnd U o U' L ({ frames := 0, cells := 0, slots := 0, locals := 0 } : Room).cells ({ frames := 0, cells := 0, slots := 0, locals := 0 } : Room).slots) := by
  refine MetFree.of_bodySF (plainFor_of_name pn_4) hisR ?_
  intro p e s m args below meth c s₁ Bd hml0 hP hK
  obtain ⟨rfl, hZ, hh⟩ := hP
  have hx := Bd.exec
  have hby := Bd.bytes
  have hml : c.maxLocals = 3 := hml0
  have hown : s.vm.findClass "com/example/mullion/mullion/service/Frame" = some m.cls := findClass_of_methodNamed Bd.named
  have hnm := (name_of_methodNamed Bd.named Bd.method).1
  have hlk : meth.locks = false := BodyLoose.notSynchronized Bd
  have hrt := Bd.returns
  have X0 : Stand p l e ({ frames := 0, cells := 0, slots := 0, locals := 0 } : Room) s m #[(.ref a1), (.int px), (.int py)] below meth c s₁ [] 0 0 := Stand.of_body Bd
  have e0 : s₁.heap = h0 := by rw [← hh, Bd.state]; rfl
  have N0 := Fr.nil n0
  show own_Fin p.tables e below (own_post (Q4 Z a1 px py q1 q2 q3 q4 h0 n0) s ({ frames := 0, cells := 0, slots := 0, locals := 0 } : Room).cells ({ frames := 0, cells := 0, slots := 0, locals := 0 } : Room).slots) (s₁.setTop (entryFrame m #[(.ref a1), (.int px), (.int py)] 3))
  refine own_Fin.step (fun t k => castTop (ef_4 m a1 px py) k) ?_
  have lt_P0 := P0.lt
  have lt_P1 := P1.lt
  have lt_P2 := P2.lt
  have lt_P3 := P3.lt
  refine own_Fin.step (S' := s₁.setTop (mkF m 1 #[.val (.ref a1), .val (.int px), .val (.int py)] [(.int px)])) (fun t k => XS.iloadN X0.here hx rfl (hb hby d4_0) rfl  k) ?_
  refine own_Fin.step (S' := s₁.setTop (mkF m 2 #[.val (.ref a1), .val (.int px), .val (.int py)] [(.long (px.toInt64))])) (fun t k => XS.i2l X0.here hx rfl (hb hby d4_1) rfl k) ?_
  refine own_Fin.step (S' := s₁.setTop (mkF m 3 #[.val (.ref a1), .val (.int px), .val (.int py)] [(.ref a1), (.long (px.toInt64))])) (fun t k => XS.aloadN X0.here hx rfl (hb hby d4_2) rfl rfl  k) ?_
  obtain ⟨T19, X19, e19, st19⟩ := getF X0 hx hZ hown (host := "") (Or.inl (hw _ (List.mem_of_getElem? (i := 14) rfl))) Via.refl e0 P0 (g := (mkF m 3 #[.val (.ref a1), .val (.int px), .val (.int py)] [(.ref a1), (.long (px.toInt64))])) rfl rfl (hb hby d4_3)
  refine own_Fin.step (S' := T19.setTop (mkF m 6 #[.val (.ref a1), .val (.int px), .val (.int py)] [(.long q1), (.long (px.toInt64))])) st19 ?_
  refine own_Fin.step (S' := T19.setTop (mkF m 7 #[.val (.ref a1), .val (.int px), .val (.int py)] [(.int (lcmpW (px.toInt64) q1))])) (fun t k => XS.lcmp X19.here hx rfl (hb hby d4_6) rfl k) ?_
  by_cases hc7 : (px.toInt64) < q1
  · refine own_Fin.step (S' := T19.setTop (mkF m 56 #[.val (.ref a1), .val (.int px), .val (.int py)] [])) (fun t k => XS.ifYes X19.here hx rfl (pc0 := 7) (pc' := 56) rfl (hb hby d4_7) rfl ((if0 _ _).trans (tlt ((lw_lt _ _).mpr hc7)).1) (by decide) (by decide) k) ?_
    refine own_Fin.step (S' := T19.setTop (mkF m 57 #[.val (.ref a1), .val (.int px), .val (.int py)] [(.int (0 : Int32))])) (fun t k => XS.iconst X19.here hx rfl (hb hby d4_56) k) ?_
    have hq20 : Q4 Z a1 px py q1 q2 q3 q4 h0 n0 (some (.int (nar .boolean (0 : Int32)))) h0 _ := ⟨Or.inr ⟨rfl, (by simp only [hc7, not_false_eq_true, not_true_eq_false, and_true, and_false, false_and, true_and])⟩, N0, rfl⟩
    exact own_retN X19 hx hlk (t := .boolean) hrt (by simp) (hb hby d4_57) e19 hq20 (by decide) (by decide)
  · refine own_Fin.step (S' := T19.setTop (mkF m 10 #[.val (.ref a1), .val (.int px), .val (.int py)] [])) (fun t k => XS.ifNo X19.here hx rfl (hb hby d4_7) rfl ((if0 _ _).trans (flt (fun q => hc7 ((lw_lt _ _).mp q))).1) k) ?_
    refine own_Fin.step (S' := T19.setTop (mkF m 11 #[.val (.ref a1), .val (.int px), .val (.int py)] [(.int px)])) (fun t k => XS.iloadN X19.here hx rfl (hb hby d4_10) rfl  k) ?_
    refine own_Fin.step (S' := T19.setTop (mkF m 12 #[.val (.ref a1), .val (.int px), .val (.int py)] [(.long (px.toInt64))])) (fun t k => XS.i2l X19.here hx rfl (hb hby d4_11) rfl k) ?_
    refine own_Fin.step (S' := T19.setTop (mkF m 13 #[.val (.ref a1), .val (.int px), .val (.int py)] [(.ref a1), (.long (px.toInt64))])) (fun t k => XS.aloadN X19.here hx rfl (hb hby d4_12) rfl rfl  k) ?_
    obtain ⟨T21, X21, e21, st21⟩ := getF X19 hx hZ hown (host := "") (Or.inl (hw _ (List.mem_of_getElem? (i := 14) rfl))) Via.refl e19 P0 (g := (mkF m 13 #[.val (.ref a1), .val (.int px), .val (.int py)] [(.ref a1), (.long (px.toInt64))])) rfl rfl (hb hby d4_13)
    refine own_Fin.step (S' := T21.setTop (mkF m 16 #[.val (.ref a1), .val (.int px), .val (.int py)] [(.long q1), (.long (px.toInt64))])) st21 ?_
    refine own_Fin.step (S' := T21.setTop (mkF m 17 #[.val (.ref a1), .val (.int px), .val (.int py)] [(.ref a1), (.long q1), (.long (px.toInt64))])) (fun t k => XS.aloadN X21.here hx rfl (hb hby d4_16) rfl rfl  k) ?_
    obtain ⟨T22, X22, e22, st22⟩ := getF X21 hx hZ hown (host := "") (Or.inl (hw _ (List.mem_of_getElem? (i := 18) rfl))) Via.refl e21 P2 (g := (mkF m 17 #[.val (.ref a1), .val (.int px), .val (.int py)] [(.ref a1), (.long q1), (.long (px.toInt64))])) rfl rfl (hb hby d4_17)
    refine own_Fin.step (S' := T22.setTop (mkF m 20 #[.val (.ref a1), .val (.int px), .val (.int py)] [(.int q3), (.long q1), (.long (px.toInt64))])) st22 ?_
    refine own_Fin.step (S' := T22.setTop (mkF m 21 #[.val (.ref a1), .val (.int px), .val (.int py)] [(.long (q3.toInt64)), (.long q1), (.long (px.toInt64))])) (fun t k => XS.i2l X22.here hx rfl (hb hby d4_20) rfl k) ?_
    refine own_Fin.step (S' := T22.setTop (mkF m 22 #[.val (.ref a1), .val (.int px), .val (.int py)] [(.long (q1 + (q3.toInt64))), (.long (px.toInt64))])) (fun t k => XS.ladd X22.here hx rfl (hb hby d4_21) rfl k) ?_
    refine own_Fin.step (S' := T22.setTop (mkF m 23 #[.val (.ref a1), .val (.int px), .val (.int py)] [(.int (lcmpW (px.toInt64) (q1 + (q3.toInt64))))])) (fun t k => XS.lcmp X22.here hx rfl (hb hby d4_22) rfl k) ?_
    by_cases hc23 : (px.toInt64) < (q1 + (q3.toInt64))
    · refine own_Fin.step (S' := T22.setTop (mkF m 26 #[.val (.ref a1), .val (.int px), .val (.int py)] [])) (fun t k => XS.ifNo X22.here hx rfl (hb hby d4_23) rfl ((if0 _ _).trans (tlt ((lw_lt _ _).mpr hc23)).2.1) k) ?_
      refine own_Fin.step (S' := T22.setTop (mkF m 27 #[.val (.ref a1), .val (.int px), .val (.int py)] [(.int py)])) (fun t k => XS.iloadN X22.here hx rfl (hb hby d4_26) rfl  k) ?_
      refine own_Fin.step (S' := T22.setTop (mkF m 28 #[.val (.ref a1), .val (.int px), .val (.int py)] [(.long (py.toInt64))])) (fun t k => XS.i2l X22.here hx rfl (hb hby d4_27) rfl k) ?_
      refine own_Fin.step (S' := T22.setTop (mkF m 29 #[.val (.ref a1), .val (.int px), .val (.int py)] [(.ref a1), (.long (py.toInt64))])) (fun t k => XS.aloadN X22.here hx rfl (hb hby d4_28) rfl rfl  k) ?_
      obtain ⟨T23, X23, e23, st23⟩ := getF X22 hx hZ hown (host := "") (Or.inl (hw _ (List.mem_of_getElem? (i := 16) rfl))) Via.refl e22 P1 (g := (mkF m 29 #[.val (.ref a1), .val (.int px), .val (.int py)] [(.ref a1), (.long (py.toInt64))])) rfl rfl (hb hby d4_29)
      refine own_Fin.step (S' := T23.setTop (mkF m 32 #[.val (.ref a1), .val (.int px), .val (.int py)] [(.long q2), (.long (py.toInt64))])) st23 ?_
      refine own_Fin.step (S' := T23.setTop (mkF m 33 #[.val (.ref a1), .val (.int px), .val (.int py)] [(.int (lcmpW (py.toInt64) q2))])) (fun t k => XS.lcmp X23.here hx rfl (hb hby d4_32) rfl k) ?_
      by_cases hc33 : (py.toInt64) < q2
      · refine own_Fin.step (S' := T23.setTop (mkF m 56 #[.val (.ref a1), .val (.int px), .val (.int py)] [])) (fun t k => XS.ifYes X23.here hx rfl (pc0 := 33) (pc' := 56) rfl (hb hby d4_33) rfl ((if0 _ _).trans (tlt ((lw_lt _ _).mpr hc33)).1) (by decide) (by decide) k) ?_
        refine own_Fin.step (S' := T23.setTop (mkF m 57 #[.val (.ref a1), .val (.int px), .val (.int py)] [(.int (0 : Int32))])) (fun t k => XS.iconst X23.here hx rfl (hb hby d4_56) k) ?_
        have hq24 : Q4 Z a1 px py q1 q2 q3 q4 h0 n0 (some (.int (nar .boolean (0 : Int32)))) h0 _ := ⟨Or.inr ⟨rfl, (by simp only [hc7, hc23, hc33, not_false_eq_true, not_true_eq_false, and_true, and_false, false_and, true_and])⟩, N0, rfl⟩
        exact own_retN X23 hx hlk (t := .boolean) hrt (by simp) (hb hby d4_57) e23 hq24 (by decide) (by decide)
      · refine own_Fin.step (S' := T23.setTop (mkF m 36 #[.val (.ref a1), .val (.int px), .val (.int py)] [])) (fun t k => XS.ifNo X23.here hx rfl (hb hby d4_33) rfl ((if0 _ _).trans (flt (fun q => hc33 ((lw_lt _ _).mp q))).1) k) ?_
        refine own_Fin.step (S' := T23.setTop (mkF m 37 #[.val (.ref a1), .val (.int px), .val (.int py)] [(.int py)])) (fun t k => XS.iloadN X23.here hx rfl (hb hby d4_36) rfl  k) ?_
        refine own_Fin.step (S' := T23.setTop (mkF m 38 #[.val (.ref a1), .val (.int px), .val (.int py)] [(.long (py.toInt64))])) (fun t k => XS.i2l X23.here hx rfl (hb hby d4_37) rfl k) ?_
        refine own_Fin.step (S' := T23.setTop (mkF m 39 #[.val (.ref a1), .val (.int px), .val (.int py)] [(.ref a1), (.long (py.toInt64))])) (fun t k => XS.aloadN X23.here hx rfl (hb hby d4_38) rfl rfl  k) ?_
        obtain ⟨T25, X25, e25, st25⟩ := getF X23 hx hZ hown (host := "") (Or.inl (hw _ (List.mem_of_getElem? (i := 16) rfl))) Via.refl e23 P1 (g := (mkF m 39 #[.val (.ref a1), .val (.int px), .val (.int py)] [(.ref a1), (.long (py.toInt64))])) rfl rfl (hb hby d4_39)
        refine own_Fin.step (S' := T25.setTop (mkF m 42 #[.val (.ref a1), .val (.int px), .val (.int py)] [(.long q2), (.long (py.toInt64))])) st25 ?_
        refine own_Fin.step (S' := T25.setTop (mkF m 43 #[.val (.ref a1), .val (.int px), .val (.int py)] [(.ref a1), (.long q2), (.long (py.toInt64))])) (fun t k => XS.aloadN X25.here hx rfl (hb hby d4_42) rfl rfl  k) ?_
        obtain ⟨T26, X26, e26, st26⟩ := getF X25 hx hZ hown (host := "") (Or.inl (hw _ (List.mem_of_getElem? (i := 20) rfl))) Via.refl e25 P3 (g := (mkF m 43 #[.val (.ref a1), .val (.int px), .val (.int py)] [(.ref a1), (.long q2), (.long (py.toInt64))])) rfl rfl (hb hby d4_43)
        refine own_Fin.step (S' := T26.setTop (mkF m 46 #[.val (.ref a1), .val (.int px), .val (.int py)] [(.int q4), (.long q2), (.long (py.toInt64))])) st26 ?_
        refine own_Fin.step (S' := T26.setTop (mkF m 47 #[.val (.ref a1), .val (.int px), .val (.int py)] [(.long (q4.toInt64)), (.long q2), (.long (py.toInt64))])) (fun t k => XS.i2l X26.here hx rfl (hb hby d4_46) rfl k) ?_
        refine own_Fin.step (S' := T26.setTop (mkF m 48 #[.val (.ref a1), .val (.int px), .val (.int py)] [(.long (q2 + (q4.toInt64))), (.long (py.toInt64))])) (fun t k => XS.ladd X26.here hx rfl (hb hby d4_47) rfl k) ?_
        refine own_Fin.step (S' := T26.setTop (mkF m 49 #[.val (.ref a1), .val (.int px), .val (.int py)] [(.int (lcmpW (py.toInt64) (q2 + (q4.toInt64))))])) (fun t k => XS.lcmp X26.here hx rfl (hb hby d4_48) rfl k) ?_
        by_cases hc49 : (py.toInt64) < (q2 + (q4.toInt64))
        · refine own_Fin.step (S' := T26.setTop (mkF m 52 #[.val (.ref a1), .val (.int px), .val (.int py)] [])) (fun t k => XS.ifNo X26.here hx rfl (hb hby d4_49) rfl ((if0 _ _).trans (tlt ((lw_lt _ _).mpr hc49)).2.1) k) ?_
          refine own_Fin.step (S' := T26.setTop (mkF m 53 #[.val (.ref a1), .val (.int px), .val (.int py)] [(.int (1 : Int32))])) (fun t k => XS.iconst X26.here hx rfl (hb hby d4_52) k) ?_
          refine own_Fin.step (S' := T26.setTop (mkF m 57 #[.val (.ref a1), .val (.int px), .val (.int py)] [(.int (1 : Int32))])) (fun t k => XS.goto X26.here hx rfl (pc0 := 53) (pc' := 57) rfl (hb hby d4_53) (by decide) (by decide) k) ?_
          have hq27 : Q4 Z a1 px py q1 q2 q3 q4 h0 n0 (some (.int (nar .boolean (1 : Int32)))) h0 _ := ⟨Or.inl ⟨rfl, (by simp only [hc7, hc23, hc33, hc49, not_false_eq_true, not_true_eq_false, and_true, and_false, false_and, true_and])⟩, N0, rfl⟩
          exact own_retN X26 hx hlk (t := .boolean) hrt (by simp) (hb hby d4_57) e26 hq27 (by decide) (by decide)
        · refine own_Fin.step (S' := T26.setTop (mkF m 56 #[.val (.ref a1), .val (.int px), .val (.int py)] [])) (fun t k => XS.ifYes X26.here hx rfl (pc0 := 49) (pc' := 56) rfl (hb hby d4_49) rfl ((if0 _ _).trans (flt (fun q => hc49 ((lw_lt _ _).mp q))).2.1) (by decide) (by decide) k) ?_
          refine own_Fin.step (S' := T26.setTop (mkF m 57 #[.val (.ref a1), .val (.int px), .val (.int py)] [(.int (0 : Int32))])) (fun t k => XS.iconst X26.here hx rfl (hb hby d4_56) k) ?_
          have hq28 : Q4 Z a1 px py q1 q2 q3 q4 h0 n0 (some (.int (nar .boolean (0 : Int32)))) h0 _ := ⟨Or.inr ⟨rfl, (by simp only [hc7, hc23, hc33, hc49, not_false_eq_true, not_true_eq_false, and_true, and_false, false_and, true_and])⟩, N0, rfl⟩
          exact own_retN X26 hx hlk (t := .boolean) hrt (by simp) (hb hby d4_57) e26 hq28 (by decide) (by decide)
    · refine own_Fin.step (S' := T22.setTop (mkF m 56 #[.val (.ref a1), .val (.int px), .val (.int py)] [])) (fun t k => XS.ifYes X22.here hx rfl (pc0 := 23) (pc' := 56) rfl (hb hby d4_23) rfl ((if0 _ _).trans (flt (fun q => hc23 ((lw_lt _ _).mp q))).2.1) (by decide) (by decide) k) ?_
      refine own_Fin.step (S' := T22.setTop (mkF m 57 #[.val (.ref a1), .val (.int px), .val (.int py)] [(.int (0 : Int32))])) (fun t k => XS.iconst X22.here hx rfl (hb hby d4_56) k) ?_
      have hq29 : Q4 Z a1 px py q1 q2 q3 q4 h0 n0 (some (.int (nar .boolean (0 : Int32)))) h0 _ := ⟨Or.inr ⟨rfl, (by simp only [hc7, hc23, not_false_eq_true, not_true_eq_false, and_true, and_false, false_and, true_and])⟩, N0, rfl⟩
      exact own_retN X22 hx hlk (t := .boolean) hrt (by simp) (hb hby d4_57) e22 hq29 (by decide) (by decide)

theorem own_a {a y : Int32} {q o lf : Int64} (ho : o = (q >>> ((1 : Int32) &&& 0x3f).toInt64)) (hl : lf = a.toInt64 - o) : (a.toInt64 < lf ↔ o < 0) ∧ (a.toInt64 < lf + y.toInt64 ↔ o < y.toInt64) := by
  have h1 := c_lshr q 1 1 (by decide)
  rw [← ho] at h1
  have h2 := c_lsub a.toInt64 o
  rw [← hl] at h2
  have h3 := c_ladd lf y.toInt64
  have r1 := rng64 q
  have r2 := rng64 lf
  have r3 := rng64 (lf + y.toInt64)
  have r4 := rng32 a
  have r5 := rng32 y
  have e1 := c_i2l a
  have e2 := c_i2l y
  have e0 : (0 : Int64).toInt = 0 := rfl
  simp only [Int64.lt_iff_toInt_lt]
  constructor <;> omega

theorem pn_0 : plainName "com/example/mullion/mullion/service/FrameHoldsPinLaw" = true := by first | (simp [plainName, overriddenIn]; done) | decide +kernel
theorem pd_0_0 : parseMethodDescriptor "(JJII)V" = some ⟨[.long, .long, .int, .int], none⟩ := by decide +kernel
theorem pd_0_1 : parseMethodDescriptor "(II)Z" = some ⟨[.int, .int], some .boolean⟩ := by decide +kernel
theorem ef_0 (m : MethodId) (x0 : Int32) (x1 : Int32) (x2 : Int64) (x3 : Int64) (x4 : Int32) (x5 : Int32) : entryFrame m #[(.int x0), (.int x1), (.long x2), (.long x3), (.int x4), (.int x5)] maxLocals = mkF m 0 #[.val (.int x0), .val (.int x1), .val (.long x2), .second, .val (.long x3), .second, .val (.int x4), .val (.int x5), .unset, .unset, .unset, .unset, .unset, .unset, .unset, .unset, .unset, .unset] [] := by first | (simp [entryFrame, mkF, argsToLocals, Value.category, maxLocals]; done) | rfl
def Q0 (Z : State) (i0 : Int32) (i1 : Int32) (i2 : Int64) (i3 : Int64) (i4 : Int32) (i5 : Int32) (h0 : Heap) (n0 : Nat) (v : Option Value) (h : Heap) (L : List Loc) : Prop := v = some (.int (1 : Int32)) ∧ Fr n0 L
set_option maxRecDepth 65536 in
set_option maxHeartbeats 40000000 in
theorem rm0 (l : Launch) (Z : State) (a0 : Array Value) (hw : ∀ d ∈ tables_1, d.before a0 Z = true) (ws : List Jvm.Cond) (i0 : Int32) (i1 : Int32) (i2 : Int64) (i3 : Int64) (i4 : Int32) (i5 : Int32) (h0 : Heap) (n0 : Nat) (Z0 : n0 ≤ h0.size)  :
    MetFree l x (head1 (Jvm.Cond.code x code maxLocals ret :: ws) room_1) (fun a U => a = #[(.int i0), (.int i1), (.long i2), (.long i3), (.int i4), (.int i5)] ∧ Z.Warmed39 U.vm ∧ U.heap = h0) (fun _ _ _ _ _ => True) (fun _ U o U' => ∃ v L, o = .returned v ∧ Q0 Z i0 i1 i2 i3 i4 i5 h0 n0 v U'.heap L ∧ FrameEnd U o U' L 16 128) := by
  refine MetFree.of_bodySF (plainFor_of_name pn_0) hisR ?_
  intro p e s m args below meth c s₁ Bd hml0 hP hK
  obtain ⟨rfl, hZ, hh⟩ := hP
  have hx := Bd.exec
  have hby := Bd.bytes
  have hml : c.maxLocals = 18 := hml0
  have hown : s.vm.findClass "com/example/mullion/mullion/service/FrameHoldsPinLaw" = some m.cls := findClass_of_methodNamed Bd.named
  have hnm := (name_of_methodNamed Bd.named Bd.method).1
  have hlk : meth.locks = false := BodyLoose.notSynchronized Bd
  have hrt := Bd.returns
  have X0 : Stand p l e room_1 s m #[(.int i0), (.int i1), (.long i2), (.long i3), (.int i4), (.int i5)] below meth c s₁ [] 0 0 := Stand.of_body Bd
  have e0 : s₁.heap = h0 := by rw [← hh, Bd.state]; rfl
  have N0 := Fr.nil n0
  show own_Fin p.tables e below (own_post (Q0 Z i0 i1 i2 i3 i4 i5 h0 n0) s 16 128) (s₁.setTop (entryFrame m #[(.int i0), (.int i1), (.long i2), (.long i3), (.int i4), (.int i5)] maxLocals))
  refine own_Fin.step (fun t k => castTop (ef_0 m i0 i1 i2 i3 i4 i5) k) ?_
  refine own_Fin.step (S' := s₁.setTop (mkF m 1 #[.val (.int i0), .val (.int i1), .val (.long i2), .second, .val (.long i3), .second, .val (.int i4), .val (.int i5), .unset, .unset, .unset, .unset, .unset, .unset, .unset, .unset, .unset, .unset] [(.long i2)])) (fun t k => XS.lloadN X0.here hx rfl (hb hby at_0) rfl  k) ?_
  refine own_Fin.step (S' := s₁.setTop (mkF m 2 #[.val (.int i0), .val (.int i1), .val (.long i2), .second, .val (.long i3), .second, .val (.int i4), .val (.int i5), .unset, .unset, .unset, .unset, .unset, .unset, .unset, .unset, .unset, .unset] [(.int (1 : Int32)), (.long i2)])) (fun t k => XS.iconst X0.here hx rfl (hb hby at_1) k) ?_
  refine own_Fin.step (S' := s₁.setTop (mkF m 3 #[.val (.int i0), .val (.int i1), .val (.long i2), .second, .val (.long i3), .second, .val (.int i4), .val (.int i5), .unset, .unset, .unset, .unset, .unset, .unset, .unset, .unset, .unset, .unset] [(.long (i2 >>> ((1 : Int32) &&& 0x3f).toInt64))])) (fun t k => XS.lshr X0.here hx rfl (hb hby at_2) rfl k) ?_
  obtain ⟨v3, hv3⟩ : ∃ z : Int64, z = (i2 >>> ((1 : Int32) &&& 0x3f).toInt64) := ⟨_, rfl⟩
  rw [← hv3]
  refine own_Fin.step (S' := s₁.setTop (mkF m 5 #[.val (.int i0), .val (.int i1), .val (.long i2), .second, .val (.long i3), .second, .val (.int i4), .val (.int i5), .val (.long v3), .second, .unset, .unset, .unset, .unset, .unset, .unset, .unset, .unset] [])) (fun t k => XS.lstore X0.here hx rfl (hb hby at_3) rfl (l' := #[.val (.int i0), .val (.int i1), .val (.long i2), .second, .val (.long i3), .second, .val (.int i4), .val (.int i5), .val (.long v3), .second, .unset, .unset, .unset, .unset, .unset, .unset, .unset, .unset]) rfl k) ?_
  refine own_Fin.step (S' := s₁.setTop (mkF m 7 #[.val (.int i0), .val (.int i1), .val (.long i2), .second, .val (.long i3), .second, .val (.int i4), .val (.int i5), .val (.long v3), .second, .unset, .unset, .unset, .unset, .unset, .unset, .unset, .unset] [(.long i3)])) (fun t k => XS.lload X0.here hx rfl (hb hby at_5) rfl  k) ?_
  refine own_Fin.step (S' := s₁.setTop (mkF m 8 #[.val (.int i0), .val (.int i1), .val (.long i2), .second, .val (.long i3), .second, .val (.int i4), .val (.int i5), .val (.long v3), .second, .unset, .unset, .unset, .unset, .unset, .unset, .unset, .unset] [(.int (1 : Int32)), (.long i3)])) (fun t k => XS.iconst X0.here hx rfl (hb hby at_7) k) ?_
  refine own_Fin.step (S' := s₁.setTop (mkF m 9 #[.val (.int i0), .val (.int i1), .val (.long i2), .second, .val (.long i3), .second, .val (.int i4), .val (.int i5), .val (.long v3), .second, .unset, .unset, .unset, .unset, .unset, .unset, .unset, .unset] [(.long (i3 >>> ((1 : Int32) &&& 0x3f).toInt64))])) (fun t k => XS.lshr X0.here hx rfl (hb hby at_8) rfl k) ?_
  obtain ⟨v9, hv9⟩ : ∃ z : Int64, z = (i3 >>> ((1 : Int32) &&& 0x3f).toInt64) := ⟨_, rfl⟩
  rw [← hv9]
  refine own_Fin.step (S' := s₁.setTop (mkF m 11 #[.val (.int i0), .val (.int i1), .val (.long i2), .second, .val (.long i3), .second, .val (.int i4), .val (.int i5), .val (.long v3), .second, .val (.long v9), .second, .unset, .unset, .unset, .unset, .unset, .unset] [])) (fun t k => XS.lstore X0.here hx rfl (hb hby at_9) rfl (l' := #[.val (.int i0), .val (.int i1), .val (.long i2), .second, .val (.long i3), .second, .val (.int i4), .val (.int i5), .val (.long v3), .second, .val (.long v9), .second, .unset, .unset, .unset, .unset, .unset, .unset]) rfl k) ?_
  refine own_Fin.step (S' := s₁.setTop (mkF m 12 #[.val (.int i0), .val (.int i1), .val (.long i2), .second, .val (.long i3), .second, .val (.int i4), .val (.int i5), .val (.long v3), .second, .val (.long v9), .second, .unset, .unset, .unset, .unset, .unset, .unset] [(.int i0)])) (fun t k => XS.iloadN X0.here hx rfl (hb hby at_11) rfl  k) ?_
  refine own_Fin.step (S' := s₁.setTop (mkF m 13 #[.val (.int i0), .val (.int i1), .val (.long i2), .second, .val (.long i3), .second, .val (.int i4), .val (.int i5), .val (.long v3), .second, .val (.long v9), .second, .unset, .unset, .unset, .unset, .unset, .unset] [(.long (i0.toInt64))])) (fun t k => XS.i2l X0.here hx rfl (hb hby at_12) rfl k) ?_
  refine own_Fin.step (S' := s₁.setTop (mkF m 15 #[.val (.int i0), .val (.int i1), .val (.long i2), .second, .val (.long i3), .second, .val (.int i4), .val (.int i5), .val (.long v3), .second, .val (.long v9), .second, .unset, .unset, .unset, .unset, .unset, .unset] [(.long v3), (.long (i0.toInt64))])) (fun t k => XS.lload X0.here hx rfl (hb hby at_13) rfl  k) ?_
  refine own_Fin.step (S' := s₁.setTop (mkF m 16 #[.val (.int i0), .val (.int i1), .val (.long i2), .second, .val (.long i3), .second, .val (.int i4), .val (.int i5), .val (.long v3), .second, .val (.long v9), .second, .unset, .unset, .unset, .unset, .unset, .unset] [(.long ((i0.toInt64) - v3))])) (fun t k => XS.lsub X0.here hx rfl (hb hby at_15) rfl k) ?_
  obtain ⟨v16, hv16⟩ : ∃ z : Int64, z = ((i0.toInt64) - v3) := ⟨_, rfl⟩
  rw [← hv16]
  refine own_Fin.step (S' := s₁.setTop (mkF m 18 #[.val (.int i0), .val (.int i1), .val (.long i2), .second, .val (.long i3), .second, .val (.int i4), .val (.int i5), .val (.long v3), .second, .val (.long v9), .second, .val (.long v16), .second, .unset, .unset, .unset, .unset] [])) (fun t k => XS.lstore X0.here hx rfl (hb hby at_16) rfl (l' := #[.val (.int i0), .val (.int i1), .val (.long i2), .second, .val (.long i3), .second, .val (.int i4), .val (.int i5), .val (.long v3), .second, .val (.long v9), .second, .val (.long v16), .second, .unset, .unset, .unset, .unset]) rfl k) ?_
  refine own_Fin.step (S' := s₁.setTop (mkF m 19 #[.val (.int i0), .val (.int i1), .val (.long i2), .second, .val (.long i3), .second, .val (.int i4), .val (.int i5), .val (.long v3), .second, .val (.long v9), .second, .val (.long v16), .second, .unset, .unset, .unset, .unset] [(.int i1)])) (fun t k => XS.iloadN X0.here hx rfl (hb hby at_18) rfl  k) ?_
  refine own_Fin.step (S' := s₁.setTop (mkF m 20 #[.val (.int i0), .val (.int i1), .val (.long i2), .second, .val (.long i3), .second, .val (.int i4), .val (.int i5), .val (.long v3), .second, .val (.long v9), .second, .val (.long v16), .second, .unset, .unset, .unset, .unset] [(.long (i1.toInt64))])) (fun t k => XS.i2l X0.here hx rfl (hb hby at_19) rfl k) ?_
  refine own_Fin.step (S' := s₁.setTop (mkF m 22 #[.val (.int i0), .val (.int i1), .val (.long i2), .second, .val (.long i3), .second, .val (.int i4), .val (.int i5), .val (.long v3), .second, .val (.long v9), .second, .val (.long v16), .second, .unset, .unset, .unset, .unset] [(.long v9), (.long (i1.toInt64))])) (fun t k => XS.lload X0.here hx rfl (hb hby at_20) rfl  k) ?_
  refine own_Fin.step (S' := s₁.setTop (mkF m 23 #[.val (.int i0), .val (.int i1), .val (.long i2), .second, .val (.long i3), .second, .val (.int i4), .val (.int i5), .val (.long v3), .second, .val (.long v9), .second, .val (.long v16), .second, .unset, .unset, .unset, .unset] [(.long ((i1.toInt64) - v9))])) (fun t k => XS.lsub X0.here hx rfl (hb hby at_22) rfl k) ?_
  obtain ⟨v23, hv23⟩ : ∃ z : Int64, z = ((i1.toInt64) - v9) := ⟨_, rfl⟩
  rw [← hv23]
  refine own_Fin.step (S' := s₁.setTop (mkF m 25 #[.val (.int i0), .val (.int i1), .val (.long i2), .second, .val (.long i3), .second, .val (.int i4), .val (.int i5), .val (.long v3), .second, .val (.long v9), .second, .val (.long v16), .second, .val (.long v23), .second, .unset, .unset] [])) (fun t k => XS.lstore X0.here hx rfl (hb hby at_23) rfl (l' := #[.val (.int i0), .val (.int i1), .val (.long i2), .second, .val (.long i3), .second, .val (.int i4), .val (.int i5), .val (.long v3), .second, .val (.long v9), .second, .val (.long v16), .second, .val (.long v23), .second, .unset, .unset]) rfl k) ?_
  obtain ⟨T30, h30, X30, e30, E30, A30, D30, -, st30⟩ := newO X0 hx hZ hown (hw _ (List.mem_of_getElem? (i := 0) rfl)) (hw _ (List.mem_of_getElem? (i := 1) rfl)) (hw _ (List.mem_of_getElem? (i := 2) rfl)) e0 (g := (mkF m 25 #[.val (.int i0), .val (.int i1), .val (.long i2), .second, .val (.long i3), .second, .val (.int i4), .val (.int i5), .val (.long v3), .second, .val (.long v9), .second, .val (.long v16), .second, .val (.long v23), .second, .unset, .unset] [])) rfl (hb hby at_25) (by decide) (by decide)
  obtain ⟨b30, g30⟩ : ∃ z, z = h0.size := ⟨_, rfl⟩
  rw [← g30] at A30 D30 st30
  have ll30 := A30.lt
  have z30 := E30.1
  have F31 : Fld Z h30 b30 "com/example/mullion/mullion/service/Frame" "left" "J" (.long (0 : Int64)) := D30 (Or.inr (hw _ (List.mem_of_getElem? (i := 15) rfl))) (ty := .long) (by decide)
  have F32 : Fld Z h30 b30 "com/example/mullion/mullion/service/Frame" "top" "J" (.long (0 : Int64)) := D30 (Or.inr (hw _ (List.mem_of_getElem? (i := 17) rfl))) (ty := .long) (by decide)
  have F33 : Fld Z h30 b30 "com/example/mullion/mullion/service/Frame" "width" "I" (.int (0 : Int32)) := D30 (Or.inr (hw _ (List.mem_of_getElem? (i := 19) rfl))) (ty := .int) (by decide)
  have F34 : Fld Z h30 b30 "com/example/mullion/mullion/service/Frame" "height" "I" (.int (0 : Int32)) := D30 (Or.inr (hw _ (List.mem_of_getElem? (i := 21) rfl))) (ty := .int) (by decide)
  refine own_Fin.step (S' := T30.setTop (mkF m 28 #[.val (.int i0), .val (.int i1), .val (.long i2), .second, .val (.long i3), .second, .val (.int i4), .val (.int i5), .val (.long v3), .second, .val (.long v9), .second, .val (.long v16), .second, .val (.long v23), .second, .unset, .unset] [(.ref b30)])) st30 ?_
  refine own_Fin.step (S' := T30.setTop (mkF m 29 #[.val (.int i0), .val (.int i1), .val (.long i2), .second, .val (.long i3), .second, .val (.int i4), .val (.int i5), .val (.long v3), .second, .val (.long v9), .second, .val (.long v16), .second, .val (.long v23), .second, .unset, .unset] [(.ref b30), (.ref b30)])) (fun t k => XS.dup X30.here hx rfl (hb hby at_28) rfl rfl k) ?_
  refine own_Fin.step (S' := T30.setTop (mkF m 31 #[.val (.int i0), .val (.int i1), .val (.long i2), .second, .val (.long i3), .second, .val (.int i4), .val (.int i5), .val (.long v3), .second, .val (.long v9), .second, .val (.long v16), .second, .val (.long v23), .second, .unset, .unset] [(.long v16), (.ref b30), (.ref b30)])) (fun t k => XS.lload X30.here hx rfl (hb hby at_29) rfl  k) ?_
  refine own_Fin.step (S' := T30.setTop (mkF m 33 #[.val (.int i0), .val (.int i1), .val (.long i2), .second, .val (.long i3), .second, .val (.int i4), .val (.int i5), .val (.long v3), .second, .val (.long v9), .second, .val (.long v16), .second, .val (.long v23), .second, .unset, .unset] [(.long v23), (.long v16), (.ref b30), (.ref b30)])) (fun t k => XS.lload X30.here hx rfl (hb hby at_31) rfl  k) ?_
  refine own_Fin.step (S' := T30.setTop (mkF m 35 #[.val (.int i0), .val (.int i1), .val (.long i2), .second, .val (.long i3), .second, .val (.int i4), .val (.int i5), .val (.long v3), .second, .val (.long v9), .second, .val (.long v16), .second, .val (.long v23), .second, .unset, .unset] [(.int i4), (.long v23), (.long v16), (.ref b30), (.ref b30)])) (fun t k => XS.iload X30.here hx rfl (hb hby at_33) rfl  k) ?_
  refine own_Fin.step (S' := T30.setTop (mkF m 37 #[.val (.int i0), .val (.int i1), .val (.long i2), .second, .val (.long i3), .second, .val (.int i4), .val (.int i5), .val (.long v3), .second, .val (.long v9), .second, .val (.long v16), .second, .val (.long v23), .second, .unset, .unset] [(.int i5), (.int i4), (.long v23), (.long v16), (.ref b30), (.ref b30)])) (fun t k => XS.iload X30.here hx rfl (hb hby at_35) rfl  k) ?_
  obtain ⟨_, _, ⟨T35, L35, k35, n35⟩, -, X35, ⟨Lc35, hQ35, l35, y35, zz35⟩, st35⟩ := X30.specialBack hx (y := (⟨"com/example/mullion/mullion/service/Frame", "<init>", "(JJII)V"⟩ : MethodName)) rfl hown (mvT hZ (hw _ (List.mem_of_getElem? (i := 3) rfl))) (mvT hZ (hw _ (List.mem_of_getElem? (i := 4) rfl))) (mvT hZ (hw _ (List.mem_of_getElem? (i := 5) rfl))) (by decide) (backOf (W := 1) (rm1 l Z a0 hw [] b30 v16 v23 i4 i5 (.long (0 : Int64)) (.long (0 : Int64)) (.int (0 : Int32)) (.int (0 : Int32)) h30 n0 (by omega) A30 F31 F32 F33 F34 (by omega)) hZ (hw _ (List.mem_of_getElem? (i := 5) rfl)) (hw _ (List.mem_of_getElem? (i := 2) rfl)) (by decide) (by decide)) (g := (mkF m 37 #[.val (.int i0), .val (.int i1), .val (.long i2), .second, .val (.long i3), .second, .val (.int i4), .val (.int i5), .val (.long v3), .second, .val (.long v9), .second, .val (.long v16), .second, .val (.long v23), .second, .unset, .unset] [(.int i5), (.int i4), (.long v23), (.long v16), (.ref b30), (.ref b30)])) rfl (by rw [hml]; rfl) (Steps.refl _) (a := b30) (argsL := [(.long v16), (.long v23), (.int i4), (.int i5)]) (rest := [(.ref b30)]) (lenOf pd_0_0 rfl) rfl (by show 2 * 0 + _ ≤ _; exact Nat.le_of_eq rfl) (hb hby at_37) (fun _ _ => ⟨rfl, e30, (by decide : 1 + 0 ≤ _), (by decide : 4 + 0 ≤ _)⟩)
  dsimp only [Pt.U, Pt.locs, Pt.cells, Pt.slots] at X35 l35 y35 zz35 st35 hQ35
  subst l35 y35 zz35
  obtain ⟨rfl, N35q, K35, G35_0, G35_1, G35_2, G35_3, G35_4⟩ := hQ35
  have N35 := Fr.app N0 N35q
  have z35 := K35.1
  have lt35_0 := G35_0.lt
  have lt35_1 := G35_1.lt
  have lt35_2 := G35_2.lt
  have lt35_3 := G35_3.lt
  have lt35_4 := G35_4.lt
  refine own_Fin.trans (S' := T35.setTop (mkF m 40 #[.val (.int i0), .val (.int i1), .val (.long i2), .second, .val (.long i3), .second, .val (.int i4), .val (.int i5), .val (.long v3), .second, .val (.long v9), .second, .val (.long v16), .second, .val (.long v23), .second, .unset, .unset] [(.ref b30)])) st35 ?_
  refine own_Fin.step (S' := T35.setTop (mkF m 42 #[.val (.int i0), .val (.int i1), .val (.long i2), .second, .val (.long i3), .second, .val (.int i4), .val (.int i5), .val (.long v3), .second, .val (.long v9), .second, .val (.long v16), .second, .val (.long v23), .second, .val (.ref b30), .unset] [])) (fun t k => XS.astore X35.here hx rfl (hb hby at_40) rfl rfl (l' := #[.val (.int i0), .val (.int i1), .val (.long i2), .second, .val (.long i3), .second, .val (.int i4), .val (.int i5), .val (.long v3), .second, .val (.long v9), .second, .val (.long v16), .second, .val (.long v23), .second, .val (.ref b30), .unset]) rfl k) ?_
  refine own_Fin.step (S' := T35.setTop (mkF m 43 #[.val (.int i0), .val (.int i1), .val (.long i2), .second, .val (.long i3), .second, .val (.int i4), .val (.int i5), .val (.long v3), .second, .val (.long v9), .second, .val (.long v16), .second, .val (.long v23), .second, .val (.ref b30), .unset] [(.long (0 : Int64))])) (fun t k => XS.lconst X35.here hx rfl (hb hby at_42) k) ?_
  refine own_Fin.step (S' := T35.setTop (mkF m 45 #[.val (.int i0), .val (.int i1), .val (.long i2), .second, .val (.long i3), .second, .val (.int i4), .val (.int i5), .val (.long v3), .second, .val (.long v9), .second, .val (.long v16), .second, .val (.long v23), .second, .val (.ref b30), .unset] [(.long v3), (.long (0 : Int64))])) (fun t k => XS.lload X35.here hx rfl (hb hby at_43) rfl  k) ?_
  refine own_Fin.step (S' := T35.setTop (mkF m 46 #[.val (.int i0), .val (.int i1), .val (.long i2), .second, .val (.long i3), .second, .val (.int i4), .val (.int i5), .val (.long v3), .second, .val (.long v9), .second, .val (.long v16), .second, .val (.long v23), .second, .val (.ref b30), .unset] [(.int (lcmpW (0 : Int64) v3))])) (fun t k => XS.lcmp X35.here hx rfl (hb hby at_45) rfl k) ?_
  by_cases hc46 : v3 < (0 : Int64)
  · refine own_Fin.step (S' := T35.setTop (mkF m 78 #[.val (.int i0), .val (.int i1), .val (.long i2), .second, .val (.long i3), .second, .val (.int i4), .val (.int i5), .val (.long v3), .second, .val (.long v9), .second, .val (.long v16), .second, .val (.long v23), .second, .val (.ref b30), .unset] [])) (fun t k => XS.ifYes X35.here hx rfl (pc0 := 46) (pc' := 78) rfl (hb hby at_46) rfl ((if0 _ _).trans (tlt ((lw_gt _ _).mpr hc46)).2.2.1) (by decide) (by decide) k) ?_
    refine own_Fin.step (S' := T35.setTop (mkF m 79 #[.val (.int i0), .val (.int i1), .val (.long i2), .second, .val (.long i3), .second, .val (.int i4), .val (.int i5), .val (.long v3), .second, .val (.long v9), .second, .val (.long v16), .second, .val (.long v23), .second, .val (.ref b30), .unset] [(.int (0 : Int32))])) (fun t k => XS.iconst X35.here hx rfl (hb hby at_78) k) ?_
    refine own_Fin.step (S' := T35.setTop (mkF m 81 #[.val (.int i0), .val (.int i1), .val (.long i2), .second, .val (.long i3), .second, .val (.int i4), .val (.int i5), .val (.long v3), .second, .val (.long v9), .second, .val (.long v16), .second, .val (.long v23), .second, .val (.ref b30), .val (.int (0 : Int32))] [])) (fun t k => XS.istore X35.here hx rfl (hb hby at_79) rfl (l' := #[.val (.int i0), .val (.int i1), .val (.long i2), .second, .val (.long i3), .second, .val (.int i4), .val (.int i5), .val (.long v3), .second, .val (.long v9), .second, .val (.long v16), .second, .val (.long v23), .second, .val (.ref b30), .val (.int (0 : Int32))]) rfl k) ?_
    refine own_Fin.step (S' := T35.setTop (mkF m 83 #[.val (.int i0), .val (.int i1), .val (.long i2), .second, .val (.long i3), .second, .val (.int i4), .val (.int i5), .val (.long v3), .second, .val (.long v9), .second, .val (.long v16), .second, .val (.long v23), .second, .val (.ref b30), .val (.int (0 : Int32))] [(.ref b30)])) (fun t k => XS.aload X35.here hx rfl (hb hby at_81) rfl rfl  k) ?_
    refine own_Fin.step (S' := T35.setTop (mkF m 84 #[.val (.int i0), .val (.int i1), .val (.long i2), .second, .val (.long i3), .second, .val (.int i4), .val (.int i5), .val (.long v3), .second, .val (.long v9), .second, .val (.long v16), .second, .val (.long v23), .second, .val (.ref b30), .val (.int (0 : Int32))] [(.int i0), (.ref b30)])) (fun t k => XS.iloadN X35.here hx rfl (hb hby at_83) rfl  k) ?_
    refine own_Fin.step (S' := T35.setTop (mkF m 85 #[.val (.int i0), .val (.int i1), .val (.long i2), .second, .val (.long i3), .second, .val (.int i4), .val (.int i5), .val (.long v3), .second, .val (.long v9), .second, .val (.long v16), .second, .val (.long v23), .second, .val (.ref b30), .val (.int (0 : Int32))] [(.int i1), (.int i0), (.ref b30)])) (fun t k => XS.iloadN X35.here hx rfl (hb hby at_84) rfl  k) ?_
    obtain ⟨cq36, kq36, q36a, q36b, q36c⟩ := isOf hZ rfl G35_0
    obtain ⟨_, _, ⟨T36, L36, k36, n36⟩, -, X36, ⟨Lc36, hQ36, l36, y36, zz36⟩, st36⟩ := X35.virtualBack hx (y := (⟨"com/example/mullion/mullion/service/Frame", "holds", "(II)Z"⟩ : MethodName)) (z := (⟨"com/example/mullion/mullion/service/Frame", "holds", "(II)Z"⟩ : MethodName)) hown (mvT hZ (hw _ (List.mem_of_getElem? (i := 22) rfl))) (mvT hZ (hw _ (List.mem_of_getElem? (i := 23) rfl))) (notFace_of_selects (args := #[]) (mvT hZ (hw _ (List.mem_of_getElem? (i := 25) rfl)))) (mvT hZ (hw _ (List.mem_of_getElem? (i := 25) rfl))) (mvT hZ (hw _ (List.mem_of_getElem? (i := 24) rfl))) (by decide) (backOf (W := 0) (rm4 l Z a0 hw [] b30 i0 i1 v16 v23 i4 i5 T35.heap n0 (by omega) G35_1 G35_2 G35_3 G35_4) hZ (hw _ (List.mem_of_getElem? (i := 26) rfl)) (hw _ (List.mem_of_getElem? (i := 2) rfl)) (by decide) (by decide)) q36a q36c (g := (mkF m 85 #[.val (.int i0), .val (.int i1), .val (.long i2), .second, .val (.long i3), .second, .val (.int i4), .val (.int i5), .val (.long v3), .second, .val (.long v9), .second, .val (.long v16), .second, .val (.long v23), .second, .val (.ref b30), .val (.int (0 : Int32))] [(.int i1), (.int i0), (.ref b30)])) rfl (by rw [hml]; rfl) (Steps.refl _) (argsL := [(.int i0), (.int i1)]) (rest := []) (lenOf pd_0_1 rfl) rfl (by show 2 * 0 + _ ≤ _; exact Nat.le_of_eq rfl) (hb hby at_85) (fun _ _ => ⟨rfl, rfl, (by decide : 1 + 0 ≤ _), (by decide : 4 + 0 ≤ _)⟩)
    dsimp only [Pt.U, Pt.locs, Pt.cells, Pt.slots] at X36 l36 y36 zz36 st36 hQ36
    subst l36 y36 zz36
    obtain ⟨hvc36, N36q, e36⟩ := hQ36
    have N36 := Fr.app N35 N36q
    rcases hvc36 with ⟨rfl, hp85⟩ | ⟨rfl, hp85⟩
    · refine own_Fin.trans (S' := T36.setTop (mkF m 88 #[.val (.int i0), .val (.int i1), .val (.long i2), .second, .val (.long i3), .second, .val (.int i4), .val (.int i5), .val (.long v3), .second, .val (.long v9), .second, .val (.long v16), .second, .val (.long v23), .second, .val (.ref b30), .val (.int (0 : Int32))] [(.int (1 : Int32))])) st36 ?_
      refine own_Fin.step (S' := T36.setTop (mkF m 90 #[.val (.int i0), .val (.int i1), .val (.long i2), .second, .val (.long i3), .second, .val (.int i4), .val (.int i5), .val (.long v3), .second, .val (.long v9), .second, .val (.long v16), .second, .val (.long v23), .second, .val (.ref b30), .val (.int (0 : Int32))] [(.int (0 : Int32)), (.int (1 : Int32))])) (fun t k => XS.iload X36.here hx rfl (hb hby at_88) rfl  k) ?_
      refine own_Fin.step (S' := T36.setTop (mkF m 97 #[.val (.int i0), .val (.int i1), .val (.long i2), .second, .val (.long i3), .second, .val (.int i4), .val (.int i5), .val (.long v3), .second, .val (.long v9), .second, .val (.long v16), .second, .val (.long v23), .second, .val (.ref b30), .val (.int (0 : Int32))] [])) (fun t k => XS.icmpYes X36.here hx rfl (pc0 := 90) (pc' := 97) rfl (hb hby at_90) rfl (feq (by decide : ¬ ((1 : Int32) = (0 : Int32)))).2 (by decide) (by decide) k) ?_
      refine own_Fin.step (S' := T36.setTop (mkF m 98 #[.val (.int i0), .val (.int i1), .val (.long i2), .second, .val (.long i3), .second, .val (.int i4), .val (.int i5), .val (.long v3), .second, .val (.long v9), .second, .val (.long v16), .second, .val (.long v23), .second, .val (.ref b30), .val (.int (0 : Int32))] [(.int (0 : Int32))])) (fun t k => XS.iconst X36.here hx rfl (hb hby at_97) k) ?_
      have hq37 : Q0 Z i0 i1 i2 i3 i4 i5 h0 n0 (some (.int (nar .boolean (0 : Int32)))) T35.heap _ := ⟨(by exfalso; rw [(own_a (y := i4) hv3 hv16).1, (own_a (y := i4) hv3 hv16).2, (own_a (y := i5) hv9 hv23).1, (own_a (y := i5) hv9 hv23).2] at hp85; simp only [hc46, not_false_eq_true, not_true_eq_false, and_true, and_false, false_and, true_and] at hp85), N36⟩
      exact own_retN X36 hx hlk (t := .boolean) hrt (by simp) (hb hby at_98) e36 hq37 (by decide) (by decide)
    · refine own_Fin.trans (S' := T36.setTop (mkF m 88 #[.val (.int i0), .val (.int i1), .val (.long i2), .second, .val (.long i3), .second, .val (.int i4), .val (.int i5), .val (.long v3), .second, .val (.long v9), .second, .val (.long v16), .second, .val (.long v23), .second, .val (.ref b30), .val (.int (0 : Int32))] [(.int (0 : Int32))])) st36 ?_
      refine own_Fin.step (S' := T36.setTop (mkF m 90 #[.val (.int i0), .val (.int i1), .val (.long i2), .second, .val (.long i3), .second, .val (.int i4), .val (.int i5), .val (.long v3), .second, .val (.long v9), .second, .val (.long v16), .second, .val (.long v23), .second, .val (.ref b30), .val (.int (0 : Int32))] [(.int (0 : Int32)), (.int (0 : Int32))])) (fun t k => XS.iload X36.here hx rfl (hb hby at_88) rfl  k) ?_
      refine own_Fin.step (S' := T36.setTop (mkF m 93 #[.val (.int i0), .val (.int i1), .val (.long i2), .second, .val (.long i3), .second, .val (.int i4), .val (.int i5), .val (.long v3), .second, .val (.long v9), .second, .val (.long v16), .second, .val (.long v23), .second, .val (.ref b30), .val (.int (0 : Int32))] [])) (fun t k => XS.icmpNo X36.here hx rfl (hb hby at_90) rfl (teq (by decide : ((0 : Int32) = (0 : Int32)))).2 k) ?_
      refine own_Fin.step (S' := T36.setTop (mkF m 94 #[.val (.int i0), .val (.int i1), .val (.long i2), .second, .val (.long i3), .second, .val (.int i4), .val (.int i5), .val (.long v3), .second, .val (.long v9), .second, .val (.long v16), .second, .val (.long v23), .second, .val (.ref b30), .val (.int (0 : Int32))] [(.int (1 : Int32))])) (fun t k => XS.iconst X36.here hx rfl (hb hby at_93) k) ?_
      refine own_Fin.step (S' := T36.setTop (mkF m 98 #[.val (.int i0), .val (.int i1), .val (.long i2), .second, .val (.long i3), .second, .val (.int i4), .val (.int i5), .val (.long v3), .second, .val (.long v9), .second, .val (.long v16), .second, .val (.long v23), .second, .val (.ref b30), .val (.int (0 : Int32))] [(.int (1 : Int32))])) (fun t k => XS.goto X36.here hx rfl (pc0 := 94) (pc' := 98) rfl (hb hby at_94) (by decide) (by decide) k) ?_
      have hq38 : Q0 Z i0 i1 i2 i3 i4 i5 h0 n0 (some (.int (nar .boolean (1 : Int32)))) T35.heap _ := ⟨rfl, N36⟩
      exact own_retN X36 hx hlk (t := .boolean) hrt (by simp) (hb hby at_98) e36 hq38 (by decide) (by decide)
  · refine own_Fin.step (S' := T35.setTop (mkF m 49 #[.val (.int i0), .val (.int i1), .val (.long i2), .second, .val (.long i3), .second, .val (.int i4), .val (.int i5), .val (.long v3), .second, .val (.long v9), .second, .val (.long v16), .second, .val (.long v23), .second, .val (.ref b30), .unset] [])) (fun t k => XS.ifNo X35.here hx rfl (hb hby at_46) rfl ((if0 _ _).trans (flt (fun q => hc46 ((lw_gt _ _).mp q))).2.2.1) k) ?_
    refine own_Fin.step (S' := T35.setTop (mkF m 51 #[.val (.int i0), .val (.int i1), .val (.long i2), .second, .val (.long i3), .second, .val (.int i4), .val (.int i5), .val (.long v3), .second, .val (.long v9), .second, .val (.long v16), .second, .val (.long v23), .second, .val (.ref b30), .unset] [(.long v3)])) (fun t k => XS.lload X35.here hx rfl (hb hby at_49) rfl  k) ?_
    refine own_Fin.step (S' := T35.setTop (mkF m 53 #[.val (.int i0), .val (.int i1), .val (.long i2), .second, .val (.long i3), .second, .val (.int i4), .val (.int i5), .val (.long v3), .second, .val (.long v9), .second, .val (.long v16), .second, .val (.long v23), .second, .val (.ref b30), .unset] [(.int i4), (.long v3)])) (fun t k => XS.iload X35.here hx rfl (hb hby at_51) rfl  k) ?_
    refine own_Fin.step (S' := T35.setTop (mkF m 54 #[.val (.int i0), .val (.int i1), .val (.long i2), .second, .val (.long i3), .second, .val (.int i4), .val (.int i5), .val (.long v3), .second, .val (.long v9), .second, .val (.long v16), .second, .val (.long v23), .second, .val (.ref b30), .unset] [(.long (i4.toInt64)), (.long v3)])) (fun t k => XS.i2l X35.here hx rfl (hb hby at_53) rfl k) ?_
    refine own_Fin.step (S' := T35.setTop (mkF m 55 #[.val (.int i0), .val (.int i1), .val (.long i2), .second, .val (.long i3), .second, .val (.int i4), .val (.int i5), .val (.long v3), .second, .val (.long v9), .second, .val (.long v16), .second, .val (.long v23), .second, .val (.ref b30), .unset] [(.int (lcmpW v3 (i4.toInt64)))])) (fun t k => XS.lcmp X35.here hx rfl (hb hby at_54) rfl k) ?_
    by_cases hc55 : v3 < (i4.toInt64)
    · refine own_Fin.step (S' := T35.setTop (mkF m 58 #[.val (.int i0), .val (.int i1), .val (.long i2), .second, .val (.long i3), .second, .val (.int i4), .val (.int i5), .val (.long v3), .second, .val (.long v9), .second, .val (.long v16), .second, .val (.long v23), .second, .val (.ref b30), .unset] [])) (fun t k => XS.ifNo X35.here hx rfl (hb hby at_55) rfl ((if0 _ _).trans (tlt ((lw_lt _ _).mpr hc55)).2.1) k) ?_
      refine own_Fin.step (S' := T35.setTop (mkF m 59 #[.val (.int i0), .val (.int i1), .val (.long i2), .second, .val (.long i3), .second, .val (.int i4), .val (.int i5), .val (.long v3), .second, .val (.long v9), .second, .val (.long v16), .second, .val (.long v23), .second, .val (.ref b30), .unset] [(.long (0 : Int64))])) (fun t k => XS.lconst X35.here hx rfl (hb hby at_58) k) ?_
      refine own_Fin.step (S' := T35.setTop (mkF m 61 #[.val (.int i0), .val (.int i1), .val (.long i2), .second, .val (.long i3), .second, .val (.int i4), .val (.int i5), .val (.long v3), .second, .val (.long v9), .second, .val (.long v16), .second, .val (.long v23), .second, .val (.ref b30), .unset] [(.long v9), (.long (0 : Int64))])) (fun t k => XS.lload X35.here hx rfl (hb hby at_59) rfl  k) ?_
      refine own_Fin.step (S' := T35.setTop (mkF m 62 #[.val (.int i0), .val (.int i1), .val (.long i2), .second, .val (.long i3), .second, .val (.int i4), .val (.int i5), .val (.long v3), .second, .val (.long v9), .second, .val (.long v16), .second, .val (.long v23), .second, .val (.ref b30), .unset] [(.int (lcmpW (0 : Int64) v9))])) (fun t k => XS.lcmp X35.here hx rfl (hb hby at_61) rfl k) ?_
      by_cases hc62 : v9 < (0 : Int64)
      · refine own_Fin.step (S' := T35.setTop (mkF m 78 #[.val (.int i0), .val (.int i1), .val (.long i2), .second, .val (.long i3), .second, .val (.int i4), .val (.int i5), .val (.long v3), .second, .val (.long v9), .second, .val (.long v16), .second, .val (.long v23), .second, .val (.ref b30), .unset] [])) (fun t k => XS.ifYes X35.here hx rfl (pc0 := 62) (pc' := 78) rfl (hb hby at_62) rfl ((if0 _ _).trans (tlt ((lw_gt _ _).mpr hc62)).2.2.1) (by decide) (by decide) k) ?_
        refine own_Fin.step (S' := T35.setTop (mkF m 79 #[.val (.int i0), .val (.int i1), .val (.long i2), .second, .val (.long i3), .second, .val (.int i4), .val (.int i5), .val (.long v3), .second, .val (.long v9), .second, .val (.long v16), .second, .val (.long v23), .second, .val (.ref b30), .unset] [(.int (0 : Int32))])) (fun t k => XS.iconst X35.here hx rfl (hb hby at_78) k) ?_
        refine own_Fin.step (S' := T35.setTop (mkF m 81 #[.val (.int i0), .val (.int i1), .val (.long i2), .second, .val (.long i3), .second, .val (.int i4), .val (.int i5), .val (.long v3), .second, .val (.long v9), .second, .val (.long v16), .second, .val (.long v23), .second, .val (.ref b30), .val (.int (0 : Int32))] [])) (fun t k => XS.istore X35.here hx rfl (hb hby at_79) rfl (l' := #[.val (.int i0), .val (.int i1), .val (.long i2), .second, .val (.long i3), .second, .val (.int i4), .val (.int i5), .val (.long v3), .second, .val (.long v9), .second, .val (.long v16), .second, .val (.long v23), .second, .val (.ref b30), .val (.int (0 : Int32))]) rfl k) ?_
        refine own_Fin.step (S' := T35.setTop (mkF m 83 #[.val (.int i0), .val (.int i1), .val (.long i2), .second, .val (.long i3), .second, .val (.int i4), .val (.int i5), .val (.long v3), .second, .val (.long v9), .second, .val (.long v16), .second, .val (.long v23), .second, .val (.ref b30), .val (.int (0 : Int32))] [(.ref b30)])) (fun t k => XS.aload X35.here hx rfl (hb hby at_81) rfl rfl  k) ?_
        refine own_Fin.step (S' := T35.setTop (mkF m 84 #[.val (.int i0), .val (.int i1), .val (.long i2), .second, .val (.long i3), .second, .val (.int i4), .val (.int i5), .val (.long v3), .second, .val (.long v9), .second, .val (.long v16), .second, .val (.long v23), .second, .val (.ref b30), .val (.int (0 : Int32))] [(.int i0), (.ref b30)])) (fun t k => XS.iloadN X35.here hx rfl (hb hby at_83) rfl  k) ?_
        refine own_Fin.step (S' := T35.setTop (mkF m 85 #[.val (.int i0), .val (.int i1), .val (.long i2), .second, .val (.long i3), .second, .val (.int i4), .val (.int i5), .val (.long v3), .second, .val (.long v9), .second, .val (.long v16), .second, .val (.long v23), .second, .val (.ref b30), .val (.int (0 : Int32))] [(.int i1), (.int i0), (.ref b30)])) (fun t k => XS.iloadN X35.here hx rfl (hb hby at_84) rfl  k) ?_
        obtain ⟨cq39, kq39, q39a, q39b, q39c⟩ := isOf hZ rfl G35_0
        obtain ⟨_, _, ⟨T39, L39, k39, n39⟩, -, X39, ⟨Lc39, hQ39, l39, y39, zz39⟩, st39⟩ := X35.virtualBack hx (y := (⟨"com/example/mullion/mullion/service/Frame", "holds", "(II)Z"⟩ : MethodName)) (z := (⟨"com/example/mullion/mullion/service/Frame", "holds", "(II)Z"⟩ : MethodName)) hown (mvT hZ (hw _ (List.mem_of_getElem? (i := 22) rfl))) (mvT hZ (hw _ (List.mem_of_getElem? (i := 23) rfl))) (notFace_of_selects (args := #[]) (mvT hZ (hw _ (List.mem_of_getElem? (i := 25) rfl)))) (mvT hZ (hw _ (List.mem_of_getElem? (i := 25) rfl))) (mvT hZ (hw _ (List.mem_of_getElem? (i := 24) rfl))) (by decide) (backOf (W := 0) (rm4 l Z a0 hw [] b30 i0 i1 v16 v23 i4 i5 T35.heap n0 (by omega) G35_1 G35_2 G35_3 G35_4) hZ (hw _ (List.mem_of_getElem? (i := 26) rfl)) (hw _ (List.mem_of_getElem? (i := 2) rfl)) (by decide) (by decide)) q39a q39c (g := (mkF m 85 #[.val (.int i0), .val (.int i1), .val (.long i2), .second, .val (.long i3), .second, .val (.int i4), .val (.int i5), .val (.long v3), .second, .val (.long v9), .second, .val (.long v16), .second, .val (.long v23), .second, .val (.ref b30), .val (.int (0 : Int32))] [(.int i1), (.int i0), (.ref b30)])) rfl (by rw [hml]; rfl) (Steps.refl _) (argsL := [(.int i0), (.int i1)]) (rest := []) (lenOf pd_0_1 rfl) rfl (by show 2 * 0 + _ ≤ _; exact Nat.le_of_eq rfl) (hb hby at_85) (fun _ _ => ⟨rfl, rfl, (by decide : 1 + 0 ≤ _), (by decide : 4 + 0 ≤ _)⟩)
        dsimp only [Pt.U, Pt.locs, Pt.cells, Pt.slots] at X39 l39 y39 zz39 st39 hQ39
        subst l39 y39 zz39
        obtain ⟨hvc39, N39q, e39⟩ := hQ39
        have N39 := Fr.app N35 N39q
        rcases hvc39 with ⟨rfl, hp85⟩ | ⟨rfl, hp85⟩
        · refine own_Fin.trans (S' := T39.setTop (mkF m 88 #[.val (.int i0), .val (.int i1), .val (.long i2), .second, .val (.long i3), .second, .val (.int i4), .val (.int i5), .val (.long v3), .second, .val (.long v9), .second, .val (.long v16), .second, .val (.long v23), .second, .val (.ref b30), .val (.int (0 : Int32))] [(.int (1 : Int32))])) st39 ?_
          refine own_Fin.step (S' := T39.setTop (mkF m 90 #[.val (.int i0), .val (.int i1), .val (.long i2), .second, .val (.long i3), .second, .val (.int i4), .val (.int i5), .val (.long v3), .second, .val (.long v9), .second, .val (.long v16), .second, .val (.long v23), .second, .val (.ref b30), .val (.int (0 : Int32))] [(.int (0 : Int32)), (.int (1 : Int32))])) (fun t k => XS.iload X39.here hx rfl (hb hby at_88) rfl  k) ?_
          refine own_Fin.step (S' := T39.setTop (mkF m 97 #[.val (.int i0), .val (.int i1), .val (.long i2), .second, .val (.long i3), .second, .val (.int i4), .val (.int i5), .val (.long v3), .second, .val (.long v9), .second, .val (.long v16), .second, .val (.long v23), .second, .val (.ref b30), .val (.int (0 : Int32))] [])) (fun t k => XS.icmpYes X39.here hx rfl (pc0 := 90) (pc' := 97) rfl (hb hby at_90) rfl (feq (by decide : ¬ ((1 : Int32) = (0 : Int32)))).2 (by decide) (by decide) k) ?_
          refine own_Fin.step (S' := T39.setTop (mkF m 98 #[.val (.int i0), .val (.int i1), .val (.long i2), .second, .val (.long i3), .second, .val (.int i4), .val (.int i5), .val (.long v3), .second, .val (.long v9), .second, .val (.long v16), .second, .val (.long v23), .second, .val (.ref b30), .val (.int (0 : Int32))] [(.int (0 : Int32))])) (fun t k => XS.iconst X39.here hx rfl (hb hby at_97) k) ?_
          have hq40 : Q0 Z i0 i1 i2 i3 i4 i5 h0 n0 (some (.int (nar .boolean (0 : Int32)))) T35.heap _ := ⟨(by exfalso; rw [(own_a (y := i4) hv3 hv16).1, (own_a (y := i4) hv3 hv16).2, (own_a (y := i5) hv9 hv23).1, (own_a (y := i5) hv9 hv23).2] at hp85; simp only [hc46, hc55, hc62, not_false_eq_true, not_true_eq_false, and_true, and_false, false_and, true_and] at hp85), N39⟩
          exact own_retN X39 hx hlk (t := .boolean) hrt (by simp) (hb hby at_98) e39 hq40 (by decide) (by decide)
        · refine own_Fin.trans (S' := T39.setTop (mkF m 88 #[.val (.int i0), .val (.int i1), .val (.long i2), .second, .val (.long i3), .second, .val (.int i4), .val (.int i5), .val (.long v3), .second, .val (.long v9), .second, .val (.long v16), .second, .val (.long v23), .second, .val (.ref b30), .val (.int (0 : Int32))] [(.int (0 : Int32))])) st39 ?_
          refine own_Fin.step (S' := T39.setTop (mkF m 90 #[.val (.int i0), .val (.int i1), .val (.long i2), .second, .val (.long i3), .second, .val (.int i4), .val (.int i5), .val (.long v3), .second, .val (.long v9), .second, .val (.long v16), .second, .val (.long v23), .second, .val (.ref b30), .val (.int (0 : Int32))] [(.int (0 : Int32)), (.int (0 : Int32))])) (fun t k => XS.iload X39.here hx rfl (hb hby at_88) rfl  k) ?_
          refine own_Fin.step (S' := T39.setTop (mkF m 93 #[.val (.int i0), .val (.int i1), .val (.long i2), .second, .val (.long i3), .second, .val (.int i4), .val (.int i5), .val (.long v3), .second, .val (.long v9), .second, .val (.long v16), .second, .val (.long v23), .second, .val (.ref b30), .val (.int (0 : Int32))] [])) (fun t k => XS.icmpNo X39.here hx rfl (hb hby at_90) rfl (teq (by decide : ((0 : Int32) = (0 : Int32)))).2 k) ?_
          refine own_Fin.step (S' := T39.setTop (mkF m 94 #[.val (.int i0), .val (.int i1), .val (.long i2), .second, .val (.long i3), .second, .val (.int i4), .val (.int i5), .val (.long v3), .second, .val (.long v9), .second, .val (.long v16), .second, .val (.long v23), .second, .val (.ref b30), .val (.int (0 : Int32))] [(.int (1 : Int32))])) (fun t k => XS.iconst X39.here hx rfl (hb hby at_93) k) ?_
          refine own_Fin.step (S' := T39.setTop (mkF m 98 #[.val (.int i0), .val (.int i1), .val (.long i2), .second, .val (.long i3), .second, .val (.int i4), .val (.int i5), .val (.long v3), .second, .val (.long v9), .second, .val (.long v16), .second, .val (.long v23), .second, .val (.ref b30), .val (.int (0 : Int32))] [(.int (1 : Int32))])) (fun t k => XS.goto X39.here hx rfl (pc0 := 94) (pc' := 98) rfl (hb hby at_94) (by decide) (by decide) k) ?_
          have hq41 : Q0 Z i0 i1 i2 i3 i4 i5 h0 n0 (some (.int (nar .boolean (1 : Int32)))) T35.heap _ := ⟨rfl, N39⟩
          exact own_retN X39 hx hlk (t := .boolean) hrt (by simp) (hb hby at_98) e39 hq41 (by decide) (by decide)
      · refine own_Fin.step (S' := T35.setTop (mkF m 65 #[.val (.int i0), .val (.int i1), .val (.long i2), .second, .val (.long i3), .second, .val (.int i4), .val (.int i5), .val (.long v3), .second, .val (.long v9), .second, .val (.long v16), .second, .val (.long v23), .second, .val (.ref b30), .unset] [])) (fun t k => XS.ifNo X35.here hx rfl (hb hby at_62) rfl ((if0 _ _).trans (flt (fun q => hc62 ((lw_gt _ _).mp q))).2.2.1) k) ?_
        refine own_Fin.step (S' := T35.setTop (mkF m 67 #[.val (.int i0), .val (.int i1), .val (.long i2), .second, .val (.long i3), .second, .val (.int i4), .val (.int i5), .val (.long v3), .second, .val (.long v9), .second, .val (.long v16), .second, .val (.long v23), .second, .val (.ref b30), .unset] [(.long v9)])) (fun t k => XS.lload X35.here hx rfl (hb hby at_65) rfl  k) ?_
        refine own_Fin.step (S' := T35.setTop (mkF m 69 #[.val (.int i0), .val (.int i1), .val (.long i2), .second, .val (.long i3), .second, .val (.int i4), .val (.int i5), .val (.long v3), .second, .val (.long v9), .second, .val (.long v16), .second, .val (.long v23), .second, .val (.ref b30), .unset] [(.int i5), (.long v9)])) (fun t k => XS.iload X35.here hx rfl (hb hby at_67) rfl  k) ?_
        refine own_Fin.step (S' := T35.setTop (mkF m 70 #[.val (.int i0), .val (.int i1), .val (.long i2), .second, .val (.long i3), .second, .val (.int i4), .val (.int i5), .val (.long v3), .second, .val (.long v9), .second, .val (.long v16), .second, .val (.long v23), .second, .val (.ref b30), .unset] [(.long (i5.toInt64)), (.long v9)])) (fun t k => XS.i2l X35.here hx rfl (hb hby at_69) rfl k) ?_
        refine own_Fin.step (S' := T35.setTop (mkF m 71 #[.val (.int i0), .val (.int i1), .val (.long i2), .second, .val (.long i3), .second, .val (.int i4), .val (.int i5), .val (.long v3), .second, .val (.long v9), .second, .val (.long v16), .second, .val (.long v23), .second, .val (.ref b30), .unset] [(.int (lcmpW v9 (i5.toInt64)))])) (fun t k => XS.lcmp X35.here hx rfl (hb hby at_70) rfl k) ?_
        by_cases hc71 : v9 < (i5.toInt64)
        · refine own_Fin.step (S' := T35.setTop (mkF m 74 #[.val (.int i0), .val (.int i1), .val (.long i2), .second, .val (.long i3), .second, .val (.int i4), .val (.int i5), .val (.long v3), .second, .val (.long v9), .second, .val (.long v16), .second, .val (.long v23), .second, .val (.ref b30), .unset] [])) (fun t k => XS.ifNo X35.here hx rfl (hb hby at_71) rfl ((if0 _ _).trans (tlt ((lw_lt _ _).mpr hc71)).2.1) k) ?_
          refine own_Fin.step (S' := T35.setTop (mkF m 75 #[.val (.int i0), .val (.int i1), .val (.long i2), .second, .val (.long i3), .second, .val (.int i4), .val (.int i5), .val (.long v3), .second, .val (.long v9), .second, .val (.long v16), .second, .val (.long v23), .second, .val (.ref b30), .unset] [(.int (1 : Int32))])) (fun t k => XS.iconst X35.here hx rfl (hb hby at_74) k) ?_
          refine own_Fin.step (S' := T35.setTop (mkF m 79 #[.val (.int i0), .val (.int i1), .val (.long i2), .second, .val (.long i3), .second, .val (.int i4), .val (.int i5), .val (.long v3), .second, .val (.long v9), .second, .val (.long v16), .second, .val (.long v23), .second, .val (.ref b30), .unset] [(.int (1 : Int32))])) (fun t k => XS.goto X35.here hx rfl (pc0 := 75) (pc' := 79) rfl (hb hby at_75) (by decide) (by decide) k) ?_
          refine own_Fin.step (S' := T35.setTop (mkF m 81 #[.val (.int i0), .val (.int i1), .val (.long i2), .second, .val (.long i3), .second, .val (.int i4), .val (.int i5), .val (.long v3), .second, .val (.long v9), .second, .val (.long v16), .second, .val (.long v23), .second, .val (.ref b30), .val (.int (1 : Int32))] [])) (fun t k => XS.istore X35.here hx rfl (hb hby at_79) rfl (l' := #[.val (.int i0), .val (.int i1), .val (.long i2), .second, .val (.long i3), .second, .val (.int i4), .val (.int i5), .val (.long v3), .second, .val (.long v9), .second, .val (.long v16), .second, .val (.long v23), .second, .val (.ref b30), .val (.int (1 : Int32))]) rfl k) ?_
          refine own_Fin.step (S' := T35.setTop (mkF m 83 #[.val (.int i0), .val (.int i1), .val (.long i2), .second, .val (.long i3), .second, .val (.int i4), .val (.int i5), .val (.long v3), .second, .val (.long v9), .second, .val (.long v16), .second, .val (.long v23), .second, .val (.ref b30), .val (.int (1 : Int32))] [(.ref b30)])) (fun t k => XS.aload X35.here hx rfl (hb hby at_81) rfl rfl  k) ?_
          refine own_Fin.step (S' := T35.setTop (mkF m 84 #[.val (.int i0), .val (.int i1), .val (.long i2), .second, .val (.long i3), .second, .val (.int i4), .val (.int i5), .val (.long v3), .second, .val (.long v9), .second, .val (.long v16), .second, .val (.long v23), .second, .val (.ref b30), .val (.int (1 : Int32))] [(.int i0), (.ref b30)])) (fun t k => XS.iloadN X35.here hx rfl (hb hby at_83) rfl  k) ?_
          refine own_Fin.step (S' := T35.setTop (mkF m 85 #[.val (.int i0), .val (.int i1), .val (.long i2), .second, .val (.long i3), .second, .val (.int i4), .val (.int i5), .val (.long v3), .second, .val (.long v9), .second, .val (.long v16), .second, .val (.long v23), .second, .val (.ref b30), .val (.int (1 : Int32))] [(.int i1), (.int i0), (.ref b30)])) (fun t k => XS.iloadN X35.here hx rfl (hb hby at_84) rfl  k) ?_
          obtain ⟨cq42, kq42, q42a, q42b, q42c⟩ := isOf hZ rfl G35_0
          obtain ⟨_, _, ⟨T42, L42, k42, n42⟩, -, X42, ⟨Lc42, hQ42, l42, y42, zz42⟩, st42⟩ := X35.virtualBack hx (y := (⟨"com/example/mullion/mullion/service/Frame", "holds", "(II)Z"⟩ : MethodName)) (z := (⟨"com/example/mullion/mullion/service/Frame", "holds", "(II)Z"⟩ : MethodName)) hown (mvT hZ (hw _ (List.mem_of_getElem? (i := 22) rfl))) (mvT hZ (hw _ (List.mem_of_getElem? (i := 23) rfl))) (notFace_of_selects (args := #[]) (mvT hZ (hw _ (List.mem_of_getElem? (i := 25) rfl)))) (mvT hZ (hw _ (List.mem_of_getElem? (i := 25) rfl))) (mvT hZ (hw _ (List.mem_of_getElem? (i := 24) rfl))) (by decide) (backOf (W := 0) (rm4 l Z a0 hw [] b30 i0 i1 v16 v23 i4 i5 T35.heap n0 (by omega) G35_1 G35_2 G35_3 G35_4) hZ (hw _ (List.mem_of_getElem? (i := 26) rfl)) (hw _ (List.mem_of_getElem? (i := 2) rfl)) (by decide) (by decide)) q42a q42c (g := (mkF m 85 #[.val (.int i0), .val (.int i1), .val (.long i2), .second, .val (.long i3), .second, .val (.int i4), .val (.int i5), .val (.long v3), .second, .val (.long v9), .second, .val (.long v16), .second, .val (.long v23), .second, .val (.ref b30), .val (.int (1 : Int32))] [(.int i1), (.int i0), (.ref b30)])) rfl (by rw [hml]; rfl) (Steps.refl _) (argsL := [(.int i0), (.int i1)]) (rest := []) (lenOf pd_0_1 rfl) rfl (by show 2 * 0 + _ ≤ _; exact Nat.le_of_eq rfl) (hb hby at_85) (fun _ _ => ⟨rfl, rfl, (by decide : 1 + 0 ≤ _), (by decide : 4 + 0 ≤ _)⟩)
          dsimp only [Pt.U, Pt.locs, Pt.cells, Pt.slots] at X42 l42 y42 zz42 st42 hQ42
          subst l42 y42 zz42
          obtain ⟨hvc42, N42q, e42⟩ := hQ42
          have N42 := Fr.app N35 N42q
          rcases hvc42 with ⟨rfl, hp85⟩ | ⟨rfl, hp85⟩
          · refine own_Fin.trans (S' := T42.setTop (mkF m 88 #[.val (.int i0), .val (.int i1), .val (.long i2), .second, .val (.long i3), .second, .val (.int i4), .val (.int i5), .val (.long v3), .second, .val (.long v9), .second, .val (.long v16), .second, .val (.long v23), .second, .val (.ref b30), .val (.int (1 : Int32))] [(.int (1 : Int32))])) st42 ?_
            refine own_Fin.step (S' := T42.setTop (mkF m 90 #[.val (.int i0), .val (.int i1), .val (.long i2), .second, .val (.long i3), .second, .val (.int i4), .val (.int i5), .val (.long v3), .second, .val (.long v9), .second, .val (.long v16), .second, .val (.long v23), .second, .val (.ref b30), .val (.int (1 : Int32))] [(.int (1 : Int32)), (.int (1 : Int32))])) (fun t k => XS.iload X42.here hx rfl (hb hby at_88) rfl  k) ?_
            refine own_Fin.step (S' := T42.setTop (mkF m 93 #[.val (.int i0), .val (.int i1), .val (.long i2), .second, .val (.long i3), .second, .val (.int i4), .val (.int i5), .val (.long v3), .second, .val (.long v9), .second, .val (.long v16), .second, .val (.long v23), .second, .val (.ref b30), .val (.int (1 : Int32))] [])) (fun t k => XS.icmpNo X42.here hx rfl (hb hby at_90) rfl (teq (by decide : ((1 : Int32) = (1 : Int32)))).2 k) ?_
            refine own_Fin.step (S' := T42.setTop (mkF m 94 #[.val (.int i0), .val (.int i1), .val (.long i2), .second, .val (.long i3), .second, .val (.int i4), .val (.int i5), .val (.long v3), .second, .val (.long v9), .second, .val (.long v16), .second, .val (.long v23), .second, .val (.ref b30), .val (.int (1 : Int32))] [(.int (1 : Int32))])) (fun t k => XS.iconst X42.here hx rfl (hb hby at_93) k) ?_
            refine own_Fin.step (S' := T42.setTop (mkF m 98 #[.val (.int i0), .val (.int i1), .val (.long i2), .second, .val (.long i3), .second, .val (.int i4), .val (.int i5), .val (.long v3), .second, .val (.long v9), .second, .val (.long v16), .second, .val (.long v23), .second, .val (.ref b30), .val (.int (1 : Int32))] [(.int (1 : Int32))])) (fun t k => XS.goto X42.here hx rfl (pc0 := 94) (pc' := 98) rfl (hb hby at_94) (by decide) (by decide) k) ?_
            have hq43 : Q0 Z i0 i1 i2 i3 i4 i5 h0 n0 (some (.int (nar .boolean (1 : Int32)))) T35.heap _ := ⟨rfl, N42⟩
            exact own_retN X42 hx hlk (t := .boolean) hrt (by simp) (hb hby at_98) e42 hq43 (by decide) (by decide)
          · refine own_Fin.trans (S' := T42.setTop (mkF m 88 #[.val (.int i0), .val (.int i1), .val (.long i2), .second, .val (.long i3), .second, .val (.int i4), .val (.int i5), .val (.long v3), .second, .val (.long v9), .second, .val (.long v16), .second, .val (.long v23), .second, .val (.ref b30), .val (.int (1 : Int32))] [(.int (0 : Int32))])) st42 ?_
            refine own_Fin.step (S' := T42.setTop (mkF m 90 #[.val (.int i0), .val (.int i1), .val (.long i2), .second, .val (.long i3), .second, .val (.int i4), .val (.int i5), .val (.long v3), .second, .val (.long v9), .second, .val (.long v16), .second, .val (.long v23), .second, .val (.ref b30), .val (.int (1 : Int32))] [(.int (1 : Int32)), (.int (0 : Int32))])) (fun t k => XS.iload X42.here hx rfl (hb hby at_88) rfl  k) ?_
            refine own_Fin.step (S' := T42.setTop (mkF m 97 #[.val (.int i0), .val (.int i1), .val (.long i2), .second, .val (.long i3), .second, .val (.int i4), .val (.int i5), .val (.long v3), .second, .val (.long v9), .second, .val (.long v16), .second, .val (.long v23), .second, .val (.ref b30), .val (.int (1 : Int32))] [])) (fun t k => XS.icmpYes X42.here hx rfl (pc0 := 90) (pc' := 97) rfl (hb hby at_90) rfl (feq (by decide : ¬ ((0 : Int32) = (1 : Int32)))).2 (by decide) (by decide) k) ?_
            refine own_Fin.step (S' := T42.setTop (mkF m 98 #[.val (.int i0), .val (.int i1), .val (.long i2), .second, .val (.long i3), .second, .val (.int i4), .val (.int i5), .val (.long v3), .second, .val (.long v9), .second, .val (.long v16), .second, .val (.long v23), .second, .val (.ref b30), .val (.int (1 : Int32))] [(.int (0 : Int32))])) (fun t k => XS.iconst X42.here hx rfl (hb hby at_97) k) ?_
            have hq44 : Q0 Z i0 i1 i2 i3 i4 i5 h0 n0 (some (.int (nar .boolean (0 : Int32)))) T35.heap _ := ⟨(by exfalso; rw [(own_a (y := i4) hv3 hv16).1, (own_a (y := i4) hv3 hv16).2, (own_a (y := i5) hv9 hv23).1, (own_a (y := i5) hv9 hv23).2] at hp85; simp only [hc46, hc55, hc62, hc71, not_false_eq_true, not_true_eq_false, and_true, and_false, false_and, true_and] at hp85), N42⟩
            exact own_retN X42 hx hlk (t := .boolean) hrt (by simp) (hb hby at_98) e42 hq44 (by decide) (by decide)
        · refine own_Fin.step (S' := T35.setTop (mkF m 78 #[.val (.int i0), .val (.int i1), .val (.long i2), .second, .val (.long i3), .second, .val (.int i4), .val (.int i5), .val (.long v3), .second, .val (.long v9), .second, .val (.long v16), .second, .val (.long v23), .second, .val (.ref b30), .unset] [])) (fun t k => XS.ifYes X35.here hx rfl (pc0 := 71) (pc' := 78) rfl (hb hby at_71) rfl ((if0 _ _).trans (flt (fun q => hc71 ((lw_lt _ _).mp q))).2.1) (by decide) (by decide) k) ?_
          refine own_Fin.step (S' := T35.setTop (mkF m 79 #[.val (.int i0), .val (.int i1), .val (.long i2), .second, .val (.long i3), .second, .val (.int i4), .val (.int i5), .val (.long v3), .second, .val (.long v9), .second, .val (.long v16), .second, .val (.long v23), .second, .val (.ref b30), .unset] [(.int (0 : Int32))])) (fun t k => XS.iconst X35.here hx rfl (hb hby at_78) k) ?_
          refine own_Fin.step (S' := T35.setTop (mkF m 81 #[.val (.int i0), .val (.int i1), .val (.long i2), .second, .val (.long i3), .second, .val (.int i4), .val (.int i5), .val (.long v3), .second, .val (.long v9), .second, .val (.long v16), .second, .val (.long v23), .second, .val (.ref b30), .val (.int (0 : Int32))] [])) (fun t k => XS.istore X35.here hx rfl (hb hby at_79) rfl (l' := #[.val (.int i0), .val (.int i1), .val (.long i2), .second, .val (.long i3), .second, .val (.int i4), .val (.int i5), .val (.long v3), .second, .val (.long v9), .second, .val (.long v16), .second, .val (.long v23), .second, .val (.ref b30), .val (.int (0 : Int32))]) rfl k) ?_
          refine own_Fin.step (S' := T35.setTop (mkF m 83 #[.val (.int i0), .val (.int i1), .val (.long i2), .second, .val (.long i3), .second, .val (.int i4), .val (.int i5), .val (.long v3), .second, .val (.long v9), .second, .val (.long v16), .second, .val (.long v23), .second, .val (.ref b30), .val (.int (0 : Int32))] [(.ref b30)])) (fun t k => XS.aload X35.here hx rfl (hb hby at_81) rfl rfl  k) ?_
          refine own_Fin.step (S' := T35.setTop (mkF m 84 #[.val (.int i0), .val (.int i1), .val (.long i2), .second, .val (.long i3), .second, .val (.int i4), .val (.int i5), .val (.long v3), .second, .val (.long v9), .second, .val (.long v16), .second, .val (.long v23), .second, .val (.ref b30), .val (.int (0 : Int32))] [(.int i0), (.ref b30)])) (fun t k => XS.iloadN X35.here hx rfl (hb hby at_83) rfl  k) ?_
          refine own_Fin.step (S' := T35.setTop (mkF m 85 #[.val (.int i0), .val (.int i1), .val (.long i2), .second, .val (.long i3), .second, .val (.int i4), .val (.int i5), .val (.long v3), .second, .val (.long v9), .second, .val (.long v16), .second, .val (.long v23), .second, .val (.ref b30), .val (.int (0 : Int32))] [(.int i1), (.int i0), (.ref b30)])) (fun t k => XS.iloadN X35.here hx rfl (hb hby at_84) rfl  k) ?_
          obtain ⟨cq45, kq45, q45a, q45b, q45c⟩ := isOf hZ rfl G35_0
          obtain ⟨_, _, ⟨T45, L45, k45, n45⟩, -, X45, ⟨Lc45, hQ45, l45, y45, zz45⟩, st45⟩ := X35.virtualBack hx (y := (⟨"com/example/mullion/mullion/service/Frame", "holds", "(II)Z"⟩ : MethodName)) (z := (⟨"com/example/mullion/mullion/service/Frame", "holds", "(II)Z"⟩ : MethodName)) hown (mvT hZ (hw _ (List.mem_of_getElem? (i := 22) rfl))) (mvT hZ (hw _ (List.mem_of_getElem? (i := 23) rfl))) (notFace_of_selects (args := #[]) (mvT hZ (hw _ (List.mem_of_getElem? (i := 25) rfl)))) (mvT hZ (hw _ (List.mem_of_getElem? (i := 25) rfl))) (mvT hZ (hw _ (List.mem_of_getElem? (i := 24) rfl))) (by decide) (backOf (W := 0) (rm4 l Z a0 hw [] b30 i0 i1 v16 v23 i4 i5 T35.heap n0 (by omega) G35_1 G35_2 G35_3 G35_4) hZ (hw _ (List.mem_of_getElem? (i := 26) rfl)) (hw _ (List.mem_of_getElem? (i := 2) rfl)) (by decide) (by decide)) q45a q45c (g := (mkF m 85 #[.val (.int i0), .val (.int i1), .val (.long i2), .second, .val (.long i3), .second, .val (.int i4), .val (.int i5), .val (.long v3), .second, .val (.long v9), .second, .val (.long v16), .second, .val (.long v23), .second, .val (.ref b30), .val (.int (0 : Int32))] [(.int i1), (.int i0), (.ref b30)])) rfl (by rw [hml]; rfl) (Steps.refl _) (argsL := [(.int i0), (.int i1)]) (rest := []) (lenOf pd_0_1 rfl) rfl (by show 2 * 0 + _ ≤ _; exact Nat.le_of_eq rfl) (hb hby at_85) (fun _ _ => ⟨rfl, rfl, (by decide : 1 + 0 ≤ _), (by decide : 4 + 0 ≤ _)⟩)
          dsimp only [Pt.U, Pt.locs, Pt.cells, Pt.slots] at X45 l45 y45 zz45 st45 hQ45
          subst l45 y45 zz45
          obtain ⟨hvc45, N45q, e45⟩ := hQ45
          have N45 := Fr.app N35 N45q
          rcases hvc45 with ⟨rfl, hp85⟩ | ⟨rfl, hp85⟩
          · refine own_Fin.trans (S' := T45.setTop (mkF m 88 #[.val (.int i0), .val (.int i1), .val (.long i2), .second, .val (.long i3), .second, .val (.int i4), .val (.int i5), .val (.long v3), .second, .val (.long v9), .second, .val (.long v16), .second, .val (.long v23), .second, .val (.ref b30), .val (.int (0 : Int32))] [(.int (1 : Int32))])) st45 ?_
            refine own_Fin.step (S' := T45.setTop (mkF m 90 #[.val (.int i0), .val (.int i1), .val (.long i2), .second, .val (.long i3), .second, .val (.int i4), .val (.int i5), .val (.long v3), .second, .val (.long v9), .second, .val (.long v16), .second, .val (.long v23), .second, .val (.ref b30), .val (.int (0 : Int32))] [(.int (0 : Int32)), (.int (1 : Int32))])) (fun t k => XS.iload X45.here hx rfl (hb hby at_88) rfl  k) ?_
            refine own_Fin.step (S' := T45.setTop (mkF m 97 #[.val (.int i0), .val (.int i1), .val (.long i2), .second, .val (.long i3), .second, .val (.int i4), .val (.int i5), .val (.long v3), .second, .val (.long v9), .second, .val (.long v16), .second, .val (.long v23), .second, .val (.ref b30), .val (.int (0 : Int32))] [])) (fun t k => XS.icmpYes X45.here hx rfl (pc0 := 90) (pc' := 97) rfl (hb hby at_90) rfl (feq (by decide : ¬ ((1 : Int32) = (0 : Int32)))).2 (by decide) (by decide) k) ?_
            refine own_Fin.step (S' := T45.setTop (mkF m 98 #[.val (.int i0), .val (.int i1), .val (.long i2), .second, .val (.long i3), .second, .val (.int i4), .val (.int i5), .val (.long v3), .second, .val (.long v9), .second, .val (.long v16), .second, .val (.long v23), .second, .val (.ref b30), .val (.int (0 : Int32))] [(.int (0 : Int32))])) (fun t k => XS.iconst X45.here hx rfl (hb hby at_97) k) ?_
            have hq46 : Q0 Z i0 i1 i2 i3 i4 i5 h0 n0 (some (.int (nar .boolean (0 : Int32)))) T35.heap _ := ⟨(by exfalso; rw [(own_a (y := i4) hv3 hv16).1, (own_a (y := i4) hv3 hv16).2, (own_a (y := i5) hv9 hv23).1, (own_a (y := i5) hv9 hv23).2] at hp85; simp only [hc46, hc55, hc62, hc71, not_false_eq_true, not_true_eq_false, and_true, and_false, false_and, true_and] at hp85), N45⟩
            exact own_retN X45 hx hlk (t := .boolean) hrt (by simp) (hb hby at_98) e45 hq46 (by decide) (by decide)
          · refine own_Fin.trans (S' := T45.setTop (mkF m 88 #[.val (.int i0), .val (.int i1), .val (.long i2), .second, .val (.long i3), .second, .val (.int i4), .val (.int i5), .val (.long v3), .second, .val (.long v9), .second, .val (.long v16), .second, .val (.long v23), .second, .val (.ref b30), .val (.int (0 : Int32))] [(.int (0 : Int32))])) st45 ?_
            refine own_Fin.step (S' := T45.setTop (mkF m 90 #[.val (.int i0), .val (.int i1), .val (.long i2), .second, .val (.long i3), .second, .val (.int i4), .val (.int i5), .val (.long v3), .second, .val (.long v9), .second, .val (.long v16), .second, .val (.long v23), .second, .val (.ref b30), .val (.int (0 : Int32))] [(.int (0 : Int32)), (.int (0 : Int32))])) (fun t k => XS.iload X45.here hx rfl (hb hby at_88) rfl  k) ?_
            refine own_Fin.step (S' := T45.setTop (mkF m 93 #[.val (.int i0), .val (.int i1), .val (.long i2), .second, .val (.long i3), .second, .val (.int i4), .val (.int i5), .val (.long v3), .second, .val (.long v9), .second, .val (.long v16), .second, .val (.long v23), .second, .val (.ref b30), .val (.int (0 : Int32))] [])) (fun t k => XS.icmpNo X45.here hx rfl (hb hby at_90) rfl (teq (by decide : ((0 : Int32) = (0 : Int32)))).2 k) ?_
            refine own_Fin.step (S' := T45.setTop (mkF m 94 #[.val (.int i0), .val (.int i1), .val (.long i2), .second, .val (.long i3), .second, .val (.int i4), .val (.int i5), .val (.long v3), .second, .val (.long v9), .second, .val (.long v16), .second, .val (.long v23), .second, .val (.ref b30), .val (.int (0 : Int32))] [(.int (1 : Int32))])) (fun t k => XS.iconst X45.here hx rfl (hb hby at_93) k) ?_
            refine own_Fin.step (S' := T45.setTop (mkF m 98 #[.val (.int i0), .val (.int i1), .val (.long i2), .second, .val (.long i3), .second, .val (.int i4), .val (.int i5), .val (.long v3), .second, .val (.long v9), .second, .val (.long v16), .second, .val (.long v23), .second, .val (.ref b30), .val (.int (0 : Int32))] [(.int (1 : Int32))])) (fun t k => XS.goto X45.here hx rfl (pc0 := 94) (pc' := 98) rfl (hb hby at_94) (by decide) (by decide) k) ?_
            have hq47 : Q0 Z i0 i1 i2 i3 i4 i5 h0 n0 (some (.int (nar .boolean (1 : Int32)))) T35.heap _ := ⟨rfl, N45⟩
            exact own_retN X45 hx hlk (t := .boolean) hrt (by simp) (hb hby at_98) e45 hq47 (by decide) (by decide)
    · refine own_Fin.step (S' := T35.setTop (mkF m 78 #[.val (.int i0), .val (.int i1), .val (.long i2), .second, .val (.long i3), .second, .val (.int i4), .val (.int i5), .val (.long v3), .second, .val (.long v9), .second, .val (.long v16), .second, .val (.long v23), .second, .val (.ref b30), .unset] [])) (fun t k => XS.ifYes X35.here hx rfl (pc0 := 55) (pc' := 78) rfl (hb hby at_55) rfl ((if0 _ _).trans (flt (fun q => hc55 ((lw_lt _ _).mp q))).2.1) (by decide) (by decide) k) ?_
      refine own_Fin.step (S' := T35.setTop (mkF m 79 #[.val (.int i0), .val (.int i1), .val (.long i2), .second, .val (.long i3), .second, .val (.int i4), .val (.int i5), .val (.long v3), .second, .val (.long v9), .second, .val (.long v16), .second, .val (.long v23), .second, .val (.ref b30), .unset] [(.int (0 : Int32))])) (fun t k => XS.iconst X35.here hx rfl (hb hby at_78) k) ?_
      refine own_Fin.step (S' := T35.setTop (mkF m 81 #[.val (.int i0), .val (.int i1), .val (.long i2), .second, .val (.long i3), .second, .val (.int i4), .val (.int i5), .val (.long v3), .second, .val (.long v9), .second, .val (.long v16), .second, .val (.long v23), .second, .val (.ref b30), .val (.int (0 : Int32))] [])) (fun t k => XS.istore X35.here hx rfl (hb hby at_79) rfl (l' := #[.val (.int i0), .val (.int i1), .val (.long i2), .second, .val (.long i3), .second, .val (.int i4), .val (.int i5), .val (.long v3), .second, .val (.long v9), .second, .val (.long v16), .second, .val (.long v23), .second, .val (.ref b30), .val (.int (0 : Int32))]) rfl k) ?_
      refine own_Fin.step (S' := T35.setTop (mkF m 83 #[.val (.int i0), .val (.int i1), .val (.long i2), .second, .val (.long i3), .second, .val (.int i4), .val (.int i5), .val (.long v3), .second, .val (.long v9), .second, .val (.long v16), .second, .val (.long v23), .second, .val (.ref b30), .val (.int (0 : Int32))] [(.ref b30)])) (fun t k => XS.aload X35.here hx rfl (hb hby at_81) rfl rfl  k) ?_
      refine own_Fin.step (S' := T35.setTop (mkF m 84 #[.val (.int i0), .val (.int i1), .val (.long i2), .second, .val (.long i3), .second, .val (.int i4), .val (.int i5), .val (.long v3), .second, .val (.long v9), .second, .val (.long v16), .second, .val (.long v23), .second, .val (.ref b30), .val (.int (0 : Int32))] [(.int i0), (.ref b30)])) (fun t k => XS.iloadN X35.here hx rfl (hb hby at_83) rfl  k) ?_
      refine own_Fin.step (S' := T35.setTop (mkF m 85 #[.val (.int i0), .val (.int i1), .val (.long i2), .second, .val (.long i3), .second, .val (.int i4), .val (.int i5), .val (.long v3), .second, .val (.long v9), .second, .val (.long v16), .second, .val (.long v23), .second, .val (.ref b30), .val (.int (0 : Int32))] [(.int i1), (.int i0), (.ref b30)])) (fun t k => XS.iloadN X35.here hx rfl (hb hby at_84) rfl  k) ?_
      obtain ⟨cq48, kq48, q48a, q48b, q48c⟩ := isOf hZ rfl G35_0
      obtain ⟨_, _, ⟨T48, L48, k48, n48⟩, -, X48, ⟨Lc48, hQ48, l48, y48, zz48⟩, st48⟩ := X35.virtualBack hx (y := (⟨"com/example/mullion/mullion/service/Frame", "holds", "(II)Z"⟩ : MethodName)) (z := (⟨"com/example/mullion/mullion/service/Frame", "holds", "(II)Z"⟩ : MethodName)) hown (mvT hZ (hw _ (List.mem_of_getElem? (i := 22) rfl))) (mvT hZ (hw _ (List.mem_of_getElem? (i := 23) rfl))) (notFace_of_selects (args := #[]) (mvT hZ (hw _ (List.mem_of_getElem? (i := 25) rfl)))) (mvT hZ (hw _ (List.mem_of_getElem? (i := 25) rfl))) (mvT hZ (hw _ (List.mem_of_getElem? (i := 24) rfl))) (by decide) (backOf (W := 0) (rm4 l Z a0 hw [] b30 i0 i1 v16 v23 i4 i5 T35.heap n0 (by omega) G35_1 G35_2 G35_3 G35_4) hZ (hw _ (List.mem_of_getElem? (i := 26) rfl)) (hw _ (List.mem_of_getElem? (i := 2) rfl)) (by decide) (by decide)) q48a q48c (g := (mkF m 85 #[.val (.int i0), .val (.int i1), .val (.long i2), .second, .val (.long i3), .second, .val (.int i4), .val (.int i5), .val (.long v3), .second, .val (.long v9), .second, .val (.long v16), .second, .val (.long v23), .second, .val (.ref b30), .val (.int (0 : Int32))] [(.int i1), (.int i0), (.ref b30)])) rfl (by rw [hml]; rfl) (Steps.refl _) (argsL := [(.int i0), (.int i1)]) (rest := []) (lenOf pd_0_1 rfl) rfl (by show 2 * 0 + _ ≤ _; exact Nat.le_of_eq rfl) (hb hby at_85) (fun _ _ => ⟨rfl, rfl, (by decide : 1 + 0 ≤ _), (by decide : 4 + 0 ≤ _)⟩)
      dsimp only [Pt.U, Pt.locs, Pt.cells, Pt.slots] at X48 l48 y48 zz48 st48 hQ48
      subst l48 y48 zz48
      obtain ⟨hvc48, N48q, e48⟩ := hQ48
      have N48 := Fr.app N35 N48q
      rcases hvc48 with ⟨rfl, hp85⟩ | ⟨rfl, hp85⟩
      · refine own_Fin.trans (S' := T48.setTop (mkF m 88 #[.val (.int i0), .val (.int i1), .val (.long i2), .second, .val (.long i3), .second, .val (.int i4), .val (.int i5), .val (.long v3), .second, .val (.long v9), .second, .val (.long v16), .second, .val (.long v23), .second, .val (.ref b30), .val (.int (0 : Int32))] [(.int (1 : Int32))])) st48 ?_
        refine own_Fin.step (S' := T48.setTop (mkF m 90 #[.val (.int i0), .val (.int i1), .val (.long i2), .second, .val (.long i3), .second, .val (.int i4), .val (.int i5), .val (.long v3), .second, .val (.long v9), .second, .val (.long v16), .second, .val (.long v23), .second, .val (.ref b30), .val (.int (0 : Int32))] [(.int (0 : Int32)), (.int (1 : Int32))])) (fun t k => XS.iload X48.here hx rfl (hb hby at_88) rfl  k) ?_
        refine own_Fin.step (S' := T48.setTop (mkF m 97 #[.val (.int i0), .val (.int i1), .val (.long i2), .second, .val (.long i3), .second, .val (.int i4), .val (.int i5), .val (.long v3), .second, .val (.long v9), .second, .val (.long v16), .second, .val (.long v23), .second, .val (.ref b30), .val (.int (0 : Int32))] [])) (fun t k => XS.icmpYes X48.here hx rfl (pc0 := 90) (pc' := 97) rfl (hb hby at_90) rfl (feq (by decide : ¬ ((1 : Int32) = (0 : Int32)))).2 (by decide) (by decide) k) ?_
        refine own_Fin.step (S' := T48.setTop (mkF m 98 #[.val (.int i0), .val (.int i1), .val (.long i2), .second, .val (.long i3), .second, .val (.int i4), .val (.int i5), .val (.long v3), .second, .val (.long v9), .second, .val (.long v16), .second, .val (.long v23), .second, .val (.ref b30), .val (.int (0 : Int32))] [(.int (0 : Int32))])) (fun t k => XS.iconst X48.here hx rfl (hb hby at_97) k) ?_
        have hq49 : Q0 Z i0 i1 i2 i3 i4 i5 h0 n0 (some (.int (nar .boolean (0 : Int32)))) T35.heap _ := ⟨(by exfalso; rw [(own_a (y := i4) hv3 hv16).1, (own_a (y := i4) hv3 hv16).2, (own_a (y := i5) hv9 hv23).1, (own_a (y := i5) hv9 hv23).2] at hp85; simp only [hc46, hc55, not_false_eq_true, not_true_eq_false, and_true, and_false, false_and, true_and] at hp85), N48⟩
        exact own_retN X48 hx hlk (t := .boolean) hrt (by simp) (hb hby at_98) e48 hq49 (by decide) (by decide)
      · refine own_Fin.trans (S' := T48.setTop (mkF m 88 #[.val (.int i0), .val (.int i1), .val (.long i2), .second, .val (.long i3), .second, .val (.int i4), .val (.int i5), .val (.long v3), .second, .val (.long v9), .second, .val (.long v16), .second, .val (.long v23), .second, .val (.ref b30), .val (.int (0 : Int32))] [(.int (0 : Int32))])) st48 ?_
        refine own_Fin.step (S' := T48.setTop (mkF m 90 #[.val (.int i0), .val (.int i1), .val (.long i2), .second, .val (.long i3), .second, .val (.int i4), .val (.int i5), .val (.long v3), .second, .val (.long v9), .second, .val (.long v16), .second, .val (.long v23), .second, .val (.ref b30), .val (.int (0 : Int32))] [(.int (0 : Int32)), (.int (0 : Int32))])) (fun t k => XS.iload X48.here hx rfl (hb hby at_88) rfl  k) ?_
        refine own_Fin.step (S' := T48.setTop (mkF m 93 #[.val (.int i0), .val (.int i1), .val (.long i2), .second, .val (.long i3), .second, .val (.int i4), .val (.int i5), .val (.long v3), .second, .val (.long v9), .second, .val (.long v16), .second, .val (.long v23), .second, .val (.ref b30), .val (.int (0 : Int32))] [])) (fun t k => XS.icmpNo X48.here hx rfl (hb hby at_90) rfl (teq (by decide : ((0 : Int32) = (0 : Int32)))).2 k) ?_
        refine own_Fin.step (S' := T48.setTop (mkF m 94 #[.val (.int i0), .val (.int i1), .val (.long i2), .second, .val (.long i3), .second, .val (.int i4), .val (.int i5), .val (.long v3), .second, .val (.long v9), .second, .val (.long v16), .second, .val (.long v23), .second, .val (.ref b30), .val (.int (0 : Int32))] [(.int (1 : Int32))])) (fun t k => XS.iconst X48.here hx rfl (hb hby at_93) k) ?_
        refine own_Fin.step (S' := T48.setTop (mkF m 98 #[.val (.int i0), .val (.int i1), .val (.long i2), .second, .val (.long i3), .second, .val (.int i4), .val (.int i5), .val (.long v3), .second, .val (.long v9), .second, .val (.long v16), .second, .val (.long v23), .second, .val (.ref b30), .val (.int (0 : Int32))] [(.int (1 : Int32))])) (fun t k => XS.goto X48.here hx rfl (pc0 := 94) (pc' := 98) rfl (hb hby at_94) (by decide) (by decide) k) ?_
        have hq50 : Q0 Z i0 i1 i2 i3 i4 i5 h0 n0 (some (.int (nar .boolean (1 : Int32)))) T35.heap _ := ⟨rfl, N48⟩
        exact own_retN X48 hx hlk (t := .boolean) hrt (by simp) (hb hby at_98) e48 hq50 (by decide) (by decide)
set_option maxRecDepth 65536 in
set_option maxHeartbeats 40000000 in
theorem comes_1 {Post : Tables → Env → Array Value → State → Outcome → State → Prop} (hpost : ∀ tb e args s v u, (limb_1_1.after args s (.returned v) u = true ∧ limb_1_2.after args s (.returned v) u = true ∧ True) → FrameEnd s (.returned v) u (Jvm.fieldLocs frame_1_writes args s ++ Jvm.arrayLocs frame_1_arrays args s ++ Jvm.staticLocs frame_1_statics s) 16 128 → Post tb e args s (.returned v) u) :
    ArmFor flags0 classFile x code maxLocals ret World_1 tables_1 room_1 Calls_1 rest_1 Pre_1 Post := by
  intro l hfl _ _ p e ha hc hk s m args below hf hA hF happ hP
  obtain ⟨hcalls, hrest, hpre⟩ := hP
  obtain ⟨-, -, -, hnamed, -, -, -, hat⟩ := (Spec.applies_iff hf).mp happ
  obtain ⟨hg, hn⟩ := and_e (Cond.before_iff.mp (show (Jvm.Cond.and given_1 narrow_1).before args s = true from hpre))
  obtain ⟨gg1, gg2⟩ := and_e hg
  obtain ⟨gg3, gg4⟩ := and_e gg2
  obtain ⟨gg5, gg6⟩ := and_e gg4
  obtain ⟨gg7, gg8⟩ := and_e gg6
  obtain ⟨gg9, gg10⟩ := and_e gg8
  obtain ⟨gg11, gg12⟩ := and_e gg10
  obtain ⟨w0, w1, w2, w3, w4, w5, rfl⟩ : ∃ w0 w1 w2 w3 w4 w5 : Value, args = #[w0, w1, w2, w3, w4, w5] := by
    have hs : args.size = 6 := by simpa [Cond.value, given_1] using gg1
    obtain ⟨L⟩ := args
    match L, hs with
    | [w0, w1, w2, w3, w4, w5], _ => exact ⟨w0, w1, w2, w3, w4, w5, rfl⟩
  have hw := fun d (hd : d ∈ tables_1) => atoms_spec (ws := Jvm.Cond.code x code maxLocals ret :: tables_1) hat d (List.mem_cons_of_mem _ hd)
  have hfit : Fit s := fun {y c} hc i hi => by
    obtain ⟨ha, rfl⟩ := Array.getElem?_eq_some_iff.mp hc
    have q := List.all_eq_true.mp ((Array.all_eq_true_iff_forall_mem.mp hF) _ (Array.getElem_mem ha)) i (List.mem_range.mpr hi)
    simpa [Array.getElem?_eq_getElem hi] using q
  obtain ⟨i0, ei0⟩ := is_v gg3
  obtain rfl : w0 = (.int i0) := Option.some.inj ei0
  obtain ⟨i1, ei1⟩ := is_v gg5
  obtain rfl : w1 = (.int i1) := Option.some.inj ei1
  obtain ⟨i2, ei2⟩ := isL_v gg7
  obtain rfl : w2 = (.long i2) := Option.some.inj ei2
  obtain ⟨i3, ei3⟩ := isL_v gg9
  obtain rfl : w3 = (.long i3) := Option.some.inj ei3
  obtain ⟨i4, ei4⟩ := is_v gg11
  obtain rfl : w4 = (.int i4) := Option.some.inj ei4
  obtain ⟨i5, ei5⟩ := is_v gg12
  obtain rfl : w5 = (.int i5) := Option.some.inj ei5
  obtain ⟨n, o, h1, h2, h3, _, L, rfl, ⟨rfl, N⟩, hq⟩ := rm0 l s _ hw tables_1  i0 i1 i2 i3 i4 i5 s.heap s.heap.size (Nat.le_refl _)  p e ha hc hk s m _ below hf ((Spec.applies_iff_loose hf).mp happ).1 ⟨rfl, State.Warmed39.refl s, rfl⟩ trivial
  refine ⟨n, _, h1, h2, h3, hpost _ _ _ _ _ _ ⟨Cond.after_iff.mpr rfl, Cond.after_iff.mpr (eq_i res_at (Term.int_eval (1)) rfl), trivial⟩ ⟨hq.1, hq.2.1, (hq.2.2.sift fun y hy => Or.inr (N y hy)).mono (by decide) (by decide)⟩⟩
theorem main_1_1 : Claimed_1_1 := comes_1 fun _ _ _ _ _ _ h hF => ⟨h.1, hF⟩
theorem main_1_2 : Claimed_1_2 := comes_1 fun _ _ _ _ _ _ h hF => ⟨h.2.1, hF⟩
end Jvm.Pilot.@@N@@
namespace Jvm.Pilot.@@N@@
open Jvm Jvm.ClassFile Sem Op Lib Jvm.Free Jvm.Stand Jvm.Pilot.@@N@@.Jvm.D
/-! MADE BY PROGRAM (witnessworld.py) out of the Statement's table words and the real class files: 10 classes; the members and pool entries that the words name. The judged class is class 1, her method 1. -/
namespace start1
open Jvm.ClassFile
def u (s : String) : CpInfo := .utf8 (stringToUtf16 s)
/-- a pool by its gaps: so many unusable entries, then the entry; so many at the end -/
def gap : Nat → List CpInfo → List CpInfo
  | 0, r => r
  | n + 1, r => .unusable :: gap n r
def poolList (es : List (Nat × CpInfo)) (last : Nat) : List CpInfo := es.foldr (fun e r => gap e.1 (e.2 :: r)) (gap last [])
def pool (es : List (Nat × CpInfo)) (last : Nat) : Array CpInfo := ⟨poolList es last⟩
def fileOf (pool : Array CpInfo) (this : Nat) (attrs : Array Attribute := #[]) (ms : Array MethodInfo := #[]) (fl : Nat := 33) (sup : Nat := 0) (ifs : Array Nat := #[]) (fds : Array FieldInfo := #[]) : ClassFile where
  minorVersion := 0
  majorVersion := 65
  constantPool := pool
  accessFlags := fl
  thisClass := this
  superClass := sup
  interfaces := ifs
  fields := fds
  methods := ms
  attributes := attrs
def plain (name : String) (sup : Option ClassId) : Class where
  name := name
  kind := .ordinary
  loader := none
  accessFlags := 33
  super := sup
  interfaces := #[]
  cf := none
  fields := #[]
  methods := #[]
  instanceTypes := #[]
  staticTypes := #[]
  resolved := #[]
  callSites := []
  init := .initialized
  statics := none
  mirror := none

def pool0 : Array CpInfo := pool [(5, u "<init>"), (0, u "()V"), (1, .class_ 10), (1, u "java/lang/Object")] 113

def k0c0 : Code := { maxStack := 0, maxLocals := 1, code := object_method_1_code, exceptionTable := #[], attributes := #[] }
def k0m0 : Method := { name := "<init>", desc := "()V", sig := { parameters := [], returnType := none }, accessFlags := 1, code := some k0c0 }
/-- java/lang/Object -/
def k0 : Class := { plain "java/lang/Object" none with
  accessFlags := 33
  interfaces := #[]
  cf := some (fileOf pool0 8 #[] #[{ accessFlags := 1, nameIndex := 5, descriptorIndex := 6, attributes := #[] }] 33 0 #[] #[])
  fields := #[]
  methods := #[k0m0]
  instanceTypes := #[]
  staticTypes := #[]
  resolved := Array.replicate 124 none
  statics := none }

def pool1 : Array CpInfo := pool [(2, .class_ 4), (1, u "java/lang/Object"), (0, u "<init>"), (0, u "()V"), (0, .class_ 8), (0, u "com/example/mullion/mullion/service/Frame"), (0, .methodref 7 10), (0, .nameAndType 5 11), (0, u "(JJII)V"), (0, .methodref 7 13), (0, .nameAndType 14 15), (0, u "holds"), (0, u "(II)Z"), (0, .class_ 17), (0, u "com/example/mullion/mullion/service/FrameHoldsPinLaw"), (2, u "law"), (0, u "(IIJJII)Z")] 3

def k1m0 : Method := { name := "<init>", desc := "()V", sig := { parameters := [], returnType := none }, accessFlags := 1, code := none }
def k1c1 : Code := { maxStack := 8, maxLocals := 18, code := code, exceptionTable := #[], attributes := #[] }
def k1m1 : Method := { name := "law", desc := "(IIJJII)Z", sig := { parameters := [.int, .int, .long, .long, .int, .int], returnType := some .boolean }, accessFlags := 9, code := some k1c1 }
/-- com/example/mullion/mullion/service/FrameHoldsPinLaw -/
def k1 : Class := { plain "com/example/mullion/mullion/service/FrameHoldsPinLaw" (some 0) with
  accessFlags := 49
  interfaces := #[]
  cf := some (fileOf pool1 16 #[] #[{ accessFlags := 1, nameIndex := 5, descriptorIndex := 6, attributes := #[] }, { accessFlags := 9, nameIndex := 20, descriptorIndex := 21, attributes := #[] }] 49 2 #[] #[])
  fields := #[]
  methods := #[k1m0, k1m1]
  instanceTypes := #[]
  staticTypes := #[]
  resolved := Array.replicate 25 none
  statics := none }

def pool2 : Array CpInfo := pool [(1, .methodref 2 3), (0, .class_ 4), (0, .nameAndType 5 6), (0, u "java/lang/Object"), (0, u "<init>"), (0, u "()V"), (0, .class_ 8), (0, u "java/lang/Record")] 13

def k2c0 : Code := { maxStack := 1, maxLocals := 1, code := jdk_30_method_1_code, exceptionTable := #[], attributes := #[] }
def k2m0 : Method := { name := "<init>", desc := "()V", sig := { parameters := [], returnType := none }, accessFlags := 4, code := some k2c0 }
/-- java/lang/Record -/
def k2 : Class := { plain "java/lang/Record" (some 0) with
  accessFlags := 1057
  interfaces := #[]
  cf := some (fileOf pool2 7 #[] #[{ accessFlags := 4, nameIndex := 5, descriptorIndex := 6, attributes := #[] }] 1057 2 #[] #[])
  fields := #[]
  methods := #[k2m0]
  instanceTypes := #[]
  staticTypes := #[]
  resolved := Array.replicate 22 none
  statics := none }

def pool3 : Array CpInfo := pool [(1, .methodref 2 3), (0, .class_ 4), (0, .nameAndType 5 6), (0, u "java/lang/Record"), (0, u "<init>"), (0, u "()V"), (0, .fieldref 8 9), (0, .class_ 10), (0, .nameAndType 11 12), (0, u "com/example/mullion/mullion/service/Frame"), (0, u "left"), (0, u "J"), (0, .fieldref 8 14), (0, .nameAndType 15 12), (0, u "top"), (0, .fieldref 8 17), (0, .nameAndType 18 19), (0, u "width"), (0, u "I"), (0, .fieldref 8 21), (0, .nameAndType 22 19), (0, u "height"), (12, u "(JJII)V"), (3, u "holds"), (0, u "(II)Z")] 28

def k3c0 : Code := { maxStack := 3, maxLocals := 7, code := prog_43_method_1_code, exceptionTable := #[], attributes := #[] }
def k3m0 : Method := { name := "<init>", desc := "(JJII)V", sig := { parameters := [.long, .long, .int, .int], returnType := none }, accessFlags := 0, code := some k3c0 }
def k3c1 : Code := { maxStack := 6, maxLocals := 3, code := prog_43_method_2_code, exceptionTable := #[], attributes := #[] }
def k3m1 : Method := { name := "holds", desc := "(II)Z", sig := { parameters := [.int, .int], returnType := some .boolean }, accessFlags := 0, code := some k3c1 }
/-- com/example/mullion/mullion/service/Frame -/
def k3 : Class := { plain "com/example/mullion/mullion/service/Frame" (some 2) with
  accessFlags := 48
  interfaces := #[]
  cf := some (fileOf pool3 8 #[] #[{ accessFlags := 0, nameIndex := 5, descriptorIndex := 35, attributes := #[] }, { accessFlags := 0, nameIndex := 39, descriptorIndex := 40, attributes := #[] }] 48 2 #[] #[{ accessFlags := 18, nameIndex := 11, descriptorIndex := 12, attributes := #[] }, { accessFlags := 18, nameIndex := 15, descriptorIndex := 12, attributes := #[] }, { accessFlags := 18, nameIndex := 18, descriptorIndex := 19, attributes := #[] }, { accessFlags := 18, nameIndex := 22, descriptorIndex := 19, attributes := #[] }])
  fields := #[{ name := "left", type := .long, accessFlags := 18, slot := 0, constantValue := 0 }, { name := "top", type := .long, accessFlags := 18, slot := 1, constantValue := 0 }, { name := "width", type := .int, accessFlags := 18, slot := 2, constantValue := 0 }, { name := "height", type := .int, accessFlags := 18, slot := 3, constantValue := 0 }]
  methods := #[k3m0, k3m1]
  instanceTypes := #[.long, .long, .int, .int]
  staticTypes := #[]
  resolved := Array.replicate 69 none
  statics := none }

def pool4 : Array CpInfo := pool [(1, u "java/lang/Cloneable"), (0, .class_ 1), (0, u "java/lang/Object"), (0, .class_ 3)] 3

/-- java/lang/Cloneable -/
def k4 : Class := { plain "java/lang/Cloneable" (some 0) with
  accessFlags := 1537
  interfaces := #[]
  cf := some (fileOf pool4 2 #[] #[] 1537 4 #[] #[])
  fields := #[]
  methods := #[]
  instanceTypes := #[]
  staticTypes := #[]
  resolved := Array.replicate 8 none
  statics := none }

def pool5 : Array CpInfo := pool [(1, u "java/io/Serializable"), (0, .class_ 1), (0, u "java/lang/Object"), (0, .class_ 3)] 3

/-- java/io/Serializable -/
def k5 : Class := { plain "java/io/Serializable" (some 0) with
  accessFlags := 1537
  interfaces := #[]
  cf := some (fileOf pool5 2 #[] #[] 1537 4 #[] #[])
  fields := #[]
  methods := #[]
  instanceTypes := #[]
  staticTypes := #[]
  resolved := Array.replicate 8 none
  statics := none }

/-- the primitive byte -/
def k6 : Class := { plain "byte" none with kind := .primitive 'B', accessFlags := 0x411 }
/-- [B -/
def k7 : Class := { plain "[B" (some 0) with kind := .array 6 .byte, interfaces := #[4, 5], accessFlags := 1041 }

/-- the primitive int -/
def k8 : Class := { plain "int" none with kind := .primitive 'I', accessFlags := 0x411 }
/-- [I -/
def k9 : Class := { plain "[I" (some 0) with kind := .array 8 .int, interfaces := #[4, 5], accessFlags := 1041 }

def heap : Heap := #[]
def classes : Array Class := #[k0, k1, k2, k3, k4, k5, k6, k7, k8, k9]
def interned : List (Array UInt16 × Addr) := []
def slotsUsed : Nat := 0
def theMethod : MethodId := ⟨1, 1⟩
def args0 : Array Value := #[.int 5, .int 6, .long 7, .long 8, .int 9, .int 10]
def aboutOver (below : List Frame) : State where
  vm := { classes := classes, interned := interned.toArray }
  heap := heap
  slotsUsed := slotsUsed
  threads := #[{ frames := .invoking theMethod args0 :: below }]
def below0 : List Frame := [.native { method := ⟨0, 0⟩, args := #[] }]
def about1 : State := aboutOver below0
def p0 : Program := .bare "" "" ""
def e0 : Env := launch0.env 0 0 0
theorem w_frames : about1.frames = Frame.invoking theMethod args0 :: below0 := rfl
set_option maxRecDepth 65536 in
theorem w_args : argsFit about1.vm theMethod args0 = true := by decide +kernel
set_option maxRecDepth 65536 in
theorem w_heap : heapFits about1 = true := by decide +kernel
set_option maxRecDepth 65536 in
theorem w_runnable : about1.curStatus? = some .runnable := by decide +kernel
set_option maxRecDepth 65536 in
theorem w_alone : about1.alone = true := by decide +kernel
set_option maxRecDepth 65536 in
theorem w_named : about1.methodNamed? x = some theMethod := by decide +kernel
set_option maxRecDepth 65536 in
theorem w_hears : about1.hears theMethod below0 = true := by decide +kernel
set_option maxRecDepth 65536 in
theorem w_ripe : about1.ripe theMethod args0 below0 = true := by decide +kernel
theorem w_running : about1.status = .running := rfl
set_option maxRecDepth 65536 in
theorem w_room : about1.hasRoom e0.platform room_1 = true :=
  launch0.hasRoom_least _ room_1 (by decide +kernel) (by decide +kernel) (by decide +kernel) (by decide +kernel) (by decide +kernel) (by decide +kernel)
theorem allAtoms_all (ts : List Jvm.Cond) (a : Array Jvm.Value) (st : Jvm.State) : (allAtoms ts).before a st = ts.all (fun c => c.before a st) := by
  induction ts with
  | nil => rfl
  | cons c t ih =>
    show (Jvm.Cond.and c (allAtoms t)).before a st = _
    rw [Jvm.Cond.before_and, ih, List.all_cons]
def words1 : List Jvm.Cond := Jvm.Cond.code x code maxLocals ret :: tables_1
/-- a 'code' word, met by the world's own term for the bytes: nothing is compared byte by byte -/
theorem code_word {y : MethodName} {bytes : ByteArray} {mx : Nat} {rt : Option FieldType} {a : Array Value} {s : State} {m : MethodId} {meth : Method} {c : Code} (h1 : s.methodNamed? y = some m) (h2 : s.vm.method? m = some meth) (h3 : meth.code = some c) (h4 : c.code = bytes)
    (h5 : (c.maxLocals == mx && c.exceptionTable.isEmpty && decide (c.maxStack ≤ mostOperands) && decide (meth.sig.returnType = rt) && !meth.locks && decide (parseMethodDescriptor y.desc = some meth.sig)) = true) : (Jvm.Cond.code y bytes mx rt).before a s = true := by
  simp only [Bool.and_eq_true, beq_iff_eq, Bool.not_eq_true', decide_eq_true_eq] at h5
  obtain ⟨⟨⟨⟨⟨g1, g2⟩, g3⟩, g4⟩, g5⟩, g6⟩ := h5
  simp [Cond.before, Cond.holds, Cond.value, h1, h2, h3, h4, g1, g2, g3, g4, g5, g6]
def isCode : Jvm.Cond → Bool
  | .code _ _ _ _ => true
  | _ => false
theorem all_split {L : List Jvm.Cond} {P : Jvm.Cond → Bool} (h1 : L.all (fun c => isCode c || P c) = true) (h2 : ∀ c ∈ L.filter isCode, P c = true) : L.all P = true := by
  refine List.all_eq_true.mpr fun c hc => ?_
  have h := List.all_eq_true.mp h1 c hc
  rcases Bool.eq_false_or_eq_true (isCode c) with hi | hi
  · exact h2 c (List.mem_filter.mpr ⟨hc, hi⟩)
  · simpa [hi] using h
set_option maxRecDepth 65536 in
theorem w_c0 : (Jvm.Cond.code x code maxLocals ret).before args0 about1 = true := code_word (m := ⟨1, 1⟩) (meth := k1m1) (c := k1c1) (by decide +kernel) rfl rfl rfl (by decide +kernel)
set_option maxRecDepth 65536 in
theorem w_c1 : (Jvm.Cond.code ({ cls := "com/example/mullion/mullion/service/Frame", name := "<init>", desc := "(JJII)V" } : Jvm.MethodName) prog_43_method_1_code (7 : Nat) (Option.none : Option Jvm.ClassFile.FieldType)).before args0 about1 = true := code_word (m := ⟨3, 0⟩) (meth := k3m0) (c := k3c0) (by decide +kernel) rfl rfl rfl (by decide +kernel)
set_option maxRecDepth 65536 in
theorem w_c2 : (Jvm.Cond.code ({ cls := "java/lang/Record", name := "<init>", desc := "()V" } : Jvm.MethodName) jdk_30_method_1_code (1 : Nat) (Option.none : Option Jvm.ClassFile.FieldType)).before args0 about1 = true := code_word (m := ⟨2, 0⟩) (meth := k2m0) (c := k2c0) (by decide +kernel) rfl rfl rfl (by decide +kernel)
set_option maxRecDepth 65536 in
theorem w_c3 : (Jvm.Cond.code ({ cls := "java/lang/Object", name := "<init>", desc := "()V" } : Jvm.MethodName) object_method_1_code (1 : Nat) (Option.none : Option Jvm.ClassFile.FieldType)).before args0 about1 = true := code_word (m := ⟨0, 0⟩) (meth := k0m0) (c := k0c0) (by decide +kernel) rfl rfl rfl (by decide +kernel)
set_option maxRecDepth 65536 in
theorem w_c4 : (Jvm.Cond.code ({ cls := "com/example/mullion/mullion/service/Frame", name := "holds", desc := "(II)Z" } : Jvm.MethodName) prog_43_method_2_code (3 : Nat) (Option.some Jvm.ClassFile.FieldType.boolean)).before args0 about1 = true := code_word (m := ⟨3, 1⟩) (meth := k3m1) (c := k3c1) (by decide +kernel) rfl rfl rfl (by decide +kernel)
def codes1 : List Jvm.Cond := [Jvm.Cond.code x code maxLocals ret, Jvm.Cond.code ({ cls := "com/example/mullion/mullion/service/Frame", name := "<init>", desc := "(JJII)V" } : Jvm.MethodName) prog_43_method_1_code (7 : Nat) (Option.none : Option Jvm.ClassFile.FieldType), Jvm.Cond.code ({ cls := "java/lang/Record", name := "<init>", desc := "()V" } : Jvm.MethodName) jdk_30_method_1_code (1 : Nat) (Option.none : Option Jvm.ClassFile.FieldType), Jvm.Cond.code ({ cls := "java/lang/Object", name := "<init>", desc := "()V" } : Jvm.MethodName) object_method_1_code (1 : Nat) (Option.none : Option Jvm.ClassFile.FieldType), Jvm.Cond.code ({ cls := "com/example/mullion/mullion/service/Frame", name := "holds", desc := "(II)Z" } : Jvm.MethodName) prog_43_method_2_code (3 : Nat) (Option.some Jvm.ClassFile.FieldType.boolean)]
set_option maxRecDepth 65536 in
theorem codes_eq : words1.filter isCode = codes1 := rfl
theorem w_codes : ∀ c ∈ words1.filter isCode, c.before args0 about1 = true := by
  rw [codes_eq]
  intro c hc
  simp only [codes1, List.mem_cons, List.not_mem_nil, or_false] at hc
  rcases hc with rfl | rfl | rfl | rfl | rfl
  · exact w_c0
  · exact w_c1
  · exact w_c2
  · exact w_c3
  · exact w_c4
set_option maxRecDepth 65536 in
theorem w_t1 : (words1.take 24).all (fun c => isCode c || c.before args0 about1) = true := by decide +kernel
set_option maxRecDepth 65536 in
theorem w_t2 : (words1.drop 24).all (fun c => isCode c || c.before args0 about1) = true := by decide +kernel
theorem w_tables : (allAtoms (Jvm.Cond.code x code maxLocals ret :: tables_1)).before args0 about1 = true := by
  rw [allAtoms_all]
  show words1.all (fun c => c.before args0 about1) = true
  refine all_split ?_ w_codes
  rw [← List.take_append_drop 24 words1, List.all_append, w_t1, w_t2]
  rfl
set_option maxRecDepth 65536 in
theorem w_case : (Jvm.Cond.and given_1 narrow_1).before args0 about1 = true := by decide +kernel
theorem w_applies : (headSpec (Jvm.Cond.code x code maxLocals ret :: tables_1) room_1).applies x e0.platform about1 = true :=
  (Spec.applies_iff w_frames).mpr ⟨w_running, w_runnable, w_alone, w_named, w_hears, w_ripe, w_room, w_tables⟩
theorem atStart : AtStart classFile x code maxLocals ret World_1 tables_1 room_1 Calls_1 rest_1 Pre_1 launch0 p0 e0 about1 theMethod args0 below0 :=
  ⟨lists_1, trivial, launch0.admits_env _ _ _, launch0.least_env, fairChoices_fair.cas, fairChoices_fair.clock, w_frames, w_args, w_heap, w_applies, trivial, trivial, w_case⟩
end start1
theorem witness_1 : WitnessClaimed_1 := ⟨start1.p0, start1.e0, start1.about1, start1.theMethod, start1.args0, start1.below0, start1.atStart⟩
end Jvm.Pilot.@@N@@
