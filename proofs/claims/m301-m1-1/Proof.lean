import JvmDerived
import JvmDerived.Pilot.@@N@@Statement
import JvmDerived.Pilot.@@N@@Code
set_option linter.unusedVariables false
set_option linter.unusedSimpArgs false
namespace Jvm.RoadKit
open Sem ClassFile Op Lib Jvm.Stand Jvm.Free Jvm.LawKit
/-- the run from S comes to an end that Post allows -/
def own_Fin (tb : Tables) (e : Env) (below : List Frame) (Post : Outcome → State → Prop) (S : State) : Prop := ∃ s₂ o, Steps tb e below S s₂ ∧ s₂.status = .running ∧ Ended s₂ below o ∧ Post o s₂
def own_post (Q : Option Value → Heap → List Loc → Prop) (s : State) (k n : Nat) (o : Outcome) (U : State) : Prop := ∃ v L, o = .returned v ∧ Q v U.heap L ∧ FrameEnd s o U L k n
def own_bool (P : Prop) (v : Option Value) : Prop := (v = some (.int 1) ∧ P) ∨ (v = some (.int 0) ∧ ¬ P)
theorem own_Fin.step {tb : Tables} {e : Env} {below : List Frame} {Post : Outcome → State → Prop} {S S' : State} (h : ∀ t, Steps tb e below S' t → Steps tb e below S t) (k : own_Fin tb e below Post S') : own_Fin tb e below Post S := by
  obtain ⟨s2, o, h1, h2⟩ := k
  exact ⟨s2, o, h _ h1, h2⟩
theorem own_Fin.trans {tb : Tables} {e : Env} {below : List Frame} {Post : Outcome → State → Prop} {S S' : State} (h : Steps tb e below S S') (k : own_Fin tb e below Post S') : own_Fin tb e below Post S := by
  obtain ⟨s2, o, h1, h2⟩ := k
  exact ⟨s2, o, h.trans h1, h2⟩
section New
variable {p : Program} {l : Launch} {e : Env} {R : Room} {s : State} {m : MethodId} {args : Array Value} {below : List Frame} {meth : Method} {c : Code} {T : State} {locs : List Loc} {cells slots : Nat} {Q : Option Value → Heap → List Loc → Prop} {kc ks : Nat} {h : Heap}
theorem retI (X : Stand p l e R s m args below meth c T locs cells slots) (hx : p.tables.exec = Jvm.exec) {pc : Nat} {Ls : Array Slot} {z : Int32} {rest : List Value} (hret : meth.sig.returnType = some .int) (hd : decode c.code pc = .ok (.ireturn, 1)) {fs : List Frame}
    (hl : ∀ (f : JFrame) (acts : List Action), f.method = m → f.locked = none → f.entered = [] → (doReturn e (T.setTop f) acts (some (.int z))).1 = T.setFrames fs) : Steps p.tables e below (T.setTop (mkF m pc Ls (.int z :: rest))) (T.setFrames fs) := by
  have hm' : T.vm.method? m = some meth := X.method'
  have hn : narrow .int (.int z) = .int z := rfl
  show Steps p.tables e below (T.setTop { method := m, pc := pc, locals := Ls, stack := _ :: rest, locked := none }) _
  jvm_step X.here [X.here.top, hx, hd, hm', hret, hn]
  first | (intro acts; rw [hl _ acts rfl rfl rfl]) | rw [hl _ _ rfl rfl rfl]
  exact Steps.refl _
theorem own_retN (X : Stand p l e R s m args below meth c T locs cells slots) (hx : p.tables.exec = Jvm.exec) (hlk : meth.locks = false) {pc : Nat} {Ls : Array Slot} {z : Int32} {t : FieldType} {rest : List Value} (hret : meth.sig.returnType = some t) (ht : t = .boolean ∨ t = .byte ∨ t = .char ∨ t = .short)
    (hd : decode c.code pc = .ok (.ireturn, 1)) (eT : T.heap = h) (hq : Q (some (.int (nar t z))) h locs) (hc : cells ≤ kc) (hs : slots ≤ ks) : own_Fin p.tables e below (own_post Q s kc ks) (T.setTop (mkF m pc Ls (.int z :: rest))) := by
  obtain ⟨fs, hr, hrun, hended, hW, hsame⟩ := X.leave (v := some (.int (nar t z))) (fun h => by rw [hret] at h; cases h) hlk
  exact ⟨_, _, retN X hx hret ht hd hr, hrun, hended, _, _, rfl, (eT ▸ hq : Q (some (.int (nar t z))) T.heap locs), ⟨_, rfl⟩, hW, hsame.mono hc hs⟩
theorem own_retI (X : Stand p l e R s m args below meth c T locs cells slots) (hx : p.tables.exec = Jvm.exec) (hlk : meth.locks = false) {pc : Nat} {Ls : Array Slot} {z : Int32} {rest : List Value} (hret : meth.sig.returnType = some .int)
    (hd : decode c.code pc = .ok (.ireturn, 1)) (eT : T.heap = h) (hq : Q (some (.int z)) h locs) (hc : cells ≤ kc) (hs : slots ≤ ks) : own_Fin p.tables e below (own_post Q s kc ks) (T.setTop (mkF m pc Ls (.int z :: rest))) := by
  obtain ⟨fs, hr, hrun, hended, hW, hsame⟩ := X.leave (v := some (.int z)) (fun h => by rw [hret] at h; cases h) hlk
  exact ⟨_, _, retI X hx hret hd hr, hrun, hended, _, _, rfl, (eT ▸ hq : Q (some (.int z)) T.heap locs), ⟨_, rfl⟩, hW, hsame.mono hc hs⟩
theorem own_retJ (X : Stand p l e R s m args below meth c T locs cells slots) (hx : p.tables.exec = Jvm.exec) (hlk : meth.locks = false) {pc : Nat} {Ls : Array Slot} {z : Int64} (hret : meth.sig.returnType = some .long)
    (hd : decode c.code pc = .ok (.lreturn, 1)) (eT : T.heap = h) (hq : Q (some (.long z)) h locs) (hc : cells ≤ kc) (hs : slots ≤ ks) : own_Fin p.tables e below (own_post Q s kc ks) (T.setTop (mkF m pc Ls [.long z])) := by
  obtain ⟨fs, hr, hrun, hended, hW, hsame⟩ := X.leave (v := some (.long z)) (fun h => by rw [hret] at h; cases h) hlk
  exact ⟨_, _, X.lreturnOut hx hret hd hr, hrun, hended, _, _, rfl, (eT ▸ hq : Q (some (.long z)) T.heap locs), ⟨_, rfl⟩, hW, hsame.mono hc hs⟩
theorem own_retR (X : Stand p l e R s m args below meth c T locs cells slots) (hx : p.tables.exec = Jvm.exec) (hlk : meth.locks = false) {pc : Nat} {Ls : Array Slot} {w : Value} {t : FieldType} (hw : w.isRef = true) (hret : meth.sig.returnType = some t) (ht : t.isReference = true)
    (hd : decode c.code pc = .ok (.areturn, 1)) (eT : T.heap = h) (hq : Q (some w) h locs) (hc : cells ≤ kc) (hs : slots ≤ ks) : own_Fin p.tables e below (own_post Q s kc ks) (T.setTop (mkF m pc Ls [w])) := by
  obtain ⟨fs, hr, hrun, hended, hW, hsame⟩ := X.leave (v := some w) (fun h => by rw [hret] at h; cases h) hlk
  exact ⟨_, _, X.areturnOut hx hw hret ht hd hr, hrun, hended, _, _, rfl, (eT ▸ hq : Q (some w) T.heap locs), ⟨_, rfl⟩, hW, hsame.mono hc hs⟩
theorem own_retV (X : Stand p l e R s m args below meth c T locs cells slots) (hx : p.tables.exec = Jvm.exec) (hlk : meth.locks = false) {pc : Nat} {Ls : Array Slot} (hret : meth.sig.returnType = none)
    (hd : decode c.code pc = .ok (.return_, 1)) (eT : T.heap = h) (hq : Q none h locs) (hc : cells ≤ kc) (hs : slots ≤ ks) : own_Fin p.tables e below (own_post Q s kc ks) (T.setTop (mkF m pc Ls [])) := by
  obtain ⟨fs, hr, hrun, hended, hW, hsame⟩ := X.leave (v := none) (fun _ => rfl) hlk
  exact ⟨_, _, X.returnOut hx hret hd hr, hrun, hended, _, _, rfl, (eT ▸ hq : Q none T.heap locs), ⟨_, rfl⟩, hW, hsame.mono hc hs⟩
theorem own_cat1 {v : Value} (h : v.isRef = true) : v.category = 1 := by cases v <;> simp [Value.isRef, Value.category] at h ⊢
theorem own_fitR {v : Value} {C : String} (h : v.isRef = true) : fits (.object C) v = true := by cases v <;> simp [Value.isRef, fits] at h ⊢
theorem own_fitA {v : Value} {ty : FieldType} (h : v.isRef = true) : fits (.array ty) v = true := by cases v <;> simp [Value.isRef, fits] at h ⊢
theorem own_selPriv {s : State} {args : Array Value} {y : MethodName} {n : Nat} (hi : (Cond.instantiable y.cls n).before args s = true) (hpriv : s.PrivateAt y) (hinst : (Cond.instanceMethod y).before args s = true) (hy : y.cls ≠ "java/lang/invoke/MethodHandle" ∧ y.cls ≠ "java/lang/invoke/VarHandle") : (Cond.selects y.cls y y).before args s = true := by
  obtain ⟨c, k, h1, h2, -, h4, -, -⟩ := Cond.instantiable_spec hi
  have h5 : k.isInterface = false := by
    cases hk : k.isInterface with
    | false => rfl
    | true => simp [hk] at h4
  exact selects_self_of_private h1 h2 h5 hpriv hinst hy
theorem own_eqI {a b : Term} {args : Array Value} {first st : State} {o : Option Outcome} {idx : List Nat} {y : Int32} (h : (Cond.eq a b).value args first o st idx = some true) (hb : b.eval args first o idx st = some (.int y)) : a.eval args first o idx st = some (.int y) := by
  cases ha : a.eval args first o idx st with
  | none => simp [Cond.value, ha] at h
  | some x => cases x <;> simp [Cond.value, ha, hb] at h ⊢ <;> exact h
theorem own_eqR {a b : Term} {args : Array Value} {first st : State} {o : Option Outcome} {idx : List Nat} {y : Addr} (h : (Cond.eq a b).value args first o st idx = some true) (hb : b.eval args first o idx st = some (.ref y)) : a.eval args first o idx st = some (.ref y) := by
  cases ha : a.eval args first o idx st with
  | none => simp [Cond.value, ha] at h
  | some x => cases x <;> simp [Cond.value, ha, hb] at h ⊢ <;> exact h
theorem own_elem {t : Term} {args : Array Value} {Z : State} {a : Addr} {cl : Cell} {ty : FieldType} {j : Int32} {v : Value} (ev : t.eval args Z none [] Z = some (.ref a)) (A : Arr Z Z.heap a cl ty) (h : (Term.elem t (.int j)).eval args Z none [] Z = some v) : cl.slots[j.toNatClampNeg]? = some v := by
  obtain ⟨a', j', cell, e1, e2, e3, -, e5⟩ := Term.elem_spec h
  cases e1.symm.trans ev
  have e6 : some (Value.int j) = some (Value.int j') := e2
  cases e6
  have := IntBox.arrayAt_of A.1 A.2.1 A.2.2
  cases e3.symm.trans this
  exact e5
theorem own_arv {t : Term} {args : Array Value} {Z : State} {a : Addr} {cl : Cell} {ty : FieldType} {z : Int32} {vs : List Value} {dv : Value} (hf : Fit Z) (ev : t.eval args Z none [] Z = some (.ref a)) (A : Arr Z Z.heap a cl ty) (hl : (Term.length t).eval args Z none [] Z = some (.int z)) (hz : ¬ z < 0) (hn : z.toNatClampNeg = vs.length) (H : HasL cl 0 vs) : Arv Z Z.heap a cl.cls ty z vs dv := by
  have hA := IntBox.arrayAt_of A.1 A.2.1 A.2.2
  have hlt : cl.slots.size < 2 ^ 31 := by
    by_cases hq : cl.slots.size < 2 ^ 31
    · exact hq
    · simp [Term.eval, ev, hA, hq] at hl
  have e := len_f (t := t) (args := args) (first := Z) (o := none) (idx := []) ev hA hlt
  have e2 : cl.slots.size.toInt32 = z := by
    have := e.symm.trans hl
    cases this; rfl
  exact Arv.start hf A hlt e2 hz hn H
end New
end Jvm.RoadKit
namespace Jvm.Pilot.@@N@@
open Jvm Jvm.ClassFile Sem Op Lib Jvm.Free Jvm.Stand Jvm.LawKit Jvm.RoadKit Bundle Jvm.Pilot.@@N@@.Jvm.D
theorem d1_0 : decode prog_17_method_4_code 0 = .ok (.iload_n 0, 1) := by decide +kernel
theorem d1_1 : decode prog_17_method_4_code 1 = .ok (.bipush 32, 2) := by decide +kernel
theorem d1_3 : decode prog_17_method_4_code 3 = .ok (.if_icmp .eq 27, 3) := by decide +kernel
theorem d1_6 : decode prog_17_method_4_code 6 = .ok (.iload_n 0, 1) := by decide +kernel
theorem d1_7 : decode prog_17_method_4_code 7 = .ok (.bipush 9, 2) := by decide +kernel
theorem d1_9 : decode prog_17_method_4_code 9 = .ok (.if_icmp .eq 21, 3) := by decide +kernel
theorem d1_12 : decode prog_17_method_4_code 12 = .ok (.iload_n 0, 1) := by decide +kernel
theorem d1_13 : decode prog_17_method_4_code 13 = .ok (.bipush 10, 2) := by decide +kernel
theorem d1_15 : decode prog_17_method_4_code 15 = .ok (.if_icmp .eq 15, 3) := by decide +kernel
theorem d1_18 : decode prog_17_method_4_code 18 = .ok (.iload_n 0, 1) := by decide +kernel
theorem d1_19 : decode prog_17_method_4_code 19 = .ok (.bipush 12, 2) := by decide +kernel
theorem d1_21 : decode prog_17_method_4_code 21 = .ok (.if_icmp .eq 9, 3) := by decide +kernel
theorem d1_24 : decode prog_17_method_4_code 24 = .ok (.iload_n 0, 1) := by decide +kernel
theorem d1_25 : decode prog_17_method_4_code 25 = .ok (.bipush 13, 2) := by decide +kernel
theorem d1_27 : decode prog_17_method_4_code 27 = .ok (.if_icmp .ne 7, 3) := by decide +kernel
theorem d1_30 : decode prog_17_method_4_code 30 = .ok (.iconst 1, 1) := by decide +kernel
theorem d1_31 : decode prog_17_method_4_code 31 = .ok (.goto 4, 3) := by decide +kernel
theorem d1_34 : decode prog_17_method_4_code 34 = .ok (.iconst 0, 1) := by decide +kernel
theorem d1_35 : decode prog_17_method_4_code 35 = .ok (.ireturn, 1) := by decide +kernel
theorem pn_1 : plainName "com/example/annotree/annotree/tree/ElementText" = true := by first | (simp [plainName, overriddenIn]; done) | decide +kernel
theorem ef_1 (m : MethodId) (x0 : Int32) : entryFrame m #[(.int x0)] 1 = mkF m 0 #[.val (.int x0)] [] := by first | (simp [entryFrame, mkF, argsToLocals, Value.category]; done) | rfl
def Q1 (Z : State) (ch : Int32) (h0 : Heap) (n0 : Nat) (v : Option Value) (h : Heap) (L : List Loc) : Prop := own_bool (ch = 32 ∨ ch = 9 ∨ ch = 10 ∨ ch = 12 ∨ ch = 13) v ∧ Fr n0 L ∧ h = h0
set_option maxRecDepth 65536 in
set_option maxHeartbeats 40000000 in
theorem rm1 (l : Launch) (Z : State) (a0 : Array Value) (hw : ∀ d ∈ tables_1, d.before a0 Z = true) (ws : List Jvm.Cond) (ch : Int32) (h0 : Heap) (n0 : Nat) (Z0 : n0 ≤ h0.size)  :
    MetFree l (⟨"com/example/annotree/annotree/tree/ElementText", "isWhiteSpace", "(C)Z"⟩ : MethodName) (head1 (Jvm.Cond.code (⟨"com/example/annotree/annotree/tree/ElementText", "isWhiteSpace", "(C)Z"⟩ : MethodName) prog_17_method_4_code 1 (some .boolean) :: ws) ({ frames := 0, cells := 0, slots := 0, locals := 0 } : Room)) (fun a U => a = #[(.int ch)] ∧ Z.Warmed39 U.vm ∧ U.heap = h0) (fun _ _ _ _ _ => True) (fun _ U o U' => ∃ v L, o = .returned v ∧ Q1 Z ch h0 n0 v U'.heap L ∧ FrameEnd U o U' L ({ frames := 0, cells := 0, slots := 0, locals := 0 } : Room).cells ({ frames := 0, cells := 0, slots := 0, locals := 0 } : Room).slots) := by
  refine MetFree.of_bodySF (plainFor_of_name pn_1) hisR ?_
  intro p e s m args below meth c s₁ Bd hml0 hP hK
  obtain ⟨rfl, hZ, hh⟩ := hP
  have hx := Bd.exec
  have hby := Bd.bytes
  have hml : c.maxLocals = 1 := hml0
  have hown : s.vm.findClass "com/example/annotree/annotree/tree/ElementText" = some m.cls := findClass_of_methodNamed Bd.named
  have hnm := (name_of_methodNamed Bd.named Bd.method).1
  have hlk : meth.locks = false := BodyLoose.notSynchronized Bd
  have hrt := Bd.returns
  have X0 : Stand p l e ({ frames := 0, cells := 0, slots := 0, locals := 0 } : Room) s m #[(.int ch)] below meth c s₁ [] 0 0 := Stand.of_body Bd
  have e0 : s₁.heap = h0 := by rw [← hh, Bd.state]; rfl
  have N0 := Fr.nil n0
  show own_Fin p.tables e below (own_post (Q1 Z ch h0 n0) s ({ frames := 0, cells := 0, slots := 0, locals := 0 } : Room).cells ({ frames := 0, cells := 0, slots := 0, locals := 0 } : Room).slots) (s₁.setTop (entryFrame m #[(.int ch)] 1))
  refine own_Fin.step (fun t k => castTop (ef_1 m ch) k) ?_
  refine own_Fin.step (S' := s₁.setTop (mkF m 1 #[.val (.int ch)] [(.int ch)])) (fun t k => XS.iloadN X0.here hx rfl (hb hby d1_0) rfl  k) ?_
  refine own_Fin.step (S' := s₁.setTop (mkF m 3 #[.val (.int ch)] [(.int (32 : Int32)), (.int ch)])) (fun t k => XS.bipush X0.here hx rfl (hb hby d1_1) k) ?_
  by_cases hc3 : ch = (32 : Int32)
  · refine own_Fin.step (S' := s₁.setTop (mkF m 30 #[.val (.int ch)] [])) (fun t k => XS.icmpYes X0.here hx rfl (pc0 := 3) (pc' := 30) rfl (hb hby d1_3) rfl (teq hc3).1 (by decide) (by decide) k) ?_
    refine own_Fin.step (S' := s₁.setTop (mkF m 31 #[.val (.int ch)] [(.int (1 : Int32))])) (fun t k => XS.iconst X0.here hx rfl (hb hby d1_30) k) ?_
    refine own_Fin.step (S' := s₁.setTop (mkF m 35 #[.val (.int ch)] [(.int (1 : Int32))])) (fun t k => XS.goto X0.here hx rfl (pc0 := 31) (pc' := 35) rfl (hb hby d1_31) (by decide) (by decide) k) ?_
    have hq1 : Q1 Z ch h0 n0 (some (.int (nar .boolean (1 : Int32)))) h0 _ := ⟨Or.inl ⟨rfl, (by simp [hc3])⟩, N0, rfl⟩
    exact own_retN X0 hx hlk (t := .boolean) hrt (by simp) (hb hby d1_35) e0 hq1 (by decide) (by decide)
  · refine own_Fin.step (S' := s₁.setTop (mkF m 6 #[.val (.int ch)] [])) (fun t k => XS.icmpNo X0.here hx rfl (hb hby d1_3) rfl (feq hc3).1 k) ?_
    refine own_Fin.step (S' := s₁.setTop (mkF m 7 #[.val (.int ch)] [(.int ch)])) (fun t k => XS.iloadN X0.here hx rfl (hb hby d1_6) rfl  k) ?_
    refine own_Fin.step (S' := s₁.setTop (mkF m 9 #[.val (.int ch)] [(.int (9 : Int32)), (.int ch)])) (fun t k => XS.bipush X0.here hx rfl (hb hby d1_7) k) ?_
    by_cases hc9 : ch = (9 : Int32)
    · refine own_Fin.step (S' := s₁.setTop (mkF m 30 #[.val (.int ch)] [])) (fun t k => XS.icmpYes X0.here hx rfl (pc0 := 9) (pc' := 30) rfl (hb hby d1_9) rfl (teq hc9).1 (by decide) (by decide) k) ?_
      refine own_Fin.step (S' := s₁.setTop (mkF m 31 #[.val (.int ch)] [(.int (1 : Int32))])) (fun t k => XS.iconst X0.here hx rfl (hb hby d1_30) k) ?_
      refine own_Fin.step (S' := s₁.setTop (mkF m 35 #[.val (.int ch)] [(.int (1 : Int32))])) (fun t k => XS.goto X0.here hx rfl (pc0 := 31) (pc' := 35) rfl (hb hby d1_31) (by decide) (by decide) k) ?_
      have hq2 : Q1 Z ch h0 n0 (some (.int (nar .boolean (1 : Int32)))) h0 _ := ⟨Or.inl ⟨rfl, (by simp [hc3, hc9])⟩, N0, rfl⟩
      exact own_retN X0 hx hlk (t := .boolean) hrt (by simp) (hb hby d1_35) e0 hq2 (by decide) (by decide)
    · refine own_Fin.step (S' := s₁.setTop (mkF m 12 #[.val (.int ch)] [])) (fun t k => XS.icmpNo X0.here hx rfl (hb hby d1_9) rfl (feq hc9).1 k) ?_
      refine own_Fin.step (S' := s₁.setTop (mkF m 13 #[.val (.int ch)] [(.int ch)])) (fun t k => XS.iloadN X0.here hx rfl (hb hby d1_12) rfl  k) ?_
      refine own_Fin.step (S' := s₁.setTop (mkF m 15 #[.val (.int ch)] [(.int (10 : Int32)), (.int ch)])) (fun t k => XS.bipush X0.here hx rfl (hb hby d1_13) k) ?_
      by_cases hc15 : ch = (10 : Int32)
      · refine own_Fin.step (S' := s₁.setTop (mkF m 30 #[.val (.int ch)] [])) (fun t k => XS.icmpYes X0.here hx rfl (pc0 := 15) (pc' := 30) rfl (hb hby d1_15) rfl (teq hc15).1 (by decide) (by decide) k) ?_
        refine own_Fin.step (S' := s₁.setTop (mkF m 31 #[.val (.int ch)] [(.int (1 : Int32))])) (fun t k => XS.iconst X0.here hx rfl (hb hby d1_30) k) ?_
        refine own_Fin.step (S' := s₁.setTop (mkF m 35 #[.val (.int ch)] [(.int (1 : Int32))])) (fun t k => XS.goto X0.here hx rfl (pc0 := 31) (pc' := 35) rfl (hb hby d1_31) (by decide) (by decide) k) ?_
        have hq3 : Q1 Z ch h0 n0 (some (.int (nar .boolean (1 : Int32)))) h0 _ := ⟨Or.inl ⟨rfl, (by simp [hc3, hc9, hc15])⟩, N0, rfl⟩
        exact own_retN X0 hx hlk (t := .boolean) hrt (by simp) (hb hby d1_35) e0 hq3 (by decide) (by decide)
      · refine own_Fin.step (S' := s₁.setTop (mkF m 18 #[.val (.int ch)] [])) (fun t k => XS.icmpNo X0.here hx rfl (hb hby d1_15) rfl (feq hc15).1 k) ?_
        refine own_Fin.step (S' := s₁.setTop (mkF m 19 #[.val (.int ch)] [(.int ch)])) (fun t k => XS.iloadN X0.here hx rfl (hb hby d1_18) rfl  k) ?_
        refine own_Fin.step (S' := s₁.setTop (mkF m 21 #[.val (.int ch)] [(.int (12 : Int32)), (.int ch)])) (fun t k => XS.bipush X0.here hx rfl (hb hby d1_19) k) ?_
        by_cases hc21 : ch = (12 : Int32)
        · refine own_Fin.step (S' := s₁.setTop (mkF m 30 #[.val (.int ch)] [])) (fun t k => XS.icmpYes X0.here hx rfl (pc0 := 21) (pc' := 30) rfl (hb hby d1_21) rfl (teq hc21).1 (by decide) (by decide) k) ?_
          refine own_Fin.step (S' := s₁.setTop (mkF m 31 #[.val (.int ch)] [(.int (1 : Int32))])) (fun t k => XS.iconst X0.here hx rfl (hb hby d1_30) k) ?_
          refine own_Fin.step (S' := s₁.setTop (mkF m 35 #[.val (.int ch)] [(.int (1 : Int32))])) (fun t k => XS.goto X0.here hx rfl (pc0 := 31) (pc' := 35) rfl (hb hby d1_31) (by decide) (by decide) k) ?_
          have hq4 : Q1 Z ch h0 n0 (some (.int (nar .boolean (1 : Int32)))) h0 _ := ⟨Or.inl ⟨rfl, (by simp [hc3, hc9, hc15, hc21])⟩, N0, rfl⟩
          exact own_retN X0 hx hlk (t := .boolean) hrt (by simp) (hb hby d1_35) e0 hq4 (by decide) (by decide)
        · refine own_Fin.step (S' := s₁.setTop (mkF m 24 #[.val (.int ch)] [])) (fun t k => XS.icmpNo X0.here hx rfl (hb hby d1_21) rfl (feq hc21).1 k) ?_
          refine own_Fin.step (S' := s₁.setTop (mkF m 25 #[.val (.int ch)] [(.int ch)])) (fun t k => XS.iloadN X0.here hx rfl (hb hby d1_24) rfl  k) ?_
          refine own_Fin.step (S' := s₁.setTop (mkF m 27 #[.val (.int ch)] [(.int (13 : Int32)), (.int ch)])) (fun t k => XS.bipush X0.here hx rfl (hb hby d1_25) k) ?_
          by_cases hc27 : ch = (13 : Int32)
          · refine own_Fin.step (S' := s₁.setTop (mkF m 30 #[.val (.int ch)] [])) (fun t k => XS.icmpNo X0.here hx rfl (hb hby d1_27) rfl (teq hc27).2 k) ?_
            refine own_Fin.step (S' := s₁.setTop (mkF m 31 #[.val (.int ch)] [(.int (1 : Int32))])) (fun t k => XS.iconst X0.here hx rfl (hb hby d1_30) k) ?_
            refine own_Fin.step (S' := s₁.setTop (mkF m 35 #[.val (.int ch)] [(.int (1 : Int32))])) (fun t k => XS.goto X0.here hx rfl (pc0 := 31) (pc' := 35) rfl (hb hby d1_31) (by decide) (by decide) k) ?_
            have hq5 : Q1 Z ch h0 n0 (some (.int (nar .boolean (1 : Int32)))) h0 _ := ⟨Or.inl ⟨rfl, (by simp [hc3, hc9, hc15, hc21, hc27])⟩, N0, rfl⟩
            exact own_retN X0 hx hlk (t := .boolean) hrt (by simp) (hb hby d1_35) e0 hq5 (by decide) (by decide)
          · refine own_Fin.step (S' := s₁.setTop (mkF m 34 #[.val (.int ch)] [])) (fun t k => XS.icmpYes X0.here hx rfl (pc0 := 27) (pc' := 34) rfl (hb hby d1_27) rfl (feq hc27).2 (by decide) (by decide) k) ?_
            refine own_Fin.step (S' := s₁.setTop (mkF m 35 #[.val (.int ch)] [(.int (0 : Int32))])) (fun t k => XS.iconst X0.here hx rfl (hb hby d1_34) k) ?_
            have hq6 : Q1 Z ch h0 n0 (some (.int (nar .boolean (0 : Int32)))) h0 _ := ⟨Or.inr ⟨rfl, (by simp [hc3, hc9, hc15, hc21, hc27])⟩, N0, rfl⟩
            exact own_retN X0 hx hlk (t := .boolean) hrt (by simp) (hb hby d1_35) e0 hq6 (by decide) (by decide)

theorem own_bits : ∀ i : Fin 33, let c : Int32 := Int32.ofNat i.val; (((((4294981120 : Int64).toUInt64 >>> (c &&& 0x3f).toInt64.toUInt64).toInt64) &&& (1 : Int64)) = (0 : Int64)) ↔ ¬ (c = 32 ∨ c = 9 ∨ c = 10 ∨ c = 12 ∨ c = 13) := by decide +kernel
theorem own_pin {x c : Int32} (h : c = x.toUInt32.toUInt16.toUInt32.toInt32) : ((32 : Int32) < c → ¬ (c = 32 ∨ c = 9 ∨ c = 10 ∨ c = 12 ∨ c = 13)) ∧ (¬ (32 : Int32) < c → (((((4294981120 : Int64).toUInt64 >>> (c &&& 0x3f).toInt64.toUInt64).toInt64) &&& (1 : Int64)) = (0 : Int64) → ¬ (c = 32 ∨ c = 9 ∨ c = 10 ∨ c = 12 ∨ c = 13)) ∧ (¬ ((((4294981120 : Int64).toUInt64 >>> (c &&& 0x3f).toInt64.toUInt64).toInt64) &&& (1 : Int64)) = (0 : Int64) → (c = 32 ∨ c = 9 ∨ c = 10 ∨ c = 12 ∨ c = 13))) := by
  have hr := c_i2c x
  rw [← h] at hr
  constructor
  · intro h1 h2
    rcases h2 with rfl | rfl | rfl | rfl | rfl <;> exact absurd h1 (by decide)
  · intro h1
    rw [Int32.lt_iff_toInt_lt] at h1
    have e : (32 : Int32).toInt = 32 := rfl
    obtain ⟨k, hk⟩ : ∃ k : Nat, c.toInt = (k : Int) := ⟨c.toInt.toNat, by omega⟩
    have hk2 : k < 33 := by omega
    have hc : c = Int32.ofNat k := by
      apply Int32.toInt_inj.mp
      rw [hk, Int32.toInt_ofNat_of_lt (by omega)]
    have := own_bits ⟨k, hk2⟩
    simp only [← hc] at this
    exact ⟨fun q => this.mp q, fun q => Classical.byContradiction fun r => q (this.mpr r)⟩

theorem pn_0 : plainName "com/example/annotree/annotree/tree/ElementTextIsWhiteSpacePinLaw" = true := by first | (simp [plainName, overriddenIn]; done) | decide +kernel
theorem pd_0_0 : parseMethodDescriptor "(C)Z" = some ⟨[.char], some .boolean⟩ := by decide +kernel
theorem ef_0 (m : MethodId) (x0 : Int32) : entryFrame m #[(.int x0)] maxLocals = mkF m 0 #[.val (.int x0), .unset, .unset] [] := by first | (simp [entryFrame, mkF, argsToLocals, Value.category, maxLocals]; done) | rfl
def Q0 (Z : State) (x0 : Int32) (h0 : Heap) (n0 : Nat) (v : Option Value) (h : Heap) (L : List Loc) : Prop := v = some (.int (1 : Int32)) ∧ Fr n0 L
set_option maxRecDepth 65536 in
set_option maxHeartbeats 40000000 in
theorem rm0 (l : Launch) (Z : State) (a0 : Array Value) (hw : ∀ d ∈ tables_1, d.before a0 Z = true) (ws : List Jvm.Cond) (x0 : Int32) (h0 : Heap) (n0 : Nat) (Z0 : n0 ≤ h0.size)  :
    MetFree l x (head1 (Jvm.Cond.code x code maxLocals ret :: ws) room_1) (fun a U => a = #[(.int x0)] ∧ Z.Warmed39 U.vm ∧ U.heap = h0) (fun _ _ _ _ _ => True) (fun _ U o U' => ∃ v L, o = .returned v ∧ Q0 Z x0 h0 n0 v U'.heap L ∧ FrameEnd U o U' L 0 0) := by
  refine MetFree.of_bodySF (plainFor_of_name pn_0) hisR ?_
  intro p e s m args below meth c s₁ Bd hml0 hP hK
  obtain ⟨rfl, hZ, hh⟩ := hP
  have hx := Bd.exec
  have hby := Bd.bytes
  have hml : c.maxLocals = 3 := hml0
  have hown : s.vm.findClass "com/example/annotree/annotree/tree/ElementTextIsWhiteSpacePinLaw" = some m.cls := findClass_of_methodNamed Bd.named
  have hnm := (name_of_methodNamed Bd.named Bd.method).1
  have hlk : meth.locks = false := BodyLoose.notSynchronized Bd
  have hrt := Bd.returns
  have X0 : Stand p l e room_1 s m #[(.int x0)] below meth c s₁ [] 0 0 := Stand.of_body Bd
  have e0 : s₁.heap = h0 := by rw [← hh, Bd.state]; rfl
  have N0 := Fr.nil n0
  show own_Fin p.tables e below (own_post (Q0 Z x0 h0 n0) s 0 0) (s₁.setTop (entryFrame m #[(.int x0)] maxLocals))
  refine own_Fin.step (fun t k => castTop (ef_0 m x0) k) ?_
  refine own_Fin.step (S' := s₁.setTop (mkF m 1 #[.val (.int x0), .unset, .unset] [(.int x0)])) (fun t k => XS.iloadN X0.here hx rfl (hb hby at_0) rfl  k) ?_
  refine own_Fin.step (S' := s₁.setTop (mkF m 2 #[.val (.int x0), .unset, .unset] [(.int (x0.toUInt32.toUInt16.toUInt32.toInt32))])) (fun t k => XS.i2c X0.here hx rfl (hb hby at_1) rfl k) ?_
  obtain ⟨v2, hv2⟩ : ∃ z : Int32, z = (x0.toUInt32.toUInt16.toUInt32.toInt32) := ⟨_, rfl⟩
  rw [← hv2]
  refine own_Fin.step (S' := s₁.setTop (mkF m 3 #[.val (.int x0), .val (.int v2), .unset] [])) (fun t k => XS.istoreN X0.here hx rfl (hb hby at_2) rfl (l' := #[.val (.int x0), .val (.int v2), .unset]) rfl k) ?_
  refine own_Fin.step (S' := s₁.setTop (mkF m 4 #[.val (.int x0), .val (.int v2), .unset] [(.int v2)])) (fun t k => XS.iloadN X0.here hx rfl (hb hby at_3) rfl  k) ?_
  refine own_Fin.step (S' := s₁.setTop (mkF m 6 #[.val (.int x0), .val (.int v2), .unset] [(.int (32 : Int32)), (.int v2)])) (fun t k => XS.bipush X0.here hx rfl (hb hby at_4) k) ?_
  by_cases hc6 : (32 : Int32) < v2
  · refine own_Fin.step (S' := s₁.setTop (mkF m 25 #[.val (.int x0), .val (.int v2), .unset] [])) (fun t k => XS.icmpYes X0.here hx rfl (pc0 := 6) (pc' := 25) rfl (hb hby at_6) rfl (tlt hc6).2.2.1 (by decide) (by decide) k) ?_
    refine own_Fin.step (S' := s₁.setTop (mkF m 26 #[.val (.int x0), .val (.int v2), .unset] [(.int (0 : Int32))])) (fun t k => XS.iconst X0.here hx rfl (hb hby at_25) k) ?_
    refine own_Fin.step (S' := s₁.setTop (mkF m 27 #[.val (.int x0), .val (.int v2), .val (.int (0 : Int32))] [])) (fun t k => XS.istoreN X0.here hx rfl (hb hby at_26) rfl (l' := #[.val (.int x0), .val (.int v2), .val (.int (0 : Int32))]) rfl k) ?_
    refine own_Fin.step (S' := s₁.setTop (mkF m 28 #[.val (.int x0), .val (.int v2), .val (.int (0 : Int32))] [(.int v2)])) (fun t k => XS.iloadN X0.here hx rfl (hb hby at_27) rfl  k) ?_
    obtain ⟨_, _, ⟨T1, L1, k1, n1⟩, -, X1, ⟨Lc1, hQ1, l1, y1, zz1⟩, st1⟩ := Jvm.LawKit.callS X0 hx (y := (⟨"com/example/annotree/annotree/tree/ElementText", "isWhiteSpace", "(C)Z"⟩ : MethodName)) hown (mvT hZ (hw _ (List.mem_of_getElem? (i := 1) rfl))) (mvT hZ (hw _ (List.mem_of_getElem? (i := 2) rfl))) (mvT hZ (hw _ (List.mem_of_getElem? (i := 3) rfl))) (mvT hZ (hw _ (List.mem_of_getElem? (i := 4) rfl))) (by decide) (backOf (W := 0) (rm1 l Z a0 hw [] v2 h0 n0 (by omega) ) hZ (hw _ (List.mem_of_getElem? (i := 4) rfl)) (hw _ (List.mem_of_getElem? (i := 3) rfl)) (by decide) (by decide)) (g := (mkF m 28 #[.val (.int x0), .val (.int v2), .val (.int (0 : Int32))] [(.int v2)])) rfl (by rw [hml]; rfl) (argsL := [(.int v2)]) (rest := []) (lenOf pd_0_0 rfl) rfl (by show 2 * 0 + _ ≤ _; exact Nat.le_of_eq rfl) (hb hby at_28) (fun _ _ => ⟨rfl, e0, (by decide : 0 + 0 ≤ _), (by decide : 0 + 0 ≤ _)⟩)
    dsimp only [Pt.U, Pt.locs, Pt.cells, Pt.slots] at X1 l1 y1 zz1 st1 hQ1
    subst l1 y1 zz1
    obtain ⟨hvc1, N1q, e1⟩ := hQ1
    have N1 := Fr.app N0 N1q
    rcases hvc1 with ⟨rfl, hp28⟩ | ⟨rfl, hp28⟩
    · refine own_Fin.step (S' := T1.setTop (mkF m 31 #[.val (.int x0), .val (.int v2), .val (.int (0 : Int32))] [(.int (1 : Int32))])) st1 ?_
      refine own_Fin.step (S' := T1.setTop (mkF m 32 #[.val (.int x0), .val (.int v2), .val (.int (0 : Int32))] [(.int (0 : Int32)), (.int (1 : Int32))])) (fun t k => XS.iloadN X1.here hx rfl (hb hby at_31) rfl  k) ?_
      refine own_Fin.step (S' := T1.setTop (mkF m 39 #[.val (.int x0), .val (.int v2), .val (.int (0 : Int32))] [])) (fun t k => XS.icmpYes X1.here hx rfl (pc0 := 32) (pc' := 39) rfl (hb hby at_32) rfl (feq (by decide : ¬ ((1 : Int32) = (0 : Int32)))).2 (by decide) (by decide) k) ?_
      refine own_Fin.step (S' := T1.setTop (mkF m 40 #[.val (.int x0), .val (.int v2), .val (.int (0 : Int32))] [(.int (0 : Int32))])) (fun t k => XS.iconst X1.here hx rfl (hb hby at_39) k) ?_
      have hq2 : Q0 Z x0 h0 n0 (some (.int (nar .boolean (0 : Int32)))) h0 _ := ⟨(by exfalso; exact absurd hp28 ((own_pin hv2).1 hc6)), N1⟩
      exact own_retN X1 hx hlk (t := .boolean) hrt (by simp) (hb hby at_40) e1 hq2 (by decide) (by decide)
    · refine own_Fin.step (S' := T1.setTop (mkF m 31 #[.val (.int x0), .val (.int v2), .val (.int (0 : Int32))] [(.int (0 : Int32))])) st1 ?_
      refine own_Fin.step (S' := T1.setTop (mkF m 32 #[.val (.int x0), .val (.int v2), .val (.int (0 : Int32))] [(.int (0 : Int32)), (.int (0 : Int32))])) (fun t k => XS.iloadN X1.here hx rfl (hb hby at_31) rfl  k) ?_
      refine own_Fin.step (S' := T1.setTop (mkF m 35 #[.val (.int x0), .val (.int v2), .val (.int (0 : Int32))] [])) (fun t k => XS.icmpNo X1.here hx rfl (hb hby at_32) rfl (teq (by decide : ((0 : Int32) = (0 : Int32)))).2 k) ?_
      refine own_Fin.step (S' := T1.setTop (mkF m 36 #[.val (.int x0), .val (.int v2), .val (.int (0 : Int32))] [(.int (1 : Int32))])) (fun t k => XS.iconst X1.here hx rfl (hb hby at_35) k) ?_
      refine own_Fin.step (S' := T1.setTop (mkF m 40 #[.val (.int x0), .val (.int v2), .val (.int (0 : Int32))] [(.int (1 : Int32))])) (fun t k => XS.goto X1.here hx rfl (pc0 := 36) (pc' := 40) rfl (hb hby at_36) (by decide) (by decide) k) ?_
      have hq3 : Q0 Z x0 h0 n0 (some (.int (nar .boolean (1 : Int32)))) h0 _ := ⟨rfl, N1⟩
      exact own_retN X1 hx hlk (t := .boolean) hrt (by simp) (hb hby at_40) e1 hq3 (by decide) (by decide)
  · refine own_Fin.step (S' := s₁.setTop (mkF m 9 #[.val (.int x0), .val (.int v2), .unset] [])) (fun t k => XS.icmpNo X0.here hx rfl (hb hby at_6) rfl (flt hc6).2.2.1 k) ?_
    refine own_Fin.step (S' := s₁.setTop (mkF m 12 #[.val (.int x0), .val (.int v2), .unset] [(.long (4294981120 : Int64))])) (X0.ldc2Long hx hown (mvT hZ (hw _ (List.mem_of_getElem? (i := 0) rfl))) (g := (mkF m 9 #[.val (.int x0), .val (.int v2), .unset] [])) rfl (hb hby at_9)) ?_
    refine own_Fin.step (S' := s₁.setTop (mkF m 13 #[.val (.int x0), .val (.int v2), .unset] [(.int v2), (.long (4294981120 : Int64))])) (fun t k => XS.iloadN X0.here hx rfl (hb hby at_12) rfl  k) ?_
    refine own_Fin.step (S' := s₁.setTop (mkF m 14 #[.val (.int x0), .val (.int v2), .unset] [(.long (((4294981120 : Int64).toUInt64 >>> (v2 &&& 0x3f).toInt64.toUInt64).toInt64))])) (fun t k => XS.lushr X0.here hx rfl (hb hby at_13) rfl k) ?_
    refine own_Fin.step (S' := s₁.setTop (mkF m 15 #[.val (.int x0), .val (.int v2), .unset] [(.long (1 : Int64)), (.long (((4294981120 : Int64).toUInt64 >>> (v2 &&& 0x3f).toInt64.toUInt64).toInt64))])) (fun t k => XS.lconst X0.here hx rfl (hb hby at_14) k) ?_
    refine own_Fin.step (S' := s₁.setTop (mkF m 16 #[.val (.int x0), .val (.int v2), .unset] [(.long ((((4294981120 : Int64).toUInt64 >>> (v2 &&& 0x3f).toInt64.toUInt64).toInt64) &&& (1 : Int64)))])) (fun t k => XS.land X0.here hx rfl (hb hby at_15) rfl k) ?_
    refine own_Fin.step (S' := s₁.setTop (mkF m 17 #[.val (.int x0), .val (.int v2), .unset] [(.long (0 : Int64)), (.long ((((4294981120 : Int64).toUInt64 >>> (v2 &&& 0x3f).toInt64.toUInt64).toInt64) &&& (1 : Int64)))])) (fun t k => XS.lconst X0.here hx rfl (hb hby at_16) k) ?_
    refine own_Fin.step (S' := s₁.setTop (mkF m 18 #[.val (.int x0), .val (.int v2), .unset] [(.int (lcmpW ((((4294981120 : Int64).toUInt64 >>> (v2 &&& 0x3f).toInt64.toUInt64).toInt64) &&& (1 : Int64)) (0 : Int64)))])) (fun t k => XS.lcmp X0.here hx rfl (hb hby at_17) rfl k) ?_
    by_cases hc18 : ((((4294981120 : Int64).toUInt64 >>> (v2 &&& 0x3f).toInt64.toUInt64).toInt64) &&& (1 : Int64)) = (0 : Int64)
    · refine own_Fin.step (S' := s₁.setTop (mkF m 25 #[.val (.int x0), .val (.int v2), .unset] [])) (fun t k => XS.ifYes X0.here hx rfl (pc0 := 18) (pc' := 25) rfl (hb hby at_18) rfl ((if0 _ _).trans (teq ((lw_eq _ _).mpr hc18)).1) (by decide) (by decide) k) ?_
      refine own_Fin.step (S' := s₁.setTop (mkF m 26 #[.val (.int x0), .val (.int v2), .unset] [(.int (0 : Int32))])) (fun t k => XS.iconst X0.here hx rfl (hb hby at_25) k) ?_
      refine own_Fin.step (S' := s₁.setTop (mkF m 27 #[.val (.int x0), .val (.int v2), .val (.int (0 : Int32))] [])) (fun t k => XS.istoreN X0.here hx rfl (hb hby at_26) rfl (l' := #[.val (.int x0), .val (.int v2), .val (.int (0 : Int32))]) rfl k) ?_
      refine own_Fin.step (S' := s₁.setTop (mkF m 28 #[.val (.int x0), .val (.int v2), .val (.int (0 : Int32))] [(.int v2)])) (fun t k => XS.iloadN X0.here hx rfl (hb hby at_27) rfl  k) ?_
      obtain ⟨_, _, ⟨T4, L4, k4, n4⟩, -, X4, ⟨Lc4, hQ4, l4, y4, zz4⟩, st4⟩ := Jvm.LawKit.callS X0 hx (y := (⟨"com/example/annotree/annotree/tree/ElementText", "isWhiteSpace", "(C)Z"⟩ : MethodName)) hown (mvT hZ (hw _ (List.mem_of_getElem? (i := 1) rfl))) (mvT hZ (hw _ (List.mem_of_getElem? (i := 2) rfl))) (mvT hZ (hw _ (List.mem_of_getElem? (i := 3) rfl))) (mvT hZ (hw _ (List.mem_of_getElem? (i := 4) rfl))) (by decide) (backOf (W := 0) (rm1 l Z a0 hw [] v2 h0 n0 (by omega) ) hZ (hw _ (List.mem_of_getElem? (i := 4) rfl)) (hw _ (List.mem_of_getElem? (i := 3) rfl)) (by decide) (by decide)) (g := (mkF m 28 #[.val (.int x0), .val (.int v2), .val (.int (0 : Int32))] [(.int v2)])) rfl (by rw [hml]; rfl) (argsL := [(.int v2)]) (rest := []) (lenOf pd_0_0 rfl) rfl (by show 2 * 0 + _ ≤ _; exact Nat.le_of_eq rfl) (hb hby at_28) (fun _ _ => ⟨rfl, e0, (by decide : 0 + 0 ≤ _), (by decide : 0 + 0 ≤ _)⟩)
      dsimp only [Pt.U, Pt.locs, Pt.cells, Pt.slots] at X4 l4 y4 zz4 st4 hQ4
      subst l4 y4 zz4
      obtain ⟨hvc4, N4q, e4⟩ := hQ4
      have N4 := Fr.app N0 N4q
      rcases hvc4 with ⟨rfl, hp28⟩ | ⟨rfl, hp28⟩
      · refine own_Fin.step (S' := T4.setTop (mkF m 31 #[.val (.int x0), .val (.int v2), .val (.int (0 : Int32))] [(.int (1 : Int32))])) st4 ?_
        refine own_Fin.step (S' := T4.setTop (mkF m 32 #[.val (.int x0), .val (.int v2), .val (.int (0 : Int32))] [(.int (0 : Int32)), (.int (1 : Int32))])) (fun t k => XS.iloadN X4.here hx rfl (hb hby at_31) rfl  k) ?_
        refine own_Fin.step (S' := T4.setTop (mkF m 39 #[.val (.int x0), .val (.int v2), .val (.int (0 : Int32))] [])) (fun t k => XS.icmpYes X4.here hx rfl (pc0 := 32) (pc' := 39) rfl (hb hby at_32) rfl (feq (by decide : ¬ ((1 : Int32) = (0 : Int32)))).2 (by decide) (by decide) k) ?_
        refine own_Fin.step (S' := T4.setTop (mkF m 40 #[.val (.int x0), .val (.int v2), .val (.int (0 : Int32))] [(.int (0 : Int32))])) (fun t k => XS.iconst X4.here hx rfl (hb hby at_39) k) ?_
        have hq5 : Q0 Z x0 h0 n0 (some (.int (nar .boolean (0 : Int32)))) h0 _ := ⟨(by exfalso; exact absurd hp28 (((own_pin hv2).2 hc6).1 hc18)), N4⟩
        exact own_retN X4 hx hlk (t := .boolean) hrt (by simp) (hb hby at_40) e4 hq5 (by decide) (by decide)
      · refine own_Fin.step (S' := T4.setTop (mkF m 31 #[.val (.int x0), .val (.int v2), .val (.int (0 : Int32))] [(.int (0 : Int32))])) st4 ?_
        refine own_Fin.step (S' := T4.setTop (mkF m 32 #[.val (.int x0), .val (.int v2), .val (.int (0 : Int32))] [(.int (0 : Int32)), (.int (0 : Int32))])) (fun t k => XS.iloadN X4.here hx rfl (hb hby at_31) rfl  k) ?_
        refine own_Fin.step (S' := T4.setTop (mkF m 35 #[.val (.int x0), .val (.int v2), .val (.int (0 : Int32))] [])) (fun t k => XS.icmpNo X4.here hx rfl (hb hby at_32) rfl (teq (by decide : ((0 : Int32) = (0 : Int32)))).2 k) ?_
        refine own_Fin.step (S' := T4.setTop (mkF m 36 #[.val (.int x0), .val (.int v2), .val (.int (0 : Int32))] [(.int (1 : Int32))])) (fun t k => XS.iconst X4.here hx rfl (hb hby at_35) k) ?_
        refine own_Fin.step (S' := T4.setTop (mkF m 40 #[.val (.int x0), .val (.int v2), .val (.int (0 : Int32))] [(.int (1 : Int32))])) (fun t k => XS.goto X4.here hx rfl (pc0 := 36) (pc' := 40) rfl (hb hby at_36) (by decide) (by decide) k) ?_
        have hq6 : Q0 Z x0 h0 n0 (some (.int (nar .boolean (1 : Int32)))) h0 _ := ⟨rfl, N4⟩
        exact own_retN X4 hx hlk (t := .boolean) hrt (by simp) (hb hby at_40) e4 hq6 (by decide) (by decide)
    · refine own_Fin.step (S' := s₁.setTop (mkF m 21 #[.val (.int x0), .val (.int v2), .unset] [])) (fun t k => XS.ifNo X0.here hx rfl (hb hby at_18) rfl ((if0 _ _).trans (feq (fun q => hc18 ((lw_eq _ _).mp q))).1) k) ?_
      refine own_Fin.step (S' := s₁.setTop (mkF m 22 #[.val (.int x0), .val (.int v2), .unset] [(.int (1 : Int32))])) (fun t k => XS.iconst X0.here hx rfl (hb hby at_21) k) ?_
      refine own_Fin.step (S' := s₁.setTop (mkF m 26 #[.val (.int x0), .val (.int v2), .unset] [(.int (1 : Int32))])) (fun t k => XS.goto X0.here hx rfl (pc0 := 22) (pc' := 26) rfl (hb hby at_22) (by decide) (by decide) k) ?_
      refine own_Fin.step (S' := s₁.setTop (mkF m 27 #[.val (.int x0), .val (.int v2), .val (.int (1 : Int32))] [])) (fun t k => XS.istoreN X0.here hx rfl (hb hby at_26) rfl (l' := #[.val (.int x0), .val (.int v2), .val (.int (1 : Int32))]) rfl k) ?_
      refine own_Fin.step (S' := s₁.setTop (mkF m 28 #[.val (.int x0), .val (.int v2), .val (.int (1 : Int32))] [(.int v2)])) (fun t k => XS.iloadN X0.here hx rfl (hb hby at_27) rfl  k) ?_
      obtain ⟨_, _, ⟨T7, L7, k7, n7⟩, -, X7, ⟨Lc7, hQ7, l7, y7, zz7⟩, st7⟩ := Jvm.LawKit.callS X0 hx (y := (⟨"com/example/annotree/annotree/tree/ElementText", "isWhiteSpace", "(C)Z"⟩ : MethodName)) hown (mvT hZ (hw _ (List.mem_of_getElem? (i := 1) rfl))) (mvT hZ (hw _ (List.mem_of_getElem? (i := 2) rfl))) (mvT hZ (hw _ (List.mem_of_getElem? (i := 3) rfl))) (mvT hZ (hw _ (List.mem_of_getElem? (i := 4) rfl))) (by decide) (backOf (W := 0) (rm1 l Z a0 hw [] v2 h0 n0 (by omega) ) hZ (hw _ (List.mem_of_getElem? (i := 4) rfl)) (hw _ (List.mem_of_getElem? (i := 3) rfl)) (by decide) (by decide)) (g := (mkF m 28 #[.val (.int x0), .val (.int v2), .val (.int (1 : Int32))] [(.int v2)])) rfl (by rw [hml]; rfl) (argsL := [(.int v2)]) (rest := []) (lenOf pd_0_0 rfl) rfl (by show 2 * 0 + _ ≤ _; exact Nat.le_of_eq rfl) (hb hby at_28) (fun _ _ => ⟨rfl, e0, (by decide : 0 + 0 ≤ _), (by decide : 0 + 0 ≤ _)⟩)
      dsimp only [Pt.U, Pt.locs, Pt.cells, Pt.slots] at X7 l7 y7 zz7 st7 hQ7
      subst l7 y7 zz7
      obtain ⟨hvc7, N7q, e7⟩ := hQ7
      have N7 := Fr.app N0 N7q
      rcases hvc7 with ⟨rfl, hp28⟩ | ⟨rfl, hp28⟩
      · refine own_Fin.step (S' := T7.setTop (mkF m 31 #[.val (.int x0), .val (.int v2), .val (.int (1 : Int32))] [(.int (1 : Int32))])) st7 ?_
        refine own_Fin.step (S' := T7.setTop (mkF m 32 #[.val (.int x0), .val (.int v2), .val (.int (1 : Int32))] [(.int (1 : Int32)), (.int (1 : Int32))])) (fun t k => XS.iloadN X7.here hx rfl (hb hby at_31) rfl  k) ?_
        refine own_Fin.step (S' := T7.setTop (mkF m 35 #[.val (.int x0), .val (.int v2), .val (.int (1 : Int32))] [])) (fun t k => XS.icmpNo X7.here hx rfl (hb hby at_32) rfl (teq (by decide : ((1 : Int32) = (1 : Int32)))).2 k) ?_
        refine own_Fin.step (S' := T7.setTop (mkF m 36 #[.val (.int x0), .val (.int v2), .val (.int (1 : Int32))] [(.int (1 : Int32))])) (fun t k => XS.iconst X7.here hx rfl (hb hby at_35) k) ?_
        refine own_Fin.step (S' := T7.setTop (mkF m 40 #[.val (.int x0), .val (.int v2), .val (.int (1 : Int32))] [(.int (1 : Int32))])) (fun t k => XS.goto X7.here hx rfl (pc0 := 36) (pc' := 40) rfl (hb hby at_36) (by decide) (by decide) k) ?_
        have hq8 : Q0 Z x0 h0 n0 (some (.int (nar .boolean (1 : Int32)))) h0 _ := ⟨rfl, N7⟩
        exact own_retN X7 hx hlk (t := .boolean) hrt (by simp) (hb hby at_40) e7 hq8 (by decide) (by decide)
      · refine own_Fin.step (S' := T7.setTop (mkF m 31 #[.val (.int x0), .val (.int v2), .val (.int (1 : Int32))] [(.int (0 : Int32))])) st7 ?_
        refine own_Fin.step (S' := T7.setTop (mkF m 32 #[.val (.int x0), .val (.int v2), .val (.int (1 : Int32))] [(.int (1 : Int32)), (.int (0 : Int32))])) (fun t k => XS.iloadN X7.here hx rfl (hb hby at_31) rfl  k) ?_
        refine own_Fin.step (S' := T7.setTop (mkF m 39 #[.val (.int x0), .val (.int v2), .val (.int (1 : Int32))] [])) (fun t k => XS.icmpYes X7.here hx rfl (pc0 := 32) (pc' := 39) rfl (hb hby at_32) rfl (feq (by decide : ¬ ((0 : Int32) = (1 : Int32)))).2 (by decide) (by decide) k) ?_
        refine own_Fin.step (S' := T7.setTop (mkF m 40 #[.val (.int x0), .val (.int v2), .val (.int (1 : Int32))] [(.int (0 : Int32))])) (fun t k => XS.iconst X7.here hx rfl (hb hby at_39) k) ?_
        have hq9 : Q0 Z x0 h0 n0 (some (.int (nar .boolean (0 : Int32)))) h0 _ := ⟨(by exfalso; exact hp28 (((own_pin hv2).2 hc6).2 hc18)), N7⟩
        exact own_retN X7 hx hlk (t := .boolean) hrt (by simp) (hb hby at_40) e7 hq9 (by decide) (by decide)
set_option maxRecDepth 65536 in
set_option maxHeartbeats 40000000 in
theorem comes_1 {Post : Tables → Env → Array Value → State → Outcome → State → Prop} (hpost : ∀ tb e args s v u, (limb_1_1.after args s (.returned v) u = true ∧ limb_1_2.after args s (.returned v) u = true ∧ True) → FrameEnd s (.returned v) u (Jvm.fieldLocs frame_1_writes args s ++ Jvm.arrayLocs frame_1_arrays args s ++ Jvm.staticLocs frame_1_statics s) 0 0 → Post tb e args s (.returned v) u) :
    ArmFor flags0 classFile x code maxLocals ret World_1 tables_1 room_1 Calls_1 rest_1 Pre_1 Post := by
  intro l hfl _ _ p e ha hc hk s m args below hf hA hF happ hP
  obtain ⟨hcalls, hrest, hpre⟩ := hP
  obtain ⟨-, -, -, hnamed, -, -, -, hat⟩ := (Spec.applies_iff hf).mp happ
  obtain ⟨hg, hn⟩ := and_e (Cond.before_iff.mp (show (Jvm.Cond.and given_1 narrow_1).before args s = true from hpre))
  obtain ⟨gg1, gg2⟩ := and_e hg
  obtain ⟨w0, rfl⟩ : ∃ w0 : Value, args = #[w0] := by
    have hs : args.size = 1 := by simpa [Cond.value, given_1] using gg1
    obtain ⟨L⟩ := args
    match L, hs with
    | [w0], _ => exact ⟨w0, rfl⟩
  have hw := fun d (hd : d ∈ tables_1) => atoms_spec (ws := Jvm.Cond.code x code maxLocals ret :: tables_1) hat d (List.mem_cons_of_mem _ hd)
  have hfit : Fit s := fun {y c} hc i hi => by
    obtain ⟨ha, rfl⟩ := Array.getElem?_eq_some_iff.mp hc
    have q := List.all_eq_true.mp ((Array.all_eq_true_iff_forall_mem.mp hF) _ (Array.getElem_mem ha)) i (List.mem_range.mpr hi)
    simpa [Array.getElem?_eq_getElem hi] using q
  obtain ⟨i0, ei0⟩ := is_v gg2
  obtain rfl : w0 = (.int i0) := Option.some.inj ei0
  obtain ⟨n, o, h1, h2, h3, _, L, rfl, ⟨rfl, N⟩, hq⟩ := rm0 l s _ hw tables_1  i0 s.heap s.heap.size (Nat.le_refl _)  p e ha hc hk s m _ below hf ((Spec.applies_iff_loose hf).mp happ).1 ⟨rfl, State.Warmed39.refl s, rfl⟩ trivial
  refine ⟨n, _, h1, h2, h3, hpost _ _ _ _ _ _ ⟨Cond.after_iff.mpr rfl, Cond.after_iff.mpr (eq_i res_at (Term.int_eval (1)) rfl), trivial⟩ ⟨hq.1, hq.2.1, (hq.2.2.sift fun y hy => Or.inr (N y hy)).mono (by decide) (by decide)⟩⟩
theorem main_1_1 : Claimed_1_1 := comes_1 fun _ _ _ _ _ _ h hF => ⟨h.1, hF⟩
theorem main_1_2 : Claimed_1_2 := comes_1 fun _ _ _ _ _ _ h hF => ⟨h.2.1, hF⟩
end Jvm.Pilot.@@N@@
namespace Jvm.Pilot.@@N@@
open Jvm Jvm.ClassFile Sem Op Lib Jvm.Free Jvm.Stand Jvm.Pilot.@@N@@.Jvm.D
/-! MADE BY PROGRAM (witnessworld.py) out of the Statement's table words and the real class files: 9 classes; the members and pool entries that the words name. The judged class is class 1, her method 1. -/
namespace start1
open Jvm.ClassFile
def u (s : String) : CpInfo := .utf8 (stringToUtf16 s)
/-- a pool by its gaps: so many unusable entries, then the entry; so many at the end -/
def gap : Nat → List CpInfo → List CpInfo
  | 0, r => r
  | n + 1, r => .unusable :: gap n r
def poolList (es : List (Nat × CpInfo)) (last : Nat) : List CpInfo := es.foldr (fun e r => gap e.1 (e.2 :: r)) (gap last [])
def pool (es : List (Nat × CpInfo)) (last : Nat) : Array CpInfo := ⟨poolList es last⟩
def fileOf (pool : Array CpInfo) (this : Nat) (attrs : Array Attribute := #[]) (ms : Array MethodInfo := #[]) (fl : Nat := 33) (sup : Nat := 0) (ifs : Array Nat := #[]) (fds : Array FieldInfo := #[]) : ClassFile where
  minorVersion := 0
  majorVersion := 65
  constantPool := pool
  accessFlags := fl
  thisClass := this
  superClass := sup
  interfaces := ifs
  fields := fds
  methods := ms
  attributes := attrs
def plain (name : String) (sup : Option ClassId) : Class where
  name := name
  kind := .ordinary
  loader := none
  accessFlags := 33
  super := sup
  interfaces := #[]
  cf := none
  fields := #[]
  methods := #[]
  instanceTypes := #[]
  staticTypes := #[]
  resolved := #[]
  callSites := []
  init := .initialized
  statics := none
  mirror := none

def pool0 : Array CpInfo := pool [(5, u "<init>"), (0, u "()V"), (1, .class_ 10), (1, u "java/lang/Object")] 113

def k0m0 : Method := { name := "<init>", desc := "()V", sig := { parameters := [], returnType := none }, accessFlags := 1, code := none }
/-- java/lang/Object -/
def k0 : Class := { plain "java/lang/Object" none with
  accessFlags := 33
  interfaces := #[]
  cf := some (fileOf pool0 8 #[] #[{ accessFlags := 1, nameIndex := 5, descriptorIndex := 6, attributes := #[] }] 33 0 #[] #[])
  fields := #[]
  methods := #[k0m0]
  instanceTypes := #[]
  staticTypes := #[]
  resolved := Array.replicate 124 none
  statics := none }

def pool1 : Array CpInfo := pool [(2, .class_ 4), (1, u "java/lang/Object"), (0, u "<init>"), (0, u "()V"), (0, .class_ 8), (0, u "com/example/annotree/annotree/tree/ElementTextIsWhiteSpacePinLaw"), (0, .long 4294981120), (1, .methodref 12 13), (0, .class_ 14), (0, .nameAndType 15 16), (0, u "com/example/annotree/annotree/tree/ElementText"), (0, u "isWhiteSpace"), (0, u "(C)Z"), (0, u "MASK"), (0, u "J"), (3, u "law"), (0, u "(I)Z")] 3

def k1m0 : Method := { name := "<init>", desc := "()V", sig := { parameters := [], returnType := none }, accessFlags := 2, code := none }
def k1c1 : Code := { maxStack := 4, maxLocals := 3, code := code, exceptionTable := #[], attributes := #[] }
def k1m1 : Method := { name := "law", desc := "(I)Z", sig := { parameters := [.int], returnType := some .boolean }, accessFlags := 9, code := some k1c1 }
/-- com/example/annotree/annotree/tree/ElementTextIsWhiteSpacePinLaw -/
def k1 : Class := { plain "com/example/annotree/annotree/tree/ElementTextIsWhiteSpacePinLaw" (some 0) with
  accessFlags := 49
  interfaces := #[]
  cf := some (fileOf pool1 7 #[] #[{ accessFlags := 2, nameIndex := 5, descriptorIndex := 6, attributes := #[] }, { accessFlags := 9, nameIndex := 22, descriptorIndex := 23, attributes := #[] }] 49 2 #[] #[{ accessFlags := 26, nameIndex := 17, descriptorIndex := 18, attributes := #[] }])
  fields := #[{ name := "MASK", type := .long, accessFlags := 26, slot := 0, constantValue := 0 }]
  methods := #[k1m0, k1m1]
  instanceTypes := #[]
  staticTypes := #[.long]
  resolved := Array.replicate 27 none
  statics := none }

def pool2 : Array CpInfo := pool [(2, .class_ 4), (1, u "java/lang/Object"), (0, u "<init>"), (0, u "()V"), (16, .class_ 25), (1, u "com/example/annotree/annotree/tree/ElementText"), (0, u "isWhiteSpace"), (0, u "(C)Z")] 26

def k2m0 : Method := { name := "<init>", desc := "()V", sig := { parameters := [], returnType := none }, accessFlags := 2, code := none }
def k2c1 : Code := { maxStack := 2, maxLocals := 1, code := prog_17_method_4_code, exceptionTable := #[], attributes := #[] }
def k2m1 : Method := { name := "isWhiteSpace", desc := "(C)Z", sig := { parameters := [.char], returnType := some .boolean }, accessFlags := 8, code := some k2c1 }
/-- com/example/annotree/annotree/tree/ElementText -/
def k2 : Class := { plain "com/example/annotree/annotree/tree/ElementText" (some 0) with
  accessFlags := 49
  interfaces := #[]
  cf := some (fileOf pool2 23 #[] #[{ accessFlags := 2, nameIndex := 5, descriptorIndex := 6, attributes := #[] }, { accessFlags := 8, nameIndex := 26, descriptorIndex := 27, attributes := #[] }] 49 2 #[] #[])
  fields := #[]
  methods := #[k2m0, k2m1]
  instanceTypes := #[]
  staticTypes := #[]
  resolved := Array.replicate 54 none
  statics := none }

def pool3 : Array CpInfo := pool [(1, u "java/lang/Cloneable"), (0, .class_ 1), (0, u "java/lang/Object"), (0, .class_ 3)] 3

/-- java/lang/Cloneable -/
def k3 : Class := { plain "java/lang/Cloneable" (some 0) with
  accessFlags := 1537
  interfaces := #[]
  cf := some (fileOf pool3 2 #[] #[] 1537 4 #[] #[])
  fields := #[]
  methods := #[]
  instanceTypes := #[]
  staticTypes := #[]
  resolved := Array.replicate 8 none
  statics := none }

def pool4 : Array CpInfo := pool [(1, u "java/io/Serializable"), (0, .class_ 1), (0, u "java/lang/Object"), (0, .class_ 3)] 3

/-- java/io/Serializable -/
def k4 : Class := { plain "java/io/Serializable" (some 0) with
  accessFlags := 1537
  interfaces := #[]
  cf := some (fileOf pool4 2 #[] #[] 1537 4 #[] #[])
  fields := #[]
  methods := #[]
  instanceTypes := #[]
  staticTypes := #[]
  resolved := Array.replicate 8 none
  statics := none }

/-- the primitive byte -/
def k5 : Class := { plain "byte" none with kind := .primitive 'B', accessFlags := 0x411 }
/-- [B -/
def k6 : Class := { plain "[B" (some 0) with kind := .array 5 .byte, interfaces := #[3, 4], accessFlags := 1041 }

/-- the primitive int -/
def k7 : Class := { plain "int" none with kind := .primitive 'I', accessFlags := 0x411 }
/-- [I -/
def k8 : Class := { plain "[I" (some 0) with kind := .array 7 .int, interfaces := #[3, 4], accessFlags := 1041 }

def heap : Heap := #[]
def classes : Array Class := #[k0, k1, k2, k3, k4, k5, k6, k7, k8]
def interned : List (Array UInt16 × Addr) := []
def slotsUsed : Nat := 0
def theMethod : MethodId := ⟨1, 1⟩
def args0 : Array Value := #[.int 5]
def aboutOver (below : List Frame) : State where
  vm := { classes := classes, interned := interned.toArray }
  heap := heap
  slotsUsed := slotsUsed
  threads := #[{ frames := .invoking theMethod args0 :: below }]
def below0 : List Frame := [.native { method := ⟨0, 0⟩, args := #[] }]
def about1 : State := aboutOver below0
def p0 : Program := .bare "" "" ""
def e0 : Env := launch0.env 0 0 0
theorem w_frames : about1.frames = Frame.invoking theMethod args0 :: below0 := rfl
set_option maxRecDepth 65536 in
theorem w_args : argsFit about1.vm theMethod args0 = true := by decide +kernel
set_option maxRecDepth 65536 in
theorem w_heap : heapFits about1 = true := by decide +kernel
set_option maxRecDepth 65536 in
theorem w_runnable : about1.curStatus? = some .runnable := by decide +kernel
set_option maxRecDepth 65536 in
theorem w_alone : about1.alone = true := by decide +kernel
set_option maxRecDepth 65536 in
theorem w_named : about1.methodNamed? x = some theMethod := by decide +kernel
set_option maxRecDepth 65536 in
theorem w_hears : about1.hears theMethod below0 = true := by decide +kernel
set_option maxRecDepth 65536 in
theorem w_ripe : about1.ripe theMethod args0 below0 = true := by decide +kernel
theorem w_running : about1.status = .running := rfl
set_option maxRecDepth 65536 in
theorem w_room : about1.hasRoom e0.platform room_1 = true :=
  launch0.hasRoom_least _ room_1 (by decide +kernel) (by decide +kernel) (by decide +kernel) (by decide +kernel) (by decide +kernel) (by decide +kernel)
theorem allAtoms_all (ts : List Jvm.Cond) (a : Array Jvm.Value) (st : Jvm.State) : (allAtoms ts).before a st = ts.all (fun c => c.before a st) := by
  induction ts with
  | nil => rfl
  | cons c t ih =>
    show (Jvm.Cond.and c (allAtoms t)).before a st = _
    rw [Jvm.Cond.before_and, ih, List.all_cons]
def words1 : List Jvm.Cond := Jvm.Cond.code x code maxLocals ret :: tables_1
/-- a 'code' word, met by the world's own term for the bytes: nothing is compared byte by byte -/
theorem code_word {y : MethodName} {bytes : ByteArray} {mx : Nat} {rt : Option FieldType} {a : Array Value} {s : State} {m : MethodId} {meth : Method} {c : Code} (h1 : s.methodNamed? y = some m) (h2 : s.vm.method? m = some meth) (h3 : meth.code = some c) (h4 : c.code = bytes)
    (h5 : (c.maxLocals == mx && c.exceptionTable.isEmpty && decide (c.maxStack ≤ mostOperands) && decide (meth.sig.returnType = rt) && !meth.locks && decide (parseMethodDescriptor y.desc = some meth.sig)) = true) : (Jvm.Cond.code y bytes mx rt).before a s = true := by
  simp only [Bool.and_eq_true, beq_iff_eq, Bool.not_eq_true', decide_eq_true_eq] at h5
  obtain ⟨⟨⟨⟨⟨g1, g2⟩, g3⟩, g4⟩, g5⟩, g6⟩ := h5
  simp [Cond.before, Cond.holds, Cond.value, h1, h2, h3, h4, g1, g2, g3, g4, g5, g6]
def isCode : Jvm.Cond → Bool
  | .code _ _ _ _ => true
  | _ => false
theorem all_split {L : List Jvm.Cond} {P : Jvm.Cond → Bool} (h1 : L.all (fun c => isCode c || P c) = true) (h2 : ∀ c ∈ L.filter isCode, P c = true) : L.all P = true := by
  refine List.all_eq_true.mpr fun c hc => ?_
  have h := List.all_eq_true.mp h1 c hc
  rcases Bool.eq_false_or_eq_true (isCode c) with hi | hi
  · exact h2 c (List.mem_filter.mpr ⟨hc, hi⟩)
  · simpa [hi] using h
set_option maxRecDepth 65536 in
theorem w_c0 : (Jvm.Cond.code x code maxLocals ret).before args0 about1 = true := code_word (m := ⟨1, 1⟩) (meth := k1m1) (c := k1c1) (by decide +kernel) rfl rfl rfl (by decide +kernel)
set_option maxRecDepth 65536 in
theorem w_c1 : (Jvm.Cond.code ({ cls := "com/example/annotree/annotree/tree/ElementText", name := "isWhiteSpace", desc := "(C)Z" } : Jvm.MethodName) prog_17_method_4_code (1 : Nat) (Option.some Jvm.ClassFile.FieldType.boolean)).before args0 about1 = true := code_word (m := ⟨2, 1⟩) (meth := k2m1) (c := k2c1) (by decide +kernel) rfl rfl rfl (by decide +kernel)
def codes1 : List Jvm.Cond := [Jvm.Cond.code x code maxLocals ret, Jvm.Cond.code ({ cls := "com/example/annotree/annotree/tree/ElementText", name := "isWhiteSpace", desc := "(C)Z" } : Jvm.MethodName) prog_17_method_4_code (1 : Nat) (Option.some Jvm.ClassFile.FieldType.boolean)]
set_option maxRecDepth 65536 in
theorem codes_eq : words1.filter isCode = codes1 := rfl
theorem w_codes : ∀ c ∈ words1.filter isCode, c.before args0 about1 = true := by
  rw [codes_eq]
  intro c hc
  simp only [codes1, List.mem_cons, List.not_mem_nil, or_false] at hc
  rcases hc with rfl | rfl
  · exact w_c0
  · exact w_c1
set_option maxRecDepth 65536 in
theorem w_t1 : words1.all (fun c => isCode c || c.before args0 about1) = true := by decide +kernel
theorem w_tables : (allAtoms (Jvm.Cond.code x code maxLocals ret :: tables_1)).before args0 about1 = true := by
  rw [allAtoms_all]
  show words1.all (fun c => c.before args0 about1) = true
  refine all_split ?_ w_codes
  rw [w_t1]
set_option maxRecDepth 65536 in
theorem w_case : (Jvm.Cond.and given_1 narrow_1).before args0 about1 = true := by decide +kernel
theorem w_applies : (headSpec (Jvm.Cond.code x code maxLocals ret :: tables_1) room_1).applies x e0.platform about1 = true :=
  (Spec.applies_iff w_frames).mpr ⟨w_running, w_runnable, w_alone, w_named, w_hears, w_ripe, w_room, w_tables⟩
theorem atStart : AtStart classFile x code maxLocals ret World_1 tables_1 room_1 Calls_1 rest_1 Pre_1 launch0 p0 e0 about1 theMethod args0 below0 :=
  ⟨lists_1, trivial, launch0.admits_env _ _ _, launch0.least_env, fairChoices_fair.cas, fairChoices_fair.clock, w_frames, w_args, w_heap, w_applies, trivial, trivial, w_case⟩
end start1
theorem witness_1 : WitnessClaimed_1 := ⟨start1.p0, start1.e0, start1.about1, start1.theMethod, start1.args0, start1.below0, start1.atStart⟩
end Jvm.Pilot.@@N@@
