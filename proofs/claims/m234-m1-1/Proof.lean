import JvmDerived
import JvmDerived.Pilot.@@N@@Statement
import JvmDerived.Pilot.@@N@@Code
set_option linter.unusedVariables false
set_option linter.unusedSimpArgs false
namespace Jvm.RoadKit
open Sem ClassFile Op Lib Jvm.Stand Jvm.Free Jvm.LawKit
/-- the run from S comes to an end that Post allows -/
def own_Fin (tb : Tables) (e : Env) (below : List Frame) (Post : Outcome → State → Prop) (S : State) : Prop := ∃ s₂ o, Steps tb e below S s₂ ∧ s₂.status = .running ∧ Ended s₂ below o ∧ Post o s₂
def own_post (Q : Option Value → Heap → List Loc → Prop) (s : State) (k n : Nat) (o : Outcome) (U : State) : Prop := ∃ v L, o = .returned v ∧ Q v U.heap L ∧ FrameEnd s o U L k n
def own_bool (P : Prop) (v : Option Value) : Prop := (v = some (.int 1) ∧ P) ∨ (v = some (.int 0) ∧ ¬ P)
theorem own_Fin.step {tb : Tables} {e : Env} {below : List Frame} {Post : Outcome → State → Prop} {S S' : State} (h : ∀ t, Steps tb e below S' t → Steps tb e below S t) (k : own_Fin tb e below Post S') : own_Fin tb e below Post S := by
  obtain ⟨s2, o, h1, h2⟩ := k
  exact ⟨s2, o, h _ h1, h2⟩
theorem own_Fin.trans {tb : Tables} {e : Env} {below : List Frame} {Post : Outcome → State → Prop} {S S' : State} (h : Steps tb e below S S') (k : own_Fin tb e below Post S') : own_Fin tb e below Post S := by
  obtain ⟨s2, o, h1, h2⟩ := k
  exact ⟨s2, o, h.trans h1, h2⟩
section New
variable {p : Program} {l : Launch} {e : Env} {R : Room} {s : State} {m : MethodId} {args : Array Value} {below : List Frame} {meth : Method} {c : Code} {T : State} {locs : List Loc} {cells slots : Nat} {Q : Option Value → Heap → List Loc → Prop} {kc ks : Nat} {h : Heap}
theorem retI (X : Stand p l e R s m args below meth c T locs cells slots) (hx : p.tables.exec = Jvm.exec) {pc : Nat} {Ls : Array Slot} {z : Int32} {rest : List Value} (hret : meth.sig.returnType = some .int) (hd : decode c.code pc = .ok (.ireturn, 1)) {fs : List Frame}
    (hl : ∀ (f : JFrame) (acts : List Action), f.method = m → f.locked = none → f.entered = [] → (doReturn e (T.setTop f) acts (some (.int z))).1 = T.setFrames fs) : Steps p.tables e below (T.setTop (mkF m pc Ls (.int z :: rest))) (T.setFrames fs) := by
  have hm' : T.vm.method? m = some meth := X.method'
  have hn : narrow .int (.int z) = .int z := rfl
  show Steps p.tables e below (T.setTop { method := m, pc := pc, locals := Ls, stack := _ :: rest, locked := none }) _
  jvm_step X.here [X.here.top, hx, hd, hm', hret, hn]
  first | (intro acts; rw [hl _ acts rfl rfl rfl]) | rw [hl _ _ rfl rfl rfl]
  exact Steps.refl _
theorem own_retN (X : Stand p l e R s m args below meth c T locs cells slots) (hx : p.tables.exec = Jvm.exec) (hlk : meth.locks = false) {pc : Nat} {Ls : Array Slot} {z : Int32} {t : FieldType} {rest : List Value} (hret : meth.sig.returnType = some t) (ht : t = .boolean ∨ t = .byte ∨ t = .char ∨ t = .short)
    (hd : decode c.code pc = .ok (.ireturn, 1)) (eT : T.heap = h) (hq : Q (some (.int (nar t z))) h locs) (hc : cells ≤ kc) (hs : slots ≤ ks) : own_Fin p.tables e below (own_post Q s kc ks) (T.setTop (mkF m pc Ls (.int z :: rest))) := by
  obtain ⟨fs, hr, hrun, hended, hW, hsame⟩ := X.leave (v := some (.int (nar t z))) (fun h => by rw [hret] at h; cases h) hlk
  exact ⟨_, _, retN X hx hret ht hd hr, hrun, hended, _, _, rfl, (eT ▸ hq : Q (some (.int (nar t z))) T.heap locs), ⟨_, rfl⟩, hW, hsame.mono hc hs⟩
theorem own_retI (X : Stand p l e R s m args below meth c T locs cells slots) (hx : p.tables.exec = Jvm.exec) (hlk : meth.locks = false) {pc : Nat} {Ls : Array Slot} {z : Int32} {rest : List Value} (hret : meth.sig.returnType = some .int)
    (hd : decode c.code pc = .ok (.ireturn, 1)) (eT : T.heap = h) (hq : Q (some (.int z)) h locs) (hc : cells ≤ kc) (hs : slots ≤ ks) : own_Fin p.tables e below (own_post Q s kc ks) (T.setTop (mkF m pc Ls (.int z :: rest))) := by
  obtain ⟨fs, hr, hrun, hended, hW, hsame⟩ := X.leave (v := some (.int z)) (fun h => by rw [hret] at h; cases h) hlk
  exact ⟨_, _, retI X hx hret hd hr, hrun, hended, _, _, rfl, (eT ▸ hq : Q (some (.int z)) T.heap locs), ⟨_, rfl⟩, hW, hsame.mono hc hs⟩
theorem own_retJ (X : Stand p l e R s m args below meth c T locs cells slots) (hx : p.tables.exec = Jvm.exec) (hlk : meth.locks = false) {pc : Nat} {Ls : Array Slot} {z : Int64} (hret : meth.sig.returnType = some .long)
    (hd : decode c.code pc = .ok (.lreturn, 1)) (eT : T.heap = h) (hq : Q (some (.long z)) h locs) (hc : cells ≤ kc) (hs : slots ≤ ks) : own_Fin p.tables e below (own_post Q s kc ks) (T.setTop (mkF m pc Ls [.long z])) := by
  obtain ⟨fs, hr, hrun, hended, hW, hsame⟩ := X.leave (v := some (.long z)) (fun h => by rw [hret] at h; cases h) hlk
  exact ⟨_, _, X.lreturnOut hx hret hd hr, hrun, hended, _, _, rfl, (eT ▸ hq : Q (some (.long z)) T.heap locs), ⟨_, rfl⟩, hW, hsame.mono hc hs⟩
theorem own_retR (X : Stand p l e R s m args below meth c T locs cells slots) (hx : p.tables.exec = Jvm.exec) (hlk : meth.locks = false) {pc : Nat} {Ls : Array Slot} {w : Value} {t : FieldType} (hw : w.isRef = true) (hret : meth.sig.returnType = some t) (ht : t.isReference = true)
    (hd : decode c.code pc = .ok (.areturn, 1)) (eT : T.heap = h) (hq : Q (some w) h locs) (hc : cells ≤ kc) (hs : slots ≤ ks) : own_Fin p.tables e below (own_post Q s kc ks) (T.setTop (mkF m pc Ls [w])) := by
  obtain ⟨fs, hr, hrun, hended, hW, hsame⟩ := X.leave (v := some w) (fun h => by rw [hret] at h; cases h) hlk
  exact ⟨_, _, X.areturnOut hx hw hret ht hd hr, hrun, hended, _, _, rfl, (eT ▸ hq : Q (some w) T.heap locs), ⟨_, rfl⟩, hW, hsame.mono hc hs⟩
theorem own_retV (X : Stand p l e R s m args below meth c T locs cells slots) (hx : p.tables.exec = Jvm.exec) (hlk : meth.locks = false) {pc : Nat} {Ls : Array Slot} (hret : meth.sig.returnType = none)
    (hd : decode c.code pc = .ok (.return_, 1)) (eT : T.heap = h) (hq : Q none h locs) (hc : cells ≤ kc) (hs : slots ≤ ks) : own_Fin p.tables e below (own_post Q s kc ks) (T.setTop (mkF m pc Ls [])) := by
  obtain ⟨fs, hr, hrun, hended, hW, hsame⟩ := X.leave (v := none) (fun _ => rfl) hlk
  exact ⟨_, _, X.returnOut hx hret hd hr, hrun, hended, _, _, rfl, (eT ▸ hq : Q none T.heap locs), ⟨_, rfl⟩, hW, hsame.mono hc hs⟩
theorem own_cat1 {v : Value} (h : v.isRef = true) : v.category = 1 := by cases v <;> simp [Value.isRef, Value.category] at h ⊢
theorem own_fitR {v : Value} {C : String} (h : v.isRef = true) : fits (.object C) v = true := by cases v <;> simp [Value.isRef, fits] at h ⊢
theorem own_fitA {v : Value} {ty : FieldType} (h : v.isRef = true) : fits (.array ty) v = true := by cases v <;> simp [Value.isRef, fits] at h ⊢
theorem own_selPriv {s : State} {args : Array Value} {y : MethodName} {n : Nat} (hi : (Cond.instantiable y.cls n).before args s = true) (hpriv : s.PrivateAt y) (hinst : (Cond.instanceMethod y).before args s = true) (hy : y.cls ≠ "java/lang/invoke/MethodHandle" ∧ y.cls ≠ "java/lang/invoke/VarHandle") : (Cond.selects y.cls y y).before args s = true := by
  obtain ⟨c, k, h1, h2, -, h4, -, -⟩ := Cond.instantiable_spec hi
  have h5 : k.isInterface = false := by
    cases hk : k.isInterface with
    | false => rfl
    | true => simp [hk] at h4
  exact selects_self_of_private h1 h2 h5 hpriv hinst hy
theorem own_eqI {a b : Term} {args : Array Value} {first st : State} {o : Option Outcome} {idx : List Nat} {y : Int32} (h : (Cond.eq a b).value args first o st idx = some true) (hb : b.eval args first o idx st = some (.int y)) : a.eval args first o idx st = some (.int y) := by
  cases ha : a.eval args first o idx st with
  | none => simp [Cond.value, ha] at h
  | some x => cases x <;> simp [Cond.value, ha, hb] at h ⊢ <;> exact h
theorem own_eqR {a b : Term} {args : Array Value} {first st : State} {o : Option Outcome} {idx : List Nat} {y : Addr} (h : (Cond.eq a b).value args first o st idx = some true) (hb : b.eval args first o idx st = some (.ref y)) : a.eval args first o idx st = some (.ref y) := by
  cases ha : a.eval args first o idx st with
  | none => simp [Cond.value, ha] at h
  | some x => cases x <;> simp [Cond.value, ha, hb] at h ⊢ <;> exact h
theorem own_elem {t : Term} {args : Array Value} {Z : State} {a : Addr} {cl : Cell} {ty : FieldType} {j : Int32} {v : Value} (ev : t.eval args Z none [] Z = some (.ref a)) (A : Arr Z Z.heap a cl ty) (h : (Term.elem t (.int j)).eval args Z none [] Z = some v) : cl.slots[j.toNatClampNeg]? = some v := by
  obtain ⟨a', j', cell, e1, e2, e3, -, e5⟩ := Term.elem_spec h
  cases e1.symm.trans ev
  have e6 : some (Value.int j) = some (Value.int j') := e2
  cases e6
  have := IntBox.arrayAt_of A.1 A.2.1 A.2.2
  cases e3.symm.trans this
  exact e5
theorem own_arv {t : Term} {args : Array Value} {Z : State} {a : Addr} {cl : Cell} {ty : FieldType} {z : Int32} {vs : List Value} {dv : Value} (hf : Fit Z) (ev : t.eval args Z none [] Z = some (.ref a)) (A : Arr Z Z.heap a cl ty) (hl : (Term.length t).eval args Z none [] Z = some (.int z)) (hz : ¬ z < 0) (hn : z.toNatClampNeg = vs.length) (H : HasL cl 0 vs) : Arv Z Z.heap a cl.cls ty z vs dv := by
  have hA := IntBox.arrayAt_of A.1 A.2.1 A.2.2
  have hlt : cl.slots.size < 2 ^ 31 := by
    by_cases hq : cl.slots.size < 2 ^ 31
    · exact hq
    · simp [Term.eval, ev, hA, hq] at hl
  have e := len_f (t := t) (args := args) (first := Z) (o := none) (idx := []) ev hA hlt
  have e2 : cl.slots.size.toInt32 = z := by
    have := e.symm.trans hl
    cases this; rfl
  exact Arv.start hf A hlt e2 hz hn H
end New
end Jvm.RoadKit
namespace Jvm.Pilot.@@N@@
open Jvm Jvm.ClassFile Sem Op Lib Jvm.Free Jvm.Stand Jvm.LawKit Jvm.RoadKit Bundle Jvm.Pilot.@@N@@.Jvm.D
theorem d1_0 : decode prog_10_method_5_code 0 = .ok (.iload_n 0, 1) := by decide +kernel
theorem d1_1 : decode prog_10_method_5_code 1 = .ok (.bipush 48, 2) := by decide +kernel
theorem d1_3 : decode prog_10_method_5_code 3 = .ok (.if_icmp .lt 13, 3) := by decide +kernel
theorem d1_6 : decode prog_10_method_5_code 6 = .ok (.iload_n 0, 1) := by decide +kernel
theorem d1_7 : decode prog_10_method_5_code 7 = .ok (.bipush 57, 2) := by decide +kernel
theorem d1_9 : decode prog_10_method_5_code 9 = .ok (.if_icmp .gt 7, 3) := by decide +kernel
theorem d1_12 : decode prog_10_method_5_code 12 = .ok (.iconst 1, 1) := by decide +kernel
theorem d1_13 : decode prog_10_method_5_code 13 = .ok (.goto 4, 3) := by decide +kernel
theorem d1_16 : decode prog_10_method_5_code 16 = .ok (.iconst 0, 1) := by decide +kernel
theorem d1_17 : decode prog_10_method_5_code 17 = .ok (.ireturn, 1) := by decide +kernel
theorem pn_1 : plainName "com/example/tariff/tariff/Decimals" = true := by first | (simp [plainName, overriddenIn]; done) | decide +kernel
theorem ef_1 (m : MethodId) (x0 : Int32) : entryFrame m #[(.int x0)] 1 = mkF m 0 #[.val (.int x0)] [] := by first | (simp [entryFrame, mkF, argsToLocals, Value.category]; done) | rfl
def Q1 (Z : State) (ch : Int32) (h0 : Heap) (n0 : Nat) (v : Option Value) (h : Heap) (L : List Loc) : Prop := own_bool (¬ ch < 48 ∧ ¬ 57 < ch) v ∧ Fr n0 L ∧ h = h0
set_option maxRecDepth 65536 in
set_option maxHeartbeats 40000000 in
theorem rm1 (l : Launch) (Z : State) (a0 : Array Value) (hw : ∀ d ∈ tables_1, d.before a0 Z = true) (ws : List Jvm.Cond) (ch : Int32) (h0 : Heap) (n0 : Nat) (Z0 : n0 ≤ h0.size)  :
    MetFree l (⟨"com/example/tariff/tariff/Decimals", "isDigit", "(C)Z"⟩ : MethodName) (head1 (Jvm.Cond.code (⟨"com/example/tariff/tariff/Decimals", "isDigit", "(C)Z"⟩ : MethodName) prog_10_method_5_code 1 (some .boolean) :: ws) ({ frames := 0, cells := 0, slots := 0, locals := 0 } : Room)) (fun a U => a = #[(.int ch)] ∧ Z.Warmed39 U.vm ∧ U.heap = h0) (fun _ _ _ _ _ => True) (fun _ U o U' => ∃ v L, o = .returned v ∧ Q1 Z ch h0 n0 v U'.heap L ∧ FrameEnd U o U' L ({ frames := 0, cells := 0, slots := 0, locals := 0 } : Room).cells ({ frames := 0, cells := 0, slots := 0, locals := 0 } : Room).slots) := by
  refine MetFree.of_bodySF (plainFor_of_name pn_1) hisR ?_
  intro p e s m args below meth c s₁ Bd hml0 hP hK
  obtain ⟨rfl, hZ, hh⟩ := hP
  have hx := Bd.exec
  have hby := Bd.bytes
  have hml : c.maxLocals = 1 := hml0
  have hown : s.vm.findClass "com/example/tariff/tariff/Decimals" = some m.cls := findClass_of_methodNamed Bd.named
  have hnm := (name_of_methodNamed Bd.named Bd.method).1
  have hlk : meth.locks = false := BodyLoose.notSynchronized Bd
  have hrt := Bd.returns
  have X0 : Stand p l e ({ frames := 0, cells := 0, slots := 0, locals := 0 } : Room) s m #[(.int ch)] below meth c s₁ [] 0 0 := Stand.of_body Bd
  have e0 : s₁.heap = h0 := by rw [← hh, Bd.state]; rfl
  have N0 := Fr.nil n0
  show own_Fin p.tables e below (own_post (Q1 Z ch h0 n0) s ({ frames := 0, cells := 0, slots := 0, locals := 0 } : Room).cells ({ frames := 0, cells := 0, slots := 0, locals := 0 } : Room).slots) (s₁.setTop (entryFrame m #[(.int ch)] 1))
  refine own_Fin.step (fun t k => castTop (ef_1 m ch) k) ?_
  refine own_Fin.step (S' := s₁.setTop (mkF m 1 #[.val (.int ch)] [(.int ch)])) (fun t k => XS.iloadN X0.here hx rfl (hb hby d1_0) rfl  k) ?_
  refine own_Fin.step (S' := s₁.setTop (mkF m 3 #[.val (.int ch)] [(.int (48 : Int32)), (.int ch)])) (fun t k => XS.bipush X0.here hx rfl (hb hby d1_1) k) ?_
  by_cases hc3 : ch < (48 : Int32)
  · refine own_Fin.step (S' := s₁.setTop (mkF m 16 #[.val (.int ch)] [])) (fun t k => XS.icmpYes X0.here hx rfl (pc0 := 3) (pc' := 16) rfl (hb hby d1_3) rfl (tlt hc3).1 (by decide) (by decide) k) ?_
    refine own_Fin.step (S' := s₁.setTop (mkF m 17 #[.val (.int ch)] [(.int (0 : Int32))])) (fun t k => XS.iconst X0.here hx rfl (hb hby d1_16) k) ?_
    have hq1 : Q1 Z ch h0 n0 (some (.int (nar .boolean (0 : Int32)))) h0 _ := ⟨Or.inr ⟨rfl, (by simp [hc3])⟩, N0, rfl⟩
    exact own_retN X0 hx hlk (t := .boolean) hrt (by simp) (hb hby d1_17) e0 hq1 (by decide) (by decide)
  · refine own_Fin.step (S' := s₁.setTop (mkF m 6 #[.val (.int ch)] [])) (fun t k => XS.icmpNo X0.here hx rfl (hb hby d1_3) rfl (flt hc3).1 k) ?_
    refine own_Fin.step (S' := s₁.setTop (mkF m 7 #[.val (.int ch)] [(.int ch)])) (fun t k => XS.iloadN X0.here hx rfl (hb hby d1_6) rfl  k) ?_
    refine own_Fin.step (S' := s₁.setTop (mkF m 9 #[.val (.int ch)] [(.int (57 : Int32)), (.int ch)])) (fun t k => XS.bipush X0.here hx rfl (hb hby d1_7) k) ?_
    by_cases hc9 : (57 : Int32) < ch
    · refine own_Fin.step (S' := s₁.setTop (mkF m 16 #[.val (.int ch)] [])) (fun t k => XS.icmpYes X0.here hx rfl (pc0 := 9) (pc' := 16) rfl (hb hby d1_9) rfl (tlt hc9).2.2.1 (by decide) (by decide) k) ?_
      refine own_Fin.step (S' := s₁.setTop (mkF m 17 #[.val (.int ch)] [(.int (0 : Int32))])) (fun t k => XS.iconst X0.here hx rfl (hb hby d1_16) k) ?_
      have hq2 : Q1 Z ch h0 n0 (some (.int (nar .boolean (0 : Int32)))) h0 _ := ⟨Or.inr ⟨rfl, (by simp [hc3, hc9])⟩, N0, rfl⟩
      exact own_retN X0 hx hlk (t := .boolean) hrt (by simp) (hb hby d1_17) e0 hq2 (by decide) (by decide)
    · refine own_Fin.step (S' := s₁.setTop (mkF m 12 #[.val (.int ch)] [])) (fun t k => XS.icmpNo X0.here hx rfl (hb hby d1_9) rfl (flt hc9).2.2.1 k) ?_
      refine own_Fin.step (S' := s₁.setTop (mkF m 13 #[.val (.int ch)] [(.int (1 : Int32))])) (fun t k => XS.iconst X0.here hx rfl (hb hby d1_12) k) ?_
      refine own_Fin.step (S' := s₁.setTop (mkF m 17 #[.val (.int ch)] [(.int (1 : Int32))])) (fun t k => XS.goto X0.here hx rfl (pc0 := 13) (pc' := 17) rfl (hb hby d1_13) (by decide) (by decide) k) ?_
      have hq3 : Q1 Z ch h0 n0 (some (.int (nar .boolean (1 : Int32)))) h0 _ := ⟨Or.inl ⟨rfl, (by simp [hc3, hc9])⟩, N0, rfl⟩
      exact own_retN X0 hx hlk (t := .boolean) hrt (by simp) (hb hby d1_17) e0 hq3 (by decide) (by decide)

theorem own_dig {d : Int32} (h1 : ¬ d < 48) (h2 : ¬ 57 < d) : d = 48 ∨ d = 49 ∨ d = 50 ∨ d = 51 ∨ d = 52 ∨ d = 53 ∨ d = 54 ∨ d = 55 ∨ d = 56 ∨ d = 57 := by
  rw [Int32.lt_iff_toInt_lt] at h1 h2
  have e1 : (48 : Int32).toInt = 48 := rfl
  have e2 : (57 : Int32).toInt = 57 := rfl
  have key : ∀ n : Int32, d.toInt = n.toInt → d = n := fun n h => Int32.toInt_inj.mp h
  have : d.toInt = 48 ∨ d.toInt = 49 ∨ d.toInt = 50 ∨ d.toInt = 51 ∨ d.toInt = 52 ∨ d.toInt = 53 ∨ d.toInt = 54 ∨ d.toInt = 55 ∨ d.toInt = 56 ∨ d.toInt = 57 := by omega
  rcases this with h | h | h | h | h | h | h | h | h | h
  · exact Or.inl (key 48 h)
  · exact Or.inr (Or.inl (key 49 h))
  · exact Or.inr (Or.inr (Or.inl (key 50 h)))
  · exact Or.inr (Or.inr (Or.inr (Or.inl (key 51 h))))
  · exact Or.inr (Or.inr (Or.inr (Or.inr (Or.inl (key 52 h)))))
  · exact Or.inr (Or.inr (Or.inr (Or.inr (Or.inr (Or.inl (key 53 h))))))
  · exact Or.inr (Or.inr (Or.inr (Or.inr (Or.inr (Or.inr (Or.inl (key 54 h)))))))
  · exact Or.inr (Or.inr (Or.inr (Or.inr (Or.inr (Or.inr (Or.inr (Or.inl (key 55 h))))))))
  · exact Or.inr (Or.inr (Or.inr (Or.inr (Or.inr (Or.inr (Or.inr (Or.inr (Or.inl (key 56 h)))))))))
  · exact Or.inr (Or.inr (Or.inr (Or.inr (Or.inr (Or.inr (Or.inr (Or.inr (Or.inr (key 57 h)))))))))

theorem pn_0 : plainName "com/example/tariff/tariff/DecimalsIsDigitPinLaw" = true := by first | (simp [plainName, overriddenIn]; done) | decide +kernel
theorem pd_0_0 : parseMethodDescriptor "(C)Z" = some ⟨[.char], some .boolean⟩ := by decide +kernel
theorem ef_0 (m : MethodId) (x0 : Int32) : entryFrame m #[(.int x0)] maxLocals = mkF m 0 #[.val (.int x0), .unset, .unset] [] := by first | (simp [entryFrame, mkF, argsToLocals, Value.category, maxLocals]; done) | rfl
def Q0 (Z : State) (i0 : Int32) (h0 : Heap) (n0 : Nat) (v : Option Value) (h : Heap) (L : List Loc) : Prop := v = some (.int (1 : Int32)) ∧ Fr n0 L
set_option maxRecDepth 65536 in
set_option maxHeartbeats 40000000 in
theorem rm0 (l : Launch) (Z : State) (a0 : Array Value) (hw : ∀ d ∈ tables_1, d.before a0 Z = true) (ws : List Jvm.Cond) (i0 : Int32) (h0 : Heap) (n0 : Nat) (Z0 : n0 ≤ h0.size)  :
    MetFree l x (head1 (Jvm.Cond.code x code maxLocals ret :: ws) room_1) (fun a U => a = #[(.int i0)] ∧ Z.Warmed39 U.vm ∧ U.heap = h0) (fun _ _ _ _ _ => True) (fun _ U o U' => ∃ v L, o = .returned v ∧ Q0 Z i0 h0 n0 v U'.heap L ∧ FrameEnd U o U' L 0 0) := by
  refine MetFree.of_bodySF (plainFor_of_name pn_0) hisR ?_
  intro p e s m args below meth c s₁ Bd hml0 hP hK
  obtain ⟨rfl, hZ, hh⟩ := hP
  have hx := Bd.exec
  have hby := Bd.bytes
  have hml : c.maxLocals = 3 := hml0
  have hown : s.vm.findClass "com/example/tariff/tariff/DecimalsIsDigitPinLaw" = some m.cls := findClass_of_methodNamed Bd.named
  have hnm := (name_of_methodNamed Bd.named Bd.method).1
  have hlk : meth.locks = false := BodyLoose.notSynchronized Bd
  have hrt := Bd.returns
  have X0 : Stand p l e room_1 s m #[(.int i0)] below meth c s₁ [] 0 0 := Stand.of_body Bd
  have e0 : s₁.heap = h0 := by rw [← hh, Bd.state]; rfl
  have N0 := Fr.nil n0
  show own_Fin p.tables e below (own_post (Q0 Z i0 h0 n0) s 0 0) (s₁.setTop (entryFrame m #[(.int i0)] maxLocals))
  refine own_Fin.step (fun t k => castTop (ef_0 m i0) k) ?_
  refine own_Fin.step (S' := s₁.setTop (mkF m 1 #[.val (.int i0), .unset, .unset] [(.int i0)])) (fun t k => XS.iloadN X0.here hx rfl (hb hby at_0) rfl  k) ?_
  refine own_Fin.step (S' := s₁.setTop (mkF m 3 #[.val (.int i0), .unset, .unset] [(.int (65535 : Int32)), (.int i0)])) (X0.ldcInt hx hown (mvT hZ (hw _ (List.mem_of_getElem? (i := 0) rfl))) (g := (mkF m 1 #[.val (.int i0), .unset, .unset] [(.int i0)])) rfl (hb hby at_1)) ?_
  refine own_Fin.step (S' := s₁.setTop (mkF m 4 #[.val (.int i0), .unset, .unset] [(.int (i0 &&& (65535 : Int32)))])) (fun t k => XS.iand X0.here hx rfl (hb hby at_3) rfl k) ?_
  refine own_Fin.step (S' := s₁.setTop (mkF m 5 #[.val (.int i0), .unset, .unset] [(.int ((i0 &&& (65535 : Int32)).toUInt32.toUInt16.toUInt32.toInt32))])) (fun t k => XS.i2c X0.here hx rfl (hb hby at_4) rfl k) ?_
  obtain ⟨v5, hv5⟩ : ∃ z : Int32, z = ((i0 &&& (65535 : Int32)).toUInt32.toUInt16.toUInt32.toInt32) := ⟨_, rfl⟩
  rw [← hv5]
  refine own_Fin.step (S' := s₁.setTop (mkF m 6 #[.val (.int i0), .val (.int v5), .unset] [])) (fun t k => XS.istoreN X0.here hx rfl (hb hby at_5) rfl (l' := #[.val (.int i0), .val (.int v5), .unset]) rfl k) ?_
  refine own_Fin.step (S' := s₁.setTop (mkF m 7 #[.val (.int i0), .val (.int v5), .unset] [(.int v5)])) (fun t k => XS.iloadN X0.here hx rfl (hb hby at_6) rfl  k) ?_
  refine own_Fin.step (S' := s₁.setTop (mkF m 9 #[.val (.int i0), .val (.int v5), .unset] [(.int (48 : Int32)), (.int v5)])) (fun t k => XS.bipush X0.here hx rfl (hb hby at_7) k) ?_
  by_cases hc9 : v5 = (48 : Int32)
  · refine own_Fin.step (S' := s₁.setTop (mkF m 66 #[.val (.int i0), .val (.int v5), .unset] [])) (fun t k => XS.icmpYes X0.here hx rfl (pc0 := 9) (pc' := 66) rfl (hb hby at_9) rfl (teq hc9).1 (by decide) (by decide) k) ?_
    refine own_Fin.step (S' := s₁.setTop (mkF m 67 #[.val (.int i0), .val (.int v5), .unset] [(.int (1 : Int32))])) (fun t k => XS.iconst X0.here hx rfl (hb hby at_66) k) ?_
    refine own_Fin.step (S' := s₁.setTop (mkF m 71 #[.val (.int i0), .val (.int v5), .unset] [(.int (1 : Int32))])) (fun t k => XS.goto X0.here hx rfl (pc0 := 67) (pc' := 71) rfl (hb hby at_67) (by decide) (by decide) k) ?_
    refine own_Fin.step (S' := s₁.setTop (mkF m 72 #[.val (.int i0), .val (.int v5), .val (.int (1 : Int32))] [])) (fun t k => XS.istoreN X0.here hx rfl (hb hby at_71) rfl (l' := #[.val (.int i0), .val (.int v5), .val (.int (1 : Int32))]) rfl k) ?_
    refine own_Fin.step (S' := s₁.setTop (mkF m 73 #[.val (.int i0), .val (.int v5), .val (.int (1 : Int32))] [(.int v5)])) (fun t k => XS.iloadN X0.here hx rfl (hb hby at_72) rfl  k) ?_
    obtain ⟨_, _, ⟨T4, L4, k4, n4⟩, -, X4, ⟨Lc4, hQ4, l4, y4, zz4⟩, st4⟩ := Jvm.LawKit.callS X0 hx (y := (⟨"com/example/tariff/tariff/Decimals", "isDigit", "(C)Z"⟩ : MethodName)) hown (mvT hZ (hw _ (List.mem_of_getElem? (i := 1) rfl))) (mvT hZ (hw _ (List.mem_of_getElem? (i := 2) rfl))) (mvT hZ (hw _ (List.mem_of_getElem? (i := 3) rfl))) (mvT hZ (hw _ (List.mem_of_getElem? (i := 4) rfl))) (by decide) (backOf (W := 0) (rm1 l Z a0 hw [] v5 h0 n0 (by omega) ) hZ (hw _ (List.mem_of_getElem? (i := 4) rfl)) (hw _ (List.mem_of_getElem? (i := 3) rfl)) (by decide) (by decide)) (g := (mkF m 73 #[.val (.int i0), .val (.int v5), .val (.int (1 : Int32))] [(.int v5)])) rfl (by rw [hml]; rfl) (argsL := [(.int v5)]) (rest := []) (lenOf pd_0_0 rfl) rfl (by show 2 * 0 + _ ≤ _; exact Nat.le_of_eq rfl) (hb hby at_73) (fun _ _ => ⟨rfl, e0, (by decide : 0 + 0 ≤ _), (by decide : 0 + 0 ≤ _)⟩)
    dsimp only [Pt.U, Pt.locs, Pt.cells, Pt.slots] at X4 l4 y4 zz4 st4 hQ4
    subst l4 y4 zz4
    obtain ⟨hvc4, N4q, e4⟩ := hQ4
    have N4 := Fr.app N0 N4q
    rcases hvc4 with ⟨rfl, hp73⟩ | ⟨rfl, hp73⟩
    · refine own_Fin.step (S' := T4.setTop (mkF m 76 #[.val (.int i0), .val (.int v5), .val (.int (1 : Int32))] [(.int (1 : Int32))])) st4 ?_
      refine own_Fin.step (S' := T4.setTop (mkF m 77 #[.val (.int i0), .val (.int v5), .val (.int (1 : Int32))] [(.int (1 : Int32)), (.int (1 : Int32))])) (fun t k => XS.iloadN X4.here hx rfl (hb hby at_76) rfl  k) ?_
      refine own_Fin.step (S' := T4.setTop (mkF m 80 #[.val (.int i0), .val (.int v5), .val (.int (1 : Int32))] [])) (fun t k => XS.icmpNo X4.here hx rfl (hb hby at_77) rfl (teq (by decide : ((1 : Int32) = (1 : Int32)))).2 k) ?_
      refine own_Fin.step (S' := T4.setTop (mkF m 81 #[.val (.int i0), .val (.int v5), .val (.int (1 : Int32))] [(.int (1 : Int32))])) (fun t k => XS.iconst X4.here hx rfl (hb hby at_80) k) ?_
      refine own_Fin.step (S' := T4.setTop (mkF m 85 #[.val (.int i0), .val (.int v5), .val (.int (1 : Int32))] [(.int (1 : Int32))])) (fun t k => XS.goto X4.here hx rfl (pc0 := 81) (pc' := 85) rfl (hb hby at_81) (by decide) (by decide) k) ?_
      have hq5 : Q0 Z i0 h0 n0 (some (.int (nar .boolean (1 : Int32)))) h0 _ := ⟨rfl, N4⟩
      exact own_retN X4 hx hlk (t := .boolean) hrt (by simp) (hb hby at_85) e4 hq5 (by decide) (by decide)
    · refine own_Fin.step (S' := T4.setTop (mkF m 76 #[.val (.int i0), .val (.int v5), .val (.int (1 : Int32))] [(.int (0 : Int32))])) st4 ?_
      refine own_Fin.step (S' := T4.setTop (mkF m 77 #[.val (.int i0), .val (.int v5), .val (.int (1 : Int32))] [(.int (1 : Int32)), (.int (0 : Int32))])) (fun t k => XS.iloadN X4.here hx rfl (hb hby at_76) rfl  k) ?_
      refine own_Fin.step (S' := T4.setTop (mkF m 84 #[.val (.int i0), .val (.int v5), .val (.int (1 : Int32))] [])) (fun t k => XS.icmpYes X4.here hx rfl (pc0 := 77) (pc' := 84) rfl (hb hby at_77) rfl (feq (by decide : ¬ ((0 : Int32) = (1 : Int32)))).2 (by decide) (by decide) k) ?_
      refine own_Fin.step (S' := T4.setTop (mkF m 85 #[.val (.int i0), .val (.int v5), .val (.int (1 : Int32))] [(.int (0 : Int32))])) (fun t k => XS.iconst X4.here hx rfl (hb hby at_84) k) ?_
      have hq6 : Q0 Z i0 h0 n0 (some (.int (nar .boolean (0 : Int32)))) h0 _ := ⟨(by exfalso; rw [hc9] at hp73; exact hp73 (by decide)), N4⟩
      exact own_retN X4 hx hlk (t := .boolean) hrt (by simp) (hb hby at_85) e4 hq6 (by decide) (by decide)
  · refine own_Fin.step (S' := s₁.setTop (mkF m 12 #[.val (.int i0), .val (.int v5), .unset] [])) (fun t k => XS.icmpNo X0.here hx rfl (hb hby at_9) rfl (feq hc9).1 k) ?_
    refine own_Fin.step (S' := s₁.setTop (mkF m 13 #[.val (.int i0), .val (.int v5), .unset] [(.int v5)])) (fun t k => XS.iloadN X0.here hx rfl (hb hby at_12) rfl  k) ?_
    refine own_Fin.step (S' := s₁.setTop (mkF m 15 #[.val (.int i0), .val (.int v5), .unset] [(.int (49 : Int32)), (.int v5)])) (fun t k => XS.bipush X0.here hx rfl (hb hby at_13) k) ?_
    by_cases hc15 : v5 = (49 : Int32)
    · refine own_Fin.step (S' := s₁.setTop (mkF m 66 #[.val (.int i0), .val (.int v5), .unset] [])) (fun t k => XS.icmpYes X0.here hx rfl (pc0 := 15) (pc' := 66) rfl (hb hby at_15) rfl (teq hc15).1 (by decide) (by decide) k) ?_
      refine own_Fin.step (S' := s₁.setTop (mkF m 67 #[.val (.int i0), .val (.int v5), .unset] [(.int (1 : Int32))])) (fun t k => XS.iconst X0.here hx rfl (hb hby at_66) k) ?_
      refine own_Fin.step (S' := s₁.setTop (mkF m 71 #[.val (.int i0), .val (.int v5), .unset] [(.int (1 : Int32))])) (fun t k => XS.goto X0.here hx rfl (pc0 := 67) (pc' := 71) rfl (hb hby at_67) (by decide) (by decide) k) ?_
      refine own_Fin.step (S' := s₁.setTop (mkF m 72 #[.val (.int i0), .val (.int v5), .val (.int (1 : Int32))] [])) (fun t k => XS.istoreN X0.here hx rfl (hb hby at_71) rfl (l' := #[.val (.int i0), .val (.int v5), .val (.int (1 : Int32))]) rfl k) ?_
      refine own_Fin.step (S' := s₁.setTop (mkF m 73 #[.val (.int i0), .val (.int v5), .val (.int (1 : Int32))] [(.int v5)])) (fun t k => XS.iloadN X0.here hx rfl (hb hby at_72) rfl  k) ?_
      obtain ⟨_, _, ⟨T7, L7, k7, n7⟩, -, X7, ⟨Lc7, hQ7, l7, y7, zz7⟩, st7⟩ := Jvm.LawKit.callS X0 hx (y := (⟨"com/example/tariff/tariff/Decimals", "isDigit", "(C)Z"⟩ : MethodName)) hown (mvT hZ (hw _ (List.mem_of_getElem? (i := 1) rfl))) (mvT hZ (hw _ (List.mem_of_getElem? (i := 2) rfl))) (mvT hZ (hw _ (List.mem_of_getElem? (i := 3) rfl))) (mvT hZ (hw _ (List.mem_of_getElem? (i := 4) rfl))) (by decide) (backOf (W := 0) (rm1 l Z a0 hw [] v5 h0 n0 (by omega) ) hZ (hw _ (List.mem_of_getElem? (i := 4) rfl)) (hw _ (List.mem_of_getElem? (i := 3) rfl)) (by decide) (by decide)) (g := (mkF m 73 #[.val (.int i0), .val (.int v5), .val (.int (1 : Int32))] [(.int v5)])) rfl (by rw [hml]; rfl) (argsL := [(.int v5)]) (rest := []) (lenOf pd_0_0 rfl) rfl (by show 2 * 0 + _ ≤ _; exact Nat.le_of_eq rfl) (hb hby at_73) (fun _ _ => ⟨rfl, e0, (by decide : 0 + 0 ≤ _), (by decide : 0 + 0 ≤ _)⟩)
      dsimp only [Pt.U, Pt.locs, Pt.cells, Pt.slots] at X7 l7 y7 zz7 st7 hQ7
      subst l7 y7 zz7
      obtain ⟨hvc7, N7q, e7⟩ := hQ7
      have N7 := Fr.app N0 N7q
      rcases hvc7 with ⟨rfl, hp73⟩ | ⟨rfl, hp73⟩
      · refine own_Fin.step (S' := T7.setTop (mkF m 76 #[.val (.int i0), .val (.int v5), .val (.int (1 : Int32))] [(.int (1 : Int32))])) st7 ?_
        refine own_Fin.step (S' := T7.setTop (mkF m 77 #[.val (.int i0), .val (.int v5), .val (.int (1 : Int32))] [(.int (1 : Int32)), (.int (1 : Int32))])) (fun t k => XS.iloadN X7.here hx rfl (hb hby at_76) rfl  k) ?_
        refine own_Fin.step (S' := T7.setTop (mkF m 80 #[.val (.int i0), .val (.int v5), .val (.int (1 : Int32))] [])) (fun t k => XS.icmpNo X7.here hx rfl (hb hby at_77) rfl (teq (by decide : ((1 : Int32) = (1 : Int32)))).2 k) ?_
        refine own_Fin.step (S' := T7.setTop (mkF m 81 #[.val (.int i0), .val (.int v5), .val (.int (1 : Int32))] [(.int (1 : Int32))])) (fun t k => XS.iconst X7.here hx rfl (hb hby at_80) k) ?_
        refine own_Fin.step (S' := T7.setTop (mkF m 85 #[.val (.int i0), .val (.int v5), .val (.int (1 : Int32))] [(.int (1 : Int32))])) (fun t k => XS.goto X7.here hx rfl (pc0 := 81) (pc' := 85) rfl (hb hby at_81) (by decide) (by decide) k) ?_
        have hq8 : Q0 Z i0 h0 n0 (some (.int (nar .boolean (1 : Int32)))) h0 _ := ⟨rfl, N7⟩
        exact own_retN X7 hx hlk (t := .boolean) hrt (by simp) (hb hby at_85) e7 hq8 (by decide) (by decide)
      · refine own_Fin.step (S' := T7.setTop (mkF m 76 #[.val (.int i0), .val (.int v5), .val (.int (1 : Int32))] [(.int (0 : Int32))])) st7 ?_
        refine own_Fin.step (S' := T7.setTop (mkF m 77 #[.val (.int i0), .val (.int v5), .val (.int (1 : Int32))] [(.int (1 : Int32)), (.int (0 : Int32))])) (fun t k => XS.iloadN X7.here hx rfl (hb hby at_76) rfl  k) ?_
        refine own_Fin.step (S' := T7.setTop (mkF m 84 #[.val (.int i0), .val (.int v5), .val (.int (1 : Int32))] [])) (fun t k => XS.icmpYes X7.here hx rfl (pc0 := 77) (pc' := 84) rfl (hb hby at_77) rfl (feq (by decide : ¬ ((0 : Int32) = (1 : Int32)))).2 (by decide) (by decide) k) ?_
        refine own_Fin.step (S' := T7.setTop (mkF m 85 #[.val (.int i0), .val (.int v5), .val (.int (1 : Int32))] [(.int (0 : Int32))])) (fun t k => XS.iconst X7.here hx rfl (hb hby at_84) k) ?_
        have hq9 : Q0 Z i0 h0 n0 (some (.int (nar .boolean (0 : Int32)))) h0 _ := ⟨(by exfalso; rw [hc15] at hp73; exact hp73 (by decide)), N7⟩
        exact own_retN X7 hx hlk (t := .boolean) hrt (by simp) (hb hby at_85) e7 hq9 (by decide) (by decide)
    · refine own_Fin.step (S' := s₁.setTop (mkF m 18 #[.val (.int i0), .val (.int v5), .unset] [])) (fun t k => XS.icmpNo X0.here hx rfl (hb hby at_15) rfl (feq hc15).1 k) ?_
      refine own_Fin.step (S' := s₁.setTop (mkF m 19 #[.val (.int i0), .val (.int v5), .unset] [(.int v5)])) (fun t k => XS.iloadN X0.here hx rfl (hb hby at_18) rfl  k) ?_
      refine own_Fin.step (S' := s₁.setTop (mkF m 21 #[.val (.int i0), .val (.int v5), .unset] [(.int (50 : Int32)), (.int v5)])) (fun t k => XS.bipush X0.here hx rfl (hb hby at_19) k) ?_
      by_cases hc21 : v5 = (50 : Int32)
      · refine own_Fin.step (S' := s₁.setTop (mkF m 66 #[.val (.int i0), .val (.int v5), .unset] [])) (fun t k => XS.icmpYes X0.here hx rfl (pc0 := 21) (pc' := 66) rfl (hb hby at_21) rfl (teq hc21).1 (by decide) (by decide) k) ?_
        refine own_Fin.step (S' := s₁.setTop (mkF m 67 #[.val (.int i0), .val (.int v5), .unset] [(.int (1 : Int32))])) (fun t k => XS.iconst X0.here hx rfl (hb hby at_66) k) ?_
        refine own_Fin.step (S' := s₁.setTop (mkF m 71 #[.val (.int i0), .val (.int v5), .unset] [(.int (1 : Int32))])) (fun t k => XS.goto X0.here hx rfl (pc0 := 67) (pc' := 71) rfl (hb hby at_67) (by decide) (by decide) k) ?_
        refine own_Fin.step (S' := s₁.setTop (mkF m 72 #[.val (.int i0), .val (.int v5), .val (.int (1 : Int32))] [])) (fun t k => XS.istoreN X0.here hx rfl (hb hby at_71) rfl (l' := #[.val (.int i0), .val (.int v5), .val (.int (1 : Int32))]) rfl k) ?_
        refine own_Fin.step (S' := s₁.setTop (mkF m 73 #[.val (.int i0), .val (.int v5), .val (.int (1 : Int32))] [(.int v5)])) (fun t k => XS.iloadN X0.here hx rfl (hb hby at_72) rfl  k) ?_
        obtain ⟨_, _, ⟨T10, L10, k10, n10⟩, -, X10, ⟨Lc10, hQ10, l10, y10, zz10⟩, st10⟩ := Jvm.LawKit.callS X0 hx (y := (⟨"com/example/tariff/tariff/Decimals", "isDigit", "(C)Z"⟩ : MethodName)) hown (mvT hZ (hw _ (List.mem_of_getElem? (i := 1) rfl))) (mvT hZ (hw _ (List.mem_of_getElem? (i := 2) rfl))) (mvT hZ (hw _ (List.mem_of_getElem? (i := 3) rfl))) (mvT hZ (hw _ (List.mem_of_getElem? (i := 4) rfl))) (by decide) (backOf (W := 0) (rm1 l Z a0 hw [] v5 h0 n0 (by omega) ) hZ (hw _ (List.mem_of_getElem? (i := 4) rfl)) (hw _ (List.mem_of_getElem? (i := 3) rfl)) (by decide) (by decide)) (g := (mkF m 73 #[.val (.int i0), .val (.int v5), .val (.int (1 : Int32))] [(.int v5)])) rfl (by rw [hml]; rfl) (argsL := [(.int v5)]) (rest := []) (lenOf pd_0_0 rfl) rfl (by show 2 * 0 + _ ≤ _; exact Nat.le_of_eq rfl) (hb hby at_73) (fun _ _ => ⟨rfl, e0, (by decide : 0 + 0 ≤ _), (by decide : 0 + 0 ≤ _)⟩)
        dsimp only [Pt.U, Pt.locs, Pt.cells, Pt.slots] at X10 l10 y10 zz10 st10 hQ10
        subst l10 y10 zz10
        obtain ⟨hvc10, N10q, e10⟩ := hQ10
        have N10 := Fr.app N0 N10q
        rcases hvc10 with ⟨rfl, hp73⟩ | ⟨rfl, hp73⟩
        · refine own_Fin.step (S' := T10.setTop (mkF m 76 #[.val (.int i0), .val (.int v5), .val (.int (1 : Int32))] [(.int (1 : Int32))])) st10 ?_
          refine own_Fin.step (S' := T10.setTop (mkF m 77 #[.val (.int i0), .val (.int v5), .val (.int (1 : Int32))] [(.int (1 : Int32)), (.int (1 : Int32))])) (fun t k => XS.iloadN X10.here hx rfl (hb hby at_76) rfl  k) ?_
          refine own_Fin.step (S' := T10.setTop (mkF m 80 #[.val (.int i0), .val (.int v5), .val (.int (1 : Int32))] [])) (fun t k => XS.icmpNo X10.here hx rfl (hb hby at_77) rfl (teq (by decide : ((1 : Int32) = (1 : Int32)))).2 k) ?_
          refine own_Fin.step (S' := T10.setTop (mkF m 81 #[.val (.int i0), .val (.int v5), .val (.int (1 : Int32))] [(.int (1 : Int32))])) (fun t k => XS.iconst X10.here hx rfl (hb hby at_80) k) ?_
          refine own_Fin.step (S' := T10.setTop (mkF m 85 #[.val (.int i0), .val (.int v5), .val (.int (1 : Int32))] [(.int (1 : Int32))])) (fun t k => XS.goto X10.here hx rfl (pc0 := 81) (pc' := 85) rfl (hb hby at_81) (by decide) (by decide) k) ?_
          have hq11 : Q0 Z i0 h0 n0 (some (.int (nar .boolean (1 : Int32)))) h0 _ := ⟨rfl, N10⟩
          exact own_retN X10 hx hlk (t := .boolean) hrt (by simp) (hb hby at_85) e10 hq11 (by decide) (by decide)
        · refine own_Fin.step (S' := T10.setTop (mkF m 76 #[.val (.int i0), .val (.int v5), .val (.int (1 : Int32))] [(.int (0 : Int32))])) st10 ?_
          refine own_Fin.step (S' := T10.setTop (mkF m 77 #[.val (.int i0), .val (.int v5), .val (.int (1 : Int32))] [(.int (1 : Int32)), (.int (0 : Int32))])) (fun t k => XS.iloadN X10.here hx rfl (hb hby at_76) rfl  k) ?_
          refine own_Fin.step (S' := T10.setTop (mkF m 84 #[.val (.int i0), .val (.int v5), .val (.int (1 : Int32))] [])) (fun t k => XS.icmpYes X10.here hx rfl (pc0 := 77) (pc' := 84) rfl (hb hby at_77) rfl (feq (by decide : ¬ ((0 : Int32) = (1 : Int32)))).2 (by decide) (by decide) k) ?_
          refine own_Fin.step (S' := T10.setTop (mkF m 85 #[.val (.int i0), .val (.int v5), .val (.int (1 : Int32))] [(.int (0 : Int32))])) (fun t k => XS.iconst X10.here hx rfl (hb hby at_84) k) ?_
          have hq12 : Q0 Z i0 h0 n0 (some (.int (nar .boolean (0 : Int32)))) h0 _ := ⟨(by exfalso; rw [hc21] at hp73; exact hp73 (by decide)), N10⟩
          exact own_retN X10 hx hlk (t := .boolean) hrt (by simp) (hb hby at_85) e10 hq12 (by decide) (by decide)
      · refine own_Fin.step (S' := s₁.setTop (mkF m 24 #[.val (.int i0), .val (.int v5), .unset] [])) (fun t k => XS.icmpNo X0.here hx rfl (hb hby at_21) rfl (feq hc21).1 k) ?_
        refine own_Fin.step (S' := s₁.setTop (mkF m 25 #[.val (.int i0), .val (.int v5), .unset] [(.int v5)])) (fun t k => XS.iloadN X0.here hx rfl (hb hby at_24) rfl  k) ?_
        refine own_Fin.step (S' := s₁.setTop (mkF m 27 #[.val (.int i0), .val (.int v5), .unset] [(.int (51 : Int32)), (.int v5)])) (fun t k => XS.bipush X0.here hx rfl (hb hby at_25) k) ?_
        by_cases hc27 : v5 = (51 : Int32)
        · refine own_Fin.step (S' := s₁.setTop (mkF m 66 #[.val (.int i0), .val (.int v5), .unset] [])) (fun t k => XS.icmpYes X0.here hx rfl (pc0 := 27) (pc' := 66) rfl (hb hby at_27) rfl (teq hc27).1 (by decide) (by decide) k) ?_
          refine own_Fin.step (S' := s₁.setTop (mkF m 67 #[.val (.int i0), .val (.int v5), .unset] [(.int (1 : Int32))])) (fun t k => XS.iconst X0.here hx rfl (hb hby at_66) k) ?_
          refine own_Fin.step (S' := s₁.setTop (mkF m 71 #[.val (.int i0), .val (.int v5), .unset] [(.int (1 : Int32))])) (fun t k => XS.goto X0.here hx rfl (pc0 := 67) (pc' := 71) rfl (hb hby at_67) (by decide) (by decide) k) ?_
          refine own_Fin.step (S' := s₁.setTop (mkF m 72 #[.val (.int i0), .val (.int v5), .val (.int (1 : Int32))] [])) (fun t k => XS.istoreN X0.here hx rfl (hb hby at_71) rfl (l' := #[.val (.int i0), .val (.int v5), .val (.int (1 : Int32))]) rfl k) ?_
          refine own_Fin.step (S' := s₁.setTop (mkF m 73 #[.val (.int i0), .val (.int v5), .val (.int (1 : Int32))] [(.int v5)])) (fun t k => XS.iloadN X0.here hx rfl (hb hby at_72) rfl  k) ?_
          obtain ⟨_, _, ⟨T13, L13, k13, n13⟩, -, X13, ⟨Lc13, hQ13, l13, y13, zz13⟩, st13⟩ := Jvm.LawKit.callS X0 hx (y := (⟨"com/example/tariff/tariff/Decimals", "isDigit", "(C)Z"⟩ : MethodName)) hown (mvT hZ (hw _ (List.mem_of_getElem? (i := 1) rfl))) (mvT hZ (hw _ (List.mem_of_getElem? (i := 2) rfl))) (mvT hZ (hw _ (List.mem_of_getElem? (i := 3) rfl))) (mvT hZ (hw _ (List.mem_of_getElem? (i := 4) rfl))) (by decide) (backOf (W := 0) (rm1 l Z a0 hw [] v5 h0 n0 (by omega) ) hZ (hw _ (List.mem_of_getElem? (i := 4) rfl)) (hw _ (List.mem_of_getElem? (i := 3) rfl)) (by decide) (by decide)) (g := (mkF m 73 #[.val (.int i0), .val (.int v5), .val (.int (1 : Int32))] [(.int v5)])) rfl (by rw [hml]; rfl) (argsL := [(.int v5)]) (rest := []) (lenOf pd_0_0 rfl) rfl (by show 2 * 0 + _ ≤ _; exact Nat.le_of_eq rfl) (hb hby at_73) (fun _ _ => ⟨rfl, e0, (by decide : 0 + 0 ≤ _), (by decide : 0 + 0 ≤ _)⟩)
          dsimp only [Pt.U, Pt.locs, Pt.cells, Pt.slots] at X13 l13 y13 zz13 st13 hQ13
          subst l13 y13 zz13
          obtain ⟨hvc13, N13q, e13⟩ := hQ13
          have N13 := Fr.app N0 N13q
          rcases hvc13 with ⟨rfl, hp73⟩ | ⟨rfl, hp73⟩
          · refine own_Fin.step (S' := T13.setTop (mkF m 76 #[.val (.int i0), .val (.int v5), .val (.int (1 : Int32))] [(.int (1 : Int32))])) st13 ?_
            refine own_Fin.step (S' := T13.setTop (mkF m 77 #[.val (.int i0), .val (.int v5), .val (.int (1 : Int32))] [(.int (1 : Int32)), (.int (1 : Int32))])) (fun t k => XS.iloadN X13.here hx rfl (hb hby at_76) rfl  k) ?_
            refine own_Fin.step (S' := T13.setTop (mkF m 80 #[.val (.int i0), .val (.int v5), .val (.int (1 : Int32))] [])) (fun t k => XS.icmpNo X13.here hx rfl (hb hby at_77) rfl (teq (by decide : ((1 : Int32) = (1 : Int32)))).2 k) ?_
            refine own_Fin.step (S' := T13.setTop (mkF m 81 #[.val (.int i0), .val (.int v5), .val (.int (1 : Int32))] [(.int (1 : Int32))])) (fun t k => XS.iconst X13.here hx rfl (hb hby at_80) k) ?_
            refine own_Fin.step (S' := T13.setTop (mkF m 85 #[.val (.int i0), .val (.int v5), .val (.int (1 : Int32))] [(.int (1 : Int32))])) (fun t k => XS.goto X13.here hx rfl (pc0 := 81) (pc' := 85) rfl (hb hby at_81) (by decide) (by decide) k) ?_
            have hq14 : Q0 Z i0 h0 n0 (some (.int (nar .boolean (1 : Int32)))) h0 _ := ⟨rfl, N13⟩
            exact own_retN X13 hx hlk (t := .boolean) hrt (by simp) (hb hby at_85) e13 hq14 (by decide) (by decide)
          · refine own_Fin.step (S' := T13.setTop (mkF m 76 #[.val (.int i0), .val (.int v5), .val (.int (1 : Int32))] [(.int (0 : Int32))])) st13 ?_
            refine own_Fin.step (S' := T13.setTop (mkF m 77 #[.val (.int i0), .val (.int v5), .val (.int (1 : Int32))] [(.int (1 : Int32)), (.int (0 : Int32))])) (fun t k => XS.iloadN X13.here hx rfl (hb hby at_76) rfl  k) ?_
            refine own_Fin.step (S' := T13.setTop (mkF m 84 #[.val (.int i0), .val (.int v5), .val (.int (1 : Int32))] [])) (fun t k => XS.icmpYes X13.here hx rfl (pc0 := 77) (pc' := 84) rfl (hb hby at_77) rfl (feq (by decide : ¬ ((0 : Int32) = (1 : Int32)))).2 (by decide) (by decide) k) ?_
            refine own_Fin.step (S' := T13.setTop (mkF m 85 #[.val (.int i0), .val (.int v5), .val (.int (1 : Int32))] [(.int (0 : Int32))])) (fun t k => XS.iconst X13.here hx rfl (hb hby at_84) k) ?_
            have hq15 : Q0 Z i0 h0 n0 (some (.int (nar .boolean (0 : Int32)))) h0 _ := ⟨(by exfalso; rw [hc27] at hp73; exact hp73 (by decide)), N13⟩
            exact own_retN X13 hx hlk (t := .boolean) hrt (by simp) (hb hby at_85) e13 hq15 (by decide) (by decide)
        · refine own_Fin.step (S' := s₁.setTop (mkF m 30 #[.val (.int i0), .val (.int v5), .unset] [])) (fun t k => XS.icmpNo X0.here hx rfl (hb hby at_27) rfl (feq hc27).1 k) ?_
          refine own_Fin.step (S' := s₁.setTop (mkF m 31 #[.val (.int i0), .val (.int v5), .unset] [(.int v5)])) (fun t k => XS.iloadN X0.here hx rfl (hb hby at_30) rfl  k) ?_
          refine own_Fin.step (S' := s₁.setTop (mkF m 33 #[.val (.int i0), .val (.int v5), .unset] [(.int (52 : Int32)), (.int v5)])) (fun t k => XS.bipush X0.here hx rfl (hb hby at_31) k) ?_
          by_cases hc33 : v5 = (52 : Int32)
          · refine own_Fin.step (S' := s₁.setTop (mkF m 66 #[.val (.int i0), .val (.int v5), .unset] [])) (fun t k => XS.icmpYes X0.here hx rfl (pc0 := 33) (pc' := 66) rfl (hb hby at_33) rfl (teq hc33).1 (by decide) (by decide) k) ?_
            refine own_Fin.step (S' := s₁.setTop (mkF m 67 #[.val (.int i0), .val (.int v5), .unset] [(.int (1 : Int32))])) (fun t k => XS.iconst X0.here hx rfl (hb hby at_66) k) ?_
            refine own_Fin.step (S' := s₁.setTop (mkF m 71 #[.val (.int i0), .val (.int v5), .unset] [(.int (1 : Int32))])) (fun t k => XS.goto X0.here hx rfl (pc0 := 67) (pc' := 71) rfl (hb hby at_67) (by decide) (by decide) k) ?_
            refine own_Fin.step (S' := s₁.setTop (mkF m 72 #[.val (.int i0), .val (.int v5), .val (.int (1 : Int32))] [])) (fun t k => XS.istoreN X0.here hx rfl (hb hby at_71) rfl (l' := #[.val (.int i0), .val (.int v5), .val (.int (1 : Int32))]) rfl k) ?_
            refine own_Fin.step (S' := s₁.setTop (mkF m 73 #[.val (.int i0), .val (.int v5), .val (.int (1 : Int32))] [(.int v5)])) (fun t k => XS.iloadN X0.here hx rfl (hb hby at_72) rfl  k) ?_
            obtain ⟨_, _, ⟨T16, L16, k16, n16⟩, -, X16, ⟨Lc16, hQ16, l16, y16, zz16⟩, st16⟩ := Jvm.LawKit.callS X0 hx (y := (⟨"com/example/tariff/tariff/Decimals", "isDigit", "(C)Z"⟩ : MethodName)) hown (mvT hZ (hw _ (List.mem_of_getElem? (i := 1) rfl))) (mvT hZ (hw _ (List.mem_of_getElem? (i := 2) rfl))) (mvT hZ (hw _ (List.mem_of_getElem? (i := 3) rfl))) (mvT hZ (hw _ (List.mem_of_getElem? (i := 4) rfl))) (by decide) (backOf (W := 0) (rm1 l Z a0 hw [] v5 h0 n0 (by omega) ) hZ (hw _ (List.mem_of_getElem? (i := 4) rfl)) (hw _ (List.mem_of_getElem? (i := 3) rfl)) (by decide) (by decide)) (g := (mkF m 73 #[.val (.int i0), .val (.int v5), .val (.int (1 : Int32))] [(.int v5)])) rfl (by rw [hml]; rfl) (argsL := [(.int v5)]) (rest := []) (lenOf pd_0_0 rfl) rfl (by show 2 * 0 + _ ≤ _; exact Nat.le_of_eq rfl) (hb hby at_73) (fun _ _ => ⟨rfl, e0, (by decide : 0 + 0 ≤ _), (by decide : 0 + 0 ≤ _)⟩)
            dsimp only [Pt.U, Pt.locs, Pt.cells, Pt.slots] at X16 l16 y16 zz16 st16 hQ16
            subst l16 y16 zz16
            obtain ⟨hvc16, N16q, e16⟩ := hQ16
            have N16 := Fr.app N0 N16q
            rcases hvc16 with ⟨rfl, hp73⟩ | ⟨rfl, hp73⟩
            · refine own_Fin.step (S' := T16.setTop (mkF m 76 #[.val (.int i0), .val (.int v5), .val (.int (1 : Int32))] [(.int (1 : Int32))])) st16 ?_
              refine own_Fin.step (S' := T16.setTop (mkF m 77 #[.val (.int i0), .val (.int v5), .val (.int (1 : Int32))] [(.int (1 : Int32)), (.int (1 : Int32))])) (fun t k => XS.iloadN X16.here hx rfl (hb hby at_76) rfl  k) ?_
              refine own_Fin.step (S' := T16.setTop (mkF m 80 #[.val (.int i0), .val (.int v5), .val (.int (1 : Int32))] [])) (fun t k => XS.icmpNo X16.here hx rfl (hb hby at_77) rfl (teq (by decide : ((1 : Int32) = (1 : Int32)))).2 k) ?_
              refine own_Fin.step (S' := T16.setTop (mkF m 81 #[.val (.int i0), .val (.int v5), .val (.int (1 : Int32))] [(.int (1 : Int32))])) (fun t k => XS.iconst X16.here hx rfl (hb hby at_80) k) ?_
              refine own_Fin.step (S' := T16.setTop (mkF m 85 #[.val (.int i0), .val (.int v5), .val (.int (1 : Int32))] [(.int (1 : Int32))])) (fun t k => XS.goto X16.here hx rfl (pc0 := 81) (pc' := 85) rfl (hb hby at_81) (by decide) (by decide) k) ?_
              have hq17 : Q0 Z i0 h0 n0 (some (.int (nar .boolean (1 : Int32)))) h0 _ := ⟨rfl, N16⟩
              exact own_retN X16 hx hlk (t := .boolean) hrt (by simp) (hb hby at_85) e16 hq17 (by decide) (by decide)
            · refine own_Fin.step (S' := T16.setTop (mkF m 76 #[.val (.int i0), .val (.int v5), .val (.int (1 : Int32))] [(.int (0 : Int32))])) st16 ?_
              refine own_Fin.step (S' := T16.setTop (mkF m 77 #[.val (.int i0), .val (.int v5), .val (.int (1 : Int32))] [(.int (1 : Int32)), (.int (0 : Int32))])) (fun t k => XS.iloadN X16.here hx rfl (hb hby at_76) rfl  k) ?_
              refine own_Fin.step (S' := T16.setTop (mkF m 84 #[.val (.int i0), .val (.int v5), .val (.int (1 : Int32))] [])) (fun t k => XS.icmpYes X16.here hx rfl (pc0 := 77) (pc' := 84) rfl (hb hby at_77) rfl (feq (by decide : ¬ ((0 : Int32) = (1 : Int32)))).2 (by decide) (by decide) k) ?_
              refine own_Fin.step (S' := T16.setTop (mkF m 85 #[.val (.int i0), .val (.int v5), .val (.int (1 : Int32))] [(.int (0 : Int32))])) (fun t k => XS.iconst X16.here hx rfl (hb hby at_84) k) ?_
              have hq18 : Q0 Z i0 h0 n0 (some (.int (nar .boolean (0 : Int32)))) h0 _ := ⟨(by exfalso; rw [hc33] at hp73; exact hp73 (by decide)), N16⟩
              exact own_retN X16 hx hlk (t := .boolean) hrt (by simp) (hb hby at_85) e16 hq18 (by decide) (by decide)
          · refine own_Fin.step (S' := s₁.setTop (mkF m 36 #[.val (.int i0), .val (.int v5), .unset] [])) (fun t k => XS.icmpNo X0.here hx rfl (hb hby at_33) rfl (feq hc33).1 k) ?_
            refine own_Fin.step (S' := s₁.setTop (mkF m 37 #[.val (.int i0), .val (.int v5), .unset] [(.int v5)])) (fun t k => XS.iloadN X0.here hx rfl (hb hby at_36) rfl  k) ?_
            refine own_Fin.step (S' := s₁.setTop (mkF m 39 #[.val (.int i0), .val (.int v5), .unset] [(.int (53 : Int32)), (.int v5)])) (fun t k => XS.bipush X0.here hx rfl (hb hby at_37) k) ?_
            by_cases hc39 : v5 = (53 : Int32)
            · refine own_Fin.step (S' := s₁.setTop (mkF m 66 #[.val (.int i0), .val (.int v5), .unset] [])) (fun t k => XS.icmpYes X0.here hx rfl (pc0 := 39) (pc' := 66) rfl (hb hby at_39) rfl (teq hc39).1 (by decide) (by decide) k) ?_
              refine own_Fin.step (S' := s₁.setTop (mkF m 67 #[.val (.int i0), .val (.int v5), .unset] [(.int (1 : Int32))])) (fun t k => XS.iconst X0.here hx rfl (hb hby at_66) k) ?_
              refine own_Fin.step (S' := s₁.setTop (mkF m 71 #[.val (.int i0), .val (.int v5), .unset] [(.int (1 : Int32))])) (fun t k => XS.goto X0.here hx rfl (pc0 := 67) (pc' := 71) rfl (hb hby at_67) (by decide) (by decide) k) ?_
              refine own_Fin.step (S' := s₁.setTop (mkF m 72 #[.val (.int i0), .val (.int v5), .val (.int (1 : Int32))] [])) (fun t k => XS.istoreN X0.here hx rfl (hb hby at_71) rfl (l' := #[.val (.int i0), .val (.int v5), .val (.int (1 : Int32))]) rfl k) ?_
              refine own_Fin.step (S' := s₁.setTop (mkF m 73 #[.val (.int i0), .val (.int v5), .val (.int (1 : Int32))] [(.int v5)])) (fun t k => XS.iloadN X0.here hx rfl (hb hby at_72) rfl  k) ?_
              obtain ⟨_, _, ⟨T19, L19, k19, n19⟩, -, X19, ⟨Lc19, hQ19, l19, y19, zz19⟩, st19⟩ := Jvm.LawKit.callS X0 hx (y := (⟨"com/example/tariff/tariff/Decimals", "isDigit", "(C)Z"⟩ : MethodName)) hown (mvT hZ (hw _ (List.mem_of_getElem? (i := 1) rfl))) (mvT hZ (hw _ (List.mem_of_getElem? (i := 2) rfl))) (mvT hZ (hw _ (List.mem_of_getElem? (i := 3) rfl))) (mvT hZ (hw _ (List.mem_of_getElem? (i := 4) rfl))) (by decide) (backOf (W := 0) (rm1 l Z a0 hw [] v5 h0 n0 (by omega) ) hZ (hw _ (List.mem_of_getElem? (i := 4) rfl)) (hw _ (List.mem_of_getElem? (i := 3) rfl)) (by decide) (by decide)) (g := (mkF m 73 #[.val (.int i0), .val (.int v5), .val (.int (1 : Int32))] [(.int v5)])) rfl (by rw [hml]; rfl) (argsL := [(.int v5)]) (rest := []) (lenOf pd_0_0 rfl) rfl (by show 2 * 0 + _ ≤ _; exact Nat.le_of_eq rfl) (hb hby at_73) (fun _ _ => ⟨rfl, e0, (by decide : 0 + 0 ≤ _), (by decide : 0 + 0 ≤ _)⟩)
              dsimp only [Pt.U, Pt.locs, Pt.cells, Pt.slots] at X19 l19 y19 zz19 st19 hQ19
              subst l19 y19 zz19
              obtain ⟨hvc19, N19q, e19⟩ := hQ19
              have N19 := Fr.app N0 N19q
              rcases hvc19 with ⟨rfl, hp73⟩ | ⟨rfl, hp73⟩
              · refine own_Fin.step (S' := T19.setTop (mkF m 76 #[.val (.int i0), .val (.int v5), .val (.int (1 : Int32))] [(.int (1 : Int32))])) st19 ?_
                refine own_Fin.step (S' := T19.setTop (mkF m 77 #[.val (.int i0), .val (.int v5), .val (.int (1 : Int32))] [(.int (1 : Int32)), (.int (1 : Int32))])) (fun t k => XS.iloadN X19.here hx rfl (hb hby at_76) rfl  k) ?_
                refine own_Fin.step (S' := T19.setTop (mkF m 80 #[.val (.int i0), .val (.int v5), .val (.int (1 : Int32))] [])) (fun t k => XS.icmpNo X19.here hx rfl (hb hby at_77) rfl (teq (by decide : ((1 : Int32) = (1 : Int32)))).2 k) ?_
                refine own_Fin.step (S' := T19.setTop (mkF m 81 #[.val (.int i0), .val (.int v5), .val (.int (1 : Int32))] [(.int (1 : Int32))])) (fun t k => XS.iconst X19.here hx rfl (hb hby at_80) k) ?_
                refine own_Fin.step (S' := T19.setTop (mkF m 85 #[.val (.int i0), .val (.int v5), .val (.int (1 : Int32))] [(.int (1 : Int32))])) (fun t k => XS.goto X19.here hx rfl (pc0 := 81) (pc' := 85) rfl (hb hby at_81) (by decide) (by decide) k) ?_
                have hq20 : Q0 Z i0 h0 n0 (some (.int (nar .boolean (1 : Int32)))) h0 _ := ⟨rfl, N19⟩
                exact own_retN X19 hx hlk (t := .boolean) hrt (by simp) (hb hby at_85) e19 hq20 (by decide) (by decide)
              · refine own_Fin.step (S' := T19.setTop (mkF m 76 #[.val (.int i0), .val (.int v5), .val (.int (1 : Int32))] [(.int (0 : Int32))])) st19 ?_
                refine own_Fin.step (S' := T19.setTop (mkF m 77 #[.val (.int i0), .val (.int v5), .val (.int (1 : Int32))] [(.int (1 : Int32)), (.int (0 : Int32))])) (fun t k => XS.iloadN X19.here hx rfl (hb hby at_76) rfl  k) ?_
                refine own_Fin.step (S' := T19.setTop (mkF m 84 #[.val (.int i0), .val (.int v5), .val (.int (1 : Int32))] [])) (fun t k => XS.icmpYes X19.here hx rfl (pc0 := 77) (pc' := 84) rfl (hb hby at_77) rfl (feq (by decide : ¬ ((0 : Int32) = (1 : Int32)))).2 (by decide) (by decide) k) ?_
                refine own_Fin.step (S' := T19.setTop (mkF m 85 #[.val (.int i0), .val (.int v5), .val (.int (1 : Int32))] [(.int (0 : Int32))])) (fun t k => XS.iconst X19.here hx rfl (hb hby at_84) k) ?_
                have hq21 : Q0 Z i0 h0 n0 (some (.int (nar .boolean (0 : Int32)))) h0 _ := ⟨(by exfalso; rw [hc39] at hp73; exact hp73 (by decide)), N19⟩
                exact own_retN X19 hx hlk (t := .boolean) hrt (by simp) (hb hby at_85) e19 hq21 (by decide) (by decide)
            · refine own_Fin.step (S' := s₁.setTop (mkF m 42 #[.val (.int i0), .val (.int v5), .unset] [])) (fun t k => XS.icmpNo X0.here hx rfl (hb hby at_39) rfl (feq hc39).1 k) ?_
              refine own_Fin.step (S' := s₁.setTop (mkF m 43 #[.val (.int i0), .val (.int v5), .unset] [(.int v5)])) (fun t k => XS.iloadN X0.here hx rfl (hb hby at_42) rfl  k) ?_
              refine own_Fin.step (S' := s₁.setTop (mkF m 45 #[.val (.int i0), .val (.int v5), .unset] [(.int (54 : Int32)), (.int v5)])) (fun t k => XS.bipush X0.here hx rfl (hb hby at_43) k) ?_
              by_cases hc45 : v5 = (54 : Int32)
              · refine own_Fin.step (S' := s₁.setTop (mkF m 66 #[.val (.int i0), .val (.int v5), .unset] [])) (fun t k => XS.icmpYes X0.here hx rfl (pc0 := 45) (pc' := 66) rfl (hb hby at_45) rfl (teq hc45).1 (by decide) (by decide) k) ?_
                refine own_Fin.step (S' := s₁.setTop (mkF m 67 #[.val (.int i0), .val (.int v5), .unset] [(.int (1 : Int32))])) (fun t k => XS.iconst X0.here hx rfl (hb hby at_66) k) ?_
                refine own_Fin.step (S' := s₁.setTop (mkF m 71 #[.val (.int i0), .val (.int v5), .unset] [(.int (1 : Int32))])) (fun t k => XS.goto X0.here hx rfl (pc0 := 67) (pc' := 71) rfl (hb hby at_67) (by decide) (by decide) k) ?_
                refine own_Fin.step (S' := s₁.setTop (mkF m 72 #[.val (.int i0), .val (.int v5), .val (.int (1 : Int32))] [])) (fun t k => XS.istoreN X0.here hx rfl (hb hby at_71) rfl (l' := #[.val (.int i0), .val (.int v5), .val (.int (1 : Int32))]) rfl k) ?_
                refine own_Fin.step (S' := s₁.setTop (mkF m 73 #[.val (.int i0), .val (.int v5), .val (.int (1 : Int32))] [(.int v5)])) (fun t k => XS.iloadN X0.here hx rfl (hb hby at_72) rfl  k) ?_
                obtain ⟨_, _, ⟨T22, L22, k22, n22⟩, -, X22, ⟨Lc22, hQ22, l22, y22, zz22⟩, st22⟩ := Jvm.LawKit.callS X0 hx (y := (⟨"com/example/tariff/tariff/Decimals", "isDigit", "(C)Z"⟩ : MethodName)) hown (mvT hZ (hw _ (List.mem_of_getElem? (i := 1) rfl))) (mvT hZ (hw _ (List.mem_of_getElem? (i := 2) rfl))) (mvT hZ (hw _ (List.mem_of_getElem? (i := 3) rfl))) (mvT hZ (hw _ (List.mem_of_getElem? (i := 4) rfl))) (by decide) (backOf (W := 0) (rm1 l Z a0 hw [] v5 h0 n0 (by omega) ) hZ (hw _ (List.mem_of_getElem? (i := 4) rfl)) (hw _ (List.mem_of_getElem? (i := 3) rfl)) (by decide) (by decide)) (g := (mkF m 73 #[.val (.int i0), .val (.int v5), .val (.int (1 : Int32))] [(.int v5)])) rfl (by rw [hml]; rfl) (argsL := [(.int v5)]) (rest := []) (lenOf pd_0_0 rfl) rfl (by show 2 * 0 + _ ≤ _; exact Nat.le_of_eq rfl) (hb hby at_73) (fun _ _ => ⟨rfl, e0, (by decide : 0 + 0 ≤ _), (by decide : 0 + 0 ≤ _)⟩)
                dsimp only [Pt.U, Pt.locs, Pt.cells, Pt.slots] at X22 l22 y22 zz22 st22 hQ22
                subst l22 y22 zz22
                obtain ⟨hvc22, N22q, e22⟩ := hQ22
                have N22 := Fr.app N0 N22q
                rcases hvc22 with ⟨rfl, hp73⟩ | ⟨rfl, hp73⟩
                · refine own_Fin.step (S' := T22.setTop (mkF m 76 #[.val (.int i0), .val (.int v5), .val (.int (1 : Int32))] [(.int (1 : Int32))])) st22 ?_
                  refine own_Fin.step (S' := T22.setTop (mkF m 77 #[.val (.int i0), .val (.int v5), .val (.int (1 : Int32))] [(.int (1 : Int32)), (.int (1 : Int32))])) (fun t k => XS.iloadN X22.here hx rfl (hb hby at_76) rfl  k) ?_
                  refine own_Fin.step (S' := T22.setTop (mkF m 80 #[.val (.int i0), .val (.int v5), .val (.int (1 : Int32))] [])) (fun t k => XS.icmpNo X22.here hx rfl (hb hby at_77) rfl (teq (by decide : ((1 : Int32) = (1 : Int32)))).2 k) ?_
                  refine own_Fin.step (S' := T22.setTop (mkF m 81 #[.val (.int i0), .val (.int v5), .val (.int (1 : Int32))] [(.int (1 : Int32))])) (fun t k => XS.iconst X22.here hx rfl (hb hby at_80) k) ?_
                  refine own_Fin.step (S' := T22.setTop (mkF m 85 #[.val (.int i0), .val (.int v5), .val (.int (1 : Int32))] [(.int (1 : Int32))])) (fun t k => XS.goto X22.here hx rfl (pc0 := 81) (pc' := 85) rfl (hb hby at_81) (by decide) (by decide) k) ?_
                  have hq23 : Q0 Z i0 h0 n0 (some (.int (nar .boolean (1 : Int32)))) h0 _ := ⟨rfl, N22⟩
                  exact own_retN X22 hx hlk (t := .boolean) hrt (by simp) (hb hby at_85) e22 hq23 (by decide) (by decide)
                · refine own_Fin.step (S' := T22.setTop (mkF m 76 #[.val (.int i0), .val (.int v5), .val (.int (1 : Int32))] [(.int (0 : Int32))])) st22 ?_
                  refine own_Fin.step (S' := T22.setTop (mkF m 77 #[.val (.int i0), .val (.int v5), .val (.int (1 : Int32))] [(.int (1 : Int32)), (.int (0 : Int32))])) (fun t k => XS.iloadN X22.here hx rfl (hb hby at_76) rfl  k) ?_
                  refine own_Fin.step (S' := T22.setTop (mkF m 84 #[.val (.int i0), .val (.int v5), .val (.int (1 : Int32))] [])) (fun t k => XS.icmpYes X22.here hx rfl (pc0 := 77) (pc' := 84) rfl (hb hby at_77) rfl (feq (by decide : ¬ ((0 : Int32) = (1 : Int32)))).2 (by decide) (by decide) k) ?_
                  refine own_Fin.step (S' := T22.setTop (mkF m 85 #[.val (.int i0), .val (.int v5), .val (.int (1 : Int32))] [(.int (0 : Int32))])) (fun t k => XS.iconst X22.here hx rfl (hb hby at_84) k) ?_
                  have hq24 : Q0 Z i0 h0 n0 (some (.int (nar .boolean (0 : Int32)))) h0 _ := ⟨(by exfalso; rw [hc45] at hp73; exact hp73 (by decide)), N22⟩
                  exact own_retN X22 hx hlk (t := .boolean) hrt (by simp) (hb hby at_85) e22 hq24 (by decide) (by decide)
              · refine own_Fin.step (S' := s₁.setTop (mkF m 48 #[.val (.int i0), .val (.int v5), .unset] [])) (fun t k => XS.icmpNo X0.here hx rfl (hb hby at_45) rfl (feq hc45).1 k) ?_
                refine own_Fin.step (S' := s₁.setTop (mkF m 49 #[.val (.int i0), .val (.int v5), .unset] [(.int v5)])) (fun t k => XS.iloadN X0.here hx rfl (hb hby at_48) rfl  k) ?_
                refine own_Fin.step (S' := s₁.setTop (mkF m 51 #[.val (.int i0), .val (.int v5), .unset] [(.int (55 : Int32)), (.int v5)])) (fun t k => XS.bipush X0.here hx rfl (hb hby at_49) k) ?_
                by_cases hc51 : v5 = (55 : Int32)
                · refine own_Fin.step (S' := s₁.setTop (mkF m 66 #[.val (.int i0), .val (.int v5), .unset] [])) (fun t k => XS.icmpYes X0.here hx rfl (pc0 := 51) (pc' := 66) rfl (hb hby at_51) rfl (teq hc51).1 (by decide) (by decide) k) ?_
                  refine own_Fin.step (S' := s₁.setTop (mkF m 67 #[.val (.int i0), .val (.int v5), .unset] [(.int (1 : Int32))])) (fun t k => XS.iconst X0.here hx rfl (hb hby at_66) k) ?_
                  refine own_Fin.step (S' := s₁.setTop (mkF m 71 #[.val (.int i0), .val (.int v5), .unset] [(.int (1 : Int32))])) (fun t k => XS.goto X0.here hx rfl (pc0 := 67) (pc' := 71) rfl (hb hby at_67) (by decide) (by decide) k) ?_
                  refine own_Fin.step (S' := s₁.setTop (mkF m 72 #[.val (.int i0), .val (.int v5), .val (.int (1 : Int32))] [])) (fun t k => XS.istoreN X0.here hx rfl (hb hby at_71) rfl (l' := #[.val (.int i0), .val (.int v5), .val (.int (1 : Int32))]) rfl k) ?_
                  refine own_Fin.step (S' := s₁.setTop (mkF m 73 #[.val (.int i0), .val (.int v5), .val (.int (1 : Int32))] [(.int v5)])) (fun t k => XS.iloadN X0.here hx rfl (hb hby at_72) rfl  k) ?_
                  obtain ⟨_, _, ⟨T25, L25, k25, n25⟩, -, X25, ⟨Lc25, hQ25, l25, y25, zz25⟩, st25⟩ := Jvm.LawKit.callS X0 hx (y := (⟨"com/example/tariff/tariff/Decimals", "isDigit", "(C)Z"⟩ : MethodName)) hown (mvT hZ (hw _ (List.mem_of_getElem? (i := 1) rfl))) (mvT hZ (hw _ (List.mem_of_getElem? (i := 2) rfl))) (mvT hZ (hw _ (List.mem_of_getElem? (i := 3) rfl))) (mvT hZ (hw _ (List.mem_of_getElem? (i := 4) rfl))) (by decide) (backOf (W := 0) (rm1 l Z a0 hw [] v5 h0 n0 (by omega) ) hZ (hw _ (List.mem_of_getElem? (i := 4) rfl)) (hw _ (List.mem_of_getElem? (i := 3) rfl)) (by decide) (by decide)) (g := (mkF m 73 #[.val (.int i0), .val (.int v5), .val (.int (1 : Int32))] [(.int v5)])) rfl (by rw [hml]; rfl) (argsL := [(.int v5)]) (rest := []) (lenOf pd_0_0 rfl) rfl (by show 2 * 0 + _ ≤ _; exact Nat.le_of_eq rfl) (hb hby at_73) (fun _ _ => ⟨rfl, e0, (by decide : 0 + 0 ≤ _), (by decide : 0 + 0 ≤ _)⟩)
                  dsimp only [Pt.U, Pt.locs, Pt.cells, Pt.slots] at X25 l25 y25 zz25 st25 hQ25
                  subst l25 y25 zz25
                  obtain ⟨hvc25, N25q, e25⟩ := hQ25
                  have N25 := Fr.app N0 N25q
                  rcases hvc25 with ⟨rfl, hp73⟩ | ⟨rfl, hp73⟩
                  · refine own_Fin.step (S' := T25.setTop (mkF m 76 #[.val (.int i0), .val (.int v5), .val (.int (1 : Int32))] [(.int (1 : Int32))])) st25 ?_
                    refine own_Fin.step (S' := T25.setTop (mkF m 77 #[.val (.int i0), .val (.int v5), .val (.int (1 : Int32))] [(.int (1 : Int32)), (.int (1 : Int32))])) (fun t k => XS.iloadN X25.here hx rfl (hb hby at_76) rfl  k) ?_
                    refine own_Fin.step (S' := T25.setTop (mkF m 80 #[.val (.int i0), .val (.int v5), .val (.int (1 : Int32))] [])) (fun t k => XS.icmpNo X25.here hx rfl (hb hby at_77) rfl (teq (by decide : ((1 : Int32) = (1 : Int32)))).2 k) ?_
                    refine own_Fin.step (S' := T25.setTop (mkF m 81 #[.val (.int i0), .val (.int v5), .val (.int (1 : Int32))] [(.int (1 : Int32))])) (fun t k => XS.iconst X25.here hx rfl (hb hby at_80) k) ?_
                    refine own_Fin.step (S' := T25.setTop (mkF m 85 #[.val (.int i0), .val (.int v5), .val (.int (1 : Int32))] [(.int (1 : Int32))])) (fun t k => XS.goto X25.here hx rfl (pc0 := 81) (pc' := 85) rfl (hb hby at_81) (by decide) (by decide) k) ?_
                    have hq26 : Q0 Z i0 h0 n0 (some (.int (nar .boolean (1 : Int32)))) h0 _ := ⟨rfl, N25⟩
                    exact own_retN X25 hx hlk (t := .boolean) hrt (by simp) (hb hby at_85) e25 hq26 (by decide) (by decide)
                  · refine own_Fin.step (S' := T25.setTop (mkF m 76 #[.val (.int i0), .val (.int v5), .val (.int (1 : Int32))] [(.int (0 : Int32))])) st25 ?_
                    refine own_Fin.step (S' := T25.setTop (mkF m 77 #[.val (.int i0), .val (.int v5), .val (.int (1 : Int32))] [(.int (1 : Int32)), (.int (0 : Int32))])) (fun t k => XS.iloadN X25.here hx rfl (hb hby at_76) rfl  k) ?_
                    refine own_Fin.step (S' := T25.setTop (mkF m 84 #[.val (.int i0), .val (.int v5), .val (.int (1 : Int32))] [])) (fun t k => XS.icmpYes X25.here hx rfl (pc0 := 77) (pc' := 84) rfl (hb hby at_77) rfl (feq (by decide : ¬ ((0 : Int32) = (1 : Int32)))).2 (by decide) (by decide) k) ?_
                    refine own_Fin.step (S' := T25.setTop (mkF m 85 #[.val (.int i0), .val (.int v5), .val (.int (1 : Int32))] [(.int (0 : Int32))])) (fun t k => XS.iconst X25.here hx rfl (hb hby at_84) k) ?_
                    have hq27 : Q0 Z i0 h0 n0 (some (.int (nar .boolean (0 : Int32)))) h0 _ := ⟨(by exfalso; rw [hc51] at hp73; exact hp73 (by decide)), N25⟩
                    exact own_retN X25 hx hlk (t := .boolean) hrt (by simp) (hb hby at_85) e25 hq27 (by decide) (by decide)
                · refine own_Fin.step (S' := s₁.setTop (mkF m 54 #[.val (.int i0), .val (.int v5), .unset] [])) (fun t k => XS.icmpNo X0.here hx rfl (hb hby at_51) rfl (feq hc51).1 k) ?_
                  refine own_Fin.step (S' := s₁.setTop (mkF m 55 #[.val (.int i0), .val (.int v5), .unset] [(.int v5)])) (fun t k => XS.iloadN X0.here hx rfl (hb hby at_54) rfl  k) ?_
                  refine own_Fin.step (S' := s₁.setTop (mkF m 57 #[.val (.int i0), .val (.int v5), .unset] [(.int (56 : Int32)), (.int v5)])) (fun t k => XS.bipush X0.here hx rfl (hb hby at_55) k) ?_
                  by_cases hc57 : v5 = (56 : Int32)
                  · refine own_Fin.step (S' := s₁.setTop (mkF m 66 #[.val (.int i0), .val (.int v5), .unset] [])) (fun t k => XS.icmpYes X0.here hx rfl (pc0 := 57) (pc' := 66) rfl (hb hby at_57) rfl (teq hc57).1 (by decide) (by decide) k) ?_
                    refine own_Fin.step (S' := s₁.setTop (mkF m 67 #[.val (.int i0), .val (.int v5), .unset] [(.int (1 : Int32))])) (fun t k => XS.iconst X0.here hx rfl (hb hby at_66) k) ?_
                    refine own_Fin.step (S' := s₁.setTop (mkF m 71 #[.val (.int i0), .val (.int v5), .unset] [(.int (1 : Int32))])) (fun t k => XS.goto X0.here hx rfl (pc0 := 67) (pc' := 71) rfl (hb hby at_67) (by decide) (by decide) k) ?_
                    refine own_Fin.step (S' := s₁.setTop (mkF m 72 #[.val (.int i0), .val (.int v5), .val (.int (1 : Int32))] [])) (fun t k => XS.istoreN X0.here hx rfl (hb hby at_71) rfl (l' := #[.val (.int i0), .val (.int v5), .val (.int (1 : Int32))]) rfl k) ?_
                    refine own_Fin.step (S' := s₁.setTop (mkF m 73 #[.val (.int i0), .val (.int v5), .val (.int (1 : Int32))] [(.int v5)])) (fun t k => XS.iloadN X0.here hx rfl (hb hby at_72) rfl  k) ?_
                    obtain ⟨_, _, ⟨T28, L28, k28, n28⟩, -, X28, ⟨Lc28, hQ28, l28, y28, zz28⟩, st28⟩ := Jvm.LawKit.callS X0 hx (y := (⟨"com/example/tariff/tariff/Decimals", "isDigit", "(C)Z"⟩ : MethodName)) hown (mvT hZ (hw _ (List.mem_of_getElem? (i := 1) rfl))) (mvT hZ (hw _ (List.mem_of_getElem? (i := 2) rfl))) (mvT hZ (hw _ (List.mem_of_getElem? (i := 3) rfl))) (mvT hZ (hw _ (List.mem_of_getElem? (i := 4) rfl))) (by decide) (backOf (W := 0) (rm1 l Z a0 hw [] v5 h0 n0 (by omega) ) hZ (hw _ (List.mem_of_getElem? (i := 4) rfl)) (hw _ (List.mem_of_getElem? (i := 3) rfl)) (by decide) (by decide)) (g := (mkF m 73 #[.val (.int i0), .val (.int v5), .val (.int (1 : Int32))] [(.int v5)])) rfl (by rw [hml]; rfl) (argsL := [(.int v5)]) (rest := []) (lenOf pd_0_0 rfl) rfl (by show 2 * 0 + _ ≤ _; exact Nat.le_of_eq rfl) (hb hby at_73) (fun _ _ => ⟨rfl, e0, (by decide : 0 + 0 ≤ _), (by decide : 0 + 0 ≤ _)⟩)
                    dsimp only [Pt.U, Pt.locs, Pt.cells, Pt.slots] at X28 l28 y28 zz28 st28 hQ28
                    subst l28 y28 zz28
                    obtain ⟨hvc28, N28q, e28⟩ := hQ28
                    have N28 := Fr.app N0 N28q
                    rcases hvc28 with ⟨rfl, hp73⟩ | ⟨rfl, hp73⟩
                    · refine own_Fin.step (S' := T28.setTop (mkF m 76 #[.val (.int i0), .val (.int v5), .val (.int (1 : Int32))] [(.int (1 : Int32))])) st28 ?_
                      refine own_Fin.step (S' := T28.setTop (mkF m 77 #[.val (.int i0), .val (.int v5), .val (.int (1 : Int32))] [(.int (1 : Int32)), (.int (1 : Int32))])) (fun t k => XS.iloadN X28.here hx rfl (hb hby at_76) rfl  k) ?_
                      refine own_Fin.step (S' := T28.setTop (mkF m 80 #[.val (.int i0), .val (.int v5), .val (.int (1 : Int32))] [])) (fun t k => XS.icmpNo X28.here hx rfl (hb hby at_77) rfl (teq (by decide : ((1 : Int32) = (1 : Int32)))).2 k) ?_
                      refine own_Fin.step (S' := T28.setTop (mkF m 81 #[.val (.int i0), .val (.int v5), .val (.int (1 : Int32))] [(.int (1 : Int32))])) (fun t k => XS.iconst X28.here hx rfl (hb hby at_80) k) ?_
                      refine own_Fin.step (S' := T28.setTop (mkF m 85 #[.val (.int i0), .val (.int v5), .val (.int (1 : Int32))] [(.int (1 : Int32))])) (fun t k => XS.goto X28.here hx rfl (pc0 := 81) (pc' := 85) rfl (hb hby at_81) (by decide) (by decide) k) ?_
                      have hq29 : Q0 Z i0 h0 n0 (some (.int (nar .boolean (1 : Int32)))) h0 _ := ⟨rfl, N28⟩
                      exact own_retN X28 hx hlk (t := .boolean) hrt (by simp) (hb hby at_85) e28 hq29 (by decide) (by decide)
                    · refine own_Fin.step (S' := T28.setTop (mkF m 76 #[.val (.int i0), .val (.int v5), .val (.int (1 : Int32))] [(.int (0 : Int32))])) st28 ?_
                      refine own_Fin.step (S' := T28.setTop (mkF m 77 #[.val (.int i0), .val (.int v5), .val (.int (1 : Int32))] [(.int (1 : Int32)), (.int (0 : Int32))])) (fun t k => XS.iloadN X28.here hx rfl (hb hby at_76) rfl  k) ?_
                      refine own_Fin.step (S' := T28.setTop (mkF m 84 #[.val (.int i0), .val (.int v5), .val (.int (1 : Int32))] [])) (fun t k => XS.icmpYes X28.here hx rfl (pc0 := 77) (pc' := 84) rfl (hb hby at_77) rfl (feq (by decide : ¬ ((0 : Int32) = (1 : Int32)))).2 (by decide) (by decide) k) ?_
                      refine own_Fin.step (S' := T28.setTop (mkF m 85 #[.val (.int i0), .val (.int v5), .val (.int (1 : Int32))] [(.int (0 : Int32))])) (fun t k => XS.iconst X28.here hx rfl (hb hby at_84) k) ?_
                      have hq30 : Q0 Z i0 h0 n0 (some (.int (nar .boolean (0 : Int32)))) h0 _ := ⟨(by exfalso; rw [hc57] at hp73; exact hp73 (by decide)), N28⟩
                      exact own_retN X28 hx hlk (t := .boolean) hrt (by simp) (hb hby at_85) e28 hq30 (by decide) (by decide)
                  · refine own_Fin.step (S' := s₁.setTop (mkF m 60 #[.val (.int i0), .val (.int v5), .unset] [])) (fun t k => XS.icmpNo X0.here hx rfl (hb hby at_57) rfl (feq hc57).1 k) ?_
                    refine own_Fin.step (S' := s₁.setTop (mkF m 61 #[.val (.int i0), .val (.int v5), .unset] [(.int v5)])) (fun t k => XS.iloadN X0.here hx rfl (hb hby at_60) rfl  k) ?_
                    refine own_Fin.step (S' := s₁.setTop (mkF m 63 #[.val (.int i0), .val (.int v5), .unset] [(.int (57 : Int32)), (.int v5)])) (fun t k => XS.bipush X0.here hx rfl (hb hby at_61) k) ?_
                    by_cases hc63 : v5 = (57 : Int32)
                    · refine own_Fin.step (S' := s₁.setTop (mkF m 66 #[.val (.int i0), .val (.int v5), .unset] [])) (fun t k => XS.icmpNo X0.here hx rfl (hb hby at_63) rfl (teq hc63).2 k) ?_
                      refine own_Fin.step (S' := s₁.setTop (mkF m 67 #[.val (.int i0), .val (.int v5), .unset] [(.int (1 : Int32))])) (fun t k => XS.iconst X0.here hx rfl (hb hby at_66) k) ?_
                      refine own_Fin.step (S' := s₁.setTop (mkF m 71 #[.val (.int i0), .val (.int v5), .unset] [(.int (1 : Int32))])) (fun t k => XS.goto X0.here hx rfl (pc0 := 67) (pc' := 71) rfl (hb hby at_67) (by decide) (by decide) k) ?_
                      refine own_Fin.step (S' := s₁.setTop (mkF m 72 #[.val (.int i0), .val (.int v5), .val (.int (1 : Int32))] [])) (fun t k => XS.istoreN X0.here hx rfl (hb hby at_71) rfl (l' := #[.val (.int i0), .val (.int v5), .val (.int (1 : Int32))]) rfl k) ?_
                      refine own_Fin.step (S' := s₁.setTop (mkF m 73 #[.val (.int i0), .val (.int v5), .val (.int (1 : Int32))] [(.int v5)])) (fun t k => XS.iloadN X0.here hx rfl (hb hby at_72) rfl  k) ?_
                      obtain ⟨_, _, ⟨T31, L31, k31, n31⟩, -, X31, ⟨Lc31, hQ31, l31, y31, zz31⟩, st31⟩ := Jvm.LawKit.callS X0 hx (y := (⟨"com/example/tariff/tariff/Decimals", "isDigit", "(C)Z"⟩ : MethodName)) hown (mvT hZ (hw _ (List.mem_of_getElem? (i := 1) rfl))) (mvT hZ (hw _ (List.mem_of_getElem? (i := 2) rfl))) (mvT hZ (hw _ (List.mem_of_getElem? (i := 3) rfl))) (mvT hZ (hw _ (List.mem_of_getElem? (i := 4) rfl))) (by decide) (backOf (W := 0) (rm1 l Z a0 hw [] v5 h0 n0 (by omega) ) hZ (hw _ (List.mem_of_getElem? (i := 4) rfl)) (hw _ (List.mem_of_getElem? (i := 3) rfl)) (by decide) (by decide)) (g := (mkF m 73 #[.val (.int i0), .val (.int v5), .val (.int (1 : Int32))] [(.int v5)])) rfl (by rw [hml]; rfl) (argsL := [(.int v5)]) (rest := []) (lenOf pd_0_0 rfl) rfl (by show 2 * 0 + _ ≤ _; exact Nat.le_of_eq rfl) (hb hby at_73) (fun _ _ => ⟨rfl, e0, (by decide : 0 + 0 ≤ _), (by decide : 0 + 0 ≤ _)⟩)
                      dsimp only [Pt.U, Pt.locs, Pt.cells, Pt.slots] at X31 l31 y31 zz31 st31 hQ31
                      subst l31 y31 zz31
                      obtain ⟨hvc31, N31q, e31⟩ := hQ31
                      have N31 := Fr.app N0 N31q
                      rcases hvc31 with ⟨rfl, hp73⟩ | ⟨rfl, hp73⟩
                      · refine own_Fin.step (S' := T31.setTop (mkF m 76 #[.val (.int i0), .val (.int v5), .val (.int (1 : Int32))] [(.int (1 : Int32))])) st31 ?_
                        refine own_Fin.step (S' := T31.setTop (mkF m 77 #[.val (.int i0), .val (.int v5), .val (.int (1 : Int32))] [(.int (1 : Int32)), (.int (1 : Int32))])) (fun t k => XS.iloadN X31.here hx rfl (hb hby at_76) rfl  k) ?_
                        refine own_Fin.step (S' := T31.setTop (mkF m 80 #[.val (.int i0), .val (.int v5), .val (.int (1 : Int32))] [])) (fun t k => XS.icmpNo X31.here hx rfl (hb hby at_77) rfl (teq (by decide : ((1 : Int32) = (1 : Int32)))).2 k) ?_
                        refine own_Fin.step (S' := T31.setTop (mkF m 81 #[.val (.int i0), .val (.int v5), .val (.int (1 : Int32))] [(.int (1 : Int32))])) (fun t k => XS.iconst X31.here hx rfl (hb hby at_80) k) ?_
                        refine own_Fin.step (S' := T31.setTop (mkF m 85 #[.val (.int i0), .val (.int v5), .val (.int (1 : Int32))] [(.int (1 : Int32))])) (fun t k => XS.goto X31.here hx rfl (pc0 := 81) (pc' := 85) rfl (hb hby at_81) (by decide) (by decide) k) ?_
                        have hq32 : Q0 Z i0 h0 n0 (some (.int (nar .boolean (1 : Int32)))) h0 _ := ⟨rfl, N31⟩
                        exact own_retN X31 hx hlk (t := .boolean) hrt (by simp) (hb hby at_85) e31 hq32 (by decide) (by decide)
                      · refine own_Fin.step (S' := T31.setTop (mkF m 76 #[.val (.int i0), .val (.int v5), .val (.int (1 : Int32))] [(.int (0 : Int32))])) st31 ?_
                        refine own_Fin.step (S' := T31.setTop (mkF m 77 #[.val (.int i0), .val (.int v5), .val (.int (1 : Int32))] [(.int (1 : Int32)), (.int (0 : Int32))])) (fun t k => XS.iloadN X31.here hx rfl (hb hby at_76) rfl  k) ?_
                        refine own_Fin.step (S' := T31.setTop (mkF m 84 #[.val (.int i0), .val (.int v5), .val (.int (1 : Int32))] [])) (fun t k => XS.icmpYes X31.here hx rfl (pc0 := 77) (pc' := 84) rfl (hb hby at_77) rfl (feq (by decide : ¬ ((0 : Int32) = (1 : Int32)))).2 (by decide) (by decide) k) ?_
                        refine own_Fin.step (S' := T31.setTop (mkF m 85 #[.val (.int i0), .val (.int v5), .val (.int (1 : Int32))] [(.int (0 : Int32))])) (fun t k => XS.iconst X31.here hx rfl (hb hby at_84) k) ?_
                        have hq33 : Q0 Z i0 h0 n0 (some (.int (nar .boolean (0 : Int32)))) h0 _ := ⟨(by exfalso; rw [hc63] at hp73; exact hp73 (by decide)), N31⟩
                        exact own_retN X31 hx hlk (t := .boolean) hrt (by simp) (hb hby at_85) e31 hq33 (by decide) (by decide)
                    · refine own_Fin.step (S' := s₁.setTop (mkF m 70 #[.val (.int i0), .val (.int v5), .unset] [])) (fun t k => XS.icmpYes X0.here hx rfl (pc0 := 63) (pc' := 70) rfl (hb hby at_63) rfl (feq hc63).2 (by decide) (by decide) k) ?_
                      refine own_Fin.step (S' := s₁.setTop (mkF m 71 #[.val (.int i0), .val (.int v5), .unset] [(.int (0 : Int32))])) (fun t k => XS.iconst X0.here hx rfl (hb hby at_70) k) ?_
                      refine own_Fin.step (S' := s₁.setTop (mkF m 72 #[.val (.int i0), .val (.int v5), .val (.int (0 : Int32))] [])) (fun t k => XS.istoreN X0.here hx rfl (hb hby at_71) rfl (l' := #[.val (.int i0), .val (.int v5), .val (.int (0 : Int32))]) rfl k) ?_
                      refine own_Fin.step (S' := s₁.setTop (mkF m 73 #[.val (.int i0), .val (.int v5), .val (.int (0 : Int32))] [(.int v5)])) (fun t k => XS.iloadN X0.here hx rfl (hb hby at_72) rfl  k) ?_
                      obtain ⟨_, _, ⟨T34, L34, k34, n34⟩, -, X34, ⟨Lc34, hQ34, l34, y34, zz34⟩, st34⟩ := Jvm.LawKit.callS X0 hx (y := (⟨"com/example/tariff/tariff/Decimals", "isDigit", "(C)Z"⟩ : MethodName)) hown (mvT hZ (hw _ (List.mem_of_getElem? (i := 1) rfl))) (mvT hZ (hw _ (List.mem_of_getElem? (i := 2) rfl))) (mvT hZ (hw _ (List.mem_of_getElem? (i := 3) rfl))) (mvT hZ (hw _ (List.mem_of_getElem? (i := 4) rfl))) (by decide) (backOf (W := 0) (rm1 l Z a0 hw [] v5 h0 n0 (by omega) ) hZ (hw _ (List.mem_of_getElem? (i := 4) rfl)) (hw _ (List.mem_of_getElem? (i := 3) rfl)) (by decide) (by decide)) (g := (mkF m 73 #[.val (.int i0), .val (.int v5), .val (.int (0 : Int32))] [(.int v5)])) rfl (by rw [hml]; rfl) (argsL := [(.int v5)]) (rest := []) (lenOf pd_0_0 rfl) rfl (by show 2 * 0 + _ ≤ _; exact Nat.le_of_eq rfl) (hb hby at_73) (fun _ _ => ⟨rfl, e0, (by decide : 0 + 0 ≤ _), (by decide : 0 + 0 ≤ _)⟩)
                      dsimp only [Pt.U, Pt.locs, Pt.cells, Pt.slots] at X34 l34 y34 zz34 st34 hQ34
                      subst l34 y34 zz34
                      obtain ⟨hvc34, N34q, e34⟩ := hQ34
                      have N34 := Fr.app N0 N34q
                      rcases hvc34 with ⟨rfl, hp73⟩ | ⟨rfl, hp73⟩
                      · refine own_Fin.step (S' := T34.setTop (mkF m 76 #[.val (.int i0), .val (.int v5), .val (.int (0 : Int32))] [(.int (1 : Int32))])) st34 ?_
                        refine own_Fin.step (S' := T34.setTop (mkF m 77 #[.val (.int i0), .val (.int v5), .val (.int (0 : Int32))] [(.int (0 : Int32)), (.int (1 : Int32))])) (fun t k => XS.iloadN X34.here hx rfl (hb hby at_76) rfl  k) ?_
                        refine own_Fin.step (S' := T34.setTop (mkF m 84 #[.val (.int i0), .val (.int v5), .val (.int (0 : Int32))] [])) (fun t k => XS.icmpYes X34.here hx rfl (pc0 := 77) (pc' := 84) rfl (hb hby at_77) rfl (feq (by decide : ¬ ((1 : Int32) = (0 : Int32)))).2 (by decide) (by decide) k) ?_
                        refine own_Fin.step (S' := T34.setTop (mkF m 85 #[.val (.int i0), .val (.int v5), .val (.int (0 : Int32))] [(.int (0 : Int32))])) (fun t k => XS.iconst X34.here hx rfl (hb hby at_84) k) ?_
                        have hq35 : Q0 Z i0 h0 n0 (some (.int (nar .boolean (0 : Int32)))) h0 _ := ⟨(by exfalso; have hd := own_dig hp73.1 hp73.2; simp [hc9, hc15, hc21, hc27, hc33, hc39, hc45, hc51, hc57, hc63] at hd), N34⟩
                        exact own_retN X34 hx hlk (t := .boolean) hrt (by simp) (hb hby at_85) e34 hq35 (by decide) (by decide)
                      · refine own_Fin.step (S' := T34.setTop (mkF m 76 #[.val (.int i0), .val (.int v5), .val (.int (0 : Int32))] [(.int (0 : Int32))])) st34 ?_
                        refine own_Fin.step (S' := T34.setTop (mkF m 77 #[.val (.int i0), .val (.int v5), .val (.int (0 : Int32))] [(.int (0 : Int32)), (.int (0 : Int32))])) (fun t k => XS.iloadN X34.here hx rfl (hb hby at_76) rfl  k) ?_
                        refine own_Fin.step (S' := T34.setTop (mkF m 80 #[.val (.int i0), .val (.int v5), .val (.int (0 : Int32))] [])) (fun t k => XS.icmpNo X34.here hx rfl (hb hby at_77) rfl (teq (by decide : ((0 : Int32) = (0 : Int32)))).2 k) ?_
                        refine own_Fin.step (S' := T34.setTop (mkF m 81 #[.val (.int i0), .val (.int v5), .val (.int (0 : Int32))] [(.int (1 : Int32))])) (fun t k => XS.iconst X34.here hx rfl (hb hby at_80) k) ?_
                        refine own_Fin.step (S' := T34.setTop (mkF m 85 #[.val (.int i0), .val (.int v5), .val (.int (0 : Int32))] [(.int (1 : Int32))])) (fun t k => XS.goto X34.here hx rfl (pc0 := 81) (pc' := 85) rfl (hb hby at_81) (by decide) (by decide) k) ?_
                        have hq36 : Q0 Z i0 h0 n0 (some (.int (nar .boolean (1 : Int32)))) h0 _ := ⟨rfl, N34⟩
                        exact own_retN X34 hx hlk (t := .boolean) hrt (by simp) (hb hby at_85) e34 hq36 (by decide) (by decide)
set_option maxRecDepth 65536 in
set_option maxHeartbeats 40000000 in
theorem comes_1 {Post : Tables → Env → Array Value → State → Outcome → State → Prop} (hpost : ∀ tb e args s v u, (limb_1_1.after args s (.returned v) u = true ∧ limb_1_2.after args s (.returned v) u = true ∧ True) → FrameEnd s (.returned v) u (Jvm.fieldLocs frame_1_writes args s ++ Jvm.arrayLocs frame_1_arrays args s ++ Jvm.staticLocs frame_1_statics s) 0 0 → Post tb e args s (.returned v) u) :
    ArmFor flags0 classFile x code maxLocals ret World_1 tables_1 room_1 Calls_1 rest_1 Pre_1 Post := by
  intro l hfl _ _ p e ha hc hk s m args below hf hA hF happ hP
  obtain ⟨hcalls, hrest, hpre⟩ := hP
  obtain ⟨-, -, -, hnamed, -, -, -, hat⟩ := (Spec.applies_iff hf).mp happ
  obtain ⟨hg, hn⟩ := and_e (Cond.before_iff.mp (show (Jvm.Cond.and given_1 narrow_1).before args s = true from hpre))
  obtain ⟨gg1, gg2⟩ := and_e hg
  obtain ⟨w0, rfl⟩ : ∃ w0 : Value, args = #[w0] := by
    have hs : args.size = 1 := by simpa [Cond.value, given_1] using gg1
    obtain ⟨L⟩ := args
    match L, hs with
    | [w0], _ => exact ⟨w0, rfl⟩
  have hw := fun d (hd : d ∈ tables_1) => atoms_spec (ws := Jvm.Cond.code x code maxLocals ret :: tables_1) hat d (List.mem_cons_of_mem _ hd)
  have hfit : Fit s := fun {y c} hc i hi => by
    obtain ⟨ha, rfl⟩ := Array.getElem?_eq_some_iff.mp hc
    have q := List.all_eq_true.mp ((Array.all_eq_true_iff_forall_mem.mp hF) _ (Array.getElem_mem ha)) i (List.mem_range.mpr hi)
    simpa [Array.getElem?_eq_getElem hi] using q
  obtain ⟨i0, ei0⟩ := is_v gg2
  obtain rfl : w0 = (.int i0) := Option.some.inj ei0
  obtain ⟨n, o, h1, h2, h3, _, L, rfl, ⟨rfl, N⟩, hq⟩ := rm0 l s _ hw tables_1  i0 s.heap s.heap.size (Nat.le_refl _)  p e ha hc hk s m _ below hf ((Spec.applies_iff_loose hf).mp happ).1 ⟨rfl, State.Warmed39.refl s, rfl⟩ trivial
  refine ⟨n, _, h1, h2, h3, hpost _ _ _ _ _ _ ⟨Cond.after_iff.mpr rfl, Cond.after_iff.mpr (eq_i res_at (Term.int_eval (1)) rfl), trivial⟩ ⟨hq.1, hq.2.1, (hq.2.2.sift fun y hy => Or.inr (N y hy)).mono (by decide) (by decide)⟩⟩
theorem main_1_1 : Claimed_1_1 := comes_1 fun _ _ _ _ _ _ h hF => ⟨h.1, hF⟩
theorem main_1_2 : Claimed_1_2 := comes_1 fun _ _ _ _ _ _ h hF => ⟨h.2.1, hF⟩
end Jvm.Pilot.@@N@@
namespace Jvm.Pilot.@@N@@
open Jvm Jvm.ClassFile Sem Op Lib Jvm.Free Jvm.Stand Jvm.Pilot.@@N@@.Jvm.D
/-! MADE BY PROGRAM (witnessworld.py) out of the Statement's table words and the real class files: 9 classes; the members and pool entries that the words name. The judged class is class 1, her method 1. -/
namespace start1
open Jvm.ClassFile
def u (s : String) : CpInfo := .utf8 (stringToUtf16 s)
/-- a pool by its gaps: so many unusable entries, then the entry; so many at the end -/
def gap : Nat → List CpInfo → List CpInfo
  | 0, r => r
  | n + 1, r => .unusable :: gap n r
def poolList (es : List (Nat × CpInfo)) (last : Nat) : List CpInfo := es.foldr (fun e r => gap e.1 (e.2 :: r)) (gap last [])
def pool (es : List (Nat × CpInfo)) (last : Nat) : Array CpInfo := ⟨poolList es last⟩
def fileOf (pool : Array CpInfo) (this : Nat) (attrs : Array Attribute := #[]) (ms : Array MethodInfo := #[]) (fl : Nat := 33) (sup : Nat := 0) (ifs : Array Nat := #[]) (fds : Array FieldInfo := #[]) : ClassFile where
  minorVersion := 0
  majorVersion := 65
  constantPool := pool
  accessFlags := fl
  thisClass := this
  superClass := sup
  interfaces := ifs
  fields := fds
  methods := ms
  attributes := attrs
def plain (name : String) (sup : Option ClassId) : Class where
  name := name
  kind := .ordinary
  loader := none
  accessFlags := 33
  super := sup
  interfaces := #[]
  cf := none
  fields := #[]
  methods := #[]
  instanceTypes := #[]
  staticTypes := #[]
  resolved := #[]
  callSites := []
  init := .initialized
  statics := none
  mirror := none

def pool0 : Array CpInfo := pool [(5, u "<init>"), (0, u "()V"), (1, .class_ 10), (1, u "java/lang/Object")] 113

def k0m0 : Method := { name := "<init>", desc := "()V", sig := { parameters := [], returnType := none }, accessFlags := 1, code := none }
/-- java/lang/Object -/
def k0 : Class := { plain "java/lang/Object" none with
  accessFlags := 33
  interfaces := #[]
  cf := some (fileOf pool0 8 #[] #[{ accessFlags := 1, nameIndex := 5, descriptorIndex := 6, attributes := #[] }] 33 0 #[] #[])
  fields := #[]
  methods := #[k0m0]
  instanceTypes := #[]
  staticTypes := #[]
  resolved := Array.replicate 124 none
  statics := none }

def pool1 : Array CpInfo := pool [(2, .class_ 4), (1, u "java/lang/Object"), (0, u "<init>"), (0, u "()V"), (0, .integer 65535), (0, .methodref 9 10), (0, .class_ 11), (0, .nameAndType 12 13), (0, u "com/example/tariff/tariff/Decimals"), (0, u "isDigit"), (0, u "(C)Z"), (0, .class_ 15), (0, u "com/example/tariff/tariff/DecimalsIsDigitPinLaw"), (2, u "law"), (0, u "(I)Z")] 3

def k1m0 : Method := { name := "<init>", desc := "()V", sig := { parameters := [], returnType := none }, accessFlags := 2, code := none }
def k1c1 : Code := { maxStack := 2, maxLocals := 3, code := code, exceptionTable := #[], attributes := #[] }
def k1m1 : Method := { name := "law", desc := "(I)Z", sig := { parameters := [.int], returnType := some .boolean }, accessFlags := 9, code := some k1c1 }
/-- com/example/tariff/tariff/DecimalsIsDigitPinLaw -/
def k1 : Class := { plain "com/example/tariff/tariff/DecimalsIsDigitPinLaw" (some 0) with
  accessFlags := 49
  interfaces := #[]
  cf := some (fileOf pool1 14 #[] #[{ accessFlags := 2, nameIndex := 5, descriptorIndex := 6, attributes := #[] }, { accessFlags := 9, nameIndex := 18, descriptorIndex := 19, attributes := #[] }] 49 2 #[] #[])
  fields := #[]
  methods := #[k1m0, k1m1]
  instanceTypes := #[]
  staticTypes := #[]
  resolved := Array.replicate 23 none
  statics := none }

def pool2 : Array CpInfo := pool [(2, .class_ 4), (1, u "java/lang/Object"), (0, u "<init>"), (0, u "()V"), (1, .class_ 10), (1, u "com/example/tariff/tariff/Decimals"), (46, u "isDigit"), (0, u "(C)Z"), (0, u "LONG_DIGITS"), (0, u "I")] 27

def k2m0 : Method := { name := "<init>", desc := "()V", sig := { parameters := [], returnType := none }, accessFlags := 2, code := none }
def k2c1 : Code := { maxStack := 2, maxLocals := 1, code := prog_10_method_5_code, exceptionTable := #[], attributes := #[] }
def k2m1 : Method := { name := "isDigit", desc := "(C)Z", sig := { parameters := [.char], returnType := some .boolean }, accessFlags := 8, code := some k2c1 }
/-- com/example/tariff/tariff/Decimals -/
def k2 : Class := { plain "com/example/tariff/tariff/Decimals" (some 0) with
  accessFlags := 48
  interfaces := #[]
  cf := some (fileOf pool2 8 #[] #[{ accessFlags := 2, nameIndex := 5, descriptorIndex := 6, attributes := #[] }, { accessFlags := 8, nameIndex := 57, descriptorIndex := 58, attributes := #[] }] 48 2 #[] #[{ accessFlags := 26, nameIndex := 59, descriptorIndex := 60, attributes := #[] }])
  fields := #[{ name := "LONG_DIGITS", type := .int, accessFlags := 26, slot := 0, constantValue := 0 }]
  methods := #[k2m0, k2m1]
  instanceTypes := #[]
  staticTypes := #[.int]
  resolved := Array.replicate 88 none
  statics := none }

def pool3 : Array CpInfo := pool [(1, u "java/lang/Cloneable"), (0, .class_ 1), (0, u "java/lang/Object"), (0, .class_ 3)] 3

/-- java/lang/Cloneable -/
def k3 : Class := { plain "java/lang/Cloneable" (some 0) with
  accessFlags := 1537
  interfaces := #[]
  cf := some (fileOf pool3 2 #[] #[] 1537 4 #[] #[])
  fields := #[]
  methods := #[]
  instanceTypes := #[]
  staticTypes := #[]
  resolved := Array.replicate 8 none
  statics := none }

def pool4 : Array CpInfo := pool [(1, u "java/io/Serializable"), (0, .class_ 1), (0, u "java/lang/Object"), (0, .class_ 3)] 3

/-- java/io/Serializable -/
def k4 : Class := { plain "java/io/Serializable" (some 0) with
  accessFlags := 1537
  interfaces := #[]
  cf := some (fileOf pool4 2 #[] #[] 1537 4 #[] #[])
  fields := #[]
  methods := #[]
  instanceTypes := #[]
  staticTypes := #[]
  resolved := Array.replicate 8 none
  statics := none }

/-- the primitive byte -/
def k5 : Class := { plain "byte" none with kind := .primitive 'B', accessFlags := 0x411 }
/-- [B -/
def k6 : Class := { plain "[B" (some 0) with kind := .array 5 .byte, interfaces := #[3, 4], accessFlags := 1041 }

/-- the primitive int -/
def k7 : Class := { plain "int" none with kind := .primitive 'I', accessFlags := 0x411 }
/-- [I -/
def k8 : Class := { plain "[I" (some 0) with kind := .array 7 .int, interfaces := #[3, 4], accessFlags := 1041 }

def heap : Heap := #[]
def classes : Array Class := #[k0, k1, k2, k3, k4, k5, k6, k7, k8]
def interned : List (Array UInt16 × Addr) := []
def slotsUsed : Nat := 0
def theMethod : MethodId := ⟨1, 1⟩
def args0 : Array Value := #[.int 5]
def aboutOver (below : List Frame) : State where
  vm := { classes := classes, interned := interned.toArray }
  heap := heap
  slotsUsed := slotsUsed
  threads := #[{ frames := .invoking theMethod args0 :: below }]
def below0 : List Frame := [.native { method := ⟨0, 0⟩, args := #[] }]
def about1 : State := aboutOver below0
def p0 : Program := .bare "" "" ""
def e0 : Env := launch0.env 0 0 0
theorem w_frames : about1.frames = Frame.invoking theMethod args0 :: below0 := rfl
set_option maxRecDepth 65536 in
theorem w_args : argsFit about1.vm theMethod args0 = true := by decide +kernel
set_option maxRecDepth 65536 in
theorem w_heap : heapFits about1 = true := by decide +kernel
set_option maxRecDepth 65536 in
theorem w_runnable : about1.curStatus? = some .runnable := by decide +kernel
set_option maxRecDepth 65536 in
theorem w_alone : about1.alone = true := by decide +kernel
set_option maxRecDepth 65536 in
theorem w_named : about1.methodNamed? x = some theMethod := by decide +kernel
set_option maxRecDepth 65536 in
theorem w_hears : about1.hears theMethod below0 = true := by decide +kernel
set_option maxRecDepth 65536 in
theorem w_ripe : about1.ripe theMethod args0 below0 = true := by decide +kernel
theorem w_running : about1.status = .running := rfl
set_option maxRecDepth 65536 in
theorem w_room : about1.hasRoom e0.platform room_1 = true :=
  launch0.hasRoom_least _ room_1 (by decide +kernel) (by decide +kernel) (by decide +kernel) (by decide +kernel) (by decide +kernel) (by decide +kernel)
theorem allAtoms_all (ts : List Jvm.Cond) (a : Array Jvm.Value) (st : Jvm.State) : (allAtoms ts).before a st = ts.all (fun c => c.before a st) := by
  induction ts with
  | nil => rfl
  | cons c t ih =>
    show (Jvm.Cond.and c (allAtoms t)).before a st = _
    rw [Jvm.Cond.before_and, ih, List.all_cons]
def words1 : List Jvm.Cond := Jvm.Cond.code x code maxLocals ret :: tables_1
/-- a 'code' word, met by the world's own term for the bytes: nothing is compared byte by byte -/
theorem code_word {y : MethodName} {bytes : ByteArray} {mx : Nat} {rt : Option FieldType} {a : Array Value} {s : State} {m : MethodId} {meth : Method} {c : Code} (h1 : s.methodNamed? y = some m) (h2 : s.vm.method? m = some meth) (h3 : meth.code = some c) (h4 : c.code = bytes)
    (h5 : (c.maxLocals == mx && c.exceptionTable.isEmpty && decide (c.maxStack ≤ mostOperands) && decide (meth.sig.returnType = rt) && !meth.locks && decide (parseMethodDescriptor y.desc = some meth.sig)) = true) : (Jvm.Cond.code y bytes mx rt).before a s = true := by
  simp only [Bool.and_eq_true, beq_iff_eq, Bool.not_eq_true', decide_eq_true_eq] at h5
  obtain ⟨⟨⟨⟨⟨g1, g2⟩, g3⟩, g4⟩, g5⟩, g6⟩ := h5
  simp [Cond.before, Cond.holds, Cond.value, h1, h2, h3, h4, g1, g2, g3, g4, g5, g6]
def isCode : Jvm.Cond → Bool
  | .code _ _ _ _ => true
  | _ => false
theorem all_split {L : List Jvm.Cond} {P : Jvm.Cond → Bool} (h1 : L.all (fun c => isCode c || P c) = true) (h2 : ∀ c ∈ L.filter isCode, P c = true) : L.all P = true := by
  refine List.all_eq_true.mpr fun c hc => ?_
  have h := List.all_eq_true.mp h1 c hc
  rcases Bool.eq_false_or_eq_true (isCode c) with hi | hi
  · exact h2 c (List.mem_filter.mpr ⟨hc, hi⟩)
  · simpa [hi] using h
set_option maxRecDepth 65536 in
theorem w_c0 : (Jvm.Cond.code x code maxLocals ret).before args0 about1 = true := code_word (m := ⟨1, 1⟩) (meth := k1m1) (c := k1c1) (by decide +kernel) rfl rfl rfl (by decide +kernel)
set_option maxRecDepth 65536 in
theorem w_c1 : (Jvm.Cond.code ({ cls := "com/example/tariff/tariff/Decimals", name := "isDigit", desc := "(C)Z" } : Jvm.MethodName) prog_10_method_5_code (1 : Nat) (Option.some Jvm.ClassFile.FieldType.boolean)).before args0 about1 = true := code_word (m := ⟨2, 1⟩) (meth := k2m1) (c := k2c1) (by decide +kernel) rfl rfl rfl (by decide +kernel)
def codes1 : List Jvm.Cond := [Jvm.Cond.code x code maxLocals ret, Jvm.Cond.code ({ cls := "com/example/tariff/tariff/Decimals", name := "isDigit", desc := "(C)Z" } : Jvm.MethodName) prog_10_method_5_code (1 : Nat) (Option.some Jvm.ClassFile.FieldType.boolean)]
set_option maxRecDepth 65536 in
theorem codes_eq : words1.filter isCode = codes1 := rfl
theorem w_codes : ∀ c ∈ words1.filter isCode, c.before args0 about1 = true := by
  rw [codes_eq]
  intro c hc
  simp only [codes1, List.mem_cons, List.not_mem_nil, or_false] at hc
  rcases hc with rfl | rfl
  · exact w_c0
  · exact w_c1
set_option maxRecDepth 65536 in
theorem w_t1 : words1.all (fun c => isCode c || c.before args0 about1) = true := by decide +kernel
theorem w_tables : (allAtoms (Jvm.Cond.code x code maxLocals ret :: tables_1)).before args0 about1 = true := by
  rw [allAtoms_all]
  show words1.all (fun c => c.before args0 about1) = true
  refine all_split ?_ w_codes
  rw [w_t1]
set_option maxRecDepth 65536 in
theorem w_case : (Jvm.Cond.and given_1 narrow_1).before args0 about1 = true := by decide +kernel
theorem w_applies : (headSpec (Jvm.Cond.code x code maxLocals ret :: tables_1) room_1).applies x e0.platform about1 = true :=
  (Spec.applies_iff w_frames).mpr ⟨w_running, w_runnable, w_alone, w_named, w_hears, w_ripe, w_room, w_tables⟩
theorem atStart : AtStart classFile x code maxLocals ret World_1 tables_1 room_1 Calls_1 rest_1 Pre_1 launch0 p0 e0 about1 theMethod args0 below0 :=
  ⟨lists_1, trivial, launch0.admits_env _ _ _, launch0.least_env, fairChoices_fair.cas, fairChoices_fair.clock, w_frames, w_args, w_heap, w_applies, trivial, trivial, w_case⟩
end start1
theorem witness_1 : WitnessClaimed_1 := ⟨start1.p0, start1.e0, start1.about1, start1.theMethod, start1.args0, start1.below0, start1.atStart⟩
end Jvm.Pilot.@@N@@
