import JvmDerived
import JvmDerived.Pilot.@@N@@Statement
import JvmDerived.Pilot.@@N@@Code
set_option linter.unusedVariables false
set_option linter.unusedSimpArgs false
namespace Jvm.RoadKit
open Sem ClassFile Op Lib Jvm.Stand Jvm.Free Jvm.LawKit
/-- the run from S comes to an end that Post allows -/
def own_Fin (tb : Tables) (e : Env) (below : List Frame) (Post : Outcome → State → Prop) (S : State) : Prop := ∃ s₂ o, Steps tb e below S s₂ ∧ s₂.status = .running ∧ Ended s₂ below o ∧ Post o s₂
def own_post (Q : Option Value → Heap → List Loc → Prop) (s : State) (k n : Nat) (o : Outcome) (U : State) : Prop := ∃ v L, o = .returned v ∧ Q v U.heap L ∧ FrameEnd s o U L k n
def own_bool (P : Prop) (v : Option Value) : Prop := (v = some (.int 1) ∧ P) ∨ (v = some (.int 0) ∧ ¬ P)
theorem own_Fin.step {tb : Tables} {e : Env} {below : List Frame} {Post : Outcome → State → Prop} {S S' : State} (h : ∀ t, Steps tb e below S' t → Steps tb e below S t) (k : own_Fin tb e below Post S') : own_Fin tb e below Post S := by
  obtain ⟨s2, o, h1, h2⟩ := k
  exact ⟨s2, o, h _ h1, h2⟩
theorem own_Fin.trans {tb : Tables} {e : Env} {below : List Frame} {Post : Outcome → State → Prop} {S S' : State} (h : Steps tb e below S S') (k : own_Fin tb e below Post S') : own_Fin tb e below Post S := by
  obtain ⟨s2, o, h1, h2⟩ := k
  exact ⟨s2, o, h.trans h1, h2⟩
section New
variable {p : Program} {l : Launch} {e : Env} {R : Room} {s : State} {m : MethodId} {args : Array Value} {below : List Frame} {meth : Method} {c : Code} {T : State} {locs : List Loc} {cells slots : Nat} {Q : Option Value → Heap → List Loc → Prop} {kc ks : Nat} {h : Heap}
theorem retI (X : Stand p l e R s m args below meth c T locs cells slots) (hx : p.tables.exec = Jvm.exec) {pc : Nat} {Ls : Array Slot} {z : Int32} {rest : List Value} (hret : meth.sig.returnType = some .int) (hd : decode c.code pc = .ok (.ireturn, 1)) {fs : List Frame}
    (hl : ∀ (f : JFrame) (acts : List Action), f.method = m → f.locked = none → f.entered = [] → (doReturn e (T.setTop f) acts (some (.int z))).1 = T.setFrames fs) : Steps p.tables e below (T.setTop (mkF m pc Ls (.int z :: rest))) (T.setFrames fs) := by
  have hm' : T.vm.method? m = some meth := X.method'
  have hn : narrow .int (.int z) = .int z := rfl
  show Steps p.tables e below (T.setTop { method := m, pc := pc, locals := Ls, stack := _ :: rest, locked := none }) _
  jvm_step X.here [X.here.top, hx, hd, hm', hret, hn]
  first | (intro acts; rw [hl _ acts rfl rfl rfl]) | rw [hl _ _ rfl rfl rfl]
  exact Steps.refl _
theorem own_retN (X : Stand p l e R s m args below meth c T locs cells slots) (hx : p.tables.exec = Jvm.exec) (hlk : meth.locks = false) {pc : Nat} {Ls : Array Slot} {z : Int32} {t : FieldType} {rest : List Value} (hret : meth.sig.returnType = some t) (ht : t = .boolean ∨ t = .byte ∨ t = .char ∨ t = .short)
    (hd : decode c.code pc = .ok (.ireturn, 1)) (eT : T.heap = h) (hq : Q (some (.int (nar t z))) h locs) (hc : cells ≤ kc) (hs : slots ≤ ks) : own_Fin p.tables e below (own_post Q s kc ks) (T.setTop (mkF m pc Ls (.int z :: rest))) := by
  obtain ⟨fs, hr, hrun, hended, hW, hsame⟩ := X.leave (v := some (.int (nar t z))) (fun h => by rw [hret] at h; cases h) hlk
  exact ⟨_, _, retN X hx hret ht hd hr, hrun, hended, _, _, rfl, (eT ▸ hq : Q (some (.int (nar t z))) T.heap locs), ⟨_, rfl⟩, hW, hsame.mono hc hs⟩
theorem own_retI (X : Stand p l e R s m args below meth c T locs cells slots) (hx : p.tables.exec = Jvm.exec) (hlk : meth.locks = false) {pc : Nat} {Ls : Array Slot} {z : Int32} {rest : List Value} (hret : meth.sig.returnType = some .int)
    (hd : decode c.code pc = .ok (.ireturn, 1)) (eT : T.heap = h) (hq : Q (some (.int z)) h locs) (hc : cells ≤ kc) (hs : slots ≤ ks) : own_Fin p.tables e below (own_post Q s kc ks) (T.setTop (mkF m pc Ls (.int z :: rest))) := by
  obtain ⟨fs, hr, hrun, hended, hW, hsame⟩ := X.leave (v := some (.int z)) (fun h => by rw [hret] at h; cases h) hlk
  exact ⟨_, _, retI X hx hret hd hr, hrun, hended, _, _, rfl, (eT ▸ hq : Q (some (.int z)) T.heap locs), ⟨_, rfl⟩, hW, hsame.mono hc hs⟩
theorem own_retJ (X : Stand p l e R s m args below meth c T locs cells slots) (hx : p.tables.exec = Jvm.exec) (hlk : meth.locks = false) {pc : Nat} {Ls : Array Slot} {z : Int64} (hret : meth.sig.returnType = some .long)
    (hd : decode c.code pc = .ok (.lreturn, 1)) (eT : T.heap = h) (hq : Q (some (.long z)) h locs) (hc : cells ≤ kc) (hs : slots ≤ ks) : own_Fin p.tables e below (own_post Q s kc ks) (T.setTop (mkF m pc Ls [.long z])) := by
  obtain ⟨fs, hr, hrun, hended, hW, hsame⟩ := X.leave (v := some (.long z)) (fun h => by rw [hret] at h; cases h) hlk
  exact ⟨_, _, X.lreturnOut hx hret hd hr, hrun, hended, _, _, rfl, (eT ▸ hq : Q (some (.long z)) T.heap locs), ⟨_, rfl⟩, hW, hsame.mono hc hs⟩
theorem own_retR (X : Stand p l e R s m args below meth c T locs cells slots) (hx : p.tables.exec = Jvm.exec) (hlk : meth.locks = false) {pc : Nat} {Ls : Array Slot} {w : Value} {t : FieldType} (hw : w.isRef = true) (hret : meth.sig.returnType = some t) (ht : t.isReference = true)
    (hd : decode c.code pc = .ok (.areturn, 1)) (eT : T.heap = h) (hq : Q (some w) h locs) (hc : cells ≤ kc) (hs : slots ≤ ks) : own_Fin p.tables e below (own_post Q s kc ks) (T.setTop (mkF m pc Ls [w])) := by
  obtain ⟨fs, hr, hrun, hended, hW, hsame⟩ := X.leave (v := some w) (fun h => by rw [hret] at h; cases h) hlk
  exact ⟨_, _, X.areturnOut hx hw hret ht hd hr, hrun, hended, _, _, rfl, (eT ▸ hq : Q (some w) T.heap locs), ⟨_, rfl⟩, hW, hsame.mono hc hs⟩
theorem own_retV (X : Stand p l e R s m args below meth c T locs cells slots) (hx : p.tables.exec = Jvm.exec) (hlk : meth.locks = false) {pc : Nat} {Ls : Array Slot} (hret : meth.sig.returnType = none)
    (hd : decode c.code pc = .ok (.return_, 1)) (eT : T.heap = h) (hq : Q none h locs) (hc : cells ≤ kc) (hs : slots ≤ ks) : own_Fin p.tables e below (own_post Q s kc ks) (T.setTop (mkF m pc Ls [])) := by
  obtain ⟨fs, hr, hrun, hended, hW, hsame⟩ := X.leave (v := none) (fun _ => rfl) hlk
  exact ⟨_, _, X.returnOut hx hret hd hr, hrun, hended, _, _, rfl, (eT ▸ hq : Q none T.heap locs), ⟨_, rfl⟩, hW, hsame.mono hc hs⟩
theorem own_cat1 {v : Value} (h : v.isRef = true) : v.category = 1 := by cases v <;> simp [Value.isRef, Value.category] at h ⊢
theorem own_fitR {v : Value} {C : String} (h : v.isRef = true) : fits (.object C) v = true := by cases v <;> simp [Value.isRef, fits] at h ⊢
theorem own_fitA {v : Value} {ty : FieldType} (h : v.isRef = true) : fits (.array ty) v = true := by cases v <;> simp [Value.isRef, fits] at h ⊢
theorem own_selPriv {s : State} {args : Array Value} {y : MethodName} {n : Nat} (hi : (Cond.instantiable y.cls n).before args s = true) (hpriv : s.PrivateAt y) (hinst : (Cond.instanceMethod y).before args s = true) (hy : y.cls ≠ "java/lang/invoke/MethodHandle" ∧ y.cls ≠ "java/lang/invoke/VarHandle") : (Cond.selects y.cls y y).before args s = true := by
  obtain ⟨c, k, h1, h2, -, h4, -, -⟩ := Cond.instantiable_spec hi
  have h5 : k.isInterface = false := by
    cases hk : k.isInterface with
    | false => rfl
    | true => simp [hk] at h4
  exact selects_self_of_private h1 h2 h5 hpriv hinst hy
theorem own_eqI {a b : Term} {args : Array Value} {first st : State} {o : Option Outcome} {idx : List Nat} {y : Int32} (h : (Cond.eq a b).value args first o st idx = some true) (hb : b.eval args first o idx st = some (.int y)) : a.eval args first o idx st = some (.int y) := by
  cases ha : a.eval args first o idx st with
  | none => simp [Cond.value, ha] at h
  | some x => cases x <;> simp [Cond.value, ha, hb] at h ⊢ <;> exact h
theorem own_eqR {a b : Term} {args : Array Value} {first st : State} {o : Option Outcome} {idx : List Nat} {y : Addr} (h : (Cond.eq a b).value args first o st idx = some true) (hb : b.eval args first o idx st = some (.ref y)) : a.eval args first o idx st = some (.ref y) := by
  cases ha : a.eval args first o idx st with
  | none => simp [Cond.value, ha] at h
  | some x => cases x <;> simp [Cond.value, ha, hb] at h ⊢ <;> exact h
theorem own_elem {t : Term} {args : Array Value} {Z : State} {a : Addr} {cl : Cell} {ty : FieldType} {j : Int32} {v : Value} (ev : t.eval args Z none [] Z = some (.ref a)) (A : Arr Z Z.heap a cl ty) (h : (Term.elem t (.int j)).eval args Z none [] Z = some v) : cl.slots[j.toNatClampNeg]? = some v := by
  obtain ⟨a', j', cell, e1, e2, e3, -, e5⟩ := Term.elem_spec h
  cases e1.symm.trans ev
  have e6 : some (Value.int j) = some (Value.int j') := e2
  cases e6
  have := IntBox.arrayAt_of A.1 A.2.1 A.2.2
  cases e3.symm.trans this
  exact e5
theorem own_arv {t : Term} {args : Array Value} {Z : State} {a : Addr} {cl : Cell} {ty : FieldType} {z : Int32} {vs : List Value} {dv : Value} (hf : Fit Z) (ev : t.eval args Z none [] Z = some (.ref a)) (A : Arr Z Z.heap a cl ty) (hl : (Term.length t).eval args Z none [] Z = some (.int z)) (hz : ¬ z < 0) (hn : z.toNatClampNeg = vs.length) (H : HasL cl 0 vs) : Arv Z Z.heap a cl.cls ty z vs dv := by
  have hA := IntBox.arrayAt_of A.1 A.2.1 A.2.2
  have hlt : cl.slots.size < 2 ^ 31 := by
    by_cases hq : cl.slots.size < 2 ^ 31
    · exact hq
    · simp [Term.eval, ev, hA, hq] at hl
  have e := len_f (t := t) (args := args) (first := Z) (o := none) (idx := []) ev hA hlt
  have e2 : cl.slots.size.toInt32 = z := by
    have := e.symm.trans hl
    cases this; rfl
  exact Arv.start hf A hlt e2 hz hn H
end New
end Jvm.RoadKit
namespace Jvm.Pilot.@@N@@
open Jvm Jvm.ClassFile Sem Op Lib Jvm.Free Jvm.Stand Jvm.LawKit Jvm.RoadKit Bundle Jvm.Pilot.@@N@@.Jvm.D

def own_mix (z : Int64) : Int64 :=
  let a := ((z ^^^ ((z.toUInt64 >>> ((30 : Int32) &&& 0x3f).toInt64.toUInt64).toInt64)) * (-4658895280553007687 : Int64))
  let b := ((a ^^^ ((a.toUInt64 >>> ((27 : Int32) &&& 0x3f).toInt64.toUInt64).toInt64)) * (-7723592293110705685 : Int64))
  (b ^^^ ((b.toUInt64 >>> ((31 : Int32) &&& 0x3f).toInt64.toUInt64).toInt64))
def own_ni (z : Int64) : Int32 :=
  let a := ((z.toUInt64 >>> ((1 : Int32) &&& 0x3f).toInt64.toUInt64).toInt64)
  ((a - (a / ((1073741824 : Int32).toInt64)) * ((1073741824 : Int32).toInt64)).toInt32)
theorem own_lim {a b : Int64} (h : a = ((9223372036854775807 : Int64) - ((((9223372036854775807 : Int64) - ((9223372036854775807 : Int64) / ((1073741824 : Int32).toInt64)) * ((1073741824 : Int32).toInt64)) + (1 : Int64)) - ((((9223372036854775807 : Int64) - ((9223372036854775807 : Int64) / ((1073741824 : Int32).toInt64)) * ((1073741824 : Int32).toInt64)) + (1 : Int64)) / ((1073741824 : Int32).toInt64)) * ((1073741824 : Int32).toInt64)))) : ¬ a < b := by
  have e : a = 9223372036854775807 := by rw [h]; decide +kernel
  rw [e, Int64.lt_iff_toInt_lt]
  have := rng64 b
  have e2 : (9223372036854775807 : Int64).toInt = 9223372036854775807 := rfl
  omega

theorem d2_0 : decode prog_17_method_7_code 0 = .ok (.lload_n 0, 1) := by decide +kernel
theorem d2_1 : decode prog_17_method_7_code 1 = .ok (.lload_n 0, 1) := by decide +kernel
theorem d2_2 : decode prog_17_method_7_code 2 = .ok (.bipush 30, 2) := by decide +kernel
theorem d2_4 : decode prog_17_method_7_code 4 = .ok (.lushr, 1) := by decide +kernel
theorem d2_5 : decode prog_17_method_7_code 5 = .ok (.lxor, 1) := by decide +kernel
theorem d2_6 : decode prog_17_method_7_code 6 = .ok (.ldc2_w 52, 3) := by decide +kernel
theorem d2_9 : decode prog_17_method_7_code 9 = .ok (.lmul, 1) := by decide +kernel
theorem d2_10 : decode prog_17_method_7_code 10 = .ok (.lstore_n 2, 1) := by decide +kernel
theorem d2_11 : decode prog_17_method_7_code 11 = .ok (.lload_n 2, 1) := by decide +kernel
theorem d2_12 : decode prog_17_method_7_code 12 = .ok (.lload_n 2, 1) := by decide +kernel
theorem d2_13 : decode prog_17_method_7_code 13 = .ok (.bipush 27, 2) := by decide +kernel
theorem d2_15 : decode prog_17_method_7_code 15 = .ok (.lushr, 1) := by decide +kernel
theorem d2_16 : decode prog_17_method_7_code 16 = .ok (.lxor, 1) := by decide +kernel
theorem d2_17 : decode prog_17_method_7_code 17 = .ok (.ldc2_w 54, 3) := by decide +kernel
theorem d2_20 : decode prog_17_method_7_code 20 = .ok (.lmul, 1) := by decide +kernel
theorem d2_21 : decode prog_17_method_7_code 21 = .ok (.lstore_n 2, 1) := by decide +kernel
theorem d2_22 : decode prog_17_method_7_code 22 = .ok (.lload_n 2, 1) := by decide +kernel
theorem d2_23 : decode prog_17_method_7_code 23 = .ok (.lload_n 2, 1) := by decide +kernel
theorem d2_24 : decode prog_17_method_7_code 24 = .ok (.bipush 31, 2) := by decide +kernel
theorem d2_26 : decode prog_17_method_7_code 26 = .ok (.lushr, 1) := by decide +kernel
theorem d2_27 : decode prog_17_method_7_code 27 = .ok (.lxor, 1) := by decide +kernel
theorem d2_28 : decode prog_17_method_7_code 28 = .ok (.lreturn, 1) := by decide +kernel
theorem pn_2 : plainName "com/example/rulebinder/rulebinder/Draws" = true := by first | (simp [plainName, overriddenIn]; done) | decide +kernel
theorem ef_2 (m : MethodId) (x0 : Int64) : entryFrame m #[(.long x0)] 4 = mkF m 0 #[.val (.long x0), .second, .unset, .unset] [] := by first | (simp [entryFrame, mkF, argsToLocals, Value.category]; done) | rfl
def Q2 (Z : State) (q1 : Int64) (h0 : Heap) (n0 : Nat) (v : Option Value) (h : Heap) (L : List Loc) : Prop := v = some (.long (own_mix q1)) ∧ Fr n0 L ∧ h = h0
set_option maxRecDepth 65536 in
set_option maxHeartbeats 40000000 in
theorem rm2 (l : Launch) (Z : State) (a0 : Array Value) (hw : ∀ d ∈ tables_1, d.before a0 Z = true) (ws : List Jvm.Cond) (q1 : Int64) (h0 : Heap) (n0 : Nat) (Z0 : n0 ≤ h0.size)  :
    MetFree l (⟨"com/example/rulebinder/rulebinder/Draws", "mix", "(J)J"⟩ : MethodName) (head1 (Jvm.Cond.code (⟨"com/example/rulebinder/rulebinder/Draws", "mix", "(J)J"⟩ : MethodName) prog_17_method_7_code 4 (some .long) :: ws) ({ frames := 0, cells := 0, slots := 0, locals := 0 } : Room)) (fun a U => a = #[(.long q1)] ∧ Z.Warmed39 U.vm ∧ U.heap = h0) (fun _ _ _ _ _ => True) (fun _ U o U' => ∃ v L, o = .returned v ∧ Q2 Z q1 h0 n0 v U'.heap L ∧ FrameEnd U o U' L ({ frames := 0, cells := 0, slots := 0, locals := 0 } : Room).cells ({ frames := 0, cells := 0, slots := 0, locals := 0 } : Room).slots) := by
  refine MetFree.of_bodySF (plainFor_of_name pn_2) hisR ?_
  intro p e s m args below meth c s₁ Bd hml0 hP hK
  obtain ⟨rfl, hZ, hh⟩ := hP
  have hx := Bd.exec
  have hby := Bd.bytes
  have hml : c.maxLocals = 4 := hml0
  have hown : s.vm.findClass "com/example/rulebinder/rulebinder/Draws" = some m.cls := findClass_of_methodNamed Bd.named
  have hnm := (name_of_methodNamed Bd.named Bd.method).1
  have hlk : meth.locks = false := BodyLoose.notSynchronized Bd
  have hrt := Bd.returns
  have X0 : Stand p l e ({ frames := 0, cells := 0, slots := 0, locals := 0 } : Room) s m #[(.long q1)] below meth c s₁ [] 0 0 := Stand.of_body Bd
  have e0 : s₁.heap = h0 := by rw [← hh, Bd.state]; rfl
  have N0 := Fr.nil n0
  show own_Fin p.tables e below (own_post (Q2 Z q1 h0 n0) s ({ frames := 0, cells := 0, slots := 0, locals := 0 } : Room).cells ({ frames := 0, cells := 0, slots := 0, locals := 0 } : Room).slots) (s₁.setTop (entryFrame m #[(.long q1)] 4))
  refine own_Fin.step (fun t k => castTop (ef_2 m q1) k) ?_
  refine own_Fin.step (S' := s₁.setTop (mkF m 1 #[.val (.long q1), .second, .unset, .unset] [(.long q1)])) (fun t k => XS.lloadN X0.here hx rfl (hb hby d2_0) rfl  k) ?_
  refine own_Fin.step (S' := s₁.setTop (mkF m 2 #[.val (.long q1), .second, .unset, .unset] [(.long q1), (.long q1)])) (fun t k => XS.lloadN X0.here hx rfl (hb hby d2_1) rfl  k) ?_
  refine own_Fin.step (S' := s₁.setTop (mkF m 4 #[.val (.long q1), .second, .unset, .unset] [(.int (30 : Int32)), (.long q1), (.long q1)])) (fun t k => XS.bipush X0.here hx rfl (hb hby d2_2) k) ?_
  refine own_Fin.step (S' := s₁.setTop (mkF m 5 #[.val (.long q1), .second, .unset, .unset] [(.long ((q1.toUInt64 >>> ((30 : Int32) &&& 0x3f).toInt64.toUInt64).toInt64)), (.long q1)])) (fun t k => XS.lushr X0.here hx rfl (hb hby d2_4) rfl k) ?_
  refine own_Fin.step (S' := s₁.setTop (mkF m 6 #[.val (.long q1), .second, .unset, .unset] [(.long (q1 ^^^ ((q1.toUInt64 >>> ((30 : Int32) &&& 0x3f).toInt64.toUInt64).toInt64)))])) (fun t k => XS.lxor X0.here hx rfl (hb hby d2_5) rfl k) ?_
  refine own_Fin.step (S' := s₁.setTop (mkF m 9 #[.val (.long q1), .second, .unset, .unset] [(.long (-4658895280553007687 : Int64)), (.long (q1 ^^^ ((q1.toUInt64 >>> ((30 : Int32) &&& 0x3f).toInt64.toUInt64).toInt64)))])) (X0.ldc2Long hx hown (mvT hZ (hw _ (List.mem_of_getElem? (i := 12) rfl))) (g := (mkF m 6 #[.val (.long q1), .second, .unset, .unset] [(.long (q1 ^^^ ((q1.toUInt64 >>> ((30 : Int32) &&& 0x3f).toInt64.toUInt64).toInt64)))])) rfl (hb hby d2_6)) ?_
  refine own_Fin.step (S' := s₁.setTop (mkF m 10 #[.val (.long q1), .second, .unset, .unset] [(.long ((q1 ^^^ ((q1.toUInt64 >>> ((30 : Int32) &&& 0x3f).toInt64.toUInt64).toInt64)) * (-4658895280553007687 : Int64)))])) (fun t k => XS.lmul X0.here hx rfl (hb hby d2_9) rfl k) ?_
  obtain ⟨v10, hv10⟩ : ∃ z : Int64, z = ((q1 ^^^ ((q1.toUInt64 >>> ((30 : Int32) &&& 0x3f).toInt64.toUInt64).toInt64)) * (-4658895280553007687 : Int64)) := ⟨_, rfl⟩
  rw [← hv10]
  refine own_Fin.step (S' := s₁.setTop (mkF m 11 #[.val (.long q1), .second, .val (.long v10), .second] [])) (fun t k => XS.lstoreN X0.here hx rfl (hb hby d2_10) rfl (l' := #[.val (.long q1), .second, .val (.long v10), .second]) rfl k) ?_
  refine own_Fin.step (S' := s₁.setTop (mkF m 12 #[.val (.long q1), .second, .val (.long v10), .second] [(.long v10)])) (fun t k => XS.lloadN X0.here hx rfl (hb hby d2_11) rfl  k) ?_
  refine own_Fin.step (S' := s₁.setTop (mkF m 13 #[.val (.long q1), .second, .val (.long v10), .second] [(.long v10), (.long v10)])) (fun t k => XS.lloadN X0.here hx rfl (hb hby d2_12) rfl  k) ?_
  refine own_Fin.step (S' := s₁.setTop (mkF m 15 #[.val (.long q1), .second, .val (.long v10), .second] [(.int (27 : Int32)), (.long v10), (.long v10)])) (fun t k => XS.bipush X0.here hx rfl (hb hby d2_13) k) ?_
  refine own_Fin.step (S' := s₁.setTop (mkF m 16 #[.val (.long q1), .second, .val (.long v10), .second] [(.long ((v10.toUInt64 >>> ((27 : Int32) &&& 0x3f).toInt64.toUInt64).toInt64)), (.long v10)])) (fun t k => XS.lushr X0.here hx rfl (hb hby d2_15) rfl k) ?_
  refine own_Fin.step (S' := s₁.setTop (mkF m 17 #[.val (.long q1), .second, .val (.long v10), .second] [(.long (v10 ^^^ ((v10.toUInt64 >>> ((27 : Int32) &&& 0x3f).toInt64.toUInt64).toInt64)))])) (fun t k => XS.lxor X0.here hx rfl (hb hby d2_16) rfl k) ?_
  refine own_Fin.step (S' := s₁.setTop (mkF m 20 #[.val (.long q1), .second, .val (.long v10), .second] [(.long (-7723592293110705685 : Int64)), (.long (v10 ^^^ ((v10.toUInt64 >>> ((27 : Int32) &&& 0x3f).toInt64.toUInt64).toInt64)))])) (X0.ldc2Long hx hown (mvT hZ (hw _ (List.mem_of_getElem? (i := 13) rfl))) (g := (mkF m 17 #[.val (.long q1), .second, .val (.long v10), .second] [(.long (v10 ^^^ ((v10.toUInt64 >>> ((27 : Int32) &&& 0x3f).toInt64.toUInt64).toInt64)))])) rfl (hb hby d2_17)) ?_
  refine own_Fin.step (S' := s₁.setTop (mkF m 21 #[.val (.long q1), .second, .val (.long v10), .second] [(.long ((v10 ^^^ ((v10.toUInt64 >>> ((27 : Int32) &&& 0x3f).toInt64.toUInt64).toInt64)) * (-7723592293110705685 : Int64)))])) (fun t k => XS.lmul X0.here hx rfl (hb hby d2_20) rfl k) ?_
  obtain ⟨v21, hv21⟩ : ∃ z : Int64, z = ((v10 ^^^ ((v10.toUInt64 >>> ((27 : Int32) &&& 0x3f).toInt64.toUInt64).toInt64)) * (-7723592293110705685 : Int64)) := ⟨_, rfl⟩
  rw [← hv21]
  refine own_Fin.step (S' := s₁.setTop (mkF m 22 #[.val (.long q1), .second, .val (.long v21), .second] [])) (fun t k => XS.lstoreN X0.here hx rfl (hb hby d2_21) rfl (l' := #[.val (.long q1), .second, .val (.long v21), .second]) rfl k) ?_
  refine own_Fin.step (S' := s₁.setTop (mkF m 23 #[.val (.long q1), .second, .val (.long v21), .second] [(.long v21)])) (fun t k => XS.lloadN X0.here hx rfl (hb hby d2_22) rfl  k) ?_
  refine own_Fin.step (S' := s₁.setTop (mkF m 24 #[.val (.long q1), .second, .val (.long v21), .second] [(.long v21), (.long v21)])) (fun t k => XS.lloadN X0.here hx rfl (hb hby d2_23) rfl  k) ?_
  refine own_Fin.step (S' := s₁.setTop (mkF m 26 #[.val (.long q1), .second, .val (.long v21), .second] [(.int (31 : Int32)), (.long v21), (.long v21)])) (fun t k => XS.bipush X0.here hx rfl (hb hby d2_24) k) ?_
  refine own_Fin.step (S' := s₁.setTop (mkF m 27 #[.val (.long q1), .second, .val (.long v21), .second] [(.long ((v21.toUInt64 >>> ((31 : Int32) &&& 0x3f).toInt64.toUInt64).toInt64)), (.long v21)])) (fun t k => XS.lushr X0.here hx rfl (hb hby d2_26) rfl k) ?_
  refine own_Fin.step (S' := s₁.setTop (mkF m 28 #[.val (.long q1), .second, .val (.long v21), .second] [(.long (v21 ^^^ ((v21.toUInt64 >>> ((31 : Int32) &&& 0x3f).toInt64.toUInt64).toInt64)))])) (fun t k => XS.lxor X0.here hx rfl (hb hby d2_27) rfl k) ?_
  have hq1 : Q2 Z q1 h0 n0 (some (.long (v21 ^^^ ((v21.toUInt64 >>> ((31 : Int32) &&& 0x3f).toInt64.toUInt64).toInt64)))) h0 _ := ⟨(by subst hv21 hv10; rfl), N0, rfl⟩
  exact own_retJ X0 hx hlk hrt (hb hby d2_28) e0 hq1 (by decide) (by decide)
theorem d3_0 : decode prog_17_method_1_code 0 = .ok (.aload_n 0, 1) := by decide +kernel
theorem d3_1 : decode prog_17_method_1_code 1 = .ok (.invokespecial 1, 3) := by decide +kernel
theorem d3_4 : decode prog_17_method_1_code 4 = .ok (.aload_n 0, 1) := by decide +kernel
theorem d3_5 : decode prog_17_method_1_code 5 = .ok (.lload_n 1, 1) := by decide +kernel
theorem d3_6 : decode prog_17_method_1_code 6 = .ok (.putfield 7, 3) := by decide +kernel
theorem d3_9 : decode prog_17_method_1_code 9 = .ok (.return_, 1) := by decide +kernel
theorem pn_3 : plainName "com/example/rulebinder/rulebinder/Draws" = true := by first | (simp [plainName, overriddenIn]; done) | decide +kernel
theorem ef_3 (m : MethodId) (x0 : Addr) (x1 : Int64) : entryFrame m #[(.ref x0), (.long x1)] 3 = mkF m 0 #[.val (.ref x0), .val (.long x1), .second] [] := by first | (simp [entryFrame, mkF, argsToLocals, Value.category]; done) | rfl
def Q3 (Z : State) (a1 : Addr) (q1 : Int64) (u1 : Value) (h0 : Heap) (n0 : Nat) (v : Option Value) (h : Heap) (L : List Loc) : Prop := v = none ∧ Fr n0 L ∧ Keep h0 h [a1] ∧ Exa Z h a1 "com/example/rulebinder/rulebinder/Draws" ∧ Fld Z h a1 "com/example/rulebinder/rulebinder/Draws" "state" "J" (.long q1)
set_option maxRecDepth 65536 in
set_option maxHeartbeats 40000000 in
theorem rm3 (l : Launch) (Z : State) (a0 : Array Value) (hw : ∀ d ∈ tables_1, d.before a0 Z = true) (ws : List Jvm.Cond) (a1 : Addr) (q1 : Int64) (u1 : Value) (h0 : Heap) (n0 : Nat) (Z0 : n0 ≤ h0.size) (P0 : Exa Z h0 a1 "com/example/rulebinder/rulebinder/Draws") (P1 : Fld Z h0 a1 "com/example/rulebinder/rulebinder/Draws" "state" "J" u1) (g_a1 : n0 ≤ a1) :
    MetFree l (⟨"com/example/rulebinder/rulebinder/Draws", "<init>", "(J)V"⟩ : MethodName) (head1 (Jvm.Cond.code (⟨"com/example/rulebinder/rulebinder/Draws", "<init>", "(J)V"⟩ : MethodName) prog_17_method_1_code 3 none :: ws) ({ frames := 1, cells := 0, slots := 0, locals := 12 } : Room)) (fun a U => a = #[(.ref a1), (.long q1)] ∧ Z.Warmed39 U.vm ∧ U.heap = h0) (fun _ _ _ _ _ => True) (fun _ U o U' => ∃ v L, o = .returned v ∧ Q3 Z a1 q1 u1 h0 n0 v U'.heap L ∧ FrameEnd U o U' L ({ frames := 1, cells := 0, slots := 0, locals := 12 } : Room).cells ({ frames := 1, cells := 0, slots := 0, locals := 12 } : Room).slots) := by
  refine MetFree.of_bodySF (plainFor_of_name pn_3) hisR ?_
  intro p e s m args below meth c s₁ Bd hml0 hP hK
  obtain ⟨rfl, hZ, hh⟩ := hP
  have hx := Bd.exec
  have hby := Bd.bytes
  have hml : c.maxLocals = 3 := hml0
  have hown : s.vm.findClass "com/example/rulebinder/rulebinder/Draws" = some m.cls := findClass_of_methodNamed Bd.named
  have hnm := (name_of_methodNamed Bd.named Bd.method).1
  have hlk : meth.locks = false := BodyLoose.notSynchronized Bd
  have hrt := Bd.returns
  have X0 : Stand p l e ({ frames := 1, cells := 0, slots := 0, locals := 12 } : Room) s m #[(.ref a1), (.long q1)] below meth c s₁ [] 0 0 := Stand.of_body Bd
  have e0 : s₁.heap = h0 := by rw [← hh, Bd.state]; rfl
  have N0 := Fr.nil n0
  show own_Fin p.tables e below (own_post (Q3 Z a1 q1 u1 h0 n0) s ({ frames := 1, cells := 0, slots := 0, locals := 12 } : Room).cells ({ frames := 1, cells := 0, slots := 0, locals := 12 } : Room).slots) (s₁.setTop (entryFrame m #[(.ref a1), (.long q1)] 3))
  refine own_Fin.step (fun t k => castTop (ef_3 m a1 q1) k) ?_
  have lt_P0 : @LT.lt Nat _ a1 (Array.size h0) := P0.lt
  have lt_P1 : @LT.lt Nat _ a1 (Array.size h0) := P1.lt
  refine own_Fin.step (S' := s₁.setTop (mkF m 1 #[.val (.ref a1), .val (.long q1), .second] [(.ref a1)])) (fun t k => XS.aloadN X0.here hx rfl (hb hby d3_0) rfl rfl  k) ?_
  obtain ⟨T2, X2, e2, st2⟩ := initO X0 hx hZ hown (hw _ (List.mem_of_getElem? (i := 17) rfl)) (hw _ (List.mem_of_getElem? (i := 18) rfl)) (hw _ (List.mem_of_getElem? (i := 19) rfl)) e0 (g := (mkF m 1 #[.val (.ref a1), .val (.long q1), .second] [(.ref a1)])) rfl (by rw [hml]; rfl) rfl (hb hby d3_1) (by decide) (W := 0) (by show 2 * 0 + _ ≤ _; exact Nat.le_of_eq rfl) (by decide)
  refine own_Fin.step (S' := T2.setTop (mkF m 4 #[.val (.ref a1), .val (.long q1), .second] [])) st2 ?_
  refine own_Fin.step (S' := T2.setTop (mkF m 5 #[.val (.ref a1), .val (.long q1), .second] [(.ref a1)])) (fun t k => XS.aloadN X2.here hx rfl (hb hby d3_4) rfl rfl  k) ?_
  refine own_Fin.step (S' := T2.setTop (mkF m 6 #[.val (.ref a1), .val (.long q1), .second] [(.long q1), (.ref a1)])) (fun t k => XS.lloadN X2.here hx rfl (hb hby d3_5) rfl  k) ?_
  obtain ⟨T3, h3, X3, e3, W3, st3⟩ := putF X2 hx hZ hown (host := "") (Or.inl (hw _ (List.mem_of_getElem? (i := 20) rfl))) Via.refl e2 P1 P0 (Or.inl (hw _ (List.mem_of_getElem? (i := 21) rfl))) (hw _ (List.mem_of_getElem? (i := 7) rfl)) (ty := .long) (by decide) rfl rfl (g := (mkF m 6 #[.val (.ref a1), .val (.long q1), .second] [(.long q1), (.ref a1)])) rfl rfl (hb hby d3_6)
  have F3 := Fld.same W3 P1
  have z3 := W3.size
  have KK3 : Keep h0 h3 [a1] := (Keep.refl h0 [a1]).wr W3 (Or.inl (by simp))
  have N3 := Fr.snoc X3 N0 (by omega)
  refine own_Fin.step (S' := T3.setTop (mkF m 9 #[.val (.ref a1), .val (.long q1), .second] [])) st3 ?_
  have f5 : Exa Z h3 a1 "com/example/rulebinder/rulebinder/Draws" := (Exa.wr W3 P0)
  have hq4 : Q3 Z a1 q1 u1 h0 n0 none h3 _ := ⟨rfl, N3, KK3, f5, F3⟩
  exact own_retV X3 hx hlk hrt (hb hby d3_9) e3 hq4 (by decide) (by decide)
theorem d1_0 : decode prog_17_method_3_code 0 = .ok (.new 8, 3) := by decide +kernel
theorem d1_3 : decode prog_17_method_3_code 3 = .ok (.dup, 1) := by decide +kernel
theorem d1_4 : decode prog_17_method_3_code 4 = .ok (.lload_n 0, 1) := by decide +kernel
theorem d1_5 : decode prog_17_method_3_code 5 = .ok (.iload_n 2, 1) := by decide +kernel
theorem d1_6 : decode prog_17_method_3_code 6 = .ok (.i2l, 1) := by decide +kernel
theorem d1_7 : decode prog_17_method_3_code 7 = .ok (.lconst 1, 1) := by decide +kernel
theorem d1_8 : decode prog_17_method_3_code 8 = .ok (.ladd, 1) := by decide +kernel
theorem d1_9 : decode prog_17_method_3_code 9 = .ok (.ldc2_w 17, 3) := by decide +kernel
theorem d1_12 : decode prog_17_method_3_code 12 = .ok (.lmul, 1) := by decide +kernel
theorem d1_13 : decode prog_17_method_3_code 13 = .ok (.ladd, 1) := by decide +kernel
theorem d1_14 : decode prog_17_method_3_code 14 = .ok (.invokestatic 19, 3) := by decide +kernel
theorem d1_17 : decode prog_17_method_3_code 17 = .ok (.invokespecial 23, 3) := by decide +kernel
theorem d1_20 : decode prog_17_method_3_code 20 = .ok (.areturn, 1) := by decide +kernel
theorem pn_1 : plainName "com/example/rulebinder/rulebinder/Draws" = true := by first | (simp [plainName, overriddenIn]; done) | decide +kernel
theorem pd_1_0 : parseMethodDescriptor "(J)J" = some ⟨[.long], some .long⟩ := by decide +kernel
theorem pd_1_1 : parseMethodDescriptor "(J)V" = some ⟨[.long], none⟩ := by decide +kernel
theorem ef_1 (m : MethodId) (x0 : Int64) (x1 : Int32) : entryFrame m #[(.long x0), (.int x1)] 3 = mkF m 0 #[.val (.long x0), .second, .val (.int x1)] [] := by first | (simp [entryFrame, mkF, argsToLocals, Value.category]; done) | rfl
def Q1 (Z : State) (q1 : Int64) (q2 : Int32) (h0 : Heap) (n0 : Nat) (v : Option Value) (h : Heap) (L : List Loc) : Prop := ∃ ob : Addr, v = some (.ref ob) ∧ Fr n0 L ∧ Keep h0 h [] ∧ Exa Z h ob "com/example/rulebinder/rulebinder/Draws" ∧ Fld Z h ob "com/example/rulebinder/rulebinder/Draws" "state" "J" (.long (own_mix (q1 + ((q2.toInt64) + (1 : Int64)) * (-7046029254386353131 : Int64)))) ∧ (h0.size ≤ ob)
set_option maxRecDepth 65536 in
set_option maxHeartbeats 40000000 in
theorem rm1 (l : Launch) (Z : State) (a0 : Array Value) (hw : ∀ d ∈ tables_1, d.before a0 Z = true) (ws : List Jvm.Cond) (q1 : Int64) (q2 : Int32) (h0 : Heap) (n0 : Nat) (Z0 : n0 ≤ h0.size)  :
    MetFree l (⟨"com/example/rulebinder/rulebinder/Draws", "of", "(JI)Lcom/example/rulebinder/rulebinder/Draws;"⟩ : MethodName) (head1 (Jvm.Cond.code (⟨"com/example/rulebinder/rulebinder/Draws", "of", "(JI)Lcom/example/rulebinder/rulebinder/Draws;"⟩ : MethodName) prog_17_method_3_code 3 (some (.object "com/example/rulebinder/rulebinder/Draws")) :: ws) ({ frames := 2, cells := 1, slots := 1, locals := 27 } : Room)) (fun a U => a = #[(.long q1), (.int q2)] ∧ Z.Warmed39 U.vm ∧ U.heap = h0) (fun _ _ _ _ _ => True) (fun _ U o U' => ∃ v L, o = .returned v ∧ Q1 Z q1 q2 h0 n0 v U'.heap L ∧ FrameEnd U o U' L ({ frames := 2, cells := 1, slots := 1, locals := 27 } : Room).cells ({ frames := 2, cells := 1, slots := 1, locals := 27 } : Room).slots) := by
  refine MetFree.of_bodySF (plainFor_of_name pn_1) hisR ?_
  intro p e s m args below meth c s₁ Bd hml0 hP hK
  obtain ⟨rfl, hZ, hh⟩ := hP
  have hx := Bd.exec
  have hby := Bd.bytes
  have hml : c.maxLocals = 3 := hml0
  have hown : s.vm.findClass "com/example/rulebinder/rulebinder/Draws" = some m.cls := findClass_of_methodNamed Bd.named
  have hnm := (name_of_methodNamed Bd.named Bd.method).1
  have hlk : meth.locks = false := BodyLoose.notSynchronized Bd
  have hrt := Bd.returns
  have X0 : Stand p l e ({ frames := 2, cells := 1, slots := 1, locals := 27 } : Room) s m #[(.long q1), (.int q2)] below meth c s₁ [] 0 0 := Stand.of_body Bd
  have e0 : s₁.heap = h0 := by rw [← hh, Bd.state]; rfl
  have N0 := Fr.nil n0
  show own_Fin p.tables e below (own_post (Q1 Z q1 q2 h0 n0) s ({ frames := 2, cells := 1, slots := 1, locals := 27 } : Room).cells ({ frames := 2, cells := 1, slots := 1, locals := 27 } : Room).slots) (s₁.setTop (entryFrame m #[(.long q1), (.int q2)] 3))
  refine own_Fin.step (fun t k => castTop (ef_1 m q1 q2) k) ?_
  obtain ⟨T6, h6, X6, e6, E6, A6, D6, -, st6⟩ := newO X0 hx hZ hown (hw _ (List.mem_of_getElem? (i := 6) rfl)) (hw _ (List.mem_of_getElem? (i := 7) rfl)) (hw _ (List.mem_of_getElem? (i := 4) rfl)) e0 (g := (mkF m 0 #[.val (.long q1), .second, .val (.int q2)] [])) rfl (hb hby d1_0) (by decide) (by decide)
  obtain ⟨b6, g6⟩ : ∃ z, z = h0.size := ⟨_, rfl⟩
  rw [← g6] at A6 D6 st6
  have ll6 : @LT.lt Nat _ b6 (Array.size h6) := A6.lt
  have KK6 : Keep h0 h6 [] := (Keep.refl h0 []).ext E6
  have z6 := E6.1
  have F7 : Fld Z h6 b6 "com/example/rulebinder/rulebinder/Draws" "state" "J" (.long (0 : Int64)) := D6 (Or.inl (hw _ (List.mem_of_getElem? (i := 21) rfl))) (ty := .long) (by decide)
  refine own_Fin.step (S' := T6.setTop (mkF m 3 #[.val (.long q1), .second, .val (.int q2)] [(.ref b6)])) st6 ?_
  refine own_Fin.step (S' := T6.setTop (mkF m 4 #[.val (.long q1), .second, .val (.int q2)] [(.ref b6), (.ref b6)])) (fun t k => XS.dup X6.here hx rfl (hb hby d1_3) rfl rfl k) ?_
  refine own_Fin.step (S' := T6.setTop (mkF m 5 #[.val (.long q1), .second, .val (.int q2)] [(.long q1), (.ref b6), (.ref b6)])) (fun t k => XS.lloadN X6.here hx rfl (hb hby d1_4) rfl  k) ?_
  refine own_Fin.step (S' := T6.setTop (mkF m 6 #[.val (.long q1), .second, .val (.int q2)] [(.int q2), (.long q1), (.ref b6), (.ref b6)])) (fun t k => XS.iloadN X6.here hx rfl (hb hby d1_5) rfl  k) ?_
  refine own_Fin.step (S' := T6.setTop (mkF m 7 #[.val (.long q1), .second, .val (.int q2)] [(.long (q2.toInt64)), (.long q1), (.ref b6), (.ref b6)])) (fun t k => XS.i2l X6.here hx rfl (hb hby d1_6) rfl k) ?_
  refine own_Fin.step (S' := T6.setTop (mkF m 8 #[.val (.long q1), .second, .val (.int q2)] [(.long (1 : Int64)), (.long (q2.toInt64)), (.long q1), (.ref b6), (.ref b6)])) (fun t k => XS.lconst X6.here hx rfl (hb hby d1_7) k) ?_
  refine own_Fin.step (S' := T6.setTop (mkF m 9 #[.val (.long q1), .second, .val (.int q2)] [(.long ((q2.toInt64) + (1 : Int64))), (.long q1), (.ref b6), (.ref b6)])) (fun t k => XS.ladd X6.here hx rfl (hb hby d1_8) rfl k) ?_
  refine own_Fin.step (S' := T6.setTop (mkF m 12 #[.val (.long q1), .second, .val (.int q2)] [(.long (-7046029254386353131 : Int64)), (.long ((q2.toInt64) + (1 : Int64))), (.long q1), (.ref b6), (.ref b6)])) (X6.ldc2Long hx hown (mvT hZ (hw _ (List.mem_of_getElem? (i := 8) rfl))) (g := (mkF m 9 #[.val (.long q1), .second, .val (.int q2)] [(.long ((q2.toInt64) + (1 : Int64))), (.long q1), (.ref b6), (.ref b6)])) rfl (hb hby d1_9)) ?_
  refine own_Fin.step (S' := T6.setTop (mkF m 13 #[.val (.long q1), .second, .val (.int q2)] [(.long (((q2.toInt64) + (1 : Int64)) * (-7046029254386353131 : Int64))), (.long q1), (.ref b6), (.ref b6)])) (fun t k => XS.lmul X6.here hx rfl (hb hby d1_12) rfl k) ?_
  refine own_Fin.step (S' := T6.setTop (mkF m 14 #[.val (.long q1), .second, .val (.int q2)] [(.long (q1 + (((q2.toInt64) + (1 : Int64)) * (-7046029254386353131 : Int64)))), (.ref b6), (.ref b6)])) (fun t k => XS.ladd X6.here hx rfl (hb hby d1_13) rfl k) ?_
  obtain ⟨_, _, ⟨T8, L8, k8, n8⟩, -, X8, ⟨Lc8, hQ8, l8, y8, zz8⟩, st8⟩ := Jvm.LawKit.callS X6 hx (y := (⟨"com/example/rulebinder/rulebinder/Draws", "mix", "(J)J"⟩ : MethodName)) hown (mvT hZ (hw _ (List.mem_of_getElem? (i := 9) rfl))) (mvT hZ (hw _ (List.mem_of_getElem? (i := 10) rfl))) (mvT hZ (hw _ (List.mem_of_getElem? (i := 4) rfl))) (mvT hZ (hw _ (List.mem_of_getElem? (i := 11) rfl))) (by decide) (backOf (W := 2) (rm2 l Z a0 hw [] (q1 + (((q2.toInt64) + (1 : Int64)) * (-7046029254386353131 : Int64))) h6 n0 (by omega) ) hZ (hw _ (List.mem_of_getElem? (i := 11) rfl)) (hw _ (List.mem_of_getElem? (i := 4) rfl)) (by decide) (by decide)) (g := (mkF m 14 #[.val (.long q1), .second, .val (.int q2)] [(.long (q1 + (((q2.toInt64) + (1 : Int64)) * (-7046029254386353131 : Int64)))), (.ref b6), (.ref b6)])) rfl (by rw [hml]; rfl) (argsL := [(.long (q1 + (((q2.toInt64) + (1 : Int64)) * (-7046029254386353131 : Int64))))]) (rest := [(.ref b6), (.ref b6)]) (lenOf pd_1_0 rfl) rfl (by show 2 * 0 + _ ≤ _; exact Nat.le_of_eq rfl) (hb hby d1_14) (fun _ _ => ⟨rfl, e6, (by decide : 1 + 0 ≤ _), (by decide : 1 + 0 ≤ _)⟩)
  dsimp only [Pt.U, Pt.locs, Pt.cells, Pt.slots] at X8 l8 y8 zz8 st8 hQ8
  subst l8 y8 zz8
  obtain ⟨rfl, N8q, e8⟩ := hQ8
  have N8 := Fr.app N0 N8q
  refine own_Fin.step (S' := T8.setTop (mkF m 17 #[.val (.long q1), .second, .val (.int q2)] [(.long (own_mix (q1 + (((q2.toInt64) + (1 : Int64)) * (-7046029254386353131 : Int64))))), (.ref b6), (.ref b6)])) st8 ?_
  obtain ⟨_, _, ⟨T9, L9, k9, n9⟩, -, X9, ⟨Lc9, hQ9, l9, y9, zz9⟩, st9⟩ := X8.specialBack hx (y := (⟨"com/example/rulebinder/rulebinder/Draws", "<init>", "(J)V"⟩ : MethodName)) rfl hown (mvT hZ (hw _ (List.mem_of_getElem? (i := 14) rfl))) (mvT hZ (hw _ (List.mem_of_getElem? (i := 15) rfl))) (mvT hZ (hw _ (List.mem_of_getElem? (i := 16) rfl))) (by decide) (backOf (W := 1) (rm3 l Z a0 hw [] b6 (own_mix (q1 + (((q2.toInt64) + (1 : Int64)) * (-7046029254386353131 : Int64)))) (.long (0 : Int64)) h6 n0 (by omega) A6 F7 (by omega)) hZ (hw _ (List.mem_of_getElem? (i := 16) rfl)) (hw _ (List.mem_of_getElem? (i := 4) rfl)) (by decide) (by decide)) (g := (mkF m 17 #[.val (.long q1), .second, .val (.int q2)] [(.long (own_mix (q1 + (((q2.toInt64) + (1 : Int64)) * (-7046029254386353131 : Int64))))), (.ref b6), (.ref b6)])) rfl (by rw [hml]; rfl) (Steps.refl _) (a := b6) (argsL := [(.long (own_mix (q1 + (((q2.toInt64) + (1 : Int64)) * (-7046029254386353131 : Int64)))))]) (rest := [(.ref b6)]) (lenOf pd_1_1 rfl) rfl (by show 2 * 0 + _ ≤ _; exact Nat.le_of_eq rfl) (hb hby d1_17) (fun _ _ => ⟨rfl, e8, (by decide : 1 + 0 ≤ _), (by decide : 1 + 0 ≤ _)⟩)
  dsimp only [Pt.U, Pt.locs, Pt.cells, Pt.slots] at X9 l9 y9 zz9 st9 hQ9
  subst l9 y9 zz9
  obtain ⟨rfl, N9q, K9, G9_0, G9_1⟩ := hQ9
  have N9 := Fr.app N8 N9q
  have z9 := K9.1
  have KK9 : Keep h0 T9.heap [] := KK6.trans K9 (allS (Or.inr (by omega)) all0)
  have lt9_0 : @LT.lt Nat _ b6 (Array.size T9.heap) := G9_0.lt
  have lt9_1 : @LT.lt Nat _ b6 (Array.size T9.heap) := G9_1.lt
  refine own_Fin.trans (S' := T9.setTop (mkF m 20 #[.val (.long q1), .second, .val (.int q2)] [(.ref b6)])) st9 ?_
  have hq10 : Q1 Z q1 q2 h0 n0 (some (.ref b6)) T9.heap _ := ⟨b6, rfl, N9, KK9, G9_0, G9_1, (by first | omega | assumption)⟩
  exact own_retR X9 hx hlk (w := (.ref b6)) rfl hrt rfl (hb hby d1_20) rfl hq10 (by decide) (by decide)
theorem d5_0 : decode prog_17_method_2_code 0 = .ok (.lload_n 0, 1) := by decide +kernel
theorem d5_1 : decode prog_17_method_2_code 1 = .ok (.iconst 0, 1) := by decide +kernel
theorem d5_2 : decode prog_17_method_2_code 2 = .ok (.invokestatic 13, 3) := by decide +kernel
theorem d5_5 : decode prog_17_method_2_code 5 = .ok (.areturn, 1) := by decide +kernel
theorem pn_5 : plainName "com/example/rulebinder/rulebinder/Draws" = true := by first | (simp [plainName, overriddenIn]; done) | decide +kernel
theorem pd_5_0 : parseMethodDescriptor "(JI)Lcom/example/rulebinder/rulebinder/Draws;" = some ⟨[.long, .int], some (.object "com/example/rulebinder/rulebinder/Draws")⟩ := by decide +kernel
theorem ef_5 (m : MethodId) (x0 : Int64) : entryFrame m #[(.long x0)] 2 = mkF m 0 #[.val (.long x0), .second] [] := by first | (simp [entryFrame, mkF, argsToLocals, Value.category]; done) | rfl
def Q5 (Z : State) (q1 : Int64) (h0 : Heap) (n0 : Nat) (v : Option Value) (h : Heap) (L : List Loc) : Prop := ∃ ob : Addr, v = some (.ref ob) ∧ Fr n0 L ∧ Keep h0 h [] ∧ Exa Z h ob "com/example/rulebinder/rulebinder/Draws" ∧ Fld Z h ob "com/example/rulebinder/rulebinder/Draws" "state" "J" (.long (own_mix (q1 + (((0 : Int32).toInt64) + (1 : Int64)) * (-7046029254386353131 : Int64)))) ∧ (h0.size ≤ ob)
set_option maxRecDepth 65536 in
set_option maxHeartbeats 40000000 in
theorem rm5 (l : Launch) (Z : State) (a0 : Array Value) (hw : ∀ d ∈ tables_1, d.before a0 Z = true) (ws : List Jvm.Cond) (q1 : Int64) (h0 : Heap) (n0 : Nat) (Z0 : n0 ≤ h0.size)  :
    MetFree l (⟨"com/example/rulebinder/rulebinder/Draws", "of", "(J)Lcom/example/rulebinder/rulebinder/Draws;"⟩ : MethodName) (head1 (Jvm.Cond.code (⟨"com/example/rulebinder/rulebinder/Draws", "of", "(J)Lcom/example/rulebinder/rulebinder/Draws;"⟩ : MethodName) prog_17_method_2_code 2 (some (.object "com/example/rulebinder/rulebinder/Draws")) :: ws) ({ frames := 3, cells := 1, slots := 1, locals := 41 } : Room)) (fun a U => a = #[(.long q1)] ∧ Z.Warmed39 U.vm ∧ U.heap = h0) (fun _ _ _ _ _ => True) (fun _ U o U' => ∃ v L, o = .returned v ∧ Q5 Z q1 h0 n0 v U'.heap L ∧ FrameEnd U o U' L ({ frames := 3, cells := 1, slots := 1, locals := 41 } : Room).cells ({ frames := 3, cells := 1, slots := 1, locals := 41 } : Room).slots) := by
  refine MetFree.of_bodySF (plainFor_of_name pn_5) hisR ?_
  intro p e s m args below meth c s₁ Bd hml0 hP hK
  obtain ⟨rfl, hZ, hh⟩ := hP
  have hx := Bd.exec
  have hby := Bd.bytes
  have hml : c.maxLocals = 2 := hml0
  have hown : s.vm.findClass "com/example/rulebinder/rulebinder/Draws" = some m.cls := findClass_of_methodNamed Bd.named
  have hnm := (name_of_methodNamed Bd.named Bd.method).1
  have hlk : meth.locks = false := BodyLoose.notSynchronized Bd
  have hrt := Bd.returns
  have X0 : Stand p l e ({ frames := 3, cells := 1, slots := 1, locals := 41 } : Room) s m #[(.long q1)] below meth c s₁ [] 0 0 := Stand.of_body Bd
  have e0 : s₁.heap = h0 := by rw [← hh, Bd.state]; rfl
  have N0 := Fr.nil n0
  show own_Fin p.tables e below (own_post (Q5 Z q1 h0 n0) s ({ frames := 3, cells := 1, slots := 1, locals := 41 } : Room).cells ({ frames := 3, cells := 1, slots := 1, locals := 41 } : Room).slots) (s₁.setTop (entryFrame m #[(.long q1)] 2))
  refine own_Fin.step (fun t k => castTop (ef_5 m q1) k) ?_
  refine own_Fin.step (S' := s₁.setTop (mkF m 1 #[.val (.long q1), .second] [(.long q1)])) (fun t k => XS.lloadN X0.here hx rfl (hb hby d5_0) rfl  k) ?_
  refine own_Fin.step (S' := s₁.setTop (mkF m 2 #[.val (.long q1), .second] [(.int (0 : Int32)), (.long q1)])) (fun t k => XS.iconst X0.here hx rfl (hb hby d5_1) k) ?_
  obtain ⟨_, _, ⟨T11, L11, k11, n11⟩, -, X11, ⟨Lc11, hQ11, l11, y11, zz11⟩, st11⟩ := Jvm.LawKit.callS X0 hx (y := (⟨"com/example/rulebinder/rulebinder/Draws", "of", "(JI)Lcom/example/rulebinder/rulebinder/Draws;"⟩ : MethodName)) hown (mvT hZ (hw _ (List.mem_of_getElem? (i := 25) rfl))) (mvT hZ (hw _ (List.mem_of_getElem? (i := 3) rfl))) (mvT hZ (hw _ (List.mem_of_getElem? (i := 4) rfl))) (mvT hZ (hw _ (List.mem_of_getElem? (i := 5) rfl))) (by decide) (backOf (W := 0) (rm1 l Z a0 hw [] q1 (0 : Int32) h0 n0 (by omega) ) hZ (hw _ (List.mem_of_getElem? (i := 5) rfl)) (hw _ (List.mem_of_getElem? (i := 4) rfl)) (by decide) (by decide)) (g := (mkF m 2 #[.val (.long q1), .second] [(.int (0 : Int32)), (.long q1)])) rfl (by rw [hml]; rfl) (argsL := [(.long q1), (.int (0 : Int32))]) (rest := []) (lenOf pd_5_0 rfl) rfl (by show 2 * 0 + _ ≤ _; exact Nat.le_of_eq rfl) (hb hby d5_2) (fun _ _ => ⟨rfl, e0, (by decide : 0 + 1 ≤ _), (by decide : 0 + 1 ≤ _)⟩)
  dsimp only [Pt.U, Pt.locs, Pt.cells, Pt.slots] at X11 l11 y11 zz11 st11 hQ11
  subst l11 y11 zz11
  obtain ⟨ob_11, rfl, N11q, K11, G11_0, G11_1, U11_0⟩ := hQ11
  have N11 := Fr.app N0 N11q
  have z11 := K11.1
  have KK11 : Keep h0 T11.heap [] := (Keep.refl h0 []).trans K11 all0
  have lt11_0 : @LT.lt Nat _ ob_11 (Array.size T11.heap) := G11_0.lt
  have lt11_1 : @LT.lt Nat _ ob_11 (Array.size T11.heap) := G11_1.lt
  refine own_Fin.step (S' := T11.setTop (mkF m 5 #[.val (.long q1), .second] [(.ref ob_11)])) st11 ?_
  have hq12 : Q5 Z q1 h0 n0 (some (.ref ob_11)) T11.heap _ := ⟨ob_11, rfl, N11, KK11, G11_0, G11_1, (by first | omega | assumption)⟩
  exact own_retR X11 hx hlk (w := (.ref ob_11)) rfl hrt rfl (hb hby d5_5) rfl hq12 (by decide) (by decide)
theorem d7_0 : decode prog_17_method_4_code 0 = .ok (.aload_n 0, 1) := by decide +kernel
theorem d7_1 : decode prog_17_method_4_code 1 = .ok (.dup, 1) := by decide +kernel
theorem d7_2 : decode prog_17_method_4_code 2 = .ok (.getfield 7, 3) := by decide +kernel
theorem d7_5 : decode prog_17_method_4_code 5 = .ok (.ldc2_w 17, 3) := by decide +kernel
theorem d7_8 : decode prog_17_method_4_code 8 = .ok (.ladd, 1) := by decide +kernel
theorem d7_9 : decode prog_17_method_4_code 9 = .ok (.putfield 7, 3) := by decide +kernel
theorem d7_12 : decode prog_17_method_4_code 12 = .ok (.aload_n 0, 1) := by decide +kernel
theorem d7_13 : decode prog_17_method_4_code 13 = .ok (.getfield 7, 3) := by decide +kernel
theorem d7_16 : decode prog_17_method_4_code 16 = .ok (.invokestatic 19, 3) := by decide +kernel
theorem d7_19 : decode prog_17_method_4_code 19 = .ok (.lreturn, 1) := by decide +kernel
theorem pn_7 : plainName "com/example/rulebinder/rulebinder/Draws" = true := by first | (simp [plainName, overriddenIn]; done) | decide +kernel
theorem pd_7_0 : parseMethodDescriptor "(J)J" = some ⟨[.long], some .long⟩ := by decide +kernel
theorem ef_7 (m : MethodId) (x0 : Addr) : entryFrame m #[(.ref x0)] 1 = mkF m 0 #[.val (.ref x0)] [] := by first | (simp [entryFrame, mkF, argsToLocals, Value.category]; done) | rfl
def Q7 (Z : State) (a1 : Addr) (q1 : Int64) (h0 : Heap) (n0 : Nat) (v : Option Value) (h : Heap) (L : List Loc) : Prop := v = some (.long (own_mix (q1 + (-7046029254386353131 : Int64)))) ∧ Fr n0 L ∧ Keep h0 h [a1] ∧ Exa Z h a1 "com/example/rulebinder/rulebinder/Draws" ∧ Fld Z h a1 "com/example/rulebinder/rulebinder/Draws" "state" "J" (.long (q1 + (-7046029254386353131 : Int64)))
set_option maxRecDepth 65536 in
set_option maxHeartbeats 40000000 in
theorem rm7 (l : Launch) (Z : State) (a0 : Array Value) (hw : ∀ d ∈ tables_1, d.before a0 Z = true) (ws : List Jvm.Cond) (a1 : Addr) (q1 : Int64) (h0 : Heap) (n0 : Nat) (Z0 : n0 ≤ h0.size) (P0 : Exa Z h0 a1 "com/example/rulebinder/rulebinder/Draws") (P1 : Fld Z h0 a1 "com/example/rulebinder/rulebinder/Draws" "state" "J" (.long q1)) (g_a1 : n0 ≤ a1) :
    MetFree l (⟨"com/example/rulebinder/rulebinder/Draws", "nextLong", "()J"⟩ : MethodName) (head1 (Jvm.Cond.code (⟨"com/example/rulebinder/rulebinder/Draws", "nextLong", "()J"⟩ : MethodName) prog_17_method_4_code 1 (some .long) :: ws) ({ frames := 1, cells := 0, slots := 0, locals := 15 } : Room)) (fun a U => a = #[(.ref a1)] ∧ Z.Warmed39 U.vm ∧ U.heap = h0) (fun _ _ _ _ _ => True) (fun _ U o U' => ∃ v L, o = .returned v ∧ Q7 Z a1 q1 h0 n0 v U'.heap L ∧ FrameEnd U o U' L ({ frames := 1, cells := 0, slots := 0, locals := 15 } : Room).cells ({ frames := 1, cells := 0, slots := 0, locals := 15 } : Room).slots) := by
  refine MetFree.of_bodySF (plainFor_of_name pn_7) hisR ?_
  intro p e s m args below meth c s₁ Bd hml0 hP hK
  obtain ⟨rfl, hZ, hh⟩ := hP
  have hx := Bd.exec
  have hby := Bd.bytes
  have hml : c.maxLocals = 1 := hml0
  have hown : s.vm.findClass "com/example/rulebinder/rulebinder/Draws" = some m.cls := findClass_of_methodNamed Bd.named
  have hnm := (name_of_methodNamed Bd.named Bd.method).1
  have hlk : meth.locks = false := BodyLoose.notSynchronized Bd
  have hrt := Bd.returns
  have X0 : Stand p l e ({ frames := 1, cells := 0, slots := 0, locals := 15 } : Room) s m #[(.ref a1)] below meth c s₁ [] 0 0 := Stand.of_body Bd
  have e0 : s₁.heap = h0 := by rw [← hh, Bd.state]; rfl
  have N0 := Fr.nil n0
  show own_Fin p.tables e below (own_post (Q7 Z a1 q1 h0 n0) s ({ frames := 1, cells := 0, slots := 0, locals := 15 } : Room).cells ({ frames := 1, cells := 0, slots := 0, locals := 15 } : Room).slots) (s₁.setTop (entryFrame m #[(.ref a1)] 1))
  refine own_Fin.step (fun t k => castTop (ef_7 m a1) k) ?_
  have lt_P0 : @LT.lt Nat _ a1 (Array.size h0) := P0.lt
  have lt_P1 : @LT.lt Nat _ a1 (Array.size h0) := P1.lt
  refine own_Fin.step (S' := s₁.setTop (mkF m 1 #[.val (.ref a1)] [(.ref a1)])) (fun t k => XS.aloadN X0.here hx rfl (hb hby d7_0) rfl rfl  k) ?_
  refine own_Fin.step (S' := s₁.setTop (mkF m 2 #[.val (.ref a1)] [(.ref a1), (.ref a1)])) (fun t k => XS.dup X0.here hx rfl (hb hby d7_1) rfl rfl k) ?_
  obtain ⟨T13, X13, e13, st13⟩ := getF X0 hx hZ hown (host := "") (Or.inl (hw _ (List.mem_of_getElem? (i := 20) rfl))) Via.refl e0 P1 (g := (mkF m 2 #[.val (.ref a1)] [(.ref a1), (.ref a1)])) rfl rfl (hb hby d7_2)
  refine own_Fin.step (S' := T13.setTop (mkF m 5 #[.val (.ref a1)] [(.long q1), (.ref a1)])) st13 ?_
  refine own_Fin.step (S' := T13.setTop (mkF m 8 #[.val (.ref a1)] [(.long (-7046029254386353131 : Int64)), (.long q1), (.ref a1)])) (X13.ldc2Long hx hown (mvT hZ (hw _ (List.mem_of_getElem? (i := 8) rfl))) (g := (mkF m 5 #[.val (.ref a1)] [(.long q1), (.ref a1)])) rfl (hb hby d7_5)) ?_
  refine own_Fin.step (S' := T13.setTop (mkF m 9 #[.val (.ref a1)] [(.long (q1 + (-7046029254386353131 : Int64))), (.ref a1)])) (fun t k => XS.ladd X13.here hx rfl (hb hby d7_8) rfl k) ?_
  obtain ⟨T14, h14, X14, e14, W14, st14⟩ := putF X13 hx hZ hown (host := "") (Or.inl (hw _ (List.mem_of_getElem? (i := 20) rfl))) Via.refl e13 P1 P0 (Or.inl (hw _ (List.mem_of_getElem? (i := 21) rfl))) (hw _ (List.mem_of_getElem? (i := 7) rfl)) (ty := .long) (by decide) rfl rfl (g := (mkF m 9 #[.val (.ref a1)] [(.long (q1 + (-7046029254386353131 : Int64))), (.ref a1)])) rfl rfl (hb hby d7_9)
  have F14 := Fld.same W14 P1
  have z14 := W14.size
  have KK14 : Keep h0 h14 [a1] := (Keep.refl h0 [a1]).wr W14 (Or.inl (by simp))
  have N14 := Fr.snoc X14 N0 (by omega)
  refine own_Fin.step (S' := T14.setTop (mkF m 12 #[.val (.ref a1)] [])) st14 ?_
  refine own_Fin.step (S' := T14.setTop (mkF m 13 #[.val (.ref a1)] [(.ref a1)])) (fun t k => XS.aloadN X14.here hx rfl (hb hby d7_12) rfl rfl  k) ?_
  obtain ⟨T15, X15, e15, st15⟩ := getF X14 hx hZ hown (host := "") (Or.inl (hw _ (List.mem_of_getElem? (i := 20) rfl))) Via.refl e14 F14 (g := (mkF m 13 #[.val (.ref a1)] [(.ref a1)])) rfl rfl (hb hby d7_13)
  refine own_Fin.step (S' := T15.setTop (mkF m 16 #[.val (.ref a1)] [(.long (q1 + (-7046029254386353131 : Int64)))])) st15 ?_
  obtain ⟨_, _, ⟨T16, L16, k16, n16⟩, -, X16, ⟨Lc16, hQ16, l16, y16, zz16⟩, st16⟩ := Jvm.LawKit.callS X15 hx (y := (⟨"com/example/rulebinder/rulebinder/Draws", "mix", "(J)J"⟩ : MethodName)) hown (mvT hZ (hw _ (List.mem_of_getElem? (i := 9) rfl))) (mvT hZ (hw _ (List.mem_of_getElem? (i := 10) rfl))) (mvT hZ (hw _ (List.mem_of_getElem? (i := 4) rfl))) (mvT hZ (hw _ (List.mem_of_getElem? (i := 11) rfl))) (by decide) (backOf (W := 0) (rm2 l Z a0 hw [] (q1 + (-7046029254386353131 : Int64)) h14 n0 (by omega) ) hZ (hw _ (List.mem_of_getElem? (i := 11) rfl)) (hw _ (List.mem_of_getElem? (i := 4) rfl)) (by decide) (by decide)) (g := (mkF m 16 #[.val (.ref a1)] [(.long (q1 + (-7046029254386353131 : Int64)))])) rfl (by rw [hml]; rfl) (argsL := [(.long (q1 + (-7046029254386353131 : Int64)))]) (rest := []) (lenOf pd_7_0 rfl) rfl (by show 2 * 0 + _ ≤ _; exact Nat.le_of_eq rfl) (hb hby d7_16) (fun _ _ => ⟨rfl, e15, (by decide : 0 + 0 ≤ _), (by decide : 0 + 0 ≤ _)⟩)
  dsimp only [Pt.U, Pt.locs, Pt.cells, Pt.slots] at X16 l16 y16 zz16 st16 hQ16
  subst l16 y16 zz16
  obtain ⟨rfl, N16q, e16⟩ := hQ16
  have N16 := Fr.app N14 N16q
  refine own_Fin.step (S' := T16.setTop (mkF m 19 #[.val (.ref a1)] [(.long (own_mix (q1 + (-7046029254386353131 : Int64))))])) st16 ?_
  have f18 : Exa Z h14 a1 "com/example/rulebinder/rulebinder/Draws" := (Exa.wr W14 P0)
  have hq17 : Q7 Z a1 q1 h0 n0 (some (.long (own_mix (q1 + (-7046029254386353131 : Int64))))) h14 _ := ⟨rfl, N16, KK14, f18, F14⟩
  exact own_retJ X16 hx hlk hrt (hb hby d7_19) e16 hq17 (by decide) (by decide)
theorem d6_0 : decode prog_17_method_5_code 0 = .ok (.ldc2_w 28, 3) := by decide +kernel
theorem d6_3 : decode prog_17_method_5_code 3 = .ok (.ldc2_w 28, 3) := by decide +kernel
theorem d6_6 : decode prog_17_method_5_code 6 = .ok (.iload_n 1, 1) := by decide +kernel
theorem d6_7 : decode prog_17_method_5_code 7 = .ok (.i2l, 1) := by decide +kernel
theorem d6_8 : decode prog_17_method_5_code 8 = .ok (.lrem, 1) := by decide +kernel
theorem d6_9 : decode prog_17_method_5_code 9 = .ok (.lconst 1, 1) := by decide +kernel
theorem d6_10 : decode prog_17_method_5_code 10 = .ok (.ladd, 1) := by decide +kernel
theorem d6_11 : decode prog_17_method_5_code 11 = .ok (.iload_n 1, 1) := by decide +kernel
theorem d6_12 : decode prog_17_method_5_code 12 = .ok (.i2l, 1) := by decide +kernel
theorem d6_13 : decode prog_17_method_5_code 13 = .ok (.lrem, 1) := by decide +kernel
theorem d6_14 : decode prog_17_method_5_code 14 = .ok (.lsub, 1) := by decide +kernel
theorem d6_15 : decode prog_17_method_5_code 15 = .ok (.lstore_n 2, 1) := by decide +kernel
theorem d6_16 : decode prog_17_method_5_code 16 = .ok (.aload_n 0, 1) := by decide +kernel
theorem d6_17 : decode prog_17_method_5_code 17 = .ok (.invokevirtual 30, 3) := by decide +kernel
theorem d6_20 : decode prog_17_method_5_code 20 = .ok (.iconst 1, 1) := by decide +kernel
theorem d6_21 : decode prog_17_method_5_code 21 = .ok (.lushr, 1) := by decide +kernel
theorem d6_22 : decode prog_17_method_5_code 22 = .ok (.lstore 4, 2) := by decide +kernel
theorem d6_24 : decode prog_17_method_5_code 24 = .ok (.lload 4, 2) := by decide +kernel
theorem d6_26 : decode prog_17_method_5_code 26 = .ok (.lload_n 2, 1) := by decide +kernel
theorem d6_27 : decode prog_17_method_5_code 27 = .ok (.lcmp, 1) := by decide +kernel
theorem d6_28 : decode prog_17_method_5_code 28 = .ok (.ifCond .le 14, 3) := by decide +kernel
theorem d6_42 : decode prog_17_method_5_code 42 = .ok (.lload 4, 2) := by decide +kernel
theorem d6_44 : decode prog_17_method_5_code 44 = .ok (.iload_n 1, 1) := by decide +kernel
theorem d6_45 : decode prog_17_method_5_code 45 = .ok (.i2l, 1) := by decide +kernel
theorem d6_46 : decode prog_17_method_5_code 46 = .ok (.lrem, 1) := by decide +kernel
theorem d6_47 : decode prog_17_method_5_code 47 = .ok (.l2i, 1) := by decide +kernel
theorem d6_48 : decode prog_17_method_5_code 48 = .ok (.ireturn, 1) := by decide +kernel
theorem pn_6 : plainName "com/example/rulebinder/rulebinder/Draws" = true := by first | (simp [plainName, overriddenIn]; done) | decide +kernel
theorem pd_6_0 : parseMethodDescriptor "()J" = some ⟨[], some .long⟩ := by decide +kernel
theorem ef_6 (m : MethodId) (x0 : Addr) (x1 : Int32) : entryFrame m #[(.ref x0), (.int x1)] 6 = mkF m 0 #[.val (.ref x0), .val (.int x1), .unset, .unset, .unset, .unset] [] := by first | (simp [entryFrame, mkF, argsToLocals, Value.category]; done) | rfl
def Q6 (Z : State) (a1 : Addr) (q1 : Int64) (h0 : Heap) (n0 : Nat) (v : Option Value) (h : Heap) (L : List Loc) : Prop := v = some (.int (own_ni (own_mix (q1 + (-7046029254386353131 : Int64))))) ∧ Fr n0 L ∧ Keep h0 h [a1] ∧ Exa Z h a1 "com/example/rulebinder/rulebinder/Draws"
set_option maxRecDepth 65536 in
set_option maxHeartbeats 40000000 in
theorem rm6 (l : Launch) (Z : State) (a0 : Array Value) (hw : ∀ d ∈ tables_1, d.before a0 Z = true) (ws : List Jvm.Cond) (a1 : Addr) (q1 : Int64) (h0 : Heap) (n0 : Nat) (Z0 : n0 ≤ h0.size) (P0 : Exa Z h0 a1 "com/example/rulebinder/rulebinder/Draws") (P1 : Fld Z h0 a1 "com/example/rulebinder/rulebinder/Draws" "state" "J" (.long q1)) (g_a1 : n0 ≤ a1) :
    MetFree l (⟨"com/example/rulebinder/rulebinder/Draws", "nextInt", "(I)I"⟩ : MethodName) (head1 (Jvm.Cond.code (⟨"com/example/rulebinder/rulebinder/Draws", "nextInt", "(I)I"⟩ : MethodName) prog_17_method_5_code 6 (some .int) :: ws) ({ frames := 2, cells := 0, slots := 0, locals := 27 } : Room)) (fun a U => a = #[(.ref a1), (.int (1073741824 : Int32))] ∧ Z.Warmed39 U.vm ∧ U.heap = h0) (fun _ _ _ _ _ => True) (fun _ U o U' => ∃ v L, o = .returned v ∧ Q6 Z a1 q1 h0 n0 v U'.heap L ∧ FrameEnd U o U' L ({ frames := 2, cells := 0, slots := 0, locals := 27 } : Room).cells ({ frames := 2, cells := 0, slots := 0, locals := 27 } : Room).slots) := by
  refine MetFree.of_bodySF (plainFor_of_name pn_6) hisR ?_
  intro p e s m args below meth c s₁ Bd hml0 hP hK
  obtain ⟨rfl, hZ, hh⟩ := hP
  have hx := Bd.exec
  have hby := Bd.bytes
  have hml : c.maxLocals = 6 := hml0
  have hown : s.vm.findClass "com/example/rulebinder/rulebinder/Draws" = some m.cls := findClass_of_methodNamed Bd.named
  have hnm := (name_of_methodNamed Bd.named Bd.method).1
  have hlk : meth.locks = false := BodyLoose.notSynchronized Bd
  have hrt := Bd.returns
  have X0 : Stand p l e ({ frames := 2, cells := 0, slots := 0, locals := 27 } : Room) s m #[(.ref a1), (.int (1073741824 : Int32))] below meth c s₁ [] 0 0 := Stand.of_body Bd
  have e0 : s₁.heap = h0 := by rw [← hh, Bd.state]; rfl
  have N0 := Fr.nil n0
  show own_Fin p.tables e below (own_post (Q6 Z a1 q1 h0 n0) s ({ frames := 2, cells := 0, slots := 0, locals := 27 } : Room).cells ({ frames := 2, cells := 0, slots := 0, locals := 27 } : Room).slots) (s₁.setTop (entryFrame m #[(.ref a1), (.int (1073741824 : Int32))] 6))
  refine own_Fin.step (fun t k => castTop (ef_6 m a1 (1073741824 : Int32)) k) ?_
  have lt_P0 : @LT.lt Nat _ a1 (Array.size h0) := P0.lt
  have lt_P1 : @LT.lt Nat _ a1 (Array.size h0) := P1.lt
  refine own_Fin.step (S' := s₁.setTop (mkF m 3 #[.val (.ref a1), .val (.int (1073741824 : Int32)), .unset, .unset, .unset, .unset] [(.long (9223372036854775807 : Int64))])) (X0.ldc2Long hx hown (mvT hZ (hw _ (List.mem_of_getElem? (i := 31) rfl))) (g := (mkF m 0 #[.val (.ref a1), .val (.int (1073741824 : Int32)), .unset, .unset, .unset, .unset] [])) rfl (hb hby d6_0)) ?_
  refine own_Fin.step (S' := s₁.setTop (mkF m 6 #[.val (.ref a1), .val (.int (1073741824 : Int32)), .unset, .unset, .unset, .unset] [(.long (9223372036854775807 : Int64)), (.long (9223372036854775807 : Int64))])) (X0.ldc2Long hx hown (mvT hZ (hw _ (List.mem_of_getElem? (i := 31) rfl))) (g := (mkF m 3 #[.val (.ref a1), .val (.int (1073741824 : Int32)), .unset, .unset, .unset, .unset] [(.long (9223372036854775807 : Int64))])) rfl (hb hby d6_3)) ?_
  refine own_Fin.step (S' := s₁.setTop (mkF m 7 #[.val (.ref a1), .val (.int (1073741824 : Int32)), .unset, .unset, .unset, .unset] [(.int (1073741824 : Int32)), (.long (9223372036854775807 : Int64)), (.long (9223372036854775807 : Int64))])) (fun t k => XS.iloadN X0.here hx rfl (hb hby d6_6) rfl  k) ?_
  refine own_Fin.step (S' := s₁.setTop (mkF m 8 #[.val (.ref a1), .val (.int (1073741824 : Int32)), .unset, .unset, .unset, .unset] [(.long ((1073741824 : Int32).toInt64)), (.long (9223372036854775807 : Int64)), (.long (9223372036854775807 : Int64))])) (fun t k => XS.i2l X0.here hx rfl (hb hby d6_7) rfl k) ?_
  refine own_Fin.step (S' := s₁.setTop (mkF m 9 #[.val (.ref a1), .val (.int (1073741824 : Int32)), .unset, .unset, .unset, .unset] [(.long ((9223372036854775807 : Int64) - ((9223372036854775807 : Int64) / ((1073741824 : Int32).toInt64)) * ((1073741824 : Int32).toInt64))), (.long (9223372036854775807 : Int64))])) (fun t k => XS.lrem X0.here hx rfl (hb hby d6_8) rfl (by decide) k) ?_
  refine own_Fin.step (S' := s₁.setTop (mkF m 10 #[.val (.ref a1), .val (.int (1073741824 : Int32)), .unset, .unset, .unset, .unset] [(.long (1 : Int64)), (.long ((9223372036854775807 : Int64) - ((9223372036854775807 : Int64) / ((1073741824 : Int32).toInt64)) * ((1073741824 : Int32).toInt64))), (.long (9223372036854775807 : Int64))])) (fun t k => XS.lconst X0.here hx rfl (hb hby d6_9) k) ?_
  refine own_Fin.step (S' := s₁.setTop (mkF m 11 #[.val (.ref a1), .val (.int (1073741824 : Int32)), .unset, .unset, .unset, .unset] [(.long (((9223372036854775807 : Int64) - ((9223372036854775807 : Int64) / ((1073741824 : Int32).toInt64)) * ((1073741824 : Int32).toInt64)) + (1 : Int64))), (.long (9223372036854775807 : Int64))])) (fun t k => XS.ladd X0.here hx rfl (hb hby d6_10) rfl k) ?_
  refine own_Fin.step (S' := s₁.setTop (mkF m 12 #[.val (.ref a1), .val (.int (1073741824 : Int32)), .unset, .unset, .unset, .unset] [(.int (1073741824 : Int32)), (.long (((9223372036854775807 : Int64) - ((9223372036854775807 : Int64) / ((1073741824 : Int32).toInt64)) * ((1073741824 : Int32).toInt64)) + (1 : Int64))), (.long (9223372036854775807 : Int64))])) (fun t k => XS.iloadN X0.here hx rfl (hb hby d6_11) rfl  k) ?_
  refine own_Fin.step (S' := s₁.setTop (mkF m 13 #[.val (.ref a1), .val (.int (1073741824 : Int32)), .unset, .unset, .unset, .unset] [(.long ((1073741824 : Int32).toInt64)), (.long (((9223372036854775807 : Int64) - ((9223372036854775807 : Int64) / ((1073741824 : Int32).toInt64)) * ((1073741824 : Int32).toInt64)) + (1 : Int64))), (.long (9223372036854775807 : Int64))])) (fun t k => XS.i2l X0.here hx rfl (hb hby d6_12) rfl k) ?_
  refine own_Fin.step (S' := s₁.setTop (mkF m 14 #[.val (.ref a1), .val (.int (1073741824 : Int32)), .unset, .unset, .unset, .unset] [(.long ((((9223372036854775807 : Int64) - ((9223372036854775807 : Int64) / ((1073741824 : Int32).toInt64)) * ((1073741824 : Int32).toInt64)) + (1 : Int64)) - ((((9223372036854775807 : Int64) - ((9223372036854775807 : Int64) / ((1073741824 : Int32).toInt64)) * ((1073741824 : Int32).toInt64)) + (1 : Int64)) / ((1073741824 : Int32).toInt64)) * ((1073741824 : Int32).toInt64))), (.long (9223372036854775807 : Int64))])) (fun t k => XS.lrem X0.here hx rfl (hb hby d6_13) rfl (by decide) k) ?_
  refine own_Fin.step (S' := s₁.setTop (mkF m 15 #[.val (.ref a1), .val (.int (1073741824 : Int32)), .unset, .unset, .unset, .unset] [(.long ((9223372036854775807 : Int64) - ((((9223372036854775807 : Int64) - ((9223372036854775807 : Int64) / ((1073741824 : Int32).toInt64)) * ((1073741824 : Int32).toInt64)) + (1 : Int64)) - ((((9223372036854775807 : Int64) - ((9223372036854775807 : Int64) / ((1073741824 : Int32).toInt64)) * ((1073741824 : Int32).toInt64)) + (1 : Int64)) / ((1073741824 : Int32).toInt64)) * ((1073741824 : Int32).toInt64))))])) (fun t k => XS.lsub X0.here hx rfl (hb hby d6_14) rfl k) ?_
  obtain ⟨v15, hv15⟩ : ∃ z : Int64, z = ((9223372036854775807 : Int64) - ((((9223372036854775807 : Int64) - ((9223372036854775807 : Int64) / ((1073741824 : Int32).toInt64)) * ((1073741824 : Int32).toInt64)) + (1 : Int64)) - ((((9223372036854775807 : Int64) - ((9223372036854775807 : Int64) / ((1073741824 : Int32).toInt64)) * ((1073741824 : Int32).toInt64)) + (1 : Int64)) / ((1073741824 : Int32).toInt64)) * ((1073741824 : Int32).toInt64))) := ⟨_, rfl⟩
  rw [← hv15]
  refine own_Fin.step (S' := s₁.setTop (mkF m 16 #[.val (.ref a1), .val (.int (1073741824 : Int32)), .val (.long v15), .second, .unset, .unset] [])) (fun t k => XS.lstoreN X0.here hx rfl (hb hby d6_15) rfl (l' := #[.val (.ref a1), .val (.int (1073741824 : Int32)), .val (.long v15), .second, .unset, .unset]) rfl k) ?_
  refine own_Fin.step (S' := s₁.setTop (mkF m 17 #[.val (.ref a1), .val (.int (1073741824 : Int32)), .val (.long v15), .second, .unset, .unset] [(.ref a1)])) (fun t k => XS.aloadN X0.here hx rfl (hb hby d6_16) rfl rfl  k) ?_
  obtain ⟨cq19, q19, q19'⟩ := P0.cell
  obtain ⟨_, _, ⟨T19, L19, k19, n19⟩, -, X19, ⟨Lc19, hQ19, l19, y19, zz19⟩, st19⟩ := X0.privateBack hx (y := (⟨"com/example/rulebinder/rulebinder/Draws", "nextLong", "()J"⟩ : MethodName)) hown (mvT hZ (hw _ (List.mem_of_getElem? (i := 32) rfl))) (mvT hZ (hw _ (List.mem_of_getElem? (i := 33) rfl))) (own_selPriv (mvT hZ (hw _ (List.mem_of_getElem? (i := 7) rfl))) (Cond.privateMethod_at (mvP hZ (hw _ (List.mem_of_getElem? (i := 34) rfl)) (args := #[]))) (mvT hZ (hw _ (List.mem_of_getElem? (i := 33) rfl))) (by decide)) (Cond.privateMethod_at (mvP hZ (hw _ (List.mem_of_getElem? (i := 34) rfl)) (args := #[]))) (mvT hZ (hw _ (List.mem_of_getElem? (i := 35) rfl))) (by decide) (backOf (W := 0) (rm7 l Z a0 hw [] a1 q1 h0 n0 (by omega) P0 P1 (by omega)) hZ (hw _ (List.mem_of_getElem? (i := 35) rfl)) (hw _ (List.mem_of_getElem? (i := 4) rfl)) (by decide) (by decide)) (g := (mkF m 17 #[.val (.ref a1), .val (.int (1073741824 : Int32)), .val (.long v15), .second, .unset, .unset] [(.ref a1)])) rfl (by rw [hml]; rfl) (Steps.refl _) (a := a1) (by rw [e0]; exact q19) q19' (argsL := []) (rest := []) (lenOf pd_6_0 rfl) rfl (by show 2 * 0 + _ ≤ _; exact Nat.le_of_eq rfl) (hb hby d6_17) (fun _ _ => ⟨rfl, e0, (by decide : 0 + 0 ≤ _), (by decide : 0 + 0 ≤ _)⟩)
  dsimp only [Pt.U, Pt.locs, Pt.cells, Pt.slots] at X19 l19 y19 zz19 st19 hQ19
  subst l19 y19 zz19
  obtain ⟨rfl, N19q, K19, G19_0, G19_1⟩ := hQ19
  have N19 := Fr.app N0 N19q
  have z19 := K19.1
  have KK19 : Keep h0 T19.heap [a1] := (Keep.refl h0 [a1]).trans K19 (allS (Or.inl (by simp)) all0)
  have lt19_0 : @LT.lt Nat _ a1 (Array.size T19.heap) := G19_0.lt
  have lt19_1 : @LT.lt Nat _ a1 (Array.size T19.heap) := G19_1.lt
  refine own_Fin.trans (S' := T19.setTop (mkF m 20 #[.val (.ref a1), .val (.int (1073741824 : Int32)), .val (.long v15), .second, .unset, .unset] [(.long (own_mix (q1 + (-7046029254386353131 : Int64))))])) st19 ?_
  refine own_Fin.step (S' := T19.setTop (mkF m 21 #[.val (.ref a1), .val (.int (1073741824 : Int32)), .val (.long v15), .second, .unset, .unset] [(.int (1 : Int32)), (.long (own_mix (q1 + (-7046029254386353131 : Int64))))])) (fun t k => XS.iconst X19.here hx rfl (hb hby d6_20) k) ?_
  refine own_Fin.step (S' := T19.setTop (mkF m 22 #[.val (.ref a1), .val (.int (1073741824 : Int32)), .val (.long v15), .second, .unset, .unset] [(.long (((own_mix (q1 + (-7046029254386353131 : Int64))).toUInt64 >>> ((1 : Int32) &&& 0x3f).toInt64.toUInt64).toInt64))])) (fun t k => XS.lushr X19.here hx rfl (hb hby d6_21) rfl k) ?_
  obtain ⟨v22, hv22⟩ : ∃ z : Int64, z = (((own_mix (q1 + (-7046029254386353131 : Int64))).toUInt64 >>> ((1 : Int32) &&& 0x3f).toInt64.toUInt64).toInt64) := ⟨_, rfl⟩
  rw [← hv22]
  refine own_Fin.step (S' := T19.setTop (mkF m 24 #[.val (.ref a1), .val (.int (1073741824 : Int32)), .val (.long v15), .second, .val (.long v22), .second] [])) (fun t k => XS.lstore X19.here hx rfl (hb hby d6_22) rfl (l' := #[.val (.ref a1), .val (.int (1073741824 : Int32)), .val (.long v15), .second, .val (.long v22), .second]) rfl k) ?_
  refine own_Fin.step (S' := T19.setTop (mkF m 26 #[.val (.ref a1), .val (.int (1073741824 : Int32)), .val (.long v15), .second, .val (.long v22), .second] [(.long v22)])) (fun t k => XS.lload X19.here hx rfl (hb hby d6_24) rfl  k) ?_
  refine own_Fin.step (S' := T19.setTop (mkF m 27 #[.val (.ref a1), .val (.int (1073741824 : Int32)), .val (.long v15), .second, .val (.long v22), .second] [(.long v15), (.long v22)])) (fun t k => XS.lloadN X19.here hx rfl (hb hby d6_26) rfl  k) ?_
  refine own_Fin.step (S' := T19.setTop (mkF m 28 #[.val (.ref a1), .val (.int (1073741824 : Int32)), .val (.long v15), .second, .val (.long v22), .second] [(.int (lcmpW v22 v15))])) (fun t k => XS.lcmp X19.here hx rfl (hb hby d6_27) rfl k) ?_
  refine own_Fin.step (S' := T19.setTop (mkF m 42 #[.val (.ref a1), .val (.int (1073741824 : Int32)), .val (.long v15), .second, .val (.long v22), .second] [])) (fun t k => XS.ifYes X19.here hx rfl (pc0 := 28) (pc' := 42) rfl (hb hby d6_28) rfl ((if0 _ _).trans (flt (fun q => (own_lim hv15) ((lw_gt _ _).mp q))).2.2.2) (by decide) (by decide) k) ?_
  refine own_Fin.step (S' := T19.setTop (mkF m 44 #[.val (.ref a1), .val (.int (1073741824 : Int32)), .val (.long v15), .second, .val (.long v22), .second] [(.long v22)])) (fun t k => XS.lload X19.here hx rfl (hb hby d6_42) rfl  k) ?_
  refine own_Fin.step (S' := T19.setTop (mkF m 45 #[.val (.ref a1), .val (.int (1073741824 : Int32)), .val (.long v15), .second, .val (.long v22), .second] [(.int (1073741824 : Int32)), (.long v22)])) (fun t k => XS.iloadN X19.here hx rfl (hb hby d6_44) rfl  k) ?_
  refine own_Fin.step (S' := T19.setTop (mkF m 46 #[.val (.ref a1), .val (.int (1073741824 : Int32)), .val (.long v15), .second, .val (.long v22), .second] [(.long ((1073741824 : Int32).toInt64)), (.long v22)])) (fun t k => XS.i2l X19.here hx rfl (hb hby d6_45) rfl k) ?_
  refine own_Fin.step (S' := T19.setTop (mkF m 47 #[.val (.ref a1), .val (.int (1073741824 : Int32)), .val (.long v15), .second, .val (.long v22), .second] [(.long (v22 - (v22 / ((1073741824 : Int32).toInt64)) * ((1073741824 : Int32).toInt64)))])) (fun t k => XS.lrem X19.here hx rfl (hb hby d6_46) rfl (by decide) k) ?_
  refine own_Fin.step (S' := T19.setTop (mkF m 48 #[.val (.ref a1), .val (.int (1073741824 : Int32)), .val (.long v15), .second, .val (.long v22), .second] [(.int ((v22 - (v22 / ((1073741824 : Int32).toInt64)) * ((1073741824 : Int32).toInt64)).toInt32))])) (fun t k => XS.l2i X19.here hx rfl (hb hby d6_47) rfl k) ?_
  have hq20 : Q6 Z a1 q1 h0 n0 (some (.int ((v22 - (v22 / ((1073741824 : Int32).toInt64)) * ((1073741824 : Int32).toInt64)).toInt32))) T19.heap _ := ⟨(by subst hv22; rfl), N19, KK19, G19_0⟩
  exact own_retI X19 hx hlk hrt (hb hby d6_48) rfl hq20 (by decide) (by decide)

theorem own_r1 (z : Int64) (a b : Int32) : z + ((a.toInt64) + (1 : Int64)) * (-7046029254386353131 : Int64) = (z + (((a.toInt64) - (b.toInt64)) * (-7046029254386353131 : Int64))) + ((b.toInt64) + (1 : Int64)) * (-7046029254386353131 : Int64) := by grind
theorem own_r2 (z : Int64) (a : Int32) : z + ((a.toInt64) + (1 : Int64)) * (-7046029254386353131 : Int64) = (z + ((a.toInt64) * (-7046029254386353131 : Int64))) + (((0 : Int32).toInt64) + (1 : Int64)) * (-7046029254386353131 : Int64) := by
  have e : (0 : Int32).toInt64 = 0 := rfl
  rw [e]; grind
theorem own_r3 (a : Int32) : ((-((a.toInt64) + (1 : Int64))) * (-7046029254386353131 : Int64)) + ((a.toInt64) + (1 : Int64)) * (-7046029254386353131 : Int64) = 0 := by grind
theorem own_r4 (a : Int32) : ((-(a.toInt64)) * (-7046029254386353131 : Int64)) + ((a.toInt64) + (1 : Int64)) * (-7046029254386353131 : Int64) = (-7046029254386353131 : Int64) := by grind

theorem pn_0 : plainName "com/example/rulebinder/rulebinder/DrawsOfPinLaw" = true := by first | (simp [plainName, overriddenIn]; done) | decide +kernel
theorem pd_0_0 : parseMethodDescriptor "(JI)Lcom/example/rulebinder/rulebinder/Draws;" = some ⟨[.long, .int], some (.object "com/example/rulebinder/rulebinder/Draws")⟩ := by decide +kernel
theorem pd_0_1 : parseMethodDescriptor "(J)Lcom/example/rulebinder/rulebinder/Draws;" = some ⟨[.long], some (.object "com/example/rulebinder/rulebinder/Draws")⟩ := by decide +kernel
theorem pd_0_2 : parseMethodDescriptor "(I)I" = some ⟨[.int], some .int⟩ := by decide +kernel
theorem ef_0 (m : MethodId) (x0 : Int64) (x1 : Int32) (x2 : Int32) : entryFrame m #[(.long x0), (.int x1), (.int x2)] maxLocals = mkF m 0 #[.val (.long x0), .second, .val (.int x1), .val (.int x2), .unset, .unset, .unset, .unset, .unset, .unset, .unset, .unset, .unset, .unset, .unset, .unset, .unset, .unset, .unset] [] := by first | (simp [entryFrame, mkF, argsToLocals, Value.category, maxLocals]; done) | rfl
def Q0 (Z : State) (i0 : Int64) (i1 : Int32) (i2 : Int32) (h0 : Heap) (n0 : Nat) (v : Option Value) (h : Heap) (L : List Loc) : Prop := v = some (.int (1 : Int32)) ∧ Fr n0 L
set_option maxRecDepth 65536 in
set_option maxHeartbeats 40000000 in
theorem rm0 (l : Launch) (Z : State) (a0 : Array Value) (hw : ∀ d ∈ tables_1, d.before a0 Z = true) (ws : List Jvm.Cond) (i0 : Int64) (i1 : Int32) (i2 : Int32) (h0 : Heap) (n0 : Nat) (Z0 : n0 ≤ h0.size)  :
    MetFree l x (head1 (Jvm.Cond.code x code maxLocals ret :: ws) room_1) (fun a U => a = #[(.long i0), (.int i1), (.int i2)] ∧ Z.Warmed39 U.vm ∧ U.heap = h0) (fun _ _ _ _ _ => True) (fun _ U o U' => ∃ v L, o = .returned v ∧ Q0 Z i0 i1 i2 h0 n0 v U'.heap L ∧ FrameEnd U o U' L 24 128) := by
  refine MetFree.of_bodySF (plainFor_of_name pn_0) hisR ?_
  intro p e s m args below meth c s₁ Bd hml0 hP hK
  obtain ⟨rfl, hZ, hh⟩ := hP
  have hx := Bd.exec
  have hby := Bd.bytes
  have hml : c.maxLocals = 19 := hml0
  have hown : s.vm.findClass "com/example/rulebinder/rulebinder/DrawsOfPinLaw" = some m.cls := findClass_of_methodNamed Bd.named
  have hnm := (name_of_methodNamed Bd.named Bd.method).1
  have hlk : meth.locks = false := BodyLoose.notSynchronized Bd
  have hrt := Bd.returns
  have X0 : Stand p l e room_1 s m #[(.long i0), (.int i1), (.int i2)] below meth c s₁ [] 0 0 := Stand.of_body Bd
  have e0 : s₁.heap = h0 := by rw [← hh, Bd.state]; rfl
  have N0 := Fr.nil n0
  show own_Fin p.tables e below (own_post (Q0 Z i0 i1 i2 h0 n0) s 24 128) (s₁.setTop (entryFrame m #[(.long i0), (.int i1), (.int i2)] maxLocals))
  refine own_Fin.step (fun t k => castTop (ef_0 m i0 i1 i2) k) ?_
  refine own_Fin.step (S' := s₁.setTop (mkF m 3 #[.val (.long i0), .second, .val (.int i1), .val (.int i2), .unset, .unset, .unset, .unset, .unset, .unset, .unset, .unset, .unset, .unset, .unset, .unset, .unset, .unset, .unset] [(.long (-7046029254386353131 : Int64))])) (X0.ldc2Long hx hown (mvT hZ (hw _ (List.mem_of_getElem? (i := 0) rfl))) (g := (mkF m 0 #[.val (.long i0), .second, .val (.int i1), .val (.int i2), .unset, .unset, .unset, .unset, .unset, .unset, .unset, .unset, .unset, .unset, .unset, .unset, .unset, .unset, .unset] [])) rfl (hb hby at_0)) ?_
  refine own_Fin.step (S' := s₁.setTop (mkF m 5 #[.val (.long i0), .second, .val (.int i1), .val (.int i2), .val (.long (-7046029254386353131 : Int64)), .second, .unset, .unset, .unset, .unset, .unset, .unset, .unset, .unset, .unset, .unset, .unset, .unset, .unset] [])) (fun t k => XS.lstore X0.here hx rfl (hb hby at_3) rfl (l' := #[.val (.long i0), .second, .val (.int i1), .val (.int i2), .val (.long (-7046029254386353131 : Int64)), .second, .unset, .unset, .unset, .unset, .unset, .unset, .unset, .unset, .unset, .unset, .unset, .unset, .unset]) rfl k) ?_
  refine own_Fin.step (S' := s₁.setTop (mkF m 7 #[.val (.long i0), .second, .val (.int i1), .val (.int i2), .val (.long (-7046029254386353131 : Int64)), .second, .unset, .unset, .unset, .unset, .unset, .unset, .unset, .unset, .unset, .unset, .unset, .unset, .unset] [(.int (1073741824 : Int32))])) (X0.ldcInt hx hown (mvT hZ (hw _ (List.mem_of_getElem? (i := 1) rfl))) (g := (mkF m 5 #[.val (.long i0), .second, .val (.int i1), .val (.int i2), .val (.long (-7046029254386353131 : Int64)), .second, .unset, .unset, .unset, .unset, .unset, .unset, .unset, .unset, .unset, .unset, .unset, .unset, .unset] [])) rfl (hb hby at_5)) ?_
  refine own_Fin.step (S' := s₁.setTop (mkF m 9 #[.val (.long i0), .second, .val (.int i1), .val (.int i2), .val (.long (-7046029254386353131 : Int64)), .second, .val (.int (1073741824 : Int32)), .unset, .unset, .unset, .unset, .unset, .unset, .unset, .unset, .unset, .unset, .unset, .unset] [])) (fun t k => XS.istore X0.here hx rfl (hb hby at_7) rfl (l' := #[.val (.long i0), .second, .val (.int i1), .val (.int i2), .val (.long (-7046029254386353131 : Int64)), .second, .val (.int (1073741824 : Int32)), .unset, .unset, .unset, .unset, .unset, .unset, .unset, .unset, .unset, .unset, .unset, .unset]) rfl k) ?_
  refine own_Fin.step (S' := s₁.setTop (mkF m 10 #[.val (.long i0), .second, .val (.int i1), .val (.int i2), .val (.long (-7046029254386353131 : Int64)), .second, .val (.int (1073741824 : Int32)), .unset, .unset, .unset, .unset, .unset, .unset, .unset, .unset, .unset, .unset, .unset, .unset] [(.long i0)])) (fun t k => XS.lloadN X0.here hx rfl (hb hby at_9) rfl  k) ?_
  refine own_Fin.step (S' := s₁.setTop (mkF m 11 #[.val (.long i0), .second, .val (.int i1), .val (.int i2), .val (.long (-7046029254386353131 : Int64)), .second, .val (.int (1073741824 : Int32)), .unset, .unset, .unset, .unset, .unset, .unset, .unset, .unset, .unset, .unset, .unset, .unset] [(.int i1), (.long i0)])) (fun t k => XS.iloadN X0.here hx rfl (hb hby at_10) rfl  k) ?_
  obtain ⟨_, _, ⟨T21, L21, k21, n21⟩, -, X21, ⟨Lc21, hQ21, l21, y21, zz21⟩, st21⟩ := Jvm.LawKit.callS X0 hx (y := (⟨"com/example/rulebinder/rulebinder/Draws", "of", "(JI)Lcom/example/rulebinder/rulebinder/Draws;"⟩ : MethodName)) hown (mvT hZ (hw _ (List.mem_of_getElem? (i := 2) rfl))) (mvT hZ (hw _ (List.mem_of_getElem? (i := 3) rfl))) (mvT hZ (hw _ (List.mem_of_getElem? (i := 4) rfl))) (mvT hZ (hw _ (List.mem_of_getElem? (i := 5) rfl))) (by decide) (backOf (W := 0) (rm1 l Z a0 hw [] i0 i1 h0 n0 (by omega) ) hZ (hw _ (List.mem_of_getElem? (i := 5) rfl)) (hw _ (List.mem_of_getElem? (i := 4) rfl)) (by decide) (by decide)) (g := (mkF m 11 #[.val (.long i0), .second, .val (.int i1), .val (.int i2), .val (.long (-7046029254386353131 : Int64)), .second, .val (.int (1073741824 : Int32)), .unset, .unset, .unset, .unset, .unset, .unset, .unset, .unset, .unset, .unset, .unset, .unset] [(.int i1), (.long i0)])) rfl (by rw [hml]; rfl) (argsL := [(.long i0), (.int i1)]) (rest := []) (lenOf pd_0_0 rfl) rfl (by show 2 * 0 + _ ≤ _; exact Nat.le_of_eq rfl) (hb hby at_11) (fun _ _ => ⟨rfl, e0, (by decide : 0 + 1 ≤ _), (by decide : 0 + 1 ≤ _)⟩)
  dsimp only [Pt.U, Pt.locs, Pt.cells, Pt.slots] at X21 l21 y21 zz21 st21 hQ21
  subst l21 y21 zz21
  obtain ⟨ob_21, rfl, N21q, K21, G21_0, G21_1, U21_0⟩ := hQ21
  have N21 := Fr.app N0 N21q
  have z21 := K21.1
  have lt21_0 : @LT.lt Nat _ ob_21 (Array.size T21.heap) := G21_0.lt
  have lt21_1 : @LT.lt Nat _ ob_21 (Array.size T21.heap) := G21_1.lt
  refine own_Fin.step (S' := T21.setTop (mkF m 14 #[.val (.long i0), .second, .val (.int i1), .val (.int i2), .val (.long (-7046029254386353131 : Int64)), .second, .val (.int (1073741824 : Int32)), .unset, .unset, .unset, .unset, .unset, .unset, .unset, .unset, .unset, .unset, .unset, .unset] [(.ref ob_21)])) st21 ?_
  refine own_Fin.step (S' := T21.setTop (mkF m 16 #[.val (.long i0), .second, .val (.int i1), .val (.int i2), .val (.long (-7046029254386353131 : Int64)), .second, .val (.int (1073741824 : Int32)), .val (.ref ob_21), .unset, .unset, .unset, .unset, .unset, .unset, .unset, .unset, .unset, .unset, .unset] [])) (fun t k => XS.astore X21.here hx rfl (hb hby at_14) rfl rfl (l' := #[.val (.long i0), .second, .val (.int i1), .val (.int i2), .val (.long (-7046029254386353131 : Int64)), .second, .val (.int (1073741824 : Int32)), .val (.ref ob_21), .unset, .unset, .unset, .unset, .unset, .unset, .unset, .unset, .unset, .unset, .unset]) rfl k) ?_
  refine own_Fin.step (S' := T21.setTop (mkF m 17 #[.val (.long i0), .second, .val (.int i1), .val (.int i2), .val (.long (-7046029254386353131 : Int64)), .second, .val (.int (1073741824 : Int32)), .val (.ref ob_21), .unset, .unset, .unset, .unset, .unset, .unset, .unset, .unset, .unset, .unset, .unset] [(.long i0)])) (fun t k => XS.lloadN X21.here hx rfl (hb hby at_16) rfl  k) ?_
  refine own_Fin.step (S' := T21.setTop (mkF m 18 #[.val (.long i0), .second, .val (.int i1), .val (.int i2), .val (.long (-7046029254386353131 : Int64)), .second, .val (.int (1073741824 : Int32)), .val (.ref ob_21), .unset, .unset, .unset, .unset, .unset, .unset, .unset, .unset, .unset, .unset, .unset] [(.int i1), (.long i0)])) (fun t k => XS.iloadN X21.here hx rfl (hb hby at_17) rfl  k) ?_
  refine own_Fin.step (S' := T21.setTop (mkF m 19 #[.val (.long i0), .second, .val (.int i1), .val (.int i2), .val (.long (-7046029254386353131 : Int64)), .second, .val (.int (1073741824 : Int32)), .val (.ref ob_21), .unset, .unset, .unset, .unset, .unset, .unset, .unset, .unset, .unset, .unset, .unset] [(.long (i1.toInt64)), (.long i0)])) (fun t k => XS.i2l X21.here hx rfl (hb hby at_18) rfl k) ?_
  refine own_Fin.step (S' := T21.setTop (mkF m 20 #[.val (.long i0), .second, .val (.int i1), .val (.int i2), .val (.long (-7046029254386353131 : Int64)), .second, .val (.int (1073741824 : Int32)), .val (.ref ob_21), .unset, .unset, .unset, .unset, .unset, .unset, .unset, .unset, .unset, .unset, .unset] [(.int i2), (.long (i1.toInt64)), (.long i0)])) (fun t k => XS.iloadN X21.here hx rfl (hb hby at_19) rfl  k) ?_
  refine own_Fin.step (S' := T21.setTop (mkF m 21 #[.val (.long i0), .second, .val (.int i1), .val (.int i2), .val (.long (-7046029254386353131 : Int64)), .second, .val (.int (1073741824 : Int32)), .val (.ref ob_21), .unset, .unset, .unset, .unset, .unset, .unset, .unset, .unset, .unset, .unset, .unset] [(.long (i2.toInt64)), (.long (i1.toInt64)), (.long i0)])) (fun t k => XS.i2l X21.here hx rfl (hb hby at_20) rfl k) ?_
  refine own_Fin.step (S' := T21.setTop (mkF m 22 #[.val (.long i0), .second, .val (.int i1), .val (.int i2), .val (.long (-7046029254386353131 : Int64)), .second, .val (.int (1073741824 : Int32)), .val (.ref ob_21), .unset, .unset, .unset, .unset, .unset, .unset, .unset, .unset, .unset, .unset, .unset] [(.long ((i1.toInt64) - (i2.toInt64))), (.long i0)])) (fun t k => XS.lsub X21.here hx rfl (hb hby at_21) rfl k) ?_
  refine own_Fin.step (S' := T21.setTop (mkF m 24 #[.val (.long i0), .second, .val (.int i1), .val (.int i2), .val (.long (-7046029254386353131 : Int64)), .second, .val (.int (1073741824 : Int32)), .val (.ref ob_21), .unset, .unset, .unset, .unset, .unset, .unset, .unset, .unset, .unset, .unset, .unset] [(.long (-7046029254386353131 : Int64)), (.long ((i1.toInt64) - (i2.toInt64))), (.long i0)])) (fun t k => XS.lload X21.here hx rfl (hb hby at_22) rfl  k) ?_
  refine own_Fin.step (S' := T21.setTop (mkF m 25 #[.val (.long i0), .second, .val (.int i1), .val (.int i2), .val (.long (-7046029254386353131 : Int64)), .second, .val (.int (1073741824 : Int32)), .val (.ref ob_21), .unset, .unset, .unset, .unset, .unset, .unset, .unset, .unset, .unset, .unset, .unset] [(.long (((i1.toInt64) - (i2.toInt64)) * (-7046029254386353131 : Int64))), (.long i0)])) (fun t k => XS.lmul X21.here hx rfl (hb hby at_24) rfl k) ?_
  refine own_Fin.step (S' := T21.setTop (mkF m 26 #[.val (.long i0), .second, .val (.int i1), .val (.int i2), .val (.long (-7046029254386353131 : Int64)), .second, .val (.int (1073741824 : Int32)), .val (.ref ob_21), .unset, .unset, .unset, .unset, .unset, .unset, .unset, .unset, .unset, .unset, .unset] [(.long (i0 + (((i1.toInt64) - (i2.toInt64)) * (-7046029254386353131 : Int64))))])) (fun t k => XS.ladd X21.here hx rfl (hb hby at_25) rfl k) ?_
  refine own_Fin.step (S' := T21.setTop (mkF m 27 #[.val (.long i0), .second, .val (.int i1), .val (.int i2), .val (.long (-7046029254386353131 : Int64)), .second, .val (.int (1073741824 : Int32)), .val (.ref ob_21), .unset, .unset, .unset, .unset, .unset, .unset, .unset, .unset, .unset, .unset, .unset] [(.int i2), (.long (i0 + (((i1.toInt64) - (i2.toInt64)) * (-7046029254386353131 : Int64))))])) (fun t k => XS.iloadN X21.here hx rfl (hb hby at_26) rfl  k) ?_
  obtain ⟨_, _, ⟨T22, L22, k22, n22⟩, -, X22, ⟨Lc22, hQ22, l22, y22, zz22⟩, st22⟩ := Jvm.LawKit.callS X21 hx (y := (⟨"com/example/rulebinder/rulebinder/Draws", "of", "(JI)Lcom/example/rulebinder/rulebinder/Draws;"⟩ : MethodName)) hown (mvT hZ (hw _ (List.mem_of_getElem? (i := 2) rfl))) (mvT hZ (hw _ (List.mem_of_getElem? (i := 3) rfl))) (mvT hZ (hw _ (List.mem_of_getElem? (i := 4) rfl))) (mvT hZ (hw _ (List.mem_of_getElem? (i := 5) rfl))) (by decide) (backOf (W := 0) (rm1 l Z a0 hw [] (i0 + (((i1.toInt64) - (i2.toInt64)) * (-7046029254386353131 : Int64))) i2 T21.heap n0 (by omega) ) hZ (hw _ (List.mem_of_getElem? (i := 5) rfl)) (hw _ (List.mem_of_getElem? (i := 4) rfl)) (by decide) (by decide)) (g := (mkF m 27 #[.val (.long i0), .second, .val (.int i1), .val (.int i2), .val (.long (-7046029254386353131 : Int64)), .second, .val (.int (1073741824 : Int32)), .val (.ref ob_21), .unset, .unset, .unset, .unset, .unset, .unset, .unset, .unset, .unset, .unset, .unset] [(.int i2), (.long (i0 + (((i1.toInt64) - (i2.toInt64)) * (-7046029254386353131 : Int64))))])) rfl (by rw [hml]; rfl) (argsL := [(.long (i0 + (((i1.toInt64) - (i2.toInt64)) * (-7046029254386353131 : Int64)))), (.int i2)]) (rest := []) (lenOf pd_0_0 rfl) rfl (by show 2 * 0 + _ ≤ _; exact Nat.le_of_eq rfl) (hb hby at_27) (fun _ _ => ⟨rfl, rfl, (by decide : 1 + 1 ≤ _), (by decide : 1 + 1 ≤ _)⟩)
  dsimp only [Pt.U, Pt.locs, Pt.cells, Pt.slots] at X22 l22 y22 zz22 st22 hQ22
  subst l22 y22 zz22
  obtain ⟨ob_22, rfl, N22q, K22, G22_0, G22_1, U22_0⟩ := hQ22
  have N22 := Fr.app N21 N22q
  have z22 := K22.1
  have lt22_0 : @LT.lt Nat _ ob_22 (Array.size T22.heap) := G22_0.lt
  have lt22_1 : @LT.lt Nat _ ob_22 (Array.size T22.heap) := G22_1.lt
  refine own_Fin.step (S' := T22.setTop (mkF m 30 #[.val (.long i0), .second, .val (.int i1), .val (.int i2), .val (.long (-7046029254386353131 : Int64)), .second, .val (.int (1073741824 : Int32)), .val (.ref ob_21), .unset, .unset, .unset, .unset, .unset, .unset, .unset, .unset, .unset, .unset, .unset] [(.ref ob_22)])) st22 ?_
  refine own_Fin.step (S' := T22.setTop (mkF m 32 #[.val (.long i0), .second, .val (.int i1), .val (.int i2), .val (.long (-7046029254386353131 : Int64)), .second, .val (.int (1073741824 : Int32)), .val (.ref ob_21), .val (.ref ob_22), .unset, .unset, .unset, .unset, .unset, .unset, .unset, .unset, .unset, .unset] [])) (fun t k => XS.astore X22.here hx rfl (hb hby at_30) rfl rfl (l' := #[.val (.long i0), .second, .val (.int i1), .val (.int i2), .val (.long (-7046029254386353131 : Int64)), .second, .val (.int (1073741824 : Int32)), .val (.ref ob_21), .val (.ref ob_22), .unset, .unset, .unset, .unset, .unset, .unset, .unset, .unset, .unset, .unset]) rfl k) ?_
  refine own_Fin.step (S' := T22.setTop (mkF m 33 #[.val (.long i0), .second, .val (.int i1), .val (.int i2), .val (.long (-7046029254386353131 : Int64)), .second, .val (.int (1073741824 : Int32)), .val (.ref ob_21), .val (.ref ob_22), .unset, .unset, .unset, .unset, .unset, .unset, .unset, .unset, .unset, .unset] [(.long i0)])) (fun t k => XS.lloadN X22.here hx rfl (hb hby at_32) rfl  k) ?_
  refine own_Fin.step (S' := T22.setTop (mkF m 34 #[.val (.long i0), .second, .val (.int i1), .val (.int i2), .val (.long (-7046029254386353131 : Int64)), .second, .val (.int (1073741824 : Int32)), .val (.ref ob_21), .val (.ref ob_22), .unset, .unset, .unset, .unset, .unset, .unset, .unset, .unset, .unset, .unset] [(.int i1), (.long i0)])) (fun t k => XS.iloadN X22.here hx rfl (hb hby at_33) rfl  k) ?_
  refine own_Fin.step (S' := T22.setTop (mkF m 35 #[.val (.long i0), .second, .val (.int i1), .val (.int i2), .val (.long (-7046029254386353131 : Int64)), .second, .val (.int (1073741824 : Int32)), .val (.ref ob_21), .val (.ref ob_22), .unset, .unset, .unset, .unset, .unset, .unset, .unset, .unset, .unset, .unset] [(.long (i1.toInt64)), (.long i0)])) (fun t k => XS.i2l X22.here hx rfl (hb hby at_34) rfl k) ?_
  refine own_Fin.step (S' := T22.setTop (mkF m 37 #[.val (.long i0), .second, .val (.int i1), .val (.int i2), .val (.long (-7046029254386353131 : Int64)), .second, .val (.int (1073741824 : Int32)), .val (.ref ob_21), .val (.ref ob_22), .unset, .unset, .unset, .unset, .unset, .unset, .unset, .unset, .unset, .unset] [(.long (-7046029254386353131 : Int64)), (.long (i1.toInt64)), (.long i0)])) (fun t k => XS.lload X22.here hx rfl (hb hby at_35) rfl  k) ?_
  refine own_Fin.step (S' := T22.setTop (mkF m 38 #[.val (.long i0), .second, .val (.int i1), .val (.int i2), .val (.long (-7046029254386353131 : Int64)), .second, .val (.int (1073741824 : Int32)), .val (.ref ob_21), .val (.ref ob_22), .unset, .unset, .unset, .unset, .unset, .unset, .unset, .unset, .unset, .unset] [(.long ((i1.toInt64) * (-7046029254386353131 : Int64))), (.long i0)])) (fun t k => XS.lmul X22.here hx rfl (hb hby at_37) rfl k) ?_
  refine own_Fin.step (S' := T22.setTop (mkF m 39 #[.val (.long i0), .second, .val (.int i1), .val (.int i2), .val (.long (-7046029254386353131 : Int64)), .second, .val (.int (1073741824 : Int32)), .val (.ref ob_21), .val (.ref ob_22), .unset, .unset, .unset, .unset, .unset, .unset, .unset, .unset, .unset, .unset] [(.long (i0 + ((i1.toInt64) * (-7046029254386353131 : Int64))))])) (fun t k => XS.ladd X22.here hx rfl (hb hby at_38) rfl k) ?_
  obtain ⟨_, _, ⟨T23, L23, k23, n23⟩, -, X23, ⟨Lc23, hQ23, l23, y23, zz23⟩, st23⟩ := Jvm.LawKit.callS X22 hx (y := (⟨"com/example/rulebinder/rulebinder/Draws", "of", "(J)Lcom/example/rulebinder/rulebinder/Draws;"⟩ : MethodName)) hown (mvT hZ (hw _ (List.mem_of_getElem? (i := 22) rfl))) (mvT hZ (hw _ (List.mem_of_getElem? (i := 23) rfl))) (mvT hZ (hw _ (List.mem_of_getElem? (i := 4) rfl))) (mvT hZ (hw _ (List.mem_of_getElem? (i := 24) rfl))) (by decide) (backOf (W := 0) (rm5 l Z a0 hw [] (i0 + ((i1.toInt64) * (-7046029254386353131 : Int64))) T22.heap n0 (by omega) ) hZ (hw _ (List.mem_of_getElem? (i := 24) rfl)) (hw _ (List.mem_of_getElem? (i := 4) rfl)) (by decide) (by decide)) (g := (mkF m 39 #[.val (.long i0), .second, .val (.int i1), .val (.int i2), .val (.long (-7046029254386353131 : Int64)), .second, .val (.int (1073741824 : Int32)), .val (.ref ob_21), .val (.ref ob_22), .unset, .unset, .unset, .unset, .unset, .unset, .unset, .unset, .unset, .unset] [(.long (i0 + ((i1.toInt64) * (-7046029254386353131 : Int64))))])) rfl (by rw [hml]; rfl) (argsL := [(.long (i0 + ((i1.toInt64) * (-7046029254386353131 : Int64))))]) (rest := []) (lenOf pd_0_1 rfl) rfl (by show 2 * 0 + _ ≤ _; exact Nat.le_of_eq rfl) (hb hby at_39) (fun _ _ => ⟨rfl, rfl, (by decide : 2 + 1 ≤ _), (by decide : 2 + 1 ≤ _)⟩)
  dsimp only [Pt.U, Pt.locs, Pt.cells, Pt.slots] at X23 l23 y23 zz23 st23 hQ23
  subst l23 y23 zz23
  obtain ⟨ob_23, rfl, N23q, K23, G23_0, G23_1, U23_0⟩ := hQ23
  have N23 := Fr.app N22 N23q
  have z23 := K23.1
  have lt23_0 : @LT.lt Nat _ ob_23 (Array.size T23.heap) := G23_0.lt
  have lt23_1 : @LT.lt Nat _ ob_23 (Array.size T23.heap) := G23_1.lt
  refine own_Fin.step (S' := T23.setTop (mkF m 42 #[.val (.long i0), .second, .val (.int i1), .val (.int i2), .val (.long (-7046029254386353131 : Int64)), .second, .val (.int (1073741824 : Int32)), .val (.ref ob_21), .val (.ref ob_22), .unset, .unset, .unset, .unset, .unset, .unset, .unset, .unset, .unset, .unset] [(.ref ob_23)])) st23 ?_
  refine own_Fin.step (S' := T23.setTop (mkF m 44 #[.val (.long i0), .second, .val (.int i1), .val (.int i2), .val (.long (-7046029254386353131 : Int64)), .second, .val (.int (1073741824 : Int32)), .val (.ref ob_21), .val (.ref ob_22), .val (.ref ob_23), .unset, .unset, .unset, .unset, .unset, .unset, .unset, .unset, .unset] [])) (fun t k => XS.astore X23.here hx rfl (hb hby at_42) rfl rfl (l' := #[.val (.long i0), .second, .val (.int i1), .val (.int i2), .val (.long (-7046029254386353131 : Int64)), .second, .val (.int (1073741824 : Int32)), .val (.ref ob_21), .val (.ref ob_22), .val (.ref ob_23), .unset, .unset, .unset, .unset, .unset, .unset, .unset, .unset, .unset]) rfl k) ?_
  refine own_Fin.step (S' := T23.setTop (mkF m 45 #[.val (.long i0), .second, .val (.int i1), .val (.int i2), .val (.long (-7046029254386353131 : Int64)), .second, .val (.int (1073741824 : Int32)), .val (.ref ob_21), .val (.ref ob_22), .val (.ref ob_23), .unset, .unset, .unset, .unset, .unset, .unset, .unset, .unset, .unset] [(.int i2)])) (fun t k => XS.iloadN X23.here hx rfl (hb hby at_44) rfl  k) ?_
  refine own_Fin.step (S' := T23.setTop (mkF m 46 #[.val (.long i0), .second, .val (.int i1), .val (.int i2), .val (.long (-7046029254386353131 : Int64)), .second, .val (.int (1073741824 : Int32)), .val (.ref ob_21), .val (.ref ob_22), .val (.ref ob_23), .unset, .unset, .unset, .unset, .unset, .unset, .unset, .unset, .unset] [(.long (i2.toInt64))])) (fun t k => XS.i2l X23.here hx rfl (hb hby at_45) rfl k) ?_
  refine own_Fin.step (S' := T23.setTop (mkF m 47 #[.val (.long i0), .second, .val (.int i1), .val (.int i2), .val (.long (-7046029254386353131 : Int64)), .second, .val (.int (1073741824 : Int32)), .val (.ref ob_21), .val (.ref ob_22), .val (.ref ob_23), .unset, .unset, .unset, .unset, .unset, .unset, .unset, .unset, .unset] [(.long (1 : Int64)), (.long (i2.toInt64))])) (fun t k => XS.lconst X23.here hx rfl (hb hby at_46) k) ?_
  refine own_Fin.step (S' := T23.setTop (mkF m 48 #[.val (.long i0), .second, .val (.int i1), .val (.int i2), .val (.long (-7046029254386353131 : Int64)), .second, .val (.int (1073741824 : Int32)), .val (.ref ob_21), .val (.ref ob_22), .val (.ref ob_23), .unset, .unset, .unset, .unset, .unset, .unset, .unset, .unset, .unset] [(.long ((i2.toInt64) + (1 : Int64)))])) (fun t k => XS.ladd X23.here hx rfl (hb hby at_47) rfl k) ?_
  refine own_Fin.step (S' := T23.setTop (mkF m 49 #[.val (.long i0), .second, .val (.int i1), .val (.int i2), .val (.long (-7046029254386353131 : Int64)), .second, .val (.int (1073741824 : Int32)), .val (.ref ob_21), .val (.ref ob_22), .val (.ref ob_23), .unset, .unset, .unset, .unset, .unset, .unset, .unset, .unset, .unset] [(.long (-((i2.toInt64) + (1 : Int64))))])) (fun t k => XS.lneg X23.here hx rfl (hb hby at_48) rfl k) ?_
  refine own_Fin.step (S' := T23.setTop (mkF m 51 #[.val (.long i0), .second, .val (.int i1), .val (.int i2), .val (.long (-7046029254386353131 : Int64)), .second, .val (.int (1073741824 : Int32)), .val (.ref ob_21), .val (.ref ob_22), .val (.ref ob_23), .unset, .unset, .unset, .unset, .unset, .unset, .unset, .unset, .unset] [(.long (-7046029254386353131 : Int64)), (.long (-((i2.toInt64) + (1 : Int64))))])) (fun t k => XS.lload X23.here hx rfl (hb hby at_49) rfl  k) ?_
  refine own_Fin.step (S' := T23.setTop (mkF m 52 #[.val (.long i0), .second, .val (.int i1), .val (.int i2), .val (.long (-7046029254386353131 : Int64)), .second, .val (.int (1073741824 : Int32)), .val (.ref ob_21), .val (.ref ob_22), .val (.ref ob_23), .unset, .unset, .unset, .unset, .unset, .unset, .unset, .unset, .unset] [(.long ((-((i2.toInt64) + (1 : Int64))) * (-7046029254386353131 : Int64)))])) (fun t k => XS.lmul X23.here hx rfl (hb hby at_51) rfl k) ?_
  refine own_Fin.step (S' := T23.setTop (mkF m 53 #[.val (.long i0), .second, .val (.int i1), .val (.int i2), .val (.long (-7046029254386353131 : Int64)), .second, .val (.int (1073741824 : Int32)), .val (.ref ob_21), .val (.ref ob_22), .val (.ref ob_23), .unset, .unset, .unset, .unset, .unset, .unset, .unset, .unset, .unset] [(.int i2), (.long ((-((i2.toInt64) + (1 : Int64))) * (-7046029254386353131 : Int64)))])) (fun t k => XS.iloadN X23.here hx rfl (hb hby at_52) rfl  k) ?_
  obtain ⟨_, _, ⟨T24, L24, k24, n24⟩, -, X24, ⟨Lc24, hQ24, l24, y24, zz24⟩, st24⟩ := Jvm.LawKit.callS X23 hx (y := (⟨"com/example/rulebinder/rulebinder/Draws", "of", "(JI)Lcom/example/rulebinder/rulebinder/Draws;"⟩ : MethodName)) hown (mvT hZ (hw _ (List.mem_of_getElem? (i := 2) rfl))) (mvT hZ (hw _ (List.mem_of_getElem? (i := 3) rfl))) (mvT hZ (hw _ (List.mem_of_getElem? (i := 4) rfl))) (mvT hZ (hw _ (List.mem_of_getElem? (i := 5) rfl))) (by decide) (backOf (W := 0) (rm1 l Z a0 hw [] ((-((i2.toInt64) + (1 : Int64))) * (-7046029254386353131 : Int64)) i2 T23.heap n0 (by omega) ) hZ (hw _ (List.mem_of_getElem? (i := 5) rfl)) (hw _ (List.mem_of_getElem? (i := 4) rfl)) (by decide) (by decide)) (g := (mkF m 53 #[.val (.long i0), .second, .val (.int i1), .val (.int i2), .val (.long (-7046029254386353131 : Int64)), .second, .val (.int (1073741824 : Int32)), .val (.ref ob_21), .val (.ref ob_22), .val (.ref ob_23), .unset, .unset, .unset, .unset, .unset, .unset, .unset, .unset, .unset] [(.int i2), (.long ((-((i2.toInt64) + (1 : Int64))) * (-7046029254386353131 : Int64)))])) rfl (by rw [hml]; rfl) (argsL := [(.long ((-((i2.toInt64) + (1 : Int64))) * (-7046029254386353131 : Int64))), (.int i2)]) (rest := []) (lenOf pd_0_0 rfl) rfl (by show 2 * 0 + _ ≤ _; exact Nat.le_of_eq rfl) (hb hby at_53) (fun _ _ => ⟨rfl, rfl, (by decide : 3 + 1 ≤ _), (by decide : 3 + 1 ≤ _)⟩)
  dsimp only [Pt.U, Pt.locs, Pt.cells, Pt.slots] at X24 l24 y24 zz24 st24 hQ24
  subst l24 y24 zz24
  obtain ⟨ob_24, rfl, N24q, K24, G24_0, G24_1, U24_0⟩ := hQ24
  have N24 := Fr.app N23 N24q
  have z24 := K24.1
  have lt24_0 : @LT.lt Nat _ ob_24 (Array.size T24.heap) := G24_0.lt
  have lt24_1 : @LT.lt Nat _ ob_24 (Array.size T24.heap) := G24_1.lt
  refine own_Fin.step (S' := T24.setTop (mkF m 56 #[.val (.long i0), .second, .val (.int i1), .val (.int i2), .val (.long (-7046029254386353131 : Int64)), .second, .val (.int (1073741824 : Int32)), .val (.ref ob_21), .val (.ref ob_22), .val (.ref ob_23), .unset, .unset, .unset, .unset, .unset, .unset, .unset, .unset, .unset] [(.ref ob_24)])) st24 ?_
  refine own_Fin.step (S' := T24.setTop (mkF m 58 #[.val (.long i0), .second, .val (.int i1), .val (.int i2), .val (.long (-7046029254386353131 : Int64)), .second, .val (.int (1073741824 : Int32)), .val (.ref ob_21), .val (.ref ob_22), .val (.ref ob_23), .val (.ref ob_24), .unset, .unset, .unset, .unset, .unset, .unset, .unset, .unset] [])) (fun t k => XS.astore X24.here hx rfl (hb hby at_56) rfl rfl (l' := #[.val (.long i0), .second, .val (.int i1), .val (.int i2), .val (.long (-7046029254386353131 : Int64)), .second, .val (.int (1073741824 : Int32)), .val (.ref ob_21), .val (.ref ob_22), .val (.ref ob_23), .val (.ref ob_24), .unset, .unset, .unset, .unset, .unset, .unset, .unset, .unset]) rfl k) ?_
  refine own_Fin.step (S' := T24.setTop (mkF m 59 #[.val (.long i0), .second, .val (.int i1), .val (.int i2), .val (.long (-7046029254386353131 : Int64)), .second, .val (.int (1073741824 : Int32)), .val (.ref ob_21), .val (.ref ob_22), .val (.ref ob_23), .val (.ref ob_24), .unset, .unset, .unset, .unset, .unset, .unset, .unset, .unset] [(.int i2)])) (fun t k => XS.iloadN X24.here hx rfl (hb hby at_58) rfl  k) ?_
  refine own_Fin.step (S' := T24.setTop (mkF m 60 #[.val (.long i0), .second, .val (.int i1), .val (.int i2), .val (.long (-7046029254386353131 : Int64)), .second, .val (.int (1073741824 : Int32)), .val (.ref ob_21), .val (.ref ob_22), .val (.ref ob_23), .val (.ref ob_24), .unset, .unset, .unset, .unset, .unset, .unset, .unset, .unset] [(.long (i2.toInt64))])) (fun t k => XS.i2l X24.here hx rfl (hb hby at_59) rfl k) ?_
  refine own_Fin.step (S' := T24.setTop (mkF m 61 #[.val (.long i0), .second, .val (.int i1), .val (.int i2), .val (.long (-7046029254386353131 : Int64)), .second, .val (.int (1073741824 : Int32)), .val (.ref ob_21), .val (.ref ob_22), .val (.ref ob_23), .val (.ref ob_24), .unset, .unset, .unset, .unset, .unset, .unset, .unset, .unset] [(.long (-(i2.toInt64)))])) (fun t k => XS.lneg X24.here hx rfl (hb hby at_60) rfl k) ?_
  refine own_Fin.step (S' := T24.setTop (mkF m 63 #[.val (.long i0), .second, .val (.int i1), .val (.int i2), .val (.long (-7046029254386353131 : Int64)), .second, .val (.int (1073741824 : Int32)), .val (.ref ob_21), .val (.ref ob_22), .val (.ref ob_23), .val (.ref ob_24), .unset, .unset, .unset, .unset, .unset, .unset, .unset, .unset] [(.long (-7046029254386353131 : Int64)), (.long (-(i2.toInt64)))])) (fun t k => XS.lload X24.here hx rfl (hb hby at_61) rfl  k) ?_
  refine own_Fin.step (S' := T24.setTop (mkF m 64 #[.val (.long i0), .second, .val (.int i1), .val (.int i2), .val (.long (-7046029254386353131 : Int64)), .second, .val (.int (1073741824 : Int32)), .val (.ref ob_21), .val (.ref ob_22), .val (.ref ob_23), .val (.ref ob_24), .unset, .unset, .unset, .unset, .unset, .unset, .unset, .unset] [(.long ((-(i2.toInt64)) * (-7046029254386353131 : Int64)))])) (fun t k => XS.lmul X24.here hx rfl (hb hby at_63) rfl k) ?_
  refine own_Fin.step (S' := T24.setTop (mkF m 65 #[.val (.long i0), .second, .val (.int i1), .val (.int i2), .val (.long (-7046029254386353131 : Int64)), .second, .val (.int (1073741824 : Int32)), .val (.ref ob_21), .val (.ref ob_22), .val (.ref ob_23), .val (.ref ob_24), .unset, .unset, .unset, .unset, .unset, .unset, .unset, .unset] [(.int i2), (.long ((-(i2.toInt64)) * (-7046029254386353131 : Int64)))])) (fun t k => XS.iloadN X24.here hx rfl (hb hby at_64) rfl  k) ?_
  obtain ⟨_, _, ⟨T25, L25, k25, n25⟩, -, X25, ⟨Lc25, hQ25, l25, y25, zz25⟩, st25⟩ := Jvm.LawKit.callS X24 hx (y := (⟨"com/example/rulebinder/rulebinder/Draws", "of", "(JI)Lcom/example/rulebinder/rulebinder/Draws;"⟩ : MethodName)) hown (mvT hZ (hw _ (List.mem_of_getElem? (i := 2) rfl))) (mvT hZ (hw _ (List.mem_of_getElem? (i := 3) rfl))) (mvT hZ (hw _ (List.mem_of_getElem? (i := 4) rfl))) (mvT hZ (hw _ (List.mem_of_getElem? (i := 5) rfl))) (by decide) (backOf (W := 0) (rm1 l Z a0 hw [] ((-(i2.toInt64)) * (-7046029254386353131 : Int64)) i2 T24.heap n0 (by omega) ) hZ (hw _ (List.mem_of_getElem? (i := 5) rfl)) (hw _ (List.mem_of_getElem? (i := 4) rfl)) (by decide) (by decide)) (g := (mkF m 65 #[.val (.long i0), .second, .val (.int i1), .val (.int i2), .val (.long (-7046029254386353131 : Int64)), .second, .val (.int (1073741824 : Int32)), .val (.ref ob_21), .val (.ref ob_22), .val (.ref ob_23), .val (.ref ob_24), .unset, .unset, .unset, .unset, .unset, .unset, .unset, .unset] [(.int i2), (.long ((-(i2.toInt64)) * (-7046029254386353131 : Int64)))])) rfl (by rw [hml]; rfl) (argsL := [(.long ((-(i2.toInt64)) * (-7046029254386353131 : Int64))), (.int i2)]) (rest := []) (lenOf pd_0_0 rfl) rfl (by show 2 * 0 + _ ≤ _; exact Nat.le_of_eq rfl) (hb hby at_65) (fun _ _ => ⟨rfl, rfl, (by decide : 4 + 1 ≤ _), (by decide : 4 + 1 ≤ _)⟩)
  dsimp only [Pt.U, Pt.locs, Pt.cells, Pt.slots] at X25 l25 y25 zz25 st25 hQ25
  subst l25 y25 zz25
  obtain ⟨ob_25, rfl, N25q, K25, G25_0, G25_1, U25_0⟩ := hQ25
  have N25 := Fr.app N24 N25q
  have z25 := K25.1
  have lt25_0 : @LT.lt Nat _ ob_25 (Array.size T25.heap) := G25_0.lt
  have lt25_1 : @LT.lt Nat _ ob_25 (Array.size T25.heap) := G25_1.lt
  refine own_Fin.step (S' := T25.setTop (mkF m 68 #[.val (.long i0), .second, .val (.int i1), .val (.int i2), .val (.long (-7046029254386353131 : Int64)), .second, .val (.int (1073741824 : Int32)), .val (.ref ob_21), .val (.ref ob_22), .val (.ref ob_23), .val (.ref ob_24), .unset, .unset, .unset, .unset, .unset, .unset, .unset, .unset] [(.ref ob_25)])) st25 ?_
  refine own_Fin.step (S' := T25.setTop (mkF m 70 #[.val (.long i0), .second, .val (.int i1), .val (.int i2), .val (.long (-7046029254386353131 : Int64)), .second, .val (.int (1073741824 : Int32)), .val (.ref ob_21), .val (.ref ob_22), .val (.ref ob_23), .val (.ref ob_24), .val (.ref ob_25), .unset, .unset, .unset, .unset, .unset, .unset, .unset] [])) (fun t k => XS.astore X25.here hx rfl (hb hby at_68) rfl rfl (l' := #[.val (.long i0), .second, .val (.int i1), .val (.int i2), .val (.long (-7046029254386353131 : Int64)), .second, .val (.int (1073741824 : Int32)), .val (.ref ob_21), .val (.ref ob_22), .val (.ref ob_23), .val (.ref ob_24), .val (.ref ob_25), .unset, .unset, .unset, .unset, .unset, .unset, .unset]) rfl k) ?_
  refine own_Fin.step (S' := T25.setTop (mkF m 72 #[.val (.long i0), .second, .val (.int i1), .val (.int i2), .val (.long (-7046029254386353131 : Int64)), .second, .val (.int (1073741824 : Int32)), .val (.ref ob_21), .val (.ref ob_22), .val (.ref ob_23), .val (.ref ob_24), .val (.ref ob_25), .unset, .unset, .unset, .unset, .unset, .unset, .unset] [(.ref ob_21)])) (fun t k => XS.aload X25.here hx rfl (hb hby at_70) rfl rfl  k) ?_
  refine own_Fin.step (S' := T25.setTop (mkF m 74 #[.val (.long i0), .second, .val (.int i1), .val (.int i2), .val (.long (-7046029254386353131 : Int64)), .second, .val (.int (1073741824 : Int32)), .val (.ref ob_21), .val (.ref ob_22), .val (.ref ob_23), .val (.ref ob_24), .val (.ref ob_25), .unset, .unset, .unset, .unset, .unset, .unset, .unset] [(.int (1073741824 : Int32)), (.ref ob_21)])) (fun t k => XS.iload X25.here hx rfl (hb hby at_72) rfl  k) ?_
  have f26 : Exa Z T25.heap ob_21 "com/example/rulebinder/rulebinder/Draws" := (Exa.keep (Exa.keep (Exa.keep (Exa.keep G21_0 K22) K23) K24) K25)
  have f27 : Fld Z T25.heap ob_21 "com/example/rulebinder/rulebinder/Draws" "state" "J" (.long (own_mix (i0 + ((i1.toInt64) + (1 : Int64)) * (-7046029254386353131 : Int64)))) := ((((G21_1.keep K22 nin0).keep K23 nin0).keep K24 nin0).keep K25 nin0)
  obtain ⟨cq28, kq28, q28a, q28b, q28c⟩ := isOf hZ rfl f26
  obtain ⟨_, _, ⟨T28, L28, k28, n28⟩, -, X28, ⟨Lc28, hQ28, l28, y28, zz28⟩, st28⟩ := X25.virtualBack hx (y := (⟨"com/example/rulebinder/rulebinder/Draws", "nextInt", "(I)I"⟩ : MethodName)) (z := (⟨"com/example/rulebinder/rulebinder/Draws", "nextInt", "(I)I"⟩ : MethodName)) hown (mvT hZ (hw _ (List.mem_of_getElem? (i := 26) rfl))) (mvT hZ (hw _ (List.mem_of_getElem? (i := 27) rfl))) (notFace_of_selects (args := #[]) (mvT hZ (hw _ (List.mem_of_getElem? (i := 29) rfl)))) (mvT hZ (hw _ (List.mem_of_getElem? (i := 29) rfl))) (mvT hZ (hw _ (List.mem_of_getElem? (i := 28) rfl))) (by decide) (backOf (W := 0) (rm6 l Z a0 hw [] ob_21 (own_mix (i0 + ((i1.toInt64) + (1 : Int64)) * (-7046029254386353131 : Int64))) T25.heap n0 (by omega) f26 f27 (by omega)) hZ (hw _ (List.mem_of_getElem? (i := 30) rfl)) (hw _ (List.mem_of_getElem? (i := 4) rfl)) (by decide) (by decide)) q28a q28c (g := (mkF m 74 #[.val (.long i0), .second, .val (.int i1), .val (.int i2), .val (.long (-7046029254386353131 : Int64)), .second, .val (.int (1073741824 : Int32)), .val (.ref ob_21), .val (.ref ob_22), .val (.ref ob_23), .val (.ref ob_24), .val (.ref ob_25), .unset, .unset, .unset, .unset, .unset, .unset, .unset] [(.int (1073741824 : Int32)), (.ref ob_21)])) rfl (by rw [hml]; rfl) (Steps.refl _) (argsL := [(.int (1073741824 : Int32))]) (rest := []) (lenOf pd_0_2 rfl) rfl (by show 2 * 0 + _ ≤ _; exact Nat.le_of_eq rfl) (hb hby at_74) (fun _ _ => ⟨rfl, rfl, (by decide : 5 + 0 ≤ _), (by decide : 5 + 0 ≤ _)⟩)
  dsimp only [Pt.U, Pt.locs, Pt.cells, Pt.slots] at X28 l28 y28 zz28 st28 hQ28
  subst l28 y28 zz28
  obtain ⟨rfl, N28q, K28, G28_0⟩ := hQ28
  have N28 := Fr.app N25 N28q
  have z28 := K28.1
  have lt28_0 : @LT.lt Nat _ ob_21 (Array.size T28.heap) := G28_0.lt
  refine own_Fin.trans (S' := T28.setTop (mkF m 77 #[.val (.long i0), .second, .val (.int i1), .val (.int i2), .val (.long (-7046029254386353131 : Int64)), .second, .val (.int (1073741824 : Int32)), .val (.ref ob_21), .val (.ref ob_22), .val (.ref ob_23), .val (.ref ob_24), .val (.ref ob_25), .unset, .unset, .unset, .unset, .unset, .unset, .unset] [(.int (own_ni (own_mix ((own_mix (i0 + ((i1.toInt64) + (1 : Int64)) * (-7046029254386353131 : Int64))) + (-7046029254386353131 : Int64)))))])) st28 ?_
  obtain ⟨v77, hv77⟩ : ∃ z : Int32, z = (own_ni (own_mix ((own_mix (i0 + ((i1.toInt64) + (1 : Int64)) * (-7046029254386353131 : Int64))) + (-7046029254386353131 : Int64)))) := ⟨_, rfl⟩
  rw [← hv77]
  refine own_Fin.step (S' := T28.setTop (mkF m 79 #[.val (.long i0), .second, .val (.int i1), .val (.int i2), .val (.long (-7046029254386353131 : Int64)), .second, .val (.int (1073741824 : Int32)), .val (.ref ob_21), .val (.ref ob_22), .val (.ref ob_23), .val (.ref ob_24), .val (.ref ob_25), .val (.int v77), .unset, .unset, .unset, .unset, .unset, .unset] [])) (fun t k => XS.istore X28.here hx rfl (hb hby at_77) rfl (l' := #[.val (.long i0), .second, .val (.int i1), .val (.int i2), .val (.long (-7046029254386353131 : Int64)), .second, .val (.int (1073741824 : Int32)), .val (.ref ob_21), .val (.ref ob_22), .val (.ref ob_23), .val (.ref ob_24), .val (.ref ob_25), .val (.int v77), .unset, .unset, .unset, .unset, .unset, .unset]) rfl k) ?_
  refine own_Fin.step (S' := T28.setTop (mkF m 81 #[.val (.long i0), .second, .val (.int i1), .val (.int i2), .val (.long (-7046029254386353131 : Int64)), .second, .val (.int (1073741824 : Int32)), .val (.ref ob_21), .val (.ref ob_22), .val (.ref ob_23), .val (.ref ob_24), .val (.ref ob_25), .val (.int v77), .unset, .unset, .unset, .unset, .unset, .unset] [(.ref ob_22)])) (fun t k => XS.aload X28.here hx rfl (hb hby at_79) rfl rfl  k) ?_
  refine own_Fin.step (S' := T28.setTop (mkF m 83 #[.val (.long i0), .second, .val (.int i1), .val (.int i2), .val (.long (-7046029254386353131 : Int64)), .second, .val (.int (1073741824 : Int32)), .val (.ref ob_21), .val (.ref ob_22), .val (.ref ob_23), .val (.ref ob_24), .val (.ref ob_25), .val (.int v77), .unset, .unset, .unset, .unset, .unset, .unset] [(.int (1073741824 : Int32)), (.ref ob_22)])) (fun t k => XS.iload X28.here hx rfl (hb hby at_81) rfl  k) ?_
  have f29 : Exa Z T28.heap ob_22 "com/example/rulebinder/rulebinder/Draws" := (Exa.keep (Exa.keep (Exa.keep (Exa.keep G22_0 K23) K24) K25) K28)
  have f30 : Fld Z T28.heap ob_22 "com/example/rulebinder/rulebinder/Draws" "state" "J" (.long (own_mix ((i0 + (((i1.toInt64) - (i2.toInt64)) * (-7046029254386353131 : Int64))) + ((i2.toInt64) + (1 : Int64)) * (-7046029254386353131 : Int64)))) := ((((G22_1.keep K23 nin0).keep K24 nin0).keep K25 nin0).keep K28 (ninS (show @Ne Nat ob_22 ob_21 from by omega) nin0))
  obtain ⟨cq31, kq31, q31a, q31b, q31c⟩ := isOf hZ rfl f29
  obtain ⟨_, _, ⟨T31, L31, k31, n31⟩, -, X31, ⟨Lc31, hQ31, l31, y31, zz31⟩, st31⟩ := X28.virtualBack hx (y := (⟨"com/example/rulebinder/rulebinder/Draws", "nextInt", "(I)I"⟩ : MethodName)) (z := (⟨"com/example/rulebinder/rulebinder/Draws", "nextInt", "(I)I"⟩ : MethodName)) hown (mvT hZ (hw _ (List.mem_of_getElem? (i := 26) rfl))) (mvT hZ (hw _ (List.mem_of_getElem? (i := 27) rfl))) (notFace_of_selects (args := #[]) (mvT hZ (hw _ (List.mem_of_getElem? (i := 29) rfl)))) (mvT hZ (hw _ (List.mem_of_getElem? (i := 29) rfl))) (mvT hZ (hw _ (List.mem_of_getElem? (i := 28) rfl))) (by decide) (backOf (W := 0) (rm6 l Z a0 hw [] ob_22 (own_mix ((i0 + (((i1.toInt64) - (i2.toInt64)) * (-7046029254386353131 : Int64))) + ((i2.toInt64) + (1 : Int64)) * (-7046029254386353131 : Int64))) T28.heap n0 (by omega) f29 f30 (by omega)) hZ (hw _ (List.mem_of_getElem? (i := 30) rfl)) (hw _ (List.mem_of_getElem? (i := 4) rfl)) (by decide) (by decide)) q31a q31c (g := (mkF m 83 #[.val (.long i0), .second, .val (.int i1), .val (.int i2), .val (.long (-7046029254386353131 : Int64)), .second, .val (.int (1073741824 : Int32)), .val (.ref ob_21), .val (.ref ob_22), .val (.ref ob_23), .val (.ref ob_24), .val (.ref ob_25), .val (.int v77), .unset, .unset, .unset, .unset, .unset, .unset] [(.int (1073741824 : Int32)), (.ref ob_22)])) rfl (by rw [hml]; rfl) (Steps.refl _) (argsL := [(.int (1073741824 : Int32))]) (rest := []) (lenOf pd_0_2 rfl) rfl (by show 2 * 0 + _ ≤ _; exact Nat.le_of_eq rfl) (hb hby at_83) (fun _ _ => ⟨rfl, rfl, (by decide : 5 + 0 ≤ _), (by decide : 5 + 0 ≤ _)⟩)
  dsimp only [Pt.U, Pt.locs, Pt.cells, Pt.slots] at X31 l31 y31 zz31 st31 hQ31
  subst l31 y31 zz31
  obtain ⟨rfl, N31q, K31, G31_0⟩ := hQ31
  have N31 := Fr.app N28 N31q
  have z31 := K31.1
  have lt31_0 : @LT.lt Nat _ ob_22 (Array.size T31.heap) := G31_0.lt
  refine own_Fin.trans (S' := T31.setTop (mkF m 86 #[.val (.long i0), .second, .val (.int i1), .val (.int i2), .val (.long (-7046029254386353131 : Int64)), .second, .val (.int (1073741824 : Int32)), .val (.ref ob_21), .val (.ref ob_22), .val (.ref ob_23), .val (.ref ob_24), .val (.ref ob_25), .val (.int v77), .unset, .unset, .unset, .unset, .unset, .unset] [(.int (own_ni (own_mix ((own_mix ((i0 + (((i1.toInt64) - (i2.toInt64)) * (-7046029254386353131 : Int64))) + ((i2.toInt64) + (1 : Int64)) * (-7046029254386353131 : Int64))) + (-7046029254386353131 : Int64)))))])) st31 ?_
  obtain ⟨v86, hv86⟩ : ∃ z : Int32, z = (own_ni (own_mix ((own_mix ((i0 + (((i1.toInt64) - (i2.toInt64)) * (-7046029254386353131 : Int64))) + ((i2.toInt64) + (1 : Int64)) * (-7046029254386353131 : Int64))) + (-7046029254386353131 : Int64)))) := ⟨_, rfl⟩
  rw [← hv86]
  refine own_Fin.step (S' := T31.setTop (mkF m 88 #[.val (.long i0), .second, .val (.int i1), .val (.int i2), .val (.long (-7046029254386353131 : Int64)), .second, .val (.int (1073741824 : Int32)), .val (.ref ob_21), .val (.ref ob_22), .val (.ref ob_23), .val (.ref ob_24), .val (.ref ob_25), .val (.int v77), .val (.int v86), .unset, .unset, .unset, .unset, .unset] [])) (fun t k => XS.istore X31.here hx rfl (hb hby at_86) rfl (l' := #[.val (.long i0), .second, .val (.int i1), .val (.int i2), .val (.long (-7046029254386353131 : Int64)), .second, .val (.int (1073741824 : Int32)), .val (.ref ob_21), .val (.ref ob_22), .val (.ref ob_23), .val (.ref ob_24), .val (.ref ob_25), .val (.int v77), .val (.int v86), .unset, .unset, .unset, .unset, .unset]) rfl k) ?_
  refine own_Fin.step (S' := T31.setTop (mkF m 90 #[.val (.long i0), .second, .val (.int i1), .val (.int i2), .val (.long (-7046029254386353131 : Int64)), .second, .val (.int (1073741824 : Int32)), .val (.ref ob_21), .val (.ref ob_22), .val (.ref ob_23), .val (.ref ob_24), .val (.ref ob_25), .val (.int v77), .val (.int v86), .unset, .unset, .unset, .unset, .unset] [(.ref ob_23)])) (fun t k => XS.aload X31.here hx rfl (hb hby at_88) rfl rfl  k) ?_
  refine own_Fin.step (S' := T31.setTop (mkF m 92 #[.val (.long i0), .second, .val (.int i1), .val (.int i2), .val (.long (-7046029254386353131 : Int64)), .second, .val (.int (1073741824 : Int32)), .val (.ref ob_21), .val (.ref ob_22), .val (.ref ob_23), .val (.ref ob_24), .val (.ref ob_25), .val (.int v77), .val (.int v86), .unset, .unset, .unset, .unset, .unset] [(.int (1073741824 : Int32)), (.ref ob_23)])) (fun t k => XS.iload X31.here hx rfl (hb hby at_90) rfl  k) ?_
  have f32 : Exa Z T31.heap ob_23 "com/example/rulebinder/rulebinder/Draws" := (Exa.keep (Exa.keep (Exa.keep (Exa.keep G23_0 K24) K25) K28) K31)
  have f33 : Fld Z T31.heap ob_23 "com/example/rulebinder/rulebinder/Draws" "state" "J" (.long (own_mix ((i0 + ((i1.toInt64) * (-7046029254386353131 : Int64))) + (((0 : Int32).toInt64) + (1 : Int64)) * (-7046029254386353131 : Int64)))) := ((((G23_1.keep K24 nin0).keep K25 nin0).keep K28 (ninS (show @Ne Nat ob_23 ob_21 from by omega) nin0)).keep K31 (ninS (show @Ne Nat ob_23 ob_22 from by omega) nin0))
  obtain ⟨cq34, kq34, q34a, q34b, q34c⟩ := isOf hZ rfl f32
  obtain ⟨_, _, ⟨T34, L34, k34, n34⟩, -, X34, ⟨Lc34, hQ34, l34, y34, zz34⟩, st34⟩ := X31.virtualBack hx (y := (⟨"com/example/rulebinder/rulebinder/Draws", "nextInt", "(I)I"⟩ : MethodName)) (z := (⟨"com/example/rulebinder/rulebinder/Draws", "nextInt", "(I)I"⟩ : MethodName)) hown (mvT hZ (hw _ (List.mem_of_getElem? (i := 26) rfl))) (mvT hZ (hw _ (List.mem_of_getElem? (i := 27) rfl))) (notFace_of_selects (args := #[]) (mvT hZ (hw _ (List.mem_of_getElem? (i := 29) rfl)))) (mvT hZ (hw _ (List.mem_of_getElem? (i := 29) rfl))) (mvT hZ (hw _ (List.mem_of_getElem? (i := 28) rfl))) (by decide) (backOf (W := 0) (rm6 l Z a0 hw [] ob_23 (own_mix ((i0 + ((i1.toInt64) * (-7046029254386353131 : Int64))) + (((0 : Int32).toInt64) + (1 : Int64)) * (-7046029254386353131 : Int64))) T31.heap n0 (by omega) f32 f33 (by omega)) hZ (hw _ (List.mem_of_getElem? (i := 30) rfl)) (hw _ (List.mem_of_getElem? (i := 4) rfl)) (by decide) (by decide)) q34a q34c (g := (mkF m 92 #[.val (.long i0), .second, .val (.int i1), .val (.int i2), .val (.long (-7046029254386353131 : Int64)), .second, .val (.int (1073741824 : Int32)), .val (.ref ob_21), .val (.ref ob_22), .val (.ref ob_23), .val (.ref ob_24), .val (.ref ob_25), .val (.int v77), .val (.int v86), .unset, .unset, .unset, .unset, .unset] [(.int (1073741824 : Int32)), (.ref ob_23)])) rfl (by rw [hml]; rfl) (Steps.refl _) (argsL := [(.int (1073741824 : Int32))]) (rest := []) (lenOf pd_0_2 rfl) rfl (by show 2 * 0 + _ ≤ _; exact Nat.le_of_eq rfl) (hb hby at_92) (fun _ _ => ⟨rfl, rfl, (by decide : 5 + 0 ≤ _), (by decide : 5 + 0 ≤ _)⟩)
  dsimp only [Pt.U, Pt.locs, Pt.cells, Pt.slots] at X34 l34 y34 zz34 st34 hQ34
  subst l34 y34 zz34
  obtain ⟨rfl, N34q, K34, G34_0⟩ := hQ34
  have N34 := Fr.app N31 N34q
  have z34 := K34.1
  have lt34_0 : @LT.lt Nat _ ob_23 (Array.size T34.heap) := G34_0.lt
  refine own_Fin.trans (S' := T34.setTop (mkF m 95 #[.val (.long i0), .second, .val (.int i1), .val (.int i2), .val (.long (-7046029254386353131 : Int64)), .second, .val (.int (1073741824 : Int32)), .val (.ref ob_21), .val (.ref ob_22), .val (.ref ob_23), .val (.ref ob_24), .val (.ref ob_25), .val (.int v77), .val (.int v86), .unset, .unset, .unset, .unset, .unset] [(.int (own_ni (own_mix ((own_mix ((i0 + ((i1.toInt64) * (-7046029254386353131 : Int64))) + (((0 : Int32).toInt64) + (1 : Int64)) * (-7046029254386353131 : Int64))) + (-7046029254386353131 : Int64)))))])) st34 ?_
  obtain ⟨v95, hv95⟩ : ∃ z : Int32, z = (own_ni (own_mix ((own_mix ((i0 + ((i1.toInt64) * (-7046029254386353131 : Int64))) + (((0 : Int32).toInt64) + (1 : Int64)) * (-7046029254386353131 : Int64))) + (-7046029254386353131 : Int64)))) := ⟨_, rfl⟩
  rw [← hv95]
  refine own_Fin.step (S' := T34.setTop (mkF m 97 #[.val (.long i0), .second, .val (.int i1), .val (.int i2), .val (.long (-7046029254386353131 : Int64)), .second, .val (.int (1073741824 : Int32)), .val (.ref ob_21), .val (.ref ob_22), .val (.ref ob_23), .val (.ref ob_24), .val (.ref ob_25), .val (.int v77), .val (.int v86), .val (.int v95), .unset, .unset, .unset, .unset] [])) (fun t k => XS.istore X34.here hx rfl (hb hby at_95) rfl (l' := #[.val (.long i0), .second, .val (.int i1), .val (.int i2), .val (.long (-7046029254386353131 : Int64)), .second, .val (.int (1073741824 : Int32)), .val (.ref ob_21), .val (.ref ob_22), .val (.ref ob_23), .val (.ref ob_24), .val (.ref ob_25), .val (.int v77), .val (.int v86), .val (.int v95), .unset, .unset, .unset, .unset]) rfl k) ?_
  refine own_Fin.step (S' := T34.setTop (mkF m 99 #[.val (.long i0), .second, .val (.int i1), .val (.int i2), .val (.long (-7046029254386353131 : Int64)), .second, .val (.int (1073741824 : Int32)), .val (.ref ob_21), .val (.ref ob_22), .val (.ref ob_23), .val (.ref ob_24), .val (.ref ob_25), .val (.int v77), .val (.int v86), .val (.int v95), .unset, .unset, .unset, .unset] [(.ref ob_24)])) (fun t k => XS.aload X34.here hx rfl (hb hby at_97) rfl rfl  k) ?_
  refine own_Fin.step (S' := T34.setTop (mkF m 101 #[.val (.long i0), .second, .val (.int i1), .val (.int i2), .val (.long (-7046029254386353131 : Int64)), .second, .val (.int (1073741824 : Int32)), .val (.ref ob_21), .val (.ref ob_22), .val (.ref ob_23), .val (.ref ob_24), .val (.ref ob_25), .val (.int v77), .val (.int v86), .val (.int v95), .unset, .unset, .unset, .unset] [(.int (1073741824 : Int32)), (.ref ob_24)])) (fun t k => XS.iload X34.here hx rfl (hb hby at_99) rfl  k) ?_
  have f35 : Exa Z T34.heap ob_24 "com/example/rulebinder/rulebinder/Draws" := (Exa.keep (Exa.keep (Exa.keep (Exa.keep G24_0 K25) K28) K31) K34)
  have f36 : Fld Z T34.heap ob_24 "com/example/rulebinder/rulebinder/Draws" "state" "J" (.long (own_mix (((-((i2.toInt64) + (1 : Int64))) * (-7046029254386353131 : Int64)) + ((i2.toInt64) + (1 : Int64)) * (-7046029254386353131 : Int64)))) := ((((G24_1.keep K25 nin0).keep K28 (ninS (show @Ne Nat ob_24 ob_21 from by omega) nin0)).keep K31 (ninS (show @Ne Nat ob_24 ob_22 from by omega) nin0)).keep K34 (ninS (show @Ne Nat ob_24 ob_23 from by omega) nin0))
  obtain ⟨cq37, kq37, q37a, q37b, q37c⟩ := isOf hZ rfl f35
  obtain ⟨_, _, ⟨T37, L37, k37, n37⟩, -, X37, ⟨Lc37, hQ37, l37, y37, zz37⟩, st37⟩ := X34.virtualBack hx (y := (⟨"com/example/rulebinder/rulebinder/Draws", "nextInt", "(I)I"⟩ : MethodName)) (z := (⟨"com/example/rulebinder/rulebinder/Draws", "nextInt", "(I)I"⟩ : MethodName)) hown (mvT hZ (hw _ (List.mem_of_getElem? (i := 26) rfl))) (mvT hZ (hw _ (List.mem_of_getElem? (i := 27) rfl))) (notFace_of_selects (args := #[]) (mvT hZ (hw _ (List.mem_of_getElem? (i := 29) rfl)))) (mvT hZ (hw _ (List.mem_of_getElem? (i := 29) rfl))) (mvT hZ (hw _ (List.mem_of_getElem? (i := 28) rfl))) (by decide) (backOf (W := 0) (rm6 l Z a0 hw [] ob_24 (own_mix (((-((i2.toInt64) + (1 : Int64))) * (-7046029254386353131 : Int64)) + ((i2.toInt64) + (1 : Int64)) * (-7046029254386353131 : Int64))) T34.heap n0 (by omega) f35 f36 (by omega)) hZ (hw _ (List.mem_of_getElem? (i := 30) rfl)) (hw _ (List.mem_of_getElem? (i := 4) rfl)) (by decide) (by decide)) q37a q37c (g := (mkF m 101 #[.val (.long i0), .second, .val (.int i1), .val (.int i2), .val (.long (-7046029254386353131 : Int64)), .second, .val (.int (1073741824 : Int32)), .val (.ref ob_21), .val (.ref ob_22), .val (.ref ob_23), .val (.ref ob_24), .val (.ref ob_25), .val (.int v77), .val (.int v86), .val (.int v95), .unset, .unset, .unset, .unset] [(.int (1073741824 : Int32)), (.ref ob_24)])) rfl (by rw [hml]; rfl) (Steps.refl _) (argsL := [(.int (1073741824 : Int32))]) (rest := []) (lenOf pd_0_2 rfl) rfl (by show 2 * 0 + _ ≤ _; exact Nat.le_of_eq rfl) (hb hby at_101) (fun _ _ => ⟨rfl, rfl, (by decide : 5 + 0 ≤ _), (by decide : 5 + 0 ≤ _)⟩)
  dsimp only [Pt.U, Pt.locs, Pt.cells, Pt.slots] at X37 l37 y37 zz37 st37 hQ37
  subst l37 y37 zz37
  obtain ⟨rfl, N37q, K37, G37_0⟩ := hQ37
  have N37 := Fr.app N34 N37q
  have z37 := K37.1
  have lt37_0 : @LT.lt Nat _ ob_24 (Array.size T37.heap) := G37_0.lt
  refine own_Fin.trans (S' := T37.setTop (mkF m 104 #[.val (.long i0), .second, .val (.int i1), .val (.int i2), .val (.long (-7046029254386353131 : Int64)), .second, .val (.int (1073741824 : Int32)), .val (.ref ob_21), .val (.ref ob_22), .val (.ref ob_23), .val (.ref ob_24), .val (.ref ob_25), .val (.int v77), .val (.int v86), .val (.int v95), .unset, .unset, .unset, .unset] [(.int (own_ni (own_mix ((own_mix (((-((i2.toInt64) + (1 : Int64))) * (-7046029254386353131 : Int64)) + ((i2.toInt64) + (1 : Int64)) * (-7046029254386353131 : Int64))) + (-7046029254386353131 : Int64)))))])) st37 ?_
  obtain ⟨v104, hv104⟩ : ∃ z : Int32, z = (own_ni (own_mix ((own_mix (((-((i2.toInt64) + (1 : Int64))) * (-7046029254386353131 : Int64)) + ((i2.toInt64) + (1 : Int64)) * (-7046029254386353131 : Int64))) + (-7046029254386353131 : Int64)))) := ⟨_, rfl⟩
  rw [← hv104]
  refine own_Fin.step (S' := T37.setTop (mkF m 106 #[.val (.long i0), .second, .val (.int i1), .val (.int i2), .val (.long (-7046029254386353131 : Int64)), .second, .val (.int (1073741824 : Int32)), .val (.ref ob_21), .val (.ref ob_22), .val (.ref ob_23), .val (.ref ob_24), .val (.ref ob_25), .val (.int v77), .val (.int v86), .val (.int v95), .val (.int v104), .unset, .unset, .unset] [])) (fun t k => XS.istore X37.here hx rfl (hb hby at_104) rfl (l' := #[.val (.long i0), .second, .val (.int i1), .val (.int i2), .val (.long (-7046029254386353131 : Int64)), .second, .val (.int (1073741824 : Int32)), .val (.ref ob_21), .val (.ref ob_22), .val (.ref ob_23), .val (.ref ob_24), .val (.ref ob_25), .val (.int v77), .val (.int v86), .val (.int v95), .val (.int v104), .unset, .unset, .unset]) rfl k) ?_
  refine own_Fin.step (S' := T37.setTop (mkF m 108 #[.val (.long i0), .second, .val (.int i1), .val (.int i2), .val (.long (-7046029254386353131 : Int64)), .second, .val (.int (1073741824 : Int32)), .val (.ref ob_21), .val (.ref ob_22), .val (.ref ob_23), .val (.ref ob_24), .val (.ref ob_25), .val (.int v77), .val (.int v86), .val (.int v95), .val (.int v104), .unset, .unset, .unset] [(.ref ob_25)])) (fun t k => XS.aload X37.here hx rfl (hb hby at_106) rfl rfl  k) ?_
  refine own_Fin.step (S' := T37.setTop (mkF m 110 #[.val (.long i0), .second, .val (.int i1), .val (.int i2), .val (.long (-7046029254386353131 : Int64)), .second, .val (.int (1073741824 : Int32)), .val (.ref ob_21), .val (.ref ob_22), .val (.ref ob_23), .val (.ref ob_24), .val (.ref ob_25), .val (.int v77), .val (.int v86), .val (.int v95), .val (.int v104), .unset, .unset, .unset] [(.int (1073741824 : Int32)), (.ref ob_25)])) (fun t k => XS.iload X37.here hx rfl (hb hby at_108) rfl  k) ?_
  have f38 : Exa Z T37.heap ob_25 "com/example/rulebinder/rulebinder/Draws" := (Exa.keep (Exa.keep (Exa.keep (Exa.keep G25_0 K28) K31) K34) K37)
  have f39 : Fld Z T37.heap ob_25 "com/example/rulebinder/rulebinder/Draws" "state" "J" (.long (own_mix (((-(i2.toInt64)) * (-7046029254386353131 : Int64)) + ((i2.toInt64) + (1 : Int64)) * (-7046029254386353131 : Int64)))) := ((((G25_1.keep K28 (ninS (show @Ne Nat ob_25 ob_21 from by omega) nin0)).keep K31 (ninS (show @Ne Nat ob_25 ob_22 from by omega) nin0)).keep K34 (ninS (show @Ne Nat ob_25 ob_23 from by omega) nin0)).keep K37 (ninS (show @Ne Nat ob_25 ob_24 from by omega) nin0))
  obtain ⟨cq40, kq40, q40a, q40b, q40c⟩ := isOf hZ rfl f38
  obtain ⟨_, _, ⟨T40, L40, k40, n40⟩, -, X40, ⟨Lc40, hQ40, l40, y40, zz40⟩, st40⟩ := X37.virtualBack hx (y := (⟨"com/example/rulebinder/rulebinder/Draws", "nextInt", "(I)I"⟩ : MethodName)) (z := (⟨"com/example/rulebinder/rulebinder/Draws", "nextInt", "(I)I"⟩ : MethodName)) hown (mvT hZ (hw _ (List.mem_of_getElem? (i := 26) rfl))) (mvT hZ (hw _ (List.mem_of_getElem? (i := 27) rfl))) (notFace_of_selects (args := #[]) (mvT hZ (hw _ (List.mem_of_getElem? (i := 29) rfl)))) (mvT hZ (hw _ (List.mem_of_getElem? (i := 29) rfl))) (mvT hZ (hw _ (List.mem_of_getElem? (i := 28) rfl))) (by decide) (backOf (W := 0) (rm6 l Z a0 hw [] ob_25 (own_mix (((-(i2.toInt64)) * (-7046029254386353131 : Int64)) + ((i2.toInt64) + (1 : Int64)) * (-7046029254386353131 : Int64))) T37.heap n0 (by omega) f38 f39 (by omega)) hZ (hw _ (List.mem_of_getElem? (i := 30) rfl)) (hw _ (List.mem_of_getElem? (i := 4) rfl)) (by decide) (by decide)) q40a q40c (g := (mkF m 110 #[.val (.long i0), .second, .val (.int i1), .val (.int i2), .val (.long (-7046029254386353131 : Int64)), .second, .val (.int (1073741824 : Int32)), .val (.ref ob_21), .val (.ref ob_22), .val (.ref ob_23), .val (.ref ob_24), .val (.ref ob_25), .val (.int v77), .val (.int v86), .val (.int v95), .val (.int v104), .unset, .unset, .unset] [(.int (1073741824 : Int32)), (.ref ob_25)])) rfl (by rw [hml]; rfl) (Steps.refl _) (argsL := [(.int (1073741824 : Int32))]) (rest := []) (lenOf pd_0_2 rfl) rfl (by show 2 * 0 + _ ≤ _; exact Nat.le_of_eq rfl) (hb hby at_110) (fun _ _ => ⟨rfl, rfl, (by decide : 5 + 0 ≤ _), (by decide : 5 + 0 ≤ _)⟩)
  dsimp only [Pt.U, Pt.locs, Pt.cells, Pt.slots] at X40 l40 y40 zz40 st40 hQ40
  subst l40 y40 zz40
  obtain ⟨rfl, N40q, K40, G40_0⟩ := hQ40
  have N40 := Fr.app N37 N40q
  have z40 := K40.1
  have lt40_0 : @LT.lt Nat _ ob_25 (Array.size T40.heap) := G40_0.lt
  refine own_Fin.trans (S' := T40.setTop (mkF m 113 #[.val (.long i0), .second, .val (.int i1), .val (.int i2), .val (.long (-7046029254386353131 : Int64)), .second, .val (.int (1073741824 : Int32)), .val (.ref ob_21), .val (.ref ob_22), .val (.ref ob_23), .val (.ref ob_24), .val (.ref ob_25), .val (.int v77), .val (.int v86), .val (.int v95), .val (.int v104), .unset, .unset, .unset] [(.int (own_ni (own_mix ((own_mix (((-(i2.toInt64)) * (-7046029254386353131 : Int64)) + ((i2.toInt64) + (1 : Int64)) * (-7046029254386353131 : Int64))) + (-7046029254386353131 : Int64)))))])) st40 ?_
  obtain ⟨v113, hv113⟩ : ∃ z : Int32, z = (own_ni (own_mix ((own_mix (((-(i2.toInt64)) * (-7046029254386353131 : Int64)) + ((i2.toInt64) + (1 : Int64)) * (-7046029254386353131 : Int64))) + (-7046029254386353131 : Int64)))) := ⟨_, rfl⟩
  rw [← hv113]
  refine own_Fin.step (S' := T40.setTop (mkF m 115 #[.val (.long i0), .second, .val (.int i1), .val (.int i2), .val (.long (-7046029254386353131 : Int64)), .second, .val (.int (1073741824 : Int32)), .val (.ref ob_21), .val (.ref ob_22), .val (.ref ob_23), .val (.ref ob_24), .val (.ref ob_25), .val (.int v77), .val (.int v86), .val (.int v95), .val (.int v104), .val (.int v113), .unset, .unset] [])) (fun t k => XS.istore X40.here hx rfl (hb hby at_113) rfl (l' := #[.val (.long i0), .second, .val (.int i1), .val (.int i2), .val (.long (-7046029254386353131 : Int64)), .second, .val (.int (1073741824 : Int32)), .val (.ref ob_21), .val (.ref ob_22), .val (.ref ob_23), .val (.ref ob_24), .val (.ref ob_25), .val (.int v77), .val (.int v86), .val (.int v95), .val (.int v104), .val (.int v113), .unset, .unset]) rfl k) ?_
  refine own_Fin.step (S' := T40.setTop (mkF m 117 #[.val (.long i0), .second, .val (.int i1), .val (.int i2), .val (.long (-7046029254386353131 : Int64)), .second, .val (.int (1073741824 : Int32)), .val (.ref ob_21), .val (.ref ob_22), .val (.ref ob_23), .val (.ref ob_24), .val (.ref ob_25), .val (.int v77), .val (.int v86), .val (.int v95), .val (.int v104), .val (.int v113), .unset, .unset] [(.int (1032775383 : Int32))])) (X40.ldcInt hx hown (mvT hZ (hw _ (List.mem_of_getElem? (i := 36) rfl))) (g := (mkF m 115 #[.val (.long i0), .second, .val (.int i1), .val (.int i2), .val (.long (-7046029254386353131 : Int64)), .second, .val (.int (1073741824 : Int32)), .val (.ref ob_21), .val (.ref ob_22), .val (.ref ob_23), .val (.ref ob_24), .val (.ref ob_25), .val (.int v77), .val (.int v86), .val (.int v95), .val (.int v104), .val (.int v113), .unset, .unset] [])) rfl (hb hby at_115)) ?_
  refine own_Fin.step (S' := T40.setTop (mkF m 119 #[.val (.long i0), .second, .val (.int i1), .val (.int i2), .val (.long (-7046029254386353131 : Int64)), .second, .val (.int (1073741824 : Int32)), .val (.ref ob_21), .val (.ref ob_22), .val (.ref ob_23), .val (.ref ob_24), .val (.ref ob_25), .val (.int v77), .val (.int v86), .val (.int v95), .val (.int v104), .val (.int v113), .val (.int (1032775383 : Int32)), .unset] [])) (fun t k => XS.istore X40.here hx rfl (hb hby at_117) rfl (l' := #[.val (.long i0), .second, .val (.int i1), .val (.int i2), .val (.long (-7046029254386353131 : Int64)), .second, .val (.int (1073741824 : Int32)), .val (.ref ob_21), .val (.ref ob_22), .val (.ref ob_23), .val (.ref ob_24), .val (.ref ob_25), .val (.int v77), .val (.int v86), .val (.int v95), .val (.int v104), .val (.int v113), .val (.int (1032775383 : Int32)), .unset]) rfl k) ?_
  refine own_Fin.step (S' := T40.setTop (mkF m 121 #[.val (.long i0), .second, .val (.int i1), .val (.int i2), .val (.long (-7046029254386353131 : Int64)), .second, .val (.int (1073741824 : Int32)), .val (.ref ob_21), .val (.ref ob_22), .val (.ref ob_23), .val (.ref ob_24), .val (.ref ob_25), .val (.int v77), .val (.int v86), .val (.int v95), .val (.int v104), .val (.int v113), .val (.int (1032775383 : Int32)), .unset] [(.int (646758199 : Int32))])) (X40.ldcInt hx hown (mvT hZ (hw _ (List.mem_of_getElem? (i := 37) rfl))) (g := (mkF m 119 #[.val (.long i0), .second, .val (.int i1), .val (.int i2), .val (.long (-7046029254386353131 : Int64)), .second, .val (.int (1073741824 : Int32)), .val (.ref ob_21), .val (.ref ob_22), .val (.ref ob_23), .val (.ref ob_24), .val (.ref ob_25), .val (.int v77), .val (.int v86), .val (.int v95), .val (.int v104), .val (.int v113), .val (.int (1032775383 : Int32)), .unset] [])) rfl (hb hby at_119)) ?_
  refine own_Fin.step (S' := T40.setTop (mkF m 123 #[.val (.long i0), .second, .val (.int i1), .val (.int i2), .val (.long (-7046029254386353131 : Int64)), .second, .val (.int (1073741824 : Int32)), .val (.ref ob_21), .val (.ref ob_22), .val (.ref ob_23), .val (.ref ob_24), .val (.ref ob_25), .val (.int v77), .val (.int v86), .val (.int v95), .val (.int v104), .val (.int v113), .val (.int (1032775383 : Int32)), .val (.int (646758199 : Int32))] [])) (fun t k => XS.istore X40.here hx rfl (hb hby at_121) rfl (l' := #[.val (.long i0), .second, .val (.int i1), .val (.int i2), .val (.long (-7046029254386353131 : Int64)), .second, .val (.int (1073741824 : Int32)), .val (.ref ob_21), .val (.ref ob_22), .val (.ref ob_23), .val (.ref ob_24), .val (.ref ob_25), .val (.int v77), .val (.int v86), .val (.int v95), .val (.int v104), .val (.int v113), .val (.int (1032775383 : Int32)), .val (.int (646758199 : Int32))]) rfl k) ?_
  refine own_Fin.step (S' := T40.setTop (mkF m 125 #[.val (.long i0), .second, .val (.int i1), .val (.int i2), .val (.long (-7046029254386353131 : Int64)), .second, .val (.int (1073741824 : Int32)), .val (.ref ob_21), .val (.ref ob_22), .val (.ref ob_23), .val (.ref ob_24), .val (.ref ob_25), .val (.int v77), .val (.int v86), .val (.int v95), .val (.int v104), .val (.int v113), .val (.int (1032775383 : Int32)), .val (.int (646758199 : Int32))] [(.int v77)])) (fun t k => XS.iload X40.here hx rfl (hb hby at_123) rfl  k) ?_
  refine own_Fin.step (S' := T40.setTop (mkF m 127 #[.val (.long i0), .second, .val (.int i1), .val (.int i2), .val (.long (-7046029254386353131 : Int64)), .second, .val (.int (1073741824 : Int32)), .val (.ref ob_21), .val (.ref ob_22), .val (.ref ob_23), .val (.ref ob_24), .val (.ref ob_25), .val (.int v77), .val (.int v86), .val (.int v95), .val (.int v104), .val (.int v113), .val (.int (1032775383 : Int32)), .val (.int (646758199 : Int32))] [(.int v86), (.int v77)])) (fun t k => XS.iload X40.here hx rfl (hb hby at_125) rfl  k) ?_
  refine own_Fin.step (S' := T40.setTop (mkF m 130 #[.val (.long i0), .second, .val (.int i1), .val (.int i2), .val (.long (-7046029254386353131 : Int64)), .second, .val (.int (1073741824 : Int32)), .val (.ref ob_21), .val (.ref ob_22), .val (.ref ob_23), .val (.ref ob_24), .val (.ref ob_25), .val (.int v77), .val (.int v86), .val (.int v95), .val (.int v104), .val (.int v113), .val (.int (1032775383 : Int32)), .val (.int (646758199 : Int32))] [])) (fun t k => XS.icmpNo X40.here hx rfl (hb hby at_127) rfl (teq (by rw [hv77, hv86]; exact congrArg own_ni (congrArg own_mix (congrArg (· + (-7046029254386353131 : Int64)) (congrArg own_mix (own_r1 _ _ _)))))).2 k) ?_
  refine own_Fin.step (S' := T40.setTop (mkF m 132 #[.val (.long i0), .second, .val (.int i1), .val (.int i2), .val (.long (-7046029254386353131 : Int64)), .second, .val (.int (1073741824 : Int32)), .val (.ref ob_21), .val (.ref ob_22), .val (.ref ob_23), .val (.ref ob_24), .val (.ref ob_25), .val (.int v77), .val (.int v86), .val (.int v95), .val (.int v104), .val (.int v113), .val (.int (1032775383 : Int32)), .val (.int (646758199 : Int32))] [(.int v77)])) (fun t k => XS.iload X40.here hx rfl (hb hby at_130) rfl  k) ?_
  refine own_Fin.step (S' := T40.setTop (mkF m 134 #[.val (.long i0), .second, .val (.int i1), .val (.int i2), .val (.long (-7046029254386353131 : Int64)), .second, .val (.int (1073741824 : Int32)), .val (.ref ob_21), .val (.ref ob_22), .val (.ref ob_23), .val (.ref ob_24), .val (.ref ob_25), .val (.int v77), .val (.int v86), .val (.int v95), .val (.int v104), .val (.int v113), .val (.int (1032775383 : Int32)), .val (.int (646758199 : Int32))] [(.int v95), (.int v77)])) (fun t k => XS.iload X40.here hx rfl (hb hby at_132) rfl  k) ?_
  refine own_Fin.step (S' := T40.setTop (mkF m 137 #[.val (.long i0), .second, .val (.int i1), .val (.int i2), .val (.long (-7046029254386353131 : Int64)), .second, .val (.int (1073741824 : Int32)), .val (.ref ob_21), .val (.ref ob_22), .val (.ref ob_23), .val (.ref ob_24), .val (.ref ob_25), .val (.int v77), .val (.int v86), .val (.int v95), .val (.int v104), .val (.int v113), .val (.int (1032775383 : Int32)), .val (.int (646758199 : Int32))] [])) (fun t k => XS.icmpNo X40.here hx rfl (hb hby at_134) rfl (teq (by rw [hv77, hv95]; exact congrArg own_ni (congrArg own_mix (congrArg (· + (-7046029254386353131 : Int64)) (congrArg own_mix (own_r2 _ _)))))).2 k) ?_
  refine own_Fin.step (S' := T40.setTop (mkF m 139 #[.val (.long i0), .second, .val (.int i1), .val (.int i2), .val (.long (-7046029254386353131 : Int64)), .second, .val (.int (1073741824 : Int32)), .val (.ref ob_21), .val (.ref ob_22), .val (.ref ob_23), .val (.ref ob_24), .val (.ref ob_25), .val (.int v77), .val (.int v86), .val (.int v95), .val (.int v104), .val (.int v113), .val (.int (1032775383 : Int32)), .val (.int (646758199 : Int32))] [(.int v104)])) (fun t k => XS.iload X40.here hx rfl (hb hby at_137) rfl  k) ?_
  refine own_Fin.step (S' := T40.setTop (mkF m 141 #[.val (.long i0), .second, .val (.int i1), .val (.int i2), .val (.long (-7046029254386353131 : Int64)), .second, .val (.int (1073741824 : Int32)), .val (.ref ob_21), .val (.ref ob_22), .val (.ref ob_23), .val (.ref ob_24), .val (.ref ob_25), .val (.int v77), .val (.int v86), .val (.int v95), .val (.int v104), .val (.int v113), .val (.int (1032775383 : Int32)), .val (.int (646758199 : Int32))] [(.int (1032775383 : Int32)), (.int v104)])) (fun t k => XS.iload X40.here hx rfl (hb hby at_139) rfl  k) ?_
  refine own_Fin.step (S' := T40.setTop (mkF m 144 #[.val (.long i0), .second, .val (.int i1), .val (.int i2), .val (.long (-7046029254386353131 : Int64)), .second, .val (.int (1073741824 : Int32)), .val (.ref ob_21), .val (.ref ob_22), .val (.ref ob_23), .val (.ref ob_24), .val (.ref ob_25), .val (.int v77), .val (.int v86), .val (.int v95), .val (.int v104), .val (.int v113), .val (.int (1032775383 : Int32)), .val (.int (646758199 : Int32))] [])) (fun t k => XS.icmpNo X40.here hx rfl (hb hby at_141) rfl (teq (by rw [hv104, own_r3]; decide +kernel)).2 k) ?_
  refine own_Fin.step (S' := T40.setTop (mkF m 146 #[.val (.long i0), .second, .val (.int i1), .val (.int i2), .val (.long (-7046029254386353131 : Int64)), .second, .val (.int (1073741824 : Int32)), .val (.ref ob_21), .val (.ref ob_22), .val (.ref ob_23), .val (.ref ob_24), .val (.ref ob_25), .val (.int v77), .val (.int v86), .val (.int v95), .val (.int v104), .val (.int v113), .val (.int (1032775383 : Int32)), .val (.int (646758199 : Int32))] [(.int v113)])) (fun t k => XS.iload X40.here hx rfl (hb hby at_144) rfl  k) ?_
  refine own_Fin.step (S' := T40.setTop (mkF m 148 #[.val (.long i0), .second, .val (.int i1), .val (.int i2), .val (.long (-7046029254386353131 : Int64)), .second, .val (.int (1073741824 : Int32)), .val (.ref ob_21), .val (.ref ob_22), .val (.ref ob_23), .val (.ref ob_24), .val (.ref ob_25), .val (.int v77), .val (.int v86), .val (.int v95), .val (.int v104), .val (.int v113), .val (.int (1032775383 : Int32)), .val (.int (646758199 : Int32))] [(.int (646758199 : Int32)), (.int v113)])) (fun t k => XS.iload X40.here hx rfl (hb hby at_146) rfl  k) ?_
  refine own_Fin.step (S' := T40.setTop (mkF m 151 #[.val (.long i0), .second, .val (.int i1), .val (.int i2), .val (.long (-7046029254386353131 : Int64)), .second, .val (.int (1073741824 : Int32)), .val (.ref ob_21), .val (.ref ob_22), .val (.ref ob_23), .val (.ref ob_24), .val (.ref ob_25), .val (.int v77), .val (.int v86), .val (.int v95), .val (.int v104), .val (.int v113), .val (.int (1032775383 : Int32)), .val (.int (646758199 : Int32))] [])) (fun t k => XS.icmpNo X40.here hx rfl (hb hby at_148) rfl (teq (by rw [hv113, own_r4]; decide +kernel)).2 k) ?_
  refine own_Fin.step (S' := T40.setTop (mkF m 152 #[.val (.long i0), .second, .val (.int i1), .val (.int i2), .val (.long (-7046029254386353131 : Int64)), .second, .val (.int (1073741824 : Int32)), .val (.ref ob_21), .val (.ref ob_22), .val (.ref ob_23), .val (.ref ob_24), .val (.ref ob_25), .val (.int v77), .val (.int v86), .val (.int v95), .val (.int v104), .val (.int v113), .val (.int (1032775383 : Int32)), .val (.int (646758199 : Int32))] [(.int (1 : Int32))])) (fun t k => XS.iconst X40.here hx rfl (hb hby at_151) k) ?_
  refine own_Fin.step (S' := T40.setTop (mkF m 156 #[.val (.long i0), .second, .val (.int i1), .val (.int i2), .val (.long (-7046029254386353131 : Int64)), .second, .val (.int (1073741824 : Int32)), .val (.ref ob_21), .val (.ref ob_22), .val (.ref ob_23), .val (.ref ob_24), .val (.ref ob_25), .val (.int v77), .val (.int v86), .val (.int v95), .val (.int v104), .val (.int v113), .val (.int (1032775383 : Int32)), .val (.int (646758199 : Int32))] [(.int (1 : Int32))])) (fun t k => XS.goto X40.here hx rfl (pc0 := 152) (pc' := 156) rfl (hb hby at_152) (by decide) (by decide) k) ?_
  have hq41 : Q0 Z i0 i1 i2 h0 n0 (some (.int (nar .boolean (1 : Int32)))) T40.heap _ := ⟨rfl, N40⟩
  exact own_retN X40 hx hlk (t := .boolean) hrt (by simp) (hb hby at_156) rfl hq41 (by decide) (by decide)
set_option maxRecDepth 65536 in
set_option maxHeartbeats 40000000 in
theorem comes_1 {Post : Tables → Env → Array Value → State → Outcome → State → Prop} (hpost : ∀ tb e args s v u, (limb_1_1.after args s (.returned v) u = true ∧ limb_1_2.after args s (.returned v) u = true ∧ True) → FrameEnd s (.returned v) u (Jvm.fieldLocs frame_1_writes args s ++ Jvm.arrayLocs frame_1_arrays args s ++ Jvm.staticLocs frame_1_statics s) 24 128 → Post tb e args s (.returned v) u) :
    ArmFor flags0 classFile x code maxLocals ret World_1 tables_1 room_1 Calls_1 rest_1 Pre_1 Post := by
  intro l hfl _ _ p e ha hc hk s m args below hf hA hF happ hP
  obtain ⟨hcalls, hrest, hpre⟩ := hP
  obtain ⟨-, -, -, hnamed, -, -, -, hat⟩ := (Spec.applies_iff hf).mp happ
  obtain ⟨hg, hn⟩ := and_e (Cond.before_iff.mp (show (Jvm.Cond.and given_1 narrow_1).before args s = true from hpre))
  obtain ⟨gg1, gg2⟩ := and_e hg
  obtain ⟨gg3, gg4⟩ := and_e gg2
  obtain ⟨gg5, gg6⟩ := and_e gg4
  obtain ⟨w0, w1, w2, rfl⟩ : ∃ w0 w1 w2 : Value, args = #[w0, w1, w2] := by
    have hs : args.size = 3 := by simpa [Cond.value, given_1] using gg1
    obtain ⟨L⟩ := args
    match L, hs with
    | [w0, w1, w2], _ => exact ⟨w0, w1, w2, rfl⟩
  have hw := fun d (hd : d ∈ tables_1) => atoms_spec (ws := Jvm.Cond.code x code maxLocals ret :: tables_1) hat d (List.mem_cons_of_mem _ hd)
  have hfit : Fit s := fun {y c} hc i hi => by
    obtain ⟨ha, rfl⟩ := Array.getElem?_eq_some_iff.mp hc
    have q := List.all_eq_true.mp ((Array.all_eq_true_iff_forall_mem.mp hF) _ (Array.getElem_mem ha)) i (List.mem_range.mpr hi)
    simpa [Array.getElem?_eq_getElem hi] using q
  obtain ⟨i0, ei0⟩ := isL_v gg3
  obtain rfl : w0 = (.long i0) := Option.some.inj ei0
  obtain ⟨i1, ei1⟩ := is_v gg5
  obtain rfl : w1 = (.int i1) := Option.some.inj ei1
  obtain ⟨i2, ei2⟩ := is_v gg6
  obtain rfl : w2 = (.int i2) := Option.some.inj ei2
  obtain ⟨n, o, h1, h2, h3, _, L, rfl, ⟨rfl, N⟩, hq⟩ := rm0 l s _ hw tables_1  i0 i1 i2 s.heap s.heap.size (Nat.le_refl _)  p e ha hc hk s m _ below hf ((Spec.applies_iff_loose hf).mp happ).1 ⟨rfl, State.Warmed39.refl s, rfl⟩ trivial
  refine ⟨n, _, h1, h2, h3, hpost _ _ _ _ _ _ ⟨Cond.after_iff.mpr rfl, Cond.after_iff.mpr (eq_i res_at (Term.int_eval (1)) rfl), trivial⟩ ⟨hq.1, hq.2.1, (hq.2.2.sift fun y hy => Or.inr (N y hy)).mono (by decide) (by decide)⟩⟩
theorem main_1_1 : Claimed_1_1 := comes_1 fun _ _ _ _ _ _ h hF => ⟨h.1, hF⟩
theorem main_1_2 : Claimed_1_2 := comes_1 fun _ _ _ _ _ _ h hF => ⟨h.2.1, hF⟩
end Jvm.Pilot.@@N@@
namespace Jvm.Pilot.@@N@@
open Jvm Jvm.ClassFile Sem Op Lib Jvm.Free Jvm.Stand Jvm.Pilot.@@N@@.Jvm.D
/-! MADE BY PROGRAM (witnessworld.py) out of the Statement's table words and the real class files: 9 classes; the members and pool entries that the words name. The judged class is class 1, her method 1. -/
namespace start1
open Jvm.ClassFile
def u (s : String) : CpInfo := .utf8 (stringToUtf16 s)
/-- a pool by its gaps: so many unusable entries, then the entry; so many at the end -/
def gap : Nat → List CpInfo → List CpInfo
  | 0, r => r
  | n + 1, r => .unusable :: gap n r
def poolList (es : List (Nat × CpInfo)) (last : Nat) : List CpInfo := es.foldr (fun e r => gap e.1 (e.2 :: r)) (gap last [])
def pool (es : List (Nat × CpInfo)) (last : Nat) : Array CpInfo := ⟨poolList es last⟩
def fileOf (pool : Array CpInfo) (this : Nat) (attrs : Array Attribute := #[]) (ms : Array MethodInfo := #[]) (fl : Nat := 33) (sup : Nat := 0) (ifs : Array Nat := #[]) (fds : Array FieldInfo := #[]) : ClassFile where
  minorVersion := 0
  majorVersion := 65
  constantPool := pool
  accessFlags := fl
  thisClass := this
  superClass := sup
  interfaces := ifs
  fields := fds
  methods := ms
  attributes := attrs
def plain (name : String) (sup : Option ClassId) : Class where
  name := name
  kind := .ordinary
  loader := none
  accessFlags := 33
  super := sup
  interfaces := #[]
  cf := none
  fields := #[]
  methods := #[]
  instanceTypes := #[]
  staticTypes := #[]
  resolved := #[]
  callSites := []
  init := .initialized
  statics := none
  mirror := none

def pool0 : Array CpInfo := pool [(5, u "<init>"), (0, u "()V"), (1, .class_ 10), (1, u "java/lang/Object")] 113

def k0c0 : Code := { maxStack := 0, maxLocals := 1, code := object_method_1_code, exceptionTable := #[], attributes := #[] }
def k0m0 : Method := { name := "<init>", desc := "()V", sig := { parameters := [], returnType := none }, accessFlags := 1, code := some k0c0 }
/-- java/lang/Object -/
def k0 : Class := { plain "java/lang/Object" none with
  accessFlags := 33
  interfaces := #[]
  cf := some (fileOf pool0 8 #[] #[{ accessFlags := 1, nameIndex := 5, descriptorIndex := 6, attributes := #[] }] 33 0 #[] #[])
  fields := #[]
  methods := #[k0m0]
  instanceTypes := #[]
  staticTypes := #[]
  resolved := Array.replicate 124 none
  statics := none }

def pool1 : Array CpInfo := pool [(2, .class_ 4), (1, u "java/lang/Object"), (0, u "<init>"), (0, u "()V"), (0, .long 11400714819323198485), (1, .integer 1073741824), (0, .methodref 11 12), (0, .class_ 13), (0, .nameAndType 14 15), (0, u "com/example/rulebinder/rulebinder/Draws"), (0, u "of"), (0, u "(JI)Lcom/example/rulebinder/rulebinder/Draws;"), (0, .methodref 11 17), (0, .nameAndType 14 18), (0, u "(J)Lcom/example/rulebinder/rulebinder/Draws;"), (0, .methodref 11 20), (0, .nameAndType 21 22), (0, u "nextInt"), (0, u "(I)I"), (0, .integer 1032775383), (0, .integer 646758199), (0, .class_ 26), (0, u "com/example/rulebinder/rulebinder/DrawsOfPinLaw"), (2, u "law"), (0, u "(JII)Z")] 3

def k1m0 : Method := { name := "<init>", desc := "()V", sig := { parameters := [], returnType := none }, accessFlags := 1, code := none }
def k1c1 : Code := { maxStack := 6, maxLocals := 19, code := code, exceptionTable := #[], attributes := #[] }
def k1m1 : Method := { name := "law", desc := "(JII)Z", sig := { parameters := [.long, .int, .int], returnType := some .boolean }, accessFlags := 9, code := some k1c1 }
/-- com/example/rulebinder/rulebinder/DrawsOfPinLaw -/
def k1 : Class := { plain "com/example/rulebinder/rulebinder/DrawsOfPinLaw" (some 0) with
  accessFlags := 49
  interfaces := #[]
  cf := some (fileOf pool1 25 #[] #[{ accessFlags := 1, nameIndex := 5, descriptorIndex := 6, attributes := #[] }, { accessFlags := 9, nameIndex := 29, descriptorIndex := 30, attributes := #[] }] 49 2 #[] #[])
  fields := #[]
  methods := #[k1m0, k1m1]
  instanceTypes := #[]
  staticTypes := #[]
  resolved := Array.replicate 34 none
  statics := none }

def pool2 : Array CpInfo := pool [(1, .methodref 2 3), (0, .class_ 4), (0, .nameAndType 5 6), (0, u "java/lang/Object"), (0, u "<init>"), (0, u "()V"), (0, .fieldref 8 9), (0, .class_ 10), (0, .nameAndType 11 12), (0, u "com/example/rulebinder/rulebinder/Draws"), (0, u "state"), (0, u "J"), (0, .methodref 8 14), (0, .nameAndType 15 16), (0, u "of"), (0, u "(JI)Lcom/example/rulebinder/rulebinder/Draws;"), (0, .long 11400714819323198485), (1, .methodref 8 20), (0, .nameAndType 21 22), (0, u "mix"), (0, u "(J)J"), (0, .methodref 8 24), (0, .nameAndType 5 25), (0, u "(J)V"), (2, .long 9223372036854775807), (1, .methodref 8 31), (0, .nameAndType 32 33), (0, u "nextLong"), (0, u "()J"), (8, u "nextInt"), (0, u "(I)I"), (8, .long 13787848793156543929), (1, .long 10723151780598845931), (1, u "STEP"), (3, u "(J)Lcom/example/rulebinder/rulebinder/Draws;")] 7

def k2c0 : Code := { maxStack := 3, maxLocals := 3, code := prog_17_method_1_code, exceptionTable := #[], attributes := #[] }
def k2m0 : Method := { name := "<init>", desc := "(J)V", sig := { parameters := [.long], returnType := none }, accessFlags := 2, code := some k2c0 }
def k2c1 : Code := { maxStack := 3, maxLocals := 2, code := prog_17_method_2_code, exceptionTable := #[], attributes := #[] }
def k2m1 : Method := { name := "of", desc := "(J)Lcom/example/rulebinder/rulebinder/Draws;", sig := { parameters := [.long], returnType := some (.object "com/example/rulebinder/rulebinder/Draws") }, accessFlags := 8, code := some k2c1 }
def k2c2 : Code := { maxStack := 8, maxLocals := 3, code := prog_17_method_3_code, exceptionTable := #[], attributes := #[] }
def k2m2 : Method := { name := "of", desc := "(JI)Lcom/example/rulebinder/rulebinder/Draws;", sig := { parameters := [.long, .int], returnType := some (.object "com/example/rulebinder/rulebinder/Draws") }, accessFlags := 8, code := some k2c2 }
def k2c3 : Code := { maxStack := 5, maxLocals := 1, code := prog_17_method_4_code, exceptionTable := #[], attributes := #[] }
def k2m3 : Method := { name := "nextLong", desc := "()J", sig := { parameters := [], returnType := some .long }, accessFlags := 2, code := some k2c3 }
def k2c4 : Code := { maxStack := 6, maxLocals := 6, code := prog_17_method_5_code, exceptionTable := #[], attributes := #[] }
def k2m4 : Method := { name := "nextInt", desc := "(I)I", sig := { parameters := [.int], returnType := some .int }, accessFlags := 0, code := some k2c4 }
def k2c5 : Code := { maxStack := 5, maxLocals := 4, code := prog_17_method_7_code, exceptionTable := #[], attributes := #[] }
def k2m5 : Method := { name := "mix", desc := "(J)J", sig := { parameters := [.long], returnType := some .long }, accessFlags := 10, code := some k2c5 }
/-- com/example/rulebinder/rulebinder/Draws -/
def k2 : Class := { plain "com/example/rulebinder/rulebinder/Draws" (some 0) with
  accessFlags := 48
  interfaces := #[]
  cf := some (fileOf pool2 8 #[] #[{ accessFlags := 2, nameIndex := 5, descriptorIndex := 25, attributes := #[] }, { accessFlags := 8, nameIndex := 15, descriptorIndex := 60, attributes := #[] }, { accessFlags := 8, nameIndex := 15, descriptorIndex := 16, attributes := #[] }, { accessFlags := 2, nameIndex := 32, descriptorIndex := 33, attributes := #[] }, { accessFlags := 0, nameIndex := 42, descriptorIndex := 43, attributes := #[] }, { accessFlags := 10, nameIndex := 21, descriptorIndex := 22, attributes := #[] }] 48 2 #[] #[{ accessFlags := 26, nameIndex := 56, descriptorIndex := 12, attributes := #[] }, { accessFlags := 2, nameIndex := 11, descriptorIndex := 12, attributes := #[] }])
  fields := #[{ name := "STEP", type := .long, accessFlags := 26, slot := 0, constantValue := 0 }, { name := "state", type := .long, accessFlags := 2, slot := 0, constantValue := 0 }]
  methods := #[k2m0, k2m1, k2m2, k2m3, k2m4, k2m5]
  instanceTypes := #[.long]
  staticTypes := #[.long]
  resolved := Array.replicate 68 none
  statics := none }

def pool3 : Array CpInfo := pool [(1, u "java/lang/Cloneable"), (0, .class_ 1), (0, u "java/lang/Object"), (0, .class_ 3)] 3

/-- java/lang/Cloneable -/
def k3 : Class := { plain "java/lang/Cloneable" (some 0) with
  accessFlags := 1537
  interfaces := #[]
  cf := some (fileOf pool3 2 #[] #[] 1537 4 #[] #[])
  fields := #[]
  methods := #[]
  instanceTypes := #[]
  staticTypes := #[]
  resolved := Array.replicate 8 none
  statics := none }

def pool4 : Array CpInfo := pool [(1, u "java/io/Serializable"), (0, .class_ 1), (0, u "java/lang/Object"), (0, .class_ 3)] 3

/-- java/io/Serializable -/
def k4 : Class := { plain "java/io/Serializable" (some 0) with
  accessFlags := 1537
  interfaces := #[]
  cf := some (fileOf pool4 2 #[] #[] 1537 4 #[] #[])
  fields := #[]
  methods := #[]
  instanceTypes := #[]
  staticTypes := #[]
  resolved := Array.replicate 8 none
  statics := none }

/-- the primitive byte -/
def k5 : Class := { plain "byte" none with kind := .primitive 'B', accessFlags := 0x411 }
/-- [B -/
def k6 : Class := { plain "[B" (some 0) with kind := .array 5 .byte, interfaces := #[3, 4], accessFlags := 1041 }

/-- the primitive int -/
def k7 : Class := { plain "int" none with kind := .primitive 'I', accessFlags := 0x411 }
/-- [I -/
def k8 : Class := { plain "[I" (some 0) with kind := .array 7 .int, interfaces := #[3, 4], accessFlags := 1041 }

def heap : Heap := #[]
def classes : Array Class := #[k0, k1, k2, k3, k4, k5, k6, k7, k8]
def interned : List (Array UInt16 × Addr) := []
def slotsUsed : Nat := 0
def theMethod : MethodId := ⟨1, 1⟩
def args0 : Array Value := #[.long 5, .int 6, .int 7]
def aboutOver (below : List Frame) : State where
  vm := { classes := classes, interned := interned.toArray }
  heap := heap
  slotsUsed := slotsUsed
  threads := #[{ frames := .invoking theMethod args0 :: below }]
def below0 : List Frame := [.native { method := ⟨0, 0⟩, args := #[] }]
def about1 : State := aboutOver below0
def p0 : Program := .bare "" "" ""
def e0 : Env := launch0.env 0 0 0
theorem w_frames : about1.frames = Frame.invoking theMethod args0 :: below0 := rfl
set_option maxRecDepth 65536 in
theorem w_args : argsFit about1.vm theMethod args0 = true := by decide +kernel
set_option maxRecDepth 65536 in
theorem w_heap : heapFits about1 = true := by decide +kernel
set_option maxRecDepth 65536 in
theorem w_runnable : about1.curStatus? = some .runnable := by decide +kernel
set_option maxRecDepth 65536 in
theorem w_alone : about1.alone = true := by decide +kernel
set_option maxRecDepth 65536 in
theorem w_named : about1.methodNamed? x = some theMethod := by decide +kernel
set_option maxRecDepth 65536 in
theorem w_hears : about1.hears theMethod below0 = true := by decide +kernel
set_option maxRecDepth 65536 in
theorem w_ripe : about1.ripe theMethod args0 below0 = true := by decide +kernel
theorem w_running : about1.status = .running := rfl
set_option maxRecDepth 65536 in
theorem w_room : about1.hasRoom e0.platform room_1 = true :=
  launch0.hasRoom_least _ room_1 (by decide +kernel) (by decide +kernel) (by decide +kernel) (by decide +kernel) (by decide +kernel) (by decide +kernel)
theorem allAtoms_all (ts : List Jvm.Cond) (a : Array Jvm.Value) (st : Jvm.State) : (allAtoms ts).before a st = ts.all (fun c => c.before a st) := by
  induction ts with
  | nil => rfl
  | cons c t ih =>
    show (Jvm.Cond.and c (allAtoms t)).before a st = _
    rw [Jvm.Cond.before_and, ih, List.all_cons]
def words1 : List Jvm.Cond := Jvm.Cond.code x code maxLocals ret :: tables_1
/-- a 'code' word, met by the world's own term for the bytes: nothing is compared byte by byte -/
theorem code_word {y : MethodName} {bytes : ByteArray} {mx : Nat} {rt : Option FieldType} {a : Array Value} {s : State} {m : MethodId} {meth : Method} {c : Code} (h1 : s.methodNamed? y = some m) (h2 : s.vm.method? m = some meth) (h3 : meth.code = some c) (h4 : c.code = bytes)
    (h5 : (c.maxLocals == mx && c.exceptionTable.isEmpty && decide (c.maxStack ≤ mostOperands) && decide (meth.sig.returnType = rt) && !meth.locks && decide (parseMethodDescriptor y.desc = some meth.sig)) = true) : (Jvm.Cond.code y bytes mx rt).before a s = true := by
  simp only [Bool.and_eq_true, beq_iff_eq, Bool.not_eq_true', decide_eq_true_eq] at h5
  obtain ⟨⟨⟨⟨⟨g1, g2⟩, g3⟩, g4⟩, g5⟩, g6⟩ := h5
  simp [Cond.before, Cond.holds, Cond.value, h1, h2, h3, h4, g1, g2, g3, g4, g5, g6]
def isCode : Jvm.Cond → Bool
  | .code _ _ _ _ => true
  | _ => false
theorem all_split {L : List Jvm.Cond} {P : Jvm.Cond → Bool} (h1 : L.all (fun c => isCode c || P c) = true) (h2 : ∀ c ∈ L.filter isCode, P c = true) : L.all P = true := by
  refine List.all_eq_true.mpr fun c hc => ?_
  have h := List.all_eq_true.mp h1 c hc
  rcases Bool.eq_false_or_eq_true (isCode c) with hi | hi
  · exact h2 c (List.mem_filter.mpr ⟨hc, hi⟩)
  · simpa [hi] using h
set_option maxRecDepth 65536 in
theorem w_c0 : (Jvm.Cond.code x code maxLocals ret).before args0 about1 = true := code_word (m := ⟨1, 1⟩) (meth := k1m1) (c := k1c1) (by decide +kernel) rfl rfl rfl (by decide +kernel)
set_option maxRecDepth 65536 in
theorem w_c1 : (Jvm.Cond.code ({ cls := "com/example/rulebinder/rulebinder/Draws", name := "of", desc := "(JI)Lcom/example/rulebinder/rulebinder/Draws;" } : Jvm.MethodName) prog_17_method_3_code (3 : Nat) (Option.some (Jvm.ClassFile.FieldType.object "com/example/rulebinder/rulebinder/Draws"))).before args0 about1 = true := code_word (m := ⟨2, 2⟩) (meth := k2m2) (c := k2c2) (by decide +kernel) rfl rfl rfl (by decide +kernel)
set_option maxRecDepth 65536 in
theorem w_c2 : (Jvm.Cond.code ({ cls := "com/example/rulebinder/rulebinder/Draws", name := "mix", desc := "(J)J" } : Jvm.MethodName) prog_17_method_7_code (4 : Nat) (Option.some Jvm.ClassFile.FieldType.long)).before args0 about1 = true := code_word (m := ⟨2, 5⟩) (meth := k2m5) (c := k2c5) (by decide +kernel) rfl rfl rfl (by decide +kernel)
set_option maxRecDepth 65536 in
theorem w_c3 : (Jvm.Cond.code ({ cls := "com/example/rulebinder/rulebinder/Draws", name := "<init>", desc := "(J)V" } : Jvm.MethodName) prog_17_method_1_code (3 : Nat) (Option.none : Option Jvm.ClassFile.FieldType)).before args0 about1 = true := code_word (m := ⟨2, 0⟩) (meth := k2m0) (c := k2c0) (by decide +kernel) rfl rfl rfl (by decide +kernel)
set_option maxRecDepth 65536 in
theorem w_c4 : (Jvm.Cond.code ({ cls := "java/lang/Object", name := "<init>", desc := "()V" } : Jvm.MethodName) object_method_1_code (1 : Nat) (Option.none : Option Jvm.ClassFile.FieldType)).before args0 about1 = true := code_word (m := ⟨0, 0⟩) (meth := k0m0) (c := k0c0) (by decide +kernel) rfl rfl rfl (by decide +kernel)
set_option maxRecDepth 65536 in
theorem w_c5 : (Jvm.Cond.code ({ cls := "com/example/rulebinder/rulebinder/Draws", name := "of", desc := "(J)Lcom/example/rulebinder/rulebinder/Draws;" } : Jvm.MethodName) prog_17_method_2_code (2 : Nat) (Option.some (Jvm.ClassFile.FieldType.object "com/example/rulebinder/rulebinder/Draws"))).before args0 about1 = true := code_word (m := ⟨2, 1⟩) (meth := k2m1) (c := k2c1) (by decide +kernel) rfl rfl rfl (by decide +kernel)
set_option maxRecDepth 65536 in
theorem w_c6 : (Jvm.Cond.code ({ cls := "com/example/rulebinder/rulebinder/Draws", name := "nextInt", desc := "(I)I" } : Jvm.MethodName) prog_17_method_5_code (6 : Nat) (Option.some Jvm.ClassFile.FieldType.int)).before args0 about1 = true := code_word (m := ⟨2, 4⟩) (meth := k2m4) (c := k2c4) (by decide +kernel) rfl rfl rfl (by decide +kernel)
set_option maxRecDepth 65536 in
theorem w_c7 : (Jvm.Cond.code ({ cls := "com/example/rulebinder/rulebinder/Draws", name := "nextLong", desc := "()J" } : Jvm.MethodName) prog_17_method_4_code (1 : Nat) (Option.some Jvm.ClassFile.FieldType.long)).before args0 about1 = true := code_word (m := ⟨2, 3⟩) (meth := k2m3) (c := k2c3) (by decide +kernel) rfl rfl rfl (by decide +kernel)
def codes1 : List Jvm.Cond := [Jvm.Cond.code x code maxLocals ret, Jvm.Cond.code ({ cls := "com/example/rulebinder/rulebinder/Draws", name := "of", desc := "(JI)Lcom/example/rulebinder/rulebinder/Draws;" } : Jvm.MethodName) prog_17_method_3_code (3 : Nat) (Option.some (Jvm.ClassFile.FieldType.object "com/example/rulebinder/rulebinder/Draws")), Jvm.Cond.code ({ cls := "com/example/rulebinder/rulebinder/Draws", name := "mix", desc := "(J)J" } : Jvm.MethodName) prog_17_method_7_code (4 : Nat) (Option.some Jvm.ClassFile.FieldType.long), Jvm.Cond.code ({ cls := "com/example/rulebinder/rulebinder/Draws", name := "<init>", desc := "(J)V" } : Jvm.MethodName) prog_17_method_1_code (3 : Nat) (Option.none : Option Jvm.ClassFile.FieldType), Jvm.Cond.code ({ cls := "java/lang/Object", name := "<init>", desc := "()V" } : Jvm.MethodName) object_method_1_code (1 : Nat) (Option.none : Option Jvm.ClassFile.FieldType), Jvm.Cond.code ({ cls := "com/example/rulebinder/rulebinder/Draws", name := "of", desc := "(J)Lcom/example/rulebinder/rulebinder/Draws;" } : Jvm.MethodName) prog_17_method_2_code (2 : Nat) (Option.some (Jvm.ClassFile.FieldType.object "com/example/rulebinder/rulebinder/Draws")), Jvm.Cond.code ({ cls := "com/example/rulebinder/rulebinder/Draws", name := "nextInt", desc := "(I)I" } : Jvm.MethodName) prog_17_method_5_code (6 : Nat) (Option.some Jvm.ClassFile.FieldType.int), Jvm.Cond.code ({ cls := "com/example/rulebinder/rulebinder/Draws", name := "nextLong", desc := "()J" } : Jvm.MethodName) prog_17_method_4_code (1 : Nat) (Option.some Jvm.ClassFile.FieldType.long)]
set_option maxRecDepth 65536 in
theorem codes_eq : words1.filter isCode = codes1 := rfl
theorem w_codes : ∀ c ∈ words1.filter isCode, c.before args0 about1 = true := by
  rw [codes_eq]
  intro c hc
  simp only [codes1, List.mem_cons, List.not_mem_nil, or_false] at hc
  rcases hc with rfl | rfl | rfl | rfl | rfl | rfl | rfl | rfl
  · exact w_c0
  · exact w_c1
  · exact w_c2
  · exact w_c3
  · exact w_c4
  · exact w_c5
  · exact w_c6
  · exact w_c7
set_option maxRecDepth 65536 in
theorem w_t1 : (words1.take 24).all (fun c => isCode c || c.before args0 about1) = true := by decide +kernel
set_option maxRecDepth 65536 in
theorem w_t2 : (words1.drop 24).all (fun c => isCode c || c.before args0 about1) = true := by decide +kernel
theorem w_tables : (allAtoms (Jvm.Cond.code x code maxLocals ret :: tables_1)).before args0 about1 = true := by
  rw [allAtoms_all]
  show words1.all (fun c => c.before args0 about1) = true
  refine all_split ?_ w_codes
  rw [← List.take_append_drop 24 words1, List.all_append, w_t1, w_t2]
  rfl
set_option maxRecDepth 65536 in
theorem w_case : (Jvm.Cond.and given_1 narrow_1).before args0 about1 = true := by decide +kernel
theorem w_applies : (headSpec (Jvm.Cond.code x code maxLocals ret :: tables_1) room_1).applies x e0.platform about1 = true :=
  (Spec.applies_iff w_frames).mpr ⟨w_running, w_runnable, w_alone, w_named, w_hears, w_ripe, w_room, w_tables⟩
theorem atStart : AtStart classFile x code maxLocals ret World_1 tables_1 room_1 Calls_1 rest_1 Pre_1 launch0 p0 e0 about1 theMethod args0 below0 :=
  ⟨lists_1, trivial, launch0.admits_env _ _ _, launch0.least_env, fairChoices_fair.cas, fairChoices_fair.clock, w_frames, w_args, w_heap, w_applies, trivial, trivial, w_case⟩
end start1
theorem witness_1 : WitnessClaimed_1 := ⟨start1.p0, start1.e0, start1.about1, start1.theMethod, start1.args0, start1.below0, start1.atStart⟩
end Jvm.Pilot.@@N@@
