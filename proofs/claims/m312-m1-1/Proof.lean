import JvmDerived
import JvmDerived.Pilot.@@N@@Statement
import JvmDerived.Pilot.@@N@@Code
set_option linter.unusedVariables false
set_option linter.unusedSimpArgs false
namespace Jvm.RoadKit
open Sem ClassFile Op Lib Jvm.Stand Jvm.Free Jvm.LawKit
/-- the run from S comes to an end that Post allows -/
def own_Fin (tb : Tables) (e : Env) (below : List Frame) (Post : Outcome → State → Prop) (S : State) : Prop := ∃ s₂ o, Steps tb e below S s₂ ∧ s₂.status = .running ∧ Ended s₂ below o ∧ Post o s₂
def own_post (Q : Option Value → Heap → List Loc → Prop) (s : State) (k n : Nat) (o : Outcome) (U : State) : Prop := ∃ v L, o = .returned v ∧ Q v U.heap L ∧ FrameEnd s o U L k n
def own_bool (P : Prop) (v : Option Value) : Prop := (v = some (.int 1) ∧ P) ∨ (v = some (.int 0) ∧ ¬ P)
theorem own_Fin.step {tb : Tables} {e : Env} {below : List Frame} {Post : Outcome → State → Prop} {S S' : State} (h : ∀ t, Steps tb e below S' t → Steps tb e below S t) (k : own_Fin tb e below Post S') : own_Fin tb e below Post S := by
  obtain ⟨s2, o, h1, h2⟩ := k
  exact ⟨s2, o, h _ h1, h2⟩
theorem own_Fin.trans {tb : Tables} {e : Env} {below : List Frame} {Post : Outcome → State → Prop} {S S' : State} (h : Steps tb e below S S') (k : own_Fin tb e below Post S') : own_Fin tb e below Post S := by
  obtain ⟨s2, o, h1, h2⟩ := k
  exact ⟨s2, o, h.trans h1, h2⟩
section New
variable {p : Program} {l : Launch} {e : Env} {R : Room} {s : State} {m : MethodId} {args : Array Value} {below : List Frame} {meth : Method} {c : Code} {T : State} {locs : List Loc} {cells slots : Nat} {Q : Option Value → Heap → List Loc → Prop} {kc ks : Nat} {h : Heap}
theorem retI (X : Stand p l e R s m args below meth c T locs cells slots) (hx : p.tables.exec = Jvm.exec) {pc : Nat} {Ls : Array Slot} {z : Int32} {rest : List Value} (hret : meth.sig.returnType = some .int) (hd : decode c.code pc = .ok (.ireturn, 1)) {fs : List Frame}
    (hl : ∀ (f : JFrame) (acts : List Action), f.method = m → f.locked = none → f.entered = [] → (doReturn e (T.setTop f) acts (some (.int z))).1 = T.setFrames fs) : Steps p.tables e below (T.setTop (mkF m pc Ls (.int z :: rest))) (T.setFrames fs) := by
  have hm' : T.vm.method? m = some meth := X.method'
  have hn : narrow .int (.int z) = .int z := rfl
  show Steps p.tables e below (T.setTop { method := m, pc := pc, locals := Ls, stack := _ :: rest, locked := none }) _
  jvm_step X.here [X.here.top, hx, hd, hm', hret, hn]
  first | (intro acts; rw [hl _ acts rfl rfl rfl]) | rw [hl _ _ rfl rfl rfl]
  exact Steps.refl _
theorem own_retN (X : Stand p l e R s m args below meth c T locs cells slots) (hx : p.tables.exec = Jvm.exec) (hlk : meth.locks = false) {pc : Nat} {Ls : Array Slot} {z : Int32} {t : FieldType} {rest : List Value} (hret : meth.sig.returnType = some t) (ht : t = .boolean ∨ t = .byte ∨ t = .char ∨ t = .short)
    (hd : decode c.code pc = .ok (.ireturn, 1)) (eT : T.heap = h) (hq : Q (some (.int (nar t z))) h locs) (hc : cells ≤ kc) (hs : slots ≤ ks) : own_Fin p.tables e below (own_post Q s kc ks) (T.setTop (mkF m pc Ls (.int z :: rest))) := by
  obtain ⟨fs, hr, hrun, hended, hW, hsame⟩ := X.leave (v := some (.int (nar t z))) (fun h => by rw [hret] at h; cases h) hlk
  exact ⟨_, _, retN X hx hret ht hd hr, hrun, hended, _, _, rfl, (eT ▸ hq : Q (some (.int (nar t z))) T.heap locs), ⟨_, rfl⟩, hW, hsame.mono hc hs⟩
theorem own_retI (X : Stand p l e R s m args below meth c T locs cells slots) (hx : p.tables.exec = Jvm.exec) (hlk : meth.locks = false) {pc : Nat} {Ls : Array Slot} {z : Int32} {rest : List Value} (hret : meth.sig.returnType = some .int)
    (hd : decode c.code pc = .ok (.ireturn, 1)) (eT : T.heap = h) (hq : Q (some (.int z)) h locs) (hc : cells ≤ kc) (hs : slots ≤ ks) : own_Fin p.tables e below (own_post Q s kc ks) (T.setTop (mkF m pc Ls (.int z :: rest))) := by
  obtain ⟨fs, hr, hrun, hended, hW, hsame⟩ := X.leave (v := some (.int z)) (fun h => by rw [hret] at h; cases h) hlk
  exact ⟨_, _, retI X hx hret hd hr, hrun, hended, _, _, rfl, (eT ▸ hq : Q (some (.int z)) T.heap locs), ⟨_, rfl⟩, hW, hsame.mono hc hs⟩
theorem own_retJ (X : Stand p l e R s m args below meth c T locs cells slots) (hx : p.tables.exec = Jvm.exec) (hlk : meth.locks = false) {pc : Nat} {Ls : Array Slot} {z : Int64} (hret : meth.sig.returnType = some .long)
    (hd : decode c.code pc = .ok (.lreturn, 1)) (eT : T.heap = h) (hq : Q (some (.long z)) h locs) (hc : cells ≤ kc) (hs : slots ≤ ks) : own_Fin p.tables e below (own_post Q s kc ks) (T.setTop (mkF m pc Ls [.long z])) := by
  obtain ⟨fs, hr, hrun, hended, hW, hsame⟩ := X.leave (v := some (.long z)) (fun h => by rw [hret] at h; cases h) hlk
  exact ⟨_, _, X.lreturnOut hx hret hd hr, hrun, hended, _, _, rfl, (eT ▸ hq : Q (some (.long z)) T.heap locs), ⟨_, rfl⟩, hW, hsame.mono hc hs⟩
theorem own_retR (X : Stand p l e R s m args below meth c T locs cells slots) (hx : p.tables.exec = Jvm.exec) (hlk : meth.locks = false) {pc : Nat} {Ls : Array Slot} {w : Value} {t : FieldType} (hw : w.isRef = true) (hret : meth.sig.returnType = some t) (ht : t.isReference = true)
    (hd : decode c.code pc = .ok (.areturn, 1)) (eT : T.heap = h) (hq : Q (some w) h locs) (hc : cells ≤ kc) (hs : slots ≤ ks) : own_Fin p.tables e below (own_post Q s kc ks) (T.setTop (mkF m pc Ls [w])) := by
  obtain ⟨fs, hr, hrun, hended, hW, hsame⟩ := X.leave (v := some w) (fun h => by rw [hret] at h; cases h) hlk
  exact ⟨_, _, X.areturnOut hx hw hret ht hd hr, hrun, hended, _, _, rfl, (eT ▸ hq : Q (some w) T.heap locs), ⟨_, rfl⟩, hW, hsame.mono hc hs⟩
theorem own_retV (X : Stand p l e R s m args below meth c T locs cells slots) (hx : p.tables.exec = Jvm.exec) (hlk : meth.locks = false) {pc : Nat} {Ls : Array Slot} (hret : meth.sig.returnType = none)
    (hd : decode c.code pc = .ok (.return_, 1)) (eT : T.heap = h) (hq : Q none h locs) (hc : cells ≤ kc) (hs : slots ≤ ks) : own_Fin p.tables e below (own_post Q s kc ks) (T.setTop (mkF m pc Ls [])) := by
  obtain ⟨fs, hr, hrun, hended, hW, hsame⟩ := X.leave (v := none) (fun _ => rfl) hlk
  exact ⟨_, _, X.returnOut hx hret hd hr, hrun, hended, _, _, rfl, (eT ▸ hq : Q none T.heap locs), ⟨_, rfl⟩, hW, hsame.mono hc hs⟩
theorem own_cat1 {v : Value} (h : v.isRef = true) : v.category = 1 := by cases v <;> simp [Value.isRef, Value.category] at h ⊢
theorem own_fitR {v : Value} {C : String} (h : v.isRef = true) : fits (.object C) v = true := by cases v <;> simp [Value.isRef, fits] at h ⊢
theorem own_fitA {v : Value} {ty : FieldType} (h : v.isRef = true) : fits (.array ty) v = true := by cases v <;> simp [Value.isRef, fits] at h ⊢
theorem own_selPriv {s : State} {args : Array Value} {y : MethodName} {n : Nat} (hi : (Cond.instantiable y.cls n).before args s = true) (hpriv : s.PrivateAt y) (hinst : (Cond.instanceMethod y).before args s = true) (hy : y.cls ≠ "java/lang/invoke/MethodHandle" ∧ y.cls ≠ "java/lang/invoke/VarHandle") : (Cond.selects y.cls y y).before args s = true := by
  obtain ⟨c, k, h1, h2, -, h4, -, -⟩ := Cond.instantiable_spec hi
  have h5 : k.isInterface = false := by
    cases hk : k.isInterface with
    | false => rfl
    | true => simp [hk] at h4
  exact selects_self_of_private h1 h2 h5 hpriv hinst hy
theorem own_eqI {a b : Term} {args : Array Value} {first st : State} {o : Option Outcome} {idx : List Nat} {y : Int32} (h : (Cond.eq a b).value args first o st idx = some true) (hb : b.eval args first o idx st = some (.int y)) : a.eval args first o idx st = some (.int y) := by
  cases ha : a.eval args first o idx st with
  | none => simp [Cond.value, ha] at h
  | some x => cases x <;> simp [Cond.value, ha, hb] at h ⊢ <;> exact h
theorem own_eqR {a b : Term} {args : Array Value} {first st : State} {o : Option Outcome} {idx : List Nat} {y : Addr} (h : (Cond.eq a b).value args first o st idx = some true) (hb : b.eval args first o idx st = some (.ref y)) : a.eval args first o idx st = some (.ref y) := by
  cases ha : a.eval args first o idx st with
  | none => simp [Cond.value, ha] at h
  | some x => cases x <;> simp [Cond.value, ha, hb] at h ⊢ <;> exact h
theorem own_elem {t : Term} {args : Array Value} {Z : State} {a : Addr} {cl : Cell} {ty : FieldType} {j : Int32} {v : Value} (ev : t.eval args Z none [] Z = some (.ref a)) (A : Arr Z Z.heap a cl ty) (h : (Term.elem t (.int j)).eval args Z none [] Z = some v) : cl.slots[j.toNatClampNeg]? = some v := by
  obtain ⟨a', j', cell, e1, e2, e3, -, e5⟩ := Term.elem_spec h
  cases e1.symm.trans ev
  have e6 : some (Value.int j) = some (Value.int j') := e2
  cases e6
  have := IntBox.arrayAt_of A.1 A.2.1 A.2.2
  cases e3.symm.trans this
  exact e5
theorem own_arv {t : Term} {args : Array Value} {Z : State} {a : Addr} {cl : Cell} {ty : FieldType} {z : Int32} {vs : List Value} {dv : Value} (hf : Fit Z) (ev : t.eval args Z none [] Z = some (.ref a)) (A : Arr Z Z.heap a cl ty) (hl : (Term.length t).eval args Z none [] Z = some (.int z)) (hz : ¬ z < 0) (hn : z.toNatClampNeg = vs.length) (H : HasL cl 0 vs) : Arv Z Z.heap a cl.cls ty z vs dv := by
  have hA := IntBox.arrayAt_of A.1 A.2.1 A.2.2
  have hlt : cl.slots.size < 2 ^ 31 := by
    by_cases hq : cl.slots.size < 2 ^ 31
    · exact hq
    · simp [Term.eval, ev, hA, hq] at hl
  have e := len_f (t := t) (args := args) (first := Z) (o := none) (idx := []) ev hA hlt
  have e2 : cl.slots.size.toInt32 = z := by
    have := e.symm.trans hl
    cases this; rfl
  exact Arv.start hf A hlt e2 hz hn H
end New
end Jvm.RoadKit
namespace Jvm.Pilot.@@N@@
open Jvm Jvm.ClassFile Sem Op Lib Jvm.Free Jvm.Stand Jvm.LawKit Jvm.RoadKit Bundle Jvm.Pilot.@@N@@.Jvm.D

def own_sh (k : Int32) (z : Int64) : Int64 := ((z.toUInt64 >>> (k &&& 0x3f).toInt64.toUInt64).toInt64)
def own_mix (z : Int64) : Int64 :=
  let a := ((z ^^^ ((z.toUInt64 >>> ((30 : Int32) &&& 0x3f).toInt64.toUInt64).toInt64)) * (-4658895280553007687 : Int64))
  let b := ((a ^^^ ((a.toUInt64 >>> ((27 : Int32) &&& 0x3f).toInt64.toUInt64).toInt64)) * (-7723592293110705685 : Int64))
  (b ^^^ ((b.toUInt64 >>> ((31 : Int32) &&& 0x3f).toInt64.toUInt64).toInt64))
def own_it (q y : Int64) : Int64 := (y * ((2 : Int64) - (q * y)))
def own_inv (q : Int64) : Int64 := own_it q (own_it q (own_it q (own_it q (own_it q (own_it q q)))))
def own_dec (z : Int64) : Int64 :=
  let a := ((z ^^^ ((z.toUInt64 >>> ((31 : Int32) &&& 0x3f).toInt64.toUInt64).toInt64)) ^^^ ((z.toUInt64 >>> ((62 : Int32) &&& 0x3f).toInt64.toUInt64).toInt64))
  let b := (a * (own_inv (-7723592293110705685 : Int64)))
  let c := ((b ^^^ ((b.toUInt64 >>> ((27 : Int32) &&& 0x3f).toInt64.toUInt64).toInt64)) ^^^ ((b.toUInt64 >>> ((54 : Int32) &&& 0x3f).toInt64.toUInt64).toInt64))
  let d := (c * (own_inv (-4658895280553007687 : Int64)))
  ((d ^^^ ((d.toUInt64 >>> ((30 : Int32) &&& 0x3f).toInt64.toUInt64).toInt64)) ^^^ ((d.toUInt64 >>> ((60 : Int32) &&& 0x3f).toInt64.toUInt64).toInt64))
theorem own_bx (x : BitVec 64) (k : Nat) (hk : 64 ≤ 3 * k) : ((x ^^^ x >>> k) ^^^ (x ^^^ x >>> k) >>> k) ^^^ (x ^^^ x >>> k) >>> (2 * k) = x := by
  apply BitVec.eq_of_getLsbD_eq
  intro i hi
  simp only [BitVec.getLsbD_xor, BitVec.getLsbD_ushiftRight]
  have e1 : k + (k + i) = 2 * k + i := by omega
  have e2 : x.getLsbD (k + (2 * k + i)) = false := BitVec.getLsbD_of_ge _ _ (by omega)
  rw [e1, e2]
  cases x.getLsbD i <;> cases x.getLsbD (k + i) <;> cases x.getLsbD (2 * k + i) <;> rfl
theorem own_x31 (b : Int64) : (((b ^^^ ((b.toUInt64 >>> ((31 : Int32) &&& 0x3f).toInt64.toUInt64).toInt64)) ^^^ (((b ^^^ ((b.toUInt64 >>> ((31 : Int32) &&& 0x3f).toInt64.toUInt64).toInt64)).toUInt64 >>> ((31 : Int32) &&& 0x3f).toInt64.toUInt64).toInt64)) ^^^ (((b ^^^ ((b.toUInt64 >>> ((31 : Int32) &&& 0x3f).toInt64.toUInt64).toInt64)).toUInt64 >>> ((62 : Int32) &&& 0x3f).toInt64.toUInt64).toInt64)) = b := by
  apply Int64.toBitVec_inj.mp
  exact own_bx b.toBitVec 31 (by decide)
theorem own_x27 (b : Int64) : (((b ^^^ ((b.toUInt64 >>> ((27 : Int32) &&& 0x3f).toInt64.toUInt64).toInt64)) ^^^ (((b ^^^ ((b.toUInt64 >>> ((27 : Int32) &&& 0x3f).toInt64.toUInt64).toInt64)).toUInt64 >>> ((27 : Int32) &&& 0x3f).toInt64.toUInt64).toInt64)) ^^^ (((b ^^^ ((b.toUInt64 >>> ((27 : Int32) &&& 0x3f).toInt64.toUInt64).toInt64)).toUInt64 >>> ((54 : Int32) &&& 0x3f).toInt64.toUInt64).toInt64)) = b := by
  apply Int64.toBitVec_inj.mp
  exact own_bx b.toBitVec 27 (by decide)
theorem own_x30 (b : Int64) : (((b ^^^ ((b.toUInt64 >>> ((30 : Int32) &&& 0x3f).toInt64.toUInt64).toInt64)) ^^^ (((b ^^^ ((b.toUInt64 >>> ((30 : Int32) &&& 0x3f).toInt64.toUInt64).toInt64)).toUInt64 >>> ((30 : Int32) &&& 0x3f).toInt64.toUInt64).toInt64)) ^^^ (((b ^^^ ((b.toUInt64 >>> ((30 : Int32) &&& 0x3f).toInt64.toUInt64).toInt64)).toUInt64 >>> ((60 : Int32) &&& 0x3f).toInt64.toUInt64).toInt64)) = b := by
  apply Int64.toBitVec_inj.mp
  exact own_bx b.toBitVec 30 (by decide)
theorem own_i2 : (-7723592293110705685 : Int64) * own_inv (-7723592293110705685 : Int64) = 1 := by decide +kernel
theorem own_i1 : (-4658895280553007687 : Int64) * own_inv (-4658895280553007687 : Int64) = 1 := by decide +kernel
theorem own_dm (z : Int64) : own_dec (own_mix z) = z := by
  unfold own_dec own_mix
  dsimp only
  rw [own_x31, Int64.mul_assoc, own_i2, Int64.mul_one, own_x27, Int64.mul_assoc, own_i1, Int64.mul_one, own_x30]

theorem d1_0 : decode prog_7_method_1_code 0 = .ok (.aload_n 0, 1) := by decide +kernel
theorem d1_1 : decode prog_7_method_1_code 1 = .ok (.invokespecial 1, 3) := by decide +kernel
theorem d1_4 : decode prog_7_method_1_code 4 = .ok (.aload_n 0, 1) := by decide +kernel
theorem d1_5 : decode prog_7_method_1_code 5 = .ok (.lload_n 1, 1) := by decide +kernel
theorem d1_6 : decode prog_7_method_1_code 6 = .ok (.putfield 7, 3) := by decide +kernel
theorem d1_9 : decode prog_7_method_1_code 9 = .ok (.return_, 1) := by decide +kernel
theorem pn_1 : plainName "com/example/methodical_checker/methodicalchecker/SplitMix64" = true := by first | (simp [plainName, overriddenIn]; done) | decide +kernel
theorem ef_1 (m : MethodId) (x0 : Addr) (x1 : Int64) : entryFrame m #[(.ref x0), (.long x1)] 3 = mkF m 0 #[.val (.ref x0), .val (.long x1), .second] [] := by first | (simp [entryFrame, mkF, argsToLocals, Value.category]; done) | rfl
def Q1 (Z : State) (a1 : Addr) (q1 : Int64) (u1 : Value) (h0 : Heap) (n0 : Nat) (v : Option Value) (h : Heap) (L : List Loc) : Prop := v = none ∧ Fr n0 L ∧ Keep h0 h [a1] ∧ Exa Z h a1 "com/example/methodical_checker/methodicalchecker/SplitMix64" ∧ Fld Z h a1 "com/example/methodical_checker/methodicalchecker/SplitMix64" "counter" "J" (.long q1)
set_option maxRecDepth 65536 in
set_option maxHeartbeats 40000000 in
theorem rm1 (l : Launch) (Z : State) (a0 : Array Value) (hw : ∀ d ∈ tables_1, d.before a0 Z = true) (ws : List Jvm.Cond) (a1 : Addr) (q1 : Int64) (u1 : Value) (h0 : Heap) (n0 : Nat) (Z0 : n0 ≤ h0.size) (P0 : Exa Z h0 a1 "com/example/methodical_checker/methodicalchecker/SplitMix64") (P1 : Fld Z h0 a1 "com/example/methodical_checker/methodicalchecker/SplitMix64" "counter" "J" u1) (g_a1 : n0 ≤ a1) :
    MetFree l (⟨"com/example/methodical_checker/methodicalchecker/SplitMix64", "<init>", "(J)V"⟩ : MethodName) (head1 (Jvm.Cond.code (⟨"com/example/methodical_checker/methodicalchecker/SplitMix64", "<init>", "(J)V"⟩ : MethodName) prog_7_method_1_code 3 none :: ws) ({ frames := 1, cells := 0, slots := 0, locals := 12 } : Room)) (fun a U => a = #[(.ref a1), (.long q1)] ∧ Z.Warmed39 U.vm ∧ U.heap = h0) (fun _ _ _ _ _ => True) (fun _ U o U' => ∃ v L, o = .returned v ∧ Q1 Z a1 q1 u1 h0 n0 v U'.heap L ∧ FrameEnd U o U' L ({ frames := 1, cells := 0, slots := 0, locals := 12 } : Room).cells ({ frames := 1, cells := 0, slots := 0, locals := 12 } : Room).slots) := by
  refine MetFree.of_bodySF (plainFor_of_name pn_1) hisR ?_
  intro p e s m args below meth c s₁ Bd hml0 hP hK
  obtain ⟨rfl, hZ, hh⟩ := hP
  have hx := Bd.exec
  have hby := Bd.bytes
  have hml : c.maxLocals = 3 := hml0
  have hown : s.vm.findClass "com/example/methodical_checker/methodicalchecker/SplitMix64" = some m.cls := findClass_of_methodNamed Bd.named
  have hnm := (name_of_methodNamed Bd.named Bd.method).1
  have hlk : meth.locks = false := BodyLoose.notSynchronized Bd
  have hrt := Bd.returns
  have X0 : Stand p l e ({ frames := 1, cells := 0, slots := 0, locals := 12 } : Room) s m #[(.ref a1), (.long q1)] below meth c s₁ [] 0 0 := Stand.of_body Bd
  have e0 : s₁.heap = h0 := by rw [← hh, Bd.state]; rfl
  have N0 := Fr.nil n0
  show own_Fin p.tables e below (own_post (Q1 Z a1 q1 u1 h0 n0) s ({ frames := 1, cells := 0, slots := 0, locals := 12 } : Room).cells ({ frames := 1, cells := 0, slots := 0, locals := 12 } : Room).slots) (s₁.setTop (entryFrame m #[(.ref a1), (.long q1)] 3))
  refine own_Fin.step (fun t k => castTop (ef_1 m a1 q1) k) ?_
  have lt_P0 := P0.lt
  have lt_P1 := P1.lt
  refine own_Fin.step (S' := s₁.setTop (mkF m 1 #[.val (.ref a1), .val (.long q1), .second] [(.ref a1)])) (fun t k => XS.aloadN X0.here hx rfl (hb hby d1_0) rfl rfl  k) ?_
  obtain ⟨T1, X1, e1, st1⟩ := initO X0 hx hZ hown (hw _ (List.mem_of_getElem? (i := 6) rfl)) (hw _ (List.mem_of_getElem? (i := 7) rfl)) (hw _ (List.mem_of_getElem? (i := 8) rfl)) e0 (g := (mkF m 1 #[.val (.ref a1), .val (.long q1), .second] [(.ref a1)])) rfl (by rw [hml]; rfl) rfl (hb hby d1_1) (by decide) (W := 0) (by show 2 * 0 + _ ≤ _; exact Nat.le_of_eq rfl) (by decide)
  refine own_Fin.step (S' := T1.setTop (mkF m 4 #[.val (.ref a1), .val (.long q1), .second] [])) st1 ?_
  refine own_Fin.step (S' := T1.setTop (mkF m 5 #[.val (.ref a1), .val (.long q1), .second] [(.ref a1)])) (fun t k => XS.aloadN X1.here hx rfl (hb hby d1_4) rfl rfl  k) ?_
  refine own_Fin.step (S' := T1.setTop (mkF m 6 #[.val (.ref a1), .val (.long q1), .second] [(.long q1), (.ref a1)])) (fun t k => XS.lloadN X1.here hx rfl (hb hby d1_5) rfl  k) ?_
  obtain ⟨T2, h2, X2, e2, W2, st2⟩ := putF X1 hx hZ hown (host := "") (Or.inl (hw _ (List.mem_of_getElem? (i := 9) rfl))) Via.refl e1 P1 P0 (Or.inl (hw _ (List.mem_of_getElem? (i := 10) rfl))) (hw _ (List.mem_of_getElem? (i := 1) rfl)) (ty := .long) (by decide) rfl rfl (g := (mkF m 6 #[.val (.ref a1), .val (.long q1), .second] [(.long q1), (.ref a1)])) rfl rfl (hb hby d1_6)
  have F2 := Fld.same W2 P1
  have z2 := W2.size
  have KK2 : Keep h0 h2 [a1] := (Keep.refl h0 [a1]).wr W2 (Or.inl (by simp))
  have N2 := Fr.snoc X2 N0 (by omega)
  refine own_Fin.step (S' := T2.setTop (mkF m 9 #[.val (.ref a1), .val (.long q1), .second] [])) st2 ?_
  have f4 : Exa Z h2 a1 "com/example/methodical_checker/methodicalchecker/SplitMix64" := (Exa.wr W2 P0)
  have hq3 : Q1 Z a1 q1 u1 h0 n0 none h2 _ := ⟨rfl, N2, KK2, f4, F2⟩
  exact own_retV X2 hx hlk hrt (hb hby d1_9) e2 hq3 (by decide) (by decide)
theorem d3_0 : decode prog_7_method_2_code 0 = .ok (.aload_n 0, 1) := by decide +kernel
theorem d3_1 : decode prog_7_method_2_code 1 = .ok (.dup, 1) := by decide +kernel
theorem d3_2 : decode prog_7_method_2_code 2 = .ok (.getfield 7, 3) := by decide +kernel
theorem d3_5 : decode prog_7_method_2_code 5 = .ok (.ldc2_w 13, 3) := by decide +kernel
theorem d3_8 : decode prog_7_method_2_code 8 = .ok (.ladd, 1) := by decide +kernel
theorem d3_9 : decode prog_7_method_2_code 9 = .ok (.putfield 7, 3) := by decide +kernel
theorem d3_12 : decode prog_7_method_2_code 12 = .ok (.aload_n 0, 1) := by decide +kernel
theorem d3_13 : decode prog_7_method_2_code 13 = .ok (.getfield 7, 3) := by decide +kernel
theorem d3_16 : decode prog_7_method_2_code 16 = .ok (.aload_n 0, 1) := by decide +kernel
theorem d3_17 : decode prog_7_method_2_code 17 = .ok (.getfield 7, 3) := by decide +kernel
theorem d3_20 : decode prog_7_method_2_code 20 = .ok (.bipush 30, 2) := by decide +kernel
theorem d3_22 : decode prog_7_method_2_code 22 = .ok (.lushr, 1) := by decide +kernel
theorem d3_23 : decode prog_7_method_2_code 23 = .ok (.lxor, 1) := by decide +kernel
theorem d3_24 : decode prog_7_method_2_code 24 = .ok (.ldc2_w 15, 3) := by decide +kernel
theorem d3_27 : decode prog_7_method_2_code 27 = .ok (.lmul, 1) := by decide +kernel
theorem d3_28 : decode prog_7_method_2_code 28 = .ok (.lstore_n 1, 1) := by decide +kernel
theorem d3_29 : decode prog_7_method_2_code 29 = .ok (.lload_n 1, 1) := by decide +kernel
theorem d3_30 : decode prog_7_method_2_code 30 = .ok (.lload_n 1, 1) := by decide +kernel
theorem d3_31 : decode prog_7_method_2_code 31 = .ok (.bipush 27, 2) := by decide +kernel
theorem d3_33 : decode prog_7_method_2_code 33 = .ok (.lushr, 1) := by decide +kernel
theorem d3_34 : decode prog_7_method_2_code 34 = .ok (.lxor, 1) := by decide +kernel
theorem d3_35 : decode prog_7_method_2_code 35 = .ok (.ldc2_w 17, 3) := by decide +kernel
theorem d3_38 : decode prog_7_method_2_code 38 = .ok (.lmul, 1) := by decide +kernel
theorem d3_39 : decode prog_7_method_2_code 39 = .ok (.lstore_n 1, 1) := by decide +kernel
theorem d3_40 : decode prog_7_method_2_code 40 = .ok (.lload_n 1, 1) := by decide +kernel
theorem d3_41 : decode prog_7_method_2_code 41 = .ok (.lload_n 1, 1) := by decide +kernel
theorem d3_42 : decode prog_7_method_2_code 42 = .ok (.bipush 31, 2) := by decide +kernel
theorem d3_44 : decode prog_7_method_2_code 44 = .ok (.lushr, 1) := by decide +kernel
theorem d3_45 : decode prog_7_method_2_code 45 = .ok (.lxor, 1) := by decide +kernel
theorem d3_46 : decode prog_7_method_2_code 46 = .ok (.lreturn, 1) := by decide +kernel
theorem pn_3 : plainName "com/example/methodical_checker/methodicalchecker/SplitMix64" = true := by first | (simp [plainName, overriddenIn]; done) | decide +kernel
theorem ef_3 (m : MethodId) (x0 : Addr) : entryFrame m #[(.ref x0)] 3 = mkF m 0 #[.val (.ref x0), .unset, .unset] [] := by first | (simp [entryFrame, mkF, argsToLocals, Value.category]; done) | rfl
def Q3 (Z : State) (a1 : Addr) (q1 : Int64) (h0 : Heap) (n0 : Nat) (v : Option Value) (h : Heap) (L : List Loc) : Prop := v = some (.long (own_mix (q1 + (-7046029254386353131 : Int64)))) ∧ Fr n0 L ∧ Keep h0 h [a1] ∧ Exa Z h a1 "com/example/methodical_checker/methodicalchecker/SplitMix64" ∧ Fld Z h a1 "com/example/methodical_checker/methodicalchecker/SplitMix64" "counter" "J" (.long (q1 + (-7046029254386353131 : Int64)))
set_option maxRecDepth 65536 in
set_option maxHeartbeats 40000000 in
theorem rm3 (l : Launch) (Z : State) (a0 : Array Value) (hw : ∀ d ∈ tables_1, d.before a0 Z = true) (ws : List Jvm.Cond) (a1 : Addr) (q1 : Int64) (h0 : Heap) (n0 : Nat) (Z0 : n0 ≤ h0.size) (P0 : Exa Z h0 a1 "com/example/methodical_checker/methodicalchecker/SplitMix64") (P1 : Fld Z h0 a1 "com/example/methodical_checker/methodicalchecker/SplitMix64" "counter" "J" (.long q1)) (g_a1 : n0 ≤ a1) :
    MetFree l (⟨"com/example/methodical_checker/methodicalchecker/SplitMix64", "nextLong", "()J"⟩ : MethodName) (head1 (Jvm.Cond.code (⟨"com/example/methodical_checker/methodicalchecker/SplitMix64", "nextLong", "()J"⟩ : MethodName) prog_7_method_2_code 3 (some .long) :: ws) ({ frames := 0, cells := 0, slots := 0, locals := 0 } : Room)) (fun a U => a = #[(.ref a1)] ∧ Z.Warmed39 U.vm ∧ U.heap = h0) (fun _ _ _ _ _ => True) (fun _ U o U' => ∃ v L, o = .returned v ∧ Q3 Z a1 q1 h0 n0 v U'.heap L ∧ FrameEnd U o U' L ({ frames := 0, cells := 0, slots := 0, locals := 0 } : Room).cells ({ frames := 0, cells := 0, slots := 0, locals := 0 } : Room).slots) := by
  refine MetFree.of_bodySF (plainFor_of_name pn_3) hisR ?_
  intro p e s m args below meth c s₁ Bd hml0 hP hK
  obtain ⟨rfl, hZ, hh⟩ := hP
  have hx := Bd.exec
  have hby := Bd.bytes
  have hml : c.maxLocals = 3 := hml0
  have hown : s.vm.findClass "com/example/methodical_checker/methodicalchecker/SplitMix64" = some m.cls := findClass_of_methodNamed Bd.named
  have hnm := (name_of_methodNamed Bd.named Bd.method).1
  have hlk : meth.locks = false := BodyLoose.notSynchronized Bd
  have hrt := Bd.returns
  have X0 : Stand p l e ({ frames := 0, cells := 0, slots := 0, locals := 0 } : Room) s m #[(.ref a1)] below meth c s₁ [] 0 0 := Stand.of_body Bd
  have e0 : s₁.heap = h0 := by rw [← hh, Bd.state]; rfl
  have N0 := Fr.nil n0
  show own_Fin p.tables e below (own_post (Q3 Z a1 q1 h0 n0) s ({ frames := 0, cells := 0, slots := 0, locals := 0 } : Room).cells ({ frames := 0, cells := 0, slots := 0, locals := 0 } : Room).slots) (s₁.setTop (entryFrame m #[(.ref a1)] 3))
  refine own_Fin.step (fun t k => castTop (ef_3 m a1) k) ?_
  have lt_P0 := P0.lt
  have lt_P1 := P1.lt
  refine own_Fin.step (S' := s₁.setTop (mkF m 1 #[.val (.ref a1), .unset, .unset] [(.ref a1)])) (fun t k => XS.aloadN X0.here hx rfl (hb hby d3_0) rfl rfl  k) ?_
  refine own_Fin.step (S' := s₁.setTop (mkF m 2 #[.val (.ref a1), .unset, .unset] [(.ref a1), (.ref a1)])) (fun t k => XS.dup X0.here hx rfl (hb hby d3_1) rfl rfl k) ?_
  obtain ⟨T5, X5, e5, st5⟩ := getF X0 hx hZ hown (host := "") (Or.inl (hw _ (List.mem_of_getElem? (i := 9) rfl))) Via.refl e0 P1 (g := (mkF m 2 #[.val (.ref a1), .unset, .unset] [(.ref a1), (.ref a1)])) rfl rfl (hb hby d3_2)
  refine own_Fin.step (S' := T5.setTop (mkF m 5 #[.val (.ref a1), .unset, .unset] [(.long q1), (.ref a1)])) st5 ?_
  refine own_Fin.step (S' := T5.setTop (mkF m 8 #[.val (.ref a1), .unset, .unset] [(.long (-7046029254386353131 : Int64)), (.long q1), (.ref a1)])) (X5.ldc2Long hx hown (mvT hZ (hw _ (List.mem_of_getElem? (i := 16) rfl))) (g := (mkF m 5 #[.val (.ref a1), .unset, .unset] [(.long q1), (.ref a1)])) rfl (hb hby d3_5)) ?_
  refine own_Fin.step (S' := T5.setTop (mkF m 9 #[.val (.ref a1), .unset, .unset] [(.long (q1 + (-7046029254386353131 : Int64))), (.ref a1)])) (fun t k => XS.ladd X5.here hx rfl (hb hby d3_8) rfl k) ?_
  obtain ⟨T6, h6, X6, e6, W6, st6⟩ := putF X5 hx hZ hown (host := "") (Or.inl (hw _ (List.mem_of_getElem? (i := 9) rfl))) Via.refl e5 P1 P0 (Or.inl (hw _ (List.mem_of_getElem? (i := 10) rfl))) (hw _ (List.mem_of_getElem? (i := 1) rfl)) (ty := .long) (by decide) rfl rfl (g := (mkF m 9 #[.val (.ref a1), .unset, .unset] [(.long (q1 + (-7046029254386353131 : Int64))), (.ref a1)])) rfl rfl (hb hby d3_9)
  have F6 := Fld.same W6 P1
  have z6 := W6.size
  have KK6 : Keep h0 h6 [a1] := (Keep.refl h0 [a1]).wr W6 (Or.inl (by simp))
  have N6 := Fr.snoc X6 N0 (by omega)
  refine own_Fin.step (S' := T6.setTop (mkF m 12 #[.val (.ref a1), .unset, .unset] [])) st6 ?_
  refine own_Fin.step (S' := T6.setTop (mkF m 13 #[.val (.ref a1), .unset, .unset] [(.ref a1)])) (fun t k => XS.aloadN X6.here hx rfl (hb hby d3_12) rfl rfl  k) ?_
  obtain ⟨T7, X7, e7, st7⟩ := getF X6 hx hZ hown (host := "") (Or.inl (hw _ (List.mem_of_getElem? (i := 9) rfl))) Via.refl e6 F6 (g := (mkF m 13 #[.val (.ref a1), .unset, .unset] [(.ref a1)])) rfl rfl (hb hby d3_13)
  refine own_Fin.step (S' := T7.setTop (mkF m 16 #[.val (.ref a1), .unset, .unset] [(.long (q1 + (-7046029254386353131 : Int64)))])) st7 ?_
  refine own_Fin.step (S' := T7.setTop (mkF m 17 #[.val (.ref a1), .unset, .unset] [(.ref a1), (.long (q1 + (-7046029254386353131 : Int64)))])) (fun t k => XS.aloadN X7.here hx rfl (hb hby d3_16) rfl rfl  k) ?_
  obtain ⟨T8, X8, e8, st8⟩ := getF X7 hx hZ hown (host := "") (Or.inl (hw _ (List.mem_of_getElem? (i := 9) rfl))) Via.refl e7 F6 (g := (mkF m 17 #[.val (.ref a1), .unset, .unset] [(.ref a1), (.long (q1 + (-7046029254386353131 : Int64)))])) rfl rfl (hb hby d3_17)
  refine own_Fin.step (S' := T8.setTop (mkF m 20 #[.val (.ref a1), .unset, .unset] [(.long (q1 + (-7046029254386353131 : Int64))), (.long (q1 + (-7046029254386353131 : Int64)))])) st8 ?_
  refine own_Fin.step (S' := T8.setTop (mkF m 22 #[.val (.ref a1), .unset, .unset] [(.int (30 : Int32)), (.long (q1 + (-7046029254386353131 : Int64))), (.long (q1 + (-7046029254386353131 : Int64)))])) (fun t k => XS.bipush X8.here hx rfl (hb hby d3_20) k) ?_
  refine own_Fin.step (S' := T8.setTop (mkF m 23 #[.val (.ref a1), .unset, .unset] [(.long (((q1 + (-7046029254386353131 : Int64)).toUInt64 >>> ((30 : Int32) &&& 0x3f).toInt64.toUInt64).toInt64)), (.long (q1 + (-7046029254386353131 : Int64)))])) (fun t k => XS.lushr X8.here hx rfl (hb hby d3_22) rfl k) ?_
  refine own_Fin.step (S' := T8.setTop (mkF m 24 #[.val (.ref a1), .unset, .unset] [(.long ((q1 + (-7046029254386353131 : Int64)) ^^^ (((q1 + (-7046029254386353131 : Int64)).toUInt64 >>> ((30 : Int32) &&& 0x3f).toInt64.toUInt64).toInt64)))])) (fun t k => XS.lxor X8.here hx rfl (hb hby d3_23) rfl k) ?_
  refine own_Fin.step (S' := T8.setTop (mkF m 27 #[.val (.ref a1), .unset, .unset] [(.long (-4658895280553007687 : Int64)), (.long ((q1 + (-7046029254386353131 : Int64)) ^^^ (((q1 + (-7046029254386353131 : Int64)).toUInt64 >>> ((30 : Int32) &&& 0x3f).toInt64.toUInt64).toInt64)))])) (X8.ldc2Long hx hown (mvT hZ (hw _ (List.mem_of_getElem? (i := 17) rfl))) (g := (mkF m 24 #[.val (.ref a1), .unset, .unset] [(.long ((q1 + (-7046029254386353131 : Int64)) ^^^ (((q1 + (-7046029254386353131 : Int64)).toUInt64 >>> ((30 : Int32) &&& 0x3f).toInt64.toUInt64).toInt64)))])) rfl (hb hby d3_24)) ?_
  refine own_Fin.step (S' := T8.setTop (mkF m 28 #[.val (.ref a1), .unset, .unset] [(.long (((q1 + (-7046029254386353131 : Int64)) ^^^ (((q1 + (-7046029254386353131 : Int64)).toUInt64 >>> ((30 : Int32) &&& 0x3f).toInt64.toUInt64).toInt64)) * (-4658895280553007687 : Int64)))])) (fun t k => XS.lmul X8.here hx rfl (hb hby d3_27) rfl k) ?_
  obtain ⟨v28, hv28⟩ : ∃ z : Int64, z = (((q1 + (-7046029254386353131 : Int64)) ^^^ (((q1 + (-7046029254386353131 : Int64)).toUInt64 >>> ((30 : Int32) &&& 0x3f).toInt64.toUInt64).toInt64)) * (-4658895280553007687 : Int64)) := ⟨_, rfl⟩
  rw [← hv28]
  refine own_Fin.step (S' := T8.setTop (mkF m 29 #[.val (.ref a1), .val (.long v28), .second] [])) (fun t k => XS.lstoreN X8.here hx rfl (hb hby d3_28) rfl (l' := #[.val (.ref a1), .val (.long v28), .second]) rfl k) ?_
  refine own_Fin.step (S' := T8.setTop (mkF m 30 #[.val (.ref a1), .val (.long v28), .second] [(.long v28)])) (fun t k => XS.lloadN X8.here hx rfl (hb hby d3_29) rfl  k) ?_
  refine own_Fin.step (S' := T8.setTop (mkF m 31 #[.val (.ref a1), .val (.long v28), .second] [(.long v28), (.long v28)])) (fun t k => XS.lloadN X8.here hx rfl (hb hby d3_30) rfl  k) ?_
  refine own_Fin.step (S' := T8.setTop (mkF m 33 #[.val (.ref a1), .val (.long v28), .second] [(.int (27 : Int32)), (.long v28), (.long v28)])) (fun t k => XS.bipush X8.here hx rfl (hb hby d3_31) k) ?_
  refine own_Fin.step (S' := T8.setTop (mkF m 34 #[.val (.ref a1), .val (.long v28), .second] [(.long ((v28.toUInt64 >>> ((27 : Int32) &&& 0x3f).toInt64.toUInt64).toInt64)), (.long v28)])) (fun t k => XS.lushr X8.here hx rfl (hb hby d3_33) rfl k) ?_
  refine own_Fin.step (S' := T8.setTop (mkF m 35 #[.val (.ref a1), .val (.long v28), .second] [(.long (v28 ^^^ ((v28.toUInt64 >>> ((27 : Int32) &&& 0x3f).toInt64.toUInt64).toInt64)))])) (fun t k => XS.lxor X8.here hx rfl (hb hby d3_34) rfl k) ?_
  refine own_Fin.step (S' := T8.setTop (mkF m 38 #[.val (.ref a1), .val (.long v28), .second] [(.long (-7723592293110705685 : Int64)), (.long (v28 ^^^ ((v28.toUInt64 >>> ((27 : Int32) &&& 0x3f).toInt64.toUInt64).toInt64)))])) (X8.ldc2Long hx hown (mvT hZ (hw _ (List.mem_of_getElem? (i := 18) rfl))) (g := (mkF m 35 #[.val (.ref a1), .val (.long v28), .second] [(.long (v28 ^^^ ((v28.toUInt64 >>> ((27 : Int32) &&& 0x3f).toInt64.toUInt64).toInt64)))])) rfl (hb hby d3_35)) ?_
  refine own_Fin.step (S' := T8.setTop (mkF m 39 #[.val (.ref a1), .val (.long v28), .second] [(.long ((v28 ^^^ ((v28.toUInt64 >>> ((27 : Int32) &&& 0x3f).toInt64.toUInt64).toInt64)) * (-7723592293110705685 : Int64)))])) (fun t k => XS.lmul X8.here hx rfl (hb hby d3_38) rfl k) ?_
  obtain ⟨v39, hv39⟩ : ∃ z : Int64, z = ((v28 ^^^ ((v28.toUInt64 >>> ((27 : Int32) &&& 0x3f).toInt64.toUInt64).toInt64)) * (-7723592293110705685 : Int64)) := ⟨_, rfl⟩
  rw [← hv39]
  refine own_Fin.step (S' := T8.setTop (mkF m 40 #[.val (.ref a1), .val (.long v39), .second] [])) (fun t k => XS.lstoreN X8.here hx rfl (hb hby d3_39) rfl (l' := #[.val (.ref a1), .val (.long v39), .second]) rfl k) ?_
  refine own_Fin.step (S' := T8.setTop (mkF m 41 #[.val (.ref a1), .val (.long v39), .second] [(.long v39)])) (fun t k => XS.lloadN X8.here hx rfl (hb hby d3_40) rfl  k) ?_
  refine own_Fin.step (S' := T8.setTop (mkF m 42 #[.val (.ref a1), .val (.long v39), .second] [(.long v39), (.long v39)])) (fun t k => XS.lloadN X8.here hx rfl (hb hby d3_41) rfl  k) ?_
  refine own_Fin.step (S' := T8.setTop (mkF m 44 #[.val (.ref a1), .val (.long v39), .second] [(.int (31 : Int32)), (.long v39), (.long v39)])) (fun t k => XS.bipush X8.here hx rfl (hb hby d3_42) k) ?_
  refine own_Fin.step (S' := T8.setTop (mkF m 45 #[.val (.ref a1), .val (.long v39), .second] [(.long ((v39.toUInt64 >>> ((31 : Int32) &&& 0x3f).toInt64.toUInt64).toInt64)), (.long v39)])) (fun t k => XS.lushr X8.here hx rfl (hb hby d3_44) rfl k) ?_
  refine own_Fin.step (S' := T8.setTop (mkF m 46 #[.val (.ref a1), .val (.long v39), .second] [(.long (v39 ^^^ ((v39.toUInt64 >>> ((31 : Int32) &&& 0x3f).toInt64.toUInt64).toInt64)))])) (fun t k => XS.lxor X8.here hx rfl (hb hby d3_45) rfl k) ?_
  have f10 : Exa Z h6 a1 "com/example/methodical_checker/methodicalchecker/SplitMix64" := (Exa.wr W6 P0)
  have hq9 : Q3 Z a1 q1 h0 n0 (some (.long (v39 ^^^ ((v39.toUInt64 >>> ((31 : Int32) &&& 0x3f).toInt64.toUInt64).toInt64)))) h6 _ := ⟨(by subst hv39 hv28; rfl), N6, KK6, f10, F6⟩
  exact own_retJ X8 hx hlk hrt (hb hby d3_46) e8 hq9 (by decide) (by decide)
theorem d5_0 : decode method_2_code 0 = .ok (.lload_n 0, 1) := by decide +kernel
theorem d5_1 : decode method_2_code 1 = .ok (.lstore_n 2, 1) := by decide +kernel
theorem d5_2 : decode method_2_code 2 = .ok (.lload_n 2, 1) := by decide +kernel
theorem d5_3 : decode method_2_code 3 = .ok (.ldc2_w 7, 3) := by decide +kernel
theorem d5_6 : decode method_2_code 6 = .ok (.lload_n 0, 1) := by decide +kernel
theorem d5_7 : decode method_2_code 7 = .ok (.lload_n 2, 1) := by decide +kernel
theorem d5_8 : decode method_2_code 8 = .ok (.lmul, 1) := by decide +kernel
theorem d5_9 : decode method_2_code 9 = .ok (.lsub, 1) := by decide +kernel
theorem d5_10 : decode method_2_code 10 = .ok (.lmul, 1) := by decide +kernel
theorem d5_11 : decode method_2_code 11 = .ok (.lstore_n 2, 1) := by decide +kernel
theorem d5_12 : decode method_2_code 12 = .ok (.lload_n 2, 1) := by decide +kernel
theorem d5_13 : decode method_2_code 13 = .ok (.ldc2_w 7, 3) := by decide +kernel
theorem d5_16 : decode method_2_code 16 = .ok (.lload_n 0, 1) := by decide +kernel
theorem d5_17 : decode method_2_code 17 = .ok (.lload_n 2, 1) := by decide +kernel
theorem d5_18 : decode method_2_code 18 = .ok (.lmul, 1) := by decide +kernel
theorem d5_19 : decode method_2_code 19 = .ok (.lsub, 1) := by decide +kernel
theorem d5_20 : decode method_2_code 20 = .ok (.lmul, 1) := by decide +kernel
theorem d5_21 : decode method_2_code 21 = .ok (.lstore_n 2, 1) := by decide +kernel
theorem d5_22 : decode method_2_code 22 = .ok (.lload_n 2, 1) := by decide +kernel
theorem d5_23 : decode method_2_code 23 = .ok (.ldc2_w 7, 3) := by decide +kernel
theorem d5_26 : decode method_2_code 26 = .ok (.lload_n 0, 1) := by decide +kernel
theorem d5_27 : decode method_2_code 27 = .ok (.lload_n 2, 1) := by decide +kernel
theorem d5_28 : decode method_2_code 28 = .ok (.lmul, 1) := by decide +kernel
theorem d5_29 : decode method_2_code 29 = .ok (.lsub, 1) := by decide +kernel
theorem d5_30 : decode method_2_code 30 = .ok (.lmul, 1) := by decide +kernel
theorem d5_31 : decode method_2_code 31 = .ok (.lstore_n 2, 1) := by decide +kernel
theorem d5_32 : decode method_2_code 32 = .ok (.lload_n 2, 1) := by decide +kernel
theorem d5_33 : decode method_2_code 33 = .ok (.ldc2_w 7, 3) := by decide +kernel
theorem d5_36 : decode method_2_code 36 = .ok (.lload_n 0, 1) := by decide +kernel
theorem d5_37 : decode method_2_code 37 = .ok (.lload_n 2, 1) := by decide +kernel
theorem d5_38 : decode method_2_code 38 = .ok (.lmul, 1) := by decide +kernel
theorem d5_39 : decode method_2_code 39 = .ok (.lsub, 1) := by decide +kernel
theorem d5_40 : decode method_2_code 40 = .ok (.lmul, 1) := by decide +kernel
theorem d5_41 : decode method_2_code 41 = .ok (.lstore_n 2, 1) := by decide +kernel
theorem d5_42 : decode method_2_code 42 = .ok (.lload_n 2, 1) := by decide +kernel
theorem d5_43 : decode method_2_code 43 = .ok (.ldc2_w 7, 3) := by decide +kernel
theorem d5_46 : decode method_2_code 46 = .ok (.lload_n 0, 1) := by decide +kernel
theorem d5_47 : decode method_2_code 47 = .ok (.lload_n 2, 1) := by decide +kernel
theorem d5_48 : decode method_2_code 48 = .ok (.lmul, 1) := by decide +kernel
theorem d5_49 : decode method_2_code 49 = .ok (.lsub, 1) := by decide +kernel
theorem d5_50 : decode method_2_code 50 = .ok (.lmul, 1) := by decide +kernel
theorem d5_51 : decode method_2_code 51 = .ok (.lstore_n 2, 1) := by decide +kernel
theorem d5_52 : decode method_2_code 52 = .ok (.lload_n 2, 1) := by decide +kernel
theorem d5_53 : decode method_2_code 53 = .ok (.ldc2_w 7, 3) := by decide +kernel
theorem d5_56 : decode method_2_code 56 = .ok (.lload_n 0, 1) := by decide +kernel
theorem d5_57 : decode method_2_code 57 = .ok (.lload_n 2, 1) := by decide +kernel
theorem d5_58 : decode method_2_code 58 = .ok (.lmul, 1) := by decide +kernel
theorem d5_59 : decode method_2_code 59 = .ok (.lsub, 1) := by decide +kernel
theorem d5_60 : decode method_2_code 60 = .ok (.lmul, 1) := by decide +kernel
theorem d5_61 : decode method_2_code 61 = .ok (.lstore_n 2, 1) := by decide +kernel
theorem d5_62 : decode method_2_code 62 = .ok (.lload_n 2, 1) := by decide +kernel
theorem d5_63 : decode method_2_code 63 = .ok (.lreturn, 1) := by decide +kernel
theorem pn_5 : plainName "com/example/methodical_checker/methodicalchecker/SplitMix64NextLongPinLaw" = true := by first | (simp [plainName, overriddenIn]; done) | decide +kernel
theorem ef_5 (m : MethodId) (x0 : Int64) : entryFrame m #[(.long x0)] 4 = mkF m 0 #[.val (.long x0), .second, .unset, .unset] [] := by first | (simp [entryFrame, mkF, argsToLocals, Value.category]; done) | rfl
def Q5 (Z : State) (q1 : Int64) (h0 : Heap) (n0 : Nat) (v : Option Value) (h : Heap) (L : List Loc) : Prop := v = some (.long (own_inv q1)) ∧ Fr n0 L ∧ h = h0
set_option maxRecDepth 65536 in
set_option maxHeartbeats 40000000 in
theorem rm5 (l : Launch) (Z : State) (a0 : Array Value) (hw : ∀ d ∈ tables_1, d.before a0 Z = true) (ws : List Jvm.Cond) (q1 : Int64) (h0 : Heap) (n0 : Nat) (Z0 : n0 ≤ h0.size)  :
    MetFree l (⟨"com/example/methodical_checker/methodicalchecker/SplitMix64NextLongPinLaw", "inverse", "(J)J"⟩ : MethodName) (head1 (Jvm.Cond.code (⟨"com/example/methodical_checker/methodicalchecker/SplitMix64NextLongPinLaw", "inverse", "(J)J"⟩ : MethodName) method_2_code 4 (some .long) :: ws) ({ frames := 0, cells := 0, slots := 0, locals := 0 } : Room)) (fun a U => a = #[(.long q1)] ∧ Z.Warmed39 U.vm ∧ U.heap = h0) (fun _ _ _ _ _ => True) (fun _ U o U' => ∃ v L, o = .returned v ∧ Q5 Z q1 h0 n0 v U'.heap L ∧ FrameEnd U o U' L ({ frames := 0, cells := 0, slots := 0, locals := 0 } : Room).cells ({ frames := 0, cells := 0, slots := 0, locals := 0 } : Room).slots) := by
  refine MetFree.of_bodySF (plainFor_of_name pn_5) hisR ?_
  intro p e s m args below meth c s₁ Bd hml0 hP hK
  obtain ⟨rfl, hZ, hh⟩ := hP
  have hx := Bd.exec
  have hby := Bd.bytes
  have hml : c.maxLocals = 4 := hml0
  have hown : s.vm.findClass "com/example/methodical_checker/methodicalchecker/SplitMix64NextLongPinLaw" = some m.cls := findClass_of_methodNamed Bd.named
  have hnm := (name_of_methodNamed Bd.named Bd.method).1
  have hlk : meth.locks = false := BodyLoose.notSynchronized Bd
  have hrt := Bd.returns
  have X0 : Stand p l e ({ frames := 0, cells := 0, slots := 0, locals := 0 } : Room) s m #[(.long q1)] below meth c s₁ [] 0 0 := Stand.of_body Bd
  have e0 : s₁.heap = h0 := by rw [← hh, Bd.state]; rfl
  have N0 := Fr.nil n0
  show own_Fin p.tables e below (own_post (Q5 Z q1 h0 n0) s ({ frames := 0, cells := 0, slots := 0, locals := 0 } : Room).cells ({ frames := 0, cells := 0, slots := 0, locals := 0 } : Room).slots) (s₁.setTop (entryFrame m #[(.long q1)] 4))
  refine own_Fin.step (fun t k => castTop (ef_5 m q1) k) ?_
  refine own_Fin.step (S' := s₁.setTop (mkF m 1 #[.val (.long q1), .second, .unset, .unset] [(.long q1)])) (fun t k => XS.lloadN X0.here hx rfl (hb hby d5_0) rfl  k) ?_
  refine own_Fin.step (S' := s₁.setTop (mkF m 2 #[.val (.long q1), .second, .val (.long q1), .second] [])) (fun t k => XS.lstoreN X0.here hx rfl (hb hby d5_1) rfl (l' := #[.val (.long q1), .second, .val (.long q1), .second]) rfl k) ?_
  refine own_Fin.step (S' := s₁.setTop (mkF m 3 #[.val (.long q1), .second, .val (.long q1), .second] [(.long q1)])) (fun t k => XS.lloadN X0.here hx rfl (hb hby d5_2) rfl  k) ?_
  refine own_Fin.step (S' := s₁.setTop (mkF m 6 #[.val (.long q1), .second, .val (.long q1), .second] [(.long (2 : Int64)), (.long q1)])) (X0.ldc2Long hx hown (mvT hZ (hw _ (List.mem_of_getElem? (i := 27) rfl))) (g := (mkF m 3 #[.val (.long q1), .second, .val (.long q1), .second] [(.long q1)])) rfl (hb hby d5_3)) ?_
  refine own_Fin.step (S' := s₁.setTop (mkF m 7 #[.val (.long q1), .second, .val (.long q1), .second] [(.long q1), (.long (2 : Int64)), (.long q1)])) (fun t k => XS.lloadN X0.here hx rfl (hb hby d5_6) rfl  k) ?_
  refine own_Fin.step (S' := s₁.setTop (mkF m 8 #[.val (.long q1), .second, .val (.long q1), .second] [(.long q1), (.long q1), (.long (2 : Int64)), (.long q1)])) (fun t k => XS.lloadN X0.here hx rfl (hb hby d5_7) rfl  k) ?_
  refine own_Fin.step (S' := s₁.setTop (mkF m 9 #[.val (.long q1), .second, .val (.long q1), .second] [(.long (q1 * q1)), (.long (2 : Int64)), (.long q1)])) (fun t k => XS.lmul X0.here hx rfl (hb hby d5_8) rfl k) ?_
  refine own_Fin.step (S' := s₁.setTop (mkF m 10 #[.val (.long q1), .second, .val (.long q1), .second] [(.long ((2 : Int64) - (q1 * q1))), (.long q1)])) (fun t k => XS.lsub X0.here hx rfl (hb hby d5_9) rfl k) ?_
  refine own_Fin.step (S' := s₁.setTop (mkF m 11 #[.val (.long q1), .second, .val (.long q1), .second] [(.long (q1 * ((2 : Int64) - (q1 * q1))))])) (fun t k => XS.lmul X0.here hx rfl (hb hby d5_10) rfl k) ?_
  obtain ⟨v11, hv11⟩ : ∃ z : Int64, z = (q1 * ((2 : Int64) - (q1 * q1))) := ⟨_, rfl⟩
  rw [← hv11]
  refine own_Fin.step (S' := s₁.setTop (mkF m 12 #[.val (.long q1), .second, .val (.long v11), .second] [])) (fun t k => XS.lstoreN X0.here hx rfl (hb hby d5_11) rfl (l' := #[.val (.long q1), .second, .val (.long v11), .second]) rfl k) ?_
  refine own_Fin.step (S' := s₁.setTop (mkF m 13 #[.val (.long q1), .second, .val (.long v11), .second] [(.long v11)])) (fun t k => XS.lloadN X0.here hx rfl (hb hby d5_12) rfl  k) ?_
  refine own_Fin.step (S' := s₁.setTop (mkF m 16 #[.val (.long q1), .second, .val (.long v11), .second] [(.long (2 : Int64)), (.long v11)])) (X0.ldc2Long hx hown (mvT hZ (hw _ (List.mem_of_getElem? (i := 27) rfl))) (g := (mkF m 13 #[.val (.long q1), .second, .val (.long v11), .second] [(.long v11)])) rfl (hb hby d5_13)) ?_
  refine own_Fin.step (S' := s₁.setTop (mkF m 17 #[.val (.long q1), .second, .val (.long v11), .second] [(.long q1), (.long (2 : Int64)), (.long v11)])) (fun t k => XS.lloadN X0.here hx rfl (hb hby d5_16) rfl  k) ?_
  refine own_Fin.step (S' := s₁.setTop (mkF m 18 #[.val (.long q1), .second, .val (.long v11), .second] [(.long v11), (.long q1), (.long (2 : Int64)), (.long v11)])) (fun t k => XS.lloadN X0.here hx rfl (hb hby d5_17) rfl  k) ?_
  refine own_Fin.step (S' := s₁.setTop (mkF m 19 #[.val (.long q1), .second, .val (.long v11), .second] [(.long (q1 * v11)), (.long (2 : Int64)), (.long v11)])) (fun t k => XS.lmul X0.here hx rfl (hb hby d5_18) rfl k) ?_
  refine own_Fin.step (S' := s₁.setTop (mkF m 20 #[.val (.long q1), .second, .val (.long v11), .second] [(.long ((2 : Int64) - (q1 * v11))), (.long v11)])) (fun t k => XS.lsub X0.here hx rfl (hb hby d5_19) rfl k) ?_
  refine own_Fin.step (S' := s₁.setTop (mkF m 21 #[.val (.long q1), .second, .val (.long v11), .second] [(.long (v11 * ((2 : Int64) - (q1 * v11))))])) (fun t k => XS.lmul X0.here hx rfl (hb hby d5_20) rfl k) ?_
  obtain ⟨v21, hv21⟩ : ∃ z : Int64, z = (v11 * ((2 : Int64) - (q1 * v11))) := ⟨_, rfl⟩
  rw [← hv21]
  refine own_Fin.step (S' := s₁.setTop (mkF m 22 #[.val (.long q1), .second, .val (.long v21), .second] [])) (fun t k => XS.lstoreN X0.here hx rfl (hb hby d5_21) rfl (l' := #[.val (.long q1), .second, .val (.long v21), .second]) rfl k) ?_
  refine own_Fin.step (S' := s₁.setTop (mkF m 23 #[.val (.long q1), .second, .val (.long v21), .second] [(.long v21)])) (fun t k => XS.lloadN X0.here hx rfl (hb hby d5_22) rfl  k) ?_
  refine own_Fin.step (S' := s₁.setTop (mkF m 26 #[.val (.long q1), .second, .val (.long v21), .second] [(.long (2 : Int64)), (.long v21)])) (X0.ldc2Long hx hown (mvT hZ (hw _ (List.mem_of_getElem? (i := 27) rfl))) (g := (mkF m 23 #[.val (.long q1), .second, .val (.long v21), .second] [(.long v21)])) rfl (hb hby d5_23)) ?_
  refine own_Fin.step (S' := s₁.setTop (mkF m 27 #[.val (.long q1), .second, .val (.long v21), .second] [(.long q1), (.long (2 : Int64)), (.long v21)])) (fun t k => XS.lloadN X0.here hx rfl (hb hby d5_26) rfl  k) ?_
  refine own_Fin.step (S' := s₁.setTop (mkF m 28 #[.val (.long q1), .second, .val (.long v21), .second] [(.long v21), (.long q1), (.long (2 : Int64)), (.long v21)])) (fun t k => XS.lloadN X0.here hx rfl (hb hby d5_27) rfl  k) ?_
  refine own_Fin.step (S' := s₁.setTop (mkF m 29 #[.val (.long q1), .second, .val (.long v21), .second] [(.long (q1 * v21)), (.long (2 : Int64)), (.long v21)])) (fun t k => XS.lmul X0.here hx rfl (hb hby d5_28) rfl k) ?_
  refine own_Fin.step (S' := s₁.setTop (mkF m 30 #[.val (.long q1), .second, .val (.long v21), .second] [(.long ((2 : Int64) - (q1 * v21))), (.long v21)])) (fun t k => XS.lsub X0.here hx rfl (hb hby d5_29) rfl k) ?_
  refine own_Fin.step (S' := s₁.setTop (mkF m 31 #[.val (.long q1), .second, .val (.long v21), .second] [(.long (v21 * ((2 : Int64) - (q1 * v21))))])) (fun t k => XS.lmul X0.here hx rfl (hb hby d5_30) rfl k) ?_
  obtain ⟨v31, hv31⟩ : ∃ z : Int64, z = (v21 * ((2 : Int64) - (q1 * v21))) := ⟨_, rfl⟩
  rw [← hv31]
  refine own_Fin.step (S' := s₁.setTop (mkF m 32 #[.val (.long q1), .second, .val (.long v31), .second] [])) (fun t k => XS.lstoreN X0.here hx rfl (hb hby d5_31) rfl (l' := #[.val (.long q1), .second, .val (.long v31), .second]) rfl k) ?_
  refine own_Fin.step (S' := s₁.setTop (mkF m 33 #[.val (.long q1), .second, .val (.long v31), .second] [(.long v31)])) (fun t k => XS.lloadN X0.here hx rfl (hb hby d5_32) rfl  k) ?_
  refine own_Fin.step (S' := s₁.setTop (mkF m 36 #[.val (.long q1), .second, .val (.long v31), .second] [(.long (2 : Int64)), (.long v31)])) (X0.ldc2Long hx hown (mvT hZ (hw _ (List.mem_of_getElem? (i := 27) rfl))) (g := (mkF m 33 #[.val (.long q1), .second, .val (.long v31), .second] [(.long v31)])) rfl (hb hby d5_33)) ?_
  refine own_Fin.step (S' := s₁.setTop (mkF m 37 #[.val (.long q1), .second, .val (.long v31), .second] [(.long q1), (.long (2 : Int64)), (.long v31)])) (fun t k => XS.lloadN X0.here hx rfl (hb hby d5_36) rfl  k) ?_
  refine own_Fin.step (S' := s₁.setTop (mkF m 38 #[.val (.long q1), .second, .val (.long v31), .second] [(.long v31), (.long q1), (.long (2 : Int64)), (.long v31)])) (fun t k => XS.lloadN X0.here hx rfl (hb hby d5_37) rfl  k) ?_
  refine own_Fin.step (S' := s₁.setTop (mkF m 39 #[.val (.long q1), .second, .val (.long v31), .second] [(.long (q1 * v31)), (.long (2 : Int64)), (.long v31)])) (fun t k => XS.lmul X0.here hx rfl (hb hby d5_38) rfl k) ?_
  refine own_Fin.step (S' := s₁.setTop (mkF m 40 #[.val (.long q1), .second, .val (.long v31), .second] [(.long ((2 : Int64) - (q1 * v31))), (.long v31)])) (fun t k => XS.lsub X0.here hx rfl (hb hby d5_39) rfl k) ?_
  refine own_Fin.step (S' := s₁.setTop (mkF m 41 #[.val (.long q1), .second, .val (.long v31), .second] [(.long (v31 * ((2 : Int64) - (q1 * v31))))])) (fun t k => XS.lmul X0.here hx rfl (hb hby d5_40) rfl k) ?_
  obtain ⟨v41, hv41⟩ : ∃ z : Int64, z = (v31 * ((2 : Int64) - (q1 * v31))) := ⟨_, rfl⟩
  rw [← hv41]
  refine own_Fin.step (S' := s₁.setTop (mkF m 42 #[.val (.long q1), .second, .val (.long v41), .second] [])) (fun t k => XS.lstoreN X0.here hx rfl (hb hby d5_41) rfl (l' := #[.val (.long q1), .second, .val (.long v41), .second]) rfl k) ?_
  refine own_Fin.step (S' := s₁.setTop (mkF m 43 #[.val (.long q1), .second, .val (.long v41), .second] [(.long v41)])) (fun t k => XS.lloadN X0.here hx rfl (hb hby d5_42) rfl  k) ?_
  refine own_Fin.step (S' := s₁.setTop (mkF m 46 #[.val (.long q1), .second, .val (.long v41), .second] [(.long (2 : Int64)), (.long v41)])) (X0.ldc2Long hx hown (mvT hZ (hw _ (List.mem_of_getElem? (i := 27) rfl))) (g := (mkF m 43 #[.val (.long q1), .second, .val (.long v41), .second] [(.long v41)])) rfl (hb hby d5_43)) ?_
  refine own_Fin.step (S' := s₁.setTop (mkF m 47 #[.val (.long q1), .second, .val (.long v41), .second] [(.long q1), (.long (2 : Int64)), (.long v41)])) (fun t k => XS.lloadN X0.here hx rfl (hb hby d5_46) rfl  k) ?_
  refine own_Fin.step (S' := s₁.setTop (mkF m 48 #[.val (.long q1), .second, .val (.long v41), .second] [(.long v41), (.long q1), (.long (2 : Int64)), (.long v41)])) (fun t k => XS.lloadN X0.here hx rfl (hb hby d5_47) rfl  k) ?_
  refine own_Fin.step (S' := s₁.setTop (mkF m 49 #[.val (.long q1), .second, .val (.long v41), .second] [(.long (q1 * v41)), (.long (2 : Int64)), (.long v41)])) (fun t k => XS.lmul X0.here hx rfl (hb hby d5_48) rfl k) ?_
  refine own_Fin.step (S' := s₁.setTop (mkF m 50 #[.val (.long q1), .second, .val (.long v41), .second] [(.long ((2 : Int64) - (q1 * v41))), (.long v41)])) (fun t k => XS.lsub X0.here hx rfl (hb hby d5_49) rfl k) ?_
  refine own_Fin.step (S' := s₁.setTop (mkF m 51 #[.val (.long q1), .second, .val (.long v41), .second] [(.long (v41 * ((2 : Int64) - (q1 * v41))))])) (fun t k => XS.lmul X0.here hx rfl (hb hby d5_50) rfl k) ?_
  obtain ⟨v51, hv51⟩ : ∃ z : Int64, z = (v41 * ((2 : Int64) - (q1 * v41))) := ⟨_, rfl⟩
  rw [← hv51]
  refine own_Fin.step (S' := s₁.setTop (mkF m 52 #[.val (.long q1), .second, .val (.long v51), .second] [])) (fun t k => XS.lstoreN X0.here hx rfl (hb hby d5_51) rfl (l' := #[.val (.long q1), .second, .val (.long v51), .second]) rfl k) ?_
  refine own_Fin.step (S' := s₁.setTop (mkF m 53 #[.val (.long q1), .second, .val (.long v51), .second] [(.long v51)])) (fun t k => XS.lloadN X0.here hx rfl (hb hby d5_52) rfl  k) ?_
  refine own_Fin.step (S' := s₁.setTop (mkF m 56 #[.val (.long q1), .second, .val (.long v51), .second] [(.long (2 : Int64)), (.long v51)])) (X0.ldc2Long hx hown (mvT hZ (hw _ (List.mem_of_getElem? (i := 27) rfl))) (g := (mkF m 53 #[.val (.long q1), .second, .val (.long v51), .second] [(.long v51)])) rfl (hb hby d5_53)) ?_
  refine own_Fin.step (S' := s₁.setTop (mkF m 57 #[.val (.long q1), .second, .val (.long v51), .second] [(.long q1), (.long (2 : Int64)), (.long v51)])) (fun t k => XS.lloadN X0.here hx rfl (hb hby d5_56) rfl  k) ?_
  refine own_Fin.step (S' := s₁.setTop (mkF m 58 #[.val (.long q1), .second, .val (.long v51), .second] [(.long v51), (.long q1), (.long (2 : Int64)), (.long v51)])) (fun t k => XS.lloadN X0.here hx rfl (hb hby d5_57) rfl  k) ?_
  refine own_Fin.step (S' := s₁.setTop (mkF m 59 #[.val (.long q1), .second, .val (.long v51), .second] [(.long (q1 * v51)), (.long (2 : Int64)), (.long v51)])) (fun t k => XS.lmul X0.here hx rfl (hb hby d5_58) rfl k) ?_
  refine own_Fin.step (S' := s₁.setTop (mkF m 60 #[.val (.long q1), .second, .val (.long v51), .second] [(.long ((2 : Int64) - (q1 * v51))), (.long v51)])) (fun t k => XS.lsub X0.here hx rfl (hb hby d5_59) rfl k) ?_
  refine own_Fin.step (S' := s₁.setTop (mkF m 61 #[.val (.long q1), .second, .val (.long v51), .second] [(.long (v51 * ((2 : Int64) - (q1 * v51))))])) (fun t k => XS.lmul X0.here hx rfl (hb hby d5_60) rfl k) ?_
  obtain ⟨v61, hv61⟩ : ∃ z : Int64, z = (v51 * ((2 : Int64) - (q1 * v51))) := ⟨_, rfl⟩
  rw [← hv61]
  refine own_Fin.step (S' := s₁.setTop (mkF m 62 #[.val (.long q1), .second, .val (.long v61), .second] [])) (fun t k => XS.lstoreN X0.here hx rfl (hb hby d5_61) rfl (l' := #[.val (.long q1), .second, .val (.long v61), .second]) rfl k) ?_
  refine own_Fin.step (S' := s₁.setTop (mkF m 63 #[.val (.long q1), .second, .val (.long v61), .second] [(.long v61)])) (fun t k => XS.lloadN X0.here hx rfl (hb hby d5_62) rfl  k) ?_
  have hq11 : Q5 Z q1 h0 n0 (some (.long v61)) h0 _ := ⟨(by subst hv61 hv51 hv41 hv31 hv21 hv11; rfl), N0, rfl⟩
  exact own_retJ X0 hx hlk hrt (hb hby d5_63) e0 hq11 (by decide) (by decide)
theorem d4_0 : decode method_3_code 0 = .ok (.lload_n 0, 1) := by decide +kernel
theorem d4_1 : decode method_3_code 1 = .ok (.lload_n 0, 1) := by decide +kernel
theorem d4_2 : decode method_3_code 2 = .ok (.bipush 31, 2) := by decide +kernel
theorem d4_4 : decode method_3_code 4 = .ok (.lushr, 1) := by decide +kernel
theorem d4_5 : decode method_3_code 5 = .ok (.lxor, 1) := by decide +kernel
theorem d4_6 : decode method_3_code 6 = .ok (.lload_n 0, 1) := by decide +kernel
theorem d4_7 : decode method_3_code 7 = .ok (.bipush 62, 2) := by decide +kernel
theorem d4_9 : decode method_3_code 9 = .ok (.lushr, 1) := by decide +kernel
theorem d4_10 : decode method_3_code 10 = .ok (.lxor, 1) := by decide +kernel
theorem d4_11 : decode method_3_code 11 = .ok (.lstore_n 2, 1) := by decide +kernel
theorem d4_12 : decode method_3_code 12 = .ok (.lload_n 2, 1) := by decide +kernel
theorem d4_13 : decode method_3_code 13 = .ok (.ldc2_w 11, 3) := by decide +kernel
theorem d4_16 : decode method_3_code 16 = .ok (.invokestatic 13, 3) := by decide +kernel
theorem d4_19 : decode method_3_code 19 = .ok (.lmul, 1) := by decide +kernel
theorem d4_20 : decode method_3_code 20 = .ok (.lstore 4, 2) := by decide +kernel
theorem d4_22 : decode method_3_code 22 = .ok (.lload 4, 2) := by decide +kernel
theorem d4_24 : decode method_3_code 24 = .ok (.lload 4, 2) := by decide +kernel
theorem d4_26 : decode method_3_code 26 = .ok (.bipush 27, 2) := by decide +kernel
theorem d4_28 : decode method_3_code 28 = .ok (.lushr, 1) := by decide +kernel
theorem d4_29 : decode method_3_code 29 = .ok (.lxor, 1) := by decide +kernel
theorem d4_30 : decode method_3_code 30 = .ok (.lload 4, 2) := by decide +kernel
theorem d4_32 : decode method_3_code 32 = .ok (.bipush 54, 2) := by decide +kernel
theorem d4_34 : decode method_3_code 34 = .ok (.lushr, 1) := by decide +kernel
theorem d4_35 : decode method_3_code 35 = .ok (.lxor, 1) := by decide +kernel
theorem d4_36 : decode method_3_code 36 = .ok (.lstore 6, 2) := by decide +kernel
theorem d4_38 : decode method_3_code 38 = .ok (.lload 6, 2) := by decide +kernel
theorem d4_40 : decode method_3_code 40 = .ok (.ldc2_w 17, 3) := by decide +kernel
theorem d4_43 : decode method_3_code 43 = .ok (.invokestatic 13, 3) := by decide +kernel
theorem d4_46 : decode method_3_code 46 = .ok (.lmul, 1) := by decide +kernel
theorem d4_47 : decode method_3_code 47 = .ok (.lstore 8, 2) := by decide +kernel
theorem d4_49 : decode method_3_code 49 = .ok (.lload 8, 2) := by decide +kernel
theorem d4_51 : decode method_3_code 51 = .ok (.lload 8, 2) := by decide +kernel
theorem d4_53 : decode method_3_code 53 = .ok (.bipush 30, 2) := by decide +kernel
theorem d4_55 : decode method_3_code 55 = .ok (.lushr, 1) := by decide +kernel
theorem d4_56 : decode method_3_code 56 = .ok (.lxor, 1) := by decide +kernel
theorem d4_57 : decode method_3_code 57 = .ok (.lload 8, 2) := by decide +kernel
theorem d4_59 : decode method_3_code 59 = .ok (.bipush 60, 2) := by decide +kernel
theorem d4_61 : decode method_3_code 61 = .ok (.lushr, 1) := by decide +kernel
theorem d4_62 : decode method_3_code 62 = .ok (.lxor, 1) := by decide +kernel
theorem d4_63 : decode method_3_code 63 = .ok (.lreturn, 1) := by decide +kernel
theorem pn_4 : plainName "com/example/methodical_checker/methodicalchecker/SplitMix64NextLongPinLaw" = true := by first | (simp [plainName, overriddenIn]; done) | decide +kernel
theorem pd_4_0 : parseMethodDescriptor "(J)J" = some ⟨[.long], some .long⟩ := by decide +kernel
theorem ef_4 (m : MethodId) (x0 : Int64) : entryFrame m #[(.long x0)] 10 = mkF m 0 #[.val (.long x0), .second, .unset, .unset, .unset, .unset, .unset, .unset, .unset, .unset] [] := by first | (simp [entryFrame, mkF, argsToLocals, Value.category]; done) | rfl
def Q4 (Z : State) (q1 : Int64) (h0 : Heap) (n0 : Nat) (v : Option Value) (h : Heap) (L : List Loc) : Prop := v = some (.long (own_dec q1)) ∧ Fr n0 L ∧ h = h0
set_option maxRecDepth 65536 in
set_option maxHeartbeats 40000000 in
theorem rm4 (l : Launch) (Z : State) (a0 : Array Value) (hw : ∀ d ∈ tables_1, d.before a0 Z = true) (ws : List Jvm.Cond) (q1 : Int64) (h0 : Heap) (n0 : Nat) (Z0 : n0 ≤ h0.size)  :
    MetFree l (⟨"com/example/methodical_checker/methodicalchecker/SplitMix64NextLongPinLaw", "decode", "(J)J"⟩ : MethodName) (head1 (Jvm.Cond.code (⟨"com/example/methodical_checker/methodicalchecker/SplitMix64NextLongPinLaw", "decode", "(J)J"⟩ : MethodName) method_3_code 10 (some .long) :: ws) ({ frames := 1, cells := 0, slots := 0, locals := 17 } : Room)) (fun a U => a = #[(.long q1)] ∧ Z.Warmed39 U.vm ∧ U.heap = h0) (fun _ _ _ _ _ => True) (fun _ U o U' => ∃ v L, o = .returned v ∧ Q4 Z q1 h0 n0 v U'.heap L ∧ FrameEnd U o U' L ({ frames := 1, cells := 0, slots := 0, locals := 17 } : Room).cells ({ frames := 1, cells := 0, slots := 0, locals := 17 } : Room).slots) := by
  refine MetFree.of_bodySF (plainFor_of_name pn_4) hisR ?_
  intro p e s m args below meth c s₁ Bd hml0 hP hK
  obtain ⟨rfl, hZ, hh⟩ := hP
  have hx := Bd.exec
  have hby := Bd.bytes
  have hml : c.maxLocals = 10 := hml0
  have hown : s.vm.findClass "com/example/methodical_checker/methodicalchecker/SplitMix64NextLongPinLaw" = some m.cls := findClass_of_methodNamed Bd.named
  have hnm := (name_of_methodNamed Bd.named Bd.method).1
  have hlk : meth.locks = false := BodyLoose.notSynchronized Bd
  have hrt := Bd.returns
  have X0 : Stand p l e ({ frames := 1, cells := 0, slots := 0, locals := 17 } : Room) s m #[(.long q1)] below meth c s₁ [] 0 0 := Stand.of_body Bd
  have e0 : s₁.heap = h0 := by rw [← hh, Bd.state]; rfl
  have N0 := Fr.nil n0
  show own_Fin p.tables e below (own_post (Q4 Z q1 h0 n0) s ({ frames := 1, cells := 0, slots := 0, locals := 17 } : Room).cells ({ frames := 1, cells := 0, slots := 0, locals := 17 } : Room).slots) (s₁.setTop (entryFrame m #[(.long q1)] 10))
  refine own_Fin.step (fun t k => castTop (ef_4 m q1) k) ?_
  refine own_Fin.step (S' := s₁.setTop (mkF m 1 #[.val (.long q1), .second, .unset, .unset, .unset, .unset, .unset, .unset, .unset, .unset] [(.long q1)])) (fun t k => XS.lloadN X0.here hx rfl (hb hby d4_0) rfl  k) ?_
  refine own_Fin.step (S' := s₁.setTop (mkF m 2 #[.val (.long q1), .second, .unset, .unset, .unset, .unset, .unset, .unset, .unset, .unset] [(.long q1), (.long q1)])) (fun t k => XS.lloadN X0.here hx rfl (hb hby d4_1) rfl  k) ?_
  refine own_Fin.step (S' := s₁.setTop (mkF m 4 #[.val (.long q1), .second, .unset, .unset, .unset, .unset, .unset, .unset, .unset, .unset] [(.int (31 : Int32)), (.long q1), (.long q1)])) (fun t k => XS.bipush X0.here hx rfl (hb hby d4_2) k) ?_
  refine own_Fin.step (S' := s₁.setTop (mkF m 5 #[.val (.long q1), .second, .unset, .unset, .unset, .unset, .unset, .unset, .unset, .unset] [(.long ((q1.toUInt64 >>> ((31 : Int32) &&& 0x3f).toInt64.toUInt64).toInt64)), (.long q1)])) (fun t k => XS.lushr X0.here hx rfl (hb hby d4_4) rfl k) ?_
  refine own_Fin.step (S' := s₁.setTop (mkF m 6 #[.val (.long q1), .second, .unset, .unset, .unset, .unset, .unset, .unset, .unset, .unset] [(.long (q1 ^^^ ((q1.toUInt64 >>> ((31 : Int32) &&& 0x3f).toInt64.toUInt64).toInt64)))])) (fun t k => XS.lxor X0.here hx rfl (hb hby d4_5) rfl k) ?_
  refine own_Fin.step (S' := s₁.setTop (mkF m 7 #[.val (.long q1), .second, .unset, .unset, .unset, .unset, .unset, .unset, .unset, .unset] [(.long q1), (.long (q1 ^^^ ((q1.toUInt64 >>> ((31 : Int32) &&& 0x3f).toInt64.toUInt64).toInt64)))])) (fun t k => XS.lloadN X0.here hx rfl (hb hby d4_6) rfl  k) ?_
  refine own_Fin.step (S' := s₁.setTop (mkF m 9 #[.val (.long q1), .second, .unset, .unset, .unset, .unset, .unset, .unset, .unset, .unset] [(.int (62 : Int32)), (.long q1), (.long (q1 ^^^ ((q1.toUInt64 >>> ((31 : Int32) &&& 0x3f).toInt64.toUInt64).toInt64)))])) (fun t k => XS.bipush X0.here hx rfl (hb hby d4_7) k) ?_
  refine own_Fin.step (S' := s₁.setTop (mkF m 10 #[.val (.long q1), .second, .unset, .unset, .unset, .unset, .unset, .unset, .unset, .unset] [(.long ((q1.toUInt64 >>> ((62 : Int32) &&& 0x3f).toInt64.toUInt64).toInt64)), (.long (q1 ^^^ ((q1.toUInt64 >>> ((31 : Int32) &&& 0x3f).toInt64.toUInt64).toInt64)))])) (fun t k => XS.lushr X0.here hx rfl (hb hby d4_9) rfl k) ?_
  refine own_Fin.step (S' := s₁.setTop (mkF m 11 #[.val (.long q1), .second, .unset, .unset, .unset, .unset, .unset, .unset, .unset, .unset] [(.long ((q1 ^^^ ((q1.toUInt64 >>> ((31 : Int32) &&& 0x3f).toInt64.toUInt64).toInt64)) ^^^ ((q1.toUInt64 >>> ((62 : Int32) &&& 0x3f).toInt64.toUInt64).toInt64)))])) (fun t k => XS.lxor X0.here hx rfl (hb hby d4_10) rfl k) ?_
  obtain ⟨v11, hv11⟩ : ∃ z : Int64, z = ((q1 ^^^ ((q1.toUInt64 >>> ((31 : Int32) &&& 0x3f).toInt64.toUInt64).toInt64)) ^^^ ((q1.toUInt64 >>> ((62 : Int32) &&& 0x3f).toInt64.toUInt64).toInt64)) := ⟨_, rfl⟩
  rw [← hv11]
  refine own_Fin.step (S' := s₁.setTop (mkF m 12 #[.val (.long q1), .second, .val (.long v11), .second, .unset, .unset, .unset, .unset, .unset, .unset] [])) (fun t k => XS.lstoreN X0.here hx rfl (hb hby d4_11) rfl (l' := #[.val (.long q1), .second, .val (.long v11), .second, .unset, .unset, .unset, .unset, .unset, .unset]) rfl k) ?_
  refine own_Fin.step (S' := s₁.setTop (mkF m 13 #[.val (.long q1), .second, .val (.long v11), .second, .unset, .unset, .unset, .unset, .unset, .unset] [(.long v11)])) (fun t k => XS.lloadN X0.here hx rfl (hb hby d4_12) rfl  k) ?_
  refine own_Fin.step (S' := s₁.setTop (mkF m 16 #[.val (.long q1), .second, .val (.long v11), .second, .unset, .unset, .unset, .unset, .unset, .unset] [(.long (-7723592293110705685 : Int64)), (.long v11)])) (X0.ldc2Long hx hown (mvT hZ (hw _ (List.mem_of_getElem? (i := 23) rfl))) (g := (mkF m 13 #[.val (.long q1), .second, .val (.long v11), .second, .unset, .unset, .unset, .unset, .unset, .unset] [(.long v11)])) rfl (hb hby d4_13)) ?_
  obtain ⟨_, _, ⟨T12, L12, k12, n12⟩, -, X12, ⟨Lc12, hQ12, l12, y12, zz12⟩, st12⟩ := Jvm.LawKit.callS X0 hx (y := (⟨"com/example/methodical_checker/methodicalchecker/SplitMix64NextLongPinLaw", "inverse", "(J)J"⟩ : MethodName)) hown (mvT hZ (hw _ (List.mem_of_getElem? (i := 24) rfl))) (mvT hZ (hw _ (List.mem_of_getElem? (i := 25) rfl))) (mvT hZ (hw _ (List.mem_of_getElem? (i := 21) rfl))) (mvT hZ (hw _ (List.mem_of_getElem? (i := 26) rfl))) (by decide) (backOf (W := 2) (rm5 l Z a0 hw [] (-7723592293110705685 : Int64) h0 n0 (by omega) ) hZ (hw _ (List.mem_of_getElem? (i := 26) rfl)) (hw _ (List.mem_of_getElem? (i := 21) rfl)) (by decide) (by decide)) (g := (mkF m 16 #[.val (.long q1), .second, .val (.long v11), .second, .unset, .unset, .unset, .unset, .unset, .unset] [(.long (-7723592293110705685 : Int64)), (.long v11)])) rfl (by rw [hml]; rfl) (argsL := [(.long (-7723592293110705685 : Int64))]) (rest := [(.long v11)]) (lenOf pd_4_0 rfl) rfl (by show 2 * 0 + _ ≤ _; exact Nat.le_of_eq rfl) (hb hby d4_16) (fun _ _ => ⟨rfl, e0, (by decide : 0 + 0 ≤ _), (by decide : 0 + 0 ≤ _)⟩)
  dsimp only [Pt.U, Pt.locs, Pt.cells, Pt.slots] at X12 l12 y12 zz12 st12 hQ12
  subst l12 y12 zz12
  obtain ⟨rfl, N12q, e12⟩ := hQ12
  have N12 := Fr.app N0 N12q
  refine own_Fin.step (S' := T12.setTop (mkF m 19 #[.val (.long q1), .second, .val (.long v11), .second, .unset, .unset, .unset, .unset, .unset, .unset] [(.long (own_inv (-7723592293110705685 : Int64))), (.long v11)])) st12 ?_
  refine own_Fin.step (S' := T12.setTop (mkF m 20 #[.val (.long q1), .second, .val (.long v11), .second, .unset, .unset, .unset, .unset, .unset, .unset] [(.long (v11 * (own_inv (-7723592293110705685 : Int64))))])) (fun t k => XS.lmul X12.here hx rfl (hb hby d4_19) rfl k) ?_
  obtain ⟨v20, hv20⟩ : ∃ z : Int64, z = (v11 * (own_inv (-7723592293110705685 : Int64))) := ⟨_, rfl⟩
  rw [← hv20]
  refine own_Fin.step (S' := T12.setTop (mkF m 22 #[.val (.long q1), .second, .val (.long v11), .second, .val (.long v20), .second, .unset, .unset, .unset, .unset] [])) (fun t k => XS.lstore X12.here hx rfl (hb hby d4_20) rfl (l' := #[.val (.long q1), .second, .val (.long v11), .second, .val (.long v20), .second, .unset, .unset, .unset, .unset]) rfl k) ?_
  refine own_Fin.step (S' := T12.setTop (mkF m 24 #[.val (.long q1), .second, .val (.long v11), .second, .val (.long v20), .second, .unset, .unset, .unset, .unset] [(.long v20)])) (fun t k => XS.lload X12.here hx rfl (hb hby d4_22) rfl  k) ?_
  refine own_Fin.step (S' := T12.setTop (mkF m 26 #[.val (.long q1), .second, .val (.long v11), .second, .val (.long v20), .second, .unset, .unset, .unset, .unset] [(.long v20), (.long v20)])) (fun t k => XS.lload X12.here hx rfl (hb hby d4_24) rfl  k) ?_
  refine own_Fin.step (S' := T12.setTop (mkF m 28 #[.val (.long q1), .second, .val (.long v11), .second, .val (.long v20), .second, .unset, .unset, .unset, .unset] [(.int (27 : Int32)), (.long v20), (.long v20)])) (fun t k => XS.bipush X12.here hx rfl (hb hby d4_26) k) ?_
  refine own_Fin.step (S' := T12.setTop (mkF m 29 #[.val (.long q1), .second, .val (.long v11), .second, .val (.long v20), .second, .unset, .unset, .unset, .unset] [(.long ((v20.toUInt64 >>> ((27 : Int32) &&& 0x3f).toInt64.toUInt64).toInt64)), (.long v20)])) (fun t k => XS.lushr X12.here hx rfl (hb hby d4_28) rfl k) ?_
  refine own_Fin.step (S' := T12.setTop (mkF m 30 #[.val (.long q1), .second, .val (.long v11), .second, .val (.long v20), .second, .unset, .unset, .unset, .unset] [(.long (v20 ^^^ ((v20.toUInt64 >>> ((27 : Int32) &&& 0x3f).toInt64.toUInt64).toInt64)))])) (fun t k => XS.lxor X12.here hx rfl (hb hby d4_29) rfl k) ?_
  refine own_Fin.step (S' := T12.setTop (mkF m 32 #[.val (.long q1), .second, .val (.long v11), .second, .val (.long v20), .second, .unset, .unset, .unset, .unset] [(.long v20), (.long (v20 ^^^ ((v20.toUInt64 >>> ((27 : Int32) &&& 0x3f).toInt64.toUInt64).toInt64)))])) (fun t k => XS.lload X12.here hx rfl (hb hby d4_30) rfl  k) ?_
  refine own_Fin.step (S' := T12.setTop (mkF m 34 #[.val (.long q1), .second, .val (.long v11), .second, .val (.long v20), .second, .unset, .unset, .unset, .unset] [(.int (54 : Int32)), (.long v20), (.long (v20 ^^^ ((v20.toUInt64 >>> ((27 : Int32) &&& 0x3f).toInt64.toUInt64).toInt64)))])) (fun t k => XS.bipush X12.here hx rfl (hb hby d4_32) k) ?_
  refine own_Fin.step (S' := T12.setTop (mkF m 35 #[.val (.long q1), .second, .val (.long v11), .second, .val (.long v20), .second, .unset, .unset, .unset, .unset] [(.long ((v20.toUInt64 >>> ((54 : Int32) &&& 0x3f).toInt64.toUInt64).toInt64)), (.long (v20 ^^^ ((v20.toUInt64 >>> ((27 : Int32) &&& 0x3f).toInt64.toUInt64).toInt64)))])) (fun t k => XS.lushr X12.here hx rfl (hb hby d4_34) rfl k) ?_
  refine own_Fin.step (S' := T12.setTop (mkF m 36 #[.val (.long q1), .second, .val (.long v11), .second, .val (.long v20), .second, .unset, .unset, .unset, .unset] [(.long ((v20 ^^^ ((v20.toUInt64 >>> ((27 : Int32) &&& 0x3f).toInt64.toUInt64).toInt64)) ^^^ ((v20.toUInt64 >>> ((54 : Int32) &&& 0x3f).toInt64.toUInt64).toInt64)))])) (fun t k => XS.lxor X12.here hx rfl (hb hby d4_35) rfl k) ?_
  obtain ⟨v36, hv36⟩ : ∃ z : Int64, z = ((v20 ^^^ ((v20.toUInt64 >>> ((27 : Int32) &&& 0x3f).toInt64.toUInt64).toInt64)) ^^^ ((v20.toUInt64 >>> ((54 : Int32) &&& 0x3f).toInt64.toUInt64).toInt64)) := ⟨_, rfl⟩
  rw [← hv36]
  refine own_Fin.step (S' := T12.setTop (mkF m 38 #[.val (.long q1), .second, .val (.long v11), .second, .val (.long v20), .second, .val (.long v36), .second, .unset, .unset] [])) (fun t k => XS.lstore X12.here hx rfl (hb hby d4_36) rfl (l' := #[.val (.long q1), .second, .val (.long v11), .second, .val (.long v20), .second, .val (.long v36), .second, .unset, .unset]) rfl k) ?_
  refine own_Fin.step (S' := T12.setTop (mkF m 40 #[.val (.long q1), .second, .val (.long v11), .second, .val (.long v20), .second, .val (.long v36), .second, .unset, .unset] [(.long v36)])) (fun t k => XS.lload X12.here hx rfl (hb hby d4_38) rfl  k) ?_
  refine own_Fin.step (S' := T12.setTop (mkF m 43 #[.val (.long q1), .second, .val (.long v11), .second, .val (.long v20), .second, .val (.long v36), .second, .unset, .unset] [(.long (-4658895280553007687 : Int64)), (.long v36)])) (X12.ldc2Long hx hown (mvT hZ (hw _ (List.mem_of_getElem? (i := 28) rfl))) (g := (mkF m 40 #[.val (.long q1), .second, .val (.long v11), .second, .val (.long v20), .second, .val (.long v36), .second, .unset, .unset] [(.long v36)])) rfl (hb hby d4_40)) ?_
  obtain ⟨_, _, ⟨T13, L13, k13, n13⟩, -, X13, ⟨Lc13, hQ13, l13, y13, zz13⟩, st13⟩ := Jvm.LawKit.callS X12 hx (y := (⟨"com/example/methodical_checker/methodicalchecker/SplitMix64NextLongPinLaw", "inverse", "(J)J"⟩ : MethodName)) hown (mvT hZ (hw _ (List.mem_of_getElem? (i := 24) rfl))) (mvT hZ (hw _ (List.mem_of_getElem? (i := 25) rfl))) (mvT hZ (hw _ (List.mem_of_getElem? (i := 21) rfl))) (mvT hZ (hw _ (List.mem_of_getElem? (i := 26) rfl))) (by decide) (backOf (W := 2) (rm5 l Z a0 hw [] (-4658895280553007687 : Int64) h0 n0 (by omega) ) hZ (hw _ (List.mem_of_getElem? (i := 26) rfl)) (hw _ (List.mem_of_getElem? (i := 21) rfl)) (by decide) (by decide)) (g := (mkF m 43 #[.val (.long q1), .second, .val (.long v11), .second, .val (.long v20), .second, .val (.long v36), .second, .unset, .unset] [(.long (-4658895280553007687 : Int64)), (.long v36)])) rfl (by rw [hml]; rfl) (argsL := [(.long (-4658895280553007687 : Int64))]) (rest := [(.long v36)]) (lenOf pd_4_0 rfl) rfl (by show 2 * 0 + _ ≤ _; exact Nat.le_of_eq rfl) (hb hby d4_43) (fun _ _ => ⟨rfl, e12, (by decide : 0 + 0 ≤ _), (by decide : 0 + 0 ≤ _)⟩)
  dsimp only [Pt.U, Pt.locs, Pt.cells, Pt.slots] at X13 l13 y13 zz13 st13 hQ13
  subst l13 y13 zz13
  obtain ⟨rfl, N13q, e13⟩ := hQ13
  have N13 := Fr.app N12 N13q
  refine own_Fin.step (S' := T13.setTop (mkF m 46 #[.val (.long q1), .second, .val (.long v11), .second, .val (.long v20), .second, .val (.long v36), .second, .unset, .unset] [(.long (own_inv (-4658895280553007687 : Int64))), (.long v36)])) st13 ?_
  refine own_Fin.step (S' := T13.setTop (mkF m 47 #[.val (.long q1), .second, .val (.long v11), .second, .val (.long v20), .second, .val (.long v36), .second, .unset, .unset] [(.long (v36 * (own_inv (-4658895280553007687 : Int64))))])) (fun t k => XS.lmul X13.here hx rfl (hb hby d4_46) rfl k) ?_
  obtain ⟨v47, hv47⟩ : ∃ z : Int64, z = (v36 * (own_inv (-4658895280553007687 : Int64))) := ⟨_, rfl⟩
  rw [← hv47]
  refine own_Fin.step (S' := T13.setTop (mkF m 49 #[.val (.long q1), .second, .val (.long v11), .second, .val (.long v20), .second, .val (.long v36), .second, .val (.long v47), .second] [])) (fun t k => XS.lstore X13.here hx rfl (hb hby d4_47) rfl (l' := #[.val (.long q1), .second, .val (.long v11), .second, .val (.long v20), .second, .val (.long v36), .second, .val (.long v47), .second]) rfl k) ?_
  refine own_Fin.step (S' := T13.setTop (mkF m 51 #[.val (.long q1), .second, .val (.long v11), .second, .val (.long v20), .second, .val (.long v36), .second, .val (.long v47), .second] [(.long v47)])) (fun t k => XS.lload X13.here hx rfl (hb hby d4_49) rfl  k) ?_
  refine own_Fin.step (S' := T13.setTop (mkF m 53 #[.val (.long q1), .second, .val (.long v11), .second, .val (.long v20), .second, .val (.long v36), .second, .val (.long v47), .second] [(.long v47), (.long v47)])) (fun t k => XS.lload X13.here hx rfl (hb hby d4_51) rfl  k) ?_
  refine own_Fin.step (S' := T13.setTop (mkF m 55 #[.val (.long q1), .second, .val (.long v11), .second, .val (.long v20), .second, .val (.long v36), .second, .val (.long v47), .second] [(.int (30 : Int32)), (.long v47), (.long v47)])) (fun t k => XS.bipush X13.here hx rfl (hb hby d4_53) k) ?_
  refine own_Fin.step (S' := T13.setTop (mkF m 56 #[.val (.long q1), .second, .val (.long v11), .second, .val (.long v20), .second, .val (.long v36), .second, .val (.long v47), .second] [(.long ((v47.toUInt64 >>> ((30 : Int32) &&& 0x3f).toInt64.toUInt64).toInt64)), (.long v47)])) (fun t k => XS.lushr X13.here hx rfl (hb hby d4_55) rfl k) ?_
  refine own_Fin.step (S' := T13.setTop (mkF m 57 #[.val (.long q1), .second, .val (.long v11), .second, .val (.long v20), .second, .val (.long v36), .second, .val (.long v47), .second] [(.long (v47 ^^^ ((v47.toUInt64 >>> ((30 : Int32) &&& 0x3f).toInt64.toUInt64).toInt64)))])) (fun t k => XS.lxor X13.here hx rfl (hb hby d4_56) rfl k) ?_
  refine own_Fin.step (S' := T13.setTop (mkF m 59 #[.val (.long q1), .second, .val (.long v11), .second, .val (.long v20), .second, .val (.long v36), .second, .val (.long v47), .second] [(.long v47), (.long (v47 ^^^ ((v47.toUInt64 >>> ((30 : Int32) &&& 0x3f).toInt64.toUInt64).toInt64)))])) (fun t k => XS.lload X13.here hx rfl (hb hby d4_57) rfl  k) ?_
  refine own_Fin.step (S' := T13.setTop (mkF m 61 #[.val (.long q1), .second, .val (.long v11), .second, .val (.long v20), .second, .val (.long v36), .second, .val (.long v47), .second] [(.int (60 : Int32)), (.long v47), (.long (v47 ^^^ ((v47.toUInt64 >>> ((30 : Int32) &&& 0x3f).toInt64.toUInt64).toInt64)))])) (fun t k => XS.bipush X13.here hx rfl (hb hby d4_59) k) ?_
  refine own_Fin.step (S' := T13.setTop (mkF m 62 #[.val (.long q1), .second, .val (.long v11), .second, .val (.long v20), .second, .val (.long v36), .second, .val (.long v47), .second] [(.long ((v47.toUInt64 >>> ((60 : Int32) &&& 0x3f).toInt64.toUInt64).toInt64)), (.long (v47 ^^^ ((v47.toUInt64 >>> ((30 : Int32) &&& 0x3f).toInt64.toUInt64).toInt64)))])) (fun t k => XS.lushr X13.here hx rfl (hb hby d4_61) rfl k) ?_
  refine own_Fin.step (S' := T13.setTop (mkF m 63 #[.val (.long q1), .second, .val (.long v11), .second, .val (.long v20), .second, .val (.long v36), .second, .val (.long v47), .second] [(.long ((v47 ^^^ ((v47.toUInt64 >>> ((30 : Int32) &&& 0x3f).toInt64.toUInt64).toInt64)) ^^^ ((v47.toUInt64 >>> ((60 : Int32) &&& 0x3f).toInt64.toUInt64).toInt64)))])) (fun t k => XS.lxor X13.here hx rfl (hb hby d4_62) rfl k) ?_
  have hq14 : Q4 Z q1 h0 n0 (some (.long ((v47 ^^^ ((v47.toUInt64 >>> ((30 : Int32) &&& 0x3f).toInt64.toUInt64).toInt64)) ^^^ ((v47.toUInt64 >>> ((60 : Int32) &&& 0x3f).toInt64.toUInt64).toInt64)))) h0 _ := ⟨(by subst hv47 hv36 hv20 hv11; rfl), N13, rfl⟩
  exact own_retJ X13 hx hlk hrt (hb hby d4_63) e13 hq14 (by decide) (by decide)
theorem pn_0 : plainName "com/example/methodical_checker/methodicalchecker/SplitMix64NextLongPinLaw" = true := by first | (simp [plainName, overriddenIn]; done) | decide +kernel
theorem pd_0_0 : parseMethodDescriptor "(J)V" = some ⟨[.long], none⟩ := by decide +kernel
theorem pd_0_1 : parseMethodDescriptor "()J" = some ⟨[], some .long⟩ := by decide +kernel
theorem pd_0_2 : parseMethodDescriptor "(J)J" = some ⟨[.long], some .long⟩ := by decide +kernel
theorem ef_0 (m : MethodId) (x0 : Int64) : entryFrame m #[(.long x0)] maxLocals = mkF m 0 #[.val (.long x0), .second, .unset, .unset, .unset, .unset, .unset] [] := by first | (simp [entryFrame, mkF, argsToLocals, Value.category, maxLocals]; done) | rfl
def Q0 (Z : State) (i0 : Int64) (h0 : Heap) (n0 : Nat) (v : Option Value) (h : Heap) (L : List Loc) : Prop := v = some (.int (1 : Int32)) ∧ Fr n0 L
set_option maxRecDepth 65536 in
set_option maxHeartbeats 40000000 in
theorem rm0 (l : Launch) (Z : State) (a0 : Array Value) (hw : ∀ d ∈ tables_1, d.before a0 Z = true) (ws : List Jvm.Cond) (i0 : Int64) (h0 : Heap) (n0 : Nat) (Z0 : n0 ≤ h0.size)  :
    MetFree l x (head1 (Jvm.Cond.code x code maxLocals ret :: ws) room_1) (fun a U => a = #[(.long i0)] ∧ Z.Warmed39 U.vm ∧ U.heap = h0) (fun _ _ _ _ _ => True) (fun _ U o U' => ∃ v L, o = .returned v ∧ Q0 Z i0 h0 n0 v U'.heap L ∧ FrameEnd U o U' L 16 128) := by
  refine MetFree.of_bodySF (plainFor_of_name pn_0) hisR ?_
  intro p e s m args below meth c s₁ Bd hml0 hP hK
  obtain ⟨rfl, hZ, hh⟩ := hP
  have hx := Bd.exec
  have hby := Bd.bytes
  have hml : c.maxLocals = 7 := hml0
  have hown : s.vm.findClass "com/example/methodical_checker/methodicalchecker/SplitMix64NextLongPinLaw" = some m.cls := findClass_of_methodNamed Bd.named
  have hnm := (name_of_methodNamed Bd.named Bd.method).1
  have hlk : meth.locks = false := BodyLoose.notSynchronized Bd
  have hrt := Bd.returns
  have X0 : Stand p l e room_1 s m #[(.long i0)] below meth c s₁ [] 0 0 := Stand.of_body Bd
  have e0 : s₁.heap = h0 := by rw [← hh, Bd.state]; rfl
  have N0 := Fr.nil n0
  show own_Fin p.tables e below (own_post (Q0 Z i0 h0 n0) s 16 128) (s₁.setTop (entryFrame m #[(.long i0)] maxLocals))
  refine own_Fin.step (fun t k => castTop (ef_0 m i0) k) ?_
  obtain ⟨T15, h15, X15, e15, E15, A15, D15, -, st15⟩ := newO X0 hx hZ hown (hw _ (List.mem_of_getElem? (i := 0) rfl)) (hw _ (List.mem_of_getElem? (i := 1) rfl)) (hw _ (List.mem_of_getElem? (i := 2) rfl)) e0 (g := (mkF m 0 #[.val (.long i0), .second, .unset, .unset, .unset, .unset, .unset] [])) rfl (hb hby at_0) (by decide) (by decide)
  obtain ⟨b15, g15⟩ : ∃ z, z = h0.size := ⟨_, rfl⟩
  rw [← g15] at A15 D15 st15
  have ll15 := A15.lt
  have z15 := E15.1
  have F16 : Fld Z h15 b15 "com/example/methodical_checker/methodicalchecker/SplitMix64" "counter" "J" (.long (0 : Int64)) := D15 (Or.inl (hw _ (List.mem_of_getElem? (i := 10) rfl))) (ty := .long) (by decide)
  refine own_Fin.step (S' := T15.setTop (mkF m 3 #[.val (.long i0), .second, .unset, .unset, .unset, .unset, .unset] [(.ref b15)])) st15 ?_
  refine own_Fin.step (S' := T15.setTop (mkF m 4 #[.val (.long i0), .second, .unset, .unset, .unset, .unset, .unset] [(.ref b15), (.ref b15)])) (fun t k => XS.dup X15.here hx rfl (hb hby at_3) rfl rfl k) ?_
  refine own_Fin.step (S' := T15.setTop (mkF m 5 #[.val (.long i0), .second, .unset, .unset, .unset, .unset, .unset] [(.long i0), (.ref b15), (.ref b15)])) (fun t k => XS.lloadN X15.here hx rfl (hb hby at_4) rfl  k) ?_
  obtain ⟨_, _, ⟨T17, L17, k17, n17⟩, -, X17, ⟨Lc17, hQ17, l17, y17, zz17⟩, st17⟩ := X15.specialBack hx (y := (⟨"com/example/methodical_checker/methodicalchecker/SplitMix64", "<init>", "(J)V"⟩ : MethodName)) rfl hown (mvT hZ (hw _ (List.mem_of_getElem? (i := 3) rfl))) (mvT hZ (hw _ (List.mem_of_getElem? (i := 4) rfl))) (mvT hZ (hw _ (List.mem_of_getElem? (i := 5) rfl))) (by decide) (backOf (W := 1) (rm1 l Z a0 hw [] b15 i0 (.long (0 : Int64)) h15 n0 (by omega) A15 F16 (by omega)) hZ (hw _ (List.mem_of_getElem? (i := 5) rfl)) (hw _ (List.mem_of_getElem? (i := 2) rfl)) (by decide) (by decide)) (g := (mkF m 5 #[.val (.long i0), .second, .unset, .unset, .unset, .unset, .unset] [(.long i0), (.ref b15), (.ref b15)])) rfl (by rw [hml]; rfl) (Steps.refl _) (a := b15) (argsL := [(.long i0)]) (rest := [(.ref b15)]) (lenOf pd_0_0 rfl) rfl (by show 2 * 0 + _ ≤ _; exact Nat.le_of_eq rfl) (hb hby at_5) (fun _ _ => ⟨rfl, e15, (by decide : 1 + 0 ≤ _), (by decide : 1 + 0 ≤ _)⟩)
  dsimp only [Pt.U, Pt.locs, Pt.cells, Pt.slots] at X17 l17 y17 zz17 st17 hQ17
  subst l17 y17 zz17
  obtain ⟨rfl, N17q, K17, G17_0, G17_1⟩ := hQ17
  have N17 := Fr.app N0 N17q
  have z17 := K17.1
  have lt17_0 := G17_0.lt
  have lt17_1 := G17_1.lt
  refine own_Fin.trans (S' := T17.setTop (mkF m 8 #[.val (.long i0), .second, .unset, .unset, .unset, .unset, .unset] [(.ref b15)])) st17 ?_
  refine own_Fin.step (S' := T17.setTop (mkF m 9 #[.val (.long i0), .second, .val (.ref b15), .unset, .unset, .unset, .unset] [])) (fun t k => XS.astoreN X17.here hx rfl (hb hby at_8) rfl rfl (l' := #[.val (.long i0), .second, .val (.ref b15), .unset, .unset, .unset, .unset]) rfl k) ?_
  refine own_Fin.step (S' := T17.setTop (mkF m 10 #[.val (.long i0), .second, .val (.ref b15), .unset, .unset, .unset, .unset] [(.ref b15)])) (fun t k => XS.aloadN X17.here hx rfl (hb hby at_9) rfl rfl  k) ?_
  obtain ⟨cq18, kq18, q18a, q18b, q18c⟩ := isOf hZ rfl G17_0
  obtain ⟨_, _, ⟨T18, L18, k18, n18⟩, -, X18, ⟨Lc18, hQ18, l18, y18, zz18⟩, st18⟩ := X17.virtualBack hx (y := (⟨"com/example/methodical_checker/methodicalchecker/SplitMix64", "nextLong", "()J"⟩ : MethodName)) (z := (⟨"com/example/methodical_checker/methodicalchecker/SplitMix64", "nextLong", "()J"⟩ : MethodName)) hown (mvT hZ (hw _ (List.mem_of_getElem? (i := 11) rfl))) (mvT hZ (hw _ (List.mem_of_getElem? (i := 12) rfl))) (notFace_of_selects (args := #[]) (mvT hZ (hw _ (List.mem_of_getElem? (i := 14) rfl)))) (mvT hZ (hw _ (List.mem_of_getElem? (i := 14) rfl))) (mvT hZ (hw _ (List.mem_of_getElem? (i := 13) rfl))) (by decide) (backOf (W := 0) (rm3 l Z a0 hw [] b15 i0 T17.heap n0 (by omega) G17_0 G17_1 (by omega)) hZ (hw _ (List.mem_of_getElem? (i := 15) rfl)) (hw _ (List.mem_of_getElem? (i := 2) rfl)) (by decide) (by decide)) q18a q18c (g := (mkF m 10 #[.val (.long i0), .second, .val (.ref b15), .unset, .unset, .unset, .unset] [(.ref b15)])) rfl (by rw [hml]; rfl) (Steps.refl _) (argsL := []) (rest := []) (lenOf pd_0_1 rfl) rfl (by show 2 * 0 + _ ≤ _; exact Nat.le_of_eq rfl) (hb hby at_10) (fun _ _ => ⟨rfl, rfl, (by decide : 1 + 0 ≤ _), (by decide : 1 + 0 ≤ _)⟩)
  dsimp only [Pt.U, Pt.locs, Pt.cells, Pt.slots] at X18 l18 y18 zz18 st18 hQ18
  subst l18 y18 zz18
  obtain ⟨rfl, N18q, K18, G18_0, G18_1⟩ := hQ18
  have N18 := Fr.app N17 N18q
  have z18 := K18.1
  have lt18_0 := G18_0.lt
  have lt18_1 := G18_1.lt
  refine own_Fin.trans (S' := T18.setTop (mkF m 13 #[.val (.long i0), .second, .val (.ref b15), .unset, .unset, .unset, .unset] [(.long (own_mix (i0 + (-7046029254386353131 : Int64))))])) st18 ?_
  obtain ⟨v13, hv13⟩ : ∃ z : Int64, z = (own_mix (i0 + (-7046029254386353131 : Int64))) := ⟨_, rfl⟩
  rw [← hv13]
  refine own_Fin.step (S' := T18.setTop (mkF m 14 #[.val (.long i0), .second, .val (.ref b15), .val (.long v13), .second, .unset, .unset] [])) (fun t k => XS.lstoreN X18.here hx rfl (hb hby at_13) rfl (l' := #[.val (.long i0), .second, .val (.ref b15), .val (.long v13), .second, .unset, .unset]) rfl k) ?_
  refine own_Fin.step (S' := T18.setTop (mkF m 15 #[.val (.long i0), .second, .val (.ref b15), .val (.long v13), .second, .unset, .unset] [(.ref b15)])) (fun t k => XS.aloadN X18.here hx rfl (hb hby at_14) rfl rfl  k) ?_
  obtain ⟨cq19, kq19, q19a, q19b, q19c⟩ := isOf hZ rfl G18_0
  obtain ⟨_, _, ⟨T19, L19, k19, n19⟩, -, X19, ⟨Lc19, hQ19, l19, y19, zz19⟩, st19⟩ := X18.virtualBack hx (y := (⟨"com/example/methodical_checker/methodicalchecker/SplitMix64", "nextLong", "()J"⟩ : MethodName)) (z := (⟨"com/example/methodical_checker/methodicalchecker/SplitMix64", "nextLong", "()J"⟩ : MethodName)) hown (mvT hZ (hw _ (List.mem_of_getElem? (i := 11) rfl))) (mvT hZ (hw _ (List.mem_of_getElem? (i := 12) rfl))) (notFace_of_selects (args := #[]) (mvT hZ (hw _ (List.mem_of_getElem? (i := 14) rfl)))) (mvT hZ (hw _ (List.mem_of_getElem? (i := 14) rfl))) (mvT hZ (hw _ (List.mem_of_getElem? (i := 13) rfl))) (by decide) (backOf (W := 0) (rm3 l Z a0 hw [] b15 (i0 + (-7046029254386353131 : Int64)) T18.heap n0 (by omega) G18_0 G18_1 (by omega)) hZ (hw _ (List.mem_of_getElem? (i := 15) rfl)) (hw _ (List.mem_of_getElem? (i := 2) rfl)) (by decide) (by decide)) q19a q19c (g := (mkF m 15 #[.val (.long i0), .second, .val (.ref b15), .val (.long v13), .second, .unset, .unset] [(.ref b15)])) rfl (by rw [hml]; rfl) (Steps.refl _) (argsL := []) (rest := []) (lenOf pd_0_1 rfl) rfl (by show 2 * 0 + _ ≤ _; exact Nat.le_of_eq rfl) (hb hby at_15) (fun _ _ => ⟨rfl, rfl, (by decide : 1 + 0 ≤ _), (by decide : 1 + 0 ≤ _)⟩)
  dsimp only [Pt.U, Pt.locs, Pt.cells, Pt.slots] at X19 l19 y19 zz19 st19 hQ19
  subst l19 y19 zz19
  obtain ⟨rfl, N19q, K19, G19_0, G19_1⟩ := hQ19
  have N19 := Fr.app N18 N19q
  have z19 := K19.1
  have lt19_0 := G19_0.lt
  have lt19_1 := G19_1.lt
  refine own_Fin.trans (S' := T19.setTop (mkF m 18 #[.val (.long i0), .second, .val (.ref b15), .val (.long v13), .second, .unset, .unset] [(.long (own_mix ((i0 + (-7046029254386353131 : Int64)) + (-7046029254386353131 : Int64))))])) st19 ?_
  obtain ⟨v18, hv18⟩ : ∃ z : Int64, z = (own_mix ((i0 + (-7046029254386353131 : Int64)) + (-7046029254386353131 : Int64))) := ⟨_, rfl⟩
  rw [← hv18]
  refine own_Fin.step (S' := T19.setTop (mkF m 20 #[.val (.long i0), .second, .val (.ref b15), .val (.long v13), .second, .val (.long v18), .second] [])) (fun t k => XS.lstore X19.here hx rfl (hb hby at_18) rfl (l' := #[.val (.long i0), .second, .val (.ref b15), .val (.long v13), .second, .val (.long v18), .second]) rfl k) ?_
  refine own_Fin.step (S' := T19.setTop (mkF m 21 #[.val (.long i0), .second, .val (.ref b15), .val (.long v13), .second, .val (.long v18), .second] [(.long v13)])) (fun t k => XS.lloadN X19.here hx rfl (hb hby at_20) rfl  k) ?_
  obtain ⟨_, _, ⟨T20, L20, k20, n20⟩, -, X20, ⟨Lc20, hQ20, l20, y20, zz20⟩, st20⟩ := Jvm.LawKit.callS X19 hx (y := (⟨"com/example/methodical_checker/methodicalchecker/SplitMix64NextLongPinLaw", "decode", "(J)J"⟩ : MethodName)) hown (mvT hZ (hw _ (List.mem_of_getElem? (i := 19) rfl))) (mvT hZ (hw _ (List.mem_of_getElem? (i := 20) rfl))) (mvT hZ (hw _ (List.mem_of_getElem? (i := 21) rfl))) (mvT hZ (hw _ (List.mem_of_getElem? (i := 22) rfl))) (by decide) (backOf (W := 0) (rm4 l Z a0 hw [] v13 T19.heap n0 (by omega) ) hZ (hw _ (List.mem_of_getElem? (i := 22) rfl)) (hw _ (List.mem_of_getElem? (i := 21) rfl)) (by decide) (by decide)) (g := (mkF m 21 #[.val (.long i0), .second, .val (.ref b15), .val (.long v13), .second, .val (.long v18), .second] [(.long v13)])) rfl (by rw [hml]; rfl) (argsL := [(.long v13)]) (rest := []) (lenOf pd_0_2 rfl) rfl (by show 2 * 0 + _ ≤ _; exact Nat.le_of_eq rfl) (hb hby at_21) (fun _ _ => ⟨rfl, rfl, (by decide : 1 + 0 ≤ _), (by decide : 1 + 0 ≤ _)⟩)
  dsimp only [Pt.U, Pt.locs, Pt.cells, Pt.slots] at X20 l20 y20 zz20 st20 hQ20
  subst l20 y20 zz20
  obtain ⟨rfl, N20q, e20⟩ := hQ20
  have N20 := Fr.app N19 N20q
  refine own_Fin.step (S' := T20.setTop (mkF m 24 #[.val (.long i0), .second, .val (.ref b15), .val (.long v13), .second, .val (.long v18), .second] [(.long (own_dec v13))])) st20 ?_
  refine own_Fin.step (S' := T20.setTop (mkF m 25 #[.val (.long i0), .second, .val (.ref b15), .val (.long v13), .second, .val (.long v18), .second] [(.long i0), (.long (own_dec v13))])) (fun t k => XS.lloadN X20.here hx rfl (hb hby at_24) rfl  k) ?_
  refine own_Fin.step (S' := T20.setTop (mkF m 28 #[.val (.long i0), .second, .val (.ref b15), .val (.long v13), .second, .val (.long v18), .second] [(.long (-7046029254386353131 : Int64)), (.long i0), (.long (own_dec v13))])) (X20.ldc2Long hx hown (mvT hZ (hw _ (List.mem_of_getElem? (i := 29) rfl))) (g := (mkF m 25 #[.val (.long i0), .second, .val (.ref b15), .val (.long v13), .second, .val (.long v18), .second] [(.long i0), (.long (own_dec v13))])) rfl (hb hby at_25)) ?_
  refine own_Fin.step (S' := T20.setTop (mkF m 29 #[.val (.long i0), .second, .val (.ref b15), .val (.long v13), .second, .val (.long v18), .second] [(.long (i0 + (-7046029254386353131 : Int64))), (.long (own_dec v13))])) (fun t k => XS.ladd X20.here hx rfl (hb hby at_28) rfl k) ?_
  refine own_Fin.step (S' := T20.setTop (mkF m 30 #[.val (.long i0), .second, .val (.ref b15), .val (.long v13), .second, .val (.long v18), .second] [(.int (lcmpW (own_dec v13) (i0 + (-7046029254386353131 : Int64))))])) (fun t k => XS.lcmp X20.here hx rfl (hb hby at_29) rfl k) ?_
  refine own_Fin.step (S' := T20.setTop (mkF m 33 #[.val (.long i0), .second, .val (.ref b15), .val (.long v13), .second, .val (.long v18), .second] [])) (fun t k => XS.ifNo X20.here hx rfl (hb hby at_30) rfl ((if0 _ _).trans (teq ((lw_eq _ _).mpr (by rw [hv13]; exact own_dm _))).2) k) ?_
  refine own_Fin.step (S' := T20.setTop (mkF m 35 #[.val (.long i0), .second, .val (.ref b15), .val (.long v13), .second, .val (.long v18), .second] [(.long v18)])) (fun t k => XS.lload X20.here hx rfl (hb hby at_33) rfl  k) ?_
  obtain ⟨_, _, ⟨T21, L21, k21, n21⟩, -, X21, ⟨Lc21, hQ21, l21, y21, zz21⟩, st21⟩ := Jvm.LawKit.callS X20 hx (y := (⟨"com/example/methodical_checker/methodicalchecker/SplitMix64NextLongPinLaw", "decode", "(J)J"⟩ : MethodName)) hown (mvT hZ (hw _ (List.mem_of_getElem? (i := 19) rfl))) (mvT hZ (hw _ (List.mem_of_getElem? (i := 20) rfl))) (mvT hZ (hw _ (List.mem_of_getElem? (i := 21) rfl))) (mvT hZ (hw _ (List.mem_of_getElem? (i := 22) rfl))) (by decide) (backOf (W := 0) (rm4 l Z a0 hw [] v18 T19.heap n0 (by omega) ) hZ (hw _ (List.mem_of_getElem? (i := 22) rfl)) (hw _ (List.mem_of_getElem? (i := 21) rfl)) (by decide) (by decide)) (g := (mkF m 35 #[.val (.long i0), .second, .val (.ref b15), .val (.long v13), .second, .val (.long v18), .second] [(.long v18)])) rfl (by rw [hml]; rfl) (argsL := [(.long v18)]) (rest := []) (lenOf pd_0_2 rfl) rfl (by show 2 * 0 + _ ≤ _; exact Nat.le_of_eq rfl) (hb hby at_35) (fun _ _ => ⟨rfl, e20, (by decide : 1 + 0 ≤ _), (by decide : 1 + 0 ≤ _)⟩)
  dsimp only [Pt.U, Pt.locs, Pt.cells, Pt.slots] at X21 l21 y21 zz21 st21 hQ21
  subst l21 y21 zz21
  obtain ⟨rfl, N21q, e21⟩ := hQ21
  have N21 := Fr.app N20 N21q
  refine own_Fin.step (S' := T21.setTop (mkF m 38 #[.val (.long i0), .second, .val (.ref b15), .val (.long v13), .second, .val (.long v18), .second] [(.long (own_dec v18))])) st21 ?_
  refine own_Fin.step (S' := T21.setTop (mkF m 39 #[.val (.long i0), .second, .val (.ref b15), .val (.long v13), .second, .val (.long v18), .second] [(.long i0), (.long (own_dec v18))])) (fun t k => XS.lloadN X21.here hx rfl (hb hby at_38) rfl  k) ?_
  refine own_Fin.step (S' := T21.setTop (mkF m 42 #[.val (.long i0), .second, .val (.ref b15), .val (.long v13), .second, .val (.long v18), .second] [(.long (4354685564936845354 : Int64)), (.long i0), (.long (own_dec v18))])) (X21.ldc2Long hx hown (mvT hZ (hw _ (List.mem_of_getElem? (i := 30) rfl))) (g := (mkF m 39 #[.val (.long i0), .second, .val (.ref b15), .val (.long v13), .second, .val (.long v18), .second] [(.long i0), (.long (own_dec v18))])) rfl (hb hby at_39)) ?_
  refine own_Fin.step (S' := T21.setTop (mkF m 43 #[.val (.long i0), .second, .val (.ref b15), .val (.long v13), .second, .val (.long v18), .second] [(.long (i0 + (4354685564936845354 : Int64))), (.long (own_dec v18))])) (fun t k => XS.ladd X21.here hx rfl (hb hby at_42) rfl k) ?_
  refine own_Fin.step (S' := T21.setTop (mkF m 44 #[.val (.long i0), .second, .val (.ref b15), .val (.long v13), .second, .val (.long v18), .second] [(.int (lcmpW (own_dec v18) (i0 + (4354685564936845354 : Int64))))])) (fun t k => XS.lcmp X21.here hx rfl (hb hby at_43) rfl k) ?_
  refine own_Fin.step (S' := T21.setTop (mkF m 47 #[.val (.long i0), .second, .val (.ref b15), .val (.long v13), .second, .val (.long v18), .second] [])) (fun t k => XS.ifNo X21.here hx rfl (hb hby at_44) rfl ((if0 _ _).trans (teq ((lw_eq _ _).mpr (by rw [hv18, own_dm, Int64.add_assoc]; rfl))).2) k) ?_
  refine own_Fin.step (S' := T21.setTop (mkF m 48 #[.val (.long i0), .second, .val (.ref b15), .val (.long v13), .second, .val (.long v18), .second] [(.int (1 : Int32))])) (fun t k => XS.iconst X21.here hx rfl (hb hby at_47) k) ?_
  refine own_Fin.step (S' := T21.setTop (mkF m 52 #[.val (.long i0), .second, .val (.ref b15), .val (.long v13), .second, .val (.long v18), .second] [(.int (1 : Int32))])) (fun t k => XS.goto X21.here hx rfl (pc0 := 48) (pc' := 52) rfl (hb hby at_48) (by decide) (by decide) k) ?_
  have hq22 : Q0 Z i0 h0 n0 (some (.int (nar .boolean (1 : Int32)))) T19.heap _ := ⟨rfl, N21⟩
  exact own_retN X21 hx hlk (t := .boolean) hrt (by simp) (hb hby at_52) e21 hq22 (by decide) (by decide)
set_option maxRecDepth 65536 in
set_option maxHeartbeats 40000000 in
theorem comes_1 {Post : Tables → Env → Array Value → State → Outcome → State → Prop} (hpost : ∀ tb e args s v u, (limb_1_1.after args s (.returned v) u = true ∧ limb_1_2.after args s (.returned v) u = true ∧ True) → FrameEnd s (.returned v) u (Jvm.fieldLocs frame_1_writes args s ++ Jvm.arrayLocs frame_1_arrays args s ++ Jvm.staticLocs frame_1_statics s) 16 128 → Post tb e args s (.returned v) u) :
    ArmFor flags0 classFile x code maxLocals ret World_1 tables_1 room_1 Calls_1 rest_1 Pre_1 Post := by
  intro l hfl _ _ p e ha hc hk s m args below hf hA hF happ hP
  obtain ⟨hcalls, hrest, hpre⟩ := hP
  obtain ⟨-, -, -, hnamed, -, -, -, hat⟩ := (Spec.applies_iff hf).mp happ
  obtain ⟨hg, hn⟩ := and_e (Cond.before_iff.mp (show (Jvm.Cond.and given_1 narrow_1).before args s = true from hpre))
  obtain ⟨gg1, gg2⟩ := and_e hg
  obtain ⟨w0, rfl⟩ : ∃ w0 : Value, args = #[w0] := by
    have hs : args.size = 1 := by simpa [Cond.value, given_1] using gg1
    obtain ⟨L⟩ := args
    match L, hs with
    | [w0], _ => exact ⟨w0, rfl⟩
  have hw := fun d (hd : d ∈ tables_1) => atoms_spec (ws := Jvm.Cond.code x code maxLocals ret :: tables_1) hat d (List.mem_cons_of_mem _ hd)
  have hfit : Fit s := fun {y c} hc i hi => by
    obtain ⟨ha, rfl⟩ := Array.getElem?_eq_some_iff.mp hc
    have q := List.all_eq_true.mp ((Array.all_eq_true_iff_forall_mem.mp hF) _ (Array.getElem_mem ha)) i (List.mem_range.mpr hi)
    simpa [Array.getElem?_eq_getElem hi] using q
  obtain ⟨i0, ei0⟩ := isL_v gg2
  obtain rfl : w0 = (.long i0) := Option.some.inj ei0
  obtain ⟨n, o, h1, h2, h3, _, L, rfl, ⟨rfl, N⟩, hq⟩ := rm0 l s _ hw tables_1  i0 s.heap s.heap.size (Nat.le_refl _)  p e ha hc hk s m _ below hf ((Spec.applies_iff_loose hf).mp happ).1 ⟨rfl, State.Warmed39.refl s, rfl⟩ trivial
  refine ⟨n, _, h1, h2, h3, hpost _ _ _ _ _ _ ⟨Cond.after_iff.mpr rfl, Cond.after_iff.mpr (eq_i res_at (Term.int_eval (1)) rfl), trivial⟩ ⟨hq.1, hq.2.1, (hq.2.2.sift fun y hy => Or.inr (N y hy)).mono (by decide) (by decide)⟩⟩
theorem main_1_1 : Claimed_1_1 := comes_1 fun _ _ _ _ _ _ h hF => ⟨h.1, hF⟩
theorem main_1_2 : Claimed_1_2 := comes_1 fun _ _ _ _ _ _ h hF => ⟨h.2.1, hF⟩
end Jvm.Pilot.@@N@@
namespace Jvm.Pilot.@@N@@
open Jvm Jvm.ClassFile Sem Op Lib Jvm.Free Jvm.Stand Jvm.Pilot.@@N@@.Jvm.D
/-! MADE BY PROGRAM (witnessworld.py) out of the Statement's table words and the real class files: 9 classes; the members and pool entries that the words name. The judged class is class 1, her method 3. -/
namespace start1
open Jvm.ClassFile
def u (s : String) : CpInfo := .utf8 (stringToUtf16 s)
/-- a pool by its gaps: so many unusable entries, then the entry; so many at the end -/
def gap : Nat → List CpInfo → List CpInfo
  | 0, r => r
  | n + 1, r => .unusable :: gap n r
def poolList (es : List (Nat × CpInfo)) (last : Nat) : List CpInfo := es.foldr (fun e r => gap e.1 (e.2 :: r)) (gap last [])
def pool (es : List (Nat × CpInfo)) (last : Nat) : Array CpInfo := ⟨poolList es last⟩
def fileOf (pool : Array CpInfo) (this : Nat) (attrs : Array Attribute := #[]) (ms : Array MethodInfo := #[]) (fl : Nat := 33) (sup : Nat := 0) (ifs : Array Nat := #[]) (fds : Array FieldInfo := #[]) : ClassFile where
  minorVersion := 0
  majorVersion := 65
  constantPool := pool
  accessFlags := fl
  thisClass := this
  superClass := sup
  interfaces := ifs
  fields := fds
  methods := ms
  attributes := attrs
def plain (name : String) (sup : Option ClassId) : Class where
  name := name
  kind := .ordinary
  loader := none
  accessFlags := 33
  super := sup
  interfaces := #[]
  cf := none
  fields := #[]
  methods := #[]
  instanceTypes := #[]
  staticTypes := #[]
  resolved := #[]
  callSites := []
  init := .initialized
  statics := none
  mirror := none

def pool0 : Array CpInfo := pool [(5, u "<init>"), (0, u "()V"), (1, .class_ 10), (1, u "java/lang/Object")] 113

def k0c0 : Code := { maxStack := 0, maxLocals := 1, code := object_method_1_code, exceptionTable := #[], attributes := #[] }
def k0m0 : Method := { name := "<init>", desc := "()V", sig := { parameters := [], returnType := none }, accessFlags := 1, code := some k0c0 }
/-- java/lang/Object -/
def k0 : Class := { plain "java/lang/Object" none with
  accessFlags := 33
  interfaces := #[]
  cf := some (fileOf pool0 8 #[] #[{ accessFlags := 1, nameIndex := 5, descriptorIndex := 6, attributes := #[] }] 33 0 #[] #[])
  fields := #[]
  methods := #[k0m0]
  instanceTypes := #[]
  staticTypes := #[]
  resolved := Array.replicate 124 none
  statics := none }

def pool1 : Array CpInfo := pool [(2, .class_ 4), (1, u "java/lang/Object"), (0, u "<init>"), (0, u "()V"), (0, .long 2), (1, .class_ 10), (0, u "com/example/methodical_checker/methodicalchecker/SplitMix64NextLongPinLaw"), (0, .long 10723151780598845931), (1, .methodref 9 14), (0, .nameAndType 15 16), (0, u "inverse"), (0, u "(J)J"), (0, .long 13787848793156543929), (1, .class_ 20), (0, u "com/example/methodical_checker/methodicalchecker/SplitMix64"), (0, .methodref 19 22), (0, .nameAndType 5 23), (0, u "(J)V"), (0, .methodref 19 25), (0, .nameAndType 26 27), (0, u "nextLong"), (0, u "()J"), (0, .methodref 9 29), (0, .nameAndType 30 16), (0, u "decode"), (0, .long 11400714819323198485), (1, .long 4354685564936845354), (1, u "STEP"), (0, u "J"), (1, u "K1"), (0, u "K2"), (2, u "law"), (0, u "(J)Z")] 3

def k1m0 : Method := { name := "<init>", desc := "()V", sig := { parameters := [], returnType := none }, accessFlags := 1, code := none }
def k1c1 : Code := { maxStack := 8, maxLocals := 4, code := method_2_code, exceptionTable := #[], attributes := #[] }
def k1m1 : Method := { name := "inverse", desc := "(J)J", sig := { parameters := [.long], returnType := some .long }, accessFlags := 10, code := some k1c1 }
def k1c2 : Code := { maxStack := 5, maxLocals := 10, code := method_3_code, exceptionTable := #[], attributes := #[] }
def k1m2 : Method := { name := "decode", desc := "(J)J", sig := { parameters := [.long], returnType := some .long }, accessFlags := 10, code := some k1c2 }
def k1c3 : Code := { maxStack := 6, maxLocals := 7, code := code, exceptionTable := #[], attributes := #[] }
def k1m3 : Method := { name := "law", desc := "(J)Z", sig := { parameters := [.long], returnType := some .boolean }, accessFlags := 9, code := some k1c3 }
/-- com/example/methodical_checker/methodicalchecker/SplitMix64NextLongPinLaw -/
def k1 : Class := { plain "com/example/methodical_checker/methodicalchecker/SplitMix64NextLongPinLaw" (some 0) with
  accessFlags := 49
  interfaces := #[]
  cf := some (fileOf pool1 9 #[] #[{ accessFlags := 1, nameIndex := 5, descriptorIndex := 6, attributes := #[] }, { accessFlags := 10, nameIndex := 15, descriptorIndex := 16, attributes := #[] }, { accessFlags := 10, nameIndex := 30, descriptorIndex := 16, attributes := #[] }, { accessFlags := 9, nameIndex := 42, descriptorIndex := 43, attributes := #[] }] 49 2 #[] #[{ accessFlags := 26, nameIndex := 35, descriptorIndex := 36, attributes := #[] }, { accessFlags := 26, nameIndex := 38, descriptorIndex := 36, attributes := #[] }, { accessFlags := 26, nameIndex := 39, descriptorIndex := 36, attributes := #[] }])
  fields := #[{ name := "STEP", type := .long, accessFlags := 26, slot := 0, constantValue := 0 }, { name := "K1", type := .long, accessFlags := 26, slot := 1, constantValue := 0 }, { name := "K2", type := .long, accessFlags := 26, slot := 2, constantValue := 0 }]
  methods := #[k1m0, k1m1, k1m2, k1m3]
  instanceTypes := #[]
  staticTypes := #[.long, .long, .long]
  resolved := Array.replicate 47 none
  statics := none }

def pool2 : Array CpInfo := pool [(1, .methodref 2 3), (0, .class_ 4), (0, .nameAndType 5 6), (0, u "java/lang/Object"), (0, u "<init>"), (0, u "()V"), (0, .fieldref 8 9), (0, .class_ 10), (0, .nameAndType 11 12), (0, u "com/example/methodical_checker/methodicalchecker/SplitMix64"), (0, u "counter"), (0, u "J"), (0, .long 11400714819323198485), (1, .long 13787848793156543929), (1, .long 10723151780598845931), (20, u "nextLong"), (0, u "()J"), (2, u "STEP"), (1, u "(J)V")] 22

def k2c0 : Code := { maxStack := 3, maxLocals := 3, code := prog_7_method_1_code, exceptionTable := #[], attributes := #[] }
def k2m0 : Method := { name := "<init>", desc := "(J)V", sig := { parameters := [.long], returnType := none }, accessFlags := 0, code := some k2c0 }
def k2c1 : Code := { maxStack := 5, maxLocals := 3, code := prog_7_method_2_code, exceptionTable := #[], attributes := #[] }
def k2m1 : Method := { name := "nextLong", desc := "()J", sig := { parameters := [], returnType := some .long }, accessFlags := 0, code := some k2c1 }
/-- com/example/methodical_checker/methodicalchecker/SplitMix64 -/
def k2 : Class := { plain "com/example/methodical_checker/methodicalchecker/SplitMix64" (some 0) with
  accessFlags := 48
  interfaces := #[]
  cf := some (fileOf pool2 8 #[] #[{ accessFlags := 0, nameIndex := 5, descriptorIndex := 44, attributes := #[] }, { accessFlags := 0, nameIndex := 38, descriptorIndex := 39, attributes := #[] }] 48 2 #[] #[{ accessFlags := 26, nameIndex := 42, descriptorIndex := 12, attributes := #[] }, { accessFlags := 2, nameIndex := 11, descriptorIndex := 12, attributes := #[] }])
  fields := #[{ name := "STEP", type := .long, accessFlags := 26, slot := 0, constantValue := 0 }, { name := "counter", type := .long, accessFlags := 2, slot := 0, constantValue := 0 }]
  methods := #[k2m0, k2m1]
  instanceTypes := #[.long]
  staticTypes := #[.long]
  resolved := Array.replicate 67 none
  statics := none }

def pool3 : Array CpInfo := pool [(1, u "java/lang/Cloneable"), (0, .class_ 1), (0, u "java/lang/Object"), (0, .class_ 3)] 3

/-- java/lang/Cloneable -/
def k3 : Class := { plain "java/lang/Cloneable" (some 0) with
  accessFlags := 1537
  interfaces := #[]
  cf := some (fileOf pool3 2 #[] #[] 1537 4 #[] #[])
  fields := #[]
  methods := #[]
  instanceTypes := #[]
  staticTypes := #[]
  resolved := Array.replicate 8 none
  statics := none }

def pool4 : Array CpInfo := pool [(1, u "java/io/Serializable"), (0, .class_ 1), (0, u "java/lang/Object"), (0, .class_ 3)] 3

/-- java/io/Serializable -/
def k4 : Class := { plain "java/io/Serializable" (some 0) with
  accessFlags := 1537
  interfaces := #[]
  cf := some (fileOf pool4 2 #[] #[] 1537 4 #[] #[])
  fields := #[]
  methods := #[]
  instanceTypes := #[]
  staticTypes := #[]
  resolved := Array.replicate 8 none
  statics := none }

/-- the primitive byte -/
def k5 : Class := { plain "byte" none with kind := .primitive 'B', accessFlags := 0x411 }
/-- [B -/
def k6 : Class := { plain "[B" (some 0) with kind := .array 5 .byte, interfaces := #[3, 4], accessFlags := 1041 }

/-- the primitive int -/
def k7 : Class := { plain "int" none with kind := .primitive 'I', accessFlags := 0x411 }
/-- [I -/
def k8 : Class := { plain "[I" (some 0) with kind := .array 7 .int, interfaces := #[3, 4], accessFlags := 1041 }

def heap : Heap := #[]
def classes : Array Class := #[k0, k1, k2, k3, k4, k5, k6, k7, k8]
def interned : List (Array UInt16 × Addr) := []
def slotsUsed : Nat := 0
def theMethod : MethodId := ⟨1, 3⟩
def args0 : Array Value := #[.long 5]
def aboutOver (below : List Frame) : State where
  vm := { classes := classes, interned := interned.toArray }
  heap := heap
  slotsUsed := slotsUsed
  threads := #[{ frames := .invoking theMethod args0 :: below }]
def below0 : List Frame := [.native { method := ⟨0, 0⟩, args := #[] }]
def about1 : State := aboutOver below0
def p0 : Program := .bare "" "" ""
def e0 : Env := launch0.env 0 0 0
theorem w_frames : about1.frames = Frame.invoking theMethod args0 :: below0 := rfl
set_option maxRecDepth 65536 in
theorem w_args : argsFit about1.vm theMethod args0 = true := by decide +kernel
set_option maxRecDepth 65536 in
theorem w_heap : heapFits about1 = true := by decide +kernel
set_option maxRecDepth 65536 in
theorem w_runnable : about1.curStatus? = some .runnable := by decide +kernel
set_option maxRecDepth 65536 in
theorem w_alone : about1.alone = true := by decide +kernel
set_option maxRecDepth 65536 in
theorem w_named : about1.methodNamed? x = some theMethod := by decide +kernel
set_option maxRecDepth 65536 in
theorem w_hears : about1.hears theMethod below0 = true := by decide +kernel
set_option maxRecDepth 65536 in
theorem w_ripe : about1.ripe theMethod args0 below0 = true := by decide +kernel
theorem w_running : about1.status = .running := rfl
set_option maxRecDepth 65536 in
theorem w_room : about1.hasRoom e0.platform room_1 = true :=
  launch0.hasRoom_least _ room_1 (by decide +kernel) (by decide +kernel) (by decide +kernel) (by decide +kernel) (by decide +kernel) (by decide +kernel)
theorem allAtoms_all (ts : List Jvm.Cond) (a : Array Jvm.Value) (st : Jvm.State) : (allAtoms ts).before a st = ts.all (fun c => c.before a st) := by
  induction ts with
  | nil => rfl
  | cons c t ih =>
    show (Jvm.Cond.and c (allAtoms t)).before a st = _
    rw [Jvm.Cond.before_and, ih, List.all_cons]
def words1 : List Jvm.Cond := Jvm.Cond.code x code maxLocals ret :: tables_1
/-- a 'code' word, met by the world's own term for the bytes: nothing is compared byte by byte -/
theorem code_word {y : MethodName} {bytes : ByteArray} {mx : Nat} {rt : Option FieldType} {a : Array Value} {s : State} {m : MethodId} {meth : Method} {c : Code} (h1 : s.methodNamed? y = some m) (h2 : s.vm.method? m = some meth) (h3 : meth.code = some c) (h4 : c.code = bytes)
    (h5 : (c.maxLocals == mx && c.exceptionTable.isEmpty && decide (c.maxStack ≤ mostOperands) && decide (meth.sig.returnType = rt) && !meth.locks && decide (parseMethodDescriptor y.desc = some meth.sig)) = true) : (Jvm.Cond.code y bytes mx rt).before a s = true := by
  simp only [Bool.and_eq_true, beq_iff_eq, Bool.not_eq_true', decide_eq_true_eq] at h5
  obtain ⟨⟨⟨⟨⟨g1, g2⟩, g3⟩, g4⟩, g5⟩, g6⟩ := h5
  simp [Cond.before, Cond.holds, Cond.value, h1, h2, h3, h4, g1, g2, g3, g4, g5, g6]
def isCode : Jvm.Cond → Bool
  | .code _ _ _ _ => true
  | _ => false
theorem all_split {L : List Jvm.Cond} {P : Jvm.Cond → Bool} (h1 : L.all (fun c => isCode c || P c) = true) (h2 : ∀ c ∈ L.filter isCode, P c = true) : L.all P = true := by
  refine List.all_eq_true.mpr fun c hc => ?_
  have h := List.all_eq_true.mp h1 c hc
  rcases Bool.eq_false_or_eq_true (isCode c) with hi | hi
  · exact h2 c (List.mem_filter.mpr ⟨hc, hi⟩)
  · simpa [hi] using h
set_option maxRecDepth 65536 in
theorem w_c0 : (Jvm.Cond.code x code maxLocals ret).before args0 about1 = true := code_word (m := ⟨1, 3⟩) (meth := k1m3) (c := k1c3) (by decide +kernel) rfl rfl rfl (by decide +kernel)
set_option maxRecDepth 65536 in
theorem w_c1 : (Jvm.Cond.code ({ cls := "com/example/methodical_checker/methodicalchecker/SplitMix64", name := "<init>", desc := "(J)V" } : Jvm.MethodName) prog_7_method_1_code (3 : Nat) (Option.none : Option Jvm.ClassFile.FieldType)).before args0 about1 = true := code_word (m := ⟨2, 0⟩) (meth := k2m0) (c := k2c0) (by decide +kernel) rfl rfl rfl (by decide +kernel)
set_option maxRecDepth 65536 in
theorem w_c2 : (Jvm.Cond.code ({ cls := "java/lang/Object", name := "<init>", desc := "()V" } : Jvm.MethodName) object_method_1_code (1 : Nat) (Option.none : Option Jvm.ClassFile.FieldType)).before args0 about1 = true := code_word (m := ⟨0, 0⟩) (meth := k0m0) (c := k0c0) (by decide +kernel) rfl rfl rfl (by decide +kernel)
set_option maxRecDepth 65536 in
theorem w_c3 : (Jvm.Cond.code ({ cls := "com/example/methodical_checker/methodicalchecker/SplitMix64", name := "nextLong", desc := "()J" } : Jvm.MethodName) prog_7_method_2_code (3 : Nat) (Option.some Jvm.ClassFile.FieldType.long)).before args0 about1 = true := code_word (m := ⟨2, 1⟩) (meth := k2m1) (c := k2c1) (by decide +kernel) rfl rfl rfl (by decide +kernel)
set_option maxRecDepth 65536 in
theorem w_c4 : (Jvm.Cond.code ({ cls := "com/example/methodical_checker/methodicalchecker/SplitMix64NextLongPinLaw", name := "decode", desc := "(J)J" } : Jvm.MethodName) method_3_code (10 : Nat) (Option.some Jvm.ClassFile.FieldType.long)).before args0 about1 = true := code_word (m := ⟨1, 2⟩) (meth := k1m2) (c := k1c2) (by decide +kernel) rfl rfl rfl (by decide +kernel)
set_option maxRecDepth 65536 in
theorem w_c5 : (Jvm.Cond.code ({ cls := "com/example/methodical_checker/methodicalchecker/SplitMix64NextLongPinLaw", name := "inverse", desc := "(J)J" } : Jvm.MethodName) method_2_code (4 : Nat) (Option.some Jvm.ClassFile.FieldType.long)).before args0 about1 = true := code_word (m := ⟨1, 1⟩) (meth := k1m1) (c := k1c1) (by decide +kernel) rfl rfl rfl (by decide +kernel)
def codes1 : List Jvm.Cond := [Jvm.Cond.code x code maxLocals ret, Jvm.Cond.code ({ cls := "com/example/methodical_checker/methodicalchecker/SplitMix64", name := "<init>", desc := "(J)V" } : Jvm.MethodName) prog_7_method_1_code (3 : Nat) (Option.none : Option Jvm.ClassFile.FieldType), Jvm.Cond.code ({ cls := "java/lang/Object", name := "<init>", desc := "()V" } : Jvm.MethodName) object_method_1_code (1 : Nat) (Option.none : Option Jvm.ClassFile.FieldType), Jvm.Cond.code ({ cls := "com/example/methodical_checker/methodicalchecker/SplitMix64", name := "nextLong", desc := "()J" } : Jvm.MethodName) prog_7_method_2_code (3 : Nat) (Option.some Jvm.ClassFile.FieldType.long), Jvm.Cond.code ({ cls := "com/example/methodical_checker/methodicalchecker/SplitMix64NextLongPinLaw", name := "decode", desc := "(J)J" } : Jvm.MethodName) method_3_code (10 : Nat) (Option.some Jvm.ClassFile.FieldType.long), Jvm.Cond.code ({ cls := "com/example/methodical_checker/methodicalchecker/SplitMix64NextLongPinLaw", name := "inverse", desc := "(J)J" } : Jvm.MethodName) method_2_code (4 : Nat) (Option.some Jvm.ClassFile.FieldType.long)]
set_option maxRecDepth 65536 in
theorem codes_eq : words1.filter isCode = codes1 := rfl
theorem w_codes : ∀ c ∈ words1.filter isCode, c.before args0 about1 = true := by
  rw [codes_eq]
  intro c hc
  simp only [codes1, List.mem_cons, List.not_mem_nil, or_false] at hc
  rcases hc with rfl | rfl | rfl | rfl | rfl | rfl
  · exact w_c0
  · exact w_c1
  · exact w_c2
  · exact w_c3
  · exact w_c4
  · exact w_c5
set_option maxRecDepth 65536 in
theorem w_t1 : (words1.take 24).all (fun c => isCode c || c.before args0 about1) = true := by decide +kernel
set_option maxRecDepth 65536 in
theorem w_t2 : (words1.drop 24).all (fun c => isCode c || c.before args0 about1) = true := by decide +kernel
theorem w_tables : (allAtoms (Jvm.Cond.code x code maxLocals ret :: tables_1)).before args0 about1 = true := by
  rw [allAtoms_all]
  show words1.all (fun c => c.before args0 about1) = true
  refine all_split ?_ w_codes
  rw [← List.take_append_drop 24 words1, List.all_append, w_t1, w_t2]
  rfl
set_option maxRecDepth 65536 in
theorem w_case : (Jvm.Cond.and given_1 narrow_1).before args0 about1 = true := by decide +kernel
theorem w_applies : (headSpec (Jvm.Cond.code x code maxLocals ret :: tables_1) room_1).applies x e0.platform about1 = true :=
  (Spec.applies_iff w_frames).mpr ⟨w_running, w_runnable, w_alone, w_named, w_hears, w_ripe, w_room, w_tables⟩
theorem atStart : AtStart classFile x code maxLocals ret World_1 tables_1 room_1 Calls_1 rest_1 Pre_1 launch0 p0 e0 about1 theMethod args0 below0 :=
  ⟨lists_1, trivial, launch0.admits_env _ _ _, launch0.least_env, fairChoices_fair.cas, fairChoices_fair.clock, w_frames, w_args, w_heap, w_applies, trivial, trivial, w_case⟩
end start1
theorem witness_1 : WitnessClaimed_1 := ⟨start1.p0, start1.e0, start1.about1, start1.theMethod, start1.args0, start1.below0, start1.atStart⟩
end Jvm.Pilot.@@N@@
