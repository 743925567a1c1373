import JvmDerived
import JvmDerived.Pilot.@@N@@Statement
import JvmDerived.Pilot.@@N@@Code
set_option linter.unusedVariables false
set_option linter.unusedSimpArgs false
namespace Jvm.RoadKit
open Sem ClassFile Op Lib Jvm.Stand Jvm.Free Jvm.LawKit
/-- the run from S comes to an end that Post allows -/
def own_Fin (tb : Tables) (e : Env) (below : List Frame) (Post : Outcome → State → Prop) (S : State) : Prop := ∃ s₂ o, Steps tb e below S s₂ ∧ s₂.status = .running ∧ Ended s₂ below o ∧ Post o s₂
def own_post (Q : Option Value → Heap → List Loc → Prop) (s : State) (k n : Nat) (o : Outcome) (U : State) : Prop := ∃ v L, o = .returned v ∧ Q v U.heap L ∧ FrameEnd s o U L k n
def own_bool (P : Prop) (v : Option Value) : Prop := (v = some (.int 1) ∧ P) ∨ (v = some (.int 0) ∧ ¬ P)
theorem own_Fin.step {tb : Tables} {e : Env} {below : List Frame} {Post : Outcome → State → Prop} {S S' : State} (h : ∀ t, Steps tb e below S' t → Steps tb e below S t) (k : own_Fin tb e below Post S') : own_Fin tb e below Post S := by
  obtain ⟨s2, o, h1, h2⟩ := k
  exact ⟨s2, o, h _ h1, h2⟩
theorem own_Fin.trans {tb : Tables} {e : Env} {below : List Frame} {Post : Outcome → State → Prop} {S S' : State} (h : Steps tb e below S S') (k : own_Fin tb e below Post S') : own_Fin tb e below Post S := by
  obtain ⟨s2, o, h1, h2⟩ := k
  exact ⟨s2, o, h.trans h1, h2⟩
section New
variable {p : Program} {l : Launch} {e : Env} {R : Room} {s : State} {m : MethodId} {args : Array Value} {below : List Frame} {meth : Method} {c : Code} {T : State} {locs : List Loc} {cells slots : Nat} {Q : Option Value → Heap → List Loc → Prop} {kc ks : Nat} {h : Heap}
theorem retI (X : Stand p l e R s m args below meth c T locs cells slots) (hx : p.tables.exec = Jvm.exec) {pc : Nat} {Ls : Array Slot} {z : Int32} {rest : List Value} (hret : meth.sig.returnType = some .int) (hd : decode c.code pc = .ok (.ireturn, 1)) {fs : List Frame}
    (hl : ∀ (f : JFrame) (acts : List Action), f.method = m → f.locked = none → f.entered = [] → (doReturn e (T.setTop f) acts (some (.int z))).1 = T.setFrames fs) : Steps p.tables e below (T.setTop (mkF m pc Ls (.int z :: rest))) (T.setFrames fs) := by
  have hm' : T.vm.method? m = some meth := X.method'
  have hn : narrow .int (.int z) = .int z := rfl
  show Steps p.tables e below (T.setTop { method := m, pc := pc, locals := Ls, stack := _ :: rest, locked := none }) _
  jvm_step X.here [X.here.top, hx, hd, hm', hret, hn]
  first | (intro acts; rw [hl _ acts rfl rfl rfl]) | rw [hl _ _ rfl rfl rfl]
  exact Steps.refl _
theorem own_retN (X : Stand p l e R s m args below meth c T locs cells slots) (hx : p.tables.exec = Jvm.exec) (hlk : meth.locks = false) {pc : Nat} {Ls : Array Slot} {z : Int32} {t : FieldType} {rest : List Value} (hret : meth.sig.returnType = some t) (ht : t = .boolean ∨ t = .byte ∨ t = .char ∨ t = .short)
    (hd : decode c.code pc = .ok (.ireturn, 1)) (eT : T.heap = h) (hq : Q (some (.int (nar t z))) h locs) (hc : cells ≤ kc) (hs : slots ≤ ks) : own_Fin p.tables e below (own_post Q s kc ks) (T.setTop (mkF m pc Ls (.int z :: rest))) := by
  obtain ⟨fs, hr, hrun, hended, hW, hsame⟩ := X.leave (v := some (.int (nar t z))) (fun h => by rw [hret] at h; cases h) hlk
  exact ⟨_, _, retN X hx hret ht hd hr, hrun, hended, _, _, rfl, (eT ▸ hq : Q (some (.int (nar t z))) T.heap locs), ⟨_, rfl⟩, hW, hsame.mono hc hs⟩
theorem own_retI (X : Stand p l e R s m args below meth c T locs cells slots) (hx : p.tables.exec = Jvm.exec) (hlk : meth.locks = false) {pc : Nat} {Ls : Array Slot} {z : Int32} {rest : List Value} (hret : meth.sig.returnType = some .int)
    (hd : decode c.code pc = .ok (.ireturn, 1)) (eT : T.heap = h) (hq : Q (some (.int z)) h locs) (hc : cells ≤ kc) (hs : slots ≤ ks) : own_Fin p.tables e below (own_post Q s kc ks) (T.setTop (mkF m pc Ls (.int z :: rest))) := by
  obtain ⟨fs, hr, hrun, hended, hW, hsame⟩ := X.leave (v := some (.int z)) (fun h => by rw [hret] at h; cases h) hlk
  exact ⟨_, _, retI X hx hret hd hr, hrun, hended, _, _, rfl, (eT ▸ hq : Q (some (.int z)) T.heap locs), ⟨_, rfl⟩, hW, hsame.mono hc hs⟩
theorem own_retJ (X : Stand p l e R s m args below meth c T locs cells slots) (hx : p.tables.exec = Jvm.exec) (hlk : meth.locks = false) {pc : Nat} {Ls : Array Slot} {z : Int64} (hret : meth.sig.returnType = some .long)
    (hd : decode c.code pc = .ok (.lreturn, 1)) (eT : T.heap = h) (hq : Q (some (.long z)) h locs) (hc : cells ≤ kc) (hs : slots ≤ ks) : own_Fin p.tables e below (own_post Q s kc ks) (T.setTop (mkF m pc Ls [.long z])) := by
  obtain ⟨fs, hr, hrun, hended, hW, hsame⟩ := X.leave (v := some (.long z)) (fun h => by rw [hret] at h; cases h) hlk
  exact ⟨_, _, X.lreturnOut hx hret hd hr, hrun, hended, _, _, rfl, (eT ▸ hq : Q (some (.long z)) T.heap locs), ⟨_, rfl⟩, hW, hsame.mono hc hs⟩
theorem own_retR (X : Stand p l e R s m args below meth c T locs cells slots) (hx : p.tables.exec = Jvm.exec) (hlk : meth.locks = false) {pc : Nat} {Ls : Array Slot} {w : Value} {t : FieldType} (hw : w.isRef = true) (hret : meth.sig.returnType = some t) (ht : t.isReference = true)
    (hd : decode c.code pc = .ok (.areturn, 1)) (eT : T.heap = h) (hq : Q (some w) h locs) (hc : cells ≤ kc) (hs : slots ≤ ks) : own_Fin p.tables e below (own_post Q s kc ks) (T.setTop (mkF m pc Ls [w])) := by
  obtain ⟨fs, hr, hrun, hended, hW, hsame⟩ := X.leave (v := some w) (fun h => by rw [hret] at h; cases h) hlk
  exact ⟨_, _, X.areturnOut hx hw hret ht hd hr, hrun, hended, _, _, rfl, (eT ▸ hq : Q (some w) T.heap locs), ⟨_, rfl⟩, hW, hsame.mono hc hs⟩
theorem own_retV (X : Stand p l e R s m args below meth c T locs cells slots) (hx : p.tables.exec = Jvm.exec) (hlk : meth.locks = false) {pc : Nat} {Ls : Array Slot} (hret : meth.sig.returnType = none)
    (hd : decode c.code pc = .ok (.return_, 1)) (eT : T.heap = h) (hq : Q none h locs) (hc : cells ≤ kc) (hs : slots ≤ ks) : own_Fin p.tables e below (own_post Q s kc ks) (T.setTop (mkF m pc Ls [])) := by
  obtain ⟨fs, hr, hrun, hended, hW, hsame⟩ := X.leave (v := none) (fun _ => rfl) hlk
  exact ⟨_, _, X.returnOut hx hret hd hr, hrun, hended, _, _, rfl, (eT ▸ hq : Q none T.heap locs), ⟨_, rfl⟩, hW, hsame.mono hc hs⟩
theorem own_cat1 {v : Value} (h : v.isRef = true) : v.category = 1 := by cases v <;> simp [Value.isRef, Value.category] at h ⊢
theorem own_catR {a : Addr} : (Value.ref a).category = 1 := rfl
theorem own_catN : Value.null.category = 1 := rfl
theorem own_catI {a : Int32} : (Value.int a).category = 1 := rfl
theorem own_catJ {a : Int64} : (Value.long a).category = 2 := rfl
theorem own_fitR {v : Value} {C : String} (h : v.isRef = true) : fits (.object C) v = true := by cases v <;> simp [Value.isRef, fits] at h ⊢
theorem own_fitA {v : Value} {ty : FieldType} (h : v.isRef = true) : fits (.array ty) v = true := by cases v <;> simp [Value.isRef, fits] at h ⊢
theorem own_selPriv {s : State} {args : Array Value} {y : MethodName} {n : Nat} (hi : (Cond.instantiable y.cls n).before args s = true) (hpriv : s.PrivateAt y) (hinst : (Cond.instanceMethod y).before args s = true) (hy : y.cls ≠ "java/lang/invoke/MethodHandle" ∧ y.cls ≠ "java/lang/invoke/VarHandle") : (Cond.selects y.cls y y).before args s = true := by
  obtain ⟨c, k, h1, h2, -, h4, -, -⟩ := Cond.instantiable_spec hi
  have h5 : k.isInterface = false := by
    cases hk : k.isInterface with
    | false => rfl
    | true => simp [hk] at h4
  exact selects_self_of_private h1 h2 h5 hpriv hinst hy
theorem own_eqI {a b : Term} {args : Array Value} {first st : State} {o : Option Outcome} {idx : List Nat} {y : Int32} (h : (Cond.eq a b).value args first o st idx = some true) (hb : b.eval args first o idx st = some (.int y)) : a.eval args first o idx st = some (.int y) := by
  cases ha : a.eval args first o idx st with
  | none => simp [Cond.value, ha] at h
  | some x => cases x <;> simp [Cond.value, ha, hb] at h ⊢ <;> exact h
theorem own_eqR {a b : Term} {args : Array Value} {first st : State} {o : Option Outcome} {idx : List Nat} {y : Addr} (h : (Cond.eq a b).value args first o st idx = some true) (hb : b.eval args first o idx st = some (.ref y)) : a.eval args first o idx st = some (.ref y) := by
  cases ha : a.eval args first o idx st with
  | none => simp [Cond.value, ha] at h
  | some x => cases x <;> simp [Cond.value, ha, hb] at h ⊢ <;> exact h
theorem own_elem {t : Term} {args : Array Value} {Z : State} {a : Addr} {cl : Cell} {ty : FieldType} {j : Int32} {v : Value} (ev : t.eval args Z none [] Z = some (.ref a)) (A : Arr Z Z.heap a cl ty) (h : (Term.elem t (.int j)).eval args Z none [] Z = some v) : cl.slots[j.toNatClampNeg]? = some v := by
  obtain ⟨a', j', cell, e1, e2, e3, -, e5⟩ := Term.elem_spec h
  cases e1.symm.trans ev
  have e6 : some (Value.int j) = some (Value.int j') := e2
  cases e6
  have := IntBox.arrayAt_of A.1 A.2.1 A.2.2
  cases e3.symm.trans this
  exact e5
theorem own_arv {t : Term} {args : Array Value} {Z : State} {a : Addr} {cl : Cell} {ty : FieldType} {z : Int32} {vs : List Value} {dv : Value} (hf : Fit Z) (ev : t.eval args Z none [] Z = some (.ref a)) (A : Arr Z Z.heap a cl ty) (hl : (Term.length t).eval args Z none [] Z = some (.int z)) (hz : ¬ z < 0) (hn : z.toNatClampNeg = vs.length) (H : HasL cl 0 vs) : Arv Z Z.heap a cl.cls ty z vs dv := by
  have hA := IntBox.arrayAt_of A.1 A.2.1 A.2.2
  have hlt : cl.slots.size < 2 ^ 31 := by
    by_cases hq : cl.slots.size < 2 ^ 31
    · exact hq
    · simp [Term.eval, ev, hA, hq] at hl
  have e := len_f (t := t) (args := args) (first := Z) (o := none) (idx := []) ev hA hlt
  have e2 : cl.slots.size.toInt32 = z := by
    have := e.symm.trans hl
    cases this; rfl
  exact Arv.start hf A hlt e2 hz hn H
end New
end Jvm.RoadKit
namespace Jvm.Pilot.@@N@@
open Jvm Jvm.ClassFile Sem Op Lib Jvm.Free Jvm.Stand Jvm.LawKit Jvm.RoadKit Bundle Jvm.Pilot.@@N@@.Jvm.D
theorem own_irem (a r : Int32) : (a - (a / r) * r) = a % r := irem_eq_mod a r
theorem own_rem {q r : Int32} (k : Int) (hk : r.toInt = k) (h0 : 0 < k) {v : Int32} (hv : v = ((q &&& (2147483647 : Int32)) - ((q &&& (2147483647 : Int32)) / r) * r)) : 0 ≤ v.toInt ∧ v.toInt < k := by
  have h1 := c_mask q 2147483647 31 (by decide) (by decide)
  have e : v = (q &&& (2147483647 : Int32)) % r := by
    rw [hv]; exact own_irem _ _
  have h2 := c_irem (q &&& (2147483647 : Int32)) r k hk
  rw [← e] at h2
  have h3 : 0 ≤ (q &&& (2147483647 : Int32)).toInt := by omega
  rw [h2.1 h3]
  exact ⟨Int.emod_nonneg _ (by omega), Int.emod_lt_of_pos _ h0⟩
theorem own_lit {v : Int32} (n : Int32) (h : v.toInt = n.toInt) : v = n := Int32.toInt_inj.mp h
def own_len (ps : List Int32) : Int32 := Int32.ofNat ps.length
def own_WK (Z : State) (h : Heap) (n0 : Nat) (wk : Addr) (wc : Int32) (ps : List Int32) : Prop := ∃ (a1 : Addr) (a2 : Addr) (a3 : Addr) (a4 : Addr) (a5 : Addr) (a6 : Addr) (a7 : Addr) (k1 : ClassId) (k2 : ClassId) (k3 : ClassId) (k4 : ClassId) (k5 : ClassId) (k6 : ClassId) (k7 : ClassId) (v1 : List Value) (v2 : List Value) (v3 : List Value) (v4 : List Value) (v5 : List Value) (v6 : List Value) (v7 : List Value), Exa Z h wk "com/example/methodical_checker/methodicalchecker/promela/Walk" ∧ Fld Z h wk "com/example/methodical_checker/methodicalchecker/promela/Walk" "wayCount" "I" (.int wc) ∧ Fld Z h wk "com/example/methodical_checker/methodicalchecker/promela/Walk" "pendingCount" "I" (.int (own_len ps)) ∧ Fld Z h wk "com/example/methodical_checker/methodicalchecker/promela/Walk" "wayFrom" "[I" (.ref a1) ∧ Fld Z h wk "com/example/methodical_checker/methodicalchecker/promela/Walk" "wayProcess" "[I" (.ref a2) ∧ Fld Z h wk "com/example/methodical_checker/methodicalchecker/promela/Walk" "wayStep" "[Lcom/example/methodical_checker/methodicalchecker/promela/Transition;" (.ref a3) ∧ Fld Z h wk "com/example/methodical_checker/methodicalchecker/promela/Walk" "wayMeeting" "[Lcom/example/methodical_checker/methodicalchecker/promela/Stepper$Meeting;" (.ref a4) ∧ Fld Z h wk "com/example/methodical_checker/methodicalchecker/promela/Walk" "wayStepsBefore" "[I" (.ref a5) ∧ Fld Z h wk "com/example/methodical_checker/methodicalchecker/promela/Walk" "wayBefore" "[I" (.ref a6) ∧ Fld Z h wk "com/example/methodical_checker/methodicalchecker/promela/Walk" "pending" "[I" (.ref a7) ∧ Arv Z h a1 k1 .int (16 : Int32) v1 (.int (0 : Int32)) ∧ Arv Z h a2 k2 .int (16 : Int32) v2 (.int (0 : Int32)) ∧ Arv Z h a3 k3 (.object "com/example/methodical_checker/methodicalchecker/promela/Transition") (16 : Int32) v3 .null ∧ Arv Z h a4 k4 (.object "com/example/methodical_checker/methodicalchecker/promela/Stepper$Meeting") (16 : Int32) v4 .null ∧ Arv Z h a5 k5 .int (16 : Int32) v5 (.int (0 : Int32)) ∧ Arv Z h a6 k6 .int (16 : Int32) v6 (.int (0 : Int32)) ∧ Arv Z h a7 k7 .int (16 : Int32) v7 (.int (0 : Int32)) ∧ (v1.length = 16 ∧ v2.length = 16 ∧ v3.length = 16 ∧ v4.length = 16 ∧ v5.length = 16 ∧ v6.length = 16 ∧ v7.length = 16) ∧ (n0 ≤ wk ∧ @LT.lt Nat _ wk a1 ∧ @LT.lt Nat _ a1 a2 ∧ @LT.lt Nat _ a2 a3 ∧ @LT.lt Nat _ a3 a4 ∧ @LT.lt Nat _ a4 a5 ∧ @LT.lt Nat _ a5 a6 ∧ @LT.lt Nat _ a6 a7) ∧ (∀ i q, ps[i]? = some q → v7.getD i (.int (0 : Int32)) = .int q)

theorem own_WKkeep {Z : State} {h h' : Heap} {n0 : Nat} {wk : Addr} {wc : Int32} {ps : List Int32} (K : Keep h h' []) (H : own_WK Z h n0 wk wc ps) : own_WK Z h' n0 wk wc ps := by
  obtain ⟨a1, a2, a3, a4, a5, a6, a7, k1, k2, k3, k4, k5, k6, k7, v1, v2, v3, v4, v5, v6, v7, f0, f1, f2, f3, f4, f5, f6, f7, f8, f9, f10, f11, f12, f13, f14, f15, f16, hl, ho, he⟩ := H
  exact ⟨a1, a2, a3, a4, a5, a6, a7, k1, k2, k3, k4, k5, k6, k7, v1, v2, v3, v4, v5, v6, v7, f0.keep K, f1.keep K nin0, f2.keep K nin0, f3.keep K nin0, f4.keep K nin0, f5.keep K nin0, f6.keep K nin0, f7.keep K nin0, f8.keep K nin0, f9.keep K nin0, f10.keep K nin0, f11.keep K nin0, f12.keep K nin0, f13.keep K nin0, f14.keep K nin0, f15.keep K nin0, f16.keep K nin0, hl, ho, he⟩
theorem own_ne16 {wc : Int32} (h : 0 ≤ wc.toInt ∧ wc.toInt < 16) : ¬ wc = 16 := fun q => by
  subst q; exact absurd h (by decide)
theorem own_in16 {wc : Int32} (h : 0 ≤ wc.toInt ∧ wc.toInt < 16) : ¬ wc < 0 ∧ wc < 16 := by
  rw [Int32.lt_iff_toInt_lt, Int32.lt_iff_toInt_lt]
  have e0 : (0 : Int32).toInt = 0 := rfl
  have e1 : (16 : Int32).toInt = 16 := rfl
  omega
theorem own_nat16 {wc : Int32} (h : 0 ≤ wc.toInt ∧ wc.toInt < 16) : wc.toNatClampNeg < 16 := by
  simp only [Int32.toNatClampNeg]; omega
theorem own_len_b {ps : List Int32} (h : ps.length < 17) : (own_len ps).toInt = ps.length := by
  unfold own_len; rw [Int32.toInt_ofNat_of_lt (by omega)]
theorem own_len_r {ps : List Int32} (h : ps.length < 16) : 0 ≤ (own_len ps).toInt ∧ (own_len ps).toInt < 16 := by
  rw [own_len_b (by omega)]; omega
theorem own_len_n {ps : List Int32} (h : ps.length < 16) : (own_len ps).toNatClampNeg = ps.length := by
  simp only [Int32.toNatClampNeg, own_len_b (by omega : ps.length < 17)]; rfl
theorem own_lenS {ps : List Int32} {q : Int32} (h : ps.length < 16) : own_len ps + 1 = own_len (ps ++ [q]) := by
  apply Int32.toInt_inj.mp
  have h1 := own_len_b (ps := ps) (by omega)
  have h2 := own_len_b (ps := ps ++ [q]) (by simp; omega)
  have h3 := c_iadd (own_len ps) 1
  have e1 : (1 : Int32).toInt = 1 := rfl
  have r1 := rng32 (own_len ps + 1)
  simp only [List.length_append, List.length_cons, List.length_nil] at h2
  omega
theorem own_lenP {ps : List Int32} {q : Int32} (h : ps.length < 16) : own_len (ps ++ [q]) - 1 = own_len ps := by
  rw [← own_lenS h]
  apply Int32.toInt_inj.mp
  have h3 := c_isub (own_len ps + 1) 1
  have h4 := c_iadd (own_len ps) 1
  have e1 : (1 : Int32).toInt = 1 := rfl
  have r1 := rng32 (own_len ps + 1 - 1)
  have r2 := rng32 (own_len ps)
  omega
theorem own_elS {ps : List Int32} {q : Int32} {vs : List Value} (h : ps.length < 16) (hl : vs.length = 16) (he : ∀ i q, ps[i]? = some q → vs.getD i (.int (0 : Int32)) = .int q) : ∀ i z, (ps ++ [q])[i]? = some z → (vs.set (own_len ps).toNatClampNeg (.int q)).getD i (.int (0 : Int32)) = .int z := by
  intro i z hz
  rw [own_len_n h, List.getD_eq_getElem?_getD]
  by_cases hi : i < ps.length
  · rw [List.getElem?_append_left hi] at hz
    rw [List.getElem?_set_ne (by omega), ← List.getD_eq_getElem?_getD]; exact he i z hz
  · by_cases hi2 : i = ps.length
    · subst hi2
      rw [List.getElem?_append_right (Nat.le_refl _)] at hz
      simp at hz
      rw [List.getElem?_set_self (by omega), hz]; rfl
    · rw [List.getElem?_eq_none (by simp; omega)] at hz; cases hz
theorem own_elP {ps : List Int32} {q : Int32} {vs : List Value} (he : ∀ i z, (ps ++ [q])[i]? = some z → vs.getD i (.int (0 : Int32)) = .int z) : ∀ i z, ps[i]? = some z → vs.getD i (.int (0 : Int32)) = .int z := by
  intro i z hz
  have hi : i < ps.length := (List.getElem?_eq_some_iff.mp hz).1
  exact he i z (by rw [List.getElem?_append_left hi]; exact hz)

def own_min (a b : Int32) : Int32 := if b < a then b else a

theorem d1_0 : decode jdk_29_method_69_code 0 = .ok (.iload_n 0, 1) := by decide +kernel
theorem d1_1 : decode jdk_29_method_69_code 1 = .ok (.iload_n 1, 1) := by decide +kernel
theorem d1_2 : decode jdk_29_method_69_code 2 = .ok (.if_icmp .gt 7, 3) := by decide +kernel
theorem d1_5 : decode jdk_29_method_69_code 5 = .ok (.iload_n 0, 1) := by decide +kernel
theorem d1_6 : decode jdk_29_method_69_code 6 = .ok (.goto 4, 3) := by decide +kernel
theorem d1_9 : decode jdk_29_method_69_code 9 = .ok (.iload_n 1, 1) := by decide +kernel
theorem d1_10 : decode jdk_29_method_69_code 10 = .ok (.ireturn, 1) := by decide +kernel
theorem ef_1 (m : MethodId) (x0 : Int32) (x1 : Int32) : entryFrame m #[(.int x0), (.int x1)] 2 = mkF m 0 #[.val (.int x0), .val (.int x1)] [] := by first | (simp [entryFrame, mkF, argsToLocals, Value.category]; done) | rfl
def Q1 (Z : State) (q1 : Int32) (q2 : Int32) (h0 : Heap) (n0 : Nat) (v : Option Value) (h : Heap) (L : List Loc) : Prop := v = some (.int (own_min q1 q2)) ∧ Fr n0 L ∧ h = h0
set_option maxRecDepth 65536 in
set_option maxHeartbeats 40000000 in
theorem rm1 (l : Launch) (Z : State) (a0 : Array Value) (hw : ∀ d ∈ tables_1, d.before a0 Z = true) (ws : List Jvm.Cond) (q1 : Int32) (q2 : Int32) (h0 : Heap) (n0 : Nat) (Z0 : n0 ≤ h0.size)  :
    MetFree l (⟨"java/lang/Math", "min", "(II)I"⟩ : MethodName) (head1 (Jvm.Cond.code (⟨"java/lang/Math", "min", "(II)I"⟩ : MethodName) jdk_29_method_69_code 2 (some .int) :: ws) ({ frames := 0, cells := 0, slots := 0, locals := 0 } : Room)) (fun a U => a = #[(.int q1), (.int q2)] ∧ Z.Warmed39 U.vm ∧ U.heap = h0) (fun _ _ _ _ _ => True) (fun _ U o U' => ∃ v L, o = .returned v ∧ Q1 Z q1 q2 h0 n0 v U'.heap L ∧ FrameEnd U o U' L ({ frames := 0, cells := 0, slots := 0, locals := 0 } : Room).cells ({ frames := 0, cells := 0, slots := 0, locals := 0 } : Room).slots) := by
  refine MetFree.of_bodySF (Jvm.Free.JP.mathPlain rfl (by decide +kernel)) hisR ?_
  intro p e s m args below meth c s₁ Bd hml0 hP hK
  obtain ⟨rfl, hZ, hh⟩ := hP
  have hx := Bd.exec
  have hby := Bd.bytes
  have hml : c.maxLocals = 2 := hml0
  have hown : s.vm.findClass "java/lang/Math" = some m.cls := findClass_of_methodNamed Bd.named
  have hnm := (name_of_methodNamed Bd.named Bd.method).1
  have hlk : meth.locks = false := BodyLoose.notSynchronized Bd
  have hrt := Bd.returns
  have X0 : Stand p l e ({ frames := 0, cells := 0, slots := 0, locals := 0 } : Room) s m #[(.int q1), (.int q2)] below meth c s₁ [] 0 0 := Stand.of_body Bd
  have e0 : s₁.heap = h0 := by rw [← hh, Bd.state]; rfl
  have N0 := Fr.nil n0
  show own_Fin p.tables e below (own_post (Q1 Z q1 q2 h0 n0) s ({ frames := 0, cells := 0, slots := 0, locals := 0 } : Room).cells ({ frames := 0, cells := 0, slots := 0, locals := 0 } : Room).slots) (s₁.setTop (entryFrame m #[(.int q1), (.int q2)] 2))
  refine own_Fin.step (fun t k => castTop (ef_1 m q1 q2) k) ?_
  refine own_Fin.step (S' := s₁.setTop (mkF m 1 #[.val (.int q1), .val (.int q2)] [(.int q1)])) (fun t k => XS.iloadN X0.here hx rfl (hb hby d1_0) rfl  k) ?_
  refine own_Fin.step (S' := s₁.setTop (mkF m 2 #[.val (.int q1), .val (.int q2)] [(.int q2), (.int q1)])) (fun t k => XS.iloadN X0.here hx rfl (hb hby d1_1) rfl  k) ?_
  by_cases hc2 : q2 < q1
  · refine own_Fin.step (S' := s₁.setTop (mkF m 9 #[.val (.int q1), .val (.int q2)] [])) (fun t k => XS.icmpYes X0.here hx rfl (pc0 := 2) (pc' := 9) rfl (hb hby d1_2) rfl (tlt hc2).2.2.1 (by decide) (by decide) k) ?_
    refine own_Fin.step (S' := s₁.setTop (mkF m 10 #[.val (.int q1), .val (.int q2)] [(.int q2)])) (fun t k => XS.iloadN X0.here hx rfl (hb hby d1_9) rfl  k) ?_
    have hq1 : Q1 Z q1 q2 h0 n0 (some (.int q2)) h0 _ := ⟨(by simp only [own_min, hc2, if_true, if_false]), N0, rfl⟩
    exact own_retI X0 hx hlk hrt (hb hby d1_10) e0 hq1 (by decide) (by decide)
  · refine own_Fin.step (S' := s₁.setTop (mkF m 5 #[.val (.int q1), .val (.int q2)] [])) (fun t k => XS.icmpNo X0.here hx rfl (hb hby d1_2) rfl (flt hc2).2.2.1 k) ?_
    refine own_Fin.step (S' := s₁.setTop (mkF m 6 #[.val (.int q1), .val (.int q2)] [(.int q1)])) (fun t k => XS.iloadN X0.here hx rfl (hb hby d1_5) rfl  k) ?_
    refine own_Fin.step (S' := s₁.setTop (mkF m 10 #[.val (.int q1), .val (.int q2)] [(.int q1)])) (fun t k => XS.goto X0.here hx rfl (pc0 := 6) (pc' := 10) rfl (hb hby d1_6) (by decide) (by decide) k) ?_
    have hq2 : Q1 Z q1 q2 h0 n0 (some (.int q1)) h0 _ := ⟨(by simp only [own_min, hc2, if_true, if_false]), N0, rfl⟩
    exact own_retI X0 hx hlk hrt (hb hby d1_10) e0 hq2 (by decide) (by decide)
theorem d2_0 : decode prog_121_method_1_code 0 = .ok (.aload_n 0, 1) := by decide +kernel
theorem d2_1 : decode prog_121_method_1_code 1 = .ok (.invokespecial 1, 3) := by decide +kernel
theorem d2_4 : decode prog_121_method_1_code 4 = .ok (.aload_n 0, 1) := by decide +kernel
theorem d2_5 : decode prog_121_method_1_code 5 = .ok (.bipush 16, 2) := by decide +kernel
theorem d2_7 : decode prog_121_method_1_code 7 = .ok (.anewarray 7, 3) := by decide +kernel
theorem d2_10 : decode prog_121_method_1_code 10 = .ok (.putfield 9, 3) := by decide +kernel
theorem d2_13 : decode prog_121_method_1_code 13 = .ok (.aload_n 0, 1) := by decide +kernel
theorem d2_14 : decode prog_121_method_1_code 14 = .ok (.bipush 16, 2) := by decide +kernel
theorem d2_16 : decode prog_121_method_1_code 16 = .ok (.newarray .int, 2) := by decide +kernel
theorem d2_18 : decode prog_121_method_1_code 18 = .ok (.putfield 15, 3) := by decide +kernel
theorem d2_21 : decode prog_121_method_1_code 21 = .ok (.aload_n 0, 1) := by decide +kernel
theorem d2_22 : decode prog_121_method_1_code 22 = .ok (.bipush 16, 2) := by decide +kernel
theorem d2_24 : decode prog_121_method_1_code 24 = .ok (.newarray .int, 2) := by decide +kernel
theorem d2_26 : decode prog_121_method_1_code 26 = .ok (.putfield 18, 3) := by decide +kernel
theorem d2_29 : decode prog_121_method_1_code 29 = .ok (.aload_n 0, 1) := by decide +kernel
theorem d2_30 : decode prog_121_method_1_code 30 = .ok (.bipush 16, 2) := by decide +kernel
theorem d2_32 : decode prog_121_method_1_code 32 = .ok (.anewarray 21, 3) := by decide +kernel
theorem d2_35 : decode prog_121_method_1_code 35 = .ok (.putfield 23, 3) := by decide +kernel
theorem d2_38 : decode prog_121_method_1_code 38 = .ok (.aload_n 0, 1) := by decide +kernel
theorem d2_39 : decode prog_121_method_1_code 39 = .ok (.bipush 16, 2) := by decide +kernel
theorem d2_41 : decode prog_121_method_1_code 41 = .ok (.anewarray 27, 3) := by decide +kernel
theorem d2_44 : decode prog_121_method_1_code 44 = .ok (.putfield 29, 3) := by decide +kernel
theorem d2_47 : decode prog_121_method_1_code 47 = .ok (.aload_n 0, 1) := by decide +kernel
theorem d2_48 : decode prog_121_method_1_code 48 = .ok (.bipush 16, 2) := by decide +kernel
theorem d2_50 : decode prog_121_method_1_code 50 = .ok (.newarray .int, 2) := by decide +kernel
theorem d2_52 : decode prog_121_method_1_code 52 = .ok (.putfield 33, 3) := by decide +kernel
theorem d2_55 : decode prog_121_method_1_code 55 = .ok (.aload_n 0, 1) := by decide +kernel
theorem d2_56 : decode prog_121_method_1_code 56 = .ok (.bipush 16, 2) := by decide +kernel
theorem d2_58 : decode prog_121_method_1_code 58 = .ok (.newarray .int, 2) := by decide +kernel
theorem d2_60 : decode prog_121_method_1_code 60 = .ok (.putfield 36, 3) := by decide +kernel
theorem d2_63 : decode prog_121_method_1_code 63 = .ok (.aload_n 0, 1) := by decide +kernel
theorem d2_64 : decode prog_121_method_1_code 64 = .ok (.bipush 16, 2) := by decide +kernel
theorem d2_66 : decode prog_121_method_1_code 66 = .ok (.newarray .int, 2) := by decide +kernel
theorem d2_68 : decode prog_121_method_1_code 68 = .ok (.putfield 39, 3) := by decide +kernel
theorem d2_71 : decode prog_121_method_1_code 71 = .ok (.aload_n 0, 1) := by decide +kernel
theorem d2_72 : decode prog_121_method_1_code 72 = .ok (.bipush 32, 2) := by decide +kernel
theorem d2_74 : decode prog_121_method_1_code 74 = .ok (.newarray .int, 2) := by decide +kernel
theorem d2_76 : decode prog_121_method_1_code 76 = .ok (.putfield 42, 3) := by decide +kernel
theorem d2_79 : decode prog_121_method_1_code 79 = .ok (.aload_n 0, 1) := by decide +kernel
theorem d2_80 : decode prog_121_method_1_code 80 = .ok (.bipush 32, 2) := by decide +kernel
theorem d2_82 : decode prog_121_method_1_code 82 = .ok (.newarray .int, 2) := by decide +kernel
theorem d2_84 : decode prog_121_method_1_code 84 = .ok (.putfield 45, 3) := by decide +kernel
theorem d2_87 : decode prog_121_method_1_code 87 = .ok (.aload_n 0, 1) := by decide +kernel
theorem d2_88 : decode prog_121_method_1_code 88 = .ok (.iconst 0, 1) := by decide +kernel
theorem d2_89 : decode prog_121_method_1_code 89 = .ok (.newarray .int, 2) := by decide +kernel
theorem d2_91 : decode prog_121_method_1_code 91 = .ok (.putfield 48, 3) := by decide +kernel
theorem d2_94 : decode prog_121_method_1_code 94 = .ok (.aload_n 0, 1) := by decide +kernel
theorem d2_95 : decode prog_121_method_1_code 95 = .ok (.iconst 4, 1) := by decide +kernel
theorem d2_96 : decode prog_121_method_1_code 96 = .ok (.newarray .int, 2) := by decide +kernel
theorem d2_98 : decode prog_121_method_1_code 98 = .ok (.putfield 51, 3) := by decide +kernel
theorem d2_101 : decode prog_121_method_1_code 101 = .ok (.aload_n 0, 1) := by decide +kernel
theorem d2_102 : decode prog_121_method_1_code 102 = .ok (.iconst 4, 1) := by decide +kernel
theorem d2_103 : decode prog_121_method_1_code 103 = .ok (.newarray .int, 2) := by decide +kernel
theorem d2_105 : decode prog_121_method_1_code 105 = .ok (.putfield 54, 3) := by decide +kernel
theorem d2_108 : decode prog_121_method_1_code 108 = .ok (.aload_n 0, 1) := by decide +kernel
theorem d2_109 : decode prog_121_method_1_code 109 = .ok (.iconst 4, 1) := by decide +kernel
theorem d2_110 : decode prog_121_method_1_code 110 = .ok (.newarray .int, 2) := by decide +kernel
theorem d2_112 : decode prog_121_method_1_code 112 = .ok (.putfield 57, 3) := by decide +kernel
theorem d2_115 : decode prog_121_method_1_code 115 = .ok (.aload_n 0, 1) := by decide +kernel
theorem d2_116 : decode prog_121_method_1_code 116 = .ok (.iconst (-1), 1) := by decide +kernel
theorem d2_117 : decode prog_121_method_1_code 117 = .ok (.putfield 60, 3) := by decide +kernel
theorem d2_120 : decode prog_121_method_1_code 120 = .ok (.return_, 1) := by decide +kernel
theorem pn_2 : plainName "com/example/methodical_checker/methodicalchecker/promela/Walk" = true := by first | (simp [plainName, overriddenIn]; done) | decide +kernel
theorem ef_2 (m : MethodId) (x0 : Addr) : entryFrame m #[(.ref x0)] 1 = mkF m 0 #[.val (.ref x0)] [] := by first | (simp [entryFrame, mkF, argsToLocals, Value.category]; done) | rfl
def Q2 (Z : State) (wk : Addr) (h0 : Heap) (n0 : Nat) (v : Option Value) (h : Heap) (L : List Loc) : Prop := v = none ∧ Fr n0 L ∧ h0.size ≤ h.size ∧ own_WK Z h n0 wk (0 : Int32) []
set_option maxRecDepth 65536 in
set_option maxHeartbeats 40000000 in
theorem rm2 (l : Launch) (Z : State) (a0 : Array Value) (hw : ∀ d ∈ tables_1, d.before a0 Z = true) (ws : List Jvm.Cond) (wk : Addr) (h0 : Heap) (n0 : Nat) (Z0 : n0 ≤ h0.size) (P0 : Exa Z h0 wk "com/example/methodical_checker/methodicalchecker/promela/Walk") (P1 : Fld Z h0 wk "com/example/methodical_checker/methodicalchecker/promela/Walk" "states" "[[I" .null) (P2 : Fld Z h0 wk "com/example/methodical_checker/methodicalchecker/promela/Walk" "wayFrom" "[I" .null) (P3 : Fld Z h0 wk "com/example/methodical_checker/methodicalchecker/promela/Walk" "wayProcess" "[I" .null) (P4 : Fld Z h0 wk "com/example/methodical_checker/methodicalchecker/promela/Walk" "wayStep" "[Lcom/example/methodical_checker/methodicalchecker/promela/Transition;" .null) (P5 : Fld Z h0 wk "com/example/methodical_checker/methodicalchecker/promela/Walk" "wayMeeting" "[Lcom/example/methodical_checker/methodicalchecker/promela/Stepper$Meeting;" .null) (P6 : Fld Z h0 wk "com/example/methodical_checker/methodicalchecker/promela/Walk" "wayStepsBefore" "[I" .null) (P7 : Fld Z h0 wk "com/example/methodical_checker/methodicalchecker/promela/Walk" "wayBefore" "[I" .null) (P8 : Fld Z h0 wk "com/example/methodical_checker/methodicalchecker/promela/Walk" "pending" "[I" .null) (P9 : Fld Z h0 wk "com/example/methodical_checker/methodicalchecker/promela/Walk" "passed" "[I" .null) (P10 : Fld Z h0 wk "com/example/methodical_checker/methodicalchecker/promela/Walk" "passedKeys" "[I" .null) (P11 : Fld Z h0 wk "com/example/methodical_checker/methodicalchecker/promela/Walk" "passedTable" "[I" .null) (P12 : Fld Z h0 wk "com/example/methodical_checker/methodicalchecker/promela/Walk" "moveStates" "[I" .null) (P13 : Fld Z h0 wk "com/example/methodical_checker/methodicalchecker/promela/Walk" "moveSteps" "[I" .null) (P14 : Fld Z h0 wk "com/example/methodical_checker/methodicalchecker/promela/Walk" "moveEnds" "[I" .null) (P15 : Fld Z h0 wk "com/example/methodical_checker/methodicalchecker/promela/Walk" "failed" "I" (.int (0 : Int32))) (P16 : Fld Z h0 wk "com/example/methodical_checker/methodicalchecker/promela/Walk" "wayCount" "I" (.int (0 : Int32))) (P17 : Fld Z h0 wk "com/example/methodical_checker/methodicalchecker/promela/Walk" "pendingCount" "I" (.int (0 : Int32))) (g_wk : n0 ≤ wk) :
    MetFree l (⟨"com/example/methodical_checker/methodicalchecker/promela/Walk", "<init>", "()V"⟩ : MethodName) (head1 (Jvm.Cond.code (⟨"com/example/methodical_checker/methodicalchecker/promela/Walk", "<init>", "()V"⟩ : MethodName) prog_121_method_1_code 1 none :: ws) ({ frames := 1, cells := 14, slots := 204, locals := 12 } : Room)) (fun a U => a = #[(.ref wk)] ∧ Z.Warmed39 U.vm ∧ U.heap = h0) (fun _ _ _ _ _ => True) (fun _ U o U' => ∃ v L, o = .returned v ∧ Q2 Z wk h0 n0 v U'.heap L ∧ FrameEnd U o U' L ({ frames := 1, cells := 14, slots := 204, locals := 12 } : Room).cells ({ frames := 1, cells := 14, slots := 204, locals := 12 } : Room).slots) := by
  refine MetFree.of_bodySF (plainFor_of_name pn_2) hisR ?_
  intro p e s m args below meth c s₁ Bd hml0 hP hK
  obtain ⟨rfl, hZ, hh⟩ := hP
  have hx := Bd.exec
  have hby := Bd.bytes
  have hml : c.maxLocals = 1 := hml0
  have hown : s.vm.findClass "com/example/methodical_checker/methodicalchecker/promela/Walk" = some m.cls := findClass_of_methodNamed Bd.named
  have hnm := (name_of_methodNamed Bd.named Bd.method).1
  have hlk : meth.locks = false := BodyLoose.notSynchronized Bd
  have hrt := Bd.returns
  have X0 : Stand p l e ({ frames := 1, cells := 14, slots := 204, locals := 12 } : Room) s m #[(.ref wk)] below meth c s₁ [] 0 0 := Stand.of_body Bd
  have e0 : s₁.heap = h0 := by rw [← hh, Bd.state]; rfl
  have N0 := Fr.nil n0
  show own_Fin p.tables e below (own_post (Q2 Z wk h0 n0) s ({ frames := 1, cells := 14, slots := 204, locals := 12 } : Room).cells ({ frames := 1, cells := 14, slots := 204, locals := 12 } : Room).slots) (s₁.setTop (entryFrame m #[(.ref wk)] 1))
  refine own_Fin.step (fun t k => castTop (ef_2 m wk) k) ?_
  have lt_P0 : @LT.lt Nat _ wk (Array.size h0) := P0.lt
  have lt_P1 : @LT.lt Nat _ wk (Array.size h0) := P1.lt
  have lt_P2 : @LT.lt Nat _ wk (Array.size h0) := P2.lt
  have lt_P3 : @LT.lt Nat _ wk (Array.size h0) := P3.lt
  have lt_P4 : @LT.lt Nat _ wk (Array.size h0) := P4.lt
  have lt_P5 : @LT.lt Nat _ wk (Array.size h0) := P5.lt
  have lt_P6 : @LT.lt Nat _ wk (Array.size h0) := P6.lt
  have lt_P7 : @LT.lt Nat _ wk (Array.size h0) := P7.lt
  have lt_P8 : @LT.lt Nat _ wk (Array.size h0) := P8.lt
  have lt_P9 : @LT.lt Nat _ wk (Array.size h0) := P9.lt
  have lt_P10 : @LT.lt Nat _ wk (Array.size h0) := P10.lt
  have lt_P11 : @LT.lt Nat _ wk (Array.size h0) := P11.lt
  have lt_P12 : @LT.lt Nat _ wk (Array.size h0) := P12.lt
  have lt_P13 : @LT.lt Nat _ wk (Array.size h0) := P13.lt
  have lt_P14 : @LT.lt Nat _ wk (Array.size h0) := P14.lt
  have lt_P15 : @LT.lt Nat _ wk (Array.size h0) := P15.lt
  have lt_P16 : @LT.lt Nat _ wk (Array.size h0) := P16.lt
  have lt_P17 : @LT.lt Nat _ wk (Array.size h0) := P17.lt
  refine own_Fin.step (S' := s₁.setTop (mkF m 1 #[.val (.ref wk)] [(.ref wk)])) (fun t k => XS.aloadN X0.here hx rfl (hb hby d2_0) rfl rfl  k) ?_
  obtain ⟨T3, X3, e3, st3⟩ := initO X0 hx hZ hown (hw _ (List.mem_of_getElem? (i := 11) rfl)) (hw _ (List.mem_of_getElem? (i := 12) rfl)) (hw _ (List.mem_of_getElem? (i := 13) rfl)) e0 (g := (mkF m 1 #[.val (.ref wk)] [(.ref wk)])) rfl (by rw [hml]; rfl) rfl (hb hby d2_1) (by decide) (W := 0) (by show 2 * 0 + _ ≤ _; exact Nat.le_of_eq rfl) (by decide)
  refine own_Fin.step (S' := T3.setTop (mkF m 4 #[.val (.ref wk)] [])) st3 ?_
  refine own_Fin.step (S' := T3.setTop (mkF m 5 #[.val (.ref wk)] [(.ref wk)])) (fun t k => XS.aloadN X3.here hx rfl (hb hby d2_4) rfl rfl  k) ?_
  refine own_Fin.step (S' := T3.setTop (mkF m 7 #[.val (.ref wk)] [(.int (16 : Int32)), (.ref wk)])) (fun t k => XS.bipush X3.here hx rfl (hb hby d2_5) k) ?_
  obtain ⟨T4, h4, k4, X4, e4, E4, A4, B4, O4, st4⟩ := newRA X3 hx hZ (ty := .int) hown rfl (hw _ (List.mem_of_getElem? (i := 14) rfl)) (hw _ (List.mem_of_getElem? (i := 15) rfl)) e3 (g := (mkF m 7 #[.val (.ref wk)] [(.int (16 : Int32)), (.ref wk)])) rfl (hb hby d2_7) rfl (by decide) (cap := 16) (by decide) (by decide) (by decide) (by decide) (ad := "[[I") rfl
  obtain ⟨b4, g4⟩ : ∃ z, z = h0.size := ⟨_, rfl⟩
  rw [← g4] at A4 B4 st4
  have ll4 : @LT.lt Nat _ b4 (Array.size h4) := A4.lt
  have z4 := E4.1
  have V4 : Arv Z h4 b4 k4 (.array .int) (16 : Int32) [.null, .null, .null, .null, .null, .null, .null, .null, .null, .null, .null, .null, .null, .null, .null, .null] .null := (Arv.new A4 (by decide)).pad (pad_rep [] .null 16)
  refine own_Fin.step (S' := T4.setTop (mkF m 10 #[.val (.ref wk)] [(.ref b4), (.ref wk)])) st4 ?_
  have f5 : Exa Z h4 wk "com/example/methodical_checker/methodicalchecker/promela/Walk" := (Exa.ext E4 P0)
  have f6 : Fld Z h4 wk "com/example/methodical_checker/methodicalchecker/promela/Walk" "states" "[[I" .null := (Fld.ext E4 P1)
  obtain ⟨T7, h7, X7, e7, W7, st7⟩ := putF X4 hx hZ hown (host := "") (Or.inl (hw _ (List.mem_of_getElem? (i := 16) rfl))) Via.refl e4 f6 f5 (Or.inl (hw _ (List.mem_of_getElem? (i := 17) rfl))) (hw _ (List.mem_of_getElem? (i := 6) rfl)) (ty := (.array (.array .int))) (by decide) rfl rfl (g := (mkF m 10 #[.val (.ref wk)] [(.ref b4), (.ref wk)])) rfl rfl (hb hby d2_10)
  have F7 := Fld.same W7 f6
  have z7 := W7.size
  have N7 := Fr.snoc X7 N0 (by omega)
  refine own_Fin.step (S' := T7.setTop (mkF m 13 #[.val (.ref wk)] [])) st7 ?_
  refine own_Fin.step (S' := T7.setTop (mkF m 14 #[.val (.ref wk)] [(.ref wk)])) (fun t k => XS.aloadN X7.here hx rfl (hb hby d2_13) rfl rfl  k) ?_
  refine own_Fin.step (S' := T7.setTop (mkF m 16 #[.val (.ref wk)] [(.int (16 : Int32)), (.ref wk)])) (fun t k => XS.bipush X7.here hx rfl (hb hby d2_14) k) ?_
  obtain ⟨T8, h8, k8, X8, e8, E8, A8, B8, st8⟩ := newPE X7 hx hZ (hw _ (List.mem_of_getElem? (i := 18) rfl)) e7 (g := (mkF m 16 #[.val (.ref wk)] [(.int (16 : Int32)), (.ref wk)])) rfl (hb hby d2_16) rfl (by decide) (cap := 16) (by decide) (by decide) (by decide) (by decide) (ad := "[I") rfl
  obtain ⟨b8, g8⟩ : ∃ z, z = h7.size := ⟨_, rfl⟩
  rw [← g8] at A8 B8 st8
  have ll8 : @LT.lt Nat _ b8 (Array.size h8) := A8.lt
  have z8 := E8.1
  have V8 : Arv Z h8 b8 k8 .int (16 : Int32) [(.int (0 : Int32)), (.int (0 : Int32)), (.int (0 : Int32)), (.int (0 : Int32)), (.int (0 : Int32)), (.int (0 : Int32)), (.int (0 : Int32)), (.int (0 : Int32)), (.int (0 : Int32)), (.int (0 : Int32)), (.int (0 : Int32)), (.int (0 : Int32)), (.int (0 : Int32)), (.int (0 : Int32)), (.int (0 : Int32)), (.int (0 : Int32))] (.int (0 : Int32)) := (Arv.new A8 (by decide)).pad (pad_rep [] (.int (0 : Int32)) 16)
  refine own_Fin.step (S' := T8.setTop (mkF m 18 #[.val (.ref wk)] [(.ref b8), (.ref wk)])) st8 ?_
  have f9 : Exa Z h8 wk "com/example/methodical_checker/methodicalchecker/promela/Walk" := (Exa.ext E8 (Exa.wr W7 f5))
  have f10 : Fld Z h8 wk "com/example/methodical_checker/methodicalchecker/promela/Walk" "wayFrom" "[I" .null := (Fld.ext E8 (Fld.other W7 (Fld.ext E4 P2) (Or.inr (slot_ne (Or.inl (hw _ (List.mem_of_getElem? (i := 20) rfl))) (Or.inl (hw _ (List.mem_of_getElem? (i := 17) rfl))) (by decide) (t := (.array .int)) (t' := (.array (.array .int))) (by decide) (by decide)))))
  obtain ⟨T11, h11, X11, e11, W11, st11⟩ := putF X8 hx hZ hown (host := "") (Or.inl (hw _ (List.mem_of_getElem? (i := 19) rfl))) Via.refl e8 f10 f9 (Or.inl (hw _ (List.mem_of_getElem? (i := 20) rfl))) (hw _ (List.mem_of_getElem? (i := 6) rfl)) (ty := (.array .int)) (by decide) rfl rfl (g := (mkF m 18 #[.val (.ref wk)] [(.ref b8), (.ref wk)])) rfl rfl (hb hby d2_18)
  have F11 := Fld.same W11 f10
  have z11 := W11.size
  have N11 := Fr.snoc X11 N7 (by omega)
  refine own_Fin.step (S' := T11.setTop (mkF m 21 #[.val (.ref wk)] [])) st11 ?_
  refine own_Fin.step (S' := T11.setTop (mkF m 22 #[.val (.ref wk)] [(.ref wk)])) (fun t k => XS.aloadN X11.here hx rfl (hb hby d2_21) rfl rfl  k) ?_
  refine own_Fin.step (S' := T11.setTop (mkF m 24 #[.val (.ref wk)] [(.int (16 : Int32)), (.ref wk)])) (fun t k => XS.bipush X11.here hx rfl (hb hby d2_22) k) ?_
  obtain ⟨T12, h12, k12, X12, e12, E12, A12, B12, st12⟩ := newPE X11 hx hZ (hw _ (List.mem_of_getElem? (i := 18) rfl)) e11 (g := (mkF m 24 #[.val (.ref wk)] [(.int (16 : Int32)), (.ref wk)])) rfl (hb hby d2_24) rfl (by decide) (cap := 16) (by decide) (by decide) (by decide) (by decide) (ad := "[I") rfl
  obtain ⟨b12, g12⟩ : ∃ z, z = h11.size := ⟨_, rfl⟩
  rw [← g12] at A12 B12 st12
  have ll12 : @LT.lt Nat _ b12 (Array.size h12) := A12.lt
  have z12 := E12.1
  have V12 : Arv Z h12 b12 k12 .int (16 : Int32) [(.int (0 : Int32)), (.int (0 : Int32)), (.int (0 : Int32)), (.int (0 : Int32)), (.int (0 : Int32)), (.int (0 : Int32)), (.int (0 : Int32)), (.int (0 : Int32)), (.int (0 : Int32)), (.int (0 : Int32)), (.int (0 : Int32)), (.int (0 : Int32)), (.int (0 : Int32)), (.int (0 : Int32)), (.int (0 : Int32)), (.int (0 : Int32))] (.int (0 : Int32)) := (Arv.new A12 (by decide)).pad (pad_rep [] (.int (0 : Int32)) 16)
  refine own_Fin.step (S' := T12.setTop (mkF m 26 #[.val (.ref wk)] [(.ref b12), (.ref wk)])) st12 ?_
  have f13 : Exa Z h12 wk "com/example/methodical_checker/methodicalchecker/promela/Walk" := (Exa.ext E12 (Exa.wr W11 f9))
  have f14 : Fld Z h12 wk "com/example/methodical_checker/methodicalchecker/promela/Walk" "wayProcess" "[I" .null := (Fld.ext E12 (Fld.other W11 (Fld.ext E8 (Fld.other W7 (Fld.ext E4 P3) (Or.inr (slot_ne (Or.inl (hw _ (List.mem_of_getElem? (i := 22) rfl))) (Or.inl (hw _ (List.mem_of_getElem? (i := 17) rfl))) (by decide) (t := (.array .int)) (t' := (.array (.array .int))) (by decide) (by decide))))) (Or.inr (slot_ne (Or.inl (hw _ (List.mem_of_getElem? (i := 22) rfl))) (Or.inl (hw _ (List.mem_of_getElem? (i := 20) rfl))) (by decide) (t := (.array .int)) (t' := (.array .int)) (by decide) (by decide)))))
  obtain ⟨T15, h15, X15, e15, W15, st15⟩ := putF X12 hx hZ hown (host := "") (Or.inl (hw _ (List.mem_of_getElem? (i := 21) rfl))) Via.refl e12 f14 f13 (Or.inl (hw _ (List.mem_of_getElem? (i := 22) rfl))) (hw _ (List.mem_of_getElem? (i := 6) rfl)) (ty := (.array .int)) (by decide) rfl rfl (g := (mkF m 26 #[.val (.ref wk)] [(.ref b12), (.ref wk)])) rfl rfl (hb hby d2_26)
  have F15 := Fld.same W15 f14
  have z15 := W15.size
  have N15 := Fr.snoc X15 N11 (by omega)
  refine own_Fin.step (S' := T15.setTop (mkF m 29 #[.val (.ref wk)] [])) st15 ?_
  refine own_Fin.step (S' := T15.setTop (mkF m 30 #[.val (.ref wk)] [(.ref wk)])) (fun t k => XS.aloadN X15.here hx rfl (hb hby d2_29) rfl rfl  k) ?_
  refine own_Fin.step (S' := T15.setTop (mkF m 32 #[.val (.ref wk)] [(.int (16 : Int32)), (.ref wk)])) (fun t k => XS.bipush X15.here hx rfl (hb hby d2_30) k) ?_
  obtain ⟨T16, h16, k16, X16, e16, E16, A16, B16, O16, st16⟩ := newRE X15 hx hZ hown (hw _ (List.mem_of_getElem? (i := 23) rfl)) (hw _ (List.mem_of_getElem? (i := 24) rfl)) e15 (g := (mkF m 32 #[.val (.ref wk)] [(.int (16 : Int32)), (.ref wk)])) rfl (hb hby d2_32) rfl (by decide) (cap := 16) (by decide) (by decide) (by decide) (by decide) (ad := "[Lcom/example/methodical_checker/methodicalchecker/promela/Transition;") rfl
  obtain ⟨b16, g16⟩ : ∃ z, z = h15.size := ⟨_, rfl⟩
  rw [← g16] at A16 B16 st16
  have ll16 : @LT.lt Nat _ b16 (Array.size h16) := A16.lt
  have z16 := E16.1
  have V16 : Arv Z h16 b16 k16 (.object "com/example/methodical_checker/methodicalchecker/promela/Transition") (16 : Int32) [.null, .null, .null, .null, .null, .null, .null, .null, .null, .null, .null, .null, .null, .null, .null, .null] .null := (Arv.new A16 (by decide)).pad (pad_rep [] .null 16)
  refine own_Fin.step (S' := T16.setTop (mkF m 35 #[.val (.ref wk)] [(.ref b16), (.ref wk)])) st16 ?_
  have f17 : Exa Z h16 wk "com/example/methodical_checker/methodicalchecker/promela/Walk" := (Exa.ext E16 (Exa.wr W15 f13))
  have f18 : Fld Z h16 wk "com/example/methodical_checker/methodicalchecker/promela/Walk" "wayStep" "[Lcom/example/methodical_checker/methodicalchecker/promela/Transition;" .null := (Fld.ext E16 (Fld.other W15 (Fld.ext E12 (Fld.other W11 (Fld.ext E8 (Fld.other W7 (Fld.ext E4 P4) (Or.inr (slot_ne (Or.inl (hw _ (List.mem_of_getElem? (i := 26) rfl))) (Or.inl (hw _ (List.mem_of_getElem? (i := 17) rfl))) (by decide) (t := (.array (.object "com/example/methodical_checker/methodicalchecker/promela/Transition"))) (t' := (.array (.array .int))) (by decide) (by decide))))) (Or.inr (slot_ne (Or.inl (hw _ (List.mem_of_getElem? (i := 26) rfl))) (Or.inl (hw _ (List.mem_of_getElem? (i := 20) rfl))) (by decide) (t := (.array (.object "com/example/methodical_checker/methodicalchecker/promela/Transition"))) (t' := (.array .int)) (by decide) (by decide))))) (Or.inr (slot_ne (Or.inl (hw _ (List.mem_of_getElem? (i := 26) rfl))) (Or.inl (hw _ (List.mem_of_getElem? (i := 22) rfl))) (by decide) (t := (.array (.object "com/example/methodical_checker/methodicalchecker/promela/Transition"))) (t' := (.array .int)) (by decide) (by decide)))))
  obtain ⟨T19, h19, X19, e19, W19, st19⟩ := putF X16 hx hZ hown (host := "") (Or.inl (hw _ (List.mem_of_getElem? (i := 25) rfl))) Via.refl e16 f18 f17 (Or.inl (hw _ (List.mem_of_getElem? (i := 26) rfl))) (hw _ (List.mem_of_getElem? (i := 6) rfl)) (ty := (.array (.object "com/example/methodical_checker/methodicalchecker/promela/Transition"))) (by decide) rfl rfl (g := (mkF m 35 #[.val (.ref wk)] [(.ref b16), (.ref wk)])) rfl rfl (hb hby d2_35)
  have F19 := Fld.same W19 f18
  have z19 := W19.size
  have N19 := Fr.snoc X19 N15 (by omega)
  refine own_Fin.step (S' := T19.setTop (mkF m 38 #[.val (.ref wk)] [])) st19 ?_
  refine own_Fin.step (S' := T19.setTop (mkF m 39 #[.val (.ref wk)] [(.ref wk)])) (fun t k => XS.aloadN X19.here hx rfl (hb hby d2_38) rfl rfl  k) ?_
  refine own_Fin.step (S' := T19.setTop (mkF m 41 #[.val (.ref wk)] [(.int (16 : Int32)), (.ref wk)])) (fun t k => XS.bipush X19.here hx rfl (hb hby d2_39) k) ?_
  obtain ⟨T20, h20, k20, X20, e20, E20, A20, B20, O20, st20⟩ := newRE X19 hx hZ hown (hw _ (List.mem_of_getElem? (i := 27) rfl)) (hw _ (List.mem_of_getElem? (i := 28) rfl)) e19 (g := (mkF m 41 #[.val (.ref wk)] [(.int (16 : Int32)), (.ref wk)])) rfl (hb hby d2_41) rfl (by decide) (cap := 16) (by decide) (by decide) (by decide) (by decide) (ad := "[Lcom/example/methodical_checker/methodicalchecker/promela/Stepper$Meeting;") rfl
  obtain ⟨b20, g20⟩ : ∃ z, z = h19.size := ⟨_, rfl⟩
  rw [← g20] at A20 B20 st20
  have ll20 : @LT.lt Nat _ b20 (Array.size h20) := A20.lt
  have z20 := E20.1
  have V20 : Arv Z h20 b20 k20 (.object "com/example/methodical_checker/methodicalchecker/promela/Stepper$Meeting") (16 : Int32) [.null, .null, .null, .null, .null, .null, .null, .null, .null, .null, .null, .null, .null, .null, .null, .null] .null := (Arv.new A20 (by decide)).pad (pad_rep [] .null 16)
  refine own_Fin.step (S' := T20.setTop (mkF m 44 #[.val (.ref wk)] [(.ref b20), (.ref wk)])) st20 ?_
  have f21 : Exa Z h20 wk "com/example/methodical_checker/methodicalchecker/promela/Walk" := (Exa.ext E20 (Exa.wr W19 f17))
  have f22 : Fld Z h20 wk "com/example/methodical_checker/methodicalchecker/promela/Walk" "wayMeeting" "[Lcom/example/methodical_checker/methodicalchecker/promela/Stepper$Meeting;" .null := (Fld.ext E20 (Fld.other W19 (Fld.ext E16 (Fld.other W15 (Fld.ext E12 (Fld.other W11 (Fld.ext E8 (Fld.other W7 (Fld.ext E4 P5) (Or.inr (slot_ne (Or.inl (hw _ (List.mem_of_getElem? (i := 30) rfl))) (Or.inl (hw _ (List.mem_of_getElem? (i := 17) rfl))) (by decide) (t := (.array (.object "com/example/methodical_checker/methodicalchecker/promela/Stepper$Meeting"))) (t' := (.array (.array .int))) (by decide) (by decide))))) (Or.inr (slot_ne (Or.inl (hw _ (List.mem_of_getElem? (i := 30) rfl))) (Or.inl (hw _ (List.mem_of_getElem? (i := 20) rfl))) (by decide) (t := (.array (.object "com/example/methodical_checker/methodicalchecker/promela/Stepper$Meeting"))) (t' := (.array .int)) (by decide) (by decide))))) (Or.inr (slot_ne (Or.inl (hw _ (List.mem_of_getElem? (i := 30) rfl))) (Or.inl (hw _ (List.mem_of_getElem? (i := 22) rfl))) (by decide) (t := (.array (.object "com/example/methodical_checker/methodicalchecker/promela/Stepper$Meeting"))) (t' := (.array .int)) (by decide) (by decide))))) (Or.inr (slot_ne (Or.inl (hw _ (List.mem_of_getElem? (i := 30) rfl))) (Or.inl (hw _ (List.mem_of_getElem? (i := 26) rfl))) (by decide) (t := (.array (.object "com/example/methodical_checker/methodicalchecker/promela/Stepper$Meeting"))) (t' := (.array (.object "com/example/methodical_checker/methodicalchecker/promela/Transition"))) (by decide) (by decide)))))
  obtain ⟨T23, h23, X23, e23, W23, st23⟩ := putF X20 hx hZ hown (host := "") (Or.inl (hw _ (List.mem_of_getElem? (i := 29) rfl))) Via.refl e20 f22 f21 (Or.inl (hw _ (List.mem_of_getElem? (i := 30) rfl))) (hw _ (List.mem_of_getElem? (i := 6) rfl)) (ty := (.array (.object "com/example/methodical_checker/methodicalchecker/promela/Stepper$Meeting"))) (by decide) rfl rfl (g := (mkF m 44 #[.val (.ref wk)] [(.ref b20), (.ref wk)])) rfl rfl (hb hby d2_44)
  have F23 := Fld.same W23 f22
  have z23 := W23.size
  have N23 := Fr.snoc X23 N19 (by omega)
  refine own_Fin.step (S' := T23.setTop (mkF m 47 #[.val (.ref wk)] [])) st23 ?_
  refine own_Fin.step (S' := T23.setTop (mkF m 48 #[.val (.ref wk)] [(.ref wk)])) (fun t k => XS.aloadN X23.here hx rfl (hb hby d2_47) rfl rfl  k) ?_
  refine own_Fin.step (S' := T23.setTop (mkF m 50 #[.val (.ref wk)] [(.int (16 : Int32)), (.ref wk)])) (fun t k => XS.bipush X23.here hx rfl (hb hby d2_48) k) ?_
  obtain ⟨T24, h24, k24, X24, e24, E24, A24, B24, st24⟩ := newPE X23 hx hZ (hw _ (List.mem_of_getElem? (i := 18) rfl)) e23 (g := (mkF m 50 #[.val (.ref wk)] [(.int (16 : Int32)), (.ref wk)])) rfl (hb hby d2_50) rfl (by decide) (cap := 16) (by decide) (by decide) (by decide) (by decide) (ad := "[I") rfl
  obtain ⟨b24, g24⟩ : ∃ z, z = h23.size := ⟨_, rfl⟩
  rw [← g24] at A24 B24 st24
  have ll24 : @LT.lt Nat _ b24 (Array.size h24) := A24.lt
  have z24 := E24.1
  have V24 : Arv Z h24 b24 k24 .int (16 : Int32) [(.int (0 : Int32)), (.int (0 : Int32)), (.int (0 : Int32)), (.int (0 : Int32)), (.int (0 : Int32)), (.int (0 : Int32)), (.int (0 : Int32)), (.int (0 : Int32)), (.int (0 : Int32)), (.int (0 : Int32)), (.int (0 : Int32)), (.int (0 : Int32)), (.int (0 : Int32)), (.int (0 : Int32)), (.int (0 : Int32)), (.int (0 : Int32))] (.int (0 : Int32)) := (Arv.new A24 (by decide)).pad (pad_rep [] (.int (0 : Int32)) 16)
  refine own_Fin.step (S' := T24.setTop (mkF m 52 #[.val (.ref wk)] [(.ref b24), (.ref wk)])) st24 ?_
  have f25 : Exa Z h24 wk "com/example/methodical_checker/methodicalchecker/promela/Walk" := (Exa.ext E24 (Exa.wr W23 f21))
  have f26 : Fld Z h24 wk "com/example/methodical_checker/methodicalchecker/promela/Walk" "wayStepsBefore" "[I" .null := (Fld.ext E24 (Fld.other W23 (Fld.ext E20 (Fld.other W19 (Fld.ext E16 (Fld.other W15 (Fld.ext E12 (Fld.other W11 (Fld.ext E8 (Fld.other W7 (Fld.ext E4 P6) (Or.inr (slot_ne (Or.inl (hw _ (List.mem_of_getElem? (i := 32) rfl))) (Or.inl (hw _ (List.mem_of_getElem? (i := 17) rfl))) (by decide) (t := (.array .int)) (t' := (.array (.array .int))) (by decide) (by decide))))) (Or.inr (slot_ne (Or.inl (hw _ (List.mem_of_getElem? (i := 32) rfl))) (Or.inl (hw _ (List.mem_of_getElem? (i := 20) rfl))) (by decide) (t := (.array .int)) (t' := (.array .int)) (by decide) (by decide))))) (Or.inr (slot_ne (Or.inl (hw _ (List.mem_of_getElem? (i := 32) rfl))) (Or.inl (hw _ (List.mem_of_getElem? (i := 22) rfl))) (by decide) (t := (.array .int)) (t' := (.array .int)) (by decide) (by decide))))) (Or.inr (slot_ne (Or.inl (hw _ (List.mem_of_getElem? (i := 32) rfl))) (Or.inl (hw _ (List.mem_of_getElem? (i := 26) rfl))) (by decide) (t := (.array .int)) (t' := (.array (.object "com/example/methodical_checker/methodicalchecker/promela/Transition"))) (by decide) (by decide))))) (Or.inr (slot_ne (Or.inl (hw _ (List.mem_of_getElem? (i := 32) rfl))) (Or.inl (hw _ (List.mem_of_getElem? (i := 30) rfl))) (by decide) (t := (.array .int)) (t' := (.array (.object "com/example/methodical_checker/methodicalchecker/promela/Stepper$Meeting"))) (by decide) (by decide)))))
  obtain ⟨T27, h27, X27, e27, W27, st27⟩ := putF X24 hx hZ hown (host := "") (Or.inl (hw _ (List.mem_of_getElem? (i := 31) rfl))) Via.refl e24 f26 f25 (Or.inl (hw _ (List.mem_of_getElem? (i := 32) rfl))) (hw _ (List.mem_of_getElem? (i := 6) rfl)) (ty := (.array .int)) (by decide) rfl rfl (g := (mkF m 52 #[.val (.ref wk)] [(.ref b24), (.ref wk)])) rfl rfl (hb hby d2_52)
  have F27 := Fld.same W27 f26
  have z27 := W27.size
  have N27 := Fr.snoc X27 N23 (by omega)
  refine own_Fin.step (S' := T27.setTop (mkF m 55 #[.val (.ref wk)] [])) st27 ?_
  refine own_Fin.step (S' := T27.setTop (mkF m 56 #[.val (.ref wk)] [(.ref wk)])) (fun t k => XS.aloadN X27.here hx rfl (hb hby d2_55) rfl rfl  k) ?_
  refine own_Fin.step (S' := T27.setTop (mkF m 58 #[.val (.ref wk)] [(.int (16 : Int32)), (.ref wk)])) (fun t k => XS.bipush X27.here hx rfl (hb hby d2_56) k) ?_
  obtain ⟨T28, h28, k28, X28, e28, E28, A28, B28, st28⟩ := newPE X27 hx hZ (hw _ (List.mem_of_getElem? (i := 18) rfl)) e27 (g := (mkF m 58 #[.val (.ref wk)] [(.int (16 : Int32)), (.ref wk)])) rfl (hb hby d2_58) rfl (by decide) (cap := 16) (by decide) (by decide) (by decide) (by decide) (ad := "[I") rfl
  obtain ⟨b28, g28⟩ : ∃ z, z = h27.size := ⟨_, rfl⟩
  rw [← g28] at A28 B28 st28
  have ll28 : @LT.lt Nat _ b28 (Array.size h28) := A28.lt
  have z28 := E28.1
  have V28 : Arv Z h28 b28 k28 .int (16 : Int32) [(.int (0 : Int32)), (.int (0 : Int32)), (.int (0 : Int32)), (.int (0 : Int32)), (.int (0 : Int32)), (.int (0 : Int32)), (.int (0 : Int32)), (.int (0 : Int32)), (.int (0 : Int32)), (.int (0 : Int32)), (.int (0 : Int32)), (.int (0 : Int32)), (.int (0 : Int32)), (.int (0 : Int32)), (.int (0 : Int32)), (.int (0 : Int32))] (.int (0 : Int32)) := (Arv.new A28 (by decide)).pad (pad_rep [] (.int (0 : Int32)) 16)
  refine own_Fin.step (S' := T28.setTop (mkF m 60 #[.val (.ref wk)] [(.ref b28), (.ref wk)])) st28 ?_
  have f29 : Exa Z h28 wk "com/example/methodical_checker/methodicalchecker/promela/Walk" := (Exa.ext E28 (Exa.wr W27 f25))
  have f30 : Fld Z h28 wk "com/example/methodical_checker/methodicalchecker/promela/Walk" "wayBefore" "[I" .null := (Fld.ext E28 (Fld.other W27 (Fld.ext E24 (Fld.other W23 (Fld.ext E20 (Fld.other W19 (Fld.ext E16 (Fld.other W15 (Fld.ext E12 (Fld.other W11 (Fld.ext E8 (Fld.other W7 (Fld.ext E4 P7) (Or.inr (slot_ne (Or.inl (hw _ (List.mem_of_getElem? (i := 34) rfl))) (Or.inl (hw _ (List.mem_of_getElem? (i := 17) rfl))) (by decide) (t := (.array .int)) (t' := (.array (.array .int))) (by decide) (by decide))))) (Or.inr (slot_ne (Or.inl (hw _ (List.mem_of_getElem? (i := 34) rfl))) (Or.inl (hw _ (List.mem_of_getElem? (i := 20) rfl))) (by decide) (t := (.array .int)) (t' := (.array .int)) (by decide) (by decide))))) (Or.inr (slot_ne (Or.inl (hw _ (List.mem_of_getElem? (i := 34) rfl))) (Or.inl (hw _ (List.mem_of_getElem? (i := 22) rfl))) (by decide) (t := (.array .int)) (t' := (.array .int)) (by decide) (by decide))))) (Or.inr (slot_ne (Or.inl (hw _ (List.mem_of_getElem? (i := 34) rfl))) (Or.inl (hw _ (List.mem_of_getElem? (i := 26) rfl))) (by decide) (t := (.array .int)) (t' := (.array (.object "com/example/methodical_checker/methodicalchecker/promela/Transition"))) (by decide) (by decide))))) (Or.inr (slot_ne (Or.inl (hw _ (List.mem_of_getElem? (i := 34) rfl))) (Or.inl (hw _ (List.mem_of_getElem? (i := 30) rfl))) (by decide) (t := (.array .int)) (t' := (.array (.object "com/example/methodical_checker/methodicalchecker/promela/Stepper$Meeting"))) (by decide) (by decide))))) (Or.inr (slot_ne (Or.inl (hw _ (List.mem_of_getElem? (i := 34) rfl))) (Or.inl (hw _ (List.mem_of_getElem? (i := 32) rfl))) (by decide) (t := (.array .int)) (t' := (.array .int)) (by decide) (by decide)))))
  obtain ⟨T31, h31, X31, e31, W31, st31⟩ := putF X28 hx hZ hown (host := "") (Or.inl (hw _ (List.mem_of_getElem? (i := 33) rfl))) Via.refl e28 f30 f29 (Or.inl (hw _ (List.mem_of_getElem? (i := 34) rfl))) (hw _ (List.mem_of_getElem? (i := 6) rfl)) (ty := (.array .int)) (by decide) rfl rfl (g := (mkF m 60 #[.val (.ref wk)] [(.ref b28), (.ref wk)])) rfl rfl (hb hby d2_60)
  have F31 := Fld.same W31 f30
  have z31 := W31.size
  have N31 := Fr.snoc X31 N27 (by omega)
  refine own_Fin.step (S' := T31.setTop (mkF m 63 #[.val (.ref wk)] [])) st31 ?_
  refine own_Fin.step (S' := T31.setTop (mkF m 64 #[.val (.ref wk)] [(.ref wk)])) (fun t k => XS.aloadN X31.here hx rfl (hb hby d2_63) rfl rfl  k) ?_
  refine own_Fin.step (S' := T31.setTop (mkF m 66 #[.val (.ref wk)] [(.int (16 : Int32)), (.ref wk)])) (fun t k => XS.bipush X31.here hx rfl (hb hby d2_64) k) ?_
  obtain ⟨T32, h32, k32, X32, e32, E32, A32, B32, st32⟩ := newPE X31 hx hZ (hw _ (List.mem_of_getElem? (i := 18) rfl)) e31 (g := (mkF m 66 #[.val (.ref wk)] [(.int (16 : Int32)), (.ref wk)])) rfl (hb hby d2_66) rfl (by decide) (cap := 16) (by decide) (by decide) (by decide) (by decide) (ad := "[I") rfl
  obtain ⟨b32, g32⟩ : ∃ z, z = h31.size := ⟨_, rfl⟩
  rw [← g32] at A32 B32 st32
  have ll32 : @LT.lt Nat _ b32 (Array.size h32) := A32.lt
  have z32 := E32.1
  have V32 : Arv Z h32 b32 k32 .int (16 : Int32) [(.int (0 : Int32)), (.int (0 : Int32)), (.int (0 : Int32)), (.int (0 : Int32)), (.int (0 : Int32)), (.int (0 : Int32)), (.int (0 : Int32)), (.int (0 : Int32)), (.int (0 : Int32)), (.int (0 : Int32)), (.int (0 : Int32)), (.int (0 : Int32)), (.int (0 : Int32)), (.int (0 : Int32)), (.int (0 : Int32)), (.int (0 : Int32))] (.int (0 : Int32)) := (Arv.new A32 (by decide)).pad (pad_rep [] (.int (0 : Int32)) 16)
  refine own_Fin.step (S' := T32.setTop (mkF m 68 #[.val (.ref wk)] [(.ref b32), (.ref wk)])) st32 ?_
  have f33 : Exa Z h32 wk "com/example/methodical_checker/methodicalchecker/promela/Walk" := (Exa.ext E32 (Exa.wr W31 f29))
  have f34 : Fld Z h32 wk "com/example/methodical_checker/methodicalchecker/promela/Walk" "pending" "[I" .null := (Fld.ext E32 (Fld.other W31 (Fld.ext E28 (Fld.other W27 (Fld.ext E24 (Fld.other W23 (Fld.ext E20 (Fld.other W19 (Fld.ext E16 (Fld.other W15 (Fld.ext E12 (Fld.other W11 (Fld.ext E8 (Fld.other W7 (Fld.ext E4 P8) (Or.inr (slot_ne (Or.inl (hw _ (List.mem_of_getElem? (i := 36) rfl))) (Or.inl (hw _ (List.mem_of_getElem? (i := 17) rfl))) (by decide) (t := (.array .int)) (t' := (.array (.array .int))) (by decide) (by decide))))) (Or.inr (slot_ne (Or.inl (hw _ (List.mem_of_getElem? (i := 36) rfl))) (Or.inl (hw _ (List.mem_of_getElem? (i := 20) rfl))) (by decide) (t := (.array .int)) (t' := (.array .int)) (by decide) (by decide))))) (Or.inr (slot_ne (Or.inl (hw _ (List.mem_of_getElem? (i := 36) rfl))) (Or.inl (hw _ (List.mem_of_getElem? (i := 22) rfl))) (by decide) (t := (.array .int)) (t' := (.array .int)) (by decide) (by decide))))) (Or.inr (slot_ne (Or.inl (hw _ (List.mem_of_getElem? (i := 36) rfl))) (Or.inl (hw _ (List.mem_of_getElem? (i := 26) rfl))) (by decide) (t := (.array .int)) (t' := (.array (.object "com/example/methodical_checker/methodicalchecker/promela/Transition"))) (by decide) (by decide))))) (Or.inr (slot_ne (Or.inl (hw _ (List.mem_of_getElem? (i := 36) rfl))) (Or.inl (hw _ (List.mem_of_getElem? (i := 30) rfl))) (by decide) (t := (.array .int)) (t' := (.array (.object "com/example/methodical_checker/methodicalchecker/promela/Stepper$Meeting"))) (by decide) (by decide))))) (Or.inr (slot_ne (Or.inl (hw _ (List.mem_of_getElem? (i := 36) rfl))) (Or.inl (hw _ (List.mem_of_getElem? (i := 32) rfl))) (by decide) (t := (.array .int)) (t' := (.array .int)) (by decide) (by decide))))) (Or.inr (slot_ne (Or.inl (hw _ (List.mem_of_getElem? (i := 36) rfl))) (Or.inl (hw _ (List.mem_of_getElem? (i := 34) rfl))) (by decide) (t := (.array .int)) (t' := (.array .int)) (by decide) (by decide)))))
  obtain ⟨T35, h35, X35, e35, W35, st35⟩ := putF X32 hx hZ hown (host := "") (Or.inl (hw _ (List.mem_of_getElem? (i := 35) rfl))) Via.refl e32 f34 f33 (Or.inl (hw _ (List.mem_of_getElem? (i := 36) rfl))) (hw _ (List.mem_of_getElem? (i := 6) rfl)) (ty := (.array .int)) (by decide) rfl rfl (g := (mkF m 68 #[.val (.ref wk)] [(.ref b32), (.ref wk)])) rfl rfl (hb hby d2_68)
  have F35 := Fld.same W35 f34
  have z35 := W35.size
  have N35 := Fr.snoc X35 N31 (by omega)
  refine own_Fin.step (S' := T35.setTop (mkF m 71 #[.val (.ref wk)] [])) st35 ?_
  refine own_Fin.step (S' := T35.setTop (mkF m 72 #[.val (.ref wk)] [(.ref wk)])) (fun t k => XS.aloadN X35.here hx rfl (hb hby d2_71) rfl rfl  k) ?_
  refine own_Fin.step (S' := T35.setTop (mkF m 74 #[.val (.ref wk)] [(.int (32 : Int32)), (.ref wk)])) (fun t k => XS.bipush X35.here hx rfl (hb hby d2_72) k) ?_
  obtain ⟨T36, h36, k36, X36, e36, E36, A36, B36, st36⟩ := newPE X35 hx hZ (hw _ (List.mem_of_getElem? (i := 18) rfl)) e35 (g := (mkF m 74 #[.val (.ref wk)] [(.int (32 : Int32)), (.ref wk)])) rfl (hb hby d2_74) rfl (by decide) (cap := 32) (by decide) (by decide) (by decide) (by decide) (ad := "[I") rfl
  obtain ⟨b36, g36⟩ : ∃ z, z = h35.size := ⟨_, rfl⟩
  rw [← g36] at A36 B36 st36
  have ll36 : @LT.lt Nat _ b36 (Array.size h36) := A36.lt
  have z36 := E36.1
  have V36 : Arv Z h36 b36 k36 .int (32 : Int32) [(.int (0 : Int32)), (.int (0 : Int32)), (.int (0 : Int32)), (.int (0 : Int32)), (.int (0 : Int32)), (.int (0 : Int32)), (.int (0 : Int32)), (.int (0 : Int32)), (.int (0 : Int32)), (.int (0 : Int32)), (.int (0 : Int32)), (.int (0 : Int32)), (.int (0 : Int32)), (.int (0 : Int32)), (.int (0 : Int32)), (.int (0 : Int32)), (.int (0 : Int32)), (.int (0 : Int32)), (.int (0 : Int32)), (.int (0 : Int32)), (.int (0 : Int32)), (.int (0 : Int32)), (.int (0 : Int32)), (.int (0 : Int32)), (.int (0 : Int32)), (.int (0 : Int32)), (.int (0 : Int32)), (.int (0 : Int32)), (.int (0 : Int32)), (.int (0 : Int32)), (.int (0 : Int32)), (.int (0 : Int32))] (.int (0 : Int32)) := (Arv.new A36 (by decide)).pad (pad_rep [] (.int (0 : Int32)) 32)
  refine own_Fin.step (S' := T36.setTop (mkF m 76 #[.val (.ref wk)] [(.ref b36), (.ref wk)])) st36 ?_
  have f37 : Exa Z h36 wk "com/example/methodical_checker/methodicalchecker/promela/Walk" := (Exa.ext E36 (Exa.wr W35 f33))
  have f38 : Fld Z h36 wk "com/example/methodical_checker/methodicalchecker/promela/Walk" "passed" "[I" .null := (Fld.ext E36 (Fld.other W35 (Fld.ext E32 (Fld.other W31 (Fld.ext E28 (Fld.other W27 (Fld.ext E24 (Fld.other W23 (Fld.ext E20 (Fld.other W19 (Fld.ext E16 (Fld.other W15 (Fld.ext E12 (Fld.other W11 (Fld.ext E8 (Fld.other W7 (Fld.ext E4 P9) (Or.inr (slot_ne (Or.inl (hw _ (List.mem_of_getElem? (i := 38) rfl))) (Or.inl (hw _ (List.mem_of_getElem? (i := 17) rfl))) (by decide) (t := (.array .int)) (t' := (.array (.array .int))) (by decide) (by decide))))) (Or.inr (slot_ne (Or.inl (hw _ (List.mem_of_getElem? (i := 38) rfl))) (Or.inl (hw _ (List.mem_of_getElem? (i := 20) rfl))) (by decide) (t := (.array .int)) (t' := (.array .int)) (by decide) (by decide))))) (Or.inr (slot_ne (Or.inl (hw _ (List.mem_of_getElem? (i := 38) rfl))) (Or.inl (hw _ (List.mem_of_getElem? (i := 22) rfl))) (by decide) (t := (.array .int)) (t' := (.array .int)) (by decide) (by decide))))) (Or.inr (slot_ne (Or.inl (hw _ (List.mem_of_getElem? (i := 38) rfl))) (Or.inl (hw _ (List.mem_of_getElem? (i := 26) rfl))) (by decide) (t := (.array .int)) (t' := (.array (.object "com/example/methodical_checker/methodicalchecker/promela/Transition"))) (by decide) (by decide))))) (Or.inr (slot_ne (Or.inl (hw _ (List.mem_of_getElem? (i := 38) rfl))) (Or.inl (hw _ (List.mem_of_getElem? (i := 30) rfl))) (by decide) (t := (.array .int)) (t' := (.array (.object "com/example/methodical_checker/methodicalchecker/promela/Stepper$Meeting"))) (by decide) (by decide))))) (Or.inr (slot_ne (Or.inl (hw _ (List.mem_of_getElem? (i := 38) rfl))) (Or.inl (hw _ (List.mem_of_getElem? (i := 32) rfl))) (by decide) (t := (.array .int)) (t' := (.array .int)) (by decide) (by decide))))) (Or.inr (slot_ne (Or.inl (hw _ (List.mem_of_getElem? (i := 38) rfl))) (Or.inl (hw _ (List.mem_of_getElem? (i := 34) rfl))) (by decide) (t := (.array .int)) (t' := (.array .int)) (by decide) (by decide))))) (Or.inr (slot_ne (Or.inl (hw _ (List.mem_of_getElem? (i := 38) rfl))) (Or.inl (hw _ (List.mem_of_getElem? (i := 36) rfl))) (by decide) (t := (.array .int)) (t' := (.array .int)) (by decide) (by decide)))))
  obtain ⟨T39, h39, X39, e39, W39, st39⟩ := putF X36 hx hZ hown (host := "") (Or.inl (hw _ (List.mem_of_getElem? (i := 37) rfl))) Via.refl e36 f38 f37 (Or.inl (hw _ (List.mem_of_getElem? (i := 38) rfl))) (hw _ (List.mem_of_getElem? (i := 6) rfl)) (ty := (.array .int)) (by decide) rfl rfl (g := (mkF m 76 #[.val (.ref wk)] [(.ref b36), (.ref wk)])) rfl rfl (hb hby d2_76)
  have F39 := Fld.same W39 f38
  have z39 := W39.size
  have N39 := Fr.snoc X39 N35 (by omega)
  refine own_Fin.step (S' := T39.setTop (mkF m 79 #[.val (.ref wk)] [])) st39 ?_
  refine own_Fin.step (S' := T39.setTop (mkF m 80 #[.val (.ref wk)] [(.ref wk)])) (fun t k => XS.aloadN X39.here hx rfl (hb hby d2_79) rfl rfl  k) ?_
  refine own_Fin.step (S' := T39.setTop (mkF m 82 #[.val (.ref wk)] [(.int (32 : Int32)), (.ref wk)])) (fun t k => XS.bipush X39.here hx rfl (hb hby d2_80) k) ?_
  obtain ⟨T40, h40, k40, X40, e40, E40, A40, B40, st40⟩ := newPE X39 hx hZ (hw _ (List.mem_of_getElem? (i := 18) rfl)) e39 (g := (mkF m 82 #[.val (.ref wk)] [(.int (32 : Int32)), (.ref wk)])) rfl (hb hby d2_82) rfl (by decide) (cap := 32) (by decide) (by decide) (by decide) (by decide) (ad := "[I") rfl
  obtain ⟨b40, g40⟩ : ∃ z, z = h39.size := ⟨_, rfl⟩
  rw [← g40] at A40 B40 st40
  have ll40 : @LT.lt Nat _ b40 (Array.size h40) := A40.lt
  have z40 := E40.1
  have V40 : Arv Z h40 b40 k40 .int (32 : Int32) [(.int (0 : Int32)), (.int (0 : Int32)), (.int (0 : Int32)), (.int (0 : Int32)), (.int (0 : Int32)), (.int (0 : Int32)), (.int (0 : Int32)), (.int (0 : Int32)), (.int (0 : Int32)), (.int (0 : Int32)), (.int (0 : Int32)), (.int (0 : Int32)), (.int (0 : Int32)), (.int (0 : Int32)), (.int (0 : Int32)), (.int (0 : Int32)), (.int (0 : Int32)), (.int (0 : Int32)), (.int (0 : Int32)), (.int (0 : Int32)), (.int (0 : Int32)), (.int (0 : Int32)), (.int (0 : Int32)), (.int (0 : Int32)), (.int (0 : Int32)), (.int (0 : Int32)), (.int (0 : Int32)), (.int (0 : Int32)), (.int (0 : Int32)), (.int (0 : Int32)), (.int (0 : Int32)), (.int (0 : Int32))] (.int (0 : Int32)) := (Arv.new A40 (by decide)).pad (pad_rep [] (.int (0 : Int32)) 32)
  refine own_Fin.step (S' := T40.setTop (mkF m 84 #[.val (.ref wk)] [(.ref b40), (.ref wk)])) st40 ?_
  have f41 : Exa Z h40 wk "com/example/methodical_checker/methodicalchecker/promela/Walk" := (Exa.ext E40 (Exa.wr W39 f37))
  have f42 : Fld Z h40 wk "com/example/methodical_checker/methodicalchecker/promela/Walk" "passedKeys" "[I" .null := (Fld.ext E40 (Fld.other W39 (Fld.ext E36 (Fld.other W35 (Fld.ext E32 (Fld.other W31 (Fld.ext E28 (Fld.other W27 (Fld.ext E24 (Fld.other W23 (Fld.ext E20 (Fld.other W19 (Fld.ext E16 (Fld.other W15 (Fld.ext E12 (Fld.other W11 (Fld.ext E8 (Fld.other W7 (Fld.ext E4 P10) (Or.inr (slot_ne (Or.inl (hw _ (List.mem_of_getElem? (i := 40) rfl))) (Or.inl (hw _ (List.mem_of_getElem? (i := 17) rfl))) (by decide) (t := (.array .int)) (t' := (.array (.array .int))) (by decide) (by decide))))) (Or.inr (slot_ne (Or.inl (hw _ (List.mem_of_getElem? (i := 40) rfl))) (Or.inl (hw _ (List.mem_of_getElem? (i := 20) rfl))) (by decide) (t := (.array .int)) (t' := (.array .int)) (by decide) (by decide))))) (Or.inr (slot_ne (Or.inl (hw _ (List.mem_of_getElem? (i := 40) rfl))) (Or.inl (hw _ (List.mem_of_getElem? (i := 22) rfl))) (by decide) (t := (.array .int)) (t' := (.array .int)) (by decide) (by decide))))) (Or.inr (slot_ne (Or.inl (hw _ (List.mem_of_getElem? (i := 40) rfl))) (Or.inl (hw _ (List.mem_of_getElem? (i := 26) rfl))) (by decide) (t := (.array .int)) (t' := (.array (.object "com/example/methodical_checker/methodicalchecker/promela/Transition"))) (by decide) (by decide))))) (Or.inr (slot_ne (Or.inl (hw _ (List.mem_of_getElem? (i := 40) rfl))) (Or.inl (hw _ (List.mem_of_getElem? (i := 30) rfl))) (by decide) (t := (.array .int)) (t' := (.array (.object "com/example/methodical_checker/methodicalchecker/promela/Stepper$Meeting"))) (by decide) (by decide))))) (Or.inr (slot_ne (Or.inl (hw _ (List.mem_of_getElem? (i := 40) rfl))) (Or.inl (hw _ (List.mem_of_getElem? (i := 32) rfl))) (by decide) (t := (.array .int)) (t' := (.array .int)) (by decide) (by decide))))) (Or.inr (slot_ne (Or.inl (hw _ (List.mem_of_getElem? (i := 40) rfl))) (Or.inl (hw _ (List.mem_of_getElem? (i := 34) rfl))) (by decide) (t := (.array .int)) (t' := (.array .int)) (by decide) (by decide))))) (Or.inr (slot_ne (Or.inl (hw _ (List.mem_of_getElem? (i := 40) rfl))) (Or.inl (hw _ (List.mem_of_getElem? (i := 36) rfl))) (by decide) (t := (.array .int)) (t' := (.array .int)) (by decide) (by decide))))) (Or.inr (slot_ne (Or.inl (hw _ (List.mem_of_getElem? (i := 40) rfl))) (Or.inl (hw _ (List.mem_of_getElem? (i := 38) rfl))) (by decide) (t := (.array .int)) (t' := (.array .int)) (by decide) (by decide)))))
  obtain ⟨T43, h43, X43, e43, W43, st43⟩ := putF X40 hx hZ hown (host := "") (Or.inl (hw _ (List.mem_of_getElem? (i := 39) rfl))) Via.refl e40 f42 f41 (Or.inl (hw _ (List.mem_of_getElem? (i := 40) rfl))) (hw _ (List.mem_of_getElem? (i := 6) rfl)) (ty := (.array .int)) (by decide) rfl rfl (g := (mkF m 84 #[.val (.ref wk)] [(.ref b40), (.ref wk)])) rfl rfl (hb hby d2_84)
  have F43 := Fld.same W43 f42
  have z43 := W43.size
  have N43 := Fr.snoc X43 N39 (by omega)
  refine own_Fin.step (S' := T43.setTop (mkF m 87 #[.val (.ref wk)] [])) st43 ?_
  refine own_Fin.step (S' := T43.setTop (mkF m 88 #[.val (.ref wk)] [(.ref wk)])) (fun t k => XS.aloadN X43.here hx rfl (hb hby d2_87) rfl rfl  k) ?_
  refine own_Fin.step (S' := T43.setTop (mkF m 89 #[.val (.ref wk)] [(.int (0 : Int32)), (.ref wk)])) (fun t k => XS.iconst X43.here hx rfl (hb hby d2_88) k) ?_
  obtain ⟨T44, h44, k44, X44, e44, E44, A44, B44, st44⟩ := newPE X43 hx hZ (hw _ (List.mem_of_getElem? (i := 18) rfl)) e43 (g := (mkF m 89 #[.val (.ref wk)] [(.int (0 : Int32)), (.ref wk)])) rfl (hb hby d2_89) rfl (by decide) (cap := 0) (by decide) (by decide) (by decide) (by decide) (ad := "[I") rfl
  obtain ⟨b44, g44⟩ : ∃ z, z = h43.size := ⟨_, rfl⟩
  rw [← g44] at A44 B44 st44
  have ll44 : @LT.lt Nat _ b44 (Array.size h44) := A44.lt
  have z44 := E44.1
  have V44 : Arv Z h44 b44 k44 .int (0 : Int32) [] (.int (0 : Int32)) := (Arv.new A44 (by decide)).pad (pad_rep [] (.int (0 : Int32)) 0)
  refine own_Fin.step (S' := T44.setTop (mkF m 91 #[.val (.ref wk)] [(.ref b44), (.ref wk)])) st44 ?_
  have f45 : Exa Z h44 wk "com/example/methodical_checker/methodicalchecker/promela/Walk" := (Exa.ext E44 (Exa.wr W43 f41))
  have f46 : Fld Z h44 wk "com/example/methodical_checker/methodicalchecker/promela/Walk" "passedTable" "[I" .null := (Fld.ext E44 (Fld.other W43 (Fld.ext E40 (Fld.other W39 (Fld.ext E36 (Fld.other W35 (Fld.ext E32 (Fld.other W31 (Fld.ext E28 (Fld.other W27 (Fld.ext E24 (Fld.other W23 (Fld.ext E20 (Fld.other W19 (Fld.ext E16 (Fld.other W15 (Fld.ext E12 (Fld.other W11 (Fld.ext E8 (Fld.other W7 (Fld.ext E4 P11) (Or.inr (slot_ne (Or.inl (hw _ (List.mem_of_getElem? (i := 42) rfl))) (Or.inl (hw _ (List.mem_of_getElem? (i := 17) rfl))) (by decide) (t := (.array .int)) (t' := (.array (.array .int))) (by decide) (by decide))))) (Or.inr (slot_ne (Or.inl (hw _ (List.mem_of_getElem? (i := 42) rfl))) (Or.inl (hw _ (List.mem_of_getElem? (i := 20) rfl))) (by decide) (t := (.array .int)) (t' := (.array .int)) (by decide) (by decide))))) (Or.inr (slot_ne (Or.inl (hw _ (List.mem_of_getElem? (i := 42) rfl))) (Or.inl (hw _ (List.mem_of_getElem? (i := 22) rfl))) (by decide) (t := (.array .int)) (t' := (.array .int)) (by decide) (by decide))))) (Or.inr (slot_ne (Or.inl (hw _ (List.mem_of_getElem? (i := 42) rfl))) (Or.inl (hw _ (List.mem_of_getElem? (i := 26) rfl))) (by decide) (t := (.array .int)) (t' := (.array (.object "com/example/methodical_checker/methodicalchecker/promela/Transition"))) (by decide) (by decide))))) (Or.inr (slot_ne (Or.inl (hw _ (List.mem_of_getElem? (i := 42) rfl))) (Or.inl (hw _ (List.mem_of_getElem? (i := 30) rfl))) (by decide) (t := (.array .int)) (t' := (.array (.object "com/example/methodical_checker/methodicalchecker/promela/Stepper$Meeting"))) (by decide) (by decide))))) (Or.inr (slot_ne (Or.inl (hw _ (List.mem_of_getElem? (i := 42) rfl))) (Or.inl (hw _ (List.mem_of_getElem? (i := 32) rfl))) (by decide) (t := (.array .int)) (t' := (.array .int)) (by decide) (by decide))))) (Or.inr (slot_ne (Or.inl (hw _ (List.mem_of_getElem? (i := 42) rfl))) (Or.inl (hw _ (List.mem_of_getElem? (i := 34) rfl))) (by decide) (t := (.array .int)) (t' := (.array .int)) (by decide) (by decide))))) (Or.inr (slot_ne (Or.inl (hw _ (List.mem_of_getElem? (i := 42) rfl))) (Or.inl (hw _ (List.mem_of_getElem? (i := 36) rfl))) (by decide) (t := (.array .int)) (t' := (.array .int)) (by decide) (by decide))))) (Or.inr (slot_ne (Or.inl (hw _ (List.mem_of_getElem? (i := 42) rfl))) (Or.inl (hw _ (List.mem_of_getElem? (i := 38) rfl))) (by decide) (t := (.array .int)) (t' := (.array .int)) (by decide) (by decide))))) (Or.inr (slot_ne (Or.inl (hw _ (List.mem_of_getElem? (i := 42) rfl))) (Or.inl (hw _ (List.mem_of_getElem? (i := 40) rfl))) (by decide) (t := (.array .int)) (t' := (.array .int)) (by decide) (by decide)))))
  obtain ⟨T47, h47, X47, e47, W47, st47⟩ := putF X44 hx hZ hown (host := "") (Or.inl (hw _ (List.mem_of_getElem? (i := 41) rfl))) Via.refl e44 f46 f45 (Or.inl (hw _ (List.mem_of_getElem? (i := 42) rfl))) (hw _ (List.mem_of_getElem? (i := 6) rfl)) (ty := (.array .int)) (by decide) rfl rfl (g := (mkF m 91 #[.val (.ref wk)] [(.ref b44), (.ref wk)])) rfl rfl (hb hby d2_91)
  have F47 := Fld.same W47 f46
  have z47 := W47.size
  have N47 := Fr.snoc X47 N43 (by omega)
  refine own_Fin.step (S' := T47.setTop (mkF m 94 #[.val (.ref wk)] [])) st47 ?_
  refine own_Fin.step (S' := T47.setTop (mkF m 95 #[.val (.ref wk)] [(.ref wk)])) (fun t k => XS.aloadN X47.here hx rfl (hb hby d2_94) rfl rfl  k) ?_
  refine own_Fin.step (S' := T47.setTop (mkF m 96 #[.val (.ref wk)] [(.int (4 : Int32)), (.ref wk)])) (fun t k => XS.iconst X47.here hx rfl (hb hby d2_95) k) ?_
  obtain ⟨T48, h48, k48, X48, e48, E48, A48, B48, st48⟩ := newPE X47 hx hZ (hw _ (List.mem_of_getElem? (i := 18) rfl)) e47 (g := (mkF m 96 #[.val (.ref wk)] [(.int (4 : Int32)), (.ref wk)])) rfl (hb hby d2_96) rfl (by decide) (cap := 4) (by decide) (by decide) (by decide) (by decide) (ad := "[I") rfl
  obtain ⟨b48, g48⟩ : ∃ z, z = h47.size := ⟨_, rfl⟩
  rw [← g48] at A48 B48 st48
  have ll48 : @LT.lt Nat _ b48 (Array.size h48) := A48.lt
  have z48 := E48.1
  have V48 : Arv Z h48 b48 k48 .int (4 : Int32) [(.int (0 : Int32)), (.int (0 : Int32)), (.int (0 : Int32)), (.int (0 : Int32))] (.int (0 : Int32)) := (Arv.new A48 (by decide)).pad (pad_rep [] (.int (0 : Int32)) 4)
  refine own_Fin.step (S' := T48.setTop (mkF m 98 #[.val (.ref wk)] [(.ref b48), (.ref wk)])) st48 ?_
  have f49 : Exa Z h48 wk "com/example/methodical_checker/methodicalchecker/promela/Walk" := (Exa.ext E48 (Exa.wr W47 f45))
  have f50 : Fld Z h48 wk "com/example/methodical_checker/methodicalchecker/promela/Walk" "moveStates" "[I" .null := (Fld.ext E48 (Fld.other W47 (Fld.ext E44 (Fld.other W43 (Fld.ext E40 (Fld.other W39 (Fld.ext E36 (Fld.other W35 (Fld.ext E32 (Fld.other W31 (Fld.ext E28 (Fld.other W27 (Fld.ext E24 (Fld.other W23 (Fld.ext E20 (Fld.other W19 (Fld.ext E16 (Fld.other W15 (Fld.ext E12 (Fld.other W11 (Fld.ext E8 (Fld.other W7 (Fld.ext E4 P12) (Or.inr (slot_ne (Or.inl (hw _ (List.mem_of_getElem? (i := 44) rfl))) (Or.inl (hw _ (List.mem_of_getElem? (i := 17) rfl))) (by decide) (t := (.array .int)) (t' := (.array (.array .int))) (by decide) (by decide))))) (Or.inr (slot_ne (Or.inl (hw _ (List.mem_of_getElem? (i := 44) rfl))) (Or.inl (hw _ (List.mem_of_getElem? (i := 20) rfl))) (by decide) (t := (.array .int)) (t' := (.array .int)) (by decide) (by decide))))) (Or.inr (slot_ne (Or.inl (hw _ (List.mem_of_getElem? (i := 44) rfl))) (Or.inl (hw _ (List.mem_of_getElem? (i := 22) rfl))) (by decide) (t := (.array .int)) (t' := (.array .int)) (by decide) (by decide))))) (Or.inr (slot_ne (Or.inl (hw _ (List.mem_of_getElem? (i := 44) rfl))) (Or.inl (hw _ (List.mem_of_getElem? (i := 26) rfl))) (by decide) (t := (.array .int)) (t' := (.array (.object "com/example/methodical_checker/methodicalchecker/promela/Transition"))) (by decide) (by decide))))) (Or.inr (slot_ne (Or.inl (hw _ (List.mem_of_getElem? (i := 44) rfl))) (Or.inl (hw _ (List.mem_of_getElem? (i := 30) rfl))) (by decide) (t := (.array .int)) (t' := (.array (.object "com/example/methodical_checker/methodicalchecker/promela/Stepper$Meeting"))) (by decide) (by decide))))) (Or.inr (slot_ne (Or.inl (hw _ (List.mem_of_getElem? (i := 44) rfl))) (Or.inl (hw _ (List.mem_of_getElem? (i := 32) rfl))) (by decide) (t := (.array .int)) (t' := (.array .int)) (by decide) (by decide))))) (Or.inr (slot_ne (Or.inl (hw _ (List.mem_of_getElem? (i := 44) rfl))) (Or.inl (hw _ (List.mem_of_getElem? (i := 34) rfl))) (by decide) (t := (.array .int)) (t' := (.array .int)) (by decide) (by decide))))) (Or.inr (slot_ne (Or.inl (hw _ (List.mem_of_getElem? (i := 44) rfl))) (Or.inl (hw _ (List.mem_of_getElem? (i := 36) rfl))) (by decide) (t := (.array .int)) (t' := (.array .int)) (by decide) (by decide))))) (Or.inr (slot_ne (Or.inl (hw _ (List.mem_of_getElem? (i := 44) rfl))) (Or.inl (hw _ (List.mem_of_getElem? (i := 38) rfl))) (by decide) (t := (.array .int)) (t' := (.array .int)) (by decide) (by decide))))) (Or.inr (slot_ne (Or.inl (hw _ (List.mem_of_getElem? (i := 44) rfl))) (Or.inl (hw _ (List.mem_of_getElem? (i := 40) rfl))) (by decide) (t := (.array .int)) (t' := (.array .int)) (by decide) (by decide))))) (Or.inr (slot_ne (Or.inl (hw _ (List.mem_of_getElem? (i := 44) rfl))) (Or.inl (hw _ (List.mem_of_getElem? (i := 42) rfl))) (by decide) (t := (.array .int)) (t' := (.array .int)) (by decide) (by decide)))))
  obtain ⟨T51, h51, X51, e51, W51, st51⟩ := putF X48 hx hZ hown (host := "") (Or.inl (hw _ (List.mem_of_getElem? (i := 43) rfl))) Via.refl e48 f50 f49 (Or.inl (hw _ (List.mem_of_getElem? (i := 44) rfl))) (hw _ (List.mem_of_getElem? (i := 6) rfl)) (ty := (.array .int)) (by decide) rfl rfl (g := (mkF m 98 #[.val (.ref wk)] [(.ref b48), (.ref wk)])) rfl rfl (hb hby d2_98)
  have F51 := Fld.same W51 f50
  have z51 := W51.size
  have N51 := Fr.snoc X51 N47 (by omega)
  refine own_Fin.step (S' := T51.setTop (mkF m 101 #[.val (.ref wk)] [])) st51 ?_
  refine own_Fin.step (S' := T51.setTop (mkF m 102 #[.val (.ref wk)] [(.ref wk)])) (fun t k => XS.aloadN X51.here hx rfl (hb hby d2_101) rfl rfl  k) ?_
  refine own_Fin.step (S' := T51.setTop (mkF m 103 #[.val (.ref wk)] [(.int (4 : Int32)), (.ref wk)])) (fun t k => XS.iconst X51.here hx rfl (hb hby d2_102) k) ?_
  obtain ⟨T52, h52, k52, X52, e52, E52, A52, B52, st52⟩ := newPE X51 hx hZ (hw _ (List.mem_of_getElem? (i := 18) rfl)) e51 (g := (mkF m 103 #[.val (.ref wk)] [(.int (4 : Int32)), (.ref wk)])) rfl (hb hby d2_103) rfl (by decide) (cap := 4) (by decide) (by decide) (by decide) (by decide) (ad := "[I") rfl
  obtain ⟨b52, g52⟩ : ∃ z, z = h51.size := ⟨_, rfl⟩
  rw [← g52] at A52 B52 st52
  have ll52 : @LT.lt Nat _ b52 (Array.size h52) := A52.lt
  have z52 := E52.1
  have V52 : Arv Z h52 b52 k52 .int (4 : Int32) [(.int (0 : Int32)), (.int (0 : Int32)), (.int (0 : Int32)), (.int (0 : Int32))] (.int (0 : Int32)) := (Arv.new A52 (by decide)).pad (pad_rep [] (.int (0 : Int32)) 4)
  refine own_Fin.step (S' := T52.setTop (mkF m 105 #[.val (.ref wk)] [(.ref b52), (.ref wk)])) st52 ?_
  have f53 : Exa Z h52 wk "com/example/methodical_checker/methodicalchecker/promela/Walk" := (Exa.ext E52 (Exa.wr W51 f49))
  have f54 : Fld Z h52 wk "com/example/methodical_checker/methodicalchecker/promela/Walk" "moveSteps" "[I" .null := (Fld.ext E52 (Fld.other W51 (Fld.ext E48 (Fld.other W47 (Fld.ext E44 (Fld.other W43 (Fld.ext E40 (Fld.other W39 (Fld.ext E36 (Fld.other W35 (Fld.ext E32 (Fld.other W31 (Fld.ext E28 (Fld.other W27 (Fld.ext E24 (Fld.other W23 (Fld.ext E20 (Fld.other W19 (Fld.ext E16 (Fld.other W15 (Fld.ext E12 (Fld.other W11 (Fld.ext E8 (Fld.other W7 (Fld.ext E4 P13) (Or.inr (slot_ne (Or.inl (hw _ (List.mem_of_getElem? (i := 46) rfl))) (Or.inl (hw _ (List.mem_of_getElem? (i := 17) rfl))) (by decide) (t := (.array .int)) (t' := (.array (.array .int))) (by decide) (by decide))))) (Or.inr (slot_ne (Or.inl (hw _ (List.mem_of_getElem? (i := 46) rfl))) (Or.inl (hw _ (List.mem_of_getElem? (i := 20) rfl))) (by decide) (t := (.array .int)) (t' := (.array .int)) (by decide) (by decide))))) (Or.inr (slot_ne (Or.inl (hw _ (List.mem_of_getElem? (i := 46) rfl))) (Or.inl (hw _ (List.mem_of_getElem? (i := 22) rfl))) (by decide) (t := (.array .int)) (t' := (.array .int)) (by decide) (by decide))))) (Or.inr (slot_ne (Or.inl (hw _ (List.mem_of_getElem? (i := 46) rfl))) (Or.inl (hw _ (List.mem_of_getElem? (i := 26) rfl))) (by decide) (t := (.array .int)) (t' := (.array (.object "com/example/methodical_checker/methodicalchecker/promela/Transition"))) (by decide) (by decide))))) (Or.inr (slot_ne (Or.inl (hw _ (List.mem_of_getElem? (i := 46) rfl))) (Or.inl (hw _ (List.mem_of_getElem? (i := 30) rfl))) (by decide) (t := (.array .int)) (t' := (.array (.object "com/example/methodical_checker/methodicalchecker/promela/Stepper$Meeting"))) (by decide) (by decide))))) (Or.inr (slot_ne (Or.inl (hw _ (List.mem_of_getElem? (i := 46) rfl))) (Or.inl (hw _ (List.mem_of_getElem? (i := 32) rfl))) (by decide) (t := (.array .int)) (t' := (.array .int)) (by decide) (by decide))))) (Or.inr (slot_ne (Or.inl (hw _ (List.mem_of_getElem? (i := 46) rfl))) (Or.inl (hw _ (List.mem_of_getElem? (i := 34) rfl))) (by decide) (t := (.array .int)) (t' := (.array .int)) (by decide) (by decide))))) (Or.inr (slot_ne (Or.inl (hw _ (List.mem_of_getElem? (i := 46) rfl))) (Or.inl (hw _ (List.mem_of_getElem? (i := 36) rfl))) (by decide) (t := (.array .int)) (t' := (.array .int)) (by decide) (by decide))))) (Or.inr (slot_ne (Or.inl (hw _ (List.mem_of_getElem? (i := 46) rfl))) (Or.inl (hw _ (List.mem_of_getElem? (i := 38) rfl))) (by decide) (t := (.array .int)) (t' := (.array .int)) (by decide) (by decide))))) (Or.inr (slot_ne (Or.inl (hw _ (List.mem_of_getElem? (i := 46) rfl))) (Or.inl (hw _ (List.mem_of_getElem? (i := 40) rfl))) (by decide) (t := (.array .int)) (t' := (.array .int)) (by decide) (by decide))))) (Or.inr (slot_ne (Or.inl (hw _ (List.mem_of_getElem? (i := 46) rfl))) (Or.inl (hw _ (List.mem_of_getElem? (i := 42) rfl))) (by decide) (t := (.array .int)) (t' := (.array .int)) (by decide) (by decide))))) (Or.inr (slot_ne (Or.inl (hw _ (List.mem_of_getElem? (i := 46) rfl))) (Or.inl (hw _ (List.mem_of_getElem? (i := 44) rfl))) (by decide) (t := (.array .int)) (t' := (.array .int)) (by decide) (by decide)))))
  obtain ⟨T55, h55, X55, e55, W55, st55⟩ := putF X52 hx hZ hown (host := "") (Or.inl (hw _ (List.mem_of_getElem? (i := 45) rfl))) Via.refl e52 f54 f53 (Or.inl (hw _ (List.mem_of_getElem? (i := 46) rfl))) (hw _ (List.mem_of_getElem? (i := 6) rfl)) (ty := (.array .int)) (by decide) rfl rfl (g := (mkF m 105 #[.val (.ref wk)] [(.ref b52), (.ref wk)])) rfl rfl (hb hby d2_105)
  have F55 := Fld.same W55 f54
  have z55 := W55.size
  have N55 := Fr.snoc X55 N51 (by omega)
  refine own_Fin.step (S' := T55.setTop (mkF m 108 #[.val (.ref wk)] [])) st55 ?_
  refine own_Fin.step (S' := T55.setTop (mkF m 109 #[.val (.ref wk)] [(.ref wk)])) (fun t k => XS.aloadN X55.here hx rfl (hb hby d2_108) rfl rfl  k) ?_
  refine own_Fin.step (S' := T55.setTop (mkF m 110 #[.val (.ref wk)] [(.int (4 : Int32)), (.ref wk)])) (fun t k => XS.iconst X55.here hx rfl (hb hby d2_109) k) ?_
  obtain ⟨T56, h56, k56, X56, e56, E56, A56, B56, st56⟩ := newPE X55 hx hZ (hw _ (List.mem_of_getElem? (i := 18) rfl)) e55 (g := (mkF m 110 #[.val (.ref wk)] [(.int (4 : Int32)), (.ref wk)])) rfl (hb hby d2_110) rfl (by decide) (cap := 4) (by decide) (by decide) (by decide) (by decide) (ad := "[I") rfl
  obtain ⟨b56, g56⟩ : ∃ z, z = h55.size := ⟨_, rfl⟩
  rw [← g56] at A56 B56 st56
  have ll56 : @LT.lt Nat _ b56 (Array.size h56) := A56.lt
  have z56 := E56.1
  have V56 : Arv Z h56 b56 k56 .int (4 : Int32) [(.int (0 : Int32)), (.int (0 : Int32)), (.int (0 : Int32)), (.int (0 : Int32))] (.int (0 : Int32)) := (Arv.new A56 (by decide)).pad (pad_rep [] (.int (0 : Int32)) 4)
  refine own_Fin.step (S' := T56.setTop (mkF m 112 #[.val (.ref wk)] [(.ref b56), (.ref wk)])) st56 ?_
  have f57 : Exa Z h56 wk "com/example/methodical_checker/methodicalchecker/promela/Walk" := (Exa.ext E56 (Exa.wr W55 f53))
  have f58 : Fld Z h56 wk "com/example/methodical_checker/methodicalchecker/promela/Walk" "moveEnds" "[I" .null := (Fld.ext E56 (Fld.other W55 (Fld.ext E52 (Fld.other W51 (Fld.ext E48 (Fld.other W47 (Fld.ext E44 (Fld.other W43 (Fld.ext E40 (Fld.other W39 (Fld.ext E36 (Fld.other W35 (Fld.ext E32 (Fld.other W31 (Fld.ext E28 (Fld.other W27 (Fld.ext E24 (Fld.other W23 (Fld.ext E20 (Fld.other W19 (Fld.ext E16 (Fld.other W15 (Fld.ext E12 (Fld.other W11 (Fld.ext E8 (Fld.other W7 (Fld.ext E4 P14) (Or.inr (slot_ne (Or.inl (hw _ (List.mem_of_getElem? (i := 48) rfl))) (Or.inl (hw _ (List.mem_of_getElem? (i := 17) rfl))) (by decide) (t := (.array .int)) (t' := (.array (.array .int))) (by decide) (by decide))))) (Or.inr (slot_ne (Or.inl (hw _ (List.mem_of_getElem? (i := 48) rfl))) (Or.inl (hw _ (List.mem_of_getElem? (i := 20) rfl))) (by decide) (t := (.array .int)) (t' := (.array .int)) (by decide) (by decide))))) (Or.inr (slot_ne (Or.inl (hw _ (List.mem_of_getElem? (i := 48) rfl))) (Or.inl (hw _ (List.mem_of_getElem? (i := 22) rfl))) (by decide) (t := (.array .int)) (t' := (.array .int)) (by decide) (by decide))))) (Or.inr (slot_ne (Or.inl (hw _ (List.mem_of_getElem? (i := 48) rfl))) (Or.inl (hw _ (List.mem_of_getElem? (i := 26) rfl))) (by decide) (t := (.array .int)) (t' := (.array (.object "com/example/methodical_checker/methodicalchecker/promela/Transition"))) (by decide) (by decide))))) (Or.inr (slot_ne (Or.inl (hw _ (List.mem_of_getElem? (i := 48) rfl))) (Or.inl (hw _ (List.mem_of_getElem? (i := 30) rfl))) (by decide) (t := (.array .int)) (t' := (.array (.object "com/example/methodical_checker/methodicalchecker/promela/Stepper$Meeting"))) (by decide) (by decide))))) (Or.inr (slot_ne (Or.inl (hw _ (List.mem_of_getElem? (i := 48) rfl))) (Or.inl (hw _ (List.mem_of_getElem? (i := 32) rfl))) (by decide) (t := (.array .int)) (t' := (.array .int)) (by decide) (by decide))))) (Or.inr (slot_ne (Or.inl (hw _ (List.mem_of_getElem? (i := 48) rfl))) (Or.inl (hw _ (List.mem_of_getElem? (i := 34) rfl))) (by decide) (t := (.array .int)) (t' := (.array .int)) (by decide) (by decide))))) (Or.inr (slot_ne (Or.inl (hw _ (List.mem_of_getElem? (i := 48) rfl))) (Or.inl (hw _ (List.mem_of_getElem? (i := 36) rfl))) (by decide) (t := (.array .int)) (t' := (.array .int)) (by decide) (by decide))))) (Or.inr (slot_ne (Or.inl (hw _ (List.mem_of_getElem? (i := 48) rfl))) (Or.inl (hw _ (List.mem_of_getElem? (i := 38) rfl))) (by decide) (t := (.array .int)) (t' := (.array .int)) (by decide) (by decide))))) (Or.inr (slot_ne (Or.inl (hw _ (List.mem_of_getElem? (i := 48) rfl))) (Or.inl (hw _ (List.mem_of_getElem? (i := 40) rfl))) (by decide) (t := (.array .int)) (t' := (.array .int)) (by decide) (by decide))))) (Or.inr (slot_ne (Or.inl (hw _ (List.mem_of_getElem? (i := 48) rfl))) (Or.inl (hw _ (List.mem_of_getElem? (i := 42) rfl))) (by decide) (t := (.array .int)) (t' := (.array .int)) (by decide) (by decide))))) (Or.inr (slot_ne (Or.inl (hw _ (List.mem_of_getElem? (i := 48) rfl))) (Or.inl (hw _ (List.mem_of_getElem? (i := 44) rfl))) (by decide) (t := (.array .int)) (t' := (.array .int)) (by decide) (by decide))))) (Or.inr (slot_ne (Or.inl (hw _ (List.mem_of_getElem? (i := 48) rfl))) (Or.inl (hw _ (List.mem_of_getElem? (i := 46) rfl))) (by decide) (t := (.array .int)) (t' := (.array .int)) (by decide) (by decide)))))
  obtain ⟨T59, h59, X59, e59, W59, st59⟩ := putF X56 hx hZ hown (host := "") (Or.inl (hw _ (List.mem_of_getElem? (i := 47) rfl))) Via.refl e56 f58 f57 (Or.inl (hw _ (List.mem_of_getElem? (i := 48) rfl))) (hw _ (List.mem_of_getElem? (i := 6) rfl)) (ty := (.array .int)) (by decide) rfl rfl (g := (mkF m 112 #[.val (.ref wk)] [(.ref b56), (.ref wk)])) rfl rfl (hb hby d2_112)
  have F59 := Fld.same W59 f58
  have z59 := W59.size
  have N59 := Fr.snoc X59 N55 (by omega)
  refine own_Fin.step (S' := T59.setTop (mkF m 115 #[.val (.ref wk)] [])) st59 ?_
  refine own_Fin.step (S' := T59.setTop (mkF m 116 #[.val (.ref wk)] [(.ref wk)])) (fun t k => XS.aloadN X59.here hx rfl (hb hby d2_115) rfl rfl  k) ?_
  refine own_Fin.step (S' := T59.setTop (mkF m 117 #[.val (.ref wk)] [(.int (-1 : Int32)), (.ref wk)])) (fun t k => XS.iconst X59.here hx rfl (hb hby d2_116) k) ?_
  as_aux_lemma =>
    have f60 : Exa Z h59 wk "com/example/methodical_checker/methodicalchecker/promela/Walk" := (Exa.wr W59 f57)
    have f61 : Fld Z h59 wk "com/example/methodical_checker/methodicalchecker/promela/Walk" "failed" "I" (.int (0 : Int32)) := (Fld.other W59 (Fld.ext E56 (Fld.other W55 (Fld.ext E52 (Fld.other W51 (Fld.ext E48 (Fld.other W47 (Fld.ext E44 (Fld.other W43 (Fld.ext E40 (Fld.other W39 (Fld.ext E36 (Fld.other W35 (Fld.ext E32 (Fld.other W31 (Fld.ext E28 (Fld.other W27 (Fld.ext E24 (Fld.other W23 (Fld.ext E20 (Fld.other W19 (Fld.ext E16 (Fld.other W15 (Fld.ext E12 (Fld.other W11 (Fld.ext E8 (Fld.other W7 (Fld.ext E4 P15) (Or.inr (slot_ne (Or.inl (hw _ (List.mem_of_getElem? (i := 50) rfl))) (Or.inl (hw _ (List.mem_of_getElem? (i := 17) rfl))) (by decide) (t := .int) (t' := (.array (.array .int))) (by decide) (by decide))))) (Or.inr (slot_ne (Or.inl (hw _ (List.mem_of_getElem? (i := 50) rfl))) (Or.inl (hw _ (List.mem_of_getElem? (i := 20) rfl))) (by decide) (t := .int) (t' := (.array .int)) (by decide) (by decide))))) (Or.inr (slot_ne (Or.inl (hw _ (List.mem_of_getElem? (i := 50) rfl))) (Or.inl (hw _ (List.mem_of_getElem? (i := 22) rfl))) (by decide) (t := .int) (t' := (.array .int)) (by decide) (by decide))))) (Or.inr (slot_ne (Or.inl (hw _ (List.mem_of_getElem? (i := 50) rfl))) (Or.inl (hw _ (List.mem_of_getElem? (i := 26) rfl))) (by decide) (t := .int) (t' := (.array (.object "com/example/methodical_checker/methodicalchecker/promela/Transition"))) (by decide) (by decide))))) (Or.inr (slot_ne (Or.inl (hw _ (List.mem_of_getElem? (i := 50) rfl))) (Or.inl (hw _ (List.mem_of_getElem? (i := 30) rfl))) (by decide) (t := .int) (t' := (.array (.object "com/example/methodical_checker/methodicalchecker/promela/Stepper$Meeting"))) (by decide) (by decide))))) (Or.inr (slot_ne (Or.inl (hw _ (List.mem_of_getElem? (i := 50) rfl))) (Or.inl (hw _ (List.mem_of_getElem? (i := 32) rfl))) (by decide) (t := .int) (t' := (.array .int)) (by decide) (by decide))))) (Or.inr (slot_ne (Or.inl (hw _ (List.mem_of_getElem? (i := 50) rfl))) (Or.inl (hw _ (List.mem_of_getElem? (i := 34) rfl))) (by decide) (t := .int) (t' := (.array .int)) (by decide) (by decide))))) (Or.inr (slot_ne (Or.inl (hw _ (List.mem_of_getElem? (i := 50) rfl))) (Or.inl (hw _ (List.mem_of_getElem? (i := 36) rfl))) (by decide) (t := .int) (t' := (.array .int)) (by decide) (by decide))))) (Or.inr (slot_ne (Or.inl (hw _ (List.mem_of_getElem? (i := 50) rfl))) (Or.inl (hw _ (List.mem_of_getElem? (i := 38) rfl))) (by decide) (t := .int) (t' := (.array .int)) (by decide) (by decide))))) (Or.inr (slot_ne (Or.inl (hw _ (List.mem_of_getElem? (i := 50) rfl))) (Or.inl (hw _ (List.mem_of_getElem? (i := 40) rfl))) (by decide) (t := .int) (t' := (.array .int)) (by decide) (by decide))))) (Or.inr (slot_ne (Or.inl (hw _ (List.mem_of_getElem? (i := 50) rfl))) (Or.inl (hw _ (List.mem_of_getElem? (i := 42) rfl))) (by decide) (t := .int) (t' := (.array .int)) (by decide) (by decide))))) (Or.inr (slot_ne (Or.inl (hw _ (List.mem_of_getElem? (i := 50) rfl))) (Or.inl (hw _ (List.mem_of_getElem? (i := 44) rfl))) (by decide) (t := .int) (t' := (.array .int)) (by decide) (by decide))))) (Or.inr (slot_ne (Or.inl (hw _ (List.mem_of_getElem? (i := 50) rfl))) (Or.inl (hw _ (List.mem_of_getElem? (i := 46) rfl))) (by decide) (t := .int) (t' := (.array .int)) (by decide) (by decide))))) (Or.inr (slot_ne (Or.inl (hw _ (List.mem_of_getElem? (i := 50) rfl))) (Or.inl (hw _ (List.mem_of_getElem? (i := 48) rfl))) (by decide) (t := .int) (t' := (.array .int)) (by decide) (by decide))))
    obtain ⟨T62, h62, X62, e62, W62, st62⟩ := putF X59 hx hZ hown (host := "") (Or.inl (hw _ (List.mem_of_getElem? (i := 49) rfl))) Via.refl e59 f61 f60 (Or.inl (hw _ (List.mem_of_getElem? (i := 50) rfl))) (hw _ (List.mem_of_getElem? (i := 6) rfl)) (ty := .int) (by decide) rfl rfl (g := (mkF m 117 #[.val (.ref wk)] [(.int (-1 : Int32)), (.ref wk)])) rfl rfl (hb hby d2_117)
    have F62 := Fld.same W62 f61
    have z62 := W62.size
    have N62 := Fr.snoc X62 N59 (by omega)
    refine own_Fin.step (S' := T62.setTop (mkF m 120 #[.val (.ref wk)] [])) st62 ?_
    have f64 : Exa Z h62 wk "com/example/methodical_checker/methodicalchecker/promela/Walk" := (Exa.wr W62 f60)
    have f65 : Fld Z h62 wk "com/example/methodical_checker/methodicalchecker/promela/Walk" "wayCount" "I" (.int (0 : Int32)) := (Fld.other W62 (Fld.other W59 (Fld.ext E56 (Fld.other W55 (Fld.ext E52 (Fld.other W51 (Fld.ext E48 (Fld.other W47 (Fld.ext E44 (Fld.other W43 (Fld.ext E40 (Fld.other W39 (Fld.ext E36 (Fld.other W35 (Fld.ext E32 (Fld.other W31 (Fld.ext E28 (Fld.other W27 (Fld.ext E24 (Fld.other W23 (Fld.ext E20 (Fld.other W19 (Fld.ext E16 (Fld.other W15 (Fld.ext E12 (Fld.other W11 (Fld.ext E8 (Fld.other W7 (Fld.ext E4 P16) (Or.inr (slot_ne (Or.inl (hw _ (List.mem_of_getElem? (i := 61) rfl))) (Or.inl (hw _ (List.mem_of_getElem? (i := 17) rfl))) (by decide) (t := .int) (t' := (.array (.array .int))) (by decide) (by decide))))) (Or.inr (slot_ne (Or.inl (hw _ (List.mem_of_getElem? (i := 61) rfl))) (Or.inl (hw _ (List.mem_of_getElem? (i := 20) rfl))) (by decide) (t := .int) (t' := (.array .int)) (by decide) (by decide))))) (Or.inr (slot_ne (Or.inl (hw _ (List.mem_of_getElem? (i := 61) rfl))) (Or.inl (hw _ (List.mem_of_getElem? (i := 22) rfl))) (by decide) (t := .int) (t' := (.array .int)) (by decide) (by decide))))) (Or.inr (slot_ne (Or.inl (hw _ (List.mem_of_getElem? (i := 61) rfl))) (Or.inl (hw _ (List.mem_of_getElem? (i := 26) rfl))) (by decide) (t := .int) (t' := (.array (.object "com/example/methodical_checker/methodicalchecker/promela/Transition"))) (by decide) (by decide))))) (Or.inr (slot_ne (Or.inl (hw _ (List.mem_of_getElem? (i := 61) rfl))) (Or.inl (hw _ (List.mem_of_getElem? (i := 30) rfl))) (by decide) (t := .int) (t' := (.array (.object "com/example/methodical_checker/methodicalchecker/promela/Stepper$Meeting"))) (by decide) (by decide))))) (Or.inr (slot_ne (Or.inl (hw _ (List.mem_of_getElem? (i := 61) rfl))) (Or.inl (hw _ (List.mem_of_getElem? (i := 32) rfl))) (by decide) (t := .int) (t' := (.array .int)) (by decide) (by decide))))) (Or.inr (slot_ne (Or.inl (hw _ (List.mem_of_getElem? (i := 61) rfl))) (Or.inl (hw _ (List.mem_of_getElem? (i := 34) rfl))) (by decide) (t := .int) (t' := (.array .int)) (by decide) (by decide))))) (Or.inr (slot_ne (Or.inl (hw _ (List.mem_of_getElem? (i := 61) rfl))) (Or.inl (hw _ (List.mem_of_getElem? (i := 36) rfl))) (by decide) (t := .int) (t' := (.array .int)) (by decide) (by decide))))) (Or.inr (slot_ne (Or.inl (hw _ (List.mem_of_getElem? (i := 61) rfl))) (Or.inl (hw _ (List.mem_of_getElem? (i := 38) rfl))) (by decide) (t := .int) (t' := (.array .int)) (by decide) (by decide))))) (Or.inr (slot_ne (Or.inl (hw _ (List.mem_of_getElem? (i := 61) rfl))) (Or.inl (hw _ (List.mem_of_getElem? (i := 40) rfl))) (by decide) (t := .int) (t' := (.array .int)) (by decide) (by decide))))) (Or.inr (slot_ne (Or.inl (hw _ (List.mem_of_getElem? (i := 61) rfl))) (Or.inl (hw _ (List.mem_of_getElem? (i := 42) rfl))) (by decide) (t := .int) (t' := (.array .int)) (by decide) (by decide))))) (Or.inr (slot_ne (Or.inl (hw _ (List.mem_of_getElem? (i := 61) rfl))) (Or.inl (hw _ (List.mem_of_getElem? (i := 44) rfl))) (by decide) (t := .int) (t' := (.array .int)) (by decide) (by decide))))) (Or.inr (slot_ne (Or.inl (hw _ (List.mem_of_getElem? (i := 61) rfl))) (Or.inl (hw _ (List.mem_of_getElem? (i := 46) rfl))) (by decide) (t := .int) (t' := (.array .int)) (by decide) (by decide))))) (Or.inr (slot_ne (Or.inl (hw _ (List.mem_of_getElem? (i := 61) rfl))) (Or.inl (hw _ (List.mem_of_getElem? (i := 48) rfl))) (by decide) (t := .int) (t' := (.array .int)) (by decide) (by decide)))) (Or.inr (slot_ne (Or.inl (hw _ (List.mem_of_getElem? (i := 61) rfl))) (Or.inl (hw _ (List.mem_of_getElem? (i := 50) rfl))) (by decide) (t := .int) (t' := .int) (by decide) (by decide))))
    have f66 : Fld Z h62 wk "com/example/methodical_checker/methodicalchecker/promela/Walk" "pendingCount" "I" (.int (0 : Int32)) := (Fld.other W62 (Fld.other W59 (Fld.ext E56 (Fld.other W55 (Fld.ext E52 (Fld.other W51 (Fld.ext E48 (Fld.other W47 (Fld.ext E44 (Fld.other W43 (Fld.ext E40 (Fld.other W39 (Fld.ext E36 (Fld.other W35 (Fld.ext E32 (Fld.other W31 (Fld.ext E28 (Fld.other W27 (Fld.ext E24 (Fld.other W23 (Fld.ext E20 (Fld.other W19 (Fld.ext E16 (Fld.other W15 (Fld.ext E12 (Fld.other W11 (Fld.ext E8 (Fld.other W7 (Fld.ext E4 P17) (Or.inr (slot_ne (Or.inl (hw _ (List.mem_of_getElem? (i := 63) rfl))) (Or.inl (hw _ (List.mem_of_getElem? (i := 17) rfl))) (by decide) (t := .int) (t' := (.array (.array .int))) (by decide) (by decide))))) (Or.inr (slot_ne (Or.inl (hw _ (List.mem_of_getElem? (i := 63) rfl))) (Or.inl (hw _ (List.mem_of_getElem? (i := 20) rfl))) (by decide) (t := .int) (t' := (.array .int)) (by decide) (by decide))))) (Or.inr (slot_ne (Or.inl (hw _ (List.mem_of_getElem? (i := 63) rfl))) (Or.inl (hw _ (List.mem_of_getElem? (i := 22) rfl))) (by decide) (t := .int) (t' := (.array .int)) (by decide) (by decide))))) (Or.inr (slot_ne (Or.inl (hw _ (List.mem_of_getElem? (i := 63) rfl))) (Or.inl (hw _ (List.mem_of_getElem? (i := 26) rfl))) (by decide) (t := .int) (t' := (.array (.object "com/example/methodical_checker/methodicalchecker/promela/Transition"))) (by decide) (by decide))))) (Or.inr (slot_ne (Or.inl (hw _ (List.mem_of_getElem? (i := 63) rfl))) (Or.inl (hw _ (List.mem_of_getElem? (i := 30) rfl))) (by decide) (t := .int) (t' := (.array (.object "com/example/methodical_checker/methodicalchecker/promela/Stepper$Meeting"))) (by decide) (by decide))))) (Or.inr (slot_ne (Or.inl (hw _ (List.mem_of_getElem? (i := 63) rfl))) (Or.inl (hw _ (List.mem_of_getElem? (i := 32) rfl))) (by decide) (t := .int) (t' := (.array .int)) (by decide) (by decide))))) (Or.inr (slot_ne (Or.inl (hw _ (List.mem_of_getElem? (i := 63) rfl))) (Or.inl (hw _ (List.mem_of_getElem? (i := 34) rfl))) (by decide) (t := .int) (t' := (.array .int)) (by decide) (by decide))))) (Or.inr (slot_ne (Or.inl (hw _ (List.mem_of_getElem? (i := 63) rfl))) (Or.inl (hw _ (List.mem_of_getElem? (i := 36) rfl))) (by decide) (t := .int) (t' := (.array .int)) (by decide) (by decide))))) (Or.inr (slot_ne (Or.inl (hw _ (List.mem_of_getElem? (i := 63) rfl))) (Or.inl (hw _ (List.mem_of_getElem? (i := 38) rfl))) (by decide) (t := .int) (t' := (.array .int)) (by decide) (by decide))))) (Or.inr (slot_ne (Or.inl (hw _ (List.mem_of_getElem? (i := 63) rfl))) (Or.inl (hw _ (List.mem_of_getElem? (i := 40) rfl))) (by decide) (t := .int) (t' := (.array .int)) (by decide) (by decide))))) (Or.inr (slot_ne (Or.inl (hw _ (List.mem_of_getElem? (i := 63) rfl))) (Or.inl (hw _ (List.mem_of_getElem? (i := 42) rfl))) (by decide) (t := .int) (t' := (.array .int)) (by decide) (by decide))))) (Or.inr (slot_ne (Or.inl (hw _ (List.mem_of_getElem? (i := 63) rfl))) (Or.inl (hw _ (List.mem_of_getElem? (i := 44) rfl))) (by decide) (t := .int) (t' := (.array .int)) (by decide) (by decide))))) (Or.inr (slot_ne (Or.inl (hw _ (List.mem_of_getElem? (i := 63) rfl))) (Or.inl (hw _ (List.mem_of_getElem? (i := 46) rfl))) (by decide) (t := .int) (t' := (.array .int)) (by decide) (by decide))))) (Or.inr (slot_ne (Or.inl (hw _ (List.mem_of_getElem? (i := 63) rfl))) (Or.inl (hw _ (List.mem_of_getElem? (i := 48) rfl))) (by decide) (t := .int) (t' := (.array .int)) (by decide) (by decide)))) (Or.inr (slot_ne (Or.inl (hw _ (List.mem_of_getElem? (i := 63) rfl))) (Or.inl (hw _ (List.mem_of_getElem? (i := 50) rfl))) (by decide) (t := .int) (t' := .int) (by decide) (by decide))))
    have f67 : Fld Z h62 wk "com/example/methodical_checker/methodicalchecker/promela/Walk" "wayFrom" "[I" (.ref b8) := (Fld.other W62 (Fld.other W59 (Fld.ext E56 (Fld.other W55 (Fld.ext E52 (Fld.other W51 (Fld.ext E48 (Fld.other W47 (Fld.ext E44 (Fld.other W43 (Fld.ext E40 (Fld.other W39 (Fld.ext E36 (Fld.other W35 (Fld.ext E32 (Fld.other W31 (Fld.ext E28 (Fld.other W27 (Fld.ext E24 (Fld.other W23 (Fld.ext E20 (Fld.other W19 (Fld.ext E16 (Fld.other W15 (Fld.ext E12 F11) (Or.inr (slot_ne (Or.inl (hw _ (List.mem_of_getElem? (i := 20) rfl))) (Or.inl (hw _ (List.mem_of_getElem? (i := 22) rfl))) (by decide) (t := (.array .int)) (t' := (.array .int)) (by decide) (by decide))))) (Or.inr (slot_ne (Or.inl (hw _ (List.mem_of_getElem? (i := 20) rfl))) (Or.inl (hw _ (List.mem_of_getElem? (i := 26) rfl))) (by decide) (t := (.array .int)) (t' := (.array (.object "com/example/methodical_checker/methodicalchecker/promela/Transition"))) (by decide) (by decide))))) (Or.inr (slot_ne (Or.inl (hw _ (List.mem_of_getElem? (i := 20) rfl))) (Or.inl (hw _ (List.mem_of_getElem? (i := 30) rfl))) (by decide) (t := (.array .int)) (t' := (.array (.object "com/example/methodical_checker/methodicalchecker/promela/Stepper$Meeting"))) (by decide) (by decide))))) (Or.inr (slot_ne (Or.inl (hw _ (List.mem_of_getElem? (i := 20) rfl))) (Or.inl (hw _ (List.mem_of_getElem? (i := 32) rfl))) (by decide) (t := (.array .int)) (t' := (.array .int)) (by decide) (by decide))))) (Or.inr (slot_ne (Or.inl (hw _ (List.mem_of_getElem? (i := 20) rfl))) (Or.inl (hw _ (List.mem_of_getElem? (i := 34) rfl))) (by decide) (t := (.array .int)) (t' := (.array .int)) (by decide) (by decide))))) (Or.inr (slot_ne (Or.inl (hw _ (List.mem_of_getElem? (i := 20) rfl))) (Or.inl (hw _ (List.mem_of_getElem? (i := 36) rfl))) (by decide) (t := (.array .int)) (t' := (.array .int)) (by decide) (by decide))))) (Or.inr (slot_ne (Or.inl (hw _ (List.mem_of_getElem? (i := 20) rfl))) (Or.inl (hw _ (List.mem_of_getElem? (i := 38) rfl))) (by decide) (t := (.array .int)) (t' := (.array .int)) (by decide) (by decide))))) (Or.inr (slot_ne (Or.inl (hw _ (List.mem_of_getElem? (i := 20) rfl))) (Or.inl (hw _ (List.mem_of_getElem? (i := 40) rfl))) (by decide) (t := (.array .int)) (t' := (.array .int)) (by decide) (by decide))))) (Or.inr (slot_ne (Or.inl (hw _ (List.mem_of_getElem? (i := 20) rfl))) (Or.inl (hw _ (List.mem_of_getElem? (i := 42) rfl))) (by decide) (t := (.array .int)) (t' := (.array .int)) (by decide) (by decide))))) (Or.inr (slot_ne (Or.inl (hw _ (List.mem_of_getElem? (i := 20) rfl))) (Or.inl (hw _ (List.mem_of_getElem? (i := 44) rfl))) (by decide) (t := (.array .int)) (t' := (.array .int)) (by decide) (by decide))))) (Or.inr (slot_ne (Or.inl (hw _ (List.mem_of_getElem? (i := 20) rfl))) (Or.inl (hw _ (List.mem_of_getElem? (i := 46) rfl))) (by decide) (t := (.array .int)) (t' := (.array .int)) (by decide) (by decide))))) (Or.inr (slot_ne (Or.inl (hw _ (List.mem_of_getElem? (i := 20) rfl))) (Or.inl (hw _ (List.mem_of_getElem? (i := 48) rfl))) (by decide) (t := (.array .int)) (t' := (.array .int)) (by decide) (by decide)))) (Or.inr (slot_ne (Or.inl (hw _ (List.mem_of_getElem? (i := 20) rfl))) (Or.inl (hw _ (List.mem_of_getElem? (i := 50) rfl))) (by decide) (t := (.array .int)) (t' := .int) (by decide) (by decide))))
    have f68 : Fld Z h62 wk "com/example/methodical_checker/methodicalchecker/promela/Walk" "wayProcess" "[I" (.ref b12) := (Fld.other W62 (Fld.other W59 (Fld.ext E56 (Fld.other W55 (Fld.ext E52 (Fld.other W51 (Fld.ext E48 (Fld.other W47 (Fld.ext E44 (Fld.other W43 (Fld.ext E40 (Fld.other W39 (Fld.ext E36 (Fld.other W35 (Fld.ext E32 (Fld.other W31 (Fld.ext E28 (Fld.other W27 (Fld.ext E24 (Fld.other W23 (Fld.ext E20 (Fld.other W19 (Fld.ext E16 F15) (Or.inr (slot_ne (Or.inl (hw _ (List.mem_of_getElem? (i := 22) rfl))) (Or.inl (hw _ (List.mem_of_getElem? (i := 26) rfl))) (by decide) (t := (.array .int)) (t' := (.array (.object "com/example/methodical_checker/methodicalchecker/promela/Transition"))) (by decide) (by decide))))) (Or.inr (slot_ne (Or.inl (hw _ (List.mem_of_getElem? (i := 22) rfl))) (Or.inl (hw _ (List.mem_of_getElem? (i := 30) rfl))) (by decide) (t := (.array .int)) (t' := (.array (.object "com/example/methodical_checker/methodicalchecker/promela/Stepper$Meeting"))) (by decide) (by decide))))) (Or.inr (slot_ne (Or.inl (hw _ (List.mem_of_getElem? (i := 22) rfl))) (Or.inl (hw _ (List.mem_of_getElem? (i := 32) rfl))) (by decide) (t := (.array .int)) (t' := (.array .int)) (by decide) (by decide))))) (Or.inr (slot_ne (Or.inl (hw _ (List.mem_of_getElem? (i := 22) rfl))) (Or.inl (hw _ (List.mem_of_getElem? (i := 34) rfl))) (by decide) (t := (.array .int)) (t' := (.array .int)) (by decide) (by decide))))) (Or.inr (slot_ne (Or.inl (hw _ (List.mem_of_getElem? (i := 22) rfl))) (Or.inl (hw _ (List.mem_of_getElem? (i := 36) rfl))) (by decide) (t := (.array .int)) (t' := (.array .int)) (by decide) (by decide))))) (Or.inr (slot_ne (Or.inl (hw _ (List.mem_of_getElem? (i := 22) rfl))) (Or.inl (hw _ (List.mem_of_getElem? (i := 38) rfl))) (by decide) (t := (.array .int)) (t' := (.array .int)) (by decide) (by decide))))) (Or.inr (slot_ne (Or.inl (hw _ (List.mem_of_getElem? (i := 22) rfl))) (Or.inl (hw _ (List.mem_of_getElem? (i := 40) rfl))) (by decide) (t := (.array .int)) (t' := (.array .int)) (by decide) (by decide))))) (Or.inr (slot_ne (Or.inl (hw _ (List.mem_of_getElem? (i := 22) rfl))) (Or.inl (hw _ (List.mem_of_getElem? (i := 42) rfl))) (by decide) (t := (.array .int)) (t' := (.array .int)) (by decide) (by decide))))) (Or.inr (slot_ne (Or.inl (hw _ (List.mem_of_getElem? (i := 22) rfl))) (Or.inl (hw _ (List.mem_of_getElem? (i := 44) rfl))) (by decide) (t := (.array .int)) (t' := (.array .int)) (by decide) (by decide))))) (Or.inr (slot_ne (Or.inl (hw _ (List.mem_of_getElem? (i := 22) rfl))) (Or.inl (hw _ (List.mem_of_getElem? (i := 46) rfl))) (by decide) (t := (.array .int)) (t' := (.array .int)) (by decide) (by decide))))) (Or.inr (slot_ne (Or.inl (hw _ (List.mem_of_getElem? (i := 22) rfl))) (Or.inl (hw _ (List.mem_of_getElem? (i := 48) rfl))) (by decide) (t := (.array .int)) (t' := (.array .int)) (by decide) (by decide)))) (Or.inr (slot_ne (Or.inl (hw _ (List.mem_of_getElem? (i := 22) rfl))) (Or.inl (hw _ (List.mem_of_getElem? (i := 50) rfl))) (by decide) (t := (.array .int)) (t' := .int) (by decide) (by decide))))
    have f69 : Fld Z h62 wk "com/example/methodical_checker/methodicalchecker/promela/Walk" "wayStep" "[Lcom/example/methodical_checker/methodicalchecker/promela/Transition;" (.ref b16) := (Fld.other W62 (Fld.other W59 (Fld.ext E56 (Fld.other W55 (Fld.ext E52 (Fld.other W51 (Fld.ext E48 (Fld.other W47 (Fld.ext E44 (Fld.other W43 (Fld.ext E40 (Fld.other W39 (Fld.ext E36 (Fld.other W35 (Fld.ext E32 (Fld.other W31 (Fld.ext E28 (Fld.other W27 (Fld.ext E24 (Fld.other W23 (Fld.ext E20 F19) (Or.inr (slot_ne (Or.inl (hw _ (List.mem_of_getElem? (i := 26) rfl))) (Or.inl (hw _ (List.mem_of_getElem? (i := 30) rfl))) (by decide) (t := (.array (.object "com/example/methodical_checker/methodicalchecker/promela/Transition"))) (t' := (.array (.object "com/example/methodical_checker/methodicalchecker/promela/Stepper$Meeting"))) (by decide) (by decide))))) (Or.inr (slot_ne (Or.inl (hw _ (List.mem_of_getElem? (i := 26) rfl))) (Or.inl (hw _ (List.mem_of_getElem? (i := 32) rfl))) (by decide) (t := (.array (.object "com/example/methodical_checker/methodicalchecker/promela/Transition"))) (t' := (.array .int)) (by decide) (by decide))))) (Or.inr (slot_ne (Or.inl (hw _ (List.mem_of_getElem? (i := 26) rfl))) (Or.inl (hw _ (List.mem_of_getElem? (i := 34) rfl))) (by decide) (t := (.array (.object "com/example/methodical_checker/methodicalchecker/promela/Transition"))) (t' := (.array .int)) (by decide) (by decide))))) (Or.inr (slot_ne (Or.inl (hw _ (List.mem_of_getElem? (i := 26) rfl))) (Or.inl (hw _ (List.mem_of_getElem? (i := 36) rfl))) (by decide) (t := (.array (.object "com/example/methodical_checker/methodicalchecker/promela/Transition"))) (t' := (.array .int)) (by decide) (by decide))))) (Or.inr (slot_ne (Or.inl (hw _ (List.mem_of_getElem? (i := 26) rfl))) (Or.inl (hw _ (List.mem_of_getElem? (i := 38) rfl))) (by decide) (t := (.array (.object "com/example/methodical_checker/methodicalchecker/promela/Transition"))) (t' := (.array .int)) (by decide) (by decide))))) (Or.inr (slot_ne (Or.inl (hw _ (List.mem_of_getElem? (i := 26) rfl))) (Or.inl (hw _ (List.mem_of_getElem? (i := 40) rfl))) (by decide) (t := (.array (.object "com/example/methodical_checker/methodicalchecker/promela/Transition"))) (t' := (.array .int)) (by decide) (by decide))))) (Or.inr (slot_ne (Or.inl (hw _ (List.mem_of_getElem? (i := 26) rfl))) (Or.inl (hw _ (List.mem_of_getElem? (i := 42) rfl))) (by decide) (t := (.array (.object "com/example/methodical_checker/methodicalchecker/promela/Transition"))) (t' := (.array .int)) (by decide) (by decide))))) (Or.inr (slot_ne (Or.inl (hw _ (List.mem_of_getElem? (i := 26) rfl))) (Or.inl (hw _ (List.mem_of_getElem? (i := 44) rfl))) (by decide) (t := (.array (.object "com/example/methodical_checker/methodicalchecker/promela/Transition"))) (t' := (.array .int)) (by decide) (by decide))))) (Or.inr (slot_ne (Or.inl (hw _ (List.mem_of_getElem? (i := 26) rfl))) (Or.inl (hw _ (List.mem_of_getElem? (i := 46) rfl))) (by decide) (t := (.array (.object "com/example/methodical_checker/methodicalchecker/promela/Transition"))) (t' := (.array .int)) (by decide) (by decide))))) (Or.inr (slot_ne (Or.inl (hw _ (List.mem_of_getElem? (i := 26) rfl))) (Or.inl (hw _ (List.mem_of_getElem? (i := 48) rfl))) (by decide) (t := (.array (.object "com/example/methodical_checker/methodicalchecker/promela/Transition"))) (t' := (.array .int)) (by decide) (by decide)))) (Or.inr (slot_ne (Or.inl (hw _ (List.mem_of_getElem? (i := 26) rfl))) (Or.inl (hw _ (List.mem_of_getElem? (i := 50) rfl))) (by decide) (t := (.array (.object "com/example/methodical_checker/methodicalchecker/promela/Transition"))) (t' := .int) (by decide) (by decide))))
    have f70 : Fld Z h62 wk "com/example/methodical_checker/methodicalchecker/promela/Walk" "wayMeeting" "[Lcom/example/methodical_checker/methodicalchecker/promela/Stepper$Meeting;" (.ref b20) := (Fld.other W62 (Fld.other W59 (Fld.ext E56 (Fld.other W55 (Fld.ext E52 (Fld.other W51 (Fld.ext E48 (Fld.other W47 (Fld.ext E44 (Fld.other W43 (Fld.ext E40 (Fld.other W39 (Fld.ext E36 (Fld.other W35 (Fld.ext E32 (Fld.other W31 (Fld.ext E28 (Fld.other W27 (Fld.ext E24 F23) (Or.inr (slot_ne (Or.inl (hw _ (List.mem_of_getElem? (i := 30) rfl))) (Or.inl (hw _ (List.mem_of_getElem? (i := 32) rfl))) (by decide) (t := (.array (.object "com/example/methodical_checker/methodicalchecker/promela/Stepper$Meeting"))) (t' := (.array .int)) (by decide) (by decide))))) (Or.inr (slot_ne (Or.inl (hw _ (List.mem_of_getElem? (i := 30) rfl))) (Or.inl (hw _ (List.mem_of_getElem? (i := 34) rfl))) (by decide) (t := (.array (.object "com/example/methodical_checker/methodicalchecker/promela/Stepper$Meeting"))) (t' := (.array .int)) (by decide) (by decide))))) (Or.inr (slot_ne (Or.inl (hw _ (List.mem_of_getElem? (i := 30) rfl))) (Or.inl (hw _ (List.mem_of_getElem? (i := 36) rfl))) (by decide) (t := (.array (.object "com/example/methodical_checker/methodicalchecker/promela/Stepper$Meeting"))) (t' := (.array .int)) (by decide) (by decide))))) (Or.inr (slot_ne (Or.inl (hw _ (List.mem_of_getElem? (i := 30) rfl))) (Or.inl (hw _ (List.mem_of_getElem? (i := 38) rfl))) (by decide) (t := (.array (.object "com/example/methodical_checker/methodicalchecker/promela/Stepper$Meeting"))) (t' := (.array .int)) (by decide) (by decide))))) (Or.inr (slot_ne (Or.inl (hw _ (List.mem_of_getElem? (i := 30) rfl))) (Or.inl (hw _ (List.mem_of_getElem? (i := 40) rfl))) (by decide) (t := (.array (.object "com/example/methodical_checker/methodicalchecker/promela/Stepper$Meeting"))) (t' := (.array .int)) (by decide) (by decide))))) (Or.inr (slot_ne (Or.inl (hw _ (List.mem_of_getElem? (i := 30) rfl))) (Or.inl (hw _ (List.mem_of_getElem? (i := 42) rfl))) (by decide) (t := (.array (.object "com/example/methodical_checker/methodicalchecker/promela/Stepper$Meeting"))) (t' := (.array .int)) (by decide) (by decide))))) (Or.inr (slot_ne (Or.inl (hw _ (List.mem_of_getElem? (i := 30) rfl))) (Or.inl (hw _ (List.mem_of_getElem? (i := 44) rfl))) (by decide) (t := (.array (.object "com/example/methodical_checker/methodicalchecker/promela/Stepper$Meeting"))) (t' := (.array .int)) (by decide) (by decide))))) (Or.inr (slot_ne (Or.inl (hw _ (List.mem_of_getElem? (i := 30) rfl))) (Or.inl (hw _ (List.mem_of_getElem? (i := 46) rfl))) (by decide) (t := (.array (.object "com/example/methodical_checker/methodicalchecker/promela/Stepper$Meeting"))) (t' := (.array .int)) (by decide) (by decide))))) (Or.inr (slot_ne (Or.inl (hw _ (List.mem_of_getElem? (i := 30) rfl))) (Or.inl (hw _ (List.mem_of_getElem? (i := 48) rfl))) (by decide) (t := (.array (.object "com/example/methodical_checker/methodicalchecker/promela/Stepper$Meeting"))) (t' := (.array .int)) (by decide) (by decide)))) (Or.inr (slot_ne (Or.inl (hw _ (List.mem_of_getElem? (i := 30) rfl))) (Or.inl (hw _ (List.mem_of_getElem? (i := 50) rfl))) (by decide) (t := (.array (.object "com/example/methodical_checker/methodicalchecker/promela/Stepper$Meeting"))) (t' := .int) (by decide) (by decide))))
    have f71 : Fld Z h62 wk "com/example/methodical_checker/methodicalchecker/promela/Walk" "wayStepsBefore" "[I" (.ref b24) := (Fld.other W62 (Fld.other W59 (Fld.ext E56 (Fld.other W55 (Fld.ext E52 (Fld.other W51 (Fld.ext E48 (Fld.other W47 (Fld.ext E44 (Fld.other W43 (Fld.ext E40 (Fld.other W39 (Fld.ext E36 (Fld.other W35 (Fld.ext E32 (Fld.other W31 (Fld.ext E28 F27) (Or.inr (slot_ne (Or.inl (hw _ (List.mem_of_getElem? (i := 32) rfl))) (Or.inl (hw _ (List.mem_of_getElem? (i := 34) rfl))) (by decide) (t := (.array .int)) (t' := (.array .int)) (by decide) (by decide))))) (Or.inr (slot_ne (Or.inl (hw _ (List.mem_of_getElem? (i := 32) rfl))) (Or.inl (hw _ (List.mem_of_getElem? (i := 36) rfl))) (by decide) (t := (.array .int)) (t' := (.array .int)) (by decide) (by decide))))) (Or.inr (slot_ne (Or.inl (hw _ (List.mem_of_getElem? (i := 32) rfl))) (Or.inl (hw _ (List.mem_of_getElem? (i := 38) rfl))) (by decide) (t := (.array .int)) (t' := (.array .int)) (by decide) (by decide))))) (Or.inr (slot_ne (Or.inl (hw _ (List.mem_of_getElem? (i := 32) rfl))) (Or.inl (hw _ (List.mem_of_getElem? (i := 40) rfl))) (by decide) (t := (.array .int)) (t' := (.array .int)) (by decide) (by decide))))) (Or.inr (slot_ne (Or.inl (hw _ (List.mem_of_getElem? (i := 32) rfl))) (Or.inl (hw _ (List.mem_of_getElem? (i := 42) rfl))) (by decide) (t := (.array .int)) (t' := (.array .int)) (by decide) (by decide))))) (Or.inr (slot_ne (Or.inl (hw _ (List.mem_of_getElem? (i := 32) rfl))) (Or.inl (hw _ (List.mem_of_getElem? (i := 44) rfl))) (by decide) (t := (.array .int)) (t' := (.array .int)) (by decide) (by decide))))) (Or.inr (slot_ne (Or.inl (hw _ (List.mem_of_getElem? (i := 32) rfl))) (Or.inl (hw _ (List.mem_of_getElem? (i := 46) rfl))) (by decide) (t := (.array .int)) (t' := (.array .int)) (by decide) (by decide))))) (Or.inr (slot_ne (Or.inl (hw _ (List.mem_of_getElem? (i := 32) rfl))) (Or.inl (hw _ (List.mem_of_getElem? (i := 48) rfl))) (by decide) (t := (.array .int)) (t' := (.array .int)) (by decide) (by decide)))) (Or.inr (slot_ne (Or.inl (hw _ (List.mem_of_getElem? (i := 32) rfl))) (Or.inl (hw _ (List.mem_of_getElem? (i := 50) rfl))) (by decide) (t := (.array .int)) (t' := .int) (by decide) (by decide))))
    have f72 : Fld Z h62 wk "com/example/methodical_checker/methodicalchecker/promela/Walk" "wayBefore" "[I" (.ref b28) := (Fld.other W62 (Fld.other W59 (Fld.ext E56 (Fld.other W55 (Fld.ext E52 (Fld.other W51 (Fld.ext E48 (Fld.other W47 (Fld.ext E44 (Fld.other W43 (Fld.ext E40 (Fld.other W39 (Fld.ext E36 (Fld.other W35 (Fld.ext E32 F31) (Or.inr (slot_ne (Or.inl (hw _ (List.mem_of_getElem? (i := 34) rfl))) (Or.inl (hw _ (List.mem_of_getElem? (i := 36) rfl))) (by decide) (t := (.array .int)) (t' := (.array .int)) (by decide) (by decide))))) (Or.inr (slot_ne (Or.inl (hw _ (List.mem_of_getElem? (i := 34) rfl))) (Or.inl (hw _ (List.mem_of_getElem? (i := 38) rfl))) (by decide) (t := (.array .int)) (t' := (.array .int)) (by decide) (by decide))))) (Or.inr (slot_ne (Or.inl (hw _ (List.mem_of_getElem? (i := 34) rfl))) (Or.inl (hw _ (List.mem_of_getElem? (i := 40) rfl))) (by decide) (t := (.array .int)) (t' := (.array .int)) (by decide) (by decide))))) (Or.inr (slot_ne (Or.inl (hw _ (List.mem_of_getElem? (i := 34) rfl))) (Or.inl (hw _ (List.mem_of_getElem? (i := 42) rfl))) (by decide) (t := (.array .int)) (t' := (.array .int)) (by decide) (by decide))))) (Or.inr (slot_ne (Or.inl (hw _ (List.mem_of_getElem? (i := 34) rfl))) (Or.inl (hw _ (List.mem_of_getElem? (i := 44) rfl))) (by decide) (t := (.array .int)) (t' := (.array .int)) (by decide) (by decide))))) (Or.inr (slot_ne (Or.inl (hw _ (List.mem_of_getElem? (i := 34) rfl))) (Or.inl (hw _ (List.mem_of_getElem? (i := 46) rfl))) (by decide) (t := (.array .int)) (t' := (.array .int)) (by decide) (by decide))))) (Or.inr (slot_ne (Or.inl (hw _ (List.mem_of_getElem? (i := 34) rfl))) (Or.inl (hw _ (List.mem_of_getElem? (i := 48) rfl))) (by decide) (t := (.array .int)) (t' := (.array .int)) (by decide) (by decide)))) (Or.inr (slot_ne (Or.inl (hw _ (List.mem_of_getElem? (i := 34) rfl))) (Or.inl (hw _ (List.mem_of_getElem? (i := 50) rfl))) (by decide) (t := (.array .int)) (t' := .int) (by decide) (by decide))))
    have f73 : Fld Z h62 wk "com/example/methodical_checker/methodicalchecker/promela/Walk" "pending" "[I" (.ref b32) := (Fld.other W62 (Fld.other W59 (Fld.ext E56 (Fld.other W55 (Fld.ext E52 (Fld.other W51 (Fld.ext E48 (Fld.other W47 (Fld.ext E44 (Fld.other W43 (Fld.ext E40 (Fld.other W39 (Fld.ext E36 F35) (Or.inr (slot_ne (Or.inl (hw _ (List.mem_of_getElem? (i := 36) rfl))) (Or.inl (hw _ (List.mem_of_getElem? (i := 38) rfl))) (by decide) (t := (.array .int)) (t' := (.array .int)) (by decide) (by decide))))) (Or.inr (slot_ne (Or.inl (hw _ (List.mem_of_getElem? (i := 36) rfl))) (Or.inl (hw _ (List.mem_of_getElem? (i := 40) rfl))) (by decide) (t := (.array .int)) (t' := (.array .int)) (by decide) (by decide))))) (Or.inr (slot_ne (Or.inl (hw _ (List.mem_of_getElem? (i := 36) rfl))) (Or.inl (hw _ (List.mem_of_getElem? (i := 42) rfl))) (by decide) (t := (.array .int)) (t' := (.array .int)) (by decide) (by decide))))) (Or.inr (slot_ne (Or.inl (hw _ (List.mem_of_getElem? (i := 36) rfl))) (Or.inl (hw _ (List.mem_of_getElem? (i := 44) rfl))) (by decide) (t := (.array .int)) (t' := (.array .int)) (by decide) (by decide))))) (Or.inr (slot_ne (Or.inl (hw _ (List.mem_of_getElem? (i := 36) rfl))) (Or.inl (hw _ (List.mem_of_getElem? (i := 46) rfl))) (by decide) (t := (.array .int)) (t' := (.array .int)) (by decide) (by decide))))) (Or.inr (slot_ne (Or.inl (hw _ (List.mem_of_getElem? (i := 36) rfl))) (Or.inl (hw _ (List.mem_of_getElem? (i := 48) rfl))) (by decide) (t := (.array .int)) (t' := (.array .int)) (by decide) (by decide)))) (Or.inr (slot_ne (Or.inl (hw _ (List.mem_of_getElem? (i := 36) rfl))) (Or.inl (hw _ (List.mem_of_getElem? (i := 50) rfl))) (by decide) (t := (.array .int)) (t' := .int) (by decide) (by decide))))
    have f74 : Arv Z h62 b8 k8 .int (16 : Int32) [(.int (0 : Int32)), (.int (0 : Int32)), (.int (0 : Int32)), (.int (0 : Int32)), (.int (0 : Int32)), (.int (0 : Int32)), (.int (0 : Int32)), (.int (0 : Int32)), (.int (0 : Int32)), (.int (0 : Int32)), (.int (0 : Int32)), (.int (0 : Int32)), (.int (0 : Int32)), (.int (0 : Int32)), (.int (0 : Int32)), (.int (0 : Int32))] (.int (0 : Int32)) := ((((((((((((((((((((((((((V8.other W11 (show @Ne Nat b8 wk from by omega)).ext E12).other W15 (show @Ne Nat b8 wk from by omega)).ext E16).other W19 (show @Ne Nat b8 wk from by omega)).ext E20).other W23 (show @Ne Nat b8 wk from by omega)).ext E24).other W27 (show @Ne Nat b8 wk from by omega)).ext E28).other W31 (show @Ne Nat b8 wk from by omega)).ext E32).other W35 (show @Ne Nat b8 wk from by omega)).ext E36).other W39 (show @Ne Nat b8 wk from by omega)).ext E40).other W43 (show @Ne Nat b8 wk from by omega)).ext E44).other W47 (show @Ne Nat b8 wk from by omega)).ext E48).other W51 (show @Ne Nat b8 wk from by omega)).ext E52).other W55 (show @Ne Nat b8 wk from by omega)).ext E56).other W59 (show @Ne Nat b8 wk from by omega)).other W62 (show @Ne Nat b8 wk from by omega))
    have f75 : Arv Z h62 b12 k12 .int (16 : Int32) [(.int (0 : Int32)), (.int (0 : Int32)), (.int (0 : Int32)), (.int (0 : Int32)), (.int (0 : Int32)), (.int (0 : Int32)), (.int (0 : Int32)), (.int (0 : Int32)), (.int (0 : Int32)), (.int (0 : Int32)), (.int (0 : Int32)), (.int (0 : Int32)), (.int (0 : Int32)), (.int (0 : Int32)), (.int (0 : Int32)), (.int (0 : Int32))] (.int (0 : Int32)) := ((((((((((((((((((((((((V12.other W15 (show @Ne Nat b12 wk from by omega)).ext E16).other W19 (show @Ne Nat b12 wk from by omega)).ext E20).other W23 (show @Ne Nat b12 wk from by omega)).ext E24).other W27 (show @Ne Nat b12 wk from by omega)).ext E28).other W31 (show @Ne Nat b12 wk from by omega)).ext E32).other W35 (show @Ne Nat b12 wk from by omega)).ext E36).other W39 (show @Ne Nat b12 wk from by omega)).ext E40).other W43 (show @Ne Nat b12 wk from by omega)).ext E44).other W47 (show @Ne Nat b12 wk from by omega)).ext E48).other W51 (show @Ne Nat b12 wk from by omega)).ext E52).other W55 (show @Ne Nat b12 wk from by omega)).ext E56).other W59 (show @Ne Nat b12 wk from by omega)).other W62 (show @Ne Nat b12 wk from by omega))
    have f76 : Arv Z h62 b16 k16 (.object "com/example/methodical_checker/methodicalchecker/promela/Transition") (16 : Int32) [.null, .null, .null, .null, .null, .null, .null, .null, .null, .null, .null, .null, .null, .null, .null, .null] .null := ((((((((((((((((((((((V16.other W19 (show @Ne Nat b16 wk from by omega)).ext E20).other W23 (show @Ne Nat b16 wk from by omega)).ext E24).other W27 (show @Ne Nat b16 wk from by omega)).ext E28).other W31 (show @Ne Nat b16 wk from by omega)).ext E32).other W35 (show @Ne Nat b16 wk from by omega)).ext E36).other W39 (show @Ne Nat b16 wk from by omega)).ext E40).other W43 (show @Ne Nat b16 wk from by omega)).ext E44).other W47 (show @Ne Nat b16 wk from by omega)).ext E48).other W51 (show @Ne Nat b16 wk from by omega)).ext E52).other W55 (show @Ne Nat b16 wk from by omega)).ext E56).other W59 (show @Ne Nat b16 wk from by omega)).other W62 (show @Ne Nat b16 wk from by omega))
    have f77 : Arv Z h62 b20 k20 (.object "com/example/methodical_checker/methodicalchecker/promela/Stepper$Meeting") (16 : Int32) [.null, .null, .null, .null, .null, .null, .null, .null, .null, .null, .null, .null, .null, .null, .null, .null] .null := ((((((((((((((((((((V20.other W23 (show @Ne Nat b20 wk from by omega)).ext E24).other W27 (show @Ne Nat b20 wk from by omega)).ext E28).other W31 (show @Ne Nat b20 wk from by omega)).ext E32).other W35 (show @Ne Nat b20 wk from by omega)).ext E36).other W39 (show @Ne Nat b20 wk from by omega)).ext E40).other W43 (show @Ne Nat b20 wk from by omega)).ext E44).other W47 (show @Ne Nat b20 wk from by omega)).ext E48).other W51 (show @Ne Nat b20 wk from by omega)).ext E52).other W55 (show @Ne Nat b20 wk from by omega)).ext E56).other W59 (show @Ne Nat b20 wk from by omega)).other W62 (show @Ne Nat b20 wk from by omega))
    have f78 : Arv Z h62 b24 k24 .int (16 : Int32) [(.int (0 : Int32)), (.int (0 : Int32)), (.int (0 : Int32)), (.int (0 : Int32)), (.int (0 : Int32)), (.int (0 : Int32)), (.int (0 : Int32)), (.int (0 : Int32)), (.int (0 : Int32)), (.int (0 : Int32)), (.int (0 : Int32)), (.int (0 : Int32)), (.int (0 : Int32)), (.int (0 : Int32)), (.int (0 : Int32)), (.int (0 : Int32))] (.int (0 : Int32)) := ((((((((((((((((((V24.other W27 (show @Ne Nat b24 wk from by omega)).ext E28).other W31 (show @Ne Nat b24 wk from by omega)).ext E32).other W35 (show @Ne Nat b24 wk from by omega)).ext E36).other W39 (show @Ne Nat b24 wk from by omega)).ext E40).other W43 (show @Ne Nat b24 wk from by omega)).ext E44).other W47 (show @Ne Nat b24 wk from by omega)).ext E48).other W51 (show @Ne Nat b24 wk from by omega)).ext E52).other W55 (show @Ne Nat b24 wk from by omega)).ext E56).other W59 (show @Ne Nat b24 wk from by omega)).other W62 (show @Ne Nat b24 wk from by omega))
    have f79 : Arv Z h62 b28 k28 .int (16 : Int32) [(.int (0 : Int32)), (.int (0 : Int32)), (.int (0 : Int32)), (.int (0 : Int32)), (.int (0 : Int32)), (.int (0 : Int32)), (.int (0 : Int32)), (.int (0 : Int32)), (.int (0 : Int32)), (.int (0 : Int32)), (.int (0 : Int32)), (.int (0 : Int32)), (.int (0 : Int32)), (.int (0 : Int32)), (.int (0 : Int32)), (.int (0 : Int32))] (.int (0 : Int32)) := ((((((((((((((((V28.other W31 (show @Ne Nat b28 wk from by omega)).ext E32).other W35 (show @Ne Nat b28 wk from by omega)).ext E36).other W39 (show @Ne Nat b28 wk from by omega)).ext E40).other W43 (show @Ne Nat b28 wk from by omega)).ext E44).other W47 (show @Ne Nat b28 wk from by omega)).ext E48).other W51 (show @Ne Nat b28 wk from by omega)).ext E52).other W55 (show @Ne Nat b28 wk from by omega)).ext E56).other W59 (show @Ne Nat b28 wk from by omega)).other W62 (show @Ne Nat b28 wk from by omega))
    have f80 : Arv Z h62 b32 k32 .int (16 : Int32) [(.int (0 : Int32)), (.int (0 : Int32)), (.int (0 : Int32)), (.int (0 : Int32)), (.int (0 : Int32)), (.int (0 : Int32)), (.int (0 : Int32)), (.int (0 : Int32)), (.int (0 : Int32)), (.int (0 : Int32)), (.int (0 : Int32)), (.int (0 : Int32)), (.int (0 : Int32)), (.int (0 : Int32)), (.int (0 : Int32)), (.int (0 : Int32))] (.int (0 : Int32)) := ((((((((((((((V32.other W35 (show @Ne Nat b32 wk from by omega)).ext E36).other W39 (show @Ne Nat b32 wk from by omega)).ext E40).other W43 (show @Ne Nat b32 wk from by omega)).ext E44).other W47 (show @Ne Nat b32 wk from by omega)).ext E48).other W51 (show @Ne Nat b32 wk from by omega)).ext E52).other W55 (show @Ne Nat b32 wk from by omega)).ext E56).other W59 (show @Ne Nat b32 wk from by omega)).other W62 (show @Ne Nat b32 wk from by omega))
    have hq63 : Q2 Z wk h0 n0 none h62 _ := ⟨rfl, N62, (by omega), ⟨b8, b12, b16, b20, b24, b28, b32, _, _, _, _, _, _, _, _, _, _, _, _, _, _, f64, f65, f66, f67, f68, f69, f70, f71, f72, f73, f74, f75, f76, f77, f78, f79, f80, ⟨rfl, rfl, rfl, rfl, rfl, rfl, rfl⟩, ⟨g_wk, by omega, by omega, by omega, by omega, by omega, by omega, by omega⟩, fun i q hq => by simp at hq⟩⟩
    exact own_retV X62 hx hlk hrt (hb hby d2_120) e62 hq63 (by decide) (by decide)
theorem d5_0 : decode prog_121_method_8_code 0 = .ok (.aload_n 0, 1) := by decide +kernel
theorem d5_1 : decode prog_121_method_8_code 1 = .ok (.getfield 73, 3) := by decide +kernel
theorem d5_4 : decode prog_121_method_8_code 4 = .ok (.aload_n 0, 1) := by decide +kernel
theorem d5_5 : decode prog_121_method_8_code 5 = .ok (.getfield 15, 3) := by decide +kernel
theorem d5_8 : decode prog_121_method_8_code 8 = .ok (.arraylength, 1) := by decide +kernel
theorem d5_9 : decode prog_121_method_8_code 9 = .ok (.if_icmp .ne 95, 3) := by decide +kernel
theorem d5_104 : decode prog_121_method_8_code 104 = .ok (.aload_n 0, 1) := by decide +kernel
theorem d5_105 : decode prog_121_method_8_code 105 = .ok (.getfield 15, 3) := by decide +kernel
theorem d5_108 : decode prog_121_method_8_code 108 = .ok (.aload_n 0, 1) := by decide +kernel
theorem d5_109 : decode prog_121_method_8_code 109 = .ok (.getfield 73, 3) := by decide +kernel
theorem d5_112 : decode prog_121_method_8_code 112 = .ok (.iload_n 1, 1) := by decide +kernel
theorem d5_113 : decode prog_121_method_8_code 113 = .ok (.iastore, 1) := by decide +kernel
theorem d5_114 : decode prog_121_method_8_code 114 = .ok (.aload_n 0, 1) := by decide +kernel
theorem d5_115 : decode prog_121_method_8_code 115 = .ok (.getfield 18, 3) := by decide +kernel
theorem d5_118 : decode prog_121_method_8_code 118 = .ok (.aload_n 0, 1) := by decide +kernel
theorem d5_119 : decode prog_121_method_8_code 119 = .ok (.getfield 73, 3) := by decide +kernel
theorem d5_122 : decode prog_121_method_8_code 122 = .ok (.iload_n 2, 1) := by decide +kernel
theorem d5_123 : decode prog_121_method_8_code 123 = .ok (.iastore, 1) := by decide +kernel
theorem d5_124 : decode prog_121_method_8_code 124 = .ok (.aload_n 0, 1) := by decide +kernel
theorem d5_125 : decode prog_121_method_8_code 125 = .ok (.getfield 23, 3) := by decide +kernel
theorem d5_128 : decode prog_121_method_8_code 128 = .ok (.aload_n 0, 1) := by decide +kernel
theorem d5_129 : decode prog_121_method_8_code 129 = .ok (.getfield 73, 3) := by decide +kernel
theorem d5_132 : decode prog_121_method_8_code 132 = .ok (.aload_n 3, 1) := by decide +kernel
theorem d5_133 : decode prog_121_method_8_code 133 = .ok (.aastore, 1) := by decide +kernel
theorem d5_134 : decode prog_121_method_8_code 134 = .ok (.aload_n 0, 1) := by decide +kernel
theorem d5_135 : decode prog_121_method_8_code 135 = .ok (.getfield 29, 3) := by decide +kernel
theorem d5_138 : decode prog_121_method_8_code 138 = .ok (.aload_n 0, 1) := by decide +kernel
theorem d5_139 : decode prog_121_method_8_code 139 = .ok (.getfield 73, 3) := by decide +kernel
theorem d5_142 : decode prog_121_method_8_code 142 = .ok (.aload 4, 2) := by decide +kernel
theorem d5_144 : decode prog_121_method_8_code 144 = .ok (.aastore, 1) := by decide +kernel
theorem d5_145 : decode prog_121_method_8_code 145 = .ok (.aload_n 0, 1) := by decide +kernel
theorem d5_146 : decode prog_121_method_8_code 146 = .ok (.getfield 33, 3) := by decide +kernel
theorem d5_149 : decode prog_121_method_8_code 149 = .ok (.aload_n 0, 1) := by decide +kernel
theorem d5_150 : decode prog_121_method_8_code 150 = .ok (.getfield 73, 3) := by decide +kernel
theorem d5_153 : decode prog_121_method_8_code 153 = .ok (.iload 5, 2) := by decide +kernel
theorem d5_155 : decode prog_121_method_8_code 155 = .ok (.iastore, 1) := by decide +kernel
theorem d5_156 : decode prog_121_method_8_code 156 = .ok (.aload_n 0, 1) := by decide +kernel
theorem d5_157 : decode prog_121_method_8_code 157 = .ok (.getfield 36, 3) := by decide +kernel
theorem d5_160 : decode prog_121_method_8_code 160 = .ok (.aload_n 0, 1) := by decide +kernel
theorem d5_161 : decode prog_121_method_8_code 161 = .ok (.getfield 73, 3) := by decide +kernel
theorem d5_164 : decode prog_121_method_8_code 164 = .ok (.iload 6, 2) := by decide +kernel
theorem d5_166 : decode prog_121_method_8_code 166 = .ok (.iastore, 1) := by decide +kernel
theorem d5_167 : decode prog_121_method_8_code 167 = .ok (.aload_n 0, 1) := by decide +kernel
theorem d5_168 : decode prog_121_method_8_code 168 = .ok (.getfield 76, 3) := by decide +kernel
theorem d5_171 : decode prog_121_method_8_code 171 = .ok (.aload_n 0, 1) := by decide +kernel
theorem d5_172 : decode prog_121_method_8_code 172 = .ok (.getfield 39, 3) := by decide +kernel
theorem d5_175 : decode prog_121_method_8_code 175 = .ok (.arraylength, 1) := by decide +kernel
theorem d5_176 : decode prog_121_method_8_code 176 = .ok (.if_icmp .ne 20, 3) := by decide +kernel
theorem d5_196 : decode prog_121_method_8_code 196 = .ok (.aload_n 0, 1) := by decide +kernel
theorem d5_197 : decode prog_121_method_8_code 197 = .ok (.getfield 39, 3) := by decide +kernel
theorem d5_200 : decode prog_121_method_8_code 200 = .ok (.aload_n 0, 1) := by decide +kernel
theorem d5_201 : decode prog_121_method_8_code 201 = .ok (.getfield 76, 3) := by decide +kernel
theorem d5_204 : decode prog_121_method_8_code 204 = .ok (.aload_n 0, 1) := by decide +kernel
theorem d5_205 : decode prog_121_method_8_code 205 = .ok (.getfield 73, 3) := by decide +kernel
theorem d5_208 : decode prog_121_method_8_code 208 = .ok (.iastore, 1) := by decide +kernel
theorem d5_209 : decode prog_121_method_8_code 209 = .ok (.aload_n 0, 1) := by decide +kernel
theorem d5_210 : decode prog_121_method_8_code 210 = .ok (.dup, 1) := by decide +kernel
theorem d5_211 : decode prog_121_method_8_code 211 = .ok (.getfield 76, 3) := by decide +kernel
theorem d5_214 : decode prog_121_method_8_code 214 = .ok (.iconst 1, 1) := by decide +kernel
theorem d5_215 : decode prog_121_method_8_code 215 = .ok (.iadd, 1) := by decide +kernel
theorem d5_216 : decode prog_121_method_8_code 216 = .ok (.putfield 76, 3) := by decide +kernel
theorem d5_219 : decode prog_121_method_8_code 219 = .ok (.aload_n 0, 1) := by decide +kernel
theorem d5_220 : decode prog_121_method_8_code 220 = .ok (.dup, 1) := by decide +kernel
theorem d5_221 : decode prog_121_method_8_code 221 = .ok (.getfield 73, 3) := by decide +kernel
theorem d5_224 : decode prog_121_method_8_code 224 = .ok (.iconst 1, 1) := by decide +kernel
theorem d5_225 : decode prog_121_method_8_code 225 = .ok (.iadd, 1) := by decide +kernel
theorem d5_226 : decode prog_121_method_8_code 226 = .ok (.putfield 73, 3) := by decide +kernel
theorem d5_229 : decode prog_121_method_8_code 229 = .ok (.return_, 1) := by decide +kernel
theorem pn_5 : plainName "com/example/methodical_checker/methodicalchecker/promela/Walk" = true := by first | (simp [plainName, overriddenIn]; done) | decide +kernel
theorem ef_5 (m : MethodId) (x0 : Addr) (x1 : Int32) (x2 : Int32) (x5 : Int32) (x6 : Int32) : entryFrame m #[(.ref x0), (.int x1), (.int x2), .null, .null, (.int x5), (.int x6)] 8 = mkF m 0 #[.val (.ref x0), .val (.int x1), .val (.int x2), .val .null, .val .null, .val (.int x5), .val (.int x6), .unset] [] := by first | (simp [entryFrame, mkF, argsToLocals, Value.category]; done) | rfl
def Q5 (Z : State) (wk : Addr) (pf : Int32) (pr : Int32) (sb : Int32) (bf : Int32) (wc : Int32) (ps : List Int32) (h0 : Heap) (n0 : Nat) (v : Option Value) (h : Heap) (L : List Loc) : Prop := v = none ∧ Fr n0 L ∧ h0.size ≤ h.size ∧ own_WK Z h n0 wk (wc + 1) (ps ++ [wc])
set_option maxRecDepth 65536 in
set_option maxHeartbeats 40000000 in
theorem rm5 (l : Launch) (Z : State) (a0 : Array Value) (hw : ∀ d ∈ tables_1, d.before a0 Z = true) (ws : List Jvm.Cond) (wk : Addr) (pf : Int32) (pr : Int32) (sb : Int32) (bf : Int32) (wc : Int32) (ps : List Int32) (h0 : Heap) (n0 : Nat) (Z0 : n0 ≤ h0.size) (P0 : own_WK Z h0 n0 wk wc ps) (hwc : 0 ≤ wc.toInt ∧ wc.toInt < 16) (hps : ps.length < 16) :
    MetFree l (⟨"com/example/methodical_checker/methodicalchecker/promela/Walk", "push", "(IILcom/example/methodical_checker/methodicalchecker/promela/Transition;Lcom/example/methodical_checker/methodicalchecker/promela/Stepper$Meeting;II)V"⟩ : MethodName) (head1 (Jvm.Cond.code (⟨"com/example/methodical_checker/methodicalchecker/promela/Walk", "push", "(IILcom/example/methodical_checker/methodicalchecker/promela/Transition;Lcom/example/methodical_checker/methodicalchecker/promela/Stepper$Meeting;II)V"⟩ : MethodName) prog_121_method_8_code 8 none :: ws) ({ frames := 0, cells := 0, slots := 0, locals := 0 } : Room)) (fun a U => a = #[(.ref wk), (.int pf), (.int pr), .null, .null, (.int sb), (.int bf)] ∧ Z.Warmed39 U.vm ∧ U.heap = h0) (fun _ _ _ _ _ => True) (fun _ U o U' => ∃ v L, o = .returned v ∧ Q5 Z wk pf pr sb bf wc ps h0 n0 v U'.heap L ∧ FrameEnd U o U' L ({ frames := 0, cells := 0, slots := 0, locals := 0 } : Room).cells ({ frames := 0, cells := 0, slots := 0, locals := 0 } : Room).slots) := by
  refine MetFree.of_bodySF (plainFor_of_name pn_5) hisR ?_
  intro p e s m args below meth c s₁ Bd hml0 hP hK
  obtain ⟨rfl, hZ, hh⟩ := hP
  have hx := Bd.exec
  have hby := Bd.bytes
  have hml : c.maxLocals = 8 := hml0
  have hown : s.vm.findClass "com/example/methodical_checker/methodicalchecker/promela/Walk" = some m.cls := findClass_of_methodNamed Bd.named
  have hnm := (name_of_methodNamed Bd.named Bd.method).1
  have hlk : meth.locks = false := BodyLoose.notSynchronized Bd
  have hrt := Bd.returns
  have X0 : Stand p l e ({ frames := 0, cells := 0, slots := 0, locals := 0 } : Room) s m #[(.ref wk), (.int pf), (.int pr), .null, .null, (.int sb), (.int bf)] below meth c s₁ [] 0 0 := Stand.of_body Bd
  have e0 : s₁.heap = h0 := by rw [← hh, Bd.state]; rfl
  have N0 := Fr.nil n0
  show own_Fin p.tables e below (own_post (Q5 Z wk pf pr sb bf wc ps h0 n0) s ({ frames := 0, cells := 0, slots := 0, locals := 0 } : Room).cells ({ frames := 0, cells := 0, slots := 0, locals := 0 } : Room).slots) (s₁.setTop (entryFrame m #[(.ref wk), (.int pf), (.int pr), .null, .null, (.int sb), (.int bf)] 8))
  refine own_Fin.step (fun t k => castTop (ef_5 m wk pf pr sb bf) k) ?_
  obtain ⟨a1, a2, a3, a4, a5, a6, a7, k1, k2, k3, k4, k5, k6, k7, v1, v2, v3, v4, v5, v6, v7, G0, G1, G2, G3, G4, G5, G6, G7, G8, G9, G10, G11, G12, G13, G14, G15, G16, hl, ho, he⟩ := P0
  obtain ⟨hl1, hl2, hl3, hl4, hl5, hl6, hl7⟩ := hl
  obtain ⟨ho0, ho1, ho2, ho3, ho4, ho5, ho6, ho7⟩ := ho
  have lG0 : @LT.lt Nat _ wk (Array.size h0) := G0.lt
  have lG1 : @LT.lt Nat _ wk (Array.size h0) := G1.lt
  have lG2 : @LT.lt Nat _ wk (Array.size h0) := G2.lt
  have lG3 : @LT.lt Nat _ wk (Array.size h0) := G3.lt
  have lG4 : @LT.lt Nat _ wk (Array.size h0) := G4.lt
  have lG5 : @LT.lt Nat _ wk (Array.size h0) := G5.lt
  have lG6 : @LT.lt Nat _ wk (Array.size h0) := G6.lt
  have lG7 : @LT.lt Nat _ wk (Array.size h0) := G7.lt
  have lG8 : @LT.lt Nat _ wk (Array.size h0) := G8.lt
  have lG9 : @LT.lt Nat _ wk (Array.size h0) := G9.lt
  have lG10 : @LT.lt Nat _ a1 (Array.size h0) := G10.lt
  have lG11 : @LT.lt Nat _ a2 (Array.size h0) := G11.lt
  have lG12 : @LT.lt Nat _ a3 (Array.size h0) := G12.lt
  have lG13 : @LT.lt Nat _ a4 (Array.size h0) := G13.lt
  have lG14 : @LT.lt Nat _ a5 (Array.size h0) := G14.lt
  have lG15 : @LT.lt Nat _ a6 (Array.size h0) := G15.lt
  have lG16 : @LT.lt Nat _ a7 (Array.size h0) := G16.lt
  refine own_Fin.step (S' := s₁.setTop (mkF m 1 #[.val (.ref wk), .val (.int pf), .val (.int pr), .val .null, .val .null, .val (.int sb), .val (.int bf), .unset] [(.ref wk)])) (fun t k => XS.aloadN X0.here hx rfl (hb hby d5_0) rfl rfl  k) ?_
  obtain ⟨T81, X81, e81, st81⟩ := getF X0 hx hZ hown (host := "") (Or.inl (hw _ (List.mem_of_getElem? (i := 60) rfl))) Via.refl e0 G1 (g := (mkF m 1 #[.val (.ref wk), .val (.int pf), .val (.int pr), .val .null, .val .null, .val (.int sb), .val (.int bf), .unset] [(.ref wk)])) rfl rfl (hb hby d5_1)
  refine own_Fin.step (S' := T81.setTop (mkF m 4 #[.val (.ref wk), .val (.int pf), .val (.int pr), .val .null, .val .null, .val (.int sb), .val (.int bf), .unset] [(.int wc)])) st81 ?_
  refine own_Fin.step (S' := T81.setTop (mkF m 5 #[.val (.ref wk), .val (.int pf), .val (.int pr), .val .null, .val .null, .val (.int sb), .val (.int bf), .unset] [(.ref wk), (.int wc)])) (fun t k => XS.aloadN X81.here hx rfl (hb hby d5_4) rfl rfl  k) ?_
  obtain ⟨T82, X82, e82, st82⟩ := getF X81 hx hZ hown (host := "") (Or.inl (hw _ (List.mem_of_getElem? (i := 19) rfl))) Via.refl e81 G3 (g := (mkF m 5 #[.val (.ref wk), .val (.int pf), .val (.int pr), .val .null, .val .null, .val (.int sb), .val (.int bf), .unset] [(.ref wk), (.int wc)])) rfl rfl (hb hby d5_5)
  refine own_Fin.step (S' := T82.setTop (mkF m 8 #[.val (.ref wk), .val (.int pf), .val (.int pr), .val .null, .val .null, .val (.int sb), .val (.int bf), .unset] [(.ref a1), (.int wc)])) st82 ?_
  obtain ⟨cl83, Ar83, q83, S83, N83z, Hs83, G83⟩ := id G10
  refine own_Fin.step (X82.arraylength hx (by rw [e82]; exact Ar83.1) (State.isArrayOf_alike hZ.alike Ar83.2.1) (g := (mkF m 8 #[.val (.ref wk), .val (.int pf), .val (.int pr), .val .null, .val .null, .val (.int sb), .val (.int bf), .unset] [(.ref a1), (.int wc)])) rfl rfl (hb hby d5_8)) ?_
  rw [len_of S83 N83z]
  show own_Fin _ _ _ _ (T82.setTop (mkF m 9 #[.val (.ref wk), .val (.int pf), .val (.int pr), .val .null, .val .null, .val (.int sb), .val (.int bf), .unset] [(.int (16 : Int32)), (.int wc)]))
  refine own_Fin.step (S' := T82.setTop (mkF m 104 #[.val (.ref wk), .val (.int pf), .val (.int pr), .val .null, .val .null, .val (.int sb), .val (.int bf), .unset] [])) (fun t k => XS.icmpYes X82.here hx rfl (pc0 := 9) (pc' := 104) rfl (hb hby d5_9) rfl (feq (own_ne16 hwc)).2 (by decide) (by decide) k) ?_
  refine own_Fin.step (S' := T82.setTop (mkF m 105 #[.val (.ref wk), .val (.int pf), .val (.int pr), .val .null, .val .null, .val (.int sb), .val (.int bf), .unset] [(.ref wk)])) (fun t k => XS.aloadN X82.here hx rfl (hb hby d5_104) rfl rfl  k) ?_
  obtain ⟨T84, X84, e84, st84⟩ := getF X82 hx hZ hown (host := "") (Or.inl (hw _ (List.mem_of_getElem? (i := 19) rfl))) Via.refl e82 G3 (g := (mkF m 105 #[.val (.ref wk), .val (.int pf), .val (.int pr), .val .null, .val .null, .val (.int sb), .val (.int bf), .unset] [(.ref wk)])) rfl rfl (hb hby d5_105)
  refine own_Fin.step (S' := T84.setTop (mkF m 108 #[.val (.ref wk), .val (.int pf), .val (.int pr), .val .null, .val .null, .val (.int sb), .val (.int bf), .unset] [(.ref a1)])) st84 ?_
  refine own_Fin.step (S' := T84.setTop (mkF m 109 #[.val (.ref wk), .val (.int pf), .val (.int pr), .val .null, .val .null, .val (.int sb), .val (.int bf), .unset] [(.ref wk), (.ref a1)])) (fun t k => XS.aloadN X84.here hx rfl (hb hby d5_108) rfl rfl  k) ?_
  obtain ⟨T85, X85, e85, st85⟩ := getF X84 hx hZ hown (host := "") (Or.inl (hw _ (List.mem_of_getElem? (i := 60) rfl))) Via.refl e84 G1 (g := (mkF m 109 #[.val (.ref wk), .val (.int pf), .val (.int pr), .val .null, .val .null, .val (.int sb), .val (.int bf), .unset] [(.ref wk), (.ref a1)])) rfl rfl (hb hby d5_109)
  refine own_Fin.step (S' := T85.setTop (mkF m 112 #[.val (.ref wk), .val (.int pf), .val (.int pr), .val .null, .val .null, .val (.int sb), .val (.int bf), .unset] [(.int wc), (.ref a1)])) st85 ?_
  refine own_Fin.step (S' := T85.setTop (mkF m 113 #[.val (.ref wk), .val (.int pf), .val (.int pr), .val .null, .val .null, .val (.int sb), .val (.int bf), .unset] [(.int pf), (.int wc), (.ref a1)])) (fun t k => XS.iloadN X85.here hx rfl (hb hby d5_112) rfl  k) ?_
  obtain ⟨cl86, Ar86, q86, S86, N86z, Hs86, G86⟩ := id G10
  have hin86 : ¬ (wc < 0 ∨ cl86.slots.size ≤ (wc).toNatClampNeg) := inb_of S86 (own_in16 hwc)
  obtain ⟨T87, h87, X87, e87, W87, st87⟩ := stI X85 hx hZ e85 Ar86 (j := wc) hin86 (g := (mkF m 113 #[.val (.ref wk), .val (.int pf), .val (.int pr), .val .null, .val .null, .val (.int sb), .val (.int bf), .unset] [(.int pf), (.int wc), (.ref a1)])) rfl rfl (hb hby d5_113)
  have V87 : Arv Z h87 a1 k1 .int (16 : Int32) (v1.set (wc).toNatClampNeg (.int pf)) (.int (0 : Int32)) := Arv.set Ar86 q86 S86 N86z Hs86 G86 rfl W87 _ rfl (by rw [hl1]; exact own_nat16 hwc)
  have z87 := W87.size
  have N87 := Fr.snoc X87 N0 (by omega)
  refine own_Fin.step (S' := T87.setTop (mkF m 114 #[.val (.ref wk), .val (.int pf), .val (.int pr), .val .null, .val .null, .val (.int sb), .val (.int bf), .unset] [])) st87 ?_
  refine own_Fin.step (S' := T87.setTop (mkF m 115 #[.val (.ref wk), .val (.int pf), .val (.int pr), .val .null, .val .null, .val (.int sb), .val (.int bf), .unset] [(.ref wk)])) (fun t k => XS.aloadN X87.here hx rfl (hb hby d5_114) rfl rfl  k) ?_
  have f88 : Fld Z h87 wk "com/example/methodical_checker/methodicalchecker/promela/Walk" "wayProcess" "[I" (.ref a2) := (Fld.other W87 G4 (Or.inl (show @Ne Nat wk a1 from by omega)))
  obtain ⟨T89, X89, e89, st89⟩ := getF X87 hx hZ hown (host := "") (Or.inl (hw _ (List.mem_of_getElem? (i := 21) rfl))) Via.refl e87 f88 (g := (mkF m 115 #[.val (.ref wk), .val (.int pf), .val (.int pr), .val .null, .val .null, .val (.int sb), .val (.int bf), .unset] [(.ref wk)])) rfl rfl (hb hby d5_115)
  refine own_Fin.step (S' := T89.setTop (mkF m 118 #[.val (.ref wk), .val (.int pf), .val (.int pr), .val .null, .val .null, .val (.int sb), .val (.int bf), .unset] [(.ref a2)])) st89 ?_
  refine own_Fin.step (S' := T89.setTop (mkF m 119 #[.val (.ref wk), .val (.int pf), .val (.int pr), .val .null, .val .null, .val (.int sb), .val (.int bf), .unset] [(.ref wk), (.ref a2)])) (fun t k => XS.aloadN X89.here hx rfl (hb hby d5_118) rfl rfl  k) ?_
  have f90 : Fld Z h87 wk "com/example/methodical_checker/methodicalchecker/promela/Walk" "wayCount" "I" (.int wc) := (Fld.other W87 G1 (Or.inl (show @Ne Nat wk a1 from by omega)))
  obtain ⟨T91, X91, e91, st91⟩ := getF X89 hx hZ hown (host := "") (Or.inl (hw _ (List.mem_of_getElem? (i := 60) rfl))) Via.refl e89 f90 (g := (mkF m 119 #[.val (.ref wk), .val (.int pf), .val (.int pr), .val .null, .val .null, .val (.int sb), .val (.int bf), .unset] [(.ref wk), (.ref a2)])) rfl rfl (hb hby d5_119)
  refine own_Fin.step (S' := T91.setTop (mkF m 122 #[.val (.ref wk), .val (.int pf), .val (.int pr), .val .null, .val .null, .val (.int sb), .val (.int bf), .unset] [(.int wc), (.ref a2)])) st91 ?_
  refine own_Fin.step (S' := T91.setTop (mkF m 123 #[.val (.ref wk), .val (.int pf), .val (.int pr), .val .null, .val .null, .val (.int sb), .val (.int bf), .unset] [(.int pr), (.int wc), (.ref a2)])) (fun t k => XS.iloadN X91.here hx rfl (hb hby d5_122) rfl  k) ?_
  have f92 : Arv Z h87 a2 k2 .int (16 : Int32) v2 (.int (0 : Int32)) := (G11.other W87 (show @Ne Nat a2 a1 from by omega))
  obtain ⟨cl93, Ar93, q93, S93, N93z, Hs93, G93⟩ := id f92
  have hin93 : ¬ (wc < 0 ∨ cl93.slots.size ≤ (wc).toNatClampNeg) := inb_of S93 (own_in16 hwc)
  obtain ⟨T94, h94, X94, e94, W94, st94⟩ := stI X91 hx hZ e91 Ar93 (j := wc) hin93 (g := (mkF m 123 #[.val (.ref wk), .val (.int pf), .val (.int pr), .val .null, .val .null, .val (.int sb), .val (.int bf), .unset] [(.int pr), (.int wc), (.ref a2)])) rfl rfl (hb hby d5_123)
  have V94 : Arv Z h94 a2 k2 .int (16 : Int32) (v2.set (wc).toNatClampNeg (.int pr)) (.int (0 : Int32)) := Arv.set Ar93 q93 S93 N93z Hs93 G93 rfl W94 _ rfl (by rw [hl2]; exact own_nat16 hwc)
  have z94 := W94.size
  have N94 := Fr.snoc X94 N87 (by omega)
  refine own_Fin.step (S' := T94.setTop (mkF m 124 #[.val (.ref wk), .val (.int pf), .val (.int pr), .val .null, .val .null, .val (.int sb), .val (.int bf), .unset] [])) st94 ?_
  refine own_Fin.step (S' := T94.setTop (mkF m 125 #[.val (.ref wk), .val (.int pf), .val (.int pr), .val .null, .val .null, .val (.int sb), .val (.int bf), .unset] [(.ref wk)])) (fun t k => XS.aloadN X94.here hx rfl (hb hby d5_124) rfl rfl  k) ?_
  have f95 : Fld Z h94 wk "com/example/methodical_checker/methodicalchecker/promela/Walk" "wayStep" "[Lcom/example/methodical_checker/methodicalchecker/promela/Transition;" (.ref a3) := (Fld.other W94 (Fld.other W87 G5 (Or.inl (show @Ne Nat wk a1 from by omega))) (Or.inl (show @Ne Nat wk a2 from by omega)))
  obtain ⟨T96, X96, e96, st96⟩ := getF X94 hx hZ hown (host := "") (Or.inl (hw _ (List.mem_of_getElem? (i := 25) rfl))) Via.refl e94 f95 (g := (mkF m 125 #[.val (.ref wk), .val (.int pf), .val (.int pr), .val .null, .val .null, .val (.int sb), .val (.int bf), .unset] [(.ref wk)])) rfl rfl (hb hby d5_125)
  refine own_Fin.step (S' := T96.setTop (mkF m 128 #[.val (.ref wk), .val (.int pf), .val (.int pr), .val .null, .val .null, .val (.int sb), .val (.int bf), .unset] [(.ref a3)])) st96 ?_
  refine own_Fin.step (S' := T96.setTop (mkF m 129 #[.val (.ref wk), .val (.int pf), .val (.int pr), .val .null, .val .null, .val (.int sb), .val (.int bf), .unset] [(.ref wk), (.ref a3)])) (fun t k => XS.aloadN X96.here hx rfl (hb hby d5_128) rfl rfl  k) ?_
  have f97 : Fld Z h94 wk "com/example/methodical_checker/methodicalchecker/promela/Walk" "wayCount" "I" (.int wc) := (Fld.other W94 f90 (Or.inl (show @Ne Nat wk a2 from by omega)))
  obtain ⟨T98, X98, e98, st98⟩ := getF X96 hx hZ hown (host := "") (Or.inl (hw _ (List.mem_of_getElem? (i := 60) rfl))) Via.refl e96 f97 (g := (mkF m 129 #[.val (.ref wk), .val (.int pf), .val (.int pr), .val .null, .val .null, .val (.int sb), .val (.int bf), .unset] [(.ref wk), (.ref a3)])) rfl rfl (hb hby d5_129)
  refine own_Fin.step (S' := T98.setTop (mkF m 132 #[.val (.ref wk), .val (.int pf), .val (.int pr), .val .null, .val .null, .val (.int sb), .val (.int bf), .unset] [(.int wc), (.ref a3)])) st98 ?_
  refine own_Fin.step (S' := T98.setTop (mkF m 133 #[.val (.ref wk), .val (.int pf), .val (.int pr), .val .null, .val .null, .val (.int sb), .val (.int bf), .unset] [.null, (.int wc), (.ref a3)])) (fun t k => XS.aloadN X98.here hx rfl (hb hby d5_132) rfl rfl  k) ?_
  have f99 : Arv Z h94 a3 k3 (.object "com/example/methodical_checker/methodicalchecker/promela/Transition") (16 : Int32) v3 .null := ((G12.other W87 (show @Ne Nat a3 a1 from by omega)).other W94 (show @Ne Nat a3 a2 from by omega))
  obtain ⟨cl100, Ar100, q100, S100, N100z, Hs100, G100⟩ := id f99
  have hin100 : ¬ (wc < 0 ∨ cl100.slots.size ≤ (wc).toNatClampNeg) := inb_of S100 (own_in16 hwc)
  obtain ⟨T101, h101, X101, e101, W101, st101⟩ := stR X98 hx hZ e98 Ar100 (j := wc) hin100 rfl (Or.inl rfl) (g := (mkF m 133 #[.val (.ref wk), .val (.int pf), .val (.int pr), .val .null, .val .null, .val (.int sb), .val (.int bf), .unset] [.null, (.int wc), (.ref a3)])) rfl rfl (hb hby d5_133)
  have V101 : Arv Z h101 a3 k3 (.object "com/example/methodical_checker/methodicalchecker/promela/Transition") (16 : Int32) (v3.set (wc).toNatClampNeg .null) .null := Arv.set Ar100 q100 S100 N100z Hs100 G100 rfl W101 _ rfl (by rw [hl3]; exact own_nat16 hwc)
  have z101 := W101.size
  have N101 := Fr.snoc X101 N94 (by omega)
  refine own_Fin.step (S' := T101.setTop (mkF m 134 #[.val (.ref wk), .val (.int pf), .val (.int pr), .val .null, .val .null, .val (.int sb), .val (.int bf), .unset] [])) st101 ?_
  refine own_Fin.step (S' := T101.setTop (mkF m 135 #[.val (.ref wk), .val (.int pf), .val (.int pr), .val .null, .val .null, .val (.int sb), .val (.int bf), .unset] [(.ref wk)])) (fun t k => XS.aloadN X101.here hx rfl (hb hby d5_134) rfl rfl  k) ?_
  have f102 : Fld Z h101 wk "com/example/methodical_checker/methodicalchecker/promela/Walk" "wayMeeting" "[Lcom/example/methodical_checker/methodicalchecker/promela/Stepper$Meeting;" (.ref a4) := (Fld.other W101 (Fld.other W94 (Fld.other W87 G6 (Or.inl (show @Ne Nat wk a1 from by omega))) (Or.inl (show @Ne Nat wk a2 from by omega))) (Or.inl (show @Ne Nat wk a3 from by omega)))
  obtain ⟨T103, X103, e103, st103⟩ := getF X101 hx hZ hown (host := "") (Or.inl (hw _ (List.mem_of_getElem? (i := 29) rfl))) Via.refl e101 f102 (g := (mkF m 135 #[.val (.ref wk), .val (.int pf), .val (.int pr), .val .null, .val .null, .val (.int sb), .val (.int bf), .unset] [(.ref wk)])) rfl rfl (hb hby d5_135)
  refine own_Fin.step (S' := T103.setTop (mkF m 138 #[.val (.ref wk), .val (.int pf), .val (.int pr), .val .null, .val .null, .val (.int sb), .val (.int bf), .unset] [(.ref a4)])) st103 ?_
  refine own_Fin.step (S' := T103.setTop (mkF m 139 #[.val (.ref wk), .val (.int pf), .val (.int pr), .val .null, .val .null, .val (.int sb), .val (.int bf), .unset] [(.ref wk), (.ref a4)])) (fun t k => XS.aloadN X103.here hx rfl (hb hby d5_138) rfl rfl  k) ?_
  have f104 : Fld Z h101 wk "com/example/methodical_checker/methodicalchecker/promela/Walk" "wayCount" "I" (.int wc) := (Fld.other W101 f97 (Or.inl (show @Ne Nat wk a3 from by omega)))
  obtain ⟨T105, X105, e105, st105⟩ := getF X103 hx hZ hown (host := "") (Or.inl (hw _ (List.mem_of_getElem? (i := 60) rfl))) Via.refl e103 f104 (g := (mkF m 139 #[.val (.ref wk), .val (.int pf), .val (.int pr), .val .null, .val .null, .val (.int sb), .val (.int bf), .unset] [(.ref wk), (.ref a4)])) rfl rfl (hb hby d5_139)
  refine own_Fin.step (S' := T105.setTop (mkF m 142 #[.val (.ref wk), .val (.int pf), .val (.int pr), .val .null, .val .null, .val (.int sb), .val (.int bf), .unset] [(.int wc), (.ref a4)])) st105 ?_
  refine own_Fin.step (S' := T105.setTop (mkF m 144 #[.val (.ref wk), .val (.int pf), .val (.int pr), .val .null, .val .null, .val (.int sb), .val (.int bf), .unset] [.null, (.int wc), (.ref a4)])) (fun t k => XS.aload X105.here hx rfl (hb hby d5_142) rfl rfl  k) ?_
  have f106 : Arv Z h101 a4 k4 (.object "com/example/methodical_checker/methodicalchecker/promela/Stepper$Meeting") (16 : Int32) v4 .null := (((G13.other W87 (show @Ne Nat a4 a1 from by omega)).other W94 (show @Ne Nat a4 a2 from by omega)).other W101 (show @Ne Nat a4 a3 from by omega))
  obtain ⟨cl107, Ar107, q107, S107, N107z, Hs107, G107⟩ := id f106
  have hin107 : ¬ (wc < 0 ∨ cl107.slots.size ≤ (wc).toNatClampNeg) := inb_of S107 (own_in16 hwc)
  obtain ⟨T108, h108, X108, e108, W108, st108⟩ := stR X105 hx hZ e105 Ar107 (j := wc) hin107 rfl (Or.inl rfl) (g := (mkF m 144 #[.val (.ref wk), .val (.int pf), .val (.int pr), .val .null, .val .null, .val (.int sb), .val (.int bf), .unset] [.null, (.int wc), (.ref a4)])) rfl rfl (hb hby d5_144)
  have V108 : Arv Z h108 a4 k4 (.object "com/example/methodical_checker/methodicalchecker/promela/Stepper$Meeting") (16 : Int32) (v4.set (wc).toNatClampNeg .null) .null := Arv.set Ar107 q107 S107 N107z Hs107 G107 rfl W108 _ rfl (by rw [hl4]; exact own_nat16 hwc)
  have z108 := W108.size
  have N108 := Fr.snoc X108 N101 (by omega)
  refine own_Fin.step (S' := T108.setTop (mkF m 145 #[.val (.ref wk), .val (.int pf), .val (.int pr), .val .null, .val .null, .val (.int sb), .val (.int bf), .unset] [])) st108 ?_
  refine own_Fin.step (S' := T108.setTop (mkF m 146 #[.val (.ref wk), .val (.int pf), .val (.int pr), .val .null, .val .null, .val (.int sb), .val (.int bf), .unset] [(.ref wk)])) (fun t k => XS.aloadN X108.here hx rfl (hb hby d5_145) rfl rfl  k) ?_
  have f109 : Fld Z h108 wk "com/example/methodical_checker/methodicalchecker/promela/Walk" "wayStepsBefore" "[I" (.ref a5) := (Fld.other W108 (Fld.other W101 (Fld.other W94 (Fld.other W87 G7 (Or.inl (show @Ne Nat wk a1 from by omega))) (Or.inl (show @Ne Nat wk a2 from by omega))) (Or.inl (show @Ne Nat wk a3 from by omega))) (Or.inl (show @Ne Nat wk a4 from by omega)))
  obtain ⟨T110, X110, e110, st110⟩ := getF X108 hx hZ hown (host := "") (Or.inl (hw _ (List.mem_of_getElem? (i := 31) rfl))) Via.refl e108 f109 (g := (mkF m 146 #[.val (.ref wk), .val (.int pf), .val (.int pr), .val .null, .val .null, .val (.int sb), .val (.int bf), .unset] [(.ref wk)])) rfl rfl (hb hby d5_146)
  refine own_Fin.step (S' := T110.setTop (mkF m 149 #[.val (.ref wk), .val (.int pf), .val (.int pr), .val .null, .val .null, .val (.int sb), .val (.int bf), .unset] [(.ref a5)])) st110 ?_
  refine own_Fin.step (S' := T110.setTop (mkF m 150 #[.val (.ref wk), .val (.int pf), .val (.int pr), .val .null, .val .null, .val (.int sb), .val (.int bf), .unset] [(.ref wk), (.ref a5)])) (fun t k => XS.aloadN X110.here hx rfl (hb hby d5_149) rfl rfl  k) ?_
  have f111 : Fld Z h108 wk "com/example/methodical_checker/methodicalchecker/promela/Walk" "wayCount" "I" (.int wc) := (Fld.other W108 f104 (Or.inl (show @Ne Nat wk a4 from by omega)))
  obtain ⟨T112, X112, e112, st112⟩ := getF X110 hx hZ hown (host := "") (Or.inl (hw _ (List.mem_of_getElem? (i := 60) rfl))) Via.refl e110 f111 (g := (mkF m 150 #[.val (.ref wk), .val (.int pf), .val (.int pr), .val .null, .val .null, .val (.int sb), .val (.int bf), .unset] [(.ref wk), (.ref a5)])) rfl rfl (hb hby d5_150)
  refine own_Fin.step (S' := T112.setTop (mkF m 153 #[.val (.ref wk), .val (.int pf), .val (.int pr), .val .null, .val .null, .val (.int sb), .val (.int bf), .unset] [(.int wc), (.ref a5)])) st112 ?_
  refine own_Fin.step (S' := T112.setTop (mkF m 155 #[.val (.ref wk), .val (.int pf), .val (.int pr), .val .null, .val .null, .val (.int sb), .val (.int bf), .unset] [(.int sb), (.int wc), (.ref a5)])) (fun t k => XS.iload X112.here hx rfl (hb hby d5_153) rfl  k) ?_
  have f113 : Arv Z h108 a5 k5 .int (16 : Int32) v5 (.int (0 : Int32)) := ((((G14.other W87 (show @Ne Nat a5 a1 from by omega)).other W94 (show @Ne Nat a5 a2 from by omega)).other W101 (show @Ne Nat a5 a3 from by omega)).other W108 (show @Ne Nat a5 a4 from by omega))
  obtain ⟨cl114, Ar114, q114, S114, N114z, Hs114, G114⟩ := id f113
  have hin114 : ¬ (wc < 0 ∨ cl114.slots.size ≤ (wc).toNatClampNeg) := inb_of S114 (own_in16 hwc)
  obtain ⟨T115, h115, X115, e115, W115, st115⟩ := stI X112 hx hZ e112 Ar114 (j := wc) hin114 (g := (mkF m 155 #[.val (.ref wk), .val (.int pf), .val (.int pr), .val .null, .val .null, .val (.int sb), .val (.int bf), .unset] [(.int sb), (.int wc), (.ref a5)])) rfl rfl (hb hby d5_155)
  have V115 : Arv Z h115 a5 k5 .int (16 : Int32) (v5.set (wc).toNatClampNeg (.int sb)) (.int (0 : Int32)) := Arv.set Ar114 q114 S114 N114z Hs114 G114 rfl W115 _ rfl (by rw [hl5]; exact own_nat16 hwc)
  have z115 := W115.size
  have N115 := Fr.snoc X115 N108 (by omega)
  refine own_Fin.step (S' := T115.setTop (mkF m 156 #[.val (.ref wk), .val (.int pf), .val (.int pr), .val .null, .val .null, .val (.int sb), .val (.int bf), .unset] [])) st115 ?_
  refine own_Fin.step (S' := T115.setTop (mkF m 157 #[.val (.ref wk), .val (.int pf), .val (.int pr), .val .null, .val .null, .val (.int sb), .val (.int bf), .unset] [(.ref wk)])) (fun t k => XS.aloadN X115.here hx rfl (hb hby d5_156) rfl rfl  k) ?_
  have f116 : Fld Z h115 wk "com/example/methodical_checker/methodicalchecker/promela/Walk" "wayBefore" "[I" (.ref a6) := (Fld.other W115 (Fld.other W108 (Fld.other W101 (Fld.other W94 (Fld.other W87 G8 (Or.inl (show @Ne Nat wk a1 from by omega))) (Or.inl (show @Ne Nat wk a2 from by omega))) (Or.inl (show @Ne Nat wk a3 from by omega))) (Or.inl (show @Ne Nat wk a4 from by omega))) (Or.inl (show @Ne Nat wk a5 from by omega)))
  obtain ⟨T117, X117, e117, st117⟩ := getF X115 hx hZ hown (host := "") (Or.inl (hw _ (List.mem_of_getElem? (i := 33) rfl))) Via.refl e115 f116 (g := (mkF m 157 #[.val (.ref wk), .val (.int pf), .val (.int pr), .val .null, .val .null, .val (.int sb), .val (.int bf), .unset] [(.ref wk)])) rfl rfl (hb hby d5_157)
  refine own_Fin.step (S' := T117.setTop (mkF m 160 #[.val (.ref wk), .val (.int pf), .val (.int pr), .val .null, .val .null, .val (.int sb), .val (.int bf), .unset] [(.ref a6)])) st117 ?_
  refine own_Fin.step (S' := T117.setTop (mkF m 161 #[.val (.ref wk), .val (.int pf), .val (.int pr), .val .null, .val .null, .val (.int sb), .val (.int bf), .unset] [(.ref wk), (.ref a6)])) (fun t k => XS.aloadN X117.here hx rfl (hb hby d5_160) rfl rfl  k) ?_
  have f118 : Fld Z h115 wk "com/example/methodical_checker/methodicalchecker/promela/Walk" "wayCount" "I" (.int wc) := (Fld.other W115 f111 (Or.inl (show @Ne Nat wk a5 from by omega)))
  obtain ⟨T119, X119, e119, st119⟩ := getF X117 hx hZ hown (host := "") (Or.inl (hw _ (List.mem_of_getElem? (i := 60) rfl))) Via.refl e117 f118 (g := (mkF m 161 #[.val (.ref wk), .val (.int pf), .val (.int pr), .val .null, .val .null, .val (.int sb), .val (.int bf), .unset] [(.ref wk), (.ref a6)])) rfl rfl (hb hby d5_161)
  refine own_Fin.step (S' := T119.setTop (mkF m 164 #[.val (.ref wk), .val (.int pf), .val (.int pr), .val .null, .val .null, .val (.int sb), .val (.int bf), .unset] [(.int wc), (.ref a6)])) st119 ?_
  refine own_Fin.step (S' := T119.setTop (mkF m 166 #[.val (.ref wk), .val (.int pf), .val (.int pr), .val .null, .val .null, .val (.int sb), .val (.int bf), .unset] [(.int bf), (.int wc), (.ref a6)])) (fun t k => XS.iload X119.here hx rfl (hb hby d5_164) rfl  k) ?_
  have f120 : Arv Z h115 a6 k6 .int (16 : Int32) v6 (.int (0 : Int32)) := (((((G15.other W87 (show @Ne Nat a6 a1 from by omega)).other W94 (show @Ne Nat a6 a2 from by omega)).other W101 (show @Ne Nat a6 a3 from by omega)).other W108 (show @Ne Nat a6 a4 from by omega)).other W115 (show @Ne Nat a6 a5 from by omega))
  obtain ⟨cl121, Ar121, q121, S121, N121z, Hs121, G121⟩ := id f120
  have hin121 : ¬ (wc < 0 ∨ cl121.slots.size ≤ (wc).toNatClampNeg) := inb_of S121 (own_in16 hwc)
  obtain ⟨T122, h122, X122, e122, W122, st122⟩ := stI X119 hx hZ e119 Ar121 (j := wc) hin121 (g := (mkF m 166 #[.val (.ref wk), .val (.int pf), .val (.int pr), .val .null, .val .null, .val (.int sb), .val (.int bf), .unset] [(.int bf), (.int wc), (.ref a6)])) rfl rfl (hb hby d5_166)
  have V122 : Arv Z h122 a6 k6 .int (16 : Int32) (v6.set (wc).toNatClampNeg (.int bf)) (.int (0 : Int32)) := Arv.set Ar121 q121 S121 N121z Hs121 G121 rfl W122 _ rfl (by rw [hl6]; exact own_nat16 hwc)
  have z122 := W122.size
  have N122 := Fr.snoc X122 N115 (by omega)
  refine own_Fin.step (S' := T122.setTop (mkF m 167 #[.val (.ref wk), .val (.int pf), .val (.int pr), .val .null, .val .null, .val (.int sb), .val (.int bf), .unset] [])) st122 ?_
  refine own_Fin.step (S' := T122.setTop (mkF m 168 #[.val (.ref wk), .val (.int pf), .val (.int pr), .val .null, .val .null, .val (.int sb), .val (.int bf), .unset] [(.ref wk)])) (fun t k => XS.aloadN X122.here hx rfl (hb hby d5_167) rfl rfl  k) ?_
  have f123 : Fld Z h122 wk "com/example/methodical_checker/methodicalchecker/promela/Walk" "pendingCount" "I" (.int (own_len ps)) := (Fld.other W122 (Fld.other W115 (Fld.other W108 (Fld.other W101 (Fld.other W94 (Fld.other W87 G2 (Or.inl (show @Ne Nat wk a1 from by omega))) (Or.inl (show @Ne Nat wk a2 from by omega))) (Or.inl (show @Ne Nat wk a3 from by omega))) (Or.inl (show @Ne Nat wk a4 from by omega))) (Or.inl (show @Ne Nat wk a5 from by omega))) (Or.inl (show @Ne Nat wk a6 from by omega)))
  obtain ⟨T124, X124, e124, st124⟩ := getF X122 hx hZ hown (host := "") (Or.inl (hw _ (List.mem_of_getElem? (i := 62) rfl))) Via.refl e122 f123 (g := (mkF m 168 #[.val (.ref wk), .val (.int pf), .val (.int pr), .val .null, .val .null, .val (.int sb), .val (.int bf), .unset] [(.ref wk)])) rfl rfl (hb hby d5_168)
  refine own_Fin.step (S' := T124.setTop (mkF m 171 #[.val (.ref wk), .val (.int pf), .val (.int pr), .val .null, .val .null, .val (.int sb), .val (.int bf), .unset] [(.int (own_len ps))])) st124 ?_
  refine own_Fin.step (S' := T124.setTop (mkF m 172 #[.val (.ref wk), .val (.int pf), .val (.int pr), .val .null, .val .null, .val (.int sb), .val (.int bf), .unset] [(.ref wk), (.int (own_len ps))])) (fun t k => XS.aloadN X124.here hx rfl (hb hby d5_171) rfl rfl  k) ?_
  have f125 : Fld Z h122 wk "com/example/methodical_checker/methodicalchecker/promela/Walk" "pending" "[I" (.ref a7) := (Fld.other W122 (Fld.other W115 (Fld.other W108 (Fld.other W101 (Fld.other W94 (Fld.other W87 G9 (Or.inl (show @Ne Nat wk a1 from by omega))) (Or.inl (show @Ne Nat wk a2 from by omega))) (Or.inl (show @Ne Nat wk a3 from by omega))) (Or.inl (show @Ne Nat wk a4 from by omega))) (Or.inl (show @Ne Nat wk a5 from by omega))) (Or.inl (show @Ne Nat wk a6 from by omega)))
  obtain ⟨T126, X126, e126, st126⟩ := getF X124 hx hZ hown (host := "") (Or.inl (hw _ (List.mem_of_getElem? (i := 35) rfl))) Via.refl e124 f125 (g := (mkF m 172 #[.val (.ref wk), .val (.int pf), .val (.int pr), .val .null, .val .null, .val (.int sb), .val (.int bf), .unset] [(.ref wk), (.int (own_len ps))])) rfl rfl (hb hby d5_172)
  refine own_Fin.step (S' := T126.setTop (mkF m 175 #[.val (.ref wk), .val (.int pf), .val (.int pr), .val .null, .val .null, .val (.int sb), .val (.int bf), .unset] [(.ref a7), (.int (own_len ps))])) st126 ?_
  have f127 : Arv Z h122 a7 k7 .int (16 : Int32) v7 (.int (0 : Int32)) := ((((((G16.other W87 (show @Ne Nat a7 a1 from by omega)).other W94 (show @Ne Nat a7 a2 from by omega)).other W101 (show @Ne Nat a7 a3 from by omega)).other W108 (show @Ne Nat a7 a4 from by omega)).other W115 (show @Ne Nat a7 a5 from by omega)).other W122 (show @Ne Nat a7 a6 from by omega))
  obtain ⟨cl128, Ar128, q128, S128, N128z, Hs128, G128⟩ := id f127
  refine own_Fin.step (X126.arraylength hx (by rw [e126]; exact Ar128.1) (State.isArrayOf_alike hZ.alike Ar128.2.1) (g := (mkF m 175 #[.val (.ref wk), .val (.int pf), .val (.int pr), .val .null, .val .null, .val (.int sb), .val (.int bf), .unset] [(.ref a7), (.int (own_len ps))])) rfl rfl (hb hby d5_175)) ?_
  rw [len_of S128 N128z]
  show own_Fin _ _ _ _ (T126.setTop (mkF m 176 #[.val (.ref wk), .val (.int pf), .val (.int pr), .val .null, .val .null, .val (.int sb), .val (.int bf), .unset] [(.int (16 : Int32)), (.int (own_len ps))]))
  refine own_Fin.step (S' := T126.setTop (mkF m 196 #[.val (.ref wk), .val (.int pf), .val (.int pr), .val .null, .val .null, .val (.int sb), .val (.int bf), .unset] [])) (fun t k => XS.icmpYes X126.here hx rfl (pc0 := 176) (pc' := 196) rfl (hb hby d5_176) rfl (feq (own_ne16 (own_len_r hps))).2 (by decide) (by decide) k) ?_
  refine own_Fin.step (S' := T126.setTop (mkF m 197 #[.val (.ref wk), .val (.int pf), .val (.int pr), .val .null, .val .null, .val (.int sb), .val (.int bf), .unset] [(.ref wk)])) (fun t k => XS.aloadN X126.here hx rfl (hb hby d5_196) rfl rfl  k) ?_
  obtain ⟨T129, X129, e129, st129⟩ := getF X126 hx hZ hown (host := "") (Or.inl (hw _ (List.mem_of_getElem? (i := 35) rfl))) Via.refl e126 f125 (g := (mkF m 197 #[.val (.ref wk), .val (.int pf), .val (.int pr), .val .null, .val .null, .val (.int sb), .val (.int bf), .unset] [(.ref wk)])) rfl rfl (hb hby d5_197)
  refine own_Fin.step (S' := T129.setTop (mkF m 200 #[.val (.ref wk), .val (.int pf), .val (.int pr), .val .null, .val .null, .val (.int sb), .val (.int bf), .unset] [(.ref a7)])) st129 ?_
  refine own_Fin.step (S' := T129.setTop (mkF m 201 #[.val (.ref wk), .val (.int pf), .val (.int pr), .val .null, .val .null, .val (.int sb), .val (.int bf), .unset] [(.ref wk), (.ref a7)])) (fun t k => XS.aloadN X129.here hx rfl (hb hby d5_200) rfl rfl  k) ?_
  obtain ⟨T130, X130, e130, st130⟩ := getF X129 hx hZ hown (host := "") (Or.inl (hw _ (List.mem_of_getElem? (i := 62) rfl))) Via.refl e129 f123 (g := (mkF m 201 #[.val (.ref wk), .val (.int pf), .val (.int pr), .val .null, .val .null, .val (.int sb), .val (.int bf), .unset] [(.ref wk), (.ref a7)])) rfl rfl (hb hby d5_201)
  refine own_Fin.step (S' := T130.setTop (mkF m 204 #[.val (.ref wk), .val (.int pf), .val (.int pr), .val .null, .val .null, .val (.int sb), .val (.int bf), .unset] [(.int (own_len ps)), (.ref a7)])) st130 ?_
  refine own_Fin.step (S' := T130.setTop (mkF m 205 #[.val (.ref wk), .val (.int pf), .val (.int pr), .val .null, .val .null, .val (.int sb), .val (.int bf), .unset] [(.ref wk), (.int (own_len ps)), (.ref a7)])) (fun t k => XS.aloadN X130.here hx rfl (hb hby d5_204) rfl rfl  k) ?_
  have f131 : Fld Z h122 wk "com/example/methodical_checker/methodicalchecker/promela/Walk" "wayCount" "I" (.int wc) := (Fld.other W122 f118 (Or.inl (show @Ne Nat wk a6 from by omega)))
  obtain ⟨T132, X132, e132, st132⟩ := getF X130 hx hZ hown (host := "") (Or.inl (hw _ (List.mem_of_getElem? (i := 60) rfl))) Via.refl e130 f131 (g := (mkF m 205 #[.val (.ref wk), .val (.int pf), .val (.int pr), .val .null, .val .null, .val (.int sb), .val (.int bf), .unset] [(.ref wk), (.int (own_len ps)), (.ref a7)])) rfl rfl (hb hby d5_205)
  refine own_Fin.step (S' := T132.setTop (mkF m 208 #[.val (.ref wk), .val (.int pf), .val (.int pr), .val .null, .val .null, .val (.int sb), .val (.int bf), .unset] [(.int wc), (.int (own_len ps)), (.ref a7)])) st132 ?_
  obtain ⟨cl133, Ar133, q133, S133, N133z, Hs133, G133⟩ := id f127
  have hin133 : ¬ ((own_len ps) < 0 ∨ cl133.slots.size ≤ ((own_len ps)).toNatClampNeg) := inb_of S133 (own_in16 (own_len_r hps))
  obtain ⟨T134, h134, X134, e134, W134, st134⟩ := stI X132 hx hZ e132 Ar133 (j := (own_len ps)) hin133 (g := (mkF m 208 #[.val (.ref wk), .val (.int pf), .val (.int pr), .val .null, .val .null, .val (.int sb), .val (.int bf), .unset] [(.int wc), (.int (own_len ps)), (.ref a7)])) rfl rfl (hb hby d5_208)
  have V134 : Arv Z h134 a7 k7 .int (16 : Int32) (v7.set ((own_len ps)).toNatClampNeg (.int wc)) (.int (0 : Int32)) := Arv.set Ar133 q133 S133 N133z Hs133 G133 rfl W134 _ rfl (by rw [hl7]; exact own_nat16 (own_len_r hps))
  have z134 := W134.size
  have N134 := Fr.snoc X134 N122 (by omega)
  refine own_Fin.step (S' := T134.setTop (mkF m 209 #[.val (.ref wk), .val (.int pf), .val (.int pr), .val .null, .val .null, .val (.int sb), .val (.int bf), .unset] [])) st134 ?_
  refine own_Fin.step (S' := T134.setTop (mkF m 210 #[.val (.ref wk), .val (.int pf), .val (.int pr), .val .null, .val .null, .val (.int sb), .val (.int bf), .unset] [(.ref wk)])) (fun t k => XS.aloadN X134.here hx rfl (hb hby d5_209) rfl rfl  k) ?_
  refine own_Fin.step (S' := T134.setTop (mkF m 211 #[.val (.ref wk), .val (.int pf), .val (.int pr), .val .null, .val .null, .val (.int sb), .val (.int bf), .unset] [(.ref wk), (.ref wk)])) (fun t k => XS.dup X134.here hx rfl (hb hby d5_210) rfl rfl k) ?_
  have f135 : Fld Z h134 wk "com/example/methodical_checker/methodicalchecker/promela/Walk" "pendingCount" "I" (.int (own_len ps)) := (Fld.other W134 f123 (Or.inl (show @Ne Nat wk a7 from by omega)))
  obtain ⟨T136, X136, e136, st136⟩ := getF X134 hx hZ hown (host := "") (Or.inl (hw _ (List.mem_of_getElem? (i := 62) rfl))) Via.refl e134 f135 (g := (mkF m 211 #[.val (.ref wk), .val (.int pf), .val (.int pr), .val .null, .val .null, .val (.int sb), .val (.int bf), .unset] [(.ref wk), (.ref wk)])) rfl rfl (hb hby d5_211)
  refine own_Fin.step (S' := T136.setTop (mkF m 214 #[.val (.ref wk), .val (.int pf), .val (.int pr), .val .null, .val .null, .val (.int sb), .val (.int bf), .unset] [(.int (own_len ps)), (.ref wk)])) st136 ?_
  refine own_Fin.step (S' := T136.setTop (mkF m 215 #[.val (.ref wk), .val (.int pf), .val (.int pr), .val .null, .val .null, .val (.int sb), .val (.int bf), .unset] [(.int (1 : Int32)), (.int (own_len ps)), (.ref wk)])) (fun t k => XS.iconst X136.here hx rfl (hb hby d5_214) k) ?_
  refine own_Fin.step (S' := T136.setTop (mkF m 216 #[.val (.ref wk), .val (.int pf), .val (.int pr), .val .null, .val .null, .val (.int sb), .val (.int bf), .unset] [(.int ((own_len ps) + (1 : Int32))), (.ref wk)])) (fun t k => XS.iadd X136.here hx rfl (hb hby d5_215) rfl k) ?_
  as_aux_lemma =>
    have f137 : Exa Z h134 wk "com/example/methodical_checker/methodicalchecker/promela/Walk" := (Exa.wr W134 (Exa.wr W122 (Exa.wr W115 (Exa.wr W108 (Exa.wr W101 (Exa.wr W94 (Exa.wr W87 G0)))))))
    obtain ⟨T138, h138, X138, e138, W138, st138⟩ := putF X136 hx hZ hown (host := "") (Or.inl (hw _ (List.mem_of_getElem? (i := 62) rfl))) Via.refl e136 f135 f137 (Or.inl (hw _ (List.mem_of_getElem? (i := 63) rfl))) (hw _ (List.mem_of_getElem? (i := 6) rfl)) (ty := .int) (by decide) rfl rfl (g := (mkF m 216 #[.val (.ref wk), .val (.int pf), .val (.int pr), .val .null, .val .null, .val (.int sb), .val (.int bf), .unset] [(.int ((own_len ps) + (1 : Int32))), (.ref wk)])) rfl rfl (hb hby d5_216)
    have F138 := Fld.same W138 f135
    have z138 := W138.size
    have N138 := Fr.snoc X138 N134 (by omega)
    refine own_Fin.step (S' := T138.setTop (mkF m 219 #[.val (.ref wk), .val (.int pf), .val (.int pr), .val .null, .val .null, .val (.int sb), .val (.int bf), .unset] [])) st138 ?_
    refine own_Fin.step (S' := T138.setTop (mkF m 220 #[.val (.ref wk), .val (.int pf), .val (.int pr), .val .null, .val .null, .val (.int sb), .val (.int bf), .unset] [(.ref wk)])) (fun t k => XS.aloadN X138.here hx rfl (hb hby d5_219) rfl rfl  k) ?_
    refine own_Fin.step (S' := T138.setTop (mkF m 221 #[.val (.ref wk), .val (.int pf), .val (.int pr), .val .null, .val .null, .val (.int sb), .val (.int bf), .unset] [(.ref wk), (.ref wk)])) (fun t k => XS.dup X138.here hx rfl (hb hby d5_220) rfl rfl k) ?_
    have f139 : Fld Z h138 wk "com/example/methodical_checker/methodicalchecker/promela/Walk" "wayCount" "I" (.int wc) := (Fld.other W138 (Fld.other W134 f131 (Or.inl (show @Ne Nat wk a7 from by omega))) (Or.inr (slot_ne (Or.inl (hw _ (List.mem_of_getElem? (i := 61) rfl))) (Or.inl (hw _ (List.mem_of_getElem? (i := 63) rfl))) (by decide) (t := .int) (t' := .int) (by decide) (by decide))))
    obtain ⟨T140, X140, e140, st140⟩ := getF X138 hx hZ hown (host := "") (Or.inl (hw _ (List.mem_of_getElem? (i := 60) rfl))) Via.refl e138 f139 (g := (mkF m 221 #[.val (.ref wk), .val (.int pf), .val (.int pr), .val .null, .val .null, .val (.int sb), .val (.int bf), .unset] [(.ref wk), (.ref wk)])) rfl rfl (hb hby d5_221)
    refine own_Fin.step (S' := T140.setTop (mkF m 224 #[.val (.ref wk), .val (.int pf), .val (.int pr), .val .null, .val .null, .val (.int sb), .val (.int bf), .unset] [(.int wc), (.ref wk)])) st140 ?_
    refine own_Fin.step (S' := T140.setTop (mkF m 225 #[.val (.ref wk), .val (.int pf), .val (.int pr), .val .null, .val .null, .val (.int sb), .val (.int bf), .unset] [(.int (1 : Int32)), (.int wc), (.ref wk)])) (fun t k => XS.iconst X140.here hx rfl (hb hby d5_224) k) ?_
    refine own_Fin.step (S' := T140.setTop (mkF m 226 #[.val (.ref wk), .val (.int pf), .val (.int pr), .val .null, .val .null, .val (.int sb), .val (.int bf), .unset] [(.int (wc + (1 : Int32))), (.ref wk)])) (fun t k => XS.iadd X140.here hx rfl (hb hby d5_225) rfl k) ?_
    have f141 : Exa Z h138 wk "com/example/methodical_checker/methodicalchecker/promela/Walk" := (Exa.wr W138 f137)
    obtain ⟨T142, h142, X142, e142, W142, st142⟩ := putF X140 hx hZ hown (host := "") (Or.inl (hw _ (List.mem_of_getElem? (i := 60) rfl))) Via.refl e140 f139 f141 (Or.inl (hw _ (List.mem_of_getElem? (i := 61) rfl))) (hw _ (List.mem_of_getElem? (i := 6) rfl)) (ty := .int) (by decide) rfl rfl (g := (mkF m 226 #[.val (.ref wk), .val (.int pf), .val (.int pr), .val .null, .val .null, .val (.int sb), .val (.int bf), .unset] [(.int (wc + (1 : Int32))), (.ref wk)])) rfl rfl (hb hby d5_226)
    have F142 := Fld.same W142 f139
    have z142 := W142.size
    have N142 := Fr.snoc X142 N138 (by omega)
    refine own_Fin.step (S' := T142.setTop (mkF m 229 #[.val (.ref wk), .val (.int pf), .val (.int pr), .val .null, .val .null, .val (.int sb), .val (.int bf), .unset] [])) st142 ?_
    have f144 : Exa Z h142 wk "com/example/methodical_checker/methodicalchecker/promela/Walk" := (Exa.wr W142 f141)
    have f145 : Fld Z h142 wk "com/example/methodical_checker/methodicalchecker/promela/Walk" "pendingCount" "I" (.int ((own_len ps) + (1 : Int32))) := (Fld.other W142 F138 (Or.inr (slot_ne (Or.inl (hw _ (List.mem_of_getElem? (i := 63) rfl))) (Or.inl (hw _ (List.mem_of_getElem? (i := 61) rfl))) (by decide) (t := .int) (t' := .int) (by decide) (by decide))))
    have f146 : Fld Z h142 wk "com/example/methodical_checker/methodicalchecker/promela/Walk" "wayFrom" "[I" (.ref a1) := (Fld.other W142 (Fld.other W138 (Fld.other W134 (Fld.other W122 (Fld.other W115 (Fld.other W108 (Fld.other W101 (Fld.other W94 (Fld.other W87 G3 (Or.inl (show @Ne Nat wk a1 from by omega))) (Or.inl (show @Ne Nat wk a2 from by omega))) (Or.inl (show @Ne Nat wk a3 from by omega))) (Or.inl (show @Ne Nat wk a4 from by omega))) (Or.inl (show @Ne Nat wk a5 from by omega))) (Or.inl (show @Ne Nat wk a6 from by omega))) (Or.inl (show @Ne Nat wk a7 from by omega))) (Or.inr (slot_ne (Or.inl (hw _ (List.mem_of_getElem? (i := 20) rfl))) (Or.inl (hw _ (List.mem_of_getElem? (i := 63) rfl))) (by decide) (t := (.array .int)) (t' := .int) (by decide) (by decide)))) (Or.inr (slot_ne (Or.inl (hw _ (List.mem_of_getElem? (i := 20) rfl))) (Or.inl (hw _ (List.mem_of_getElem? (i := 61) rfl))) (by decide) (t := (.array .int)) (t' := .int) (by decide) (by decide))))
    have f147 : Fld Z h142 wk "com/example/methodical_checker/methodicalchecker/promela/Walk" "wayProcess" "[I" (.ref a2) := (Fld.other W142 (Fld.other W138 (Fld.other W134 (Fld.other W122 (Fld.other W115 (Fld.other W108 (Fld.other W101 (Fld.other W94 f88 (Or.inl (show @Ne Nat wk a2 from by omega))) (Or.inl (show @Ne Nat wk a3 from by omega))) (Or.inl (show @Ne Nat wk a4 from by omega))) (Or.inl (show @Ne Nat wk a5 from by omega))) (Or.inl (show @Ne Nat wk a6 from by omega))) (Or.inl (show @Ne Nat wk a7 from by omega))) (Or.inr (slot_ne (Or.inl (hw _ (List.mem_of_getElem? (i := 22) rfl))) (Or.inl (hw _ (List.mem_of_getElem? (i := 63) rfl))) (by decide) (t := (.array .int)) (t' := .int) (by decide) (by decide)))) (Or.inr (slot_ne (Or.inl (hw _ (List.mem_of_getElem? (i := 22) rfl))) (Or.inl (hw _ (List.mem_of_getElem? (i := 61) rfl))) (by decide) (t := (.array .int)) (t' := .int) (by decide) (by decide))))
    have f148 : Fld Z h142 wk "com/example/methodical_checker/methodicalchecker/promela/Walk" "wayStep" "[Lcom/example/methodical_checker/methodicalchecker/promela/Transition;" (.ref a3) := (Fld.other W142 (Fld.other W138 (Fld.other W134 (Fld.other W122 (Fld.other W115 (Fld.other W108 (Fld.other W101 f95 (Or.inl (show @Ne Nat wk a3 from by omega))) (Or.inl (show @Ne Nat wk a4 from by omega))) (Or.inl (show @Ne Nat wk a5 from by omega))) (Or.inl (show @Ne Nat wk a6 from by omega))) (Or.inl (show @Ne Nat wk a7 from by omega))) (Or.inr (slot_ne (Or.inl (hw _ (List.mem_of_getElem? (i := 26) rfl))) (Or.inl (hw _ (List.mem_of_getElem? (i := 63) rfl))) (by decide) (t := (.array (.object "com/example/methodical_checker/methodicalchecker/promela/Transition"))) (t' := .int) (by decide) (by decide)))) (Or.inr (slot_ne (Or.inl (hw _ (List.mem_of_getElem? (i := 26) rfl))) (Or.inl (hw _ (List.mem_of_getElem? (i := 61) rfl))) (by decide) (t := (.array (.object "com/example/methodical_checker/methodicalchecker/promela/Transition"))) (t' := .int) (by decide) (by decide))))
    have f149 : Fld Z h142 wk "com/example/methodical_checker/methodicalchecker/promela/Walk" "wayMeeting" "[Lcom/example/methodical_checker/methodicalchecker/promela/Stepper$Meeting;" (.ref a4) := (Fld.other W142 (Fld.other W138 (Fld.other W134 (Fld.other W122 (Fld.other W115 (Fld.other W108 f102 (Or.inl (show @Ne Nat wk a4 from by omega))) (Or.inl (show @Ne Nat wk a5 from by omega))) (Or.inl (show @Ne Nat wk a6 from by omega))) (Or.inl (show @Ne Nat wk a7 from by omega))) (Or.inr (slot_ne (Or.inl (hw _ (List.mem_of_getElem? (i := 30) rfl))) (Or.inl (hw _ (List.mem_of_getElem? (i := 63) rfl))) (by decide) (t := (.array (.object "com/example/methodical_checker/methodicalchecker/promela/Stepper$Meeting"))) (t' := .int) (by decide) (by decide)))) (Or.inr (slot_ne (Or.inl (hw _ (List.mem_of_getElem? (i := 30) rfl))) (Or.inl (hw _ (List.mem_of_getElem? (i := 61) rfl))) (by decide) (t := (.array (.object "com/example/methodical_checker/methodicalchecker/promela/Stepper$Meeting"))) (t' := .int) (by decide) (by decide))))
    have f150 : Fld Z h142 wk "com/example/methodical_checker/methodicalchecker/promela/Walk" "wayStepsBefore" "[I" (.ref a5) := (Fld.other W142 (Fld.other W138 (Fld.other W134 (Fld.other W122 (Fld.other W115 f109 (Or.inl (show @Ne Nat wk a5 from by omega))) (Or.inl (show @Ne Nat wk a6 from by omega))) (Or.inl (show @Ne Nat wk a7 from by omega))) (Or.inr (slot_ne (Or.inl (hw _ (List.mem_of_getElem? (i := 32) rfl))) (Or.inl (hw _ (List.mem_of_getElem? (i := 63) rfl))) (by decide) (t := (.array .int)) (t' := .int) (by decide) (by decide)))) (Or.inr (slot_ne (Or.inl (hw _ (List.mem_of_getElem? (i := 32) rfl))) (Or.inl (hw _ (List.mem_of_getElem? (i := 61) rfl))) (by decide) (t := (.array .int)) (t' := .int) (by decide) (by decide))))
    have f151 : Fld Z h142 wk "com/example/methodical_checker/methodicalchecker/promela/Walk" "wayBefore" "[I" (.ref a6) := (Fld.other W142 (Fld.other W138 (Fld.other W134 (Fld.other W122 f116 (Or.inl (show @Ne Nat wk a6 from by omega))) (Or.inl (show @Ne Nat wk a7 from by omega))) (Or.inr (slot_ne (Or.inl (hw _ (List.mem_of_getElem? (i := 34) rfl))) (Or.inl (hw _ (List.mem_of_getElem? (i := 63) rfl))) (by decide) (t := (.array .int)) (t' := .int) (by decide) (by decide)))) (Or.inr (slot_ne (Or.inl (hw _ (List.mem_of_getElem? (i := 34) rfl))) (Or.inl (hw _ (List.mem_of_getElem? (i := 61) rfl))) (by decide) (t := (.array .int)) (t' := .int) (by decide) (by decide))))
    have f152 : Fld Z h142 wk "com/example/methodical_checker/methodicalchecker/promela/Walk" "pending" "[I" (.ref a7) := (Fld.other W142 (Fld.other W138 (Fld.other W134 f125 (Or.inl (show @Ne Nat wk a7 from by omega))) (Or.inr (slot_ne (Or.inl (hw _ (List.mem_of_getElem? (i := 36) rfl))) (Or.inl (hw _ (List.mem_of_getElem? (i := 63) rfl))) (by decide) (t := (.array .int)) (t' := .int) (by decide) (by decide)))) (Or.inr (slot_ne (Or.inl (hw _ (List.mem_of_getElem? (i := 36) rfl))) (Or.inl (hw _ (List.mem_of_getElem? (i := 61) rfl))) (by decide) (t := (.array .int)) (t' := .int) (by decide) (by decide))))
    have f153 : Arv Z h142 a1 k1 .int (16 : Int32) (v1.set (wc).toNatClampNeg (.int pf)) (.int (0 : Int32)) := ((((((((V87.other W94 (show @Ne Nat a1 a2 from by omega)).other W101 (show @Ne Nat a1 a3 from by omega)).other W108 (show @Ne Nat a1 a4 from by omega)).other W115 (show @Ne Nat a1 a5 from by omega)).other W122 (show @Ne Nat a1 a6 from by omega)).other W134 (show @Ne Nat a1 a7 from by omega)).other W138 (show @Ne Nat a1 wk from by omega)).other W142 (show @Ne Nat a1 wk from by omega))
    have f154 : Arv Z h142 a2 k2 .int (16 : Int32) (v2.set (wc).toNatClampNeg (.int pr)) (.int (0 : Int32)) := (((((((V94.other W101 (show @Ne Nat a2 a3 from by omega)).other W108 (show @Ne Nat a2 a4 from by omega)).other W115 (show @Ne Nat a2 a5 from by omega)).other W122 (show @Ne Nat a2 a6 from by omega)).other W134 (show @Ne Nat a2 a7 from by omega)).other W138 (show @Ne Nat a2 wk from by omega)).other W142 (show @Ne Nat a2 wk from by omega))
    have f155 : Arv Z h142 a3 k3 (.object "com/example/methodical_checker/methodicalchecker/promela/Transition") (16 : Int32) (v3.set (wc).toNatClampNeg .null) .null := ((((((V101.other W108 (show @Ne Nat a3 a4 from by omega)).other W115 (show @Ne Nat a3 a5 from by omega)).other W122 (show @Ne Nat a3 a6 from by omega)).other W134 (show @Ne Nat a3 a7 from by omega)).other W138 (show @Ne Nat a3 wk from by omega)).other W142 (show @Ne Nat a3 wk from by omega))
    have f156 : Arv Z h142 a4 k4 (.object "com/example/methodical_checker/methodicalchecker/promela/Stepper$Meeting") (16 : Int32) (v4.set (wc).toNatClampNeg .null) .null := (((((V108.other W115 (show @Ne Nat a4 a5 from by omega)).other W122 (show @Ne Nat a4 a6 from by omega)).other W134 (show @Ne Nat a4 a7 from by omega)).other W138 (show @Ne Nat a4 wk from by omega)).other W142 (show @Ne Nat a4 wk from by omega))
    have f157 : Arv Z h142 a5 k5 .int (16 : Int32) (v5.set (wc).toNatClampNeg (.int sb)) (.int (0 : Int32)) := ((((V115.other W122 (show @Ne Nat a5 a6 from by omega)).other W134 (show @Ne Nat a5 a7 from by omega)).other W138 (show @Ne Nat a5 wk from by omega)).other W142 (show @Ne Nat a5 wk from by omega))
    have f158 : Arv Z h142 a6 k6 .int (16 : Int32) (v6.set (wc).toNatClampNeg (.int bf)) (.int (0 : Int32)) := (((V122.other W134 (show @Ne Nat a6 a7 from by omega)).other W138 (show @Ne Nat a6 wk from by omega)).other W142 (show @Ne Nat a6 wk from by omega))
    have f159 : Arv Z h142 a7 k7 .int (16 : Int32) (v7.set ((own_len ps)).toNatClampNeg (.int wc)) (.int (0 : Int32)) := ((V134.other W138 (show @Ne Nat a7 wk from by omega)).other W142 (show @Ne Nat a7 wk from by omega))
    have hq143 : Q5 Z wk pf pr sb bf wc ps h0 n0 none h142 _ := ⟨rfl, N142, (by omega), ⟨a1, a2, a3, a4, a5, a6, a7, _, _, _, _, _, _, _, _, _, _, _, _, _, _, f144, F142, (own_lenS (q := wc) hps ▸ f145), f146, f147, f148, f149, f150, f151, f152, f153, f154, f155, f156, f157, f158, f159, ⟨by simp [hl1], by simp [hl2], by simp [hl3], by simp [hl4], by simp [hl5], by simp [hl6], by simp [hl7]⟩, ⟨ho0, ho1, ho2, ho3, ho4, ho5, ho6, ho7⟩, own_elS hps hl7 he⟩⟩
    exact own_retV X142 hx hlk hrt (hb hby d5_229) e142 hq143 (by decide) (by decide)
theorem own_WKexa {Z : State} {h : Heap} {n0 : Nat} {wk : Addr} {wc : Int32} {ps : List Int32} (H : own_WK Z h n0 wk wc ps) : Exa Z h wk "com/example/methodical_checker/methodicalchecker/promela/Walk" := by
  obtain ⟨a1, a2, a3, a4, a5, a6, a7, k1, k2, k3, k4, k5, k6, k7, v1, v2, v3, v4, v5, v6, v7, f, -⟩ := H; exact f

theorem d4_0 : decode method_3_code 0 = .ok (.aload_n 0, 1) := by decide +kernel
theorem d4_1 : decode method_3_code 1 = .ok (.iload_n 1, 1) := by decide +kernel
theorem d4_2 : decode method_3_code 2 = .ok (.iload_n 1, 1) := by decide +kernel
theorem d4_3 : decode method_3_code 3 = .ok (.aconst_null, 1) := by decide +kernel
theorem d4_4 : decode method_3_code 4 = .ok (.aconst_null, 1) := by decide +kernel
theorem d4_5 : decode method_3_code 5 = .ok (.iconst 0, 1) := by decide +kernel
theorem d4_6 : decode method_3_code 6 = .ok (.iconst (-1), 1) := by decide +kernel
theorem d4_7 : decode method_3_code 7 = .ok (.invokevirtual 35, 3) := by decide +kernel
theorem d4_10 : decode method_3_code 10 = .ok (.return_, 1) := by decide +kernel
theorem pn_4 : plainName "com/example/methodical_checker/methodicalchecker/promela/WalkPendingInOrderPinLaw" = true := by first | (simp [plainName, overriddenIn]; done) | decide +kernel
theorem pd_4_0 : parseMethodDescriptor "(IILcom/example/methodical_checker/methodicalchecker/promela/Transition;Lcom/example/methodical_checker/methodicalchecker/promela/Stepper$Meeting;II)V" = some ⟨[.int, .int, (.object "com/example/methodical_checker/methodicalchecker/promela/Transition"), (.object "com/example/methodical_checker/methodicalchecker/promela/Stepper$Meeting"), .int, .int], none⟩ := by decide +kernel
theorem ef_4 (m : MethodId) (x0 : Addr) (x1 : Int32) : entryFrame m #[(.ref x0), (.int x1)] 2 = mkF m 0 #[.val (.ref x0), .val (.int x1)] [] := by first | (simp [entryFrame, mkF, argsToLocals, Value.category]; done) | rfl
def Q4 (Z : State) (wk : Addr) (dd : Int32) (wc : Int32) (ps : List Int32) (h0 : Heap) (n0 : Nat) (v : Option Value) (h : Heap) (L : List Loc) : Prop := v = none ∧ Fr n0 L ∧ h0.size ≤ h.size ∧ own_WK Z h n0 wk (wc + 1) (ps ++ [wc])
set_option maxRecDepth 65536 in
set_option maxHeartbeats 40000000 in
theorem rm4 (l : Launch) (Z : State) (a0 : Array Value) (hw : ∀ d ∈ tables_1, d.before a0 Z = true) (ws : List Jvm.Cond) (wk : Addr) (dd : Int32) (wc : Int32) (ps : List Int32) (h0 : Heap) (n0 : Nat) (Z0 : n0 ≤ h0.size) (P0 : own_WK Z h0 n0 wk wc ps) (hwc : 0 ≤ wc.toInt ∧ wc.toInt < 16) (hps : ps.length < 16) :
    MetFree l (⟨"com/example/methodical_checker/methodicalchecker/promela/WalkPendingInOrderPinLaw", "push", "(Lcom/example/methodical_checker/methodicalchecker/promela/Walk;I)V"⟩ : MethodName) (head1 (Jvm.Cond.code (⟨"com/example/methodical_checker/methodicalchecker/promela/WalkPendingInOrderPinLaw", "push", "(Lcom/example/methodical_checker/methodicalchecker/promela/Walk;I)V"⟩ : MethodName) method_3_code 2 none :: ws) ({ frames := 1, cells := 0, slots := 0, locals := 19 } : Room)) (fun a U => a = #[(.ref wk), (.int dd)] ∧ Z.Warmed39 U.vm ∧ U.heap = h0) (fun _ _ _ _ _ => True) (fun _ U o U' => ∃ v L, o = .returned v ∧ Q4 Z wk dd wc ps h0 n0 v U'.heap L ∧ FrameEnd U o U' L ({ frames := 1, cells := 0, slots := 0, locals := 19 } : Room).cells ({ frames := 1, cells := 0, slots := 0, locals := 19 } : Room).slots) := by
  refine MetFree.of_bodySF (plainFor_of_name pn_4) hisR ?_
  intro p e s m args below meth c s₁ Bd hml0 hP hK
  obtain ⟨rfl, hZ, hh⟩ := hP
  have hx := Bd.exec
  have hby := Bd.bytes
  have hml : c.maxLocals = 2 := hml0
  have hown : s.vm.findClass "com/example/methodical_checker/methodicalchecker/promela/WalkPendingInOrderPinLaw" = some m.cls := findClass_of_methodNamed Bd.named
  have hnm := (name_of_methodNamed Bd.named Bd.method).1
  have hlk : meth.locks = false := BodyLoose.notSynchronized Bd
  have hrt := Bd.returns
  have X0 : Stand p l e ({ frames := 1, cells := 0, slots := 0, locals := 19 } : Room) s m #[(.ref wk), (.int dd)] below meth c s₁ [] 0 0 := Stand.of_body Bd
  have e0 : s₁.heap = h0 := by rw [← hh, Bd.state]; rfl
  have N0 := Fr.nil n0
  show own_Fin p.tables e below (own_post (Q4 Z wk dd wc ps h0 n0) s ({ frames := 1, cells := 0, slots := 0, locals := 19 } : Room).cells ({ frames := 1, cells := 0, slots := 0, locals := 19 } : Room).slots) (s₁.setTop (entryFrame m #[(.ref wk), (.int dd)] 2))
  refine own_Fin.step (fun t k => castTop (ef_4 m wk dd) k) ?_
  refine own_Fin.step (S' := s₁.setTop (mkF m 1 #[.val (.ref wk), .val (.int dd)] [(.ref wk)])) (fun t k => XS.aloadN X0.here hx rfl (hb hby d4_0) rfl rfl  k) ?_
  refine own_Fin.step (S' := s₁.setTop (mkF m 2 #[.val (.ref wk), .val (.int dd)] [(.int dd), (.ref wk)])) (fun t k => XS.iloadN X0.here hx rfl (hb hby d4_1) rfl  k) ?_
  refine own_Fin.step (S' := s₁.setTop (mkF m 3 #[.val (.ref wk), .val (.int dd)] [(.int dd), (.int dd), (.ref wk)])) (fun t k => XS.iloadN X0.here hx rfl (hb hby d4_2) rfl  k) ?_
  refine own_Fin.step (S' := s₁.setTop (mkF m 4 #[.val (.ref wk), .val (.int dd)] [.null, (.int dd), (.int dd), (.ref wk)])) (fun t k => XS.aconstNull X0.here hx rfl (hb hby d4_3) k) ?_
  refine own_Fin.step (S' := s₁.setTop (mkF m 5 #[.val (.ref wk), .val (.int dd)] [.null, .null, (.int dd), (.int dd), (.ref wk)])) (fun t k => XS.aconstNull X0.here hx rfl (hb hby d4_4) k) ?_
  refine own_Fin.step (S' := s₁.setTop (mkF m 6 #[.val (.ref wk), .val (.int dd)] [(.int (0 : Int32)), .null, .null, (.int dd), (.int dd), (.ref wk)])) (fun t k => XS.iconst X0.here hx rfl (hb hby d4_5) k) ?_
  refine own_Fin.step (S' := s₁.setTop (mkF m 7 #[.val (.ref wk), .val (.int dd)] [(.int (-1 : Int32)), (.int (0 : Int32)), .null, .null, (.int dd), (.int dd), (.ref wk)])) (fun t k => XS.iconst X0.here hx rfl (hb hby d4_6) k) ?_
  have f160 : Exa Z h0 wk "com/example/methodical_checker/methodicalchecker/promela/Walk" := own_WKexa P0
  have lf160 : @LT.lt Nat _ wk (Array.size h0) := f160.lt
  obtain ⟨cq161, kq161, q161a, q161b, q161c⟩ := isOf hZ e0 f160
  obtain ⟨_, _, ⟨T161, L161, k161, n161⟩, -, X161, ⟨Lc161, hQ161, l161, y161, zz161⟩, st161⟩ := X0.virtualBack hx (y := (⟨"com/example/methodical_checker/methodicalchecker/promela/Walk", "push", "(IILcom/example/methodical_checker/methodicalchecker/promela/Transition;Lcom/example/methodical_checker/methodicalchecker/promela/Stepper$Meeting;II)V"⟩ : MethodName)) (z := (⟨"com/example/methodical_checker/methodicalchecker/promela/Walk", "push", "(IILcom/example/methodical_checker/methodicalchecker/promela/Transition;Lcom/example/methodical_checker/methodicalchecker/promela/Stepper$Meeting;II)V"⟩ : MethodName)) hown (mvT hZ (hw _ (List.mem_of_getElem? (i := 55) rfl))) (mvT hZ (hw _ (List.mem_of_getElem? (i := 56) rfl))) (notFace_of_selects (args := #[]) (mvT hZ (hw _ (List.mem_of_getElem? (i := 58) rfl)))) (mvT hZ (hw _ (List.mem_of_getElem? (i := 58) rfl))) (mvT hZ (hw _ (List.mem_of_getElem? (i := 57) rfl))) (by decide) (backOf (W := 0) (rm5 l Z a0 hw [] wk dd dd (0 : Int32) (-1 : Int32) wc ps h0 n0 (by omega) P0 (by first | assumption | decide | omega) (by first | assumption | decide | omega)) hZ (hw _ (List.mem_of_getElem? (i := 59) rfl)) (hw _ (List.mem_of_getElem? (i := 7) rfl)) (by decide) (by decide)) q161a q161c (g := (mkF m 7 #[.val (.ref wk), .val (.int dd)] [(.int (-1 : Int32)), (.int (0 : Int32)), .null, .null, (.int dd), (.int dd), (.ref wk)])) rfl (by rw [hml]; rfl) (Steps.refl _) (argsL := [(.int dd), (.int dd), .null, .null, (.int (0 : Int32)), (.int (-1 : Int32))]) (rest := []) (lenOf pd_4_0 rfl) rfl (by show 2 * 0 + _ ≤ _; exact Nat.le_of_eq rfl) (hb hby d4_7) (fun _ _ => ⟨rfl, e0, (by decide : 0 + 0 ≤ _), (by decide : 0 + 0 ≤ _)⟩)
  dsimp only [Pt.U, Pt.locs, Pt.cells, Pt.slots] at X161 l161 y161 zz161 st161 hQ161
  subst l161 y161 zz161
  obtain ⟨rfl, N161q, K161, G161_0⟩ := hQ161
  have N161 := Fr.app N0 N161q
  refine own_Fin.trans (S' := T161.setTop (mkF m 10 #[.val (.ref wk), .val (.int dd)] [])) st161 ?_
  have hq162 : Q4 Z wk dd wc ps h0 n0 none T161.heap _ := ⟨rfl, N161, (by omega), G161_0⟩
  exact own_retV X161 hx hlk hrt (hb hby d4_10) rfl hq162 (by decide) (by decide)
theorem d8_0 : decode prog_121_method_10_code 0 = .ok (.aload_n 0, 1) := by decide +kernel
theorem d8_1 : decode prog_121_method_10_code 1 = .ok (.dup, 1) := by decide +kernel
theorem d8_2 : decode prog_121_method_10_code 2 = .ok (.getfield 76, 3) := by decide +kernel
theorem d8_5 : decode prog_121_method_10_code 5 = .ok (.iconst 1, 1) := by decide +kernel
theorem d8_6 : decode prog_121_method_10_code 6 = .ok (.isub, 1) := by decide +kernel
theorem d8_7 : decode prog_121_method_10_code 7 = .ok (.putfield 76, 3) := by decide +kernel
theorem d8_10 : decode prog_121_method_10_code 10 = .ok (.aload_n 0, 1) := by decide +kernel
theorem d8_11 : decode prog_121_method_10_code 11 = .ok (.getfield 39, 3) := by decide +kernel
theorem d8_14 : decode prog_121_method_10_code 14 = .ok (.aload_n 0, 1) := by decide +kernel
theorem d8_15 : decode prog_121_method_10_code 15 = .ok (.getfield 76, 3) := by decide +kernel
theorem d8_18 : decode prog_121_method_10_code 18 = .ok (.iaload, 1) := by decide +kernel
theorem d8_19 : decode prog_121_method_10_code 19 = .ok (.ireturn, 1) := by decide +kernel
theorem pn_8 : plainName "com/example/methodical_checker/methodicalchecker/promela/Walk" = true := by first | (simp [plainName, overriddenIn]; done) | decide +kernel
theorem ef_8 (m : MethodId) (x0 : Addr) : entryFrame m #[(.ref x0)] 1 = mkF m 0 #[.val (.ref x0)] [] := by first | (simp [entryFrame, mkF, argsToLocals, Value.category]; done) | rfl
def Q8 (Z : State) (wk : Addr) (wc : Int32) (ps : List Int32) (qq : Int32) (h0 : Heap) (n0 : Nat) (v : Option Value) (h : Heap) (L : List Loc) : Prop := v = some (.int qq) ∧ Fr n0 L ∧ h0.size ≤ h.size ∧ own_WK Z h n0 wk wc ps
set_option maxRecDepth 65536 in
set_option maxHeartbeats 40000000 in
theorem rm8 (l : Launch) (Z : State) (a0 : Array Value) (hw : ∀ d ∈ tables_1, d.before a0 Z = true) (ws : List Jvm.Cond) (wk : Addr) (wc : Int32) (ps : List Int32) (qq : Int32) (h0 : Heap) (n0 : Nat) (Z0 : n0 ≤ h0.size) (P0 : own_WK Z h0 n0 wk wc (ps ++ [qq])) (hps : ps.length < 16) :
    MetFree l (⟨"com/example/methodical_checker/methodicalchecker/promela/Walk", "pop", "()I"⟩ : MethodName) (head1 (Jvm.Cond.code (⟨"com/example/methodical_checker/methodicalchecker/promela/Walk", "pop", "()I"⟩ : MethodName) prog_121_method_10_code 1 (some .int) :: ws) ({ frames := 0, cells := 0, slots := 0, locals := 0 } : Room)) (fun a U => a = #[(.ref wk)] ∧ Z.Warmed39 U.vm ∧ U.heap = h0) (fun _ _ _ _ _ => True) (fun _ U o U' => ∃ v L, o = .returned v ∧ Q8 Z wk wc ps qq h0 n0 v U'.heap L ∧ FrameEnd U o U' L ({ frames := 0, cells := 0, slots := 0, locals := 0 } : Room).cells ({ frames := 0, cells := 0, slots := 0, locals := 0 } : Room).slots) := by
  refine MetFree.of_bodySF (plainFor_of_name pn_8) hisR ?_
  intro p e s m args below meth c s₁ Bd hml0 hP hK
  obtain ⟨rfl, hZ, hh⟩ := hP
  have hx := Bd.exec
  have hby := Bd.bytes
  have hml : c.maxLocals = 1 := hml0
  have hown : s.vm.findClass "com/example/methodical_checker/methodicalchecker/promela/Walk" = some m.cls := findClass_of_methodNamed Bd.named
  have hnm := (name_of_methodNamed Bd.named Bd.method).1
  have hlk : meth.locks = false := BodyLoose.notSynchronized Bd
  have hrt := Bd.returns
  have X0 : Stand p l e ({ frames := 0, cells := 0, slots := 0, locals := 0 } : Room) s m #[(.ref wk)] below meth c s₁ [] 0 0 := Stand.of_body Bd
  have e0 : s₁.heap = h0 := by rw [← hh, Bd.state]; rfl
  have N0 := Fr.nil n0
  show own_Fin p.tables e below (own_post (Q8 Z wk wc ps qq h0 n0) s ({ frames := 0, cells := 0, slots := 0, locals := 0 } : Room).cells ({ frames := 0, cells := 0, slots := 0, locals := 0 } : Room).slots) (s₁.setTop (entryFrame m #[(.ref wk)] 1))
  refine own_Fin.step (fun t k => castTop (ef_8 m wk) k) ?_
  obtain ⟨a1, a2, a3, a4, a5, a6, a7, k1, k2, k3, k4, k5, k6, k7, v1, v2, v3, v4, v5, v6, v7, G0, G1, G2, G3, G4, G5, G6, G7, G8, G9, G10, G11, G12, G13, G14, G15, G16, hl, ho, he⟩ := P0
  obtain ⟨hl1, hl2, hl3, hl4, hl5, hl6, hl7⟩ := hl
  obtain ⟨ho0, ho1, ho2, ho3, ho4, ho5, ho6, ho7⟩ := ho
  have lG0 : @LT.lt Nat _ wk (Array.size h0) := G0.lt
  have lG1 : @LT.lt Nat _ wk (Array.size h0) := G1.lt
  have lG2 : @LT.lt Nat _ wk (Array.size h0) := G2.lt
  have lG3 : @LT.lt Nat _ wk (Array.size h0) := G3.lt
  have lG4 : @LT.lt Nat _ wk (Array.size h0) := G4.lt
  have lG5 : @LT.lt Nat _ wk (Array.size h0) := G5.lt
  have lG6 : @LT.lt Nat _ wk (Array.size h0) := G6.lt
  have lG7 : @LT.lt Nat _ wk (Array.size h0) := G7.lt
  have lG8 : @LT.lt Nat _ wk (Array.size h0) := G8.lt
  have lG9 : @LT.lt Nat _ wk (Array.size h0) := G9.lt
  have lG10 : @LT.lt Nat _ a1 (Array.size h0) := G10.lt
  have lG11 : @LT.lt Nat _ a2 (Array.size h0) := G11.lt
  have lG12 : @LT.lt Nat _ a3 (Array.size h0) := G12.lt
  have lG13 : @LT.lt Nat _ a4 (Array.size h0) := G13.lt
  have lG14 : @LT.lt Nat _ a5 (Array.size h0) := G14.lt
  have lG15 : @LT.lt Nat _ a6 (Array.size h0) := G15.lt
  have lG16 : @LT.lt Nat _ a7 (Array.size h0) := G16.lt
  refine own_Fin.step (S' := s₁.setTop (mkF m 1 #[.val (.ref wk)] [(.ref wk)])) (fun t k => XS.aloadN X0.here hx rfl (hb hby d8_0) rfl rfl  k) ?_
  refine own_Fin.step (S' := s₁.setTop (mkF m 2 #[.val (.ref wk)] [(.ref wk), (.ref wk)])) (fun t k => XS.dup X0.here hx rfl (hb hby d8_1) rfl rfl k) ?_
  obtain ⟨T163, X163, e163, st163⟩ := getF X0 hx hZ hown (host := "") (Or.inl (hw _ (List.mem_of_getElem? (i := 62) rfl))) Via.refl e0 G2 (g := (mkF m 2 #[.val (.ref wk)] [(.ref wk), (.ref wk)])) rfl rfl (hb hby d8_2)
  refine own_Fin.step (S' := T163.setTop (mkF m 5 #[.val (.ref wk)] [(.int (own_len (ps ++ [qq]))), (.ref wk)])) st163 ?_
  refine own_Fin.step (S' := T163.setTop (mkF m 6 #[.val (.ref wk)] [(.int (1 : Int32)), (.int (own_len (ps ++ [qq]))), (.ref wk)])) (fun t k => XS.iconst X163.here hx rfl (hb hby d8_5) k) ?_
  refine own_Fin.step (S' := T163.setTop (mkF m 7 #[.val (.ref wk)] [(.int ((own_len (ps ++ [qq])) - (1 : Int32))), (.ref wk)])) (fun t k => XS.isub X163.here hx rfl (hb hby d8_6) rfl k) ?_
  rw [own_lenP hps]
  obtain ⟨T164, h164, X164, e164, W164, st164⟩ := putF X163 hx hZ hown (host := "") (Or.inl (hw _ (List.mem_of_getElem? (i := 62) rfl))) Via.refl e163 G2 G0 (Or.inl (hw _ (List.mem_of_getElem? (i := 63) rfl))) (hw _ (List.mem_of_getElem? (i := 6) rfl)) (ty := .int) (by decide) rfl rfl (g := (mkF m 7 #[.val (.ref wk)] [(.int (own_len ps)), (.ref wk)])) rfl rfl (hb hby d8_7)
  have F164 := Fld.same W164 G2
  have z164 := W164.size
  have N164 := Fr.snoc X164 N0 (by omega)
  refine own_Fin.step (S' := T164.setTop (mkF m 10 #[.val (.ref wk)] [])) st164 ?_
  refine own_Fin.step (S' := T164.setTop (mkF m 11 #[.val (.ref wk)] [(.ref wk)])) (fun t k => XS.aloadN X164.here hx rfl (hb hby d8_10) rfl rfl  k) ?_
  have f165 : Fld Z h164 wk "com/example/methodical_checker/methodicalchecker/promela/Walk" "pending" "[I" (.ref a7) := (Fld.other W164 G9 (Or.inr (slot_ne (Or.inl (hw _ (List.mem_of_getElem? (i := 36) rfl))) (Or.inl (hw _ (List.mem_of_getElem? (i := 63) rfl))) (by decide) (t := (.array .int)) (t' := .int) (by decide) (by decide))))
  obtain ⟨T166, X166, e166, st166⟩ := getF X164 hx hZ hown (host := "") (Or.inl (hw _ (List.mem_of_getElem? (i := 35) rfl))) Via.refl e164 f165 (g := (mkF m 11 #[.val (.ref wk)] [(.ref wk)])) rfl rfl (hb hby d8_11)
  refine own_Fin.step (S' := T166.setTop (mkF m 14 #[.val (.ref wk)] [(.ref a7)])) st166 ?_
  refine own_Fin.step (S' := T166.setTop (mkF m 15 #[.val (.ref wk)] [(.ref wk), (.ref a7)])) (fun t k => XS.aloadN X166.here hx rfl (hb hby d8_14) rfl rfl  k) ?_
  obtain ⟨T167, X167, e167, st167⟩ := getF X166 hx hZ hown (host := "") (Or.inl (hw _ (List.mem_of_getElem? (i := 62) rfl))) Via.refl e166 F164 (g := (mkF m 15 #[.val (.ref wk)] [(.ref wk), (.ref a7)])) rfl rfl (hb hby d8_15)
  refine own_Fin.step (S' := T167.setTop (mkF m 18 #[.val (.ref wk)] [(.int (own_len ps)), (.ref a7)])) st167 ?_
  have f168 : Arv Z h164 a7 k7 .int (16 : Int32) v7 (.int (0 : Int32)) := (G16.other W164 (show @Ne Nat a7 wk from by omega))
  obtain ⟨cl169, Ar169, q169, S169, N169z, Hs169, G169⟩ := id f168
  have hin169 : ¬ ((own_len ps) < 0 ∨ cl169.slots.size ≤ ((own_len ps)).toNatClampNeg) := inb_of S169 (own_in16 (own_len_r hps))
  have hat169 : cl169.slots[((own_len ps)).toNatClampNeg]? = some (.int qq) := Hs169.at hin169 (by rw [own_len_n hps]; exact he _ _ (by simp))
  refine own_Fin.step (S' := T167.setTop (mkF m 19 #[.val (.ref wk)] [(.int qq)])) (X167.iaload hx (j := (own_len ps)) (v := (.int qq)) (by rw [e167]; exact Ar169.1) (State.isArrayOf_alike hZ.alike Ar169.2.1) Ar169.2.2 hin169 hat169 (g := (mkF m 18 #[.val (.ref wk)] [(.int (own_len ps)), (.ref a7)])) rfl rfl (hb hby d8_18)) ?_
  have f171 : Exa Z h164 wk "com/example/methodical_checker/methodicalchecker/promela/Walk" := (Exa.wr W164 G0)
  have f172 : Fld Z h164 wk "com/example/methodical_checker/methodicalchecker/promela/Walk" "wayCount" "I" (.int wc) := (Fld.other W164 G1 (Or.inr (slot_ne (Or.inl (hw _ (List.mem_of_getElem? (i := 61) rfl))) (Or.inl (hw _ (List.mem_of_getElem? (i := 63) rfl))) (by decide) (t := .int) (t' := .int) (by decide) (by decide))))
  have f173 : Fld Z h164 wk "com/example/methodical_checker/methodicalchecker/promela/Walk" "wayFrom" "[I" (.ref a1) := (Fld.other W164 G3 (Or.inr (slot_ne (Or.inl (hw _ (List.mem_of_getElem? (i := 20) rfl))) (Or.inl (hw _ (List.mem_of_getElem? (i := 63) rfl))) (by decide) (t := (.array .int)) (t' := .int) (by decide) (by decide))))
  have f174 : Fld Z h164 wk "com/example/methodical_checker/methodicalchecker/promela/Walk" "wayProcess" "[I" (.ref a2) := (Fld.other W164 G4 (Or.inr (slot_ne (Or.inl (hw _ (List.mem_of_getElem? (i := 22) rfl))) (Or.inl (hw _ (List.mem_of_getElem? (i := 63) rfl))) (by decide) (t := (.array .int)) (t' := .int) (by decide) (by decide))))
  have f175 : Fld Z h164 wk "com/example/methodical_checker/methodicalchecker/promela/Walk" "wayStep" "[Lcom/example/methodical_checker/methodicalchecker/promela/Transition;" (.ref a3) := (Fld.other W164 G5 (Or.inr (slot_ne (Or.inl (hw _ (List.mem_of_getElem? (i := 26) rfl))) (Or.inl (hw _ (List.mem_of_getElem? (i := 63) rfl))) (by decide) (t := (.array (.object "com/example/methodical_checker/methodicalchecker/promela/Transition"))) (t' := .int) (by decide) (by decide))))
  have f176 : Fld Z h164 wk "com/example/methodical_checker/methodicalchecker/promela/Walk" "wayMeeting" "[Lcom/example/methodical_checker/methodicalchecker/promela/Stepper$Meeting;" (.ref a4) := (Fld.other W164 G6 (Or.inr (slot_ne (Or.inl (hw _ (List.mem_of_getElem? (i := 30) rfl))) (Or.inl (hw _ (List.mem_of_getElem? (i := 63) rfl))) (by decide) (t := (.array (.object "com/example/methodical_checker/methodicalchecker/promela/Stepper$Meeting"))) (t' := .int) (by decide) (by decide))))
  have f177 : Fld Z h164 wk "com/example/methodical_checker/methodicalchecker/promela/Walk" "wayStepsBefore" "[I" (.ref a5) := (Fld.other W164 G7 (Or.inr (slot_ne (Or.inl (hw _ (List.mem_of_getElem? (i := 32) rfl))) (Or.inl (hw _ (List.mem_of_getElem? (i := 63) rfl))) (by decide) (t := (.array .int)) (t' := .int) (by decide) (by decide))))
  have f178 : Fld Z h164 wk "com/example/methodical_checker/methodicalchecker/promela/Walk" "wayBefore" "[I" (.ref a6) := (Fld.other W164 G8 (Or.inr (slot_ne (Or.inl (hw _ (List.mem_of_getElem? (i := 34) rfl))) (Or.inl (hw _ (List.mem_of_getElem? (i := 63) rfl))) (by decide) (t := (.array .int)) (t' := .int) (by decide) (by decide))))
  have f179 : Arv Z h164 a1 k1 .int (16 : Int32) v1 (.int (0 : Int32)) := (G10.other W164 (show @Ne Nat a1 wk from by omega))
  have f180 : Arv Z h164 a2 k2 .int (16 : Int32) v2 (.int (0 : Int32)) := (G11.other W164 (show @Ne Nat a2 wk from by omega))
  have f181 : Arv Z h164 a3 k3 (.object "com/example/methodical_checker/methodicalchecker/promela/Transition") (16 : Int32) v3 .null := (G12.other W164 (show @Ne Nat a3 wk from by omega))
  have f182 : Arv Z h164 a4 k4 (.object "com/example/methodical_checker/methodicalchecker/promela/Stepper$Meeting") (16 : Int32) v4 .null := (G13.other W164 (show @Ne Nat a4 wk from by omega))
  have f183 : Arv Z h164 a5 k5 .int (16 : Int32) v5 (.int (0 : Int32)) := (G14.other W164 (show @Ne Nat a5 wk from by omega))
  have f184 : Arv Z h164 a6 k6 .int (16 : Int32) v6 (.int (0 : Int32)) := (G15.other W164 (show @Ne Nat a6 wk from by omega))
  have hq170 : Q8 Z wk wc ps qq h0 n0 (some (.int qq)) h164 _ := ⟨rfl, N164, (by omega), ⟨a1, a2, a3, a4, a5, a6, a7, _, _, _, _, _, _, _, _, _, _, _, _, _, _, f171, f172, F164, f173, f174, f175, f176, f177, f178, f165, f179, f180, f181, f182, f183, f184, f168, ⟨hl1, hl2, hl3, hl4, hl5, hl6, hl7⟩, ⟨ho0, ho1, ho2, ho3, ho4, ho5, ho6, ho7⟩, own_elP he⟩⟩
  exact own_retI X167 hx hlk hrt (hb hby d8_19) e167 hq170 (by decide) (by decide)
theorem d6_0 : decode prog_121_method_11_code 0 = .ok (.aload_n 0, 1) := by decide +kernel
theorem d6_1 : decode prog_121_method_11_code 1 = .ok (.getfield 76, 3) := by decide +kernel
theorem d6_4 : decode prog_121_method_11_code 4 = .ok (.newarray .int, 2) := by decide +kernel
theorem d6_6 : decode prog_121_method_11_code 6 = .ok (.astore_n 1, 1) := by decide +kernel
theorem d6_7 : decode prog_121_method_11_code 7 = .ok (.iconst 0, 1) := by decide +kernel
theorem d6_8 : decode prog_121_method_11_code 8 = .ok (.istore_n 2, 1) := by decide +kernel
theorem d6_9 : decode prog_121_method_11_code 9 = .ok (.iload_n 2, 1) := by decide +kernel
theorem d6_10 : decode prog_121_method_11_code 10 = .ok (.aload_n 0, 1) := by decide +kernel
theorem d6_11 : decode prog_121_method_11_code 11 = .ok (.getfield 76, 3) := by decide +kernel
theorem d6_14 : decode prog_121_method_11_code 14 = .ok (.if_icmp .ge 25, 3) := by decide +kernel
theorem d6_17 : decode prog_121_method_11_code 17 = .ok (.aload_n 1, 1) := by decide +kernel
theorem d6_18 : decode prog_121_method_11_code 18 = .ok (.iload_n 2, 1) := by decide +kernel
theorem d6_19 : decode prog_121_method_11_code 19 = .ok (.aload_n 0, 1) := by decide +kernel
theorem d6_20 : decode prog_121_method_11_code 20 = .ok (.getfield 39, 3) := by decide +kernel
theorem d6_23 : decode prog_121_method_11_code 23 = .ok (.aload_n 0, 1) := by decide +kernel
theorem d6_24 : decode prog_121_method_11_code 24 = .ok (.getfield 76, 3) := by decide +kernel
theorem d6_27 : decode prog_121_method_11_code 27 = .ok (.iconst 1, 1) := by decide +kernel
theorem d6_28 : decode prog_121_method_11_code 28 = .ok (.isub, 1) := by decide +kernel
theorem d6_29 : decode prog_121_method_11_code 29 = .ok (.iload_n 2, 1) := by decide +kernel
theorem d6_30 : decode prog_121_method_11_code 30 = .ok (.isub, 1) := by decide +kernel
theorem d6_31 : decode prog_121_method_11_code 31 = .ok (.iaload, 1) := by decide +kernel
theorem d6_32 : decode prog_121_method_11_code 32 = .ok (.iastore, 1) := by decide +kernel
theorem d6_33 : decode prog_121_method_11_code 33 = .ok (.iinc 2 1, 3) := by decide +kernel
theorem d6_36 : decode prog_121_method_11_code 36 = .ok (.goto (-27), 3) := by decide +kernel
theorem d6_39 : decode prog_121_method_11_code 39 = .ok (.aload_n 1, 1) := by decide +kernel
theorem d6_40 : decode prog_121_method_11_code 40 = .ok (.areturn, 1) := by decide +kernel
theorem pn_6 : plainName "com/example/methodical_checker/methodicalchecker/promela/Walk" = true := by first | (simp [plainName, overriddenIn]; done) | decide +kernel
theorem ef_6 (m : MethodId) (x0 : Addr) : entryFrame m #[(.ref x0)] 3 = mkF m 0 #[.val (.ref x0), .unset, .unset] [] := by first | (simp [entryFrame, mkF, argsToLocals, Value.category]; done) | rfl
def Q6 (Z : State) (wk : Addr) (wc : Int32) (ps : List Int32) (h0 : Heap) (n0 : Nat) (v : Option Value) (h : Heap) (L : List Loc) : Prop := ∃ ob : Addr, ∃ kb : ClassId, v = some (.ref ob) ∧ Fr n0 L ∧ Keep h0 h [] ∧ own_WK Z h n0 wk wc ps ∧ Arv Z h ob kb .int (own_len ps) (ps.reverse.map Value.int) (.int (0 : Int32)) ∧ (h0.size ≤ ob)
set_option maxRecDepth 65536 in
set_option maxHeartbeats 40000000 in
theorem rm6 (l : Launch) (Z : State) (a0 : Array Value) (hw : ∀ d ∈ tables_1, d.before a0 Z = true) (ws : List Jvm.Cond) (wk : Addr) (wc : Int32) (ps : List Int32) (h0 : Heap) (n0 : Nat) (Z0 : n0 ≤ h0.size) (P0 : own_WK Z h0 n0 wk wc ps) (hps : ps.length ≤ 5) :
    MetFree l (⟨"com/example/methodical_checker/methodicalchecker/promela/Walk", "pendingInOrder", "()[I"⟩ : MethodName) (head1 (Jvm.Cond.code (⟨"com/example/methodical_checker/methodicalchecker/promela/Walk", "pendingInOrder", "()[I"⟩ : MethodName) prog_121_method_11_code 3 (some (.array .int)) :: ws) ({ frames := 0, cells := 1, slots := 5, locals := 0 } : Room)) (fun a U => a = #[(.ref wk)] ∧ Z.Warmed39 U.vm ∧ U.heap = h0) (fun _ _ _ _ _ => True) (fun _ U o U' => ∃ v L, o = .returned v ∧ Q6 Z wk wc ps h0 n0 v U'.heap L ∧ FrameEnd U o U' L ({ frames := 0, cells := 1, slots := 5, locals := 0 } : Room).cells ({ frames := 0, cells := 1, slots := 5, locals := 0 } : Room).slots) := by
  refine MetFree.of_bodySF (plainFor_of_name pn_6) hisR ?_
  intro p e s m args below meth c s₁ Bd hml0 hP hK
  obtain ⟨rfl, hZ, hh⟩ := hP
  have hx := Bd.exec
  have hby := Bd.bytes
  have hml : c.maxLocals = 3 := hml0
  have hown : s.vm.findClass "com/example/methodical_checker/methodicalchecker/promela/Walk" = some m.cls := findClass_of_methodNamed Bd.named
  have hnm := (name_of_methodNamed Bd.named Bd.method).1
  have hlk : meth.locks = false := BodyLoose.notSynchronized Bd
  have hrt := Bd.returns
  have X0 : Stand p l e ({ frames := 0, cells := 1, slots := 5, locals := 0 } : Room) s m #[(.ref wk)] below meth c s₁ [] 0 0 := Stand.of_body Bd
  have e0 : s₁.heap = h0 := by rw [← hh, Bd.state]; rfl
  have N0 := Fr.nil n0
  show own_Fin p.tables e below (own_post (Q6 Z wk wc ps h0 n0) s ({ frames := 0, cells := 1, slots := 5, locals := 0 } : Room).cells ({ frames := 0, cells := 1, slots := 5, locals := 0 } : Room).slots) (s₁.setTop (entryFrame m #[(.ref wk)] 3))
  refine own_Fin.step (fun t k => castTop (ef_6 m wk) k) ?_
  obtain ⟨a1, a2, a3, a4, a5, a6, a7, k1, k2, k3, k4, k5, k6, k7, v1, v2, v3, v4, v5, v6, v7, G0, G1, G2, G3, G4, G5, G6, G7, G8, G9, G10, G11, G12, G13, G14, G15, G16, hl, ho, he⟩ := id P0
  obtain ⟨hl1, hl2, hl3, hl4, hl5, hl6, hl7⟩ := hl
  obtain ⟨ho0, ho1, ho2, ho3, ho4, ho5, ho6, ho7⟩ := ho
  have lG0 : @LT.lt Nat _ wk (Array.size h0) := G0.lt
  have lG1 : @LT.lt Nat _ wk (Array.size h0) := G1.lt
  have lG2 : @LT.lt Nat _ wk (Array.size h0) := G2.lt
  have lG3 : @LT.lt Nat _ wk (Array.size h0) := G3.lt
  have lG4 : @LT.lt Nat _ wk (Array.size h0) := G4.lt
  have lG5 : @LT.lt Nat _ wk (Array.size h0) := G5.lt
  have lG6 : @LT.lt Nat _ wk (Array.size h0) := G6.lt
  have lG7 : @LT.lt Nat _ wk (Array.size h0) := G7.lt
  have lG8 : @LT.lt Nat _ wk (Array.size h0) := G8.lt
  have lG9 : @LT.lt Nat _ wk (Array.size h0) := G9.lt
  have lG10 : @LT.lt Nat _ a1 (Array.size h0) := G10.lt
  have lG11 : @LT.lt Nat _ a2 (Array.size h0) := G11.lt
  have lG12 : @LT.lt Nat _ a3 (Array.size h0) := G12.lt
  have lG13 : @LT.lt Nat _ a4 (Array.size h0) := G13.lt
  have lG14 : @LT.lt Nat _ a5 (Array.size h0) := G14.lt
  have lG15 : @LT.lt Nat _ a6 (Array.size h0) := G15.lt
  have lG16 : @LT.lt Nat _ a7 (Array.size h0) := G16.lt
  rcases ps with _ | ⟨q0, ps⟩
  · have FPn : Fld Z h0 wk "com/example/methodical_checker/methodicalchecker/promela/Walk" "pendingCount" "I" (.int (0 : Int32)) := G2
    refine own_Fin.step (S' := s₁.setTop (mkF m 1 #[.val (.ref wk), .unset, .unset] [(.ref wk)])) (fun t k => XS.aloadN X0.here hx rfl (hb hby d6_0) rfl rfl  k) ?_
    obtain ⟨T185, X185, e185, st185⟩ := getF X0 hx hZ hown (host := "") (Or.inl (hw _ (List.mem_of_getElem? (i := 62) rfl))) Via.refl e0 FPn (g := (mkF m 1 #[.val (.ref wk), .unset, .unset] [(.ref wk)])) rfl rfl (hb hby d6_1)
    refine own_Fin.step (S' := T185.setTop (mkF m 4 #[.val (.ref wk), .unset, .unset] [(.int (0 : Int32))])) st185 ?_
    obtain ⟨T186, h186, k186, X186, e186, E186, A186, B186, st186⟩ := newPE X185 hx hZ (hw _ (List.mem_of_getElem? (i := 18) rfl)) e185 (g := (mkF m 4 #[.val (.ref wk), .unset, .unset] [(.int (0 : Int32))])) rfl (hb hby d6_4) rfl (by decide) (cap := 0) (by decide) (by decide) (by decide) (by decide) (ad := "[I") rfl
    obtain ⟨b186, g186⟩ : ∃ z, z = h0.size := ⟨_, rfl⟩
    rw [← g186] at A186 B186 st186
    have ll186 : @LT.lt Nat _ b186 (Array.size h186) := A186.lt
    have KK186 : Keep h0 h186 [] := (Keep.refl h0 []).ext E186
    have z186 := E186.1
    have V186 : Arv Z h186 b186 k186 .int (0 : Int32) [] (.int (0 : Int32)) := (Arv.new A186 (by decide)).pad (pad_rep [] (.int (0 : Int32)) 0)
    refine own_Fin.step (S' := T186.setTop (mkF m 6 #[.val (.ref wk), .unset, .unset] [(.ref b186)])) st186 ?_
    refine own_Fin.step (S' := T186.setTop (mkF m 7 #[.val (.ref wk), .val (.ref b186), .unset] [])) (fun t k => XS.astoreN X186.here hx rfl (hb hby d6_6) rfl rfl (l' := #[.val (.ref wk), .val (.ref b186), .unset]) rfl k) ?_
    refine own_Fin.step (S' := T186.setTop (mkF m 8 #[.val (.ref wk), .val (.ref b186), .unset] [(.int (0 : Int32))])) (fun t k => XS.iconst X186.here hx rfl (hb hby d6_7) k) ?_
    refine own_Fin.step (S' := T186.setTop (mkF m 9 #[.val (.ref wk), .val (.ref b186), .val (.int (0 : Int32))] [])) (fun t k => XS.istoreN X186.here hx rfl (hb hby d6_8) rfl (l' := #[.val (.ref wk), .val (.ref b186), .val (.int (0 : Int32))]) rfl k) ?_
    refine own_Fin.step (S' := T186.setTop (mkF m 10 #[.val (.ref wk), .val (.ref b186), .val (.int (0 : Int32))] [(.int (0 : Int32))])) (fun t k => XS.iloadN X186.here hx rfl (hb hby d6_9) rfl  k) ?_
    refine own_Fin.step (S' := T186.setTop (mkF m 11 #[.val (.ref wk), .val (.ref b186), .val (.int (0 : Int32))] [(.ref wk), (.int (0 : Int32))])) (fun t k => XS.aloadN X186.here hx rfl (hb hby d6_10) rfl rfl  k) ?_
    have f187 : Fld Z h186 wk "com/example/methodical_checker/methodicalchecker/promela/Walk" "pendingCount" "I" (.int (0 : Int32)) := (Fld.ext E186 FPn)
    obtain ⟨T188, X188, e188, st188⟩ := getF X186 hx hZ hown (host := "") (Or.inl (hw _ (List.mem_of_getElem? (i := 62) rfl))) Via.refl e186 f187 (g := (mkF m 11 #[.val (.ref wk), .val (.ref b186), .val (.int (0 : Int32))] [(.ref wk), (.int (0 : Int32))])) rfl rfl (hb hby d6_11)
    refine own_Fin.step (S' := T188.setTop (mkF m 14 #[.val (.ref wk), .val (.ref b186), .val (.int (0 : Int32))] [(.int (0 : Int32)), (.int (0 : Int32))])) st188 ?_
    refine own_Fin.step (S' := T188.setTop (mkF m 39 #[.val (.ref wk), .val (.ref b186), .val (.int (0 : Int32))] [])) (fun t k => XS.icmpYes X188.here hx rfl (pc0 := 14) (pc' := 39) rfl (hb hby d6_14) rfl (flt (by decide : ¬ ((0 : Int32) < (0 : Int32)))).2.1 (by decide) (by decide) k) ?_
    refine own_Fin.step (S' := T188.setTop (mkF m 40 #[.val (.ref wk), .val (.ref b186), .val (.int (0 : Int32))] [(.ref b186)])) (fun t k => XS.aloadN X188.here hx rfl (hb hby d6_39) rfl rfl  k) ?_
    have hq189 : Q6 Z wk wc [] h0 n0 (some (.ref b186)) h186 _ := ⟨b186, k186, rfl, N0, KK186, (own_WKkeep KK186 P0), V186, (by first | omega | assumption)⟩
    exact own_retR X188 hx hlk (w := (.ref b186)) rfl hrt rfl (hb hby d6_40) e188 hq189 (by decide) (by decide)
  · rcases ps with _ | ⟨q1, ps⟩
    · have FPn : Fld Z h0 wk "com/example/methodical_checker/methodicalchecker/promela/Walk" "pendingCount" "I" (.int (1 : Int32)) := G2
      have hq0 : v7.getD 0 (.int (0 : Int32)) = .int q0 := he 0 q0 rfl
      refine own_Fin.step (S' := s₁.setTop (mkF m 1 #[.val (.ref wk), .unset, .unset] [(.ref wk)])) (fun t k => XS.aloadN X0.here hx rfl (hb hby d6_0) rfl rfl  k) ?_
      obtain ⟨T190, X190, e190, st190⟩ := getF X0 hx hZ hown (host := "") (Or.inl (hw _ (List.mem_of_getElem? (i := 62) rfl))) Via.refl e0 FPn (g := (mkF m 1 #[.val (.ref wk), .unset, .unset] [(.ref wk)])) rfl rfl (hb hby d6_1)
      refine own_Fin.step (S' := T190.setTop (mkF m 4 #[.val (.ref wk), .unset, .unset] [(.int (1 : Int32))])) st190 ?_
      obtain ⟨T191, h191, k191, X191, e191, E191, A191, B191, st191⟩ := newPE X190 hx hZ (hw _ (List.mem_of_getElem? (i := 18) rfl)) e190 (g := (mkF m 4 #[.val (.ref wk), .unset, .unset] [(.int (1 : Int32))])) rfl (hb hby d6_4) rfl (by decide) (cap := 1) (by decide) (by decide) (by decide) (by decide) (ad := "[I") rfl
      obtain ⟨b191, g191⟩ : ∃ z, z = h0.size := ⟨_, rfl⟩
      rw [← g191] at A191 B191 st191
      have ll191 : @LT.lt Nat _ b191 (Array.size h191) := A191.lt
      have KK191 : Keep h0 h191 [] := (Keep.refl h0 []).ext E191
      have z191 := E191.1
      have V191 : Arv Z h191 b191 k191 .int (1 : Int32) [(.int (0 : Int32))] (.int (0 : Int32)) := (Arv.new A191 (by decide)).pad (pad_rep [] (.int (0 : Int32)) 1)
      refine own_Fin.step (S' := T191.setTop (mkF m 6 #[.val (.ref wk), .unset, .unset] [(.ref b191)])) st191 ?_
      refine own_Fin.step (S' := T191.setTop (mkF m 7 #[.val (.ref wk), .val (.ref b191), .unset] [])) (fun t k => XS.astoreN X191.here hx rfl (hb hby d6_6) rfl rfl (l' := #[.val (.ref wk), .val (.ref b191), .unset]) rfl k) ?_
      refine own_Fin.step (S' := T191.setTop (mkF m 8 #[.val (.ref wk), .val (.ref b191), .unset] [(.int (0 : Int32))])) (fun t k => XS.iconst X191.here hx rfl (hb hby d6_7) k) ?_
      refine own_Fin.step (S' := T191.setTop (mkF m 9 #[.val (.ref wk), .val (.ref b191), .val (.int (0 : Int32))] [])) (fun t k => XS.istoreN X191.here hx rfl (hb hby d6_8) rfl (l' := #[.val (.ref wk), .val (.ref b191), .val (.int (0 : Int32))]) rfl k) ?_
      refine own_Fin.step (S' := T191.setTop (mkF m 10 #[.val (.ref wk), .val (.ref b191), .val (.int (0 : Int32))] [(.int (0 : Int32))])) (fun t k => XS.iloadN X191.here hx rfl (hb hby d6_9) rfl  k) ?_
      refine own_Fin.step (S' := T191.setTop (mkF m 11 #[.val (.ref wk), .val (.ref b191), .val (.int (0 : Int32))] [(.ref wk), (.int (0 : Int32))])) (fun t k => XS.aloadN X191.here hx rfl (hb hby d6_10) rfl rfl  k) ?_
      have f192 : Fld Z h191 wk "com/example/methodical_checker/methodicalchecker/promela/Walk" "pendingCount" "I" (.int (1 : Int32)) := (Fld.ext E191 FPn)
      obtain ⟨T193, X193, e193, st193⟩ := getF X191 hx hZ hown (host := "") (Or.inl (hw _ (List.mem_of_getElem? (i := 62) rfl))) Via.refl e191 f192 (g := (mkF m 11 #[.val (.ref wk), .val (.ref b191), .val (.int (0 : Int32))] [(.ref wk), (.int (0 : Int32))])) rfl rfl (hb hby d6_11)
      refine own_Fin.step (S' := T193.setTop (mkF m 14 #[.val (.ref wk), .val (.ref b191), .val (.int (0 : Int32))] [(.int (1 : Int32)), (.int (0 : Int32))])) st193 ?_
      refine own_Fin.step (S' := T193.setTop (mkF m 17 #[.val (.ref wk), .val (.ref b191), .val (.int (0 : Int32))] [])) (fun t k => XS.icmpNo X193.here hx rfl (hb hby d6_14) rfl (tlt (by decide : ((0 : Int32) < (1 : Int32)))).2.1 k) ?_
      refine own_Fin.step (S' := T193.setTop (mkF m 18 #[.val (.ref wk), .val (.ref b191), .val (.int (0 : Int32))] [(.ref b191)])) (fun t k => XS.aloadN X193.here hx rfl (hb hby d6_17) rfl rfl  k) ?_
      refine own_Fin.step (S' := T193.setTop (mkF m 19 #[.val (.ref wk), .val (.ref b191), .val (.int (0 : Int32))] [(.int (0 : Int32)), (.ref b191)])) (fun t k => XS.iloadN X193.here hx rfl (hb hby d6_18) rfl  k) ?_
      refine own_Fin.step (S' := T193.setTop (mkF m 20 #[.val (.ref wk), .val (.ref b191), .val (.int (0 : Int32))] [(.ref wk), (.int (0 : Int32)), (.ref b191)])) (fun t k => XS.aloadN X193.here hx rfl (hb hby d6_19) rfl rfl  k) ?_
      have f194 : Fld Z h191 wk "com/example/methodical_checker/methodicalchecker/promela/Walk" "pending" "[I" (.ref a7) := (Fld.ext E191 G9)
      obtain ⟨T195, X195, e195, st195⟩ := getF X193 hx hZ hown (host := "") (Or.inl (hw _ (List.mem_of_getElem? (i := 35) rfl))) Via.refl e193 f194 (g := (mkF m 20 #[.val (.ref wk), .val (.ref b191), .val (.int (0 : Int32))] [(.ref wk), (.int (0 : Int32)), (.ref b191)])) rfl rfl (hb hby d6_20)
      refine own_Fin.step (S' := T195.setTop (mkF m 23 #[.val (.ref wk), .val (.ref b191), .val (.int (0 : Int32))] [(.ref a7), (.int (0 : Int32)), (.ref b191)])) st195 ?_
      refine own_Fin.step (S' := T195.setTop (mkF m 24 #[.val (.ref wk), .val (.ref b191), .val (.int (0 : Int32))] [(.ref wk), (.ref a7), (.int (0 : Int32)), (.ref b191)])) (fun t k => XS.aloadN X195.here hx rfl (hb hby d6_23) rfl rfl  k) ?_
      obtain ⟨T196, X196, e196, st196⟩ := getF X195 hx hZ hown (host := "") (Or.inl (hw _ (List.mem_of_getElem? (i := 62) rfl))) Via.refl e195 f192 (g := (mkF m 24 #[.val (.ref wk), .val (.ref b191), .val (.int (0 : Int32))] [(.ref wk), (.ref a7), (.int (0 : Int32)), (.ref b191)])) rfl rfl (hb hby d6_24)
      refine own_Fin.step (S' := T196.setTop (mkF m 27 #[.val (.ref wk), .val (.ref b191), .val (.int (0 : Int32))] [(.int (1 : Int32)), (.ref a7), (.int (0 : Int32)), (.ref b191)])) st196 ?_
      refine own_Fin.step (S' := T196.setTop (mkF m 28 #[.val (.ref wk), .val (.ref b191), .val (.int (0 : Int32))] [(.int (1 : Int32)), (.int (1 : Int32)), (.ref a7), (.int (0 : Int32)), (.ref b191)])) (fun t k => XS.iconst X196.here hx rfl (hb hby d6_27) k) ?_
      refine own_Fin.step (S' := T196.setTop (mkF m 29 #[.val (.ref wk), .val (.ref b191), .val (.int (0 : Int32))] [(.int (0 : Int32)), (.ref a7), (.int (0 : Int32)), (.ref b191)])) (fun t k => XS.isub X196.here hx rfl (hb hby d6_28) rfl k) ?_
      refine own_Fin.step (S' := T196.setTop (mkF m 30 #[.val (.ref wk), .val (.ref b191), .val (.int (0 : Int32))] [(.int (0 : Int32)), (.int (0 : Int32)), (.ref a7), (.int (0 : Int32)), (.ref b191)])) (fun t k => XS.iloadN X196.here hx rfl (hb hby d6_29) rfl  k) ?_
      refine own_Fin.step (S' := T196.setTop (mkF m 31 #[.val (.ref wk), .val (.ref b191), .val (.int (0 : Int32))] [(.int (0 : Int32)), (.ref a7), (.int (0 : Int32)), (.ref b191)])) (fun t k => XS.isub X196.here hx rfl (hb hby d6_30) rfl k) ?_
      have f197 : Arv Z h191 a7 k7 .int (16 : Int32) v7 (.int (0 : Int32)) := (G16.ext E191)
      obtain ⟨cl198, Ar198, q198, S198, N198z, Hs198, G198⟩ := id f197
      have hin198 : ¬ ((0 : Int32) < 0 ∨ cl198.slots.size ≤ ((0 : Int32)).toNatClampNeg) := inb_of S198 ⟨by decide, by decide⟩
      have hat198 : cl198.slots[((0 : Int32)).toNatClampNeg]? = some (.int q0) := Hs198.at hin198 hq0
      refine own_Fin.step (S' := T196.setTop (mkF m 32 #[.val (.ref wk), .val (.ref b191), .val (.int (0 : Int32))] [(.int q0), (.int (0 : Int32)), (.ref b191)])) (X196.iaload hx (j := (0 : Int32)) (v := (.int q0)) (by rw [e196]; exact Ar198.1) (State.isArrayOf_alike hZ.alike Ar198.2.1) Ar198.2.2 hin198 hat198 (g := (mkF m 31 #[.val (.ref wk), .val (.ref b191), .val (.int (0 : Int32))] [(.int (0 : Int32)), (.ref a7), (.int (0 : Int32)), (.ref b191)])) rfl rfl (hb hby d6_31)) ?_
      obtain ⟨cl199, Ar199, q199, S199, N199z, Hs199, G199⟩ := id V191
      have hin199 : ¬ ((0 : Int32) < 0 ∨ cl199.slots.size ≤ ((0 : Int32)).toNatClampNeg) := inb_of S199 ⟨by decide, by decide⟩
      obtain ⟨T200, h200, X200, e200, W200, st200⟩ := stI X196 hx hZ e196 Ar199 (j := (0 : Int32)) hin199 (g := (mkF m 32 #[.val (.ref wk), .val (.ref b191), .val (.int (0 : Int32))] [(.int q0), (.int (0 : Int32)), (.ref b191)])) rfl rfl (hb hby d6_32)
      have V200 : Arv Z h200 b191 k191 .int (1 : Int32) [(.int q0)] (.int (0 : Int32)) := Arv.set Ar199 q199 S199 N199z Hs199 G199 rfl W200 0 rfl (Nat.le_of_ble_eq_true rfl)
      have z200 := W200.size
      have KK200 : Keep h0 h200 [] := KK191.wr W200 (Or.inr (by omega))
      have N200 := Fr.snoc X200 N0 (by omega)
      refine own_Fin.step (S' := T200.setTop (mkF m 33 #[.val (.ref wk), .val (.ref b191), .val (.int (0 : Int32))] [])) st200 ?_
      refine own_Fin.step (S' := T200.setTop (mkF m 36 #[.val (.ref wk), .val (.ref b191), .val (.int (1 : Int32))] [])) (fun t k => XS.iinc X200.here hx rfl (hb hby d6_33) rfl (l' := #[.val (.ref wk), .val (.ref b191), .val (.int (1 : Int32))]) rfl k) ?_
      refine own_Fin.step (S' := T200.setTop (mkF m 9 #[.val (.ref wk), .val (.ref b191), .val (.int (1 : Int32))] [])) (fun t k => XS.goto X200.here hx rfl (pc0 := 36) (pc' := 9) rfl (hb hby d6_36) (by decide) (by decide) k) ?_
      refine own_Fin.step (S' := T200.setTop (mkF m 10 #[.val (.ref wk), .val (.ref b191), .val (.int (1 : Int32))] [(.int (1 : Int32))])) (fun t k => XS.iloadN X200.here hx rfl (hb hby d6_9) rfl  k) ?_
      refine own_Fin.step (S' := T200.setTop (mkF m 11 #[.val (.ref wk), .val (.ref b191), .val (.int (1 : Int32))] [(.ref wk), (.int (1 : Int32))])) (fun t k => XS.aloadN X200.here hx rfl (hb hby d6_10) rfl rfl  k) ?_
      have f201 : Fld Z h200 wk "com/example/methodical_checker/methodicalchecker/promela/Walk" "pendingCount" "I" (.int (1 : Int32)) := (Fld.other W200 f192 (Or.inl (show @Ne Nat wk b191 from by omega)))
      obtain ⟨T202, X202, e202, st202⟩ := getF X200 hx hZ hown (host := "") (Or.inl (hw _ (List.mem_of_getElem? (i := 62) rfl))) Via.refl e200 f201 (g := (mkF m 11 #[.val (.ref wk), .val (.ref b191), .val (.int (1 : Int32))] [(.ref wk), (.int (1 : Int32))])) rfl rfl (hb hby d6_11)
      refine own_Fin.step (S' := T202.setTop (mkF m 14 #[.val (.ref wk), .val (.ref b191), .val (.int (1 : Int32))] [(.int (1 : Int32)), (.int (1 : Int32))])) st202 ?_
      refine own_Fin.step (S' := T202.setTop (mkF m 39 #[.val (.ref wk), .val (.ref b191), .val (.int (1 : Int32))] [])) (fun t k => XS.icmpYes X202.here hx rfl (pc0 := 14) (pc' := 39) rfl (hb hby d6_14) rfl (flt (by decide : ¬ ((1 : Int32) < (1 : Int32)))).2.1 (by decide) (by decide) k) ?_
      refine own_Fin.step (S' := T202.setTop (mkF m 40 #[.val (.ref wk), .val (.ref b191), .val (.int (1 : Int32))] [(.ref b191)])) (fun t k => XS.aloadN X202.here hx rfl (hb hby d6_39) rfl rfl  k) ?_
      have hq203 : Q6 Z wk wc [q0] h0 n0 (some (.ref b191)) h200 _ := ⟨b191, k191, rfl, N200, KK200, (own_WKkeep KK200 P0), V200, (by first | omega | assumption)⟩
      exact own_retR X202 hx hlk (w := (.ref b191)) rfl hrt rfl (hb hby d6_40) e202 hq203 (by decide) (by decide)
    · rcases ps with _ | ⟨q2, ps⟩
      · have FPn : Fld Z h0 wk "com/example/methodical_checker/methodicalchecker/promela/Walk" "pendingCount" "I" (.int (2 : Int32)) := G2
        have hq0 : v7.getD 0 (.int (0 : Int32)) = .int q0 := he 0 q0 rfl
        have hq1 : v7.getD 1 (.int (0 : Int32)) = .int q1 := he 1 q1 rfl
        refine own_Fin.step (S' := s₁.setTop (mkF m 1 #[.val (.ref wk), .unset, .unset] [(.ref wk)])) (fun t k => XS.aloadN X0.here hx rfl (hb hby d6_0) rfl rfl  k) ?_
        obtain ⟨T204, X204, e204, st204⟩ := getF X0 hx hZ hown (host := "") (Or.inl (hw _ (List.mem_of_getElem? (i := 62) rfl))) Via.refl e0 FPn (g := (mkF m 1 #[.val (.ref wk), .unset, .unset] [(.ref wk)])) rfl rfl (hb hby d6_1)
        refine own_Fin.step (S' := T204.setTop (mkF m 4 #[.val (.ref wk), .unset, .unset] [(.int (2 : Int32))])) st204 ?_
        obtain ⟨T205, h205, k205, X205, e205, E205, A205, B205, st205⟩ := newPE X204 hx hZ (hw _ (List.mem_of_getElem? (i := 18) rfl)) e204 (g := (mkF m 4 #[.val (.ref wk), .unset, .unset] [(.int (2 : Int32))])) rfl (hb hby d6_4) rfl (by decide) (cap := 2) (by decide) (by decide) (by decide) (by decide) (ad := "[I") rfl
        obtain ⟨b205, g205⟩ : ∃ z, z = h0.size := ⟨_, rfl⟩
        rw [← g205] at A205 B205 st205
        have ll205 : @LT.lt Nat _ b205 (Array.size h205) := A205.lt
        have KK205 : Keep h0 h205 [] := (Keep.refl h0 []).ext E205
        have z205 := E205.1
        have V205 : Arv Z h205 b205 k205 .int (2 : Int32) [(.int (0 : Int32)), (.int (0 : Int32))] (.int (0 : Int32)) := (Arv.new A205 (by decide)).pad (pad_rep [] (.int (0 : Int32)) 2)
        refine own_Fin.step (S' := T205.setTop (mkF m 6 #[.val (.ref wk), .unset, .unset] [(.ref b205)])) st205 ?_
        refine own_Fin.step (S' := T205.setTop (mkF m 7 #[.val (.ref wk), .val (.ref b205), .unset] [])) (fun t k => XS.astoreN X205.here hx rfl (hb hby d6_6) rfl rfl (l' := #[.val (.ref wk), .val (.ref b205), .unset]) rfl k) ?_
        refine own_Fin.step (S' := T205.setTop (mkF m 8 #[.val (.ref wk), .val (.ref b205), .unset] [(.int (0 : Int32))])) (fun t k => XS.iconst X205.here hx rfl (hb hby d6_7) k) ?_
        refine own_Fin.step (S' := T205.setTop (mkF m 9 #[.val (.ref wk), .val (.ref b205), .val (.int (0 : Int32))] [])) (fun t k => XS.istoreN X205.here hx rfl (hb hby d6_8) rfl (l' := #[.val (.ref wk), .val (.ref b205), .val (.int (0 : Int32))]) rfl k) ?_
        refine own_Fin.step (S' := T205.setTop (mkF m 10 #[.val (.ref wk), .val (.ref b205), .val (.int (0 : Int32))] [(.int (0 : Int32))])) (fun t k => XS.iloadN X205.here hx rfl (hb hby d6_9) rfl  k) ?_
        refine own_Fin.step (S' := T205.setTop (mkF m 11 #[.val (.ref wk), .val (.ref b205), .val (.int (0 : Int32))] [(.ref wk), (.int (0 : Int32))])) (fun t k => XS.aloadN X205.here hx rfl (hb hby d6_10) rfl rfl  k) ?_
        have f206 : Fld Z h205 wk "com/example/methodical_checker/methodicalchecker/promela/Walk" "pendingCount" "I" (.int (2 : Int32)) := (Fld.ext E205 FPn)
        obtain ⟨T207, X207, e207, st207⟩ := getF X205 hx hZ hown (host := "") (Or.inl (hw _ (List.mem_of_getElem? (i := 62) rfl))) Via.refl e205 f206 (g := (mkF m 11 #[.val (.ref wk), .val (.ref b205), .val (.int (0 : Int32))] [(.ref wk), (.int (0 : Int32))])) rfl rfl (hb hby d6_11)
        refine own_Fin.step (S' := T207.setTop (mkF m 14 #[.val (.ref wk), .val (.ref b205), .val (.int (0 : Int32))] [(.int (2 : Int32)), (.int (0 : Int32))])) st207 ?_
        refine own_Fin.step (S' := T207.setTop (mkF m 17 #[.val (.ref wk), .val (.ref b205), .val (.int (0 : Int32))] [])) (fun t k => XS.icmpNo X207.here hx rfl (hb hby d6_14) rfl (tlt (by decide : ((0 : Int32) < (2 : Int32)))).2.1 k) ?_
        refine own_Fin.step (S' := T207.setTop (mkF m 18 #[.val (.ref wk), .val (.ref b205), .val (.int (0 : Int32))] [(.ref b205)])) (fun t k => XS.aloadN X207.here hx rfl (hb hby d6_17) rfl rfl  k) ?_
        refine own_Fin.step (S' := T207.setTop (mkF m 19 #[.val (.ref wk), .val (.ref b205), .val (.int (0 : Int32))] [(.int (0 : Int32)), (.ref b205)])) (fun t k => XS.iloadN X207.here hx rfl (hb hby d6_18) rfl  k) ?_
        refine own_Fin.step (S' := T207.setTop (mkF m 20 #[.val (.ref wk), .val (.ref b205), .val (.int (0 : Int32))] [(.ref wk), (.int (0 : Int32)), (.ref b205)])) (fun t k => XS.aloadN X207.here hx rfl (hb hby d6_19) rfl rfl  k) ?_
        have f208 : Fld Z h205 wk "com/example/methodical_checker/methodicalchecker/promela/Walk" "pending" "[I" (.ref a7) := (Fld.ext E205 G9)
        obtain ⟨T209, X209, e209, st209⟩ := getF X207 hx hZ hown (host := "") (Or.inl (hw _ (List.mem_of_getElem? (i := 35) rfl))) Via.refl e207 f208 (g := (mkF m 20 #[.val (.ref wk), .val (.ref b205), .val (.int (0 : Int32))] [(.ref wk), (.int (0 : Int32)), (.ref b205)])) rfl rfl (hb hby d6_20)
        refine own_Fin.step (S' := T209.setTop (mkF m 23 #[.val (.ref wk), .val (.ref b205), .val (.int (0 : Int32))] [(.ref a7), (.int (0 : Int32)), (.ref b205)])) st209 ?_
        refine own_Fin.step (S' := T209.setTop (mkF m 24 #[.val (.ref wk), .val (.ref b205), .val (.int (0 : Int32))] [(.ref wk), (.ref a7), (.int (0 : Int32)), (.ref b205)])) (fun t k => XS.aloadN X209.here hx rfl (hb hby d6_23) rfl rfl  k) ?_
        obtain ⟨T210, X210, e210, st210⟩ := getF X209 hx hZ hown (host := "") (Or.inl (hw _ (List.mem_of_getElem? (i := 62) rfl))) Via.refl e209 f206 (g := (mkF m 24 #[.val (.ref wk), .val (.ref b205), .val (.int (0 : Int32))] [(.ref wk), (.ref a7), (.int (0 : Int32)), (.ref b205)])) rfl rfl (hb hby d6_24)
        refine own_Fin.step (S' := T210.setTop (mkF m 27 #[.val (.ref wk), .val (.ref b205), .val (.int (0 : Int32))] [(.int (2 : Int32)), (.ref a7), (.int (0 : Int32)), (.ref b205)])) st210 ?_
        refine own_Fin.step (S' := T210.setTop (mkF m 28 #[.val (.ref wk), .val (.ref b205), .val (.int (0 : Int32))] [(.int (1 : Int32)), (.int (2 : Int32)), (.ref a7), (.int (0 : Int32)), (.ref b205)])) (fun t k => XS.iconst X210.here hx rfl (hb hby d6_27) k) ?_
        refine own_Fin.step (S' := T210.setTop (mkF m 29 #[.val (.ref wk), .val (.ref b205), .val (.int (0 : Int32))] [(.int (1 : Int32)), (.ref a7), (.int (0 : Int32)), (.ref b205)])) (fun t k => XS.isub X210.here hx rfl (hb hby d6_28) rfl k) ?_
        refine own_Fin.step (S' := T210.setTop (mkF m 30 #[.val (.ref wk), .val (.ref b205), .val (.int (0 : Int32))] [(.int (0 : Int32)), (.int (1 : Int32)), (.ref a7), (.int (0 : Int32)), (.ref b205)])) (fun t k => XS.iloadN X210.here hx rfl (hb hby d6_29) rfl  k) ?_
        refine own_Fin.step (S' := T210.setTop (mkF m 31 #[.val (.ref wk), .val (.ref b205), .val (.int (0 : Int32))] [(.int (1 : Int32)), (.ref a7), (.int (0 : Int32)), (.ref b205)])) (fun t k => XS.isub X210.here hx rfl (hb hby d6_30) rfl k) ?_
        have f211 : Arv Z h205 a7 k7 .int (16 : Int32) v7 (.int (0 : Int32)) := (G16.ext E205)
        obtain ⟨cl212, Ar212, q212, S212, N212z, Hs212, G212⟩ := id f211
        have hin212 : ¬ ((1 : Int32) < 0 ∨ cl212.slots.size ≤ ((1 : Int32)).toNatClampNeg) := inb_of S212 ⟨by decide, by decide⟩
        have hat212 : cl212.slots[((1 : Int32)).toNatClampNeg]? = some (.int q1) := Hs212.at hin212 hq1
        refine own_Fin.step (S' := T210.setTop (mkF m 32 #[.val (.ref wk), .val (.ref b205), .val (.int (0 : Int32))] [(.int q1), (.int (0 : Int32)), (.ref b205)])) (X210.iaload hx (j := (1 : Int32)) (v := (.int q1)) (by rw [e210]; exact Ar212.1) (State.isArrayOf_alike hZ.alike Ar212.2.1) Ar212.2.2 hin212 hat212 (g := (mkF m 31 #[.val (.ref wk), .val (.ref b205), .val (.int (0 : Int32))] [(.int (1 : Int32)), (.ref a7), (.int (0 : Int32)), (.ref b205)])) rfl rfl (hb hby d6_31)) ?_
        obtain ⟨cl213, Ar213, q213, S213, N213z, Hs213, G213⟩ := id V205
        have hin213 : ¬ ((0 : Int32) < 0 ∨ cl213.slots.size ≤ ((0 : Int32)).toNatClampNeg) := inb_of S213 ⟨by decide, by decide⟩
        obtain ⟨T214, h214, X214, e214, W214, st214⟩ := stI X210 hx hZ e210 Ar213 (j := (0 : Int32)) hin213 (g := (mkF m 32 #[.val (.ref wk), .val (.ref b205), .val (.int (0 : Int32))] [(.int q1), (.int (0 : Int32)), (.ref b205)])) rfl rfl (hb hby d6_32)
        have V214 : Arv Z h214 b205 k205 .int (2 : Int32) [(.int q1), (.int (0 : Int32))] (.int (0 : Int32)) := Arv.set Ar213 q213 S213 N213z Hs213 G213 rfl W214 0 rfl (Nat.le_of_ble_eq_true rfl)
        have z214 := W214.size
        have KK214 : Keep h0 h214 [] := KK205.wr W214 (Or.inr (by omega))
        have N214 := Fr.snoc X214 N0 (by omega)
        refine own_Fin.step (S' := T214.setTop (mkF m 33 #[.val (.ref wk), .val (.ref b205), .val (.int (0 : Int32))] [])) st214 ?_
        refine own_Fin.step (S' := T214.setTop (mkF m 36 #[.val (.ref wk), .val (.ref b205), .val (.int (1 : Int32))] [])) (fun t k => XS.iinc X214.here hx rfl (hb hby d6_33) rfl (l' := #[.val (.ref wk), .val (.ref b205), .val (.int (1 : Int32))]) rfl k) ?_
        refine own_Fin.step (S' := T214.setTop (mkF m 9 #[.val (.ref wk), .val (.ref b205), .val (.int (1 : Int32))] [])) (fun t k => XS.goto X214.here hx rfl (pc0 := 36) (pc' := 9) rfl (hb hby d6_36) (by decide) (by decide) k) ?_
        refine own_Fin.step (S' := T214.setTop (mkF m 10 #[.val (.ref wk), .val (.ref b205), .val (.int (1 : Int32))] [(.int (1 : Int32))])) (fun t k => XS.iloadN X214.here hx rfl (hb hby d6_9) rfl  k) ?_
        refine own_Fin.step (S' := T214.setTop (mkF m 11 #[.val (.ref wk), .val (.ref b205), .val (.int (1 : Int32))] [(.ref wk), (.int (1 : Int32))])) (fun t k => XS.aloadN X214.here hx rfl (hb hby d6_10) rfl rfl  k) ?_
        have f215 : Fld Z h214 wk "com/example/methodical_checker/methodicalchecker/promela/Walk" "pendingCount" "I" (.int (2 : Int32)) := (Fld.other W214 f206 (Or.inl (show @Ne Nat wk b205 from by omega)))
        obtain ⟨T216, X216, e216, st216⟩ := getF X214 hx hZ hown (host := "") (Or.inl (hw _ (List.mem_of_getElem? (i := 62) rfl))) Via.refl e214 f215 (g := (mkF m 11 #[.val (.ref wk), .val (.ref b205), .val (.int (1 : Int32))] [(.ref wk), (.int (1 : Int32))])) rfl rfl (hb hby d6_11)
        refine own_Fin.step (S' := T216.setTop (mkF m 14 #[.val (.ref wk), .val (.ref b205), .val (.int (1 : Int32))] [(.int (2 : Int32)), (.int (1 : Int32))])) st216 ?_
        refine own_Fin.step (S' := T216.setTop (mkF m 17 #[.val (.ref wk), .val (.ref b205), .val (.int (1 : Int32))] [])) (fun t k => XS.icmpNo X216.here hx rfl (hb hby d6_14) rfl (tlt (by decide : ((1 : Int32) < (2 : Int32)))).2.1 k) ?_
        refine own_Fin.step (S' := T216.setTop (mkF m 18 #[.val (.ref wk), .val (.ref b205), .val (.int (1 : Int32))] [(.ref b205)])) (fun t k => XS.aloadN X216.here hx rfl (hb hby d6_17) rfl rfl  k) ?_
        refine own_Fin.step (S' := T216.setTop (mkF m 19 #[.val (.ref wk), .val (.ref b205), .val (.int (1 : Int32))] [(.int (1 : Int32)), (.ref b205)])) (fun t k => XS.iloadN X216.here hx rfl (hb hby d6_18) rfl  k) ?_
        refine own_Fin.step (S' := T216.setTop (mkF m 20 #[.val (.ref wk), .val (.ref b205), .val (.int (1 : Int32))] [(.ref wk), (.int (1 : Int32)), (.ref b205)])) (fun t k => XS.aloadN X216.here hx rfl (hb hby d6_19) rfl rfl  k) ?_
        have f217 : Fld Z h214 wk "com/example/methodical_checker/methodicalchecker/promela/Walk" "pending" "[I" (.ref a7) := (Fld.other W214 f208 (Or.inl (show @Ne Nat wk b205 from by omega)))
        obtain ⟨T218, X218, e218, st218⟩ := getF X216 hx hZ hown (host := "") (Or.inl (hw _ (List.mem_of_getElem? (i := 35) rfl))) Via.refl e216 f217 (g := (mkF m 20 #[.val (.ref wk), .val (.ref b205), .val (.int (1 : Int32))] [(.ref wk), (.int (1 : Int32)), (.ref b205)])) rfl rfl (hb hby d6_20)
        refine own_Fin.step (S' := T218.setTop (mkF m 23 #[.val (.ref wk), .val (.ref b205), .val (.int (1 : Int32))] [(.ref a7), (.int (1 : Int32)), (.ref b205)])) st218 ?_
        refine own_Fin.step (S' := T218.setTop (mkF m 24 #[.val (.ref wk), .val (.ref b205), .val (.int (1 : Int32))] [(.ref wk), (.ref a7), (.int (1 : Int32)), (.ref b205)])) (fun t k => XS.aloadN X218.here hx rfl (hb hby d6_23) rfl rfl  k) ?_
        obtain ⟨T219, X219, e219, st219⟩ := getF X218 hx hZ hown (host := "") (Or.inl (hw _ (List.mem_of_getElem? (i := 62) rfl))) Via.refl e218 f215 (g := (mkF m 24 #[.val (.ref wk), .val (.ref b205), .val (.int (1 : Int32))] [(.ref wk), (.ref a7), (.int (1 : Int32)), (.ref b205)])) rfl rfl (hb hby d6_24)
        refine own_Fin.step (S' := T219.setTop (mkF m 27 #[.val (.ref wk), .val (.ref b205), .val (.int (1 : Int32))] [(.int (2 : Int32)), (.ref a7), (.int (1 : Int32)), (.ref b205)])) st219 ?_
        refine own_Fin.step (S' := T219.setTop (mkF m 28 #[.val (.ref wk), .val (.ref b205), .val (.int (1 : Int32))] [(.int (1 : Int32)), (.int (2 : Int32)), (.ref a7), (.int (1 : Int32)), (.ref b205)])) (fun t k => XS.iconst X219.here hx rfl (hb hby d6_27) k) ?_
        refine own_Fin.step (S' := T219.setTop (mkF m 29 #[.val (.ref wk), .val (.ref b205), .val (.int (1 : Int32))] [(.int (1 : Int32)), (.ref a7), (.int (1 : Int32)), (.ref b205)])) (fun t k => XS.isub X219.here hx rfl (hb hby d6_28) rfl k) ?_
        refine own_Fin.step (S' := T219.setTop (mkF m 30 #[.val (.ref wk), .val (.ref b205), .val (.int (1 : Int32))] [(.int (1 : Int32)), (.int (1 : Int32)), (.ref a7), (.int (1 : Int32)), (.ref b205)])) (fun t k => XS.iloadN X219.here hx rfl (hb hby d6_29) rfl  k) ?_
        refine own_Fin.step (S' := T219.setTop (mkF m 31 #[.val (.ref wk), .val (.ref b205), .val (.int (1 : Int32))] [(.int (0 : Int32)), (.ref a7), (.int (1 : Int32)), (.ref b205)])) (fun t k => XS.isub X219.here hx rfl (hb hby d6_30) rfl k) ?_
        have f220 : Arv Z h214 a7 k7 .int (16 : Int32) v7 (.int (0 : Int32)) := (f211.other W214 (show @Ne Nat a7 b205 from by omega))
        obtain ⟨cl221, Ar221, q221, S221, N221z, Hs221, G221⟩ := id f220
        have hin221 : ¬ ((0 : Int32) < 0 ∨ cl221.slots.size ≤ ((0 : Int32)).toNatClampNeg) := inb_of S221 ⟨by decide, by decide⟩
        have hat221 : cl221.slots[((0 : Int32)).toNatClampNeg]? = some (.int q0) := Hs221.at hin221 hq0
        refine own_Fin.step (S' := T219.setTop (mkF m 32 #[.val (.ref wk), .val (.ref b205), .val (.int (1 : Int32))] [(.int q0), (.int (1 : Int32)), (.ref b205)])) (X219.iaload hx (j := (0 : Int32)) (v := (.int q0)) (by rw [e219]; exact Ar221.1) (State.isArrayOf_alike hZ.alike Ar221.2.1) Ar221.2.2 hin221 hat221 (g := (mkF m 31 #[.val (.ref wk), .val (.ref b205), .val (.int (1 : Int32))] [(.int (0 : Int32)), (.ref a7), (.int (1 : Int32)), (.ref b205)])) rfl rfl (hb hby d6_31)) ?_
        obtain ⟨cl222, Ar222, q222, S222, N222z, Hs222, G222⟩ := id V214
        have hin222 : ¬ ((1 : Int32) < 0 ∨ cl222.slots.size ≤ ((1 : Int32)).toNatClampNeg) := inb_of S222 ⟨by decide, by decide⟩
        obtain ⟨T223, h223, X223, e223, W223, st223⟩ := stI X219 hx hZ e219 Ar222 (j := (1 : Int32)) hin222 (g := (mkF m 32 #[.val (.ref wk), .val (.ref b205), .val (.int (1 : Int32))] [(.int q0), (.int (1 : Int32)), (.ref b205)])) rfl rfl (hb hby d6_32)
        have V223 : Arv Z h223 b205 k205 .int (2 : Int32) [(.int q1), (.int q0)] (.int (0 : Int32)) := Arv.set Ar222 q222 S222 N222z Hs222 G222 rfl W223 1 rfl (Nat.le_of_ble_eq_true rfl)
        have z223 := W223.size
        have KK223 : Keep h0 h223 [] := KK214.wr W223 (Or.inr (by omega))
        have N223 := Fr.snoc X223 N214 (by omega)
        refine own_Fin.step (S' := T223.setTop (mkF m 33 #[.val (.ref wk), .val (.ref b205), .val (.int (1 : Int32))] [])) st223 ?_
        refine own_Fin.step (S' := T223.setTop (mkF m 36 #[.val (.ref wk), .val (.ref b205), .val (.int (2 : Int32))] [])) (fun t k => XS.iinc X223.here hx rfl (hb hby d6_33) rfl (l' := #[.val (.ref wk), .val (.ref b205), .val (.int (2 : Int32))]) rfl k) ?_
        refine own_Fin.step (S' := T223.setTop (mkF m 9 #[.val (.ref wk), .val (.ref b205), .val (.int (2 : Int32))] [])) (fun t k => XS.goto X223.here hx rfl (pc0 := 36) (pc' := 9) rfl (hb hby d6_36) (by decide) (by decide) k) ?_
        refine own_Fin.step (S' := T223.setTop (mkF m 10 #[.val (.ref wk), .val (.ref b205), .val (.int (2 : Int32))] [(.int (2 : Int32))])) (fun t k => XS.iloadN X223.here hx rfl (hb hby d6_9) rfl  k) ?_
        refine own_Fin.step (S' := T223.setTop (mkF m 11 #[.val (.ref wk), .val (.ref b205), .val (.int (2 : Int32))] [(.ref wk), (.int (2 : Int32))])) (fun t k => XS.aloadN X223.here hx rfl (hb hby d6_10) rfl rfl  k) ?_
        have f224 : Fld Z h223 wk "com/example/methodical_checker/methodicalchecker/promela/Walk" "pendingCount" "I" (.int (2 : Int32)) := (Fld.other W223 f215 (Or.inl (show @Ne Nat wk b205 from by omega)))
        obtain ⟨T225, X225, e225, st225⟩ := getF X223 hx hZ hown (host := "") (Or.inl (hw _ (List.mem_of_getElem? (i := 62) rfl))) Via.refl e223 f224 (g := (mkF m 11 #[.val (.ref wk), .val (.ref b205), .val (.int (2 : Int32))] [(.ref wk), (.int (2 : Int32))])) rfl rfl (hb hby d6_11)
        refine own_Fin.step (S' := T225.setTop (mkF m 14 #[.val (.ref wk), .val (.ref b205), .val (.int (2 : Int32))] [(.int (2 : Int32)), (.int (2 : Int32))])) st225 ?_
        refine own_Fin.step (S' := T225.setTop (mkF m 39 #[.val (.ref wk), .val (.ref b205), .val (.int (2 : Int32))] [])) (fun t k => XS.icmpYes X225.here hx rfl (pc0 := 14) (pc' := 39) rfl (hb hby d6_14) rfl (flt (by decide : ¬ ((2 : Int32) < (2 : Int32)))).2.1 (by decide) (by decide) k) ?_
        refine own_Fin.step (S' := T225.setTop (mkF m 40 #[.val (.ref wk), .val (.ref b205), .val (.int (2 : Int32))] [(.ref b205)])) (fun t k => XS.aloadN X225.here hx rfl (hb hby d6_39) rfl rfl  k) ?_
        have hq226 : Q6 Z wk wc [q0, q1] h0 n0 (some (.ref b205)) h223 _ := ⟨b205, k205, rfl, N223, KK223, (own_WKkeep KK223 P0), V223, (by first | omega | assumption)⟩
        exact own_retR X225 hx hlk (w := (.ref b205)) rfl hrt rfl (hb hby d6_40) e225 hq226 (by decide) (by decide)
      · rcases ps with _ | ⟨q3, ps⟩
        · have FPn : Fld Z h0 wk "com/example/methodical_checker/methodicalchecker/promela/Walk" "pendingCount" "I" (.int (3 : Int32)) := G2
          have hq0 : v7.getD 0 (.int (0 : Int32)) = .int q0 := he 0 q0 rfl
          have hq1 : v7.getD 1 (.int (0 : Int32)) = .int q1 := he 1 q1 rfl
          have hq2 : v7.getD 2 (.int (0 : Int32)) = .int q2 := he 2 q2 rfl
          refine own_Fin.step (S' := s₁.setTop (mkF m 1 #[.val (.ref wk), .unset, .unset] [(.ref wk)])) (fun t k => XS.aloadN X0.here hx rfl (hb hby d6_0) rfl rfl  k) ?_
          obtain ⟨T227, X227, e227, st227⟩ := getF X0 hx hZ hown (host := "") (Or.inl (hw _ (List.mem_of_getElem? (i := 62) rfl))) Via.refl e0 FPn (g := (mkF m 1 #[.val (.ref wk), .unset, .unset] [(.ref wk)])) rfl rfl (hb hby d6_1)
          refine own_Fin.step (S' := T227.setTop (mkF m 4 #[.val (.ref wk), .unset, .unset] [(.int (3 : Int32))])) st227 ?_
          obtain ⟨T228, h228, k228, X228, e228, E228, A228, B228, st228⟩ := newPE X227 hx hZ (hw _ (List.mem_of_getElem? (i := 18) rfl)) e227 (g := (mkF m 4 #[.val (.ref wk), .unset, .unset] [(.int (3 : Int32))])) rfl (hb hby d6_4) rfl (by decide) (cap := 3) (by decide) (by decide) (by decide) (by decide) (ad := "[I") rfl
          obtain ⟨b228, g228⟩ : ∃ z, z = h0.size := ⟨_, rfl⟩
          rw [← g228] at A228 B228 st228
          have ll228 : @LT.lt Nat _ b228 (Array.size h228) := A228.lt
          have KK228 : Keep h0 h228 [] := (Keep.refl h0 []).ext E228
          have z228 := E228.1
          have V228 : Arv Z h228 b228 k228 .int (3 : Int32) [(.int (0 : Int32)), (.int (0 : Int32)), (.int (0 : Int32))] (.int (0 : Int32)) := (Arv.new A228 (by decide)).pad (pad_rep [] (.int (0 : Int32)) 3)
          refine own_Fin.step (S' := T228.setTop (mkF m 6 #[.val (.ref wk), .unset, .unset] [(.ref b228)])) st228 ?_
          refine own_Fin.step (S' := T228.setTop (mkF m 7 #[.val (.ref wk), .val (.ref b228), .unset] [])) (fun t k => XS.astoreN X228.here hx rfl (hb hby d6_6) rfl rfl (l' := #[.val (.ref wk), .val (.ref b228), .unset]) rfl k) ?_
          refine own_Fin.step (S' := T228.setTop (mkF m 8 #[.val (.ref wk), .val (.ref b228), .unset] [(.int (0 : Int32))])) (fun t k => XS.iconst X228.here hx rfl (hb hby d6_7) k) ?_
          refine own_Fin.step (S' := T228.setTop (mkF m 9 #[.val (.ref wk), .val (.ref b228), .val (.int (0 : Int32))] [])) (fun t k => XS.istoreN X228.here hx rfl (hb hby d6_8) rfl (l' := #[.val (.ref wk), .val (.ref b228), .val (.int (0 : Int32))]) rfl k) ?_
          refine own_Fin.step (S' := T228.setTop (mkF m 10 #[.val (.ref wk), .val (.ref b228), .val (.int (0 : Int32))] [(.int (0 : Int32))])) (fun t k => XS.iloadN X228.here hx rfl (hb hby d6_9) rfl  k) ?_
          refine own_Fin.step (S' := T228.setTop (mkF m 11 #[.val (.ref wk), .val (.ref b228), .val (.int (0 : Int32))] [(.ref wk), (.int (0 : Int32))])) (fun t k => XS.aloadN X228.here hx rfl (hb hby d6_10) rfl rfl  k) ?_
          have f229 : Fld Z h228 wk "com/example/methodical_checker/methodicalchecker/promela/Walk" "pendingCount" "I" (.int (3 : Int32)) := (Fld.ext E228 FPn)
          obtain ⟨T230, X230, e230, st230⟩ := getF X228 hx hZ hown (host := "") (Or.inl (hw _ (List.mem_of_getElem? (i := 62) rfl))) Via.refl e228 f229 (g := (mkF m 11 #[.val (.ref wk), .val (.ref b228), .val (.int (0 : Int32))] [(.ref wk), (.int (0 : Int32))])) rfl rfl (hb hby d6_11)
          refine own_Fin.step (S' := T230.setTop (mkF m 14 #[.val (.ref wk), .val (.ref b228), .val (.int (0 : Int32))] [(.int (3 : Int32)), (.int (0 : Int32))])) st230 ?_
          refine own_Fin.step (S' := T230.setTop (mkF m 17 #[.val (.ref wk), .val (.ref b228), .val (.int (0 : Int32))] [])) (fun t k => XS.icmpNo X230.here hx rfl (hb hby d6_14) rfl (tlt (by decide : ((0 : Int32) < (3 : Int32)))).2.1 k) ?_
          refine own_Fin.step (S' := T230.setTop (mkF m 18 #[.val (.ref wk), .val (.ref b228), .val (.int (0 : Int32))] [(.ref b228)])) (fun t k => XS.aloadN X230.here hx rfl (hb hby d6_17) rfl rfl  k) ?_
          refine own_Fin.step (S' := T230.setTop (mkF m 19 #[.val (.ref wk), .val (.ref b228), .val (.int (0 : Int32))] [(.int (0 : Int32)), (.ref b228)])) (fun t k => XS.iloadN X230.here hx rfl (hb hby d6_18) rfl  k) ?_
          refine own_Fin.step (S' := T230.setTop (mkF m 20 #[.val (.ref wk), .val (.ref b228), .val (.int (0 : Int32))] [(.ref wk), (.int (0 : Int32)), (.ref b228)])) (fun t k => XS.aloadN X230.here hx rfl (hb hby d6_19) rfl rfl  k) ?_
          have f231 : Fld Z h228 wk "com/example/methodical_checker/methodicalchecker/promela/Walk" "pending" "[I" (.ref a7) := (Fld.ext E228 G9)
          obtain ⟨T232, X232, e232, st232⟩ := getF X230 hx hZ hown (host := "") (Or.inl (hw _ (List.mem_of_getElem? (i := 35) rfl))) Via.refl e230 f231 (g := (mkF m 20 #[.val (.ref wk), .val (.ref b228), .val (.int (0 : Int32))] [(.ref wk), (.int (0 : Int32)), (.ref b228)])) rfl rfl (hb hby d6_20)
          refine own_Fin.step (S' := T232.setTop (mkF m 23 #[.val (.ref wk), .val (.ref b228), .val (.int (0 : Int32))] [(.ref a7), (.int (0 : Int32)), (.ref b228)])) st232 ?_
          refine own_Fin.step (S' := T232.setTop (mkF m 24 #[.val (.ref wk), .val (.ref b228), .val (.int (0 : Int32))] [(.ref wk), (.ref a7), (.int (0 : Int32)), (.ref b228)])) (fun t k => XS.aloadN X232.here hx rfl (hb hby d6_23) rfl rfl  k) ?_
          obtain ⟨T233, X233, e233, st233⟩ := getF X232 hx hZ hown (host := "") (Or.inl (hw _ (List.mem_of_getElem? (i := 62) rfl))) Via.refl e232 f229 (g := (mkF m 24 #[.val (.ref wk), .val (.ref b228), .val (.int (0 : Int32))] [(.ref wk), (.ref a7), (.int (0 : Int32)), (.ref b228)])) rfl rfl (hb hby d6_24)
          refine own_Fin.step (S' := T233.setTop (mkF m 27 #[.val (.ref wk), .val (.ref b228), .val (.int (0 : Int32))] [(.int (3 : Int32)), (.ref a7), (.int (0 : Int32)), (.ref b228)])) st233 ?_
          refine own_Fin.step (S' := T233.setTop (mkF m 28 #[.val (.ref wk), .val (.ref b228), .val (.int (0 : Int32))] [(.int (1 : Int32)), (.int (3 : Int32)), (.ref a7), (.int (0 : Int32)), (.ref b228)])) (fun t k => XS.iconst X233.here hx rfl (hb hby d6_27) k) ?_
          refine own_Fin.step (S' := T233.setTop (mkF m 29 #[.val (.ref wk), .val (.ref b228), .val (.int (0 : Int32))] [(.int (2 : Int32)), (.ref a7), (.int (0 : Int32)), (.ref b228)])) (fun t k => XS.isub X233.here hx rfl (hb hby d6_28) rfl k) ?_
          refine own_Fin.step (S' := T233.setTop (mkF m 30 #[.val (.ref wk), .val (.ref b228), .val (.int (0 : Int32))] [(.int (0 : Int32)), (.int (2 : Int32)), (.ref a7), (.int (0 : Int32)), (.ref b228)])) (fun t k => XS.iloadN X233.here hx rfl (hb hby d6_29) rfl  k) ?_
          refine own_Fin.step (S' := T233.setTop (mkF m 31 #[.val (.ref wk), .val (.ref b228), .val (.int (0 : Int32))] [(.int (2 : Int32)), (.ref a7), (.int (0 : Int32)), (.ref b228)])) (fun t k => XS.isub X233.here hx rfl (hb hby d6_30) rfl k) ?_
          have f234 : Arv Z h228 a7 k7 .int (16 : Int32) v7 (.int (0 : Int32)) := (G16.ext E228)
          obtain ⟨cl235, Ar235, q235, S235, N235z, Hs235, G235⟩ := id f234
          have hin235 : ¬ ((2 : Int32) < 0 ∨ cl235.slots.size ≤ ((2 : Int32)).toNatClampNeg) := inb_of S235 ⟨by decide, by decide⟩
          have hat235 : cl235.slots[((2 : Int32)).toNatClampNeg]? = some (.int q2) := Hs235.at hin235 hq2
          refine own_Fin.step (S' := T233.setTop (mkF m 32 #[.val (.ref wk), .val (.ref b228), .val (.int (0 : Int32))] [(.int q2), (.int (0 : Int32)), (.ref b228)])) (X233.iaload hx (j := (2 : Int32)) (v := (.int q2)) (by rw [e233]; exact Ar235.1) (State.isArrayOf_alike hZ.alike Ar235.2.1) Ar235.2.2 hin235 hat235 (g := (mkF m 31 #[.val (.ref wk), .val (.ref b228), .val (.int (0 : Int32))] [(.int (2 : Int32)), (.ref a7), (.int (0 : Int32)), (.ref b228)])) rfl rfl (hb hby d6_31)) ?_
          obtain ⟨cl236, Ar236, q236, S236, N236z, Hs236, G236⟩ := id V228
          have hin236 : ¬ ((0 : Int32) < 0 ∨ cl236.slots.size ≤ ((0 : Int32)).toNatClampNeg) := inb_of S236 ⟨by decide, by decide⟩
          obtain ⟨T237, h237, X237, e237, W237, st237⟩ := stI X233 hx hZ e233 Ar236 (j := (0 : Int32)) hin236 (g := (mkF m 32 #[.val (.ref wk), .val (.ref b228), .val (.int (0 : Int32))] [(.int q2), (.int (0 : Int32)), (.ref b228)])) rfl rfl (hb hby d6_32)
          have V237 : Arv Z h237 b228 k228 .int (3 : Int32) [(.int q2), (.int (0 : Int32)), (.int (0 : Int32))] (.int (0 : Int32)) := Arv.set Ar236 q236 S236 N236z Hs236 G236 rfl W237 0 rfl (Nat.le_of_ble_eq_true rfl)
          have z237 := W237.size
          have KK237 : Keep h0 h237 [] := KK228.wr W237 (Or.inr (by omega))
          have N237 := Fr.snoc X237 N0 (by omega)
          refine own_Fin.step (S' := T237.setTop (mkF m 33 #[.val (.ref wk), .val (.ref b228), .val (.int (0 : Int32))] [])) st237 ?_
          refine own_Fin.step (S' := T237.setTop (mkF m 36 #[.val (.ref wk), .val (.ref b228), .val (.int (1 : Int32))] [])) (fun t k => XS.iinc X237.here hx rfl (hb hby d6_33) rfl (l' := #[.val (.ref wk), .val (.ref b228), .val (.int (1 : Int32))]) rfl k) ?_
          refine own_Fin.step (S' := T237.setTop (mkF m 9 #[.val (.ref wk), .val (.ref b228), .val (.int (1 : Int32))] [])) (fun t k => XS.goto X237.here hx rfl (pc0 := 36) (pc' := 9) rfl (hb hby d6_36) (by decide) (by decide) k) ?_
          refine own_Fin.step (S' := T237.setTop (mkF m 10 #[.val (.ref wk), .val (.ref b228), .val (.int (1 : Int32))] [(.int (1 : Int32))])) (fun t k => XS.iloadN X237.here hx rfl (hb hby d6_9) rfl  k) ?_
          refine own_Fin.step (S' := T237.setTop (mkF m 11 #[.val (.ref wk), .val (.ref b228), .val (.int (1 : Int32))] [(.ref wk), (.int (1 : Int32))])) (fun t k => XS.aloadN X237.here hx rfl (hb hby d6_10) rfl rfl  k) ?_
          have f238 : Fld Z h237 wk "com/example/methodical_checker/methodicalchecker/promela/Walk" "pendingCount" "I" (.int (3 : Int32)) := (Fld.other W237 f229 (Or.inl (show @Ne Nat wk b228 from by omega)))
          obtain ⟨T239, X239, e239, st239⟩ := getF X237 hx hZ hown (host := "") (Or.inl (hw _ (List.mem_of_getElem? (i := 62) rfl))) Via.refl e237 f238 (g := (mkF m 11 #[.val (.ref wk), .val (.ref b228), .val (.int (1 : Int32))] [(.ref wk), (.int (1 : Int32))])) rfl rfl (hb hby d6_11)
          refine own_Fin.step (S' := T239.setTop (mkF m 14 #[.val (.ref wk), .val (.ref b228), .val (.int (1 : Int32))] [(.int (3 : Int32)), (.int (1 : Int32))])) st239 ?_
          refine own_Fin.step (S' := T239.setTop (mkF m 17 #[.val (.ref wk), .val (.ref b228), .val (.int (1 : Int32))] [])) (fun t k => XS.icmpNo X239.here hx rfl (hb hby d6_14) rfl (tlt (by decide : ((1 : Int32) < (3 : Int32)))).2.1 k) ?_
          refine own_Fin.step (S' := T239.setTop (mkF m 18 #[.val (.ref wk), .val (.ref b228), .val (.int (1 : Int32))] [(.ref b228)])) (fun t k => XS.aloadN X239.here hx rfl (hb hby d6_17) rfl rfl  k) ?_
          refine own_Fin.step (S' := T239.setTop (mkF m 19 #[.val (.ref wk), .val (.ref b228), .val (.int (1 : Int32))] [(.int (1 : Int32)), (.ref b228)])) (fun t k => XS.iloadN X239.here hx rfl (hb hby d6_18) rfl  k) ?_
          refine own_Fin.step (S' := T239.setTop (mkF m 20 #[.val (.ref wk), .val (.ref b228), .val (.int (1 : Int32))] [(.ref wk), (.int (1 : Int32)), (.ref b228)])) (fun t k => XS.aloadN X239.here hx rfl (hb hby d6_19) rfl rfl  k) ?_
          have f240 : Fld Z h237 wk "com/example/methodical_checker/methodicalchecker/promela/Walk" "pending" "[I" (.ref a7) := (Fld.other W237 f231 (Or.inl (show @Ne Nat wk b228 from by omega)))
          obtain ⟨T241, X241, e241, st241⟩ := getF X239 hx hZ hown (host := "") (Or.inl (hw _ (List.mem_of_getElem? (i := 35) rfl))) Via.refl e239 f240 (g := (mkF m 20 #[.val (.ref wk), .val (.ref b228), .val (.int (1 : Int32))] [(.ref wk), (.int (1 : Int32)), (.ref b228)])) rfl rfl (hb hby d6_20)
          refine own_Fin.step (S' := T241.setTop (mkF m 23 #[.val (.ref wk), .val (.ref b228), .val (.int (1 : Int32))] [(.ref a7), (.int (1 : Int32)), (.ref b228)])) st241 ?_
          refine own_Fin.step (S' := T241.setTop (mkF m 24 #[.val (.ref wk), .val (.ref b228), .val (.int (1 : Int32))] [(.ref wk), (.ref a7), (.int (1 : Int32)), (.ref b228)])) (fun t k => XS.aloadN X241.here hx rfl (hb hby d6_23) rfl rfl  k) ?_
          obtain ⟨T242, X242, e242, st242⟩ := getF X241 hx hZ hown (host := "") (Or.inl (hw _ (List.mem_of_getElem? (i := 62) rfl))) Via.refl e241 f238 (g := (mkF m 24 #[.val (.ref wk), .val (.ref b228), .val (.int (1 : Int32))] [(.ref wk), (.ref a7), (.int (1 : Int32)), (.ref b228)])) rfl rfl (hb hby d6_24)
          refine own_Fin.step (S' := T242.setTop (mkF m 27 #[.val (.ref wk), .val (.ref b228), .val (.int (1 : Int32))] [(.int (3 : Int32)), (.ref a7), (.int (1 : Int32)), (.ref b228)])) st242 ?_
          refine own_Fin.step (S' := T242.setTop (mkF m 28 #[.val (.ref wk), .val (.ref b228), .val (.int (1 : Int32))] [(.int (1 : Int32)), (.int (3 : Int32)), (.ref a7), (.int (1 : Int32)), (.ref b228)])) (fun t k => XS.iconst X242.here hx rfl (hb hby d6_27) k) ?_
          refine own_Fin.step (S' := T242.setTop (mkF m 29 #[.val (.ref wk), .val (.ref b228), .val (.int (1 : Int32))] [(.int (2 : Int32)), (.ref a7), (.int (1 : Int32)), (.ref b228)])) (fun t k => XS.isub X242.here hx rfl (hb hby d6_28) rfl k) ?_
          refine own_Fin.step (S' := T242.setTop (mkF m 30 #[.val (.ref wk), .val (.ref b228), .val (.int (1 : Int32))] [(.int (1 : Int32)), (.int (2 : Int32)), (.ref a7), (.int (1 : Int32)), (.ref b228)])) (fun t k => XS.iloadN X242.here hx rfl (hb hby d6_29) rfl  k) ?_
          refine own_Fin.step (S' := T242.setTop (mkF m 31 #[.val (.ref wk), .val (.ref b228), .val (.int (1 : Int32))] [(.int (1 : Int32)), (.ref a7), (.int (1 : Int32)), (.ref b228)])) (fun t k => XS.isub X242.here hx rfl (hb hby d6_30) rfl k) ?_
          have f243 : Arv Z h237 a7 k7 .int (16 : Int32) v7 (.int (0 : Int32)) := (f234.other W237 (show @Ne Nat a7 b228 from by omega))
          obtain ⟨cl244, Ar244, q244, S244, N244z, Hs244, G244⟩ := id f243
          have hin244 : ¬ ((1 : Int32) < 0 ∨ cl244.slots.size ≤ ((1 : Int32)).toNatClampNeg) := inb_of S244 ⟨by decide, by decide⟩
          have hat244 : cl244.slots[((1 : Int32)).toNatClampNeg]? = some (.int q1) := Hs244.at hin244 hq1
          refine own_Fin.step (S' := T242.setTop (mkF m 32 #[.val (.ref wk), .val (.ref b228), .val (.int (1 : Int32))] [(.int q1), (.int (1 : Int32)), (.ref b228)])) (X242.iaload hx (j := (1 : Int32)) (v := (.int q1)) (by rw [e242]; exact Ar244.1) (State.isArrayOf_alike hZ.alike Ar244.2.1) Ar244.2.2 hin244 hat244 (g := (mkF m 31 #[.val (.ref wk), .val (.ref b228), .val (.int (1 : Int32))] [(.int (1 : Int32)), (.ref a7), (.int (1 : Int32)), (.ref b228)])) rfl rfl (hb hby d6_31)) ?_
          obtain ⟨cl245, Ar245, q245, S245, N245z, Hs245, G245⟩ := id V237
          have hin245 : ¬ ((1 : Int32) < 0 ∨ cl245.slots.size ≤ ((1 : Int32)).toNatClampNeg) := inb_of S245 ⟨by decide, by decide⟩
          obtain ⟨T246, h246, X246, e246, W246, st246⟩ := stI X242 hx hZ e242 Ar245 (j := (1 : Int32)) hin245 (g := (mkF m 32 #[.val (.ref wk), .val (.ref b228), .val (.int (1 : Int32))] [(.int q1), (.int (1 : Int32)), (.ref b228)])) rfl rfl (hb hby d6_32)
          have V246 : Arv Z h246 b228 k228 .int (3 : Int32) [(.int q2), (.int q1), (.int (0 : Int32))] (.int (0 : Int32)) := Arv.set Ar245 q245 S245 N245z Hs245 G245 rfl W246 1 rfl (Nat.le_of_ble_eq_true rfl)
          have z246 := W246.size
          have KK246 : Keep h0 h246 [] := KK237.wr W246 (Or.inr (by omega))
          have N246 := Fr.snoc X246 N237 (by omega)
          refine own_Fin.step (S' := T246.setTop (mkF m 33 #[.val (.ref wk), .val (.ref b228), .val (.int (1 : Int32))] [])) st246 ?_
          refine own_Fin.step (S' := T246.setTop (mkF m 36 #[.val (.ref wk), .val (.ref b228), .val (.int (2 : Int32))] [])) (fun t k => XS.iinc X246.here hx rfl (hb hby d6_33) rfl (l' := #[.val (.ref wk), .val (.ref b228), .val (.int (2 : Int32))]) rfl k) ?_
          refine own_Fin.step (S' := T246.setTop (mkF m 9 #[.val (.ref wk), .val (.ref b228), .val (.int (2 : Int32))] [])) (fun t k => XS.goto X246.here hx rfl (pc0 := 36) (pc' := 9) rfl (hb hby d6_36) (by decide) (by decide) k) ?_
          refine own_Fin.step (S' := T246.setTop (mkF m 10 #[.val (.ref wk), .val (.ref b228), .val (.int (2 : Int32))] [(.int (2 : Int32))])) (fun t k => XS.iloadN X246.here hx rfl (hb hby d6_9) rfl  k) ?_
          refine own_Fin.step (S' := T246.setTop (mkF m 11 #[.val (.ref wk), .val (.ref b228), .val (.int (2 : Int32))] [(.ref wk), (.int (2 : Int32))])) (fun t k => XS.aloadN X246.here hx rfl (hb hby d6_10) rfl rfl  k) ?_
          have f247 : Fld Z h246 wk "com/example/methodical_checker/methodicalchecker/promela/Walk" "pendingCount" "I" (.int (3 : Int32)) := (Fld.other W246 f238 (Or.inl (show @Ne Nat wk b228 from by omega)))
          obtain ⟨T248, X248, e248, st248⟩ := getF X246 hx hZ hown (host := "") (Or.inl (hw _ (List.mem_of_getElem? (i := 62) rfl))) Via.refl e246 f247 (g := (mkF m 11 #[.val (.ref wk), .val (.ref b228), .val (.int (2 : Int32))] [(.ref wk), (.int (2 : Int32))])) rfl rfl (hb hby d6_11)
          refine own_Fin.step (S' := T248.setTop (mkF m 14 #[.val (.ref wk), .val (.ref b228), .val (.int (2 : Int32))] [(.int (3 : Int32)), (.int (2 : Int32))])) st248 ?_
          refine own_Fin.step (S' := T248.setTop (mkF m 17 #[.val (.ref wk), .val (.ref b228), .val (.int (2 : Int32))] [])) (fun t k => XS.icmpNo X248.here hx rfl (hb hby d6_14) rfl (tlt (by decide : ((2 : Int32) < (3 : Int32)))).2.1 k) ?_
          refine own_Fin.step (S' := T248.setTop (mkF m 18 #[.val (.ref wk), .val (.ref b228), .val (.int (2 : Int32))] [(.ref b228)])) (fun t k => XS.aloadN X248.here hx rfl (hb hby d6_17) rfl rfl  k) ?_
          refine own_Fin.step (S' := T248.setTop (mkF m 19 #[.val (.ref wk), .val (.ref b228), .val (.int (2 : Int32))] [(.int (2 : Int32)), (.ref b228)])) (fun t k => XS.iloadN X248.here hx rfl (hb hby d6_18) rfl  k) ?_
          refine own_Fin.step (S' := T248.setTop (mkF m 20 #[.val (.ref wk), .val (.ref b228), .val (.int (2 : Int32))] [(.ref wk), (.int (2 : Int32)), (.ref b228)])) (fun t k => XS.aloadN X248.here hx rfl (hb hby d6_19) rfl rfl  k) ?_
          have f249 : Fld Z h246 wk "com/example/methodical_checker/methodicalchecker/promela/Walk" "pending" "[I" (.ref a7) := (Fld.other W246 f240 (Or.inl (show @Ne Nat wk b228 from by omega)))
          obtain ⟨T250, X250, e250, st250⟩ := getF X248 hx hZ hown (host := "") (Or.inl (hw _ (List.mem_of_getElem? (i := 35) rfl))) Via.refl e248 f249 (g := (mkF m 20 #[.val (.ref wk), .val (.ref b228), .val (.int (2 : Int32))] [(.ref wk), (.int (2 : Int32)), (.ref b228)])) rfl rfl (hb hby d6_20)
          refine own_Fin.step (S' := T250.setTop (mkF m 23 #[.val (.ref wk), .val (.ref b228), .val (.int (2 : Int32))] [(.ref a7), (.int (2 : Int32)), (.ref b228)])) st250 ?_
          refine own_Fin.step (S' := T250.setTop (mkF m 24 #[.val (.ref wk), .val (.ref b228), .val (.int (2 : Int32))] [(.ref wk), (.ref a7), (.int (2 : Int32)), (.ref b228)])) (fun t k => XS.aloadN X250.here hx rfl (hb hby d6_23) rfl rfl  k) ?_
          obtain ⟨T251, X251, e251, st251⟩ := getF X250 hx hZ hown (host := "") (Or.inl (hw _ (List.mem_of_getElem? (i := 62) rfl))) Via.refl e250 f247 (g := (mkF m 24 #[.val (.ref wk), .val (.ref b228), .val (.int (2 : Int32))] [(.ref wk), (.ref a7), (.int (2 : Int32)), (.ref b228)])) rfl rfl (hb hby d6_24)
          refine own_Fin.step (S' := T251.setTop (mkF m 27 #[.val (.ref wk), .val (.ref b228), .val (.int (2 : Int32))] [(.int (3 : Int32)), (.ref a7), (.int (2 : Int32)), (.ref b228)])) st251 ?_
          refine own_Fin.step (S' := T251.setTop (mkF m 28 #[.val (.ref wk), .val (.ref b228), .val (.int (2 : Int32))] [(.int (1 : Int32)), (.int (3 : Int32)), (.ref a7), (.int (2 : Int32)), (.ref b228)])) (fun t k => XS.iconst X251.here hx rfl (hb hby d6_27) k) ?_
          refine own_Fin.step (S' := T251.setTop (mkF m 29 #[.val (.ref wk), .val (.ref b228), .val (.int (2 : Int32))] [(.int (2 : Int32)), (.ref a7), (.int (2 : Int32)), (.ref b228)])) (fun t k => XS.isub X251.here hx rfl (hb hby d6_28) rfl k) ?_
          refine own_Fin.step (S' := T251.setTop (mkF m 30 #[.val (.ref wk), .val (.ref b228), .val (.int (2 : Int32))] [(.int (2 : Int32)), (.int (2 : Int32)), (.ref a7), (.int (2 : Int32)), (.ref b228)])) (fun t k => XS.iloadN X251.here hx rfl (hb hby d6_29) rfl  k) ?_
          refine own_Fin.step (S' := T251.setTop (mkF m 31 #[.val (.ref wk), .val (.ref b228), .val (.int (2 : Int32))] [(.int (0 : Int32)), (.ref a7), (.int (2 : Int32)), (.ref b228)])) (fun t k => XS.isub X251.here hx rfl (hb hby d6_30) rfl k) ?_
          have f252 : Arv Z h246 a7 k7 .int (16 : Int32) v7 (.int (0 : Int32)) := (f243.other W246 (show @Ne Nat a7 b228 from by omega))
          obtain ⟨cl253, Ar253, q253, S253, N253z, Hs253, G253⟩ := id f252
          have hin253 : ¬ ((0 : Int32) < 0 ∨ cl253.slots.size ≤ ((0 : Int32)).toNatClampNeg) := inb_of S253 ⟨by decide, by decide⟩
          have hat253 : cl253.slots[((0 : Int32)).toNatClampNeg]? = some (.int q0) := Hs253.at hin253 hq0
          refine own_Fin.step (S' := T251.setTop (mkF m 32 #[.val (.ref wk), .val (.ref b228), .val (.int (2 : Int32))] [(.int q0), (.int (2 : Int32)), (.ref b228)])) (X251.iaload hx (j := (0 : Int32)) (v := (.int q0)) (by rw [e251]; exact Ar253.1) (State.isArrayOf_alike hZ.alike Ar253.2.1) Ar253.2.2 hin253 hat253 (g := (mkF m 31 #[.val (.ref wk), .val (.ref b228), .val (.int (2 : Int32))] [(.int (0 : Int32)), (.ref a7), (.int (2 : Int32)), (.ref b228)])) rfl rfl (hb hby d6_31)) ?_
          obtain ⟨cl254, Ar254, q254, S254, N254z, Hs254, G254⟩ := id V246
          have hin254 : ¬ ((2 : Int32) < 0 ∨ cl254.slots.size ≤ ((2 : Int32)).toNatClampNeg) := inb_of S254 ⟨by decide, by decide⟩
          obtain ⟨T255, h255, X255, e255, W255, st255⟩ := stI X251 hx hZ e251 Ar254 (j := (2 : Int32)) hin254 (g := (mkF m 32 #[.val (.ref wk), .val (.ref b228), .val (.int (2 : Int32))] [(.int q0), (.int (2 : Int32)), (.ref b228)])) rfl rfl (hb hby d6_32)
          have V255 : Arv Z h255 b228 k228 .int (3 : Int32) [(.int q2), (.int q1), (.int q0)] (.int (0 : Int32)) := Arv.set Ar254 q254 S254 N254z Hs254 G254 rfl W255 2 rfl (Nat.le_of_ble_eq_true rfl)
          have z255 := W255.size
          have KK255 : Keep h0 h255 [] := KK246.wr W255 (Or.inr (by omega))
          have N255 := Fr.snoc X255 N246 (by omega)
          refine own_Fin.step (S' := T255.setTop (mkF m 33 #[.val (.ref wk), .val (.ref b228), .val (.int (2 : Int32))] [])) st255 ?_
          refine own_Fin.step (S' := T255.setTop (mkF m 36 #[.val (.ref wk), .val (.ref b228), .val (.int (3 : Int32))] [])) (fun t k => XS.iinc X255.here hx rfl (hb hby d6_33) rfl (l' := #[.val (.ref wk), .val (.ref b228), .val (.int (3 : Int32))]) rfl k) ?_
          as_aux_lemma =>
            refine own_Fin.step (S' := T255.setTop (mkF m 9 #[.val (.ref wk), .val (.ref b228), .val (.int (3 : Int32))] [])) (fun t k => XS.goto X255.here hx rfl (pc0 := 36) (pc' := 9) rfl (hb hby d6_36) (by decide) (by decide) k) ?_
            refine own_Fin.step (S' := T255.setTop (mkF m 10 #[.val (.ref wk), .val (.ref b228), .val (.int (3 : Int32))] [(.int (3 : Int32))])) (fun t k => XS.iloadN X255.here hx rfl (hb hby d6_9) rfl  k) ?_
            refine own_Fin.step (S' := T255.setTop (mkF m 11 #[.val (.ref wk), .val (.ref b228), .val (.int (3 : Int32))] [(.ref wk), (.int (3 : Int32))])) (fun t k => XS.aloadN X255.here hx rfl (hb hby d6_10) rfl rfl  k) ?_
            have f256 : Fld Z h255 wk "com/example/methodical_checker/methodicalchecker/promela/Walk" "pendingCount" "I" (.int (3 : Int32)) := (Fld.other W255 f247 (Or.inl (show @Ne Nat wk b228 from by omega)))
            obtain ⟨T257, X257, e257, st257⟩ := getF X255 hx hZ hown (host := "") (Or.inl (hw _ (List.mem_of_getElem? (i := 62) rfl))) Via.refl e255 f256 (g := (mkF m 11 #[.val (.ref wk), .val (.ref b228), .val (.int (3 : Int32))] [(.ref wk), (.int (3 : Int32))])) rfl rfl (hb hby d6_11)
            refine own_Fin.step (S' := T257.setTop (mkF m 14 #[.val (.ref wk), .val (.ref b228), .val (.int (3 : Int32))] [(.int (3 : Int32)), (.int (3 : Int32))])) st257 ?_
            refine own_Fin.step (S' := T257.setTop (mkF m 39 #[.val (.ref wk), .val (.ref b228), .val (.int (3 : Int32))] [])) (fun t k => XS.icmpYes X257.here hx rfl (pc0 := 14) (pc' := 39) rfl (hb hby d6_14) rfl (flt (by decide : ¬ ((3 : Int32) < (3 : Int32)))).2.1 (by decide) (by decide) k) ?_
            refine own_Fin.step (S' := T257.setTop (mkF m 40 #[.val (.ref wk), .val (.ref b228), .val (.int (3 : Int32))] [(.ref b228)])) (fun t k => XS.aloadN X257.here hx rfl (hb hby d6_39) rfl rfl  k) ?_
            have hq258 : Q6 Z wk wc [q0, q1, q2] h0 n0 (some (.ref b228)) h255 _ := ⟨b228, k228, rfl, N255, KK255, (own_WKkeep KK255 P0), V255, (by first | omega | assumption)⟩
            exact own_retR X257 hx hlk (w := (.ref b228)) rfl hrt rfl (hb hby d6_40) e257 hq258 (by decide) (by decide)
        · rcases ps with _ | ⟨q4, ps⟩
          · have FPn : Fld Z h0 wk "com/example/methodical_checker/methodicalchecker/promela/Walk" "pendingCount" "I" (.int (4 : Int32)) := G2
            have hq0 : v7.getD 0 (.int (0 : Int32)) = .int q0 := he 0 q0 rfl
            have hq1 : v7.getD 1 (.int (0 : Int32)) = .int q1 := he 1 q1 rfl
            have hq2 : v7.getD 2 (.int (0 : Int32)) = .int q2 := he 2 q2 rfl
            have hq3 : v7.getD 3 (.int (0 : Int32)) = .int q3 := he 3 q3 rfl
            refine own_Fin.step (S' := s₁.setTop (mkF m 1 #[.val (.ref wk), .unset, .unset] [(.ref wk)])) (fun t k => XS.aloadN X0.here hx rfl (hb hby d6_0) rfl rfl  k) ?_
            obtain ⟨T259, X259, e259, st259⟩ := getF X0 hx hZ hown (host := "") (Or.inl (hw _ (List.mem_of_getElem? (i := 62) rfl))) Via.refl e0 FPn (g := (mkF m 1 #[.val (.ref wk), .unset, .unset] [(.ref wk)])) rfl rfl (hb hby d6_1)
            refine own_Fin.step (S' := T259.setTop (mkF m 4 #[.val (.ref wk), .unset, .unset] [(.int (4 : Int32))])) st259 ?_
            obtain ⟨T260, h260, k260, X260, e260, E260, A260, B260, st260⟩ := newPE X259 hx hZ (hw _ (List.mem_of_getElem? (i := 18) rfl)) e259 (g := (mkF m 4 #[.val (.ref wk), .unset, .unset] [(.int (4 : Int32))])) rfl (hb hby d6_4) rfl (by decide) (cap := 4) (by decide) (by decide) (by decide) (by decide) (ad := "[I") rfl
            obtain ⟨b260, g260⟩ : ∃ z, z = h0.size := ⟨_, rfl⟩
            rw [← g260] at A260 B260 st260
            have ll260 : @LT.lt Nat _ b260 (Array.size h260) := A260.lt
            have KK260 : Keep h0 h260 [] := (Keep.refl h0 []).ext E260
            have z260 := E260.1
            have V260 : Arv Z h260 b260 k260 .int (4 : Int32) [(.int (0 : Int32)), (.int (0 : Int32)), (.int (0 : Int32)), (.int (0 : Int32))] (.int (0 : Int32)) := (Arv.new A260 (by decide)).pad (pad_rep [] (.int (0 : Int32)) 4)
            refine own_Fin.step (S' := T260.setTop (mkF m 6 #[.val (.ref wk), .unset, .unset] [(.ref b260)])) st260 ?_
            refine own_Fin.step (S' := T260.setTop (mkF m 7 #[.val (.ref wk), .val (.ref b260), .unset] [])) (fun t k => XS.astoreN X260.here hx rfl (hb hby d6_6) rfl rfl (l' := #[.val (.ref wk), .val (.ref b260), .unset]) rfl k) ?_
            refine own_Fin.step (S' := T260.setTop (mkF m 8 #[.val (.ref wk), .val (.ref b260), .unset] [(.int (0 : Int32))])) (fun t k => XS.iconst X260.here hx rfl (hb hby d6_7) k) ?_
            refine own_Fin.step (S' := T260.setTop (mkF m 9 #[.val (.ref wk), .val (.ref b260), .val (.int (0 : Int32))] [])) (fun t k => XS.istoreN X260.here hx rfl (hb hby d6_8) rfl (l' := #[.val (.ref wk), .val (.ref b260), .val (.int (0 : Int32))]) rfl k) ?_
            refine own_Fin.step (S' := T260.setTop (mkF m 10 #[.val (.ref wk), .val (.ref b260), .val (.int (0 : Int32))] [(.int (0 : Int32))])) (fun t k => XS.iloadN X260.here hx rfl (hb hby d6_9) rfl  k) ?_
            refine own_Fin.step (S' := T260.setTop (mkF m 11 #[.val (.ref wk), .val (.ref b260), .val (.int (0 : Int32))] [(.ref wk), (.int (0 : Int32))])) (fun t k => XS.aloadN X260.here hx rfl (hb hby d6_10) rfl rfl  k) ?_
            have f261 : Fld Z h260 wk "com/example/methodical_checker/methodicalchecker/promela/Walk" "pendingCount" "I" (.int (4 : Int32)) := (Fld.ext E260 FPn)
            obtain ⟨T262, X262, e262, st262⟩ := getF X260 hx hZ hown (host := "") (Or.inl (hw _ (List.mem_of_getElem? (i := 62) rfl))) Via.refl e260 f261 (g := (mkF m 11 #[.val (.ref wk), .val (.ref b260), .val (.int (0 : Int32))] [(.ref wk), (.int (0 : Int32))])) rfl rfl (hb hby d6_11)
            refine own_Fin.step (S' := T262.setTop (mkF m 14 #[.val (.ref wk), .val (.ref b260), .val (.int (0 : Int32))] [(.int (4 : Int32)), (.int (0 : Int32))])) st262 ?_
            refine own_Fin.step (S' := T262.setTop (mkF m 17 #[.val (.ref wk), .val (.ref b260), .val (.int (0 : Int32))] [])) (fun t k => XS.icmpNo X262.here hx rfl (hb hby d6_14) rfl (tlt (by decide : ((0 : Int32) < (4 : Int32)))).2.1 k) ?_
            refine own_Fin.step (S' := T262.setTop (mkF m 18 #[.val (.ref wk), .val (.ref b260), .val (.int (0 : Int32))] [(.ref b260)])) (fun t k => XS.aloadN X262.here hx rfl (hb hby d6_17) rfl rfl  k) ?_
            refine own_Fin.step (S' := T262.setTop (mkF m 19 #[.val (.ref wk), .val (.ref b260), .val (.int (0 : Int32))] [(.int (0 : Int32)), (.ref b260)])) (fun t k => XS.iloadN X262.here hx rfl (hb hby d6_18) rfl  k) ?_
            refine own_Fin.step (S' := T262.setTop (mkF m 20 #[.val (.ref wk), .val (.ref b260), .val (.int (0 : Int32))] [(.ref wk), (.int (0 : Int32)), (.ref b260)])) (fun t k => XS.aloadN X262.here hx rfl (hb hby d6_19) rfl rfl  k) ?_
            have f263 : Fld Z h260 wk "com/example/methodical_checker/methodicalchecker/promela/Walk" "pending" "[I" (.ref a7) := (Fld.ext E260 G9)
            obtain ⟨T264, X264, e264, st264⟩ := getF X262 hx hZ hown (host := "") (Or.inl (hw _ (List.mem_of_getElem? (i := 35) rfl))) Via.refl e262 f263 (g := (mkF m 20 #[.val (.ref wk), .val (.ref b260), .val (.int (0 : Int32))] [(.ref wk), (.int (0 : Int32)), (.ref b260)])) rfl rfl (hb hby d6_20)
            refine own_Fin.step (S' := T264.setTop (mkF m 23 #[.val (.ref wk), .val (.ref b260), .val (.int (0 : Int32))] [(.ref a7), (.int (0 : Int32)), (.ref b260)])) st264 ?_
            refine own_Fin.step (S' := T264.setTop (mkF m 24 #[.val (.ref wk), .val (.ref b260), .val (.int (0 : Int32))] [(.ref wk), (.ref a7), (.int (0 : Int32)), (.ref b260)])) (fun t k => XS.aloadN X264.here hx rfl (hb hby d6_23) rfl rfl  k) ?_
            obtain ⟨T265, X265, e265, st265⟩ := getF X264 hx hZ hown (host := "") (Or.inl (hw _ (List.mem_of_getElem? (i := 62) rfl))) Via.refl e264 f261 (g := (mkF m 24 #[.val (.ref wk), .val (.ref b260), .val (.int (0 : Int32))] [(.ref wk), (.ref a7), (.int (0 : Int32)), (.ref b260)])) rfl rfl (hb hby d6_24)
            refine own_Fin.step (S' := T265.setTop (mkF m 27 #[.val (.ref wk), .val (.ref b260), .val (.int (0 : Int32))] [(.int (4 : Int32)), (.ref a7), (.int (0 : Int32)), (.ref b260)])) st265 ?_
            refine own_Fin.step (S' := T265.setTop (mkF m 28 #[.val (.ref wk), .val (.ref b260), .val (.int (0 : Int32))] [(.int (1 : Int32)), (.int (4 : Int32)), (.ref a7), (.int (0 : Int32)), (.ref b260)])) (fun t k => XS.iconst X265.here hx rfl (hb hby d6_27) k) ?_
            refine own_Fin.step (S' := T265.setTop (mkF m 29 #[.val (.ref wk), .val (.ref b260), .val (.int (0 : Int32))] [(.int (3 : Int32)), (.ref a7), (.int (0 : Int32)), (.ref b260)])) (fun t k => XS.isub X265.here hx rfl (hb hby d6_28) rfl k) ?_
            refine own_Fin.step (S' := T265.setTop (mkF m 30 #[.val (.ref wk), .val (.ref b260), .val (.int (0 : Int32))] [(.int (0 : Int32)), (.int (3 : Int32)), (.ref a7), (.int (0 : Int32)), (.ref b260)])) (fun t k => XS.iloadN X265.here hx rfl (hb hby d6_29) rfl  k) ?_
            refine own_Fin.step (S' := T265.setTop (mkF m 31 #[.val (.ref wk), .val (.ref b260), .val (.int (0 : Int32))] [(.int (3 : Int32)), (.ref a7), (.int (0 : Int32)), (.ref b260)])) (fun t k => XS.isub X265.here hx rfl (hb hby d6_30) rfl k) ?_
            have f266 : Arv Z h260 a7 k7 .int (16 : Int32) v7 (.int (0 : Int32)) := (G16.ext E260)
            obtain ⟨cl267, Ar267, q267, S267, N267z, Hs267, G267⟩ := id f266
            have hin267 : ¬ ((3 : Int32) < 0 ∨ cl267.slots.size ≤ ((3 : Int32)).toNatClampNeg) := inb_of S267 ⟨by decide, by decide⟩
            have hat267 : cl267.slots[((3 : Int32)).toNatClampNeg]? = some (.int q3) := Hs267.at hin267 hq3
            refine own_Fin.step (S' := T265.setTop (mkF m 32 #[.val (.ref wk), .val (.ref b260), .val (.int (0 : Int32))] [(.int q3), (.int (0 : Int32)), (.ref b260)])) (X265.iaload hx (j := (3 : Int32)) (v := (.int q3)) (by rw [e265]; exact Ar267.1) (State.isArrayOf_alike hZ.alike Ar267.2.1) Ar267.2.2 hin267 hat267 (g := (mkF m 31 #[.val (.ref wk), .val (.ref b260), .val (.int (0 : Int32))] [(.int (3 : Int32)), (.ref a7), (.int (0 : Int32)), (.ref b260)])) rfl rfl (hb hby d6_31)) ?_
            obtain ⟨cl268, Ar268, q268, S268, N268z, Hs268, G268⟩ := id V260
            have hin268 : ¬ ((0 : Int32) < 0 ∨ cl268.slots.size ≤ ((0 : Int32)).toNatClampNeg) := inb_of S268 ⟨by decide, by decide⟩
            obtain ⟨T269, h269, X269, e269, W269, st269⟩ := stI X265 hx hZ e265 Ar268 (j := (0 : Int32)) hin268 (g := (mkF m 32 #[.val (.ref wk), .val (.ref b260), .val (.int (0 : Int32))] [(.int q3), (.int (0 : Int32)), (.ref b260)])) rfl rfl (hb hby d6_32)
            have V269 : Arv Z h269 b260 k260 .int (4 : Int32) [(.int q3), (.int (0 : Int32)), (.int (0 : Int32)), (.int (0 : Int32))] (.int (0 : Int32)) := Arv.set Ar268 q268 S268 N268z Hs268 G268 rfl W269 0 rfl (Nat.le_of_ble_eq_true rfl)
            have z269 := W269.size
            have KK269 : Keep h0 h269 [] := KK260.wr W269 (Or.inr (by omega))
            have N269 := Fr.snoc X269 N0 (by omega)
            refine own_Fin.step (S' := T269.setTop (mkF m 33 #[.val (.ref wk), .val (.ref b260), .val (.int (0 : Int32))] [])) st269 ?_
            refine own_Fin.step (S' := T269.setTop (mkF m 36 #[.val (.ref wk), .val (.ref b260), .val (.int (1 : Int32))] [])) (fun t k => XS.iinc X269.here hx rfl (hb hby d6_33) rfl (l' := #[.val (.ref wk), .val (.ref b260), .val (.int (1 : Int32))]) rfl k) ?_
            refine own_Fin.step (S' := T269.setTop (mkF m 9 #[.val (.ref wk), .val (.ref b260), .val (.int (1 : Int32))] [])) (fun t k => XS.goto X269.here hx rfl (pc0 := 36) (pc' := 9) rfl (hb hby d6_36) (by decide) (by decide) k) ?_
            refine own_Fin.step (S' := T269.setTop (mkF m 10 #[.val (.ref wk), .val (.ref b260), .val (.int (1 : Int32))] [(.int (1 : Int32))])) (fun t k => XS.iloadN X269.here hx rfl (hb hby d6_9) rfl  k) ?_
            refine own_Fin.step (S' := T269.setTop (mkF m 11 #[.val (.ref wk), .val (.ref b260), .val (.int (1 : Int32))] [(.ref wk), (.int (1 : Int32))])) (fun t k => XS.aloadN X269.here hx rfl (hb hby d6_10) rfl rfl  k) ?_
            have f270 : Fld Z h269 wk "com/example/methodical_checker/methodicalchecker/promela/Walk" "pendingCount" "I" (.int (4 : Int32)) := (Fld.other W269 f261 (Or.inl (show @Ne Nat wk b260 from by omega)))
            obtain ⟨T271, X271, e271, st271⟩ := getF X269 hx hZ hown (host := "") (Or.inl (hw _ (List.mem_of_getElem? (i := 62) rfl))) Via.refl e269 f270 (g := (mkF m 11 #[.val (.ref wk), .val (.ref b260), .val (.int (1 : Int32))] [(.ref wk), (.int (1 : Int32))])) rfl rfl (hb hby d6_11)
            refine own_Fin.step (S' := T271.setTop (mkF m 14 #[.val (.ref wk), .val (.ref b260), .val (.int (1 : Int32))] [(.int (4 : Int32)), (.int (1 : Int32))])) st271 ?_
            refine own_Fin.step (S' := T271.setTop (mkF m 17 #[.val (.ref wk), .val (.ref b260), .val (.int (1 : Int32))] [])) (fun t k => XS.icmpNo X271.here hx rfl (hb hby d6_14) rfl (tlt (by decide : ((1 : Int32) < (4 : Int32)))).2.1 k) ?_
            refine own_Fin.step (S' := T271.setTop (mkF m 18 #[.val (.ref wk), .val (.ref b260), .val (.int (1 : Int32))] [(.ref b260)])) (fun t k => XS.aloadN X271.here hx rfl (hb hby d6_17) rfl rfl  k) ?_
            refine own_Fin.step (S' := T271.setTop (mkF m 19 #[.val (.ref wk), .val (.ref b260), .val (.int (1 : Int32))] [(.int (1 : Int32)), (.ref b260)])) (fun t k => XS.iloadN X271.here hx rfl (hb hby d6_18) rfl  k) ?_
            refine own_Fin.step (S' := T271.setTop (mkF m 20 #[.val (.ref wk), .val (.ref b260), .val (.int (1 : Int32))] [(.ref wk), (.int (1 : Int32)), (.ref b260)])) (fun t k => XS.aloadN X271.here hx rfl (hb hby d6_19) rfl rfl  k) ?_
            have f272 : Fld Z h269 wk "com/example/methodical_checker/methodicalchecker/promela/Walk" "pending" "[I" (.ref a7) := (Fld.other W269 f263 (Or.inl (show @Ne Nat wk b260 from by omega)))
            obtain ⟨T273, X273, e273, st273⟩ := getF X271 hx hZ hown (host := "") (Or.inl (hw _ (List.mem_of_getElem? (i := 35) rfl))) Via.refl e271 f272 (g := (mkF m 20 #[.val (.ref wk), .val (.ref b260), .val (.int (1 : Int32))] [(.ref wk), (.int (1 : Int32)), (.ref b260)])) rfl rfl (hb hby d6_20)
            refine own_Fin.step (S' := T273.setTop (mkF m 23 #[.val (.ref wk), .val (.ref b260), .val (.int (1 : Int32))] [(.ref a7), (.int (1 : Int32)), (.ref b260)])) st273 ?_
            refine own_Fin.step (S' := T273.setTop (mkF m 24 #[.val (.ref wk), .val (.ref b260), .val (.int (1 : Int32))] [(.ref wk), (.ref a7), (.int (1 : Int32)), (.ref b260)])) (fun t k => XS.aloadN X273.here hx rfl (hb hby d6_23) rfl rfl  k) ?_
            obtain ⟨T274, X274, e274, st274⟩ := getF X273 hx hZ hown (host := "") (Or.inl (hw _ (List.mem_of_getElem? (i := 62) rfl))) Via.refl e273 f270 (g := (mkF m 24 #[.val (.ref wk), .val (.ref b260), .val (.int (1 : Int32))] [(.ref wk), (.ref a7), (.int (1 : Int32)), (.ref b260)])) rfl rfl (hb hby d6_24)
            refine own_Fin.step (S' := T274.setTop (mkF m 27 #[.val (.ref wk), .val (.ref b260), .val (.int (1 : Int32))] [(.int (4 : Int32)), (.ref a7), (.int (1 : Int32)), (.ref b260)])) st274 ?_
            refine own_Fin.step (S' := T274.setTop (mkF m 28 #[.val (.ref wk), .val (.ref b260), .val (.int (1 : Int32))] [(.int (1 : Int32)), (.int (4 : Int32)), (.ref a7), (.int (1 : Int32)), (.ref b260)])) (fun t k => XS.iconst X274.here hx rfl (hb hby d6_27) k) ?_
            refine own_Fin.step (S' := T274.setTop (mkF m 29 #[.val (.ref wk), .val (.ref b260), .val (.int (1 : Int32))] [(.int (3 : Int32)), (.ref a7), (.int (1 : Int32)), (.ref b260)])) (fun t k => XS.isub X274.here hx rfl (hb hby d6_28) rfl k) ?_
            refine own_Fin.step (S' := T274.setTop (mkF m 30 #[.val (.ref wk), .val (.ref b260), .val (.int (1 : Int32))] [(.int (1 : Int32)), (.int (3 : Int32)), (.ref a7), (.int (1 : Int32)), (.ref b260)])) (fun t k => XS.iloadN X274.here hx rfl (hb hby d6_29) rfl  k) ?_
            refine own_Fin.step (S' := T274.setTop (mkF m 31 #[.val (.ref wk), .val (.ref b260), .val (.int (1 : Int32))] [(.int (2 : Int32)), (.ref a7), (.int (1 : Int32)), (.ref b260)])) (fun t k => XS.isub X274.here hx rfl (hb hby d6_30) rfl k) ?_
            have f275 : Arv Z h269 a7 k7 .int (16 : Int32) v7 (.int (0 : Int32)) := (f266.other W269 (show @Ne Nat a7 b260 from by omega))
            obtain ⟨cl276, Ar276, q276, S276, N276z, Hs276, G276⟩ := id f275
            have hin276 : ¬ ((2 : Int32) < 0 ∨ cl276.slots.size ≤ ((2 : Int32)).toNatClampNeg) := inb_of S276 ⟨by decide, by decide⟩
            have hat276 : cl276.slots[((2 : Int32)).toNatClampNeg]? = some (.int q2) := Hs276.at hin276 hq2
            refine own_Fin.step (S' := T274.setTop (mkF m 32 #[.val (.ref wk), .val (.ref b260), .val (.int (1 : Int32))] [(.int q2), (.int (1 : Int32)), (.ref b260)])) (X274.iaload hx (j := (2 : Int32)) (v := (.int q2)) (by rw [e274]; exact Ar276.1) (State.isArrayOf_alike hZ.alike Ar276.2.1) Ar276.2.2 hin276 hat276 (g := (mkF m 31 #[.val (.ref wk), .val (.ref b260), .val (.int (1 : Int32))] [(.int (2 : Int32)), (.ref a7), (.int (1 : Int32)), (.ref b260)])) rfl rfl (hb hby d6_31)) ?_
            obtain ⟨cl277, Ar277, q277, S277, N277z, Hs277, G277⟩ := id V269
            have hin277 : ¬ ((1 : Int32) < 0 ∨ cl277.slots.size ≤ ((1 : Int32)).toNatClampNeg) := inb_of S277 ⟨by decide, by decide⟩
            obtain ⟨T278, h278, X278, e278, W278, st278⟩ := stI X274 hx hZ e274 Ar277 (j := (1 : Int32)) hin277 (g := (mkF m 32 #[.val (.ref wk), .val (.ref b260), .val (.int (1 : Int32))] [(.int q2), (.int (1 : Int32)), (.ref b260)])) rfl rfl (hb hby d6_32)
            have V278 : Arv Z h278 b260 k260 .int (4 : Int32) [(.int q3), (.int q2), (.int (0 : Int32)), (.int (0 : Int32))] (.int (0 : Int32)) := Arv.set Ar277 q277 S277 N277z Hs277 G277 rfl W278 1 rfl (Nat.le_of_ble_eq_true rfl)
            have z278 := W278.size
            have KK278 : Keep h0 h278 [] := KK269.wr W278 (Or.inr (by omega))
            have N278 := Fr.snoc X278 N269 (by omega)
            refine own_Fin.step (S' := T278.setTop (mkF m 33 #[.val (.ref wk), .val (.ref b260), .val (.int (1 : Int32))] [])) st278 ?_
            refine own_Fin.step (S' := T278.setTop (mkF m 36 #[.val (.ref wk), .val (.ref b260), .val (.int (2 : Int32))] [])) (fun t k => XS.iinc X278.here hx rfl (hb hby d6_33) rfl (l' := #[.val (.ref wk), .val (.ref b260), .val (.int (2 : Int32))]) rfl k) ?_
            refine own_Fin.step (S' := T278.setTop (mkF m 9 #[.val (.ref wk), .val (.ref b260), .val (.int (2 : Int32))] [])) (fun t k => XS.goto X278.here hx rfl (pc0 := 36) (pc' := 9) rfl (hb hby d6_36) (by decide) (by decide) k) ?_
            refine own_Fin.step (S' := T278.setTop (mkF m 10 #[.val (.ref wk), .val (.ref b260), .val (.int (2 : Int32))] [(.int (2 : Int32))])) (fun t k => XS.iloadN X278.here hx rfl (hb hby d6_9) rfl  k) ?_
            refine own_Fin.step (S' := T278.setTop (mkF m 11 #[.val (.ref wk), .val (.ref b260), .val (.int (2 : Int32))] [(.ref wk), (.int (2 : Int32))])) (fun t k => XS.aloadN X278.here hx rfl (hb hby d6_10) rfl rfl  k) ?_
            have f279 : Fld Z h278 wk "com/example/methodical_checker/methodicalchecker/promela/Walk" "pendingCount" "I" (.int (4 : Int32)) := (Fld.other W278 f270 (Or.inl (show @Ne Nat wk b260 from by omega)))
            obtain ⟨T280, X280, e280, st280⟩ := getF X278 hx hZ hown (host := "") (Or.inl (hw _ (List.mem_of_getElem? (i := 62) rfl))) Via.refl e278 f279 (g := (mkF m 11 #[.val (.ref wk), .val (.ref b260), .val (.int (2 : Int32))] [(.ref wk), (.int (2 : Int32))])) rfl rfl (hb hby d6_11)
            refine own_Fin.step (S' := T280.setTop (mkF m 14 #[.val (.ref wk), .val (.ref b260), .val (.int (2 : Int32))] [(.int (4 : Int32)), (.int (2 : Int32))])) st280 ?_
            refine own_Fin.step (S' := T280.setTop (mkF m 17 #[.val (.ref wk), .val (.ref b260), .val (.int (2 : Int32))] [])) (fun t k => XS.icmpNo X280.here hx rfl (hb hby d6_14) rfl (tlt (by decide : ((2 : Int32) < (4 : Int32)))).2.1 k) ?_
            refine own_Fin.step (S' := T280.setTop (mkF m 18 #[.val (.ref wk), .val (.ref b260), .val (.int (2 : Int32))] [(.ref b260)])) (fun t k => XS.aloadN X280.here hx rfl (hb hby d6_17) rfl rfl  k) ?_
            refine own_Fin.step (S' := T280.setTop (mkF m 19 #[.val (.ref wk), .val (.ref b260), .val (.int (2 : Int32))] [(.int (2 : Int32)), (.ref b260)])) (fun t k => XS.iloadN X280.here hx rfl (hb hby d6_18) rfl  k) ?_
            refine own_Fin.step (S' := T280.setTop (mkF m 20 #[.val (.ref wk), .val (.ref b260), .val (.int (2 : Int32))] [(.ref wk), (.int (2 : Int32)), (.ref b260)])) (fun t k => XS.aloadN X280.here hx rfl (hb hby d6_19) rfl rfl  k) ?_
            have f281 : Fld Z h278 wk "com/example/methodical_checker/methodicalchecker/promela/Walk" "pending" "[I" (.ref a7) := (Fld.other W278 f272 (Or.inl (show @Ne Nat wk b260 from by omega)))
            obtain ⟨T282, X282, e282, st282⟩ := getF X280 hx hZ hown (host := "") (Or.inl (hw _ (List.mem_of_getElem? (i := 35) rfl))) Via.refl e280 f281 (g := (mkF m 20 #[.val (.ref wk), .val (.ref b260), .val (.int (2 : Int32))] [(.ref wk), (.int (2 : Int32)), (.ref b260)])) rfl rfl (hb hby d6_20)
            refine own_Fin.step (S' := T282.setTop (mkF m 23 #[.val (.ref wk), .val (.ref b260), .val (.int (2 : Int32))] [(.ref a7), (.int (2 : Int32)), (.ref b260)])) st282 ?_
            refine own_Fin.step (S' := T282.setTop (mkF m 24 #[.val (.ref wk), .val (.ref b260), .val (.int (2 : Int32))] [(.ref wk), (.ref a7), (.int (2 : Int32)), (.ref b260)])) (fun t k => XS.aloadN X282.here hx rfl (hb hby d6_23) rfl rfl  k) ?_
            obtain ⟨T283, X283, e283, st283⟩ := getF X282 hx hZ hown (host := "") (Or.inl (hw _ (List.mem_of_getElem? (i := 62) rfl))) Via.refl e282 f279 (g := (mkF m 24 #[.val (.ref wk), .val (.ref b260), .val (.int (2 : Int32))] [(.ref wk), (.ref a7), (.int (2 : Int32)), (.ref b260)])) rfl rfl (hb hby d6_24)
            refine own_Fin.step (S' := T283.setTop (mkF m 27 #[.val (.ref wk), .val (.ref b260), .val (.int (2 : Int32))] [(.int (4 : Int32)), (.ref a7), (.int (2 : Int32)), (.ref b260)])) st283 ?_
            refine own_Fin.step (S' := T283.setTop (mkF m 28 #[.val (.ref wk), .val (.ref b260), .val (.int (2 : Int32))] [(.int (1 : Int32)), (.int (4 : Int32)), (.ref a7), (.int (2 : Int32)), (.ref b260)])) (fun t k => XS.iconst X283.here hx rfl (hb hby d6_27) k) ?_
            refine own_Fin.step (S' := T283.setTop (mkF m 29 #[.val (.ref wk), .val (.ref b260), .val (.int (2 : Int32))] [(.int (3 : Int32)), (.ref a7), (.int (2 : Int32)), (.ref b260)])) (fun t k => XS.isub X283.here hx rfl (hb hby d6_28) rfl k) ?_
            refine own_Fin.step (S' := T283.setTop (mkF m 30 #[.val (.ref wk), .val (.ref b260), .val (.int (2 : Int32))] [(.int (2 : Int32)), (.int (3 : Int32)), (.ref a7), (.int (2 : Int32)), (.ref b260)])) (fun t k => XS.iloadN X283.here hx rfl (hb hby d6_29) rfl  k) ?_
            refine own_Fin.step (S' := T283.setTop (mkF m 31 #[.val (.ref wk), .val (.ref b260), .val (.int (2 : Int32))] [(.int (1 : Int32)), (.ref a7), (.int (2 : Int32)), (.ref b260)])) (fun t k => XS.isub X283.here hx rfl (hb hby d6_30) rfl k) ?_
            have f284 : Arv Z h278 a7 k7 .int (16 : Int32) v7 (.int (0 : Int32)) := (f275.other W278 (show @Ne Nat a7 b260 from by omega))
            obtain ⟨cl285, Ar285, q285, S285, N285z, Hs285, G285⟩ := id f284
            have hin285 : ¬ ((1 : Int32) < 0 ∨ cl285.slots.size ≤ ((1 : Int32)).toNatClampNeg) := inb_of S285 ⟨by decide, by decide⟩
            have hat285 : cl285.slots[((1 : Int32)).toNatClampNeg]? = some (.int q1) := Hs285.at hin285 hq1
            refine own_Fin.step (S' := T283.setTop (mkF m 32 #[.val (.ref wk), .val (.ref b260), .val (.int (2 : Int32))] [(.int q1), (.int (2 : Int32)), (.ref b260)])) (X283.iaload hx (j := (1 : Int32)) (v := (.int q1)) (by rw [e283]; exact Ar285.1) (State.isArrayOf_alike hZ.alike Ar285.2.1) Ar285.2.2 hin285 hat285 (g := (mkF m 31 #[.val (.ref wk), .val (.ref b260), .val (.int (2 : Int32))] [(.int (1 : Int32)), (.ref a7), (.int (2 : Int32)), (.ref b260)])) rfl rfl (hb hby d6_31)) ?_
            obtain ⟨cl286, Ar286, q286, S286, N286z, Hs286, G286⟩ := id V278
            have hin286 : ¬ ((2 : Int32) < 0 ∨ cl286.slots.size ≤ ((2 : Int32)).toNatClampNeg) := inb_of S286 ⟨by decide, by decide⟩
            obtain ⟨T287, h287, X287, e287, W287, st287⟩ := stI X283 hx hZ e283 Ar286 (j := (2 : Int32)) hin286 (g := (mkF m 32 #[.val (.ref wk), .val (.ref b260), .val (.int (2 : Int32))] [(.int q1), (.int (2 : Int32)), (.ref b260)])) rfl rfl (hb hby d6_32)
            have V287 : Arv Z h287 b260 k260 .int (4 : Int32) [(.int q3), (.int q2), (.int q1), (.int (0 : Int32))] (.int (0 : Int32)) := Arv.set Ar286 q286 S286 N286z Hs286 G286 rfl W287 2 rfl (Nat.le_of_ble_eq_true rfl)
            have z287 := W287.size
            have KK287 : Keep h0 h287 [] := KK278.wr W287 (Or.inr (by omega))
            have N287 := Fr.snoc X287 N278 (by omega)
            refine own_Fin.step (S' := T287.setTop (mkF m 33 #[.val (.ref wk), .val (.ref b260), .val (.int (2 : Int32))] [])) st287 ?_
            refine own_Fin.step (S' := T287.setTop (mkF m 36 #[.val (.ref wk), .val (.ref b260), .val (.int (3 : Int32))] [])) (fun t k => XS.iinc X287.here hx rfl (hb hby d6_33) rfl (l' := #[.val (.ref wk), .val (.ref b260), .val (.int (3 : Int32))]) rfl k) ?_
            as_aux_lemma =>
              refine own_Fin.step (S' := T287.setTop (mkF m 9 #[.val (.ref wk), .val (.ref b260), .val (.int (3 : Int32))] [])) (fun t k => XS.goto X287.here hx rfl (pc0 := 36) (pc' := 9) rfl (hb hby d6_36) (by decide) (by decide) k) ?_
              refine own_Fin.step (S' := T287.setTop (mkF m 10 #[.val (.ref wk), .val (.ref b260), .val (.int (3 : Int32))] [(.int (3 : Int32))])) (fun t k => XS.iloadN X287.here hx rfl (hb hby d6_9) rfl  k) ?_
              refine own_Fin.step (S' := T287.setTop (mkF m 11 #[.val (.ref wk), .val (.ref b260), .val (.int (3 : Int32))] [(.ref wk), (.int (3 : Int32))])) (fun t k => XS.aloadN X287.here hx rfl (hb hby d6_10) rfl rfl  k) ?_
              have f288 : Fld Z h287 wk "com/example/methodical_checker/methodicalchecker/promela/Walk" "pendingCount" "I" (.int (4 : Int32)) := (Fld.other W287 f279 (Or.inl (show @Ne Nat wk b260 from by omega)))
              obtain ⟨T289, X289, e289, st289⟩ := getF X287 hx hZ hown (host := "") (Or.inl (hw _ (List.mem_of_getElem? (i := 62) rfl))) Via.refl e287 f288 (g := (mkF m 11 #[.val (.ref wk), .val (.ref b260), .val (.int (3 : Int32))] [(.ref wk), (.int (3 : Int32))])) rfl rfl (hb hby d6_11)
              refine own_Fin.step (S' := T289.setTop (mkF m 14 #[.val (.ref wk), .val (.ref b260), .val (.int (3 : Int32))] [(.int (4 : Int32)), (.int (3 : Int32))])) st289 ?_
              refine own_Fin.step (S' := T289.setTop (mkF m 17 #[.val (.ref wk), .val (.ref b260), .val (.int (3 : Int32))] [])) (fun t k => XS.icmpNo X289.here hx rfl (hb hby d6_14) rfl (tlt (by decide : ((3 : Int32) < (4 : Int32)))).2.1 k) ?_
              refine own_Fin.step (S' := T289.setTop (mkF m 18 #[.val (.ref wk), .val (.ref b260), .val (.int (3 : Int32))] [(.ref b260)])) (fun t k => XS.aloadN X289.here hx rfl (hb hby d6_17) rfl rfl  k) ?_
              refine own_Fin.step (S' := T289.setTop (mkF m 19 #[.val (.ref wk), .val (.ref b260), .val (.int (3 : Int32))] [(.int (3 : Int32)), (.ref b260)])) (fun t k => XS.iloadN X289.here hx rfl (hb hby d6_18) rfl  k) ?_
              refine own_Fin.step (S' := T289.setTop (mkF m 20 #[.val (.ref wk), .val (.ref b260), .val (.int (3 : Int32))] [(.ref wk), (.int (3 : Int32)), (.ref b260)])) (fun t k => XS.aloadN X289.here hx rfl (hb hby d6_19) rfl rfl  k) ?_
              have f290 : Fld Z h287 wk "com/example/methodical_checker/methodicalchecker/promela/Walk" "pending" "[I" (.ref a7) := (Fld.other W287 f281 (Or.inl (show @Ne Nat wk b260 from by omega)))
              obtain ⟨T291, X291, e291, st291⟩ := getF X289 hx hZ hown (host := "") (Or.inl (hw _ (List.mem_of_getElem? (i := 35) rfl))) Via.refl e289 f290 (g := (mkF m 20 #[.val (.ref wk), .val (.ref b260), .val (.int (3 : Int32))] [(.ref wk), (.int (3 : Int32)), (.ref b260)])) rfl rfl (hb hby d6_20)
              refine own_Fin.step (S' := T291.setTop (mkF m 23 #[.val (.ref wk), .val (.ref b260), .val (.int (3 : Int32))] [(.ref a7), (.int (3 : Int32)), (.ref b260)])) st291 ?_
              refine own_Fin.step (S' := T291.setTop (mkF m 24 #[.val (.ref wk), .val (.ref b260), .val (.int (3 : Int32))] [(.ref wk), (.ref a7), (.int (3 : Int32)), (.ref b260)])) (fun t k => XS.aloadN X291.here hx rfl (hb hby d6_23) rfl rfl  k) ?_
              obtain ⟨T292, X292, e292, st292⟩ := getF X291 hx hZ hown (host := "") (Or.inl (hw _ (List.mem_of_getElem? (i := 62) rfl))) Via.refl e291 f288 (g := (mkF m 24 #[.val (.ref wk), .val (.ref b260), .val (.int (3 : Int32))] [(.ref wk), (.ref a7), (.int (3 : Int32)), (.ref b260)])) rfl rfl (hb hby d6_24)
              refine own_Fin.step (S' := T292.setTop (mkF m 27 #[.val (.ref wk), .val (.ref b260), .val (.int (3 : Int32))] [(.int (4 : Int32)), (.ref a7), (.int (3 : Int32)), (.ref b260)])) st292 ?_
              refine own_Fin.step (S' := T292.setTop (mkF m 28 #[.val (.ref wk), .val (.ref b260), .val (.int (3 : Int32))] [(.int (1 : Int32)), (.int (4 : Int32)), (.ref a7), (.int (3 : Int32)), (.ref b260)])) (fun t k => XS.iconst X292.here hx rfl (hb hby d6_27) k) ?_
              refine own_Fin.step (S' := T292.setTop (mkF m 29 #[.val (.ref wk), .val (.ref b260), .val (.int (3 : Int32))] [(.int (3 : Int32)), (.ref a7), (.int (3 : Int32)), (.ref b260)])) (fun t k => XS.isub X292.here hx rfl (hb hby d6_28) rfl k) ?_
              refine own_Fin.step (S' := T292.setTop (mkF m 30 #[.val (.ref wk), .val (.ref b260), .val (.int (3 : Int32))] [(.int (3 : Int32)), (.int (3 : Int32)), (.ref a7), (.int (3 : Int32)), (.ref b260)])) (fun t k => XS.iloadN X292.here hx rfl (hb hby d6_29) rfl  k) ?_
              refine own_Fin.step (S' := T292.setTop (mkF m 31 #[.val (.ref wk), .val (.ref b260), .val (.int (3 : Int32))] [(.int (0 : Int32)), (.ref a7), (.int (3 : Int32)), (.ref b260)])) (fun t k => XS.isub X292.here hx rfl (hb hby d6_30) rfl k) ?_
              have f293 : Arv Z h287 a7 k7 .int (16 : Int32) v7 (.int (0 : Int32)) := (f284.other W287 (show @Ne Nat a7 b260 from by omega))
              obtain ⟨cl294, Ar294, q294, S294, N294z, Hs294, G294⟩ := id f293
              have hin294 : ¬ ((0 : Int32) < 0 ∨ cl294.slots.size ≤ ((0 : Int32)).toNatClampNeg) := inb_of S294 ⟨by decide, by decide⟩
              have hat294 : cl294.slots[((0 : Int32)).toNatClampNeg]? = some (.int q0) := Hs294.at hin294 hq0
              refine own_Fin.step (S' := T292.setTop (mkF m 32 #[.val (.ref wk), .val (.ref b260), .val (.int (3 : Int32))] [(.int q0), (.int (3 : Int32)), (.ref b260)])) (X292.iaload hx (j := (0 : Int32)) (v := (.int q0)) (by rw [e292]; exact Ar294.1) (State.isArrayOf_alike hZ.alike Ar294.2.1) Ar294.2.2 hin294 hat294 (g := (mkF m 31 #[.val (.ref wk), .val (.ref b260), .val (.int (3 : Int32))] [(.int (0 : Int32)), (.ref a7), (.int (3 : Int32)), (.ref b260)])) rfl rfl (hb hby d6_31)) ?_
              obtain ⟨cl295, Ar295, q295, S295, N295z, Hs295, G295⟩ := id V287
              have hin295 : ¬ ((3 : Int32) < 0 ∨ cl295.slots.size ≤ ((3 : Int32)).toNatClampNeg) := inb_of S295 ⟨by decide, by decide⟩
              obtain ⟨T296, h296, X296, e296, W296, st296⟩ := stI X292 hx hZ e292 Ar295 (j := (3 : Int32)) hin295 (g := (mkF m 32 #[.val (.ref wk), .val (.ref b260), .val (.int (3 : Int32))] [(.int q0), (.int (3 : Int32)), (.ref b260)])) rfl rfl (hb hby d6_32)
              have V296 : Arv Z h296 b260 k260 .int (4 : Int32) [(.int q3), (.int q2), (.int q1), (.int q0)] (.int (0 : Int32)) := Arv.set Ar295 q295 S295 N295z Hs295 G295 rfl W296 3 rfl (Nat.le_of_ble_eq_true rfl)
              have z296 := W296.size
              have KK296 : Keep h0 h296 [] := KK287.wr W296 (Or.inr (by omega))
              have N296 := Fr.snoc X296 N287 (by omega)
              refine own_Fin.step (S' := T296.setTop (mkF m 33 #[.val (.ref wk), .val (.ref b260), .val (.int (3 : Int32))] [])) st296 ?_
              refine own_Fin.step (S' := T296.setTop (mkF m 36 #[.val (.ref wk), .val (.ref b260), .val (.int (4 : Int32))] [])) (fun t k => XS.iinc X296.here hx rfl (hb hby d6_33) rfl (l' := #[.val (.ref wk), .val (.ref b260), .val (.int (4 : Int32))]) rfl k) ?_
              refine own_Fin.step (S' := T296.setTop (mkF m 9 #[.val (.ref wk), .val (.ref b260), .val (.int (4 : Int32))] [])) (fun t k => XS.goto X296.here hx rfl (pc0 := 36) (pc' := 9) rfl (hb hby d6_36) (by decide) (by decide) k) ?_
              refine own_Fin.step (S' := T296.setTop (mkF m 10 #[.val (.ref wk), .val (.ref b260), .val (.int (4 : Int32))] [(.int (4 : Int32))])) (fun t k => XS.iloadN X296.here hx rfl (hb hby d6_9) rfl  k) ?_
              refine own_Fin.step (S' := T296.setTop (mkF m 11 #[.val (.ref wk), .val (.ref b260), .val (.int (4 : Int32))] [(.ref wk), (.int (4 : Int32))])) (fun t k => XS.aloadN X296.here hx rfl (hb hby d6_10) rfl rfl  k) ?_
              have f297 : Fld Z h296 wk "com/example/methodical_checker/methodicalchecker/promela/Walk" "pendingCount" "I" (.int (4 : Int32)) := (Fld.other W296 f288 (Or.inl (show @Ne Nat wk b260 from by omega)))
              obtain ⟨T298, X298, e298, st298⟩ := getF X296 hx hZ hown (host := "") (Or.inl (hw _ (List.mem_of_getElem? (i := 62) rfl))) Via.refl e296 f297 (g := (mkF m 11 #[.val (.ref wk), .val (.ref b260), .val (.int (4 : Int32))] [(.ref wk), (.int (4 : Int32))])) rfl rfl (hb hby d6_11)
              refine own_Fin.step (S' := T298.setTop (mkF m 14 #[.val (.ref wk), .val (.ref b260), .val (.int (4 : Int32))] [(.int (4 : Int32)), (.int (4 : Int32))])) st298 ?_
              refine own_Fin.step (S' := T298.setTop (mkF m 39 #[.val (.ref wk), .val (.ref b260), .val (.int (4 : Int32))] [])) (fun t k => XS.icmpYes X298.here hx rfl (pc0 := 14) (pc' := 39) rfl (hb hby d6_14) rfl (flt (by decide : ¬ ((4 : Int32) < (4 : Int32)))).2.1 (by decide) (by decide) k) ?_
              refine own_Fin.step (S' := T298.setTop (mkF m 40 #[.val (.ref wk), .val (.ref b260), .val (.int (4 : Int32))] [(.ref b260)])) (fun t k => XS.aloadN X298.here hx rfl (hb hby d6_39) rfl rfl  k) ?_
              have hq299 : Q6 Z wk wc [q0, q1, q2, q3] h0 n0 (some (.ref b260)) h296 _ := ⟨b260, k260, rfl, N296, KK296, (own_WKkeep KK296 P0), V296, (by first | omega | assumption)⟩
              exact own_retR X298 hx hlk (w := (.ref b260)) rfl hrt rfl (hb hby d6_40) e298 hq299 (by decide) (by decide)
          · rcases ps with _ | ⟨q5, ps⟩
            · have FPn : Fld Z h0 wk "com/example/methodical_checker/methodicalchecker/promela/Walk" "pendingCount" "I" (.int (5 : Int32)) := G2
              have hq0 : v7.getD 0 (.int (0 : Int32)) = .int q0 := he 0 q0 rfl
              have hq1 : v7.getD 1 (.int (0 : Int32)) = .int q1 := he 1 q1 rfl
              have hq2 : v7.getD 2 (.int (0 : Int32)) = .int q2 := he 2 q2 rfl
              have hq3 : v7.getD 3 (.int (0 : Int32)) = .int q3 := he 3 q3 rfl
              have hq4 : v7.getD 4 (.int (0 : Int32)) = .int q4 := he 4 q4 rfl
              refine own_Fin.step (S' := s₁.setTop (mkF m 1 #[.val (.ref wk), .unset, .unset] [(.ref wk)])) (fun t k => XS.aloadN X0.here hx rfl (hb hby d6_0) rfl rfl  k) ?_
              obtain ⟨T300, X300, e300, st300⟩ := getF X0 hx hZ hown (host := "") (Or.inl (hw _ (List.mem_of_getElem? (i := 62) rfl))) Via.refl e0 FPn (g := (mkF m 1 #[.val (.ref wk), .unset, .unset] [(.ref wk)])) rfl rfl (hb hby d6_1)
              refine own_Fin.step (S' := T300.setTop (mkF m 4 #[.val (.ref wk), .unset, .unset] [(.int (5 : Int32))])) st300 ?_
              obtain ⟨T301, h301, k301, X301, e301, E301, A301, B301, st301⟩ := newPE X300 hx hZ (hw _ (List.mem_of_getElem? (i := 18) rfl)) e300 (g := (mkF m 4 #[.val (.ref wk), .unset, .unset] [(.int (5 : Int32))])) rfl (hb hby d6_4) rfl (by decide) (cap := 5) (by decide) (by decide) (by decide) (by decide) (ad := "[I") rfl
              obtain ⟨b301, g301⟩ : ∃ z, z = h0.size := ⟨_, rfl⟩
              rw [← g301] at A301 B301 st301
              have ll301 : @LT.lt Nat _ b301 (Array.size h301) := A301.lt
              have KK301 : Keep h0 h301 [] := (Keep.refl h0 []).ext E301
              have z301 := E301.1
              have V301 : Arv Z h301 b301 k301 .int (5 : Int32) [(.int (0 : Int32)), (.int (0 : Int32)), (.int (0 : Int32)), (.int (0 : Int32)), (.int (0 : Int32))] (.int (0 : Int32)) := (Arv.new A301 (by decide)).pad (pad_rep [] (.int (0 : Int32)) 5)
              refine own_Fin.step (S' := T301.setTop (mkF m 6 #[.val (.ref wk), .unset, .unset] [(.ref b301)])) st301 ?_
              refine own_Fin.step (S' := T301.setTop (mkF m 7 #[.val (.ref wk), .val (.ref b301), .unset] [])) (fun t k => XS.astoreN X301.here hx rfl (hb hby d6_6) rfl rfl (l' := #[.val (.ref wk), .val (.ref b301), .unset]) rfl k) ?_
              refine own_Fin.step (S' := T301.setTop (mkF m 8 #[.val (.ref wk), .val (.ref b301), .unset] [(.int (0 : Int32))])) (fun t k => XS.iconst X301.here hx rfl (hb hby d6_7) k) ?_
              refine own_Fin.step (S' := T301.setTop (mkF m 9 #[.val (.ref wk), .val (.ref b301), .val (.int (0 : Int32))] [])) (fun t k => XS.istoreN X301.here hx rfl (hb hby d6_8) rfl (l' := #[.val (.ref wk), .val (.ref b301), .val (.int (0 : Int32))]) rfl k) ?_
              refine own_Fin.step (S' := T301.setTop (mkF m 10 #[.val (.ref wk), .val (.ref b301), .val (.int (0 : Int32))] [(.int (0 : Int32))])) (fun t k => XS.iloadN X301.here hx rfl (hb hby d6_9) rfl  k) ?_
              refine own_Fin.step (S' := T301.setTop (mkF m 11 #[.val (.ref wk), .val (.ref b301), .val (.int (0 : Int32))] [(.ref wk), (.int (0 : Int32))])) (fun t k => XS.aloadN X301.here hx rfl (hb hby d6_10) rfl rfl  k) ?_
              have f302 : Fld Z h301 wk "com/example/methodical_checker/methodicalchecker/promela/Walk" "pendingCount" "I" (.int (5 : Int32)) := (Fld.ext E301 FPn)
              obtain ⟨T303, X303, e303, st303⟩ := getF X301 hx hZ hown (host := "") (Or.inl (hw _ (List.mem_of_getElem? (i := 62) rfl))) Via.refl e301 f302 (g := (mkF m 11 #[.val (.ref wk), .val (.ref b301), .val (.int (0 : Int32))] [(.ref wk), (.int (0 : Int32))])) rfl rfl (hb hby d6_11)
              refine own_Fin.step (S' := T303.setTop (mkF m 14 #[.val (.ref wk), .val (.ref b301), .val (.int (0 : Int32))] [(.int (5 : Int32)), (.int (0 : Int32))])) st303 ?_
              refine own_Fin.step (S' := T303.setTop (mkF m 17 #[.val (.ref wk), .val (.ref b301), .val (.int (0 : Int32))] [])) (fun t k => XS.icmpNo X303.here hx rfl (hb hby d6_14) rfl (tlt (by decide : ((0 : Int32) < (5 : Int32)))).2.1 k) ?_
              refine own_Fin.step (S' := T303.setTop (mkF m 18 #[.val (.ref wk), .val (.ref b301), .val (.int (0 : Int32))] [(.ref b301)])) (fun t k => XS.aloadN X303.here hx rfl (hb hby d6_17) rfl rfl  k) ?_
              refine own_Fin.step (S' := T303.setTop (mkF m 19 #[.val (.ref wk), .val (.ref b301), .val (.int (0 : Int32))] [(.int (0 : Int32)), (.ref b301)])) (fun t k => XS.iloadN X303.here hx rfl (hb hby d6_18) rfl  k) ?_
              refine own_Fin.step (S' := T303.setTop (mkF m 20 #[.val (.ref wk), .val (.ref b301), .val (.int (0 : Int32))] [(.ref wk), (.int (0 : Int32)), (.ref b301)])) (fun t k => XS.aloadN X303.here hx rfl (hb hby d6_19) rfl rfl  k) ?_
              have f304 : Fld Z h301 wk "com/example/methodical_checker/methodicalchecker/promela/Walk" "pending" "[I" (.ref a7) := (Fld.ext E301 G9)
              obtain ⟨T305, X305, e305, st305⟩ := getF X303 hx hZ hown (host := "") (Or.inl (hw _ (List.mem_of_getElem? (i := 35) rfl))) Via.refl e303 f304 (g := (mkF m 20 #[.val (.ref wk), .val (.ref b301), .val (.int (0 : Int32))] [(.ref wk), (.int (0 : Int32)), (.ref b301)])) rfl rfl (hb hby d6_20)
              refine own_Fin.step (S' := T305.setTop (mkF m 23 #[.val (.ref wk), .val (.ref b301), .val (.int (0 : Int32))] [(.ref a7), (.int (0 : Int32)), (.ref b301)])) st305 ?_
              refine own_Fin.step (S' := T305.setTop (mkF m 24 #[.val (.ref wk), .val (.ref b301), .val (.int (0 : Int32))] [(.ref wk), (.ref a7), (.int (0 : Int32)), (.ref b301)])) (fun t k => XS.aloadN X305.here hx rfl (hb hby d6_23) rfl rfl  k) ?_
              obtain ⟨T306, X306, e306, st306⟩ := getF X305 hx hZ hown (host := "") (Or.inl (hw _ (List.mem_of_getElem? (i := 62) rfl))) Via.refl e305 f302 (g := (mkF m 24 #[.val (.ref wk), .val (.ref b301), .val (.int (0 : Int32))] [(.ref wk), (.ref a7), (.int (0 : Int32)), (.ref b301)])) rfl rfl (hb hby d6_24)
              refine own_Fin.step (S' := T306.setTop (mkF m 27 #[.val (.ref wk), .val (.ref b301), .val (.int (0 : Int32))] [(.int (5 : Int32)), (.ref a7), (.int (0 : Int32)), (.ref b301)])) st306 ?_
              refine own_Fin.step (S' := T306.setTop (mkF m 28 #[.val (.ref wk), .val (.ref b301), .val (.int (0 : Int32))] [(.int (1 : Int32)), (.int (5 : Int32)), (.ref a7), (.int (0 : Int32)), (.ref b301)])) (fun t k => XS.iconst X306.here hx rfl (hb hby d6_27) k) ?_
              refine own_Fin.step (S' := T306.setTop (mkF m 29 #[.val (.ref wk), .val (.ref b301), .val (.int (0 : Int32))] [(.int (4 : Int32)), (.ref a7), (.int (0 : Int32)), (.ref b301)])) (fun t k => XS.isub X306.here hx rfl (hb hby d6_28) rfl k) ?_
              refine own_Fin.step (S' := T306.setTop (mkF m 30 #[.val (.ref wk), .val (.ref b301), .val (.int (0 : Int32))] [(.int (0 : Int32)), (.int (4 : Int32)), (.ref a7), (.int (0 : Int32)), (.ref b301)])) (fun t k => XS.iloadN X306.here hx rfl (hb hby d6_29) rfl  k) ?_
              refine own_Fin.step (S' := T306.setTop (mkF m 31 #[.val (.ref wk), .val (.ref b301), .val (.int (0 : Int32))] [(.int (4 : Int32)), (.ref a7), (.int (0 : Int32)), (.ref b301)])) (fun t k => XS.isub X306.here hx rfl (hb hby d6_30) rfl k) ?_
              have f307 : Arv Z h301 a7 k7 .int (16 : Int32) v7 (.int (0 : Int32)) := (G16.ext E301)
              obtain ⟨cl308, Ar308, q308, S308, N308z, Hs308, G308⟩ := id f307
              have hin308 : ¬ ((4 : Int32) < 0 ∨ cl308.slots.size ≤ ((4 : Int32)).toNatClampNeg) := inb_of S308 ⟨by decide, by decide⟩
              have hat308 : cl308.slots[((4 : Int32)).toNatClampNeg]? = some (.int q4) := Hs308.at hin308 hq4
              refine own_Fin.step (S' := T306.setTop (mkF m 32 #[.val (.ref wk), .val (.ref b301), .val (.int (0 : Int32))] [(.int q4), (.int (0 : Int32)), (.ref b301)])) (X306.iaload hx (j := (4 : Int32)) (v := (.int q4)) (by rw [e306]; exact Ar308.1) (State.isArrayOf_alike hZ.alike Ar308.2.1) Ar308.2.2 hin308 hat308 (g := (mkF m 31 #[.val (.ref wk), .val (.ref b301), .val (.int (0 : Int32))] [(.int (4 : Int32)), (.ref a7), (.int (0 : Int32)), (.ref b301)])) rfl rfl (hb hby d6_31)) ?_
              obtain ⟨cl309, Ar309, q309, S309, N309z, Hs309, G309⟩ := id V301
              have hin309 : ¬ ((0 : Int32) < 0 ∨ cl309.slots.size ≤ ((0 : Int32)).toNatClampNeg) := inb_of S309 ⟨by decide, by decide⟩
              obtain ⟨T310, h310, X310, e310, W310, st310⟩ := stI X306 hx hZ e306 Ar309 (j := (0 : Int32)) hin309 (g := (mkF m 32 #[.val (.ref wk), .val (.ref b301), .val (.int (0 : Int32))] [(.int q4), (.int (0 : Int32)), (.ref b301)])) rfl rfl (hb hby d6_32)
              have V310 : Arv Z h310 b301 k301 .int (5 : Int32) [(.int q4), (.int (0 : Int32)), (.int (0 : Int32)), (.int (0 : Int32)), (.int (0 : Int32))] (.int (0 : Int32)) := Arv.set Ar309 q309 S309 N309z Hs309 G309 rfl W310 0 rfl (Nat.le_of_ble_eq_true rfl)
              have z310 := W310.size
              have KK310 : Keep h0 h310 [] := KK301.wr W310 (Or.inr (by omega))
              have N310 := Fr.snoc X310 N0 (by omega)
              refine own_Fin.step (S' := T310.setTop (mkF m 33 #[.val (.ref wk), .val (.ref b301), .val (.int (0 : Int32))] [])) st310 ?_
              refine own_Fin.step (S' := T310.setTop (mkF m 36 #[.val (.ref wk), .val (.ref b301), .val (.int (1 : Int32))] [])) (fun t k => XS.iinc X310.here hx rfl (hb hby d6_33) rfl (l' := #[.val (.ref wk), .val (.ref b301), .val (.int (1 : Int32))]) rfl k) ?_
              refine own_Fin.step (S' := T310.setTop (mkF m 9 #[.val (.ref wk), .val (.ref b301), .val (.int (1 : Int32))] [])) (fun t k => XS.goto X310.here hx rfl (pc0 := 36) (pc' := 9) rfl (hb hby d6_36) (by decide) (by decide) k) ?_
              refine own_Fin.step (S' := T310.setTop (mkF m 10 #[.val (.ref wk), .val (.ref b301), .val (.int (1 : Int32))] [(.int (1 : Int32))])) (fun t k => XS.iloadN X310.here hx rfl (hb hby d6_9) rfl  k) ?_
              refine own_Fin.step (S' := T310.setTop (mkF m 11 #[.val (.ref wk), .val (.ref b301), .val (.int (1 : Int32))] [(.ref wk), (.int (1 : Int32))])) (fun t k => XS.aloadN X310.here hx rfl (hb hby d6_10) rfl rfl  k) ?_
              have f311 : Fld Z h310 wk "com/example/methodical_checker/methodicalchecker/promela/Walk" "pendingCount" "I" (.int (5 : Int32)) := (Fld.other W310 f302 (Or.inl (show @Ne Nat wk b301 from by omega)))
              obtain ⟨T312, X312, e312, st312⟩ := getF X310 hx hZ hown (host := "") (Or.inl (hw _ (List.mem_of_getElem? (i := 62) rfl))) Via.refl e310 f311 (g := (mkF m 11 #[.val (.ref wk), .val (.ref b301), .val (.int (1 : Int32))] [(.ref wk), (.int (1 : Int32))])) rfl rfl (hb hby d6_11)
              refine own_Fin.step (S' := T312.setTop (mkF m 14 #[.val (.ref wk), .val (.ref b301), .val (.int (1 : Int32))] [(.int (5 : Int32)), (.int (1 : Int32))])) st312 ?_
              refine own_Fin.step (S' := T312.setTop (mkF m 17 #[.val (.ref wk), .val (.ref b301), .val (.int (1 : Int32))] [])) (fun t k => XS.icmpNo X312.here hx rfl (hb hby d6_14) rfl (tlt (by decide : ((1 : Int32) < (5 : Int32)))).2.1 k) ?_
              refine own_Fin.step (S' := T312.setTop (mkF m 18 #[.val (.ref wk), .val (.ref b301), .val (.int (1 : Int32))] [(.ref b301)])) (fun t k => XS.aloadN X312.here hx rfl (hb hby d6_17) rfl rfl  k) ?_
              refine own_Fin.step (S' := T312.setTop (mkF m 19 #[.val (.ref wk), .val (.ref b301), .val (.int (1 : Int32))] [(.int (1 : Int32)), (.ref b301)])) (fun t k => XS.iloadN X312.here hx rfl (hb hby d6_18) rfl  k) ?_
              refine own_Fin.step (S' := T312.setTop (mkF m 20 #[.val (.ref wk), .val (.ref b301), .val (.int (1 : Int32))] [(.ref wk), (.int (1 : Int32)), (.ref b301)])) (fun t k => XS.aloadN X312.here hx rfl (hb hby d6_19) rfl rfl  k) ?_
              have f313 : Fld Z h310 wk "com/example/methodical_checker/methodicalchecker/promela/Walk" "pending" "[I" (.ref a7) := (Fld.other W310 f304 (Or.inl (show @Ne Nat wk b301 from by omega)))
              obtain ⟨T314, X314, e314, st314⟩ := getF X312 hx hZ hown (host := "") (Or.inl (hw _ (List.mem_of_getElem? (i := 35) rfl))) Via.refl e312 f313 (g := (mkF m 20 #[.val (.ref wk), .val (.ref b301), .val (.int (1 : Int32))] [(.ref wk), (.int (1 : Int32)), (.ref b301)])) rfl rfl (hb hby d6_20)
              refine own_Fin.step (S' := T314.setTop (mkF m 23 #[.val (.ref wk), .val (.ref b301), .val (.int (1 : Int32))] [(.ref a7), (.int (1 : Int32)), (.ref b301)])) st314 ?_
              refine own_Fin.step (S' := T314.setTop (mkF m 24 #[.val (.ref wk), .val (.ref b301), .val (.int (1 : Int32))] [(.ref wk), (.ref a7), (.int (1 : Int32)), (.ref b301)])) (fun t k => XS.aloadN X314.here hx rfl (hb hby d6_23) rfl rfl  k) ?_
              obtain ⟨T315, X315, e315, st315⟩ := getF X314 hx hZ hown (host := "") (Or.inl (hw _ (List.mem_of_getElem? (i := 62) rfl))) Via.refl e314 f311 (g := (mkF m 24 #[.val (.ref wk), .val (.ref b301), .val (.int (1 : Int32))] [(.ref wk), (.ref a7), (.int (1 : Int32)), (.ref b301)])) rfl rfl (hb hby d6_24)
              refine own_Fin.step (S' := T315.setTop (mkF m 27 #[.val (.ref wk), .val (.ref b301), .val (.int (1 : Int32))] [(.int (5 : Int32)), (.ref a7), (.int (1 : Int32)), (.ref b301)])) st315 ?_
              refine own_Fin.step (S' := T315.setTop (mkF m 28 #[.val (.ref wk), .val (.ref b301), .val (.int (1 : Int32))] [(.int (1 : Int32)), (.int (5 : Int32)), (.ref a7), (.int (1 : Int32)), (.ref b301)])) (fun t k => XS.iconst X315.here hx rfl (hb hby d6_27) k) ?_
              refine own_Fin.step (S' := T315.setTop (mkF m 29 #[.val (.ref wk), .val (.ref b301), .val (.int (1 : Int32))] [(.int (4 : Int32)), (.ref a7), (.int (1 : Int32)), (.ref b301)])) (fun t k => XS.isub X315.here hx rfl (hb hby d6_28) rfl k) ?_
              refine own_Fin.step (S' := T315.setTop (mkF m 30 #[.val (.ref wk), .val (.ref b301), .val (.int (1 : Int32))] [(.int (1 : Int32)), (.int (4 : Int32)), (.ref a7), (.int (1 : Int32)), (.ref b301)])) (fun t k => XS.iloadN X315.here hx rfl (hb hby d6_29) rfl  k) ?_
              refine own_Fin.step (S' := T315.setTop (mkF m 31 #[.val (.ref wk), .val (.ref b301), .val (.int (1 : Int32))] [(.int (3 : Int32)), (.ref a7), (.int (1 : Int32)), (.ref b301)])) (fun t k => XS.isub X315.here hx rfl (hb hby d6_30) rfl k) ?_
              have f316 : Arv Z h310 a7 k7 .int (16 : Int32) v7 (.int (0 : Int32)) := (f307.other W310 (show @Ne Nat a7 b301 from by omega))
              obtain ⟨cl317, Ar317, q317, S317, N317z, Hs317, G317⟩ := id f316
              have hin317 : ¬ ((3 : Int32) < 0 ∨ cl317.slots.size ≤ ((3 : Int32)).toNatClampNeg) := inb_of S317 ⟨by decide, by decide⟩
              have hat317 : cl317.slots[((3 : Int32)).toNatClampNeg]? = some (.int q3) := Hs317.at hin317 hq3
              refine own_Fin.step (S' := T315.setTop (mkF m 32 #[.val (.ref wk), .val (.ref b301), .val (.int (1 : Int32))] [(.int q3), (.int (1 : Int32)), (.ref b301)])) (X315.iaload hx (j := (3 : Int32)) (v := (.int q3)) (by rw [e315]; exact Ar317.1) (State.isArrayOf_alike hZ.alike Ar317.2.1) Ar317.2.2 hin317 hat317 (g := (mkF m 31 #[.val (.ref wk), .val (.ref b301), .val (.int (1 : Int32))] [(.int (3 : Int32)), (.ref a7), (.int (1 : Int32)), (.ref b301)])) rfl rfl (hb hby d6_31)) ?_
              obtain ⟨cl318, Ar318, q318, S318, N318z, Hs318, G318⟩ := id V310
              have hin318 : ¬ ((1 : Int32) < 0 ∨ cl318.slots.size ≤ ((1 : Int32)).toNatClampNeg) := inb_of S318 ⟨by decide, by decide⟩
              obtain ⟨T319, h319, X319, e319, W319, st319⟩ := stI X315 hx hZ e315 Ar318 (j := (1 : Int32)) hin318 (g := (mkF m 32 #[.val (.ref wk), .val (.ref b301), .val (.int (1 : Int32))] [(.int q3), (.int (1 : Int32)), (.ref b301)])) rfl rfl (hb hby d6_32)
              have V319 : Arv Z h319 b301 k301 .int (5 : Int32) [(.int q4), (.int q3), (.int (0 : Int32)), (.int (0 : Int32)), (.int (0 : Int32))] (.int (0 : Int32)) := Arv.set Ar318 q318 S318 N318z Hs318 G318 rfl W319 1 rfl (Nat.le_of_ble_eq_true rfl)
              have z319 := W319.size
              have KK319 : Keep h0 h319 [] := KK310.wr W319 (Or.inr (by omega))
              have N319 := Fr.snoc X319 N310 (by omega)
              refine own_Fin.step (S' := T319.setTop (mkF m 33 #[.val (.ref wk), .val (.ref b301), .val (.int (1 : Int32))] [])) st319 ?_
              refine own_Fin.step (S' := T319.setTop (mkF m 36 #[.val (.ref wk), .val (.ref b301), .val (.int (2 : Int32))] [])) (fun t k => XS.iinc X319.here hx rfl (hb hby d6_33) rfl (l' := #[.val (.ref wk), .val (.ref b301), .val (.int (2 : Int32))]) rfl k) ?_
              refine own_Fin.step (S' := T319.setTop (mkF m 9 #[.val (.ref wk), .val (.ref b301), .val (.int (2 : Int32))] [])) (fun t k => XS.goto X319.here hx rfl (pc0 := 36) (pc' := 9) rfl (hb hby d6_36) (by decide) (by decide) k) ?_
              refine own_Fin.step (S' := T319.setTop (mkF m 10 #[.val (.ref wk), .val (.ref b301), .val (.int (2 : Int32))] [(.int (2 : Int32))])) (fun t k => XS.iloadN X319.here hx rfl (hb hby d6_9) rfl  k) ?_
              refine own_Fin.step (S' := T319.setTop (mkF m 11 #[.val (.ref wk), .val (.ref b301), .val (.int (2 : Int32))] [(.ref wk), (.int (2 : Int32))])) (fun t k => XS.aloadN X319.here hx rfl (hb hby d6_10) rfl rfl  k) ?_
              have f320 : Fld Z h319 wk "com/example/methodical_checker/methodicalchecker/promela/Walk" "pendingCount" "I" (.int (5 : Int32)) := (Fld.other W319 f311 (Or.inl (show @Ne Nat wk b301 from by omega)))
              obtain ⟨T321, X321, e321, st321⟩ := getF X319 hx hZ hown (host := "") (Or.inl (hw _ (List.mem_of_getElem? (i := 62) rfl))) Via.refl e319 f320 (g := (mkF m 11 #[.val (.ref wk), .val (.ref b301), .val (.int (2 : Int32))] [(.ref wk), (.int (2 : Int32))])) rfl rfl (hb hby d6_11)
              refine own_Fin.step (S' := T321.setTop (mkF m 14 #[.val (.ref wk), .val (.ref b301), .val (.int (2 : Int32))] [(.int (5 : Int32)), (.int (2 : Int32))])) st321 ?_
              refine own_Fin.step (S' := T321.setTop (mkF m 17 #[.val (.ref wk), .val (.ref b301), .val (.int (2 : Int32))] [])) (fun t k => XS.icmpNo X321.here hx rfl (hb hby d6_14) rfl (tlt (by decide : ((2 : Int32) < (5 : Int32)))).2.1 k) ?_
              refine own_Fin.step (S' := T321.setTop (mkF m 18 #[.val (.ref wk), .val (.ref b301), .val (.int (2 : Int32))] [(.ref b301)])) (fun t k => XS.aloadN X321.here hx rfl (hb hby d6_17) rfl rfl  k) ?_
              refine own_Fin.step (S' := T321.setTop (mkF m 19 #[.val (.ref wk), .val (.ref b301), .val (.int (2 : Int32))] [(.int (2 : Int32)), (.ref b301)])) (fun t k => XS.iloadN X321.here hx rfl (hb hby d6_18) rfl  k) ?_
              refine own_Fin.step (S' := T321.setTop (mkF m 20 #[.val (.ref wk), .val (.ref b301), .val (.int (2 : Int32))] [(.ref wk), (.int (2 : Int32)), (.ref b301)])) (fun t k => XS.aloadN X321.here hx rfl (hb hby d6_19) rfl rfl  k) ?_
              have f322 : Fld Z h319 wk "com/example/methodical_checker/methodicalchecker/promela/Walk" "pending" "[I" (.ref a7) := (Fld.other W319 f313 (Or.inl (show @Ne Nat wk b301 from by omega)))
              obtain ⟨T323, X323, e323, st323⟩ := getF X321 hx hZ hown (host := "") (Or.inl (hw _ (List.mem_of_getElem? (i := 35) rfl))) Via.refl e321 f322 (g := (mkF m 20 #[.val (.ref wk), .val (.ref b301), .val (.int (2 : Int32))] [(.ref wk), (.int (2 : Int32)), (.ref b301)])) rfl rfl (hb hby d6_20)
              refine own_Fin.step (S' := T323.setTop (mkF m 23 #[.val (.ref wk), .val (.ref b301), .val (.int (2 : Int32))] [(.ref a7), (.int (2 : Int32)), (.ref b301)])) st323 ?_
              refine own_Fin.step (S' := T323.setTop (mkF m 24 #[.val (.ref wk), .val (.ref b301), .val (.int (2 : Int32))] [(.ref wk), (.ref a7), (.int (2 : Int32)), (.ref b301)])) (fun t k => XS.aloadN X323.here hx rfl (hb hby d6_23) rfl rfl  k) ?_
              obtain ⟨T324, X324, e324, st324⟩ := getF X323 hx hZ hown (host := "") (Or.inl (hw _ (List.mem_of_getElem? (i := 62) rfl))) Via.refl e323 f320 (g := (mkF m 24 #[.val (.ref wk), .val (.ref b301), .val (.int (2 : Int32))] [(.ref wk), (.ref a7), (.int (2 : Int32)), (.ref b301)])) rfl rfl (hb hby d6_24)
              refine own_Fin.step (S' := T324.setTop (mkF m 27 #[.val (.ref wk), .val (.ref b301), .val (.int (2 : Int32))] [(.int (5 : Int32)), (.ref a7), (.int (2 : Int32)), (.ref b301)])) st324 ?_
              refine own_Fin.step (S' := T324.setTop (mkF m 28 #[.val (.ref wk), .val (.ref b301), .val (.int (2 : Int32))] [(.int (1 : Int32)), (.int (5 : Int32)), (.ref a7), (.int (2 : Int32)), (.ref b301)])) (fun t k => XS.iconst X324.here hx rfl (hb hby d6_27) k) ?_
              refine own_Fin.step (S' := T324.setTop (mkF m 29 #[.val (.ref wk), .val (.ref b301), .val (.int (2 : Int32))] [(.int (4 : Int32)), (.ref a7), (.int (2 : Int32)), (.ref b301)])) (fun t k => XS.isub X324.here hx rfl (hb hby d6_28) rfl k) ?_
              refine own_Fin.step (S' := T324.setTop (mkF m 30 #[.val (.ref wk), .val (.ref b301), .val (.int (2 : Int32))] [(.int (2 : Int32)), (.int (4 : Int32)), (.ref a7), (.int (2 : Int32)), (.ref b301)])) (fun t k => XS.iloadN X324.here hx rfl (hb hby d6_29) rfl  k) ?_
              refine own_Fin.step (S' := T324.setTop (mkF m 31 #[.val (.ref wk), .val (.ref b301), .val (.int (2 : Int32))] [(.int (2 : Int32)), (.ref a7), (.int (2 : Int32)), (.ref b301)])) (fun t k => XS.isub X324.here hx rfl (hb hby d6_30) rfl k) ?_
              have f325 : Arv Z h319 a7 k7 .int (16 : Int32) v7 (.int (0 : Int32)) := (f316.other W319 (show @Ne Nat a7 b301 from by omega))
              obtain ⟨cl326, Ar326, q326, S326, N326z, Hs326, G326⟩ := id f325
              have hin326 : ¬ ((2 : Int32) < 0 ∨ cl326.slots.size ≤ ((2 : Int32)).toNatClampNeg) := inb_of S326 ⟨by decide, by decide⟩
              have hat326 : cl326.slots[((2 : Int32)).toNatClampNeg]? = some (.int q2) := Hs326.at hin326 hq2
              refine own_Fin.step (S' := T324.setTop (mkF m 32 #[.val (.ref wk), .val (.ref b301), .val (.int (2 : Int32))] [(.int q2), (.int (2 : Int32)), (.ref b301)])) (X324.iaload hx (j := (2 : Int32)) (v := (.int q2)) (by rw [e324]; exact Ar326.1) (State.isArrayOf_alike hZ.alike Ar326.2.1) Ar326.2.2 hin326 hat326 (g := (mkF m 31 #[.val (.ref wk), .val (.ref b301), .val (.int (2 : Int32))] [(.int (2 : Int32)), (.ref a7), (.int (2 : Int32)), (.ref b301)])) rfl rfl (hb hby d6_31)) ?_
              obtain ⟨cl327, Ar327, q327, S327, N327z, Hs327, G327⟩ := id V319
              have hin327 : ¬ ((2 : Int32) < 0 ∨ cl327.slots.size ≤ ((2 : Int32)).toNatClampNeg) := inb_of S327 ⟨by decide, by decide⟩
              obtain ⟨T328, h328, X328, e328, W328, st328⟩ := stI X324 hx hZ e324 Ar327 (j := (2 : Int32)) hin327 (g := (mkF m 32 #[.val (.ref wk), .val (.ref b301), .val (.int (2 : Int32))] [(.int q2), (.int (2 : Int32)), (.ref b301)])) rfl rfl (hb hby d6_32)
              have V328 : Arv Z h328 b301 k301 .int (5 : Int32) [(.int q4), (.int q3), (.int q2), (.int (0 : Int32)), (.int (0 : Int32))] (.int (0 : Int32)) := Arv.set Ar327 q327 S327 N327z Hs327 G327 rfl W328 2 rfl (Nat.le_of_ble_eq_true rfl)
              have z328 := W328.size
              have KK328 : Keep h0 h328 [] := KK319.wr W328 (Or.inr (by omega))
              have N328 := Fr.snoc X328 N319 (by omega)
              refine own_Fin.step (S' := T328.setTop (mkF m 33 #[.val (.ref wk), .val (.ref b301), .val (.int (2 : Int32))] [])) st328 ?_
              refine own_Fin.step (S' := T328.setTop (mkF m 36 #[.val (.ref wk), .val (.ref b301), .val (.int (3 : Int32))] [])) (fun t k => XS.iinc X328.here hx rfl (hb hby d6_33) rfl (l' := #[.val (.ref wk), .val (.ref b301), .val (.int (3 : Int32))]) rfl k) ?_
              as_aux_lemma =>
                refine own_Fin.step (S' := T328.setTop (mkF m 9 #[.val (.ref wk), .val (.ref b301), .val (.int (3 : Int32))] [])) (fun t k => XS.goto X328.here hx rfl (pc0 := 36) (pc' := 9) rfl (hb hby d6_36) (by decide) (by decide) k) ?_
                refine own_Fin.step (S' := T328.setTop (mkF m 10 #[.val (.ref wk), .val (.ref b301), .val (.int (3 : Int32))] [(.int (3 : Int32))])) (fun t k => XS.iloadN X328.here hx rfl (hb hby d6_9) rfl  k) ?_
                refine own_Fin.step (S' := T328.setTop (mkF m 11 #[.val (.ref wk), .val (.ref b301), .val (.int (3 : Int32))] [(.ref wk), (.int (3 : Int32))])) (fun t k => XS.aloadN X328.here hx rfl (hb hby d6_10) rfl rfl  k) ?_
                have f329 : Fld Z h328 wk "com/example/methodical_checker/methodicalchecker/promela/Walk" "pendingCount" "I" (.int (5 : Int32)) := (Fld.other W328 f320 (Or.inl (show @Ne Nat wk b301 from by omega)))
                obtain ⟨T330, X330, e330, st330⟩ := getF X328 hx hZ hown (host := "") (Or.inl (hw _ (List.mem_of_getElem? (i := 62) rfl))) Via.refl e328 f329 (g := (mkF m 11 #[.val (.ref wk), .val (.ref b301), .val (.int (3 : Int32))] [(.ref wk), (.int (3 : Int32))])) rfl rfl (hb hby d6_11)
                refine own_Fin.step (S' := T330.setTop (mkF m 14 #[.val (.ref wk), .val (.ref b301), .val (.int (3 : Int32))] [(.int (5 : Int32)), (.int (3 : Int32))])) st330 ?_
                refine own_Fin.step (S' := T330.setTop (mkF m 17 #[.val (.ref wk), .val (.ref b301), .val (.int (3 : Int32))] [])) (fun t k => XS.icmpNo X330.here hx rfl (hb hby d6_14) rfl (tlt (by decide : ((3 : Int32) < (5 : Int32)))).2.1 k) ?_
                refine own_Fin.step (S' := T330.setTop (mkF m 18 #[.val (.ref wk), .val (.ref b301), .val (.int (3 : Int32))] [(.ref b301)])) (fun t k => XS.aloadN X330.here hx rfl (hb hby d6_17) rfl rfl  k) ?_
                refine own_Fin.step (S' := T330.setTop (mkF m 19 #[.val (.ref wk), .val (.ref b301), .val (.int (3 : Int32))] [(.int (3 : Int32)), (.ref b301)])) (fun t k => XS.iloadN X330.here hx rfl (hb hby d6_18) rfl  k) ?_
                refine own_Fin.step (S' := T330.setTop (mkF m 20 #[.val (.ref wk), .val (.ref b301), .val (.int (3 : Int32))] [(.ref wk), (.int (3 : Int32)), (.ref b301)])) (fun t k => XS.aloadN X330.here hx rfl (hb hby d6_19) rfl rfl  k) ?_
                have f331 : Fld Z h328 wk "com/example/methodical_checker/methodicalchecker/promela/Walk" "pending" "[I" (.ref a7) := (Fld.other W328 f322 (Or.inl (show @Ne Nat wk b301 from by omega)))
                obtain ⟨T332, X332, e332, st332⟩ := getF X330 hx hZ hown (host := "") (Or.inl (hw _ (List.mem_of_getElem? (i := 35) rfl))) Via.refl e330 f331 (g := (mkF m 20 #[.val (.ref wk), .val (.ref b301), .val (.int (3 : Int32))] [(.ref wk), (.int (3 : Int32)), (.ref b301)])) rfl rfl (hb hby d6_20)
                refine own_Fin.step (S' := T332.setTop (mkF m 23 #[.val (.ref wk), .val (.ref b301), .val (.int (3 : Int32))] [(.ref a7), (.int (3 : Int32)), (.ref b301)])) st332 ?_
                refine own_Fin.step (S' := T332.setTop (mkF m 24 #[.val (.ref wk), .val (.ref b301), .val (.int (3 : Int32))] [(.ref wk), (.ref a7), (.int (3 : Int32)), (.ref b301)])) (fun t k => XS.aloadN X332.here hx rfl (hb hby d6_23) rfl rfl  k) ?_
                obtain ⟨T333, X333, e333, st333⟩ := getF X332 hx hZ hown (host := "") (Or.inl (hw _ (List.mem_of_getElem? (i := 62) rfl))) Via.refl e332 f329 (g := (mkF m 24 #[.val (.ref wk), .val (.ref b301), .val (.int (3 : Int32))] [(.ref wk), (.ref a7), (.int (3 : Int32)), (.ref b301)])) rfl rfl (hb hby d6_24)
                refine own_Fin.step (S' := T333.setTop (mkF m 27 #[.val (.ref wk), .val (.ref b301), .val (.int (3 : Int32))] [(.int (5 : Int32)), (.ref a7), (.int (3 : Int32)), (.ref b301)])) st333 ?_
                refine own_Fin.step (S' := T333.setTop (mkF m 28 #[.val (.ref wk), .val (.ref b301), .val (.int (3 : Int32))] [(.int (1 : Int32)), (.int (5 : Int32)), (.ref a7), (.int (3 : Int32)), (.ref b301)])) (fun t k => XS.iconst X333.here hx rfl (hb hby d6_27) k) ?_
                refine own_Fin.step (S' := T333.setTop (mkF m 29 #[.val (.ref wk), .val (.ref b301), .val (.int (3 : Int32))] [(.int (4 : Int32)), (.ref a7), (.int (3 : Int32)), (.ref b301)])) (fun t k => XS.isub X333.here hx rfl (hb hby d6_28) rfl k) ?_
                refine own_Fin.step (S' := T333.setTop (mkF m 30 #[.val (.ref wk), .val (.ref b301), .val (.int (3 : Int32))] [(.int (3 : Int32)), (.int (4 : Int32)), (.ref a7), (.int (3 : Int32)), (.ref b301)])) (fun t k => XS.iloadN X333.here hx rfl (hb hby d6_29) rfl  k) ?_
                refine own_Fin.step (S' := T333.setTop (mkF m 31 #[.val (.ref wk), .val (.ref b301), .val (.int (3 : Int32))] [(.int (1 : Int32)), (.ref a7), (.int (3 : Int32)), (.ref b301)])) (fun t k => XS.isub X333.here hx rfl (hb hby d6_30) rfl k) ?_
                have f334 : Arv Z h328 a7 k7 .int (16 : Int32) v7 (.int (0 : Int32)) := (f325.other W328 (show @Ne Nat a7 b301 from by omega))
                obtain ⟨cl335, Ar335, q335, S335, N335z, Hs335, G335⟩ := id f334
                have hin335 : ¬ ((1 : Int32) < 0 ∨ cl335.slots.size ≤ ((1 : Int32)).toNatClampNeg) := inb_of S335 ⟨by decide, by decide⟩
                have hat335 : cl335.slots[((1 : Int32)).toNatClampNeg]? = some (.int q1) := Hs335.at hin335 hq1
                refine own_Fin.step (S' := T333.setTop (mkF m 32 #[.val (.ref wk), .val (.ref b301), .val (.int (3 : Int32))] [(.int q1), (.int (3 : Int32)), (.ref b301)])) (X333.iaload hx (j := (1 : Int32)) (v := (.int q1)) (by rw [e333]; exact Ar335.1) (State.isArrayOf_alike hZ.alike Ar335.2.1) Ar335.2.2 hin335 hat335 (g := (mkF m 31 #[.val (.ref wk), .val (.ref b301), .val (.int (3 : Int32))] [(.int (1 : Int32)), (.ref a7), (.int (3 : Int32)), (.ref b301)])) rfl rfl (hb hby d6_31)) ?_
                obtain ⟨cl336, Ar336, q336, S336, N336z, Hs336, G336⟩ := id V328
                have hin336 : ¬ ((3 : Int32) < 0 ∨ cl336.slots.size ≤ ((3 : Int32)).toNatClampNeg) := inb_of S336 ⟨by decide, by decide⟩
                obtain ⟨T337, h337, X337, e337, W337, st337⟩ := stI X333 hx hZ e333 Ar336 (j := (3 : Int32)) hin336 (g := (mkF m 32 #[.val (.ref wk), .val (.ref b301), .val (.int (3 : Int32))] [(.int q1), (.int (3 : Int32)), (.ref b301)])) rfl rfl (hb hby d6_32)
                have V337 : Arv Z h337 b301 k301 .int (5 : Int32) [(.int q4), (.int q3), (.int q2), (.int q1), (.int (0 : Int32))] (.int (0 : Int32)) := Arv.set Ar336 q336 S336 N336z Hs336 G336 rfl W337 3 rfl (Nat.le_of_ble_eq_true rfl)
                have z337 := W337.size
                have KK337 : Keep h0 h337 [] := KK328.wr W337 (Or.inr (by omega))
                have N337 := Fr.snoc X337 N328 (by omega)
                refine own_Fin.step (S' := T337.setTop (mkF m 33 #[.val (.ref wk), .val (.ref b301), .val (.int (3 : Int32))] [])) st337 ?_
                refine own_Fin.step (S' := T337.setTop (mkF m 36 #[.val (.ref wk), .val (.ref b301), .val (.int (4 : Int32))] [])) (fun t k => XS.iinc X337.here hx rfl (hb hby d6_33) rfl (l' := #[.val (.ref wk), .val (.ref b301), .val (.int (4 : Int32))]) rfl k) ?_
                refine own_Fin.step (S' := T337.setTop (mkF m 9 #[.val (.ref wk), .val (.ref b301), .val (.int (4 : Int32))] [])) (fun t k => XS.goto X337.here hx rfl (pc0 := 36) (pc' := 9) rfl (hb hby d6_36) (by decide) (by decide) k) ?_
                refine own_Fin.step (S' := T337.setTop (mkF m 10 #[.val (.ref wk), .val (.ref b301), .val (.int (4 : Int32))] [(.int (4 : Int32))])) (fun t k => XS.iloadN X337.here hx rfl (hb hby d6_9) rfl  k) ?_
                refine own_Fin.step (S' := T337.setTop (mkF m 11 #[.val (.ref wk), .val (.ref b301), .val (.int (4 : Int32))] [(.ref wk), (.int (4 : Int32))])) (fun t k => XS.aloadN X337.here hx rfl (hb hby d6_10) rfl rfl  k) ?_
                have f338 : Fld Z h337 wk "com/example/methodical_checker/methodicalchecker/promela/Walk" "pendingCount" "I" (.int (5 : Int32)) := (Fld.other W337 f329 (Or.inl (show @Ne Nat wk b301 from by omega)))
                obtain ⟨T339, X339, e339, st339⟩ := getF X337 hx hZ hown (host := "") (Or.inl (hw _ (List.mem_of_getElem? (i := 62) rfl))) Via.refl e337 f338 (g := (mkF m 11 #[.val (.ref wk), .val (.ref b301), .val (.int (4 : Int32))] [(.ref wk), (.int (4 : Int32))])) rfl rfl (hb hby d6_11)
                refine own_Fin.step (S' := T339.setTop (mkF m 14 #[.val (.ref wk), .val (.ref b301), .val (.int (4 : Int32))] [(.int (5 : Int32)), (.int (4 : Int32))])) st339 ?_
                refine own_Fin.step (S' := T339.setTop (mkF m 17 #[.val (.ref wk), .val (.ref b301), .val (.int (4 : Int32))] [])) (fun t k => XS.icmpNo X339.here hx rfl (hb hby d6_14) rfl (tlt (by decide : ((4 : Int32) < (5 : Int32)))).2.1 k) ?_
                refine own_Fin.step (S' := T339.setTop (mkF m 18 #[.val (.ref wk), .val (.ref b301), .val (.int (4 : Int32))] [(.ref b301)])) (fun t k => XS.aloadN X339.here hx rfl (hb hby d6_17) rfl rfl  k) ?_
                refine own_Fin.step (S' := T339.setTop (mkF m 19 #[.val (.ref wk), .val (.ref b301), .val (.int (4 : Int32))] [(.int (4 : Int32)), (.ref b301)])) (fun t k => XS.iloadN X339.here hx rfl (hb hby d6_18) rfl  k) ?_
                refine own_Fin.step (S' := T339.setTop (mkF m 20 #[.val (.ref wk), .val (.ref b301), .val (.int (4 : Int32))] [(.ref wk), (.int (4 : Int32)), (.ref b301)])) (fun t k => XS.aloadN X339.here hx rfl (hb hby d6_19) rfl rfl  k) ?_
                have f340 : Fld Z h337 wk "com/example/methodical_checker/methodicalchecker/promela/Walk" "pending" "[I" (.ref a7) := (Fld.other W337 f331 (Or.inl (show @Ne Nat wk b301 from by omega)))
                obtain ⟨T341, X341, e341, st341⟩ := getF X339 hx hZ hown (host := "") (Or.inl (hw _ (List.mem_of_getElem? (i := 35) rfl))) Via.refl e339 f340 (g := (mkF m 20 #[.val (.ref wk), .val (.ref b301), .val (.int (4 : Int32))] [(.ref wk), (.int (4 : Int32)), (.ref b301)])) rfl rfl (hb hby d6_20)
                refine own_Fin.step (S' := T341.setTop (mkF m 23 #[.val (.ref wk), .val (.ref b301), .val (.int (4 : Int32))] [(.ref a7), (.int (4 : Int32)), (.ref b301)])) st341 ?_
                refine own_Fin.step (S' := T341.setTop (mkF m 24 #[.val (.ref wk), .val (.ref b301), .val (.int (4 : Int32))] [(.ref wk), (.ref a7), (.int (4 : Int32)), (.ref b301)])) (fun t k => XS.aloadN X341.here hx rfl (hb hby d6_23) rfl rfl  k) ?_
                obtain ⟨T342, X342, e342, st342⟩ := getF X341 hx hZ hown (host := "") (Or.inl (hw _ (List.mem_of_getElem? (i := 62) rfl))) Via.refl e341 f338 (g := (mkF m 24 #[.val (.ref wk), .val (.ref b301), .val (.int (4 : Int32))] [(.ref wk), (.ref a7), (.int (4 : Int32)), (.ref b301)])) rfl rfl (hb hby d6_24)
                refine own_Fin.step (S' := T342.setTop (mkF m 27 #[.val (.ref wk), .val (.ref b301), .val (.int (4 : Int32))] [(.int (5 : Int32)), (.ref a7), (.int (4 : Int32)), (.ref b301)])) st342 ?_
                refine own_Fin.step (S' := T342.setTop (mkF m 28 #[.val (.ref wk), .val (.ref b301), .val (.int (4 : Int32))] [(.int (1 : Int32)), (.int (5 : Int32)), (.ref a7), (.int (4 : Int32)), (.ref b301)])) (fun t k => XS.iconst X342.here hx rfl (hb hby d6_27) k) ?_
                refine own_Fin.step (S' := T342.setTop (mkF m 29 #[.val (.ref wk), .val (.ref b301), .val (.int (4 : Int32))] [(.int (4 : Int32)), (.ref a7), (.int (4 : Int32)), (.ref b301)])) (fun t k => XS.isub X342.here hx rfl (hb hby d6_28) rfl k) ?_
                refine own_Fin.step (S' := T342.setTop (mkF m 30 #[.val (.ref wk), .val (.ref b301), .val (.int (4 : Int32))] [(.int (4 : Int32)), (.int (4 : Int32)), (.ref a7), (.int (4 : Int32)), (.ref b301)])) (fun t k => XS.iloadN X342.here hx rfl (hb hby d6_29) rfl  k) ?_
                refine own_Fin.step (S' := T342.setTop (mkF m 31 #[.val (.ref wk), .val (.ref b301), .val (.int (4 : Int32))] [(.int (0 : Int32)), (.ref a7), (.int (4 : Int32)), (.ref b301)])) (fun t k => XS.isub X342.here hx rfl (hb hby d6_30) rfl k) ?_
                have f343 : Arv Z h337 a7 k7 .int (16 : Int32) v7 (.int (0 : Int32)) := (f334.other W337 (show @Ne Nat a7 b301 from by omega))
                obtain ⟨cl344, Ar344, q344, S344, N344z, Hs344, G344⟩ := id f343
                have hin344 : ¬ ((0 : Int32) < 0 ∨ cl344.slots.size ≤ ((0 : Int32)).toNatClampNeg) := inb_of S344 ⟨by decide, by decide⟩
                have hat344 : cl344.slots[((0 : Int32)).toNatClampNeg]? = some (.int q0) := Hs344.at hin344 hq0
                refine own_Fin.step (S' := T342.setTop (mkF m 32 #[.val (.ref wk), .val (.ref b301), .val (.int (4 : Int32))] [(.int q0), (.int (4 : Int32)), (.ref b301)])) (X342.iaload hx (j := (0 : Int32)) (v := (.int q0)) (by rw [e342]; exact Ar344.1) (State.isArrayOf_alike hZ.alike Ar344.2.1) Ar344.2.2 hin344 hat344 (g := (mkF m 31 #[.val (.ref wk), .val (.ref b301), .val (.int (4 : Int32))] [(.int (0 : Int32)), (.ref a7), (.int (4 : Int32)), (.ref b301)])) rfl rfl (hb hby d6_31)) ?_
                obtain ⟨cl345, Ar345, q345, S345, N345z, Hs345, G345⟩ := id V337
                have hin345 : ¬ ((4 : Int32) < 0 ∨ cl345.slots.size ≤ ((4 : Int32)).toNatClampNeg) := inb_of S345 ⟨by decide, by decide⟩
                obtain ⟨T346, h346, X346, e346, W346, st346⟩ := stI X342 hx hZ e342 Ar345 (j := (4 : Int32)) hin345 (g := (mkF m 32 #[.val (.ref wk), .val (.ref b301), .val (.int (4 : Int32))] [(.int q0), (.int (4 : Int32)), (.ref b301)])) rfl rfl (hb hby d6_32)
                have V346 : Arv Z h346 b301 k301 .int (5 : Int32) [(.int q4), (.int q3), (.int q2), (.int q1), (.int q0)] (.int (0 : Int32)) := Arv.set Ar345 q345 S345 N345z Hs345 G345 rfl W346 4 rfl (Nat.le_of_ble_eq_true rfl)
                have z346 := W346.size
                have KK346 : Keep h0 h346 [] := KK337.wr W346 (Or.inr (by omega))
                have N346 := Fr.snoc X346 N337 (by omega)
                refine own_Fin.step (S' := T346.setTop (mkF m 33 #[.val (.ref wk), .val (.ref b301), .val (.int (4 : Int32))] [])) st346 ?_
                refine own_Fin.step (S' := T346.setTop (mkF m 36 #[.val (.ref wk), .val (.ref b301), .val (.int (5 : Int32))] [])) (fun t k => XS.iinc X346.here hx rfl (hb hby d6_33) rfl (l' := #[.val (.ref wk), .val (.ref b301), .val (.int (5 : Int32))]) rfl k) ?_
                refine own_Fin.step (S' := T346.setTop (mkF m 9 #[.val (.ref wk), .val (.ref b301), .val (.int (5 : Int32))] [])) (fun t k => XS.goto X346.here hx rfl (pc0 := 36) (pc' := 9) rfl (hb hby d6_36) (by decide) (by decide) k) ?_
                refine own_Fin.step (S' := T346.setTop (mkF m 10 #[.val (.ref wk), .val (.ref b301), .val (.int (5 : Int32))] [(.int (5 : Int32))])) (fun t k => XS.iloadN X346.here hx rfl (hb hby d6_9) rfl  k) ?_
                refine own_Fin.step (S' := T346.setTop (mkF m 11 #[.val (.ref wk), .val (.ref b301), .val (.int (5 : Int32))] [(.ref wk), (.int (5 : Int32))])) (fun t k => XS.aloadN X346.here hx rfl (hb hby d6_10) rfl rfl  k) ?_
                have f347 : Fld Z h346 wk "com/example/methodical_checker/methodicalchecker/promela/Walk" "pendingCount" "I" (.int (5 : Int32)) := (Fld.other W346 f338 (Or.inl (show @Ne Nat wk b301 from by omega)))
                obtain ⟨T348, X348, e348, st348⟩ := getF X346 hx hZ hown (host := "") (Or.inl (hw _ (List.mem_of_getElem? (i := 62) rfl))) Via.refl e346 f347 (g := (mkF m 11 #[.val (.ref wk), .val (.ref b301), .val (.int (5 : Int32))] [(.ref wk), (.int (5 : Int32))])) rfl rfl (hb hby d6_11)
                refine own_Fin.step (S' := T348.setTop (mkF m 14 #[.val (.ref wk), .val (.ref b301), .val (.int (5 : Int32))] [(.int (5 : Int32)), (.int (5 : Int32))])) st348 ?_
                refine own_Fin.step (S' := T348.setTop (mkF m 39 #[.val (.ref wk), .val (.ref b301), .val (.int (5 : Int32))] [])) (fun t k => XS.icmpYes X348.here hx rfl (pc0 := 14) (pc' := 39) rfl (hb hby d6_14) rfl (flt (by decide : ¬ ((5 : Int32) < (5 : Int32)))).2.1 (by decide) (by decide) k) ?_
                refine own_Fin.step (S' := T348.setTop (mkF m 40 #[.val (.ref wk), .val (.ref b301), .val (.int (5 : Int32))] [(.ref b301)])) (fun t k => XS.aloadN X348.here hx rfl (hb hby d6_39) rfl rfl  k) ?_
                have hq349 : Q6 Z wk wc [q0, q1, q2, q3, q4] h0 n0 (some (.ref b301)) h346 _ := ⟨b301, k301, rfl, N346, KK346, (own_WKkeep KK346 P0), V346, (by first | omega | assumption)⟩
                exact own_retR X348 hx hlk (w := (.ref b301)) rfl hrt rfl (hb hby d6_40) e348 hq349 (by decide) (by decide)
            · exact absurd hps (by simp only [List.length_cons]; omega)
def own_e (iv n1 pp n2 : Int32) : Int32 := if iv < n2 then (((n1 + n2) - (1 : Int32)) - iv) else (((n1 - pp) - (1 : Int32)) - (iv - n2))

theorem d7_0 : decode method_4_code 0 = .ok (.iload_n 2, 1) := by decide +kernel
theorem d7_1 : decode method_4_code 1 = .ok (.iload_n 3, 1) := by decide +kernel
theorem d7_2 : decode method_4_code 2 = .ok (.if_icmp .lt 5, 3) := by decide +kernel
theorem d7_5 : decode method_4_code 5 = .ok (.iconst 1, 1) := by decide +kernel
theorem d7_6 : decode method_4_code 6 = .ok (.ireturn, 1) := by decide +kernel
theorem d7_7 : decode method_4_code 7 = .ok (.iload_n 2, 1) := by decide +kernel
theorem d7_8 : decode method_4_code 8 = .ok (.iload 6, 2) := by decide +kernel
theorem d7_10 : decode method_4_code 10 = .ok (.if_icmp .ge 17, 3) := by decide +kernel
theorem d7_13 : decode method_4_code 13 = .ok (.iload 4, 2) := by decide +kernel
theorem d7_15 : decode method_4_code 15 = .ok (.iload 6, 2) := by decide +kernel
theorem d7_17 : decode method_4_code 17 = .ok (.iadd, 1) := by decide +kernel
theorem d7_18 : decode method_4_code 18 = .ok (.iconst 1, 1) := by decide +kernel
theorem d7_19 : decode method_4_code 19 = .ok (.isub, 1) := by decide +kernel
theorem d7_20 : decode method_4_code 20 = .ok (.iload_n 2, 1) := by decide +kernel
theorem d7_21 : decode method_4_code 21 = .ok (.isub, 1) := by decide +kernel
theorem d7_22 : decode method_4_code 22 = .ok (.istore 7, 2) := by decide +kernel
theorem d7_24 : decode method_4_code 24 = .ok (.goto 17, 3) := by decide +kernel
theorem d7_27 : decode method_4_code 27 = .ok (.iload 4, 2) := by decide +kernel
theorem d7_29 : decode method_4_code 29 = .ok (.iload 5, 2) := by decide +kernel
theorem d7_31 : decode method_4_code 31 = .ok (.isub, 1) := by decide +kernel
theorem d7_32 : decode method_4_code 32 = .ok (.iconst 1, 1) := by decide +kernel
theorem d7_33 : decode method_4_code 33 = .ok (.isub, 1) := by decide +kernel
theorem d7_34 : decode method_4_code 34 = .ok (.iload_n 2, 1) := by decide +kernel
theorem d7_35 : decode method_4_code 35 = .ok (.iload 6, 2) := by decide +kernel
theorem d7_37 : decode method_4_code 37 = .ok (.isub, 1) := by decide +kernel
theorem d7_38 : decode method_4_code 38 = .ok (.isub, 1) := by decide +kernel
theorem d7_39 : decode method_4_code 39 = .ok (.istore 7, 2) := by decide +kernel
theorem d7_41 : decode method_4_code 41 = .ok (.aload_n 0, 1) := by decide +kernel
theorem d7_42 : decode method_4_code 42 = .ok (.iload_n 2, 1) := by decide +kernel
theorem d7_43 : decode method_4_code 43 = .ok (.iaload, 1) := by decide +kernel
theorem d7_44 : decode method_4_code 44 = .ok (.iload 7, 2) := by decide +kernel
theorem d7_46 : decode method_4_code 46 = .ok (.if_icmp .ne 15, 3) := by decide +kernel
theorem d7_49 : decode method_4_code 49 = .ok (.aload_n 1, 1) := by decide +kernel
theorem d7_50 : decode method_4_code 50 = .ok (.iload_n 2, 1) := by decide +kernel
theorem d7_51 : decode method_4_code 51 = .ok (.iaload, 1) := by decide +kernel
theorem d7_52 : decode method_4_code 52 = .ok (.iload 7, 2) := by decide +kernel
theorem d7_54 : decode method_4_code 54 = .ok (.if_icmp .ne 7, 3) := by decide +kernel
theorem d7_57 : decode method_4_code 57 = .ok (.iconst 1, 1) := by decide +kernel
theorem d7_58 : decode method_4_code 58 = .ok (.goto 4, 3) := by decide +kernel
theorem d7_62 : decode method_4_code 62 = .ok (.ireturn, 1) := by decide +kernel
theorem pn_7 : plainName "com/example/methodical_checker/methodicalchecker/promela/WalkPendingInOrderPinLaw" = true := by first | (simp [plainName, overriddenIn]; done) | decide +kernel
theorem ef_7 (m : MethodId) (x0 : Addr) (x1 : Addr) (x2 : Int32) (x3 : Int32) (x4 : Int32) (x5 : Int32) (x6 : Int32) : entryFrame m #[(.ref x0), (.ref x1), (.int x2), (.int x3), (.int x4), (.int x5), (.int x6)] 8 = mkF m 0 #[.val (.ref x0), .val (.ref x1), .val (.int x2), .val (.int x3), .val (.int x4), .val (.int x5), .val (.int x6), .unset] [] := by first | (simp [entryFrame, mkF, argsToLocals, Value.category]; done) | rfl
def Q7 (Z : State) (ga : Addr) (ag : Addr) (iv : Int32) (ln : Int32) (n1 : Int32) (pp : Int32) (n2 : Int32) (kg : ClassId) (kh : ClassId) (zg : Int32) (zh : Int32) (vg : List Value) (vh : List Value) (h0 : Heap) (n0 : Nat) (v : Option Value) (h : Heap) (L : List Loc) : Prop := v = some (.int (1 : Int32)) ∧ Fr n0 L ∧ h = h0
set_option maxRecDepth 65536 in
set_option maxHeartbeats 40000000 in
theorem rm7 (l : Launch) (Z : State) (a0 : Array Value) (hw : ∀ d ∈ tables_1, d.before a0 Z = true) (ws : List Jvm.Cond) (ga : Addr) (ag : Addr) (iv : Int32) (ln : Int32) (n1 : Int32) (pp : Int32) (n2 : Int32) (kg : ClassId) (kh : ClassId) (zg : Int32) (zh : Int32) (vg : List Value) (vh : List Value) (h0 : Heap) (n0 : Nat) (Z0 : n0 ≤ h0.size) (P0 : Arv Z h0 ga kg .int zg vg (.int (0 : Int32))) (P1 : Arv Z h0 ag kh .int zh vh (.int (0 : Int32))) (hE : iv < ln → (¬ iv < 0 ∧ iv < zg ∧ iv < zh ∧ vg.getD iv.toNatClampNeg (.int (0 : Int32)) = .int (own_e iv n1 pp n2) ∧ vh.getD iv.toNatClampNeg (.int (0 : Int32)) = .int (own_e iv n1 pp n2))) :
    MetFree l (⟨"com/example/methodical_checker/methodicalchecker/promela/WalkPendingInOrderPinLaw", "at", "([I[IIIIII)Z"⟩ : MethodName) (head1 (Jvm.Cond.code (⟨"com/example/methodical_checker/methodicalchecker/promela/WalkPendingInOrderPinLaw", "at", "([I[IIIIII)Z"⟩ : MethodName) method_4_code 8 (some .boolean) :: ws) ({ frames := 0, cells := 0, slots := 0, locals := 0 } : Room)) (fun a U => a = #[(.ref ga), (.ref ag), (.int iv), (.int ln), (.int n1), (.int pp), (.int n2)] ∧ Z.Warmed39 U.vm ∧ U.heap = h0) (fun _ _ _ _ _ => True) (fun _ U o U' => ∃ v L, o = .returned v ∧ Q7 Z ga ag iv ln n1 pp n2 kg kh zg zh vg vh h0 n0 v U'.heap L ∧ FrameEnd U o U' L ({ frames := 0, cells := 0, slots := 0, locals := 0 } : Room).cells ({ frames := 0, cells := 0, slots := 0, locals := 0 } : Room).slots) := by
  refine MetFree.of_bodySF (plainFor_of_name pn_7) hisR ?_
  intro p e s m args below meth c s₁ Bd hml0 hP hK
  obtain ⟨rfl, hZ, hh⟩ := hP
  have hx := Bd.exec
  have hby := Bd.bytes
  have hml : c.maxLocals = 8 := hml0
  have hown : s.vm.findClass "com/example/methodical_checker/methodicalchecker/promela/WalkPendingInOrderPinLaw" = some m.cls := findClass_of_methodNamed Bd.named
  have hnm := (name_of_methodNamed Bd.named Bd.method).1
  have hlk : meth.locks = false := BodyLoose.notSynchronized Bd
  have hrt := Bd.returns
  have X0 : Stand p l e ({ frames := 0, cells := 0, slots := 0, locals := 0 } : Room) s m #[(.ref ga), (.ref ag), (.int iv), (.int ln), (.int n1), (.int pp), (.int n2)] below meth c s₁ [] 0 0 := Stand.of_body Bd
  have e0 : s₁.heap = h0 := by rw [← hh, Bd.state]; rfl
  have N0 := Fr.nil n0
  show own_Fin p.tables e below (own_post (Q7 Z ga ag iv ln n1 pp n2 kg kh zg zh vg vh h0 n0) s ({ frames := 0, cells := 0, slots := 0, locals := 0 } : Room).cells ({ frames := 0, cells := 0, slots := 0, locals := 0 } : Room).slots) (s₁.setTop (entryFrame m #[(.ref ga), (.ref ag), (.int iv), (.int ln), (.int n1), (.int pp), (.int n2)] 8))
  refine own_Fin.step (fun t k => castTop (ef_7 m ga ag iv ln n1 pp n2) k) ?_
  have lt_P0 : @LT.lt Nat _ ga (Array.size h0) := P0.lt
  have lt_P1 : @LT.lt Nat _ ag (Array.size h0) := P1.lt
  refine own_Fin.step (S' := s₁.setTop (mkF m 1 #[.val (.ref ga), .val (.ref ag), .val (.int iv), .val (.int ln), .val (.int n1), .val (.int pp), .val (.int n2), .unset] [(.int iv)])) (fun t k => XS.iloadN X0.here hx rfl (hb hby d7_0) rfl  k) ?_
  refine own_Fin.step (S' := s₁.setTop (mkF m 2 #[.val (.ref ga), .val (.ref ag), .val (.int iv), .val (.int ln), .val (.int n1), .val (.int pp), .val (.int n2), .unset] [(.int ln), (.int iv)])) (fun t k => XS.iloadN X0.here hx rfl (hb hby d7_1) rfl  k) ?_
  by_cases hc2 : iv < ln
  · refine own_Fin.step (S' := s₁.setTop (mkF m 7 #[.val (.ref ga), .val (.ref ag), .val (.int iv), .val (.int ln), .val (.int n1), .val (.int pp), .val (.int n2), .unset] [])) (fun t k => XS.icmpYes X0.here hx rfl (pc0 := 2) (pc' := 7) rfl (hb hby d7_2) rfl (tlt hc2).1 (by decide) (by decide) k) ?_
    refine own_Fin.step (S' := s₁.setTop (mkF m 8 #[.val (.ref ga), .val (.ref ag), .val (.int iv), .val (.int ln), .val (.int n1), .val (.int pp), .val (.int n2), .unset] [(.int iv)])) (fun t k => XS.iloadN X0.here hx rfl (hb hby d7_7) rfl  k) ?_
    refine own_Fin.step (S' := s₁.setTop (mkF m 10 #[.val (.ref ga), .val (.ref ag), .val (.int iv), .val (.int ln), .val (.int n1), .val (.int pp), .val (.int n2), .unset] [(.int n2), (.int iv)])) (fun t k => XS.iload X0.here hx rfl (hb hby d7_8) rfl  k) ?_
    by_cases hc10 : iv < n2
    · refine own_Fin.step (S' := s₁.setTop (mkF m 13 #[.val (.ref ga), .val (.ref ag), .val (.int iv), .val (.int ln), .val (.int n1), .val (.int pp), .val (.int n2), .unset] [])) (fun t k => XS.icmpNo X0.here hx rfl (hb hby d7_10) rfl (tlt hc10).2.1 k) ?_
      refine own_Fin.step (S' := s₁.setTop (mkF m 15 #[.val (.ref ga), .val (.ref ag), .val (.int iv), .val (.int ln), .val (.int n1), .val (.int pp), .val (.int n2), .unset] [(.int n1)])) (fun t k => XS.iload X0.here hx rfl (hb hby d7_13) rfl  k) ?_
      refine own_Fin.step (S' := s₁.setTop (mkF m 17 #[.val (.ref ga), .val (.ref ag), .val (.int iv), .val (.int ln), .val (.int n1), .val (.int pp), .val (.int n2), .unset] [(.int n2), (.int n1)])) (fun t k => XS.iload X0.here hx rfl (hb hby d7_15) rfl  k) ?_
      refine own_Fin.step (S' := s₁.setTop (mkF m 18 #[.val (.ref ga), .val (.ref ag), .val (.int iv), .val (.int ln), .val (.int n1), .val (.int pp), .val (.int n2), .unset] [(.int (n1 + n2))])) (fun t k => XS.iadd X0.here hx rfl (hb hby d7_17) rfl k) ?_
      refine own_Fin.step (S' := s₁.setTop (mkF m 19 #[.val (.ref ga), .val (.ref ag), .val (.int iv), .val (.int ln), .val (.int n1), .val (.int pp), .val (.int n2), .unset] [(.int (1 : Int32)), (.int (n1 + n2))])) (fun t k => XS.iconst X0.here hx rfl (hb hby d7_18) k) ?_
      refine own_Fin.step (S' := s₁.setTop (mkF m 20 #[.val (.ref ga), .val (.ref ag), .val (.int iv), .val (.int ln), .val (.int n1), .val (.int pp), .val (.int n2), .unset] [(.int ((n1 + n2) - (1 : Int32)))])) (fun t k => XS.isub X0.here hx rfl (hb hby d7_19) rfl k) ?_
      refine own_Fin.step (S' := s₁.setTop (mkF m 21 #[.val (.ref ga), .val (.ref ag), .val (.int iv), .val (.int ln), .val (.int n1), .val (.int pp), .val (.int n2), .unset] [(.int iv), (.int ((n1 + n2) - (1 : Int32)))])) (fun t k => XS.iloadN X0.here hx rfl (hb hby d7_20) rfl  k) ?_
      refine own_Fin.step (S' := s₁.setTop (mkF m 22 #[.val (.ref ga), .val (.ref ag), .val (.int iv), .val (.int ln), .val (.int n1), .val (.int pp), .val (.int n2), .unset] [(.int (((n1 + n2) - (1 : Int32)) - iv))])) (fun t k => XS.isub X0.here hx rfl (hb hby d7_21) rfl k) ?_
      obtain ⟨v22, hv22⟩ : ∃ z : Int32, z = (((n1 + n2) - (1 : Int32)) - iv) := ⟨_, rfl⟩
      rw [← hv22]
      refine own_Fin.step (S' := s₁.setTop (mkF m 24 #[.val (.ref ga), .val (.ref ag), .val (.int iv), .val (.int ln), .val (.int n1), .val (.int pp), .val (.int n2), .val (.int v22)] [])) (fun t k => XS.istore X0.here hx rfl (hb hby d7_22) rfl (l' := #[.val (.ref ga), .val (.ref ag), .val (.int iv), .val (.int ln), .val (.int n1), .val (.int pp), .val (.int n2), .val (.int v22)]) rfl k) ?_
      refine own_Fin.step (S' := s₁.setTop (mkF m 41 #[.val (.ref ga), .val (.ref ag), .val (.int iv), .val (.int ln), .val (.int n1), .val (.int pp), .val (.int n2), .val (.int v22)] [])) (fun t k => XS.goto X0.here hx rfl (pc0 := 24) (pc' := 41) rfl (hb hby d7_24) (by decide) (by decide) k) ?_
      refine own_Fin.step (S' := s₁.setTop (mkF m 42 #[.val (.ref ga), .val (.ref ag), .val (.int iv), .val (.int ln), .val (.int n1), .val (.int pp), .val (.int n2), .val (.int v22)] [(.ref ga)])) (fun t k => XS.aloadN X0.here hx rfl (hb hby d7_41) rfl rfl  k) ?_
      refine own_Fin.step (S' := s₁.setTop (mkF m 43 #[.val (.ref ga), .val (.ref ag), .val (.int iv), .val (.int ln), .val (.int n1), .val (.int pp), .val (.int n2), .val (.int v22)] [(.int iv), (.ref ga)])) (fun t k => XS.iloadN X0.here hx rfl (hb hby d7_42) rfl  k) ?_
      obtain ⟨cl350, Ar350, q350, S350, N350z, Hs350, G350⟩ := id P0
      have hin350 : ¬ (iv < 0 ∨ cl350.slots.size ≤ (iv).toNatClampNeg) := inb_of S350 ⟨(hE hc2).1, (hE hc2).2.1⟩
      have hat350 : cl350.slots[(iv).toNatClampNeg]? = some (.int (own_e iv n1 pp n2)) := Hs350.at hin350 (hE hc2).2.2.2.1
      refine own_Fin.step (S' := s₁.setTop (mkF m 44 #[.val (.ref ga), .val (.ref ag), .val (.int iv), .val (.int ln), .val (.int n1), .val (.int pp), .val (.int n2), .val (.int v22)] [(.int (own_e iv n1 pp n2))])) (X0.iaload hx (j := iv) (v := (.int (own_e iv n1 pp n2))) (by rw [e0]; exact Ar350.1) (State.isArrayOf_alike hZ.alike Ar350.2.1) Ar350.2.2 hin350 hat350 (g := (mkF m 43 #[.val (.ref ga), .val (.ref ag), .val (.int iv), .val (.int ln), .val (.int n1), .val (.int pp), .val (.int n2), .val (.int v22)] [(.int iv), (.ref ga)])) rfl rfl (hb hby d7_43)) ?_
      refine own_Fin.step (S' := s₁.setTop (mkF m 46 #[.val (.ref ga), .val (.ref ag), .val (.int iv), .val (.int ln), .val (.int n1), .val (.int pp), .val (.int n2), .val (.int v22)] [(.int v22), (.int (own_e iv n1 pp n2))])) (fun t k => XS.iload X0.here hx rfl (hb hby d7_44) rfl  k) ?_
      refine own_Fin.step (S' := s₁.setTop (mkF m 49 #[.val (.ref ga), .val (.ref ag), .val (.int iv), .val (.int ln), .val (.int n1), .val (.int pp), .val (.int n2), .val (.int v22)] [])) (fun t k => XS.icmpNo X0.here hx rfl (hb hby d7_46) rfl (teq (by rw [own_e, if_pos hc10]; exact hv22.symm)).2 k) ?_
      refine own_Fin.step (S' := s₁.setTop (mkF m 50 #[.val (.ref ga), .val (.ref ag), .val (.int iv), .val (.int ln), .val (.int n1), .val (.int pp), .val (.int n2), .val (.int v22)] [(.ref ag)])) (fun t k => XS.aloadN X0.here hx rfl (hb hby d7_49) rfl rfl  k) ?_
      refine own_Fin.step (S' := s₁.setTop (mkF m 51 #[.val (.ref ga), .val (.ref ag), .val (.int iv), .val (.int ln), .val (.int n1), .val (.int pp), .val (.int n2), .val (.int v22)] [(.int iv), (.ref ag)])) (fun t k => XS.iloadN X0.here hx rfl (hb hby d7_50) rfl  k) ?_
      obtain ⟨cl351, Ar351, q351, S351, N351z, Hs351, G351⟩ := id P1
      have hin351 : ¬ (iv < 0 ∨ cl351.slots.size ≤ (iv).toNatClampNeg) := inb_of S351 ⟨(hE hc2).1, (hE hc2).2.2.1⟩
      have hat351 : cl351.slots[(iv).toNatClampNeg]? = some (.int (own_e iv n1 pp n2)) := Hs351.at hin351 (hE hc2).2.2.2.2
      refine own_Fin.step (S' := s₁.setTop (mkF m 52 #[.val (.ref ga), .val (.ref ag), .val (.int iv), .val (.int ln), .val (.int n1), .val (.int pp), .val (.int n2), .val (.int v22)] [(.int (own_e iv n1 pp n2))])) (X0.iaload hx (j := iv) (v := (.int (own_e iv n1 pp n2))) (by rw [e0]; exact Ar351.1) (State.isArrayOf_alike hZ.alike Ar351.2.1) Ar351.2.2 hin351 hat351 (g := (mkF m 51 #[.val (.ref ga), .val (.ref ag), .val (.int iv), .val (.int ln), .val (.int n1), .val (.int pp), .val (.int n2), .val (.int v22)] [(.int iv), (.ref ag)])) rfl rfl (hb hby d7_51)) ?_
      refine own_Fin.step (S' := s₁.setTop (mkF m 54 #[.val (.ref ga), .val (.ref ag), .val (.int iv), .val (.int ln), .val (.int n1), .val (.int pp), .val (.int n2), .val (.int v22)] [(.int v22), (.int (own_e iv n1 pp n2))])) (fun t k => XS.iload X0.here hx rfl (hb hby d7_52) rfl  k) ?_
      refine own_Fin.step (S' := s₁.setTop (mkF m 57 #[.val (.ref ga), .val (.ref ag), .val (.int iv), .val (.int ln), .val (.int n1), .val (.int pp), .val (.int n2), .val (.int v22)] [])) (fun t k => XS.icmpNo X0.here hx rfl (hb hby d7_54) rfl (teq (by rw [own_e, if_pos hc10]; exact hv22.symm)).2 k) ?_
      refine own_Fin.step (S' := s₁.setTop (mkF m 58 #[.val (.ref ga), .val (.ref ag), .val (.int iv), .val (.int ln), .val (.int n1), .val (.int pp), .val (.int n2), .val (.int v22)] [(.int (1 : Int32))])) (fun t k => XS.iconst X0.here hx rfl (hb hby d7_57) k) ?_
      refine own_Fin.step (S' := s₁.setTop (mkF m 62 #[.val (.ref ga), .val (.ref ag), .val (.int iv), .val (.int ln), .val (.int n1), .val (.int pp), .val (.int n2), .val (.int v22)] [(.int (1 : Int32))])) (fun t k => XS.goto X0.here hx rfl (pc0 := 58) (pc' := 62) rfl (hb hby d7_58) (by decide) (by decide) k) ?_
      have hq352 : Q7 Z ga ag iv ln n1 pp n2 kg kh zg zh vg vh h0 n0 (some (.int (nar .boolean (1 : Int32)))) h0 _ := ⟨rfl, N0, rfl⟩
      exact own_retN X0 hx hlk (t := .boolean) hrt (by simp) (hb hby d7_62) e0 hq352 (by decide) (by decide)
    · refine own_Fin.step (S' := s₁.setTop (mkF m 27 #[.val (.ref ga), .val (.ref ag), .val (.int iv), .val (.int ln), .val (.int n1), .val (.int pp), .val (.int n2), .unset] [])) (fun t k => XS.icmpYes X0.here hx rfl (pc0 := 10) (pc' := 27) rfl (hb hby d7_10) rfl (flt hc10).2.1 (by decide) (by decide) k) ?_
      refine own_Fin.step (S' := s₁.setTop (mkF m 29 #[.val (.ref ga), .val (.ref ag), .val (.int iv), .val (.int ln), .val (.int n1), .val (.int pp), .val (.int n2), .unset] [(.int n1)])) (fun t k => XS.iload X0.here hx rfl (hb hby d7_27) rfl  k) ?_
      refine own_Fin.step (S' := s₁.setTop (mkF m 31 #[.val (.ref ga), .val (.ref ag), .val (.int iv), .val (.int ln), .val (.int n1), .val (.int pp), .val (.int n2), .unset] [(.int pp), (.int n1)])) (fun t k => XS.iload X0.here hx rfl (hb hby d7_29) rfl  k) ?_
      refine own_Fin.step (S' := s₁.setTop (mkF m 32 #[.val (.ref ga), .val (.ref ag), .val (.int iv), .val (.int ln), .val (.int n1), .val (.int pp), .val (.int n2), .unset] [(.int (n1 - pp))])) (fun t k => XS.isub X0.here hx rfl (hb hby d7_31) rfl k) ?_
      refine own_Fin.step (S' := s₁.setTop (mkF m 33 #[.val (.ref ga), .val (.ref ag), .val (.int iv), .val (.int ln), .val (.int n1), .val (.int pp), .val (.int n2), .unset] [(.int (1 : Int32)), (.int (n1 - pp))])) (fun t k => XS.iconst X0.here hx rfl (hb hby d7_32) k) ?_
      refine own_Fin.step (S' := s₁.setTop (mkF m 34 #[.val (.ref ga), .val (.ref ag), .val (.int iv), .val (.int ln), .val (.int n1), .val (.int pp), .val (.int n2), .unset] [(.int ((n1 - pp) - (1 : Int32)))])) (fun t k => XS.isub X0.here hx rfl (hb hby d7_33) rfl k) ?_
      refine own_Fin.step (S' := s₁.setTop (mkF m 35 #[.val (.ref ga), .val (.ref ag), .val (.int iv), .val (.int ln), .val (.int n1), .val (.int pp), .val (.int n2), .unset] [(.int iv), (.int ((n1 - pp) - (1 : Int32)))])) (fun t k => XS.iloadN X0.here hx rfl (hb hby d7_34) rfl  k) ?_
      refine own_Fin.step (S' := s₁.setTop (mkF m 37 #[.val (.ref ga), .val (.ref ag), .val (.int iv), .val (.int ln), .val (.int n1), .val (.int pp), .val (.int n2), .unset] [(.int n2), (.int iv), (.int ((n1 - pp) - (1 : Int32)))])) (fun t k => XS.iload X0.here hx rfl (hb hby d7_35) rfl  k) ?_
      refine own_Fin.step (S' := s₁.setTop (mkF m 38 #[.val (.ref ga), .val (.ref ag), .val (.int iv), .val (.int ln), .val (.int n1), .val (.int pp), .val (.int n2), .unset] [(.int (iv - n2)), (.int ((n1 - pp) - (1 : Int32)))])) (fun t k => XS.isub X0.here hx rfl (hb hby d7_37) rfl k) ?_
      refine own_Fin.step (S' := s₁.setTop (mkF m 39 #[.val (.ref ga), .val (.ref ag), .val (.int iv), .val (.int ln), .val (.int n1), .val (.int pp), .val (.int n2), .unset] [(.int (((n1 - pp) - (1 : Int32)) - (iv - n2)))])) (fun t k => XS.isub X0.here hx rfl (hb hby d7_38) rfl k) ?_
      obtain ⟨v39, hv39⟩ : ∃ z : Int32, z = (((n1 - pp) - (1 : Int32)) - (iv - n2)) := ⟨_, rfl⟩
      rw [← hv39]
      refine own_Fin.step (S' := s₁.setTop (mkF m 41 #[.val (.ref ga), .val (.ref ag), .val (.int iv), .val (.int ln), .val (.int n1), .val (.int pp), .val (.int n2), .val (.int v39)] [])) (fun t k => XS.istore X0.here hx rfl (hb hby d7_39) rfl (l' := #[.val (.ref ga), .val (.ref ag), .val (.int iv), .val (.int ln), .val (.int n1), .val (.int pp), .val (.int n2), .val (.int v39)]) rfl k) ?_
      refine own_Fin.step (S' := s₁.setTop (mkF m 42 #[.val (.ref ga), .val (.ref ag), .val (.int iv), .val (.int ln), .val (.int n1), .val (.int pp), .val (.int n2), .val (.int v39)] [(.ref ga)])) (fun t k => XS.aloadN X0.here hx rfl (hb hby d7_41) rfl rfl  k) ?_
      refine own_Fin.step (S' := s₁.setTop (mkF m 43 #[.val (.ref ga), .val (.ref ag), .val (.int iv), .val (.int ln), .val (.int n1), .val (.int pp), .val (.int n2), .val (.int v39)] [(.int iv), (.ref ga)])) (fun t k => XS.iloadN X0.here hx rfl (hb hby d7_42) rfl  k) ?_
      obtain ⟨cl353, Ar353, q353, S353, N353z, Hs353, G353⟩ := id P0
      have hin353 : ¬ (iv < 0 ∨ cl353.slots.size ≤ (iv).toNatClampNeg) := inb_of S353 ⟨(hE hc2).1, (hE hc2).2.1⟩
      have hat353 : cl353.slots[(iv).toNatClampNeg]? = some (.int (own_e iv n1 pp n2)) := Hs353.at hin353 (hE hc2).2.2.2.1
      refine own_Fin.step (S' := s₁.setTop (mkF m 44 #[.val (.ref ga), .val (.ref ag), .val (.int iv), .val (.int ln), .val (.int n1), .val (.int pp), .val (.int n2), .val (.int v39)] [(.int (own_e iv n1 pp n2))])) (X0.iaload hx (j := iv) (v := (.int (own_e iv n1 pp n2))) (by rw [e0]; exact Ar353.1) (State.isArrayOf_alike hZ.alike Ar353.2.1) Ar353.2.2 hin353 hat353 (g := (mkF m 43 #[.val (.ref ga), .val (.ref ag), .val (.int iv), .val (.int ln), .val (.int n1), .val (.int pp), .val (.int n2), .val (.int v39)] [(.int iv), (.ref ga)])) rfl rfl (hb hby d7_43)) ?_
      refine own_Fin.step (S' := s₁.setTop (mkF m 46 #[.val (.ref ga), .val (.ref ag), .val (.int iv), .val (.int ln), .val (.int n1), .val (.int pp), .val (.int n2), .val (.int v39)] [(.int v39), (.int (own_e iv n1 pp n2))])) (fun t k => XS.iload X0.here hx rfl (hb hby d7_44) rfl  k) ?_
      refine own_Fin.step (S' := s₁.setTop (mkF m 49 #[.val (.ref ga), .val (.ref ag), .val (.int iv), .val (.int ln), .val (.int n1), .val (.int pp), .val (.int n2), .val (.int v39)] [])) (fun t k => XS.icmpNo X0.here hx rfl (hb hby d7_46) rfl (teq (by rw [own_e, if_neg hc10]; exact hv39.symm)).2 k) ?_
      refine own_Fin.step (S' := s₁.setTop (mkF m 50 #[.val (.ref ga), .val (.ref ag), .val (.int iv), .val (.int ln), .val (.int n1), .val (.int pp), .val (.int n2), .val (.int v39)] [(.ref ag)])) (fun t k => XS.aloadN X0.here hx rfl (hb hby d7_49) rfl rfl  k) ?_
      refine own_Fin.step (S' := s₁.setTop (mkF m 51 #[.val (.ref ga), .val (.ref ag), .val (.int iv), .val (.int ln), .val (.int n1), .val (.int pp), .val (.int n2), .val (.int v39)] [(.int iv), (.ref ag)])) (fun t k => XS.iloadN X0.here hx rfl (hb hby d7_50) rfl  k) ?_
      obtain ⟨cl354, Ar354, q354, S354, N354z, Hs354, G354⟩ := id P1
      have hin354 : ¬ (iv < 0 ∨ cl354.slots.size ≤ (iv).toNatClampNeg) := inb_of S354 ⟨(hE hc2).1, (hE hc2).2.2.1⟩
      have hat354 : cl354.slots[(iv).toNatClampNeg]? = some (.int (own_e iv n1 pp n2)) := Hs354.at hin354 (hE hc2).2.2.2.2
      refine own_Fin.step (S' := s₁.setTop (mkF m 52 #[.val (.ref ga), .val (.ref ag), .val (.int iv), .val (.int ln), .val (.int n1), .val (.int pp), .val (.int n2), .val (.int v39)] [(.int (own_e iv n1 pp n2))])) (X0.iaload hx (j := iv) (v := (.int (own_e iv n1 pp n2))) (by rw [e0]; exact Ar354.1) (State.isArrayOf_alike hZ.alike Ar354.2.1) Ar354.2.2 hin354 hat354 (g := (mkF m 51 #[.val (.ref ga), .val (.ref ag), .val (.int iv), .val (.int ln), .val (.int n1), .val (.int pp), .val (.int n2), .val (.int v39)] [(.int iv), (.ref ag)])) rfl rfl (hb hby d7_51)) ?_
      refine own_Fin.step (S' := s₁.setTop (mkF m 54 #[.val (.ref ga), .val (.ref ag), .val (.int iv), .val (.int ln), .val (.int n1), .val (.int pp), .val (.int n2), .val (.int v39)] [(.int v39), (.int (own_e iv n1 pp n2))])) (fun t k => XS.iload X0.here hx rfl (hb hby d7_52) rfl  k) ?_
      refine own_Fin.step (S' := s₁.setTop (mkF m 57 #[.val (.ref ga), .val (.ref ag), .val (.int iv), .val (.int ln), .val (.int n1), .val (.int pp), .val (.int n2), .val (.int v39)] [])) (fun t k => XS.icmpNo X0.here hx rfl (hb hby d7_54) rfl (teq (by rw [own_e, if_neg hc10]; exact hv39.symm)).2 k) ?_
      refine own_Fin.step (S' := s₁.setTop (mkF m 58 #[.val (.ref ga), .val (.ref ag), .val (.int iv), .val (.int ln), .val (.int n1), .val (.int pp), .val (.int n2), .val (.int v39)] [(.int (1 : Int32))])) (fun t k => XS.iconst X0.here hx rfl (hb hby d7_57) k) ?_
      refine own_Fin.step (S' := s₁.setTop (mkF m 62 #[.val (.ref ga), .val (.ref ag), .val (.int iv), .val (.int ln), .val (.int n1), .val (.int pp), .val (.int n2), .val (.int v39)] [(.int (1 : Int32))])) (fun t k => XS.goto X0.here hx rfl (pc0 := 58) (pc' := 62) rfl (hb hby d7_58) (by decide) (by decide) k) ?_
      have hq355 : Q7 Z ga ag iv ln n1 pp n2 kg kh zg zh vg vh h0 n0 (some (.int (nar .boolean (1 : Int32)))) h0 _ := ⟨rfl, N0, rfl⟩
      exact own_retN X0 hx hlk (t := .boolean) hrt (by simp) (hb hby d7_62) e0 hq355 (by decide) (by decide)
  · refine own_Fin.step (S' := s₁.setTop (mkF m 5 #[.val (.ref ga), .val (.ref ag), .val (.int iv), .val (.int ln), .val (.int n1), .val (.int pp), .val (.int n2), .unset] [])) (fun t k => XS.icmpNo X0.here hx rfl (hb hby d7_2) rfl (flt hc2).1 k) ?_
    refine own_Fin.step (S' := s₁.setTop (mkF m 6 #[.val (.ref ga), .val (.ref ag), .val (.int iv), .val (.int ln), .val (.int n1), .val (.int pp), .val (.int n2), .unset] [(.int (1 : Int32))])) (fun t k => XS.iconst X0.here hx rfl (hb hby d7_5) k) ?_
    have hq356 : Q7 Z ga ag iv ln n1 pp n2 kg kh zg zh vg vh h0 n0 (some (.int (nar .boolean (1 : Int32)))) h0 _ := ⟨rfl, N0, rfl⟩
    exact own_retN X0 hx hlk (t := .boolean) hrt (by simp) (hb hby d7_6) e0 hq356 (by decide) (by decide)

def own_push (b : Bool) (s : Int32 × List Int32) : Int32 × List Int32 := if b then (s.1 + 1, s.2 ++ [s.1]) else s
def own_pop (b : Bool) (s : Int32 × List Int32) : Int32 × List Int32 := if b then (s.1, s.2.dropLast) else s
def own_s0 (n pp n2 : Int32) : Int32 × List Int32 := (0, [])
def own_s1 (n pp n2 : Int32) : Int32 × List Int32 := own_push (decide (0 < n)) (own_s0 n pp n2)
def own_s2 (n pp n2 : Int32) : Int32 × List Int32 := own_push (decide (1 < n)) (own_s1 n pp n2)
def own_s3 (n pp n2 : Int32) : Int32 × List Int32 := own_push (decide (2 < n)) (own_s2 n pp n2)
def own_s4 (n pp n2 : Int32) : Int32 × List Int32 := own_pop (decide (0 < pp)) (own_s3 n pp n2)
def own_s5 (n pp n2 : Int32) : Int32 × List Int32 := own_pop (decide (1 < pp)) (own_s4 n pp n2)
def own_s6 (n pp n2 : Int32) : Int32 × List Int32 := own_pop (decide (2 < pp)) (own_s5 n pp n2)
def own_s7 (n pp n2 : Int32) : Int32 × List Int32 := own_push (decide (0 < n2)) (own_s6 n pp n2)
def own_s8 (n pp n2 : Int32) : Int32 × List Int32 := own_push (decide (1 < n2)) (own_s7 n pp n2)
theorem own_t1 {n pp n2 : Int32} (h : ((0 : Int32) < n)) : (own_s1 n pp n2).1 = (own_s0 n pp n2).1 + 1 ∧ (own_s1 n pp n2).2 = (own_s0 n pp n2).2 ++ [(own_s0 n pp n2).1] := by
  have e : (own_s1 n pp n2) = ((own_s0 n pp n2).1 + 1, (own_s0 n pp n2).2 ++ [(own_s0 n pp n2).1]) := by rw [own_s1, own_push, decide_eq_true h, if_pos rfl]
  rw [e]; exact ⟨rfl, rfl⟩
theorem own_f1 {n pp n2 : Int32} (h : ¬ ((0 : Int32) < n)) : (own_s1 n pp n2).1 = (own_s0 n pp n2).1 ∧ (own_s1 n pp n2).2 = (own_s0 n pp n2).2 := by
  have e : (own_s1 n pp n2) = (own_s0 n pp n2) := by rw [own_s1, own_push, decide_eq_false h, if_neg (by decide)]
  rw [e]; exact ⟨rfl, rfl⟩
theorem own_t2 {n pp n2 : Int32} (h : ((1 : Int32) < n)) : (own_s2 n pp n2).1 = (own_s1 n pp n2).1 + 1 ∧ (own_s2 n pp n2).2 = (own_s1 n pp n2).2 ++ [(own_s1 n pp n2).1] := by
  have e : (own_s2 n pp n2) = ((own_s1 n pp n2).1 + 1, (own_s1 n pp n2).2 ++ [(own_s1 n pp n2).1]) := by rw [own_s2, own_push, decide_eq_true h, if_pos rfl]
  rw [e]; exact ⟨rfl, rfl⟩
theorem own_f2 {n pp n2 : Int32} (h : ¬ ((1 : Int32) < n)) : (own_s2 n pp n2).1 = (own_s1 n pp n2).1 ∧ (own_s2 n pp n2).2 = (own_s1 n pp n2).2 := by
  have e : (own_s2 n pp n2) = (own_s1 n pp n2) := by rw [own_s2, own_push, decide_eq_false h, if_neg (by decide)]
  rw [e]; exact ⟨rfl, rfl⟩
theorem own_t3 {n pp n2 : Int32} (h : ((2 : Int32) < n)) : (own_s3 n pp n2).1 = (own_s2 n pp n2).1 + 1 ∧ (own_s3 n pp n2).2 = (own_s2 n pp n2).2 ++ [(own_s2 n pp n2).1] := by
  have e : (own_s3 n pp n2) = ((own_s2 n pp n2).1 + 1, (own_s2 n pp n2).2 ++ [(own_s2 n pp n2).1]) := by rw [own_s3, own_push, decide_eq_true h, if_pos rfl]
  rw [e]; exact ⟨rfl, rfl⟩
theorem own_f3 {n pp n2 : Int32} (h : ¬ ((2 : Int32) < n)) : (own_s3 n pp n2).1 = (own_s2 n pp n2).1 ∧ (own_s3 n pp n2).2 = (own_s2 n pp n2).2 := by
  have e : (own_s3 n pp n2) = (own_s2 n pp n2) := by rw [own_s3, own_push, decide_eq_false h, if_neg (by decide)]
  rw [e]; exact ⟨rfl, rfl⟩
theorem own_t4 {n pp n2 : Int32} (h : ((0 : Int32) < pp)) : (own_s4 n pp n2).1 = (own_s3 n pp n2).1 ∧ (own_s4 n pp n2).2 = (own_s3 n pp n2).2.dropLast := by
  have e : (own_s4 n pp n2) = ((own_s3 n pp n2).1, (own_s3 n pp n2).2.dropLast) := by rw [own_s4, own_pop, decide_eq_true h, if_pos rfl]
  rw [e]; exact ⟨rfl, rfl⟩
theorem own_f4 {n pp n2 : Int32} (h : ¬ ((0 : Int32) < pp)) : (own_s4 n pp n2).1 = (own_s3 n pp n2).1 ∧ (own_s4 n pp n2).2 = (own_s3 n pp n2).2 := by
  have e : (own_s4 n pp n2) = (own_s3 n pp n2) := by rw [own_s4, own_pop, decide_eq_false h, if_neg (by decide)]
  rw [e]; exact ⟨rfl, rfl⟩
theorem own_t5 {n pp n2 : Int32} (h : ((1 : Int32) < pp)) : (own_s5 n pp n2).1 = (own_s4 n pp n2).1 ∧ (own_s5 n pp n2).2 = (own_s4 n pp n2).2.dropLast := by
  have e : (own_s5 n pp n2) = ((own_s4 n pp n2).1, (own_s4 n pp n2).2.dropLast) := by rw [own_s5, own_pop, decide_eq_true h, if_pos rfl]
  rw [e]; exact ⟨rfl, rfl⟩
theorem own_f5 {n pp n2 : Int32} (h : ¬ ((1 : Int32) < pp)) : (own_s5 n pp n2).1 = (own_s4 n pp n2).1 ∧ (own_s5 n pp n2).2 = (own_s4 n pp n2).2 := by
  have e : (own_s5 n pp n2) = (own_s4 n pp n2) := by rw [own_s5, own_pop, decide_eq_false h, if_neg (by decide)]
  rw [e]; exact ⟨rfl, rfl⟩
theorem own_t6 {n pp n2 : Int32} (h : ((2 : Int32) < pp)) : (own_s6 n pp n2).1 = (own_s5 n pp n2).1 ∧ (own_s6 n pp n2).2 = (own_s5 n pp n2).2.dropLast := by
  have e : (own_s6 n pp n2) = ((own_s5 n pp n2).1, (own_s5 n pp n2).2.dropLast) := by rw [own_s6, own_pop, decide_eq_true h, if_pos rfl]
  rw [e]; exact ⟨rfl, rfl⟩
theorem own_f6 {n pp n2 : Int32} (h : ¬ ((2 : Int32) < pp)) : (own_s6 n pp n2).1 = (own_s5 n pp n2).1 ∧ (own_s6 n pp n2).2 = (own_s5 n pp n2).2 := by
  have e : (own_s6 n pp n2) = (own_s5 n pp n2) := by rw [own_s6, own_pop, decide_eq_false h, if_neg (by decide)]
  rw [e]; exact ⟨rfl, rfl⟩
theorem own_t7 {n pp n2 : Int32} (h : ((0 : Int32) < n2)) : (own_s7 n pp n2).1 = (own_s6 n pp n2).1 + 1 ∧ (own_s7 n pp n2).2 = (own_s6 n pp n2).2 ++ [(own_s6 n pp n2).1] := by
  have e : (own_s7 n pp n2) = ((own_s6 n pp n2).1 + 1, (own_s6 n pp n2).2 ++ [(own_s6 n pp n2).1]) := by rw [own_s7, own_push, decide_eq_true h, if_pos rfl]
  rw [e]; exact ⟨rfl, rfl⟩
theorem own_f7 {n pp n2 : Int32} (h : ¬ ((0 : Int32) < n2)) : (own_s7 n pp n2).1 = (own_s6 n pp n2).1 ∧ (own_s7 n pp n2).2 = (own_s6 n pp n2).2 := by
  have e : (own_s7 n pp n2) = (own_s6 n pp n2) := by rw [own_s7, own_push, decide_eq_false h, if_neg (by decide)]
  rw [e]; exact ⟨rfl, rfl⟩
theorem own_t8 {n pp n2 : Int32} (h : ((1 : Int32) < n2)) : (own_s8 n pp n2).1 = (own_s7 n pp n2).1 + 1 ∧ (own_s8 n pp n2).2 = (own_s7 n pp n2).2 ++ [(own_s7 n pp n2).1] := by
  have e : (own_s8 n pp n2) = ((own_s7 n pp n2).1 + 1, (own_s7 n pp n2).2 ++ [(own_s7 n pp n2).1]) := by rw [own_s8, own_push, decide_eq_true h, if_pos rfl]
  rw [e]; exact ⟨rfl, rfl⟩
theorem own_f8 {n pp n2 : Int32} (h : ¬ ((1 : Int32) < n2)) : (own_s8 n pp n2).1 = (own_s7 n pp n2).1 ∧ (own_s8 n pp n2).2 = (own_s7 n pp n2).2 := by
  have e : (own_s8 n pp n2) = (own_s7 n pp n2) := by rw [own_s8, own_push, decide_eq_false h, if_neg (by decide)]
  rw [e]; exact ⟨rfl, rfl⟩
def own_ok (n pp n2 : Int32) : Prop := (n = 0 ∨ n = 1 ∨ n = 2 ∨ n = 3) ∧ (pp = 0 ∨ pp = 1 ∨ pp = 2 ∨ pp = 3) ∧ (n2 = 0 ∨ n2 = 1 ∨ n2 = 2) ∧ ¬ n < pp
theorem own_ok_of {x1 x2 x3 n pp n2 : Int32} (h1 : n = (x1 &&& (3 : Int32))) (h2 : pp = own_min (x2 &&& (3 : Int32)) n) (h3 : n2 = ((x3 &&& (2147483647 : Int32)) - ((x3 &&& (2147483647 : Int32)) / (3 : Int32)) * (3 : Int32))) : own_ok n pp n2 := by
  have e1 := c_mask x1 3 2 (by decide) (by decide)
  rw [← h1] at e1
  have e2 := c_mask x2 3 2 (by decide) (by decide)
  have e3 := own_rem 3 rfl (by decide) h3
  have b1 : n.toInt = 0 ∨ n.toInt = 1 ∨ n.toInt = 2 ∨ n.toInt = 3 := by omega
  have b3 : n2.toInt = 0 ∨ n2.toInt = 1 ∨ n2.toInt = 2 := by omega
  have b2 : (pp.toInt = 0 ∨ pp.toInt = 1 ∨ pp.toInt = 2 ∨ pp.toInt = 3) ∧ pp.toInt ≤ n.toInt := by
    rw [h2, own_min]
    split
    · rename_i hlt
      rw [Int32.lt_iff_toInt_lt] at hlt
      omega
    · rename_i hlt
      rw [Int32.lt_iff_toInt_lt] at hlt
      omega
  refine ⟨?_, ?_, ?_, ?_⟩
  · rcases b1 with b | b | b | b
    · exact Or.inl (own_lit 0 b)
    · exact Or.inr (Or.inl (own_lit 1 b))
    · exact Or.inr (Or.inr (Or.inl (own_lit 2 b)))
    · exact Or.inr (Or.inr (Or.inr (own_lit 3 b)))
  · rcases b2.1 with b | b | b | b
    · exact Or.inl (own_lit 0 b)
    · exact Or.inr (Or.inl (own_lit 1 b))
    · exact Or.inr (Or.inr (Or.inl (own_lit 2 b)))
    · exact Or.inr (Or.inr (Or.inr (own_lit 3 b)))
  · rcases b3 with b | b | b
    · exact Or.inl (own_lit 0 b)
    · exact Or.inr (Or.inl (own_lit 1 b))
    · exact Or.inr (Or.inr (own_lit 2 b))
  · rw [Int32.lt_iff_toInt_lt]; omega
theorem own_b {n pp n2 : Int32} (h : own_ok n pp n2) : (∀ s ∈ [own_s0 n pp n2, own_s1 n pp n2, own_s2 n pp n2, own_s3 n pp n2, own_s6 n pp n2, own_s7 n pp n2], (0 ≤ s.1.toInt ∧ s.1.toInt < 16) ∧ s.2.length < 16) := by
  obtain ⟨h1, h2, h3, h4⟩ := h
  rcases h1 with rfl | rfl | rfl | rfl <;> rcases h2 with rfl | rfl | rfl | rfl <;> rcases h3 with rfl | rfl | rfl <;> first | exact absurd h4 (by decide) | decide
theorem own_ne {n pp n2 : Int32} (h : own_ok n pp n2) : ((0 : Int32) < pp → (own_s3 n pp n2).2 ≠ [] ∧ (own_s3 n pp n2).2.length < 16) ∧ ((1 : Int32) < pp → (own_s4 n pp n2).2 ≠ [] ∧ (own_s4 n pp n2).2.length < 16) ∧ ((2 : Int32) < pp → (own_s5 n pp n2).2 ≠ [] ∧ (own_s5 n pp n2).2.length < 16) := by
  obtain ⟨h1, h2, h3, h4⟩ := h
  rcases h1 with rfl | rfl | rfl | rfl <;> rcases h2 with rfl | rfl | rfl | rfl <;> rcases h3 with rfl | rfl | rfl <;> first | exact absurd h4 (by decide) | decide
theorem own_sp {l : List Int32} (h : l ≠ []) : l = l.dropLast ++ [l.getLastD 0] := by
  cases l with
  | nil => exact absurd rfl h
  | cons a t => rw [List.getLastD_cons, ← List.getLast_eq_getLastD h]; exact (List.dropLast_concat_getLast h).symm
theorem own_dl {l : List Int32} (h : l.length < 16) : l.dropLast.length < 16 := by simp; omega
theorem own_5 {n pp n2 : Int32} (h : own_ok n pp n2) : (own_s8 n pp n2).2.length ≤ 5 := by
  obtain ⟨h1, h2, h3, h4⟩ := h
  rcases h1 with rfl | rfl | rfl | rfl <;> rcases h2 with rfl | rfl | rfl | rfl <;> rcases h3 with rfl | rfl | rfl <;> first | exact absurd h4 (by decide) | decide
theorem own_lenF {n pp n2 ln : Int32} (h : own_ok n pp n2) (hl : ln = ((n - pp) + n2)) : own_len (own_s8 n pp n2).2 = ln := by
  obtain ⟨h1, h2, h3, h4⟩ := h
  subst hl
  rcases h1 with rfl | rfl | rfl | rfl <;> rcases h2 with rfl | rfl | rfl | rfl <;> rcases h3 with rfl | rfl | rfl <;> first | exact absurd h4 (by decide) | decide
theorem own_at0 {n pp n2 ln : Int32} (h : own_ok n pp n2) (hl : ln = ((n - pp) + n2)) : (0 : Int32) < ln → (¬ (0 : Int32) < 0 ∧ (0 : Int32) < own_len (own_s8 n pp n2).2 ∧ (0 : Int32) < own_len (own_s8 n pp n2).2 ∧ ((own_s8 n pp n2).2.reverse.map Value.int).getD ((0 : Int32)).toNatClampNeg (.int (0 : Int32)) = .int (own_e (0 : Int32) n pp n2) ∧ ((own_s8 n pp n2).2.reverse.map Value.int).getD ((0 : Int32)).toNatClampNeg (.int (0 : Int32)) = .int (own_e (0 : Int32) n pp n2)) := by
  obtain ⟨h1, h2, h3, h4⟩ := h
  subst hl
  rcases h1 with rfl | rfl | rfl | rfl <;> rcases h2 with rfl | rfl | rfl | rfl <;> rcases h3 with rfl | rfl | rfl <;> first | exact absurd h4 (by decide) | (intro q; exact absurd q (by decide)) | (intro _; exact ⟨by decide, by decide, by decide, rfl, rfl⟩)
theorem own_at1 {n pp n2 ln : Int32} (h : own_ok n pp n2) (hl : ln = ((n - pp) + n2)) : (1 : Int32) < ln → (¬ (1 : Int32) < 0 ∧ (1 : Int32) < own_len (own_s8 n pp n2).2 ∧ (1 : Int32) < own_len (own_s8 n pp n2).2 ∧ ((own_s8 n pp n2).2.reverse.map Value.int).getD ((1 : Int32)).toNatClampNeg (.int (0 : Int32)) = .int (own_e (1 : Int32) n pp n2) ∧ ((own_s8 n pp n2).2.reverse.map Value.int).getD ((1 : Int32)).toNatClampNeg (.int (0 : Int32)) = .int (own_e (1 : Int32) n pp n2)) := by
  obtain ⟨h1, h2, h3, h4⟩ := h
  subst hl
  rcases h1 with rfl | rfl | rfl | rfl <;> rcases h2 with rfl | rfl | rfl | rfl <;> rcases h3 with rfl | rfl | rfl <;> first | exact absurd h4 (by decide) | (intro q; exact absurd q (by decide)) | (intro _; exact ⟨by decide, by decide, by decide, rfl, rfl⟩)
theorem own_at2 {n pp n2 ln : Int32} (h : own_ok n pp n2) (hl : ln = ((n - pp) + n2)) : (2 : Int32) < ln → (¬ (2 : Int32) < 0 ∧ (2 : Int32) < own_len (own_s8 n pp n2).2 ∧ (2 : Int32) < own_len (own_s8 n pp n2).2 ∧ ((own_s8 n pp n2).2.reverse.map Value.int).getD ((2 : Int32)).toNatClampNeg (.int (0 : Int32)) = .int (own_e (2 : Int32) n pp n2) ∧ ((own_s8 n pp n2).2.reverse.map Value.int).getD ((2 : Int32)).toNatClampNeg (.int (0 : Int32)) = .int (own_e (2 : Int32) n pp n2)) := by
  obtain ⟨h1, h2, h3, h4⟩ := h
  subst hl
  rcases h1 with rfl | rfl | rfl | rfl <;> rcases h2 with rfl | rfl | rfl | rfl <;> rcases h3 with rfl | rfl | rfl <;> first | exact absurd h4 (by decide) | (intro q; exact absurd q (by decide)) | (intro _; exact ⟨by decide, by decide, by decide, rfl, rfl⟩)
theorem own_at3 {n pp n2 ln : Int32} (h : own_ok n pp n2) (hl : ln = ((n - pp) + n2)) : (3 : Int32) < ln → (¬ (3 : Int32) < 0 ∧ (3 : Int32) < own_len (own_s8 n pp n2).2 ∧ (3 : Int32) < own_len (own_s8 n pp n2).2 ∧ ((own_s8 n pp n2).2.reverse.map Value.int).getD ((3 : Int32)).toNatClampNeg (.int (0 : Int32)) = .int (own_e (3 : Int32) n pp n2) ∧ ((own_s8 n pp n2).2.reverse.map Value.int).getD ((3 : Int32)).toNatClampNeg (.int (0 : Int32)) = .int (own_e (3 : Int32) n pp n2)) := by
  obtain ⟨h1, h2, h3, h4⟩ := h
  subst hl
  rcases h1 with rfl | rfl | rfl | rfl <;> rcases h2 with rfl | rfl | rfl | rfl <;> rcases h3 with rfl | rfl | rfl <;> first | exact absurd h4 (by decide) | (intro q; exact absurd q (by decide)) | (intro _; exact ⟨by decide, by decide, by decide, rfl, rfl⟩)
theorem own_at4 {n pp n2 ln : Int32} (h : own_ok n pp n2) (hl : ln = ((n - pp) + n2)) : (4 : Int32) < ln → (¬ (4 : Int32) < 0 ∧ (4 : Int32) < own_len (own_s8 n pp n2).2 ∧ (4 : Int32) < own_len (own_s8 n pp n2).2 ∧ ((own_s8 n pp n2).2.reverse.map Value.int).getD ((4 : Int32)).toNatClampNeg (.int (0 : Int32)) = .int (own_e (4 : Int32) n pp n2) ∧ ((own_s8 n pp n2).2.reverse.map Value.int).getD ((4 : Int32)).toNatClampNeg (.int (0 : Int32)) = .int (own_e (4 : Int32) n pp n2)) := by
  obtain ⟨h1, h2, h3, h4⟩ := h
  subst hl
  rcases h1 with rfl | rfl | rfl | rfl <;> rcases h2 with rfl | rfl | rfl | rfl <;> rcases h3 with rfl | rfl | rfl <;> first | exact absurd h4 (by decide) | (intro q; exact absurd q (by decide)) | (intro _; exact ⟨by decide, by decide, by decide, rfl, rfl⟩)


theorem pn_0 : plainName "com/example/methodical_checker/methodicalchecker/promela/WalkPendingInOrderPinLaw" = true := by first | (simp [plainName, overriddenIn]; done) | decide +kernel
theorem pd_0_0 : parseMethodDescriptor "(II)I" = some ⟨[.int, .int], some .int⟩ := by decide +kernel
theorem pd_0_1 : parseMethodDescriptor "()V" = some ⟨[], none⟩ := by decide +kernel
theorem pd_0_2 : parseMethodDescriptor "()[I" = some ⟨[], some (.array .int)⟩ := by decide +kernel
theorem pd_0_3 : parseMethodDescriptor "([I[IIIIII)Z" = some ⟨[(.array .int), (.array .int), .int, .int, .int, .int, .int], some .boolean⟩ := by decide +kernel
theorem pd_0_4 : parseMethodDescriptor "(Lcom/example/methodical_checker/methodicalchecker/promela/Walk;I)V" = some ⟨[(.object "com/example/methodical_checker/methodicalchecker/promela/Walk"), .int], none⟩ := by decide +kernel
theorem pd_0_5 : parseMethodDescriptor "()I" = some ⟨[], some .int⟩ := by decide +kernel
theorem ef_0 (m : MethodId) (x0 : Int32) (x1 : Int32) (x2 : Int32) (x3 : Int32) : entryFrame m #[(.int x0), (.int x1), (.int x2), (.int x3)] maxLocals = mkF m 0 #[.val (.int x0), .val (.int x1), .val (.int x2), .val (.int x3), .unset, .unset, .unset, .unset, .unset, .unset, .unset] [] := by first | (simp [entryFrame, mkF, argsToLocals, Value.category, maxLocals]; done) | rfl
def Q0 (Z : State) (i0 : Int32) (i1 : Int32) (i2 : Int32) (i3 : Int32) (h0 : Heap) (n0 : Nat) (v : Option Value) (h : Heap) (L : List Loc) : Prop := v = some (.int (1 : Int32)) ∧ Fr n0 L
set_option maxRecDepth 65536 in
set_option maxHeartbeats 40000000 in
theorem rm0 (l : Launch) (Z : State) (a0 : Array Value) (hw : ∀ d ∈ tables_1, d.before a0 Z = true) (ws : List Jvm.Cond) (i0 : Int32) (i1 : Int32) (i2 : Int32) (i3 : Int32) (h0 : Heap) (n0 : Nat) (Z0 : n0 ≤ h0.size)  :
    MetFree l x (head1 (Jvm.Cond.code x code maxLocals ret :: ws) room_1) (fun a U => a = #[(.int i0), (.int i1), (.int i2), (.int i3)] ∧ Z.Warmed39 U.vm ∧ U.heap = h0) (fun _ _ _ _ _ => True) (fun _ U o U' => ∃ v L, o = .returned v ∧ Q0 Z i0 i1 i2 i3 h0 n0 v U'.heap L ∧ FrameEnd U o U' L 48 576) := by
  refine MetFree.of_bodySF (plainFor_of_name pn_0) hisR ?_
  intro p e s m args below meth c s₁ Bd hml0 hP hK
  obtain ⟨rfl, hZ, hh⟩ := hP
  have hx := Bd.exec
  have hby := Bd.bytes
  have hml : c.maxLocals = 11 := hml0
  have hown : s.vm.findClass "com/example/methodical_checker/methodicalchecker/promela/WalkPendingInOrderPinLaw" = some m.cls := findClass_of_methodNamed Bd.named
  have hnm := (name_of_methodNamed Bd.named Bd.method).1
  have hlk : meth.locks = false := BodyLoose.notSynchronized Bd
  have hrt := Bd.returns
  have X0 : Stand p l e room_1 s m #[(.int i0), (.int i1), (.int i2), (.int i3)] below meth c s₁ [] 0 0 := Stand.of_body Bd
  have e0 : s₁.heap = h0 := by rw [← hh, Bd.state]; rfl
  have N0 := Fr.nil n0
  show own_Fin p.tables e below (own_post (Q0 Z i0 i1 i2 i3 h0 n0) s 48 576) (s₁.setTop (entryFrame m #[(.int i0), (.int i1), (.int i2), (.int i3)] maxLocals))
  refine own_Fin.step (fun t k => castTop (ef_0 m i0 i1 i2 i3) k) ?_
  refine own_Fin.step (S' := s₁.setTop (mkF m 1 #[.val (.int i0), .val (.int i1), .val (.int i2), .val (.int i3), .unset, .unset, .unset, .unset, .unset, .unset, .unset] [(.int i0)])) (fun t k => XS.iloadN X0.here hx rfl (hb hby at_0) rfl  k) ?_
  refine own_Fin.step (S' := s₁.setTop (mkF m 2 #[.val (.int i0), .val (.int i1), .val (.int i2), .val (.int i3), .unset, .unset, .unset, .unset, .unset, .unset, .unset] [(.int (3 : Int32)), (.int i0)])) (fun t k => XS.iconst X0.here hx rfl (hb hby at_1) k) ?_
  refine own_Fin.step (S' := s₁.setTop (mkF m 3 #[.val (.int i0), .val (.int i1), .val (.int i2), .val (.int i3), .unset, .unset, .unset, .unset, .unset, .unset, .unset] [(.int (i0 &&& (3 : Int32)))])) (fun t k => XS.iand X0.here hx rfl (hb hby at_2) rfl k) ?_
  obtain ⟨v3, hv3⟩ : ∃ z : Int32, z = (i0 &&& (3 : Int32)) := ⟨_, rfl⟩
  rw [← hv3]
  refine own_Fin.step (S' := s₁.setTop (mkF m 5 #[.val (.int i0), .val (.int i1), .val (.int i2), .val (.int i3), .val (.int v3), .unset, .unset, .unset, .unset, .unset, .unset] [])) (fun t k => XS.istore X0.here hx rfl (hb hby at_3) rfl (l' := #[.val (.int i0), .val (.int i1), .val (.int i2), .val (.int i3), .val (.int v3), .unset, .unset, .unset, .unset, .unset, .unset]) rfl k) ?_
  refine own_Fin.step (S' := s₁.setTop (mkF m 6 #[.val (.int i0), .val (.int i1), .val (.int i2), .val (.int i3), .val (.int v3), .unset, .unset, .unset, .unset, .unset, .unset] [(.int i1)])) (fun t k => XS.iloadN X0.here hx rfl (hb hby at_5) rfl  k) ?_
  refine own_Fin.step (S' := s₁.setTop (mkF m 7 #[.val (.int i0), .val (.int i1), .val (.int i2), .val (.int i3), .val (.int v3), .unset, .unset, .unset, .unset, .unset, .unset] [(.int (3 : Int32)), (.int i1)])) (fun t k => XS.iconst X0.here hx rfl (hb hby at_6) k) ?_
  refine own_Fin.step (S' := s₁.setTop (mkF m 8 #[.val (.int i0), .val (.int i1), .val (.int i2), .val (.int i3), .val (.int v3), .unset, .unset, .unset, .unset, .unset, .unset] [(.int (i1 &&& (3 : Int32)))])) (fun t k => XS.iand X0.here hx rfl (hb hby at_7) rfl k) ?_
  refine own_Fin.step (S' := s₁.setTop (mkF m 10 #[.val (.int i0), .val (.int i1), .val (.int i2), .val (.int i3), .val (.int v3), .unset, .unset, .unset, .unset, .unset, .unset] [(.int v3), (.int (i1 &&& (3 : Int32)))])) (fun t k => XS.iload X0.here hx rfl (hb hby at_8) rfl  k) ?_
  obtain ⟨_, _, ⟨T357, L357, k357, n357⟩, -, X357, ⟨Lc357, hQ357, l357, y357, zz357⟩, st357⟩ := Jvm.LawKit.callS X0 hx (y := (⟨"java/lang/Math", "min", "(II)I"⟩ : MethodName)) hown (mvT hZ (hw _ (List.mem_of_getElem? (i := 0) rfl))) (mvT hZ (hw _ (List.mem_of_getElem? (i := 1) rfl))) (mvT hZ (hw _ (List.mem_of_getElem? (i := 2) rfl))) (mvT hZ (hw _ (List.mem_of_getElem? (i := 3) rfl))) (by decide) (backOf (W := 0) (rm1 l Z a0 hw [] (i1 &&& (3 : Int32)) v3 h0 n0 (by omega) ) hZ (hw _ (List.mem_of_getElem? (i := 3) rfl)) (hw _ (List.mem_of_getElem? (i := 2) rfl)) (by decide) (by decide)) (g := (mkF m 10 #[.val (.int i0), .val (.int i1), .val (.int i2), .val (.int i3), .val (.int v3), .unset, .unset, .unset, .unset, .unset, .unset] [(.int v3), (.int (i1 &&& (3 : Int32)))])) rfl (by rw [hml]; rfl) (argsL := [(.int (i1 &&& (3 : Int32))), (.int v3)]) (rest := []) (lenOf pd_0_0 rfl) rfl (by show 2 * 0 + _ ≤ _; exact Nat.le_of_eq rfl) (hb hby at_10) (fun _ _ => ⟨rfl, e0, (by decide : 0 + 0 ≤ _), (by decide : 0 + 0 ≤ _)⟩)
  dsimp only [Pt.U, Pt.locs, Pt.cells, Pt.slots] at X357 l357 y357 zz357 st357 hQ357
  subst l357 y357 zz357
  obtain ⟨rfl, N357q, e357⟩ := hQ357
  have N357 := Fr.app N0 N357q
  refine own_Fin.step (S' := T357.setTop (mkF m 13 #[.val (.int i0), .val (.int i1), .val (.int i2), .val (.int i3), .val (.int v3), .unset, .unset, .unset, .unset, .unset, .unset] [(.int (own_min (i1 &&& (3 : Int32)) v3))])) st357 ?_
  obtain ⟨v13, hv13⟩ : ∃ z : Int32, z = (own_min (i1 &&& (3 : Int32)) v3) := ⟨_, rfl⟩
  rw [← hv13]
  refine own_Fin.step (S' := T357.setTop (mkF m 15 #[.val (.int i0), .val (.int i1), .val (.int i2), .val (.int i3), .val (.int v3), .val (.int v13), .unset, .unset, .unset, .unset, .unset] [])) (fun t k => XS.istore X357.here hx rfl (hb hby at_13) rfl (l' := #[.val (.int i0), .val (.int i1), .val (.int i2), .val (.int i3), .val (.int v3), .val (.int v13), .unset, .unset, .unset, .unset, .unset]) rfl k) ?_
  refine own_Fin.step (S' := T357.setTop (mkF m 16 #[.val (.int i0), .val (.int i1), .val (.int i2), .val (.int i3), .val (.int v3), .val (.int v13), .unset, .unset, .unset, .unset, .unset] [(.int i2)])) (fun t k => XS.iloadN X357.here hx rfl (hb hby at_15) rfl  k) ?_
  refine own_Fin.step (S' := T357.setTop (mkF m 18 #[.val (.int i0), .val (.int i1), .val (.int i2), .val (.int i3), .val (.int v3), .val (.int v13), .unset, .unset, .unset, .unset, .unset] [(.int (2147483647 : Int32)), (.int i2)])) (X357.ldcInt hx hown (mvT hZ (hw _ (List.mem_of_getElem? (i := 4) rfl))) (g := (mkF m 16 #[.val (.int i0), .val (.int i1), .val (.int i2), .val (.int i3), .val (.int v3), .val (.int v13), .unset, .unset, .unset, .unset, .unset] [(.int i2)])) rfl (hb hby at_16)) ?_
  refine own_Fin.step (S' := T357.setTop (mkF m 19 #[.val (.int i0), .val (.int i1), .val (.int i2), .val (.int i3), .val (.int v3), .val (.int v13), .unset, .unset, .unset, .unset, .unset] [(.int (i2 &&& (2147483647 : Int32)))])) (fun t k => XS.iand X357.here hx rfl (hb hby at_18) rfl k) ?_
  refine own_Fin.step (S' := T357.setTop (mkF m 20 #[.val (.int i0), .val (.int i1), .val (.int i2), .val (.int i3), .val (.int v3), .val (.int v13), .unset, .unset, .unset, .unset, .unset] [(.int (3 : Int32)), (.int (i2 &&& (2147483647 : Int32)))])) (fun t k => XS.iconst X357.here hx rfl (hb hby at_19) k) ?_
  refine own_Fin.step (S' := T357.setTop (mkF m 21 #[.val (.int i0), .val (.int i1), .val (.int i2), .val (.int i3), .val (.int v3), .val (.int v13), .unset, .unset, .unset, .unset, .unset] [(.int ((i2 &&& (2147483647 : Int32)) - ((i2 &&& (2147483647 : Int32)) / (3 : Int32)) * (3 : Int32)))])) (fun t k => XS.irem X357.here hx rfl (hb hby at_20) rfl (by decide) k) ?_
  obtain ⟨v21, hv21⟩ : ∃ z : Int32, z = ((i2 &&& (2147483647 : Int32)) - ((i2 &&& (2147483647 : Int32)) / (3 : Int32)) * (3 : Int32)) := ⟨_, rfl⟩
  rw [← hv21]
  refine own_Fin.step (S' := T357.setTop (mkF m 23 #[.val (.int i0), .val (.int i1), .val (.int i2), .val (.int i3), .val (.int v3), .val (.int v13), .val (.int v21), .unset, .unset, .unset, .unset] [])) (fun t k => XS.istore X357.here hx rfl (hb hby at_21) rfl (l' := #[.val (.int i0), .val (.int i1), .val (.int i2), .val (.int i3), .val (.int v3), .val (.int v13), .val (.int v21), .unset, .unset, .unset, .unset]) rfl k) ?_
  have own_k := own_ok_of hv3 hv13 hv21
  have own_bb := own_b own_k
  obtain ⟨T358, h358, X358, e358, E358, A358, D358, -, st358⟩ := newO X357 hx hZ hown (hw _ (List.mem_of_getElem? (i := 5) rfl)) (hw _ (List.mem_of_getElem? (i := 6) rfl)) (hw _ (List.mem_of_getElem? (i := 7) rfl)) e357 (g := (mkF m 23 #[.val (.int i0), .val (.int i1), .val (.int i2), .val (.int i3), .val (.int v3), .val (.int v13), .val (.int v21), .unset, .unset, .unset, .unset] [])) rfl (hb hby at_23) (by decide) (by decide)
  obtain ⟨b358, g358⟩ : ∃ z, z = h0.size := ⟨_, rfl⟩
  rw [← g358] at A358 D358 st358
  have ll358 : @LT.lt Nat _ b358 (Array.size h358) := A358.lt
  have z358 := E358.1
  have F359 : Fld Z h358 b358 "com/example/methodical_checker/methodicalchecker/promela/Walk" "states" "[[I" .null := D358 (Or.inl (hw _ (List.mem_of_getElem? (i := 17) rfl))) (ty := (.array (.array .int))) (by decide)
  have F360 : Fld Z h358 b358 "com/example/methodical_checker/methodicalchecker/promela/Walk" "wayFrom" "[I" .null := D358 (Or.inl (hw _ (List.mem_of_getElem? (i := 20) rfl))) (ty := (.array .int)) (by decide)
  have F361 : Fld Z h358 b358 "com/example/methodical_checker/methodicalchecker/promela/Walk" "wayProcess" "[I" .null := D358 (Or.inl (hw _ (List.mem_of_getElem? (i := 22) rfl))) (ty := (.array .int)) (by decide)
  have F362 : Fld Z h358 b358 "com/example/methodical_checker/methodicalchecker/promela/Walk" "wayStep" "[Lcom/example/methodical_checker/methodicalchecker/promela/Transition;" .null := D358 (Or.inl (hw _ (List.mem_of_getElem? (i := 26) rfl))) (ty := (.array (.object "com/example/methodical_checker/methodicalchecker/promela/Transition"))) (by decide)
  have F363 : Fld Z h358 b358 "com/example/methodical_checker/methodicalchecker/promela/Walk" "wayMeeting" "[Lcom/example/methodical_checker/methodicalchecker/promela/Stepper$Meeting;" .null := D358 (Or.inl (hw _ (List.mem_of_getElem? (i := 30) rfl))) (ty := (.array (.object "com/example/methodical_checker/methodicalchecker/promela/Stepper$Meeting"))) (by decide)
  have F364 : Fld Z h358 b358 "com/example/methodical_checker/methodicalchecker/promela/Walk" "wayStepsBefore" "[I" .null := D358 (Or.inl (hw _ (List.mem_of_getElem? (i := 32) rfl))) (ty := (.array .int)) (by decide)
  have F365 : Fld Z h358 b358 "com/example/methodical_checker/methodicalchecker/promela/Walk" "wayBefore" "[I" .null := D358 (Or.inl (hw _ (List.mem_of_getElem? (i := 34) rfl))) (ty := (.array .int)) (by decide)
  have F366 : Fld Z h358 b358 "com/example/methodical_checker/methodicalchecker/promela/Walk" "pending" "[I" .null := D358 (Or.inl (hw _ (List.mem_of_getElem? (i := 36) rfl))) (ty := (.array .int)) (by decide)
  have F367 : Fld Z h358 b358 "com/example/methodical_checker/methodicalchecker/promela/Walk" "passed" "[I" .null := D358 (Or.inl (hw _ (List.mem_of_getElem? (i := 38) rfl))) (ty := (.array .int)) (by decide)
  have F368 : Fld Z h358 b358 "com/example/methodical_checker/methodicalchecker/promela/Walk" "passedKeys" "[I" .null := D358 (Or.inl (hw _ (List.mem_of_getElem? (i := 40) rfl))) (ty := (.array .int)) (by decide)
  have F369 : Fld Z h358 b358 "com/example/methodical_checker/methodicalchecker/promela/Walk" "passedTable" "[I" .null := D358 (Or.inl (hw _ (List.mem_of_getElem? (i := 42) rfl))) (ty := (.array .int)) (by decide)
  have F370 : Fld Z h358 b358 "com/example/methodical_checker/methodicalchecker/promela/Walk" "moveStates" "[I" .null := D358 (Or.inl (hw _ (List.mem_of_getElem? (i := 44) rfl))) (ty := (.array .int)) (by decide)
  have F371 : Fld Z h358 b358 "com/example/methodical_checker/methodicalchecker/promela/Walk" "moveSteps" "[I" .null := D358 (Or.inl (hw _ (List.mem_of_getElem? (i := 46) rfl))) (ty := (.array .int)) (by decide)
  have F372 : Fld Z h358 b358 "com/example/methodical_checker/methodicalchecker/promela/Walk" "moveEnds" "[I" .null := D358 (Or.inl (hw _ (List.mem_of_getElem? (i := 48) rfl))) (ty := (.array .int)) (by decide)
  have F373 : Fld Z h358 b358 "com/example/methodical_checker/methodicalchecker/promela/Walk" "failed" "I" (.int (0 : Int32)) := D358 (Or.inl (hw _ (List.mem_of_getElem? (i := 50) rfl))) (ty := .int) (by decide)
  have F374 : Fld Z h358 b358 "com/example/methodical_checker/methodicalchecker/promela/Walk" "wayCount" "I" (.int (0 : Int32)) := D358 (Or.inl (hw _ (List.mem_of_getElem? (i := 61) rfl))) (ty := .int) (by decide)
  have F375 : Fld Z h358 b358 "com/example/methodical_checker/methodicalchecker/promela/Walk" "pendingCount" "I" (.int (0 : Int32)) := D358 (Or.inl (hw _ (List.mem_of_getElem? (i := 63) rfl))) (ty := .int) (by decide)
  refine own_Fin.step (S' := T358.setTop (mkF m 26 #[.val (.int i0), .val (.int i1), .val (.int i2), .val (.int i3), .val (.int v3), .val (.int v13), .val (.int v21), .unset, .unset, .unset, .unset] [(.ref b358)])) st358 ?_
  refine own_Fin.step (S' := T358.setTop (mkF m 27 #[.val (.int i0), .val (.int i1), .val (.int i2), .val (.int i3), .val (.int v3), .val (.int v13), .val (.int v21), .unset, .unset, .unset, .unset] [(.ref b358), (.ref b358)])) (fun t k => XS.dup X358.here hx rfl (hb hby at_26) rfl rfl k) ?_
  obtain ⟨_, _, ⟨T376, L376, k376, n376⟩, -, X376, ⟨Lc376, hQ376, l376, y376, zz376⟩, st376⟩ := X358.specialBack hx (y := (⟨"com/example/methodical_checker/methodicalchecker/promela/Walk", "<init>", "()V"⟩ : MethodName)) rfl hown (mvT hZ (hw _ (List.mem_of_getElem? (i := 8) rfl))) (mvT hZ (hw _ (List.mem_of_getElem? (i := 9) rfl))) (mvT hZ (hw _ (List.mem_of_getElem? (i := 10) rfl))) (by decide) (backOf (W := 1) (rm2 l Z a0 hw [] b358 h358 n0 (by omega) A358 F359 F360 F361 F362 F363 F364 F365 F366 F367 F368 F369 F370 F371 F372 F373 F374 F375 (by omega)) hZ (hw _ (List.mem_of_getElem? (i := 10) rfl)) (hw _ (List.mem_of_getElem? (i := 7) rfl)) (by decide) (by decide)) (g := (mkF m 27 #[.val (.int i0), .val (.int i1), .val (.int i2), .val (.int i3), .val (.int v3), .val (.int v13), .val (.int v21), .unset, .unset, .unset, .unset] [(.ref b358), (.ref b358)])) rfl (by rw [hml]; rfl) (Steps.refl _) (a := b358) (argsL := []) (rest := [(.ref b358)]) (lenOf pd_0_1 rfl) rfl (by show 2 * 0 + _ ≤ _; exact Nat.le_of_eq rfl) (hb hby at_27) (fun _ _ => ⟨rfl, e358, (by decide : 1 + 14 ≤ _), (by decide : 22 + 204 ≤ _)⟩)
  dsimp only [Pt.U, Pt.locs, Pt.cells, Pt.slots] at X376 l376 y376 zz376 st376 hQ376
  subst l376 y376 zz376
  obtain ⟨rfl, N376q, K376, G376_0⟩ := hQ376
  have N376 := Fr.app N357 N376q
  refine own_Fin.trans (S' := T376.setTop (mkF m 30 #[.val (.int i0), .val (.int i1), .val (.int i2), .val (.int i3), .val (.int v3), .val (.int v13), .val (.int v21), .unset, .unset, .unset, .unset] [(.ref b358)])) st376 ?_
  refine own_Fin.step (S' := T376.setTop (mkF m 32 #[.val (.int i0), .val (.int i1), .val (.int i2), .val (.int i3), .val (.int v3), .val (.int v13), .val (.int v21), .val (.ref b358), .unset, .unset, .unset] [])) (fun t k => XS.astore X376.here hx rfl (hb hby at_30) rfl rfl (l' := #[.val (.int i0), .val (.int i1), .val (.int i2), .val (.int i3), .val (.int v3), .val (.int v13), .val (.int v21), .val (.ref b358), .unset, .unset, .unset]) rfl k) ?_
  refine own_Fin.step (S' := T376.setTop (mkF m 34 #[.val (.int i0), .val (.int i1), .val (.int i2), .val (.int i3), .val (.int v3), .val (.int v13), .val (.int v21), .val (.ref b358), .unset, .unset, .unset] [(.int v3)])) (fun t k => XS.iload X376.here hx rfl (hb hby at_32) rfl  k) ?_
  have J377 : ∀ (TJ377 : State) (LJ377 : List Loc) (hJ377 : Heap), Stand p l e room_1 s m #[(.int i0), (.int i1), (.int i2), (.int i3)] below meth c TJ377 LJ377 15 226 → TJ377.heap = hJ377 → Fr n0 LJ377 → h0.size ≤ hJ377.size → own_WK Z hJ377 n0 b358 ((own_s1 v3 v13 v21).1) ((own_s1 v3 v13 v21).2) → own_Fin p.tables e below (own_post (Q0 Z i0 i1 i2 i3 h0 n0) s 48 576) (TJ377.setTop (mkF m 43 #[.val (.int i0), .val (.int i1), .val (.int i2), .val (.int i3), .val (.int v3), .val (.int v13), .val (.int v21), .val (.ref b358), .unset, .unset, .unset] [])) := by
    as_aux_lemma =>
      intro TJ377 LJ377 hJ377  XJ377 eJ377 NJ377 zJ377 FJ377_0
      refine own_Fin.step (S' := TJ377.setTop (mkF m 45 #[.val (.int i0), .val (.int i1), .val (.int i2), .val (.int i3), .val (.int v3), .val (.int v13), .val (.int v21), .val (.ref b358), .unset, .unset, .unset] [(.int v3)])) (fun t k => XS.iload XJ377.here hx rfl (hb hby at_43) rfl  k) ?_
      refine own_Fin.step (S' := TJ377.setTop (mkF m 46 #[.val (.int i0), .val (.int i1), .val (.int i2), .val (.int i3), .val (.int v3), .val (.int v13), .val (.int v21), .val (.ref b358), .unset, .unset, .unset] [(.int (1 : Int32)), (.int v3)])) (fun t k => XS.iconst XJ377.here hx rfl (hb hby at_45) k) ?_
      have J378 : ∀ (TJ378 : State) (LJ378 : List Loc) (hJ378 : Heap), Stand p l e room_1 s m #[(.int i0), (.int i1), (.int i2), (.int i3)] below meth c TJ378 LJ378 15 226 → TJ378.heap = hJ378 → Fr n0 LJ378 → h0.size ≤ hJ378.size → own_WK Z hJ378 n0 b358 ((own_s2 v3 v13 v21).1) ((own_s2 v3 v13 v21).2) → own_Fin p.tables e below (own_post (Q0 Z i0 i1 i2 i3 h0 n0) s 48 576) (TJ378.setTop (mkF m 55 #[.val (.int i0), .val (.int i1), .val (.int i2), .val (.int i3), .val (.int v3), .val (.int v13), .val (.int v21), .val (.ref b358), .unset, .unset, .unset] [])) := by
        as_aux_lemma =>
          intro TJ378 LJ378 hJ378  XJ378 eJ378 NJ378 zJ378 FJ378_0
          refine own_Fin.step (S' := TJ378.setTop (mkF m 57 #[.val (.int i0), .val (.int i1), .val (.int i2), .val (.int i3), .val (.int v3), .val (.int v13), .val (.int v21), .val (.ref b358), .unset, .unset, .unset] [(.int v3)])) (fun t k => XS.iload XJ378.here hx rfl (hb hby at_55) rfl  k) ?_
          refine own_Fin.step (S' := TJ378.setTop (mkF m 58 #[.val (.int i0), .val (.int i1), .val (.int i2), .val (.int i3), .val (.int v3), .val (.int v13), .val (.int v21), .val (.ref b358), .unset, .unset, .unset] [(.int (2 : Int32)), (.int v3)])) (fun t k => XS.iconst XJ378.here hx rfl (hb hby at_57) k) ?_
          have J379 : ∀ (TJ379 : State) (LJ379 : List Loc) (hJ379 : Heap), Stand p l e room_1 s m #[(.int i0), (.int i1), (.int i2), (.int i3)] below meth c TJ379 LJ379 15 226 → TJ379.heap = hJ379 → Fr n0 LJ379 → h0.size ≤ hJ379.size → own_WK Z hJ379 n0 b358 ((own_s3 v3 v13 v21).1) ((own_s3 v3 v13 v21).2) → own_Fin p.tables e below (own_post (Q0 Z i0 i1 i2 i3 h0 n0) s 48 576) (TJ379.setTop (mkF m 67 #[.val (.int i0), .val (.int i1), .val (.int i2), .val (.int i3), .val (.int v3), .val (.int v13), .val (.int v21), .val (.ref b358), .unset, .unset, .unset] [])) := by
            as_aux_lemma =>
              intro TJ379 LJ379 hJ379  XJ379 eJ379 NJ379 zJ379 FJ379_0
              refine own_Fin.step (S' := TJ379.setTop (mkF m 69 #[.val (.int i0), .val (.int i1), .val (.int i2), .val (.int i3), .val (.int v3), .val (.int v13), .val (.int v21), .val (.ref b358), .unset, .unset, .unset] [(.int v13)])) (fun t k => XS.iload XJ379.here hx rfl (hb hby at_67) rfl  k) ?_
              have J380 : ∀ (TJ380 : State) (LJ380 : List Loc) (hJ380 : Heap), Stand p l e room_1 s m #[(.int i0), (.int i1), (.int i2), (.int i3)] below meth c TJ380 LJ380 15 226 → TJ380.heap = hJ380 → Fr n0 LJ380 → h0.size ≤ hJ380.size → own_WK Z hJ380 n0 b358 ((own_s4 v3 v13 v21).1) ((own_s4 v3 v13 v21).2) → own_Fin p.tables e below (own_post (Q0 Z i0 i1 i2 i3 h0 n0) s 48 576) (TJ380.setTop (mkF m 78 #[.val (.int i0), .val (.int i1), .val (.int i2), .val (.int i3), .val (.int v3), .val (.int v13), .val (.int v21), .val (.ref b358), .unset, .unset, .unset] [])) := by
                as_aux_lemma =>
                  intro TJ380 LJ380 hJ380  XJ380 eJ380 NJ380 zJ380 FJ380_0
                  refine own_Fin.step (S' := TJ380.setTop (mkF m 80 #[.val (.int i0), .val (.int i1), .val (.int i2), .val (.int i3), .val (.int v3), .val (.int v13), .val (.int v21), .val (.ref b358), .unset, .unset, .unset] [(.int v13)])) (fun t k => XS.iload XJ380.here hx rfl (hb hby at_78) rfl  k) ?_
                  refine own_Fin.step (S' := TJ380.setTop (mkF m 81 #[.val (.int i0), .val (.int i1), .val (.int i2), .val (.int i3), .val (.int v3), .val (.int v13), .val (.int v21), .val (.ref b358), .unset, .unset, .unset] [(.int (1 : Int32)), (.int v13)])) (fun t k => XS.iconst XJ380.here hx rfl (hb hby at_80) k) ?_
                  have J381 : ∀ (TJ381 : State) (LJ381 : List Loc) (hJ381 : Heap), Stand p l e room_1 s m #[(.int i0), (.int i1), (.int i2), (.int i3)] below meth c TJ381 LJ381 15 226 → TJ381.heap = hJ381 → Fr n0 LJ381 → h0.size ≤ hJ381.size → own_WK Z hJ381 n0 b358 ((own_s5 v3 v13 v21).1) ((own_s5 v3 v13 v21).2) → own_Fin p.tables e below (own_post (Q0 Z i0 i1 i2 i3 h0 n0) s 48 576) (TJ381.setTop (mkF m 90 #[.val (.int i0), .val (.int i1), .val (.int i2), .val (.int i3), .val (.int v3), .val (.int v13), .val (.int v21), .val (.ref b358), .unset, .unset, .unset] [])) := by
                    as_aux_lemma =>
                      intro TJ381 LJ381 hJ381  XJ381 eJ381 NJ381 zJ381 FJ381_0
                      refine own_Fin.step (S' := TJ381.setTop (mkF m 92 #[.val (.int i0), .val (.int i1), .val (.int i2), .val (.int i3), .val (.int v3), .val (.int v13), .val (.int v21), .val (.ref b358), .unset, .unset, .unset] [(.int v13)])) (fun t k => XS.iload XJ381.here hx rfl (hb hby at_90) rfl  k) ?_
                      refine own_Fin.step (S' := TJ381.setTop (mkF m 93 #[.val (.int i0), .val (.int i1), .val (.int i2), .val (.int i3), .val (.int v3), .val (.int v13), .val (.int v21), .val (.ref b358), .unset, .unset, .unset] [(.int (2 : Int32)), (.int v13)])) (fun t k => XS.iconst XJ381.here hx rfl (hb hby at_92) k) ?_
                      have J382 : ∀ (TJ382 : State) (LJ382 : List Loc) (hJ382 : Heap), Stand p l e room_1 s m #[(.int i0), (.int i1), (.int i2), (.int i3)] below meth c TJ382 LJ382 15 226 → TJ382.heap = hJ382 → Fr n0 LJ382 → h0.size ≤ hJ382.size → own_WK Z hJ382 n0 b358 ((own_s6 v3 v13 v21).1) ((own_s6 v3 v13 v21).2) → own_Fin p.tables e below (own_post (Q0 Z i0 i1 i2 i3 h0 n0) s 48 576) (TJ382.setTop (mkF m 102 #[.val (.int i0), .val (.int i1), .val (.int i2), .val (.int i3), .val (.int v3), .val (.int v13), .val (.int v21), .val (.ref b358), .unset, .unset, .unset] [])) := by
                        as_aux_lemma =>
                          intro TJ382 LJ382 hJ382  XJ382 eJ382 NJ382 zJ382 FJ382_0
                          refine own_Fin.step (S' := TJ382.setTop (mkF m 104 #[.val (.int i0), .val (.int i1), .val (.int i2), .val (.int i3), .val (.int v3), .val (.int v13), .val (.int v21), .val (.ref b358), .unset, .unset, .unset] [(.int v21)])) (fun t k => XS.iload XJ382.here hx rfl (hb hby at_102) rfl  k) ?_
                          have J383 : ∀ (TJ383 : State) (LJ383 : List Loc) (hJ383 : Heap), Stand p l e room_1 s m #[(.int i0), (.int i1), (.int i2), (.int i3)] below meth c TJ383 LJ383 15 226 → TJ383.heap = hJ383 → Fr n0 LJ383 → h0.size ≤ hJ383.size → own_WK Z hJ383 n0 b358 ((own_s7 v3 v13 v21).1) ((own_s7 v3 v13 v21).2) → own_Fin p.tables e below (own_post (Q0 Z i0 i1 i2 i3 h0 n0) s 48 576) (TJ383.setTop (mkF m 113 #[.val (.int i0), .val (.int i1), .val (.int i2), .val (.int i3), .val (.int v3), .val (.int v13), .val (.int v21), .val (.ref b358), .unset, .unset, .unset] [])) := by
                            as_aux_lemma =>
                              intro TJ383 LJ383 hJ383  XJ383 eJ383 NJ383 zJ383 FJ383_0
                              refine own_Fin.step (S' := TJ383.setTop (mkF m 115 #[.val (.int i0), .val (.int i1), .val (.int i2), .val (.int i3), .val (.int v3), .val (.int v13), .val (.int v21), .val (.ref b358), .unset, .unset, .unset] [(.int v21)])) (fun t k => XS.iload XJ383.here hx rfl (hb hby at_113) rfl  k) ?_
                              refine own_Fin.step (S' := TJ383.setTop (mkF m 116 #[.val (.int i0), .val (.int i1), .val (.int i2), .val (.int i3), .val (.int v3), .val (.int v13), .val (.int v21), .val (.ref b358), .unset, .unset, .unset] [(.int (1 : Int32)), (.int v21)])) (fun t k => XS.iconst XJ383.here hx rfl (hb hby at_115) k) ?_
                              have J384 : ∀ (TJ384 : State) (LJ384 : List Loc) (hJ384 : Heap), Stand p l e room_1 s m #[(.int i0), (.int i1), (.int i2), (.int i3)] below meth c TJ384 LJ384 15 226 → TJ384.heap = hJ384 → Fr n0 LJ384 → h0.size ≤ hJ384.size → own_WK Z hJ384 n0 b358 ((own_s8 v3 v13 v21).1) ((own_s8 v3 v13 v21).2) → own_Fin p.tables e below (own_post (Q0 Z i0 i1 i2 i3 h0 n0) s 48 576) (TJ384.setTop (mkF m 125 #[.val (.int i0), .val (.int i1), .val (.int i2), .val (.int i3), .val (.int v3), .val (.int v13), .val (.int v21), .val (.ref b358), .unset, .unset, .unset] [])) := by
                                as_aux_lemma =>
                                  intro TJ384 LJ384 hJ384  XJ384 eJ384 NJ384 zJ384 FJ384_0
                                  refine own_Fin.step (S' := TJ384.setTop (mkF m 127 #[.val (.int i0), .val (.int i1), .val (.int i2), .val (.int i3), .val (.int v3), .val (.int v13), .val (.int v21), .val (.ref b358), .unset, .unset, .unset] [(.ref b358)])) (fun t k => XS.aload XJ384.here hx rfl (hb hby at_125) rfl rfl  k) ?_
                                  have f385 : Exa Z hJ384 b358 "com/example/methodical_checker/methodicalchecker/promela/Walk" := own_WKexa FJ384_0
                                  have lf385 : @LT.lt Nat _ b358 (Array.size hJ384) := f385.lt
                                  obtain ⟨cq386, kq386, q386a, q386b, q386c⟩ := isOf hZ eJ384 f385
                                  obtain ⟨_, _, ⟨T386, L386, k386, n386⟩, -, X386, ⟨Lc386, hQ386, l386, y386, zz386⟩, st386⟩ := XJ384.virtualBack hx (y := (⟨"com/example/methodical_checker/methodicalchecker/promela/Walk", "pendingInOrder", "()[I"⟩ : MethodName)) (z := (⟨"com/example/methodical_checker/methodicalchecker/promela/Walk", "pendingInOrder", "()[I"⟩ : MethodName)) hown (mvT hZ (hw _ (List.mem_of_getElem? (i := 64) rfl))) (mvT hZ (hw _ (List.mem_of_getElem? (i := 65) rfl))) (notFace_of_selects (args := #[]) (mvT hZ (hw _ (List.mem_of_getElem? (i := 67) rfl)))) (mvT hZ (hw _ (List.mem_of_getElem? (i := 67) rfl))) (mvT hZ (hw _ (List.mem_of_getElem? (i := 66) rfl))) (by decide) (backOf (W := 0) (rm6 l Z a0 hw [] b358 ((own_s8 v3 v13 v21).1) ((own_s8 v3 v13 v21).2) hJ384 n0 (by omega) FJ384_0 (own_5 own_k)) hZ (hw _ (List.mem_of_getElem? (i := 68) rfl)) (hw _ (List.mem_of_getElem? (i := 7) rfl)) (by decide) (by decide)) q386a q386c (g := (mkF m 127 #[.val (.int i0), .val (.int i1), .val (.int i2), .val (.int i3), .val (.int v3), .val (.int v13), .val (.int v21), .val (.ref b358), .unset, .unset, .unset] [(.ref b358)])) rfl (by rw [hml]; rfl) (Steps.refl _) (argsL := []) (rest := []) (lenOf pd_0_2 rfl) rfl (by show 2 * 0 + _ ≤ _; exact Nat.le_of_eq rfl) (hb hby at_127) (fun _ _ => ⟨rfl, eJ384, (by decide : 15 + 1 ≤ _), (by decide : 226 + 5 ≤ _)⟩)
                                  dsimp only [Pt.U, Pt.locs, Pt.cells, Pt.slots] at X386 l386 y386 zz386 st386 hQ386
                                  subst l386 y386 zz386
                                  obtain ⟨ob_386, kb_386, rfl, N386q, K386, G386_0, G386_1, U386_0⟩ := hQ386
                                  have N386 := Fr.app NJ384 N386q
                                  have z386 := K386.1
                                  have lt386_1 : @LT.lt Nat _ ob_386 (Array.size T386.heap) := G386_1.lt
                                  refine own_Fin.trans (S' := T386.setTop (mkF m 130 #[.val (.int i0), .val (.int i1), .val (.int i2), .val (.int i3), .val (.int v3), .val (.int v13), .val (.int v21), .val (.ref b358), .unset, .unset, .unset] [(.ref ob_386)])) st386 ?_
                                  refine own_Fin.step (S' := T386.setTop (mkF m 132 #[.val (.int i0), .val (.int i1), .val (.int i2), .val (.int i3), .val (.int v3), .val (.int v13), .val (.int v21), .val (.ref b358), .val (.ref ob_386), .unset, .unset] [])) (fun t k => XS.astore X386.here hx rfl (hb hby at_130) rfl rfl (l' := #[.val (.int i0), .val (.int i1), .val (.int i2), .val (.int i3), .val (.int v3), .val (.int v13), .val (.int v21), .val (.ref b358), .val (.ref ob_386), .unset, .unset]) rfl k) ?_
                                  refine own_Fin.step (S' := T386.setTop (mkF m 134 #[.val (.int i0), .val (.int i1), .val (.int i2), .val (.int i3), .val (.int v3), .val (.int v13), .val (.int v21), .val (.ref b358), .val (.ref ob_386), .unset, .unset] [(.ref b358)])) (fun t k => XS.aload X386.here hx rfl (hb hby at_132) rfl rfl  k) ?_
                                  have f388 : Exa Z T386.heap b358 "com/example/methodical_checker/methodicalchecker/promela/Walk" := (Exa.keep f385 K386)
                                  obtain ⟨cq387, kq387, q387a, q387b, q387c⟩ := isOf hZ rfl f388
                                  obtain ⟨_, _, ⟨T387, L387, k387, n387⟩, -, X387, ⟨Lc387, hQ387, l387, y387, zz387⟩, st387⟩ := X386.virtualBack hx (y := (⟨"com/example/methodical_checker/methodicalchecker/promela/Walk", "pendingInOrder", "()[I"⟩ : MethodName)) (z := (⟨"com/example/methodical_checker/methodicalchecker/promela/Walk", "pendingInOrder", "()[I"⟩ : MethodName)) hown (mvT hZ (hw _ (List.mem_of_getElem? (i := 64) rfl))) (mvT hZ (hw _ (List.mem_of_getElem? (i := 65) rfl))) (notFace_of_selects (args := #[]) (mvT hZ (hw _ (List.mem_of_getElem? (i := 67) rfl)))) (mvT hZ (hw _ (List.mem_of_getElem? (i := 67) rfl))) (mvT hZ (hw _ (List.mem_of_getElem? (i := 66) rfl))) (by decide) (backOf (W := 0) (rm6 l Z a0 hw [] b358 ((own_s8 v3 v13 v21).1) ((own_s8 v3 v13 v21).2) T386.heap n0 (by omega) G386_0 (own_5 own_k)) hZ (hw _ (List.mem_of_getElem? (i := 68) rfl)) (hw _ (List.mem_of_getElem? (i := 7) rfl)) (by decide) (by decide)) q387a q387c (g := (mkF m 134 #[.val (.int i0), .val (.int i1), .val (.int i2), .val (.int i3), .val (.int v3), .val (.int v13), .val (.int v21), .val (.ref b358), .val (.ref ob_386), .unset, .unset] [(.ref b358)])) rfl (by rw [hml]; rfl) (Steps.refl _) (argsL := []) (rest := []) (lenOf pd_0_2 rfl) rfl (by show 2 * 0 + _ ≤ _; exact Nat.le_of_eq rfl) (hb hby at_134) (fun _ _ => ⟨rfl, rfl, (by decide : 16 + 1 ≤ _), (by decide : 231 + 5 ≤ _)⟩)
                                  dsimp only [Pt.U, Pt.locs, Pt.cells, Pt.slots] at X387 l387 y387 zz387 st387 hQ387
                                  subst l387 y387 zz387
                                  obtain ⟨ob_387, kb_387, rfl, N387q, K387, G387_0, G387_1, U387_0⟩ := hQ387
                                  have N387 := Fr.app N386 N387q
                                  have z387 := K387.1
                                  have lt387_1 : @LT.lt Nat _ ob_387 (Array.size T387.heap) := G387_1.lt
                                  refine own_Fin.trans (S' := T387.setTop (mkF m 137 #[.val (.int i0), .val (.int i1), .val (.int i2), .val (.int i3), .val (.int v3), .val (.int v13), .val (.int v21), .val (.ref b358), .val (.ref ob_386), .unset, .unset] [(.ref ob_387)])) st387 ?_
                                  refine own_Fin.step (S' := T387.setTop (mkF m 139 #[.val (.int i0), .val (.int i1), .val (.int i2), .val (.int i3), .val (.int v3), .val (.int v13), .val (.int v21), .val (.ref b358), .val (.ref ob_386), .val (.ref ob_387), .unset] [])) (fun t k => XS.astore X387.here hx rfl (hb hby at_137) rfl rfl (l' := #[.val (.int i0), .val (.int i1), .val (.int i2), .val (.int i3), .val (.int v3), .val (.int v13), .val (.int v21), .val (.ref b358), .val (.ref ob_386), .val (.ref ob_387), .unset]) rfl k) ?_
                                  refine own_Fin.step (S' := T387.setTop (mkF m 141 #[.val (.int i0), .val (.int i1), .val (.int i2), .val (.int i3), .val (.int v3), .val (.int v13), .val (.int v21), .val (.ref b358), .val (.ref ob_386), .val (.ref ob_387), .unset] [(.int v3)])) (fun t k => XS.iload X387.here hx rfl (hb hby at_139) rfl  k) ?_
                                  refine own_Fin.step (S' := T387.setTop (mkF m 143 #[.val (.int i0), .val (.int i1), .val (.int i2), .val (.int i3), .val (.int v3), .val (.int v13), .val (.int v21), .val (.ref b358), .val (.ref ob_386), .val (.ref ob_387), .unset] [(.int v13), (.int v3)])) (fun t k => XS.iload X387.here hx rfl (hb hby at_141) rfl  k) ?_
                                  refine own_Fin.step (S' := T387.setTop (mkF m 144 #[.val (.int i0), .val (.int i1), .val (.int i2), .val (.int i3), .val (.int v3), .val (.int v13), .val (.int v21), .val (.ref b358), .val (.ref ob_386), .val (.ref ob_387), .unset] [(.int (v3 - v13))])) (fun t k => XS.isub X387.here hx rfl (hb hby at_143) rfl k) ?_
                                  refine own_Fin.step (S' := T387.setTop (mkF m 146 #[.val (.int i0), .val (.int i1), .val (.int i2), .val (.int i3), .val (.int v3), .val (.int v13), .val (.int v21), .val (.ref b358), .val (.ref ob_386), .val (.ref ob_387), .unset] [(.int v21), (.int (v3 - v13))])) (fun t k => XS.iload X387.here hx rfl (hb hby at_144) rfl  k) ?_
                                  refine own_Fin.step (S' := T387.setTop (mkF m 147 #[.val (.int i0), .val (.int i1), .val (.int i2), .val (.int i3), .val (.int v3), .val (.int v13), .val (.int v21), .val (.ref b358), .val (.ref ob_386), .val (.ref ob_387), .unset] [(.int ((v3 - v13) + v21))])) (fun t k => XS.iadd X387.here hx rfl (hb hby at_146) rfl k) ?_
                                  obtain ⟨v147, hv147⟩ : ∃ z : Int32, z = ((v3 - v13) + v21) := ⟨_, rfl⟩
                                  rw [← hv147]
                                  refine own_Fin.step (S' := T387.setTop (mkF m 149 #[.val (.int i0), .val (.int i1), .val (.int i2), .val (.int i3), .val (.int v3), .val (.int v13), .val (.int v21), .val (.ref b358), .val (.ref ob_386), .val (.ref ob_387), .val (.int v147)] [])) (fun t k => XS.istore X387.here hx rfl (hb hby at_147) rfl (l' := #[.val (.int i0), .val (.int i1), .val (.int i2), .val (.int i3), .val (.int v3), .val (.int v13), .val (.int v21), .val (.ref b358), .val (.ref ob_386), .val (.ref ob_387), .val (.int v147)]) rfl k) ?_
                                  refine own_Fin.step (S' := T387.setTop (mkF m 151 #[.val (.int i0), .val (.int i1), .val (.int i2), .val (.int i3), .val (.int v3), .val (.int v13), .val (.int v21), .val (.ref b358), .val (.ref ob_386), .val (.ref ob_387), .val (.int v147)] [(.ref ob_386)])) (fun t k => XS.aload X387.here hx rfl (hb hby at_149) rfl rfl  k) ?_
                                  have f389 : Arv Z T387.heap ob_386 kb_386 .int (own_len (own_s8 v3 v13 v21).2) ((own_s8 v3 v13 v21).2.reverse.map Value.int) (.int (0 : Int32)) := (G386_1.keep K387 nin0)
                                  obtain ⟨cl390, Ar390, q390, S390, N390z, Hs390, G390⟩ := id f389
                                  refine own_Fin.step (X387.arraylength hx Ar390.1 (State.isArrayOf_alike hZ.alike Ar390.2.1) (g := (mkF m 151 #[.val (.int i0), .val (.int i1), .val (.int i2), .val (.int i3), .val (.int v3), .val (.int v13), .val (.int v21), .val (.ref b358), .val (.ref ob_386), .val (.ref ob_387), .val (.int v147)] [(.ref ob_386)])) rfl rfl (hb hby at_151)) ?_
                                  rw [len_of S390 N390z]
                                  show own_Fin _ _ _ _ (T387.setTop (mkF m 152 #[.val (.int i0), .val (.int i1), .val (.int i2), .val (.int i3), .val (.int v3), .val (.int v13), .val (.int v21), .val (.ref b358), .val (.ref ob_386), .val (.ref ob_387), .val (.int v147)] [(.int (own_len (own_s8 v3 v13 v21).2))]))
                                  refine own_Fin.step (S' := T387.setTop (mkF m 154 #[.val (.int i0), .val (.int i1), .val (.int i2), .val (.int i3), .val (.int v3), .val (.int v13), .val (.int v21), .val (.ref b358), .val (.ref ob_386), .val (.ref ob_387), .val (.int v147)] [(.int v147), (.int (own_len (own_s8 v3 v13 v21).2))])) (fun t k => XS.iload X387.here hx rfl (hb hby at_152) rfl  k) ?_
                                  refine own_Fin.step (S' := T387.setTop (mkF m 157 #[.val (.int i0), .val (.int i1), .val (.int i2), .val (.int i3), .val (.int v3), .val (.int v13), .val (.int v21), .val (.ref b358), .val (.ref ob_386), .val (.ref ob_387), .val (.int v147)] [])) (fun t k => XS.icmpNo X387.here hx rfl (hb hby at_154) rfl (teq (own_lenF own_k hv147)).2 k) ?_
                                  refine own_Fin.step (S' := T387.setTop (mkF m 159 #[.val (.int i0), .val (.int i1), .val (.int i2), .val (.int i3), .val (.int v3), .val (.int v13), .val (.int v21), .val (.ref b358), .val (.ref ob_386), .val (.ref ob_387), .val (.int v147)] [(.ref ob_387)])) (fun t k => XS.aload X387.here hx rfl (hb hby at_157) rfl rfl  k) ?_
                                  obtain ⟨cl391, Ar391, q391, S391, N391z, Hs391, G391⟩ := id G387_1
                                  refine own_Fin.step (X387.arraylength hx Ar391.1 (State.isArrayOf_alike hZ.alike Ar391.2.1) (g := (mkF m 159 #[.val (.int i0), .val (.int i1), .val (.int i2), .val (.int i3), .val (.int v3), .val (.int v13), .val (.int v21), .val (.ref b358), .val (.ref ob_386), .val (.ref ob_387), .val (.int v147)] [(.ref ob_387)])) rfl rfl (hb hby at_159)) ?_
                                  rw [len_of S391 N391z]
                                  show own_Fin _ _ _ _ (T387.setTop (mkF m 160 #[.val (.int i0), .val (.int i1), .val (.int i2), .val (.int i3), .val (.int v3), .val (.int v13), .val (.int v21), .val (.ref b358), .val (.ref ob_386), .val (.ref ob_387), .val (.int v147)] [(.int (own_len (own_s8 v3 v13 v21).2))]))
                                  refine own_Fin.step (S' := T387.setTop (mkF m 162 #[.val (.int i0), .val (.int i1), .val (.int i2), .val (.int i3), .val (.int v3), .val (.int v13), .val (.int v21), .val (.ref b358), .val (.ref ob_386), .val (.ref ob_387), .val (.int v147)] [(.int v147), (.int (own_len (own_s8 v3 v13 v21).2))])) (fun t k => XS.iload X387.here hx rfl (hb hby at_160) rfl  k) ?_
                                  refine own_Fin.step (S' := T387.setTop (mkF m 167 #[.val (.int i0), .val (.int i1), .val (.int i2), .val (.int i3), .val (.int v3), .val (.int v13), .val (.int v21), .val (.ref b358), .val (.ref ob_386), .val (.ref ob_387), .val (.int v147)] [])) (fun t k => XS.icmpYes X387.here hx rfl (pc0 := 162) (pc' := 167) rfl (hb hby at_162) rfl (teq (own_lenF own_k hv147)).1 (by decide) (by decide) k) ?_
                                  refine own_Fin.step (S' := T387.setTop (mkF m 169 #[.val (.int i0), .val (.int i1), .val (.int i2), .val (.int i3), .val (.int v3), .val (.int v13), .val (.int v21), .val (.ref b358), .val (.ref ob_386), .val (.ref ob_387), .val (.int v147)] [(.ref ob_386)])) (fun t k => XS.aload X387.here hx rfl (hb hby at_167) rfl rfl  k) ?_
                                  refine own_Fin.step (S' := T387.setTop (mkF m 171 #[.val (.int i0), .val (.int i1), .val (.int i2), .val (.int i3), .val (.int v3), .val (.int v13), .val (.int v21), .val (.ref b358), .val (.ref ob_386), .val (.ref ob_387), .val (.int v147)] [(.ref ob_387), (.ref ob_386)])) (fun t k => XS.aload X387.here hx rfl (hb hby at_169) rfl rfl  k) ?_
                                  refine own_Fin.step (S' := T387.setTop (mkF m 172 #[.val (.int i0), .val (.int i1), .val (.int i2), .val (.int i3), .val (.int v3), .val (.int v13), .val (.int v21), .val (.ref b358), .val (.ref ob_386), .val (.ref ob_387), .val (.int v147)] [(.int (0 : Int32)), (.ref ob_387), (.ref ob_386)])) (fun t k => XS.iconst X387.here hx rfl (hb hby at_171) k) ?_
                                  refine own_Fin.step (S' := T387.setTop (mkF m 174 #[.val (.int i0), .val (.int i1), .val (.int i2), .val (.int i3), .val (.int v3), .val (.int v13), .val (.int v21), .val (.ref b358), .val (.ref ob_386), .val (.ref ob_387), .val (.int v147)] [(.int v147), (.int (0 : Int32)), (.ref ob_387), (.ref ob_386)])) (fun t k => XS.iload X387.here hx rfl (hb hby at_172) rfl  k) ?_
                                  refine own_Fin.step (S' := T387.setTop (mkF m 176 #[.val (.int i0), .val (.int i1), .val (.int i2), .val (.int i3), .val (.int v3), .val (.int v13), .val (.int v21), .val (.ref b358), .val (.ref ob_386), .val (.ref ob_387), .val (.int v147)] [(.int v3), (.int v147), (.int (0 : Int32)), (.ref ob_387), (.ref ob_386)])) (fun t k => XS.iload X387.here hx rfl (hb hby at_174) rfl  k) ?_
                                  refine own_Fin.step (S' := T387.setTop (mkF m 178 #[.val (.int i0), .val (.int i1), .val (.int i2), .val (.int i3), .val (.int v3), .val (.int v13), .val (.int v21), .val (.ref b358), .val (.ref ob_386), .val (.ref ob_387), .val (.int v147)] [(.int v13), (.int v3), (.int v147), (.int (0 : Int32)), (.ref ob_387), (.ref ob_386)])) (fun t k => XS.iload X387.here hx rfl (hb hby at_176) rfl  k) ?_
                                  refine own_Fin.step (S' := T387.setTop (mkF m 180 #[.val (.int i0), .val (.int i1), .val (.int i2), .val (.int i3), .val (.int v3), .val (.int v13), .val (.int v21), .val (.ref b358), .val (.ref ob_386), .val (.ref ob_387), .val (.int v147)] [(.int v21), (.int v13), (.int v3), (.int v147), (.int (0 : Int32)), (.ref ob_387), (.ref ob_386)])) (fun t k => XS.iload X387.here hx rfl (hb hby at_178) rfl  k) ?_
                                  obtain ⟨_, _, ⟨T392, L392, k392, n392⟩, -, X392, ⟨Lc392, hQ392, l392, y392, zz392⟩, st392⟩ := Jvm.LawKit.callS X387 hx (y := (⟨"com/example/methodical_checker/methodicalchecker/promela/WalkPendingInOrderPinLaw", "at", "([I[IIIIII)Z"⟩ : MethodName)) hown (mvT hZ (hw _ (List.mem_of_getElem? (i := 69) rfl))) (mvT hZ (hw _ (List.mem_of_getElem? (i := 70) rfl))) (mvT hZ (hw _ (List.mem_of_getElem? (i := 53) rfl))) (mvT hZ (hw _ (List.mem_of_getElem? (i := 71) rfl))) (by decide) (backOf (W := 0) (rm7 l Z a0 hw [] ob_386 ob_387 (0 : Int32) v147 v3 v13 v21 kb_386 kb_387 (own_len (own_s8 v3 v13 v21).2) (own_len (own_s8 v3 v13 v21).2) ((own_s8 v3 v13 v21).2.reverse.map Value.int) ((own_s8 v3 v13 v21).2.reverse.map Value.int) T387.heap n0 (by omega) f389 G387_1 (own_at0 own_k hv147)) hZ (hw _ (List.mem_of_getElem? (i := 71) rfl)) (hw _ (List.mem_of_getElem? (i := 53) rfl)) (by decide) (by decide)) (g := (mkF m 180 #[.val (.int i0), .val (.int i1), .val (.int i2), .val (.int i3), .val (.int v3), .val (.int v13), .val (.int v21), .val (.ref b358), .val (.ref ob_386), .val (.ref ob_387), .val (.int v147)] [(.int v21), (.int v13), (.int v3), (.int v147), (.int (0 : Int32)), (.ref ob_387), (.ref ob_386)])) rfl (by rw [hml]; rfl) (argsL := [(.ref ob_386), (.ref ob_387), (.int (0 : Int32)), (.int v147), (.int v3), (.int v13), (.int v21)]) (rest := []) (lenOf pd_0_3 rfl) rfl (by show 2 * 0 + _ ≤ _; exact Nat.le_of_eq rfl) (hb hby at_180) (fun _ _ => ⟨rfl, rfl, (by decide : 17 + 0 ≤ _), (by decide : 236 + 0 ≤ _)⟩)
                                  dsimp only [Pt.U, Pt.locs, Pt.cells, Pt.slots] at X392 l392 y392 zz392 st392 hQ392
                                  subst l392 y392 zz392
                                  obtain ⟨rfl, N392q, e392⟩ := hQ392
                                  have N392 := Fr.app N387 N392q
                                  refine own_Fin.step (S' := T392.setTop (mkF m 183 #[.val (.int i0), .val (.int i1), .val (.int i2), .val (.int i3), .val (.int v3), .val (.int v13), .val (.int v21), .val (.ref b358), .val (.ref ob_386), .val (.ref ob_387), .val (.int v147)] [(.int (1 : Int32))])) st392 ?_
                                  refine own_Fin.step (S' := T392.setTop (mkF m 186 #[.val (.int i0), .val (.int i1), .val (.int i2), .val (.int i3), .val (.int v3), .val (.int v13), .val (.int v21), .val (.ref b358), .val (.ref ob_386), .val (.ref ob_387), .val (.int v147)] [])) (fun t k => XS.ifNo X392.here hx rfl (hb hby at_183) rfl ((if0 _ _).trans (feq (by decide : ¬ ((1 : Int32) = (0 : Int32)))).1) k) ?_
                                  refine own_Fin.step (S' := T392.setTop (mkF m 188 #[.val (.int i0), .val (.int i1), .val (.int i2), .val (.int i3), .val (.int v3), .val (.int v13), .val (.int v21), .val (.ref b358), .val (.ref ob_386), .val (.ref ob_387), .val (.int v147)] [(.ref ob_386)])) (fun t k => XS.aload X392.here hx rfl (hb hby at_186) rfl rfl  k) ?_
                                  refine own_Fin.step (S' := T392.setTop (mkF m 190 #[.val (.int i0), .val (.int i1), .val (.int i2), .val (.int i3), .val (.int v3), .val (.int v13), .val (.int v21), .val (.ref b358), .val (.ref ob_386), .val (.ref ob_387), .val (.int v147)] [(.ref ob_387), (.ref ob_386)])) (fun t k => XS.aload X392.here hx rfl (hb hby at_188) rfl rfl  k) ?_
                                  refine own_Fin.step (S' := T392.setTop (mkF m 191 #[.val (.int i0), .val (.int i1), .val (.int i2), .val (.int i3), .val (.int v3), .val (.int v13), .val (.int v21), .val (.ref b358), .val (.ref ob_386), .val (.ref ob_387), .val (.int v147)] [(.int (1 : Int32)), (.ref ob_387), (.ref ob_386)])) (fun t k => XS.iconst X392.here hx rfl (hb hby at_190) k) ?_
                                  refine own_Fin.step (S' := T392.setTop (mkF m 193 #[.val (.int i0), .val (.int i1), .val (.int i2), .val (.int i3), .val (.int v3), .val (.int v13), .val (.int v21), .val (.ref b358), .val (.ref ob_386), .val (.ref ob_387), .val (.int v147)] [(.int v147), (.int (1 : Int32)), (.ref ob_387), (.ref ob_386)])) (fun t k => XS.iload X392.here hx rfl (hb hby at_191) rfl  k) ?_
                                  refine own_Fin.step (S' := T392.setTop (mkF m 195 #[.val (.int i0), .val (.int i1), .val (.int i2), .val (.int i3), .val (.int v3), .val (.int v13), .val (.int v21), .val (.ref b358), .val (.ref ob_386), .val (.ref ob_387), .val (.int v147)] [(.int v3), (.int v147), (.int (1 : Int32)), (.ref ob_387), (.ref ob_386)])) (fun t k => XS.iload X392.here hx rfl (hb hby at_193) rfl  k) ?_
                                  refine own_Fin.step (S' := T392.setTop (mkF m 197 #[.val (.int i0), .val (.int i1), .val (.int i2), .val (.int i3), .val (.int v3), .val (.int v13), .val (.int v21), .val (.ref b358), .val (.ref ob_386), .val (.ref ob_387), .val (.int v147)] [(.int v13), (.int v3), (.int v147), (.int (1 : Int32)), (.ref ob_387), (.ref ob_386)])) (fun t k => XS.iload X392.here hx rfl (hb hby at_195) rfl  k) ?_
                                  refine own_Fin.step (S' := T392.setTop (mkF m 199 #[.val (.int i0), .val (.int i1), .val (.int i2), .val (.int i3), .val (.int v3), .val (.int v13), .val (.int v21), .val (.ref b358), .val (.ref ob_386), .val (.ref ob_387), .val (.int v147)] [(.int v21), (.int v13), (.int v3), (.int v147), (.int (1 : Int32)), (.ref ob_387), (.ref ob_386)])) (fun t k => XS.iload X392.here hx rfl (hb hby at_197) rfl  k) ?_
                                  obtain ⟨_, _, ⟨T393, L393, k393, n393⟩, -, X393, ⟨Lc393, hQ393, l393, y393, zz393⟩, st393⟩ := Jvm.LawKit.callS X392 hx (y := (⟨"com/example/methodical_checker/methodicalchecker/promela/WalkPendingInOrderPinLaw", "at", "([I[IIIIII)Z"⟩ : MethodName)) hown (mvT hZ (hw _ (List.mem_of_getElem? (i := 69) rfl))) (mvT hZ (hw _ (List.mem_of_getElem? (i := 70) rfl))) (mvT hZ (hw _ (List.mem_of_getElem? (i := 53) rfl))) (mvT hZ (hw _ (List.mem_of_getElem? (i := 71) rfl))) (by decide) (backOf (W := 0) (rm7 l Z a0 hw [] ob_386 ob_387 (1 : Int32) v147 v3 v13 v21 kb_386 kb_387 (own_len (own_s8 v3 v13 v21).2) (own_len (own_s8 v3 v13 v21).2) ((own_s8 v3 v13 v21).2.reverse.map Value.int) ((own_s8 v3 v13 v21).2.reverse.map Value.int) T387.heap n0 (by omega) f389 G387_1 (own_at1 own_k hv147)) hZ (hw _ (List.mem_of_getElem? (i := 71) rfl)) (hw _ (List.mem_of_getElem? (i := 53) rfl)) (by decide) (by decide)) (g := (mkF m 199 #[.val (.int i0), .val (.int i1), .val (.int i2), .val (.int i3), .val (.int v3), .val (.int v13), .val (.int v21), .val (.ref b358), .val (.ref ob_386), .val (.ref ob_387), .val (.int v147)] [(.int v21), (.int v13), (.int v3), (.int v147), (.int (1 : Int32)), (.ref ob_387), (.ref ob_386)])) rfl (by rw [hml]; rfl) (argsL := [(.ref ob_386), (.ref ob_387), (.int (1 : Int32)), (.int v147), (.int v3), (.int v13), (.int v21)]) (rest := []) (lenOf pd_0_3 rfl) rfl (by show 2 * 0 + _ ≤ _; exact Nat.le_of_eq rfl) (hb hby at_199) (fun _ _ => ⟨rfl, e392, (by decide : 17 + 0 ≤ _), (by decide : 236 + 0 ≤ _)⟩)
                                  dsimp only [Pt.U, Pt.locs, Pt.cells, Pt.slots] at X393 l393 y393 zz393 st393 hQ393
                                  subst l393 y393 zz393
                                  obtain ⟨rfl, N393q, e393⟩ := hQ393
                                  have N393 := Fr.app N392 N393q
                                  refine own_Fin.step (S' := T393.setTop (mkF m 202 #[.val (.int i0), .val (.int i1), .val (.int i2), .val (.int i3), .val (.int v3), .val (.int v13), .val (.int v21), .val (.ref b358), .val (.ref ob_386), .val (.ref ob_387), .val (.int v147)] [(.int (1 : Int32))])) st393 ?_
                                  refine own_Fin.step (S' := T393.setTop (mkF m 205 #[.val (.int i0), .val (.int i1), .val (.int i2), .val (.int i3), .val (.int v3), .val (.int v13), .val (.int v21), .val (.ref b358), .val (.ref ob_386), .val (.ref ob_387), .val (.int v147)] [])) (fun t k => XS.ifNo X393.here hx rfl (hb hby at_202) rfl ((if0 _ _).trans (feq (by decide : ¬ ((1 : Int32) = (0 : Int32)))).1) k) ?_
                                  refine own_Fin.step (S' := T393.setTop (mkF m 207 #[.val (.int i0), .val (.int i1), .val (.int i2), .val (.int i3), .val (.int v3), .val (.int v13), .val (.int v21), .val (.ref b358), .val (.ref ob_386), .val (.ref ob_387), .val (.int v147)] [(.ref ob_386)])) (fun t k => XS.aload X393.here hx rfl (hb hby at_205) rfl rfl  k) ?_
                                  refine own_Fin.step (S' := T393.setTop (mkF m 209 #[.val (.int i0), .val (.int i1), .val (.int i2), .val (.int i3), .val (.int v3), .val (.int v13), .val (.int v21), .val (.ref b358), .val (.ref ob_386), .val (.ref ob_387), .val (.int v147)] [(.ref ob_387), (.ref ob_386)])) (fun t k => XS.aload X393.here hx rfl (hb hby at_207) rfl rfl  k) ?_
                                  refine own_Fin.step (S' := T393.setTop (mkF m 210 #[.val (.int i0), .val (.int i1), .val (.int i2), .val (.int i3), .val (.int v3), .val (.int v13), .val (.int v21), .val (.ref b358), .val (.ref ob_386), .val (.ref ob_387), .val (.int v147)] [(.int (2 : Int32)), (.ref ob_387), (.ref ob_386)])) (fun t k => XS.iconst X393.here hx rfl (hb hby at_209) k) ?_
                                  refine own_Fin.step (S' := T393.setTop (mkF m 212 #[.val (.int i0), .val (.int i1), .val (.int i2), .val (.int i3), .val (.int v3), .val (.int v13), .val (.int v21), .val (.ref b358), .val (.ref ob_386), .val (.ref ob_387), .val (.int v147)] [(.int v147), (.int (2 : Int32)), (.ref ob_387), (.ref ob_386)])) (fun t k => XS.iload X393.here hx rfl (hb hby at_210) rfl  k) ?_
                                  refine own_Fin.step (S' := T393.setTop (mkF m 214 #[.val (.int i0), .val (.int i1), .val (.int i2), .val (.int i3), .val (.int v3), .val (.int v13), .val (.int v21), .val (.ref b358), .val (.ref ob_386), .val (.ref ob_387), .val (.int v147)] [(.int v3), (.int v147), (.int (2 : Int32)), (.ref ob_387), (.ref ob_386)])) (fun t k => XS.iload X393.here hx rfl (hb hby at_212) rfl  k) ?_
                                  refine own_Fin.step (S' := T393.setTop (mkF m 216 #[.val (.int i0), .val (.int i1), .val (.int i2), .val (.int i3), .val (.int v3), .val (.int v13), .val (.int v21), .val (.ref b358), .val (.ref ob_386), .val (.ref ob_387), .val (.int v147)] [(.int v13), (.int v3), (.int v147), (.int (2 : Int32)), (.ref ob_387), (.ref ob_386)])) (fun t k => XS.iload X393.here hx rfl (hb hby at_214) rfl  k) ?_
                                  refine own_Fin.step (S' := T393.setTop (mkF m 218 #[.val (.int i0), .val (.int i1), .val (.int i2), .val (.int i3), .val (.int v3), .val (.int v13), .val (.int v21), .val (.ref b358), .val (.ref ob_386), .val (.ref ob_387), .val (.int v147)] [(.int v21), (.int v13), (.int v3), (.int v147), (.int (2 : Int32)), (.ref ob_387), (.ref ob_386)])) (fun t k => XS.iload X393.here hx rfl (hb hby at_216) rfl  k) ?_
                                  obtain ⟨_, _, ⟨T394, L394, k394, n394⟩, -, X394, ⟨Lc394, hQ394, l394, y394, zz394⟩, st394⟩ := Jvm.LawKit.callS X393 hx (y := (⟨"com/example/methodical_checker/methodicalchecker/promela/WalkPendingInOrderPinLaw", "at", "([I[IIIIII)Z"⟩ : MethodName)) hown (mvT hZ (hw _ (List.mem_of_getElem? (i := 69) rfl))) (mvT hZ (hw _ (List.mem_of_getElem? (i := 70) rfl))) (mvT hZ (hw _ (List.mem_of_getElem? (i := 53) rfl))) (mvT hZ (hw _ (List.mem_of_getElem? (i := 71) rfl))) (by decide) (backOf (W := 0) (rm7 l Z a0 hw [] ob_386 ob_387 (2 : Int32) v147 v3 v13 v21 kb_386 kb_387 (own_len (own_s8 v3 v13 v21).2) (own_len (own_s8 v3 v13 v21).2) ((own_s8 v3 v13 v21).2.reverse.map Value.int) ((own_s8 v3 v13 v21).2.reverse.map Value.int) T387.heap n0 (by omega) f389 G387_1 (own_at2 own_k hv147)) hZ (hw _ (List.mem_of_getElem? (i := 71) rfl)) (hw _ (List.mem_of_getElem? (i := 53) rfl)) (by decide) (by decide)) (g := (mkF m 218 #[.val (.int i0), .val (.int i1), .val (.int i2), .val (.int i3), .val (.int v3), .val (.int v13), .val (.int v21), .val (.ref b358), .val (.ref ob_386), .val (.ref ob_387), .val (.int v147)] [(.int v21), (.int v13), (.int v3), (.int v147), (.int (2 : Int32)), (.ref ob_387), (.ref ob_386)])) rfl (by rw [hml]; rfl) (argsL := [(.ref ob_386), (.ref ob_387), (.int (2 : Int32)), (.int v147), (.int v3), (.int v13), (.int v21)]) (rest := []) (lenOf pd_0_3 rfl) rfl (by show 2 * 0 + _ ≤ _; exact Nat.le_of_eq rfl) (hb hby at_218) (fun _ _ => ⟨rfl, e393, (by decide : 17 + 0 ≤ _), (by decide : 236 + 0 ≤ _)⟩)
                                  dsimp only [Pt.U, Pt.locs, Pt.cells, Pt.slots] at X394 l394 y394 zz394 st394 hQ394
                                  subst l394 y394 zz394
                                  obtain ⟨rfl, N394q, e394⟩ := hQ394
                                  have N394 := Fr.app N393 N394q
                                  refine own_Fin.step (S' := T394.setTop (mkF m 221 #[.val (.int i0), .val (.int i1), .val (.int i2), .val (.int i3), .val (.int v3), .val (.int v13), .val (.int v21), .val (.ref b358), .val (.ref ob_386), .val (.ref ob_387), .val (.int v147)] [(.int (1 : Int32))])) st394 ?_
                                  refine own_Fin.step (S' := T394.setTop (mkF m 224 #[.val (.int i0), .val (.int i1), .val (.int i2), .val (.int i3), .val (.int v3), .val (.int v13), .val (.int v21), .val (.ref b358), .val (.ref ob_386), .val (.ref ob_387), .val (.int v147)] [])) (fun t k => XS.ifNo X394.here hx rfl (hb hby at_221) rfl ((if0 _ _).trans (feq (by decide : ¬ ((1 : Int32) = (0 : Int32)))).1) k) ?_
                                  refine own_Fin.step (S' := T394.setTop (mkF m 226 #[.val (.int i0), .val (.int i1), .val (.int i2), .val (.int i3), .val (.int v3), .val (.int v13), .val (.int v21), .val (.ref b358), .val (.ref ob_386), .val (.ref ob_387), .val (.int v147)] [(.ref ob_386)])) (fun t k => XS.aload X394.here hx rfl (hb hby at_224) rfl rfl  k) ?_
                                  refine own_Fin.step (S' := T394.setTop (mkF m 228 #[.val (.int i0), .val (.int i1), .val (.int i2), .val (.int i3), .val (.int v3), .val (.int v13), .val (.int v21), .val (.ref b358), .val (.ref ob_386), .val (.ref ob_387), .val (.int v147)] [(.ref ob_387), (.ref ob_386)])) (fun t k => XS.aload X394.here hx rfl (hb hby at_226) rfl rfl  k) ?_
                                  refine own_Fin.step (S' := T394.setTop (mkF m 229 #[.val (.int i0), .val (.int i1), .val (.int i2), .val (.int i3), .val (.int v3), .val (.int v13), .val (.int v21), .val (.ref b358), .val (.ref ob_386), .val (.ref ob_387), .val (.int v147)] [(.int (3 : Int32)), (.ref ob_387), (.ref ob_386)])) (fun t k => XS.iconst X394.here hx rfl (hb hby at_228) k) ?_
                                  refine own_Fin.step (S' := T394.setTop (mkF m 231 #[.val (.int i0), .val (.int i1), .val (.int i2), .val (.int i3), .val (.int v3), .val (.int v13), .val (.int v21), .val (.ref b358), .val (.ref ob_386), .val (.ref ob_387), .val (.int v147)] [(.int v147), (.int (3 : Int32)), (.ref ob_387), (.ref ob_386)])) (fun t k => XS.iload X394.here hx rfl (hb hby at_229) rfl  k) ?_
                                  refine own_Fin.step (S' := T394.setTop (mkF m 233 #[.val (.int i0), .val (.int i1), .val (.int i2), .val (.int i3), .val (.int v3), .val (.int v13), .val (.int v21), .val (.ref b358), .val (.ref ob_386), .val (.ref ob_387), .val (.int v147)] [(.int v3), (.int v147), (.int (3 : Int32)), (.ref ob_387), (.ref ob_386)])) (fun t k => XS.iload X394.here hx rfl (hb hby at_231) rfl  k) ?_
                                  refine own_Fin.step (S' := T394.setTop (mkF m 235 #[.val (.int i0), .val (.int i1), .val (.int i2), .val (.int i3), .val (.int v3), .val (.int v13), .val (.int v21), .val (.ref b358), .val (.ref ob_386), .val (.ref ob_387), .val (.int v147)] [(.int v13), (.int v3), (.int v147), (.int (3 : Int32)), (.ref ob_387), (.ref ob_386)])) (fun t k => XS.iload X394.here hx rfl (hb hby at_233) rfl  k) ?_
                                  refine own_Fin.step (S' := T394.setTop (mkF m 237 #[.val (.int i0), .val (.int i1), .val (.int i2), .val (.int i3), .val (.int v3), .val (.int v13), .val (.int v21), .val (.ref b358), .val (.ref ob_386), .val (.ref ob_387), .val (.int v147)] [(.int v21), (.int v13), (.int v3), (.int v147), (.int (3 : Int32)), (.ref ob_387), (.ref ob_386)])) (fun t k => XS.iload X394.here hx rfl (hb hby at_235) rfl  k) ?_
                                  obtain ⟨_, _, ⟨T395, L395, k395, n395⟩, -, X395, ⟨Lc395, hQ395, l395, y395, zz395⟩, st395⟩ := Jvm.LawKit.callS X394 hx (y := (⟨"com/example/methodical_checker/methodicalchecker/promela/WalkPendingInOrderPinLaw", "at", "([I[IIIIII)Z"⟩ : MethodName)) hown (mvT hZ (hw _ (List.mem_of_getElem? (i := 69) rfl))) (mvT hZ (hw _ (List.mem_of_getElem? (i := 70) rfl))) (mvT hZ (hw _ (List.mem_of_getElem? (i := 53) rfl))) (mvT hZ (hw _ (List.mem_of_getElem? (i := 71) rfl))) (by decide) (backOf (W := 0) (rm7 l Z a0 hw [] ob_386 ob_387 (3 : Int32) v147 v3 v13 v21 kb_386 kb_387 (own_len (own_s8 v3 v13 v21).2) (own_len (own_s8 v3 v13 v21).2) ((own_s8 v3 v13 v21).2.reverse.map Value.int) ((own_s8 v3 v13 v21).2.reverse.map Value.int) T387.heap n0 (by omega) f389 G387_1 (own_at3 own_k hv147)) hZ (hw _ (List.mem_of_getElem? (i := 71) rfl)) (hw _ (List.mem_of_getElem? (i := 53) rfl)) (by decide) (by decide)) (g := (mkF m 237 #[.val (.int i0), .val (.int i1), .val (.int i2), .val (.int i3), .val (.int v3), .val (.int v13), .val (.int v21), .val (.ref b358), .val (.ref ob_386), .val (.ref ob_387), .val (.int v147)] [(.int v21), (.int v13), (.int v3), (.int v147), (.int (3 : Int32)), (.ref ob_387), (.ref ob_386)])) rfl (by rw [hml]; rfl) (argsL := [(.ref ob_386), (.ref ob_387), (.int (3 : Int32)), (.int v147), (.int v3), (.int v13), (.int v21)]) (rest := []) (lenOf pd_0_3 rfl) rfl (by show 2 * 0 + _ ≤ _; exact Nat.le_of_eq rfl) (hb hby at_237) (fun _ _ => ⟨rfl, e394, (by decide : 17 + 0 ≤ _), (by decide : 236 + 0 ≤ _)⟩)
                                  dsimp only [Pt.U, Pt.locs, Pt.cells, Pt.slots] at X395 l395 y395 zz395 st395 hQ395
                                  subst l395 y395 zz395
                                  obtain ⟨rfl, N395q, e395⟩ := hQ395
                                  have N395 := Fr.app N394 N395q
                                  refine own_Fin.step (S' := T395.setTop (mkF m 240 #[.val (.int i0), .val (.int i1), .val (.int i2), .val (.int i3), .val (.int v3), .val (.int v13), .val (.int v21), .val (.ref b358), .val (.ref ob_386), .val (.ref ob_387), .val (.int v147)] [(.int (1 : Int32))])) st395 ?_
                                  refine own_Fin.step (S' := T395.setTop (mkF m 243 #[.val (.int i0), .val (.int i1), .val (.int i2), .val (.int i3), .val (.int v3), .val (.int v13), .val (.int v21), .val (.ref b358), .val (.ref ob_386), .val (.ref ob_387), .val (.int v147)] [])) (fun t k => XS.ifNo X395.here hx rfl (hb hby at_240) rfl ((if0 _ _).trans (feq (by decide : ¬ ((1 : Int32) = (0 : Int32)))).1) k) ?_
                                  refine own_Fin.step (S' := T395.setTop (mkF m 245 #[.val (.int i0), .val (.int i1), .val (.int i2), .val (.int i3), .val (.int v3), .val (.int v13), .val (.int v21), .val (.ref b358), .val (.ref ob_386), .val (.ref ob_387), .val (.int v147)] [(.ref ob_386)])) (fun t k => XS.aload X395.here hx rfl (hb hby at_243) rfl rfl  k) ?_
                                  refine own_Fin.step (S' := T395.setTop (mkF m 247 #[.val (.int i0), .val (.int i1), .val (.int i2), .val (.int i3), .val (.int v3), .val (.int v13), .val (.int v21), .val (.ref b358), .val (.ref ob_386), .val (.ref ob_387), .val (.int v147)] [(.ref ob_387), (.ref ob_386)])) (fun t k => XS.aload X395.here hx rfl (hb hby at_245) rfl rfl  k) ?_
                                  refine own_Fin.step (S' := T395.setTop (mkF m 248 #[.val (.int i0), .val (.int i1), .val (.int i2), .val (.int i3), .val (.int v3), .val (.int v13), .val (.int v21), .val (.ref b358), .val (.ref ob_386), .val (.ref ob_387), .val (.int v147)] [(.int (4 : Int32)), (.ref ob_387), (.ref ob_386)])) (fun t k => XS.iconst X395.here hx rfl (hb hby at_247) k) ?_
                                  refine own_Fin.step (S' := T395.setTop (mkF m 250 #[.val (.int i0), .val (.int i1), .val (.int i2), .val (.int i3), .val (.int v3), .val (.int v13), .val (.int v21), .val (.ref b358), .val (.ref ob_386), .val (.ref ob_387), .val (.int v147)] [(.int v147), (.int (4 : Int32)), (.ref ob_387), (.ref ob_386)])) (fun t k => XS.iload X395.here hx rfl (hb hby at_248) rfl  k) ?_
                                  as_aux_lemma =>
                                    refine own_Fin.step (S' := T395.setTop (mkF m 252 #[.val (.int i0), .val (.int i1), .val (.int i2), .val (.int i3), .val (.int v3), .val (.int v13), .val (.int v21), .val (.ref b358), .val (.ref ob_386), .val (.ref ob_387), .val (.int v147)] [(.int v3), (.int v147), (.int (4 : Int32)), (.ref ob_387), (.ref ob_386)])) (fun t k => XS.iload X395.here hx rfl (hb hby at_250) rfl  k) ?_
                                    refine own_Fin.step (S' := T395.setTop (mkF m 254 #[.val (.int i0), .val (.int i1), .val (.int i2), .val (.int i3), .val (.int v3), .val (.int v13), .val (.int v21), .val (.ref b358), .val (.ref ob_386), .val (.ref ob_387), .val (.int v147)] [(.int v13), (.int v3), (.int v147), (.int (4 : Int32)), (.ref ob_387), (.ref ob_386)])) (fun t k => XS.iload X395.here hx rfl (hb hby at_252) rfl  k) ?_
                                    refine own_Fin.step (S' := T395.setTop (mkF m 256 #[.val (.int i0), .val (.int i1), .val (.int i2), .val (.int i3), .val (.int v3), .val (.int v13), .val (.int v21), .val (.ref b358), .val (.ref ob_386), .val (.ref ob_387), .val (.int v147)] [(.int v21), (.int v13), (.int v3), (.int v147), (.int (4 : Int32)), (.ref ob_387), (.ref ob_386)])) (fun t k => XS.iload X395.here hx rfl (hb hby at_254) rfl  k) ?_
                                    obtain ⟨_, _, ⟨T396, L396, k396, n396⟩, -, X396, ⟨Lc396, hQ396, l396, y396, zz396⟩, st396⟩ := Jvm.LawKit.callS X395 hx (y := (⟨"com/example/methodical_checker/methodicalchecker/promela/WalkPendingInOrderPinLaw", "at", "([I[IIIIII)Z"⟩ : MethodName)) hown (mvT hZ (hw _ (List.mem_of_getElem? (i := 69) rfl))) (mvT hZ (hw _ (List.mem_of_getElem? (i := 70) rfl))) (mvT hZ (hw _ (List.mem_of_getElem? (i := 53) rfl))) (mvT hZ (hw _ (List.mem_of_getElem? (i := 71) rfl))) (by decide) (backOf (W := 0) (rm7 l Z a0 hw [] ob_386 ob_387 (4 : Int32) v147 v3 v13 v21 kb_386 kb_387 (own_len (own_s8 v3 v13 v21).2) (own_len (own_s8 v3 v13 v21).2) ((own_s8 v3 v13 v21).2.reverse.map Value.int) ((own_s8 v3 v13 v21).2.reverse.map Value.int) T387.heap n0 (by omega) f389 G387_1 (own_at4 own_k hv147)) hZ (hw _ (List.mem_of_getElem? (i := 71) rfl)) (hw _ (List.mem_of_getElem? (i := 53) rfl)) (by decide) (by decide)) (g := (mkF m 256 #[.val (.int i0), .val (.int i1), .val (.int i2), .val (.int i3), .val (.int v3), .val (.int v13), .val (.int v21), .val (.ref b358), .val (.ref ob_386), .val (.ref ob_387), .val (.int v147)] [(.int v21), (.int v13), (.int v3), (.int v147), (.int (4 : Int32)), (.ref ob_387), (.ref ob_386)])) rfl (by rw [hml]; rfl) (argsL := [(.ref ob_386), (.ref ob_387), (.int (4 : Int32)), (.int v147), (.int v3), (.int v13), (.int v21)]) (rest := []) (lenOf pd_0_3 rfl) rfl (by show 2 * 0 + _ ≤ _; exact Nat.le_of_eq rfl) (hb hby at_256) (fun _ _ => ⟨rfl, e395, (by decide : 17 + 0 ≤ _), (by decide : 236 + 0 ≤ _)⟩)
                                    dsimp only [Pt.U, Pt.locs, Pt.cells, Pt.slots] at X396 l396 y396 zz396 st396 hQ396
                                    subst l396 y396 zz396
                                    obtain ⟨rfl, N396q, e396⟩ := hQ396
                                    have N396 := Fr.app N395 N396q
                                    refine own_Fin.step (S' := T396.setTop (mkF m 259 #[.val (.int i0), .val (.int i1), .val (.int i2), .val (.int i3), .val (.int v3), .val (.int v13), .val (.int v21), .val (.ref b358), .val (.ref ob_386), .val (.ref ob_387), .val (.int v147)] [(.int (1 : Int32))])) st396 ?_
                                    refine own_Fin.step (S' := T396.setTop (mkF m 262 #[.val (.int i0), .val (.int i1), .val (.int i2), .val (.int i3), .val (.int v3), .val (.int v13), .val (.int v21), .val (.ref b358), .val (.ref ob_386), .val (.ref ob_387), .val (.int v147)] [])) (fun t k => XS.ifNo X396.here hx rfl (hb hby at_259) rfl ((if0 _ _).trans (feq (by decide : ¬ ((1 : Int32) = (0 : Int32)))).1) k) ?_
                                    refine own_Fin.step (S' := T396.setTop (mkF m 263 #[.val (.int i0), .val (.int i1), .val (.int i2), .val (.int i3), .val (.int v3), .val (.int v13), .val (.int v21), .val (.ref b358), .val (.ref ob_386), .val (.ref ob_387), .val (.int v147)] [(.int (1 : Int32))])) (fun t k => XS.iconst X396.here hx rfl (hb hby at_262) k) ?_
                                    refine own_Fin.step (S' := T396.setTop (mkF m 267 #[.val (.int i0), .val (.int i1), .val (.int i2), .val (.int i3), .val (.int v3), .val (.int v13), .val (.int v21), .val (.ref b358), .val (.ref ob_386), .val (.ref ob_387), .val (.int v147)] [(.int (1 : Int32))])) (fun t k => XS.goto X396.here hx rfl (pc0 := 263) (pc' := 267) rfl (hb hby at_263) (by decide) (by decide) k) ?_
                                    have hq397 : Q0 Z i0 i1 i2 i3 h0 n0 (some (.int (nar .boolean (1 : Int32)))) T387.heap _ := ⟨rfl, N396⟩
                                    exact own_retN X396 hx hlk (t := .boolean) hrt (by simp) (hb hby at_267) e396 hq397 (by decide) (by decide)
                              by_cases hc116 : (1 : Int32) < v21
                              · refine own_Fin.step (S' := TJ383.setTop (mkF m 119 #[.val (.int i0), .val (.int i1), .val (.int i2), .val (.int i3), .val (.int v3), .val (.int v13), .val (.int v21), .val (.ref b358), .unset, .unset, .unset] [])) (fun t k => XS.icmpNo XJ383.here hx rfl (hb hby at_116) rfl (tlt hc116).2.2.2 k) ?_
                                refine own_Fin.step (S' := TJ383.setTop (mkF m 121 #[.val (.int i0), .val (.int i1), .val (.int i2), .val (.int i3), .val (.int v3), .val (.int v13), .val (.int v21), .val (.ref b358), .unset, .unset, .unset] [(.ref b358)])) (fun t k => XS.aload XJ383.here hx rfl (hb hby at_119) rfl rfl  k) ?_
                                refine own_Fin.step (S' := TJ383.setTop (mkF m 122 #[.val (.int i0), .val (.int i1), .val (.int i2), .val (.int i3), .val (.int v3), .val (.int v13), .val (.int v21), .val (.ref b358), .unset, .unset, .unset] [(.int i3), (.ref b358)])) (fun t k => XS.iloadN XJ383.here hx rfl (hb hby at_121) rfl  k) ?_
                                obtain ⟨_, _, ⟨T398, L398, k398, n398⟩, -, X398, ⟨Lc398, hQ398, l398, y398, zz398⟩, st398⟩ := Jvm.LawKit.callS XJ383 hx (y := (⟨"com/example/methodical_checker/methodicalchecker/promela/WalkPendingInOrderPinLaw", "push", "(Lcom/example/methodical_checker/methodicalchecker/promela/Walk;I)V"⟩ : MethodName)) hown (mvT hZ (hw _ (List.mem_of_getElem? (i := 51) rfl))) (mvT hZ (hw _ (List.mem_of_getElem? (i := 52) rfl))) (mvT hZ (hw _ (List.mem_of_getElem? (i := 53) rfl))) (mvT hZ (hw _ (List.mem_of_getElem? (i := 54) rfl))) (by decide) (backOf (W := 0) (rm4 l Z a0 hw [] b358 i3 ((own_s7 v3 v13 v21).1) ((own_s7 v3 v13 v21).2) hJ383 n0 (by omega) FJ383_0 (own_bb _ (List.mem_of_getElem? (i := 5) rfl)).1 (own_bb _ (List.mem_of_getElem? (i := 5) rfl)).2) hZ (hw _ (List.mem_of_getElem? (i := 54) rfl)) (hw _ (List.mem_of_getElem? (i := 53) rfl)) (by decide) (by decide)) (g := (mkF m 122 #[.val (.int i0), .val (.int i1), .val (.int i2), .val (.int i3), .val (.int v3), .val (.int v13), .val (.int v21), .val (.ref b358), .unset, .unset, .unset] [(.int i3), (.ref b358)])) rfl (by rw [hml]; rfl) (argsL := [(.ref b358), (.int i3)]) (rest := []) (lenOf pd_0_4 rfl) rfl (by show 2 * 0 + _ ≤ _; exact Nat.le_of_eq rfl) (hb hby at_122) (fun _ _ => ⟨rfl, eJ383, (by decide : 15 + 0 ≤ _), (by decide : 226 + 0 ≤ _)⟩)
                                dsimp only [Pt.U, Pt.locs, Pt.cells, Pt.slots] at X398 l398 y398 zz398 st398 hQ398
                                subst l398 y398 zz398
                                obtain ⟨rfl, N398q, K398, G398_0⟩ := hQ398
                                have N398 := Fr.app NJ383 N398q
                                refine own_Fin.step (S' := T398.setTop (mkF m 125 #[.val (.int i0), .val (.int i1), .val (.int i2), .val (.int i3), .val (.int v3), .val (.int v13), .val (.int v21), .val (.ref b358), .unset, .unset, .unset] [])) st398 ?_
                                exact J384 _ _ _  (X398.more (by decide) (by decide)) rfl N398 (by omega) (by rw [(own_t8 hc116).1, (own_t8 hc116).2]; exact G398_0) 
                              · refine own_Fin.step (S' := TJ383.setTop (mkF m 125 #[.val (.int i0), .val (.int i1), .val (.int i2), .val (.int i3), .val (.int v3), .val (.int v13), .val (.int v21), .val (.ref b358), .unset, .unset, .unset] [])) (fun t k => XS.icmpYes XJ383.here hx rfl (pc0 := 116) (pc' := 125) rfl (hb hby at_116) rfl (flt hc116).2.2.2 (by decide) (by decide) k) ?_
                                exact J384 _ _ _  (XJ383.more (by decide) (by decide)) eJ383 NJ383 (by omega) (by rw [(own_f8 hc116).1, (own_f8 hc116).2]; exact FJ383_0) 
                          by_cases hc104 : (0 : Int32) < v21
                          · refine own_Fin.step (S' := TJ382.setTop (mkF m 107 #[.val (.int i0), .val (.int i1), .val (.int i2), .val (.int i3), .val (.int v3), .val (.int v13), .val (.int v21), .val (.ref b358), .unset, .unset, .unset] [])) (fun t k => XS.ifNo XJ382.here hx rfl (hb hby at_104) rfl ((if0 _ _).trans (tlt hc104).2.2.2) k) ?_
                            refine own_Fin.step (S' := TJ382.setTop (mkF m 109 #[.val (.int i0), .val (.int i1), .val (.int i2), .val (.int i3), .val (.int v3), .val (.int v13), .val (.int v21), .val (.ref b358), .unset, .unset, .unset] [(.ref b358)])) (fun t k => XS.aload XJ382.here hx rfl (hb hby at_107) rfl rfl  k) ?_
                            refine own_Fin.step (S' := TJ382.setTop (mkF m 110 #[.val (.int i0), .val (.int i1), .val (.int i2), .val (.int i3), .val (.int v3), .val (.int v13), .val (.int v21), .val (.ref b358), .unset, .unset, .unset] [(.int i3), (.ref b358)])) (fun t k => XS.iloadN XJ382.here hx rfl (hb hby at_109) rfl  k) ?_
                            obtain ⟨_, _, ⟨T399, L399, k399, n399⟩, -, X399, ⟨Lc399, hQ399, l399, y399, zz399⟩, st399⟩ := Jvm.LawKit.callS XJ382 hx (y := (⟨"com/example/methodical_checker/methodicalchecker/promela/WalkPendingInOrderPinLaw", "push", "(Lcom/example/methodical_checker/methodicalchecker/promela/Walk;I)V"⟩ : MethodName)) hown (mvT hZ (hw _ (List.mem_of_getElem? (i := 51) rfl))) (mvT hZ (hw _ (List.mem_of_getElem? (i := 52) rfl))) (mvT hZ (hw _ (List.mem_of_getElem? (i := 53) rfl))) (mvT hZ (hw _ (List.mem_of_getElem? (i := 54) rfl))) (by decide) (backOf (W := 0) (rm4 l Z a0 hw [] b358 i3 ((own_s6 v3 v13 v21).1) ((own_s6 v3 v13 v21).2) hJ382 n0 (by omega) FJ382_0 (own_bb _ (List.mem_of_getElem? (i := 4) rfl)).1 (own_bb _ (List.mem_of_getElem? (i := 4) rfl)).2) hZ (hw _ (List.mem_of_getElem? (i := 54) rfl)) (hw _ (List.mem_of_getElem? (i := 53) rfl)) (by decide) (by decide)) (g := (mkF m 110 #[.val (.int i0), .val (.int i1), .val (.int i2), .val (.int i3), .val (.int v3), .val (.int v13), .val (.int v21), .val (.ref b358), .unset, .unset, .unset] [(.int i3), (.ref b358)])) rfl (by rw [hml]; rfl) (argsL := [(.ref b358), (.int i3)]) (rest := []) (lenOf pd_0_4 rfl) rfl (by show 2 * 0 + _ ≤ _; exact Nat.le_of_eq rfl) (hb hby at_110) (fun _ _ => ⟨rfl, eJ382, (by decide : 15 + 0 ≤ _), (by decide : 226 + 0 ≤ _)⟩)
                            dsimp only [Pt.U, Pt.locs, Pt.cells, Pt.slots] at X399 l399 y399 zz399 st399 hQ399
                            subst l399 y399 zz399
                            obtain ⟨rfl, N399q, K399, G399_0⟩ := hQ399
                            have N399 := Fr.app NJ382 N399q
                            refine own_Fin.step (S' := T399.setTop (mkF m 113 #[.val (.int i0), .val (.int i1), .val (.int i2), .val (.int i3), .val (.int v3), .val (.int v13), .val (.int v21), .val (.ref b358), .unset, .unset, .unset] [])) st399 ?_
                            exact J383 _ _ _  (X399.more (by decide) (by decide)) rfl N399 (by omega) (by rw [(own_t7 hc104).1, (own_t7 hc104).2]; exact G399_0) 
                          · refine own_Fin.step (S' := TJ382.setTop (mkF m 113 #[.val (.int i0), .val (.int i1), .val (.int i2), .val (.int i3), .val (.int v3), .val (.int v13), .val (.int v21), .val (.ref b358), .unset, .unset, .unset] [])) (fun t k => XS.ifYes XJ382.here hx rfl (pc0 := 104) (pc' := 113) rfl (hb hby at_104) rfl ((if0 _ _).trans (flt hc104).2.2.2) (by decide) (by decide) k) ?_
                            exact J383 _ _ _  (XJ382.more (by decide) (by decide)) eJ382 NJ382 (by omega) (by rw [(own_f7 hc104).1, (own_f7 hc104).2]; exact FJ382_0) 
                      by_cases hc93 : (2 : Int32) < v13
                      · refine own_Fin.step (S' := TJ381.setTop (mkF m 96 #[.val (.int i0), .val (.int i1), .val (.int i2), .val (.int i3), .val (.int v3), .val (.int v13), .val (.int v21), .val (.ref b358), .unset, .unset, .unset] [])) (fun t k => XS.icmpNo XJ381.here hx rfl (hb hby at_93) rfl (tlt hc93).2.2.2 k) ?_
                        refine own_Fin.step (S' := TJ381.setTop (mkF m 98 #[.val (.int i0), .val (.int i1), .val (.int i2), .val (.int i3), .val (.int v3), .val (.int v13), .val (.int v21), .val (.ref b358), .unset, .unset, .unset] [(.ref b358)])) (fun t k => XS.aload XJ381.here hx rfl (hb hby at_96) rfl rfl  k) ?_
                        have own_q5 := (own_ne own_k).2.2 hc93
                        have own_w5 : own_WK Z hJ381 n0 b358 ((own_s5 v3 v13 v21).1) ((own_s5 v3 v13 v21).2.dropLast ++ [(own_s5 v3 v13 v21).2.getLastD 0]) := own_sp own_q5.1 ▸ FJ381_0
                        have f400 : Exa Z hJ381 b358 "com/example/methodical_checker/methodicalchecker/promela/Walk" := own_WKexa own_w5
                        have lf400 : @LT.lt Nat _ b358 (Array.size hJ381) := f400.lt
                        obtain ⟨cq401, kq401, q401a, q401b, q401c⟩ := isOf hZ eJ381 f400
                        obtain ⟨_, _, ⟨T401, L401, k401, n401⟩, -, X401, ⟨Lc401, hQ401, l401, y401, zz401⟩, st401⟩ := XJ381.virtualBack hx (y := (⟨"com/example/methodical_checker/methodicalchecker/promela/Walk", "pop", "()I"⟩ : MethodName)) (z := (⟨"com/example/methodical_checker/methodicalchecker/promela/Walk", "pop", "()I"⟩ : MethodName)) hown (mvT hZ (hw _ (List.mem_of_getElem? (i := 72) rfl))) (mvT hZ (hw _ (List.mem_of_getElem? (i := 73) rfl))) (notFace_of_selects (args := #[]) (mvT hZ (hw _ (List.mem_of_getElem? (i := 75) rfl)))) (mvT hZ (hw _ (List.mem_of_getElem? (i := 75) rfl))) (mvT hZ (hw _ (List.mem_of_getElem? (i := 74) rfl))) (by decide) (backOf (W := 0) (rm8 l Z a0 hw [] b358 ((own_s5 v3 v13 v21).1) ((own_s5 v3 v13 v21).2.dropLast) ((own_s5 v3 v13 v21).2.getLastD 0) hJ381 n0 (by omega) own_w5 (own_dl own_q5.2)) hZ (hw _ (List.mem_of_getElem? (i := 76) rfl)) (hw _ (List.mem_of_getElem? (i := 7) rfl)) (by decide) (by decide)) q401a q401c (g := (mkF m 98 #[.val (.int i0), .val (.int i1), .val (.int i2), .val (.int i3), .val (.int v3), .val (.int v13), .val (.int v21), .val (.ref b358), .unset, .unset, .unset] [(.ref b358)])) rfl (by rw [hml]; rfl) (Steps.refl _) (argsL := []) (rest := []) (lenOf pd_0_5 rfl) rfl (by show 2 * 0 + _ ≤ _; exact Nat.le_of_eq rfl) (hb hby at_98) (fun _ _ => ⟨rfl, eJ381, (by decide : 15 + 0 ≤ _), (by decide : 226 + 0 ≤ _)⟩)
                        dsimp only [Pt.U, Pt.locs, Pt.cells, Pt.slots] at X401 l401 y401 zz401 st401 hQ401
                        subst l401 y401 zz401
                        obtain ⟨rfl, N401q, K401, G401_0⟩ := hQ401
                        have N401 := Fr.app NJ381 N401q
                        refine own_Fin.trans (S' := T401.setTop (mkF m 101 #[.val (.int i0), .val (.int i1), .val (.int i2), .val (.int i3), .val (.int v3), .val (.int v13), .val (.int v21), .val (.ref b358), .unset, .unset, .unset] [(.int ((own_s5 v3 v13 v21).2.getLastD 0))])) st401 ?_
                        refine own_Fin.step (S' := T401.setTop (mkF m 102 #[.val (.int i0), .val (.int i1), .val (.int i2), .val (.int i3), .val (.int v3), .val (.int v13), .val (.int v21), .val (.ref b358), .unset, .unset, .unset] [])) (fun t k => XS.pop X401.here hx rfl (hb hby at_101) rfl rfl k) ?_
                        exact J382 _ _ _  (X401.more (by decide) (by decide)) rfl N401 (by omega) (by rw [(own_t6 hc93).1, (own_t6 hc93).2]; exact G401_0) 
                      · refine own_Fin.step (S' := TJ381.setTop (mkF m 102 #[.val (.int i0), .val (.int i1), .val (.int i2), .val (.int i3), .val (.int v3), .val (.int v13), .val (.int v21), .val (.ref b358), .unset, .unset, .unset] [])) (fun t k => XS.icmpYes XJ381.here hx rfl (pc0 := 93) (pc' := 102) rfl (hb hby at_93) rfl (flt hc93).2.2.2 (by decide) (by decide) k) ?_
                        exact J382 _ _ _  (XJ381.more (by decide) (by decide)) eJ381 NJ381 (by omega) (by rw [(own_f6 hc93).1, (own_f6 hc93).2]; exact FJ381_0) 
                  by_cases hc81 : (1 : Int32) < v13
                  · refine own_Fin.step (S' := TJ380.setTop (mkF m 84 #[.val (.int i0), .val (.int i1), .val (.int i2), .val (.int i3), .val (.int v3), .val (.int v13), .val (.int v21), .val (.ref b358), .unset, .unset, .unset] [])) (fun t k => XS.icmpNo XJ380.here hx rfl (hb hby at_81) rfl (tlt hc81).2.2.2 k) ?_
                    refine own_Fin.step (S' := TJ380.setTop (mkF m 86 #[.val (.int i0), .val (.int i1), .val (.int i2), .val (.int i3), .val (.int v3), .val (.int v13), .val (.int v21), .val (.ref b358), .unset, .unset, .unset] [(.ref b358)])) (fun t k => XS.aload XJ380.here hx rfl (hb hby at_84) rfl rfl  k) ?_
                    have own_q4 := (own_ne own_k).2.1 hc81
                    have own_w4 : own_WK Z hJ380 n0 b358 ((own_s4 v3 v13 v21).1) ((own_s4 v3 v13 v21).2.dropLast ++ [(own_s4 v3 v13 v21).2.getLastD 0]) := own_sp own_q4.1 ▸ FJ380_0
                    have f402 : Exa Z hJ380 b358 "com/example/methodical_checker/methodicalchecker/promela/Walk" := own_WKexa own_w4
                    have lf402 : @LT.lt Nat _ b358 (Array.size hJ380) := f402.lt
                    obtain ⟨cq403, kq403, q403a, q403b, q403c⟩ := isOf hZ eJ380 f402
                    obtain ⟨_, _, ⟨T403, L403, k403, n403⟩, -, X403, ⟨Lc403, hQ403, l403, y403, zz403⟩, st403⟩ := XJ380.virtualBack hx (y := (⟨"com/example/methodical_checker/methodicalchecker/promela/Walk", "pop", "()I"⟩ : MethodName)) (z := (⟨"com/example/methodical_checker/methodicalchecker/promela/Walk", "pop", "()I"⟩ : MethodName)) hown (mvT hZ (hw _ (List.mem_of_getElem? (i := 72) rfl))) (mvT hZ (hw _ (List.mem_of_getElem? (i := 73) rfl))) (notFace_of_selects (args := #[]) (mvT hZ (hw _ (List.mem_of_getElem? (i := 75) rfl)))) (mvT hZ (hw _ (List.mem_of_getElem? (i := 75) rfl))) (mvT hZ (hw _ (List.mem_of_getElem? (i := 74) rfl))) (by decide) (backOf (W := 0) (rm8 l Z a0 hw [] b358 ((own_s4 v3 v13 v21).1) ((own_s4 v3 v13 v21).2.dropLast) ((own_s4 v3 v13 v21).2.getLastD 0) hJ380 n0 (by omega) own_w4 (own_dl own_q4.2)) hZ (hw _ (List.mem_of_getElem? (i := 76) rfl)) (hw _ (List.mem_of_getElem? (i := 7) rfl)) (by decide) (by decide)) q403a q403c (g := (mkF m 86 #[.val (.int i0), .val (.int i1), .val (.int i2), .val (.int i3), .val (.int v3), .val (.int v13), .val (.int v21), .val (.ref b358), .unset, .unset, .unset] [(.ref b358)])) rfl (by rw [hml]; rfl) (Steps.refl _) (argsL := []) (rest := []) (lenOf pd_0_5 rfl) rfl (by show 2 * 0 + _ ≤ _; exact Nat.le_of_eq rfl) (hb hby at_86) (fun _ _ => ⟨rfl, eJ380, (by decide : 15 + 0 ≤ _), (by decide : 226 + 0 ≤ _)⟩)
                    dsimp only [Pt.U, Pt.locs, Pt.cells, Pt.slots] at X403 l403 y403 zz403 st403 hQ403
                    subst l403 y403 zz403
                    obtain ⟨rfl, N403q, K403, G403_0⟩ := hQ403
                    have N403 := Fr.app NJ380 N403q
                    refine own_Fin.trans (S' := T403.setTop (mkF m 89 #[.val (.int i0), .val (.int i1), .val (.int i2), .val (.int i3), .val (.int v3), .val (.int v13), .val (.int v21), .val (.ref b358), .unset, .unset, .unset] [(.int ((own_s4 v3 v13 v21).2.getLastD 0))])) st403 ?_
                    refine own_Fin.step (S' := T403.setTop (mkF m 90 #[.val (.int i0), .val (.int i1), .val (.int i2), .val (.int i3), .val (.int v3), .val (.int v13), .val (.int v21), .val (.ref b358), .unset, .unset, .unset] [])) (fun t k => XS.pop X403.here hx rfl (hb hby at_89) rfl rfl k) ?_
                    exact J381 _ _ _  (X403.more (by decide) (by decide)) rfl N403 (by omega) (by rw [(own_t5 hc81).1, (own_t5 hc81).2]; exact G403_0) 
                  · refine own_Fin.step (S' := TJ380.setTop (mkF m 90 #[.val (.int i0), .val (.int i1), .val (.int i2), .val (.int i3), .val (.int v3), .val (.int v13), .val (.int v21), .val (.ref b358), .unset, .unset, .unset] [])) (fun t k => XS.icmpYes XJ380.here hx rfl (pc0 := 81) (pc' := 90) rfl (hb hby at_81) rfl (flt hc81).2.2.2 (by decide) (by decide) k) ?_
                    exact J381 _ _ _  (XJ380.more (by decide) (by decide)) eJ380 NJ380 (by omega) (by rw [(own_f5 hc81).1, (own_f5 hc81).2]; exact FJ380_0) 
              by_cases hc69 : (0 : Int32) < v13
              · refine own_Fin.step (S' := TJ379.setTop (mkF m 72 #[.val (.int i0), .val (.int i1), .val (.int i2), .val (.int i3), .val (.int v3), .val (.int v13), .val (.int v21), .val (.ref b358), .unset, .unset, .unset] [])) (fun t k => XS.ifNo XJ379.here hx rfl (hb hby at_69) rfl ((if0 _ _).trans (tlt hc69).2.2.2) k) ?_
                refine own_Fin.step (S' := TJ379.setTop (mkF m 74 #[.val (.int i0), .val (.int i1), .val (.int i2), .val (.int i3), .val (.int v3), .val (.int v13), .val (.int v21), .val (.ref b358), .unset, .unset, .unset] [(.ref b358)])) (fun t k => XS.aload XJ379.here hx rfl (hb hby at_72) rfl rfl  k) ?_
                have own_q3 := (own_ne own_k).1 hc69
                have own_w3 : own_WK Z hJ379 n0 b358 ((own_s3 v3 v13 v21).1) ((own_s3 v3 v13 v21).2.dropLast ++ [(own_s3 v3 v13 v21).2.getLastD 0]) := own_sp own_q3.1 ▸ FJ379_0
                have f404 : Exa Z hJ379 b358 "com/example/methodical_checker/methodicalchecker/promela/Walk" := own_WKexa own_w3
                have lf404 : @LT.lt Nat _ b358 (Array.size hJ379) := f404.lt
                obtain ⟨cq405, kq405, q405a, q405b, q405c⟩ := isOf hZ eJ379 f404
                obtain ⟨_, _, ⟨T405, L405, k405, n405⟩, -, X405, ⟨Lc405, hQ405, l405, y405, zz405⟩, st405⟩ := XJ379.virtualBack hx (y := (⟨"com/example/methodical_checker/methodicalchecker/promela/Walk", "pop", "()I"⟩ : MethodName)) (z := (⟨"com/example/methodical_checker/methodicalchecker/promela/Walk", "pop", "()I"⟩ : MethodName)) hown (mvT hZ (hw _ (List.mem_of_getElem? (i := 72) rfl))) (mvT hZ (hw _ (List.mem_of_getElem? (i := 73) rfl))) (notFace_of_selects (args := #[]) (mvT hZ (hw _ (List.mem_of_getElem? (i := 75) rfl)))) (mvT hZ (hw _ (List.mem_of_getElem? (i := 75) rfl))) (mvT hZ (hw _ (List.mem_of_getElem? (i := 74) rfl))) (by decide) (backOf (W := 0) (rm8 l Z a0 hw [] b358 ((own_s3 v3 v13 v21).1) ((own_s3 v3 v13 v21).2.dropLast) ((own_s3 v3 v13 v21).2.getLastD 0) hJ379 n0 (by omega) own_w3 (own_dl own_q3.2)) hZ (hw _ (List.mem_of_getElem? (i := 76) rfl)) (hw _ (List.mem_of_getElem? (i := 7) rfl)) (by decide) (by decide)) q405a q405c (g := (mkF m 74 #[.val (.int i0), .val (.int i1), .val (.int i2), .val (.int i3), .val (.int v3), .val (.int v13), .val (.int v21), .val (.ref b358), .unset, .unset, .unset] [(.ref b358)])) rfl (by rw [hml]; rfl) (Steps.refl _) (argsL := []) (rest := []) (lenOf pd_0_5 rfl) rfl (by show 2 * 0 + _ ≤ _; exact Nat.le_of_eq rfl) (hb hby at_74) (fun _ _ => ⟨rfl, eJ379, (by decide : 15 + 0 ≤ _), (by decide : 226 + 0 ≤ _)⟩)
                dsimp only [Pt.U, Pt.locs, Pt.cells, Pt.slots] at X405 l405 y405 zz405 st405 hQ405
                subst l405 y405 zz405
                obtain ⟨rfl, N405q, K405, G405_0⟩ := hQ405
                have N405 := Fr.app NJ379 N405q
                refine own_Fin.trans (S' := T405.setTop (mkF m 77 #[.val (.int i0), .val (.int i1), .val (.int i2), .val (.int i3), .val (.int v3), .val (.int v13), .val (.int v21), .val (.ref b358), .unset, .unset, .unset] [(.int ((own_s3 v3 v13 v21).2.getLastD 0))])) st405 ?_
                refine own_Fin.step (S' := T405.setTop (mkF m 78 #[.val (.int i0), .val (.int i1), .val (.int i2), .val (.int i3), .val (.int v3), .val (.int v13), .val (.int v21), .val (.ref b358), .unset, .unset, .unset] [])) (fun t k => XS.pop X405.here hx rfl (hb hby at_77) rfl rfl k) ?_
                exact J380 _ _ _  (X405.more (by decide) (by decide)) rfl N405 (by omega) (by rw [(own_t4 hc69).1, (own_t4 hc69).2]; exact G405_0) 
              · refine own_Fin.step (S' := TJ379.setTop (mkF m 78 #[.val (.int i0), .val (.int i1), .val (.int i2), .val (.int i3), .val (.int v3), .val (.int v13), .val (.int v21), .val (.ref b358), .unset, .unset, .unset] [])) (fun t k => XS.ifYes XJ379.here hx rfl (pc0 := 69) (pc' := 78) rfl (hb hby at_69) rfl ((if0 _ _).trans (flt hc69).2.2.2) (by decide) (by decide) k) ?_
                exact J380 _ _ _  (XJ379.more (by decide) (by decide)) eJ379 NJ379 (by omega) (by rw [(own_f4 hc69).1, (own_f4 hc69).2]; exact FJ379_0) 
          by_cases hc58 : (2 : Int32) < v3
          · refine own_Fin.step (S' := TJ378.setTop (mkF m 61 #[.val (.int i0), .val (.int i1), .val (.int i2), .val (.int i3), .val (.int v3), .val (.int v13), .val (.int v21), .val (.ref b358), .unset, .unset, .unset] [])) (fun t k => XS.icmpNo XJ378.here hx rfl (hb hby at_58) rfl (tlt hc58).2.2.2 k) ?_
            refine own_Fin.step (S' := TJ378.setTop (mkF m 63 #[.val (.int i0), .val (.int i1), .val (.int i2), .val (.int i3), .val (.int v3), .val (.int v13), .val (.int v21), .val (.ref b358), .unset, .unset, .unset] [(.ref b358)])) (fun t k => XS.aload XJ378.here hx rfl (hb hby at_61) rfl rfl  k) ?_
            refine own_Fin.step (S' := TJ378.setTop (mkF m 64 #[.val (.int i0), .val (.int i1), .val (.int i2), .val (.int i3), .val (.int v3), .val (.int v13), .val (.int v21), .val (.ref b358), .unset, .unset, .unset] [(.int i3), (.ref b358)])) (fun t k => XS.iloadN XJ378.here hx rfl (hb hby at_63) rfl  k) ?_
            obtain ⟨_, _, ⟨T406, L406, k406, n406⟩, -, X406, ⟨Lc406, hQ406, l406, y406, zz406⟩, st406⟩ := Jvm.LawKit.callS XJ378 hx (y := (⟨"com/example/methodical_checker/methodicalchecker/promela/WalkPendingInOrderPinLaw", "push", "(Lcom/example/methodical_checker/methodicalchecker/promela/Walk;I)V"⟩ : MethodName)) hown (mvT hZ (hw _ (List.mem_of_getElem? (i := 51) rfl))) (mvT hZ (hw _ (List.mem_of_getElem? (i := 52) rfl))) (mvT hZ (hw _ (List.mem_of_getElem? (i := 53) rfl))) (mvT hZ (hw _ (List.mem_of_getElem? (i := 54) rfl))) (by decide) (backOf (W := 0) (rm4 l Z a0 hw [] b358 i3 ((own_s2 v3 v13 v21).1) ((own_s2 v3 v13 v21).2) hJ378 n0 (by omega) FJ378_0 (own_bb _ (List.mem_of_getElem? (i := 2) rfl)).1 (own_bb _ (List.mem_of_getElem? (i := 2) rfl)).2) hZ (hw _ (List.mem_of_getElem? (i := 54) rfl)) (hw _ (List.mem_of_getElem? (i := 53) rfl)) (by decide) (by decide)) (g := (mkF m 64 #[.val (.int i0), .val (.int i1), .val (.int i2), .val (.int i3), .val (.int v3), .val (.int v13), .val (.int v21), .val (.ref b358), .unset, .unset, .unset] [(.int i3), (.ref b358)])) rfl (by rw [hml]; rfl) (argsL := [(.ref b358), (.int i3)]) (rest := []) (lenOf pd_0_4 rfl) rfl (by show 2 * 0 + _ ≤ _; exact Nat.le_of_eq rfl) (hb hby at_64) (fun _ _ => ⟨rfl, eJ378, (by decide : 15 + 0 ≤ _), (by decide : 226 + 0 ≤ _)⟩)
            dsimp only [Pt.U, Pt.locs, Pt.cells, Pt.slots] at X406 l406 y406 zz406 st406 hQ406
            subst l406 y406 zz406
            obtain ⟨rfl, N406q, K406, G406_0⟩ := hQ406
            have N406 := Fr.app NJ378 N406q
            refine own_Fin.step (S' := T406.setTop (mkF m 67 #[.val (.int i0), .val (.int i1), .val (.int i2), .val (.int i3), .val (.int v3), .val (.int v13), .val (.int v21), .val (.ref b358), .unset, .unset, .unset] [])) st406 ?_
            exact J379 _ _ _  (X406.more (by decide) (by decide)) rfl N406 (by omega) (by rw [(own_t3 hc58).1, (own_t3 hc58).2]; exact G406_0) 
          · refine own_Fin.step (S' := TJ378.setTop (mkF m 67 #[.val (.int i0), .val (.int i1), .val (.int i2), .val (.int i3), .val (.int v3), .val (.int v13), .val (.int v21), .val (.ref b358), .unset, .unset, .unset] [])) (fun t k => XS.icmpYes XJ378.here hx rfl (pc0 := 58) (pc' := 67) rfl (hb hby at_58) rfl (flt hc58).2.2.2 (by decide) (by decide) k) ?_
            exact J379 _ _ _  (XJ378.more (by decide) (by decide)) eJ378 NJ378 (by omega) (by rw [(own_f3 hc58).1, (own_f3 hc58).2]; exact FJ378_0) 
      by_cases hc46 : (1 : Int32) < v3
      · refine own_Fin.step (S' := TJ377.setTop (mkF m 49 #[.val (.int i0), .val (.int i1), .val (.int i2), .val (.int i3), .val (.int v3), .val (.int v13), .val (.int v21), .val (.ref b358), .unset, .unset, .unset] [])) (fun t k => XS.icmpNo XJ377.here hx rfl (hb hby at_46) rfl (tlt hc46).2.2.2 k) ?_
        refine own_Fin.step (S' := TJ377.setTop (mkF m 51 #[.val (.int i0), .val (.int i1), .val (.int i2), .val (.int i3), .val (.int v3), .val (.int v13), .val (.int v21), .val (.ref b358), .unset, .unset, .unset] [(.ref b358)])) (fun t k => XS.aload XJ377.here hx rfl (hb hby at_49) rfl rfl  k) ?_
        refine own_Fin.step (S' := TJ377.setTop (mkF m 52 #[.val (.int i0), .val (.int i1), .val (.int i2), .val (.int i3), .val (.int v3), .val (.int v13), .val (.int v21), .val (.ref b358), .unset, .unset, .unset] [(.int i3), (.ref b358)])) (fun t k => XS.iloadN XJ377.here hx rfl (hb hby at_51) rfl  k) ?_
        obtain ⟨_, _, ⟨T407, L407, k407, n407⟩, -, X407, ⟨Lc407, hQ407, l407, y407, zz407⟩, st407⟩ := Jvm.LawKit.callS XJ377 hx (y := (⟨"com/example/methodical_checker/methodicalchecker/promela/WalkPendingInOrderPinLaw", "push", "(Lcom/example/methodical_checker/methodicalchecker/promela/Walk;I)V"⟩ : MethodName)) hown (mvT hZ (hw _ (List.mem_of_getElem? (i := 51) rfl))) (mvT hZ (hw _ (List.mem_of_getElem? (i := 52) rfl))) (mvT hZ (hw _ (List.mem_of_getElem? (i := 53) rfl))) (mvT hZ (hw _ (List.mem_of_getElem? (i := 54) rfl))) (by decide) (backOf (W := 0) (rm4 l Z a0 hw [] b358 i3 ((own_s1 v3 v13 v21).1) ((own_s1 v3 v13 v21).2) hJ377 n0 (by omega) FJ377_0 (own_bb _ (List.mem_of_getElem? (i := 1) rfl)).1 (own_bb _ (List.mem_of_getElem? (i := 1) rfl)).2) hZ (hw _ (List.mem_of_getElem? (i := 54) rfl)) (hw _ (List.mem_of_getElem? (i := 53) rfl)) (by decide) (by decide)) (g := (mkF m 52 #[.val (.int i0), .val (.int i1), .val (.int i2), .val (.int i3), .val (.int v3), .val (.int v13), .val (.int v21), .val (.ref b358), .unset, .unset, .unset] [(.int i3), (.ref b358)])) rfl (by rw [hml]; rfl) (argsL := [(.ref b358), (.int i3)]) (rest := []) (lenOf pd_0_4 rfl) rfl (by show 2 * 0 + _ ≤ _; exact Nat.le_of_eq rfl) (hb hby at_52) (fun _ _ => ⟨rfl, eJ377, (by decide : 15 + 0 ≤ _), (by decide : 226 + 0 ≤ _)⟩)
        dsimp only [Pt.U, Pt.locs, Pt.cells, Pt.slots] at X407 l407 y407 zz407 st407 hQ407
        subst l407 y407 zz407
        obtain ⟨rfl, N407q, K407, G407_0⟩ := hQ407
        have N407 := Fr.app NJ377 N407q
        refine own_Fin.step (S' := T407.setTop (mkF m 55 #[.val (.int i0), .val (.int i1), .val (.int i2), .val (.int i3), .val (.int v3), .val (.int v13), .val (.int v21), .val (.ref b358), .unset, .unset, .unset] [])) st407 ?_
        exact J378 _ _ _  (X407.more (by decide) (by decide)) rfl N407 (by omega) (by rw [(own_t2 hc46).1, (own_t2 hc46).2]; exact G407_0) 
      · refine own_Fin.step (S' := TJ377.setTop (mkF m 55 #[.val (.int i0), .val (.int i1), .val (.int i2), .val (.int i3), .val (.int v3), .val (.int v13), .val (.int v21), .val (.ref b358), .unset, .unset, .unset] [])) (fun t k => XS.icmpYes XJ377.here hx rfl (pc0 := 46) (pc' := 55) rfl (hb hby at_46) rfl (flt hc46).2.2.2 (by decide) (by decide) k) ?_
        exact J378 _ _ _  (XJ377.more (by decide) (by decide)) eJ377 NJ377 (by omega) (by rw [(own_f2 hc46).1, (own_f2 hc46).2]; exact FJ377_0) 
  by_cases hc34 : (0 : Int32) < v3
  · refine own_Fin.step (S' := T376.setTop (mkF m 37 #[.val (.int i0), .val (.int i1), .val (.int i2), .val (.int i3), .val (.int v3), .val (.int v13), .val (.int v21), .val (.ref b358), .unset, .unset, .unset] [])) (fun t k => XS.ifNo X376.here hx rfl (hb hby at_34) rfl ((if0 _ _).trans (tlt hc34).2.2.2) k) ?_
    refine own_Fin.step (S' := T376.setTop (mkF m 39 #[.val (.int i0), .val (.int i1), .val (.int i2), .val (.int i3), .val (.int v3), .val (.int v13), .val (.int v21), .val (.ref b358), .unset, .unset, .unset] [(.ref b358)])) (fun t k => XS.aload X376.here hx rfl (hb hby at_37) rfl rfl  k) ?_
    refine own_Fin.step (S' := T376.setTop (mkF m 40 #[.val (.int i0), .val (.int i1), .val (.int i2), .val (.int i3), .val (.int v3), .val (.int v13), .val (.int v21), .val (.ref b358), .unset, .unset, .unset] [(.int i3), (.ref b358)])) (fun t k => XS.iloadN X376.here hx rfl (hb hby at_39) rfl  k) ?_
    obtain ⟨_, _, ⟨T408, L408, k408, n408⟩, -, X408, ⟨Lc408, hQ408, l408, y408, zz408⟩, st408⟩ := Jvm.LawKit.callS X376 hx (y := (⟨"com/example/methodical_checker/methodicalchecker/promela/WalkPendingInOrderPinLaw", "push", "(Lcom/example/methodical_checker/methodicalchecker/promela/Walk;I)V"⟩ : MethodName)) hown (mvT hZ (hw _ (List.mem_of_getElem? (i := 51) rfl))) (mvT hZ (hw _ (List.mem_of_getElem? (i := 52) rfl))) (mvT hZ (hw _ (List.mem_of_getElem? (i := 53) rfl))) (mvT hZ (hw _ (List.mem_of_getElem? (i := 54) rfl))) (by decide) (backOf (W := 0) (rm4 l Z a0 hw [] b358 i3 ((own_s0 v3 v13 v21).1) ((own_s0 v3 v13 v21).2) T376.heap n0 (by omega) G376_0 (own_bb _ (List.mem_of_getElem? (i := 0) rfl)).1 (own_bb _ (List.mem_of_getElem? (i := 0) rfl)).2) hZ (hw _ (List.mem_of_getElem? (i := 54) rfl)) (hw _ (List.mem_of_getElem? (i := 53) rfl)) (by decide) (by decide)) (g := (mkF m 40 #[.val (.int i0), .val (.int i1), .val (.int i2), .val (.int i3), .val (.int v3), .val (.int v13), .val (.int v21), .val (.ref b358), .unset, .unset, .unset] [(.int i3), (.ref b358)])) rfl (by rw [hml]; rfl) (argsL := [(.ref b358), (.int i3)]) (rest := []) (lenOf pd_0_4 rfl) rfl (by show 2 * 0 + _ ≤ _; exact Nat.le_of_eq rfl) (hb hby at_40) (fun _ _ => ⟨rfl, rfl, (by decide : 15 + 0 ≤ _), (by decide : 226 + 0 ≤ _)⟩)
    dsimp only [Pt.U, Pt.locs, Pt.cells, Pt.slots] at X408 l408 y408 zz408 st408 hQ408
    subst l408 y408 zz408
    obtain ⟨rfl, N408q, K408, G408_0⟩ := hQ408
    have N408 := Fr.app N376 N408q
    refine own_Fin.step (S' := T408.setTop (mkF m 43 #[.val (.int i0), .val (.int i1), .val (.int i2), .val (.int i3), .val (.int v3), .val (.int v13), .val (.int v21), .val (.ref b358), .unset, .unset, .unset] [])) st408 ?_
    exact J377 _ _ _  (X408.more (by decide) (by decide)) rfl N408 (by omega) (by rw [(own_t1 hc34).1, (own_t1 hc34).2]; exact G408_0) 
  · refine own_Fin.step (S' := T376.setTop (mkF m 43 #[.val (.int i0), .val (.int i1), .val (.int i2), .val (.int i3), .val (.int v3), .val (.int v13), .val (.int v21), .val (.ref b358), .unset, .unset, .unset] [])) (fun t k => XS.ifYes X376.here hx rfl (pc0 := 34) (pc' := 43) rfl (hb hby at_34) rfl ((if0 _ _).trans (flt hc34).2.2.2) (by decide) (by decide) k) ?_
    exact J377 _ _ _  (X376.more (by decide) (by decide)) rfl N376 (by omega) (by rw [(own_f1 hc34).1, (own_f1 hc34).2]; exact G376_0) 
set_option maxRecDepth 65536 in
set_option maxHeartbeats 40000000 in
theorem comes_1 {Post : Tables → Env → Array Value → State → Outcome → State → Prop} (hpost : ∀ tb e args s v u, (limb_1_1.after args s (.returned v) u = true ∧ limb_1_2.after args s (.returned v) u = true ∧ True) → FrameEnd s (.returned v) u (Jvm.fieldLocs frame_1_writes args s ++ Jvm.arrayLocs frame_1_arrays args s ++ Jvm.staticLocs frame_1_statics s) 48 576 → Post tb e args s (.returned v) u) :
    ArmFor flags0 classFile x code maxLocals ret World_1 tables_1 room_1 Calls_1 rest_1 Pre_1 Post := by
  intro l hfl _ _ p e ha hc hk s m args below hf hA hF happ hP
  obtain ⟨hcalls, hrest, hpre⟩ := hP
  obtain ⟨-, -, -, hnamed, -, -, -, hat⟩ := (Spec.applies_iff hf).mp happ
  obtain ⟨hg, hn⟩ := and_e (Cond.before_iff.mp (show (Jvm.Cond.and given_1 narrow_1).before args s = true from hpre))
  obtain ⟨gg1, gg2⟩ := and_e hg
  obtain ⟨gg3, gg4⟩ := and_e gg2
  obtain ⟨gg5, gg6⟩ := and_e gg4
  obtain ⟨gg7, gg8⟩ := and_e gg6
  obtain ⟨w0, w1, w2, w3, rfl⟩ : ∃ w0 w1 w2 w3 : Value, args = #[w0, w1, w2, w3] := by
    have hs : args.size = 4 := by simpa [Cond.value, given_1] using gg1
    obtain ⟨L⟩ := args
    match L, hs with
    | [w0, w1, w2, w3], _ => exact ⟨w0, w1, w2, w3, rfl⟩
  have hw := fun d (hd : d ∈ tables_1) => atoms_spec (ws := Jvm.Cond.code x code maxLocals ret :: tables_1) hat d (List.mem_cons_of_mem _ hd)
  have hfit : Fit s := fun {y c} hc i hi => by
    obtain ⟨ha, rfl⟩ := Array.getElem?_eq_some_iff.mp hc
    have q := List.all_eq_true.mp ((Array.all_eq_true_iff_forall_mem.mp hF) _ (Array.getElem_mem ha)) i (List.mem_range.mpr hi)
    simpa [Array.getElem?_eq_getElem hi] using q
  obtain ⟨i0, ei0⟩ := is_v gg3
  obtain rfl : w0 = (.int i0) := Option.some.inj ei0
  obtain ⟨i1, ei1⟩ := is_v gg5
  obtain rfl : w1 = (.int i1) := Option.some.inj ei1
  obtain ⟨i2, ei2⟩ := is_v gg7
  obtain rfl : w2 = (.int i2) := Option.some.inj ei2
  obtain ⟨i3, ei3⟩ := is_v gg8
  obtain rfl : w3 = (.int i3) := Option.some.inj ei3
  obtain ⟨n, o, h1, h2, h3, _, L, rfl, ⟨rfl, N⟩, hq⟩ := rm0 l s _ hw tables_1  i0 i1 i2 i3 s.heap s.heap.size (Nat.le_refl _)  p e ha hc hk s m _ below hf ((Spec.applies_iff_loose hf).mp happ).1 ⟨rfl, State.Warmed39.refl s, rfl⟩ trivial
  refine ⟨n, _, h1, h2, h3, hpost _ _ _ _ _ _ ⟨Cond.after_iff.mpr rfl, Cond.after_iff.mpr (eq_i res_at (Term.int_eval (1)) rfl), trivial⟩ ⟨hq.1, hq.2.1, (hq.2.2.sift fun y hy => Or.inr (N y hy)).mono (by decide) (by decide)⟩⟩
theorem main_1_1 : Claimed_1_1 := comes_1 fun _ _ _ _ _ _ h hF => ⟨h.1, hF⟩
theorem main_1_2 : Claimed_1_2 := comes_1 fun _ _ _ _ _ _ h hF => ⟨h.2.1, hF⟩
end Jvm.Pilot.@@N@@
namespace Jvm.Pilot.@@N@@
open Jvm Jvm.ClassFile Sem Op Lib Jvm.Free Jvm.Stand Jvm.Pilot.@@N@@.Jvm.D
/-! MADE BY PROGRAM (witnessworld.py) out of the Statement's table words and the real class files: 14 classes; the members and pool entries that the words name. The judged class is class 1, her method 1. -/
namespace start1
open Jvm.ClassFile
def u (s : String) : CpInfo := .utf8 (stringToUtf16 s)
/-- a pool by its gaps: so many unusable entries, then the entry; so many at the end -/
def gap : Nat → List CpInfo → List CpInfo
  | 0, r => r
  | n + 1, r => .unusable :: gap n r
def poolList (es : List (Nat × CpInfo)) (last : Nat) : List CpInfo := es.foldr (fun e r => gap e.1 (e.2 :: r)) (gap last [])
def pool (es : List (Nat × CpInfo)) (last : Nat) : Array CpInfo := ⟨poolList es last⟩
def fileOf (pool : Array CpInfo) (this : Nat) (attrs : Array Attribute := #[]) (ms : Array MethodInfo := #[]) (fl : Nat := 33) (sup : Nat := 0) (ifs : Array Nat := #[]) (fds : Array FieldInfo := #[]) : ClassFile where
  minorVersion := 0
  majorVersion := 65
  constantPool := pool
  accessFlags := fl
  thisClass := this
  superClass := sup
  interfaces := ifs
  fields := fds
  methods := ms
  attributes := attrs
def plain (name : String) (sup : Option ClassId) : Class where
  name := name
  kind := .ordinary
  loader := none
  accessFlags := 33
  super := sup
  interfaces := #[]
  cf := none
  fields := #[]
  methods := #[]
  instanceTypes := #[]
  staticTypes := #[]
  resolved := #[]
  callSites := []
  init := .initialized
  statics := none
  mirror := none

def pool0 : Array CpInfo := pool [(5, u "<init>"), (0, u "()V"), (1, .class_ 10), (1, u "java/lang/Object")] 113

def k0c0 : Code := { maxStack := 0, maxLocals := 1, code := object_method_1_code, exceptionTable := #[], attributes := #[] }
def k0m0 : Method := { name := "<init>", desc := "()V", sig := { parameters := [], returnType := none }, accessFlags := 1, code := some k0c0 }
/-- java/lang/Object -/
def k0 : Class := { plain "java/lang/Object" none with
  accessFlags := 33
  interfaces := #[]
  cf := some (fileOf pool0 8 #[] #[{ accessFlags := 1, nameIndex := 5, descriptorIndex := 6, attributes := #[] }] 33 0 #[] #[])
  fields := #[]
  methods := #[k0m0]
  instanceTypes := #[]
  staticTypes := #[]
  resolved := Array.replicate 124 none
  statics := none }

def pool1 : Array CpInfo := pool [(2, .class_ 4), (0, .nameAndType 5 6), (0, u "java/lang/Object"), (0, u "<init>"), (0, u "()V"), (0, .methodref 8 9), (0, .class_ 10), (0, .nameAndType 11 12), (0, u "java/lang/Math"), (0, u "min"), (0, u "(II)I"), (0, .integer 2147483647), (0, .class_ 15), (0, u "com/example/methodical_checker/methodicalchecker/promela/Walk"), (0, .methodref 14 3), (0, .methodref 18 19), (0, .class_ 20), (0, .nameAndType 21 22), (0, u "com/example/methodical_checker/methodicalchecker/promela/WalkPendingInOrderPinLaw"), (0, u "push"), (0, u "(Lcom/example/methodical_checker/methodicalchecker/promela/Walk;I)V"), (0, .methodref 14 24), (0, .nameAndType 25 26), (0, u "pop"), (0, u "()I"), (0, .methodref 14 28), (0, .nameAndType 29 30), (0, u "pendingInOrder"), (0, u "()[I"), (0, .methodref 18 32), (0, .nameAndType 33 34), (0, u "at"), (0, u "([I[IIIIII)Z"), (0, .methodref 14 36), (0, .nameAndType 21 37), (0, u "(IILcom/example/methodical_checker/methodicalchecker/promela/Transition;Lcom/example/methodical_checker/methodicalchecker/promela/Stepper$Meeting;II)V"), (2, u "law"), (0, u "(IIII)Z")] 11

def k1m0 : Method := { name := "<init>", desc := "()V", sig := { parameters := [], returnType := none }, accessFlags := 1, code := none }
def k1c1 : Code := { maxStack := 7, maxLocals := 11, code := code, exceptionTable := #[], attributes := #[] }
def k1m1 : Method := { name := "law", desc := "(IIII)Z", sig := { parameters := [.int, .int, .int, .int], returnType := some .boolean }, accessFlags := 9, code := some k1c1 }
def k1c2 : Code := { maxStack := 7, maxLocals := 2, code := method_3_code, exceptionTable := #[], attributes := #[] }
def k1m2 : Method := { name := "push", desc := "(Lcom/example/methodical_checker/methodicalchecker/promela/Walk;I)V", sig := { parameters := [(.object "com/example/methodical_checker/methodicalchecker/promela/Walk"), .int], returnType := none }, accessFlags := 10, code := some k1c2 }
def k1c3 : Code := { maxStack := 3, maxLocals := 8, code := method_4_code, exceptionTable := #[], attributes := #[] }
def k1m3 : Method := { name := "at", desc := "([I[IIIIII)Z", sig := { parameters := [(.array .int), (.array .int), .int, .int, .int, .int, .int], returnType := some .boolean }, accessFlags := 10, code := some k1c3 }
/-- com/example/methodical_checker/methodicalchecker/promela/WalkPendingInOrderPinLaw -/
def k1 : Class := { plain "com/example/methodical_checker/methodicalchecker/promela/WalkPendingInOrderPinLaw" (some 0) with
  accessFlags := 49
  interfaces := #[]
  cf := some (fileOf pool1 18 #[] #[{ accessFlags := 1, nameIndex := 5, descriptorIndex := 6, attributes := #[] }, { accessFlags := 9, nameIndex := 40, descriptorIndex := 41, attributes := #[] }, { accessFlags := 10, nameIndex := 21, descriptorIndex := 22, attributes := #[] }, { accessFlags := 10, nameIndex := 33, descriptorIndex := 34, attributes := #[] }] 49 2 #[] #[])
  fields := #[]
  methods := #[k1m0, k1m1, k1m2, k1m3]
  instanceTypes := #[]
  staticTypes := #[]
  resolved := Array.replicate 53 none
  statics := none }

def pool2 : Array CpInfo := pool [(1, .class_ 2), (0, u "java/lang/Math"), (1, .class_ 6), (1, u "java/lang/Object"), (0, u "<init>"), (0, u "()V"), (89, .class_ 100), (1, u "java/lang/Math$RandomNumberGeneratorHolder"), (71, u "negativeZeroFloatBits"), (0, u "J"), (2, u "negativeZeroDoubleBits"), (24, u "min"), (43, u "$assertionsDisabled"), (0, u "Z"), (88, u "(II)I"), (2, u "twoToTheDoubleScaleDown"), (0, u "D"), (4, u "twoToTheDoubleScaleUp"), (9, u "E"), (3, u "PI"), (2, u "TAU"), (2, u "DEGREES_TO_RADIANS"), (0, u "RADIANS_TO_DEGREES")] 94

def k2m0 : Method := { name := "<init>", desc := "()V", sig := { parameters := [], returnType := none }, accessFlags := 2, code := none }
def k2c1 : Code := { maxStack := 2, maxLocals := 2, code := jdk_29_method_69_code, exceptionTable := #[], attributes := #[] }
def k2m1 : Method := { name := "min", desc := "(II)I", sig := { parameters := [.int, .int], returnType := some .int }, accessFlags := 9, code := some k2c1 }
/-- java/lang/Math -/
def k2 : Class := { plain "java/lang/Math" (some 0) with
  accessFlags := 49
  interfaces := #[]
  cf := some (fileOf pool2 1 #[.nestMembers #[98]] #[{ accessFlags := 2, nameIndex := 7, descriptorIndex := 8, attributes := #[] }, { accessFlags := 9, nameIndex := 201, descriptorIndex := 335, attributes := #[] }] 49 4 #[] #[{ accessFlags := 25, nameIndex := 354, descriptorIndex := 339, attributes := #[] }, { accessFlags := 25, nameIndex := 358, descriptorIndex := 339, attributes := #[] }, { accessFlags := 25, nameIndex := 361, descriptorIndex := 339, attributes := #[] }, { accessFlags := 26, nameIndex := 364, descriptorIndex := 339, attributes := #[] }, { accessFlags := 26, nameIndex := 365, descriptorIndex := 339, attributes := #[] }, { accessFlags := 26, nameIndex := 172, descriptorIndex := 173, attributes := #[] }, { accessFlags := 26, nameIndex := 176, descriptorIndex := 173, attributes := #[] }, { accessFlags := 8, nameIndex := 344, descriptorIndex := 339, attributes := #[] }, { accessFlags := 8, nameIndex := 338, descriptorIndex := 339, attributes := #[] }, { accessFlags := 4120, nameIndex := 245, descriptorIndex := 246, attributes := #[] }])
  fields := #[{ name := "E", type := .double, accessFlags := 25, slot := 0, constantValue := 0 }, { name := "PI", type := .double, accessFlags := 25, slot := 1, constantValue := 0 }, { name := "TAU", type := .double, accessFlags := 25, slot := 2, constantValue := 0 }, { name := "DEGREES_TO_RADIANS", type := .double, accessFlags := 26, slot := 3, constantValue := 0 }, { name := "RADIANS_TO_DEGREES", type := .double, accessFlags := 26, slot := 4, constantValue := 0 }, { name := "negativeZeroFloatBits", type := .long, accessFlags := 26, slot := 5, constantValue := 0 }, { name := "negativeZeroDoubleBits", type := .long, accessFlags := 26, slot := 6, constantValue := 0 }, { name := "twoToTheDoubleScaleUp", type := .double, accessFlags := 8, slot := 7, constantValue := 0 }, { name := "twoToTheDoubleScaleDown", type := .double, accessFlags := 8, slot := 8, constantValue := 0 }, { name := "$assertionsDisabled", type := .boolean, accessFlags := 4120, slot := 9, constantValue := 0 }]
  methods := #[k2m0, k2m1]
  instanceTypes := #[]
  staticTypes := #[.double, .double, .double, .double, .double, .long, .long, .double, .double, .boolean]
  resolved := Array.replicate 460 none
  statics := none }

def pool3 : Array CpInfo := pool [(1, .methodref 2 3), (0, .class_ 4), (0, .nameAndType 5 6), (0, u "java/lang/Object"), (0, u "<init>"), (0, u "()V"), (0, .class_ 8), (0, u "[I"), (0, .fieldref 10 11), (0, .class_ 12), (0, .nameAndType 13 14), (0, u "com/example/methodical_checker/methodicalchecker/promela/Walk"), (0, u "states"), (0, u "[[I"), (0, .fieldref 10 16), (0, .nameAndType 17 8), (0, u "wayFrom"), (0, .fieldref 10 19), (0, .nameAndType 20 8), (0, u "wayProcess"), (0, .class_ 22), (0, u "com/example/methodical_checker/methodicalchecker/promela/Transition"), (0, .fieldref 10 24), (0, .nameAndType 25 26), (0, u "wayStep"), (0, u "[Lcom/example/methodical_checker/methodicalchecker/promela/Transition;"), (0, .class_ 28), (0, u "com/example/methodical_checker/methodicalchecker/promela/Stepper$Meeting"), (0, .fieldref 10 30), (0, .nameAndType 31 32), (0, u "wayMeeting"), (0, u "[Lcom/example/methodical_checker/methodicalchecker/promela/Stepper$Meeting;"), (0, .fieldref 10 34), (0, .nameAndType 35 8), (0, u "wayStepsBefore"), (0, .fieldref 10 37), (0, .nameAndType 38 8), (0, u "wayBefore"), (0, .fieldref 10 40), (0, .nameAndType 41 8), (0, u "pending"), (0, .fieldref 10 43), (0, .nameAndType 44 8), (0, u "passed"), (0, .fieldref 10 46), (0, .nameAndType 47 8), (0, u "passedKeys"), (0, .fieldref 10 49), (0, .nameAndType 50 8), (0, u "passedTable"), (0, .fieldref 10 52), (0, .nameAndType 53 8), (0, u "moveStates"), (0, .fieldref 10 55), (0, .nameAndType 56 8), (0, u "moveSteps"), (0, .fieldref 10 58), (0, .nameAndType 59 8), (0, u "moveEnds"), (0, .fieldref 10 61), (0, .nameAndType 62 63), (0, u "failed"), (0, u "I"), (2, u "start"), (2, u "keyCell"), (2, u "stateCount"), (0, .fieldref 10 74), (0, .nameAndType 75 63), (0, u "wayCount"), (0, .fieldref 10 77), (0, .nameAndType 78 63), (0, u "pendingCount"), (2, u "passedCount"), (2, u "moveCount"), (43, u "START"), (2, u "NO_WAY"), (0, u "COMPARED"), (11, u "()I"), (0, u "push"), (0, u "(IILcom/example/methodical_checker/methodicalchecker/promela/Transition;Lcom/example/methodical_checker/methodicalchecker/promela/Stepper$Meeting;II)V"), (2, u "pop"), (0, u "pendingInOrder"), (0, u "()[I")] 22

def k3c0 : Code := { maxStack := 2, maxLocals := 1, code := prog_121_method_1_code, exceptionTable := #[], attributes := #[] }
def k3m0 : Method := { name := "<init>", desc := "()V", sig := { parameters := [], returnType := none }, accessFlags := 0, code := some k3c0 }
def k3c1 : Code := { maxStack := 4, maxLocals := 8, code := prog_121_method_8_code, exceptionTable := #[], attributes := #[] }
def k3m1 : Method := { name := "push", desc := "(IILcom/example/methodical_checker/methodicalchecker/promela/Transition;Lcom/example/methodical_checker/methodicalchecker/promela/Stepper$Meeting;II)V", sig := { parameters := [.int, .int, (.object "com/example/methodical_checker/methodicalchecker/promela/Transition"), (.object "com/example/methodical_checker/methodicalchecker/promela/Stepper$Meeting"), .int, .int], returnType := none }, accessFlags := 0, code := some k3c1 }
def k3c2 : Code := { maxStack := 3, maxLocals := 1, code := prog_121_method_10_code, exceptionTable := #[], attributes := #[] }
def k3m2 : Method := { name := "pop", desc := "()I", sig := { parameters := [], returnType := some .int }, accessFlags := 0, code := some k3c2 }
def k3c3 : Code := { maxStack := 5, maxLocals := 3, code := prog_121_method_11_code, exceptionTable := #[], attributes := #[] }
def k3m3 : Method := { name := "pendingInOrder", desc := "()[I", sig := { parameters := [], returnType := some (.array .int) }, accessFlags := 0, code := some k3c3 }
/-- com/example/methodical_checker/methodicalchecker/promela/Walk -/
def k3 : Class := { plain "com/example/methodical_checker/methodicalchecker/promela/Walk" (some 0) with
  accessFlags := 48
  interfaces := #[]
  cf := some (fileOf pool3 10 #[] #[{ accessFlags := 0, nameIndex := 5, descriptorIndex := 6, attributes := #[] }, { accessFlags := 0, nameIndex := 145, descriptorIndex := 146, attributes := #[] }, { accessFlags := 0, nameIndex := 149, descriptorIndex := 144, attributes := #[] }, { accessFlags := 0, nameIndex := 150, descriptorIndex := 151, attributes := #[] }] 48 2 #[] #[{ accessFlags := 24, nameIndex := 128, descriptorIndex := 63, attributes := #[] }, { accessFlags := 24, nameIndex := 131, descriptorIndex := 63, attributes := #[] }, { accessFlags := 26, nameIndex := 132, descriptorIndex := 63, attributes := #[] }, { accessFlags := 2, nameIndex := 66, descriptorIndex := 8, attributes := #[] }, { accessFlags := 2, nameIndex := 13, descriptorIndex := 14, attributes := #[] }, { accessFlags := 2, nameIndex := 72, descriptorIndex := 63, attributes := #[] }, { accessFlags := 2, nameIndex := 69, descriptorIndex := 63, attributes := #[] }, { accessFlags := 2, nameIndex := 17, descriptorIndex := 8, attributes := #[] }, { accessFlags := 2, nameIndex := 20, descriptorIndex := 8, attributes := #[] }, { accessFlags := 2, nameIndex := 25, descriptorIndex := 26, attributes := #[] }, { accessFlags := 2, nameIndex := 31, descriptorIndex := 32, attributes := #[] }, { accessFlags := 2, nameIndex := 35, descriptorIndex := 8, attributes := #[] }, { accessFlags := 2, nameIndex := 38, descriptorIndex := 8, attributes := #[] }, { accessFlags := 2, nameIndex := 75, descriptorIndex := 63, attributes := #[] }, { accessFlags := 2, nameIndex := 41, descriptorIndex := 8, attributes := #[] }, { accessFlags := 2, nameIndex := 78, descriptorIndex := 63, attributes := #[] }, { accessFlags := 2, nameIndex := 44, descriptorIndex := 8, attributes := #[] }, { accessFlags := 2, nameIndex := 47, descriptorIndex := 8, attributes := #[] }, { accessFlags := 2, nameIndex := 81, descriptorIndex := 63, attributes := #[] }, { accessFlags := 2, nameIndex := 50, descriptorIndex := 8, attributes := #[] }, { accessFlags := 2, nameIndex := 53, descriptorIndex := 8, attributes := #[] }, { accessFlags := 2, nameIndex := 56, descriptorIndex := 8, attributes := #[] }, { accessFlags := 2, nameIndex := 59, descriptorIndex := 8, attributes := #[] }, { accessFlags := 2, nameIndex := 84, descriptorIndex := 63, attributes := #[] }, { accessFlags := 2, nameIndex := 62, descriptorIndex := 63, attributes := #[] }])
  fields := #[{ name := "START", type := .int, accessFlags := 24, slot := 0, constantValue := 0 }, { name := "NO_WAY", type := .int, accessFlags := 24, slot := 1, constantValue := 0 }, { name := "COMPARED", type := .int, accessFlags := 26, slot := 2, constantValue := 0 }, { name := "start", type := (.array .int), accessFlags := 2, slot := 0, constantValue := 0 }, { name := "states", type := (.array (.array .int)), accessFlags := 2, slot := 1, constantValue := 0 }, { name := "stateCount", type := .int, accessFlags := 2, slot := 2, constantValue := 0 }, { name := "keyCell", type := .int, accessFlags := 2, slot := 3, constantValue := 0 }, { name := "wayFrom", type := (.array .int), accessFlags := 2, slot := 4, constantValue := 0 }, { name := "wayProcess", type := (.array .int), accessFlags := 2, slot := 5, constantValue := 0 }, { name := "wayStep", type := (.array (.object "com/example/methodical_checker/methodicalchecker/promela/Transition")), accessFlags := 2, slot := 6, constantValue := 0 }, { name := "wayMeeting", type := (.array (.object "com/example/methodical_checker/methodicalchecker/promela/Stepper$Meeting")), accessFlags := 2, slot := 7, constantValue := 0 }, { name := "wayStepsBefore", type := (.array .int), accessFlags := 2, slot := 8, constantValue := 0 }, { name := "wayBefore", type := (.array .int), accessFlags := 2, slot := 9, constantValue := 0 }, { name := "wayCount", type := .int, accessFlags := 2, slot := 10, constantValue := 0 }, { name := "pending", type := (.array .int), accessFlags := 2, slot := 11, constantValue := 0 }, { name := "pendingCount", type := .int, accessFlags := 2, slot := 12, constantValue := 0 }, { name := "passed", type := (.array .int), accessFlags := 2, slot := 13, constantValue := 0 }, { name := "passedKeys", type := (.array .int), accessFlags := 2, slot := 14, constantValue := 0 }, { name := "passedCount", type := .int, accessFlags := 2, slot := 15, constantValue := 0 }, { name := "passedTable", type := (.array .int), accessFlags := 2, slot := 16, constantValue := 0 }, { name := "moveStates", type := (.array .int), accessFlags := 2, slot := 17, constantValue := 0 }, { name := "moveSteps", type := (.array .int), accessFlags := 2, slot := 18, constantValue := 0 }, { name := "moveEnds", type := (.array .int), accessFlags := 2, slot := 19, constantValue := 0 }, { name := "moveCount", type := .int, accessFlags := 2, slot := 20, constantValue := 0 }, { name := "failed", type := .int, accessFlags := 2, slot := 21, constantValue := 0 }]
  methods := #[k3m0, k3m1, k3m2, k3m3]
  instanceTypes := #[(.array .int), (.array (.array .int)), .int, .int, (.array .int), (.array .int), (.array (.object "com/example/methodical_checker/methodicalchecker/promela/Transition")), (.array (.object "com/example/methodical_checker/methodicalchecker/promela/Stepper$Meeting")), (.array .int), (.array .int), .int, (.array .int), .int, (.array .int), (.array .int), .int, (.array .int), (.array .int), (.array .int), (.array .int), .int, .int]
  staticTypes := #[.int, .int, .int]
  resolved := Array.replicate 174 none
  statics := none }

def pool4 : Array CpInfo := pool [(2, .class_ 4), (1, u "com/example/methodical_checker/methodicalchecker/promela/Transition"), (3, .class_ 10), (1, u "java/lang/Object"), (3, u "statement"), (0, u "Lcom/example/methodical_checker/methodicalchecker/promela/Statement;"), (2, u "text"), (0, u "Ljava/lang/String;"), (2, u "target"), (0, u "Lcom/example/methodical_checker/methodicalchecker/promela/Location;"), (2, u "continuesAtomically"), (0, u "Z"), (2, u "isJump"), (8, u "alwaysExecutable"), (4, u "sends"), (4, u "starts"), (25, u "UNWRITTEN"), (1, u "LEAVES"), (0, u "GOES_ROUND")] 23

/-- com/example/methodical_checker/methodicalchecker/promela/Transition -/
def k4 : Class := { plain "com/example/methodical_checker/methodicalchecker/promela/Transition" (some 0) with
  accessFlags := 49
  interfaces := #[]
  cf := some (fileOf pool4 2 #[] #[] 49 8 #[] #[{ accessFlags := 24, nameIndex := 75, descriptorIndex := 19, attributes := #[] }, { accessFlags := 24, nameIndex := 77, descriptorIndex := 19, attributes := #[] }, { accessFlags := 24, nameIndex := 78, descriptorIndex := 19, attributes := #[] }, { accessFlags := 18, nameIndex := 14, descriptorIndex := 15, attributes := #[] }, { accessFlags := 18, nameIndex := 18, descriptorIndex := 19, attributes := #[] }, { accessFlags := 18, nameIndex := 22, descriptorIndex := 23, attributes := #[] }, { accessFlags := 18, nameIndex := 26, descriptorIndex := 27, attributes := #[] }, { accessFlags := 18, nameIndex := 30, descriptorIndex := 27, attributes := #[] }, { accessFlags := 18, nameIndex := 39, descriptorIndex := 27, attributes := #[] }, { accessFlags := 18, nameIndex := 44, descriptorIndex := 27, attributes := #[] }, { accessFlags := 18, nameIndex := 49, descriptorIndex := 27, attributes := #[] }])
  fields := #[{ name := "UNWRITTEN", type := (.object "java/lang/String"), accessFlags := 24, slot := 0, constantValue := 0 }, { name := "LEAVES", type := (.object "java/lang/String"), accessFlags := 24, slot := 1, constantValue := 0 }, { name := "GOES_ROUND", type := (.object "java/lang/String"), accessFlags := 24, slot := 2, constantValue := 0 }, { name := "statement", type := (.object "com/example/methodical_checker/methodicalchecker/promela/Statement"), accessFlags := 18, slot := 0, constantValue := 0 }, { name := "text", type := (.object "java/lang/String"), accessFlags := 18, slot := 1, constantValue := 0 }, { name := "target", type := (.object "com/example/methodical_checker/methodicalchecker/promela/Location"), accessFlags := 18, slot := 2, constantValue := 0 }, { name := "continuesAtomically", type := .boolean, accessFlags := 18, slot := 3, constantValue := 0 }, { name := "isJump", type := .boolean, accessFlags := 18, slot := 4, constantValue := 0 }, { name := "alwaysExecutable", type := .boolean, accessFlags := 18, slot := 5, constantValue := 0 }, { name := "sends", type := .boolean, accessFlags := 18, slot := 6, constantValue := 0 }, { name := "starts", type := .boolean, accessFlags := 18, slot := 7, constantValue := 0 }]
  methods := #[]
  instanceTypes := #[(.object "com/example/methodical_checker/methodicalchecker/promela/Statement"), (.object "java/lang/String"), (.object "com/example/methodical_checker/methodicalchecker/promela/Location"), .boolean, .boolean, .boolean, .boolean, .boolean]
  staticTypes := #[(.object "java/lang/String"), (.object "java/lang/String"), (.object "java/lang/String")]
  resolved := Array.replicate 102 none
  statics := none }

def pool5 : Array CpInfo := pool [(2, .class_ 4), (1, u "java/lang/Object"), (3, .class_ 10), (1, u "com/example/methodical_checker/methodicalchecker/promela/Stepper$Meeting"), (0, u "process"), (0, u "I"), (2, u "receive"), (0, u "Lcom/example/methodical_checker/methodicalchecker/promela/Transition;"), (2, u "message"), (0, u "[I"), (8, .class_ 30), (0, u "com/example/methodical_checker/methodicalchecker/promela/Stepper")] 2

/-- com/example/methodical_checker/methodicalchecker/promela/Stepper$Meeting -/
def k5 : Class := { plain "com/example/methodical_checker/methodicalchecker/promela/Stepper$Meeting" (some 0) with
  accessFlags := 48
  interfaces := #[]
  cf := some (fileOf pool5 8 #[.nestHost 29] #[] 48 2 #[] #[{ accessFlags := 18, nameIndex := 11, descriptorIndex := 12, attributes := #[] }, { accessFlags := 18, nameIndex := 15, descriptorIndex := 16, attributes := #[] }, { accessFlags := 18, nameIndex := 19, descriptorIndex := 20, attributes := #[] }])
  fields := #[{ name := "process", type := .int, accessFlags := 18, slot := 0, constantValue := 0 }, { name := "receive", type := (.object "com/example/methodical_checker/methodicalchecker/promela/Transition"), accessFlags := 18, slot := 1, constantValue := 0 }, { name := "message", type := (.array .int), accessFlags := 18, slot := 2, constantValue := 0 }]
  methods := #[]
  instanceTypes := #[.int, (.object "com/example/methodical_checker/methodicalchecker/promela/Transition"), (.array .int)]
  staticTypes := #[]
  resolved := Array.replicate 33 none
  statics := none }

def pool6 : Array CpInfo := pool [(1, u "java/lang/Cloneable"), (0, .class_ 1), (0, u "java/lang/Object"), (0, .class_ 3)] 3

/-- java/lang/Cloneable -/
def k6 : Class := { plain "java/lang/Cloneable" (some 0) with
  accessFlags := 1537
  interfaces := #[]
  cf := some (fileOf pool6 2 #[] #[] 1537 4 #[] #[])
  fields := #[]
  methods := #[]
  instanceTypes := #[]
  staticTypes := #[]
  resolved := Array.replicate 8 none
  statics := none }

def pool7 : Array CpInfo := pool [(1, u "java/io/Serializable"), (0, .class_ 1), (0, u "java/lang/Object"), (0, .class_ 3)] 3

/-- java/io/Serializable -/
def k7 : Class := { plain "java/io/Serializable" (some 0) with
  accessFlags := 1537
  interfaces := #[]
  cf := some (fileOf pool7 2 #[] #[] 1537 4 #[] #[])
  fields := #[]
  methods := #[]
  instanceTypes := #[]
  staticTypes := #[]
  resolved := Array.replicate 8 none
  statics := none }

/-- the primitive byte -/
def k8 : Class := { plain "byte" none with kind := .primitive 'B', accessFlags := 0x411 }
/-- [B -/
def k9 : Class := { plain "[B" (some 0) with kind := .array 8 .byte, interfaces := #[6, 7], accessFlags := 1041 }

/-- the primitive int -/
def k10 : Class := { plain "int" none with kind := .primitive 'I', accessFlags := 0x411 }
/-- [I -/
def k11 : Class := { plain "[I" (some 0) with kind := .array 10 .int, interfaces := #[6, 7], accessFlags := 1041 }

/-- [Lcom/example/methodical_checker/methodicalchecker/promela/Stepper$Meeting; -/
def k12 : Class := { plain "[Lcom/example/methodical_checker/methodicalchecker/promela/Stepper$Meeting;" (some 0) with kind := .array 5 (.object "com/example/methodical_checker/methodicalchecker/promela/Stepper$Meeting"), interfaces := #[6, 7], accessFlags := 1041 }

/-- [Lcom/example/methodical_checker/methodicalchecker/promela/Transition; -/
def k13 : Class := { plain "[Lcom/example/methodical_checker/methodicalchecker/promela/Transition;" (some 0) with kind := .array 4 (.object "com/example/methodical_checker/methodicalchecker/promela/Transition"), interfaces := #[6, 7], accessFlags := 1041 }

def k14 : Class := { plain "[[I" (some 0) with kind := .array 11 (.array .int), interfaces := #[6, 7], accessFlags := 1041 }
def heap : Heap := #[]
def classes : Array Class := #[k0, k1, k2, k3, k4, k5, k6, k7, k8, k9, k10, k11, k12, k13, k14]
def interned : List (Array UInt16 × Addr) := []
def slotsUsed : Nat := 0
def theMethod : MethodId := ⟨1, 1⟩
def args0 : Array Value := #[.int 2, .int 1, .int 1, .int 7]
def aboutOver (below : List Frame) : State where
  vm := { classes := classes, interned := interned.toArray }
  heap := heap
  slotsUsed := slotsUsed
  threads := #[{ frames := .invoking theMethod args0 :: below }]
def below0 : List Frame := [.native { method := ⟨0, 0⟩, args := #[] }]
def about1 : State := aboutOver below0
def p0 : Program := .bare "" "" ""
def e0 : Env := launch0.env 0 0 0
theorem w_frames : about1.frames = Frame.invoking theMethod args0 :: below0 := rfl
set_option maxRecDepth 65536 in
theorem w_args : argsFit about1.vm theMethod args0 = true := by decide +kernel
set_option maxRecDepth 65536 in
theorem w_heap : heapFits about1 = true := by decide +kernel
set_option maxRecDepth 65536 in
theorem w_runnable : about1.curStatus? = some .runnable := by decide +kernel
set_option maxRecDepth 65536 in
theorem w_alone : about1.alone = true := by decide +kernel
set_option maxRecDepth 65536 in
theorem w_named : about1.methodNamed? x = some theMethod := by decide +kernel
set_option maxRecDepth 65536 in
theorem w_hears : about1.hears theMethod below0 = true := by decide +kernel
set_option maxRecDepth 65536 in
theorem w_ripe : about1.ripe theMethod args0 below0 = true := by decide +kernel
theorem w_running : about1.status = .running := rfl
set_option maxRecDepth 65536 in
theorem w_room : about1.hasRoom e0.platform room_1 = true :=
  launch0.hasRoom_least _ room_1 (by decide +kernel) (by decide +kernel) (by decide +kernel) (by decide +kernel) (by decide +kernel) (by decide +kernel)
theorem allAtoms_all (ts : List Jvm.Cond) (a : Array Jvm.Value) (st : Jvm.State) : (allAtoms ts).before a st = ts.all (fun c => c.before a st) := by
  induction ts with
  | nil => rfl
  | cons c t ih =>
    show (Jvm.Cond.and c (allAtoms t)).before a st = _
    rw [Jvm.Cond.before_and, ih, List.all_cons]
def words1 : List Jvm.Cond := Jvm.Cond.code x code maxLocals ret :: tables_1
/-- a 'code' word, met by the world's own term for the bytes: nothing is compared byte by byte -/
theorem code_word {y : MethodName} {bytes : ByteArray} {mx : Nat} {rt : Option FieldType} {a : Array Value} {s : State} {m : MethodId} {meth : Method} {c : Code} (h1 : s.methodNamed? y = some m) (h2 : s.vm.method? m = some meth) (h3 : meth.code = some c) (h4 : c.code = bytes)
    (h5 : (c.maxLocals == mx && c.exceptionTable.isEmpty && decide (c.maxStack ≤ mostOperands) && decide (meth.sig.returnType = rt) && !meth.locks && decide (parseMethodDescriptor y.desc = some meth.sig)) = true) : (Jvm.Cond.code y bytes mx rt).before a s = true := by
  simp only [Bool.and_eq_true, beq_iff_eq, Bool.not_eq_true', decide_eq_true_eq] at h5
  obtain ⟨⟨⟨⟨⟨g1, g2⟩, g3⟩, g4⟩, g5⟩, g6⟩ := h5
  simp [Cond.before, Cond.holds, Cond.value, h1, h2, h3, h4, g1, g2, g3, g4, g5, g6]
def isCode : Jvm.Cond → Bool
  | .code _ _ _ _ => true
  | _ => false
theorem all_split {L : List Jvm.Cond} {P : Jvm.Cond → Bool} (h1 : L.all (fun c => isCode c || P c) = true) (h2 : ∀ c ∈ L.filter isCode, P c = true) : L.all P = true := by
  refine List.all_eq_true.mpr fun c hc => ?_
  have h := List.all_eq_true.mp h1 c hc
  rcases Bool.eq_false_or_eq_true (isCode c) with hi | hi
  · exact h2 c (List.mem_filter.mpr ⟨hc, hi⟩)
  · simpa [hi] using h
set_option maxRecDepth 65536 in
theorem w_c0 : (Jvm.Cond.code x code maxLocals ret).before args0 about1 = true := code_word (m := ⟨1, 1⟩) (meth := k1m1) (c := k1c1) (by decide +kernel) rfl rfl rfl (by decide +kernel)
set_option maxRecDepth 65536 in
theorem w_c1 : (Jvm.Cond.code ({ cls := "java/lang/Math", name := "min", desc := "(II)I" } : Jvm.MethodName) jdk_29_method_69_code (2 : Nat) (Option.some Jvm.ClassFile.FieldType.int)).before args0 about1 = true := code_word (m := ⟨2, 1⟩) (meth := k2m1) (c := k2c1) (by decide +kernel) rfl rfl rfl (by decide +kernel)
set_option maxRecDepth 65536 in
theorem w_c2 : (Jvm.Cond.code ({ cls := "com/example/methodical_checker/methodicalchecker/promela/Walk", name := "<init>", desc := "()V" } : Jvm.MethodName) prog_121_method_1_code (1 : Nat) (Option.none : Option Jvm.ClassFile.FieldType)).before args0 about1 = true := code_word (m := ⟨3, 0⟩) (meth := k3m0) (c := k3c0) (by decide +kernel) rfl rfl rfl (by decide +kernel)
set_option maxRecDepth 65536 in
theorem w_c3 : (Jvm.Cond.code ({ cls := "java/lang/Object", name := "<init>", desc := "()V" } : Jvm.MethodName) object_method_1_code (1 : Nat) (Option.none : Option Jvm.ClassFile.FieldType)).before args0 about1 = true := code_word (m := ⟨0, 0⟩) (meth := k0m0) (c := k0c0) (by decide +kernel) rfl rfl rfl (by decide +kernel)
set_option maxRecDepth 65536 in
theorem w_c4 : (Jvm.Cond.code ({ cls := "com/example/methodical_checker/methodicalchecker/promela/WalkPendingInOrderPinLaw", name := "push", desc := "(Lcom/example/methodical_checker/methodicalchecker/promela/Walk;I)V" } : Jvm.MethodName) method_3_code (2 : Nat) (Option.none : Option Jvm.ClassFile.FieldType)).before args0 about1 = true := code_word (m := ⟨1, 2⟩) (meth := k1m2) (c := k1c2) (by decide +kernel) rfl rfl rfl (by decide +kernel)
set_option maxRecDepth 65536 in
theorem w_c5 : (Jvm.Cond.code ({ cls := "com/example/methodical_checker/methodicalchecker/promela/Walk", name := "push", desc := "(IILcom/example/methodical_checker/methodicalchecker/promela/Transition;Lcom/example/methodical_checker/methodicalchecker/promela/Stepper$Meeting;II)V" } : Jvm.MethodName) prog_121_method_8_code (8 : Nat) (Option.none : Option Jvm.ClassFile.FieldType)).before args0 about1 = true := code_word (m := ⟨3, 1⟩) (meth := k3m1) (c := k3c1) (by decide +kernel) rfl rfl rfl (by decide +kernel)
set_option maxRecDepth 65536 in
theorem w_c6 : (Jvm.Cond.code ({ cls := "com/example/methodical_checker/methodicalchecker/promela/Walk", name := "pendingInOrder", desc := "()[I" } : Jvm.MethodName) prog_121_method_11_code (3 : Nat) (Option.some (Jvm.ClassFile.FieldType.array Jvm.ClassFile.FieldType.int))).before args0 about1 = true := code_word (m := ⟨3, 3⟩) (meth := k3m3) (c := k3c3) (by decide +kernel) rfl rfl rfl (by decide +kernel)
set_option maxRecDepth 65536 in
theorem w_c7 : (Jvm.Cond.code ({ cls := "com/example/methodical_checker/methodicalchecker/promela/WalkPendingInOrderPinLaw", name := "at", desc := "([I[IIIIII)Z" } : Jvm.MethodName) method_4_code (8 : Nat) (Option.some Jvm.ClassFile.FieldType.boolean)).before args0 about1 = true := code_word (m := ⟨1, 3⟩) (meth := k1m3) (c := k1c3) (by decide +kernel) rfl rfl rfl (by decide +kernel)
set_option maxRecDepth 65536 in
theorem w_c8 : (Jvm.Cond.code ({ cls := "com/example/methodical_checker/methodicalchecker/promela/Walk", name := "pop", desc := "()I" } : Jvm.MethodName) prog_121_method_10_code (1 : Nat) (Option.some Jvm.ClassFile.FieldType.int)).before args0 about1 = true := code_word (m := ⟨3, 2⟩) (meth := k3m2) (c := k3c2) (by decide +kernel) rfl rfl rfl (by decide +kernel)
def codes1 : List Jvm.Cond := [Jvm.Cond.code x code maxLocals ret, Jvm.Cond.code ({ cls := "java/lang/Math", name := "min", desc := "(II)I" } : Jvm.MethodName) jdk_29_method_69_code (2 : Nat) (Option.some Jvm.ClassFile.FieldType.int), Jvm.Cond.code ({ cls := "com/example/methodical_checker/methodicalchecker/promela/Walk", name := "<init>", desc := "()V" } : Jvm.MethodName) prog_121_method_1_code (1 : Nat) (Option.none : Option Jvm.ClassFile.FieldType), Jvm.Cond.code ({ cls := "java/lang/Object", name := "<init>", desc := "()V" } : Jvm.MethodName) object_method_1_code (1 : Nat) (Option.none : Option Jvm.ClassFile.FieldType), Jvm.Cond.code ({ cls := "com/example/methodical_checker/methodicalchecker/promela/WalkPendingInOrderPinLaw", name := "push", desc := "(Lcom/example/methodical_checker/methodicalchecker/promela/Walk;I)V" } : Jvm.MethodName) method_3_code (2 : Nat) (Option.none : Option Jvm.ClassFile.FieldType), Jvm.Cond.code ({ cls := "com/example/methodical_checker/methodicalchecker/promela/Walk", name := "push", desc := "(IILcom/example/methodical_checker/methodicalchecker/promela/Transition;Lcom/example/methodical_checker/methodicalchecker/promela/Stepper$Meeting;II)V" } : Jvm.MethodName) prog_121_method_8_code (8 : Nat) (Option.none : Option Jvm.ClassFile.FieldType), Jvm.Cond.code ({ cls := "com/example/methodical_checker/methodicalchecker/promela/Walk", name := "pendingInOrder", desc := "()[I" } : Jvm.MethodName) prog_121_method_11_code (3 : Nat) (Option.some (Jvm.ClassFile.FieldType.array Jvm.ClassFile.FieldType.int)), Jvm.Cond.code ({ cls := "com/example/methodical_checker/methodicalchecker/promela/WalkPendingInOrderPinLaw", name := "at", desc := "([I[IIIIII)Z" } : Jvm.MethodName) method_4_code (8 : Nat) (Option.some Jvm.ClassFile.FieldType.boolean), Jvm.Cond.code ({ cls := "com/example/methodical_checker/methodicalchecker/promela/Walk", name := "pop", desc := "()I" } : Jvm.MethodName) prog_121_method_10_code (1 : Nat) (Option.some Jvm.ClassFile.FieldType.int)]
set_option maxRecDepth 65536 in
theorem codes_eq : words1.filter isCode = codes1 := rfl
theorem w_codes : ∀ c ∈ words1.filter isCode, c.before args0 about1 = true := by
  rw [codes_eq]
  intro c hc
  simp only [codes1, List.mem_cons, List.not_mem_nil, or_false] at hc
  rcases hc with rfl | rfl | rfl | rfl | rfl | rfl | rfl | rfl | rfl
  · exact w_c0
  · exact w_c1
  · exact w_c2
  · exact w_c3
  · exact w_c4
  · exact w_c5
  · exact w_c6
  · exact w_c7
  · exact w_c8
set_option maxRecDepth 65536 in
theorem w_t1 : (words1.take 24).all (fun c => isCode c || c.before args0 about1) = true := by decide +kernel
set_option maxRecDepth 65536 in
theorem w_t2 : ((words1.drop 24).take 24).all (fun c => isCode c || c.before args0 about1) = true := by decide +kernel
set_option maxRecDepth 65536 in
theorem w_t3 : (((words1.drop 24).drop 24).take 24).all (fun c => isCode c || c.before args0 about1) = true := by decide +kernel
set_option maxRecDepth 65536 in
theorem w_t4 : (((words1.drop 24).drop 24).drop 24).all (fun c => isCode c || c.before args0 about1) = true := by decide +kernel
theorem w_tables : (allAtoms (Jvm.Cond.code x code maxLocals ret :: tables_1)).before args0 about1 = true := by
  rw [allAtoms_all]
  show words1.all (fun c => c.before args0 about1) = true
  refine all_split ?_ w_codes
  rw [← List.take_append_drop 24 words1, List.all_append, w_t1, ← List.take_append_drop 24 (words1.drop 24), List.all_append, w_t2, ← List.take_append_drop 24 ((words1.drop 24).drop 24), List.all_append, w_t3, w_t4]
  rfl
set_option maxRecDepth 65536 in
theorem w_case : (Jvm.Cond.and given_1 narrow_1).before args0 about1 = true := by decide +kernel
theorem w_applies : (headSpec (Jvm.Cond.code x code maxLocals ret :: tables_1) room_1).applies x e0.platform about1 = true :=
  (Spec.applies_iff w_frames).mpr ⟨w_running, w_runnable, w_alone, w_named, w_hears, w_ripe, w_room, w_tables⟩
theorem atStart : AtStart classFile x code maxLocals ret World_1 tables_1 room_1 Calls_1 rest_1 Pre_1 launch0 p0 e0 about1 theMethod args0 below0 :=
  ⟨lists_1, trivial, launch0.admits_env _ _ _, launch0.least_env, fairChoices_fair.cas, fairChoices_fair.clock, w_frames, w_args, w_heap, w_applies, trivial, trivial, w_case⟩
end start1
theorem witness_1 : WitnessClaimed_1 := ⟨start1.p0, start1.e0, start1.about1, start1.theMethod, start1.args0, start1.below0, start1.atStart⟩
end Jvm.Pilot.@@N@@
