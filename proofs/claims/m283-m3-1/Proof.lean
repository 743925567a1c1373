import JvmDerived
import JvmDerived.Pilot.@@N@@Statement
import JvmDerived.Pilot.@@N@@Code
set_option linter.unusedVariables false
set_option linter.unusedSimpArgs false
namespace Jvm.RoadKit
open Sem ClassFile Op Lib Jvm.Stand Jvm.Free Jvm.LawKit
/-- the run from S comes to an end that Post allows -/
def own_Fin (tb : Tables) (e : Env) (below : List Frame) (Post : Outcome → State → Prop) (S : State) : Prop := ∃ s₂ o, Steps tb e below S s₂ ∧ s₂.status = .running ∧ Ended s₂ below o ∧ Post o s₂
def own_post (Q : Option Value → Heap → List Loc → Prop) (s : State) (k n : Nat) (o : Outcome) (U : State) : Prop := ∃ v L, o = .returned v ∧ Q v U.heap L ∧ FrameEnd s o U L k n
def own_bool (P : Prop) (v : Option Value) : Prop := (v = some (.int 1) ∧ P) ∨ (v = some (.int 0) ∧ ¬ P)
theorem own_Fin.step {tb : Tables} {e : Env} {below : List Frame} {Post : Outcome → State → Prop} {S S' : State} (h : ∀ t, Steps tb e below S' t → Steps tb e below S t) (k : own_Fin tb e below Post S') : own_Fin tb e below Post S := by
  obtain ⟨s2, o, h1, h2⟩ := k
  exact ⟨s2, o, h _ h1, h2⟩
theorem own_Fin.trans {tb : Tables} {e : Env} {below : List Frame} {Post : Outcome → State → Prop} {S S' : State} (h : Steps tb e below S S') (k : own_Fin tb e below Post S') : own_Fin tb e below Post S := by
  obtain ⟨s2, o, h1, h2⟩ := k
  exact ⟨s2, o, h.trans h1, h2⟩
section New
variable {p : Program} {l : Launch} {e : Env} {R : Room} {s : State} {m : MethodId} {args : Array Value} {below : List Frame} {meth : Method} {c : Code} {T : State} {locs : List Loc} {cells slots : Nat} {Q : Option Value → Heap → List Loc → Prop} {kc ks : Nat} {h : Heap}
theorem retI (X : Stand p l e R s m args below meth c T locs cells slots) (hx : p.tables.exec = Jvm.exec) {pc : Nat} {Ls : Array Slot} {z : Int32} {rest : List Value} (hret : meth.sig.returnType = some .int) (hd : decode c.code pc = .ok (.ireturn, 1)) {fs : List Frame}
    (hl : ∀ (f : JFrame) (acts : List Action), f.method = m → f.locked = none → f.entered = [] → (doReturn e (T.setTop f) acts (some (.int z))).1 = T.setFrames fs) : Steps p.tables e below (T.setTop (mkF m pc Ls (.int z :: rest))) (T.setFrames fs) := by
  have hm' : T.vm.method? m = some meth := X.method'
  have hn : narrow .int (.int z) = .int z := rfl
  show Steps p.tables e below (T.setTop { method := m, pc := pc, locals := Ls, stack := _ :: rest, locked := none }) _
  jvm_step X.here [X.here.top, hx, hd, hm', hret, hn]
  first | (intro acts; rw [hl _ acts rfl rfl rfl]) | rw [hl _ _ rfl rfl rfl]
  exact Steps.refl _
theorem own_retN (X : Stand p l e R s m args below meth c T locs cells slots) (hx : p.tables.exec = Jvm.exec) (hlk : meth.locks = false) {pc : Nat} {Ls : Array Slot} {z : Int32} {t : FieldType} {rest : List Value} (hret : meth.sig.returnType = some t) (ht : t = .boolean ∨ t = .byte ∨ t = .char ∨ t = .short)
    (hd : decode c.code pc = .ok (.ireturn, 1)) (eT : T.heap = h) (hq : Q (some (.int (nar t z))) h locs) (hc : cells ≤ kc) (hs : slots ≤ ks) : own_Fin p.tables e below (own_post Q s kc ks) (T.setTop (mkF m pc Ls (.int z :: rest))) := by
  obtain ⟨fs, hr, hrun, hended, hW, hsame⟩ := X.leave (v := some (.int (nar t z))) (fun h => by rw [hret] at h; cases h) hlk
  exact ⟨_, _, retN X hx hret ht hd hr, hrun, hended, _, _, rfl, (eT ▸ hq : Q (some (.int (nar t z))) T.heap locs), ⟨_, rfl⟩, hW, hsame.mono hc hs⟩
theorem own_retI (X : Stand p l e R s m args below meth c T locs cells slots) (hx : p.tables.exec = Jvm.exec) (hlk : meth.locks = false) {pc : Nat} {Ls : Array Slot} {z : Int32} {rest : List Value} (hret : meth.sig.returnType = some .int)
    (hd : decode c.code pc = .ok (.ireturn, 1)) (eT : T.heap = h) (hq : Q (some (.int z)) h locs) (hc : cells ≤ kc) (hs : slots ≤ ks) : own_Fin p.tables e below (own_post Q s kc ks) (T.setTop (mkF m pc Ls (.int z :: rest))) := by
  obtain ⟨fs, hr, hrun, hended, hW, hsame⟩ := X.leave (v := some (.int z)) (fun h => by rw [hret] at h; cases h) hlk
  exact ⟨_, _, retI X hx hret hd hr, hrun, hended, _, _, rfl, (eT ▸ hq : Q (some (.int z)) T.heap locs), ⟨_, rfl⟩, hW, hsame.mono hc hs⟩
theorem own_retJ (X : Stand p l e R s m args below meth c T locs cells slots) (hx : p.tables.exec = Jvm.exec) (hlk : meth.locks = false) {pc : Nat} {Ls : Array Slot} {z : Int64} (hret : meth.sig.returnType = some .long)
    (hd : decode c.code pc = .ok (.lreturn, 1)) (eT : T.heap = h) (hq : Q (some (.long z)) h locs) (hc : cells ≤ kc) (hs : slots ≤ ks) : own_Fin p.tables e below (own_post Q s kc ks) (T.setTop (mkF m pc Ls [.long z])) := by
  obtain ⟨fs, hr, hrun, hended, hW, hsame⟩ := X.leave (v := some (.long z)) (fun h => by rw [hret] at h; cases h) hlk
  exact ⟨_, _, X.lreturnOut hx hret hd hr, hrun, hended, _, _, rfl, (eT ▸ hq : Q (some (.long z)) T.heap locs), ⟨_, rfl⟩, hW, hsame.mono hc hs⟩
theorem own_retR (X : Stand p l e R s m args below meth c T locs cells slots) (hx : p.tables.exec = Jvm.exec) (hlk : meth.locks = false) {pc : Nat} {Ls : Array Slot} {w : Value} {t : FieldType} (hw : w.isRef = true) (hret : meth.sig.returnType = some t) (ht : t.isReference = true)
    (hd : decode c.code pc = .ok (.areturn, 1)) (eT : T.heap = h) (hq : Q (some w) h locs) (hc : cells ≤ kc) (hs : slots ≤ ks) : own_Fin p.tables e below (own_post Q s kc ks) (T.setTop (mkF m pc Ls [w])) := by
  obtain ⟨fs, hr, hrun, hended, hW, hsame⟩ := X.leave (v := some w) (fun h => by rw [hret] at h; cases h) hlk
  exact ⟨_, _, X.areturnOut hx hw hret ht hd hr, hrun, hended, _, _, rfl, (eT ▸ hq : Q (some w) T.heap locs), ⟨_, rfl⟩, hW, hsame.mono hc hs⟩
theorem own_retV (X : Stand p l e R s m args below meth c T locs cells slots) (hx : p.tables.exec = Jvm.exec) (hlk : meth.locks = false) {pc : Nat} {Ls : Array Slot} (hret : meth.sig.returnType = none)
    (hd : decode c.code pc = .ok (.return_, 1)) (eT : T.heap = h) (hq : Q none h locs) (hc : cells ≤ kc) (hs : slots ≤ ks) : own_Fin p.tables e below (own_post Q s kc ks) (T.setTop (mkF m pc Ls [])) := by
  obtain ⟨fs, hr, hrun, hended, hW, hsame⟩ := X.leave (v := none) (fun _ => rfl) hlk
  exact ⟨_, _, X.returnOut hx hret hd hr, hrun, hended, _, _, rfl, (eT ▸ hq : Q none T.heap locs), ⟨_, rfl⟩, hW, hsame.mono hc hs⟩
theorem own_cat1 {v : Value} (h : v.isRef = true) : v.category = 1 := by cases v <;> simp [Value.isRef, Value.category] at h ⊢
theorem own_fitR {v : Value} {C : String} (h : v.isRef = true) : fits (.object C) v = true := by cases v <;> simp [Value.isRef, fits] at h ⊢
theorem own_fitA {v : Value} {ty : FieldType} (h : v.isRef = true) : fits (.array ty) v = true := by cases v <;> simp [Value.isRef, fits] at h ⊢
theorem own_selPriv {s : State} {args : Array Value} {y : MethodName} {n : Nat} (hi : (Cond.instantiable y.cls n).before args s = true) (hpriv : s.PrivateAt y) (hinst : (Cond.instanceMethod y).before args s = true) (hy : y.cls ≠ "java/lang/invoke/MethodHandle" ∧ y.cls ≠ "java/lang/invoke/VarHandle") : (Cond.selects y.cls y y).before args s = true := by
  obtain ⟨c, k, h1, h2, -, h4, -, -⟩ := Cond.instantiable_spec hi
  have h5 : k.isInterface = false := by
    cases hk : k.isInterface with
    | false => rfl
    | true => simp [hk] at h4
  exact selects_self_of_private h1 h2 h5 hpriv hinst hy
theorem own_eqI {a b : Term} {args : Array Value} {first st : State} {o : Option Outcome} {idx : List Nat} {y : Int32} (h : (Cond.eq a b).value args first o st idx = some true) (hb : b.eval args first o idx st = some (.int y)) : a.eval args first o idx st = some (.int y) := by
  cases ha : a.eval args first o idx st with
  | none => simp [Cond.value, ha] at h
  | some x => cases x <;> simp [Cond.value, ha, hb] at h ⊢ <;> exact h
theorem own_eqR {a b : Term} {args : Array Value} {first st : State} {o : Option Outcome} {idx : List Nat} {y : Addr} (h : (Cond.eq a b).value args first o st idx = some true) (hb : b.eval args first o idx st = some (.ref y)) : a.eval args first o idx st = some (.ref y) := by
  cases ha : a.eval args first o idx st with
  | none => simp [Cond.value, ha] at h
  | some x => cases x <;> simp [Cond.value, ha, hb] at h ⊢ <;> exact h
theorem own_elem {t : Term} {args : Array Value} {Z : State} {a : Addr} {cl : Cell} {ty : FieldType} {j : Int32} {v : Value} (ev : t.eval args Z none [] Z = some (.ref a)) (A : Arr Z Z.heap a cl ty) (h : (Term.elem t (.int j)).eval args Z none [] Z = some v) : cl.slots[j.toNatClampNeg]? = some v := by
  obtain ⟨a', j', cell, e1, e2, e3, -, e5⟩ := Term.elem_spec h
  cases e1.symm.trans ev
  have e6 : some (Value.int j) = some (Value.int j') := e2
  cases e6
  have := IntBox.arrayAt_of A.1 A.2.1 A.2.2
  cases e3.symm.trans this
  exact e5
theorem own_arv {t : Term} {args : Array Value} {Z : State} {a : Addr} {cl : Cell} {ty : FieldType} {z : Int32} {vs : List Value} {dv : Value} (hf : Fit Z) (ev : t.eval args Z none [] Z = some (.ref a)) (A : Arr Z Z.heap a cl ty) (hl : (Term.length t).eval args Z none [] Z = some (.int z)) (hz : ¬ z < 0) (hn : z.toNatClampNeg = vs.length) (H : HasL cl 0 vs) : Arv Z Z.heap a cl.cls ty z vs dv := by
  have hA := IntBox.arrayAt_of A.1 A.2.1 A.2.2
  have hlt : cl.slots.size < 2 ^ 31 := by
    by_cases hq : cl.slots.size < 2 ^ 31
    · exact hq
    · simp [Term.eval, ev, hA, hq] at hl
  have e := len_f (t := t) (args := args) (first := Z) (o := none) (idx := []) ev hA hlt
  have e2 : cl.slots.size.toInt32 = z := by
    have := e.symm.trans hl
    cases this; rfl
  exact Arv.start hf A hlt e2 hz hn H
end New
end Jvm.RoadKit
namespace Jvm.Pilot.@@N@@
open Jvm Jvm.ClassFile Sem Op Lib Jvm.Free Jvm.Stand Jvm.LawKit Jvm.RoadKit Bundle Jvm.Pilot.@@N@@.Jvm.D
theorem own_irem (a r : Int32) : (a - (a / r) * r) = a % r := irem_eq_mod a r
theorem own_rem {q r : Int32} (k : Int) (hk : r.toInt = k) (h0 : 0 < k) {v : Int32} (hv : v = ((q &&& (2147483647 : Int32)) - ((q &&& (2147483647 : Int32)) / r) * r)) : 0 ≤ v.toInt ∧ v.toInt < k := by
  have h1 := c_mask q 2147483647 31 (by decide) (by decide)
  have e : v = (q &&& (2147483647 : Int32)) % r := by
    rw [hv]; exact own_irem _ _
  have h2 := c_irem (q &&& (2147483647 : Int32)) r k hk
  rw [← e] at h2
  have h3 : 0 ≤ (q &&& (2147483647 : Int32)).toInt := by omega
  rw [h2.1 h3]
  exact ⟨Int.emod_nonneg _ (by omega), Int.emod_lt_of_pos _ h0⟩
theorem own_lit {v : Int32} (n : Int32) (h : v.toInt = n.toInt) : v = n := Int32.toInt_inj.mp h
def Amb (Z : State) (o_SHIELDMAN : Addr) (o_NW : Addr) (o_NE : Addr) (o_OPPOSITES : Addr) (ko_OPPOSITES : ClassId) (o_SW : Addr) (o_SE : Addr) (o_W : Addr) (o_E : Addr) (o_HORSEMAN : Addr) (o_ARCHER : Addr) (o_WARLORD : Addr) : Prop := Sta Z Z.heap "com/example/rulewright/rulewright/games/skorm/PieceType" "SHIELDMAN" "Lcom/example/rulewright/rulewright/games/skorm/PieceType;" (.ref o_SHIELDMAN) ∧ Exa Z Z.heap o_SHIELDMAN "com/example/rulewright/rulewright/games/skorm/PieceType" ∧ Sta Z Z.heap "com/example/rulewright/rulewright/games/skorm/Direction" "NW" "Lcom/example/rulewright/rulewright/games/skorm/Direction;" (.ref o_NW) ∧ Exa Z Z.heap o_NW "com/example/rulewright/rulewright/games/skorm/Direction" ∧ Sta Z Z.heap "com/example/rulewright/rulewright/games/skorm/Direction" "NE" "Lcom/example/rulewright/rulewright/games/skorm/Direction;" (.ref o_NE) ∧ Exa Z Z.heap o_NE "com/example/rulewright/rulewright/games/skorm/Direction" ∧ Sta Z Z.heap "com/example/rulewright/rulewright/games/skorm/Direction" "OPPOSITES" "[Lcom/example/rulewright/rulewright/games/skorm/Direction;" (.ref o_OPPOSITES) ∧ Sta Z Z.heap "com/example/rulewright/rulewright/games/skorm/Direction" "SW" "Lcom/example/rulewright/rulewright/games/skorm/Direction;" (.ref o_SW) ∧ Exa Z Z.heap o_SW "com/example/rulewright/rulewright/games/skorm/Direction" ∧ Sta Z Z.heap "com/example/rulewright/rulewright/games/skorm/Direction" "SE" "Lcom/example/rulewright/rulewright/games/skorm/Direction;" (.ref o_SE) ∧ Exa Z Z.heap o_SE "com/example/rulewright/rulewright/games/skorm/Direction" ∧ Sta Z Z.heap "com/example/rulewright/rulewright/games/skorm/Direction" "W" "Lcom/example/rulewright/rulewright/games/skorm/Direction;" (.ref o_W) ∧ Exa Z Z.heap o_W "com/example/rulewright/rulewright/games/skorm/Direction" ∧ Sta Z Z.heap "com/example/rulewright/rulewright/games/skorm/Direction" "E" "Lcom/example/rulewright/rulewright/games/skorm/Direction;" (.ref o_E) ∧ Exa Z Z.heap o_E "com/example/rulewright/rulewright/games/skorm/Direction" ∧ Sta Z Z.heap "com/example/rulewright/rulewright/games/skorm/PieceType" "HORSEMAN" "Lcom/example/rulewright/rulewright/games/skorm/PieceType;" (.ref o_HORSEMAN) ∧ Exa Z Z.heap o_HORSEMAN "com/example/rulewright/rulewright/games/skorm/PieceType" ∧ Sta Z Z.heap "com/example/rulewright/rulewright/games/skorm/PieceType" "ARCHER" "Lcom/example/rulewright/rulewright/games/skorm/PieceType;" (.ref o_ARCHER) ∧ Exa Z Z.heap o_ARCHER "com/example/rulewright/rulewright/games/skorm/PieceType" ∧ Sta Z Z.heap "com/example/rulewright/rulewright/games/skorm/PieceType" "WARLORD" "Lcom/example/rulewright/rulewright/games/skorm/PieceType;" (.ref o_WARLORD) ∧ Exa Z Z.heap o_WARLORD "com/example/rulewright/rulewright/games/skorm/PieceType" ∧ Fld Z Z.heap o_NE "java/lang/Enum" "ordinal" "I" (.int (2 : Int32)) ∧ Fld Z Z.heap o_NW "java/lang/Enum" "ordinal" "I" (.int (3 : Int32)) ∧ Fld Z Z.heap o_SW "java/lang/Enum" "ordinal" "I" (.int (5 : Int32)) ∧ Fld Z Z.heap o_SE "java/lang/Enum" "ordinal" "I" (.int (4 : Int32)) ∧ Fld Z Z.heap o_W "java/lang/Enum" "ordinal" "I" (.int (1 : Int32)) ∧ Fld Z Z.heap o_E "java/lang/Enum" "ordinal" "I" (.int (0 : Int32)) ∧ Arv Z Z.heap o_OPPOSITES ko_OPPOSITES (.object "com/example/rulewright/rulewright/games/skorm/Direction") (6 : Int32) [(.ref o_W), (.ref o_E), (.ref o_SW), (.ref o_SE), (.ref o_NW), (.ref o_NE)] .null ∧ True
theorem Amb.a0 {Z : State} {o_SHIELDMAN : Addr} {o_NW : Addr} {o_NE : Addr} {o_OPPOSITES : Addr} {ko_OPPOSITES : ClassId} {o_SW : Addr} {o_SE : Addr} {o_W : Addr} {o_E : Addr} {o_HORSEMAN : Addr} {o_ARCHER : Addr} {o_WARLORD : Addr} (A : Amb Z o_SHIELDMAN o_NW o_NE o_OPPOSITES ko_OPPOSITES o_SW o_SE o_W o_E o_HORSEMAN o_ARCHER o_WARLORD) : Sta Z Z.heap "com/example/rulewright/rulewright/games/skorm/PieceType" "SHIELDMAN" "Lcom/example/rulewright/rulewright/games/skorm/PieceType;" (.ref o_SHIELDMAN) := A.1
theorem Amb.a1 {Z : State} {o_SHIELDMAN : Addr} {o_NW : Addr} {o_NE : Addr} {o_OPPOSITES : Addr} {ko_OPPOSITES : ClassId} {o_SW : Addr} {o_SE : Addr} {o_W : Addr} {o_E : Addr} {o_HORSEMAN : Addr} {o_ARCHER : Addr} {o_WARLORD : Addr} (A : Amb Z o_SHIELDMAN o_NW o_NE o_OPPOSITES ko_OPPOSITES o_SW o_SE o_W o_E o_HORSEMAN o_ARCHER o_WARLORD) : Exa Z Z.heap o_SHIELDMAN "com/example/rulewright/rulewright/games/skorm/PieceType" := A.2.1
theorem Amb.a2 {Z : State} {o_SHIELDMAN : Addr} {o_NW : Addr} {o_NE : Addr} {o_OPPOSITES : Addr} {ko_OPPOSITES : ClassId} {o_SW : Addr} {o_SE : Addr} {o_W : Addr} {o_E : Addr} {o_HORSEMAN : Addr} {o_ARCHER : Addr} {o_WARLORD : Addr} (A : Amb Z o_SHIELDMAN o_NW o_NE o_OPPOSITES ko_OPPOSITES o_SW o_SE o_W o_E o_HORSEMAN o_ARCHER o_WARLORD) : Sta Z Z.heap "com/example/rulewright/rulewright/games/skorm/Direction" "NW" "Lcom/example/rulewright/rulewright/games/skorm/Direction;" (.ref o_NW) := A.2.2.1
theorem Amb.a3 {Z : State} {o_SHIELDMAN : Addr} {o_NW : Addr} {o_NE : Addr} {o_OPPOSITES : Addr} {ko_OPPOSITES : ClassId} {o_SW : Addr} {o_SE : Addr} {o_W : Addr} {o_E : Addr} {o_HORSEMAN : Addr} {o_ARCHER : Addr} {o_WARLORD : Addr} (A : Amb Z o_SHIELDMAN o_NW o_NE o_OPPOSITES ko_OPPOSITES o_SW o_SE o_W o_E o_HORSEMAN o_ARCHER o_WARLORD) : Exa Z Z.heap o_NW "com/example/rulewright/rulewright/games/skorm/Direction" := A.2.2.2.1
theorem Amb.a4 {Z : State} {o_SHIELDMAN : Addr} {o_NW : Addr} {o_NE : Addr} {o_OPPOSITES : Addr} {ko_OPPOSITES : ClassId} {o_SW : Addr} {o_SE : Addr} {o_W : Addr} {o_E : Addr} {o_HORSEMAN : Addr} {o_ARCHER : Addr} {o_WARLORD : Addr} (A : Amb Z o_SHIELDMAN o_NW o_NE o_OPPOSITES ko_OPPOSITES o_SW o_SE o_W o_E o_HORSEMAN o_ARCHER o_WARLORD) : Sta Z Z.heap "com/example/rulewright/rulewright/games/skorm/Direction" "NE" "Lcom/example/rulewright/rulewright/games/skorm/Direction;" (.ref o_NE) := A.2.2.2.2.1
theorem Amb.a5 {Z : State} {o_SHIELDMAN : Addr} {o_NW : Addr} {o_NE : Addr} {o_OPPOSITES : Addr} {ko_OPPOSITES : ClassId} {o_SW : Addr} {o_SE : Addr} {o_W : Addr} {o_E : Addr} {o_HORSEMAN : Addr} {o_ARCHER : Addr} {o_WARLORD : Addr} (A : Amb Z o_SHIELDMAN o_NW o_NE o_OPPOSITES ko_OPPOSITES o_SW o_SE o_W o_E o_HORSEMAN o_ARCHER o_WARLORD) : Exa Z Z.heap o_NE "com/example/rulewright/rulewright/games/skorm/Direction" := A.2.2.2.2.2.1
theorem Amb.a6 {Z : State} {o_SHIELDMAN : Addr} {o_NW : Addr} {o_NE : Addr} {o_OPPOSITES : Addr} {ko_OPPOSITES : ClassId} {o_SW : Addr} {o_SE : Addr} {o_W : Addr} {o_E : Addr} {o_HORSEMAN : Addr} {o_ARCHER : Addr} {o_WARLORD : Addr} (A : Amb Z o_SHIELDMAN o_NW o_NE o_OPPOSITES ko_OPPOSITES o_SW o_SE o_W o_E o_HORSEMAN o_ARCHER o_WARLORD) : Sta Z Z.heap "com/example/rulewright/rulewright/games/skorm/Direction" "OPPOSITES" "[Lcom/example/rulewright/rulewright/games/skorm/Direction;" (.ref o_OPPOSITES) := A.2.2.2.2.2.2.1
theorem Amb.a7 {Z : State} {o_SHIELDMAN : Addr} {o_NW : Addr} {o_NE : Addr} {o_OPPOSITES : Addr} {ko_OPPOSITES : ClassId} {o_SW : Addr} {o_SE : Addr} {o_W : Addr} {o_E : Addr} {o_HORSEMAN : Addr} {o_ARCHER : Addr} {o_WARLORD : Addr} (A : Amb Z o_SHIELDMAN o_NW o_NE o_OPPOSITES ko_OPPOSITES o_SW o_SE o_W o_E o_HORSEMAN o_ARCHER o_WARLORD) : Sta Z Z.heap "com/example/rulewright/rulewright/games/skorm/Direction" "SW" "Lcom/example/rulewright/rulewright/games/skorm/Direction;" (.ref o_SW) := A.2.2.2.2.2.2.2.1
theorem Amb.a8 {Z : State} {o_SHIELDMAN : Addr} {o_NW : Addr} {o_NE : Addr} {o_OPPOSITES : Addr} {ko_OPPOSITES : ClassId} {o_SW : Addr} {o_SE : Addr} {o_W : Addr} {o_E : Addr} {o_HORSEMAN : Addr} {o_ARCHER : Addr} {o_WARLORD : Addr} (A : Amb Z o_SHIELDMAN o_NW o_NE o_OPPOSITES ko_OPPOSITES o_SW o_SE o_W o_E o_HORSEMAN o_ARCHER o_WARLORD) : Exa Z Z.heap o_SW "com/example/rulewright/rulewright/games/skorm/Direction" := A.2.2.2.2.2.2.2.2.1
theorem Amb.a9 {Z : State} {o_SHIELDMAN : Addr} {o_NW : Addr} {o_NE : Addr} {o_OPPOSITES : Addr} {ko_OPPOSITES : ClassId} {o_SW : Addr} {o_SE : Addr} {o_W : Addr} {o_E : Addr} {o_HORSEMAN : Addr} {o_ARCHER : Addr} {o_WARLORD : Addr} (A : Amb Z o_SHIELDMAN o_NW o_NE o_OPPOSITES ko_OPPOSITES o_SW o_SE o_W o_E o_HORSEMAN o_ARCHER o_WARLORD) : Sta Z Z.heap "com/example/rulewright/rulewright/games/skorm/Direction" "SE" "Lcom/example/rulewright/rulewright/games/skorm/Direction;" (.ref o_SE) := A.2.2.2.2.2.2.2.2.2.1
theorem Amb.a10 {Z : State} {o_SHIELDMAN : Addr} {o_NW : Addr} {o_NE : Addr} {o_OPPOSITES : Addr} {ko_OPPOSITES : ClassId} {o_SW : Addr} {o_SE : Addr} {o_W : Addr} {o_E : Addr} {o_HORSEMAN : Addr} {o_ARCHER : Addr} {o_WARLORD : Addr} (A : Amb Z o_SHIELDMAN o_NW o_NE o_OPPOSITES ko_OPPOSITES o_SW o_SE o_W o_E o_HORSEMAN o_ARCHER o_WARLORD) : Exa Z Z.heap o_SE "com/example/rulewright/rulewright/games/skorm/Direction" := A.2.2.2.2.2.2.2.2.2.2.1
theorem Amb.a11 {Z : State} {o_SHIELDMAN : Addr} {o_NW : Addr} {o_NE : Addr} {o_OPPOSITES : Addr} {ko_OPPOSITES : ClassId} {o_SW : Addr} {o_SE : Addr} {o_W : Addr} {o_E : Addr} {o_HORSEMAN : Addr} {o_ARCHER : Addr} {o_WARLORD : Addr} (A : Amb Z o_SHIELDMAN o_NW o_NE o_OPPOSITES ko_OPPOSITES o_SW o_SE o_W o_E o_HORSEMAN o_ARCHER o_WARLORD) : Sta Z Z.heap "com/example/rulewright/rulewright/games/skorm/Direction" "W" "Lcom/example/rulewright/rulewright/games/skorm/Direction;" (.ref o_W) := A.2.2.2.2.2.2.2.2.2.2.2.1
theorem Amb.a12 {Z : State} {o_SHIELDMAN : Addr} {o_NW : Addr} {o_NE : Addr} {o_OPPOSITES : Addr} {ko_OPPOSITES : ClassId} {o_SW : Addr} {o_SE : Addr} {o_W : Addr} {o_E : Addr} {o_HORSEMAN : Addr} {o_ARCHER : Addr} {o_WARLORD : Addr} (A : Amb Z o_SHIELDMAN o_NW o_NE o_OPPOSITES ko_OPPOSITES o_SW o_SE o_W o_E o_HORSEMAN o_ARCHER o_WARLORD) : Exa Z Z.heap o_W "com/example/rulewright/rulewright/games/skorm/Direction" := A.2.2.2.2.2.2.2.2.2.2.2.2.1
theorem Amb.a13 {Z : State} {o_SHIELDMAN : Addr} {o_NW : Addr} {o_NE : Addr} {o_OPPOSITES : Addr} {ko_OPPOSITES : ClassId} {o_SW : Addr} {o_SE : Addr} {o_W : Addr} {o_E : Addr} {o_HORSEMAN : Addr} {o_ARCHER : Addr} {o_WARLORD : Addr} (A : Amb Z o_SHIELDMAN o_NW o_NE o_OPPOSITES ko_OPPOSITES o_SW o_SE o_W o_E o_HORSEMAN o_ARCHER o_WARLORD) : Sta Z Z.heap "com/example/rulewright/rulewright/games/skorm/Direction" "E" "Lcom/example/rulewright/rulewright/games/skorm/Direction;" (.ref o_E) := A.2.2.2.2.2.2.2.2.2.2.2.2.2.1
theorem Amb.a14 {Z : State} {o_SHIELDMAN : Addr} {o_NW : Addr} {o_NE : Addr} {o_OPPOSITES : Addr} {ko_OPPOSITES : ClassId} {o_SW : Addr} {o_SE : Addr} {o_W : Addr} {o_E : Addr} {o_HORSEMAN : Addr} {o_ARCHER : Addr} {o_WARLORD : Addr} (A : Amb Z o_SHIELDMAN o_NW o_NE o_OPPOSITES ko_OPPOSITES o_SW o_SE o_W o_E o_HORSEMAN o_ARCHER o_WARLORD) : Exa Z Z.heap o_E "com/example/rulewright/rulewright/games/skorm/Direction" := A.2.2.2.2.2.2.2.2.2.2.2.2.2.2.1
theorem Amb.a15 {Z : State} {o_SHIELDMAN : Addr} {o_NW : Addr} {o_NE : Addr} {o_OPPOSITES : Addr} {ko_OPPOSITES : ClassId} {o_SW : Addr} {o_SE : Addr} {o_W : Addr} {o_E : Addr} {o_HORSEMAN : Addr} {o_ARCHER : Addr} {o_WARLORD : Addr} (A : Amb Z o_SHIELDMAN o_NW o_NE o_OPPOSITES ko_OPPOSITES o_SW o_SE o_W o_E o_HORSEMAN o_ARCHER o_WARLORD) : Sta Z Z.heap "com/example/rulewright/rulewright/games/skorm/PieceType" "HORSEMAN" "Lcom/example/rulewright/rulewright/games/skorm/PieceType;" (.ref o_HORSEMAN) := A.2.2.2.2.2.2.2.2.2.2.2.2.2.2.2.1
theorem Amb.a16 {Z : State} {o_SHIELDMAN : Addr} {o_NW : Addr} {o_NE : Addr} {o_OPPOSITES : Addr} {ko_OPPOSITES : ClassId} {o_SW : Addr} {o_SE : Addr} {o_W : Addr} {o_E : Addr} {o_HORSEMAN : Addr} {o_ARCHER : Addr} {o_WARLORD : Addr} (A : Amb Z o_SHIELDMAN o_NW o_NE o_OPPOSITES ko_OPPOSITES o_SW o_SE o_W o_E o_HORSEMAN o_ARCHER o_WARLORD) : Exa Z Z.heap o_HORSEMAN "com/example/rulewright/rulewright/games/skorm/PieceType" := A.2.2.2.2.2.2.2.2.2.2.2.2.2.2.2.2.1
theorem Amb.a17 {Z : State} {o_SHIELDMAN : Addr} {o_NW : Addr} {o_NE : Addr} {o_OPPOSITES : Addr} {ko_OPPOSITES : ClassId} {o_SW : Addr} {o_SE : Addr} {o_W : Addr} {o_E : Addr} {o_HORSEMAN : Addr} {o_ARCHER : Addr} {o_WARLORD : Addr} (A : Amb Z o_SHIELDMAN o_NW o_NE o_OPPOSITES ko_OPPOSITES o_SW o_SE o_W o_E o_HORSEMAN o_ARCHER o_WARLORD) : Sta Z Z.heap "com/example/rulewright/rulewright/games/skorm/PieceType" "ARCHER" "Lcom/example/rulewright/rulewright/games/skorm/PieceType;" (.ref o_ARCHER) := A.2.2.2.2.2.2.2.2.2.2.2.2.2.2.2.2.2.1
theorem Amb.a18 {Z : State} {o_SHIELDMAN : Addr} {o_NW : Addr} {o_NE : Addr} {o_OPPOSITES : Addr} {ko_OPPOSITES : ClassId} {o_SW : Addr} {o_SE : Addr} {o_W : Addr} {o_E : Addr} {o_HORSEMAN : Addr} {o_ARCHER : Addr} {o_WARLORD : Addr} (A : Amb Z o_SHIELDMAN o_NW o_NE o_OPPOSITES ko_OPPOSITES o_SW o_SE o_W o_E o_HORSEMAN o_ARCHER o_WARLORD) : Exa Z Z.heap o_ARCHER "com/example/rulewright/rulewright/games/skorm/PieceType" := A.2.2.2.2.2.2.2.2.2.2.2.2.2.2.2.2.2.2.1
theorem Amb.a19 {Z : State} {o_SHIELDMAN : Addr} {o_NW : Addr} {o_NE : Addr} {o_OPPOSITES : Addr} {ko_OPPOSITES : ClassId} {o_SW : Addr} {o_SE : Addr} {o_W : Addr} {o_E : Addr} {o_HORSEMAN : Addr} {o_ARCHER : Addr} {o_WARLORD : Addr} (A : Amb Z o_SHIELDMAN o_NW o_NE o_OPPOSITES ko_OPPOSITES o_SW o_SE o_W o_E o_HORSEMAN o_ARCHER o_WARLORD) : Sta Z Z.heap "com/example/rulewright/rulewright/games/skorm/PieceType" "WARLORD" "Lcom/example/rulewright/rulewright/games/skorm/PieceType;" (.ref o_WARLORD) := A.2.2.2.2.2.2.2.2.2.2.2.2.2.2.2.2.2.2.2.1
theorem Amb.a20 {Z : State} {o_SHIELDMAN : Addr} {o_NW : Addr} {o_NE : Addr} {o_OPPOSITES : Addr} {ko_OPPOSITES : ClassId} {o_SW : Addr} {o_SE : Addr} {o_W : Addr} {o_E : Addr} {o_HORSEMAN : Addr} {o_ARCHER : Addr} {o_WARLORD : Addr} (A : Amb Z o_SHIELDMAN o_NW o_NE o_OPPOSITES ko_OPPOSITES o_SW o_SE o_W o_E o_HORSEMAN o_ARCHER o_WARLORD) : Exa Z Z.heap o_WARLORD "com/example/rulewright/rulewright/games/skorm/PieceType" := A.2.2.2.2.2.2.2.2.2.2.2.2.2.2.2.2.2.2.2.2.1
theorem Amb.a21 {Z : State} {o_SHIELDMAN : Addr} {o_NW : Addr} {o_NE : Addr} {o_OPPOSITES : Addr} {ko_OPPOSITES : ClassId} {o_SW : Addr} {o_SE : Addr} {o_W : Addr} {o_E : Addr} {o_HORSEMAN : Addr} {o_ARCHER : Addr} {o_WARLORD : Addr} (A : Amb Z o_SHIELDMAN o_NW o_NE o_OPPOSITES ko_OPPOSITES o_SW o_SE o_W o_E o_HORSEMAN o_ARCHER o_WARLORD) : Fld Z Z.heap o_NE "java/lang/Enum" "ordinal" "I" (.int (2 : Int32)) := A.2.2.2.2.2.2.2.2.2.2.2.2.2.2.2.2.2.2.2.2.2.1
theorem Amb.a22 {Z : State} {o_SHIELDMAN : Addr} {o_NW : Addr} {o_NE : Addr} {o_OPPOSITES : Addr} {ko_OPPOSITES : ClassId} {o_SW : Addr} {o_SE : Addr} {o_W : Addr} {o_E : Addr} {o_HORSEMAN : Addr} {o_ARCHER : Addr} {o_WARLORD : Addr} (A : Amb Z o_SHIELDMAN o_NW o_NE o_OPPOSITES ko_OPPOSITES o_SW o_SE o_W o_E o_HORSEMAN o_ARCHER o_WARLORD) : Fld Z Z.heap o_NW "java/lang/Enum" "ordinal" "I" (.int (3 : Int32)) := A.2.2.2.2.2.2.2.2.2.2.2.2.2.2.2.2.2.2.2.2.2.2.1
theorem Amb.a23 {Z : State} {o_SHIELDMAN : Addr} {o_NW : Addr} {o_NE : Addr} {o_OPPOSITES : Addr} {ko_OPPOSITES : ClassId} {o_SW : Addr} {o_SE : Addr} {o_W : Addr} {o_E : Addr} {o_HORSEMAN : Addr} {o_ARCHER : Addr} {o_WARLORD : Addr} (A : Amb Z o_SHIELDMAN o_NW o_NE o_OPPOSITES ko_OPPOSITES o_SW o_SE o_W o_E o_HORSEMAN o_ARCHER o_WARLORD) : Fld Z Z.heap o_SW "java/lang/Enum" "ordinal" "I" (.int (5 : Int32)) := A.2.2.2.2.2.2.2.2.2.2.2.2.2.2.2.2.2.2.2.2.2.2.2.1
theorem Amb.a24 {Z : State} {o_SHIELDMAN : Addr} {o_NW : Addr} {o_NE : Addr} {o_OPPOSITES : Addr} {ko_OPPOSITES : ClassId} {o_SW : Addr} {o_SE : Addr} {o_W : Addr} {o_E : Addr} {o_HORSEMAN : Addr} {o_ARCHER : Addr} {o_WARLORD : Addr} (A : Amb Z o_SHIELDMAN o_NW o_NE o_OPPOSITES ko_OPPOSITES o_SW o_SE o_W o_E o_HORSEMAN o_ARCHER o_WARLORD) : Fld Z Z.heap o_SE "java/lang/Enum" "ordinal" "I" (.int (4 : Int32)) := A.2.2.2.2.2.2.2.2.2.2.2.2.2.2.2.2.2.2.2.2.2.2.2.2.1
theorem Amb.a25 {Z : State} {o_SHIELDMAN : Addr} {o_NW : Addr} {o_NE : Addr} {o_OPPOSITES : Addr} {ko_OPPOSITES : ClassId} {o_SW : Addr} {o_SE : Addr} {o_W : Addr} {o_E : Addr} {o_HORSEMAN : Addr} {o_ARCHER : Addr} {o_WARLORD : Addr} (A : Amb Z o_SHIELDMAN o_NW o_NE o_OPPOSITES ko_OPPOSITES o_SW o_SE o_W o_E o_HORSEMAN o_ARCHER o_WARLORD) : Fld Z Z.heap o_W "java/lang/Enum" "ordinal" "I" (.int (1 : Int32)) := A.2.2.2.2.2.2.2.2.2.2.2.2.2.2.2.2.2.2.2.2.2.2.2.2.2.1
theorem Amb.a26 {Z : State} {o_SHIELDMAN : Addr} {o_NW : Addr} {o_NE : Addr} {o_OPPOSITES : Addr} {ko_OPPOSITES : ClassId} {o_SW : Addr} {o_SE : Addr} {o_W : Addr} {o_E : Addr} {o_HORSEMAN : Addr} {o_ARCHER : Addr} {o_WARLORD : Addr} (A : Amb Z o_SHIELDMAN o_NW o_NE o_OPPOSITES ko_OPPOSITES o_SW o_SE o_W o_E o_HORSEMAN o_ARCHER o_WARLORD) : Fld Z Z.heap o_E "java/lang/Enum" "ordinal" "I" (.int (0 : Int32)) := A.2.2.2.2.2.2.2.2.2.2.2.2.2.2.2.2.2.2.2.2.2.2.2.2.2.2.1
theorem Amb.a27 {Z : State} {o_SHIELDMAN : Addr} {o_NW : Addr} {o_NE : Addr} {o_OPPOSITES : Addr} {ko_OPPOSITES : ClassId} {o_SW : Addr} {o_SE : Addr} {o_W : Addr} {o_E : Addr} {o_HORSEMAN : Addr} {o_ARCHER : Addr} {o_WARLORD : Addr} (A : Amb Z o_SHIELDMAN o_NW o_NE o_OPPOSITES ko_OPPOSITES o_SW o_SE o_W o_E o_HORSEMAN o_ARCHER o_WARLORD) : Arv Z Z.heap o_OPPOSITES ko_OPPOSITES (.object "com/example/rulewright/rulewright/games/skorm/Direction") (6 : Int32) [(.ref o_W), (.ref o_E), (.ref o_SW), (.ref o_SE), (.ref o_NW), (.ref o_NE)] .null := A.2.2.2.2.2.2.2.2.2.2.2.2.2.2.2.2.2.2.2.2.2.2.2.2.2.2.2.1


def own_dirA (dE dW dNE dNW dSE dSW : Addr) (i : Int32) : Addr := if i = 0 then dE else if i = 1 then dW else if i = 2 then dNE else if i = 3 then dNW else if i = 4 then dSE else dSW
def own_ordI (i : Int32) : Int32 := if i = 0 then 0 else if i = 1 then 1 else if i = 2 then 2 else if i = 3 then 3 else if i = 4 then 4 else 5
def own_opp (i : Int32) : Int32 := if i = 0 then 1 else if i = 1 then 0 else if i = 2 then 5 else if i = 5 then 2 else if i = 3 then 4 else 3

theorem d1_0 : decode method_2_code 0 = .ok (.iload_n 0, 1) := by decide +kernel
theorem d1_1 : decode method_2_code 1 = .ok (.ifCond .ne 7, 3) := by decide +kernel
theorem d1_4 : decode method_2_code 4 = .ok (.getstatic 7, 3) := by decide +kernel
theorem d1_7 : decode method_2_code 7 = .ok (.areturn, 1) := by decide +kernel
theorem d1_8 : decode method_2_code 8 = .ok (.iload_n 0, 1) := by decide +kernel
theorem d1_9 : decode method_2_code 9 = .ok (.iconst 1, 1) := by decide +kernel
theorem d1_10 : decode method_2_code 10 = .ok (.if_icmp .ne 7, 3) := by decide +kernel
theorem d1_13 : decode method_2_code 13 = .ok (.getstatic 13, 3) := by decide +kernel
theorem d1_16 : decode method_2_code 16 = .ok (.areturn, 1) := by decide +kernel
theorem d1_17 : decode method_2_code 17 = .ok (.iload_n 0, 1) := by decide +kernel
theorem d1_18 : decode method_2_code 18 = .ok (.iconst 2, 1) := by decide +kernel
theorem d1_19 : decode method_2_code 19 = .ok (.if_icmp .ne 7, 3) := by decide +kernel
theorem d1_22 : decode method_2_code 22 = .ok (.getstatic 16, 3) := by decide +kernel
theorem d1_25 : decode method_2_code 25 = .ok (.areturn, 1) := by decide +kernel
theorem d1_26 : decode method_2_code 26 = .ok (.iload_n 0, 1) := by decide +kernel
theorem d1_27 : decode method_2_code 27 = .ok (.iconst 3, 1) := by decide +kernel
theorem d1_28 : decode method_2_code 28 = .ok (.if_icmp .ne 7, 3) := by decide +kernel
theorem d1_31 : decode method_2_code 31 = .ok (.getstatic 19, 3) := by decide +kernel
theorem d1_34 : decode method_2_code 34 = .ok (.areturn, 1) := by decide +kernel
theorem d1_35 : decode method_2_code 35 = .ok (.iload_n 0, 1) := by decide +kernel
theorem d1_36 : decode method_2_code 36 = .ok (.iconst 4, 1) := by decide +kernel
theorem d1_37 : decode method_2_code 37 = .ok (.if_icmp .ne 7, 3) := by decide +kernel
theorem d1_40 : decode method_2_code 40 = .ok (.getstatic 22, 3) := by decide +kernel
theorem d1_43 : decode method_2_code 43 = .ok (.areturn, 1) := by decide +kernel
theorem d1_44 : decode method_2_code 44 = .ok (.getstatic 25, 3) := by decide +kernel
theorem d1_47 : decode method_2_code 47 = .ok (.areturn, 1) := by decide +kernel
theorem pn_1 : plainName "com/example/rulewright/rulewright/games/skorm/PieceGuardsPinLaw" = true := by first | (simp [plainName, overriddenIn]; done) | decide +kernel
theorem ef_1 (m : MethodId) (x0 : Int32) : entryFrame m #[(.int x0)] 1 = mkF m 0 #[.val (.int x0)] [] := by first | (simp [entryFrame, mkF, argsToLocals, Value.category]; done) | rfl
def Q1 (Z : State) (o_SHIELDMAN : Addr) (o_NW : Addr) (o_NE : Addr) (o_OPPOSITES : Addr) (ko_OPPOSITES : ClassId) (o_SW : Addr) (o_SE : Addr) (o_W : Addr) (o_E : Addr) (o_HORSEMAN : Addr) (o_ARCHER : Addr) (o_WARLORD : Addr) (q0 : Int32) (h0 : Heap) (n0 : Nat) (v : Option Value) (h : Heap) (L : List Loc) : Prop := v = some (.ref (own_dirA o_E o_W o_NE o_NW o_SE o_SW q0)) ∧ Fr n0 L ∧ h = h0
set_option maxRecDepth 65536 in
set_option maxHeartbeats 40000000 in
theorem rm1 (l : Launch) (Z : State) (a0 : Array Value) (hw : ∀ d ∈ tables_1, d.before a0 Z = true) (ws : List Jvm.Cond) (o_SHIELDMAN : Addr) (o_NW : Addr) (o_NE : Addr) (o_OPPOSITES : Addr) (ko_OPPOSITES : ClassId) (o_SW : Addr) (o_SE : Addr) (o_W : Addr) (o_E : Addr) (o_HORSEMAN : Addr) (o_ARCHER : Addr) (o_WARLORD : Addr) (q0 : Int32) (h0 : Heap) (n0 : Nat) (Z0 : n0 ≤ h0.size) (OLD : Old Z n0 h0) (A : Amb Z o_SHIELDMAN o_NW o_NE o_OPPOSITES ko_OPPOSITES o_SW o_SE o_W o_E o_HORSEMAN o_ARCHER o_WARLORD) :
    MetFree l (⟨"com/example/rulewright/rulewright/games/skorm/PieceGuardsPinLaw", "dir", "(I)Lcom/example/rulewright/rulewright/games/skorm/Direction;"⟩ : MethodName) (head1 (Jvm.Cond.code (⟨"com/example/rulewright/rulewright/games/skorm/PieceGuardsPinLaw", "dir", "(I)Lcom/example/rulewright/rulewright/games/skorm/Direction;"⟩ : MethodName) method_2_code 1 (some (.object "com/example/rulewright/rulewright/games/skorm/Direction")) :: ws) ({ frames := 0, cells := 0, slots := 0, locals := 0 } : Room)) (fun a U => a = #[(.int q0)] ∧ Z.Warmed39 U.vm ∧ U.heap = h0) (fun _ _ _ _ _ => True) (fun _ U o U' => ∃ v L, o = .returned v ∧ Q1 Z o_SHIELDMAN o_NW o_NE o_OPPOSITES ko_OPPOSITES o_SW o_SE o_W o_E o_HORSEMAN o_ARCHER o_WARLORD q0 h0 n0 v U'.heap L ∧ FrameEnd U o U' L ({ frames := 0, cells := 0, slots := 0, locals := 0 } : Room).cells ({ frames := 0, cells := 0, slots := 0, locals := 0 } : Room).slots) := by
  refine MetFree.of_bodySF (plainFor_of_name pn_1) hisR ?_
  intro p e s m args below meth c s₁ Bd hml0 hP hK
  obtain ⟨rfl, hZ, hh⟩ := hP
  have hx := Bd.exec
  have hby := Bd.bytes
  have hml : c.maxLocals = 1 := hml0
  have hown : s.vm.findClass "com/example/rulewright/rulewright/games/skorm/PieceGuardsPinLaw" = some m.cls := findClass_of_methodNamed Bd.named
  have hnm := (name_of_methodNamed Bd.named Bd.method).1
  have hlk : meth.locks = false := BodyLoose.notSynchronized Bd
  have hrt := Bd.returns
  have X0 : Stand p l e ({ frames := 0, cells := 0, slots := 0, locals := 0 } : Room) s m #[(.int q0)] below meth c s₁ [] 0 0 := Stand.of_body Bd
  have e0 : s₁.heap = h0 := by rw [← hh, Bd.state]; rfl
  have N0 := Fr.nil n0
  show own_Fin p.tables e below (own_post (Q1 Z o_SHIELDMAN o_NW o_NE o_OPPOSITES ko_OPPOSITES o_SW o_SE o_W o_E o_HORSEMAN o_ARCHER o_WARLORD q0 h0 n0) s ({ frames := 0, cells := 0, slots := 0, locals := 0 } : Room).cells ({ frames := 0, cells := 0, slots := 0, locals := 0 } : Room).slots) (s₁.setTop (entryFrame m #[(.int q0)] 1))
  refine own_Fin.step (fun t k => castTop (ef_1 m q0) k) ?_
  refine own_Fin.step (S' := s₁.setTop (mkF m 1 #[.val (.int q0)] [(.int q0)])) (fun t k => XS.iloadN X0.here hx rfl (hb hby d1_0) rfl  k) ?_
  by_cases hc1 : q0 = (0 : Int32)
  · refine own_Fin.step (S' := s₁.setTop (mkF m 4 #[.val (.int q0)] [])) (fun t k => XS.ifNo X0.here hx rfl (hb hby d1_1) rfl ((if0 _ _).trans (teq hc1).2) k) ?_
    have f1 : Sta Z h0 "com/example/rulewright/rulewright/games/skorm/Direction" "E" "Lcom/example/rulewright/rulewright/games/skorm/Direction;" (.ref o_E) := Sta.ext OLD.2 (Amb.a13 A)
    obtain ⟨T2, X2, e2, st2⟩ := getS2 X0 hx hZ hown (host := "") (Or.inl (hw _ (List.mem_of_getElem? (i := 65) rfl))) Via.refl e0 f1 (g := (mkF m 4 #[.val (.int q0)] [])) rfl (hb hby d1_4)
    refine own_Fin.step (S' := T2.setTop (mkF m 7 #[.val (.int q0)] [(.ref o_E)])) st2 ?_
    have hq3 : Q1 Z o_SHIELDMAN o_NW o_NE o_OPPOSITES ko_OPPOSITES o_SW o_SE o_W o_E o_HORSEMAN o_ARCHER o_WARLORD q0 h0 n0 (some (.ref o_E)) h0 _ := ⟨(by simp [own_dirA, hc1]), N0, rfl⟩
    exact own_retR X2 hx hlk (w := (.ref o_E)) rfl hrt rfl (hb hby d1_7) e2 hq3 (by decide) (by decide)
  · refine own_Fin.step (S' := s₁.setTop (mkF m 8 #[.val (.int q0)] [])) (fun t k => XS.ifYes X0.here hx rfl (pc0 := 1) (pc' := 8) rfl (hb hby d1_1) rfl ((if0 _ _).trans (feq hc1).2) (by decide) (by decide) k) ?_
    refine own_Fin.step (S' := s₁.setTop (mkF m 9 #[.val (.int q0)] [(.int q0)])) (fun t k => XS.iloadN X0.here hx rfl (hb hby d1_8) rfl  k) ?_
    refine own_Fin.step (S' := s₁.setTop (mkF m 10 #[.val (.int q0)] [(.int (1 : Int32)), (.int q0)])) (fun t k => XS.iconst X0.here hx rfl (hb hby d1_9) k) ?_
    by_cases hc10 : q0 = (1 : Int32)
    · refine own_Fin.step (S' := s₁.setTop (mkF m 13 #[.val (.int q0)] [])) (fun t k => XS.icmpNo X0.here hx rfl (hb hby d1_10) rfl (teq hc10).2 k) ?_
      have f4 : Sta Z h0 "com/example/rulewright/rulewright/games/skorm/Direction" "W" "Lcom/example/rulewright/rulewright/games/skorm/Direction;" (.ref o_W) := Sta.ext OLD.2 (Amb.a11 A)
      obtain ⟨T5, X5, e5, st5⟩ := getS2 X0 hx hZ hown (host := "") (Or.inl (hw _ (List.mem_of_getElem? (i := 62) rfl))) Via.refl e0 f4 (g := (mkF m 13 #[.val (.int q0)] [])) rfl (hb hby d1_13)
      refine own_Fin.step (S' := T5.setTop (mkF m 16 #[.val (.int q0)] [(.ref o_W)])) st5 ?_
      have hq6 : Q1 Z o_SHIELDMAN o_NW o_NE o_OPPOSITES ko_OPPOSITES o_SW o_SE o_W o_E o_HORSEMAN o_ARCHER o_WARLORD q0 h0 n0 (some (.ref o_W)) h0 _ := ⟨(by simp [own_dirA, hc1, hc10]), N0, rfl⟩
      exact own_retR X5 hx hlk (w := (.ref o_W)) rfl hrt rfl (hb hby d1_16) e5 hq6 (by decide) (by decide)
    · refine own_Fin.step (S' := s₁.setTop (mkF m 17 #[.val (.int q0)] [])) (fun t k => XS.icmpYes X0.here hx rfl (pc0 := 10) (pc' := 17) rfl (hb hby d1_10) rfl (feq hc10).2 (by decide) (by decide) k) ?_
      refine own_Fin.step (S' := s₁.setTop (mkF m 18 #[.val (.int q0)] [(.int q0)])) (fun t k => XS.iloadN X0.here hx rfl (hb hby d1_17) rfl  k) ?_
      refine own_Fin.step (S' := s₁.setTop (mkF m 19 #[.val (.int q0)] [(.int (2 : Int32)), (.int q0)])) (fun t k => XS.iconst X0.here hx rfl (hb hby d1_18) k) ?_
      by_cases hc19 : q0 = (2 : Int32)
      · refine own_Fin.step (S' := s₁.setTop (mkF m 22 #[.val (.int q0)] [])) (fun t k => XS.icmpNo X0.here hx rfl (hb hby d1_19) rfl (teq hc19).2 k) ?_
        have f7 : Sta Z h0 "com/example/rulewright/rulewright/games/skorm/Direction" "NE" "Lcom/example/rulewright/rulewright/games/skorm/Direction;" (.ref o_NE) := Sta.ext OLD.2 (Amb.a4 A)
        obtain ⟨T8, X8, e8, st8⟩ := getS2 X0 hx hZ hown (host := "") (Or.inl (hw _ (List.mem_of_getElem? (i := 35) rfl))) Via.refl e0 f7 (g := (mkF m 22 #[.val (.int q0)] [])) rfl (hb hby d1_22)
        refine own_Fin.step (S' := T8.setTop (mkF m 25 #[.val (.int q0)] [(.ref o_NE)])) st8 ?_
        have hq9 : Q1 Z o_SHIELDMAN o_NW o_NE o_OPPOSITES ko_OPPOSITES o_SW o_SE o_W o_E o_HORSEMAN o_ARCHER o_WARLORD q0 h0 n0 (some (.ref o_NE)) h0 _ := ⟨(by simp [own_dirA, hc1, hc10, hc19]), N0, rfl⟩
        exact own_retR X8 hx hlk (w := (.ref o_NE)) rfl hrt rfl (hb hby d1_25) e8 hq9 (by decide) (by decide)
      · refine own_Fin.step (S' := s₁.setTop (mkF m 26 #[.val (.int q0)] [])) (fun t k => XS.icmpYes X0.here hx rfl (pc0 := 19) (pc' := 26) rfl (hb hby d1_19) rfl (feq hc19).2 (by decide) (by decide) k) ?_
        refine own_Fin.step (S' := s₁.setTop (mkF m 27 #[.val (.int q0)] [(.int q0)])) (fun t k => XS.iloadN X0.here hx rfl (hb hby d1_26) rfl  k) ?_
        refine own_Fin.step (S' := s₁.setTop (mkF m 28 #[.val (.int q0)] [(.int (3 : Int32)), (.int q0)])) (fun t k => XS.iconst X0.here hx rfl (hb hby d1_27) k) ?_
        by_cases hc28 : q0 = (3 : Int32)
        · refine own_Fin.step (S' := s₁.setTop (mkF m 31 #[.val (.int q0)] [])) (fun t k => XS.icmpNo X0.here hx rfl (hb hby d1_28) rfl (teq hc28).2 k) ?_
          have f10 : Sta Z h0 "com/example/rulewright/rulewright/games/skorm/Direction" "NW" "Lcom/example/rulewright/rulewright/games/skorm/Direction;" (.ref o_NW) := Sta.ext OLD.2 (Amb.a2 A)
          obtain ⟨T11, X11, e11, st11⟩ := getS2 X0 hx hZ hown (host := "") (Or.inl (hw _ (List.mem_of_getElem? (i := 12) rfl))) Via.refl e0 f10 (g := (mkF m 31 #[.val (.int q0)] [])) rfl (hb hby d1_31)
          refine own_Fin.step (S' := T11.setTop (mkF m 34 #[.val (.int q0)] [(.ref o_NW)])) st11 ?_
          have hq12 : Q1 Z o_SHIELDMAN o_NW o_NE o_OPPOSITES ko_OPPOSITES o_SW o_SE o_W o_E o_HORSEMAN o_ARCHER o_WARLORD q0 h0 n0 (some (.ref o_NW)) h0 _ := ⟨(by simp [own_dirA, hc1, hc10, hc19, hc28]), N0, rfl⟩
          exact own_retR X11 hx hlk (w := (.ref o_NW)) rfl hrt rfl (hb hby d1_34) e11 hq12 (by decide) (by decide)
        · refine own_Fin.step (S' := s₁.setTop (mkF m 35 #[.val (.int q0)] [])) (fun t k => XS.icmpYes X0.here hx rfl (pc0 := 28) (pc' := 35) rfl (hb hby d1_28) rfl (feq hc28).2 (by decide) (by decide) k) ?_
          refine own_Fin.step (S' := s₁.setTop (mkF m 36 #[.val (.int q0)] [(.int q0)])) (fun t k => XS.iloadN X0.here hx rfl (hb hby d1_35) rfl  k) ?_
          refine own_Fin.step (S' := s₁.setTop (mkF m 37 #[.val (.int q0)] [(.int (4 : Int32)), (.int q0)])) (fun t k => XS.iconst X0.here hx rfl (hb hby d1_36) k) ?_
          by_cases hc37 : q0 = (4 : Int32)
          · refine own_Fin.step (S' := s₁.setTop (mkF m 40 #[.val (.int q0)] [])) (fun t k => XS.icmpNo X0.here hx rfl (hb hby d1_37) rfl (teq hc37).2 k) ?_
            have f13 : Sta Z h0 "com/example/rulewright/rulewright/games/skorm/Direction" "SE" "Lcom/example/rulewright/rulewright/games/skorm/Direction;" (.ref o_SE) := Sta.ext OLD.2 (Amb.a9 A)
            obtain ⟨T14, X14, e14, st14⟩ := getS2 X0 hx hZ hown (host := "") (Or.inl (hw _ (List.mem_of_getElem? (i := 59) rfl))) Via.refl e0 f13 (g := (mkF m 40 #[.val (.int q0)] [])) rfl (hb hby d1_40)
            refine own_Fin.step (S' := T14.setTop (mkF m 43 #[.val (.int q0)] [(.ref o_SE)])) st14 ?_
            have hq15 : Q1 Z o_SHIELDMAN o_NW o_NE o_OPPOSITES ko_OPPOSITES o_SW o_SE o_W o_E o_HORSEMAN o_ARCHER o_WARLORD q0 h0 n0 (some (.ref o_SE)) h0 _ := ⟨(by simp [own_dirA, hc1, hc10, hc19, hc28, hc37]), N0, rfl⟩
            exact own_retR X14 hx hlk (w := (.ref o_SE)) rfl hrt rfl (hb hby d1_43) e14 hq15 (by decide) (by decide)
          · refine own_Fin.step (S' := s₁.setTop (mkF m 44 #[.val (.int q0)] [])) (fun t k => XS.icmpYes X0.here hx rfl (pc0 := 37) (pc' := 44) rfl (hb hby d1_37) rfl (feq hc37).2 (by decide) (by decide) k) ?_
            have f16 : Sta Z h0 "com/example/rulewright/rulewright/games/skorm/Direction" "SW" "Lcom/example/rulewright/rulewright/games/skorm/Direction;" (.ref o_SW) := Sta.ext OLD.2 (Amb.a7 A)
            obtain ⟨T17, X17, e17, st17⟩ := getS2 X0 hx hZ hown (host := "") (Or.inl (hw _ (List.mem_of_getElem? (i := 61) rfl))) Via.refl e0 f16 (g := (mkF m 44 #[.val (.int q0)] [])) rfl (hb hby d1_44)
            refine own_Fin.step (S' := T17.setTop (mkF m 47 #[.val (.int q0)] [(.ref o_SW)])) st17 ?_
            have hq18 : Q1 Z o_SHIELDMAN o_NW o_NE o_OPPOSITES ko_OPPOSITES o_SW o_SE o_W o_E o_HORSEMAN o_ARCHER o_WARLORD q0 h0 n0 (some (.ref o_SW)) h0 _ := ⟨(by simp [own_dirA, hc1, hc10, hc19, hc28, hc37]), N0, rfl⟩
            exact own_retR X17 hx hlk (w := (.ref o_SW)) rfl hrt rfl (hb hby d1_47) e17 hq18 (by decide) (by decide)
theorem d9_0 : decode method_4_code 0 = .ok (.iload_n 0, 1) := by decide +kernel
theorem d9_1 : decode method_4_code 1 = .ok (.ifCond .ne 7, 3) := by decide +kernel
theorem d9_4 : decode method_4_code 4 = .ok (.getstatic 28, 3) := by decide +kernel
theorem d9_7 : decode method_4_code 7 = .ok (.areturn, 1) := by decide +kernel
theorem d9_8 : decode method_4_code 8 = .ok (.iload_n 0, 1) := by decide +kernel
theorem d9_9 : decode method_4_code 9 = .ok (.iconst 1, 1) := by decide +kernel
theorem d9_10 : decode method_4_code 10 = .ok (.if_icmp .ne 7, 3) := by decide +kernel
theorem d9_13 : decode method_4_code 13 = .ok (.getstatic 34, 3) := by decide +kernel
theorem d9_16 : decode method_4_code 16 = .ok (.areturn, 1) := by decide +kernel
theorem d9_17 : decode method_4_code 17 = .ok (.getstatic 37, 3) := by decide +kernel
theorem d9_20 : decode method_4_code 20 = .ok (.areturn, 1) := by decide +kernel
theorem pn_9 : plainName "com/example/rulewright/rulewright/games/skorm/PieceGuardsPinLaw" = true := by first | (simp [plainName, overriddenIn]; done) | decide +kernel
theorem ef_9 (m : MethodId) (x0 : Int32) : entryFrame m #[(.int x0)] 1 = mkF m 0 #[.val (.int x0)] [] := by first | (simp [entryFrame, mkF, argsToLocals, Value.category]; done) | rfl
def Q9 (Z : State) (o_SHIELDMAN : Addr) (o_NW : Addr) (o_NE : Addr) (o_OPPOSITES : Addr) (ko_OPPOSITES : ClassId) (o_SW : Addr) (o_SE : Addr) (o_W : Addr) (o_E : Addr) (o_HORSEMAN : Addr) (o_ARCHER : Addr) (o_WARLORD : Addr) (q0 : Int32) (h0 : Heap) (n0 : Nat) (v : Option Value) (h : Heap) (L : List Loc) : Prop := ∃ ob : Addr, v = some (.ref ob) ∧ Fr n0 L ∧ h = h0
set_option maxRecDepth 65536 in
set_option maxHeartbeats 40000000 in
theorem rm9 (l : Launch) (Z : State) (a0 : Array Value) (hw : ∀ d ∈ tables_1, d.before a0 Z = true) (ws : List Jvm.Cond) (o_SHIELDMAN : Addr) (o_NW : Addr) (o_NE : Addr) (o_OPPOSITES : Addr) (ko_OPPOSITES : ClassId) (o_SW : Addr) (o_SE : Addr) (o_W : Addr) (o_E : Addr) (o_HORSEMAN : Addr) (o_ARCHER : Addr) (o_WARLORD : Addr) (q0 : Int32) (h0 : Heap) (n0 : Nat) (Z0 : n0 ≤ h0.size) (OLD : Old Z n0 h0) (A : Amb Z o_SHIELDMAN o_NW o_NE o_OPPOSITES ko_OPPOSITES o_SW o_SE o_W o_E o_HORSEMAN o_ARCHER o_WARLORD) :
    MetFree l (⟨"com/example/rulewright/rulewright/games/skorm/PieceGuardsPinLaw", "otherType", "(I)Lcom/example/rulewright/rulewright/games/skorm/PieceType;"⟩ : MethodName) (head1 (Jvm.Cond.code (⟨"com/example/rulewright/rulewright/games/skorm/PieceGuardsPinLaw", "otherType", "(I)Lcom/example/rulewright/rulewright/games/skorm/PieceType;"⟩ : MethodName) method_4_code 1 (some (.object "com/example/rulewright/rulewright/games/skorm/PieceType")) :: ws) ({ frames := 0, cells := 0, slots := 0, locals := 0 } : Room)) (fun a U => a = #[(.int q0)] ∧ Z.Warmed39 U.vm ∧ U.heap = h0) (fun _ _ _ _ _ => True) (fun _ U o U' => ∃ v L, o = .returned v ∧ Q9 Z o_SHIELDMAN o_NW o_NE o_OPPOSITES ko_OPPOSITES o_SW o_SE o_W o_E o_HORSEMAN o_ARCHER o_WARLORD q0 h0 n0 v U'.heap L ∧ FrameEnd U o U' L ({ frames := 0, cells := 0, slots := 0, locals := 0 } : Room).cells ({ frames := 0, cells := 0, slots := 0, locals := 0 } : Room).slots) := by
  refine MetFree.of_bodySF (plainFor_of_name pn_9) hisR ?_
  intro p e s m args below meth c s₁ Bd hml0 hP hK
  obtain ⟨rfl, hZ, hh⟩ := hP
  have hx := Bd.exec
  have hby := Bd.bytes
  have hml : c.maxLocals = 1 := hml0
  have hown : s.vm.findClass "com/example/rulewright/rulewright/games/skorm/PieceGuardsPinLaw" = some m.cls := findClass_of_methodNamed Bd.named
  have hnm := (name_of_methodNamed Bd.named Bd.method).1
  have hlk : meth.locks = false := BodyLoose.notSynchronized Bd
  have hrt := Bd.returns
  have X0 : Stand p l e ({ frames := 0, cells := 0, slots := 0, locals := 0 } : Room) s m #[(.int q0)] below meth c s₁ [] 0 0 := Stand.of_body Bd
  have e0 : s₁.heap = h0 := by rw [← hh, Bd.state]; rfl
  have N0 := Fr.nil n0
  show own_Fin p.tables e below (own_post (Q9 Z o_SHIELDMAN o_NW o_NE o_OPPOSITES ko_OPPOSITES o_SW o_SE o_W o_E o_HORSEMAN o_ARCHER o_WARLORD q0 h0 n0) s ({ frames := 0, cells := 0, slots := 0, locals := 0 } : Room).cells ({ frames := 0, cells := 0, slots := 0, locals := 0 } : Room).slots) (s₁.setTop (entryFrame m #[(.int q0)] 1))
  refine own_Fin.step (fun t k => castTop (ef_9 m q0) k) ?_
  refine own_Fin.step (S' := s₁.setTop (mkF m 1 #[.val (.int q0)] [(.int q0)])) (fun t k => XS.iloadN X0.here hx rfl (hb hby d9_0) rfl  k) ?_
  by_cases hc1 : q0 = (0 : Int32)
  · refine own_Fin.step (S' := s₁.setTop (mkF m 4 #[.val (.int q0)] [])) (fun t k => XS.ifNo X0.here hx rfl (hb hby d9_1) rfl ((if0 _ _).trans (teq hc1).2) k) ?_
    have f19 : Sta Z h0 "com/example/rulewright/rulewright/games/skorm/PieceType" "ARCHER" "Lcom/example/rulewright/rulewright/games/skorm/PieceType;" (.ref o_ARCHER) := Sta.ext OLD.2 (Amb.a17 A)
    obtain ⟨T20, X20, e20, st20⟩ := getS2 X0 hx hZ hown (host := "") (Or.inl (hw _ (List.mem_of_getElem? (i := 71) rfl))) Via.refl e0 f19 (g := (mkF m 4 #[.val (.int q0)] [])) rfl (hb hby d9_4)
    refine own_Fin.step (S' := T20.setTop (mkF m 7 #[.val (.int q0)] [(.ref o_ARCHER)])) st20 ?_
    have hq21 : Q9 Z o_SHIELDMAN o_NW o_NE o_OPPOSITES ko_OPPOSITES o_SW o_SE o_W o_E o_HORSEMAN o_ARCHER o_WARLORD q0 h0 n0 (some (.ref o_ARCHER)) h0 _ := ⟨o_ARCHER, rfl, N0, rfl⟩
    exact own_retR X20 hx hlk (w := (.ref o_ARCHER)) rfl hrt rfl (hb hby d9_7) e20 hq21 (by decide) (by decide)
  · refine own_Fin.step (S' := s₁.setTop (mkF m 8 #[.val (.int q0)] [])) (fun t k => XS.ifYes X0.here hx rfl (pc0 := 1) (pc' := 8) rfl (hb hby d9_1) rfl ((if0 _ _).trans (feq hc1).2) (by decide) (by decide) k) ?_
    refine own_Fin.step (S' := s₁.setTop (mkF m 9 #[.val (.int q0)] [(.int q0)])) (fun t k => XS.iloadN X0.here hx rfl (hb hby d9_8) rfl  k) ?_
    refine own_Fin.step (S' := s₁.setTop (mkF m 10 #[.val (.int q0)] [(.int (1 : Int32)), (.int q0)])) (fun t k => XS.iconst X0.here hx rfl (hb hby d9_9) k) ?_
    by_cases hc10 : q0 = (1 : Int32)
    · refine own_Fin.step (S' := s₁.setTop (mkF m 13 #[.val (.int q0)] [])) (fun t k => XS.icmpNo X0.here hx rfl (hb hby d9_10) rfl (teq hc10).2 k) ?_
      have f22 : Sta Z h0 "com/example/rulewright/rulewright/games/skorm/PieceType" "HORSEMAN" "Lcom/example/rulewright/rulewright/games/skorm/PieceType;" (.ref o_HORSEMAN) := Sta.ext OLD.2 (Amb.a15 A)
      obtain ⟨T23, X23, e23, st23⟩ := getS2 X0 hx hZ hown (host := "") (Or.inl (hw _ (List.mem_of_getElem? (i := 69) rfl))) Via.refl e0 f22 (g := (mkF m 13 #[.val (.int q0)] [])) rfl (hb hby d9_13)
      refine own_Fin.step (S' := T23.setTop (mkF m 16 #[.val (.int q0)] [(.ref o_HORSEMAN)])) st23 ?_
      have hq24 : Q9 Z o_SHIELDMAN o_NW o_NE o_OPPOSITES ko_OPPOSITES o_SW o_SE o_W o_E o_HORSEMAN o_ARCHER o_WARLORD q0 h0 n0 (some (.ref o_HORSEMAN)) h0 _ := ⟨o_HORSEMAN, rfl, N0, rfl⟩
      exact own_retR X23 hx hlk (w := (.ref o_HORSEMAN)) rfl hrt rfl (hb hby d9_16) e23 hq24 (by decide) (by decide)
    · refine own_Fin.step (S' := s₁.setTop (mkF m 17 #[.val (.int q0)] [])) (fun t k => XS.icmpYes X0.here hx rfl (pc0 := 10) (pc' := 17) rfl (hb hby d9_10) rfl (feq hc10).2 (by decide) (by decide) k) ?_
      have f25 : Sta Z h0 "com/example/rulewright/rulewright/games/skorm/PieceType" "WARLORD" "Lcom/example/rulewright/rulewright/games/skorm/PieceType;" (.ref o_WARLORD) := Sta.ext OLD.2 (Amb.a19 A)
      obtain ⟨T26, X26, e26, st26⟩ := getS2 X0 hx hZ hown (host := "") (Or.inl (hw _ (List.mem_of_getElem? (i := 73) rfl))) Via.refl e0 f25 (g := (mkF m 17 #[.val (.int q0)] [])) rfl (hb hby d9_17)
      refine own_Fin.step (S' := T26.setTop (mkF m 20 #[.val (.int q0)] [(.ref o_WARLORD)])) st26 ?_
      have hq27 : Q9 Z o_SHIELDMAN o_NW o_NE o_OPPOSITES ko_OPPOSITES o_SW o_SE o_W o_E o_HORSEMAN o_ARCHER o_WARLORD q0 h0 n0 (some (.ref o_WARLORD)) h0 _ := ⟨o_WARLORD, rfl, N0, rfl⟩
      exact own_retR X26 hx hlk (w := (.ref o_WARLORD)) rfl hrt rfl (hb hby d9_20) e26 hq27 (by decide) (by decide)
theorem d5_0 : decode method_3_code 0 = .ok (.iload_n 0, 1) := by decide +kernel
theorem d5_1 : decode method_3_code 1 = .ok (.ifCond .ne 5, 3) := by decide +kernel
theorem d5_4 : decode method_3_code 4 = .ok (.iconst 1, 1) := by decide +kernel
theorem d5_5 : decode method_3_code 5 = .ok (.ireturn, 1) := by decide +kernel
theorem d5_6 : decode method_3_code 6 = .ok (.iload_n 0, 1) := by decide +kernel
theorem d5_7 : decode method_3_code 7 = .ok (.iconst 1, 1) := by decide +kernel
theorem d5_8 : decode method_3_code 8 = .ok (.if_icmp .ne 5, 3) := by decide +kernel
theorem d5_11 : decode method_3_code 11 = .ok (.iconst 0, 1) := by decide +kernel
theorem d5_12 : decode method_3_code 12 = .ok (.ireturn, 1) := by decide +kernel
theorem d5_13 : decode method_3_code 13 = .ok (.iload_n 0, 1) := by decide +kernel
theorem d5_14 : decode method_3_code 14 = .ok (.iconst 2, 1) := by decide +kernel
theorem d5_15 : decode method_3_code 15 = .ok (.if_icmp .ne 5, 3) := by decide +kernel
theorem d5_18 : decode method_3_code 18 = .ok (.iconst 5, 1) := by decide +kernel
theorem d5_19 : decode method_3_code 19 = .ok (.ireturn, 1) := by decide +kernel
theorem d5_20 : decode method_3_code 20 = .ok (.iload_n 0, 1) := by decide +kernel
theorem d5_21 : decode method_3_code 21 = .ok (.iconst 5, 1) := by decide +kernel
theorem d5_22 : decode method_3_code 22 = .ok (.if_icmp .ne 5, 3) := by decide +kernel
theorem d5_25 : decode method_3_code 25 = .ok (.iconst 2, 1) := by decide +kernel
theorem d5_26 : decode method_3_code 26 = .ok (.ireturn, 1) := by decide +kernel
theorem d5_27 : decode method_3_code 27 = .ok (.iload_n 0, 1) := by decide +kernel
theorem d5_28 : decode method_3_code 28 = .ok (.iconst 3, 1) := by decide +kernel
theorem d5_29 : decode method_3_code 29 = .ok (.if_icmp .ne 5, 3) := by decide +kernel
theorem d5_32 : decode method_3_code 32 = .ok (.iconst 4, 1) := by decide +kernel
theorem d5_33 : decode method_3_code 33 = .ok (.ireturn, 1) := by decide +kernel
theorem d5_34 : decode method_3_code 34 = .ok (.iconst 3, 1) := by decide +kernel
theorem d5_35 : decode method_3_code 35 = .ok (.ireturn, 1) := by decide +kernel
theorem pn_5 : plainName "com/example/rulewright/rulewright/games/skorm/PieceGuardsPinLaw" = true := by first | (simp [plainName, overriddenIn]; done) | decide +kernel
theorem ef_5 (m : MethodId) (x0 : Int32) : entryFrame m #[(.int x0)] 1 = mkF m 0 #[.val (.int x0)] [] := by first | (simp [entryFrame, mkF, argsToLocals, Value.category]; done) | rfl
def Q5 (Z : State) (q0 : Int32) (h0 : Heap) (n0 : Nat) (v : Option Value) (h : Heap) (L : List Loc) : Prop := v = some (.int (own_opp q0)) ∧ Fr n0 L ∧ h = h0
set_option maxRecDepth 65536 in
set_option maxHeartbeats 40000000 in
theorem rm5 (l : Launch) (Z : State) (a0 : Array Value) (hw : ∀ d ∈ tables_1, d.before a0 Z = true) (ws : List Jvm.Cond) (q0 : Int32) (h0 : Heap) (n0 : Nat) (Z0 : n0 ≤ h0.size)  :
    MetFree l (⟨"com/example/rulewright/rulewright/games/skorm/PieceGuardsPinLaw", "oppIdx", "(I)I"⟩ : MethodName) (head1 (Jvm.Cond.code (⟨"com/example/rulewright/rulewright/games/skorm/PieceGuardsPinLaw", "oppIdx", "(I)I"⟩ : MethodName) method_3_code 1 (some .int) :: ws) ({ frames := 0, cells := 0, slots := 0, locals := 0 } : Room)) (fun a U => a = #[(.int q0)] ∧ Z.Warmed39 U.vm ∧ U.heap = h0) (fun _ _ _ _ _ => True) (fun _ U o U' => ∃ v L, o = .returned v ∧ Q5 Z q0 h0 n0 v U'.heap L ∧ FrameEnd U o U' L ({ frames := 0, cells := 0, slots := 0, locals := 0 } : Room).cells ({ frames := 0, cells := 0, slots := 0, locals := 0 } : Room).slots) := by
  refine MetFree.of_bodySF (plainFor_of_name pn_5) hisR ?_
  intro p e s m args below meth c s₁ Bd hml0 hP hK
  obtain ⟨rfl, hZ, hh⟩ := hP
  have hx := Bd.exec
  have hby := Bd.bytes
  have hml : c.maxLocals = 1 := hml0
  have hown : s.vm.findClass "com/example/rulewright/rulewright/games/skorm/PieceGuardsPinLaw" = some m.cls := findClass_of_methodNamed Bd.named
  have hnm := (name_of_methodNamed Bd.named Bd.method).1
  have hlk : meth.locks = false := BodyLoose.notSynchronized Bd
  have hrt := Bd.returns
  have X0 : Stand p l e ({ frames := 0, cells := 0, slots := 0, locals := 0 } : Room) s m #[(.int q0)] below meth c s₁ [] 0 0 := Stand.of_body Bd
  have e0 : s₁.heap = h0 := by rw [← hh, Bd.state]; rfl
  have N0 := Fr.nil n0
  show own_Fin p.tables e below (own_post (Q5 Z q0 h0 n0) s ({ frames := 0, cells := 0, slots := 0, locals := 0 } : Room).cells ({ frames := 0, cells := 0, slots := 0, locals := 0 } : Room).slots) (s₁.setTop (entryFrame m #[(.int q0)] 1))
  refine own_Fin.step (fun t k => castTop (ef_5 m q0) k) ?_
  refine own_Fin.step (S' := s₁.setTop (mkF m 1 #[.val (.int q0)] [(.int q0)])) (fun t k => XS.iloadN X0.here hx rfl (hb hby d5_0) rfl  k) ?_
  by_cases hc1 : q0 = (0 : Int32)
  · refine own_Fin.step (S' := s₁.setTop (mkF m 4 #[.val (.int q0)] [])) (fun t k => XS.ifNo X0.here hx rfl (hb hby d5_1) rfl ((if0 _ _).trans (teq hc1).2) k) ?_
    refine own_Fin.step (S' := s₁.setTop (mkF m 5 #[.val (.int q0)] [(.int (1 : Int32))])) (fun t k => XS.iconst X0.here hx rfl (hb hby d5_4) k) ?_
    have hq28 : Q5 Z q0 h0 n0 (some (.int (1 : Int32))) h0 _ := ⟨(by simp [own_opp, hc1]), N0, rfl⟩
    exact own_retI X0 hx hlk hrt (hb hby d5_5) e0 hq28 (by decide) (by decide)
  · refine own_Fin.step (S' := s₁.setTop (mkF m 6 #[.val (.int q0)] [])) (fun t k => XS.ifYes X0.here hx rfl (pc0 := 1) (pc' := 6) rfl (hb hby d5_1) rfl ((if0 _ _).trans (feq hc1).2) (by decide) (by decide) k) ?_
    refine own_Fin.step (S' := s₁.setTop (mkF m 7 #[.val (.int q0)] [(.int q0)])) (fun t k => XS.iloadN X0.here hx rfl (hb hby d5_6) rfl  k) ?_
    refine own_Fin.step (S' := s₁.setTop (mkF m 8 #[.val (.int q0)] [(.int (1 : Int32)), (.int q0)])) (fun t k => XS.iconst X0.here hx rfl (hb hby d5_7) k) ?_
    by_cases hc8 : q0 = (1 : Int32)
    · refine own_Fin.step (S' := s₁.setTop (mkF m 11 #[.val (.int q0)] [])) (fun t k => XS.icmpNo X0.here hx rfl (hb hby d5_8) rfl (teq hc8).2 k) ?_
      refine own_Fin.step (S' := s₁.setTop (mkF m 12 #[.val (.int q0)] [(.int (0 : Int32))])) (fun t k => XS.iconst X0.here hx rfl (hb hby d5_11) k) ?_
      have hq29 : Q5 Z q0 h0 n0 (some (.int (0 : Int32))) h0 _ := ⟨(by simp [own_opp, hc1, hc8]), N0, rfl⟩
      exact own_retI X0 hx hlk hrt (hb hby d5_12) e0 hq29 (by decide) (by decide)
    · refine own_Fin.step (S' := s₁.setTop (mkF m 13 #[.val (.int q0)] [])) (fun t k => XS.icmpYes X0.here hx rfl (pc0 := 8) (pc' := 13) rfl (hb hby d5_8) rfl (feq hc8).2 (by decide) (by decide) k) ?_
      refine own_Fin.step (S' := s₁.setTop (mkF m 14 #[.val (.int q0)] [(.int q0)])) (fun t k => XS.iloadN X0.here hx rfl (hb hby d5_13) rfl  k) ?_
      refine own_Fin.step (S' := s₁.setTop (mkF m 15 #[.val (.int q0)] [(.int (2 : Int32)), (.int q0)])) (fun t k => XS.iconst X0.here hx rfl (hb hby d5_14) k) ?_
      by_cases hc15 : q0 = (2 : Int32)
      · refine own_Fin.step (S' := s₁.setTop (mkF m 18 #[.val (.int q0)] [])) (fun t k => XS.icmpNo X0.here hx rfl (hb hby d5_15) rfl (teq hc15).2 k) ?_
        refine own_Fin.step (S' := s₁.setTop (mkF m 19 #[.val (.int q0)] [(.int (5 : Int32))])) (fun t k => XS.iconst X0.here hx rfl (hb hby d5_18) k) ?_
        have hq30 : Q5 Z q0 h0 n0 (some (.int (5 : Int32))) h0 _ := ⟨(by simp [own_opp, hc1, hc8, hc15]), N0, rfl⟩
        exact own_retI X0 hx hlk hrt (hb hby d5_19) e0 hq30 (by decide) (by decide)
      · refine own_Fin.step (S' := s₁.setTop (mkF m 20 #[.val (.int q0)] [])) (fun t k => XS.icmpYes X0.here hx rfl (pc0 := 15) (pc' := 20) rfl (hb hby d5_15) rfl (feq hc15).2 (by decide) (by decide) k) ?_
        refine own_Fin.step (S' := s₁.setTop (mkF m 21 #[.val (.int q0)] [(.int q0)])) (fun t k => XS.iloadN X0.here hx rfl (hb hby d5_20) rfl  k) ?_
        refine own_Fin.step (S' := s₁.setTop (mkF m 22 #[.val (.int q0)] [(.int (5 : Int32)), (.int q0)])) (fun t k => XS.iconst X0.here hx rfl (hb hby d5_21) k) ?_
        by_cases hc22 : q0 = (5 : Int32)
        · refine own_Fin.step (S' := s₁.setTop (mkF m 25 #[.val (.int q0)] [])) (fun t k => XS.icmpNo X0.here hx rfl (hb hby d5_22) rfl (teq hc22).2 k) ?_
          refine own_Fin.step (S' := s₁.setTop (mkF m 26 #[.val (.int q0)] [(.int (2 : Int32))])) (fun t k => XS.iconst X0.here hx rfl (hb hby d5_25) k) ?_
          have hq31 : Q5 Z q0 h0 n0 (some (.int (2 : Int32))) h0 _ := ⟨(by simp [own_opp, hc1, hc8, hc15, hc22]), N0, rfl⟩
          exact own_retI X0 hx hlk hrt (hb hby d5_26) e0 hq31 (by decide) (by decide)
        · refine own_Fin.step (S' := s₁.setTop (mkF m 27 #[.val (.int q0)] [])) (fun t k => XS.icmpYes X0.here hx rfl (pc0 := 22) (pc' := 27) rfl (hb hby d5_22) rfl (feq hc22).2 (by decide) (by decide) k) ?_
          refine own_Fin.step (S' := s₁.setTop (mkF m 28 #[.val (.int q0)] [(.int q0)])) (fun t k => XS.iloadN X0.here hx rfl (hb hby d5_27) rfl  k) ?_
          refine own_Fin.step (S' := s₁.setTop (mkF m 29 #[.val (.int q0)] [(.int (3 : Int32)), (.int q0)])) (fun t k => XS.iconst X0.here hx rfl (hb hby d5_28) k) ?_
          by_cases hc29 : q0 = (3 : Int32)
          · refine own_Fin.step (S' := s₁.setTop (mkF m 32 #[.val (.int q0)] [])) (fun t k => XS.icmpNo X0.here hx rfl (hb hby d5_29) rfl (teq hc29).2 k) ?_
            refine own_Fin.step (S' := s₁.setTop (mkF m 33 #[.val (.int q0)] [(.int (4 : Int32))])) (fun t k => XS.iconst X0.here hx rfl (hb hby d5_32) k) ?_
            have hq32 : Q5 Z q0 h0 n0 (some (.int (4 : Int32))) h0 _ := ⟨(by simp [own_opp, hc1, hc8, hc15, hc22, hc29]), N0, rfl⟩
            exact own_retI X0 hx hlk hrt (hb hby d5_33) e0 hq32 (by decide) (by decide)
          · refine own_Fin.step (S' := s₁.setTop (mkF m 34 #[.val (.int q0)] [])) (fun t k => XS.icmpYes X0.here hx rfl (pc0 := 29) (pc' := 34) rfl (hb hby d5_29) rfl (feq hc29).2 (by decide) (by decide) k) ?_
            refine own_Fin.step (S' := s₁.setTop (mkF m 35 #[.val (.int q0)] [(.int (3 : Int32))])) (fun t k => XS.iconst X0.here hx rfl (hb hby d5_34) k) ?_
            have hq33 : Q5 Z q0 h0 n0 (some (.int (3 : Int32))) h0 _ := ⟨(by simp [own_opp, hc1, hc8, hc15, hc22, hc29]), N0, rfl⟩
            exact own_retI X0 hx hlk hrt (hb hby d5_35) e0 hq33 (by decide) (by decide)
theorem d3_0 : decode jdk_30_method_1_code 0 = .ok (.aload_n 0, 1) := by decide +kernel
theorem d3_1 : decode jdk_30_method_1_code 1 = .ok (.invokespecial 1, 3) := by decide +kernel
theorem d3_4 : decode jdk_30_method_1_code 4 = .ok (.return_, 1) := by decide +kernel
theorem pn_3 : plainName "java/lang/Record" = true := by first | (simp [plainName, overriddenIn]; done) | decide +kernel
theorem ef_3 (m : MethodId) (x0 : Addr) : entryFrame m #[(.ref x0)] 1 = mkF m 0 #[.val (.ref x0)] [] := by first | (simp [entryFrame, mkF, argsToLocals, Value.category]; done) | rfl
def Q3 (Z : State) (a1 : Addr) (h0 : Heap) (n0 : Nat) (v : Option Value) (h : Heap) (L : List Loc) : Prop := v = none ∧ Fr n0 L ∧ h = h0
set_option maxRecDepth 65536 in
set_option maxHeartbeats 40000000 in
theorem rm3 (l : Launch) (Z : State) (a0 : Array Value) (hw : ∀ d ∈ tables_1, d.before a0 Z = true) (ws : List Jvm.Cond) (a1 : Addr) (h0 : Heap) (n0 : Nat) (Z0 : n0 ≤ h0.size)  :
    MetFree l (⟨"java/lang/Record", "<init>", "()V"⟩ : MethodName) (head1 (Jvm.Cond.code (⟨"java/lang/Record", "<init>", "()V"⟩ : MethodName) jdk_30_method_1_code 1 none :: ws) ({ frames := 1, cells := 0, slots := 0, locals := 12 } : Room)) (fun a U => a = #[(.ref a1)] ∧ Z.Warmed39 U.vm ∧ U.heap = h0) (fun _ _ _ _ _ => True) (fun _ U o U' => ∃ v L, o = .returned v ∧ Q3 Z a1 h0 n0 v U'.heap L ∧ FrameEnd U o U' L ({ frames := 1, cells := 0, slots := 0, locals := 12 } : Room).cells ({ frames := 1, cells := 0, slots := 0, locals := 12 } : Room).slots) := by
  refine MetFree.of_bodySF (plainFor_of_name pn_3) hisR ?_
  intro p e s m args below meth c s₁ Bd hml0 hP hK
  obtain ⟨rfl, hZ, hh⟩ := hP
  have hx := Bd.exec
  have hby := Bd.bytes
  have hml : c.maxLocals = 1 := hml0
  have hown : s.vm.findClass "java/lang/Record" = some m.cls := findClass_of_methodNamed Bd.named
  have hnm := (name_of_methodNamed Bd.named Bd.method).1
  have hlk : meth.locks = false := BodyLoose.notSynchronized Bd
  have hrt := Bd.returns
  have X0 : Stand p l e ({ frames := 1, cells := 0, slots := 0, locals := 12 } : Room) s m #[(.ref a1)] below meth c s₁ [] 0 0 := Stand.of_body Bd
  have e0 : s₁.heap = h0 := by rw [← hh, Bd.state]; rfl
  have N0 := Fr.nil n0
  show own_Fin p.tables e below (own_post (Q3 Z a1 h0 n0) s ({ frames := 1, cells := 0, slots := 0, locals := 12 } : Room).cells ({ frames := 1, cells := 0, slots := 0, locals := 12 } : Room).slots) (s₁.setTop (entryFrame m #[(.ref a1)] 1))
  refine own_Fin.step (fun t k => castTop (ef_3 m a1) k) ?_
  refine own_Fin.step (S' := s₁.setTop (mkF m 1 #[.val (.ref a1)] [(.ref a1)])) (fun t k => XS.aloadN X0.here hx rfl (hb hby d3_0) rfl rfl  k) ?_
  obtain ⟨T34, X34, e34, st34⟩ := initO X0 hx hZ hown (hw _ (List.mem_of_getElem? (i := 23) rfl)) (hw _ (List.mem_of_getElem? (i := 24) rfl)) (hw _ (List.mem_of_getElem? (i := 25) rfl)) e0 (g := (mkF m 1 #[.val (.ref a1)] [(.ref a1)])) rfl (by rw [hml]; rfl) rfl (hb hby d3_1) (by decide) (W := 0) (by show 2 * 0 + _ ≤ _; exact Nat.le_of_eq rfl) (by decide)
  refine own_Fin.step (S' := T34.setTop (mkF m 4 #[.val (.ref a1)] [])) st34 ?_
  have hq35 : Q3 Z a1 h0 n0 none h0 _ := ⟨rfl, N0, rfl⟩
  exact own_retV X34 hx hlk hrt (hb hby d3_4) e34 hq35 (by decide) (by decide)
theorem d2_0 : decode prog_10_method_1_code 0 = .ok (.aload_n 0, 1) := by decide +kernel
theorem d2_1 : decode prog_10_method_1_code 1 = .ok (.invokespecial 1, 3) := by decide +kernel
theorem d2_4 : decode prog_10_method_1_code 4 = .ok (.aload_n 0, 1) := by decide +kernel
theorem d2_5 : decode prog_10_method_1_code 5 = .ok (.iload_n 1, 1) := by decide +kernel
theorem d2_6 : decode prog_10_method_1_code 6 = .ok (.putfield 7, 3) := by decide +kernel
theorem d2_9 : decode prog_10_method_1_code 9 = .ok (.aload_n 0, 1) := by decide +kernel
theorem d2_10 : decode prog_10_method_1_code 10 = .ok (.aload_n 2, 1) := by decide +kernel
theorem d2_11 : decode prog_10_method_1_code 11 = .ok (.putfield 13, 3) := by decide +kernel
theorem d2_14 : decode prog_10_method_1_code 14 = .ok (.aload_n 0, 1) := by decide +kernel
theorem d2_15 : decode prog_10_method_1_code 15 = .ok (.aload_n 3, 1) := by decide +kernel
theorem d2_16 : decode prog_10_method_1_code 16 = .ok (.putfield 17, 3) := by decide +kernel
theorem d2_19 : decode prog_10_method_1_code 19 = .ok (.return_, 1) := by decide +kernel
theorem pn_2r : plainName "com/example/rulewright/rulewright/games/skorm/Piece" = true := by first | (simp [plainName, overriddenIn]; done) | decide +kernel
theorem pd_2r_0 : parseMethodDescriptor "()V" = some ⟨[], none⟩ := by decide +kernel
theorem ef_2r (m : MethodId) (x0 : Addr) (x1 : Int32) (x2 : Addr) (x3 : Addr) : entryFrame m #[(.ref x0), (.int x1), (.ref x2), (.ref x3)] 4 = mkF m 0 #[.val (.ref x0), .val (.int x1), .val (.ref x2), .val (.ref x3)] [] := by first | (simp [entryFrame, mkF, argsToLocals, Value.category]; done) | rfl
def Q2r (Z : State) (a1 : Addr) (q1 : Int32) (ty : Addr) (fa : Addr) (u0 : Value) (u1 : Value) (u2 : Value) (h0 : Heap) (n0 : Nat) (v : Option Value) (h : Heap) (L : List Loc) : Prop := v = none ∧ Fr n0 L ∧ Keep h0 h [a1] ∧ Exa Z h a1 "com/example/rulewright/rulewright/games/skorm/Piece" ∧ Fld Z h a1 "com/example/rulewright/rulewright/games/skorm/Piece" "facing" "Lcom/example/rulewright/rulewright/games/skorm/Direction;" (.ref fa)
set_option maxRecDepth 65536 in
set_option maxHeartbeats 40000000 in
theorem rm2r (l : Launch) (Z : State) (a0 : Array Value) (hw : ∀ d ∈ tables_1, d.before a0 Z = true) (ws : List Jvm.Cond) (a1 : Addr) (q1 : Int32) (ty : Addr) (fa : Addr) (u0 : Value) (u1 : Value) (u2 : Value) (h0 : Heap) (n0 : Nat) (Z0 : n0 ≤ h0.size) (P0 : Exa Z h0 a1 "com/example/rulewright/rulewright/games/skorm/Piece") (P1 : Fld Z h0 a1 "com/example/rulewright/rulewright/games/skorm/Piece" "seat" "I" u0) (P2 : Fld Z h0 a1 "com/example/rulewright/rulewright/games/skorm/Piece" "type" "Lcom/example/rulewright/rulewright/games/skorm/PieceType;" u1) (P3 : Fld Z h0 a1 "com/example/rulewright/rulewright/games/skorm/Piece" "facing" "Lcom/example/rulewright/rulewright/games/skorm/Direction;" u2) (g_a1 : n0 ≤ a1) :
    MetFree l (⟨"com/example/rulewright/rulewright/games/skorm/Piece", "<init>", "(ILcom/example/rulewright/rulewright/games/skorm/PieceType;Lcom/example/rulewright/rulewright/games/skorm/Direction;)V"⟩ : MethodName) (head1 (Jvm.Cond.code (⟨"com/example/rulewright/rulewright/games/skorm/Piece", "<init>", "(ILcom/example/rulewright/rulewright/games/skorm/PieceType;Lcom/example/rulewright/rulewright/games/skorm/Direction;)V"⟩ : MethodName) prog_10_method_1_code 4 none :: ws) ({ frames := 2, cells := 0, slots := 0, locals := 24 } : Room)) (fun a U => a = #[(.ref a1), (.int q1), (.ref ty), (.ref fa)] ∧ Z.Warmed39 U.vm ∧ U.heap = h0) (fun _ _ _ _ _ => True) (fun _ U o U' => ∃ v L, o = .returned v ∧ Q2r Z a1 q1 ty fa u0 u1 u2 h0 n0 v U'.heap L ∧ FrameEnd U o U' L ({ frames := 2, cells := 0, slots := 0, locals := 24 } : Room).cells ({ frames := 2, cells := 0, slots := 0, locals := 24 } : Room).slots) := by
  refine MetFree.of_bodySF (plainFor_of_name pn_2r) hisR ?_
  intro p e s m args below meth c s₁ Bd hml0 hP hK
  obtain ⟨rfl, hZ, hh⟩ := hP
  have hx := Bd.exec
  have hby := Bd.bytes
  have hml : c.maxLocals = 4 := hml0
  have hown : s.vm.findClass "com/example/rulewright/rulewright/games/skorm/Piece" = some m.cls := findClass_of_methodNamed Bd.named
  have hnm := (name_of_methodNamed Bd.named Bd.method).1
  have hlk : meth.locks = false := BodyLoose.notSynchronized Bd
  have hrt := Bd.returns
  have X0 : Stand p l e ({ frames := 2, cells := 0, slots := 0, locals := 24 } : Room) s m #[(.ref a1), (.int q1), (.ref ty), (.ref fa)] below meth c s₁ [] 0 0 := Stand.of_body Bd
  have e0 : s₁.heap = h0 := by rw [← hh, Bd.state]; rfl
  have N0 := Fr.nil n0
  show own_Fin p.tables e below (own_post (Q2r Z a1 q1 ty fa u0 u1 u2 h0 n0) s ({ frames := 2, cells := 0, slots := 0, locals := 24 } : Room).cells ({ frames := 2, cells := 0, slots := 0, locals := 24 } : Room).slots) (s₁.setTop (entryFrame m #[(.ref a1), (.int q1), (.ref ty), (.ref fa)] 4))
  refine own_Fin.step (fun t k => castTop (ef_2r m a1 q1 ty fa) k) ?_
  have lt_P0 : @LT.lt Nat _ a1 (Array.size h0) := P0.lt
  have lt_P1 : @LT.lt Nat _ a1 (Array.size h0) := P1.lt
  have lt_P2 : @LT.lt Nat _ a1 (Array.size h0) := P2.lt
  have lt_P3 : @LT.lt Nat _ a1 (Array.size h0) := P3.lt
  refine own_Fin.step (S' := s₁.setTop (mkF m 1 #[.val (.ref a1), .val (.int q1), .val (.ref ty), .val (.ref fa)] [(.ref a1)])) (fun t k => XS.aloadN X0.here hx rfl (hb hby d2_0) rfl rfl  k) ?_
  obtain ⟨_, _, ⟨T36, L36, k36, n36⟩, -, X36, ⟨Lc36, hQ36, l36, y36, zz36⟩, st36⟩ := X0.specialBack hx (y := (⟨"java/lang/Record", "<init>", "()V"⟩ : MethodName)) rfl hown (mvT hZ (hw _ (List.mem_of_getElem? (i := 18) rfl))) (mvT hZ (hw _ (List.mem_of_getElem? (i := 19) rfl))) (mvT hZ (hw _ (List.mem_of_getElem? (i := 22) rfl))) (by decide) (backOf (W := 0) (rm3 l Z a0 hw [] a1 h0 n0 (by omega) ) hZ (hw _ (List.mem_of_getElem? (i := 22) rfl)) (hw _ (List.mem_of_getElem? (i := 21) rfl)) (by decide) (by decide)) (g := (mkF m 1 #[.val (.ref a1), .val (.int q1), .val (.ref ty), .val (.ref fa)] [(.ref a1)])) rfl (by rw [hml]; rfl) (Steps.refl _) (a := a1) (argsL := []) (rest := []) (lenOf pd_2r_0 rfl) rfl (by show 2 * 0 + _ ≤ _; exact Nat.le_of_eq rfl) (hb hby d2_1) (fun _ _ => ⟨rfl, e0, (by decide : 0 + 0 ≤ _), (by decide : 0 + 0 ≤ _)⟩)
  dsimp only [Pt.U, Pt.locs, Pt.cells, Pt.slots] at X36 l36 y36 zz36 st36 hQ36
  subst l36 y36 zz36
  obtain ⟨rfl, N36q, e36⟩ := hQ36
  have N36 := Fr.app N0 N36q
  refine own_Fin.trans (S' := T36.setTop (mkF m 4 #[.val (.ref a1), .val (.int q1), .val (.ref ty), .val (.ref fa)] [])) st36 ?_
  refine own_Fin.step (S' := T36.setTop (mkF m 5 #[.val (.ref a1), .val (.int q1), .val (.ref ty), .val (.ref fa)] [(.ref a1)])) (fun t k => XS.aloadN X36.here hx rfl (hb hby d2_4) rfl rfl  k) ?_
  refine own_Fin.step (S' := T36.setTop (mkF m 6 #[.val (.ref a1), .val (.int q1), .val (.ref ty), .val (.ref fa)] [(.int q1), (.ref a1)])) (fun t k => XS.iloadN X36.here hx rfl (hb hby d2_5) rfl  k) ?_
  obtain ⟨T37, h37, X37, e37, W37, st37⟩ := putF X36 hx hZ hown (host := "") (Or.inl (hw _ (List.mem_of_getElem? (i := 26) rfl))) Via.refl e36 P1 P0 (Or.inr ⟨(hw _ (List.mem_of_getElem? (i := 27) rfl)), rfl, hnm⟩) (hw _ (List.mem_of_getElem? (i := 3) rfl)) (ty := .int) (by decide) rfl rfl (g := (mkF m 6 #[.val (.ref a1), .val (.int q1), .val (.ref ty), .val (.ref fa)] [(.int q1), (.ref a1)])) rfl rfl (hb hby d2_6)
  have F37 := Fld.same W37 P1
  have z37 := W37.size
  have KK37 : Keep h0 h37 [a1] := (Keep.refl h0 [a1]).wr W37 (Or.inl (by simp))
  have N37 := Fr.snoc X37 N36 (by omega)
  refine own_Fin.step (S' := T37.setTop (mkF m 9 #[.val (.ref a1), .val (.int q1), .val (.ref ty), .val (.ref fa)] [])) st37 ?_
  refine own_Fin.step (S' := T37.setTop (mkF m 10 #[.val (.ref a1), .val (.int q1), .val (.ref ty), .val (.ref fa)] [(.ref a1)])) (fun t k => XS.aloadN X37.here hx rfl (hb hby d2_9) rfl rfl  k) ?_
  refine own_Fin.step (S' := T37.setTop (mkF m 11 #[.val (.ref a1), .val (.int q1), .val (.ref ty), .val (.ref fa)] [(.ref ty), (.ref a1)])) (fun t k => XS.aloadN X37.here hx rfl (hb hby d2_10) rfl rfl  k) ?_
  have f38 : Exa Z h37 a1 "com/example/rulewright/rulewright/games/skorm/Piece" := (Exa.wr W37 P0)
  have f39 : Fld Z h37 a1 "com/example/rulewright/rulewright/games/skorm/Piece" "type" "Lcom/example/rulewright/rulewright/games/skorm/PieceType;" u1 := (Fld.other W37 P2 (Or.inr (slot_ne (Or.inr (hw _ (List.mem_of_getElem? (i := 29) rfl))) (Or.inr (hw _ (List.mem_of_getElem? (i := 27) rfl))) (by decide) (t := (.object "com/example/rulewright/rulewright/games/skorm/PieceType")) (t' := .int) (by decide) (by decide))))
  obtain ⟨T40, h40, X40, e40, W40, st40⟩ := putF X37 hx hZ hown (host := "") (Or.inl (hw _ (List.mem_of_getElem? (i := 28) rfl))) Via.refl e37 f39 f38 (Or.inr ⟨(hw _ (List.mem_of_getElem? (i := 29) rfl)), rfl, hnm⟩) (hw _ (List.mem_of_getElem? (i := 3) rfl)) (ty := (.object "com/example/rulewright/rulewright/games/skorm/PieceType")) (by decide) rfl rfl (g := (mkF m 11 #[.val (.ref a1), .val (.int q1), .val (.ref ty), .val (.ref fa)] [(.ref ty), (.ref a1)])) rfl rfl (hb hby d2_11)
  have F40 := Fld.same W40 f39
  have z40 := W40.size
  have KK40 : Keep h0 h40 [a1] := KK37.wr W40 (Or.inl (by simp))
  have N40 := Fr.snoc X40 N37 (by omega)
  refine own_Fin.step (S' := T40.setTop (mkF m 14 #[.val (.ref a1), .val (.int q1), .val (.ref ty), .val (.ref fa)] [])) st40 ?_
  refine own_Fin.step (S' := T40.setTop (mkF m 15 #[.val (.ref a1), .val (.int q1), .val (.ref ty), .val (.ref fa)] [(.ref a1)])) (fun t k => XS.aloadN X40.here hx rfl (hb hby d2_14) rfl rfl  k) ?_
  refine own_Fin.step (S' := T40.setTop (mkF m 16 #[.val (.ref a1), .val (.int q1), .val (.ref ty), .val (.ref fa)] [(.ref fa), (.ref a1)])) (fun t k => XS.aloadN X40.here hx rfl (hb hby d2_15) rfl rfl  k) ?_
  have f41 : Exa Z h40 a1 "com/example/rulewright/rulewright/games/skorm/Piece" := (Exa.wr W40 f38)
  have f42 : Fld Z h40 a1 "com/example/rulewright/rulewright/games/skorm/Piece" "facing" "Lcom/example/rulewright/rulewright/games/skorm/Direction;" u2 := (Fld.other W40 (Fld.other W37 P3 (Or.inr (slot_ne (Or.inr (hw _ (List.mem_of_getElem? (i := 31) rfl))) (Or.inr (hw _ (List.mem_of_getElem? (i := 27) rfl))) (by decide) (t := (.object "com/example/rulewright/rulewright/games/skorm/Direction")) (t' := .int) (by decide) (by decide)))) (Or.inr (slot_ne (Or.inr (hw _ (List.mem_of_getElem? (i := 31) rfl))) (Or.inr (hw _ (List.mem_of_getElem? (i := 29) rfl))) (by decide) (t := (.object "com/example/rulewright/rulewright/games/skorm/Direction")) (t' := (.object "com/example/rulewright/rulewright/games/skorm/PieceType")) (by decide) (by decide))))
  obtain ⟨T43, h43, X43, e43, W43, st43⟩ := putF X40 hx hZ hown (host := "") (Or.inl (hw _ (List.mem_of_getElem? (i := 30) rfl))) Via.refl e40 f42 f41 (Or.inr ⟨(hw _ (List.mem_of_getElem? (i := 31) rfl)), rfl, hnm⟩) (hw _ (List.mem_of_getElem? (i := 3) rfl)) (ty := (.object "com/example/rulewright/rulewright/games/skorm/Direction")) (by decide) rfl rfl (g := (mkF m 16 #[.val (.ref a1), .val (.int q1), .val (.ref ty), .val (.ref fa)] [(.ref fa), (.ref a1)])) rfl rfl (hb hby d2_16)
  have F43 := Fld.same W43 f42
  have z43 := W43.size
  have KK43 : Keep h0 h43 [a1] := KK40.wr W43 (Or.inl (by simp))
  have N43 := Fr.snoc X43 N40 (by omega)
  refine own_Fin.step (S' := T43.setTop (mkF m 19 #[.val (.ref a1), .val (.int q1), .val (.ref ty), .val (.ref fa)] [])) st43 ?_
  have f45 : Exa Z h43 a1 "com/example/rulewright/rulewright/games/skorm/Piece" := (Exa.wr W43 f41)
  have hq44 : Q2r Z a1 q1 ty fa u0 u1 u2 h0 n0 none h43 _ := ⟨rfl, N43, KK43, f45, F43⟩
  exact own_retV X43 hx hlk hrt (hb hby d2_19) e43 hq44 (by decide) (by decide)
theorem pn_2n : plainName "com/example/rulewright/rulewright/games/skorm/Piece" = true := by first | (simp [plainName, overriddenIn]; done) | decide +kernel
theorem pd_2n_0 : parseMethodDescriptor "()V" = some ⟨[], none⟩ := by decide +kernel
theorem ef_2n (m : MethodId) (x0 : Addr) (x1 : Int32) (x2 : Addr) : entryFrame m #[(.ref x0), (.int x1), (.ref x2), .null] 4 = mkF m 0 #[.val (.ref x0), .val (.int x1), .val (.ref x2), .val .null] [] := by first | (simp [entryFrame, mkF, argsToLocals, Value.category]; done) | rfl
def Q2n (Z : State) (a1 : Addr) (q1 : Int32) (ty : Addr) (u0 : Value) (u1 : Value) (u2 : Value) (h0 : Heap) (n0 : Nat) (v : Option Value) (h : Heap) (L : List Loc) : Prop := v = none ∧ Fr n0 L ∧ Keep h0 h [a1] ∧ Exa Z h a1 "com/example/rulewright/rulewright/games/skorm/Piece" ∧ Fld Z h a1 "com/example/rulewright/rulewright/games/skorm/Piece" "facing" "Lcom/example/rulewright/rulewright/games/skorm/Direction;" .null
set_option maxRecDepth 65536 in
set_option maxHeartbeats 40000000 in
theorem rm2n (l : Launch) (Z : State) (a0 : Array Value) (hw : ∀ d ∈ tables_1, d.before a0 Z = true) (ws : List Jvm.Cond) (a1 : Addr) (q1 : Int32) (ty : Addr) (u0 : Value) (u1 : Value) (u2 : Value) (h0 : Heap) (n0 : Nat) (Z0 : n0 ≤ h0.size) (P0 : Exa Z h0 a1 "com/example/rulewright/rulewright/games/skorm/Piece") (P1 : Fld Z h0 a1 "com/example/rulewright/rulewright/games/skorm/Piece" "seat" "I" u0) (P2 : Fld Z h0 a1 "com/example/rulewright/rulewright/games/skorm/Piece" "type" "Lcom/example/rulewright/rulewright/games/skorm/PieceType;" u1) (P3 : Fld Z h0 a1 "com/example/rulewright/rulewright/games/skorm/Piece" "facing" "Lcom/example/rulewright/rulewright/games/skorm/Direction;" u2) (g_a1 : n0 ≤ a1) :
    MetFree l (⟨"com/example/rulewright/rulewright/games/skorm/Piece", "<init>", "(ILcom/example/rulewright/rulewright/games/skorm/PieceType;Lcom/example/rulewright/rulewright/games/skorm/Direction;)V"⟩ : MethodName) (head1 (Jvm.Cond.code (⟨"com/example/rulewright/rulewright/games/skorm/Piece", "<init>", "(ILcom/example/rulewright/rulewright/games/skorm/PieceType;Lcom/example/rulewright/rulewright/games/skorm/Direction;)V"⟩ : MethodName) prog_10_method_1_code 4 none :: ws) ({ frames := 2, cells := 0, slots := 0, locals := 24 } : Room)) (fun a U => a = #[(.ref a1), (.int q1), (.ref ty), .null] ∧ Z.Warmed39 U.vm ∧ U.heap = h0) (fun _ _ _ _ _ => True) (fun _ U o U' => ∃ v L, o = .returned v ∧ Q2n Z a1 q1 ty u0 u1 u2 h0 n0 v U'.heap L ∧ FrameEnd U o U' L ({ frames := 2, cells := 0, slots := 0, locals := 24 } : Room).cells ({ frames := 2, cells := 0, slots := 0, locals := 24 } : Room).slots) := by
  refine MetFree.of_bodySF (plainFor_of_name pn_2n) hisR ?_
  intro p e s m args below meth c s₁ Bd hml0 hP hK
  obtain ⟨rfl, hZ, hh⟩ := hP
  have hx := Bd.exec
  have hby := Bd.bytes
  have hml : c.maxLocals = 4 := hml0
  have hown : s.vm.findClass "com/example/rulewright/rulewright/games/skorm/Piece" = some m.cls := findClass_of_methodNamed Bd.named
  have hnm := (name_of_methodNamed Bd.named Bd.method).1
  have hlk : meth.locks = false := BodyLoose.notSynchronized Bd
  have hrt := Bd.returns
  have X0 : Stand p l e ({ frames := 2, cells := 0, slots := 0, locals := 24 } : Room) s m #[(.ref a1), (.int q1), (.ref ty), .null] below meth c s₁ [] 0 0 := Stand.of_body Bd
  have e0 : s₁.heap = h0 := by rw [← hh, Bd.state]; rfl
  have N0 := Fr.nil n0
  show own_Fin p.tables e below (own_post (Q2n Z a1 q1 ty u0 u1 u2 h0 n0) s ({ frames := 2, cells := 0, slots := 0, locals := 24 } : Room).cells ({ frames := 2, cells := 0, slots := 0, locals := 24 } : Room).slots) (s₁.setTop (entryFrame m #[(.ref a1), (.int q1), (.ref ty), .null] 4))
  refine own_Fin.step (fun t k => castTop (ef_2n m a1 q1 ty) k) ?_
  have lt_P0 : @LT.lt Nat _ a1 (Array.size h0) := P0.lt
  have lt_P1 : @LT.lt Nat _ a1 (Array.size h0) := P1.lt
  have lt_P2 : @LT.lt Nat _ a1 (Array.size h0) := P2.lt
  have lt_P3 : @LT.lt Nat _ a1 (Array.size h0) := P3.lt
  refine own_Fin.step (S' := s₁.setTop (mkF m 1 #[.val (.ref a1), .val (.int q1), .val (.ref ty), .val .null] [(.ref a1)])) (fun t k => XS.aloadN X0.here hx rfl (hb hby d2_0) rfl rfl  k) ?_
  obtain ⟨_, _, ⟨T46, L46, k46, n46⟩, -, X46, ⟨Lc46, hQ46, l46, y46, zz46⟩, st46⟩ := X0.specialBack hx (y := (⟨"java/lang/Record", "<init>", "()V"⟩ : MethodName)) rfl hown (mvT hZ (hw _ (List.mem_of_getElem? (i := 18) rfl))) (mvT hZ (hw _ (List.mem_of_getElem? (i := 19) rfl))) (mvT hZ (hw _ (List.mem_of_getElem? (i := 22) rfl))) (by decide) (backOf (W := 0) (rm3 l Z a0 hw [] a1 h0 n0 (by omega) ) hZ (hw _ (List.mem_of_getElem? (i := 22) rfl)) (hw _ (List.mem_of_getElem? (i := 21) rfl)) (by decide) (by decide)) (g := (mkF m 1 #[.val (.ref a1), .val (.int q1), .val (.ref ty), .val .null] [(.ref a1)])) rfl (by rw [hml]; rfl) (Steps.refl _) (a := a1) (argsL := []) (rest := []) (lenOf pd_2n_0 rfl) rfl (by show 2 * 0 + _ ≤ _; exact Nat.le_of_eq rfl) (hb hby d2_1) (fun _ _ => ⟨rfl, e0, (by decide : 0 + 0 ≤ _), (by decide : 0 + 0 ≤ _)⟩)
  dsimp only [Pt.U, Pt.locs, Pt.cells, Pt.slots] at X46 l46 y46 zz46 st46 hQ46
  subst l46 y46 zz46
  obtain ⟨rfl, N46q, e46⟩ := hQ46
  have N46 := Fr.app N0 N46q
  refine own_Fin.trans (S' := T46.setTop (mkF m 4 #[.val (.ref a1), .val (.int q1), .val (.ref ty), .val .null] [])) st46 ?_
  refine own_Fin.step (S' := T46.setTop (mkF m 5 #[.val (.ref a1), .val (.int q1), .val (.ref ty), .val .null] [(.ref a1)])) (fun t k => XS.aloadN X46.here hx rfl (hb hby d2_4) rfl rfl  k) ?_
  refine own_Fin.step (S' := T46.setTop (mkF m 6 #[.val (.ref a1), .val (.int q1), .val (.ref ty), .val .null] [(.int q1), (.ref a1)])) (fun t k => XS.iloadN X46.here hx rfl (hb hby d2_5) rfl  k) ?_
  obtain ⟨T47, h47, X47, e47, W47, st47⟩ := putF X46 hx hZ hown (host := "") (Or.inl (hw _ (List.mem_of_getElem? (i := 26) rfl))) Via.refl e46 P1 P0 (Or.inr ⟨(hw _ (List.mem_of_getElem? (i := 27) rfl)), rfl, hnm⟩) (hw _ (List.mem_of_getElem? (i := 3) rfl)) (ty := .int) (by decide) rfl rfl (g := (mkF m 6 #[.val (.ref a1), .val (.int q1), .val (.ref ty), .val .null] [(.int q1), (.ref a1)])) rfl rfl (hb hby d2_6)
  have F47 := Fld.same W47 P1
  have z47 := W47.size
  have KK47 : Keep h0 h47 [a1] := (Keep.refl h0 [a1]).wr W47 (Or.inl (by simp))
  have N47 := Fr.snoc X47 N46 (by omega)
  refine own_Fin.step (S' := T47.setTop (mkF m 9 #[.val (.ref a1), .val (.int q1), .val (.ref ty), .val .null] [])) st47 ?_
  refine own_Fin.step (S' := T47.setTop (mkF m 10 #[.val (.ref a1), .val (.int q1), .val (.ref ty), .val .null] [(.ref a1)])) (fun t k => XS.aloadN X47.here hx rfl (hb hby d2_9) rfl rfl  k) ?_
  refine own_Fin.step (S' := T47.setTop (mkF m 11 #[.val (.ref a1), .val (.int q1), .val (.ref ty), .val .null] [(.ref ty), (.ref a1)])) (fun t k => XS.aloadN X47.here hx rfl (hb hby d2_10) rfl rfl  k) ?_
  have f48 : Exa Z h47 a1 "com/example/rulewright/rulewright/games/skorm/Piece" := (Exa.wr W47 P0)
  have f49 : Fld Z h47 a1 "com/example/rulewright/rulewright/games/skorm/Piece" "type" "Lcom/example/rulewright/rulewright/games/skorm/PieceType;" u1 := (Fld.other W47 P2 (Or.inr (slot_ne (Or.inr (hw _ (List.mem_of_getElem? (i := 29) rfl))) (Or.inr (hw _ (List.mem_of_getElem? (i := 27) rfl))) (by decide) (t := (.object "com/example/rulewright/rulewright/games/skorm/PieceType")) (t' := .int) (by decide) (by decide))))
  obtain ⟨T50, h50, X50, e50, W50, st50⟩ := putF X47 hx hZ hown (host := "") (Or.inl (hw _ (List.mem_of_getElem? (i := 28) rfl))) Via.refl e47 f49 f48 (Or.inr ⟨(hw _ (List.mem_of_getElem? (i := 29) rfl)), rfl, hnm⟩) (hw _ (List.mem_of_getElem? (i := 3) rfl)) (ty := (.object "com/example/rulewright/rulewright/games/skorm/PieceType")) (by decide) rfl rfl (g := (mkF m 11 #[.val (.ref a1), .val (.int q1), .val (.ref ty), .val .null] [(.ref ty), (.ref a1)])) rfl rfl (hb hby d2_11)
  have F50 := Fld.same W50 f49
  have z50 := W50.size
  have KK50 : Keep h0 h50 [a1] := KK47.wr W50 (Or.inl (by simp))
  have N50 := Fr.snoc X50 N47 (by omega)
  refine own_Fin.step (S' := T50.setTop (mkF m 14 #[.val (.ref a1), .val (.int q1), .val (.ref ty), .val .null] [])) st50 ?_
  refine own_Fin.step (S' := T50.setTop (mkF m 15 #[.val (.ref a1), .val (.int q1), .val (.ref ty), .val .null] [(.ref a1)])) (fun t k => XS.aloadN X50.here hx rfl (hb hby d2_14) rfl rfl  k) ?_
  refine own_Fin.step (S' := T50.setTop (mkF m 16 #[.val (.ref a1), .val (.int q1), .val (.ref ty), .val .null] [.null, (.ref a1)])) (fun t k => XS.aloadN X50.here hx rfl (hb hby d2_15) rfl rfl  k) ?_
  have f51 : Exa Z h50 a1 "com/example/rulewright/rulewright/games/skorm/Piece" := (Exa.wr W50 f48)
  have f52 : Fld Z h50 a1 "com/example/rulewright/rulewright/games/skorm/Piece" "facing" "Lcom/example/rulewright/rulewright/games/skorm/Direction;" u2 := (Fld.other W50 (Fld.other W47 P3 (Or.inr (slot_ne (Or.inr (hw _ (List.mem_of_getElem? (i := 31) rfl))) (Or.inr (hw _ (List.mem_of_getElem? (i := 27) rfl))) (by decide) (t := (.object "com/example/rulewright/rulewright/games/skorm/Direction")) (t' := .int) (by decide) (by decide)))) (Or.inr (slot_ne (Or.inr (hw _ (List.mem_of_getElem? (i := 31) rfl))) (Or.inr (hw _ (List.mem_of_getElem? (i := 29) rfl))) (by decide) (t := (.object "com/example/rulewright/rulewright/games/skorm/Direction")) (t' := (.object "com/example/rulewright/rulewright/games/skorm/PieceType")) (by decide) (by decide))))
  obtain ⟨T53, h53, X53, e53, W53, st53⟩ := putF X50 hx hZ hown (host := "") (Or.inl (hw _ (List.mem_of_getElem? (i := 30) rfl))) Via.refl e50 f52 f51 (Or.inr ⟨(hw _ (List.mem_of_getElem? (i := 31) rfl)), rfl, hnm⟩) (hw _ (List.mem_of_getElem? (i := 3) rfl)) (ty := (.object "com/example/rulewright/rulewright/games/skorm/Direction")) (by decide) rfl rfl (g := (mkF m 16 #[.val (.ref a1), .val (.int q1), .val (.ref ty), .val .null] [.null, (.ref a1)])) rfl rfl (hb hby d2_16)
  have F53 := Fld.same W53 f52
  have z53 := W53.size
  have KK53 : Keep h0 h53 [a1] := KK50.wr W53 (Or.inl (by simp))
  have N53 := Fr.snoc X53 N50 (by omega)
  refine own_Fin.step (S' := T53.setTop (mkF m 19 #[.val (.ref a1), .val (.int q1), .val (.ref ty), .val .null] [])) st53 ?_
  have f55 : Exa Z h53 a1 "com/example/rulewright/rulewright/games/skorm/Piece" := (Exa.wr W53 f51)
  have hq54 : Q2n Z a1 q1 ty u0 u1 u2 h0 n0 none h53 _ := ⟨rfl, N53, KK53, f55, F53⟩
  exact own_retV X53 hx hlk hrt (hb hby d2_19) e53 hq54 (by decide) (by decide)
theorem d8_0 : decode jdk_37_method_2_code 0 = .ok (.aload_n 0, 1) := by decide +kernel
theorem d8_1 : decode jdk_37_method_2_code 1 = .ok (.getfield 7, 3) := by decide +kernel
theorem d8_4 : decode jdk_37_method_2_code 4 = .ok (.ireturn, 1) := by decide +kernel
theorem pn_8 : plainName "java/lang/Enum" = true := by first | (simp [plainName, overriddenIn]; done) | decide +kernel
theorem ef_8 (m : MethodId) (x0 : Addr) : entryFrame m #[(.ref x0)] 1 = mkF m 0 #[.val (.ref x0)] [] := by first | (simp [entryFrame, mkF, argsToLocals, Value.category]; done) | rfl
def Q8 (Z : State) (a1 : Addr) (od : Int32) (h0 : Heap) (n0 : Nat) (v : Option Value) (h : Heap) (L : List Loc) : Prop := v = some (.int od) ∧ Fr n0 L ∧ h = h0
set_option maxRecDepth 65536 in
set_option maxHeartbeats 40000000 in
theorem rm8 (l : Launch) (Z : State) (a0 : Array Value) (hw : ∀ d ∈ tables_1, d.before a0 Z = true) (ws : List Jvm.Cond) (a1 : Addr) (od : Int32) (h0 : Heap) (n0 : Nat) (Z0 : n0 ≤ h0.size) (P0 : Fld Z h0 a1 "java/lang/Enum" "ordinal" "I" (.int od)) :
    MetFree l (⟨"java/lang/Enum", "ordinal", "()I"⟩ : MethodName) (head1 (Jvm.Cond.code (⟨"java/lang/Enum", "ordinal", "()I"⟩ : MethodName) jdk_37_method_2_code 1 (some .int) :: ws) ({ frames := 0, cells := 0, slots := 0, locals := 0 } : Room)) (fun a U => a = #[(.ref a1)] ∧ Z.Warmed39 U.vm ∧ U.heap = h0) (fun _ _ _ _ _ => True) (fun _ U o U' => ∃ v L, o = .returned v ∧ Q8 Z a1 od h0 n0 v U'.heap L ∧ FrameEnd U o U' L ({ frames := 0, cells := 0, slots := 0, locals := 0 } : Room).cells ({ frames := 0, cells := 0, slots := 0, locals := 0 } : Room).slots) := by
  refine MetFree.of_bodySF (plainFor_of_name pn_8) hisR ?_
  intro p e s m args below meth c s₁ Bd hml0 hP hK
  obtain ⟨rfl, hZ, hh⟩ := hP
  have hx := Bd.exec
  have hby := Bd.bytes
  have hml : c.maxLocals = 1 := hml0
  have hown : s.vm.findClass "java/lang/Enum" = some m.cls := findClass_of_methodNamed Bd.named
  have hnm := (name_of_methodNamed Bd.named Bd.method).1
  have hlk : meth.locks = false := BodyLoose.notSynchronized Bd
  have hrt := Bd.returns
  have X0 : Stand p l e ({ frames := 0, cells := 0, slots := 0, locals := 0 } : Room) s m #[(.ref a1)] below meth c s₁ [] 0 0 := Stand.of_body Bd
  have e0 : s₁.heap = h0 := by rw [← hh, Bd.state]; rfl
  have N0 := Fr.nil n0
  show own_Fin p.tables e below (own_post (Q8 Z a1 od h0 n0) s ({ frames := 0, cells := 0, slots := 0, locals := 0 } : Room).cells ({ frames := 0, cells := 0, slots := 0, locals := 0 } : Room).slots) (s₁.setTop (entryFrame m #[(.ref a1)] 1))
  refine own_Fin.step (fun t k => castTop (ef_8 m a1) k) ?_
  have lt_P0 : @LT.lt Nat _ a1 (Array.size h0) := P0.lt
  refine own_Fin.step (S' := s₁.setTop (mkF m 1 #[.val (.ref a1)] [(.ref a1)])) (fun t k => XS.aloadN X0.here hx rfl (hb hby d8_0) rfl rfl  k) ?_
  obtain ⟨T56, X56, e56, st56⟩ := getF X0 hx hZ hown (host := "") (Or.inl (hw _ (List.mem_of_getElem? (i := 56) rfl))) Via.refl e0 P0 (g := (mkF m 1 #[.val (.ref a1)] [(.ref a1)])) rfl rfl (hb hby d8_1)
  refine own_Fin.step (S' := T56.setTop (mkF m 4 #[.val (.ref a1)] [(.int od)])) st56 ?_
  have hq57 : Q8 Z a1 od h0 n0 (some (.int od)) h0 _ := ⟨rfl, N0, rfl⟩
  exact own_retI X56 hx hlk hrt (hb hby d8_4) e56 hq57 (by decide) (by decide)
theorem d7_0 : decode prog_9_method_7_code 0 = .ok (.getstatic 72, 3) := by decide +kernel
theorem d7_3 : decode prog_9_method_7_code 3 = .ok (.aload_n 0, 1) := by decide +kernel
theorem d7_4 : decode prog_9_method_7_code 4 = .ok (.invokevirtual 75, 3) := by decide +kernel
theorem d7_7 : decode prog_9_method_7_code 7 = .ok (.aaload, 1) := by decide +kernel
theorem d7_8 : decode prog_9_method_7_code 8 = .ok (.areturn, 1) := by decide +kernel
theorem pn_7 : plainName "com/example/rulewright/rulewright/games/skorm/Direction" = true := by first | (simp [plainName, overriddenIn]; done) | decide +kernel
theorem pd_7_0 : parseMethodDescriptor "()I" = some ⟨[], some .int⟩ := by decide +kernel
theorem ef_7 (m : MethodId) (x0 : Addr) : entryFrame m #[(.ref x0)] 1 = mkF m 0 #[.val (.ref x0)] [] := by first | (simp [entryFrame, mkF, argsToLocals, Value.category]; done) | rfl
def Q7 (Z : State) (o_SHIELDMAN : Addr) (o_NW : Addr) (o_NE : Addr) (o_OPPOSITES : Addr) (ko_OPPOSITES : ClassId) (o_SW : Addr) (o_SE : Addr) (o_W : Addr) (o_E : Addr) (o_HORSEMAN : Addr) (o_ARCHER : Addr) (o_WARLORD : Addr) (a1 : Addr) (od : Int32) (op : Addr) (h0 : Heap) (n0 : Nat) (v : Option Value) (h : Heap) (L : List Loc) : Prop := v = some (.ref op) ∧ Fr n0 L ∧ h = h0
set_option maxRecDepth 65536 in
set_option maxHeartbeats 40000000 in
theorem rm7 (l : Launch) (Z : State) (a0 : Array Value) (hw : ∀ d ∈ tables_1, d.before a0 Z = true) (ws : List Jvm.Cond) (o_SHIELDMAN : Addr) (o_NW : Addr) (o_NE : Addr) (o_OPPOSITES : Addr) (ko_OPPOSITES : ClassId) (o_SW : Addr) (o_SE : Addr) (o_W : Addr) (o_E : Addr) (o_HORSEMAN : Addr) (o_ARCHER : Addr) (o_WARLORD : Addr) (a1 : Addr) (od : Int32) (op : Addr) (h0 : Heap) (n0 : Nat) (Z0 : n0 ≤ h0.size) (OLD : Old Z n0 h0) (A : Amb Z o_SHIELDMAN o_NW o_NE o_OPPOSITES ko_OPPOSITES o_SW o_SE o_W o_E o_HORSEMAN o_ARCHER o_WARLORD) (P0 : Exa Z h0 a1 "com/example/rulewright/rulewright/games/skorm/Direction") (P1 : Fld Z h0 a1 "java/lang/Enum" "ordinal" "I" (.int od)) (hin : ¬ od < 0 ∧ od < 6) (hat : ([(.ref o_W), (.ref o_E), (.ref o_SW), (.ref o_SE), (.ref o_NW), (.ref o_NE)] : List Value).getD od.toNatClampNeg .null = .ref op) :
    MetFree l (⟨"com/example/rulewright/rulewright/games/skorm/Direction", "opposite", "()Lcom/example/rulewright/rulewright/games/skorm/Direction;"⟩ : MethodName) (head1 (Jvm.Cond.code (⟨"com/example/rulewright/rulewright/games/skorm/Direction", "opposite", "()Lcom/example/rulewright/rulewright/games/skorm/Direction;"⟩ : MethodName) prog_9_method_7_code 1 (some (.object "com/example/rulewright/rulewright/games/skorm/Direction")) :: ws) ({ frames := 1, cells := 0, slots := 0, locals := 13 } : Room)) (fun a U => a = #[(.ref a1)] ∧ Z.Warmed39 U.vm ∧ U.heap = h0) (fun _ _ _ _ _ => True) (fun _ U o U' => ∃ v L, o = .returned v ∧ Q7 Z o_SHIELDMAN o_NW o_NE o_OPPOSITES ko_OPPOSITES o_SW o_SE o_W o_E o_HORSEMAN o_ARCHER o_WARLORD a1 od op h0 n0 v U'.heap L ∧ FrameEnd U o U' L ({ frames := 1, cells := 0, slots := 0, locals := 13 } : Room).cells ({ frames := 1, cells := 0, slots := 0, locals := 13 } : Room).slots) := by
  refine MetFree.of_bodySF (plainFor_of_name pn_7) hisR ?_
  intro p e s m args below meth c s₁ Bd hml0 hP hK
  obtain ⟨rfl, hZ, hh⟩ := hP
  have hx := Bd.exec
  have hby := Bd.bytes
  have hml : c.maxLocals = 1 := hml0
  have hown : s.vm.findClass "com/example/rulewright/rulewright/games/skorm/Direction" = some m.cls := findClass_of_methodNamed Bd.named
  have hnm := (name_of_methodNamed Bd.named Bd.method).1
  have hlk : meth.locks = false := BodyLoose.notSynchronized Bd
  have hrt := Bd.returns
  have X0 : Stand p l e ({ frames := 1, cells := 0, slots := 0, locals := 13 } : Room) s m #[(.ref a1)] below meth c s₁ [] 0 0 := Stand.of_body Bd
  have e0 : s₁.heap = h0 := by rw [← hh, Bd.state]; rfl
  have N0 := Fr.nil n0
  show own_Fin p.tables e below (own_post (Q7 Z o_SHIELDMAN o_NW o_NE o_OPPOSITES ko_OPPOSITES o_SW o_SE o_W o_E o_HORSEMAN o_ARCHER o_WARLORD a1 od op h0 n0) s ({ frames := 1, cells := 0, slots := 0, locals := 13 } : Room).cells ({ frames := 1, cells := 0, slots := 0, locals := 13 } : Room).slots) (s₁.setTop (entryFrame m #[(.ref a1)] 1))
  refine own_Fin.step (fun t k => castTop (ef_7 m a1) k) ?_
  have lt_P0 : @LT.lt Nat _ a1 (Array.size h0) := P0.lt
  have lt_P1 : @LT.lt Nat _ a1 (Array.size h0) := P1.lt
  have f58 : Sta Z h0 "com/example/rulewright/rulewright/games/skorm/Direction" "OPPOSITES" "[Lcom/example/rulewright/rulewright/games/skorm/Direction;" (.ref o_OPPOSITES) := Sta.ext OLD.2 (Amb.a6 A)
  obtain ⟨T59, X59, e59, st59⟩ := getS2 X0 hx hZ hown (host := "") (Or.inl (hw _ (List.mem_of_getElem? (i := 47) rfl))) Via.refl e0 f58 (g := (mkF m 0 #[.val (.ref a1)] [])) rfl (hb hby d7_0)
  refine own_Fin.step (S' := T59.setTop (mkF m 3 #[.val (.ref a1)] [(.ref o_OPPOSITES)])) st59 ?_
  refine own_Fin.step (S' := T59.setTop (mkF m 4 #[.val (.ref a1)] [(.ref a1), (.ref o_OPPOSITES)])) (fun t k => XS.aloadN X59.here hx rfl (hb hby d7_3) rfl rfl  k) ?_
  obtain ⟨cq60, kq60, q60a, q60b, q60c⟩ := isOf hZ e59 P0
  obtain ⟨_, _, ⟨T60, L60, k60, n60⟩, -, X60, ⟨Lc60, hQ60, l60, y60, zz60⟩, st60⟩ := X59.virtualBackUp hx (x := (⟨"com/example/rulewright/rulewright/games/skorm/Direction", "ordinal", "()I"⟩ : MethodName)) (y := (⟨"java/lang/Enum", "ordinal", "()I"⟩ : MethodName)) (owner := "java/lang/Enum") hown (mvT hZ (hw _ (List.mem_of_getElem? (i := 49) rfl))) (mvT hZ (hw _ (List.mem_of_getElem? (i := 50) rfl))) (mvT hZ (hw _ (List.mem_of_getElem? (i := 51) rfl))) (by decide) (mvT hZ (hw _ (List.mem_of_getElem? (i := 53) rfl))) (mvT hZ (hw _ (List.mem_of_getElem? (i := 52) rfl))) (backOf (W := 1) (rm8 l Z a0 hw [] a1 od h0 n0 (by omega) P1) hZ (hw _ (List.mem_of_getElem? (i := 55) rfl)) (hw _ (List.mem_of_getElem? (i := 54) rfl)) (by decide) (by decide)) q60a q60c (g := (mkF m 4 #[.val (.ref a1)] [(.ref a1), (.ref o_OPPOSITES)])) rfl (by rw [hml]; rfl) (Steps.refl _) (argsL := []) (rest := [(.ref o_OPPOSITES)]) (lenOf pd_7_0 rfl) rfl (by show 2 * 0 + _ ≤ _; exact Nat.le_of_eq rfl) (hb hby d7_4) (fun _ _ => ⟨rfl, e59, (by decide : 0 + 0 ≤ _), (by decide : 0 + 0 ≤ _)⟩)
  dsimp only [Pt.U, Pt.locs, Pt.cells, Pt.slots] at X60 l60 y60 zz60 st60 hQ60
  subst l60 y60 zz60
  obtain ⟨rfl, N60q, e60⟩ := hQ60
  have N60 := Fr.app N0 N60q
  refine own_Fin.trans (S' := T60.setTop (mkF m 7 #[.val (.ref a1)] [(.int od), (.ref o_OPPOSITES)])) st60 ?_
  have f61 : Arv Z h0 o_OPPOSITES ko_OPPOSITES (.object "com/example/rulewright/rulewright/games/skorm/Direction") (6 : Int32) [(.ref o_W), (.ref o_E), (.ref o_SW), (.ref o_SE), (.ref o_NW), (.ref o_NE)] .null := Arv.ext (Amb.a27 A) OLD.2
  obtain ⟨cl62, Ar62, q62, S62, N62z, Hs62, G62⟩ := id f61
  have hin62 : ¬ (od < 0 ∨ cl62.slots.size ≤ (od).toNatClampNeg) := inb_of S62 hin
  have hat62 : cl62.slots[(od).toNatClampNeg]? = some (.ref op) := Hs62.at hin62 hat
  refine own_Fin.step (S' := T60.setTop (mkF m 8 #[.val (.ref a1)] [(.ref op)])) (X60.aaload hx (j := od) (v := (.ref op)) (by rw [e60]; exact Ar62.1) (State.isArrayOf_alike hZ.alike Ar62.2.1) rfl Ar62.2.2 hin62 hat62 (g := (mkF m 7 #[.val (.ref a1)] [(.int od), (.ref o_OPPOSITES)])) rfl rfl (hb hby d7_7)) ?_
  have hq63 : Q7 Z o_SHIELDMAN o_NW o_NE o_OPPOSITES ko_OPPOSITES o_SW o_SE o_W o_E o_HORSEMAN o_ARCHER o_WARLORD a1 od op h0 n0 (some (.ref op)) h0 _ := ⟨rfl, N60, rfl⟩
  exact own_retR X60 hx hlk (w := (.ref op)) rfl hrt rfl (hb hby d7_8) e60 hq63 (by decide) (by decide)
theorem d6_0 : decode prog_10_method_2_code 0 = .ok (.aload_n 0, 1) := by decide +kernel
theorem d6_1 : decode prog_10_method_2_code 1 = .ok (.getfield 17, 3) := by decide +kernel
theorem d6_4 : decode prog_10_method_2_code 4 = .ok (.aload_n 1, 1) := by decide +kernel
theorem d6_5 : decode prog_10_method_2_code 5 = .ok (.invokevirtual 21, 3) := by decide +kernel
theorem d6_8 : decode prog_10_method_2_code 8 = .ok (.if_acmp .ne 7, 3) := by decide +kernel
theorem d6_11 : decode prog_10_method_2_code 11 = .ok (.iconst 1, 1) := by decide +kernel
theorem d6_12 : decode prog_10_method_2_code 12 = .ok (.goto 4, 3) := by decide +kernel
theorem d6_15 : decode prog_10_method_2_code 15 = .ok (.iconst 0, 1) := by decide +kernel
theorem d6_16 : decode prog_10_method_2_code 16 = .ok (.ireturn, 1) := by decide +kernel
theorem pn_6r : plainName "com/example/rulewright/rulewright/games/skorm/Piece" = true := by first | (simp [plainName, overriddenIn]; done) | decide +kernel
theorem pd_6r_0 : parseMethodDescriptor "()Lcom/example/rulewright/rulewright/games/skorm/Direction;" = some ⟨[], some (.object "com/example/rulewright/rulewright/games/skorm/Direction")⟩ := by decide +kernel
theorem ef_6r (m : MethodId) (x0 : Addr) (x1 : Addr) : entryFrame m #[(.ref x0), (.ref x1)] 2 = mkF m 0 #[.val (.ref x0), .val (.ref x1)] [] := by first | (simp [entryFrame, mkF, argsToLocals, Value.category]; done) | rfl
def Q6r (Z : State) (o_SHIELDMAN : Addr) (o_NW : Addr) (o_NE : Addr) (o_OPPOSITES : Addr) (ko_OPPOSITES : ClassId) (o_SW : Addr) (o_SE : Addr) (o_W : Addr) (o_E : Addr) (o_HORSEMAN : Addr) (o_ARCHER : Addr) (o_WARLORD : Addr) (a1 : Addr) (d1 : Addr) (fa : Addr) (od : Int32) (op : Addr) (h0 : Heap) (n0 : Nat) (v : Option Value) (h : Heap) (L : List Loc) : Prop := own_bool (fa = op) v ∧ Fr n0 L ∧ h = h0
set_option maxRecDepth 65536 in
set_option maxHeartbeats 40000000 in
theorem rm6r (l : Launch) (Z : State) (a0 : Array Value) (hw : ∀ d ∈ tables_1, d.before a0 Z = true) (ws : List Jvm.Cond) (o_SHIELDMAN : Addr) (o_NW : Addr) (o_NE : Addr) (o_OPPOSITES : Addr) (ko_OPPOSITES : ClassId) (o_SW : Addr) (o_SE : Addr) (o_W : Addr) (o_E : Addr) (o_HORSEMAN : Addr) (o_ARCHER : Addr) (o_WARLORD : Addr) (a1 : Addr) (d1 : Addr) (fa : Addr) (od : Int32) (op : Addr) (h0 : Heap) (n0 : Nat) (Z0 : n0 ≤ h0.size) (OLD : Old Z n0 h0) (A : Amb Z o_SHIELDMAN o_NW o_NE o_OPPOSITES ko_OPPOSITES o_SW o_SE o_W o_E o_HORSEMAN o_ARCHER o_WARLORD) (P0 : Fld Z h0 a1 "com/example/rulewright/rulewright/games/skorm/Piece" "facing" "Lcom/example/rulewright/rulewright/games/skorm/Direction;" (.ref fa)) (P1 : Exa Z h0 d1 "com/example/rulewright/rulewright/games/skorm/Direction") (P2 : Fld Z h0 d1 "java/lang/Enum" "ordinal" "I" (.int od)) (hin : ¬ od < 0 ∧ od < 6) (hat : ([(.ref o_W), (.ref o_E), (.ref o_SW), (.ref o_SE), (.ref o_NW), (.ref o_NE)] : List Value).getD od.toNatClampNeg .null = .ref op) :
    MetFree l (⟨"com/example/rulewright/rulewright/games/skorm/Piece", "guards", "(Lcom/example/rulewright/rulewright/games/skorm/Direction;)Z"⟩ : MethodName) (head1 (Jvm.Cond.code (⟨"com/example/rulewright/rulewright/games/skorm/Piece", "guards", "(Lcom/example/rulewright/rulewright/games/skorm/Direction;)Z"⟩ : MethodName) prog_10_method_2_code 2 (some .boolean) :: ws) ({ frames := 2, cells := 0, slots := 0, locals := 26 } : Room)) (fun a U => a = #[(.ref a1), (.ref d1)] ∧ Z.Warmed39 U.vm ∧ U.heap = h0) (fun _ _ _ _ _ => True) (fun _ U o U' => ∃ v L, o = .returned v ∧ Q6r Z o_SHIELDMAN o_NW o_NE o_OPPOSITES ko_OPPOSITES o_SW o_SE o_W o_E o_HORSEMAN o_ARCHER o_WARLORD a1 d1 fa od op h0 n0 v U'.heap L ∧ FrameEnd U o U' L ({ frames := 2, cells := 0, slots := 0, locals := 26 } : Room).cells ({ frames := 2, cells := 0, slots := 0, locals := 26 } : Room).slots) := by
  refine MetFree.of_bodySF (plainFor_of_name pn_6r) hisR ?_
  intro p e s m args below meth c s₁ Bd hml0 hP hK
  obtain ⟨rfl, hZ, hh⟩ := hP
  have hx := Bd.exec
  have hby := Bd.bytes
  have hml : c.maxLocals = 2 := hml0
  have hown : s.vm.findClass "com/example/rulewright/rulewright/games/skorm/Piece" = some m.cls := findClass_of_methodNamed Bd.named
  have hnm := (name_of_methodNamed Bd.named Bd.method).1
  have hlk : meth.locks = false := BodyLoose.notSynchronized Bd
  have hrt := Bd.returns
  have X0 : Stand p l e ({ frames := 2, cells := 0, slots := 0, locals := 26 } : Room) s m #[(.ref a1), (.ref d1)] below meth c s₁ [] 0 0 := Stand.of_body Bd
  have e0 : s₁.heap = h0 := by rw [← hh, Bd.state]; rfl
  have N0 := Fr.nil n0
  show own_Fin p.tables e below (own_post (Q6r Z o_SHIELDMAN o_NW o_NE o_OPPOSITES ko_OPPOSITES o_SW o_SE o_W o_E o_HORSEMAN o_ARCHER o_WARLORD a1 d1 fa od op h0 n0) s ({ frames := 2, cells := 0, slots := 0, locals := 26 } : Room).cells ({ frames := 2, cells := 0, slots := 0, locals := 26 } : Room).slots) (s₁.setTop (entryFrame m #[(.ref a1), (.ref d1)] 2))
  refine own_Fin.step (fun t k => castTop (ef_6r m a1 d1) k) ?_
  have lt_P0 : @LT.lt Nat _ a1 (Array.size h0) := P0.lt
  have lt_P1 : @LT.lt Nat _ d1 (Array.size h0) := P1.lt
  have lt_P2 : @LT.lt Nat _ d1 (Array.size h0) := P2.lt
  refine own_Fin.step (S' := s₁.setTop (mkF m 1 #[.val (.ref a1), .val (.ref d1)] [(.ref a1)])) (fun t k => XS.aloadN X0.here hx rfl (hb hby d6_0) rfl rfl  k) ?_
  obtain ⟨T64, X64, e64, st64⟩ := getF X0 hx hZ hown (host := "") (Or.inl (hw _ (List.mem_of_getElem? (i := 30) rfl))) Via.refl e0 P0 (g := (mkF m 1 #[.val (.ref a1), .val (.ref d1)] [(.ref a1)])) rfl rfl (hb hby d6_1)
  refine own_Fin.step (S' := T64.setTop (mkF m 4 #[.val (.ref a1), .val (.ref d1)] [(.ref fa)])) st64 ?_
  refine own_Fin.step (S' := T64.setTop (mkF m 5 #[.val (.ref a1), .val (.ref d1)] [(.ref d1), (.ref fa)])) (fun t k => XS.aloadN X64.here hx rfl (hb hby d6_4) rfl rfl  k) ?_
  obtain ⟨cq65, kq65, q65a, q65b, q65c⟩ := isOf hZ e64 P1
  obtain ⟨_, _, ⟨T65, L65, k65, n65⟩, -, X65, ⟨Lc65, hQ65, l65, y65, zz65⟩, st65⟩ := X64.virtualBack hx (y := (⟨"com/example/rulewright/rulewright/games/skorm/Direction", "opposite", "()Lcom/example/rulewright/rulewright/games/skorm/Direction;"⟩ : MethodName)) (z := (⟨"com/example/rulewright/rulewright/games/skorm/Direction", "opposite", "()Lcom/example/rulewright/rulewright/games/skorm/Direction;"⟩ : MethodName)) hown (mvT hZ (hw _ (List.mem_of_getElem? (i := 42) rfl))) (mvT hZ (hw _ (List.mem_of_getElem? (i := 43) rfl))) (notFace_of_selects (args := #[]) (mvT hZ (hw _ (List.mem_of_getElem? (i := 45) rfl)))) (mvT hZ (hw _ (List.mem_of_getElem? (i := 45) rfl))) (mvT hZ (hw _ (List.mem_of_getElem? (i := 44) rfl))) (by decide) (backOf (W := 1) (rm7 l Z a0 hw [] o_SHIELDMAN o_NW o_NE o_OPPOSITES ko_OPPOSITES o_SW o_SE o_W o_E o_HORSEMAN o_ARCHER o_WARLORD d1 od op h0 n0 (by omega) OLD A P1 P2 (by first | assumption | decide | omega) (by first | assumption | decide | omega)) hZ (hw _ (List.mem_of_getElem? (i := 46) rfl)) (hw _ (List.mem_of_getElem? (i := 13) rfl)) (by decide) (by decide)) q65a q65c (g := (mkF m 5 #[.val (.ref a1), .val (.ref d1)] [(.ref d1), (.ref fa)])) rfl (by rw [hml]; rfl) (Steps.refl _) (argsL := []) (rest := [(.ref fa)]) (lenOf pd_6r_0 rfl) rfl (by show 2 * 0 + _ ≤ _; exact Nat.le_of_eq rfl) (hb hby d6_5) (fun _ _ => ⟨rfl, e64, (by decide : 0 + 0 ≤ _), (by decide : 0 + 0 ≤ _)⟩)
  dsimp only [Pt.U, Pt.locs, Pt.cells, Pt.slots] at X65 l65 y65 zz65 st65 hQ65
  subst l65 y65 zz65
  obtain ⟨rfl, N65q, e65⟩ := hQ65
  have N65 := Fr.app N0 N65q
  refine own_Fin.trans (S' := T65.setTop (mkF m 8 #[.val (.ref a1), .val (.ref d1)] [(.ref op), (.ref fa)])) st65 ?_
  by_cases ha8 : fa = op
  · refine own_Fin.step (S' := T65.setTop (mkF m 11 #[.val (.ref a1), .val (.ref d1)] [])) (fun t k => Jvm.RoadKit.acmp (g := (mkF m 8 #[.val (.ref a1), .val (.ref d1)] [(.ref op), (.ref fa)])) X65 hx rfl rfl rfl (pc0 := 8) (pc' := 11) (same := true) rfl (hb hby d6_8) rfl (decide_eq_true (congrArg Value.ref ha8)) (by decide) (by decide) k) ?_
    refine own_Fin.step (S' := T65.setTop (mkF m 12 #[.val (.ref a1), .val (.ref d1)] [(.int (1 : Int32))])) (fun t k => XS.iconst X65.here hx rfl (hb hby d6_11) k) ?_
    refine own_Fin.step (S' := T65.setTop (mkF m 16 #[.val (.ref a1), .val (.ref d1)] [(.int (1 : Int32))])) (fun t k => XS.goto X65.here hx rfl (pc0 := 12) (pc' := 16) rfl (hb hby d6_12) (by decide) (by decide) k) ?_
    have hq66 : Q6r Z o_SHIELDMAN o_NW o_NE o_OPPOSITES ko_OPPOSITES o_SW o_SE o_W o_E o_HORSEMAN o_ARCHER o_WARLORD a1 d1 fa od op h0 n0 (some (.int (nar .boolean (1 : Int32)))) h0 _ := ⟨Or.inl ⟨rfl, ha8⟩, N65, rfl⟩
    exact own_retN X65 hx hlk (t := .boolean) hrt (by simp) (hb hby d6_16) e65 hq66 (by decide) (by decide)
  · refine own_Fin.step (S' := T65.setTop (mkF m 15 #[.val (.ref a1), .val (.ref d1)] [])) (fun t k => Jvm.RoadKit.acmp (g := (mkF m 8 #[.val (.ref a1), .val (.ref d1)] [(.ref op), (.ref fa)])) X65 hx rfl rfl rfl (pc0 := 8) (pc' := 15) (same := false) rfl (hb hby d6_8) rfl (decide_eq_false fun q => ha8 (Value.ref.inj q)) (by decide) (by decide) k) ?_
    refine own_Fin.step (S' := T65.setTop (mkF m 16 #[.val (.ref a1), .val (.ref d1)] [(.int (0 : Int32))])) (fun t k => XS.iconst X65.here hx rfl (hb hby d6_15) k) ?_
    have hq67 : Q6r Z o_SHIELDMAN o_NW o_NE o_OPPOSITES ko_OPPOSITES o_SW o_SE o_W o_E o_HORSEMAN o_ARCHER o_WARLORD a1 d1 fa od op h0 n0 (some (.int (nar .boolean (0 : Int32)))) h0 _ := ⟨Or.inr ⟨rfl, ha8⟩, N65, rfl⟩
    exact own_retN X65 hx hlk (t := .boolean) hrt (by simp) (hb hby d6_16) e65 hq67 (by decide) (by decide)
theorem pn_6n : plainName "com/example/rulewright/rulewright/games/skorm/Piece" = true := by first | (simp [plainName, overriddenIn]; done) | decide +kernel
theorem pd_6n_0 : parseMethodDescriptor "()Lcom/example/rulewright/rulewright/games/skorm/Direction;" = some ⟨[], some (.object "com/example/rulewright/rulewright/games/skorm/Direction")⟩ := by decide +kernel
theorem ef_6n (m : MethodId) (x0 : Addr) (x1 : Addr) : entryFrame m #[(.ref x0), (.ref x1)] 2 = mkF m 0 #[.val (.ref x0), .val (.ref x1)] [] := by first | (simp [entryFrame, mkF, argsToLocals, Value.category]; done) | rfl
def Q6n (Z : State) (o_SHIELDMAN : Addr) (o_NW : Addr) (o_NE : Addr) (o_OPPOSITES : Addr) (ko_OPPOSITES : ClassId) (o_SW : Addr) (o_SE : Addr) (o_W : Addr) (o_E : Addr) (o_HORSEMAN : Addr) (o_ARCHER : Addr) (o_WARLORD : Addr) (a1 : Addr) (d1 : Addr) (od : Int32) (op : Addr) (h0 : Heap) (n0 : Nat) (v : Option Value) (h : Heap) (L : List Loc) : Prop := v = some (.int (0 : Int32)) ∧ Fr n0 L ∧ h = h0
set_option maxRecDepth 65536 in
set_option maxHeartbeats 40000000 in
theorem rm6n (l : Launch) (Z : State) (a0 : Array Value) (hw : ∀ d ∈ tables_1, d.before a0 Z = true) (ws : List Jvm.Cond) (o_SHIELDMAN : Addr) (o_NW : Addr) (o_NE : Addr) (o_OPPOSITES : Addr) (ko_OPPOSITES : ClassId) (o_SW : Addr) (o_SE : Addr) (o_W : Addr) (o_E : Addr) (o_HORSEMAN : Addr) (o_ARCHER : Addr) (o_WARLORD : Addr) (a1 : Addr) (d1 : Addr) (od : Int32) (op : Addr) (h0 : Heap) (n0 : Nat) (Z0 : n0 ≤ h0.size) (OLD : Old Z n0 h0) (A : Amb Z o_SHIELDMAN o_NW o_NE o_OPPOSITES ko_OPPOSITES o_SW o_SE o_W o_E o_HORSEMAN o_ARCHER o_WARLORD) (P0 : Fld Z h0 a1 "com/example/rulewright/rulewright/games/skorm/Piece" "facing" "Lcom/example/rulewright/rulewright/games/skorm/Direction;" .null) (P1 : Exa Z h0 d1 "com/example/rulewright/rulewright/games/skorm/Direction") (P2 : Fld Z h0 d1 "java/lang/Enum" "ordinal" "I" (.int od)) (hin : ¬ od < 0 ∧ od < 6) (hat : ([(.ref o_W), (.ref o_E), (.ref o_SW), (.ref o_SE), (.ref o_NW), (.ref o_NE)] : List Value).getD od.toNatClampNeg .null = .ref op) :
    MetFree l (⟨"com/example/rulewright/rulewright/games/skorm/Piece", "guards", "(Lcom/example/rulewright/rulewright/games/skorm/Direction;)Z"⟩ : MethodName) (head1 (Jvm.Cond.code (⟨"com/example/rulewright/rulewright/games/skorm/Piece", "guards", "(Lcom/example/rulewright/rulewright/games/skorm/Direction;)Z"⟩ : MethodName) prog_10_method_2_code 2 (some .boolean) :: ws) ({ frames := 2, cells := 0, slots := 0, locals := 26 } : Room)) (fun a U => a = #[(.ref a1), (.ref d1)] ∧ Z.Warmed39 U.vm ∧ U.heap = h0) (fun _ _ _ _ _ => True) (fun _ U o U' => ∃ v L, o = .returned v ∧ Q6n Z o_SHIELDMAN o_NW o_NE o_OPPOSITES ko_OPPOSITES o_SW o_SE o_W o_E o_HORSEMAN o_ARCHER o_WARLORD a1 d1 od op h0 n0 v U'.heap L ∧ FrameEnd U o U' L ({ frames := 2, cells := 0, slots := 0, locals := 26 } : Room).cells ({ frames := 2, cells := 0, slots := 0, locals := 26 } : Room).slots) := by
  refine MetFree.of_bodySF (plainFor_of_name pn_6n) hisR ?_
  intro p e s m args below meth c s₁ Bd hml0 hP hK
  obtain ⟨rfl, hZ, hh⟩ := hP
  have hx := Bd.exec
  have hby := Bd.bytes
  have hml : c.maxLocals = 2 := hml0
  have hown : s.vm.findClass "com/example/rulewright/rulewright/games/skorm/Piece" = some m.cls := findClass_of_methodNamed Bd.named
  have hnm := (name_of_methodNamed Bd.named Bd.method).1
  have hlk : meth.locks = false := BodyLoose.notSynchronized Bd
  have hrt := Bd.returns
  have X0 : Stand p l e ({ frames := 2, cells := 0, slots := 0, locals := 26 } : Room) s m #[(.ref a1), (.ref d1)] below meth c s₁ [] 0 0 := Stand.of_body Bd
  have e0 : s₁.heap = h0 := by rw [← hh, Bd.state]; rfl
  have N0 := Fr.nil n0
  show own_Fin p.tables e below (own_post (Q6n Z o_SHIELDMAN o_NW o_NE o_OPPOSITES ko_OPPOSITES o_SW o_SE o_W o_E o_HORSEMAN o_ARCHER o_WARLORD a1 d1 od op h0 n0) s ({ frames := 2, cells := 0, slots := 0, locals := 26 } : Room).cells ({ frames := 2, cells := 0, slots := 0, locals := 26 } : Room).slots) (s₁.setTop (entryFrame m #[(.ref a1), (.ref d1)] 2))
  refine own_Fin.step (fun t k => castTop (ef_6n m a1 d1) k) ?_
  have lt_P0 : @LT.lt Nat _ a1 (Array.size h0) := P0.lt
  have lt_P1 : @LT.lt Nat _ d1 (Array.size h0) := P1.lt
  have lt_P2 : @LT.lt Nat _ d1 (Array.size h0) := P2.lt
  refine own_Fin.step (S' := s₁.setTop (mkF m 1 #[.val (.ref a1), .val (.ref d1)] [(.ref a1)])) (fun t k => XS.aloadN X0.here hx rfl (hb hby d6_0) rfl rfl  k) ?_
  obtain ⟨T68, X68, e68, st68⟩ := getF X0 hx hZ hown (host := "") (Or.inl (hw _ (List.mem_of_getElem? (i := 30) rfl))) Via.refl e0 P0 (g := (mkF m 1 #[.val (.ref a1), .val (.ref d1)] [(.ref a1)])) rfl rfl (hb hby d6_1)
  refine own_Fin.step (S' := T68.setTop (mkF m 4 #[.val (.ref a1), .val (.ref d1)] [.null])) st68 ?_
  refine own_Fin.step (S' := T68.setTop (mkF m 5 #[.val (.ref a1), .val (.ref d1)] [(.ref d1), .null])) (fun t k => XS.aloadN X68.here hx rfl (hb hby d6_4) rfl rfl  k) ?_
  obtain ⟨cq69, kq69, q69a, q69b, q69c⟩ := isOf hZ e68 P1
  obtain ⟨_, _, ⟨T69, L69, k69, n69⟩, -, X69, ⟨Lc69, hQ69, l69, y69, zz69⟩, st69⟩ := X68.virtualBack hx (y := (⟨"com/example/rulewright/rulewright/games/skorm/Direction", "opposite", "()Lcom/example/rulewright/rulewright/games/skorm/Direction;"⟩ : MethodName)) (z := (⟨"com/example/rulewright/rulewright/games/skorm/Direction", "opposite", "()Lcom/example/rulewright/rulewright/games/skorm/Direction;"⟩ : MethodName)) hown (mvT hZ (hw _ (List.mem_of_getElem? (i := 42) rfl))) (mvT hZ (hw _ (List.mem_of_getElem? (i := 43) rfl))) (notFace_of_selects (args := #[]) (mvT hZ (hw _ (List.mem_of_getElem? (i := 45) rfl)))) (mvT hZ (hw _ (List.mem_of_getElem? (i := 45) rfl))) (mvT hZ (hw _ (List.mem_of_getElem? (i := 44) rfl))) (by decide) (backOf (W := 1) (rm7 l Z a0 hw [] o_SHIELDMAN o_NW o_NE o_OPPOSITES ko_OPPOSITES o_SW o_SE o_W o_E o_HORSEMAN o_ARCHER o_WARLORD d1 od op h0 n0 (by omega) OLD A P1 P2 (by first | assumption | decide | omega) (by first | assumption | decide | omega)) hZ (hw _ (List.mem_of_getElem? (i := 46) rfl)) (hw _ (List.mem_of_getElem? (i := 13) rfl)) (by decide) (by decide)) q69a q69c (g := (mkF m 5 #[.val (.ref a1), .val (.ref d1)] [(.ref d1), .null])) rfl (by rw [hml]; rfl) (Steps.refl _) (argsL := []) (rest := [.null]) (lenOf pd_6n_0 rfl) rfl (by show 2 * 0 + _ ≤ _; exact Nat.le_of_eq rfl) (hb hby d6_5) (fun _ _ => ⟨rfl, e68, (by decide : 0 + 0 ≤ _), (by decide : 0 + 0 ≤ _)⟩)
  dsimp only [Pt.U, Pt.locs, Pt.cells, Pt.slots] at X69 l69 y69 zz69 st69 hQ69
  subst l69 y69 zz69
  obtain ⟨rfl, N69q, e69⟩ := hQ69
  have N69 := Fr.app N0 N69q
  refine own_Fin.trans (S' := T69.setTop (mkF m 8 #[.val (.ref a1), .val (.ref d1)] [(.ref op), .null])) st69 ?_
  refine own_Fin.step (S' := T69.setTop (mkF m 15 #[.val (.ref a1), .val (.ref d1)] [])) (fun t k => Jvm.RoadKit.acmp (g := (mkF m 8 #[.val (.ref a1), .val (.ref d1)] [(.ref op), .null])) X69 hx rfl rfl rfl (pc0 := 8) (pc' := 15) (same := false) rfl (hb hby d6_8) rfl (decide_eq_false nofun) (by decide) (by decide) k) ?_
  refine own_Fin.step (S' := T69.setTop (mkF m 16 #[.val (.ref a1), .val (.ref d1)] [(.int (0 : Int32))])) (fun t k => XS.iconst X69.here hx rfl (hb hby d6_15) k) ?_
  have hq70 : Q6n Z o_SHIELDMAN o_NW o_NE o_OPPOSITES ko_OPPOSITES o_SW o_SE o_W o_E o_HORSEMAN o_ARCHER o_WARLORD a1 d1 od op h0 n0 (some (.int (nar .boolean (0 : Int32)))) h0 _ := ⟨rfl, N69, rfl⟩
  exact own_retN X69 hx hlk (t := .boolean) hrt (by simp) (hb hby d6_16) e69 hq70 (by decide) (by decide)

theorem own_ord_in (i : Int32) : ¬ own_ordI i < 0 ∧ own_ordI i < 6 := by
  unfold own_ordI; repeat' split
  all_goals decide
theorem own_hat (dE dW dNE dNW dSE dSW : Addr) {i : Int32} (h : i = 0 ∨ i = 1 ∨ i = 2 ∨ i = 3 ∨ i = 4 ∨ i = 5) : ([(.ref dW), (.ref dE), (.ref dSW), (.ref dSE), (.ref dNW), (.ref dNE)] : List Value).getD (own_ordI i).toNatClampNeg .null = .ref (own_dirA dE dW dNE dNW dSE dSW (own_opp i)) := by
  rcases h with rfl | rfl | rfl | rfl | rfl | rfl <;> rfl
theorem own_six {v : Int32} (h : 0 ≤ v.toInt ∧ v.toInt < 6) : v = 0 ∨ v = 1 ∨ v = 2 ∨ v = 3 ∨ v = 4 ∨ v = 5 := by
  have key : ∀ n : Int32, v.toInt = n.toInt → v = n := fun n h => Int32.toInt_inj.mp h
  have : v.toInt = 0 ∨ v.toInt = 1 ∨ v.toInt = 2 ∨ v.toInt = 3 ∨ v.toInt = 4 ∨ v.toInt = 5 := by omega
  rcases this with h | h | h | h | h | h
  · exact Or.inl (key 0 h)
  · exact Or.inr (Or.inl (key 1 h))
  · exact Or.inr (Or.inr (Or.inl (key 2 h)))
  · exact Or.inr (Or.inr (Or.inr (Or.inl (key 3 h))))
  · exact Or.inr (Or.inr (Or.inr (Or.inr (Or.inl (key 4 h)))))
  · exact Or.inr (Or.inr (Or.inr (Or.inr (Or.inr (key 5 h)))))
theorem own_opp6 {i : Int32} (h : i = 0 ∨ i = 1 ∨ i = 2 ∨ i = 3 ∨ i = 4 ∨ i = 5) : own_opp i = 0 ∨ own_opp i = 1 ∨ own_opp i = 2 ∨ own_opp i = 3 ∨ own_opp i = 4 ∨ own_opp i = 5 := by
  rcases h with rfl | rfl | rfl | rfl | rfl | rfl <;> decide
theorem own_ordF {Z : State} {o_SHIELDMAN : Addr} {o_NW : Addr} {o_NE : Addr} {o_OPPOSITES : Addr} {ko_OPPOSITES : ClassId} {o_SW : Addr} {o_SE : Addr} {o_W : Addr} {o_E : Addr} {o_HORSEMAN : Addr} {o_ARCHER : Addr} {o_WARLORD : Addr} (A : Amb Z o_SHIELDMAN o_NW o_NE o_OPPOSITES ko_OPPOSITES o_SW o_SE o_W o_E o_HORSEMAN o_ARCHER o_WARLORD) (i : Int32) : Fld Z Z.heap (own_dirA o_E o_W o_NE o_NW o_SE o_SW i) "java/lang/Enum" "ordinal" "I" (.int (own_ordI i)) := by
  unfold own_dirA own_ordI; repeat' split
  · exact Amb.a26 A
  · exact Amb.a25 A
  · exact Amb.a21 A
  · exact Amb.a22 A
  · exact Amb.a24 A
  · exact Amb.a23 A
theorem own_dirE {Z : State} {o_SHIELDMAN : Addr} {o_NW : Addr} {o_NE : Addr} {o_OPPOSITES : Addr} {ko_OPPOSITES : ClassId} {o_SW : Addr} {o_SE : Addr} {o_W : Addr} {o_E : Addr} {o_HORSEMAN : Addr} {o_ARCHER : Addr} {o_WARLORD : Addr} (A : Amb Z o_SHIELDMAN o_NW o_NE o_OPPOSITES ko_OPPOSITES o_SW o_SE o_W o_E o_HORSEMAN o_ARCHER o_WARLORD) (i : Int32) : Exa Z Z.heap (own_dirA o_E o_W o_NE o_NW o_SE o_SW i) "com/example/rulewright/rulewright/games/skorm/Direction" := by
  unfold own_dirA; repeat' split
  · exact Amb.a14 A
  · exact Amb.a12 A
  · exact Amb.a5 A
  · exact Amb.a3 A
  · exact Amb.a10 A
  · exact Amb.a8 A
theorem own_inj {Z : State} {o_SHIELDMAN : Addr} {o_NW : Addr} {o_NE : Addr} {o_OPPOSITES : Addr} {ko_OPPOSITES : ClassId} {o_SW : Addr} {o_SE : Addr} {o_W : Addr} {o_E : Addr} {o_HORSEMAN : Addr} {o_ARCHER : Addr} {o_WARLORD : Addr} (A : Amb Z o_SHIELDMAN o_NW o_NE o_OPPOSITES ko_OPPOSITES o_SW o_SE o_W o_E o_HORSEMAN o_ARCHER o_WARLORD) {i j : Int32} (hi : i = 0 ∨ i = 1 ∨ i = 2 ∨ i = 3 ∨ i = 4 ∨ i = 5) (hj : j = 0 ∨ j = 1 ∨ j = 2 ∨ j = 3 ∨ j = 4 ∨ j = 5) (h : own_dirA o_E o_W o_NE o_NW o_SE o_SW i = own_dirA o_E o_W o_NE o_NW o_SE o_SW j) : i = j := by
  refine Classical.byContradiction fun hne => ?_
  refine Fld.ne (own_ordF A i) (own_ordF A j) ?_ h
  intro q
  have q' := Value.int.inj q
  rcases hi with rfl | rfl | rfl | rfl | rfl | rfl <;> rcases hj with rfl | rfl | rfl | rfl | rfl | rfl <;> first | exact hne rfl | exact absurd q' (by decide)

theorem pn_0 : plainName "com/example/rulewright/rulewright/games/skorm/PieceGuardsPinLaw" = true := by first | (simp [plainName, overriddenIn]; done) | decide +kernel
theorem pd_0_0 : parseMethodDescriptor "(I)Lcom/example/rulewright/rulewright/games/skorm/PieceType;" = some ⟨[.int], some (.object "com/example/rulewright/rulewright/games/skorm/PieceType")⟩ := by decide +kernel
theorem pd_0_1 : parseMethodDescriptor "(ILcom/example/rulewright/rulewright/games/skorm/PieceType;Lcom/example/rulewright/rulewright/games/skorm/Direction;)V" = some ⟨[.int, (.object "com/example/rulewright/rulewright/games/skorm/PieceType"), (.object "com/example/rulewright/rulewright/games/skorm/Direction")], none⟩ := by decide +kernel
theorem pd_0_2 : parseMethodDescriptor "(I)Lcom/example/rulewright/rulewright/games/skorm/Direction;" = some ⟨[.int], some (.object "com/example/rulewright/rulewright/games/skorm/Direction")⟩ := by decide +kernel
theorem pd_0_3 : parseMethodDescriptor "(Lcom/example/rulewright/rulewright/games/skorm/Direction;)Z" = some ⟨[(.object "com/example/rulewright/rulewright/games/skorm/Direction")], some .boolean⟩ := by decide +kernel
theorem pd_0_4 : parseMethodDescriptor "(I)I" = some ⟨[.int], some .int⟩ := by decide +kernel
theorem ef_0 (m : MethodId) (x0 : Int32) (x1 : Int32) (x2 : Int32) (x3 : Int32) : entryFrame m #[(.int x0), (.int x1), (.int x2), (.int x3)] maxLocals = mkF m 0 #[.val (.int x0), .val (.int x1), .val (.int x2), .val (.int x3), .unset, .unset, .unset, .unset, .unset, .unset] [] := by first | (simp [entryFrame, mkF, argsToLocals, Value.category, maxLocals]; done) | rfl
def Q0 (Z : State) (o_SHIELDMAN : Addr) (o_NW : Addr) (o_NE : Addr) (o_OPPOSITES : Addr) (ko_OPPOSITES : ClassId) (o_SW : Addr) (o_SE : Addr) (o_W : Addr) (o_E : Addr) (o_HORSEMAN : Addr) (o_ARCHER : Addr) (o_WARLORD : Addr) (i0 : Int32) (i1 : Int32) (i2 : Int32) (i3 : Int32) (h0 : Heap) (n0 : Nat) (v : Option Value) (h : Heap) (L : List Loc) : Prop := v = some (.int (1 : Int32)) ∧ Fr n0 L
set_option maxRecDepth 65536 in
set_option maxHeartbeats 40000000 in
theorem rm0 (l : Launch) (Z : State) (a0 : Array Value) (hw : ∀ d ∈ tables_1, d.before a0 Z = true) (ws : List Jvm.Cond) (o_SHIELDMAN : Addr) (o_NW : Addr) (o_NE : Addr) (o_OPPOSITES : Addr) (ko_OPPOSITES : ClassId) (o_SW : Addr) (o_SE : Addr) (o_W : Addr) (o_E : Addr) (o_HORSEMAN : Addr) (o_ARCHER : Addr) (o_WARLORD : Addr) (i0 : Int32) (i1 : Int32) (i2 : Int32) (i3 : Int32) (h0 : Heap) (n0 : Nat) (Z0 : n0 ≤ h0.size) (OLD : Old Z n0 h0) (A : Amb Z o_SHIELDMAN o_NW o_NE o_OPPOSITES ko_OPPOSITES o_SW o_SE o_W o_E o_HORSEMAN o_ARCHER o_WARLORD) :
    MetFree l x (head1 (Jvm.Cond.code x code maxLocals ret :: ws) room_1) (fun a U => a = #[(.int i0), (.int i1), (.int i2), (.int i3)] ∧ Z.Warmed39 U.vm ∧ U.heap = h0) (fun _ _ _ _ _ => True) (fun _ U o U' => ∃ v L, o = .returned v ∧ Q0 Z o_SHIELDMAN o_NW o_NE o_OPPOSITES ko_OPPOSITES o_SW o_SE o_W o_E o_HORSEMAN o_ARCHER o_WARLORD i0 i1 i2 i3 h0 n0 v U'.heap L ∧ FrameEnd U o U' L 16 128) := by
  refine MetFree.of_bodySF (plainFor_of_name pn_0) hisR ?_
  intro p e s m args below meth c s₁ Bd hml0 hP hK
  obtain ⟨rfl, hZ, hh⟩ := hP
  have hx := Bd.exec
  have hby := Bd.bytes
  have hml : c.maxLocals = 10 := hml0
  have hown : s.vm.findClass "com/example/rulewright/rulewright/games/skorm/PieceGuardsPinLaw" = some m.cls := findClass_of_methodNamed Bd.named
  have hnm := (name_of_methodNamed Bd.named Bd.method).1
  have hlk : meth.locks = false := BodyLoose.notSynchronized Bd
  have hrt := Bd.returns
  have X0 : Stand p l e room_1 s m #[(.int i0), (.int i1), (.int i2), (.int i3)] below meth c s₁ [] 0 0 := Stand.of_body Bd
  have e0 : s₁.heap = h0 := by rw [← hh, Bd.state]; rfl
  have N0 := Fr.nil n0
  show own_Fin p.tables e below (own_post (Q0 Z o_SHIELDMAN o_NW o_NE o_OPPOSITES ko_OPPOSITES o_SW o_SE o_W o_E o_HORSEMAN o_ARCHER o_WARLORD i0 i1 i2 i3 h0 n0) s 16 128) (s₁.setTop (entryFrame m #[(.int i0), (.int i1), (.int i2), (.int i3)] maxLocals))
  refine own_Fin.step (fun t k => castTop (ef_0 m i0 i1 i2 i3) k) ?_
  refine own_Fin.step (S' := s₁.setTop (mkF m 1 #[.val (.int i0), .val (.int i1), .val (.int i2), .val (.int i3), .unset, .unset, .unset, .unset, .unset, .unset] [(.int i1)])) (fun t k => XS.iloadN X0.here hx rfl (hb hby at_0) rfl  k) ?_
  refine own_Fin.step (S' := s₁.setTop (mkF m 3 #[.val (.int i0), .val (.int i1), .val (.int i2), .val (.int i3), .unset, .unset, .unset, .unset, .unset, .unset] [(.int (2147483647 : Int32)), (.int i1)])) (X0.ldcInt hx hown (mvT hZ (hw _ (List.mem_of_getElem? (i := 0) rfl))) (g := (mkF m 1 #[.val (.int i0), .val (.int i1), .val (.int i2), .val (.int i3), .unset, .unset, .unset, .unset, .unset, .unset] [(.int i1)])) rfl (hb hby at_1)) ?_
  refine own_Fin.step (S' := s₁.setTop (mkF m 4 #[.val (.int i0), .val (.int i1), .val (.int i2), .val (.int i3), .unset, .unset, .unset, .unset, .unset, .unset] [(.int (i1 &&& (2147483647 : Int32)))])) (fun t k => XS.iand X0.here hx rfl (hb hby at_3) rfl k) ?_
  refine own_Fin.step (S' := s₁.setTop (mkF m 6 #[.val (.int i0), .val (.int i1), .val (.int i2), .val (.int i3), .unset, .unset, .unset, .unset, .unset, .unset] [(.int (7 : Int32)), (.int (i1 &&& (2147483647 : Int32)))])) (fun t k => XS.bipush X0.here hx rfl (hb hby at_4) k) ?_
  refine own_Fin.step (S' := s₁.setTop (mkF m 7 #[.val (.int i0), .val (.int i1), .val (.int i2), .val (.int i3), .unset, .unset, .unset, .unset, .unset, .unset] [(.int ((i1 &&& (2147483647 : Int32)) - ((i1 &&& (2147483647 : Int32)) / (7 : Int32)) * (7 : Int32)))])) (fun t k => XS.irem X0.here hx rfl (hb hby at_6) rfl (by decide) k) ?_
  obtain ⟨v7, hv7⟩ : ∃ z : Int32, z = ((i1 &&& (2147483647 : Int32)) - ((i1 &&& (2147483647 : Int32)) / (7 : Int32)) * (7 : Int32)) := ⟨_, rfl⟩
  rw [← hv7]
  refine own_Fin.step (S' := s₁.setTop (mkF m 9 #[.val (.int i0), .val (.int i1), .val (.int i2), .val (.int i3), .val (.int v7), .unset, .unset, .unset, .unset, .unset] [])) (fun t k => XS.istore X0.here hx rfl (hb hby at_7) rfl (l' := #[.val (.int i0), .val (.int i1), .val (.int i2), .val (.int i3), .val (.int v7), .unset, .unset, .unset, .unset, .unset]) rfl k) ?_
  refine own_Fin.step (S' := s₁.setTop (mkF m 10 #[.val (.int i0), .val (.int i1), .val (.int i2), .val (.int i3), .val (.int v7), .unset, .unset, .unset, .unset, .unset] [(.int i2)])) (fun t k => XS.iloadN X0.here hx rfl (hb hby at_9) rfl  k) ?_
  refine own_Fin.step (S' := s₁.setTop (mkF m 12 #[.val (.int i0), .val (.int i1), .val (.int i2), .val (.int i3), .val (.int v7), .unset, .unset, .unset, .unset, .unset] [(.int (2147483647 : Int32)), (.int i2)])) (X0.ldcInt hx hown (mvT hZ (hw _ (List.mem_of_getElem? (i := 0) rfl))) (g := (mkF m 10 #[.val (.int i0), .val (.int i1), .val (.int i2), .val (.int i3), .val (.int v7), .unset, .unset, .unset, .unset, .unset] [(.int i2)])) rfl (hb hby at_10)) ?_
  refine own_Fin.step (S' := s₁.setTop (mkF m 13 #[.val (.int i0), .val (.int i1), .val (.int i2), .val (.int i3), .val (.int v7), .unset, .unset, .unset, .unset, .unset] [(.int (i2 &&& (2147483647 : Int32)))])) (fun t k => XS.iand X0.here hx rfl (hb hby at_12) rfl k) ?_
  refine own_Fin.step (S' := s₁.setTop (mkF m 15 #[.val (.int i0), .val (.int i1), .val (.int i2), .val (.int i3), .val (.int v7), .unset, .unset, .unset, .unset, .unset] [(.int (6 : Int32)), (.int (i2 &&& (2147483647 : Int32)))])) (fun t k => XS.bipush X0.here hx rfl (hb hby at_13) k) ?_
  refine own_Fin.step (S' := s₁.setTop (mkF m 16 #[.val (.int i0), .val (.int i1), .val (.int i2), .val (.int i3), .val (.int v7), .unset, .unset, .unset, .unset, .unset] [(.int ((i2 &&& (2147483647 : Int32)) - ((i2 &&& (2147483647 : Int32)) / (6 : Int32)) * (6 : Int32)))])) (fun t k => XS.irem X0.here hx rfl (hb hby at_15) rfl (by decide) k) ?_
  obtain ⟨v16, hv16⟩ : ∃ z : Int32, z = ((i2 &&& (2147483647 : Int32)) - ((i2 &&& (2147483647 : Int32)) / (6 : Int32)) * (6 : Int32)) := ⟨_, rfl⟩
  rw [← hv16]
  refine own_Fin.step (S' := s₁.setTop (mkF m 18 #[.val (.int i0), .val (.int i1), .val (.int i2), .val (.int i3), .val (.int v7), .val (.int v16), .unset, .unset, .unset, .unset] [])) (fun t k => XS.istore X0.here hx rfl (hb hby at_16) rfl (l' := #[.val (.int i0), .val (.int i1), .val (.int i2), .val (.int i3), .val (.int v7), .val (.int v16), .unset, .unset, .unset, .unset]) rfl k) ?_
  refine own_Fin.step (S' := s₁.setTop (mkF m 19 #[.val (.int i0), .val (.int i1), .val (.int i2), .val (.int i3), .val (.int v7), .val (.int v16), .unset, .unset, .unset, .unset] [(.int i3)])) (fun t k => XS.iloadN X0.here hx rfl (hb hby at_18) rfl  k) ?_
  refine own_Fin.step (S' := s₁.setTop (mkF m 21 #[.val (.int i0), .val (.int i1), .val (.int i2), .val (.int i3), .val (.int v7), .val (.int v16), .unset, .unset, .unset, .unset] [(.int (2147483647 : Int32)), (.int i3)])) (X0.ldcInt hx hown (mvT hZ (hw _ (List.mem_of_getElem? (i := 0) rfl))) (g := (mkF m 19 #[.val (.int i0), .val (.int i1), .val (.int i2), .val (.int i3), .val (.int v7), .val (.int v16), .unset, .unset, .unset, .unset] [(.int i3)])) rfl (hb hby at_19)) ?_
  refine own_Fin.step (S' := s₁.setTop (mkF m 22 #[.val (.int i0), .val (.int i1), .val (.int i2), .val (.int i3), .val (.int v7), .val (.int v16), .unset, .unset, .unset, .unset] [(.int (i3 &&& (2147483647 : Int32)))])) (fun t k => XS.iand X0.here hx rfl (hb hby at_21) rfl k) ?_
  refine own_Fin.step (S' := s₁.setTop (mkF m 23 #[.val (.int i0), .val (.int i1), .val (.int i2), .val (.int i3), .val (.int v7), .val (.int v16), .unset, .unset, .unset, .unset] [(.int (3 : Int32)), (.int (i3 &&& (2147483647 : Int32)))])) (fun t k => XS.iconst X0.here hx rfl (hb hby at_22) k) ?_
  refine own_Fin.step (S' := s₁.setTop (mkF m 24 #[.val (.int i0), .val (.int i1), .val (.int i2), .val (.int i3), .val (.int v7), .val (.int v16), .unset, .unset, .unset, .unset] [(.int ((i3 &&& (2147483647 : Int32)) - ((i3 &&& (2147483647 : Int32)) / (3 : Int32)) * (3 : Int32)))])) (fun t k => XS.irem X0.here hx rfl (hb hby at_23) rfl (by decide) k) ?_
  obtain ⟨v24, hv24⟩ : ∃ z : Int32, z = ((i3 &&& (2147483647 : Int32)) - ((i3 &&& (2147483647 : Int32)) / (3 : Int32)) * (3 : Int32)) := ⟨_, rfl⟩
  rw [← hv24]
  refine own_Fin.step (S' := s₁.setTop (mkF m 26 #[.val (.int i0), .val (.int i1), .val (.int i2), .val (.int i3), .val (.int v7), .val (.int v16), .val (.int v24), .unset, .unset, .unset] [])) (fun t k => XS.istore X0.here hx rfl (hb hby at_24) rfl (l' := #[.val (.int i0), .val (.int i1), .val (.int i2), .val (.int i3), .val (.int v7), .val (.int v16), .val (.int v24), .unset, .unset, .unset]) rfl k) ?_
  refine own_Fin.step (S' := s₁.setTop (mkF m 27 #[.val (.int i0), .val (.int i1), .val (.int i2), .val (.int i3), .val (.int v7), .val (.int v16), .val (.int v24), .unset, .unset, .unset] [(.int i0)])) (fun t k => XS.iloadN X0.here hx rfl (hb hby at_26) rfl  k) ?_
  refine own_Fin.step (S' := s₁.setTop (mkF m 29 #[.val (.int i0), .val (.int i1), .val (.int i2), .val (.int i3), .val (.int v7), .val (.int v16), .val (.int v24), .unset, .unset, .unset] [(.int (1073741823 : Int32)), (.int i0)])) (X0.ldcInt hx hown (mvT hZ (hw _ (List.mem_of_getElem? (i := 1) rfl))) (g := (mkF m 27 #[.val (.int i0), .val (.int i1), .val (.int i2), .val (.int i3), .val (.int v7), .val (.int v16), .val (.int v24), .unset, .unset, .unset] [(.int i0)])) rfl (hb hby at_27)) ?_
  refine own_Fin.step (S' := s₁.setTop (mkF m 30 #[.val (.int i0), .val (.int i1), .val (.int i2), .val (.int i3), .val (.int v7), .val (.int v16), .val (.int v24), .unset, .unset, .unset] [(.int (i0 &&& (1073741823 : Int32)))])) (fun t k => XS.iand X0.here hx rfl (hb hby at_29) rfl k) ?_
  refine own_Fin.step (S' := s₁.setTop (mkF m 31 #[.val (.int i0), .val (.int i1), .val (.int i2), .val (.int i3), .val (.int v7), .val (.int v16), .val (.int v24), .unset, .unset, .unset] [(.int (1 : Int32)), (.int (i0 &&& (1073741823 : Int32)))])) (fun t k => XS.iconst X0.here hx rfl (hb hby at_30) k) ?_
  refine own_Fin.step (S' := s₁.setTop (mkF m 32 #[.val (.int i0), .val (.int i1), .val (.int i2), .val (.int i3), .val (.int v7), .val (.int v16), .val (.int v24), .unset, .unset, .unset] [(.int ((i0 &&& (1073741823 : Int32)) + (1 : Int32)))])) (fun t k => XS.iadd X0.here hx rfl (hb hby at_31) rfl k) ?_
  obtain ⟨v32, hv32⟩ : ∃ z : Int32, z = ((i0 &&& (1073741823 : Int32)) + (1 : Int32)) := ⟨_, rfl⟩
  rw [← hv32]
  refine own_Fin.step (S' := s₁.setTop (mkF m 34 #[.val (.int i0), .val (.int i1), .val (.int i2), .val (.int i3), .val (.int v7), .val (.int v16), .val (.int v24), .val (.int v32), .unset, .unset] [])) (fun t k => XS.istore X0.here hx rfl (hb hby at_32) rfl (l' := #[.val (.int i0), .val (.int i1), .val (.int i2), .val (.int i3), .val (.int v7), .val (.int v16), .val (.int v24), .val (.int v32), .unset, .unset]) rfl k) ?_
  have own_t6 := own_six (own_rem 6 rfl (by decide) hv16)
  have own_f7 := own_rem 7 rfl (by decide) hv7
  refine own_Fin.step (S' := s₁.setTop (mkF m 36 #[.val (.int i0), .val (.int i1), .val (.int i2), .val (.int i3), .val (.int v7), .val (.int v16), .val (.int v24), .val (.int v32), .unset, .unset] [(.int v7)])) (fun t k => XS.iload X0.here hx rfl (hb hby at_34) rfl  k) ?_
  refine own_Fin.step (S' := s₁.setTop (mkF m 38 #[.val (.int i0), .val (.int i1), .val (.int i2), .val (.int i3), .val (.int v7), .val (.int v16), .val (.int v24), .val (.int v32), .unset, .unset] [(.int (6 : Int32)), (.int v7)])) (fun t k => XS.bipush X0.here hx rfl (hb hby at_36) k) ?_
  by_cases hc38 : v7 = (6 : Int32)
  · refine own_Fin.step (S' := s₁.setTop (mkF m 41 #[.val (.int i0), .val (.int i1), .val (.int i2), .val (.int i3), .val (.int v7), .val (.int v16), .val (.int v24), .val (.int v32), .unset, .unset] [])) (fun t k => XS.icmpNo X0.here hx rfl (hb hby at_38) rfl (teq hc38).2 k) ?_
    obtain ⟨T71, h71, X71, e71, E71, A71, D71, -, st71⟩ := newO X0 hx hZ hown (hw _ (List.mem_of_getElem? (i := 2) rfl)) (hw _ (List.mem_of_getElem? (i := 3) rfl)) (hw _ (List.mem_of_getElem? (i := 4) rfl)) e0 (g := (mkF m 41 #[.val (.int i0), .val (.int i1), .val (.int i2), .val (.int i3), .val (.int v7), .val (.int v16), .val (.int v24), .val (.int v32), .unset, .unset] [])) rfl (hb hby at_41) (by decide) (by decide)
    obtain ⟨b71, g71⟩ : ∃ z, z = h0.size := ⟨_, rfl⟩
    rw [← g71] at A71 D71 st71
    have ll71 : @LT.lt Nat _ b71 (Array.size h71) := A71.lt
    have z71 := E71.1
    have F72 : Fld Z h71 b71 "com/example/rulewright/rulewright/games/skorm/Piece" "seat" "I" (.int (0 : Int32)) := D71 (Or.inr (hw _ (List.mem_of_getElem? (i := 27) rfl))) (ty := .int) (by decide)
    have F73 : Fld Z h71 b71 "com/example/rulewright/rulewright/games/skorm/Piece" "type" "Lcom/example/rulewright/rulewright/games/skorm/PieceType;" .null := D71 (Or.inr (hw _ (List.mem_of_getElem? (i := 29) rfl))) (ty := (.object "com/example/rulewright/rulewright/games/skorm/PieceType")) (by decide)
    have F74 : Fld Z h71 b71 "com/example/rulewright/rulewright/games/skorm/Piece" "facing" "Lcom/example/rulewright/rulewright/games/skorm/Direction;" .null := D71 (Or.inr (hw _ (List.mem_of_getElem? (i := 31) rfl))) (ty := (.object "com/example/rulewright/rulewright/games/skorm/Direction")) (by decide)
    refine own_Fin.step (S' := T71.setTop (mkF m 44 #[.val (.int i0), .val (.int i1), .val (.int i2), .val (.int i3), .val (.int v7), .val (.int v16), .val (.int v24), .val (.int v32), .unset, .unset] [(.ref b71)])) st71 ?_
    refine own_Fin.step (S' := T71.setTop (mkF m 45 #[.val (.int i0), .val (.int i1), .val (.int i2), .val (.int i3), .val (.int v7), .val (.int v16), .val (.int v24), .val (.int v32), .unset, .unset] [(.ref b71), (.ref b71)])) (fun t k => XS.dup X71.here hx rfl (hb hby at_44) rfl rfl k) ?_
    refine own_Fin.step (S' := T71.setTop (mkF m 47 #[.val (.int i0), .val (.int i1), .val (.int i2), .val (.int i3), .val (.int v7), .val (.int v16), .val (.int v24), .val (.int v32), .unset, .unset] [(.int v32), (.ref b71), (.ref b71)])) (fun t k => XS.iload X71.here hx rfl (hb hby at_45) rfl  k) ?_
    refine own_Fin.step (S' := T71.setTop (mkF m 49 #[.val (.int i0), .val (.int i1), .val (.int i2), .val (.int i3), .val (.int v7), .val (.int v16), .val (.int v24), .val (.int v32), .unset, .unset] [(.int v24), (.int v32), (.ref b71), (.ref b71)])) (fun t k => XS.iload X71.here hx rfl (hb hby at_47) rfl  k) ?_
    have f75 : Old Z n0 h71 := (OLD.ext E71)
    obtain ⟨_, _, ⟨T76, L76, k76, n76⟩, -, X76, ⟨Lc76, hQ76, l76, y76, zz76⟩, st76⟩ := Jvm.LawKit.callS X71 hx (y := (⟨"com/example/rulewright/rulewright/games/skorm/PieceGuardsPinLaw", "otherType", "(I)Lcom/example/rulewright/rulewright/games/skorm/PieceType;"⟩ : MethodName)) hown (mvT hZ (hw _ (List.mem_of_getElem? (i := 66) rfl))) (mvT hZ (hw _ (List.mem_of_getElem? (i := 67) rfl))) (mvT hZ (hw _ (List.mem_of_getElem? (i := 10) rfl))) (mvT hZ (hw _ (List.mem_of_getElem? (i := 68) rfl))) (by decide) (backOf (W := 3) (rm9 l Z a0 hw [] o_SHIELDMAN o_NW o_NE o_OPPOSITES ko_OPPOSITES o_SW o_SE o_W o_E o_HORSEMAN o_ARCHER o_WARLORD v24 h71 n0 (by omega) f75 A) hZ (hw _ (List.mem_of_getElem? (i := 68) rfl)) (hw _ (List.mem_of_getElem? (i := 10) rfl)) (by decide) (by decide)) (g := (mkF m 49 #[.val (.int i0), .val (.int i1), .val (.int i2), .val (.int i3), .val (.int v7), .val (.int v16), .val (.int v24), .val (.int v32), .unset, .unset] [(.int v24), (.int v32), (.ref b71), (.ref b71)])) rfl (by rw [hml]; rfl) (argsL := [(.int v24)]) (rest := [(.int v32), (.ref b71), (.ref b71)]) (lenOf pd_0_0 rfl) rfl (by show 2 * 0 + _ ≤ _; exact Nat.le_of_eq rfl) (hb hby at_49) (fun _ _ => ⟨rfl, e71, (by decide : 1 + 0 ≤ _), (by decide : 3 + 0 ≤ _)⟩)
    dsimp only [Pt.U, Pt.locs, Pt.cells, Pt.slots] at X76 l76 y76 zz76 st76 hQ76
    subst l76 y76 zz76
    obtain ⟨ob_76, rfl, N76q, e76⟩ := hQ76
    have N76 := Fr.app N0 N76q
    refine own_Fin.step (S' := T76.setTop (mkF m 52 #[.val (.int i0), .val (.int i1), .val (.int i2), .val (.int i3), .val (.int v7), .val (.int v16), .val (.int v24), .val (.int v32), .unset, .unset] [(.ref ob_76), (.int v32), (.ref b71), (.ref b71)])) st76 ?_
    refine own_Fin.step (S' := T76.setTop (mkF m 53 #[.val (.int i0), .val (.int i1), .val (.int i2), .val (.int i3), .val (.int v7), .val (.int v16), .val (.int v24), .val (.int v32), .unset, .unset] [.null, (.ref ob_76), (.int v32), (.ref b71), (.ref b71)])) (fun t k => XS.aconstNull X76.here hx rfl (hb hby at_52) k) ?_
    obtain ⟨_, _, ⟨T77, L77, k77, n77⟩, -, X77, ⟨Lc77, hQ77, l77, y77, zz77⟩, st77⟩ := X76.specialBack hx (y := (⟨"com/example/rulewright/rulewright/games/skorm/Piece", "<init>", "(ILcom/example/rulewright/rulewright/games/skorm/PieceType;Lcom/example/rulewright/rulewright/games/skorm/Direction;)V"⟩ : MethodName)) rfl hown (mvT hZ (hw _ (List.mem_of_getElem? (i := 15) rfl))) (mvT hZ (hw _ (List.mem_of_getElem? (i := 16) rfl))) (mvT hZ (hw _ (List.mem_of_getElem? (i := 17) rfl))) (by decide) (backOf (W := 1) (rm2n l Z a0 hw [] b71 v32 ob_76 (.int (0 : Int32)) .null .null h71 n0 (by omega) A71 F72 F73 F74 (by omega)) hZ (hw _ (List.mem_of_getElem? (i := 17) rfl)) (hw _ (List.mem_of_getElem? (i := 4) rfl)) (by decide) (by decide)) (g := (mkF m 53 #[.val (.int i0), .val (.int i1), .val (.int i2), .val (.int i3), .val (.int v7), .val (.int v16), .val (.int v24), .val (.int v32), .unset, .unset] [.null, (.ref ob_76), (.int v32), (.ref b71), (.ref b71)])) rfl (by rw [hml]; rfl) (Steps.refl _) (a := b71) (argsL := [(.int v32), (.ref ob_76), .null]) (rest := [(.ref b71)]) (lenOf pd_0_1 rfl) rfl (by show 2 * 0 + _ ≤ _; exact Nat.le_of_eq rfl) (hb hby at_53) (fun _ _ => ⟨rfl, e76, (by decide : 1 + 0 ≤ _), (by decide : 3 + 0 ≤ _)⟩)
    dsimp only [Pt.U, Pt.locs, Pt.cells, Pt.slots] at X77 l77 y77 zz77 st77 hQ77
    subst l77 y77 zz77
    obtain ⟨rfl, N77q, K77, G77_0, G77_1⟩ := hQ77
    have N77 := Fr.app N76 N77q
    have z77 := K77.1
    have lt77_0 : @LT.lt Nat _ b71 (Array.size T77.heap) := G77_0.lt
    have lt77_1 : @LT.lt Nat _ b71 (Array.size T77.heap) := G77_1.lt
    refine own_Fin.trans (S' := T77.setTop (mkF m 56 #[.val (.int i0), .val (.int i1), .val (.int i2), .val (.int i3), .val (.int v7), .val (.int v16), .val (.int v24), .val (.int v32), .unset, .unset] [(.ref b71)])) st77 ?_
    refine own_Fin.step (S' := T77.setTop (mkF m 58 #[.val (.int i0), .val (.int i1), .val (.int i2), .val (.int i3), .val (.int v7), .val (.int v16), .val (.int v24), .val (.int v32), .val (.ref b71), .unset] [])) (fun t k => XS.astore X77.here hx rfl (hb hby at_56) rfl rfl (l' := #[.val (.int i0), .val (.int i1), .val (.int i2), .val (.int i3), .val (.int v7), .val (.int v16), .val (.int v24), .val (.int v32), .val (.ref b71), .unset]) rfl k) ?_
    refine own_Fin.step (S' := T77.setTop (mkF m 80 #[.val (.int i0), .val (.int i1), .val (.int i2), .val (.int i3), .val (.int v7), .val (.int v16), .val (.int v24), .val (.int v32), .val (.ref b71), .unset] [])) (fun t k => XS.goto X77.here hx rfl (pc0 := 58) (pc' := 80) rfl (hb hby at_58) (by decide) (by decide) k) ?_
    refine own_Fin.step (S' := T77.setTop (mkF m 82 #[.val (.int i0), .val (.int i1), .val (.int i2), .val (.int i3), .val (.int v7), .val (.int v16), .val (.int v24), .val (.int v32), .val (.ref b71), .unset] [(.int v7)])) (fun t k => XS.iload X77.here hx rfl (hb hby at_80) rfl  k) ?_
    refine own_Fin.step (S' := T77.setTop (mkF m 84 #[.val (.int i0), .val (.int i1), .val (.int i2), .val (.int i3), .val (.int v7), .val (.int v16), .val (.int v24), .val (.int v32), .val (.ref b71), .unset] [(.int (6 : Int32)), (.int v7)])) (fun t k => XS.bipush X77.here hx rfl (hb hby at_82) k) ?_
    refine own_Fin.step (S' := T77.setTop (mkF m 101 #[.val (.int i0), .val (.int i1), .val (.int i2), .val (.int i3), .val (.int v7), .val (.int v16), .val (.int v24), .val (.int v32), .val (.ref b71), .unset] [])) (fun t k => XS.icmpYes X77.here hx rfl (pc0 := 84) (pc' := 101) rfl (hb hby at_84) rfl (teq hc38).1 (by decide) (by decide) k) ?_
    refine own_Fin.step (S' := T77.setTop (mkF m 102 #[.val (.int i0), .val (.int i1), .val (.int i2), .val (.int i3), .val (.int v7), .val (.int v16), .val (.int v24), .val (.int v32), .val (.ref b71), .unset] [(.int (0 : Int32))])) (fun t k => XS.iconst X77.here hx rfl (hb hby at_101) k) ?_
    refine own_Fin.step (S' := T77.setTop (mkF m 104 #[.val (.int i0), .val (.int i1), .val (.int i2), .val (.int i3), .val (.int v7), .val (.int v16), .val (.int v24), .val (.int v32), .val (.ref b71), .val (.int (0 : Int32))] [])) (fun t k => XS.istore X77.here hx rfl (hb hby at_102) rfl (l' := #[.val (.int i0), .val (.int i1), .val (.int i2), .val (.int i3), .val (.int v7), .val (.int v16), .val (.int v24), .val (.int v32), .val (.ref b71), .val (.int (0 : Int32))]) rfl k) ?_
    refine own_Fin.step (S' := T77.setTop (mkF m 106 #[.val (.int i0), .val (.int i1), .val (.int i2), .val (.int i3), .val (.int v7), .val (.int v16), .val (.int v24), .val (.int v32), .val (.ref b71), .val (.int (0 : Int32))] [(.ref b71)])) (fun t k => XS.aload X77.here hx rfl (hb hby at_104) rfl rfl  k) ?_
    refine own_Fin.step (S' := T77.setTop (mkF m 108 #[.val (.int i0), .val (.int i1), .val (.int i2), .val (.int i3), .val (.int v7), .val (.int v16), .val (.int v24), .val (.int v32), .val (.ref b71), .val (.int (0 : Int32))] [(.int v16), (.ref b71)])) (fun t k => XS.iload X77.here hx rfl (hb hby at_106) rfl  k) ?_
    have f78 : Old Z n0 T77.heap := (f75.keep K77 (allS (by omega) all0))
    obtain ⟨_, _, ⟨T79, L79, k79, n79⟩, -, X79, ⟨Lc79, hQ79, l79, y79, zz79⟩, st79⟩ := Jvm.LawKit.callS X77 hx (y := (⟨"com/example/rulewright/rulewright/games/skorm/PieceGuardsPinLaw", "dir", "(I)Lcom/example/rulewright/rulewright/games/skorm/Direction;"⟩ : MethodName)) hown (mvT hZ (hw _ (List.mem_of_getElem? (i := 8) rfl))) (mvT hZ (hw _ (List.mem_of_getElem? (i := 9) rfl))) (mvT hZ (hw _ (List.mem_of_getElem? (i := 10) rfl))) (mvT hZ (hw _ (List.mem_of_getElem? (i := 11) rfl))) (by decide) (backOf (W := 1) (rm1 l Z a0 hw [] o_SHIELDMAN o_NW o_NE o_OPPOSITES ko_OPPOSITES o_SW o_SE o_W o_E o_HORSEMAN o_ARCHER o_WARLORD v16 T77.heap n0 (by omega) f78 A) hZ (hw _ (List.mem_of_getElem? (i := 11) rfl)) (hw _ (List.mem_of_getElem? (i := 10) rfl)) (by decide) (by decide)) (g := (mkF m 108 #[.val (.int i0), .val (.int i1), .val (.int i2), .val (.int i3), .val (.int v7), .val (.int v16), .val (.int v24), .val (.int v32), .val (.ref b71), .val (.int (0 : Int32))] [(.int v16), (.ref b71)])) rfl (by rw [hml]; rfl) (argsL := [(.int v16)]) (rest := [(.ref b71)]) (lenOf pd_0_2 rfl) rfl (by show 2 * 0 + _ ≤ _; exact Nat.le_of_eq rfl) (hb hby at_108) (fun _ _ => ⟨rfl, rfl, (by decide : 1 + 0 ≤ _), (by decide : 3 + 0 ≤ _)⟩)
    dsimp only [Pt.U, Pt.locs, Pt.cells, Pt.slots] at X79 l79 y79 zz79 st79 hQ79
    subst l79 y79 zz79
    obtain ⟨rfl, N79q, e79⟩ := hQ79
    have N79 := Fr.app N77 N79q
    have XE79 : Exa Z T77.heap (own_dirA o_E o_W o_NE o_NW o_SE o_SW v16) "com/example/rulewright/rulewright/games/skorm/Direction" := Exa.ext f78.2 (own_dirE A v16)
    have XF79 : Fld Z T77.heap (own_dirA o_E o_W o_NE o_NW o_SE o_SW v16) "java/lang/Enum" "ordinal" "I" (.int (own_ordI v16)) := Fld.ext f78.2 (own_ordF A v16)
    refine own_Fin.step (S' := T79.setTop (mkF m 111 #[.val (.int i0), .val (.int i1), .val (.int i2), .val (.int i3), .val (.int v7), .val (.int v16), .val (.int v24), .val (.int v32), .val (.ref b71), .val (.int (0 : Int32))] [(.ref (own_dirA o_E o_W o_NE o_NW o_SE o_SW v16)), (.ref b71)])) st79 ?_
    obtain ⟨cq80, kq80, q80a, q80b, q80c⟩ := isOf hZ e79 G77_0
    obtain ⟨_, _, ⟨T80, L80, k80, n80⟩, -, X80, ⟨Lc80, hQ80, l80, y80, zz80⟩, st80⟩ := X79.virtualBack hx (y := (⟨"com/example/rulewright/rulewright/games/skorm/Piece", "guards", "(Lcom/example/rulewright/rulewright/games/skorm/Direction;)Z"⟩ : MethodName)) (z := (⟨"com/example/rulewright/rulewright/games/skorm/Piece", "guards", "(Lcom/example/rulewright/rulewright/games/skorm/Direction;)Z"⟩ : MethodName)) hown (mvT hZ (hw _ (List.mem_of_getElem? (i := 37) rfl))) (mvT hZ (hw _ (List.mem_of_getElem? (i := 38) rfl))) (notFace_of_selects (args := #[]) (mvT hZ (hw _ (List.mem_of_getElem? (i := 40) rfl)))) (mvT hZ (hw _ (List.mem_of_getElem? (i := 40) rfl))) (mvT hZ (hw _ (List.mem_of_getElem? (i := 39) rfl))) (by decide) (backOf (W := 0) (rm6n l Z a0 hw [] o_SHIELDMAN o_NW o_NE o_OPPOSITES ko_OPPOSITES o_SW o_SE o_W o_E o_HORSEMAN o_ARCHER o_WARLORD b71 (own_dirA o_E o_W o_NE o_NW o_SE o_SW v16) (own_ordI v16) (own_dirA o_E o_W o_NE o_NW o_SE o_SW (own_opp v16)) T77.heap n0 (by omega) f78 A G77_1 XE79 XF79 (own_ord_in v16) (own_hat o_E o_W o_NE o_NW o_SE o_SW own_t6)) hZ (hw _ (List.mem_of_getElem? (i := 41) rfl)) (hw _ (List.mem_of_getElem? (i := 4) rfl)) (by decide) (by decide)) q80a q80c (g := (mkF m 111 #[.val (.int i0), .val (.int i1), .val (.int i2), .val (.int i3), .val (.int v7), .val (.int v16), .val (.int v24), .val (.int v32), .val (.ref b71), .val (.int (0 : Int32))] [(.ref (own_dirA o_E o_W o_NE o_NW o_SE o_SW v16)), (.ref b71)])) rfl (by rw [hml]; rfl) (Steps.refl _) (argsL := [(.ref (own_dirA o_E o_W o_NE o_NW o_SE o_SW v16))]) (rest := []) (lenOf pd_0_3 rfl) rfl (by show 2 * 0 + _ ≤ _; exact Nat.le_of_eq rfl) (hb hby at_111) (fun _ _ => ⟨rfl, e79, (by decide : 1 + 0 ≤ _), (by decide : 3 + 0 ≤ _)⟩)
    dsimp only [Pt.U, Pt.locs, Pt.cells, Pt.slots] at X80 l80 y80 zz80 st80 hQ80
    subst l80 y80 zz80
    obtain ⟨rfl, N80q, e80⟩ := hQ80
    have N80 := Fr.app N79 N80q
    refine own_Fin.trans (S' := T80.setTop (mkF m 114 #[.val (.int i0), .val (.int i1), .val (.int i2), .val (.int i3), .val (.int v7), .val (.int v16), .val (.int v24), .val (.int v32), .val (.ref b71), .val (.int (0 : Int32))] [(.int (0 : Int32))])) st80 ?_
    refine own_Fin.step (S' := T80.setTop (mkF m 116 #[.val (.int i0), .val (.int i1), .val (.int i2), .val (.int i3), .val (.int v7), .val (.int v16), .val (.int v24), .val (.int v32), .val (.ref b71), .val (.int (0 : Int32))] [(.int (0 : Int32)), (.int (0 : Int32))])) (fun t k => XS.iload X80.here hx rfl (hb hby at_114) rfl  k) ?_
    refine own_Fin.step (S' := T80.setTop (mkF m 119 #[.val (.int i0), .val (.int i1), .val (.int i2), .val (.int i3), .val (.int v7), .val (.int v16), .val (.int v24), .val (.int v32), .val (.ref b71), .val (.int (0 : Int32))] [])) (fun t k => XS.icmpNo X80.here hx rfl (hb hby at_116) rfl (teq (by decide : ((0 : Int32) = (0 : Int32)))).2 k) ?_
    refine own_Fin.step (S' := T80.setTop (mkF m 120 #[.val (.int i0), .val (.int i1), .val (.int i2), .val (.int i3), .val (.int v7), .val (.int v16), .val (.int v24), .val (.int v32), .val (.ref b71), .val (.int (0 : Int32))] [(.int (1 : Int32))])) (fun t k => XS.iconst X80.here hx rfl (hb hby at_119) k) ?_
    refine own_Fin.step (S' := T80.setTop (mkF m 124 #[.val (.int i0), .val (.int i1), .val (.int i2), .val (.int i3), .val (.int v7), .val (.int v16), .val (.int v24), .val (.int v32), .val (.ref b71), .val (.int (0 : Int32))] [(.int (1 : Int32))])) (fun t k => XS.goto X80.here hx rfl (pc0 := 120) (pc' := 124) rfl (hb hby at_120) (by decide) (by decide) k) ?_
    have hq81 : Q0 Z o_SHIELDMAN o_NW o_NE o_OPPOSITES ko_OPPOSITES o_SW o_SE o_W o_E o_HORSEMAN o_ARCHER o_WARLORD i0 i1 i2 i3 h0 n0 (some (.int (nar .boolean (1 : Int32)))) T77.heap _ := ⟨rfl, N80⟩
    exact own_retN X80 hx hlk (t := .boolean) hrt (by simp) (hb hby at_124) e80 hq81 (by decide) (by decide)
  · refine own_Fin.step (S' := s₁.setTop (mkF m 61 #[.val (.int i0), .val (.int i1), .val (.int i2), .val (.int i3), .val (.int v7), .val (.int v16), .val (.int v24), .val (.int v32), .unset, .unset] [])) (fun t k => XS.icmpYes X0.here hx rfl (pc0 := 38) (pc' := 61) rfl (hb hby at_38) rfl (feq hc38).2 (by decide) (by decide) k) ?_
    have own_f6 := own_six ⟨own_f7.1, by
      have h7 := own_f7.2; have hx6 : v7.toInt ≠ 6 := fun q => hc38 (Int32.toInt_inj.mp q)
      omega⟩
    obtain ⟨T82, h82, X82, e82, E82, A82, D82, -, st82⟩ := newO X0 hx hZ hown (hw _ (List.mem_of_getElem? (i := 2) rfl)) (hw _ (List.mem_of_getElem? (i := 3) rfl)) (hw _ (List.mem_of_getElem? (i := 4) rfl)) e0 (g := (mkF m 61 #[.val (.int i0), .val (.int i1), .val (.int i2), .val (.int i3), .val (.int v7), .val (.int v16), .val (.int v24), .val (.int v32), .unset, .unset] [])) rfl (hb hby at_61) (by decide) (by decide)
    obtain ⟨b82, g82⟩ : ∃ z, z = h0.size := ⟨_, rfl⟩
    rw [← g82] at A82 D82 st82
    have ll82 : @LT.lt Nat _ b82 (Array.size h82) := A82.lt
    have z82 := E82.1
    have F83 : Fld Z h82 b82 "com/example/rulewright/rulewright/games/skorm/Piece" "seat" "I" (.int (0 : Int32)) := D82 (Or.inr (hw _ (List.mem_of_getElem? (i := 27) rfl))) (ty := .int) (by decide)
    have F84 : Fld Z h82 b82 "com/example/rulewright/rulewright/games/skorm/Piece" "type" "Lcom/example/rulewright/rulewright/games/skorm/PieceType;" .null := D82 (Or.inr (hw _ (List.mem_of_getElem? (i := 29) rfl))) (ty := (.object "com/example/rulewright/rulewright/games/skorm/PieceType")) (by decide)
    have F85 : Fld Z h82 b82 "com/example/rulewright/rulewright/games/skorm/Piece" "facing" "Lcom/example/rulewright/rulewright/games/skorm/Direction;" .null := D82 (Or.inr (hw _ (List.mem_of_getElem? (i := 31) rfl))) (ty := (.object "com/example/rulewright/rulewright/games/skorm/Direction")) (by decide)
    refine own_Fin.step (S' := T82.setTop (mkF m 64 #[.val (.int i0), .val (.int i1), .val (.int i2), .val (.int i3), .val (.int v7), .val (.int v16), .val (.int v24), .val (.int v32), .unset, .unset] [(.ref b82)])) st82 ?_
    refine own_Fin.step (S' := T82.setTop (mkF m 65 #[.val (.int i0), .val (.int i1), .val (.int i2), .val (.int i3), .val (.int v7), .val (.int v16), .val (.int v24), .val (.int v32), .unset, .unset] [(.ref b82), (.ref b82)])) (fun t k => XS.dup X82.here hx rfl (hb hby at_64) rfl rfl k) ?_
    refine own_Fin.step (S' := T82.setTop (mkF m 67 #[.val (.int i0), .val (.int i1), .val (.int i2), .val (.int i3), .val (.int v7), .val (.int v16), .val (.int v24), .val (.int v32), .unset, .unset] [(.int v32), (.ref b82), (.ref b82)])) (fun t k => XS.iload X82.here hx rfl (hb hby at_65) rfl  k) ?_
    have f86 : Old Z n0 h82 := (OLD.ext E82)
    have f87 : Sta Z h82 "com/example/rulewright/rulewright/games/skorm/PieceType" "SHIELDMAN" "Lcom/example/rulewright/rulewright/games/skorm/PieceType;" (.ref o_SHIELDMAN) := Sta.ext f86.2 (Amb.a0 A)
    obtain ⟨T88, X88, e88, st88⟩ := getS2 X82 hx hZ hown (host := "") (Or.inl (hw _ (List.mem_of_getElem? (i := 5) rfl))) Via.refl e82 f87 (g := (mkF m 67 #[.val (.int i0), .val (.int i1), .val (.int i2), .val (.int i3), .val (.int v7), .val (.int v16), .val (.int v24), .val (.int v32), .unset, .unset] [(.int v32), (.ref b82), (.ref b82)])) rfl (hb hby at_67)
    refine own_Fin.step (S' := T88.setTop (mkF m 70 #[.val (.int i0), .val (.int i1), .val (.int i2), .val (.int i3), .val (.int v7), .val (.int v16), .val (.int v24), .val (.int v32), .unset, .unset] [(.ref o_SHIELDMAN), (.int v32), (.ref b82), (.ref b82)])) st88 ?_
    refine own_Fin.step (S' := T88.setTop (mkF m 72 #[.val (.int i0), .val (.int i1), .val (.int i2), .val (.int i3), .val (.int v7), .val (.int v16), .val (.int v24), .val (.int v32), .unset, .unset] [(.int v7), (.ref o_SHIELDMAN), (.int v32), (.ref b82), (.ref b82)])) (fun t k => XS.iload X88.here hx rfl (hb hby at_70) rfl  k) ?_
    obtain ⟨_, _, ⟨T89, L89, k89, n89⟩, -, X89, ⟨Lc89, hQ89, l89, y89, zz89⟩, st89⟩ := Jvm.LawKit.callS X88 hx (y := (⟨"com/example/rulewright/rulewright/games/skorm/PieceGuardsPinLaw", "dir", "(I)Lcom/example/rulewright/rulewright/games/skorm/Direction;"⟩ : MethodName)) hown (mvT hZ (hw _ (List.mem_of_getElem? (i := 8) rfl))) (mvT hZ (hw _ (List.mem_of_getElem? (i := 9) rfl))) (mvT hZ (hw _ (List.mem_of_getElem? (i := 10) rfl))) (mvT hZ (hw _ (List.mem_of_getElem? (i := 11) rfl))) (by decide) (backOf (W := 4) (rm1 l Z a0 hw [] o_SHIELDMAN o_NW o_NE o_OPPOSITES ko_OPPOSITES o_SW o_SE o_W o_E o_HORSEMAN o_ARCHER o_WARLORD v7 h82 n0 (by omega) f86 A) hZ (hw _ (List.mem_of_getElem? (i := 11) rfl)) (hw _ (List.mem_of_getElem? (i := 10) rfl)) (by decide) (by decide)) (g := (mkF m 72 #[.val (.int i0), .val (.int i1), .val (.int i2), .val (.int i3), .val (.int v7), .val (.int v16), .val (.int v24), .val (.int v32), .unset, .unset] [(.int v7), (.ref o_SHIELDMAN), (.int v32), (.ref b82), (.ref b82)])) rfl (by rw [hml]; rfl) (argsL := [(.int v7)]) (rest := [(.ref o_SHIELDMAN), (.int v32), (.ref b82), (.ref b82)]) (lenOf pd_0_2 rfl) rfl (by show 2 * 0 + _ ≤ _; exact Nat.le_of_eq rfl) (hb hby at_72) (fun _ _ => ⟨rfl, e88, (by decide : 1 + 0 ≤ _), (by decide : 3 + 0 ≤ _)⟩)
    dsimp only [Pt.U, Pt.locs, Pt.cells, Pt.slots] at X89 l89 y89 zz89 st89 hQ89
    subst l89 y89 zz89
    obtain ⟨rfl, N89q, e89⟩ := hQ89
    have N89 := Fr.app N0 N89q
    refine own_Fin.step (S' := T89.setTop (mkF m 75 #[.val (.int i0), .val (.int i1), .val (.int i2), .val (.int i3), .val (.int v7), .val (.int v16), .val (.int v24), .val (.int v32), .unset, .unset] [(.ref (own_dirA o_E o_W o_NE o_NW o_SE o_SW v7)), (.ref o_SHIELDMAN), (.int v32), (.ref b82), (.ref b82)])) st89 ?_
    obtain ⟨_, _, ⟨T90, L90, k90, n90⟩, -, X90, ⟨Lc90, hQ90, l90, y90, zz90⟩, st90⟩ := X89.specialBack hx (y := (⟨"com/example/rulewright/rulewright/games/skorm/Piece", "<init>", "(ILcom/example/rulewright/rulewright/games/skorm/PieceType;Lcom/example/rulewright/rulewright/games/skorm/Direction;)V"⟩ : MethodName)) rfl hown (mvT hZ (hw _ (List.mem_of_getElem? (i := 15) rfl))) (mvT hZ (hw _ (List.mem_of_getElem? (i := 16) rfl))) (mvT hZ (hw _ (List.mem_of_getElem? (i := 17) rfl))) (by decide) (backOf (W := 1) (rm2r l Z a0 hw [] b82 v32 o_SHIELDMAN (own_dirA o_E o_W o_NE o_NW o_SE o_SW v7) (.int (0 : Int32)) .null .null h82 n0 (by omega) A82 F83 F84 F85 (by omega)) hZ (hw _ (List.mem_of_getElem? (i := 17) rfl)) (hw _ (List.mem_of_getElem? (i := 4) rfl)) (by decide) (by decide)) (g := (mkF m 75 #[.val (.int i0), .val (.int i1), .val (.int i2), .val (.int i3), .val (.int v7), .val (.int v16), .val (.int v24), .val (.int v32), .unset, .unset] [(.ref (own_dirA o_E o_W o_NE o_NW o_SE o_SW v7)), (.ref o_SHIELDMAN), (.int v32), (.ref b82), (.ref b82)])) rfl (by rw [hml]; rfl) (Steps.refl _) (a := b82) (argsL := [(.int v32), (.ref o_SHIELDMAN), (.ref (own_dirA o_E o_W o_NE o_NW o_SE o_SW v7))]) (rest := [(.ref b82)]) (lenOf pd_0_1 rfl) rfl (by show 2 * 0 + _ ≤ _; exact Nat.le_of_eq rfl) (hb hby at_75) (fun _ _ => ⟨rfl, e89, (by decide : 1 + 0 ≤ _), (by decide : 3 + 0 ≤ _)⟩)
    dsimp only [Pt.U, Pt.locs, Pt.cells, Pt.slots] at X90 l90 y90 zz90 st90 hQ90
    subst l90 y90 zz90
    obtain ⟨rfl, N90q, K90, G90_0, G90_1⟩ := hQ90
    have N90 := Fr.app N89 N90q
    have z90 := K90.1
    have lt90_0 : @LT.lt Nat _ b82 (Array.size T90.heap) := G90_0.lt
    have lt90_1 : @LT.lt Nat _ b82 (Array.size T90.heap) := G90_1.lt
    refine own_Fin.trans (S' := T90.setTop (mkF m 78 #[.val (.int i0), .val (.int i1), .val (.int i2), .val (.int i3), .val (.int v7), .val (.int v16), .val (.int v24), .val (.int v32), .unset, .unset] [(.ref b82)])) st90 ?_
    refine own_Fin.step (S' := T90.setTop (mkF m 80 #[.val (.int i0), .val (.int i1), .val (.int i2), .val (.int i3), .val (.int v7), .val (.int v16), .val (.int v24), .val (.int v32), .val (.ref b82), .unset] [])) (fun t k => XS.astore X90.here hx rfl (hb hby at_78) rfl rfl (l' := #[.val (.int i0), .val (.int i1), .val (.int i2), .val (.int i3), .val (.int v7), .val (.int v16), .val (.int v24), .val (.int v32), .val (.ref b82), .unset]) rfl k) ?_
    refine own_Fin.step (S' := T90.setTop (mkF m 82 #[.val (.int i0), .val (.int i1), .val (.int i2), .val (.int i3), .val (.int v7), .val (.int v16), .val (.int v24), .val (.int v32), .val (.ref b82), .unset] [(.int v7)])) (fun t k => XS.iload X90.here hx rfl (hb hby at_80) rfl  k) ?_
    refine own_Fin.step (S' := T90.setTop (mkF m 84 #[.val (.int i0), .val (.int i1), .val (.int i2), .val (.int i3), .val (.int v7), .val (.int v16), .val (.int v24), .val (.int v32), .val (.ref b82), .unset] [(.int (6 : Int32)), (.int v7)])) (fun t k => XS.bipush X90.here hx rfl (hb hby at_82) k) ?_
    refine own_Fin.step (S' := T90.setTop (mkF m 87 #[.val (.int i0), .val (.int i1), .val (.int i2), .val (.int i3), .val (.int v7), .val (.int v16), .val (.int v24), .val (.int v32), .val (.ref b82), .unset] [])) (fun t k => XS.icmpNo X90.here hx rfl (hb hby at_84) rfl (feq hc38).1 k) ?_
    refine own_Fin.step (S' := T90.setTop (mkF m 89 #[.val (.int i0), .val (.int i1), .val (.int i2), .val (.int i3), .val (.int v7), .val (.int v16), .val (.int v24), .val (.int v32), .val (.ref b82), .unset] [(.int v7)])) (fun t k => XS.iload X90.here hx rfl (hb hby at_87) rfl  k) ?_
    refine own_Fin.step (S' := T90.setTop (mkF m 91 #[.val (.int i0), .val (.int i1), .val (.int i2), .val (.int i3), .val (.int v7), .val (.int v16), .val (.int v24), .val (.int v32), .val (.ref b82), .unset] [(.int v16), (.int v7)])) (fun t k => XS.iload X90.here hx rfl (hb hby at_89) rfl  k) ?_
    obtain ⟨_, _, ⟨T91, L91, k91, n91⟩, -, X91, ⟨Lc91, hQ91, l91, y91, zz91⟩, st91⟩ := Jvm.LawKit.callS X90 hx (y := (⟨"com/example/rulewright/rulewright/games/skorm/PieceGuardsPinLaw", "oppIdx", "(I)I"⟩ : MethodName)) hown (mvT hZ (hw _ (List.mem_of_getElem? (i := 32) rfl))) (mvT hZ (hw _ (List.mem_of_getElem? (i := 33) rfl))) (mvT hZ (hw _ (List.mem_of_getElem? (i := 10) rfl))) (mvT hZ (hw _ (List.mem_of_getElem? (i := 34) rfl))) (by decide) (backOf (W := 1) (rm5 l Z a0 hw [] v16 T90.heap n0 (by omega) ) hZ (hw _ (List.mem_of_getElem? (i := 34) rfl)) (hw _ (List.mem_of_getElem? (i := 10) rfl)) (by decide) (by decide)) (g := (mkF m 91 #[.val (.int i0), .val (.int i1), .val (.int i2), .val (.int i3), .val (.int v7), .val (.int v16), .val (.int v24), .val (.int v32), .val (.ref b82), .unset] [(.int v16), (.int v7)])) rfl (by rw [hml]; rfl) (argsL := [(.int v16)]) (rest := [(.int v7)]) (lenOf pd_0_4 rfl) rfl (by show 2 * 0 + _ ≤ _; exact Nat.le_of_eq rfl) (hb hby at_91) (fun _ _ => ⟨rfl, rfl, (by decide : 1 + 0 ≤ _), (by decide : 3 + 0 ≤ _)⟩)
    dsimp only [Pt.U, Pt.locs, Pt.cells, Pt.slots] at X91 l91 y91 zz91 st91 hQ91
    subst l91 y91 zz91
    obtain ⟨rfl, N91q, e91⟩ := hQ91
    have N91 := Fr.app N90 N91q
    refine own_Fin.step (S' := T91.setTop (mkF m 94 #[.val (.int i0), .val (.int i1), .val (.int i2), .val (.int i3), .val (.int v7), .val (.int v16), .val (.int v24), .val (.int v32), .val (.ref b82), .unset] [(.int (own_opp v16)), (.int v7)])) st91 ?_
    by_cases hc94 : v7 = (own_opp v16)
    · refine own_Fin.step (S' := T91.setTop (mkF m 97 #[.val (.int i0), .val (.int i1), .val (.int i2), .val (.int i3), .val (.int v7), .val (.int v16), .val (.int v24), .val (.int v32), .val (.ref b82), .unset] [])) (fun t k => XS.icmpNo X91.here hx rfl (hb hby at_94) rfl (teq hc94).2 k) ?_
      refine own_Fin.step (S' := T91.setTop (mkF m 98 #[.val (.int i0), .val (.int i1), .val (.int i2), .val (.int i3), .val (.int v7), .val (.int v16), .val (.int v24), .val (.int v32), .val (.ref b82), .unset] [(.int (1 : Int32))])) (fun t k => XS.iconst X91.here hx rfl (hb hby at_97) k) ?_
      refine own_Fin.step (S' := T91.setTop (mkF m 102 #[.val (.int i0), .val (.int i1), .val (.int i2), .val (.int i3), .val (.int v7), .val (.int v16), .val (.int v24), .val (.int v32), .val (.ref b82), .unset] [(.int (1 : Int32))])) (fun t k => XS.goto X91.here hx rfl (pc0 := 98) (pc' := 102) rfl (hb hby at_98) (by decide) (by decide) k) ?_
      refine own_Fin.step (S' := T91.setTop (mkF m 104 #[.val (.int i0), .val (.int i1), .val (.int i2), .val (.int i3), .val (.int v7), .val (.int v16), .val (.int v24), .val (.int v32), .val (.ref b82), .val (.int (1 : Int32))] [])) (fun t k => XS.istore X91.here hx rfl (hb hby at_102) rfl (l' := #[.val (.int i0), .val (.int i1), .val (.int i2), .val (.int i3), .val (.int v7), .val (.int v16), .val (.int v24), .val (.int v32), .val (.ref b82), .val (.int (1 : Int32))]) rfl k) ?_
      refine own_Fin.step (S' := T91.setTop (mkF m 106 #[.val (.int i0), .val (.int i1), .val (.int i2), .val (.int i3), .val (.int v7), .val (.int v16), .val (.int v24), .val (.int v32), .val (.ref b82), .val (.int (1 : Int32))] [(.ref b82)])) (fun t k => XS.aload X91.here hx rfl (hb hby at_104) rfl rfl  k) ?_
      refine own_Fin.step (S' := T91.setTop (mkF m 108 #[.val (.int i0), .val (.int i1), .val (.int i2), .val (.int i3), .val (.int v7), .val (.int v16), .val (.int v24), .val (.int v32), .val (.ref b82), .val (.int (1 : Int32))] [(.int v16), (.ref b82)])) (fun t k => XS.iload X91.here hx rfl (hb hby at_106) rfl  k) ?_
      have f92 : Old Z n0 T90.heap := (f86.keep K90 (allS (by omega) all0))
      obtain ⟨_, _, ⟨T93, L93, k93, n93⟩, -, X93, ⟨Lc93, hQ93, l93, y93, zz93⟩, st93⟩ := Jvm.LawKit.callS X91 hx (y := (⟨"com/example/rulewright/rulewright/games/skorm/PieceGuardsPinLaw", "dir", "(I)Lcom/example/rulewright/rulewright/games/skorm/Direction;"⟩ : MethodName)) hown (mvT hZ (hw _ (List.mem_of_getElem? (i := 8) rfl))) (mvT hZ (hw _ (List.mem_of_getElem? (i := 9) rfl))) (mvT hZ (hw _ (List.mem_of_getElem? (i := 10) rfl))) (mvT hZ (hw _ (List.mem_of_getElem? (i := 11) rfl))) (by decide) (backOf (W := 1) (rm1 l Z a0 hw [] o_SHIELDMAN o_NW o_NE o_OPPOSITES ko_OPPOSITES o_SW o_SE o_W o_E o_HORSEMAN o_ARCHER o_WARLORD v16 T90.heap n0 (by omega) f92 A) hZ (hw _ (List.mem_of_getElem? (i := 11) rfl)) (hw _ (List.mem_of_getElem? (i := 10) rfl)) (by decide) (by decide)) (g := (mkF m 108 #[.val (.int i0), .val (.int i1), .val (.int i2), .val (.int i3), .val (.int v7), .val (.int v16), .val (.int v24), .val (.int v32), .val (.ref b82), .val (.int (1 : Int32))] [(.int v16), (.ref b82)])) rfl (by rw [hml]; rfl) (argsL := [(.int v16)]) (rest := [(.ref b82)]) (lenOf pd_0_2 rfl) rfl (by show 2 * 0 + _ ≤ _; exact Nat.le_of_eq rfl) (hb hby at_108) (fun _ _ => ⟨rfl, e91, (by decide : 1 + 0 ≤ _), (by decide : 3 + 0 ≤ _)⟩)
      dsimp only [Pt.U, Pt.locs, Pt.cells, Pt.slots] at X93 l93 y93 zz93 st93 hQ93
      subst l93 y93 zz93
      obtain ⟨rfl, N93q, e93⟩ := hQ93
      have N93 := Fr.app N91 N93q
      have XE93 : Exa Z T90.heap (own_dirA o_E o_W o_NE o_NW o_SE o_SW v16) "com/example/rulewright/rulewright/games/skorm/Direction" := Exa.ext f92.2 (own_dirE A v16)
      have XF93 : Fld Z T90.heap (own_dirA o_E o_W o_NE o_NW o_SE o_SW v16) "java/lang/Enum" "ordinal" "I" (.int (own_ordI v16)) := Fld.ext f92.2 (own_ordF A v16)
      refine own_Fin.step (S' := T93.setTop (mkF m 111 #[.val (.int i0), .val (.int i1), .val (.int i2), .val (.int i3), .val (.int v7), .val (.int v16), .val (.int v24), .val (.int v32), .val (.ref b82), .val (.int (1 : Int32))] [(.ref (own_dirA o_E o_W o_NE o_NW o_SE o_SW v16)), (.ref b82)])) st93 ?_
      obtain ⟨cq94, kq94, q94a, q94b, q94c⟩ := isOf hZ e93 G90_0
      obtain ⟨_, _, ⟨T94, L94, k94, n94⟩, -, X94, ⟨Lc94, hQ94, l94, y94, zz94⟩, st94⟩ := X93.virtualBack hx (y := (⟨"com/example/rulewright/rulewright/games/skorm/Piece", "guards", "(Lcom/example/rulewright/rulewright/games/skorm/Direction;)Z"⟩ : MethodName)) (z := (⟨"com/example/rulewright/rulewright/games/skorm/Piece", "guards", "(Lcom/example/rulewright/rulewright/games/skorm/Direction;)Z"⟩ : MethodName)) hown (mvT hZ (hw _ (List.mem_of_getElem? (i := 37) rfl))) (mvT hZ (hw _ (List.mem_of_getElem? (i := 38) rfl))) (notFace_of_selects (args := #[]) (mvT hZ (hw _ (List.mem_of_getElem? (i := 40) rfl)))) (mvT hZ (hw _ (List.mem_of_getElem? (i := 40) rfl))) (mvT hZ (hw _ (List.mem_of_getElem? (i := 39) rfl))) (by decide) (backOf (W := 0) (rm6r l Z a0 hw [] o_SHIELDMAN o_NW o_NE o_OPPOSITES ko_OPPOSITES o_SW o_SE o_W o_E o_HORSEMAN o_ARCHER o_WARLORD b82 (own_dirA o_E o_W o_NE o_NW o_SE o_SW v16) (own_dirA o_E o_W o_NE o_NW o_SE o_SW v7) (own_ordI v16) (own_dirA o_E o_W o_NE o_NW o_SE o_SW (own_opp v16)) T90.heap n0 (by omega) f92 A G90_1 XE93 XF93 (own_ord_in v16) (own_hat o_E o_W o_NE o_NW o_SE o_SW own_t6)) hZ (hw _ (List.mem_of_getElem? (i := 41) rfl)) (hw _ (List.mem_of_getElem? (i := 4) rfl)) (by decide) (by decide)) q94a q94c (g := (mkF m 111 #[.val (.int i0), .val (.int i1), .val (.int i2), .val (.int i3), .val (.int v7), .val (.int v16), .val (.int v24), .val (.int v32), .val (.ref b82), .val (.int (1 : Int32))] [(.ref (own_dirA o_E o_W o_NE o_NW o_SE o_SW v16)), (.ref b82)])) rfl (by rw [hml]; rfl) (Steps.refl _) (argsL := [(.ref (own_dirA o_E o_W o_NE o_NW o_SE o_SW v16))]) (rest := []) (lenOf pd_0_3 rfl) rfl (by show 2 * 0 + _ ≤ _; exact Nat.le_of_eq rfl) (hb hby at_111) (fun _ _ => ⟨rfl, e93, (by decide : 1 + 0 ≤ _), (by decide : 3 + 0 ≤ _)⟩)
      dsimp only [Pt.U, Pt.locs, Pt.cells, Pt.slots] at X94 l94 y94 zz94 st94 hQ94
      subst l94 y94 zz94
      obtain ⟨hvc94, N94q, e94⟩ := hQ94
      have N94 := Fr.app N93 N94q
      rcases hvc94 with ⟨rfl, hp111⟩ | ⟨rfl, hp111⟩
      · refine own_Fin.trans (S' := T94.setTop (mkF m 114 #[.val (.int i0), .val (.int i1), .val (.int i2), .val (.int i3), .val (.int v7), .val (.int v16), .val (.int v24), .val (.int v32), .val (.ref b82), .val (.int (1 : Int32))] [(.int (1 : Int32))])) st94 ?_
        refine own_Fin.step (S' := T94.setTop (mkF m 116 #[.val (.int i0), .val (.int i1), .val (.int i2), .val (.int i3), .val (.int v7), .val (.int v16), .val (.int v24), .val (.int v32), .val (.ref b82), .val (.int (1 : Int32))] [(.int (1 : Int32)), (.int (1 : Int32))])) (fun t k => XS.iload X94.here hx rfl (hb hby at_114) rfl  k) ?_
        refine own_Fin.step (S' := T94.setTop (mkF m 119 #[.val (.int i0), .val (.int i1), .val (.int i2), .val (.int i3), .val (.int v7), .val (.int v16), .val (.int v24), .val (.int v32), .val (.ref b82), .val (.int (1 : Int32))] [])) (fun t k => XS.icmpNo X94.here hx rfl (hb hby at_116) rfl (teq (by decide : ((1 : Int32) = (1 : Int32)))).2 k) ?_
        refine own_Fin.step (S' := T94.setTop (mkF m 120 #[.val (.int i0), .val (.int i1), .val (.int i2), .val (.int i3), .val (.int v7), .val (.int v16), .val (.int v24), .val (.int v32), .val (.ref b82), .val (.int (1 : Int32))] [(.int (1 : Int32))])) (fun t k => XS.iconst X94.here hx rfl (hb hby at_119) k) ?_
        refine own_Fin.step (S' := T94.setTop (mkF m 124 #[.val (.int i0), .val (.int i1), .val (.int i2), .val (.int i3), .val (.int v7), .val (.int v16), .val (.int v24), .val (.int v32), .val (.ref b82), .val (.int (1 : Int32))] [(.int (1 : Int32))])) (fun t k => XS.goto X94.here hx rfl (pc0 := 120) (pc' := 124) rfl (hb hby at_120) (by decide) (by decide) k) ?_
        have hq95 : Q0 Z o_SHIELDMAN o_NW o_NE o_OPPOSITES ko_OPPOSITES o_SW o_SE o_W o_E o_HORSEMAN o_ARCHER o_WARLORD i0 i1 i2 i3 h0 n0 (some (.int (nar .boolean (1 : Int32)))) T90.heap _ := ⟨rfl, N94⟩
        exact own_retN X94 hx hlk (t := .boolean) hrt (by simp) (hb hby at_124) e94 hq95 (by decide) (by decide)
      · refine own_Fin.trans (S' := T94.setTop (mkF m 114 #[.val (.int i0), .val (.int i1), .val (.int i2), .val (.int i3), .val (.int v7), .val (.int v16), .val (.int v24), .val (.int v32), .val (.ref b82), .val (.int (1 : Int32))] [(.int (0 : Int32))])) st94 ?_
        refine own_Fin.step (S' := T94.setTop (mkF m 116 #[.val (.int i0), .val (.int i1), .val (.int i2), .val (.int i3), .val (.int v7), .val (.int v16), .val (.int v24), .val (.int v32), .val (.ref b82), .val (.int (1 : Int32))] [(.int (1 : Int32)), (.int (0 : Int32))])) (fun t k => XS.iload X94.here hx rfl (hb hby at_114) rfl  k) ?_
        refine own_Fin.step (S' := T94.setTop (mkF m 123 #[.val (.int i0), .val (.int i1), .val (.int i2), .val (.int i3), .val (.int v7), .val (.int v16), .val (.int v24), .val (.int v32), .val (.ref b82), .val (.int (1 : Int32))] [])) (fun t k => XS.icmpYes X94.here hx rfl (pc0 := 116) (pc' := 123) rfl (hb hby at_116) rfl (feq (by decide : ¬ ((0 : Int32) = (1 : Int32)))).2 (by decide) (by decide) k) ?_
        refine own_Fin.step (S' := T94.setTop (mkF m 124 #[.val (.int i0), .val (.int i1), .val (.int i2), .val (.int i3), .val (.int v7), .val (.int v16), .val (.int v24), .val (.int v32), .val (.ref b82), .val (.int (1 : Int32))] [(.int (0 : Int32))])) (fun t k => XS.iconst X94.here hx rfl (hb hby at_123) k) ?_
        have hq96 : Q0 Z o_SHIELDMAN o_NW o_NE o_OPPOSITES ko_OPPOSITES o_SW o_SE o_W o_E o_HORSEMAN o_ARCHER o_WARLORD i0 i1 i2 i3 h0 n0 (some (.int (nar .boolean (0 : Int32)))) T90.heap _ := ⟨(by exfalso; exact hp111 (congrArg _ hc94)), N94⟩
        exact own_retN X94 hx hlk (t := .boolean) hrt (by simp) (hb hby at_124) e94 hq96 (by decide) (by decide)
    · refine own_Fin.step (S' := T91.setTop (mkF m 101 #[.val (.int i0), .val (.int i1), .val (.int i2), .val (.int i3), .val (.int v7), .val (.int v16), .val (.int v24), .val (.int v32), .val (.ref b82), .unset] [])) (fun t k => XS.icmpYes X91.here hx rfl (pc0 := 94) (pc' := 101) rfl (hb hby at_94) rfl (feq hc94).2 (by decide) (by decide) k) ?_
      refine own_Fin.step (S' := T91.setTop (mkF m 102 #[.val (.int i0), .val (.int i1), .val (.int i2), .val (.int i3), .val (.int v7), .val (.int v16), .val (.int v24), .val (.int v32), .val (.ref b82), .unset] [(.int (0 : Int32))])) (fun t k => XS.iconst X91.here hx rfl (hb hby at_101) k) ?_
      refine own_Fin.step (S' := T91.setTop (mkF m 104 #[.val (.int i0), .val (.int i1), .val (.int i2), .val (.int i3), .val (.int v7), .val (.int v16), .val (.int v24), .val (.int v32), .val (.ref b82), .val (.int (0 : Int32))] [])) (fun t k => XS.istore X91.here hx rfl (hb hby at_102) rfl (l' := #[.val (.int i0), .val (.int i1), .val (.int i2), .val (.int i3), .val (.int v7), .val (.int v16), .val (.int v24), .val (.int v32), .val (.ref b82), .val (.int (0 : Int32))]) rfl k) ?_
      refine own_Fin.step (S' := T91.setTop (mkF m 106 #[.val (.int i0), .val (.int i1), .val (.int i2), .val (.int i3), .val (.int v7), .val (.int v16), .val (.int v24), .val (.int v32), .val (.ref b82), .val (.int (0 : Int32))] [(.ref b82)])) (fun t k => XS.aload X91.here hx rfl (hb hby at_104) rfl rfl  k) ?_
      refine own_Fin.step (S' := T91.setTop (mkF m 108 #[.val (.int i0), .val (.int i1), .val (.int i2), .val (.int i3), .val (.int v7), .val (.int v16), .val (.int v24), .val (.int v32), .val (.ref b82), .val (.int (0 : Int32))] [(.int v16), (.ref b82)])) (fun t k => XS.iload X91.here hx rfl (hb hby at_106) rfl  k) ?_
      have f97 : Old Z n0 T90.heap := (f86.keep K90 (allS (by omega) all0))
      obtain ⟨_, _, ⟨T98, L98, k98, n98⟩, -, X98, ⟨Lc98, hQ98, l98, y98, zz98⟩, st98⟩ := Jvm.LawKit.callS X91 hx (y := (⟨"com/example/rulewright/rulewright/games/skorm/PieceGuardsPinLaw", "dir", "(I)Lcom/example/rulewright/rulewright/games/skorm/Direction;"⟩ : MethodName)) hown (mvT hZ (hw _ (List.mem_of_getElem? (i := 8) rfl))) (mvT hZ (hw _ (List.mem_of_getElem? (i := 9) rfl))) (mvT hZ (hw _ (List.mem_of_getElem? (i := 10) rfl))) (mvT hZ (hw _ (List.mem_of_getElem? (i := 11) rfl))) (by decide) (backOf (W := 1) (rm1 l Z a0 hw [] o_SHIELDMAN o_NW o_NE o_OPPOSITES ko_OPPOSITES o_SW o_SE o_W o_E o_HORSEMAN o_ARCHER o_WARLORD v16 T90.heap n0 (by omega) f97 A) hZ (hw _ (List.mem_of_getElem? (i := 11) rfl)) (hw _ (List.mem_of_getElem? (i := 10) rfl)) (by decide) (by decide)) (g := (mkF m 108 #[.val (.int i0), .val (.int i1), .val (.int i2), .val (.int i3), .val (.int v7), .val (.int v16), .val (.int v24), .val (.int v32), .val (.ref b82), .val (.int (0 : Int32))] [(.int v16), (.ref b82)])) rfl (by rw [hml]; rfl) (argsL := [(.int v16)]) (rest := [(.ref b82)]) (lenOf pd_0_2 rfl) rfl (by show 2 * 0 + _ ≤ _; exact Nat.le_of_eq rfl) (hb hby at_108) (fun _ _ => ⟨rfl, e91, (by decide : 1 + 0 ≤ _), (by decide : 3 + 0 ≤ _)⟩)
      dsimp only [Pt.U, Pt.locs, Pt.cells, Pt.slots] at X98 l98 y98 zz98 st98 hQ98
      subst l98 y98 zz98
      obtain ⟨rfl, N98q, e98⟩ := hQ98
      have N98 := Fr.app N91 N98q
      have XE98 : Exa Z T90.heap (own_dirA o_E o_W o_NE o_NW o_SE o_SW v16) "com/example/rulewright/rulewright/games/skorm/Direction" := Exa.ext f97.2 (own_dirE A v16)
      have XF98 : Fld Z T90.heap (own_dirA o_E o_W o_NE o_NW o_SE o_SW v16) "java/lang/Enum" "ordinal" "I" (.int (own_ordI v16)) := Fld.ext f97.2 (own_ordF A v16)
      refine own_Fin.step (S' := T98.setTop (mkF m 111 #[.val (.int i0), .val (.int i1), .val (.int i2), .val (.int i3), .val (.int v7), .val (.int v16), .val (.int v24), .val (.int v32), .val (.ref b82), .val (.int (0 : Int32))] [(.ref (own_dirA o_E o_W o_NE o_NW o_SE o_SW v16)), (.ref b82)])) st98 ?_
      obtain ⟨cq99, kq99, q99a, q99b, q99c⟩ := isOf hZ e98 G90_0
      obtain ⟨_, _, ⟨T99, L99, k99, n99⟩, -, X99, ⟨Lc99, hQ99, l99, y99, zz99⟩, st99⟩ := X98.virtualBack hx (y := (⟨"com/example/rulewright/rulewright/games/skorm/Piece", "guards", "(Lcom/example/rulewright/rulewright/games/skorm/Direction;)Z"⟩ : MethodName)) (z := (⟨"com/example/rulewright/rulewright/games/skorm/Piece", "guards", "(Lcom/example/rulewright/rulewright/games/skorm/Direction;)Z"⟩ : MethodName)) hown (mvT hZ (hw _ (List.mem_of_getElem? (i := 37) rfl))) (mvT hZ (hw _ (List.mem_of_getElem? (i := 38) rfl))) (notFace_of_selects (args := #[]) (mvT hZ (hw _ (List.mem_of_getElem? (i := 40) rfl)))) (mvT hZ (hw _ (List.mem_of_getElem? (i := 40) rfl))) (mvT hZ (hw _ (List.mem_of_getElem? (i := 39) rfl))) (by decide) (backOf (W := 0) (rm6r l Z a0 hw [] o_SHIELDMAN o_NW o_NE o_OPPOSITES ko_OPPOSITES o_SW o_SE o_W o_E o_HORSEMAN o_ARCHER o_WARLORD b82 (own_dirA o_E o_W o_NE o_NW o_SE o_SW v16) (own_dirA o_E o_W o_NE o_NW o_SE o_SW v7) (own_ordI v16) (own_dirA o_E o_W o_NE o_NW o_SE o_SW (own_opp v16)) T90.heap n0 (by omega) f97 A G90_1 XE98 XF98 (own_ord_in v16) (own_hat o_E o_W o_NE o_NW o_SE o_SW own_t6)) hZ (hw _ (List.mem_of_getElem? (i := 41) rfl)) (hw _ (List.mem_of_getElem? (i := 4) rfl)) (by decide) (by decide)) q99a q99c (g := (mkF m 111 #[.val (.int i0), .val (.int i1), .val (.int i2), .val (.int i3), .val (.int v7), .val (.int v16), .val (.int v24), .val (.int v32), .val (.ref b82), .val (.int (0 : Int32))] [(.ref (own_dirA o_E o_W o_NE o_NW o_SE o_SW v16)), (.ref b82)])) rfl (by rw [hml]; rfl) (Steps.refl _) (argsL := [(.ref (own_dirA o_E o_W o_NE o_NW o_SE o_SW v16))]) (rest := []) (lenOf pd_0_3 rfl) rfl (by show 2 * 0 + _ ≤ _; exact Nat.le_of_eq rfl) (hb hby at_111) (fun _ _ => ⟨rfl, e98, (by decide : 1 + 0 ≤ _), (by decide : 3 + 0 ≤ _)⟩)
      dsimp only [Pt.U, Pt.locs, Pt.cells, Pt.slots] at X99 l99 y99 zz99 st99 hQ99
      subst l99 y99 zz99
      obtain ⟨hvc99, N99q, e99⟩ := hQ99
      have N99 := Fr.app N98 N99q
      rcases hvc99 with ⟨rfl, hp111⟩ | ⟨rfl, hp111⟩
      · refine own_Fin.trans (S' := T99.setTop (mkF m 114 #[.val (.int i0), .val (.int i1), .val (.int i2), .val (.int i3), .val (.int v7), .val (.int v16), .val (.int v24), .val (.int v32), .val (.ref b82), .val (.int (0 : Int32))] [(.int (1 : Int32))])) st99 ?_
        refine own_Fin.step (S' := T99.setTop (mkF m 116 #[.val (.int i0), .val (.int i1), .val (.int i2), .val (.int i3), .val (.int v7), .val (.int v16), .val (.int v24), .val (.int v32), .val (.ref b82), .val (.int (0 : Int32))] [(.int (0 : Int32)), (.int (1 : Int32))])) (fun t k => XS.iload X99.here hx rfl (hb hby at_114) rfl  k) ?_
        refine own_Fin.step (S' := T99.setTop (mkF m 123 #[.val (.int i0), .val (.int i1), .val (.int i2), .val (.int i3), .val (.int v7), .val (.int v16), .val (.int v24), .val (.int v32), .val (.ref b82), .val (.int (0 : Int32))] [])) (fun t k => XS.icmpYes X99.here hx rfl (pc0 := 116) (pc' := 123) rfl (hb hby at_116) rfl (feq (by decide : ¬ ((1 : Int32) = (0 : Int32)))).2 (by decide) (by decide) k) ?_
        refine own_Fin.step (S' := T99.setTop (mkF m 124 #[.val (.int i0), .val (.int i1), .val (.int i2), .val (.int i3), .val (.int v7), .val (.int v16), .val (.int v24), .val (.int v32), .val (.ref b82), .val (.int (0 : Int32))] [(.int (0 : Int32))])) (fun t k => XS.iconst X99.here hx rfl (hb hby at_123) k) ?_
        have hq100 : Q0 Z o_SHIELDMAN o_NW o_NE o_OPPOSITES ko_OPPOSITES o_SW o_SE o_W o_E o_HORSEMAN o_ARCHER o_WARLORD i0 i1 i2 i3 h0 n0 (some (.int (nar .boolean (0 : Int32)))) T90.heap _ := ⟨(by exfalso; exact hc94 (own_inj A own_f6 (own_opp6 own_t6) hp111)), N99⟩
        exact own_retN X99 hx hlk (t := .boolean) hrt (by simp) (hb hby at_124) e99 hq100 (by decide) (by decide)
      · refine own_Fin.trans (S' := T99.setTop (mkF m 114 #[.val (.int i0), .val (.int i1), .val (.int i2), .val (.int i3), .val (.int v7), .val (.int v16), .val (.int v24), .val (.int v32), .val (.ref b82), .val (.int (0 : Int32))] [(.int (0 : Int32))])) st99 ?_
        refine own_Fin.step (S' := T99.setTop (mkF m 116 #[.val (.int i0), .val (.int i1), .val (.int i2), .val (.int i3), .val (.int v7), .val (.int v16), .val (.int v24), .val (.int v32), .val (.ref b82), .val (.int (0 : Int32))] [(.int (0 : Int32)), (.int (0 : Int32))])) (fun t k => XS.iload X99.here hx rfl (hb hby at_114) rfl  k) ?_
        refine own_Fin.step (S' := T99.setTop (mkF m 119 #[.val (.int i0), .val (.int i1), .val (.int i2), .val (.int i3), .val (.int v7), .val (.int v16), .val (.int v24), .val (.int v32), .val (.ref b82), .val (.int (0 : Int32))] [])) (fun t k => XS.icmpNo X99.here hx rfl (hb hby at_116) rfl (teq (by decide : ((0 : Int32) = (0 : Int32)))).2 k) ?_
        refine own_Fin.step (S' := T99.setTop (mkF m 120 #[.val (.int i0), .val (.int i1), .val (.int i2), .val (.int i3), .val (.int v7), .val (.int v16), .val (.int v24), .val (.int v32), .val (.ref b82), .val (.int (0 : Int32))] [(.int (1 : Int32))])) (fun t k => XS.iconst X99.here hx rfl (hb hby at_119) k) ?_
        refine own_Fin.step (S' := T99.setTop (mkF m 124 #[.val (.int i0), .val (.int i1), .val (.int i2), .val (.int i3), .val (.int v7), .val (.int v16), .val (.int v24), .val (.int v32), .val (.ref b82), .val (.int (0 : Int32))] [(.int (1 : Int32))])) (fun t k => XS.goto X99.here hx rfl (pc0 := 120) (pc' := 124) rfl (hb hby at_120) (by decide) (by decide) k) ?_
        have hq101 : Q0 Z o_SHIELDMAN o_NW o_NE o_OPPOSITES ko_OPPOSITES o_SW o_SE o_W o_E o_HORSEMAN o_ARCHER o_WARLORD i0 i1 i2 i3 h0 n0 (some (.int (nar .boolean (1 : Int32)))) T90.heap _ := ⟨rfl, N99⟩
        exact own_retN X99 hx hlk (t := .boolean) hrt (by simp) (hb hby at_124) e99 hq101 (by decide) (by decide)
set_option maxRecDepth 65536 in
set_option maxHeartbeats 40000000 in
theorem comes_1 {Post : Tables → Env → Array Value → State → Outcome → State → Prop} (hpost : ∀ tb e args s v u, (limb_1_1.after args s (.returned v) u = true ∧ limb_1_2.after args s (.returned v) u = true ∧ True) → FrameEnd s (.returned v) u (Jvm.fieldLocs frame_1_writes args s ++ Jvm.arrayLocs frame_1_arrays args s ++ Jvm.staticLocs frame_1_statics s) 16 128 → Post tb e args s (.returned v) u) :
    ArmFor flags0 classFile x code maxLocals ret World_1 tables_1 room_1 Calls_1 rest_1 Pre_1 Post := by
  intro l hfl _ _ p e ha hc hk s m args below hf hA hF happ hP
  obtain ⟨hcalls, hrest, hpre⟩ := hP
  obtain ⟨-, -, -, hnamed, -, -, -, hat⟩ := (Spec.applies_iff hf).mp happ
  obtain ⟨hg, hn⟩ := and_e (Cond.before_iff.mp (show (Jvm.Cond.and given_1 narrow_1).before args s = true from hpre))
  obtain ⟨gg1, gg2⟩ := and_e hg
  obtain ⟨gg3, gg4⟩ := and_e gg2
  obtain ⟨gg5, gg6⟩ := and_e gg4
  obtain ⟨gg7, gg8⟩ := and_e gg6
  obtain ⟨w0, w1, w2, w3, rfl⟩ : ∃ w0 w1 w2 w3 : Value, args = #[w0, w1, w2, w3] := by
    have hs : args.size = 4 := by simpa [Cond.value, given_1] using gg1
    obtain ⟨L⟩ := args
    match L, hs with
    | [w0, w1, w2, w3], _ => exact ⟨w0, w1, w2, w3, rfl⟩
  have hw := fun d (hd : d ∈ tables_1) => atoms_spec (ws := Jvm.Cond.code x code maxLocals ret :: tables_1) hat d (List.mem_cons_of_mem _ hd)
  have hfit : Fit s := fun {y c} hc i hi => by
    obtain ⟨ha, rfl⟩ := Array.getElem?_eq_some_iff.mp hc
    have q := List.all_eq_true.mp ((Array.all_eq_true_iff_forall_mem.mp hF) _ (Array.getElem_mem ha)) i (List.mem_range.mpr hi)
    simpa [Array.getElem?_eq_getElem hi] using q
  obtain ⟨i0, ei0⟩ := is_v gg3
  obtain rfl : w0 = (.int i0) := Option.some.inj ei0
  obtain ⟨i1, ei1⟩ := is_v gg5
  obtain rfl : w1 = (.int i1) := Option.some.inj ei1
  obtain ⟨i2, ei2⟩ := is_v gg7
  obtain rfl : w2 = (.int i2) := Option.some.inj ei2
  obtain ⟨i3, ei3⟩ := is_v gg8
  obtain rfl : w3 = (.int i3) := Option.some.inj ei3
  have hn0 := hn
  obtain ⟨hA1, hB1⟩ := and_e hn0
  obtain ⟨hA2, hB2⟩ := and_e hB1
  obtain ⟨hA3, hB3⟩ := and_e hB2
  obtain ⟨hA4, hB4⟩ := and_e hB3
  obtain ⟨hA5, hB5⟩ := and_e hB4
  obtain ⟨hA6, hB6⟩ := and_e hB5
  obtain ⟨hA7, hB7⟩ := and_e hB6
  obtain ⟨hA8, hB8⟩ := and_e hB7
  obtain ⟨hA9, hB9⟩ := and_e hB8
  obtain ⟨hA10, hB10⟩ := and_e hB9
  obtain ⟨hA11, hB11⟩ := and_e hB10
  obtain ⟨hA12, hB12⟩ := and_e hB11
  obtain ⟨hA13, hB13⟩ := and_e hB12
  obtain ⟨hA14, hB14⟩ := and_e hB13
  obtain ⟨hA15, hB15⟩ := and_e hB14
  obtain ⟨hA16, hB16⟩ := and_e hB15
  obtain ⟨hA17, hB17⟩ := and_e hB16
  obtain ⟨hA18, hB18⟩ := and_e hB17
  obtain ⟨hA19, hB19⟩ := and_e hB18
  obtain ⟨hA20, hB20⟩ := and_e hB19
  obtain ⟨hA21, hB21⟩ := and_e hB20
  obtain ⟨hA22, hB22⟩ := and_e hB21
  obtain ⟨hA23, hB23⟩ := and_e hB22
  obtain ⟨o_SHIELDMAN, eo_SHIELDMAN⟩ := exa_v hA1
  obtain ⟨o_NW, eo_NW⟩ := exa_v hA2
  obtain ⟨o_NE, eo_NE⟩ := exa_v hA3
  obtain ⟨o_OPPOSITES, eo_OPPOSITES⟩ := arr_v hA4
  obtain ⟨clo_OPPOSITES, Ao_OPPOSITES⟩ := Arr.start eo_OPPOSITES hA4
  obtain ⟨ko_OPPOSITES, eko_OPPOSITES⟩ : ∃ z, z = clo_OPPOSITES.cls := ⟨_, rfl⟩
  obtain ⟨o_SW, eo_SW⟩ := exa_v hA7
  obtain ⟨o_SE, eo_SE⟩ := exa_v hA11
  obtain ⟨o_W, eo_W⟩ := exa_v hA15
  obtain ⟨o_E, eo_E⟩ := exa_v hA17
  obtain ⟨o_HORSEMAN, eo_HORSEMAN⟩ := exa_v hA21
  obtain ⟨o_ARCHER, eo_ARCHER⟩ := exa_v hA23
  obtain ⟨o_WARLORD, eo_WARLORD⟩ := exa_v hB23
  have M0 : Sta s s.heap "com/example/rulewright/rulewright/games/skorm/PieceType" "SHIELDMAN" "Lcom/example/rulewright/rulewright/games/skorm/PieceType;" (.ref o_SHIELDMAN) := Sta.start eo_SHIELDMAN (Or.inr ⟨hw _ (List.mem_of_getElem? (i := 6) rfl), hw _ (List.mem_of_getElem? (i := 7) rfl)⟩)
  have M1 : Exa s s.heap o_SHIELDMAN "com/example/rulewright/rulewright/games/skorm/PieceType" := Exa.start eo_SHIELDMAN hA1
  have M2 : Sta s s.heap "com/example/rulewright/rulewright/games/skorm/Direction" "NW" "Lcom/example/rulewright/rulewright/games/skorm/Direction;" (.ref o_NW) := Sta.start eo_NW (Or.inr ⟨hw _ (List.mem_of_getElem? (i := 13) rfl), hw _ (List.mem_of_getElem? (i := 14) rfl)⟩)
  have M3 : Exa s s.heap o_NW "com/example/rulewright/rulewright/games/skorm/Direction" := Exa.start eo_NW hA2
  have M4 : Sta s s.heap "com/example/rulewright/rulewright/games/skorm/Direction" "NE" "Lcom/example/rulewright/rulewright/games/skorm/Direction;" (.ref o_NE) := Sta.start eo_NE (Or.inr ⟨hw _ (List.mem_of_getElem? (i := 13) rfl), hw _ (List.mem_of_getElem? (i := 36) rfl)⟩)
  have M5 : Exa s s.heap o_NE "com/example/rulewright/rulewright/games/skorm/Direction" := Exa.start eo_NE hA3
  have M6 : Sta s s.heap "com/example/rulewright/rulewright/games/skorm/Direction" "OPPOSITES" "[Lcom/example/rulewright/rulewright/games/skorm/Direction;" (.ref o_OPPOSITES) := Sta.start eo_OPPOSITES (Or.inr ⟨hw _ (List.mem_of_getElem? (i := 13) rfl), hw _ (List.mem_of_getElem? (i := 48) rfl)⟩)
  have M7 : Sta s s.heap "com/example/rulewright/rulewright/games/skorm/Direction" "SW" "Lcom/example/rulewright/rulewright/games/skorm/Direction;" (.ref o_SW) := Sta.start eo_SW (Or.inr ⟨hw _ (List.mem_of_getElem? (i := 13) rfl), hw _ (List.mem_of_getElem? (i := 58) rfl)⟩)
  have M8 : Exa s s.heap o_SW "com/example/rulewright/rulewright/games/skorm/Direction" := Exa.start eo_SW hA7
  have M9 : Sta s s.heap "com/example/rulewright/rulewright/games/skorm/Direction" "SE" "Lcom/example/rulewright/rulewright/games/skorm/Direction;" (.ref o_SE) := Sta.start eo_SE (Or.inr ⟨hw _ (List.mem_of_getElem? (i := 13) rfl), hw _ (List.mem_of_getElem? (i := 60) rfl)⟩)
  have M10 : Exa s s.heap o_SE "com/example/rulewright/rulewright/games/skorm/Direction" := Exa.start eo_SE hA11
  have M11 : Sta s s.heap "com/example/rulewright/rulewright/games/skorm/Direction" "W" "Lcom/example/rulewright/rulewright/games/skorm/Direction;" (.ref o_W) := Sta.start eo_W (Or.inr ⟨hw _ (List.mem_of_getElem? (i := 13) rfl), hw _ (List.mem_of_getElem? (i := 63) rfl)⟩)
  have M12 : Exa s s.heap o_W "com/example/rulewright/rulewright/games/skorm/Direction" := Exa.start eo_W hA15
  have M13 : Sta s s.heap "com/example/rulewright/rulewright/games/skorm/Direction" "E" "Lcom/example/rulewright/rulewright/games/skorm/Direction;" (.ref o_E) := Sta.start eo_E (Or.inr ⟨hw _ (List.mem_of_getElem? (i := 13) rfl), hw _ (List.mem_of_getElem? (i := 64) rfl)⟩)
  have M14 : Exa s s.heap o_E "com/example/rulewright/rulewright/games/skorm/Direction" := Exa.start eo_E hA17
  have M15 : Sta s s.heap "com/example/rulewright/rulewright/games/skorm/PieceType" "HORSEMAN" "Lcom/example/rulewright/rulewright/games/skorm/PieceType;" (.ref o_HORSEMAN) := Sta.start eo_HORSEMAN (Or.inr ⟨hw _ (List.mem_of_getElem? (i := 6) rfl), hw _ (List.mem_of_getElem? (i := 70) rfl)⟩)
  have M16 : Exa s s.heap o_HORSEMAN "com/example/rulewright/rulewright/games/skorm/PieceType" := Exa.start eo_HORSEMAN hA21
  have M17 : Sta s s.heap "com/example/rulewright/rulewright/games/skorm/PieceType" "ARCHER" "Lcom/example/rulewright/rulewright/games/skorm/PieceType;" (.ref o_ARCHER) := Sta.start eo_ARCHER (Or.inr ⟨hw _ (List.mem_of_getElem? (i := 6) rfl), hw _ (List.mem_of_getElem? (i := 72) rfl)⟩)
  have M18 : Exa s s.heap o_ARCHER "com/example/rulewright/rulewright/games/skorm/PieceType" := Exa.start eo_ARCHER hA23
  have M19 : Sta s s.heap "com/example/rulewright/rulewright/games/skorm/PieceType" "WARLORD" "Lcom/example/rulewright/rulewright/games/skorm/PieceType;" (.ref o_WARLORD) := Sta.start eo_WARLORD (Or.inr ⟨hw _ (List.mem_of_getElem? (i := 6) rfl), hw _ (List.mem_of_getElem? (i := 74) rfl)⟩)
  have M20 : Exa s s.heap o_WARLORD "com/example/rulewright/rulewright/games/skorm/PieceType" := Exa.start eo_WARLORD hB23
  have M21 : Fld s s.heap o_NE "java/lang/Enum" "ordinal" "I" (.int (2 : Int32)) := Fld.start ((fld_at eo_NE).symm.trans (own_eqI hA6 (Term.int_eval _)))
  have M22 : Fld s s.heap o_NW "java/lang/Enum" "ordinal" "I" (.int (3 : Int32)) := Fld.start ((fld_at eo_NW).symm.trans (own_eqI hA9 (Term.int_eval _)))
  have M23 : Fld s s.heap o_SW "java/lang/Enum" "ordinal" "I" (.int (5 : Int32)) := Fld.start ((fld_at eo_SW).symm.trans (own_eqI hA10 (Term.int_eval _)))
  have M24 : Fld s s.heap o_SE "java/lang/Enum" "ordinal" "I" (.int (4 : Int32)) := Fld.start ((fld_at eo_SE).symm.trans (own_eqI hA12 (Term.int_eval _)))
  have M25 : Fld s s.heap o_W "java/lang/Enum" "ordinal" "I" (.int (1 : Int32)) := Fld.start ((fld_at eo_W).symm.trans (own_eqI hA16 (Term.int_eval _)))
  have M26 : Fld s s.heap o_E "java/lang/Enum" "ordinal" "I" (.int (0 : Int32)) := Fld.start ((fld_at eo_E).symm.trans (own_eqI hA19 (Term.int_eval _)))
  have M27 : Arv s s.heap o_OPPOSITES ko_OPPOSITES (.object "com/example/rulewright/rulewright/games/skorm/Direction") (6 : Int32) [(.ref o_W), (.ref o_E), (.ref o_SW), (.ref o_SE), (.ref o_NW), (.ref o_NE)] .null := by rw [eko_OPPOSITES]; exact own_arv hfit eo_OPPOSITES Ao_OPPOSITES (own_eqI hA5 (Term.int_eval _)) (by decide) rfl ⟨own_elem eo_OPPOSITES Ao_OPPOSITES (own_eqR hA20 eo_W), own_elem eo_OPPOSITES Ao_OPPOSITES (own_eqR hA18 eo_E), own_elem eo_OPPOSITES Ao_OPPOSITES (own_eqR hA8 eo_SW), own_elem eo_OPPOSITES Ao_OPPOSITES (own_eqR hA22 eo_SE), own_elem eo_OPPOSITES Ao_OPPOSITES (own_eqR hA13 eo_NW), own_elem eo_OPPOSITES Ao_OPPOSITES (own_eqR hA14 eo_NE), trivial⟩
  have AM : Amb s o_SHIELDMAN o_NW o_NE o_OPPOSITES ko_OPPOSITES o_SW o_SE o_W o_E o_HORSEMAN o_ARCHER o_WARLORD := ⟨M0, M1, M2, M3, M4, M5, M6, M7, M8, M9, M10, M11, M12, M13, M14, M15, M16, M17, M18, M19, M20, M21, M22, M23, M24, M25, M26, M27, trivial⟩
  obtain ⟨n, o, h1, h2, h3, _, L, rfl, ⟨rfl, N⟩, hq⟩ := rm0 l s _ hw tables_1 o_SHIELDMAN o_NW o_NE o_OPPOSITES ko_OPPOSITES o_SW o_SE o_W o_E o_HORSEMAN o_ARCHER o_WARLORD i0 i1 i2 i3 s.heap s.heap.size (Nat.le_refl _) (Old.start s) AM p e ha hc hk s m _ below hf ((Spec.applies_iff_loose hf).mp happ).1 ⟨rfl, State.Warmed39.refl s, rfl⟩ trivial
  refine ⟨n, _, h1, h2, h3, hpost _ _ _ _ _ _ ⟨Cond.after_iff.mpr rfl, Cond.after_iff.mpr (eq_i res_at (Term.int_eval (1)) rfl), trivial⟩ ⟨hq.1, hq.2.1, (hq.2.2.sift fun y hy => Or.inr (N y hy)).mono (by decide) (by decide)⟩⟩
theorem main_1_1 : Claimed_1_1 := comes_1 fun _ _ _ _ _ _ h hF => ⟨h.1, hF⟩
theorem main_1_2 : Claimed_1_2 := comes_1 fun _ _ _ _ _ _ h hF => ⟨h.2.1, hF⟩
end Jvm.Pilot.@@N@@
namespace Jvm.Pilot.@@N@@
open Jvm Jvm.ClassFile Sem Op Lib Jvm.Free Jvm.Stand Jvm.Pilot.@@N@@.Jvm.D
/-! MADE BY PROGRAM (witnessworld.py) out of the Statement's table words and the real class files: 16 classes; the members and pool entries that the words name. The judged class is class 1, her method 4. -/
namespace start1
open Jvm.ClassFile
def u (s : String) : CpInfo := .utf8 (stringToUtf16 s)
/-- a pool by its gaps: so many unusable entries, then the entry; so many at the end -/
def gap : Nat → List CpInfo → List CpInfo
  | 0, r => r
  | n + 1, r => .unusable :: gap n r
def poolList (es : List (Nat × CpInfo)) (last : Nat) : List CpInfo := es.foldr (fun e r => gap e.1 (e.2 :: r)) (gap last [])
def pool (es : List (Nat × CpInfo)) (last : Nat) : Array CpInfo := ⟨poolList es last⟩
def fileOf (pool : Array CpInfo) (this : Nat) (attrs : Array Attribute := #[]) (ms : Array MethodInfo := #[]) (fl : Nat := 33) (sup : Nat := 0) (ifs : Array Nat := #[]) (fds : Array FieldInfo := #[]) : ClassFile where
  minorVersion := 0
  majorVersion := 65
  constantPool := pool
  accessFlags := fl
  thisClass := this
  superClass := sup
  interfaces := ifs
  fields := fds
  methods := ms
  attributes := attrs
def plain (name : String) (sup : Option ClassId) : Class where
  name := name
  kind := .ordinary
  loader := none
  accessFlags := 33
  super := sup
  interfaces := #[]
  cf := none
  fields := #[]
  methods := #[]
  instanceTypes := #[]
  staticTypes := #[]
  resolved := #[]
  callSites := []
  init := .initialized
  statics := none
  mirror := none

def pool0 : Array CpInfo := pool [(5, u "<init>"), (0, u "()V"), (1, .class_ 10), (1, u "java/lang/Object")] 113

def k0c0 : Code := { maxStack := 0, maxLocals := 1, code := object_method_1_code, exceptionTable := #[], attributes := #[] }
def k0m0 : Method := { name := "<init>", desc := "()V", sig := { parameters := [], returnType := none }, accessFlags := 1, code := some k0c0 }
/-- java/lang/Object -/
def k0 : Class := { plain "java/lang/Object" none with
  accessFlags := 33
  interfaces := #[]
  cf := some (fileOf pool0 8 #[] #[{ accessFlags := 1, nameIndex := 5, descriptorIndex := 6, attributes := #[] }] 33 0 #[] #[])
  fields := #[]
  methods := #[k0m0]
  instanceTypes := #[]
  staticTypes := #[]
  resolved := Array.replicate 124 none
  statics := none }

def pool1 : Array CpInfo := pool [(2, .class_ 4), (1, u "java/lang/Object"), (0, u "<init>"), (0, u "()V"), (0, .fieldref 8 9), (0, .class_ 10), (0, .nameAndType 11 12), (0, u "com/example/rulewright/rulewright/games/skorm/Direction"), (0, u "E"), (0, u "Lcom/example/rulewright/rulewright/games/skorm/Direction;"), (0, .fieldref 8 14), (0, .nameAndType 15 12), (0, u "W"), (0, .fieldref 8 17), (0, .nameAndType 18 12), (0, u "NE"), (0, .fieldref 8 20), (0, .nameAndType 21 12), (0, u "NW"), (0, .fieldref 8 23), (0, .nameAndType 24 12), (0, u "SE"), (0, .fieldref 8 26), (0, .nameAndType 27 12), (0, u "SW"), (0, .fieldref 29 30), (0, .class_ 31), (0, .nameAndType 32 33), (0, u "com/example/rulewright/rulewright/games/skorm/PieceType"), (0, u "ARCHER"), (0, u "Lcom/example/rulewright/rulewright/games/skorm/PieceType;"), (0, .fieldref 29 35), (0, .nameAndType 36 33), (0, u "HORSEMAN"), (0, .fieldref 29 38), (0, .nameAndType 39 33), (0, u "WARLORD"), (0, .integer 2147483647), (0, .integer 1073741823), (0, .class_ 43), (0, u "com/example/rulewright/rulewright/games/skorm/Piece"), (0, .methodref 45 46), (0, .class_ 47), (0, .nameAndType 48 49), (0, u "com/example/rulewright/rulewright/games/skorm/PieceGuardsPinLaw"), (0, u "otherType"), (0, u "(I)Lcom/example/rulewright/rulewright/games/skorm/PieceType;"), (0, .methodref 42 51), (0, .nameAndType 5 52), (0, u "(ILcom/example/rulewright/rulewright/games/skorm/PieceType;Lcom/example/rulewright/rulewright/games/skorm/Direction;)V"), (0, .fieldref 29 54), (0, .nameAndType 55 33), (0, u "SHIELDMAN"), (0, .methodref 45 57), (0, .nameAndType 58 59), (0, u "dir"), (0, u "(I)Lcom/example/rulewright/rulewright/games/skorm/Direction;"), (0, .methodref 45 61), (0, .nameAndType 62 63), (0, u "oppIdx"), (0, u "(I)I"), (0, .methodref 42 65), (0, .nameAndType 66 67), (0, u "guards"), (0, u "(Lcom/example/rulewright/rulewright/games/skorm/Direction;)Z"), (3, u "law"), (0, u "(IIII)Z")] 2

def k1m0 : Method := { name := "<init>", desc := "()V", sig := { parameters := [], returnType := none }, accessFlags := 1, code := none }
def k1c1 : Code := { maxStack := 2, maxLocals := 1, code := method_2_code, exceptionTable := #[], attributes := #[] }
def k1m1 : Method := { name := "dir", desc := "(I)Lcom/example/rulewright/rulewright/games/skorm/Direction;", sig := { parameters := [.int], returnType := some (.object "com/example/rulewright/rulewright/games/skorm/Direction") }, accessFlags := 10, code := some k1c1 }
def k1c2 : Code := { maxStack := 2, maxLocals := 1, code := method_3_code, exceptionTable := #[], attributes := #[] }
def k1m2 : Method := { name := "oppIdx", desc := "(I)I", sig := { parameters := [.int], returnType := some .int }, accessFlags := 10, code := some k1c2 }
def k1c3 : Code := { maxStack := 2, maxLocals := 1, code := method_4_code, exceptionTable := #[], attributes := #[] }
def k1m3 : Method := { name := "otherType", desc := "(I)Lcom/example/rulewright/rulewright/games/skorm/PieceType;", sig := { parameters := [.int], returnType := some (.object "com/example/rulewright/rulewright/games/skorm/PieceType") }, accessFlags := 10, code := some k1c3 }
def k1c4 : Code := { maxStack := 5, maxLocals := 10, code := code, exceptionTable := #[], attributes := #[] }
def k1m4 : Method := { name := "law", desc := "(IIII)Z", sig := { parameters := [.int, .int, .int, .int], returnType := some .boolean }, accessFlags := 9, code := some k1c4 }
/-- com/example/rulewright/rulewright/games/skorm/PieceGuardsPinLaw -/
def k1 : Class := { plain "com/example/rulewright/rulewright/games/skorm/PieceGuardsPinLaw" (some 0) with
  accessFlags := 49
  interfaces := #[]
  cf := some (fileOf pool1 45 #[] #[{ accessFlags := 1, nameIndex := 5, descriptorIndex := 6, attributes := #[] }, { accessFlags := 10, nameIndex := 58, descriptorIndex := 59, attributes := #[] }, { accessFlags := 10, nameIndex := 62, descriptorIndex := 63, attributes := #[] }, { accessFlags := 10, nameIndex := 48, descriptorIndex := 49, attributes := #[] }, { accessFlags := 9, nameIndex := 71, descriptorIndex := 72, attributes := #[] }] 49 2 #[] #[])
  fields := #[]
  methods := #[k1m0, k1m1, k1m2, k1m3, k1m4]
  instanceTypes := #[]
  staticTypes := #[]
  resolved := Array.replicate 75 none
  statics := none }

def pool2 : Array CpInfo := pool [(1, .methodref 2 3), (0, .class_ 4), (0, .nameAndType 5 6), (0, u "java/lang/Object"), (0, u "<init>"), (0, u "()V"), (0, .class_ 8), (0, u "java/lang/Record")] 13

def k2c0 : Code := { maxStack := 1, maxLocals := 1, code := jdk_30_method_1_code, exceptionTable := #[], attributes := #[] }
def k2m0 : Method := { name := "<init>", desc := "()V", sig := { parameters := [], returnType := none }, accessFlags := 4, code := some k2c0 }
/-- java/lang/Record -/
def k2 : Class := { plain "java/lang/Record" (some 0) with
  accessFlags := 1057
  interfaces := #[]
  cf := some (fileOf pool2 7 #[] #[{ accessFlags := 4, nameIndex := 5, descriptorIndex := 6, attributes := #[] }] 1057 2 #[] #[])
  fields := #[]
  methods := #[k2m0]
  instanceTypes := #[]
  staticTypes := #[]
  resolved := Array.replicate 22 none
  statics := none }

def pool3 : Array CpInfo := pool [(1, .methodref 2 3), (0, .class_ 4), (0, .nameAndType 5 6), (0, u "java/lang/Record"), (0, u "<init>"), (0, u "()V"), (0, .fieldref 8 9), (0, .class_ 10), (0, .nameAndType 11 12), (0, u "com/example/rulewright/rulewright/games/skorm/Piece"), (0, u "seat"), (0, u "I"), (0, .fieldref 8 14), (0, .nameAndType 15 16), (0, u "type"), (0, u "Lcom/example/rulewright/rulewright/games/skorm/PieceType;"), (0, .fieldref 8 18), (0, .nameAndType 19 20), (0, u "facing"), (0, u "Lcom/example/rulewright/rulewright/games/skorm/Direction;"), (0, .methodref 22 23), (0, .class_ 24), (0, .nameAndType 25 26), (0, u "com/example/rulewright/rulewright/games/skorm/Direction"), (0, u "opposite"), (0, u "()Lcom/example/rulewright/rulewright/games/skorm/Direction;"), (12, u "(ILcom/example/rulewright/rulewright/games/skorm/PieceType;Lcom/example/rulewright/rulewright/games/skorm/Direction;)V"), (3, u "guards"), (0, u "(Lcom/example/rulewright/rulewright/games/skorm/Direction;)Z")] 27

def k3c0 : Code := { maxStack := 2, maxLocals := 4, code := prog_10_method_1_code, exceptionTable := #[], attributes := #[] }
def k3m0 : Method := { name := "<init>", desc := "(ILcom/example/rulewright/rulewright/games/skorm/PieceType;Lcom/example/rulewright/rulewright/games/skorm/Direction;)V", sig := { parameters := [.int, (.object "com/example/rulewright/rulewright/games/skorm/PieceType"), (.object "com/example/rulewright/rulewright/games/skorm/Direction")], returnType := none }, accessFlags := 0, code := some k3c0 }
def k3c1 : Code := { maxStack := 2, maxLocals := 2, code := prog_10_method_2_code, exceptionTable := #[], attributes := #[] }
def k3m1 : Method := { name := "guards", desc := "(Lcom/example/rulewright/rulewright/games/skorm/Direction;)Z", sig := { parameters := [(.object "com/example/rulewright/rulewright/games/skorm/Direction")], returnType := some .boolean }, accessFlags := 0, code := some k3c1 }
/-- com/example/rulewright/rulewright/games/skorm/Piece -/
def k3 : Class := { plain "com/example/rulewright/rulewright/games/skorm/Piece" (some 2) with
  accessFlags := 48
  interfaces := #[]
  cf := some (fileOf pool3 8 #[] #[{ accessFlags := 0, nameIndex := 5, descriptorIndex := 39, attributes := #[] }, { accessFlags := 0, nameIndex := 43, descriptorIndex := 44, attributes := #[] }] 48 2 #[] #[{ accessFlags := 18, nameIndex := 11, descriptorIndex := 12, attributes := #[] }, { accessFlags := 18, nameIndex := 15, descriptorIndex := 16, attributes := #[] }, { accessFlags := 18, nameIndex := 19, descriptorIndex := 20, attributes := #[] }])
  fields := #[{ name := "seat", type := .int, accessFlags := 18, slot := 0, constantValue := 0 }, { name := "type", type := (.object "com/example/rulewright/rulewright/games/skorm/PieceType"), accessFlags := 18, slot := 1, constantValue := 0 }, { name := "facing", type := (.object "com/example/rulewright/rulewright/games/skorm/Direction"), accessFlags := 18, slot := 2, constantValue := 0 }]
  methods := #[k3m0, k3m1]
  instanceTypes := #[.int, (.object "com/example/rulewright/rulewright/games/skorm/PieceType"), (.object "com/example/rulewright/rulewright/games/skorm/Direction")]
  staticTypes := #[]
  resolved := Array.replicate 72 none
  statics := none }

def pool4 : Array CpInfo := pool [(1, .class_ 2), (0, u "java/lang/constant/Constable"), (0, .class_ 4), (0, u "java/lang/Object")] 6

/-- java/lang/constant/Constable -/
def k4 : Class := { plain "java/lang/constant/Constable" (some 0) with
  accessFlags := 1537
  interfaces := #[]
  cf := some (fileOf pool4 1 #[] #[] 1537 3 #[] #[])
  fields := #[]
  methods := #[]
  instanceTypes := #[]
  staticTypes := #[]
  resolved := Array.replicate 11 none
  statics := none }

def pool5 : Array CpInfo := pool [(1, .class_ 2), (0, u "java/lang/Comparable"), (0, .class_ 4), (0, u "java/lang/Object")] 7

/-- java/lang/Comparable -/
def k5 : Class := { plain "java/lang/Comparable" (some 0) with
  accessFlags := 1537
  interfaces := #[]
  cf := some (fileOf pool5 1 #[] #[] 1537 3 #[] #[])
  fields := #[]
  methods := #[]
  instanceTypes := #[]
  staticTypes := #[]
  resolved := Array.replicate 12 none
  statics := none }

def pool6 : Array CpInfo := pool [(1, .class_ 2), (0, u "java/io/Serializable"), (0, .class_ 4), (0, u "java/lang/Object")] 2

/-- java/io/Serializable -/
def k6 : Class := { plain "java/io/Serializable" (some 0) with
  accessFlags := 1537
  interfaces := #[]
  cf := some (fileOf pool6 1 #[] #[] 1537 3 #[] #[])
  fields := #[]
  methods := #[]
  instanceTypes := #[]
  staticTypes := #[]
  resolved := Array.replicate 7 none
  statics := none }

def pool7 : Array CpInfo := pool [(2, .class_ 4), (1, u "java/lang/Enum"), (0, u "name"), (0, u "Ljava/lang/String;"), (0, .fieldref 2 8), (0, .nameAndType 9 10), (0, u "ordinal"), (0, u "I"), (1, .class_ 14), (1, u "java/lang/Object"), (4, u "hash"), (86, .class_ 108), (1, u "java/lang/Enum$EnumDesc"), (2, .class_ 112), (0, u "java/lang/constant/Constable"), (0, .class_ 114), (0, u "java/lang/Comparable"), (0, .class_ 116), (0, u "java/io/Serializable"), (9, u "()I")] 77

def k7c0 : Code := { maxStack := 1, maxLocals := 1, code := jdk_37_method_2_code, exceptionTable := #[], attributes := #[] }
def k7m0 : Method := { name := "ordinal", desc := "()I", sig := { parameters := [], returnType := some .int }, accessFlags := 17, code := some k7c0 }
/-- java/lang/Enum -/
def k7 : Class := { plain "java/lang/Enum" (some 0) with
  accessFlags := 1057
  interfaces := #[4, 5, 6]
  cf := some (fileOf pool7 2 #[.nestMembers #[106]] #[{ accessFlags := 17, nameIndex := 9, descriptorIndex := 126, attributes := #[] }] 1057 12 #[111, 113, 115] #[{ accessFlags := 18, nameIndex := 5, descriptorIndex := 6, attributes := #[] }, { accessFlags := 18, nameIndex := 9, descriptorIndex := 10, attributes := #[] }, { accessFlags := 2, nameIndex := 19, descriptorIndex := 10, attributes := #[] }])
  fields := #[{ name := "name", type := (.object "java/lang/String"), accessFlags := 18, slot := 0, constantValue := 0 }, { name := "ordinal", type := .int, accessFlags := 18, slot := 1, constantValue := 0 }, { name := "hash", type := .int, accessFlags := 2, slot := 2, constantValue := 0 }]
  methods := #[k7m0]
  instanceTypes := #[(.object "java/lang/String"), .int, .int]
  staticTypes := #[]
  resolved := Array.replicate 204 none
  statics := none }

def pool8 : Array CpInfo := pool [(1, .class_ 2), (0, u "com/example/rulewright/rulewright/games/skorm/PieceType"), (2, u "SHIELDMAN"), (0, u "Lcom/example/rulewright/rulewright/games/skorm/PieceType;"), (2, u "ARCHER"), (2, u "HORSEMAN"), (2, u "WARLORD"), (2, u "$VALUES"), (0, u "[Lcom/example/rulewright/rulewright/games/skorm/PieceType;"), (6, .class_ 28), (1, u "java/lang/Enum"), (8, u "letter"), (0, u "Ljava/lang/String;"), (2, u "steps"), (0, u "I"), (2, u "captures"), (0, u "Z"), (2, u "shotRange"), (2, u "faces"), (48, u "EVERY_FACING"), (0, u "[Lcom/example/rulewright/rulewright/games/skorm/Direction;"), (2, u "NO_FACING")] 58

/-- com/example/rulewright/rulewright/games/skorm/PieceType -/
def k8 : Class := { plain "com/example/rulewright/rulewright/games/skorm/PieceType" (some 7) with
  accessFlags := 16432
  interfaces := #[]
  cf := some (fileOf pool8 1 #[] #[] 16432 26 #[] #[{ accessFlags := 16409, nameIndex := 5, descriptorIndex := 6, attributes := #[] }, { accessFlags := 16409, nameIndex := 9, descriptorIndex := 6, attributes := #[] }, { accessFlags := 16409, nameIndex := 12, descriptorIndex := 6, attributes := #[] }, { accessFlags := 16409, nameIndex := 15, descriptorIndex := 6, attributes := #[] }, { accessFlags := 26, nameIndex := 105, descriptorIndex := 102, attributes := #[] }, { accessFlags := 26, nameIndex := 101, descriptorIndex := 102, attributes := #[] }, { accessFlags := 18, nameIndex := 37, descriptorIndex := 38, attributes := #[] }, { accessFlags := 18, nameIndex := 41, descriptorIndex := 42, attributes := #[] }, { accessFlags := 18, nameIndex := 45, descriptorIndex := 46, attributes := #[] }, { accessFlags := 18, nameIndex := 49, descriptorIndex := 42, attributes := #[] }, { accessFlags := 18, nameIndex := 52, descriptorIndex := 46, attributes := #[] }, { accessFlags := 4122, nameIndex := 18, descriptorIndex := 19, attributes := #[] }])
  fields := #[{ name := "SHIELDMAN", type := (.object "com/example/rulewright/rulewright/games/skorm/PieceType"), accessFlags := 16409, slot := 0, constantValue := 0 }, { name := "ARCHER", type := (.object "com/example/rulewright/rulewright/games/skorm/PieceType"), accessFlags := 16409, slot := 1, constantValue := 0 }, { name := "HORSEMAN", type := (.object "com/example/rulewright/rulewright/games/skorm/PieceType"), accessFlags := 16409, slot := 2, constantValue := 0 }, { name := "WARLORD", type := (.object "com/example/rulewright/rulewright/games/skorm/PieceType"), accessFlags := 16409, slot := 3, constantValue := 0 }, { name := "NO_FACING", type := (.array (.object "com/example/rulewright/rulewright/games/skorm/Direction")), accessFlags := 26, slot := 4, constantValue := 0 }, { name := "EVERY_FACING", type := (.array (.object "com/example/rulewright/rulewright/games/skorm/Direction")), accessFlags := 26, slot := 5, constantValue := 0 }, { name := "letter", type := (.object "java/lang/String"), accessFlags := 18, slot := 3, constantValue := 0 }, { name := "steps", type := .int, accessFlags := 18, slot := 4, constantValue := 0 }, { name := "captures", type := .boolean, accessFlags := 18, slot := 5, constantValue := 0 }, { name := "shotRange", type := .int, accessFlags := 18, slot := 6, constantValue := 0 }, { name := "faces", type := .boolean, accessFlags := 18, slot := 7, constantValue := 0 }, { name := "$VALUES", type := (.array (.object "com/example/rulewright/rulewright/games/skorm/PieceType")), accessFlags := 4122, slot := 6, constantValue := 0 }]
  methods := #[]
  instanceTypes := #[(.object "java/lang/String"), .int, .int, (.object "java/lang/String"), .int, .boolean, .int, .boolean]
  staticTypes := #[(.object "com/example/rulewright/rulewright/games/skorm/PieceType"), (.object "com/example/rulewright/rulewright/games/skorm/PieceType"), (.object "com/example/rulewright/rulewright/games/skorm/PieceType"), (.object "com/example/rulewright/rulewright/games/skorm/PieceType"), (.array (.object "com/example/rulewright/rulewright/games/skorm/Direction")), (.array (.object "com/example/rulewright/rulewright/games/skorm/Direction")), (.array (.object "com/example/rulewright/rulewright/games/skorm/PieceType"))]
  resolved := Array.replicate 164 none
  statics := some 0 }

def pool9 : Array CpInfo := pool [(1, .class_ 2), (0, u "com/example/rulewright/rulewright/games/skorm/Direction"), (2, u "E"), (0, u "Lcom/example/rulewright/rulewright/games/skorm/Direction;"), (2, u "W"), (2, u "NE"), (2, u "NW"), (2, u "SE"), (2, u "SW"), (2, u "$VALUES"), (0, u "[Lcom/example/rulewright/rulewright/games/skorm/Direction;"), (6, .class_ 34), (1, u "java/lang/Enum"), (8, u "rowStep"), (0, u "I"), (2, u "numberStep"), (24, .fieldref 1 73), (0, .nameAndType 74 25), (0, u "OPPOSITES"), (0, .methodref 1 76), (0, .nameAndType 77 78), (0, u "ordinal"), (0, u "()I"), (22, u "opposite"), (0, u "()Lcom/example/rulewright/rulewright/games/skorm/Direction;")] 5

def k9c0 : Code := { maxStack := 2, maxLocals := 1, code := prog_9_method_7_code, exceptionTable := #[], attributes := #[] }
def k9m0 : Method := { name := "opposite", desc := "()Lcom/example/rulewright/rulewright/games/skorm/Direction;", sig := { parameters := [], returnType := some (.object "com/example/rulewright/rulewright/games/skorm/Direction") }, accessFlags := 0, code := some k9c0 }
/-- com/example/rulewright/rulewright/games/skorm/Direction -/
def k9 : Class := { plain "com/example/rulewright/rulewright/games/skorm/Direction" (some 7) with
  accessFlags := 16432
  interfaces := #[]
  cf := some (fileOf pool9 1 #[] #[{ accessFlags := 0, nameIndex := 101, descriptorIndex := 102, attributes := #[] }] 16432 32 #[] #[{ accessFlags := 16409, nameIndex := 5, descriptorIndex := 6, attributes := #[] }, { accessFlags := 16409, nameIndex := 9, descriptorIndex := 6, attributes := #[] }, { accessFlags := 16409, nameIndex := 12, descriptorIndex := 6, attributes := #[] }, { accessFlags := 16409, nameIndex := 15, descriptorIndex := 6, attributes := #[] }, { accessFlags := 16409, nameIndex := 18, descriptorIndex := 6, attributes := #[] }, { accessFlags := 16409, nameIndex := 21, descriptorIndex := 6, attributes := #[] }, { accessFlags := 26, nameIndex := 74, descriptorIndex := 25, attributes := #[] }, { accessFlags := 18, nameIndex := 43, descriptorIndex := 44, attributes := #[] }, { accessFlags := 18, nameIndex := 47, descriptorIndex := 44, attributes := #[] }, { accessFlags := 4122, nameIndex := 24, descriptorIndex := 25, attributes := #[] }])
  fields := #[{ name := "E", type := (.object "com/example/rulewright/rulewright/games/skorm/Direction"), accessFlags := 16409, slot := 0, constantValue := 0 }, { name := "W", type := (.object "com/example/rulewright/rulewright/games/skorm/Direction"), accessFlags := 16409, slot := 1, constantValue := 0 }, { name := "NE", type := (.object "com/example/rulewright/rulewright/games/skorm/Direction"), accessFlags := 16409, slot := 2, constantValue := 0 }, { name := "NW", type := (.object "com/example/rulewright/rulewright/games/skorm/Direction"), accessFlags := 16409, slot := 3, constantValue := 0 }, { name := "SE", type := (.object "com/example/rulewright/rulewright/games/skorm/Direction"), accessFlags := 16409, slot := 4, constantValue := 0 }, { name := "SW", type := (.object "com/example/rulewright/rulewright/games/skorm/Direction"), accessFlags := 16409, slot := 5, constantValue := 0 }, { name := "OPPOSITES", type := (.array (.object "com/example/rulewright/rulewright/games/skorm/Direction")), accessFlags := 26, slot := 6, constantValue := 0 }, { name := "rowStep", type := .int, accessFlags := 18, slot := 3, constantValue := 0 }, { name := "numberStep", type := .int, accessFlags := 18, slot := 4, constantValue := 0 }, { name := "$VALUES", type := (.array (.object "com/example/rulewright/rulewright/games/skorm/Direction")), accessFlags := 4122, slot := 7, constantValue := 0 }]
  methods := #[k9m0]
  instanceTypes := #[(.object "java/lang/String"), .int, .int, .int, .int]
  staticTypes := #[(.object "com/example/rulewright/rulewright/games/skorm/Direction"), (.object "com/example/rulewright/rulewright/games/skorm/Direction"), (.object "com/example/rulewright/rulewright/games/skorm/Direction"), (.object "com/example/rulewright/rulewright/games/skorm/Direction"), (.object "com/example/rulewright/rulewright/games/skorm/Direction"), (.object "com/example/rulewright/rulewright/games/skorm/Direction"), (.array (.object "com/example/rulewright/rulewright/games/skorm/Direction")), (.array (.object "com/example/rulewright/rulewright/games/skorm/Direction"))]
  resolved := Array.replicate 108 none
  statics := some 1 }

def pool10 : Array CpInfo := pool [(1, u "java/lang/Cloneable"), (0, .class_ 1), (0, u "java/lang/Object"), (0, .class_ 3)] 3

/-- java/lang/Cloneable -/
def k10 : Class := { plain "java/lang/Cloneable" (some 0) with
  accessFlags := 1537
  interfaces := #[]
  cf := some (fileOf pool10 2 #[] #[] 1537 4 #[] #[])
  fields := #[]
  methods := #[]
  instanceTypes := #[]
  staticTypes := #[]
  resolved := Array.replicate 8 none
  statics := none }

/-- the primitive byte -/
def k11 : Class := { plain "byte" none with kind := .primitive 'B', accessFlags := 0x411 }
/-- [B -/
def k12 : Class := { plain "[B" (some 0) with kind := .array 11 .byte, interfaces := #[10, 6], accessFlags := 1041 }

/-- the primitive int -/
def k13 : Class := { plain "int" none with kind := .primitive 'I', accessFlags := 0x411 }
/-- [I -/
def k14 : Class := { plain "[I" (some 0) with kind := .array 13 .int, interfaces := #[10, 6], accessFlags := 1041 }

/-- [Lcom/example/rulewright/rulewright/games/skorm/Direction; -/
def k15 : Class := { plain "[Lcom/example/rulewright/rulewright/games/skorm/Direction;" (some 0) with kind := .array 9 (.object "com/example/rulewright/rulewright/games/skorm/Direction"), interfaces := #[10, 6], accessFlags := 1041 }

def heap : Heap := #[{ cls := 8, slots := #[.ref 3, .ref 11, .ref 10, .ref 12, .null, .null, .null], vm := .statics 8 },
  { cls := 9, slots := #[.ref 9, .ref 8, .ref 5, .ref 4, .ref 7, .ref 6, .ref 2, .null], vm := .statics 9 },
  { cls := 15, slots := #[.ref 8, .ref 9, .ref 6, .ref 7, .ref 4, .ref 5], vm := .none },
  { cls := 8, slots := #[.null, .int 0, .int 0, .null, .int 0, .int 0, .int 0, .int 0], vm := .none },
  { cls := 9, slots := #[.null, .int 3, .int 0, .int 0, .int 0], vm := .none },
  { cls := 9, slots := #[.null, .int 2, .int 0, .int 0, .int 0], vm := .none },
  { cls := 9, slots := #[.null, .int 5, .int 0, .int 0, .int 0], vm := .none },
  { cls := 9, slots := #[.null, .int 4, .int 0, .int 0, .int 0], vm := .none },
  { cls := 9, slots := #[.null, .int 1, .int 0, .int 0, .int 0], vm := .none },
  { cls := 9, slots := #[.null, .int 0, .int 0, .int 0, .int 0], vm := .none },
  { cls := 8, slots := #[.null, .int 0, .int 0, .null, .int 0, .int 0, .int 0, .int 0], vm := .none },
  { cls := 8, slots := #[.null, .int 0, .int 0, .null, .int 0, .int 0, .int 0, .int 0], vm := .none },
  { cls := 8, slots := #[.null, .int 0, .int 0, .null, .int 0, .int 0, .int 0, .int 0], vm := .none }]
def classes : Array Class := #[k0, k1, k2, k3, k4, k5, k6, k7, k8, k9, k10, k11, k12, k13, k14, k15]
def interned : List (Array UInt16 × Addr) := []
def slotsUsed : Nat := 83
def theMethod : MethodId := ⟨1, 4⟩
def args0 : Array Value := #[.int 5, .int 1, .int 2, .int 3]
def aboutOver (below : List Frame) : State where
  vm := { classes := classes, interned := interned.toArray }
  heap := heap
  slotsUsed := slotsUsed
  threads := #[{ frames := .invoking theMethod args0 :: below }]
def below0 : List Frame := [.native { method := ⟨0, 0⟩, args := #[] }]
def about1 : State := aboutOver below0
def p0 : Program := .bare "" "" ""
def e0 : Env := launch0.env 0 0 0
theorem w_frames : about1.frames = Frame.invoking theMethod args0 :: below0 := rfl
set_option maxRecDepth 65536 in
theorem w_args : argsFit about1.vm theMethod args0 = true := by decide +kernel
set_option maxRecDepth 65536 in
theorem w_heap : heapFits about1 = true := by decide +kernel
set_option maxRecDepth 65536 in
theorem w_runnable : about1.curStatus? = some .runnable := by decide +kernel
set_option maxRecDepth 65536 in
theorem w_alone : about1.alone = true := by decide +kernel
set_option maxRecDepth 65536 in
theorem w_named : about1.methodNamed? x = some theMethod := by decide +kernel
set_option maxRecDepth 65536 in
theorem w_hears : about1.hears theMethod below0 = true := by decide +kernel
set_option maxRecDepth 65536 in
theorem w_ripe : about1.ripe theMethod args0 below0 = true := by decide +kernel
theorem w_running : about1.status = .running := rfl
set_option maxRecDepth 65536 in
theorem w_room : about1.hasRoom e0.platform room_1 = true :=
  launch0.hasRoom_least _ room_1 (by decide +kernel) (by decide +kernel) (by decide +kernel) (by decide +kernel) (by decide +kernel) (by decide +kernel)
theorem allAtoms_all (ts : List Jvm.Cond) (a : Array Jvm.Value) (st : Jvm.State) : (allAtoms ts).before a st = ts.all (fun c => c.before a st) := by
  induction ts with
  | nil => rfl
  | cons c t ih =>
    show (Jvm.Cond.and c (allAtoms t)).before a st = _
    rw [Jvm.Cond.before_and, ih, List.all_cons]
def words1 : List Jvm.Cond := Jvm.Cond.code x code maxLocals ret :: tables_1
/-- a 'code' word, met by the world's own term for the bytes: nothing is compared byte by byte -/
theorem code_word {y : MethodName} {bytes : ByteArray} {mx : Nat} {rt : Option FieldType} {a : Array Value} {s : State} {m : MethodId} {meth : Method} {c : Code} (h1 : s.methodNamed? y = some m) (h2 : s.vm.method? m = some meth) (h3 : meth.code = some c) (h4 : c.code = bytes)
    (h5 : (c.maxLocals == mx && c.exceptionTable.isEmpty && decide (c.maxStack ≤ mostOperands) && decide (meth.sig.returnType = rt) && !meth.locks && decide (parseMethodDescriptor y.desc = some meth.sig)) = true) : (Jvm.Cond.code y bytes mx rt).before a s = true := by
  simp only [Bool.and_eq_true, beq_iff_eq, Bool.not_eq_true', decide_eq_true_eq] at h5
  obtain ⟨⟨⟨⟨⟨g1, g2⟩, g3⟩, g4⟩, g5⟩, g6⟩ := h5
  simp [Cond.before, Cond.holds, Cond.value, h1, h2, h3, h4, g1, g2, g3, g4, g5, g6]
def isCode : Jvm.Cond → Bool
  | .code _ _ _ _ => true
  | _ => false
theorem all_split {L : List Jvm.Cond} {P : Jvm.Cond → Bool} (h1 : L.all (fun c => isCode c || P c) = true) (h2 : ∀ c ∈ L.filter isCode, P c = true) : L.all P = true := by
  refine List.all_eq_true.mpr fun c hc => ?_
  have h := List.all_eq_true.mp h1 c hc
  rcases Bool.eq_false_or_eq_true (isCode c) with hi | hi
  · exact h2 c (List.mem_filter.mpr ⟨hc, hi⟩)
  · simpa [hi] using h
set_option maxRecDepth 65536 in
theorem w_c0 : (Jvm.Cond.code x code maxLocals ret).before args0 about1 = true := code_word (m := ⟨1, 4⟩) (meth := k1m4) (c := k1c4) (by decide +kernel) rfl rfl rfl (by decide +kernel)
set_option maxRecDepth 65536 in
theorem w_c1 : (Jvm.Cond.code ({ cls := "com/example/rulewright/rulewright/games/skorm/PieceGuardsPinLaw", name := "dir", desc := "(I)Lcom/example/rulewright/rulewright/games/skorm/Direction;" } : Jvm.MethodName) method_2_code (1 : Nat) (Option.some (Jvm.ClassFile.FieldType.object "com/example/rulewright/rulewright/games/skorm/Direction"))).before args0 about1 = true := code_word (m := ⟨1, 1⟩) (meth := k1m1) (c := k1c1) (by decide +kernel) rfl rfl rfl (by decide +kernel)
set_option maxRecDepth 65536 in
theorem w_c2 : (Jvm.Cond.code ({ cls := "com/example/rulewright/rulewright/games/skorm/Piece", name := "<init>", desc := "(ILcom/example/rulewright/rulewright/games/skorm/PieceType;Lcom/example/rulewright/rulewright/games/skorm/Direction;)V" } : Jvm.MethodName) prog_10_method_1_code (4 : Nat) (Option.none : Option Jvm.ClassFile.FieldType)).before args0 about1 = true := code_word (m := ⟨3, 0⟩) (meth := k3m0) (c := k3c0) (by decide +kernel) rfl rfl rfl (by decide +kernel)
set_option maxRecDepth 65536 in
theorem w_c3 : (Jvm.Cond.code ({ cls := "java/lang/Record", name := "<init>", desc := "()V" } : Jvm.MethodName) jdk_30_method_1_code (1 : Nat) (Option.none : Option Jvm.ClassFile.FieldType)).before args0 about1 = true := code_word (m := ⟨2, 0⟩) (meth := k2m0) (c := k2c0) (by decide +kernel) rfl rfl rfl (by decide +kernel)
set_option maxRecDepth 65536 in
theorem w_c4 : (Jvm.Cond.code ({ cls := "java/lang/Object", name := "<init>", desc := "()V" } : Jvm.MethodName) object_method_1_code (1 : Nat) (Option.none : Option Jvm.ClassFile.FieldType)).before args0 about1 = true := code_word (m := ⟨0, 0⟩) (meth := k0m0) (c := k0c0) (by decide +kernel) rfl rfl rfl (by decide +kernel)
set_option maxRecDepth 65536 in
theorem w_c5 : (Jvm.Cond.code ({ cls := "com/example/rulewright/rulewright/games/skorm/PieceGuardsPinLaw", name := "oppIdx", desc := "(I)I" } : Jvm.MethodName) method_3_code (1 : Nat) (Option.some Jvm.ClassFile.FieldType.int)).before args0 about1 = true := code_word (m := ⟨1, 2⟩) (meth := k1m2) (c := k1c2) (by decide +kernel) rfl rfl rfl (by decide +kernel)
set_option maxRecDepth 65536 in
theorem w_c6 : (Jvm.Cond.code ({ cls := "com/example/rulewright/rulewright/games/skorm/Piece", name := "guards", desc := "(Lcom/example/rulewright/rulewright/games/skorm/Direction;)Z" } : Jvm.MethodName) prog_10_method_2_code (2 : Nat) (Option.some Jvm.ClassFile.FieldType.boolean)).before args0 about1 = true := code_word (m := ⟨3, 1⟩) (meth := k3m1) (c := k3c1) (by decide +kernel) rfl rfl rfl (by decide +kernel)
set_option maxRecDepth 65536 in
theorem w_c7 : (Jvm.Cond.code ({ cls := "com/example/rulewright/rulewright/games/skorm/Direction", name := "opposite", desc := "()Lcom/example/rulewright/rulewright/games/skorm/Direction;" } : Jvm.MethodName) prog_9_method_7_code (1 : Nat) (Option.some (Jvm.ClassFile.FieldType.object "com/example/rulewright/rulewright/games/skorm/Direction"))).before args0 about1 = true := code_word (m := ⟨9, 0⟩) (meth := k9m0) (c := k9c0) (by decide +kernel) rfl rfl rfl (by decide +kernel)
set_option maxRecDepth 65536 in
theorem w_c8 : (Jvm.Cond.code ({ cls := "java/lang/Enum", name := "ordinal", desc := "()I" } : Jvm.MethodName) jdk_37_method_2_code (1 : Nat) (Option.some Jvm.ClassFile.FieldType.int)).before args0 about1 = true := code_word (m := ⟨7, 0⟩) (meth := k7m0) (c := k7c0) (by decide +kernel) rfl rfl rfl (by decide +kernel)
set_option maxRecDepth 65536 in
theorem w_c9 : (Jvm.Cond.code ({ cls := "com/example/rulewright/rulewright/games/skorm/PieceGuardsPinLaw", name := "otherType", desc := "(I)Lcom/example/rulewright/rulewright/games/skorm/PieceType;" } : Jvm.MethodName) method_4_code (1 : Nat) (Option.some (Jvm.ClassFile.FieldType.object "com/example/rulewright/rulewright/games/skorm/PieceType"))).before args0 about1 = true := code_word (m := ⟨1, 3⟩) (meth := k1m3) (c := k1c3) (by decide +kernel) rfl rfl rfl (by decide +kernel)
def codes1 : List Jvm.Cond := [Jvm.Cond.code x code maxLocals ret, Jvm.Cond.code ({ cls := "com/example/rulewright/rulewright/games/skorm/PieceGuardsPinLaw", name := "dir", desc := "(I)Lcom/example/rulewright/rulewright/games/skorm/Direction;" } : Jvm.MethodName) method_2_code (1 : Nat) (Option.some (Jvm.ClassFile.FieldType.object "com/example/rulewright/rulewright/games/skorm/Direction")), Jvm.Cond.code ({ cls := "com/example/rulewright/rulewright/games/skorm/Piece", name := "<init>", desc := "(ILcom/example/rulewright/rulewright/games/skorm/PieceType;Lcom/example/rulewright/rulewright/games/skorm/Direction;)V" } : Jvm.MethodName) prog_10_method_1_code (4 : Nat) (Option.none : Option Jvm.ClassFile.FieldType), Jvm.Cond.code ({ cls := "java/lang/Record", name := "<init>", desc := "()V" } : Jvm.MethodName) jdk_30_method_1_code (1 : Nat) (Option.none : Option Jvm.ClassFile.FieldType), Jvm.Cond.code ({ cls := "java/lang/Object", name := "<init>", desc := "()V" } : Jvm.MethodName) object_method_1_code (1 : Nat) (Option.none : Option Jvm.ClassFile.FieldType), Jvm.Cond.code ({ cls := "com/example/rulewright/rulewright/games/skorm/PieceGuardsPinLaw", name := "oppIdx", desc := "(I)I" } : Jvm.MethodName) method_3_code (1 : Nat) (Option.some Jvm.ClassFile.FieldType.int), Jvm.Cond.code ({ cls := "com/example/rulewright/rulewright/games/skorm/Piece", name := "guards", desc := "(Lcom/example/rulewright/rulewright/games/skorm/Direction;)Z" } : Jvm.MethodName) prog_10_method_2_code (2 : Nat) (Option.some Jvm.ClassFile.FieldType.boolean), Jvm.Cond.code ({ cls := "com/example/rulewright/rulewright/games/skorm/Direction", name := "opposite", desc := "()Lcom/example/rulewright/rulewright/games/skorm/Direction;" } : Jvm.MethodName) prog_9_method_7_code (1 : Nat) (Option.some (Jvm.ClassFile.FieldType.object "com/example/rulewright/rulewright/games/skorm/Direction")), Jvm.Cond.code ({ cls := "java/lang/Enum", name := "ordinal", desc := "()I" } : Jvm.MethodName) jdk_37_method_2_code (1 : Nat) (Option.some Jvm.ClassFile.FieldType.int), Jvm.Cond.code ({ cls := "com/example/rulewright/rulewright/games/skorm/PieceGuardsPinLaw", name := "otherType", desc := "(I)Lcom/example/rulewright/rulewright/games/skorm/PieceType;" } : Jvm.MethodName) method_4_code (1 : Nat) (Option.some (Jvm.ClassFile.FieldType.object "com/example/rulewright/rulewright/games/skorm/PieceType"))]
set_option maxRecDepth 65536 in
theorem codes_eq : words1.filter isCode = codes1 := rfl
theorem w_codes : ∀ c ∈ words1.filter isCode, c.before args0 about1 = true := by
  rw [codes_eq]
  intro c hc
  simp only [codes1, List.mem_cons, List.not_mem_nil, or_false] at hc
  rcases hc with rfl | rfl | rfl | rfl | rfl | rfl | rfl | rfl | rfl | rfl
  · exact w_c0
  · exact w_c1
  · exact w_c2
  · exact w_c3
  · exact w_c4
  · exact w_c5
  · exact w_c6
  · exact w_c7
  · exact w_c8
  · exact w_c9
set_option maxRecDepth 65536 in
theorem w_t1 : (words1.take 24).all (fun c => isCode c || c.before args0 about1) = true := by decide +kernel
set_option maxRecDepth 65536 in
theorem w_t2 : ((words1.drop 24).take 24).all (fun c => isCode c || c.before args0 about1) = true := by decide +kernel
set_option maxRecDepth 65536 in
theorem w_t3 : (((words1.drop 24).drop 24).take 24).all (fun c => isCode c || c.before args0 about1) = true := by decide +kernel
set_option maxRecDepth 65536 in
theorem w_t4 : (((words1.drop 24).drop 24).drop 24).all (fun c => isCode c || c.before args0 about1) = true := by decide +kernel
theorem w_tables : (allAtoms (Jvm.Cond.code x code maxLocals ret :: tables_1)).before args0 about1 = true := by
  rw [allAtoms_all]
  show words1.all (fun c => c.before args0 about1) = true
  refine all_split ?_ w_codes
  rw [← List.take_append_drop 24 words1, List.all_append, w_t1, ← List.take_append_drop 24 (words1.drop 24), List.all_append, w_t2, ← List.take_append_drop 24 ((words1.drop 24).drop 24), List.all_append, w_t3, w_t4]
  rfl
set_option maxRecDepth 65536 in
theorem w_case : (Jvm.Cond.and given_1 narrow_1).before args0 about1 = true := by decide +kernel
theorem w_applies : (headSpec (Jvm.Cond.code x code maxLocals ret :: tables_1) room_1).applies x e0.platform about1 = true :=
  (Spec.applies_iff w_frames).mpr ⟨w_running, w_runnable, w_alone, w_named, w_hears, w_ripe, w_room, w_tables⟩
theorem atStart : AtStart classFile x code maxLocals ret World_1 tables_1 room_1 Calls_1 rest_1 Pre_1 launch0 p0 e0 about1 theMethod args0 below0 :=
  ⟨lists_1, trivial, launch0.admits_env _ _ _, launch0.least_env, fairChoices_fair.cas, fairChoices_fair.clock, w_frames, w_args, w_heap, w_applies, trivial, trivial, w_case⟩
end start1
theorem witness_1 : WitnessClaimed_1 := ⟨start1.p0, start1.e0, start1.about1, start1.theMethod, start1.args0, start1.below0, start1.atStart⟩
end Jvm.Pilot.@@N@@
