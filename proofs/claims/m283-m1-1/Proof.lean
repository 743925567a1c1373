import JvmDerived
import JvmDerived.Pilot.@@N@@Statement
import JvmDerived.Pilot.@@N@@Code
set_option linter.unusedVariables false
set_option linter.unusedSimpArgs false
namespace Jvm.RoadKit
open Sem ClassFile Op Lib Jvm.Stand Jvm.Free Jvm.LawKit
/-- the run from S comes to an end that Post allows -/
def own_Fin (tb : Tables) (e : Env) (below : List Frame) (Post : Outcome → State → Prop) (S : State) : Prop := ∃ s₂ o, Steps tb e below S s₂ ∧ s₂.status = .running ∧ Ended s₂ below o ∧ Post o s₂
def own_post (Q : Option Value → Heap → List Loc → Prop) (s : State) (k n : Nat) (o : Outcome) (U : State) : Prop := ∃ v L, o = .returned v ∧ Q v U.heap L ∧ FrameEnd s o U L k n
def own_bool (P : Prop) (v : Option Value) : Prop := (v = some (.int 1) ∧ P) ∨ (v = some (.int 0) ∧ ¬ P)
theorem own_Fin.step {tb : Tables} {e : Env} {below : List Frame} {Post : Outcome → State → Prop} {S S' : State} (h : ∀ t, Steps tb e below S' t → Steps tb e below S t) (k : own_Fin tb e below Post S') : own_Fin tb e below Post S := by
  obtain ⟨s2, o, h1, h2⟩ := k
  exact ⟨s2, o, h _ h1, h2⟩
theorem own_Fin.trans {tb : Tables} {e : Env} {below : List Frame} {Post : Outcome → State → Prop} {S S' : State} (h : Steps tb e below S S') (k : own_Fin tb e below Post S') : own_Fin tb e below Post S := by
  obtain ⟨s2, o, h1, h2⟩ := k
  exact ⟨s2, o, h.trans h1, h2⟩
section New
variable {p : Program} {l : Launch} {e : Env} {R : Room} {s : State} {m : MethodId} {args : Array Value} {below : List Frame} {meth : Method} {c : Code} {T : State} {locs : List Loc} {cells slots : Nat} {Q : Option Value → Heap → List Loc → Prop} {kc ks : Nat} {h : Heap}
theorem retI (X : Stand p l e R s m args below meth c T locs cells slots) (hx : p.tables.exec = Jvm.exec) {pc : Nat} {Ls : Array Slot} {z : Int32} {rest : List Value} (hret : meth.sig.returnType = some .int) (hd : decode c.code pc = .ok (.ireturn, 1)) {fs : List Frame}
    (hl : ∀ (f : JFrame) (acts : List Action), f.method = m → f.locked = none → f.entered = [] → (doReturn e (T.setTop f) acts (some (.int z))).1 = T.setFrames fs) : Steps p.tables e below (T.setTop (mkF m pc Ls (.int z :: rest))) (T.setFrames fs) := by
  have hm' : T.vm.method? m = some meth := X.method'
  have hn : narrow .int (.int z) = .int z := rfl
  show Steps p.tables e below (T.setTop { method := m, pc := pc, locals := Ls, stack := _ :: rest, locked := none }) _
  jvm_step X.here [X.here.top, hx, hd, hm', hret, hn]
  first | (intro acts; rw [hl _ acts rfl rfl rfl]) | rw [hl _ _ rfl rfl rfl]
  exact Steps.refl _
theorem own_retN (X : Stand p l e R s m args below meth c T locs cells slots) (hx : p.tables.exec = Jvm.exec) (hlk : meth.locks = false) {pc : Nat} {Ls : Array Slot} {z : Int32} {t : FieldType} {rest : List Value} (hret : meth.sig.returnType = some t) (ht : t = .boolean ∨ t = .byte ∨ t = .char ∨ t = .short)
    (hd : decode c.code pc = .ok (.ireturn, 1)) (eT : T.heap = h) (hq : Q (some (.int (nar t z))) h locs) (hc : cells ≤ kc) (hs : slots ≤ ks) : own_Fin p.tables e below (own_post Q s kc ks) (T.setTop (mkF m pc Ls (.int z :: rest))) := by
  obtain ⟨fs, hr, hrun, hended, hW, hsame⟩ := X.leave (v := some (.int (nar t z))) (fun h => by rw [hret] at h; cases h) hlk
  exact ⟨_, _, retN X hx hret ht hd hr, hrun, hended, _, _, rfl, (eT ▸ hq : Q (some (.int (nar t z))) T.heap locs), ⟨_, rfl⟩, hW, hsame.mono hc hs⟩
theorem own_retI (X : Stand p l e R s m args below meth c T locs cells slots) (hx : p.tables.exec = Jvm.exec) (hlk : meth.locks = false) {pc : Nat} {Ls : Array Slot} {z : Int32} {rest : List Value} (hret : meth.sig.returnType = some .int)
    (hd : decode c.code pc = .ok (.ireturn, 1)) (eT : T.heap = h) (hq : Q (some (.int z)) h locs) (hc : cells ≤ kc) (hs : slots ≤ ks) : own_Fin p.tables e below (own_post Q s kc ks) (T.setTop (mkF m pc Ls (.int z :: rest))) := by
  obtain ⟨fs, hr, hrun, hended, hW, hsame⟩ := X.leave (v := some (.int z)) (fun h => by rw [hret] at h; cases h) hlk
  exact ⟨_, _, retI X hx hret hd hr, hrun, hended, _, _, rfl, (eT ▸ hq : Q (some (.int z)) T.heap locs), ⟨_, rfl⟩, hW, hsame.mono hc hs⟩
theorem own_retJ (X : Stand p l e R s m args below meth c T locs cells slots) (hx : p.tables.exec = Jvm.exec) (hlk : meth.locks = false) {pc : Nat} {Ls : Array Slot} {z : Int64} (hret : meth.sig.returnType = some .long)
    (hd : decode c.code pc = .ok (.lreturn, 1)) (eT : T.heap = h) (hq : Q (some (.long z)) h locs) (hc : cells ≤ kc) (hs : slots ≤ ks) : own_Fin p.tables e below (own_post Q s kc ks) (T.setTop (mkF m pc Ls [.long z])) := by
  obtain ⟨fs, hr, hrun, hended, hW, hsame⟩ := X.leave (v := some (.long z)) (fun h => by rw [hret] at h; cases h) hlk
  exact ⟨_, _, X.lreturnOut hx hret hd hr, hrun, hended, _, _, rfl, (eT ▸ hq : Q (some (.long z)) T.heap locs), ⟨_, rfl⟩, hW, hsame.mono hc hs⟩
theorem own_retR (X : Stand p l e R s m args below meth c T locs cells slots) (hx : p.tables.exec = Jvm.exec) (hlk : meth.locks = false) {pc : Nat} {Ls : Array Slot} {w : Value} {t : FieldType} (hw : w.isRef = true) (hret : meth.sig.returnType = some t) (ht : t.isReference = true)
    (hd : decode c.code pc = .ok (.areturn, 1)) (eT : T.heap = h) (hq : Q (some w) h locs) (hc : cells ≤ kc) (hs : slots ≤ ks) : own_Fin p.tables e below (own_post Q s kc ks) (T.setTop (mkF m pc Ls [w])) := by
  obtain ⟨fs, hr, hrun, hended, hW, hsame⟩ := X.leave (v := some w) (fun h => by rw [hret] at h; cases h) hlk
  exact ⟨_, _, X.areturnOut hx hw hret ht hd hr, hrun, hended, _, _, rfl, (eT ▸ hq : Q (some w) T.heap locs), ⟨_, rfl⟩, hW, hsame.mono hc hs⟩
theorem own_retV (X : Stand p l e R s m args below meth c T locs cells slots) (hx : p.tables.exec = Jvm.exec) (hlk : meth.locks = false) {pc : Nat} {Ls : Array Slot} (hret : meth.sig.returnType = none)
    (hd : decode c.code pc = .ok (.return_, 1)) (eT : T.heap = h) (hq : Q none h locs) (hc : cells ≤ kc) (hs : slots ≤ ks) : own_Fin p.tables e below (own_post Q s kc ks) (T.setTop (mkF m pc Ls [])) := by
  obtain ⟨fs, hr, hrun, hended, hW, hsame⟩ := X.leave (v := none) (fun _ => rfl) hlk
  exact ⟨_, _, X.returnOut hx hret hd hr, hrun, hended, _, _, rfl, (eT ▸ hq : Q none T.heap locs), ⟨_, rfl⟩, hW, hsame.mono hc hs⟩
theorem own_cat1 {v : Value} (h : v.isRef = true) : v.category = 1 := by cases v <;> simp [Value.isRef, Value.category] at h ⊢
theorem own_fitR {v : Value} {C : String} (h : v.isRef = true) : fits (.object C) v = true := by cases v <;> simp [Value.isRef, fits] at h ⊢
theorem own_fitA {v : Value} {ty : FieldType} (h : v.isRef = true) : fits (.array ty) v = true := by cases v <;> simp [Value.isRef, fits] at h ⊢
theorem own_selPriv {s : State} {args : Array Value} {y : MethodName} {n : Nat} (hi : (Cond.instantiable y.cls n).before args s = true) (hpriv : s.PrivateAt y) (hinst : (Cond.instanceMethod y).before args s = true) (hy : y.cls ≠ "java/lang/invoke/MethodHandle" ∧ y.cls ≠ "java/lang/invoke/VarHandle") : (Cond.selects y.cls y y).before args s = true := by
  obtain ⟨c, k, h1, h2, -, h4, -, -⟩ := Cond.instantiable_spec hi
  have h5 : k.isInterface = false := by
    cases hk : k.isInterface with
    | false => rfl
    | true => simp [hk] at h4
  exact selects_self_of_private h1 h2 h5 hpriv hinst hy
theorem own_eqI {a b : Term} {args : Array Value} {first st : State} {o : Option Outcome} {idx : List Nat} {y : Int32} (h : (Cond.eq a b).value args first o st idx = some true) (hb : b.eval args first o idx st = some (.int y)) : a.eval args first o idx st = some (.int y) := by
  cases ha : a.eval args first o idx st with
  | none => simp [Cond.value, ha] at h
  | some x => cases x <;> simp [Cond.value, ha, hb] at h ⊢ <;> exact h
theorem own_eqR {a b : Term} {args : Array Value} {first st : State} {o : Option Outcome} {idx : List Nat} {y : Addr} (h : (Cond.eq a b).value args first o st idx = some true) (hb : b.eval args first o idx st = some (.ref y)) : a.eval args first o idx st = some (.ref y) := by
  cases ha : a.eval args first o idx st with
  | none => simp [Cond.value, ha] at h
  | some x => cases x <;> simp [Cond.value, ha, hb] at h ⊢ <;> exact h
theorem own_elem {t : Term} {args : Array Value} {Z : State} {a : Addr} {cl : Cell} {ty : FieldType} {j : Int32} {v : Value} (ev : t.eval args Z none [] Z = some (.ref a)) (A : Arr Z Z.heap a cl ty) (h : (Term.elem t (.int j)).eval args Z none [] Z = some v) : cl.slots[j.toNatClampNeg]? = some v := by
  obtain ⟨a', j', cell, e1, e2, e3, -, e5⟩ := Term.elem_spec h
  cases e1.symm.trans ev
  have e6 : some (Value.int j) = some (Value.int j') := e2
  cases e6
  have := IntBox.arrayAt_of A.1 A.2.1 A.2.2
  cases e3.symm.trans this
  exact e5
theorem own_arv {t : Term} {args : Array Value} {Z : State} {a : Addr} {cl : Cell} {ty : FieldType} {z : Int32} {vs : List Value} {dv : Value} (hf : Fit Z) (ev : t.eval args Z none [] Z = some (.ref a)) (A : Arr Z Z.heap a cl ty) (hl : (Term.length t).eval args Z none [] Z = some (.int z)) (hz : ¬ z < 0) (hn : z.toNatClampNeg = vs.length) (H : HasL cl 0 vs) : Arv Z Z.heap a cl.cls ty z vs dv := by
  have hA := IntBox.arrayAt_of A.1 A.2.1 A.2.2
  have hlt : cl.slots.size < 2 ^ 31 := by
    by_cases hq : cl.slots.size < 2 ^ 31
    · exact hq
    · simp [Term.eval, ev, hA, hq] at hl
  have e := len_f (t := t) (args := args) (first := Z) (o := none) (idx := []) ev hA hlt
  have e2 : cl.slots.size.toInt32 = z := by
    have := e.symm.trans hl
    cases this; rfl
  exact Arv.start hf A hlt e2 hz hn H
end New
end Jvm.RoadKit
namespace Jvm.Pilot.@@N@@
open Jvm Jvm.ClassFile Sem Op Lib Jvm.Free Jvm.Stand Jvm.LawKit Jvm.RoadKit Bundle Jvm.Pilot.@@N@@.Jvm.D
def Amb (Z : State) (o_SHIELDMAN : Addr) (o_EVERY_FACING : Addr) (ko_EVERY_FACING : ClassId) (o_E : Addr) (o_W : Addr) (o_NE : Addr) (o_NW : Addr) (o_SE : Addr) (o_SW : Addr) (o_WARLORD : Addr) (o_NO_FACING : Addr) (ko_NO_FACING : ClassId) (o_HORSEMAN : Addr) (o_ARCHER : Addr) : Prop := Sta Z Z.heap "com/example/rulewright/rulewright/games/skorm/PieceType" "SHIELDMAN" "Lcom/example/rulewright/rulewright/games/skorm/PieceType;" (.ref o_SHIELDMAN) ∧ Exa Z Z.heap o_SHIELDMAN "com/example/rulewright/rulewright/games/skorm/PieceType" ∧ Sta Z Z.heap "com/example/rulewright/rulewright/games/skorm/PieceType" "EVERY_FACING" "[Lcom/example/rulewright/rulewright/games/skorm/Direction;" (.ref o_EVERY_FACING) ∧ Sta Z Z.heap "com/example/rulewright/rulewright/games/skorm/Direction" "E" "Lcom/example/rulewright/rulewright/games/skorm/Direction;" (.ref o_E) ∧ Exa Z Z.heap o_E "com/example/rulewright/rulewright/games/skorm/Direction" ∧ Sta Z Z.heap "com/example/rulewright/rulewright/games/skorm/Direction" "W" "Lcom/example/rulewright/rulewright/games/skorm/Direction;" (.ref o_W) ∧ Exa Z Z.heap o_W "com/example/rulewright/rulewright/games/skorm/Direction" ∧ Sta Z Z.heap "com/example/rulewright/rulewright/games/skorm/Direction" "NE" "Lcom/example/rulewright/rulewright/games/skorm/Direction;" (.ref o_NE) ∧ Exa Z Z.heap o_NE "com/example/rulewright/rulewright/games/skorm/Direction" ∧ Sta Z Z.heap "com/example/rulewright/rulewright/games/skorm/Direction" "NW" "Lcom/example/rulewright/rulewright/games/skorm/Direction;" (.ref o_NW) ∧ Exa Z Z.heap o_NW "com/example/rulewright/rulewright/games/skorm/Direction" ∧ Sta Z Z.heap "com/example/rulewright/rulewright/games/skorm/Direction" "SE" "Lcom/example/rulewright/rulewright/games/skorm/Direction;" (.ref o_SE) ∧ Exa Z Z.heap o_SE "com/example/rulewright/rulewright/games/skorm/Direction" ∧ Sta Z Z.heap "com/example/rulewright/rulewright/games/skorm/Direction" "SW" "Lcom/example/rulewright/rulewright/games/skorm/Direction;" (.ref o_SW) ∧ Exa Z Z.heap o_SW "com/example/rulewright/rulewright/games/skorm/Direction" ∧ Sta Z Z.heap "com/example/rulewright/rulewright/games/skorm/PieceType" "WARLORD" "Lcom/example/rulewright/rulewright/games/skorm/PieceType;" (.ref o_WARLORD) ∧ Exa Z Z.heap o_WARLORD "com/example/rulewright/rulewright/games/skorm/PieceType" ∧ Sta Z Z.heap "com/example/rulewright/rulewright/games/skorm/PieceType" "NO_FACING" "[Lcom/example/rulewright/rulewright/games/skorm/Direction;" (.ref o_NO_FACING) ∧ Sta Z Z.heap "com/example/rulewright/rulewright/games/skorm/PieceType" "HORSEMAN" "Lcom/example/rulewright/rulewright/games/skorm/PieceType;" (.ref o_HORSEMAN) ∧ Exa Z Z.heap o_HORSEMAN "com/example/rulewright/rulewright/games/skorm/PieceType" ∧ Sta Z Z.heap "com/example/rulewright/rulewright/games/skorm/PieceType" "ARCHER" "Lcom/example/rulewright/rulewright/games/skorm/PieceType;" (.ref o_ARCHER) ∧ Exa Z Z.heap o_ARCHER "com/example/rulewright/rulewright/games/skorm/PieceType" ∧ Fld Z Z.heap o_SHIELDMAN "com/example/rulewright/rulewright/games/skorm/PieceType" "faces" "Z" (.int (1 : Int32)) ∧ Fld Z Z.heap o_WARLORD "com/example/rulewright/rulewright/games/skorm/PieceType" "faces" "Z" (.int (0 : Int32)) ∧ Fld Z Z.heap o_HORSEMAN "com/example/rulewright/rulewright/games/skorm/PieceType" "faces" "Z" (.int (0 : Int32)) ∧ Fld Z Z.heap o_ARCHER "com/example/rulewright/rulewright/games/skorm/PieceType" "faces" "Z" (.int (0 : Int32)) ∧ Arv Z Z.heap o_EVERY_FACING ko_EVERY_FACING (.object "com/example/rulewright/rulewright/games/skorm/Direction") (6 : Int32) [(.ref o_E), (.ref o_W), (.ref o_NE), (.ref o_NW), (.ref o_SE), (.ref o_SW)] .null ∧ Arv Z Z.heap o_NO_FACING ko_NO_FACING (.object "com/example/rulewright/rulewright/games/skorm/Direction") (1 : Int32) [.null] .null ∧ True
theorem Amb.a0 {Z : State} {o_SHIELDMAN : Addr} {o_EVERY_FACING : Addr} {ko_EVERY_FACING : ClassId} {o_E : Addr} {o_W : Addr} {o_NE : Addr} {o_NW : Addr} {o_SE : Addr} {o_SW : Addr} {o_WARLORD : Addr} {o_NO_FACING : Addr} {ko_NO_FACING : ClassId} {o_HORSEMAN : Addr} {o_ARCHER : Addr} (A : Amb Z o_SHIELDMAN o_EVERY_FACING ko_EVERY_FACING o_E o_W o_NE o_NW o_SE o_SW o_WARLORD o_NO_FACING ko_NO_FACING o_HORSEMAN o_ARCHER) : Sta Z Z.heap "com/example/rulewright/rulewright/games/skorm/PieceType" "SHIELDMAN" "Lcom/example/rulewright/rulewright/games/skorm/PieceType;" (.ref o_SHIELDMAN) := A.1
theorem Amb.a1 {Z : State} {o_SHIELDMAN : Addr} {o_EVERY_FACING : Addr} {ko_EVERY_FACING : ClassId} {o_E : Addr} {o_W : Addr} {o_NE : Addr} {o_NW : Addr} {o_SE : Addr} {o_SW : Addr} {o_WARLORD : Addr} {o_NO_FACING : Addr} {ko_NO_FACING : ClassId} {o_HORSEMAN : Addr} {o_ARCHER : Addr} (A : Amb Z o_SHIELDMAN o_EVERY_FACING ko_EVERY_FACING o_E o_W o_NE o_NW o_SE o_SW o_WARLORD o_NO_FACING ko_NO_FACING o_HORSEMAN o_ARCHER) : Exa Z Z.heap o_SHIELDMAN "com/example/rulewright/rulewright/games/skorm/PieceType" := A.2.1
theorem Amb.a2 {Z : State} {o_SHIELDMAN : Addr} {o_EVERY_FACING : Addr} {ko_EVERY_FACING : ClassId} {o_E : Addr} {o_W : Addr} {o_NE : Addr} {o_NW : Addr} {o_SE : Addr} {o_SW : Addr} {o_WARLORD : Addr} {o_NO_FACING : Addr} {ko_NO_FACING : ClassId} {o_HORSEMAN : Addr} {o_ARCHER : Addr} (A : Amb Z o_SHIELDMAN o_EVERY_FACING ko_EVERY_FACING o_E o_W o_NE o_NW o_SE o_SW o_WARLORD o_NO_FACING ko_NO_FACING o_HORSEMAN o_ARCHER) : Sta Z Z.heap "com/example/rulewright/rulewright/games/skorm/PieceType" "EVERY_FACING" "[Lcom/example/rulewright/rulewright/games/skorm/Direction;" (.ref o_EVERY_FACING) := A.2.2.1
theorem Amb.a3 {Z : State} {o_SHIELDMAN : Addr} {o_EVERY_FACING : Addr} {ko_EVERY_FACING : ClassId} {o_E : Addr} {o_W : Addr} {o_NE : Addr} {o_NW : Addr} {o_SE : Addr} {o_SW : Addr} {o_WARLORD : Addr} {o_NO_FACING : Addr} {ko_NO_FACING : ClassId} {o_HORSEMAN : Addr} {o_ARCHER : Addr} (A : Amb Z o_SHIELDMAN o_EVERY_FACING ko_EVERY_FACING o_E o_W o_NE o_NW o_SE o_SW o_WARLORD o_NO_FACING ko_NO_FACING o_HORSEMAN o_ARCHER) : Sta Z Z.heap "com/example/rulewright/rulewright/games/skorm/Direction" "E" "Lcom/example/rulewright/rulewright/games/skorm/Direction;" (.ref o_E) := A.2.2.2.1
theorem Amb.a4 {Z : State} {o_SHIELDMAN : Addr} {o_EVERY_FACING : Addr} {ko_EVERY_FACING : ClassId} {o_E : Addr} {o_W : Addr} {o_NE : Addr} {o_NW : Addr} {o_SE : Addr} {o_SW : Addr} {o_WARLORD : Addr} {o_NO_FACING : Addr} {ko_NO_FACING : ClassId} {o_HORSEMAN : Addr} {o_ARCHER : Addr} (A : Amb Z o_SHIELDMAN o_EVERY_FACING ko_EVERY_FACING o_E o_W o_NE o_NW o_SE o_SW o_WARLORD o_NO_FACING ko_NO_FACING o_HORSEMAN o_ARCHER) : Exa Z Z.heap o_E "com/example/rulewright/rulewright/games/skorm/Direction" := A.2.2.2.2.1
theorem Amb.a5 {Z : State} {o_SHIELDMAN : Addr} {o_EVERY_FACING : Addr} {ko_EVERY_FACING : ClassId} {o_E : Addr} {o_W : Addr} {o_NE : Addr} {o_NW : Addr} {o_SE : Addr} {o_SW : Addr} {o_WARLORD : Addr} {o_NO_FACING : Addr} {ko_NO_FACING : ClassId} {o_HORSEMAN : Addr} {o_ARCHER : Addr} (A : Amb Z o_SHIELDMAN o_EVERY_FACING ko_EVERY_FACING o_E o_W o_NE o_NW o_SE o_SW o_WARLORD o_NO_FACING ko_NO_FACING o_HORSEMAN o_ARCHER) : Sta Z Z.heap "com/example/rulewright/rulewright/games/skorm/Direction" "W" "Lcom/example/rulewright/rulewright/games/skorm/Direction;" (.ref o_W) := A.2.2.2.2.2.1
theorem Amb.a6 {Z : State} {o_SHIELDMAN : Addr} {o_EVERY_FACING : Addr} {ko_EVERY_FACING : ClassId} {o_E : Addr} {o_W : Addr} {o_NE : Addr} {o_NW : Addr} {o_SE : Addr} {o_SW : Addr} {o_WARLORD : Addr} {o_NO_FACING : Addr} {ko_NO_FACING : ClassId} {o_HORSEMAN : Addr} {o_ARCHER : Addr} (A : Amb Z o_SHIELDMAN o_EVERY_FACING ko_EVERY_FACING o_E o_W o_NE o_NW o_SE o_SW o_WARLORD o_NO_FACING ko_NO_FACING o_HORSEMAN o_ARCHER) : Exa Z Z.heap o_W "com/example/rulewright/rulewright/games/skorm/Direction" := A.2.2.2.2.2.2.1
theorem Amb.a7 {Z : State} {o_SHIELDMAN : Addr} {o_EVERY_FACING : Addr} {ko_EVERY_FACING : ClassId} {o_E : Addr} {o_W : Addr} {o_NE : Addr} {o_NW : Addr} {o_SE : Addr} {o_SW : Addr} {o_WARLORD : Addr} {o_NO_FACING : Addr} {ko_NO_FACING : ClassId} {o_HORSEMAN : Addr} {o_ARCHER : Addr} (A : Amb Z o_SHIELDMAN o_EVERY_FACING ko_EVERY_FACING o_E o_W o_NE o_NW o_SE o_SW o_WARLORD o_NO_FACING ko_NO_FACING o_HORSEMAN o_ARCHER) : Sta Z Z.heap "com/example/rulewright/rulewright/games/skorm/Direction" "NE" "Lcom/example/rulewright/rulewright/games/skorm/Direction;" (.ref o_NE) := A.2.2.2.2.2.2.2.1
theorem Amb.a8 {Z : State} {o_SHIELDMAN : Addr} {o_EVERY_FACING : Addr} {ko_EVERY_FACING : ClassId} {o_E : Addr} {o_W : Addr} {o_NE : Addr} {o_NW : Addr} {o_SE : Addr} {o_SW : Addr} {o_WARLORD : Addr} {o_NO_FACING : Addr} {ko_NO_FACING : ClassId} {o_HORSEMAN : Addr} {o_ARCHER : Addr} (A : Amb Z o_SHIELDMAN o_EVERY_FACING ko_EVERY_FACING o_E o_W o_NE o_NW o_SE o_SW o_WARLORD o_NO_FACING ko_NO_FACING o_HORSEMAN o_ARCHER) : Exa Z Z.heap o_NE "com/example/rulewright/rulewright/games/skorm/Direction" := A.2.2.2.2.2.2.2.2.1
theorem Amb.a9 {Z : State} {o_SHIELDMAN : Addr} {o_EVERY_FACING : Addr} {ko_EVERY_FACING : ClassId} {o_E : Addr} {o_W : Addr} {o_NE : Addr} {o_NW : Addr} {o_SE : Addr} {o_SW : Addr} {o_WARLORD : Addr} {o_NO_FACING : Addr} {ko_NO_FACING : ClassId} {o_HORSEMAN : Addr} {o_ARCHER : Addr} (A : Amb Z o_SHIELDMAN o_EVERY_FACING ko_EVERY_FACING o_E o_W o_NE o_NW o_SE o_SW o_WARLORD o_NO_FACING ko_NO_FACING o_HORSEMAN o_ARCHER) : Sta Z Z.heap "com/example/rulewright/rulewright/games/skorm/Direction" "NW" "Lcom/example/rulewright/rulewright/games/skorm/Direction;" (.ref o_NW) := A.2.2.2.2.2.2.2.2.2.1
theorem Amb.a10 {Z : State} {o_SHIELDMAN : Addr} {o_EVERY_FACING : Addr} {ko_EVERY_FACING : ClassId} {o_E : Addr} {o_W : Addr} {o_NE : Addr} {o_NW : Addr} {o_SE : Addr} {o_SW : Addr} {o_WARLORD : Addr} {o_NO_FACING : Addr} {ko_NO_FACING : ClassId} {o_HORSEMAN : Addr} {o_ARCHER : Addr} (A : Amb Z o_SHIELDMAN o_EVERY_FACING ko_EVERY_FACING o_E o_W o_NE o_NW o_SE o_SW o_WARLORD o_NO_FACING ko_NO_FACING o_HORSEMAN o_ARCHER) : Exa Z Z.heap o_NW "com/example/rulewright/rulewright/games/skorm/Direction" := A.2.2.2.2.2.2.2.2.2.2.1
theorem Amb.a11 {Z : State} {o_SHIELDMAN : Addr} {o_EVERY_FACING : Addr} {ko_EVERY_FACING : ClassId} {o_E : Addr} {o_W : Addr} {o_NE : Addr} {o_NW : Addr} {o_SE : Addr} {o_SW : Addr} {o_WARLORD : Addr} {o_NO_FACING : Addr} {ko_NO_FACING : ClassId} {o_HORSEMAN : Addr} {o_ARCHER : Addr} (A : Amb Z o_SHIELDMAN o_EVERY_FACING ko_EVERY_FACING o_E o_W o_NE o_NW o_SE o_SW o_WARLORD o_NO_FACING ko_NO_FACING o_HORSEMAN o_ARCHER) : Sta Z Z.heap "com/example/rulewright/rulewright/games/skorm/Direction" "SE" "Lcom/example/rulewright/rulewright/games/skorm/Direction;" (.ref o_SE) := A.2.2.2.2.2.2.2.2.2.2.2.1
theorem Amb.a12 {Z : State} {o_SHIELDMAN : Addr} {o_EVERY_FACING : Addr} {ko_EVERY_FACING : ClassId} {o_E : Addr} {o_W : Addr} {o_NE : Addr} {o_NW : Addr} {o_SE : Addr} {o_SW : Addr} {o_WARLORD : Addr} {o_NO_FACING : Addr} {ko_NO_FACING : ClassId} {o_HORSEMAN : Addr} {o_ARCHER : Addr} (A : Amb Z o_SHIELDMAN o_EVERY_FACING ko_EVERY_FACING o_E o_W o_NE o_NW o_SE o_SW o_WARLORD o_NO_FACING ko_NO_FACING o_HORSEMAN o_ARCHER) : Exa Z Z.heap o_SE "com/example/rulewright/rulewright/games/skorm/Direction" := A.2.2.2.2.2.2.2.2.2.2.2.2.1
theorem Amb.a13 {Z : State} {o_SHIELDMAN : Addr} {o_EVERY_FACING : Addr} {ko_EVERY_FACING : ClassId} {o_E : Addr} {o_W : Addr} {o_NE : Addr} {o_NW : Addr} {o_SE : Addr} {o_SW : Addr} {o_WARLORD : Addr} {o_NO_FACING : Addr} {ko_NO_FACING : ClassId} {o_HORSEMAN : Addr} {o_ARCHER : Addr} (A : Amb Z o_SHIELDMAN o_EVERY_FACING ko_EVERY_FACING o_E o_W o_NE o_NW o_SE o_SW o_WARLORD o_NO_FACING ko_NO_FACING o_HORSEMAN o_ARCHER) : Sta Z Z.heap "com/example/rulewright/rulewright/games/skorm/Direction" "SW" "Lcom/example/rulewright/rulewright/games/skorm/Direction;" (.ref o_SW) := A.2.2.2.2.2.2.2.2.2.2.2.2.2.1
theorem Amb.a14 {Z : State} {o_SHIELDMAN : Addr} {o_EVERY_FACING : Addr} {ko_EVERY_FACING : ClassId} {o_E : Addr} {o_W : Addr} {o_NE : Addr} {o_NW : Addr} {o_SE : Addr} {o_SW : Addr} {o_WARLORD : Addr} {o_NO_FACING : Addr} {ko_NO_FACING : ClassId} {o_HORSEMAN : Addr} {o_ARCHER : Addr} (A : Amb Z o_SHIELDMAN o_EVERY_FACING ko_EVERY_FACING o_E o_W o_NE o_NW o_SE o_SW o_WARLORD o_NO_FACING ko_NO_FACING o_HORSEMAN o_ARCHER) : Exa Z Z.heap o_SW "com/example/rulewright/rulewright/games/skorm/Direction" := A.2.2.2.2.2.2.2.2.2.2.2.2.2.2.1
theorem Amb.a15 {Z : State} {o_SHIELDMAN : Addr} {o_EVERY_FACING : Addr} {ko_EVERY_FACING : ClassId} {o_E : Addr} {o_W : Addr} {o_NE : Addr} {o_NW : Addr} {o_SE : Addr} {o_SW : Addr} {o_WARLORD : Addr} {o_NO_FACING : Addr} {ko_NO_FACING : ClassId} {o_HORSEMAN : Addr} {o_ARCHER : Addr} (A : Amb Z o_SHIELDMAN o_EVERY_FACING ko_EVERY_FACING o_E o_W o_NE o_NW o_SE o_SW o_WARLORD o_NO_FACING ko_NO_FACING o_HORSEMAN o_ARCHER) : Sta Z Z.heap "com/example/rulewright/rulewright/games/skorm/PieceType" "WARLORD" "Lcom/example/rulewright/rulewright/games/skorm/PieceType;" (.ref o_WARLORD) := A.2.2.2.2.2.2.2.2.2.2.2.2.2.2.2.1
theorem Amb.a16 {Z : State} {o_SHIELDMAN : Addr} {o_EVERY_FACING : Addr} {ko_EVERY_FACING : ClassId} {o_E : Addr} {o_W : Addr} {o_NE : Addr} {o_NW : Addr} {o_SE : Addr} {o_SW : Addr} {o_WARLORD : Addr} {o_NO_FACING : Addr} {ko_NO_FACING : ClassId} {o_HORSEMAN : Addr} {o_ARCHER : Addr} (A : Amb Z o_SHIELDMAN o_EVERY_FACING ko_EVERY_FACING o_E o_W o_NE o_NW o_SE o_SW o_WARLORD o_NO_FACING ko_NO_FACING o_HORSEMAN o_ARCHER) : Exa Z Z.heap o_WARLORD "com/example/rulewright/rulewright/games/skorm/PieceType" := A.2.2.2.2.2.2.2.2.2.2.2.2.2.2.2.2.1
theorem Amb.a17 {Z : State} {o_SHIELDMAN : Addr} {o_EVERY_FACING : Addr} {ko_EVERY_FACING : ClassId} {o_E : Addr} {o_W : Addr} {o_NE : Addr} {o_NW : Addr} {o_SE : Addr} {o_SW : Addr} {o_WARLORD : Addr} {o_NO_FACING : Addr} {ko_NO_FACING : ClassId} {o_HORSEMAN : Addr} {o_ARCHER : Addr} (A : Amb Z o_SHIELDMAN o_EVERY_FACING ko_EVERY_FACING o_E o_W o_NE o_NW o_SE o_SW o_WARLORD o_NO_FACING ko_NO_FACING o_HORSEMAN o_ARCHER) : Sta Z Z.heap "com/example/rulewright/rulewright/games/skorm/PieceType" "NO_FACING" "[Lcom/example/rulewright/rulewright/games/skorm/Direction;" (.ref o_NO_FACING) := A.2.2.2.2.2.2.2.2.2.2.2.2.2.2.2.2.2.1
theorem Amb.a18 {Z : State} {o_SHIELDMAN : Addr} {o_EVERY_FACING : Addr} {ko_EVERY_FACING : ClassId} {o_E : Addr} {o_W : Addr} {o_NE : Addr} {o_NW : Addr} {o_SE : Addr} {o_SW : Addr} {o_WARLORD : Addr} {o_NO_FACING : Addr} {ko_NO_FACING : ClassId} {o_HORSEMAN : Addr} {o_ARCHER : Addr} (A : Amb Z o_SHIELDMAN o_EVERY_FACING ko_EVERY_FACING o_E o_W o_NE o_NW o_SE o_SW o_WARLORD o_NO_FACING ko_NO_FACING o_HORSEMAN o_ARCHER) : Sta Z Z.heap "com/example/rulewright/rulewright/games/skorm/PieceType" "HORSEMAN" "Lcom/example/rulewright/rulewright/games/skorm/PieceType;" (.ref o_HORSEMAN) := A.2.2.2.2.2.2.2.2.2.2.2.2.2.2.2.2.2.2.1
theorem Amb.a19 {Z : State} {o_SHIELDMAN : Addr} {o_EVERY_FACING : Addr} {ko_EVERY_FACING : ClassId} {o_E : Addr} {o_W : Addr} {o_NE : Addr} {o_NW : Addr} {o_SE : Addr} {o_SW : Addr} {o_WARLORD : Addr} {o_NO_FACING : Addr} {ko_NO_FACING : ClassId} {o_HORSEMAN : Addr} {o_ARCHER : Addr} (A : Amb Z o_SHIELDMAN o_EVERY_FACING ko_EVERY_FACING o_E o_W o_NE o_NW o_SE o_SW o_WARLORD o_NO_FACING ko_NO_FACING o_HORSEMAN o_ARCHER) : Exa Z Z.heap o_HORSEMAN "com/example/rulewright/rulewright/games/skorm/PieceType" := A.2.2.2.2.2.2.2.2.2.2.2.2.2.2.2.2.2.2.2.1
theorem Amb.a20 {Z : State} {o_SHIELDMAN : Addr} {o_EVERY_FACING : Addr} {ko_EVERY_FACING : ClassId} {o_E : Addr} {o_W : Addr} {o_NE : Addr} {o_NW : Addr} {o_SE : Addr} {o_SW : Addr} {o_WARLORD : Addr} {o_NO_FACING : Addr} {ko_NO_FACING : ClassId} {o_HORSEMAN : Addr} {o_ARCHER : Addr} (A : Amb Z o_SHIELDMAN o_EVERY_FACING ko_EVERY_FACING o_E o_W o_NE o_NW o_SE o_SW o_WARLORD o_NO_FACING ko_NO_FACING o_HORSEMAN o_ARCHER) : Sta Z Z.heap "com/example/rulewright/rulewright/games/skorm/PieceType" "ARCHER" "Lcom/example/rulewright/rulewright/games/skorm/PieceType;" (.ref o_ARCHER) := A.2.2.2.2.2.2.2.2.2.2.2.2.2.2.2.2.2.2.2.2.1
theorem Amb.a21 {Z : State} {o_SHIELDMAN : Addr} {o_EVERY_FACING : Addr} {ko_EVERY_FACING : ClassId} {o_E : Addr} {o_W : Addr} {o_NE : Addr} {o_NW : Addr} {o_SE : Addr} {o_SW : Addr} {o_WARLORD : Addr} {o_NO_FACING : Addr} {ko_NO_FACING : ClassId} {o_HORSEMAN : Addr} {o_ARCHER : Addr} (A : Amb Z o_SHIELDMAN o_EVERY_FACING ko_EVERY_FACING o_E o_W o_NE o_NW o_SE o_SW o_WARLORD o_NO_FACING ko_NO_FACING o_HORSEMAN o_ARCHER) : Exa Z Z.heap o_ARCHER "com/example/rulewright/rulewright/games/skorm/PieceType" := A.2.2.2.2.2.2.2.2.2.2.2.2.2.2.2.2.2.2.2.2.2.1
theorem Amb.a22 {Z : State} {o_SHIELDMAN : Addr} {o_EVERY_FACING : Addr} {ko_EVERY_FACING : ClassId} {o_E : Addr} {o_W : Addr} {o_NE : Addr} {o_NW : Addr} {o_SE : Addr} {o_SW : Addr} {o_WARLORD : Addr} {o_NO_FACING : Addr} {ko_NO_FACING : ClassId} {o_HORSEMAN : Addr} {o_ARCHER : Addr} (A : Amb Z o_SHIELDMAN o_EVERY_FACING ko_EVERY_FACING o_E o_W o_NE o_NW o_SE o_SW o_WARLORD o_NO_FACING ko_NO_FACING o_HORSEMAN o_ARCHER) : Fld Z Z.heap o_SHIELDMAN "com/example/rulewright/rulewright/games/skorm/PieceType" "faces" "Z" (.int (1 : Int32)) := A.2.2.2.2.2.2.2.2.2.2.2.2.2.2.2.2.2.2.2.2.2.2.1
theorem Amb.a23 {Z : State} {o_SHIELDMAN : Addr} {o_EVERY_FACING : Addr} {ko_EVERY_FACING : ClassId} {o_E : Addr} {o_W : Addr} {o_NE : Addr} {o_NW : Addr} {o_SE : Addr} {o_SW : Addr} {o_WARLORD : Addr} {o_NO_FACING : Addr} {ko_NO_FACING : ClassId} {o_HORSEMAN : Addr} {o_ARCHER : Addr} (A : Amb Z o_SHIELDMAN o_EVERY_FACING ko_EVERY_FACING o_E o_W o_NE o_NW o_SE o_SW o_WARLORD o_NO_FACING ko_NO_FACING o_HORSEMAN o_ARCHER) : Fld Z Z.heap o_WARLORD "com/example/rulewright/rulewright/games/skorm/PieceType" "faces" "Z" (.int (0 : Int32)) := A.2.2.2.2.2.2.2.2.2.2.2.2.2.2.2.2.2.2.2.2.2.2.2.1
theorem Amb.a24 {Z : State} {o_SHIELDMAN : Addr} {o_EVERY_FACING : Addr} {ko_EVERY_FACING : ClassId} {o_E : Addr} {o_W : Addr} {o_NE : Addr} {o_NW : Addr} {o_SE : Addr} {o_SW : Addr} {o_WARLORD : Addr} {o_NO_FACING : Addr} {ko_NO_FACING : ClassId} {o_HORSEMAN : Addr} {o_ARCHER : Addr} (A : Amb Z o_SHIELDMAN o_EVERY_FACING ko_EVERY_FACING o_E o_W o_NE o_NW o_SE o_SW o_WARLORD o_NO_FACING ko_NO_FACING o_HORSEMAN o_ARCHER) : Fld Z Z.heap o_HORSEMAN "com/example/rulewright/rulewright/games/skorm/PieceType" "faces" "Z" (.int (0 : Int32)) := A.2.2.2.2.2.2.2.2.2.2.2.2.2.2.2.2.2.2.2.2.2.2.2.2.1
theorem Amb.a25 {Z : State} {o_SHIELDMAN : Addr} {o_EVERY_FACING : Addr} {ko_EVERY_FACING : ClassId} {o_E : Addr} {o_W : Addr} {o_NE : Addr} {o_NW : Addr} {o_SE : Addr} {o_SW : Addr} {o_WARLORD : Addr} {o_NO_FACING : Addr} {ko_NO_FACING : ClassId} {o_HORSEMAN : Addr} {o_ARCHER : Addr} (A : Amb Z o_SHIELDMAN o_EVERY_FACING ko_EVERY_FACING o_E o_W o_NE o_NW o_SE o_SW o_WARLORD o_NO_FACING ko_NO_FACING o_HORSEMAN o_ARCHER) : Fld Z Z.heap o_ARCHER "com/example/rulewright/rulewright/games/skorm/PieceType" "faces" "Z" (.int (0 : Int32)) := A.2.2.2.2.2.2.2.2.2.2.2.2.2.2.2.2.2.2.2.2.2.2.2.2.2.1
theorem Amb.a26 {Z : State} {o_SHIELDMAN : Addr} {o_EVERY_FACING : Addr} {ko_EVERY_FACING : ClassId} {o_E : Addr} {o_W : Addr} {o_NE : Addr} {o_NW : Addr} {o_SE : Addr} {o_SW : Addr} {o_WARLORD : Addr} {o_NO_FACING : Addr} {ko_NO_FACING : ClassId} {o_HORSEMAN : Addr} {o_ARCHER : Addr} (A : Amb Z o_SHIELDMAN o_EVERY_FACING ko_EVERY_FACING o_E o_W o_NE o_NW o_SE o_SW o_WARLORD o_NO_FACING ko_NO_FACING o_HORSEMAN o_ARCHER) : Arv Z Z.heap o_EVERY_FACING ko_EVERY_FACING (.object "com/example/rulewright/rulewright/games/skorm/Direction") (6 : Int32) [(.ref o_E), (.ref o_W), (.ref o_NE), (.ref o_NW), (.ref o_SE), (.ref o_SW)] .null := A.2.2.2.2.2.2.2.2.2.2.2.2.2.2.2.2.2.2.2.2.2.2.2.2.2.2.1
theorem Amb.a27 {Z : State} {o_SHIELDMAN : Addr} {o_EVERY_FACING : Addr} {ko_EVERY_FACING : ClassId} {o_E : Addr} {o_W : Addr} {o_NE : Addr} {o_NW : Addr} {o_SE : Addr} {o_SW : Addr} {o_WARLORD : Addr} {o_NO_FACING : Addr} {ko_NO_FACING : ClassId} {o_HORSEMAN : Addr} {o_ARCHER : Addr} (A : Amb Z o_SHIELDMAN o_EVERY_FACING ko_EVERY_FACING o_E o_W o_NE o_NW o_SE o_SW o_WARLORD o_NO_FACING ko_NO_FACING o_HORSEMAN o_ARCHER) : Arv Z Z.heap o_NO_FACING ko_NO_FACING (.object "com/example/rulewright/rulewright/games/skorm/Direction") (1 : Int32) [.null] .null := A.2.2.2.2.2.2.2.2.2.2.2.2.2.2.2.2.2.2.2.2.2.2.2.2.2.2.2.1

theorem d1_0 : decode method_2_code 0 = .ok (.iload_n 0, 1) := by decide +kernel
theorem d1_1 : decode method_2_code 1 = .ok (.ifCond .ne 7, 3) := by decide +kernel
theorem d1_4 : decode method_2_code 4 = .ok (.getstatic 7, 3) := by decide +kernel
theorem d1_7 : decode method_2_code 7 = .ok (.areturn, 1) := by decide +kernel
theorem d1_8 : decode method_2_code 8 = .ok (.iload_n 0, 1) := by decide +kernel
theorem d1_9 : decode method_2_code 9 = .ok (.iconst 1, 1) := by decide +kernel
theorem d1_10 : decode method_2_code 10 = .ok (.if_icmp .ne 7, 3) := by decide +kernel
theorem d1_13 : decode method_2_code 13 = .ok (.getstatic 13, 3) := by decide +kernel
theorem d1_16 : decode method_2_code 16 = .ok (.areturn, 1) := by decide +kernel
theorem d1_17 : decode method_2_code 17 = .ok (.iload_n 0, 1) := by decide +kernel
theorem d1_18 : decode method_2_code 18 = .ok (.iconst 2, 1) := by decide +kernel
theorem d1_19 : decode method_2_code 19 = .ok (.if_icmp .ne 7, 3) := by decide +kernel
theorem d1_22 : decode method_2_code 22 = .ok (.getstatic 16, 3) := by decide +kernel
theorem d1_25 : decode method_2_code 25 = .ok (.areturn, 1) := by decide +kernel
theorem d1_26 : decode method_2_code 26 = .ok (.getstatic 19, 3) := by decide +kernel
theorem d1_29 : decode method_2_code 29 = .ok (.areturn, 1) := by decide +kernel
theorem pn_1 : plainName "com/example/rulewright/rulewright/games/skorm/PieceTypeLandingsPinLaw" = true := by first | (simp [plainName, overriddenIn]; done) | decide +kernel
theorem ef_1 (m : MethodId) (x0 : Int32) : entryFrame m #[(.int x0)] 1 = mkF m 0 #[.val (.int x0)] [] := by first | (simp [entryFrame, mkF, argsToLocals, Value.category]; done) | rfl
def Q1 (Z : State) (o_SHIELDMAN : Addr) (o_EVERY_FACING : Addr) (ko_EVERY_FACING : ClassId) (o_E : Addr) (o_W : Addr) (o_NE : Addr) (o_NW : Addr) (o_SE : Addr) (o_SW : Addr) (o_WARLORD : Addr) (o_NO_FACING : Addr) (ko_NO_FACING : ClassId) (o_HORSEMAN : Addr) (o_ARCHER : Addr) (q0 : Int32) (h0 : Heap) (n0 : Nat) (v : Option Value) (h : Heap) (L : List Loc) : Prop := (((q0 = 0) ∧ v = some (.ref o_SHIELDMAN)) ∨ ((¬ q0 = 0 ∧ q0 = 1) ∧ v = some (.ref o_ARCHER)) ∨ ((¬ q0 = 0 ∧ q0 = 2) ∧ v = some (.ref o_HORSEMAN)) ∨ ((¬ q0 = 0) ∧ v = some (.ref o_WARLORD))) ∧ Fr n0 L ∧ h = h0
set_option maxRecDepth 65536 in
set_option maxHeartbeats 40000000 in
theorem rm1 (l : Launch) (Z : State) (a0 : Array Value) (hw : ∀ d ∈ tables_1, d.before a0 Z = true) (ws : List Jvm.Cond) (o_SHIELDMAN : Addr) (o_EVERY_FACING : Addr) (ko_EVERY_FACING : ClassId) (o_E : Addr) (o_W : Addr) (o_NE : Addr) (o_NW : Addr) (o_SE : Addr) (o_SW : Addr) (o_WARLORD : Addr) (o_NO_FACING : Addr) (ko_NO_FACING : ClassId) (o_HORSEMAN : Addr) (o_ARCHER : Addr) (q0 : Int32) (h0 : Heap) (n0 : Nat) (Z0 : n0 ≤ h0.size) (OLD : Old Z n0 h0) (A : Amb Z o_SHIELDMAN o_EVERY_FACING ko_EVERY_FACING o_E o_W o_NE o_NW o_SE o_SW o_WARLORD o_NO_FACING ko_NO_FACING o_HORSEMAN o_ARCHER) :
    MetFree l (⟨"com/example/rulewright/rulewright/games/skorm/PieceTypeLandingsPinLaw", "pick", "(I)Lcom/example/rulewright/rulewright/games/skorm/PieceType;"⟩ : MethodName) (head1 (Jvm.Cond.code (⟨"com/example/rulewright/rulewright/games/skorm/PieceTypeLandingsPinLaw", "pick", "(I)Lcom/example/rulewright/rulewright/games/skorm/PieceType;"⟩ : MethodName) method_2_code 1 (some (.object "com/example/rulewright/rulewright/games/skorm/PieceType")) :: ws) ({ frames := 0, cells := 0, slots := 0, locals := 0 } : Room)) (fun a U => a = #[(.int q0)] ∧ Z.Warmed39 U.vm ∧ U.heap = h0) (fun _ _ _ _ _ => True) (fun _ U o U' => ∃ v L, o = .returned v ∧ Q1 Z o_SHIELDMAN o_EVERY_FACING ko_EVERY_FACING o_E o_W o_NE o_NW o_SE o_SW o_WARLORD o_NO_FACING ko_NO_FACING o_HORSEMAN o_ARCHER q0 h0 n0 v U'.heap L ∧ FrameEnd U o U' L ({ frames := 0, cells := 0, slots := 0, locals := 0 } : Room).cells ({ frames := 0, cells := 0, slots := 0, locals := 0 } : Room).slots) := by
  refine MetFree.of_bodySF (plainFor_of_name pn_1) hisR ?_
  intro p e s m args below meth c s₁ Bd hml0 hP hK
  obtain ⟨rfl, hZ, hh⟩ := hP
  have hx := Bd.exec
  have hby := Bd.bytes
  have hml : c.maxLocals = 1 := hml0
  have hown : s.vm.findClass "com/example/rulewright/rulewright/games/skorm/PieceTypeLandingsPinLaw" = some m.cls := findClass_of_methodNamed Bd.named
  have hnm := (name_of_methodNamed Bd.named Bd.method).1
  have hlk : meth.locks = false := BodyLoose.notSynchronized Bd
  have hrt := Bd.returns
  have X0 : Stand p l e ({ frames := 0, cells := 0, slots := 0, locals := 0 } : Room) s m #[(.int q0)] below meth c s₁ [] 0 0 := Stand.of_body Bd
  have e0 : s₁.heap = h0 := by rw [← hh, Bd.state]; rfl
  have N0 := Fr.nil n0
  show own_Fin p.tables e below (own_post (Q1 Z o_SHIELDMAN o_EVERY_FACING ko_EVERY_FACING o_E o_W o_NE o_NW o_SE o_SW o_WARLORD o_NO_FACING ko_NO_FACING o_HORSEMAN o_ARCHER q0 h0 n0) s ({ frames := 0, cells := 0, slots := 0, locals := 0 } : Room).cells ({ frames := 0, cells := 0, slots := 0, locals := 0 } : Room).slots) (s₁.setTop (entryFrame m #[(.int q0)] 1))
  refine own_Fin.step (fun t k => castTop (ef_1 m q0) k) ?_
  refine own_Fin.step (S' := s₁.setTop (mkF m 1 #[.val (.int q0)] [(.int q0)])) (fun t k => XS.iloadN X0.here hx rfl (hb hby d1_0) rfl  k) ?_
  by_cases hc1 : q0 = (0 : Int32)
  · refine own_Fin.step (S' := s₁.setTop (mkF m 4 #[.val (.int q0)] [])) (fun t k => XS.ifNo X0.here hx rfl (hb hby d1_1) rfl ((if0 _ _).trans (teq hc1).2) k) ?_
    have f1 : Sta Z h0 "com/example/rulewright/rulewright/games/skorm/PieceType" "SHIELDMAN" "Lcom/example/rulewright/rulewright/games/skorm/PieceType;" (.ref o_SHIELDMAN) := Sta.ext OLD.2 (Amb.a0 A)
    obtain ⟨T2, X2, e2, st2⟩ := getS2 X0 hx hZ hown (host := "") (Or.inl (hw _ (List.mem_of_getElem? (i := 4) rfl))) Via.refl e0 f1 (g := (mkF m 4 #[.val (.int q0)] [])) rfl (hb hby d1_4)
    refine own_Fin.step (S' := T2.setTop (mkF m 7 #[.val (.int q0)] [(.ref o_SHIELDMAN)])) st2 ?_
    have hq3 : Q1 Z o_SHIELDMAN o_EVERY_FACING ko_EVERY_FACING o_E o_W o_NE o_NW o_SE o_SW o_WARLORD o_NO_FACING ko_NO_FACING o_HORSEMAN o_ARCHER q0 h0 n0 (some (.ref o_SHIELDMAN)) h0 _ := ⟨Or.inl ⟨hc1, rfl⟩, N0, rfl⟩
    exact own_retR X2 hx hlk (w := (.ref o_SHIELDMAN)) rfl hrt rfl (hb hby d1_7) e2 hq3 (by decide) (by decide)
  · refine own_Fin.step (S' := s₁.setTop (mkF m 8 #[.val (.int q0)] [])) (fun t k => XS.ifYes X0.here hx rfl (pc0 := 1) (pc' := 8) rfl (hb hby d1_1) rfl ((if0 _ _).trans (feq hc1).2) (by decide) (by decide) k) ?_
    refine own_Fin.step (S' := s₁.setTop (mkF m 9 #[.val (.int q0)] [(.int q0)])) (fun t k => XS.iloadN X0.here hx rfl (hb hby d1_8) rfl  k) ?_
    refine own_Fin.step (S' := s₁.setTop (mkF m 10 #[.val (.int q0)] [(.int (1 : Int32)), (.int q0)])) (fun t k => XS.iconst X0.here hx rfl (hb hby d1_9) k) ?_
    by_cases hc10 : q0 = (1 : Int32)
    · refine own_Fin.step (S' := s₁.setTop (mkF m 13 #[.val (.int q0)] [])) (fun t k => XS.icmpNo X0.here hx rfl (hb hby d1_10) rfl (teq hc10).2 k) ?_
      have f4 : Sta Z h0 "com/example/rulewright/rulewright/games/skorm/PieceType" "ARCHER" "Lcom/example/rulewright/rulewright/games/skorm/PieceType;" (.ref o_ARCHER) := Sta.ext OLD.2 (Amb.a20 A)
      obtain ⟨T5, X5, e5, st5⟩ := getS2 X0 hx hZ hown (host := "") (Or.inl (hw _ (List.mem_of_getElem? (i := 35) rfl))) Via.refl e0 f4 (g := (mkF m 13 #[.val (.int q0)] [])) rfl (hb hby d1_13)
      refine own_Fin.step (S' := T5.setTop (mkF m 16 #[.val (.int q0)] [(.ref o_ARCHER)])) st5 ?_
      have hq6 : Q1 Z o_SHIELDMAN o_EVERY_FACING ko_EVERY_FACING o_E o_W o_NE o_NW o_SE o_SW o_WARLORD o_NO_FACING ko_NO_FACING o_HORSEMAN o_ARCHER q0 h0 n0 (some (.ref o_ARCHER)) h0 _ := ⟨Or.inr (Or.inl ⟨⟨hc1, hc10⟩, rfl⟩), N0, rfl⟩
      exact own_retR X5 hx hlk (w := (.ref o_ARCHER)) rfl hrt rfl (hb hby d1_16) e5 hq6 (by decide) (by decide)
    · refine own_Fin.step (S' := s₁.setTop (mkF m 17 #[.val (.int q0)] [])) (fun t k => XS.icmpYes X0.here hx rfl (pc0 := 10) (pc' := 17) rfl (hb hby d1_10) rfl (feq hc10).2 (by decide) (by decide) k) ?_
      refine own_Fin.step (S' := s₁.setTop (mkF m 18 #[.val (.int q0)] [(.int q0)])) (fun t k => XS.iloadN X0.here hx rfl (hb hby d1_17) rfl  k) ?_
      refine own_Fin.step (S' := s₁.setTop (mkF m 19 #[.val (.int q0)] [(.int (2 : Int32)), (.int q0)])) (fun t k => XS.iconst X0.here hx rfl (hb hby d1_18) k) ?_
      by_cases hc19 : q0 = (2 : Int32)
      · refine own_Fin.step (S' := s₁.setTop (mkF m 22 #[.val (.int q0)] [])) (fun t k => XS.icmpNo X0.here hx rfl (hb hby d1_19) rfl (teq hc19).2 k) ?_
        have f7 : Sta Z h0 "com/example/rulewright/rulewright/games/skorm/PieceType" "HORSEMAN" "Lcom/example/rulewright/rulewright/games/skorm/PieceType;" (.ref o_HORSEMAN) := Sta.ext OLD.2 (Amb.a18 A)
        obtain ⟨T8, X8, e8, st8⟩ := getS2 X0 hx hZ hown (host := "") (Or.inl (hw _ (List.mem_of_getElem? (i := 33) rfl))) Via.refl e0 f7 (g := (mkF m 22 #[.val (.int q0)] [])) rfl (hb hby d1_22)
        refine own_Fin.step (S' := T8.setTop (mkF m 25 #[.val (.int q0)] [(.ref o_HORSEMAN)])) st8 ?_
        have hq9 : Q1 Z o_SHIELDMAN o_EVERY_FACING ko_EVERY_FACING o_E o_W o_NE o_NW o_SE o_SW o_WARLORD o_NO_FACING ko_NO_FACING o_HORSEMAN o_ARCHER q0 h0 n0 (some (.ref o_HORSEMAN)) h0 _ := ⟨Or.inr (Or.inr (Or.inl ⟨⟨hc1, hc19⟩, rfl⟩)), N0, rfl⟩
        exact own_retR X8 hx hlk (w := (.ref o_HORSEMAN)) rfl hrt rfl (hb hby d1_25) e8 hq9 (by decide) (by decide)
      · refine own_Fin.step (S' := s₁.setTop (mkF m 26 #[.val (.int q0)] [])) (fun t k => XS.icmpYes X0.here hx rfl (pc0 := 19) (pc' := 26) rfl (hb hby d1_19) rfl (feq hc19).2 (by decide) (by decide) k) ?_
        have f10 : Sta Z h0 "com/example/rulewright/rulewright/games/skorm/PieceType" "WARLORD" "Lcom/example/rulewright/rulewright/games/skorm/PieceType;" (.ref o_WARLORD) := Sta.ext OLD.2 (Amb.a15 A)
        obtain ⟨T11, X11, e11, st11⟩ := getS2 X0 hx hZ hown (host := "") (Or.inl (hw _ (List.mem_of_getElem? (i := 29) rfl))) Via.refl e0 f10 (g := (mkF m 26 #[.val (.int q0)] [])) rfl (hb hby d1_26)
        refine own_Fin.step (S' := T11.setTop (mkF m 29 #[.val (.int q0)] [(.ref o_WARLORD)])) st11 ?_
        have hq12 : Q1 Z o_SHIELDMAN o_EVERY_FACING ko_EVERY_FACING o_E o_W o_NE o_NW o_SE o_SW o_WARLORD o_NO_FACING ko_NO_FACING o_HORSEMAN o_ARCHER q0 h0 n0 (some (.ref o_WARLORD)) h0 _ := ⟨Or.inr (Or.inr (Or.inr (⟨hc1, rfl⟩))), N0, rfl⟩
        exact own_retR X11 hx hlk (w := (.ref o_WARLORD)) rfl hrt rfl (hb hby d1_29) e11 hq12 (by decide) (by decide)
theorem d2_0 : decode prog_11_method_11_code 0 = .ok (.aload_n 0, 1) := by decide +kernel
theorem d2_1 : decode prog_11_method_11_code 1 = .ok (.getfield 50, 3) := by decide +kernel
theorem d2_4 : decode prog_11_method_11_code 4 = .ok (.ifCond .eq 9, 3) := by decide +kernel
theorem d2_7 : decode prog_11_method_11_code 7 = .ok (.getstatic 99, 3) := by decide +kernel
theorem d2_10 : decode prog_11_method_11_code 10 = .ok (.goto 6, 3) := by decide +kernel
theorem d2_13 : decode prog_11_method_11_code 13 = .ok (.getstatic 103, 3) := by decide +kernel
theorem d2_16 : decode prog_11_method_11_code 16 = .ok (.areturn, 1) := by decide +kernel
theorem pn_2 : plainName "com/example/rulewright/rulewright/games/skorm/PieceType" = true := by first | (simp [plainName, overriddenIn]; done) | decide +kernel
theorem ef_2 (m : MethodId) (x0 : Addr) : entryFrame m #[(.ref x0)] 1 = mkF m 0 #[.val (.ref x0)] [] := by first | (simp [entryFrame, mkF, argsToLocals, Value.category]; done) | rfl
def Q2 (Z : State) (o_SHIELDMAN : Addr) (o_EVERY_FACING : Addr) (ko_EVERY_FACING : ClassId) (o_E : Addr) (o_W : Addr) (o_NE : Addr) (o_NW : Addr) (o_SE : Addr) (o_SW : Addr) (o_WARLORD : Addr) (o_NO_FACING : Addr) (ko_NO_FACING : ClassId) (o_HORSEMAN : Addr) (o_ARCHER : Addr) (a1 : Addr) (fz : Int32) (h0 : Heap) (n0 : Nat) (v : Option Value) (h : Heap) (L : List Loc) : Prop := (((fz = (0 : Int32)) ∧ v = some (.ref o_NO_FACING)) ∨ ((¬ fz = (0 : Int32)) ∧ v = some (.ref o_EVERY_FACING))) ∧ Fr n0 L ∧ h = h0
set_option maxRecDepth 65536 in
set_option maxHeartbeats 40000000 in
theorem rm2 (l : Launch) (Z : State) (a0 : Array Value) (hw : ∀ d ∈ tables_1, d.before a0 Z = true) (ws : List Jvm.Cond) (o_SHIELDMAN : Addr) (o_EVERY_FACING : Addr) (ko_EVERY_FACING : ClassId) (o_E : Addr) (o_W : Addr) (o_NE : Addr) (o_NW : Addr) (o_SE : Addr) (o_SW : Addr) (o_WARLORD : Addr) (o_NO_FACING : Addr) (ko_NO_FACING : ClassId) (o_HORSEMAN : Addr) (o_ARCHER : Addr) (a1 : Addr) (fz : Int32) (h0 : Heap) (n0 : Nat) (Z0 : n0 ≤ h0.size) (OLD : Old Z n0 h0) (A : Amb Z o_SHIELDMAN o_EVERY_FACING ko_EVERY_FACING o_E o_W o_NE o_NW o_SE o_SW o_WARLORD o_NO_FACING ko_NO_FACING o_HORSEMAN o_ARCHER) (P0 : Fld Z h0 a1 "com/example/rulewright/rulewright/games/skorm/PieceType" "faces" "Z" (.int fz)) :
    MetFree l (⟨"com/example/rulewright/rulewright/games/skorm/PieceType", "landings", "()[Lcom/example/rulewright/rulewright/games/skorm/Direction;"⟩ : MethodName) (head1 (Jvm.Cond.code (⟨"com/example/rulewright/rulewright/games/skorm/PieceType", "landings", "()[Lcom/example/rulewright/rulewright/games/skorm/Direction;"⟩ : MethodName) prog_11_method_11_code 1 (some (.array (.object "com/example/rulewright/rulewright/games/skorm/Direction"))) :: ws) ({ frames := 0, cells := 0, slots := 0, locals := 0 } : Room)) (fun a U => a = #[(.ref a1)] ∧ Z.Warmed39 U.vm ∧ U.heap = h0) (fun _ _ _ _ _ => True) (fun _ U o U' => ∃ v L, o = .returned v ∧ Q2 Z o_SHIELDMAN o_EVERY_FACING ko_EVERY_FACING o_E o_W o_NE o_NW o_SE o_SW o_WARLORD o_NO_FACING ko_NO_FACING o_HORSEMAN o_ARCHER a1 fz h0 n0 v U'.heap L ∧ FrameEnd U o U' L ({ frames := 0, cells := 0, slots := 0, locals := 0 } : Room).cells ({ frames := 0, cells := 0, slots := 0, locals := 0 } : Room).slots) := by
  refine MetFree.of_bodySF (plainFor_of_name pn_2) hisR ?_
  intro p e s m args below meth c s₁ Bd hml0 hP hK
  obtain ⟨rfl, hZ, hh⟩ := hP
  have hx := Bd.exec
  have hby := Bd.bytes
  have hml : c.maxLocals = 1 := hml0
  have hown : s.vm.findClass "com/example/rulewright/rulewright/games/skorm/PieceType" = some m.cls := findClass_of_methodNamed Bd.named
  have hnm := (name_of_methodNamed Bd.named Bd.method).1
  have hlk : meth.locks = false := BodyLoose.notSynchronized Bd
  have hrt := Bd.returns
  have X0 : Stand p l e ({ frames := 0, cells := 0, slots := 0, locals := 0 } : Room) s m #[(.ref a1)] below meth c s₁ [] 0 0 := Stand.of_body Bd
  have e0 : s₁.heap = h0 := by rw [← hh, Bd.state]; rfl
  have N0 := Fr.nil n0
  show own_Fin p.tables e below (own_post (Q2 Z o_SHIELDMAN o_EVERY_FACING ko_EVERY_FACING o_E o_W o_NE o_NW o_SE o_SW o_WARLORD o_NO_FACING ko_NO_FACING o_HORSEMAN o_ARCHER a1 fz h0 n0) s ({ frames := 0, cells := 0, slots := 0, locals := 0 } : Room).cells ({ frames := 0, cells := 0, slots := 0, locals := 0 } : Room).slots) (s₁.setTop (entryFrame m #[(.ref a1)] 1))
  refine own_Fin.step (fun t k => castTop (ef_2 m a1) k) ?_
  have lt_P0 : @LT.lt Nat _ a1 (Array.size h0) := P0.lt
  refine own_Fin.step (S' := s₁.setTop (mkF m 1 #[.val (.ref a1)] [(.ref a1)])) (fun t k => XS.aloadN X0.here hx rfl (hb hby d2_0) rfl rfl  k) ?_
  obtain ⟨T13, X13, e13, st13⟩ := getF X0 hx hZ hown (host := "") (Or.inl (hw _ (List.mem_of_getElem? (i := 12) rfl))) Via.refl e0 P0 (g := (mkF m 1 #[.val (.ref a1)] [(.ref a1)])) rfl rfl (hb hby d2_1)
  refine own_Fin.step (S' := T13.setTop (mkF m 4 #[.val (.ref a1)] [(.int fz)])) st13 ?_
  by_cases hc4 : fz = (0 : Int32)
  · refine own_Fin.step (S' := T13.setTop (mkF m 13 #[.val (.ref a1)] [])) (fun t k => XS.ifYes X13.here hx rfl (pc0 := 4) (pc' := 13) rfl (hb hby d2_4) rfl ((if0 _ _).trans (teq hc4).1) (by decide) (by decide) k) ?_
    have f14 : Sta Z h0 "com/example/rulewright/rulewright/games/skorm/PieceType" "NO_FACING" "[Lcom/example/rulewright/rulewright/games/skorm/Direction;" (.ref o_NO_FACING) := Sta.ext OLD.2 (Amb.a17 A)
    obtain ⟨T15, X15, e15, st15⟩ := getS2 X13 hx hZ hown (host := "") (Or.inl (hw _ (List.mem_of_getElem? (i := 31) rfl))) Via.refl e13 f14 (g := (mkF m 13 #[.val (.ref a1)] [])) rfl (hb hby d2_13)
    refine own_Fin.step (S' := T15.setTop (mkF m 16 #[.val (.ref a1)] [(.ref o_NO_FACING)])) st15 ?_
    have hq16 : Q2 Z o_SHIELDMAN o_EVERY_FACING ko_EVERY_FACING o_E o_W o_NE o_NW o_SE o_SW o_WARLORD o_NO_FACING ko_NO_FACING o_HORSEMAN o_ARCHER a1 fz h0 n0 (some (.ref o_NO_FACING)) h0 _ := ⟨Or.inl ⟨hc4, rfl⟩, N0, rfl⟩
    exact own_retR X15 hx hlk (w := (.ref o_NO_FACING)) rfl hrt rfl (hb hby d2_16) e15 hq16 (by decide) (by decide)
  · refine own_Fin.step (S' := T13.setTop (mkF m 7 #[.val (.ref a1)] [])) (fun t k => XS.ifNo X13.here hx rfl (hb hby d2_4) rfl ((if0 _ _).trans (feq hc4).1) k) ?_
    have f17 : Sta Z h0 "com/example/rulewright/rulewright/games/skorm/PieceType" "EVERY_FACING" "[Lcom/example/rulewright/rulewright/games/skorm/Direction;" (.ref o_EVERY_FACING) := Sta.ext OLD.2 (Amb.a2 A)
    obtain ⟨T18, X18, e18, st18⟩ := getS2 X13 hx hZ hown (host := "") (Or.inl (hw _ (List.mem_of_getElem? (i := 14) rfl))) Via.refl e13 f17 (g := (mkF m 7 #[.val (.ref a1)] [])) rfl (hb hby d2_7)
    refine own_Fin.step (S' := T18.setTop (mkF m 10 #[.val (.ref a1)] [(.ref o_EVERY_FACING)])) st18 ?_
    refine own_Fin.step (S' := T18.setTop (mkF m 16 #[.val (.ref a1)] [(.ref o_EVERY_FACING)])) (fun t k => XS.goto X18.here hx rfl (pc0 := 10) (pc' := 16) rfl (hb hby d2_10) (by decide) (by decide) k) ?_
    have hq19 : Q2 Z o_SHIELDMAN o_EVERY_FACING ko_EVERY_FACING o_E o_W o_NE o_NW o_SE o_SW o_WARLORD o_NO_FACING ko_NO_FACING o_HORSEMAN o_ARCHER a1 fz h0 n0 (some (.ref o_EVERY_FACING)) h0 _ := ⟨Or.inr (⟨hc4, rfl⟩), N0, rfl⟩
    exact own_retR X18 hx hlk (w := (.ref o_EVERY_FACING)) rfl hrt rfl (hb hby d2_16) e18 hq19 (by decide) (by decide)
theorem pn_0 : plainName "com/example/rulewright/rulewright/games/skorm/PieceTypeLandingsPinLaw" = true := by first | (simp [plainName, overriddenIn]; done) | decide +kernel
theorem pd_0_0 : parseMethodDescriptor "(I)Lcom/example/rulewright/rulewright/games/skorm/PieceType;" = some ⟨[.int], some (.object "com/example/rulewright/rulewright/games/skorm/PieceType")⟩ := by decide +kernel
theorem pd_0_1 : parseMethodDescriptor "()[Lcom/example/rulewright/rulewright/games/skorm/Direction;" = some ⟨[], some (.array (.object "com/example/rulewright/rulewright/games/skorm/Direction"))⟩ := by decide +kernel
theorem ef_0 (m : MethodId) (x0 : Int32) : entryFrame m #[(.int x0)] maxLocals = mkF m 0 #[.val (.int x0), .unset, .unset, .unset] [] := by first | (simp [entryFrame, mkF, argsToLocals, Value.category, maxLocals]; done) | rfl
def Q0 (Z : State) (o_SHIELDMAN : Addr) (o_EVERY_FACING : Addr) (ko_EVERY_FACING : ClassId) (o_E : Addr) (o_W : Addr) (o_NE : Addr) (o_NW : Addr) (o_SE : Addr) (o_SW : Addr) (o_WARLORD : Addr) (o_NO_FACING : Addr) (ko_NO_FACING : ClassId) (o_HORSEMAN : Addr) (o_ARCHER : Addr) (i0 : Int32) (h0 : Heap) (n0 : Nat) (v : Option Value) (h : Heap) (L : List Loc) : Prop := v = some (.int (1 : Int32)) ∧ Fr n0 L
set_option maxRecDepth 65536 in
set_option maxHeartbeats 40000000 in
theorem rm0 (l : Launch) (Z : State) (a0 : Array Value) (hw : ∀ d ∈ tables_1, d.before a0 Z = true) (ws : List Jvm.Cond) (o_SHIELDMAN : Addr) (o_EVERY_FACING : Addr) (ko_EVERY_FACING : ClassId) (o_E : Addr) (o_W : Addr) (o_NE : Addr) (o_NW : Addr) (o_SE : Addr) (o_SW : Addr) (o_WARLORD : Addr) (o_NO_FACING : Addr) (ko_NO_FACING : ClassId) (o_HORSEMAN : Addr) (o_ARCHER : Addr) (i0 : Int32) (h0 : Heap) (n0 : Nat) (Z0 : n0 ≤ h0.size) (OLD : Old Z n0 h0) (A : Amb Z o_SHIELDMAN o_EVERY_FACING ko_EVERY_FACING o_E o_W o_NE o_NW o_SE o_SW o_WARLORD o_NO_FACING ko_NO_FACING o_HORSEMAN o_ARCHER) :
    MetFree l x (head1 (Jvm.Cond.code x code maxLocals ret :: ws) room_1) (fun a U => a = #[(.int i0)] ∧ Z.Warmed39 U.vm ∧ U.heap = h0) (fun _ _ _ _ _ => True) (fun _ U o U' => ∃ v L, o = .returned v ∧ Q0 Z o_SHIELDMAN o_EVERY_FACING ko_EVERY_FACING o_E o_W o_NE o_NW o_SE o_SW o_WARLORD o_NO_FACING ko_NO_FACING o_HORSEMAN o_ARCHER i0 h0 n0 v U'.heap L ∧ FrameEnd U o U' L 0 0) := by
  refine MetFree.of_bodySF (plainFor_of_name pn_0) hisR ?_
  intro p e s m args below meth c s₁ Bd hml0 hP hK
  obtain ⟨rfl, hZ, hh⟩ := hP
  have hx := Bd.exec
  have hby := Bd.bytes
  have hml : c.maxLocals = 4 := hml0
  have hown : s.vm.findClass "com/example/rulewright/rulewright/games/skorm/PieceTypeLandingsPinLaw" = some m.cls := findClass_of_methodNamed Bd.named
  have hnm := (name_of_methodNamed Bd.named Bd.method).1
  have hlk : meth.locks = false := BodyLoose.notSynchronized Bd
  have hrt := Bd.returns
  have X0 : Stand p l e room_1 s m #[(.int i0)] below meth c s₁ [] 0 0 := Stand.of_body Bd
  have e0 : s₁.heap = h0 := by rw [← hh, Bd.state]; rfl
  have N0 := Fr.nil n0
  show own_Fin p.tables e below (own_post (Q0 Z o_SHIELDMAN o_EVERY_FACING ko_EVERY_FACING o_E o_W o_NE o_NW o_SE o_SW o_WARLORD o_NO_FACING ko_NO_FACING o_HORSEMAN o_ARCHER i0 h0 n0) s 0 0) (s₁.setTop (entryFrame m #[(.int i0)] maxLocals))
  refine own_Fin.step (fun t k => castTop (ef_0 m i0) k) ?_
  refine own_Fin.step (S' := s₁.setTop (mkF m 1 #[.val (.int i0), .unset, .unset, .unset] [(.int i0)])) (fun t k => XS.iloadN X0.here hx rfl (hb hby at_0) rfl  k) ?_
  refine own_Fin.step (S' := s₁.setTop (mkF m 2 #[.val (.int i0), .unset, .unset, .unset] [(.int (3 : Int32)), (.int i0)])) (fun t k => XS.iconst X0.here hx rfl (hb hby at_1) k) ?_
  refine own_Fin.step (S' := s₁.setTop (mkF m 3 #[.val (.int i0), .unset, .unset, .unset] [(.int (i0 &&& (3 : Int32)))])) (fun t k => XS.iand X0.here hx rfl (hb hby at_2) rfl k) ?_
  obtain ⟨v3, hv3⟩ : ∃ z : Int32, z = (i0 &&& (3 : Int32)) := ⟨_, rfl⟩
  rw [← hv3]
  refine own_Fin.step (S' := s₁.setTop (mkF m 4 #[.val (.int i0), .val (.int v3), .unset, .unset] [])) (fun t k => XS.istoreN X0.here hx rfl (hb hby at_3) rfl (l' := #[.val (.int i0), .val (.int v3), .unset, .unset]) rfl k) ?_
  refine own_Fin.step (S' := s₁.setTop (mkF m 5 #[.val (.int i0), .val (.int v3), .unset, .unset] [(.int v3)])) (fun t k => XS.iloadN X0.here hx rfl (hb hby at_4) rfl  k) ?_
  obtain ⟨_, _, ⟨T20, L20, k20, n20⟩, -, X20, ⟨Lc20, hQ20, l20, y20, zz20⟩, st20⟩ := Jvm.LawKit.callS X0 hx (y := (⟨"com/example/rulewright/rulewright/games/skorm/PieceTypeLandingsPinLaw", "pick", "(I)Lcom/example/rulewright/rulewright/games/skorm/PieceType;"⟩ : MethodName)) hown (mvT hZ (hw _ (List.mem_of_getElem? (i := 0) rfl))) (mvT hZ (hw _ (List.mem_of_getElem? (i := 1) rfl))) (mvT hZ (hw _ (List.mem_of_getElem? (i := 2) rfl))) (mvT hZ (hw _ (List.mem_of_getElem? (i := 3) rfl))) (by decide) (backOf (W := 0) (rm1 l Z a0 hw [] o_SHIELDMAN o_EVERY_FACING ko_EVERY_FACING o_E o_W o_NE o_NW o_SE o_SW o_WARLORD o_NO_FACING ko_NO_FACING o_HORSEMAN o_ARCHER v3 h0 n0 (by omega) OLD A) hZ (hw _ (List.mem_of_getElem? (i := 3) rfl)) (hw _ (List.mem_of_getElem? (i := 2) rfl)) (by decide) (by decide)) (g := (mkF m 5 #[.val (.int i0), .val (.int v3), .unset, .unset] [(.int v3)])) rfl (by rw [hml]; rfl) (argsL := [(.int v3)]) (rest := []) (lenOf pd_0_0 rfl) rfl (by show 2 * 0 + _ ≤ _; exact Nat.le_of_eq rfl) (hb hby at_5) (fun _ _ => ⟨rfl, e0, (by decide : 0 + 0 ≤ _), (by decide : 0 + 0 ≤ _)⟩)
  dsimp only [Pt.U, Pt.locs, Pt.cells, Pt.slots] at X20 l20 y20 zz20 st20 hQ20
  subst l20 y20 zz20
  obtain ⟨hvc20, N20q, e20⟩ := hQ20
  have N20 := Fr.app N0 N20q
  rcases hvc20 with ⟨hp5, rfl⟩ | ⟨hp5, rfl⟩ | ⟨hp5, rfl⟩ | ⟨hp5, rfl⟩
  · refine own_Fin.step (S' := T20.setTop (mkF m 8 #[.val (.int i0), .val (.int v3), .unset, .unset] [(.ref o_SHIELDMAN)])) st20 ?_
    refine own_Fin.step (S' := T20.setTop (mkF m 9 #[.val (.int i0), .val (.int v3), .val (.ref o_SHIELDMAN), .unset] [])) (fun t k => XS.astoreN X20.here hx rfl (hb hby at_8) rfl rfl (l' := #[.val (.int i0), .val (.int v3), .val (.ref o_SHIELDMAN), .unset]) rfl k) ?_
    refine own_Fin.step (S' := T20.setTop (mkF m 10 #[.val (.int i0), .val (.int v3), .val (.ref o_SHIELDMAN), .unset] [(.ref o_SHIELDMAN)])) (fun t k => XS.aloadN X20.here hx rfl (hb hby at_9) rfl rfl  k) ?_
    have f21 : Fld Z h0 o_SHIELDMAN "com/example/rulewright/rulewright/games/skorm/PieceType" "faces" "Z" (.int (1 : Int32)) := Fld.ext OLD.2 (Amb.a22 A)
    have f23 : Exa Z h0 o_SHIELDMAN "com/example/rulewright/rulewright/games/skorm/PieceType" := Exa.ext OLD.2 (Amb.a1 A)
    obtain ⟨cq22, kq22, q22a, q22b, q22c⟩ := isOf hZ e20 f23
    obtain ⟨_, _, ⟨T22, L22, k22, n22⟩, -, X22, ⟨Lc22, hQ22, l22, y22, zz22⟩, st22⟩ := X20.virtualBack hx (y := (⟨"com/example/rulewright/rulewright/games/skorm/PieceType", "landings", "()[Lcom/example/rulewright/rulewright/games/skorm/Direction;"⟩ : MethodName)) (z := (⟨"com/example/rulewright/rulewright/games/skorm/PieceType", "landings", "()[Lcom/example/rulewright/rulewright/games/skorm/Direction;"⟩ : MethodName)) hown (mvT hZ (hw _ (List.mem_of_getElem? (i := 7) rfl))) (mvT hZ (hw _ (List.mem_of_getElem? (i := 8) rfl))) (notFace_of_selects (args := #[]) (mvT hZ (hw _ (List.mem_of_getElem? (i := 10) rfl)))) (mvT hZ (hw _ (List.mem_of_getElem? (i := 10) rfl))) (mvT hZ (hw _ (List.mem_of_getElem? (i := 9) rfl))) (by decide) (backOf (W := 0) (rm2 l Z a0 hw [] o_SHIELDMAN o_EVERY_FACING ko_EVERY_FACING o_E o_W o_NE o_NW o_SE o_SW o_WARLORD o_NO_FACING ko_NO_FACING o_HORSEMAN o_ARCHER o_SHIELDMAN (1 : Int32) h0 n0 (by omega) OLD A f21) hZ (hw _ (List.mem_of_getElem? (i := 11) rfl)) (hw _ (List.mem_of_getElem? (i := 5) rfl)) (by decide) (by decide)) q22a q22c (g := (mkF m 10 #[.val (.int i0), .val (.int v3), .val (.ref o_SHIELDMAN), .unset] [(.ref o_SHIELDMAN)])) rfl (by rw [hml]; rfl) (Steps.refl _) (argsL := []) (rest := []) (lenOf pd_0_1 rfl) rfl (by show 2 * 0 + _ ≤ _; exact Nat.le_of_eq rfl) (hb hby at_10) (fun _ _ => ⟨rfl, e20, (by decide : 0 + 0 ≤ _), (by decide : 0 + 0 ≤ _)⟩)
    dsimp only [Pt.U, Pt.locs, Pt.cells, Pt.slots] at X22 l22 y22 zz22 st22 hQ22
    subst l22 y22 zz22
    obtain ⟨hvc22, N22q, e22⟩ := hQ22
    have N22 := Fr.app N20 N22q
    rcases hvc22 with ⟨hp10, rfl⟩ | ⟨hp10, rfl⟩
    · exact absurd hp10 (by decide)
    · refine own_Fin.trans (S' := T22.setTop (mkF m 13 #[.val (.int i0), .val (.int v3), .val (.ref o_SHIELDMAN), .unset] [(.ref o_EVERY_FACING)])) st22 ?_
      refine own_Fin.step (S' := T22.setTop (mkF m 14 #[.val (.int i0), .val (.int v3), .val (.ref o_SHIELDMAN), .val (.ref o_EVERY_FACING)] [])) (fun t k => XS.astoreN X22.here hx rfl (hb hby at_13) rfl rfl (l' := #[.val (.int i0), .val (.int v3), .val (.ref o_SHIELDMAN), .val (.ref o_EVERY_FACING)]) rfl k) ?_
      refine own_Fin.step (S' := T22.setTop (mkF m 15 #[.val (.int i0), .val (.int v3), .val (.ref o_SHIELDMAN), .val (.ref o_EVERY_FACING)] [(.ref o_EVERY_FACING)])) (fun t k => XS.aloadN X22.here hx rfl (hb hby at_14) rfl rfl  k) ?_
      refine own_Fin.step (S' := T22.setTop (mkF m 20 #[.val (.int i0), .val (.int v3), .val (.ref o_SHIELDMAN), .val (.ref o_EVERY_FACING)] [])) (fun t k => XS.ifnonnullYes X22.here hx rfl (pc0 := 15) (pc' := 20) rfl (hb hby at_15) rfl (by decide) (by decide) k) ?_
      refine own_Fin.step (S' := T22.setTop (mkF m 21 #[.val (.int i0), .val (.int v3), .val (.ref o_SHIELDMAN), .val (.ref o_EVERY_FACING)] [(.int v3)])) (fun t k => XS.iloadN X22.here hx rfl (hb hby at_20) rfl  k) ?_
      refine own_Fin.step (S' := T22.setTop (mkF m 24 #[.val (.int i0), .val (.int v3), .val (.ref o_SHIELDMAN), .val (.ref o_EVERY_FACING)] [])) (fun t k => XS.ifNo X22.here hx rfl (hb hby at_21) rfl ((if0 _ _).trans (teq hp5).2) k) ?_
      refine own_Fin.step (S' := T22.setTop (mkF m 25 #[.val (.int i0), .val (.int v3), .val (.ref o_SHIELDMAN), .val (.ref o_EVERY_FACING)] [(.ref o_EVERY_FACING)])) (fun t k => XS.aloadN X22.here hx rfl (hb hby at_24) rfl rfl  k) ?_
      have f24 : Arv Z h0 o_EVERY_FACING ko_EVERY_FACING (.object "com/example/rulewright/rulewright/games/skorm/Direction") (6 : Int32) [(.ref o_E), (.ref o_W), (.ref o_NE), (.ref o_NW), (.ref o_SE), (.ref o_SW)] .null := Arv.ext (Amb.a26 A) OLD.2
      obtain ⟨cl25, Ar25, q25, S25, N25z, Hs25, G25⟩ := id f24
      refine own_Fin.step (X22.arraylength hx (by rw [e22]; exact Ar25.1) (State.isArrayOf_alike hZ.alike Ar25.2.1) (g := (mkF m 25 #[.val (.int i0), .val (.int v3), .val (.ref o_SHIELDMAN), .val (.ref o_EVERY_FACING)] [(.ref o_EVERY_FACING)])) rfl rfl (hb hby at_25)) ?_
      rw [len_of S25 N25z]
      show own_Fin _ _ _ _ (T22.setTop (mkF m 26 #[.val (.int i0), .val (.int v3), .val (.ref o_SHIELDMAN), .val (.ref o_EVERY_FACING)] [(.int (6 : Int32))]))
      refine own_Fin.step (S' := T22.setTop (mkF m 28 #[.val (.int i0), .val (.int v3), .val (.ref o_SHIELDMAN), .val (.ref o_EVERY_FACING)] [(.int (6 : Int32)), (.int (6 : Int32))])) (fun t k => XS.bipush X22.here hx rfl (hb hby at_26) k) ?_
      refine own_Fin.step (S' := T22.setTop (mkF m 31 #[.val (.int i0), .val (.int v3), .val (.ref o_SHIELDMAN), .val (.ref o_EVERY_FACING)] [])) (fun t k => XS.icmpNo X22.here hx rfl (hb hby at_28) rfl (teq (by decide : ((6 : Int32) = (6 : Int32)))).2 k) ?_
      refine own_Fin.step (S' := T22.setTop (mkF m 32 #[.val (.int i0), .val (.int v3), .val (.ref o_SHIELDMAN), .val (.ref o_EVERY_FACING)] [(.ref o_EVERY_FACING)])) (fun t k => XS.aloadN X22.here hx rfl (hb hby at_31) rfl rfl  k) ?_
      refine own_Fin.step (S' := T22.setTop (mkF m 33 #[.val (.int i0), .val (.int v3), .val (.ref o_SHIELDMAN), .val (.ref o_EVERY_FACING)] [(.int (0 : Int32)), (.ref o_EVERY_FACING)])) (fun t k => XS.iconst X22.here hx rfl (hb hby at_32) k) ?_
      obtain ⟨cl26, Ar26, q26, S26, N26z, Hs26, G26⟩ := id f24
      have hin26 : ¬ ((0 : Int32) < 0 ∨ cl26.slots.size ≤ ((0 : Int32)).toNatClampNeg) := inb_of S26 ⟨by decide, by decide⟩
      have hat26 : cl26.slots[((0 : Int32)).toNatClampNeg]? = some (.ref o_E) := Hs26.at hin26 rfl
      refine own_Fin.step (S' := T22.setTop (mkF m 34 #[.val (.int i0), .val (.int v3), .val (.ref o_SHIELDMAN), .val (.ref o_EVERY_FACING)] [(.ref o_E)])) (X22.aaload hx (j := (0 : Int32)) (v := (.ref o_E)) (by rw [e22]; exact Ar26.1) (State.isArrayOf_alike hZ.alike Ar26.2.1) rfl Ar26.2.2 hin26 hat26 (g := (mkF m 33 #[.val (.int i0), .val (.int v3), .val (.ref o_SHIELDMAN), .val (.ref o_EVERY_FACING)] [(.int (0 : Int32)), (.ref o_EVERY_FACING)])) rfl rfl (hb hby at_33)) ?_
      have f27 : Sta Z h0 "com/example/rulewright/rulewright/games/skorm/Direction" "E" "Lcom/example/rulewright/rulewright/games/skorm/Direction;" (.ref o_E) := Sta.ext OLD.2 (Amb.a3 A)
      obtain ⟨T28, X28, e28, st28⟩ := getS2 X22 hx hZ hown (host := "") (Or.inl (hw _ (List.mem_of_getElem? (i := 18) rfl))) Via.refl e22 f27 (g := (mkF m 34 #[.val (.int i0), .val (.int v3), .val (.ref o_SHIELDMAN), .val (.ref o_EVERY_FACING)] [(.ref o_E)])) rfl (hb hby at_34)
      refine own_Fin.step (S' := T28.setTop (mkF m 37 #[.val (.int i0), .val (.int v3), .val (.ref o_SHIELDMAN), .val (.ref o_EVERY_FACING)] [(.ref o_E), (.ref o_E)])) st28 ?_
      refine own_Fin.step (S' := T28.setTop (mkF m 40 #[.val (.int i0), .val (.int v3), .val (.ref o_SHIELDMAN), .val (.ref o_EVERY_FACING)] [])) (fun t k => Jvm.RoadKit.acmp (g := (mkF m 37 #[.val (.int i0), .val (.int v3), .val (.ref o_SHIELDMAN), .val (.ref o_EVERY_FACING)] [(.ref o_E), (.ref o_E)])) X28 hx rfl rfl rfl (pc0 := 37) (pc' := 40) (same := true) rfl (hb hby at_37) rfl (decide_eq_true rfl) (by decide) (by decide) k) ?_
      refine own_Fin.step (S' := T28.setTop (mkF m 41 #[.val (.int i0), .val (.int v3), .val (.ref o_SHIELDMAN), .val (.ref o_EVERY_FACING)] [(.ref o_EVERY_FACING)])) (fun t k => XS.aloadN X28.here hx rfl (hb hby at_40) rfl rfl  k) ?_
      refine own_Fin.step (S' := T28.setTop (mkF m 42 #[.val (.int i0), .val (.int v3), .val (.ref o_SHIELDMAN), .val (.ref o_EVERY_FACING)] [(.int (1 : Int32)), (.ref o_EVERY_FACING)])) (fun t k => XS.iconst X28.here hx rfl (hb hby at_41) k) ?_
      obtain ⟨cl29, Ar29, q29, S29, N29z, Hs29, G29⟩ := id f24
      have hin29 : ¬ ((1 : Int32) < 0 ∨ cl29.slots.size ≤ ((1 : Int32)).toNatClampNeg) := inb_of S29 ⟨by decide, by decide⟩
      have hat29 : cl29.slots[((1 : Int32)).toNatClampNeg]? = some (.ref o_W) := Hs29.at hin29 rfl
      refine own_Fin.step (S' := T28.setTop (mkF m 43 #[.val (.int i0), .val (.int v3), .val (.ref o_SHIELDMAN), .val (.ref o_EVERY_FACING)] [(.ref o_W)])) (X28.aaload hx (j := (1 : Int32)) (v := (.ref o_W)) (by rw [e28]; exact Ar29.1) (State.isArrayOf_alike hZ.alike Ar29.2.1) rfl Ar29.2.2 hin29 hat29 (g := (mkF m 42 #[.val (.int i0), .val (.int v3), .val (.ref o_SHIELDMAN), .val (.ref o_EVERY_FACING)] [(.int (1 : Int32)), (.ref o_EVERY_FACING)])) rfl rfl (hb hby at_42)) ?_
      have f30 : Sta Z h0 "com/example/rulewright/rulewright/games/skorm/Direction" "W" "Lcom/example/rulewright/rulewright/games/skorm/Direction;" (.ref o_W) := Sta.ext OLD.2 (Amb.a5 A)
      obtain ⟨T31, X31, e31, st31⟩ := getS2 X28 hx hZ hown (host := "") (Or.inl (hw _ (List.mem_of_getElem? (i := 20) rfl))) Via.refl e28 f30 (g := (mkF m 43 #[.val (.int i0), .val (.int v3), .val (.ref o_SHIELDMAN), .val (.ref o_EVERY_FACING)] [(.ref o_W)])) rfl (hb hby at_43)
      refine own_Fin.step (S' := T31.setTop (mkF m 46 #[.val (.int i0), .val (.int v3), .val (.ref o_SHIELDMAN), .val (.ref o_EVERY_FACING)] [(.ref o_W), (.ref o_W)])) st31 ?_
      refine own_Fin.step (S' := T31.setTop (mkF m 49 #[.val (.int i0), .val (.int v3), .val (.ref o_SHIELDMAN), .val (.ref o_EVERY_FACING)] [])) (fun t k => Jvm.RoadKit.acmp (g := (mkF m 46 #[.val (.int i0), .val (.int v3), .val (.ref o_SHIELDMAN), .val (.ref o_EVERY_FACING)] [(.ref o_W), (.ref o_W)])) X31 hx rfl rfl rfl (pc0 := 46) (pc' := 49) (same := true) rfl (hb hby at_46) rfl (decide_eq_true rfl) (by decide) (by decide) k) ?_
      refine own_Fin.step (S' := T31.setTop (mkF m 50 #[.val (.int i0), .val (.int v3), .val (.ref o_SHIELDMAN), .val (.ref o_EVERY_FACING)] [(.ref o_EVERY_FACING)])) (fun t k => XS.aloadN X31.here hx rfl (hb hby at_49) rfl rfl  k) ?_
      refine own_Fin.step (S' := T31.setTop (mkF m 51 #[.val (.int i0), .val (.int v3), .val (.ref o_SHIELDMAN), .val (.ref o_EVERY_FACING)] [(.int (2 : Int32)), (.ref o_EVERY_FACING)])) (fun t k => XS.iconst X31.here hx rfl (hb hby at_50) k) ?_
      obtain ⟨cl32, Ar32, q32, S32, N32z, Hs32, G32⟩ := id f24
      have hin32 : ¬ ((2 : Int32) < 0 ∨ cl32.slots.size ≤ ((2 : Int32)).toNatClampNeg) := inb_of S32 ⟨by decide, by decide⟩
      have hat32 : cl32.slots[((2 : Int32)).toNatClampNeg]? = some (.ref o_NE) := Hs32.at hin32 rfl
      refine own_Fin.step (S' := T31.setTop (mkF m 52 #[.val (.int i0), .val (.int v3), .val (.ref o_SHIELDMAN), .val (.ref o_EVERY_FACING)] [(.ref o_NE)])) (X31.aaload hx (j := (2 : Int32)) (v := (.ref o_NE)) (by rw [e31]; exact Ar32.1) (State.isArrayOf_alike hZ.alike Ar32.2.1) rfl Ar32.2.2 hin32 hat32 (g := (mkF m 51 #[.val (.int i0), .val (.int v3), .val (.ref o_SHIELDMAN), .val (.ref o_EVERY_FACING)] [(.int (2 : Int32)), (.ref o_EVERY_FACING)])) rfl rfl (hb hby at_51)) ?_
      have f33 : Sta Z h0 "com/example/rulewright/rulewright/games/skorm/Direction" "NE" "Lcom/example/rulewright/rulewright/games/skorm/Direction;" (.ref o_NE) := Sta.ext OLD.2 (Amb.a7 A)
      obtain ⟨T34, X34, e34, st34⟩ := getS2 X31 hx hZ hown (host := "") (Or.inl (hw _ (List.mem_of_getElem? (i := 22) rfl))) Via.refl e31 f33 (g := (mkF m 52 #[.val (.int i0), .val (.int v3), .val (.ref o_SHIELDMAN), .val (.ref o_EVERY_FACING)] [(.ref o_NE)])) rfl (hb hby at_52)
      refine own_Fin.step (S' := T34.setTop (mkF m 55 #[.val (.int i0), .val (.int v3), .val (.ref o_SHIELDMAN), .val (.ref o_EVERY_FACING)] [(.ref o_NE), (.ref o_NE)])) st34 ?_
      refine own_Fin.step (S' := T34.setTop (mkF m 58 #[.val (.int i0), .val (.int v3), .val (.ref o_SHIELDMAN), .val (.ref o_EVERY_FACING)] [])) (fun t k => Jvm.RoadKit.acmp (g := (mkF m 55 #[.val (.int i0), .val (.int v3), .val (.ref o_SHIELDMAN), .val (.ref o_EVERY_FACING)] [(.ref o_NE), (.ref o_NE)])) X34 hx rfl rfl rfl (pc0 := 55) (pc' := 58) (same := true) rfl (hb hby at_55) rfl (decide_eq_true rfl) (by decide) (by decide) k) ?_
      refine own_Fin.step (S' := T34.setTop (mkF m 59 #[.val (.int i0), .val (.int v3), .val (.ref o_SHIELDMAN), .val (.ref o_EVERY_FACING)] [(.ref o_EVERY_FACING)])) (fun t k => XS.aloadN X34.here hx rfl (hb hby at_58) rfl rfl  k) ?_
      refine own_Fin.step (S' := T34.setTop (mkF m 60 #[.val (.int i0), .val (.int v3), .val (.ref o_SHIELDMAN), .val (.ref o_EVERY_FACING)] [(.int (3 : Int32)), (.ref o_EVERY_FACING)])) (fun t k => XS.iconst X34.here hx rfl (hb hby at_59) k) ?_
      obtain ⟨cl35, Ar35, q35, S35, N35z, Hs35, G35⟩ := id f24
      have hin35 : ¬ ((3 : Int32) < 0 ∨ cl35.slots.size ≤ ((3 : Int32)).toNatClampNeg) := inb_of S35 ⟨by decide, by decide⟩
      have hat35 : cl35.slots[((3 : Int32)).toNatClampNeg]? = some (.ref o_NW) := Hs35.at hin35 rfl
      refine own_Fin.step (S' := T34.setTop (mkF m 61 #[.val (.int i0), .val (.int v3), .val (.ref o_SHIELDMAN), .val (.ref o_EVERY_FACING)] [(.ref o_NW)])) (X34.aaload hx (j := (3 : Int32)) (v := (.ref o_NW)) (by rw [e34]; exact Ar35.1) (State.isArrayOf_alike hZ.alike Ar35.2.1) rfl Ar35.2.2 hin35 hat35 (g := (mkF m 60 #[.val (.int i0), .val (.int v3), .val (.ref o_SHIELDMAN), .val (.ref o_EVERY_FACING)] [(.int (3 : Int32)), (.ref o_EVERY_FACING)])) rfl rfl (hb hby at_60)) ?_
      have f36 : Sta Z h0 "com/example/rulewright/rulewright/games/skorm/Direction" "NW" "Lcom/example/rulewright/rulewright/games/skorm/Direction;" (.ref o_NW) := Sta.ext OLD.2 (Amb.a9 A)
      obtain ⟨T37, X37, e37, st37⟩ := getS2 X34 hx hZ hown (host := "") (Or.inl (hw _ (List.mem_of_getElem? (i := 24) rfl))) Via.refl e34 f36 (g := (mkF m 61 #[.val (.int i0), .val (.int v3), .val (.ref o_SHIELDMAN), .val (.ref o_EVERY_FACING)] [(.ref o_NW)])) rfl (hb hby at_61)
      refine own_Fin.step (S' := T37.setTop (mkF m 64 #[.val (.int i0), .val (.int v3), .val (.ref o_SHIELDMAN), .val (.ref o_EVERY_FACING)] [(.ref o_NW), (.ref o_NW)])) st37 ?_
      refine own_Fin.step (S' := T37.setTop (mkF m 67 #[.val (.int i0), .val (.int v3), .val (.ref o_SHIELDMAN), .val (.ref o_EVERY_FACING)] [])) (fun t k => Jvm.RoadKit.acmp (g := (mkF m 64 #[.val (.int i0), .val (.int v3), .val (.ref o_SHIELDMAN), .val (.ref o_EVERY_FACING)] [(.ref o_NW), (.ref o_NW)])) X37 hx rfl rfl rfl (pc0 := 64) (pc' := 67) (same := true) rfl (hb hby at_64) rfl (decide_eq_true rfl) (by decide) (by decide) k) ?_
      refine own_Fin.step (S' := T37.setTop (mkF m 68 #[.val (.int i0), .val (.int v3), .val (.ref o_SHIELDMAN), .val (.ref o_EVERY_FACING)] [(.ref o_EVERY_FACING)])) (fun t k => XS.aloadN X37.here hx rfl (hb hby at_67) rfl rfl  k) ?_
      refine own_Fin.step (S' := T37.setTop (mkF m 69 #[.val (.int i0), .val (.int v3), .val (.ref o_SHIELDMAN), .val (.ref o_EVERY_FACING)] [(.int (4 : Int32)), (.ref o_EVERY_FACING)])) (fun t k => XS.iconst X37.here hx rfl (hb hby at_68) k) ?_
      obtain ⟨cl38, Ar38, q38, S38, N38z, Hs38, G38⟩ := id f24
      have hin38 : ¬ ((4 : Int32) < 0 ∨ cl38.slots.size ≤ ((4 : Int32)).toNatClampNeg) := inb_of S38 ⟨by decide, by decide⟩
      have hat38 : cl38.slots[((4 : Int32)).toNatClampNeg]? = some (.ref o_SE) := Hs38.at hin38 rfl
      refine own_Fin.step (S' := T37.setTop (mkF m 70 #[.val (.int i0), .val (.int v3), .val (.ref o_SHIELDMAN), .val (.ref o_EVERY_FACING)] [(.ref o_SE)])) (X37.aaload hx (j := (4 : Int32)) (v := (.ref o_SE)) (by rw [e37]; exact Ar38.1) (State.isArrayOf_alike hZ.alike Ar38.2.1) rfl Ar38.2.2 hin38 hat38 (g := (mkF m 69 #[.val (.int i0), .val (.int v3), .val (.ref o_SHIELDMAN), .val (.ref o_EVERY_FACING)] [(.int (4 : Int32)), (.ref o_EVERY_FACING)])) rfl rfl (hb hby at_69)) ?_
      have f39 : Sta Z h0 "com/example/rulewright/rulewright/games/skorm/Direction" "SE" "Lcom/example/rulewright/rulewright/games/skorm/Direction;" (.ref o_SE) := Sta.ext OLD.2 (Amb.a11 A)
      obtain ⟨T40, X40, e40, st40⟩ := getS2 X37 hx hZ hown (host := "") (Or.inl (hw _ (List.mem_of_getElem? (i := 26) rfl))) Via.refl e37 f39 (g := (mkF m 70 #[.val (.int i0), .val (.int v3), .val (.ref o_SHIELDMAN), .val (.ref o_EVERY_FACING)] [(.ref o_SE)])) rfl (hb hby at_70)
      refine own_Fin.step (S' := T40.setTop (mkF m 73 #[.val (.int i0), .val (.int v3), .val (.ref o_SHIELDMAN), .val (.ref o_EVERY_FACING)] [(.ref o_SE), (.ref o_SE)])) st40 ?_
      refine own_Fin.step (S' := T40.setTop (mkF m 76 #[.val (.int i0), .val (.int v3), .val (.ref o_SHIELDMAN), .val (.ref o_EVERY_FACING)] [])) (fun t k => Jvm.RoadKit.acmp (g := (mkF m 73 #[.val (.int i0), .val (.int v3), .val (.ref o_SHIELDMAN), .val (.ref o_EVERY_FACING)] [(.ref o_SE), (.ref o_SE)])) X40 hx rfl rfl rfl (pc0 := 73) (pc' := 76) (same := true) rfl (hb hby at_73) rfl (decide_eq_true rfl) (by decide) (by decide) k) ?_
      refine own_Fin.step (S' := T40.setTop (mkF m 77 #[.val (.int i0), .val (.int v3), .val (.ref o_SHIELDMAN), .val (.ref o_EVERY_FACING)] [(.ref o_EVERY_FACING)])) (fun t k => XS.aloadN X40.here hx rfl (hb hby at_76) rfl rfl  k) ?_
      refine own_Fin.step (S' := T40.setTop (mkF m 78 #[.val (.int i0), .val (.int v3), .val (.ref o_SHIELDMAN), .val (.ref o_EVERY_FACING)] [(.int (5 : Int32)), (.ref o_EVERY_FACING)])) (fun t k => XS.iconst X40.here hx rfl (hb hby at_77) k) ?_
      obtain ⟨cl41, Ar41, q41, S41, N41z, Hs41, G41⟩ := id f24
      have hin41 : ¬ ((5 : Int32) < 0 ∨ cl41.slots.size ≤ ((5 : Int32)).toNatClampNeg) := inb_of S41 ⟨by decide, by decide⟩
      have hat41 : cl41.slots[((5 : Int32)).toNatClampNeg]? = some (.ref o_SW) := Hs41.at hin41 rfl
      refine own_Fin.step (S' := T40.setTop (mkF m 79 #[.val (.int i0), .val (.int v3), .val (.ref o_SHIELDMAN), .val (.ref o_EVERY_FACING)] [(.ref o_SW)])) (X40.aaload hx (j := (5 : Int32)) (v := (.ref o_SW)) (by rw [e40]; exact Ar41.1) (State.isArrayOf_alike hZ.alike Ar41.2.1) rfl Ar41.2.2 hin41 hat41 (g := (mkF m 78 #[.val (.int i0), .val (.int v3), .val (.ref o_SHIELDMAN), .val (.ref o_EVERY_FACING)] [(.int (5 : Int32)), (.ref o_EVERY_FACING)])) rfl rfl (hb hby at_78)) ?_
      have f42 : Sta Z h0 "com/example/rulewright/rulewright/games/skorm/Direction" "SW" "Lcom/example/rulewright/rulewright/games/skorm/Direction;" (.ref o_SW) := Sta.ext OLD.2 (Amb.a13 A)
      obtain ⟨T43, X43, e43, st43⟩ := getS2 X40 hx hZ hown (host := "") (Or.inl (hw _ (List.mem_of_getElem? (i := 28) rfl))) Via.refl e40 f42 (g := (mkF m 79 #[.val (.int i0), .val (.int v3), .val (.ref o_SHIELDMAN), .val (.ref o_EVERY_FACING)] [(.ref o_SW)])) rfl (hb hby at_79)
      refine own_Fin.step (S' := T43.setTop (mkF m 82 #[.val (.int i0), .val (.int v3), .val (.ref o_SHIELDMAN), .val (.ref o_EVERY_FACING)] [(.ref o_SW), (.ref o_SW)])) st43 ?_
      refine own_Fin.step (S' := T43.setTop (mkF m 85 #[.val (.int i0), .val (.int v3), .val (.ref o_SHIELDMAN), .val (.ref o_EVERY_FACING)] [])) (fun t k => Jvm.RoadKit.acmp (g := (mkF m 82 #[.val (.int i0), .val (.int v3), .val (.ref o_SHIELDMAN), .val (.ref o_EVERY_FACING)] [(.ref o_SW), (.ref o_SW)])) X43 hx rfl rfl rfl (pc0 := 82) (pc' := 85) (same := true) rfl (hb hby at_82) rfl (decide_eq_true rfl) (by decide) (by decide) k) ?_
      refine own_Fin.step (S' := T43.setTop (mkF m 86 #[.val (.int i0), .val (.int v3), .val (.ref o_SHIELDMAN), .val (.ref o_EVERY_FACING)] [(.int (1 : Int32))])) (fun t k => XS.iconst X43.here hx rfl (hb hby at_85) k) ?_
      refine own_Fin.step (S' := T43.setTop (mkF m 90 #[.val (.int i0), .val (.int v3), .val (.ref o_SHIELDMAN), .val (.ref o_EVERY_FACING)] [(.int (1 : Int32))])) (fun t k => XS.goto X43.here hx rfl (pc0 := 86) (pc' := 90) rfl (hb hby at_86) (by decide) (by decide) k) ?_
      have hq44 : Q0 Z o_SHIELDMAN o_EVERY_FACING ko_EVERY_FACING o_E o_W o_NE o_NW o_SE o_SW o_WARLORD o_NO_FACING ko_NO_FACING o_HORSEMAN o_ARCHER i0 h0 n0 (some (.int (nar .boolean (1 : Int32)))) h0 _ := ⟨rfl, N22⟩
      exact own_retN X43 hx hlk (t := .boolean) hrt (by simp) (hb hby at_90) e43 hq44 (by decide) (by decide)
  · refine own_Fin.step (S' := T20.setTop (mkF m 8 #[.val (.int i0), .val (.int v3), .unset, .unset] [(.ref o_ARCHER)])) st20 ?_
    refine own_Fin.step (S' := T20.setTop (mkF m 9 #[.val (.int i0), .val (.int v3), .val (.ref o_ARCHER), .unset] [])) (fun t k => XS.astoreN X20.here hx rfl (hb hby at_8) rfl rfl (l' := #[.val (.int i0), .val (.int v3), .val (.ref o_ARCHER), .unset]) rfl k) ?_
    refine own_Fin.step (S' := T20.setTop (mkF m 10 #[.val (.int i0), .val (.int v3), .val (.ref o_ARCHER), .unset] [(.ref o_ARCHER)])) (fun t k => XS.aloadN X20.here hx rfl (hb hby at_9) rfl rfl  k) ?_
    have f45 : Fld Z h0 o_ARCHER "com/example/rulewright/rulewright/games/skorm/PieceType" "faces" "Z" (.int (0 : Int32)) := Fld.ext OLD.2 (Amb.a25 A)
    have f47 : Exa Z h0 o_ARCHER "com/example/rulewright/rulewright/games/skorm/PieceType" := Exa.ext OLD.2 (Amb.a21 A)
    obtain ⟨cq46, kq46, q46a, q46b, q46c⟩ := isOf hZ e20 f47
    obtain ⟨_, _, ⟨T46, L46, k46, n46⟩, -, X46, ⟨Lc46, hQ46, l46, y46, zz46⟩, st46⟩ := X20.virtualBack hx (y := (⟨"com/example/rulewright/rulewright/games/skorm/PieceType", "landings", "()[Lcom/example/rulewright/rulewright/games/skorm/Direction;"⟩ : MethodName)) (z := (⟨"com/example/rulewright/rulewright/games/skorm/PieceType", "landings", "()[Lcom/example/rulewright/rulewright/games/skorm/Direction;"⟩ : MethodName)) hown (mvT hZ (hw _ (List.mem_of_getElem? (i := 7) rfl))) (mvT hZ (hw _ (List.mem_of_getElem? (i := 8) rfl))) (notFace_of_selects (args := #[]) (mvT hZ (hw _ (List.mem_of_getElem? (i := 10) rfl)))) (mvT hZ (hw _ (List.mem_of_getElem? (i := 10) rfl))) (mvT hZ (hw _ (List.mem_of_getElem? (i := 9) rfl))) (by decide) (backOf (W := 0) (rm2 l Z a0 hw [] o_SHIELDMAN o_EVERY_FACING ko_EVERY_FACING o_E o_W o_NE o_NW o_SE o_SW o_WARLORD o_NO_FACING ko_NO_FACING o_HORSEMAN o_ARCHER o_ARCHER (0 : Int32) h0 n0 (by omega) OLD A f45) hZ (hw _ (List.mem_of_getElem? (i := 11) rfl)) (hw _ (List.mem_of_getElem? (i := 5) rfl)) (by decide) (by decide)) q46a q46c (g := (mkF m 10 #[.val (.int i0), .val (.int v3), .val (.ref o_ARCHER), .unset] [(.ref o_ARCHER)])) rfl (by rw [hml]; rfl) (Steps.refl _) (argsL := []) (rest := []) (lenOf pd_0_1 rfl) rfl (by show 2 * 0 + _ ≤ _; exact Nat.le_of_eq rfl) (hb hby at_10) (fun _ _ => ⟨rfl, e20, (by decide : 0 + 0 ≤ _), (by decide : 0 + 0 ≤ _)⟩)
    dsimp only [Pt.U, Pt.locs, Pt.cells, Pt.slots] at X46 l46 y46 zz46 st46 hQ46
    subst l46 y46 zz46
    obtain ⟨hvc46, N46q, e46⟩ := hQ46
    have N46 := Fr.app N20 N46q
    rcases hvc46 with ⟨hp10, rfl⟩ | ⟨hp10, rfl⟩
    · refine own_Fin.trans (S' := T46.setTop (mkF m 13 #[.val (.int i0), .val (.int v3), .val (.ref o_ARCHER), .unset] [(.ref o_NO_FACING)])) st46 ?_
      refine own_Fin.step (S' := T46.setTop (mkF m 14 #[.val (.int i0), .val (.int v3), .val (.ref o_ARCHER), .val (.ref o_NO_FACING)] [])) (fun t k => XS.astoreN X46.here hx rfl (hb hby at_13) rfl rfl (l' := #[.val (.int i0), .val (.int v3), .val (.ref o_ARCHER), .val (.ref o_NO_FACING)]) rfl k) ?_
      refine own_Fin.step (S' := T46.setTop (mkF m 15 #[.val (.int i0), .val (.int v3), .val (.ref o_ARCHER), .val (.ref o_NO_FACING)] [(.ref o_NO_FACING)])) (fun t k => XS.aloadN X46.here hx rfl (hb hby at_14) rfl rfl  k) ?_
      refine own_Fin.step (S' := T46.setTop (mkF m 20 #[.val (.int i0), .val (.int v3), .val (.ref o_ARCHER), .val (.ref o_NO_FACING)] [])) (fun t k => XS.ifnonnullYes X46.here hx rfl (pc0 := 15) (pc' := 20) rfl (hb hby at_15) rfl (by decide) (by decide) k) ?_
      refine own_Fin.step (S' := T46.setTop (mkF m 21 #[.val (.int i0), .val (.int v3), .val (.ref o_ARCHER), .val (.ref o_NO_FACING)] [(.int v3)])) (fun t k => XS.iloadN X46.here hx rfl (hb hby at_20) rfl  k) ?_
      refine own_Fin.step (S' := T46.setTop (mkF m 91 #[.val (.int i0), .val (.int v3), .val (.ref o_ARCHER), .val (.ref o_NO_FACING)] [])) (fun t k => XS.ifYes X46.here hx rfl (pc0 := 21) (pc' := 91) rfl (hb hby at_21) rfl ((if0 _ _).trans (feq hp5.1).2) (by decide) (by decide) k) ?_
      refine own_Fin.step (S' := T46.setTop (mkF m 92 #[.val (.int i0), .val (.int v3), .val (.ref o_ARCHER), .val (.ref o_NO_FACING)] [(.ref o_NO_FACING)])) (fun t k => XS.aloadN X46.here hx rfl (hb hby at_91) rfl rfl  k) ?_
      have f48 : Arv Z h0 o_NO_FACING ko_NO_FACING (.object "com/example/rulewright/rulewright/games/skorm/Direction") (1 : Int32) [.null] .null := Arv.ext (Amb.a27 A) OLD.2
      obtain ⟨cl49, Ar49, q49, S49, N49z, Hs49, G49⟩ := id f48
      refine own_Fin.step (X46.arraylength hx (by rw [e46]; exact Ar49.1) (State.isArrayOf_alike hZ.alike Ar49.2.1) (g := (mkF m 92 #[.val (.int i0), .val (.int v3), .val (.ref o_ARCHER), .val (.ref o_NO_FACING)] [(.ref o_NO_FACING)])) rfl rfl (hb hby at_92)) ?_
      rw [len_of S49 N49z]
      show own_Fin _ _ _ _ (T46.setTop (mkF m 93 #[.val (.int i0), .val (.int v3), .val (.ref o_ARCHER), .val (.ref o_NO_FACING)] [(.int (1 : Int32))]))
      refine own_Fin.step (S' := T46.setTop (mkF m 94 #[.val (.int i0), .val (.int v3), .val (.ref o_ARCHER), .val (.ref o_NO_FACING)] [(.int (1 : Int32)), (.int (1 : Int32))])) (fun t k => XS.iconst X46.here hx rfl (hb hby at_93) k) ?_
      refine own_Fin.step (S' := T46.setTop (mkF m 97 #[.val (.int i0), .val (.int v3), .val (.ref o_ARCHER), .val (.ref o_NO_FACING)] [])) (fun t k => XS.icmpNo X46.here hx rfl (hb hby at_94) rfl (teq (by decide : ((1 : Int32) = (1 : Int32)))).2 k) ?_
      refine own_Fin.step (S' := T46.setTop (mkF m 98 #[.val (.int i0), .val (.int v3), .val (.ref o_ARCHER), .val (.ref o_NO_FACING)] [(.ref o_NO_FACING)])) (fun t k => XS.aloadN X46.here hx rfl (hb hby at_97) rfl rfl  k) ?_
      refine own_Fin.step (S' := T46.setTop (mkF m 99 #[.val (.int i0), .val (.int v3), .val (.ref o_ARCHER), .val (.ref o_NO_FACING)] [(.int (0 : Int32)), (.ref o_NO_FACING)])) (fun t k => XS.iconst X46.here hx rfl (hb hby at_98) k) ?_
      obtain ⟨cl50, Ar50, q50, S50, N50z, Hs50, G50⟩ := id f48
      have hin50 : ¬ ((0 : Int32) < 0 ∨ cl50.slots.size ≤ ((0 : Int32)).toNatClampNeg) := inb_of S50 ⟨by decide, by decide⟩
      have hat50 : cl50.slots[((0 : Int32)).toNatClampNeg]? = some .null := Hs50.at hin50 rfl
      refine own_Fin.step (S' := T46.setTop (mkF m 100 #[.val (.int i0), .val (.int v3), .val (.ref o_ARCHER), .val (.ref o_NO_FACING)] [.null])) (X46.aaload hx (j := (0 : Int32)) (v := .null) (by rw [e46]; exact Ar50.1) (State.isArrayOf_alike hZ.alike Ar50.2.1) rfl Ar50.2.2 hin50 hat50 (g := (mkF m 99 #[.val (.int i0), .val (.int v3), .val (.ref o_ARCHER), .val (.ref o_NO_FACING)] [(.int (0 : Int32)), (.ref o_NO_FACING)])) rfl rfl (hb hby at_99)) ?_
      refine own_Fin.step (S' := T46.setTop (mkF m 103 #[.val (.int i0), .val (.int v3), .val (.ref o_ARCHER), .val (.ref o_NO_FACING)] [])) (fun t k => XS.ifnonnullNo X46.here hx rfl (hb hby at_100) rfl k) ?_
      refine own_Fin.step (S' := T46.setTop (mkF m 104 #[.val (.int i0), .val (.int v3), .val (.ref o_ARCHER), .val (.ref o_NO_FACING)] [(.int (1 : Int32))])) (fun t k => XS.iconst X46.here hx rfl (hb hby at_103) k) ?_
      refine own_Fin.step (S' := T46.setTop (mkF m 108 #[.val (.int i0), .val (.int v3), .val (.ref o_ARCHER), .val (.ref o_NO_FACING)] [(.int (1 : Int32))])) (fun t k => XS.goto X46.here hx rfl (pc0 := 104) (pc' := 108) rfl (hb hby at_104) (by decide) (by decide) k) ?_
      have hq51 : Q0 Z o_SHIELDMAN o_EVERY_FACING ko_EVERY_FACING o_E o_W o_NE o_NW o_SE o_SW o_WARLORD o_NO_FACING ko_NO_FACING o_HORSEMAN o_ARCHER i0 h0 n0 (some (.int (nar .boolean (1 : Int32)))) h0 _ := ⟨rfl, N46⟩
      exact own_retN X46 hx hlk (t := .boolean) hrt (by simp) (hb hby at_108) e46 hq51 (by decide) (by decide)
    · exact absurd hp10 (by decide)
  · refine own_Fin.step (S' := T20.setTop (mkF m 8 #[.val (.int i0), .val (.int v3), .unset, .unset] [(.ref o_HORSEMAN)])) st20 ?_
    refine own_Fin.step (S' := T20.setTop (mkF m 9 #[.val (.int i0), .val (.int v3), .val (.ref o_HORSEMAN), .unset] [])) (fun t k => XS.astoreN X20.here hx rfl (hb hby at_8) rfl rfl (l' := #[.val (.int i0), .val (.int v3), .val (.ref o_HORSEMAN), .unset]) rfl k) ?_
    refine own_Fin.step (S' := T20.setTop (mkF m 10 #[.val (.int i0), .val (.int v3), .val (.ref o_HORSEMAN), .unset] [(.ref o_HORSEMAN)])) (fun t k => XS.aloadN X20.here hx rfl (hb hby at_9) rfl rfl  k) ?_
    have f52 : Fld Z h0 o_HORSEMAN "com/example/rulewright/rulewright/games/skorm/PieceType" "faces" "Z" (.int (0 : Int32)) := Fld.ext OLD.2 (Amb.a24 A)
    have f54 : Exa Z h0 o_HORSEMAN "com/example/rulewright/rulewright/games/skorm/PieceType" := Exa.ext OLD.2 (Amb.a19 A)
    obtain ⟨cq53, kq53, q53a, q53b, q53c⟩ := isOf hZ e20 f54
    obtain ⟨_, _, ⟨T53, L53, k53, n53⟩, -, X53, ⟨Lc53, hQ53, l53, y53, zz53⟩, st53⟩ := X20.virtualBack hx (y := (⟨"com/example/rulewright/rulewright/games/skorm/PieceType", "landings", "()[Lcom/example/rulewright/rulewright/games/skorm/Direction;"⟩ : MethodName)) (z := (⟨"com/example/rulewright/rulewright/games/skorm/PieceType", "landings", "()[Lcom/example/rulewright/rulewright/games/skorm/Direction;"⟩ : MethodName)) hown (mvT hZ (hw _ (List.mem_of_getElem? (i := 7) rfl))) (mvT hZ (hw _ (List.mem_of_getElem? (i := 8) rfl))) (notFace_of_selects (args := #[]) (mvT hZ (hw _ (List.mem_of_getElem? (i := 10) rfl)))) (mvT hZ (hw _ (List.mem_of_getElem? (i := 10) rfl))) (mvT hZ (hw _ (List.mem_of_getElem? (i := 9) rfl))) (by decide) (backOf (W := 0) (rm2 l Z a0 hw [] o_SHIELDMAN o_EVERY_FACING ko_EVERY_FACING o_E o_W o_NE o_NW o_SE o_SW o_WARLORD o_NO_FACING ko_NO_FACING o_HORSEMAN o_ARCHER o_HORSEMAN (0 : Int32) h0 n0 (by omega) OLD A f52) hZ (hw _ (List.mem_of_getElem? (i := 11) rfl)) (hw _ (List.mem_of_getElem? (i := 5) rfl)) (by decide) (by decide)) q53a q53c (g := (mkF m 10 #[.val (.int i0), .val (.int v3), .val (.ref o_HORSEMAN), .unset] [(.ref o_HORSEMAN)])) rfl (by rw [hml]; rfl) (Steps.refl _) (argsL := []) (rest := []) (lenOf pd_0_1 rfl) rfl (by show 2 * 0 + _ ≤ _; exact Nat.le_of_eq rfl) (hb hby at_10) (fun _ _ => ⟨rfl, e20, (by decide : 0 + 0 ≤ _), (by decide : 0 + 0 ≤ _)⟩)
    dsimp only [Pt.U, Pt.locs, Pt.cells, Pt.slots] at X53 l53 y53 zz53 st53 hQ53
    subst l53 y53 zz53
    obtain ⟨hvc53, N53q, e53⟩ := hQ53
    have N53 := Fr.app N20 N53q
    rcases hvc53 with ⟨hp10, rfl⟩ | ⟨hp10, rfl⟩
    · refine own_Fin.trans (S' := T53.setTop (mkF m 13 #[.val (.int i0), .val (.int v3), .val (.ref o_HORSEMAN), .unset] [(.ref o_NO_FACING)])) st53 ?_
      refine own_Fin.step (S' := T53.setTop (mkF m 14 #[.val (.int i0), .val (.int v3), .val (.ref o_HORSEMAN), .val (.ref o_NO_FACING)] [])) (fun t k => XS.astoreN X53.here hx rfl (hb hby at_13) rfl rfl (l' := #[.val (.int i0), .val (.int v3), .val (.ref o_HORSEMAN), .val (.ref o_NO_FACING)]) rfl k) ?_
      refine own_Fin.step (S' := T53.setTop (mkF m 15 #[.val (.int i0), .val (.int v3), .val (.ref o_HORSEMAN), .val (.ref o_NO_FACING)] [(.ref o_NO_FACING)])) (fun t k => XS.aloadN X53.here hx rfl (hb hby at_14) rfl rfl  k) ?_
      refine own_Fin.step (S' := T53.setTop (mkF m 20 #[.val (.int i0), .val (.int v3), .val (.ref o_HORSEMAN), .val (.ref o_NO_FACING)] [])) (fun t k => XS.ifnonnullYes X53.here hx rfl (pc0 := 15) (pc' := 20) rfl (hb hby at_15) rfl (by decide) (by decide) k) ?_
      refine own_Fin.step (S' := T53.setTop (mkF m 21 #[.val (.int i0), .val (.int v3), .val (.ref o_HORSEMAN), .val (.ref o_NO_FACING)] [(.int v3)])) (fun t k => XS.iloadN X53.here hx rfl (hb hby at_20) rfl  k) ?_
      refine own_Fin.step (S' := T53.setTop (mkF m 91 #[.val (.int i0), .val (.int v3), .val (.ref o_HORSEMAN), .val (.ref o_NO_FACING)] [])) (fun t k => XS.ifYes X53.here hx rfl (pc0 := 21) (pc' := 91) rfl (hb hby at_21) rfl ((if0 _ _).trans (feq hp5.1).2) (by decide) (by decide) k) ?_
      refine own_Fin.step (S' := T53.setTop (mkF m 92 #[.val (.int i0), .val (.int v3), .val (.ref o_HORSEMAN), .val (.ref o_NO_FACING)] [(.ref o_NO_FACING)])) (fun t k => XS.aloadN X53.here hx rfl (hb hby at_91) rfl rfl  k) ?_
      have f55 : Arv Z h0 o_NO_FACING ko_NO_FACING (.object "com/example/rulewright/rulewright/games/skorm/Direction") (1 : Int32) [.null] .null := Arv.ext (Amb.a27 A) OLD.2
      obtain ⟨cl56, Ar56, q56, S56, N56z, Hs56, G56⟩ := id f55
      refine own_Fin.step (X53.arraylength hx (by rw [e53]; exact Ar56.1) (State.isArrayOf_alike hZ.alike Ar56.2.1) (g := (mkF m 92 #[.val (.int i0), .val (.int v3), .val (.ref o_HORSEMAN), .val (.ref o_NO_FACING)] [(.ref o_NO_FACING)])) rfl rfl (hb hby at_92)) ?_
      rw [len_of S56 N56z]
      show own_Fin _ _ _ _ (T53.setTop (mkF m 93 #[.val (.int i0), .val (.int v3), .val (.ref o_HORSEMAN), .val (.ref o_NO_FACING)] [(.int (1 : Int32))]))
      refine own_Fin.step (S' := T53.setTop (mkF m 94 #[.val (.int i0), .val (.int v3), .val (.ref o_HORSEMAN), .val (.ref o_NO_FACING)] [(.int (1 : Int32)), (.int (1 : Int32))])) (fun t k => XS.iconst X53.here hx rfl (hb hby at_93) k) ?_
      refine own_Fin.step (S' := T53.setTop (mkF m 97 #[.val (.int i0), .val (.int v3), .val (.ref o_HORSEMAN), .val (.ref o_NO_FACING)] [])) (fun t k => XS.icmpNo X53.here hx rfl (hb hby at_94) rfl (teq (by decide : ((1 : Int32) = (1 : Int32)))).2 k) ?_
      refine own_Fin.step (S' := T53.setTop (mkF m 98 #[.val (.int i0), .val (.int v3), .val (.ref o_HORSEMAN), .val (.ref o_NO_FACING)] [(.ref o_NO_FACING)])) (fun t k => XS.aloadN X53.here hx rfl (hb hby at_97) rfl rfl  k) ?_
      refine own_Fin.step (S' := T53.setTop (mkF m 99 #[.val (.int i0), .val (.int v3), .val (.ref o_HORSEMAN), .val (.ref o_NO_FACING)] [(.int (0 : Int32)), (.ref o_NO_FACING)])) (fun t k => XS.iconst X53.here hx rfl (hb hby at_98) k) ?_
      obtain ⟨cl57, Ar57, q57, S57, N57z, Hs57, G57⟩ := id f55
      have hin57 : ¬ ((0 : Int32) < 0 ∨ cl57.slots.size ≤ ((0 : Int32)).toNatClampNeg) := inb_of S57 ⟨by decide, by decide⟩
      have hat57 : cl57.slots[((0 : Int32)).toNatClampNeg]? = some .null := Hs57.at hin57 rfl
      refine own_Fin.step (S' := T53.setTop (mkF m 100 #[.val (.int i0), .val (.int v3), .val (.ref o_HORSEMAN), .val (.ref o_NO_FACING)] [.null])) (X53.aaload hx (j := (0 : Int32)) (v := .null) (by rw [e53]; exact Ar57.1) (State.isArrayOf_alike hZ.alike Ar57.2.1) rfl Ar57.2.2 hin57 hat57 (g := (mkF m 99 #[.val (.int i0), .val (.int v3), .val (.ref o_HORSEMAN), .val (.ref o_NO_FACING)] [(.int (0 : Int32)), (.ref o_NO_FACING)])) rfl rfl (hb hby at_99)) ?_
      refine own_Fin.step (S' := T53.setTop (mkF m 103 #[.val (.int i0), .val (.int v3), .val (.ref o_HORSEMAN), .val (.ref o_NO_FACING)] [])) (fun t k => XS.ifnonnullNo X53.here hx rfl (hb hby at_100) rfl k) ?_
      refine own_Fin.step (S' := T53.setTop (mkF m 104 #[.val (.int i0), .val (.int v3), .val (.ref o_HORSEMAN), .val (.ref o_NO_FACING)] [(.int (1 : Int32))])) (fun t k => XS.iconst X53.here hx rfl (hb hby at_103) k) ?_
      refine own_Fin.step (S' := T53.setTop (mkF m 108 #[.val (.int i0), .val (.int v3), .val (.ref o_HORSEMAN), .val (.ref o_NO_FACING)] [(.int (1 : Int32))])) (fun t k => XS.goto X53.here hx rfl (pc0 := 104) (pc' := 108) rfl (hb hby at_104) (by decide) (by decide) k) ?_
      have hq58 : Q0 Z o_SHIELDMAN o_EVERY_FACING ko_EVERY_FACING o_E o_W o_NE o_NW o_SE o_SW o_WARLORD o_NO_FACING ko_NO_FACING o_HORSEMAN o_ARCHER i0 h0 n0 (some (.int (nar .boolean (1 : Int32)))) h0 _ := ⟨rfl, N53⟩
      exact own_retN X53 hx hlk (t := .boolean) hrt (by simp) (hb hby at_108) e53 hq58 (by decide) (by decide)
    · exact absurd hp10 (by decide)
  · refine own_Fin.step (S' := T20.setTop (mkF m 8 #[.val (.int i0), .val (.int v3), .unset, .unset] [(.ref o_WARLORD)])) st20 ?_
    refine own_Fin.step (S' := T20.setTop (mkF m 9 #[.val (.int i0), .val (.int v3), .val (.ref o_WARLORD), .unset] [])) (fun t k => XS.astoreN X20.here hx rfl (hb hby at_8) rfl rfl (l' := #[.val (.int i0), .val (.int v3), .val (.ref o_WARLORD), .unset]) rfl k) ?_
    refine own_Fin.step (S' := T20.setTop (mkF m 10 #[.val (.int i0), .val (.int v3), .val (.ref o_WARLORD), .unset] [(.ref o_WARLORD)])) (fun t k => XS.aloadN X20.here hx rfl (hb hby at_9) rfl rfl  k) ?_
    have f59 : Fld Z h0 o_WARLORD "com/example/rulewright/rulewright/games/skorm/PieceType" "faces" "Z" (.int (0 : Int32)) := Fld.ext OLD.2 (Amb.a23 A)
    have f61 : Exa Z h0 o_WARLORD "com/example/rulewright/rulewright/games/skorm/PieceType" := Exa.ext OLD.2 (Amb.a16 A)
    obtain ⟨cq60, kq60, q60a, q60b, q60c⟩ := isOf hZ e20 f61
    obtain ⟨_, _, ⟨T60, L60, k60, n60⟩, -, X60, ⟨Lc60, hQ60, l60, y60, zz60⟩, st60⟩ := X20.virtualBack hx (y := (⟨"com/example/rulewright/rulewright/games/skorm/PieceType", "landings", "()[Lcom/example/rulewright/rulewright/games/skorm/Direction;"⟩ : MethodName)) (z := (⟨"com/example/rulewright/rulewright/games/skorm/PieceType", "landings", "()[Lcom/example/rulewright/rulewright/games/skorm/Direction;"⟩ : MethodName)) hown (mvT hZ (hw _ (List.mem_of_getElem? (i := 7) rfl))) (mvT hZ (hw _ (List.mem_of_getElem? (i := 8) rfl))) (notFace_of_selects (args := #[]) (mvT hZ (hw _ (List.mem_of_getElem? (i := 10) rfl)))) (mvT hZ (hw _ (List.mem_of_getElem? (i := 10) rfl))) (mvT hZ (hw _ (List.mem_of_getElem? (i := 9) rfl))) (by decide) (backOf (W := 0) (rm2 l Z a0 hw [] o_SHIELDMAN o_EVERY_FACING ko_EVERY_FACING o_E o_W o_NE o_NW o_SE o_SW o_WARLORD o_NO_FACING ko_NO_FACING o_HORSEMAN o_ARCHER o_WARLORD (0 : Int32) h0 n0 (by omega) OLD A f59) hZ (hw _ (List.mem_of_getElem? (i := 11) rfl)) (hw _ (List.mem_of_getElem? (i := 5) rfl)) (by decide) (by decide)) q60a q60c (g := (mkF m 10 #[.val (.int i0), .val (.int v3), .val (.ref o_WARLORD), .unset] [(.ref o_WARLORD)])) rfl (by rw [hml]; rfl) (Steps.refl _) (argsL := []) (rest := []) (lenOf pd_0_1 rfl) rfl (by show 2 * 0 + _ ≤ _; exact Nat.le_of_eq rfl) (hb hby at_10) (fun _ _ => ⟨rfl, e20, (by decide : 0 + 0 ≤ _), (by decide : 0 + 0 ≤ _)⟩)
    dsimp only [Pt.U, Pt.locs, Pt.cells, Pt.slots] at X60 l60 y60 zz60 st60 hQ60
    subst l60 y60 zz60
    obtain ⟨hvc60, N60q, e60⟩ := hQ60
    have N60 := Fr.app N20 N60q
    rcases hvc60 with ⟨hp10, rfl⟩ | ⟨hp10, rfl⟩
    · refine own_Fin.trans (S' := T60.setTop (mkF m 13 #[.val (.int i0), .val (.int v3), .val (.ref o_WARLORD), .unset] [(.ref o_NO_FACING)])) st60 ?_
      refine own_Fin.step (S' := T60.setTop (mkF m 14 #[.val (.int i0), .val (.int v3), .val (.ref o_WARLORD), .val (.ref o_NO_FACING)] [])) (fun t k => XS.astoreN X60.here hx rfl (hb hby at_13) rfl rfl (l' := #[.val (.int i0), .val (.int v3), .val (.ref o_WARLORD), .val (.ref o_NO_FACING)]) rfl k) ?_
      refine own_Fin.step (S' := T60.setTop (mkF m 15 #[.val (.int i0), .val (.int v3), .val (.ref o_WARLORD), .val (.ref o_NO_FACING)] [(.ref o_NO_FACING)])) (fun t k => XS.aloadN X60.here hx rfl (hb hby at_14) rfl rfl  k) ?_
      refine own_Fin.step (S' := T60.setTop (mkF m 20 #[.val (.int i0), .val (.int v3), .val (.ref o_WARLORD), .val (.ref o_NO_FACING)] [])) (fun t k => XS.ifnonnullYes X60.here hx rfl (pc0 := 15) (pc' := 20) rfl (hb hby at_15) rfl (by decide) (by decide) k) ?_
      refine own_Fin.step (S' := T60.setTop (mkF m 21 #[.val (.int i0), .val (.int v3), .val (.ref o_WARLORD), .val (.ref o_NO_FACING)] [(.int v3)])) (fun t k => XS.iloadN X60.here hx rfl (hb hby at_20) rfl  k) ?_
      refine own_Fin.step (S' := T60.setTop (mkF m 91 #[.val (.int i0), .val (.int v3), .val (.ref o_WARLORD), .val (.ref o_NO_FACING)] [])) (fun t k => XS.ifYes X60.here hx rfl (pc0 := 21) (pc' := 91) rfl (hb hby at_21) rfl ((if0 _ _).trans (feq hp5).2) (by decide) (by decide) k) ?_
      refine own_Fin.step (S' := T60.setTop (mkF m 92 #[.val (.int i0), .val (.int v3), .val (.ref o_WARLORD), .val (.ref o_NO_FACING)] [(.ref o_NO_FACING)])) (fun t k => XS.aloadN X60.here hx rfl (hb hby at_91) rfl rfl  k) ?_
      have f62 : Arv Z h0 o_NO_FACING ko_NO_FACING (.object "com/example/rulewright/rulewright/games/skorm/Direction") (1 : Int32) [.null] .null := Arv.ext (Amb.a27 A) OLD.2
      obtain ⟨cl63, Ar63, q63, S63, N63z, Hs63, G63⟩ := id f62
      refine own_Fin.step (X60.arraylength hx (by rw [e60]; exact Ar63.1) (State.isArrayOf_alike hZ.alike Ar63.2.1) (g := (mkF m 92 #[.val (.int i0), .val (.int v3), .val (.ref o_WARLORD), .val (.ref o_NO_FACING)] [(.ref o_NO_FACING)])) rfl rfl (hb hby at_92)) ?_
      rw [len_of S63 N63z]
      show own_Fin _ _ _ _ (T60.setTop (mkF m 93 #[.val (.int i0), .val (.int v3), .val (.ref o_WARLORD), .val (.ref o_NO_FACING)] [(.int (1 : Int32))]))
      refine own_Fin.step (S' := T60.setTop (mkF m 94 #[.val (.int i0), .val (.int v3), .val (.ref o_WARLORD), .val (.ref o_NO_FACING)] [(.int (1 : Int32)), (.int (1 : Int32))])) (fun t k => XS.iconst X60.here hx rfl (hb hby at_93) k) ?_
      refine own_Fin.step (S' := T60.setTop (mkF m 97 #[.val (.int i0), .val (.int v3), .val (.ref o_WARLORD), .val (.ref o_NO_FACING)] [])) (fun t k => XS.icmpNo X60.here hx rfl (hb hby at_94) rfl (teq (by decide : ((1 : Int32) = (1 : Int32)))).2 k) ?_
      refine own_Fin.step (S' := T60.setTop (mkF m 98 #[.val (.int i0), .val (.int v3), .val (.ref o_WARLORD), .val (.ref o_NO_FACING)] [(.ref o_NO_FACING)])) (fun t k => XS.aloadN X60.here hx rfl (hb hby at_97) rfl rfl  k) ?_
      refine own_Fin.step (S' := T60.setTop (mkF m 99 #[.val (.int i0), .val (.int v3), .val (.ref o_WARLORD), .val (.ref o_NO_FACING)] [(.int (0 : Int32)), (.ref o_NO_FACING)])) (fun t k => XS.iconst X60.here hx rfl (hb hby at_98) k) ?_
      obtain ⟨cl64, Ar64, q64, S64, N64z, Hs64, G64⟩ := id f62
      have hin64 : ¬ ((0 : Int32) < 0 ∨ cl64.slots.size ≤ ((0 : Int32)).toNatClampNeg) := inb_of S64 ⟨by decide, by decide⟩
      have hat64 : cl64.slots[((0 : Int32)).toNatClampNeg]? = some .null := Hs64.at hin64 rfl
      refine own_Fin.step (S' := T60.setTop (mkF m 100 #[.val (.int i0), .val (.int v3), .val (.ref o_WARLORD), .val (.ref o_NO_FACING)] [.null])) (X60.aaload hx (j := (0 : Int32)) (v := .null) (by rw [e60]; exact Ar64.1) (State.isArrayOf_alike hZ.alike Ar64.2.1) rfl Ar64.2.2 hin64 hat64 (g := (mkF m 99 #[.val (.int i0), .val (.int v3), .val (.ref o_WARLORD), .val (.ref o_NO_FACING)] [(.int (0 : Int32)), (.ref o_NO_FACING)])) rfl rfl (hb hby at_99)) ?_
      refine own_Fin.step (S' := T60.setTop (mkF m 103 #[.val (.int i0), .val (.int v3), .val (.ref o_WARLORD), .val (.ref o_NO_FACING)] [])) (fun t k => XS.ifnonnullNo X60.here hx rfl (hb hby at_100) rfl k) ?_
      refine own_Fin.step (S' := T60.setTop (mkF m 104 #[.val (.int i0), .val (.int v3), .val (.ref o_WARLORD), .val (.ref o_NO_FACING)] [(.int (1 : Int32))])) (fun t k => XS.iconst X60.here hx rfl (hb hby at_103) k) ?_
      refine own_Fin.step (S' := T60.setTop (mkF m 108 #[.val (.int i0), .val (.int v3), .val (.ref o_WARLORD), .val (.ref o_NO_FACING)] [(.int (1 : Int32))])) (fun t k => XS.goto X60.here hx rfl (pc0 := 104) (pc' := 108) rfl (hb hby at_104) (by decide) (by decide) k) ?_
      have hq65 : Q0 Z o_SHIELDMAN o_EVERY_FACING ko_EVERY_FACING o_E o_W o_NE o_NW o_SE o_SW o_WARLORD o_NO_FACING ko_NO_FACING o_HORSEMAN o_ARCHER i0 h0 n0 (some (.int (nar .boolean (1 : Int32)))) h0 _ := ⟨rfl, N60⟩
      exact own_retN X60 hx hlk (t := .boolean) hrt (by simp) (hb hby at_108) e60 hq65 (by decide) (by decide)
    · exact absurd hp10 (by decide)
set_option maxRecDepth 65536 in
set_option maxHeartbeats 40000000 in
theorem comes_1 {Post : Tables → Env → Array Value → State → Outcome → State → Prop} (hpost : ∀ tb e args s v u, (limb_1_1.after args s (.returned v) u = true ∧ limb_1_2.after args s (.returned v) u = true ∧ True) → FrameEnd s (.returned v) u (Jvm.fieldLocs frame_1_writes args s ++ Jvm.arrayLocs frame_1_arrays args s ++ Jvm.staticLocs frame_1_statics s) 0 0 → Post tb e args s (.returned v) u) :
    ArmFor flags0 classFile x code maxLocals ret World_1 tables_1 room_1 Calls_1 rest_1 Pre_1 Post := by
  intro l hfl _ _ p e ha hc hk s m args below hf hA hF happ hP
  obtain ⟨hcalls, hrest, hpre⟩ := hP
  obtain ⟨-, -, -, hnamed, -, -, -, hat⟩ := (Spec.applies_iff hf).mp happ
  obtain ⟨hg, hn⟩ := and_e (Cond.before_iff.mp (show (Jvm.Cond.and given_1 narrow_1).before args s = true from hpre))
  obtain ⟨gg1, gg2⟩ := and_e hg
  obtain ⟨w0, rfl⟩ : ∃ w0 : Value, args = #[w0] := by
    have hs : args.size = 1 := by simpa [Cond.value, given_1] using gg1
    obtain ⟨L⟩ := args
    match L, hs with
    | [w0], _ => exact ⟨w0, rfl⟩
  have hw := fun d (hd : d ∈ tables_1) => atoms_spec (ws := Jvm.Cond.code x code maxLocals ret :: tables_1) hat d (List.mem_cons_of_mem _ hd)
  have hfit : Fit s := fun {y c} hc i hi => by
    obtain ⟨ha, rfl⟩ := Array.getElem?_eq_some_iff.mp hc
    have q := List.all_eq_true.mp ((Array.all_eq_true_iff_forall_mem.mp hF) _ (Array.getElem_mem ha)) i (List.mem_range.mpr hi)
    simpa [Array.getElem?_eq_getElem hi] using q
  obtain ⟨i0, ei0⟩ := is_v gg2
  obtain rfl : w0 = (.int i0) := Option.some.inj ei0
  have hn0 := hn
  obtain ⟨hA1, hB1⟩ := and_e hn0
  obtain ⟨hA2, hB2⟩ := and_e hB1
  obtain ⟨hA3, hB3⟩ := and_e hB2
  obtain ⟨hA4, hB4⟩ := and_e hB3
  obtain ⟨hA5, hB5⟩ := and_e hB4
  obtain ⟨hA6, hB6⟩ := and_e hB5
  obtain ⟨hA7, hB7⟩ := and_e hB6
  obtain ⟨hA8, hB8⟩ := and_e hB7
  obtain ⟨hA9, hB9⟩ := and_e hB8
  obtain ⟨hA10, hB10⟩ := and_e hB9
  obtain ⟨hA11, hB11⟩ := and_e hB10
  obtain ⟨hA12, hB12⟩ := and_e hB11
  obtain ⟨hA13, hB13⟩ := and_e hB12
  obtain ⟨hA14, hB14⟩ := and_e hB13
  obtain ⟨hA15, hB15⟩ := and_e hB14
  obtain ⟨hA16, hB16⟩ := and_e hB15
  obtain ⟨hA17, hB17⟩ := and_e hB16
  obtain ⟨hA18, hB18⟩ := and_e hB17
  obtain ⟨hA19, hB19⟩ := and_e hB18
  obtain ⟨hA20, hB20⟩ := and_e hB19
  obtain ⟨hA21, hB21⟩ := and_e hB20
  obtain ⟨hA22, hB22⟩ := and_e hB21
  obtain ⟨hA23, hB23⟩ := and_e hB22
  obtain ⟨hA24, hB24⟩ := and_e hB23
  obtain ⟨o_SHIELDMAN, eo_SHIELDMAN⟩ := exa_v hA1
  obtain ⟨o_EVERY_FACING, eo_EVERY_FACING⟩ := arr_v hA3
  obtain ⟨clo_EVERY_FACING, Ao_EVERY_FACING⟩ := Arr.start eo_EVERY_FACING hA3
  obtain ⟨ko_EVERY_FACING, eko_EVERY_FACING⟩ : ∃ z, z = clo_EVERY_FACING.cls := ⟨_, rfl⟩
  obtain ⟨o_E, eo_E⟩ := exa_v hA5
  obtain ⟨o_W, eo_W⟩ := exa_v hA7
  obtain ⟨o_NE, eo_NE⟩ := exa_v hA9
  obtain ⟨o_NW, eo_NW⟩ := exa_v hA11
  obtain ⟨o_SE, eo_SE⟩ := exa_v hA13
  obtain ⟨o_SW, eo_SW⟩ := exa_v hA15
  obtain ⟨o_WARLORD, eo_WARLORD⟩ := exa_v hA17
  obtain ⟨o_NO_FACING, eo_NO_FACING⟩ := arr_v hA19
  obtain ⟨clo_NO_FACING, Ao_NO_FACING⟩ := Arr.start eo_NO_FACING hA19
  obtain ⟨ko_NO_FACING, eko_NO_FACING⟩ : ∃ z, z = clo_NO_FACING.cls := ⟨_, rfl⟩
  obtain ⟨o_HORSEMAN, eo_HORSEMAN⟩ := exa_v hA22
  obtain ⟨o_ARCHER, eo_ARCHER⟩ := exa_v hA24
  have M0 : Sta s s.heap "com/example/rulewright/rulewright/games/skorm/PieceType" "SHIELDMAN" "Lcom/example/rulewright/rulewright/games/skorm/PieceType;" (.ref o_SHIELDMAN) := Sta.start eo_SHIELDMAN (Or.inr ⟨hw _ (List.mem_of_getElem? (i := 5) rfl), hw _ (List.mem_of_getElem? (i := 6) rfl)⟩)
  have M1 : Exa s s.heap o_SHIELDMAN "com/example/rulewright/rulewright/games/skorm/PieceType" := Exa.start eo_SHIELDMAN hA1
  have M2 : Sta s s.heap "com/example/rulewright/rulewright/games/skorm/PieceType" "EVERY_FACING" "[Lcom/example/rulewright/rulewright/games/skorm/Direction;" (.ref o_EVERY_FACING) := Sta.start eo_EVERY_FACING (Or.inr ⟨hw _ (List.mem_of_getElem? (i := 5) rfl), hw _ (List.mem_of_getElem? (i := 15) rfl)⟩)
  have M3 : Sta s s.heap "com/example/rulewright/rulewright/games/skorm/Direction" "E" "Lcom/example/rulewright/rulewright/games/skorm/Direction;" (.ref o_E) := Sta.start eo_E (Or.inr ⟨hw _ (List.mem_of_getElem? (i := 16) rfl), hw _ (List.mem_of_getElem? (i := 17) rfl)⟩)
  have M4 : Exa s s.heap o_E "com/example/rulewright/rulewright/games/skorm/Direction" := Exa.start eo_E hA5
  have M5 : Sta s s.heap "com/example/rulewright/rulewright/games/skorm/Direction" "W" "Lcom/example/rulewright/rulewright/games/skorm/Direction;" (.ref o_W) := Sta.start eo_W (Or.inr ⟨hw _ (List.mem_of_getElem? (i := 16) rfl), hw _ (List.mem_of_getElem? (i := 19) rfl)⟩)
  have M6 : Exa s s.heap o_W "com/example/rulewright/rulewright/games/skorm/Direction" := Exa.start eo_W hA7
  have M7 : Sta s s.heap "com/example/rulewright/rulewright/games/skorm/Direction" "NE" "Lcom/example/rulewright/rulewright/games/skorm/Direction;" (.ref o_NE) := Sta.start eo_NE (Or.inr ⟨hw _ (List.mem_of_getElem? (i := 16) rfl), hw _ (List.mem_of_getElem? (i := 21) rfl)⟩)
  have M8 : Exa s s.heap o_NE "com/example/rulewright/rulewright/games/skorm/Direction" := Exa.start eo_NE hA9
  have M9 : Sta s s.heap "com/example/rulewright/rulewright/games/skorm/Direction" "NW" "Lcom/example/rulewright/rulewright/games/skorm/Direction;" (.ref o_NW) := Sta.start eo_NW (Or.inr ⟨hw _ (List.mem_of_getElem? (i := 16) rfl), hw _ (List.mem_of_getElem? (i := 23) rfl)⟩)
  have M10 : Exa s s.heap o_NW "com/example/rulewright/rulewright/games/skorm/Direction" := Exa.start eo_NW hA11
  have M11 : Sta s s.heap "com/example/rulewright/rulewright/games/skorm/Direction" "SE" "Lcom/example/rulewright/rulewright/games/skorm/Direction;" (.ref o_SE) := Sta.start eo_SE (Or.inr ⟨hw _ (List.mem_of_getElem? (i := 16) rfl), hw _ (List.mem_of_getElem? (i := 25) rfl)⟩)
  have M12 : Exa s s.heap o_SE "com/example/rulewright/rulewright/games/skorm/Direction" := Exa.start eo_SE hA13
  have M13 : Sta s s.heap "com/example/rulewright/rulewright/games/skorm/Direction" "SW" "Lcom/example/rulewright/rulewright/games/skorm/Direction;" (.ref o_SW) := Sta.start eo_SW (Or.inr ⟨hw _ (List.mem_of_getElem? (i := 16) rfl), hw _ (List.mem_of_getElem? (i := 27) rfl)⟩)
  have M14 : Exa s s.heap o_SW "com/example/rulewright/rulewright/games/skorm/Direction" := Exa.start eo_SW hA15
  have M15 : Sta s s.heap "com/example/rulewright/rulewright/games/skorm/PieceType" "WARLORD" "Lcom/example/rulewright/rulewright/games/skorm/PieceType;" (.ref o_WARLORD) := Sta.start eo_WARLORD (Or.inr ⟨hw _ (List.mem_of_getElem? (i := 5) rfl), hw _ (List.mem_of_getElem? (i := 30) rfl)⟩)
  have M16 : Exa s s.heap o_WARLORD "com/example/rulewright/rulewright/games/skorm/PieceType" := Exa.start eo_WARLORD hA17
  have M17 : Sta s s.heap "com/example/rulewright/rulewright/games/skorm/PieceType" "NO_FACING" "[Lcom/example/rulewright/rulewright/games/skorm/Direction;" (.ref o_NO_FACING) := Sta.start eo_NO_FACING (Or.inr ⟨hw _ (List.mem_of_getElem? (i := 5) rfl), hw _ (List.mem_of_getElem? (i := 32) rfl)⟩)
  have M18 : Sta s s.heap "com/example/rulewright/rulewright/games/skorm/PieceType" "HORSEMAN" "Lcom/example/rulewright/rulewright/games/skorm/PieceType;" (.ref o_HORSEMAN) := Sta.start eo_HORSEMAN (Or.inr ⟨hw _ (List.mem_of_getElem? (i := 5) rfl), hw _ (List.mem_of_getElem? (i := 34) rfl)⟩)
  have M19 : Exa s s.heap o_HORSEMAN "com/example/rulewright/rulewright/games/skorm/PieceType" := Exa.start eo_HORSEMAN hA22
  have M20 : Sta s s.heap "com/example/rulewright/rulewright/games/skorm/PieceType" "ARCHER" "Lcom/example/rulewright/rulewright/games/skorm/PieceType;" (.ref o_ARCHER) := Sta.start eo_ARCHER (Or.inr ⟨hw _ (List.mem_of_getElem? (i := 5) rfl), hw _ (List.mem_of_getElem? (i := 36) rfl)⟩)
  have M21 : Exa s s.heap o_ARCHER "com/example/rulewright/rulewright/games/skorm/PieceType" := Exa.start eo_ARCHER hA24
  have M22 : Fld s s.heap o_SHIELDMAN "com/example/rulewright/rulewright/games/skorm/PieceType" "faces" "Z" (.int (1 : Int32)) := Fld.start ((fld_at eo_SHIELDMAN).symm.trans (own_eqI hA2 (Term.int_eval _)))
  have M23 : Fld s s.heap o_WARLORD "com/example/rulewright/rulewright/games/skorm/PieceType" "faces" "Z" (.int (0 : Int32)) := Fld.start ((fld_at eo_WARLORD).symm.trans (own_eqI hA18 (Term.int_eval _)))
  have M24 : Fld s s.heap o_HORSEMAN "com/example/rulewright/rulewright/games/skorm/PieceType" "faces" "Z" (.int (0 : Int32)) := Fld.start ((fld_at eo_HORSEMAN).symm.trans (own_eqI hA23 (Term.int_eval _)))
  have M25 : Fld s s.heap o_ARCHER "com/example/rulewright/rulewright/games/skorm/PieceType" "faces" "Z" (.int (0 : Int32)) := Fld.start ((fld_at eo_ARCHER).symm.trans (own_eqI hB24 (Term.int_eval _)))
  have M26 : Arv s s.heap o_EVERY_FACING ko_EVERY_FACING (.object "com/example/rulewright/rulewright/games/skorm/Direction") (6 : Int32) [(.ref o_E), (.ref o_W), (.ref o_NE), (.ref o_NW), (.ref o_SE), (.ref o_SW)] .null := by rw [eko_EVERY_FACING]; exact own_arv hfit eo_EVERY_FACING Ao_EVERY_FACING (own_eqI hA4 (Term.int_eval _)) (by decide) rfl ⟨own_elem eo_EVERY_FACING Ao_EVERY_FACING (own_eqR hA6 eo_E), own_elem eo_EVERY_FACING Ao_EVERY_FACING (own_eqR hA8 eo_W), own_elem eo_EVERY_FACING Ao_EVERY_FACING (own_eqR hA10 eo_NE), own_elem eo_EVERY_FACING Ao_EVERY_FACING (own_eqR hA12 eo_NW), own_elem eo_EVERY_FACING Ao_EVERY_FACING (own_eqR hA14 eo_SE), own_elem eo_EVERY_FACING Ao_EVERY_FACING (own_eqR hA16 eo_SW), trivial⟩
  have M27 : Arv s s.heap o_NO_FACING ko_NO_FACING (.object "com/example/rulewright/rulewright/games/skorm/Direction") (1 : Int32) [.null] .null := by rw [eko_NO_FACING]; exact own_arv hfit eo_NO_FACING Ao_NO_FACING (own_eqI hA20 (Term.int_eval _)) (by decide) rfl ⟨own_elem eo_NO_FACING Ao_NO_FACING (null_v hA21), trivial⟩
  have AM : Amb s o_SHIELDMAN o_EVERY_FACING ko_EVERY_FACING o_E o_W o_NE o_NW o_SE o_SW o_WARLORD o_NO_FACING ko_NO_FACING o_HORSEMAN o_ARCHER := ⟨M0, M1, M2, M3, M4, M5, M6, M7, M8, M9, M10, M11, M12, M13, M14, M15, M16, M17, M18, M19, M20, M21, M22, M23, M24, M25, M26, M27, trivial⟩
  obtain ⟨n, o, h1, h2, h3, _, L, rfl, ⟨rfl, N⟩, hq⟩ := rm0 l s _ hw tables_1 o_SHIELDMAN o_EVERY_FACING ko_EVERY_FACING o_E o_W o_NE o_NW o_SE o_SW o_WARLORD o_NO_FACING ko_NO_FACING o_HORSEMAN o_ARCHER i0 s.heap s.heap.size (Nat.le_refl _) (Old.start s) AM p e ha hc hk s m _ below hf ((Spec.applies_iff_loose hf).mp happ).1 ⟨rfl, State.Warmed39.refl s, rfl⟩ trivial
  refine ⟨n, _, h1, h2, h3, hpost _ _ _ _ _ _ ⟨Cond.after_iff.mpr rfl, Cond.after_iff.mpr (eq_i res_at (Term.int_eval (1)) rfl), trivial⟩ ⟨hq.1, hq.2.1, (hq.2.2.sift fun y hy => Or.inr (N y hy)).mono (by decide) (by decide)⟩⟩
theorem main_1_1 : Claimed_1_1 := comes_1 fun _ _ _ _ _ _ h hF => ⟨h.1, hF⟩
theorem main_1_2 : Claimed_1_2 := comes_1 fun _ _ _ _ _ _ h hF => ⟨h.2.1, hF⟩
end Jvm.Pilot.@@N@@
namespace Jvm.Pilot.@@N@@
open Jvm Jvm.ClassFile Sem Op Lib Jvm.Free Jvm.Stand Jvm.Pilot.@@N@@.Jvm.D
/-! MADE BY PROGRAM (witnessworld.py) out of the Statement's table words and the real class files: 14 classes; the members and pool entries that the words name. The judged class is class 1, her method 2. -/
namespace start1
open Jvm.ClassFile
def u (s : String) : CpInfo := .utf8 (stringToUtf16 s)
/-- a pool by its gaps: so many unusable entries, then the entry; so many at the end -/
def gap : Nat → List CpInfo → List CpInfo
  | 0, r => r
  | n + 1, r => .unusable :: gap n r
def poolList (es : List (Nat × CpInfo)) (last : Nat) : List CpInfo := es.foldr (fun e r => gap e.1 (e.2 :: r)) (gap last [])
def pool (es : List (Nat × CpInfo)) (last : Nat) : Array CpInfo := ⟨poolList es last⟩
def fileOf (pool : Array CpInfo) (this : Nat) (attrs : Array Attribute := #[]) (ms : Array MethodInfo := #[]) (fl : Nat := 33) (sup : Nat := 0) (ifs : Array Nat := #[]) (fds : Array FieldInfo := #[]) : ClassFile where
  minorVersion := 0
  majorVersion := 65
  constantPool := pool
  accessFlags := fl
  thisClass := this
  superClass := sup
  interfaces := ifs
  fields := fds
  methods := ms
  attributes := attrs
def plain (name : String) (sup : Option ClassId) : Class where
  name := name
  kind := .ordinary
  loader := none
  accessFlags := 33
  super := sup
  interfaces := #[]
  cf := none
  fields := #[]
  methods := #[]
  instanceTypes := #[]
  staticTypes := #[]
  resolved := #[]
  callSites := []
  init := .initialized
  statics := none
  mirror := none

def pool0 : Array CpInfo := pool [(5, u "<init>"), (0, u "()V"), (1, .class_ 10), (1, u "java/lang/Object")] 113

def k0m0 : Method := { name := "<init>", desc := "()V", sig := { parameters := [], returnType := none }, accessFlags := 1, code := none }
/-- java/lang/Object -/
def k0 : Class := { plain "java/lang/Object" none with
  accessFlags := 33
  interfaces := #[]
  cf := some (fileOf pool0 8 #[] #[{ accessFlags := 1, nameIndex := 5, descriptorIndex := 6, attributes := #[] }] 33 0 #[] #[])
  fields := #[]
  methods := #[k0m0]
  instanceTypes := #[]
  staticTypes := #[]
  resolved := Array.replicate 124 none
  statics := none }

def pool1 : Array CpInfo := pool [(2, .class_ 4), (1, u "java/lang/Object"), (0, u "<init>"), (0, u "()V"), (0, .fieldref 8 9), (0, .class_ 10), (0, .nameAndType 11 12), (0, u "com/example/rulewright/rulewright/games/skorm/PieceType"), (0, u "SHIELDMAN"), (0, u "Lcom/example/rulewright/rulewright/games/skorm/PieceType;"), (0, .fieldref 8 14), (0, .nameAndType 15 12), (0, u "ARCHER"), (0, .fieldref 8 17), (0, .nameAndType 18 12), (0, u "HORSEMAN"), (0, .fieldref 8 20), (0, .nameAndType 21 12), (0, u "WARLORD"), (0, .methodref 23 24), (0, .class_ 25), (0, .nameAndType 26 27), (0, u "com/example/rulewright/rulewright/games/skorm/PieceTypeLandingsPinLaw"), (0, u "pick"), (0, u "(I)Lcom/example/rulewright/rulewright/games/skorm/PieceType;"), (0, .methodref 8 29), (0, .nameAndType 30 31), (0, u "landings"), (0, u "()[Lcom/example/rulewright/rulewright/games/skorm/Direction;"), (0, .fieldref 33 34), (0, .class_ 35), (0, .nameAndType 36 37), (0, u "com/example/rulewright/rulewright/games/skorm/Direction"), (0, u "E"), (0, u "Lcom/example/rulewright/rulewright/games/skorm/Direction;"), (0, .fieldref 33 39), (0, .nameAndType 40 37), (0, u "W"), (0, .fieldref 33 42), (0, .nameAndType 43 37), (0, u "NE"), (0, .fieldref 33 45), (0, .nameAndType 46 37), (0, u "NW"), (0, .fieldref 33 48), (0, .nameAndType 49 37), (0, u "SE"), (0, .fieldref 33 51), (0, .nameAndType 52 37), (0, u "SW"), (3, u "law"), (0, u "(I)Z")] 4

def k1m0 : Method := { name := "<init>", desc := "()V", sig := { parameters := [], returnType := none }, accessFlags := 1, code := none }
def k1c1 : Code := { maxStack := 2, maxLocals := 1, code := method_2_code, exceptionTable := #[], attributes := #[] }
def k1m1 : Method := { name := "pick", desc := "(I)Lcom/example/rulewright/rulewright/games/skorm/PieceType;", sig := { parameters := [.int], returnType := some (.object "com/example/rulewright/rulewright/games/skorm/PieceType") }, accessFlags := 10, code := some k1c1 }
def k1c2 : Code := { maxStack := 2, maxLocals := 4, code := code, exceptionTable := #[], attributes := #[] }
def k1m2 : Method := { name := "law", desc := "(I)Z", sig := { parameters := [.int], returnType := some .boolean }, accessFlags := 9, code := some k1c2 }
/-- com/example/rulewright/rulewright/games/skorm/PieceTypeLandingsPinLaw -/
def k1 : Class := { plain "com/example/rulewright/rulewright/games/skorm/PieceTypeLandingsPinLaw" (some 0) with
  accessFlags := 49
  interfaces := #[]
  cf := some (fileOf pool1 23 #[] #[{ accessFlags := 1, nameIndex := 5, descriptorIndex := 6, attributes := #[] }, { accessFlags := 10, nameIndex := 26, descriptorIndex := 27, attributes := #[] }, { accessFlags := 9, nameIndex := 56, descriptorIndex := 57, attributes := #[] }] 49 2 #[] #[])
  fields := #[]
  methods := #[k1m0, k1m1, k1m2]
  instanceTypes := #[]
  staticTypes := #[]
  resolved := Array.replicate 62 none
  statics := none }

def pool2 : Array CpInfo := pool [(1, .class_ 2), (0, u "java/lang/constant/Constable"), (0, .class_ 4), (0, u "java/lang/Object")] 6

/-- java/lang/constant/Constable -/
def k2 : Class := { plain "java/lang/constant/Constable" (some 0) with
  accessFlags := 1537
  interfaces := #[]
  cf := some (fileOf pool2 1 #[] #[] 1537 3 #[] #[])
  fields := #[]
  methods := #[]
  instanceTypes := #[]
  staticTypes := #[]
  resolved := Array.replicate 11 none
  statics := none }

def pool3 : Array CpInfo := pool [(1, .class_ 2), (0, u "java/lang/Comparable"), (0, .class_ 4), (0, u "java/lang/Object")] 7

/-- java/lang/Comparable -/
def k3 : Class := { plain "java/lang/Comparable" (some 0) with
  accessFlags := 1537
  interfaces := #[]
  cf := some (fileOf pool3 1 #[] #[] 1537 3 #[] #[])
  fields := #[]
  methods := #[]
  instanceTypes := #[]
  staticTypes := #[]
  resolved := Array.replicate 12 none
  statics := none }

def pool4 : Array CpInfo := pool [(1, .class_ 2), (0, u "java/io/Serializable"), (0, .class_ 4), (0, u "java/lang/Object")] 2

/-- java/io/Serializable -/
def k4 : Class := { plain "java/io/Serializable" (some 0) with
  accessFlags := 1537
  interfaces := #[]
  cf := some (fileOf pool4 1 #[] #[] 1537 3 #[] #[])
  fields := #[]
  methods := #[]
  instanceTypes := #[]
  staticTypes := #[]
  resolved := Array.replicate 7 none
  statics := none }

def pool5 : Array CpInfo := pool [(2, .class_ 4), (1, u "java/lang/Enum"), (0, u "name"), (0, u "Ljava/lang/String;"), (2, u "ordinal"), (0, u "I"), (1, .class_ 14), (1, u "java/lang/Object"), (4, u "hash"), (86, .class_ 108), (1, u "java/lang/Enum$EnumDesc"), (2, .class_ 112), (0, u "java/lang/constant/Constable"), (0, .class_ 114), (0, u "java/lang/Comparable"), (0, .class_ 116), (0, u "java/io/Serializable")] 87

/-- java/lang/Enum -/
def k5 : Class := { plain "java/lang/Enum" (some 0) with
  accessFlags := 1057
  interfaces := #[2, 3, 4]
  cf := some (fileOf pool5 2 #[.nestMembers #[106]] #[] 1057 12 #[111, 113, 115] #[{ accessFlags := 18, nameIndex := 5, descriptorIndex := 6, attributes := #[] }, { accessFlags := 18, nameIndex := 9, descriptorIndex := 10, attributes := #[] }, { accessFlags := 2, nameIndex := 19, descriptorIndex := 10, attributes := #[] }])
  fields := #[{ name := "name", type := (.object "java/lang/String"), accessFlags := 18, slot := 0, constantValue := 0 }, { name := "ordinal", type := .int, accessFlags := 18, slot := 1, constantValue := 0 }, { name := "hash", type := .int, accessFlags := 2, slot := 2, constantValue := 0 }]
  methods := #[]
  instanceTypes := #[(.object "java/lang/String"), .int, .int]
  staticTypes := #[]
  resolved := Array.replicate 204 none
  statics := none }

def pool6 : Array CpInfo := pool [(1, .class_ 2), (0, u "com/example/rulewright/rulewright/games/skorm/PieceType"), (2, u "SHIELDMAN"), (0, u "Lcom/example/rulewright/rulewright/games/skorm/PieceType;"), (2, u "ARCHER"), (2, u "HORSEMAN"), (2, u "WARLORD"), (2, u "$VALUES"), (0, u "[Lcom/example/rulewright/rulewright/games/skorm/PieceType;"), (6, .class_ 28), (1, u "java/lang/Enum"), (8, u "letter"), (0, u "Ljava/lang/String;"), (2, u "steps"), (0, u "I"), (2, u "captures"), (0, u "Z"), (2, u "shotRange"), (0, .fieldref 1 51), (0, .nameAndType 52 46), (0, u "faces"), (46, .fieldref 1 100), (0, .nameAndType 101 102), (0, u "EVERY_FACING"), (0, u "[Lcom/example/rulewright/rulewright/games/skorm/Direction;"), (0, .fieldref 1 104), (0, .nameAndType 105 102), (0, u "NO_FACING"), (22, u "()[Lcom/example/rulewright/rulewright/games/skorm/Direction;"), (13, u "landings")] 21

def k6c0 : Code := { maxStack := 1, maxLocals := 1, code := prog_11_method_11_code, exceptionTable := #[], attributes := #[] }
def k6m0 : Method := { name := "landings", desc := "()[Lcom/example/rulewright/rulewright/games/skorm/Direction;", sig := { parameters := [], returnType := some (.array (.object "com/example/rulewright/rulewright/games/skorm/Direction")) }, accessFlags := 0, code := some k6c0 }
/-- com/example/rulewright/rulewright/games/skorm/PieceType -/
def k6 : Class := { plain "com/example/rulewright/rulewright/games/skorm/PieceType" (some 5) with
  accessFlags := 16432
  interfaces := #[]
  cf := some (fileOf pool6 1 #[] #[{ accessFlags := 0, nameIndex := 142, descriptorIndex := 128, attributes := #[] }] 16432 26 #[] #[{ accessFlags := 16409, nameIndex := 5, descriptorIndex := 6, attributes := #[] }, { accessFlags := 16409, nameIndex := 9, descriptorIndex := 6, attributes := #[] }, { accessFlags := 16409, nameIndex := 12, descriptorIndex := 6, attributes := #[] }, { accessFlags := 16409, nameIndex := 15, descriptorIndex := 6, attributes := #[] }, { accessFlags := 26, nameIndex := 105, descriptorIndex := 102, attributes := #[] }, { accessFlags := 26, nameIndex := 101, descriptorIndex := 102, attributes := #[] }, { accessFlags := 18, nameIndex := 37, descriptorIndex := 38, attributes := #[] }, { accessFlags := 18, nameIndex := 41, descriptorIndex := 42, attributes := #[] }, { accessFlags := 18, nameIndex := 45, descriptorIndex := 46, attributes := #[] }, { accessFlags := 18, nameIndex := 49, descriptorIndex := 42, attributes := #[] }, { accessFlags := 18, nameIndex := 52, descriptorIndex := 46, attributes := #[] }, { accessFlags := 4122, nameIndex := 18, descriptorIndex := 19, attributes := #[] }])
  fields := #[{ name := "SHIELDMAN", type := (.object "com/example/rulewright/rulewright/games/skorm/PieceType"), accessFlags := 16409, slot := 0, constantValue := 0 }, { name := "ARCHER", type := (.object "com/example/rulewright/rulewright/games/skorm/PieceType"), accessFlags := 16409, slot := 1, constantValue := 0 }, { name := "HORSEMAN", type := (.object "com/example/rulewright/rulewright/games/skorm/PieceType"), accessFlags := 16409, slot := 2, constantValue := 0 }, { name := "WARLORD", type := (.object "com/example/rulewright/rulewright/games/skorm/PieceType"), accessFlags := 16409, slot := 3, constantValue := 0 }, { name := "NO_FACING", type := (.array (.object "com/example/rulewright/rulewright/games/skorm/Direction")), accessFlags := 26, slot := 4, constantValue := 0 }, { name := "EVERY_FACING", type := (.array (.object "com/example/rulewright/rulewright/games/skorm/Direction")), accessFlags := 26, slot := 5, constantValue := 0 }, { name := "letter", type := (.object "java/lang/String"), accessFlags := 18, slot := 3, constantValue := 0 }, { name := "steps", type := .int, accessFlags := 18, slot := 4, constantValue := 0 }, { name := "captures", type := .boolean, accessFlags := 18, slot := 5, constantValue := 0 }, { name := "shotRange", type := .int, accessFlags := 18, slot := 6, constantValue := 0 }, { name := "faces", type := .boolean, accessFlags := 18, slot := 7, constantValue := 0 }, { name := "$VALUES", type := (.array (.object "com/example/rulewright/rulewright/games/skorm/PieceType")), accessFlags := 4122, slot := 6, constantValue := 0 }]
  methods := #[k6m0]
  instanceTypes := #[(.object "java/lang/String"), .int, .int, (.object "java/lang/String"), .int, .boolean, .int, .boolean]
  staticTypes := #[(.object "com/example/rulewright/rulewright/games/skorm/PieceType"), (.object "com/example/rulewright/rulewright/games/skorm/PieceType"), (.object "com/example/rulewright/rulewright/games/skorm/PieceType"), (.object "com/example/rulewright/rulewright/games/skorm/PieceType"), (.array (.object "com/example/rulewright/rulewright/games/skorm/Direction")), (.array (.object "com/example/rulewright/rulewright/games/skorm/Direction")), (.array (.object "com/example/rulewright/rulewright/games/skorm/PieceType"))]
  resolved := Array.replicate 164 none
  statics := some 0 }

def pool7 : Array CpInfo := pool [(1, .class_ 2), (0, u "com/example/rulewright/rulewright/games/skorm/Direction"), (2, u "E"), (0, u "Lcom/example/rulewright/rulewright/games/skorm/Direction;"), (2, u "W"), (2, u "NE"), (2, u "NW"), (2, u "SE"), (2, u "SW"), (2, u "$VALUES"), (0, u "[Lcom/example/rulewright/rulewright/games/skorm/Direction;"), (6, .class_ 34), (1, u "java/lang/Enum"), (8, u "rowStep"), (0, u "I"), (2, u "numberStep"), (26, u "OPPOSITES")] 33

/-- com/example/rulewright/rulewright/games/skorm/Direction -/
def k7 : Class := { plain "com/example/rulewright/rulewright/games/skorm/Direction" (some 5) with
  accessFlags := 16432
  interfaces := #[]
  cf := some (fileOf pool7 1 #[] #[] 16432 32 #[] #[{ accessFlags := 16409, nameIndex := 5, descriptorIndex := 6, attributes := #[] }, { accessFlags := 16409, nameIndex := 9, descriptorIndex := 6, attributes := #[] }, { accessFlags := 16409, nameIndex := 12, descriptorIndex := 6, attributes := #[] }, { accessFlags := 16409, nameIndex := 15, descriptorIndex := 6, attributes := #[] }, { accessFlags := 16409, nameIndex := 18, descriptorIndex := 6, attributes := #[] }, { accessFlags := 16409, nameIndex := 21, descriptorIndex := 6, attributes := #[] }, { accessFlags := 26, nameIndex := 74, descriptorIndex := 25, attributes := #[] }, { accessFlags := 18, nameIndex := 43, descriptorIndex := 44, attributes := #[] }, { accessFlags := 18, nameIndex := 47, descriptorIndex := 44, attributes := #[] }, { accessFlags := 4122, nameIndex := 24, descriptorIndex := 25, attributes := #[] }])
  fields := #[{ name := "E", type := (.object "com/example/rulewright/rulewright/games/skorm/Direction"), accessFlags := 16409, slot := 0, constantValue := 0 }, { name := "W", type := (.object "com/example/rulewright/rulewright/games/skorm/Direction"), accessFlags := 16409, slot := 1, constantValue := 0 }, { name := "NE", type := (.object "com/example/rulewright/rulewright/games/skorm/Direction"), accessFlags := 16409, slot := 2, constantValue := 0 }, { name := "NW", type := (.object "com/example/rulewright/rulewright/games/skorm/Direction"), accessFlags := 16409, slot := 3, constantValue := 0 }, { name := "SE", type := (.object "com/example/rulewright/rulewright/games/skorm/Direction"), accessFlags := 16409, slot := 4, constantValue := 0 }, { name := "SW", type := (.object "com/example/rulewright/rulewright/games/skorm/Direction"), accessFlags := 16409, slot := 5, constantValue := 0 }, { name := "OPPOSITES", type := (.array (.object "com/example/rulewright/rulewright/games/skorm/Direction")), accessFlags := 26, slot := 6, constantValue := 0 }, { name := "rowStep", type := .int, accessFlags := 18, slot := 3, constantValue := 0 }, { name := "numberStep", type := .int, accessFlags := 18, slot := 4, constantValue := 0 }, { name := "$VALUES", type := (.array (.object "com/example/rulewright/rulewright/games/skorm/Direction")), accessFlags := 4122, slot := 7, constantValue := 0 }]
  methods := #[]
  instanceTypes := #[(.object "java/lang/String"), .int, .int, .int, .int]
  staticTypes := #[(.object "com/example/rulewright/rulewright/games/skorm/Direction"), (.object "com/example/rulewright/rulewright/games/skorm/Direction"), (.object "com/example/rulewright/rulewright/games/skorm/Direction"), (.object "com/example/rulewright/rulewright/games/skorm/Direction"), (.object "com/example/rulewright/rulewright/games/skorm/Direction"), (.object "com/example/rulewright/rulewright/games/skorm/Direction"), (.array (.object "com/example/rulewright/rulewright/games/skorm/Direction")), (.array (.object "com/example/rulewright/rulewright/games/skorm/Direction"))]
  resolved := Array.replicate 108 none
  statics := some 1 }

def pool8 : Array CpInfo := pool [(1, u "java/lang/Cloneable"), (0, .class_ 1), (0, u "java/lang/Object"), (0, .class_ 3)] 3

/-- java/lang/Cloneable -/
def k8 : Class := { plain "java/lang/Cloneable" (some 0) with
  accessFlags := 1537
  interfaces := #[]
  cf := some (fileOf pool8 2 #[] #[] 1537 4 #[] #[])
  fields := #[]
  methods := #[]
  instanceTypes := #[]
  staticTypes := #[]
  resolved := Array.replicate 8 none
  statics := none }

/-- the primitive byte -/
def k9 : Class := { plain "byte" none with kind := .primitive 'B', accessFlags := 0x411 }
/-- [B -/
def k10 : Class := { plain "[B" (some 0) with kind := .array 9 .byte, interfaces := #[8, 4], accessFlags := 1041 }

/-- the primitive int -/
def k11 : Class := { plain "int" none with kind := .primitive 'I', accessFlags := 0x411 }
/-- [I -/
def k12 : Class := { plain "[I" (some 0) with kind := .array 11 .int, interfaces := #[8, 4], accessFlags := 1041 }

/-- [Lcom/example/rulewright/rulewright/games/skorm/Direction; -/
def k13 : Class := { plain "[Lcom/example/rulewright/rulewright/games/skorm/Direction;" (some 0) with kind := .array 7 (.object "com/example/rulewright/rulewright/games/skorm/Direction"), interfaces := #[8, 4], accessFlags := 1041 }

def heap : Heap := #[{ cls := 6, slots := #[.ref 4, .ref 13, .ref 12, .ref 11, .ref 3, .ref 2, .null], vm := .statics 6 },
  { cls := 7, slots := #[.ref 5, .ref 6, .ref 7, .ref 8, .ref 9, .ref 10, .null, .null], vm := .statics 7 },
  { cls := 13, slots := #[.ref 5, .ref 6, .ref 7, .ref 8, .ref 9, .ref 10], vm := .none },
  { cls := 13, slots := #[.null], vm := .none },
  { cls := 6, slots := #[.null, .int 0, .int 0, .null, .int 0, .int 0, .int 0, .int 1], vm := .none },
  { cls := 7, slots := #[.null, .int 0, .int 0, .int 0, .int 0], vm := .none },
  { cls := 7, slots := #[.null, .int 0, .int 0, .int 0, .int 0], vm := .none },
  { cls := 7, slots := #[.null, .int 0, .int 0, .int 0, .int 0], vm := .none },
  { cls := 7, slots := #[.null, .int 0, .int 0, .int 0, .int 0], vm := .none },
  { cls := 7, slots := #[.null, .int 0, .int 0, .int 0, .int 0], vm := .none },
  { cls := 7, slots := #[.null, .int 0, .int 0, .int 0, .int 0], vm := .none },
  { cls := 6, slots := #[.null, .int 0, .int 0, .null, .int 0, .int 0, .int 0, .int 0], vm := .none },
  { cls := 6, slots := #[.null, .int 0, .int 0, .null, .int 0, .int 0, .int 0, .int 0], vm := .none },
  { cls := 6, slots := #[.null, .int 0, .int 0, .null, .int 0, .int 0, .int 0, .int 0], vm := .none }]
def classes : Array Class := #[k0, k1, k2, k3, k4, k5, k6, k7, k8, k9, k10, k11, k12, k13]
def interned : List (Array UInt16 × Addr) := []
def slotsUsed : Nat := 84
def theMethod : MethodId := ⟨1, 2⟩
def args0 : Array Value := #[.int 5]
def aboutOver (below : List Frame) : State where
  vm := { classes := classes, interned := interned.toArray }
  heap := heap
  slotsUsed := slotsUsed
  threads := #[{ frames := .invoking theMethod args0 :: below }]
def below0 : List Frame := [.native { method := ⟨0, 0⟩, args := #[] }]
def about1 : State := aboutOver below0
def p0 : Program := .bare "" "" ""
def e0 : Env := launch0.env 0 0 0
theorem w_frames : about1.frames = Frame.invoking theMethod args0 :: below0 := rfl
set_option maxRecDepth 65536 in
theorem w_args : argsFit about1.vm theMethod args0 = true := by decide +kernel
set_option maxRecDepth 65536 in
theorem w_heap : heapFits about1 = true := by decide +kernel
set_option maxRecDepth 65536 in
theorem w_runnable : about1.curStatus? = some .runnable := by decide +kernel
set_option maxRecDepth 65536 in
theorem w_alone : about1.alone = true := by decide +kernel
set_option maxRecDepth 65536 in
theorem w_named : about1.methodNamed? x = some theMethod := by decide +kernel
set_option maxRecDepth 65536 in
theorem w_hears : about1.hears theMethod below0 = true := by decide +kernel
set_option maxRecDepth 65536 in
theorem w_ripe : about1.ripe theMethod args0 below0 = true := by decide +kernel
theorem w_running : about1.status = .running := rfl
set_option maxRecDepth 65536 in
theorem w_room : about1.hasRoom e0.platform room_1 = true :=
  launch0.hasRoom_least _ room_1 (by decide +kernel) (by decide +kernel) (by decide +kernel) (by decide +kernel) (by decide +kernel) (by decide +kernel)
theorem allAtoms_all (ts : List Jvm.Cond) (a : Array Jvm.Value) (st : Jvm.State) : (allAtoms ts).before a st = ts.all (fun c => c.before a st) := by
  induction ts with
  | nil => rfl
  | cons c t ih =>
    show (Jvm.Cond.and c (allAtoms t)).before a st = _
    rw [Jvm.Cond.before_and, ih, List.all_cons]
def words1 : List Jvm.Cond := Jvm.Cond.code x code maxLocals ret :: tables_1
/-- a 'code' word, met by the world's own term for the bytes: nothing is compared byte by byte -/
theorem code_word {y : MethodName} {bytes : ByteArray} {mx : Nat} {rt : Option FieldType} {a : Array Value} {s : State} {m : MethodId} {meth : Method} {c : Code} (h1 : s.methodNamed? y = some m) (h2 : s.vm.method? m = some meth) (h3 : meth.code = some c) (h4 : c.code = bytes)
    (h5 : (c.maxLocals == mx && c.exceptionTable.isEmpty && decide (c.maxStack ≤ mostOperands) && decide (meth.sig.returnType = rt) && !meth.locks && decide (parseMethodDescriptor y.desc = some meth.sig)) = true) : (Jvm.Cond.code y bytes mx rt).before a s = true := by
  simp only [Bool.and_eq_true, beq_iff_eq, Bool.not_eq_true', decide_eq_true_eq] at h5
  obtain ⟨⟨⟨⟨⟨g1, g2⟩, g3⟩, g4⟩, g5⟩, g6⟩ := h5
  simp [Cond.before, Cond.holds, Cond.value, h1, h2, h3, h4, g1, g2, g3, g4, g5, g6]
def isCode : Jvm.Cond → Bool
  | .code _ _ _ _ => true
  | _ => false
theorem all_split {L : List Jvm.Cond} {P : Jvm.Cond → Bool} (h1 : L.all (fun c => isCode c || P c) = true) (h2 : ∀ c ∈ L.filter isCode, P c = true) : L.all P = true := by
  refine List.all_eq_true.mpr fun c hc => ?_
  have h := List.all_eq_true.mp h1 c hc
  rcases Bool.eq_false_or_eq_true (isCode c) with hi | hi
  · exact h2 c (List.mem_filter.mpr ⟨hc, hi⟩)
  · simpa [hi] using h
set_option maxRecDepth 65536 in
theorem w_c0 : (Jvm.Cond.code x code maxLocals ret).before args0 about1 = true := code_word (m := ⟨1, 2⟩) (meth := k1m2) (c := k1c2) (by decide +kernel) rfl rfl rfl (by decide +kernel)
set_option maxRecDepth 65536 in
theorem w_c1 : (Jvm.Cond.code ({ cls := "com/example/rulewright/rulewright/games/skorm/PieceTypeLandingsPinLaw", name := "pick", desc := "(I)Lcom/example/rulewright/rulewright/games/skorm/PieceType;" } : Jvm.MethodName) method_2_code (1 : Nat) (Option.some (Jvm.ClassFile.FieldType.object "com/example/rulewright/rulewright/games/skorm/PieceType"))).before args0 about1 = true := code_word (m := ⟨1, 1⟩) (meth := k1m1) (c := k1c1) (by decide +kernel) rfl rfl rfl (by decide +kernel)
set_option maxRecDepth 65536 in
theorem w_c2 : (Jvm.Cond.code ({ cls := "com/example/rulewright/rulewright/games/skorm/PieceType", name := "landings", desc := "()[Lcom/example/rulewright/rulewright/games/skorm/Direction;" } : Jvm.MethodName) prog_11_method_11_code (1 : Nat) (Option.some (Jvm.ClassFile.FieldType.array (Jvm.ClassFile.FieldType.object "com/example/rulewright/rulewright/games/skorm/Direction")))).before args0 about1 = true := code_word (m := ⟨6, 0⟩) (meth := k6m0) (c := k6c0) (by decide +kernel) rfl rfl rfl (by decide +kernel)
def codes1 : List Jvm.Cond := [Jvm.Cond.code x code maxLocals ret, Jvm.Cond.code ({ cls := "com/example/rulewright/rulewright/games/skorm/PieceTypeLandingsPinLaw", name := "pick", desc := "(I)Lcom/example/rulewright/rulewright/games/skorm/PieceType;" } : Jvm.MethodName) method_2_code (1 : Nat) (Option.some (Jvm.ClassFile.FieldType.object "com/example/rulewright/rulewright/games/skorm/PieceType")), Jvm.Cond.code ({ cls := "com/example/rulewright/rulewright/games/skorm/PieceType", name := "landings", desc := "()[Lcom/example/rulewright/rulewright/games/skorm/Direction;" } : Jvm.MethodName) prog_11_method_11_code (1 : Nat) (Option.some (Jvm.ClassFile.FieldType.array (Jvm.ClassFile.FieldType.object "com/example/rulewright/rulewright/games/skorm/Direction")))]
set_option maxRecDepth 65536 in
theorem codes_eq : words1.filter isCode = codes1 := rfl
theorem w_codes : ∀ c ∈ words1.filter isCode, c.before args0 about1 = true := by
  rw [codes_eq]
  intro c hc
  simp only [codes1, List.mem_cons, List.not_mem_nil, or_false] at hc
  rcases hc with rfl | rfl | rfl
  · exact w_c0
  · exact w_c1
  · exact w_c2
set_option maxRecDepth 65536 in
theorem w_t1 : (words1.take 24).all (fun c => isCode c || c.before args0 about1) = true := by decide +kernel
set_option maxRecDepth 65536 in
theorem w_t2 : (words1.drop 24).all (fun c => isCode c || c.before args0 about1) = true := by decide +kernel
theorem w_tables : (allAtoms (Jvm.Cond.code x code maxLocals ret :: tables_1)).before args0 about1 = true := by
  rw [allAtoms_all]
  show words1.all (fun c => c.before args0 about1) = true
  refine all_split ?_ w_codes
  rw [← List.take_append_drop 24 words1, List.all_append, w_t1, w_t2]
  rfl
set_option maxRecDepth 65536 in
theorem w_case : (Jvm.Cond.and given_1 narrow_1).before args0 about1 = true := by decide +kernel
theorem w_applies : (headSpec (Jvm.Cond.code x code maxLocals ret :: tables_1) room_1).applies x e0.platform about1 = true :=
  (Spec.applies_iff w_frames).mpr ⟨w_running, w_runnable, w_alone, w_named, w_hears, w_ripe, w_room, w_tables⟩
theorem atStart : AtStart classFile x code maxLocals ret World_1 tables_1 room_1 Calls_1 rest_1 Pre_1 launch0 p0 e0 about1 theMethod args0 below0 :=
  ⟨lists_1, trivial, launch0.admits_env _ _ _, launch0.least_env, fairChoices_fair.cas, fairChoices_fair.clock, w_frames, w_args, w_heap, w_applies, trivial, trivial, w_case⟩
end start1
theorem witness_1 : WitnessClaimed_1 := ⟨start1.p0, start1.e0, start1.about1, start1.theMethod, start1.args0, start1.below0, start1.atStart⟩
end Jvm.Pilot.@@N@@
