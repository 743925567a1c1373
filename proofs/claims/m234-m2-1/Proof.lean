import JvmDerived
import JvmDerived.Pilot.@@N@@Statement
import JvmDerived.Pilot.@@N@@Code
set_option linter.unusedVariables false
set_option linter.unusedSimpArgs false
namespace Jvm.RoadKit
open Sem ClassFile Op Lib Jvm.Stand Jvm.Free Jvm.LawKit
/-- the run from S comes to an end that Post allows -/
def own_Fin (tb : Tables) (e : Env) (below : List Frame) (Post : Outcome → State → Prop) (S : State) : Prop := ∃ s₂ o, Steps tb e below S s₂ ∧ s₂.status = .running ∧ Ended s₂ below o ∧ Post o s₂
def own_post (Q : Option Value → Heap → List Loc → Prop) (s : State) (k n : Nat) (o : Outcome) (U : State) : Prop := ∃ v L, o = .returned v ∧ Q v U.heap L ∧ FrameEnd s o U L k n
def own_bool (P : Prop) (v : Option Value) : Prop := (v = some (.int 1) ∧ P) ∨ (v = some (.int 0) ∧ ¬ P)
theorem own_Fin.step {tb : Tables} {e : Env} {below : List Frame} {Post : Outcome → State → Prop} {S S' : State} (h : ∀ t, Steps tb e below S' t → Steps tb e below S t) (k : own_Fin tb e below Post S') : own_Fin tb e below Post S := by
  obtain ⟨s2, o, h1, h2⟩ := k
  exact ⟨s2, o, h _ h1, h2⟩
theorem own_Fin.trans {tb : Tables} {e : Env} {below : List Frame} {Post : Outcome → State → Prop} {S S' : State} (h : Steps tb e below S S') (k : own_Fin tb e below Post S') : own_Fin tb e below Post S := by
  obtain ⟨s2, o, h1, h2⟩ := k
  exact ⟨s2, o, h.trans h1, h2⟩
section New
variable {p : Program} {l : Launch} {e : Env} {R : Room} {s : State} {m : MethodId} {args : Array Value} {below : List Frame} {meth : Method} {c : Code} {T : State} {locs : List Loc} {cells slots : Nat} {Q : Option Value → Heap → List Loc → Prop} {kc ks : Nat} {h : Heap}
theorem retI (X : Stand p l e R s m args below meth c T locs cells slots) (hx : p.tables.exec = Jvm.exec) {pc : Nat} {Ls : Array Slot} {z : Int32} {rest : List Value} (hret : meth.sig.returnType = some .int) (hd : decode c.code pc = .ok (.ireturn, 1)) {fs : List Frame}
    (hl : ∀ (f : JFrame) (acts : List Action), f.method = m → f.locked = none → f.entered = [] → (doReturn e (T.setTop f) acts (some (.int z))).1 = T.setFrames fs) : Steps p.tables e below (T.setTop (mkF m pc Ls (.int z :: rest))) (T.setFrames fs) := by
  have hm' : T.vm.method? m = some meth := X.method'
  have hn : narrow .int (.int z) = .int z := rfl
  show Steps p.tables e below (T.setTop { method := m, pc := pc, locals := Ls, stack := _ :: rest, locked := none }) _
  jvm_step X.here [X.here.top, hx, hd, hm', hret, hn]
  first | (intro acts; rw [hl _ acts rfl rfl rfl]) | rw [hl _ _ rfl rfl rfl]
  exact Steps.refl _
theorem own_retN (X : Stand p l e R s m args below meth c T locs cells slots) (hx : p.tables.exec = Jvm.exec) (hlk : meth.locks = false) {pc : Nat} {Ls : Array Slot} {z : Int32} {t : FieldType} {rest : List Value} (hret : meth.sig.returnType = some t) (ht : t = .boolean ∨ t = .byte ∨ t = .char ∨ t = .short)
    (hd : decode c.code pc = .ok (.ireturn, 1)) (eT : T.heap = h) (hq : Q (some (.int (nar t z))) h locs) (hc : cells ≤ kc) (hs : slots ≤ ks) : own_Fin p.tables e below (own_post Q s kc ks) (T.setTop (mkF m pc Ls (.int z :: rest))) := by
  obtain ⟨fs, hr, hrun, hended, hW, hsame⟩ := X.leave (v := some (.int (nar t z))) (fun h => by rw [hret] at h; cases h) hlk
  exact ⟨_, _, retN X hx hret ht hd hr, hrun, hended, _, _, rfl, (eT ▸ hq : Q (some (.int (nar t z))) T.heap locs), ⟨_, rfl⟩, hW, hsame.mono hc hs⟩
theorem own_retI (X : Stand p l e R s m args below meth c T locs cells slots) (hx : p.tables.exec = Jvm.exec) (hlk : meth.locks = false) {pc : Nat} {Ls : Array Slot} {z : Int32} {rest : List Value} (hret : meth.sig.returnType = some .int)
    (hd : decode c.code pc = .ok (.ireturn, 1)) (eT : T.heap = h) (hq : Q (some (.int z)) h locs) (hc : cells ≤ kc) (hs : slots ≤ ks) : own_Fin p.tables e below (own_post Q s kc ks) (T.setTop (mkF m pc Ls (.int z :: rest))) := by
  obtain ⟨fs, hr, hrun, hended, hW, hsame⟩ := X.leave (v := some (.int z)) (fun h => by rw [hret] at h; cases h) hlk
  exact ⟨_, _, retI X hx hret hd hr, hrun, hended, _, _, rfl, (eT ▸ hq : Q (some (.int z)) T.heap locs), ⟨_, rfl⟩, hW, hsame.mono hc hs⟩
theorem own_retJ (X : Stand p l e R s m args below meth c T locs cells slots) (hx : p.tables.exec = Jvm.exec) (hlk : meth.locks = false) {pc : Nat} {Ls : Array Slot} {z : Int64} (hret : meth.sig.returnType = some .long)
    (hd : decode c.code pc = .ok (.lreturn, 1)) (eT : T.heap = h) (hq : Q (some (.long z)) h locs) (hc : cells ≤ kc) (hs : slots ≤ ks) : own_Fin p.tables e below (own_post Q s kc ks) (T.setTop (mkF m pc Ls [.long z])) := by
  obtain ⟨fs, hr, hrun, hended, hW, hsame⟩ := X.leave (v := some (.long z)) (fun h => by rw [hret] at h; cases h) hlk
  exact ⟨_, _, X.lreturnOut hx hret hd hr, hrun, hended, _, _, rfl, (eT ▸ hq : Q (some (.long z)) T.heap locs), ⟨_, rfl⟩, hW, hsame.mono hc hs⟩
theorem own_retR (X : Stand p l e R s m args below meth c T locs cells slots) (hx : p.tables.exec = Jvm.exec) (hlk : meth.locks = false) {pc : Nat} {Ls : Array Slot} {w : Value} {t : FieldType} (hw : w.isRef = true) (hret : meth.sig.returnType = some t) (ht : t.isReference = true)
    (hd : decode c.code pc = .ok (.areturn, 1)) (eT : T.heap = h) (hq : Q (some w) h locs) (hc : cells ≤ kc) (hs : slots ≤ ks) : own_Fin p.tables e below (own_post Q s kc ks) (T.setTop (mkF m pc Ls [w])) := by
  obtain ⟨fs, hr, hrun, hended, hW, hsame⟩ := X.leave (v := some w) (fun h => by rw [hret] at h; cases h) hlk
  exact ⟨_, _, X.areturnOut hx hw hret ht hd hr, hrun, hended, _, _, rfl, (eT ▸ hq : Q (some w) T.heap locs), ⟨_, rfl⟩, hW, hsame.mono hc hs⟩
theorem own_retV (X : Stand p l e R s m args below meth c T locs cells slots) (hx : p.tables.exec = Jvm.exec) (hlk : meth.locks = false) {pc : Nat} {Ls : Array Slot} (hret : meth.sig.returnType = none)
    (hd : decode c.code pc = .ok (.return_, 1)) (eT : T.heap = h) (hq : Q none h locs) (hc : cells ≤ kc) (hs : slots ≤ ks) : own_Fin p.tables e below (own_post Q s kc ks) (T.setTop (mkF m pc Ls [])) := by
  obtain ⟨fs, hr, hrun, hended, hW, hsame⟩ := X.leave (v := none) (fun _ => rfl) hlk
  exact ⟨_, _, X.returnOut hx hret hd hr, hrun, hended, _, _, rfl, (eT ▸ hq : Q none T.heap locs), ⟨_, rfl⟩, hW, hsame.mono hc hs⟩
theorem own_cat1 {v : Value} (h : v.isRef = true) : v.category = 1 := by cases v <;> simp [Value.isRef, Value.category] at h ⊢
theorem own_catR {a : Addr} : (Value.ref a).category = 1 := rfl
theorem own_catN : Value.null.category = 1 := rfl
theorem own_catI {a : Int32} : (Value.int a).category = 1 := rfl
theorem own_catJ {a : Int64} : (Value.long a).category = 2 := rfl
theorem own_fitR {v : Value} {C : String} (h : v.isRef = true) : fits (.object C) v = true := by cases v <;> simp [Value.isRef, fits] at h ⊢
theorem own_fitA {v : Value} {ty : FieldType} (h : v.isRef = true) : fits (.array ty) v = true := by cases v <;> simp [Value.isRef, fits] at h ⊢
theorem own_selPriv {s : State} {args : Array Value} {y : MethodName} {n : Nat} (hi : (Cond.instantiable y.cls n).before args s = true) (hpriv : s.PrivateAt y) (hinst : (Cond.instanceMethod y).before args s = true) (hy : y.cls ≠ "java/lang/invoke/MethodHandle" ∧ y.cls ≠ "java/lang/invoke/VarHandle") : (Cond.selects y.cls y y).before args s = true := by
  obtain ⟨c, k, h1, h2, -, h4, -, -⟩ := Cond.instantiable_spec hi
  have h5 : k.isInterface = false := by
    cases hk : k.isInterface with
    | false => rfl
    | true => simp [hk] at h4
  exact selects_self_of_private h1 h2 h5 hpriv hinst hy
theorem own_eqI {a b : Term} {args : Array Value} {first st : State} {o : Option Outcome} {idx : List Nat} {y : Int32} (h : (Cond.eq a b).value args first o st idx = some true) (hb : b.eval args first o idx st = some (.int y)) : a.eval args first o idx st = some (.int y) := by
  cases ha : a.eval args first o idx st with
  | none => simp [Cond.value, ha] at h
  | some x => cases x <;> simp [Cond.value, ha, hb] at h ⊢ <;> exact h
theorem own_eqR {a b : Term} {args : Array Value} {first st : State} {o : Option Outcome} {idx : List Nat} {y : Addr} (h : (Cond.eq a b).value args first o st idx = some true) (hb : b.eval args first o idx st = some (.ref y)) : a.eval args first o idx st = some (.ref y) := by
  cases ha : a.eval args first o idx st with
  | none => simp [Cond.value, ha] at h
  | some x => cases x <;> simp [Cond.value, ha, hb] at h ⊢ <;> exact h
theorem own_elem {t : Term} {args : Array Value} {Z : State} {a : Addr} {cl : Cell} {ty : FieldType} {j : Int32} {v : Value} (ev : t.eval args Z none [] Z = some (.ref a)) (A : Arr Z Z.heap a cl ty) (h : (Term.elem t (.int j)).eval args Z none [] Z = some v) : cl.slots[j.toNatClampNeg]? = some v := by
  obtain ⟨a', j', cell, e1, e2, e3, -, e5⟩ := Term.elem_spec h
  cases e1.symm.trans ev
  have e6 : some (Value.int j) = some (Value.int j') := e2
  cases e6
  have := IntBox.arrayAt_of A.1 A.2.1 A.2.2
  cases e3.symm.trans this
  exact e5
theorem own_arv {t : Term} {args : Array Value} {Z : State} {a : Addr} {cl : Cell} {ty : FieldType} {z : Int32} {vs : List Value} {dv : Value} (hf : Fit Z) (ev : t.eval args Z none [] Z = some (.ref a)) (A : Arr Z Z.heap a cl ty) (hl : (Term.length t).eval args Z none [] Z = some (.int z)) (hz : ¬ z < 0) (hn : z.toNatClampNeg = vs.length) (H : HasL cl 0 vs) : Arv Z Z.heap a cl.cls ty z vs dv := by
  have hA := IntBox.arrayAt_of A.1 A.2.1 A.2.2
  have hlt : cl.slots.size < 2 ^ 31 := by
    by_cases hq : cl.slots.size < 2 ^ 31
    · exact hq
    · simp [Term.eval, ev, hA, hq] at hl
  have e := len_f (t := t) (args := args) (first := Z) (o := none) (idx := []) ev hA hlt
  have e2 : cl.slots.size.toInt32 = z := by
    have := e.symm.trans hl
    cases this; rfl
  exact Arv.start hf A hlt e2 hz hn H
end New
end Jvm.RoadKit
/- laws to paste: Road.backV, Road.eqW, Road.codOf (cut by pick.py; bodies as the Statement names them) -/
namespace Jvm.Pilot.@@N@@
namespace StrChars
open Jvm Sem ClassFile Op Lib Jvm.Stand Jvm.Free.XT Jvm.Free.ALB Jvm.Free.JM Jvm.Free
open Jvm.Lib.Cold (StaticIs)
/-- a char array whose places are chars -/
def Ch (a : Addr) (A : Cell) (U : State) : Prop := Arr .char a A U ∧ Typed .char A
theorem Ch.mv {a : Addr} {A : Cell} {U U' : State} (h : Ch a A U) (hal : U.vm.Alike U'.vm) (hh : U'.heap = U.heap) : Ch a A U' := ⟨h.1.mv hal hh, h.2⟩
theorem Ch.keep {a : Addr} {A : Cell} {U U' : State} (h : Ch a A U) (hal : U.vm.Alike U'.vm) (hk : U'.heap[a]? = some A) : Ch a A U' := ⟨h.1.keep hal hk, h.2⟩
/-- what place i of a char[]'s cell holds -/
def cv (A : Cell) (i : Nat) : Int32 := match A.slots[i]? with | some (.int x) => x | _ => 0
theorem Ch.get {a : Addr} {A : Cell} {U : State} (h : Ch a A U) {i : Nat} (hi : i < A.slots.size) : A.slots[i]? = some (.int (cv A i)) := by
  have e := Array.getElem?_eq_getElem hi
  have f := h.2 i _ e
  unfold cv; rw [e]
  generalize A.slots[i] = v at f
  cases v <;> simp [fits] at f ⊢
/-- the byte that i2b leaves of a char -/
def lo8 (x : Int32) : Int32 := x.toInt8.toInt32
theorem fits_lo8 (y : Int32) : fits .byte (.int (lo8 y)) = true := by
  have h1 := y.toInt8.le_toInt
  have h2 := y.toInt8.toInt_lt
  simp only [lo8, fits, Bool.and_eq_true, decide_eq_true_eq, Int32.le_iff_toInt_le, Int8.toInt_toInt32, show (-128 : Int32).toInt = -128 from by decide, show (127 : Int32).toInt = 127 from by decide]
  omega
/-- A' is A but that each place j of lo .. hi - 1 holds f j -/
def Laid (A A' : Cell) (lo hi : Nat) (f : Nat → Value) : Prop := A'.cls = A.cls ∧ A'.vm = A.vm ∧ A'.slots.size = A.slots.size ∧ ∀ i, A'.slots[i]? = if lo ≤ i ∧ i < hi then some (f i) else A.slots[i]?
theorem Laid.zero (A : Cell) (lo : Nat) (f : Nat → Value) : Laid A A lo (lo + 0) f := ⟨rfl, rfl, rfl, fun i => by rw [if_neg (by omega)]⟩
theorem Laid.step {A Ak : Cell} {lo k : Nat} {f : Nat → Value} {v : Value} (h : Laid A Ak lo k f) (hlo : lo ≤ k) (hk : k < Ak.slots.size) (hv : v = f k) : Laid A (Ak.setSlot k v) lo (k + 1) f := by
  refine ⟨h.1, h.2.1, by simpa [Cell.setSlot] using h.2.2.1, fun i => ?_⟩
  by_cases e : k = i
  · subst e; rw [Cell.slots_setSlot_self v hk, if_pos (by omega), hv]
  · rw [Cell.slots_setSlot_ne v e, h.2.2.2 i]
    by_cases q : lo ≤ i ∧ i < k
    · rw [if_pos q, if_pos (by omega)]
    · rw [if_neg q, if_neg (by omega)]
def U16 : String := "java/lang/StringUTF16"
namespace Cmp5
def yN : MethodName := ⟨"java/lang/StringUTF16", "compress", "([CI[BII)I"⟩
abbrev yB : ByteArray := jdk_52_method_21_code
theorem d0 : decode yB 0 = .ok (.iconst 0, 1) := by decide +kernel
theorem d1 : decode yB 1 = .ok (.istore 5, 2) := by decide +kernel
theorem d3 : decode yB 3 = .ok (.iload 5, 2) := by decide +kernel
theorem d5 : decode yB 5 = .ok (.iload 4, 2) := by decide +kernel
theorem d7 : decode yB 7 = .ok (.if_icmp (.ge) 37, 3) := by decide +kernel
theorem d10 : decode yB 10 = .ok (.aload_n 0, 1) := by decide +kernel
theorem d11 : decode yB 11 = .ok (.iload_n 1, 1) := by decide +kernel
theorem d12 : decode yB 12 = .ok (.caload, 1) := by decide +kernel
theorem d13 : decode yB 13 = .ok (.istore 6, 2) := by decide +kernel
theorem d15 : decode yB 15 = .ok (.iload 6, 2) := by decide +kernel
theorem d17 : decode yB 17 = .ok (.sipush 255, 3) := by decide +kernel
theorem d20 : decode yB 20 = .ok (.if_icmp (.le) 6, 3) := by decide +kernel
theorem d26 : decode yB 26 = .ok (.aload_n 2, 1) := by decide +kernel
theorem d27 : decode yB 27 = .ok (.iload_n 3, 1) := by decide +kernel
theorem d28 : decode yB 28 = .ok (.iload 6, 2) := by decide +kernel
theorem d30 : decode yB 30 = .ok (.i2b, 1) := by decide +kernel
theorem d31 : decode yB 31 = .ok (.bastore, 1) := by decide +kernel
theorem d32 : decode yB 32 = .ok (.iinc 1 1, 3) := by decide +kernel
theorem d35 : decode yB 35 = .ok (.iinc 3 1, 3) := by decide +kernel
theorem d38 : decode yB 38 = .ok (.iinc 5 1, 3) := by decide +kernel
theorem d41 : decode yB 41 = .ok (.goto (-38), 3) := by decide +kernel
theorem d44 : decode yB 44 = .ok (.iload 4, 2) := by decide +kernel
theorem d46 : decode yB 46 = .ok (.ireturn, 1) := by decide +kernel
def site : List Cond := []
def tab : Cond := tabOf yN yB 7 (some .int) site
def P (b : Addr) (A : Cell) (d : Addr) (B : Cell) (o q len : Nat) (args : Array Value) (s : State) : Prop := args = #[.ref b, .int (Int32.ofNat o), .ref d, .int (Int32.ofNat q), .int (Int32.ofNat len)] ∧ Ch b A s ∧ Arr .byte d B s ∧ b ≠ d ∧ o + len ≤ A.slots.size ∧ q + len ≤ B.slots.size ∧ ∀ i, i < len → ¬ 255 < cv A (o + i)
def E (b : Addr) (A : Cell) (d : Addr) (B : Cell) (o q len : Nat) (r : Option Value) (s u : State) : Prop := r = some (.int (Int32.ofNat len)) ∧ ∃ B', Put d B' s u ∧ Laid B B' q (q + len) (fun j => Value.int (lo8 (cv A (o + (j - q)))))
/-- no char of the range above 255: len; the places written hold each char's low byte -/
theorem law (l : Launch) (b : Addr) (A : Cell) (d : Addr) (B : Cell) (o q len : Nat) : Law l yN 5 5 0 0 yB 7 (some .int) site (P b A d B o q len) (E b A d B o q len) (copyLocs d q len) 0 0 := by
  refine Law.of_walk (plainFor_of_name (by decide +kernel)) (by decide +kernel) (by decide +kernel) (by decide) (fun _ _ h => by rw [h.1]; rfl) (fun _ U U' hal hh h => ⟨h.1, h.2.1.mv hal hh, h.2.2.1.mv hal hh, h.2.2.2⟩) (fun r U U' V V' h1 hal h2 h => ⟨h.1, h.2.elim fun B' q => ⟨B', q.1.mv h1 h2, q.2⟩⟩) ?_
  intro p e s m args below meth c s₁ X0 hexec hbytes hml hret hlk hnm hown hh0 W hP
  obtain ⟨rfl, hA, hB, hne, l1, l2, hp⟩ := hP
  have c1 : Steps p.tables e below (s₁.setTop (entryFrame m #[.ref b, .int (Int32.ofNat o), .ref d, .int (Int32.ofNat q), .int (Int32.ofNat len)] 7)) (s₁.setTop (mkF m 0 #[.val (.ref b), .val (.int (Int32.ofNat o)), .val (.ref d), .val (.int (Int32.ofNat q)), .val (.int (Int32.ofNat len)), .unset, .unset] [])) := entry rfl
  have hA0 := hA.1.mv X0.warmed.alike hh0
  have hB0 := hB.mv X0.warmed.alike hh0
  have a31 := hA.1.2.2.2
  have c2 : Steps p.tables e below (s₁.setTop (entryFrame m #[.ref b, .int (Int32.ofNat o), .ref d, .int (Int32.ofNat q), .int (Int32.ofNat len)] 7)) (s₁.setTop (mkF m 3 #[.val (.ref b), .val (.int (Int32.ofNat o)), .val (.ref d), .val (.int (Int32.ofNat q)), .val (.int (Int32.ofNat len)), .val (.int 0), .unset] [])) := c1.trans (by
    refine iconstV X0.here hexec rfl 0 (hb hbytes d0) (by decide) ?_
    refine XS.istore X0.here hexec rfl (hb hbytes d1) rfl rfl ?_
    exact Steps.refl _)
  have loop : ∀ (r i : Nat), i + r = len → ∀ (z : Slot), (z = .unset ∨ ∃ w, z = .val w ∧ w.category = 1) → ∀ (Tl : State) (Bk : Cell), Stand p l e { frames := 0, locals := 0, cells := 0, slots := 0 } s m #[.ref b, .int (Int32.ofNat o), .ref d, .int (Int32.ofNat q), .int (Int32.ofNat len)] below meth c Tl ([] ++ copyLocs d q i) 0 0 → Put d Bk s₁ Tl → Laid B Bk q (q + i) (fun j => Value.int (lo8 (cv A (o + (j - q))))) →
      Steps p.tables e below (s₁.setTop (entryFrame m #[.ref b, .int (Int32.ofNat o), .ref d, .int (Int32.ofNat q), .int (Int32.ofNat len)] 7)) (Tl.setTop (mkF m 3 #[.val (.ref b), .val (.int (Int32.ofNat (o + i))), .val (.ref d), .val (.int (Int32.ofNat (q + i))), .val (.int (Int32.ofNat len)), .val (.int (Int32.ofNat i)), z] [])) → ∃ (T' : State) (B' : Cell) (z' : Slot), Stand p l e { frames := 0, locals := 0, cells := 0, slots := 0 } s m #[.ref b, .int (Int32.ofNat o), .ref d, .int (Int32.ofNat q), .int (Int32.ofNat len)] below meth c T' ([] ++ copyLocs d q len) 0 0 ∧ Put d B' s₁ T' ∧ Laid B B' q (q + len) (fun j => Value.int (lo8 (cv A (o + (j - q))))) ∧
      Steps p.tables e below (s₁.setTop (entryFrame m #[.ref b, .int (Int32.ofNat o), .ref d, .int (Int32.ofNat q), .int (Int32.ofNat len)] 7)) (T'.setTop (mkF m 3 #[.val (.ref b), .val (.int (Int32.ofNat (o + len))), .val (.ref d), .val (.int (Int32.ofNat (q + len))), .val (.int (Int32.ofNat len)), .val (.int (Int32.ofNat len)), z'] [])) := by
    intro r
    induction r with
    | zero =>
      intro i hi z hz Tl Bk Xl pl fl cl
      have hil : i = len := by omega
      rw [hil] at Xl fl cl
      exact ⟨Tl, Bk, z, Xl, pl, fl, cl⟩
    | succ r ih =>
      intro i hi z hz Tl Bk Xl pl fl cl
      have all := X0.warmed.alike.symm.trans Xl.warmed.alike
      have hAl := hA0.keep all (pl.other hne hA0.1)
      have hBk := hB0.like all pl.1 fl.1 fl.2.1 fl.2.2.1
      have hlt : q + i < Bk.slots.size := by rw [fl.2.2.1]; omega
      have c3 : Steps p.tables e below (s₁.setTop (entryFrame m #[.ref b, .int (Int32.ofNat o), .ref d, .int (Int32.ofNat q), .int (Int32.ofNat len)] 7)) (Tl.setTop (mkF m 12 #[.val (.ref b), .val (.int (Int32.ofNat (o + i))), .val (.ref d), .val (.int (Int32.ofNat (q + i))), .val (.int (Int32.ofNat len)), .val (.int (Int32.ofNat i)), z] [.int (Int32.ofNat (o + i)), .ref b])) := cl.trans (by
        refine XS.iload Xl.here hexec rfl (hb hbytes d3) rfl ?_
        refine XS.iload Xl.here hexec rfl (hb hbytes d5) rfl ?_
        refine XS.icmpNo Xl.here hexec rfl (hb hbytes d7) rfl (ii_ge_f (lt32 (by omega) (by omega))) ?_
        refine XS.aloadN Xl.here hexec rfl (hb hbytes d10) rfl rfl ?_
        refine XS.iloadN Xl.here hexec rfl (hb hbytes d11) rfl ?_
        exact Steps.refl _)
      have c4 : Steps p.tables e below (s₁.setTop (entryFrame m #[.ref b, .int (Int32.ofNat o), .ref d, .int (Int32.ofNat q), .int (Int32.ofNat len)] 7)) (Tl.setTop (mkF m 13 #[.val (.ref b), .val (.int (Int32.ofNat (o + i))), .val (.ref d), .val (.int (Int32.ofNat (q + i))), .val (.int (Int32.ofNat len)), .val (.int (Int32.ofNat i)), z] [.int (cv A (o + i))])) := c3.trans (by
        refine Xl.aget hexec hAl rfl (hA.get (i := o + i) (by omega)) rfl rfl (hb hbytes d12) ?_
        exact Steps.refl _)
      have c5 : Steps p.tables e below (s₁.setTop (entryFrame m #[.ref b, .int (Int32.ofNat o), .ref d, .int (Int32.ofNat q), .int (Int32.ofNat len)] 7)) (Tl.setTop (mkF m 15 #[.val (.ref b), .val (.int (Int32.ofNat (o + i))), .val (.ref d), .val (.int (Int32.ofNat (q + i))), .val (.int (Int32.ofNat len)), .val (.int (Int32.ofNat i)), .val (.int (cv A (o + i)))] [])) := c4.trans (by
        refine XS.istoreS Xl.here hexec rfl (hb hbytes d13) rfl rfl hz ?_
        exact Steps.refl _)
      have c6 : Steps p.tables e below (s₁.setTop (entryFrame m #[.ref b, .int (Int32.ofNat o), .ref d, .int (Int32.ofNat q), .int (Int32.ofNat len)] 7)) (Tl.setTop (mkF m 31 #[.val (.ref b), .val (.int (Int32.ofNat (o + i))), .val (.ref d), .val (.int (Int32.ofNat (q + i))), .val (.int (Int32.ofNat len)), .val (.int (Int32.ofNat i)), .val (.int (cv A (o + i)))] [.int (lo8 (cv A (o + i))), .int (Int32.ofNat (q + i)), .ref d])) := c5.trans (by
        refine XS.iload Xl.here hexec rfl (hb hbytes d15) rfl ?_
        refine sipushV Xl.here hexec rfl 255 (hb hbytes d17) (by decide) ?_
        refine XS.icmpYes Xl.here hexec rfl (pc0 := 20) rfl (hb hbytes d20) rfl (ii_le_t (hp i (by omega))) (by decide) rfl ?_
        refine XS.aloadN Xl.here hexec rfl (hb hbytes d26) rfl rfl ?_
        refine XS.iloadN Xl.here hexec rfl (hb hbytes d27) rfl ?_
        refine XS.iload Xl.here hexec rfl (hb hbytes d28) rfl ?_
        refine i2b Xl.here hexec rfl (hb hbytes d30) rfl ?_
        exact Steps.refl _)
      obtain ⟨T7, X7, p7, st7⟩ := Xl.aput hexec hBk rfl hlt rfl (fits_lo8 (cv A (o + i))) (g := (mkF m 31 #[.val (.ref b), .val (.int (Int32.ofNat (o + i))), .val (.ref d), .val (.int (Int32.ofNat (q + i))), .val (.int (Int32.ofNat len)), .val (.int (Int32.ofNat i)), .val (.int (cv A (o + i)))] [.int (lo8 (cv A (o + i))), .int (Int32.ofNat (q + i)), .ref d])) rfl (rest := []) rfl (hb hbytes d31)
      have c8 : Steps p.tables e below (s₁.setTop (entryFrame m #[.ref b, .int (Int32.ofNat o), .ref d, .int (Int32.ofNat q), .int (Int32.ofNat len)] 7)) (T7.setTop (mkF m 32 #[.val (.ref b), .val (.int (Int32.ofNat (o + i))), .val (.ref d), .val (.int (Int32.ofNat (q + i))), .val (.int (Int32.ofNat len)), .val (.int (Int32.ofNat i)), .val (.int (cv A (o + i)))] [])) := c6.trans (st7 _ (Steps.refl _))
      have c9 : Steps p.tables e below (s₁.setTop (entryFrame m #[.ref b, .int (Int32.ofNat o), .ref d, .int (Int32.ofNat q), .int (Int32.ofNat len)] 7)) (T7.setTop (mkF m 3 #[.val (.ref b), .val (.int (Int32.ofNat (o + i) + 1)), .val (.ref d), .val (.int (Int32.ofNat (q + i) + 1)), .val (.int (Int32.ofNat len)), .val (.int (Int32.ofNat i + 1)), .val (.int (cv A (o + i)))] [])) := c8.trans (by
        refine iincV X7.here hexec rfl 1 (hb hbytes d32) (by decide) rfl rfl ?_
        refine iincV X7.here hexec rfl 1 (hb hbytes d35) (by decide) rfl rfl ?_
        refine iincV X7.here hexec rfl 1 (hb hbytes d38) (by decide) rfl rfl ?_
        refine XS.goto X7.here hexec rfl (pc0 := 41) rfl (hb hbytes d41) (by decide) rfl ?_
        exact Steps.refl _)
      have c10 : Steps p.tables e below (s₁.setTop (entryFrame m #[.ref b, .int (Int32.ofNat o), .ref d, .int (Int32.ofNat q), .int (Int32.ofNat len)] 7)) (T7.setTop (mkF m 3 #[.val (.ref b), .val (.int (Int32.ofNat (o + (i + 1)))), .val (.ref d), .val (.int (Int32.ofNat (q + (i + 1)))), .val (.int (Int32.ofNat len)), .val (.int (Int32.ofNat (i + 1))), .val (.int (cv A (o + i)))] [])) := by
        have := c9
        rw [succ32, succ32, succ32] at this
        exact this
      exact ih (i + 1) (by omega) _ (Or.inr ⟨_, rfl, rfl⟩) T7 _ (by rw [copyLocs_step, ← List.append_assoc]; exact X7) (pl.trans p7) (fl.step (by omega) hlt (by simp)) c10
  obtain ⟨T9, B9, z9, X9, p9, f9, g9⟩ := loop len 0 (by omega) .unset (Or.inl rfl) s₁ B (by simpa [copyLocs] using X0) ⟨hB0.1, fun _ _ => rfl, rfl⟩ (Laid.zero _ _ _) c2
  have c11 : Steps p.tables e below (s₁.setTop (entryFrame m #[.ref b, .int (Int32.ofNat o), .ref d, .int (Int32.ofNat q), .int (Int32.ofNat len)] 7)) (T9.setTop (mkF m 46 #[.val (.ref b), .val (.int (Int32.ofNat (o + len))), .val (.ref d), .val (.int (Int32.ofNat (q + len))), .val (.int (Int32.ofNat len)), .val (.int (Int32.ofNat len)), z9] [.int (Int32.ofNat len)])) := g9.trans (by
    refine XS.iload X9.here hexec rfl (hb hbytes d3) rfl ?_
    refine XS.iload X9.here hexec rfl (hb hbytes d5) rfl ?_
    refine XS.icmpYes X9.here hexec rfl (pc0 := 7) rfl (hb hbytes d7) rfl (ii_ge_t (nlt32 (by omega) (Nat.le_refl _))) (by decide) rfl ?_
    refine XS.iload X9.here hexec rfl (hb hbytes d44) rfl ?_
    exact Steps.refl _)
  exact ⟨T9, some (.int (Int32.ofNat len)), _, _, _, X9, by simp, rfl, rfl, (fun h => by cases h), ⟨rfl, B9, p9.from hh0, f9⟩, fun fs hl => c11.trans (X9.ireturnOut hexec hret rfl (Or.inl rfl) (hb hbytes d46) hl)⟩
end Cmp5
namespace Cmp3
def yN : MethodName := ⟨"java/lang/StringUTF16", "compress", "([CII)[B"⟩
abbrev yB : ByteArray := jdk_52_method_16_code
theorem d0 : decode yB 0 = .ok (.iload_n 2, 1) := by decide +kernel
theorem d1 : decode yB 1 = .ok (.newarray .byte, 2) := by decide +kernel
theorem d3 : decode yB 3 = .ok (.astore_n 3, 1) := by decide +kernel
theorem d4 : decode yB 4 = .ok (.aload_n 0, 1) := by decide +kernel
theorem d5 : decode yB 5 = .ok (.iload_n 1, 1) := by decide +kernel
theorem d6 : decode yB 6 = .ok (.aload_n 3, 1) := by decide +kernel
theorem d7 : decode yB 7 = .ok (.iconst 0, 1) := by decide +kernel
theorem d8 : decode yB 8 = .ok (.iload_n 2, 1) := by decide +kernel
theorem d9 : decode yB 9 = .ok (.invokestatic 115, 3) := by decide +kernel
theorem d12 : decode yB 12 = .ok (.istore 4, 2) := by decide +kernel
theorem d14 : decode yB 14 = .ok (.iload 4, 2) := by decide +kernel
theorem d16 : decode yB 16 = .ok (.iload_n 2, 1) := by decide +kernel
theorem d17 : decode yB 17 = .ok (.if_icmp (.eq) 40, 3) := by decide +kernel
theorem d57 : decode yB 57 = .ok (.aload_n 3, 1) := by decide +kernel
theorem d58 : decode yB 58 = .ok (.areturn, 1) := by decide +kernel
def site : List Cond := [.arrayClass .byte, Cmp5.tab] ++ staticW U16 115 Cmp5.yN
def tab : Cond := tabOf yN yB 6 (some (.array .byte)) site
def P (b : Addr) (A : Cell) (o len : Nat) (args : Array Value) (s : State) : Prop := args = #[.ref b, .int (Int32.ofNat o), .int (Int32.ofNat len)] ∧ Ch b A s ∧ o + len ≤ A.slots.size ∧ len ≤ 536870912 ∧ ∀ i, i < len → ¬ 255 < cv A (o + i)
def E (b : Addr) (A : Cell) (o len : Nat) (r : Option Value) (s u : State) : Prop := NewArr .byte "[B" len (fun j => .int (lo8 (cv A (o + j)))) r s u ∧ u.heap.size = s.heap.size + 1
/-- no char of the range above 255: a new byte[] of their low bytes -/
theorem law (l : Launch) (b : Addr) (A : Cell) (o len : Nat) : Law l yN 3 3 1 18 yB 6 (some (.array .byte)) site (P b A o len) (E b A o len) [] 1 len := by
  refine Law.of_walk (plainFor_of_name (by decide +kernel)) (by decide +kernel) (by decide +kernel) (by decide) (fun _ _ h => by rw [h.1]; rfl) (fun _ U U' hal hh h => ⟨h.1, h.2.1.mv hal hh, h.2.2⟩) (fun r U U' V V' h1 hal h2 h => ⟨NewArr.mv r U U' V V' h1 hal h2 h.1, by rw [h1, h2]; exact h.2⟩) ?_
  intro p e s m args below meth c s₁ X0 hexec hbytes hml hret hlk hnm hown hh0 W hP
  obtain ⟨rfl, hA, l1, l2, hp⟩ := hP
  have a31 := hA.1.2.2.2
  have c1 : Steps p.tables e below (s₁.setTop (entryFrame m #[.ref b, .int (Int32.ofNat o), .int (Int32.ofNat len)] 6)) (s₁.setTop (mkF m 0 #[.val (.ref b), .val (.int (Int32.ofNat o)), .val (.int (Int32.ofNat len)), .unset, .unset, .unset] [])) := entry rfl
  have c2 : Steps p.tables e below (s₁.setTop (entryFrame m #[.ref b, .int (Int32.ofNat o), .int (Int32.ofNat len)] 6)) (s₁.setTop (mkF m 1 #[.val (.ref b), .val (.int (Int32.ofNat o)), .val (.int (Int32.ofNat len)), .unset, .unset, .unset] [.int (Int32.ofNat len)])) := c1.trans (by
    refine XS.iloadN X0.here hexec rfl (hb hbytes d0) rfl ?_
    exact Steps.refl _)
  obtain ⟨T3, B3, X3, ba3, bs3, bv3, bh3, bf3, st3⟩ := X0.anew hexec (atype := .byte) (wk W (.arrayClass .byte)) rfl (by show len * 1 ≤ _; omega) (by omega) (g := (mkF m 1 #[.val (.ref b), .val (.int (Int32.ofNat o)), .val (.int (Int32.ofNat len)), .unset, .unset, .unset] [.int (Int32.ofNat len)])) rfl (hb hbytes d1) (rest := []) rfl (Nat.le_refl _) (by show 0 + len ≤ len; omega)
  rw [hh0] at ba3 st3
  have kp3 : XT.Kept s T3 := (XT.Kept.of_eq hh0).push bh3
  have hA3 := hA.keep X3.warmed.alike (kp3 _ _ hA.1.1)
  have hne : b ≠ s.heap.size := hA.1.ne
  have c4 : Steps p.tables e below (s₁.setTop (entryFrame m #[.ref b, .int (Int32.ofNat o), .int (Int32.ofNat len)] 6)) (T3.setTop (mkF m 3 #[.val (.ref b), .val (.int (Int32.ofNat o)), .val (.int (Int32.ofNat len)), .unset, .unset, .unset] [.ref s.heap.size])) := c2.trans (st3 _ (Steps.refl _))
  have c5 : Steps p.tables e below (s₁.setTop (entryFrame m #[.ref b, .int (Int32.ofNat o), .int (Int32.ofNat len)] 6)) (T3.setTop (mkF m 9 #[.val (.ref b), .val (.int (Int32.ofNat o)), .val (.int (Int32.ofNat len)), .val (.ref s.heap.size), .unset, .unset] [.int (Int32.ofNat len), .int 0, .ref s.heap.size, .int (Int32.ofNat o), .ref b])) := c4.trans (by
    refine XS.astoreN X3.here hexec rfl (hb hbytes d3) rfl rfl rfl ?_
    refine XS.aloadN X3.here hexec rfl (hb hbytes d4) rfl rfl ?_
    refine XS.iloadN X3.here hexec rfl (hb hbytes d5) rfl ?_
    refine XS.aloadN X3.here hexec rfl (hb hbytes d6) rfl rfl ?_
    refine iconstV X3.here hexec rfl 0 (hb hbytes d7) (by decide) ?_
    refine XS.iloadN X3.here hexec rfl (hb hbytes d8) rfl ?_
    exact Steps.refl _)
  obtain ⟨v6, T6, X6, E6, g6⟩ := X3.callS hexec (Cmp5.law l b A s.heap.size B3 o 0 len) hown (wks W (staticW U16 115 Cmp5.yN)) (wk W Cmp5.tab) (W := 0) (Nat.le_of_ble_eq_true rfl) (Nat.le_of_ble_eq_true rfl) (Nat.le_refl _) (by show 0 + len + 0 ≤ len; omega) (g := (mkF m 9 #[.val (.ref b), .val (.int (Int32.ofNat o)), .val (.int (Int32.ofNat len)), .val (.ref s.heap.size), .unset, .unset] [.int (Int32.ofNat len), .int (Int32.ofNat 0), .ref s.heap.size, .int (Int32.ofNat o), .ref b])) rfl (by rw [hml]; rfl) c5 (argsL := [.ref b, .int (Int32.ofNat o), .ref s.heap.size, .int (Int32.ofNat 0), .int (Int32.ofNat len)]) (rest := []) rfl rfl (by show 2 * 0 + 0 ≤ _; decide) (hb hbytes d9) (⟨rfl, hA3, ba3, hne, l1, by rw [bs3]; simp, hp⟩)
  obtain ⟨rfl, B6, p6, f6⟩ := E6
  have c7 : Steps p.tables e below (s₁.setTop (entryFrame m #[.ref b, .int (Int32.ofNat o), .int (Int32.ofNat len)] 6)) (T6.setTop (mkF m 12 #[.val (.ref b), .val (.int (Int32.ofNat o)), .val (.int (Int32.ofNat len)), .val (.ref s.heap.size), .unset, .unset] [.int (Int32.ofNat len)])) := g6
  have c8 : Steps p.tables e below (s₁.setTop (entryFrame m #[.ref b, .int (Int32.ofNat o), .int (Int32.ofNat len)] 6)) (T6.setTop (mkF m 58 #[.val (.ref b), .val (.int (Int32.ofNat o)), .val (.int (Int32.ofNat len)), .val (.ref s.heap.size), .val (.int (Int32.ofNat len)), .unset] [.ref s.heap.size])) := c7.trans (by
    refine XS.istore X6.here hexec rfl (hb hbytes d12) rfl rfl ?_
    refine XS.iload X6.here hexec rfl (hb hbytes d14) rfl ?_
    refine XS.iloadN X6.here hexec rfl (hb hbytes d16) rfl ?_
    refine XS.icmpYes X6.here hexec rfl (pc0 := 17) rfl (hb hbytes d17) rfl (ii_eq_t rfl) (by decide) rfl ?_
    refine XS.aloadN X6.here hexec rfl (hb hbytes d57) rfl rfl ?_
    exact Steps.refl _)
  have X8 := X6.wide (L' := []) (cells' := 1) (slots' := len) (fun x hx hlt => by
    simp only [List.nil_append, copyLocs, List.mem_map, List.mem_range] at hx
    obtain ⟨i, -, rfl⟩ := hx
    exact absurd hlt (Nat.lt_irrefl _)) (Nat.le_refl _) (by omega)
  exact ⟨T6, some (.ref s.heap.size), _, _, _, X8, rfl, rfl, rfl, (fun h => by cases h), ⟨⟨rfl, B6, ba3.like (X3.warmed.alike.symm.trans X6.warmed.alike) p6.1 f6.1 f6.2.1 f6.2.2.1, f6.2.1.trans bv3, by rw [X6.warmed.alike.findClass, f6.1]; exact bf3, by rw [f6.2.2.1, bs3]; simp, fun j hj => by rw [f6.2.2.2 j, if_pos (by omega)]; rfl, kp3.put p6 (Nat.le_refl _)⟩, by rw [p6.2.2, bh3, hh0]; simp⟩, fun fs hl => c8.trans (X8.areturnOut hexec rfl hret rfl (hb hbytes d58) hl)⟩
end Cmp3
namespace CodL
def yN : MethodName := ⟨"java/lang/StringUTF16", "coderFromArrayLen", "([BI)B"⟩
abbrev yB : ByteArray := jdk_52_method_15_code
theorem d0 : decode yB 0 = .ok (.iload_n 1, 1) := by decide +kernel
theorem d1 : decode yB 1 = .ok (.aload_n 0, 1) := by decide +kernel
theorem d2 : decode yB 2 = .ok (.arraylength, 1) := by decide +kernel
theorem d3 : decode yB 3 = .ok (.isub, 1) := by decide +kernel
theorem d4 : decode yB 4 = .ok (.bipush 31, 2) := by decide +kernel
theorem d6 : decode yB 6 = .ok (.iushr, 1) := by decide +kernel
theorem d7 : decode yB 7 = .ok (.i2b, 1) := by decide +kernel
theorem d8 : decode yB 8 = .ok (.ireturn, 1) := by decide +kernel
def site : List Cond := []
def tab : Cond := tabOf yN yB 2 (some .byte) site
def P (d : Addr) (B : Cell) (args : Array Value) (s : State) : Prop := args = #[.ref d, .int (Int32.ofNat B.slots.size)] ∧ Arr .byte d B s
def E (r : Option Value) (s u : State) : Prop := XT.PureE (some (.int 0)) r s u
/-- an array as long as the number of chars: LATIN1 -/
theorem law (l : Launch) (d : Addr) (B : Cell) : Law l yN 2 2 0 0 yB 2 (some .byte) site (P d B) E [] 0 0 := by
  refine Law.of_walk (plainFor_of_name (by decide +kernel)) (by decide +kernel) (by decide +kernel) (by decide) (fun _ _ h => by rw [h.1]; rfl) (fun _ U U' hal hh h => ⟨h.1, h.2.mv hal hh⟩) (fun r U U' V V' h1 hal h2 h => XT.PureE.mv r U U' V V' h1 hal h2 h) ?_
  intro p e s m args below meth c s₁ X0 hexec hbytes hml hret hlk hnm hown hh0 W hP
  obtain ⟨rfl, hB⟩ := hP
  have hB0 := hB.mv X0.warmed.alike hh0
  have c1 : Steps p.tables e below (s₁.setTop (entryFrame m #[.ref d, .int (Int32.ofNat B.slots.size)] 2)) (s₁.setTop (mkF m 0 #[.val (.ref d), .val (.int (Int32.ofNat B.slots.size))] [])) := entry rfl
  have c2 : Steps p.tables e below (s₁.setTop (entryFrame m #[.ref d, .int (Int32.ofNat B.slots.size)] 2)) (s₁.setTop (mkF m 2 #[.val (.ref d), .val (.int (Int32.ofNat B.slots.size))] [.ref d, .int (Int32.ofNat B.slots.size)])) := c1.trans (by
    refine XS.iloadN X0.here hexec rfl (hb hbytes d0) rfl ?_
    refine XS.aloadN X0.here hexec rfl (hb hbytes d1) rfl rfl ?_
    exact Steps.refl _)
  have c3 : Steps p.tables e below (s₁.setTop (entryFrame m #[.ref d, .int (Int32.ofNat B.slots.size)] 2)) (s₁.setTop (mkF m 8 #[.val (.ref d), .val (.int (Int32.ofNat B.slots.size))] [.int (lo8 (ushr (Int32.ofNat B.slots.size - Int32.ofNat B.slots.size) 31))])) := c2.trans (by
    refine X0.alen hexec hB0 rfl rfl (hb hbytes d2) ?_
    refine XS.isub X0.here hexec rfl (hb hbytes d3) rfl ?_
    refine bipushV X0.here hexec rfl 31 (hb hbytes d4) (by decide) ?_
    refine iushr X0.here hexec rfl (hb hbytes d6) rfl ?_
    refine i2b X0.here hexec rfl (hb hbytes d7) rfl ?_
    exact Steps.refl _)
  have e0 : lo8 (ushr (Int32.ofNat B.slots.size - Int32.ofNat B.slots.size) 31) = 0 := by rw [Int32.sub_self]; decide
  rw [e0] at c3
  exact ⟨s₁, some (.int 0), _, _, _, X0, rfl, rfl, rfl, (fun h => by cases h), ⟨rfl, hh0⟩, fun fs hl => c3.trans (X0.ireturnOut hexec hret rfl (Or.inr (Or.inr (Or.inl rfl))) (hb hbytes d8) hl)⟩
end CodL
/-- the String at a is Latin-1 over a new byte[] (the heap's one new cell): the low bytes of the len chars of A from o on; every cell but a is kept -/
def Got (a : Addr) (D : Cell) (fV fC : Field) (A : Cell) (o len : Nat) (r : Option Value) (s u : State) : Prop := r = none ∧ ∃ D' V : Cell, Blank "java/lang/String" a D' u ∧ Same D D' [fV.slot, fC.slot] ∧ D'.slots[fV.slot]? = some (.ref s.heap.size) ∧ D'.slots[fC.slot]? = some (.int 0) ∧ Arr .byte s.heap.size V u ∧ V.vm = .none ∧ u.vm.findClass "[B" = some V.cls ∧ V.slots.size = len ∧ (∀ j, j < len → V.slots[j]? = some (.int (lo8 (cv A (o + j))))) ∧ (∀ (y : Addr) (c : Cell), y ≠ a → s.heap[y]? = some c → u.heap[y]? = some c) ∧ u.heap.size = s.heap.size + 1
theorem Got.mv {a : Addr} {D A : Cell} {fV fC : Field} {o len : Nat} : ∀ r (U U' V V' : State), U'.heap = U.heap → V.vm.Alike V'.vm → V'.heap = V.heap → Got a D fV fC A o len r U V → Got a D fV fC A o len r U' V' :=
  fun r U U' V V' h1 hal h2 ⟨e0, D', X, a1, a2, a3, a4, a5, a6, a7, a8, a9, a10, a11⟩ => ⟨e0, D', X, a1.mv hal h2, a2, by rw [h1]; exact a3, a4, by rw [h1]; exact a5.mv hal h2, a6, by rw [hal.findClass]; exact a7, a8, a9, by rw [h1, h2]; exact a10, by rw [h1, h2]; exact a11⟩
namespace New4
def yN : MethodName := ⟨"java/lang/String", "<init>", "([CIILjava/lang/Void;)V"⟩
abbrev yB : ByteArray := jdk_42_method_149_code
theorem d0 : decode yB 0 = .ok (.aload_n 0, 1) := by decide +kernel
theorem d1 : decode yB 1 = .ok (.invokespecial 1, 3) := by decide +kernel
theorem d4 : decode yB 4 = .ok (.iload_n 3, 1) := by decide +kernel
theorem d5 : decode yB 5 = .ok (.ifCond (.ne) 22, 3) := by decide +kernel
theorem d27 : decode yB 27 = .ok (.getstatic 38, 3) := by decide +kernel
theorem d30 : decode yB 30 = .ok (.ifCond (.eq) 28, 3) := by decide +kernel
theorem d33 : decode yB 33 = .ok (.aload_n 1, 1) := by decide +kernel
theorem d34 : decode yB 34 = .ok (.iload_n 2, 1) := by decide +kernel
theorem d35 : decode yB 35 = .ok (.iload_n 3, 1) := by decide +kernel
theorem d36 : decode yB 36 = .ok (.invokestatic 177, 3) := by decide +kernel
theorem d39 : decode yB 39 = .ok (.astore 5, 2) := by decide +kernel
theorem d41 : decode yB 41 = .ok (.aload_n 0, 1) := by decide +kernel
theorem d42 : decode yB 42 = .ok (.aload 5, 2) := by decide +kernel
theorem d44 : decode yB 44 = .ok (.iload_n 3, 1) := by decide +kernel
theorem d45 : decode yB 45 = .ok (.invokestatic 47, 3) := by decide +kernel
theorem d48 : decode yB 48 = .ok (.putfield 15, 3) := by decide +kernel
theorem d51 : decode yB 51 = .ok (.aload_n 0, 1) := by decide +kernel
theorem d52 : decode yB 52 = .ok (.aload 5, 2) := by decide +kernel
theorem d54 : decode yB 54 = .ok (.putfield 9, 3) := by decide +kernel
theorem d57 : decode yB 57 = .ok (.return_, 1) := by decide +kernel
def site : List Cond := [.fieldLink "java/lang/String" 38 "java/lang/String" "COMPACT_STRINGS" "Z", Cmp3.tab, CodL.tab, .laysFinal "java/lang/String" "java/lang/String" "value" "[B", .fieldLink "java/lang/String" 9 "java/lang/String" "value" "[B", .laysFinal "java/lang/String" "java/lang/String" "coder" "B", .fieldLink "java/lang/String" 15 "java/lang/String" "coder" "B"] ++ objW "java/lang/String" 1 ++ staticW "java/lang/String" 177 Cmp3.yN ++ staticW "java/lang/String" 47 CodL.yN
def tab : Cond := tabOf yN yB 6 none site
def P (a : Addr) (D : Cell) (fV fC : Field) (b : Addr) (A : Cell) (z : Int32) (o len : Nat) (args : Array Value) (s : State) : Prop := args = #[.ref a, .ref b, .int (Int32.ofNat o), .int (Int32.ofNat len), .null] ∧ Blank "java/lang/String" a D s ∧ Found "java/lang/String" "value" "[B" fV s ∧ Found "java/lang/String" "coder" "B" fC s ∧ Ch b A s ∧ StaticIs s "java/lang/String" "COMPACT_STRINGS" "Z" (.int z) ∧ ¬ z = 0 ∧ 0 < len ∧ o + len ≤ A.slots.size ∧ len ≤ 536870912 ∧ ∀ i, i < len → ¬ 255 < cv A (o + i)
def E (a : Addr) (D : Cell) (fV fC : Field) (A : Cell) (o len : Nat) (r : Option Value) (s u : State) : Prop := Got a D fV fC A o len r s u
/-- len > 0, no char of the range above 255: a Latin-1 String of their low bytes -/
theorem law (l : Launch) (a : Addr) (D : Cell) (fV fC : Field) (b : Addr) (A : Cell) (z : Int32) (o len : Nat) : Law l yN 5 4 2 35 yB 6 none site (P a D fV fC b A z o len) (E a D fV fC A o len) [⟨a, fC.slot⟩, ⟨a, fV.slot⟩] 1 len := by
  refine Law.of_walk (plainFor_of_name (by decide +kernel)) (by decide +kernel) (by decide +kernel) (by decide) (fun _ _ h => by rw [h.1]; rfl) (fun _ U U' hal hh h => ⟨h.1, h.2.1.mv hal hh, h.2.2.1.al hal, h.2.2.2.1.al hal, h.2.2.2.2.1.mv hal hh, h.2.2.2.2.2.1.there hal hh, h.2.2.2.2.2.2⟩) (fun r U U' V V' h1 hal h2 h => Got.mv r U U' V V' h1 hal h2 h) ?_
  intro p e s m args below meth c s₁ X0 hexec hbytes hml hret hlk hnm hown hh0 W hP
  obtain ⟨rfl, hB, f1, f2, hA, s1, hz, l0, l1, l2, hp⟩ := hP
  have a31 := hA.1.2.2.2
  have c1 : Steps p.tables e below (s₁.setTop (entryFrame m #[.ref a, .ref b, .int (Int32.ofNat o), .int (Int32.ofNat len), .null] 6)) (s₁.setTop (mkF m 0 #[.val (.ref a), .val (.ref b), .val (.int (Int32.ofNat o)), .val (.int (Int32.ofNat len)), .val .null, .unset] [])) := entry rfl
  have c2 : Steps p.tables e below (s₁.setTop (entryFrame m #[.ref a, .ref b, .int (Int32.ofNat o), .int (Int32.ofNat len), .null] 6)) (s₁.setTop (mkF m 1 #[.val (.ref a), .val (.ref b), .val (.int (Int32.ofNat o)), .val (.int (Int32.ofNat len)), .val .null, .unset] [.ref a])) := c1.trans (by
    refine XS.aloadN X0.here hexec rfl (hb hbytes d0) rfl rfl ?_
    exact Steps.refl _)
  obtain ⟨T3, X3, q3, st3⟩ := X0.oinit hexec hown (wks W (objW "java/lang/String" 1)) (g := (mkF m 1 #[.val (.ref a), .val (.ref b), .val (.int (Int32.ofNat o)), .val (.int (Int32.ofNat len)), .val .null, .unset] [.ref a])) rfl (by rw [hml]; rfl) (rest := []) rfl (hb hbytes d1) (W := 0) (by show 2 * 0 + 0 ≤ _; decide) (Nat.le_of_ble_eq_true rfl) (Nat.le_of_ble_eq_true rfl)
  have hh3 := q3.trans hh0
  have c4 : Steps p.tables e below (s₁.setTop (entryFrame m #[.ref a, .ref b, .int (Int32.ofNat o), .int (Int32.ofNat len), .null] 6)) (T3.setTop (mkF m 27 #[.val (.ref a), .val (.ref b), .val (.int (Int32.ofNat o)), .val (.int (Int32.ofNat len)), .val .null, .unset] [])) := (c2.trans (st3 _ (Steps.refl _))).trans (by
    refine XS.iloadN X3.here hexec rfl (hb hbytes d4) rfl ?_
    refine XS.ifYes X3.here hexec rfl (pc0 := 5) rfl (hb hbytes d5) rfl (i0_ne_t (nz32 (by omega) l0)) (by decide) rfl ?_
    exact Steps.refl _)
  obtain ⟨T5, X5, q5, st5⟩ := X3.sget hexec hown (wk W (.fieldLink "java/lang/String" 38 "java/lang/String" "COMPACT_STRINGS" "Z")) s1 (fun _ _ h => by rw [hh3]; exact h) (g := (mkF m 27 #[.val (.ref a), .val (.ref b), .val (.int (Int32.ofNat o)), .val (.int (Int32.ofNat len)), .val .null, .unset] [])) rfl (hb hbytes d27)
  have hh5 := q5.trans hh3
  have c6 : Steps p.tables e below (s₁.setTop (entryFrame m #[.ref a, .ref b, .int (Int32.ofNat o), .int (Int32.ofNat len), .null] 6)) (T5.setTop (mkF m 30 #[.val (.ref a), .val (.ref b), .val (.int (Int32.ofNat o)), .val (.int (Int32.ofNat len)), .val .null, .unset] [.int z])) := c4.trans (st5 _ (Steps.refl _))
  have c7 : Steps p.tables e below (s₁.setTop (entryFrame m #[.ref a, .ref b, .int (Int32.ofNat o), .int (Int32.ofNat len), .null] 6)) (T5.setTop (mkF m 36 #[.val (.ref a), .val (.ref b), .val (.int (Int32.ofNat o)), .val (.int (Int32.ofNat len)), .val .null, .unset] [.int (Int32.ofNat len), .int (Int32.ofNat o), .ref b])) := c6.trans (by
    refine XS.ifNo X5.here hexec rfl (hb hbytes d30) rfl (i0_eq_f hz) ?_
    refine XS.aloadN X5.here hexec rfl (hb hbytes d33) rfl rfl ?_
    refine XS.iloadN X5.here hexec rfl (hb hbytes d34) rfl ?_
    refine XS.iloadN X5.here hexec rfl (hb hbytes d35) rfl ?_
    exact Steps.refl _)
  obtain ⟨v8, T8, X8, E8, g8⟩ := X5.callS hexec (Cmp3.law l b A o len) hown (wks W (staticW "java/lang/String" 177 Cmp3.yN)) (wk W Cmp3.tab) (W := 0) (Nat.le_of_ble_eq_true rfl) (Nat.le_of_ble_eq_true rfl) (Nat.le_refl _) (by show 0 + len ≤ len; omega) (g := (mkF m 36 #[.val (.ref a), .val (.ref b), .val (.int (Int32.ofNat o)), .val (.int (Int32.ofNat len)), .val .null, .unset] [.int (Int32.ofNat len), .int (Int32.ofNat o), .ref b])) rfl (by rw [hml]; rfl) c7 (argsL := [.ref b, .int (Int32.ofNat o), .int (Int32.ofNat len)]) (rest := []) rfl rfl (by show 2 * 0 + 0 ≤ _; decide) (hb hbytes d36) (⟨rfl, hA.mv X5.warmed.alike hh5, l1, l2, hp⟩)
  obtain ⟨e8, z8⟩ := E8
  obtain ⟨rfl, N, n1, n2, n3, n4, n5, n6⟩ := NewArr.mv _ T5 s _ _ hh5.symm (Vm.Alike.refl _) rfl e8
  rw [hh5] at z8
  have hB1 := hB.keep X8.warmed.alike (n6 _ _ hB.1)
  have hne : s.heap.size ≠ a := (Nat.ne_of_lt (Array.getElem?_eq_some_iff.mp hB.1).1).symm
  have c9 : Steps p.tables e below (s₁.setTop (entryFrame m #[.ref a, .ref b, .int (Int32.ofNat o), .int (Int32.ofNat len), .null] 6)) (T8.setTop (mkF m 39 #[.val (.ref a), .val (.ref b), .val (.int (Int32.ofNat o)), .val (.int (Int32.ofNat len)), .val .null, .unset] [.ref s.heap.size])) := g8
  have c10 : Steps p.tables e below (s₁.setTop (entryFrame m #[.ref a, .ref b, .int (Int32.ofNat o), .int (Int32.ofNat len), .null] 6)) (T8.setTop (mkF m 45 #[.val (.ref a), .val (.ref b), .val (.int (Int32.ofNat o)), .val (.int (Int32.ofNat len)), .val .null, .val (.ref s.heap.size)] [.int (Int32.ofNat N.slots.size), .ref s.heap.size, .ref a])) := by
    have hc : Steps p.tables e below (s₁.setTop (entryFrame m #[.ref a, .ref b, .int (Int32.ofNat o), .int (Int32.ofNat len), .null] 6)) (T8.setTop (mkF m 45 #[.val (.ref a), .val (.ref b), .val (.int (Int32.ofNat o)), .val (.int (Int32.ofNat len)), .val .null, .val (.ref s.heap.size)] [.int (Int32.ofNat len), .ref s.heap.size, .ref a])) := c9.trans (by
      refine XS.astore X8.here hexec rfl (hb hbytes d39) rfl rfl rfl ?_
      refine XS.aloadN X8.here hexec rfl (hb hbytes d41) rfl rfl ?_
      refine XS.aload X8.here hexec rfl (hb hbytes d42) rfl rfl ?_
      refine XS.iloadN X8.here hexec rfl (hb hbytes d44) rfl ?_
      exact Steps.refl _)
    rw [n4]; exact hc
  obtain ⟨v11, T11, X11, E11, g11⟩ := X8.callS hexec (CodL.law l s.heap.size N) hown (wks W (staticW "java/lang/String" 47 CodL.yN)) (wk W CodL.tab) (W := 1) (Nat.le_of_ble_eq_true rfl) (Nat.le_of_ble_eq_true rfl) (Nat.le_refl _) (by show 0 + len + 0 ≤ len; omega) (g := (mkF m 45 #[.val (.ref a), .val (.ref b), .val (.int (Int32.ofNat o)), .val (.int (Int32.ofNat len)), .val .null, .val (.ref s.heap.size)] [.int (Int32.ofNat N.slots.size), .ref s.heap.size, .ref a])) rfl (by rw [hml]; rfl) c10 (argsL := [.ref s.heap.size, .int (Int32.ofNat N.slots.size)]) (rest := [.ref a]) rfl rfl (by show 2 * 0 + (1 + 0) ≤ _; decide) (hb hbytes d45) (⟨rfl, n1⟩)
  obtain ⟨rfl, q11⟩ := E11
  have hB11 := hB1.mv (X8.warmed.alike.symm.trans X11.warmed.alike) q11
  have c12 : Steps p.tables e below (s₁.setTop (entryFrame m #[.ref a, .ref b, .int (Int32.ofNat o), .int (Int32.ofNat len), .null] 6)) (T11.setTop (mkF m 48 #[.val (.ref a), .val (.ref b), .val (.int (Int32.ofNat o)), .val (.int (Int32.ofNat len)), .val .null, .val (.ref s.heap.size)] [.int 0, .ref a])) := g11
  obtain ⟨T13, X13, p13, bl13, sl13, st13⟩ := X11.finit hexec hown (wk W (.fieldLink "java/lang/String" 15 "java/lang/String" "coder" "B")) (Or.inr ⟨_, (wk W (.laysFinal "java/lang/String" "java/lang/String" "coder" "B"))⟩) (Or.inl ⟨rfl, hnm⟩) f2 (Or.inl rfl) hB11 (t := .byte) (by decide +kernel) rfl (g := (mkF m 48 #[.val (.ref a), .val (.ref b), .val (.int (Int32.ofNat o)), .val (.int (Int32.ofNat len)), .val .null, .val (.ref s.heap.size)] [.int 0, .ref a])) rfl (rest := []) rfl (hb hbytes d48)
  have c14 : Steps p.tables e below (s₁.setTop (entryFrame m #[.ref a, .ref b, .int (Int32.ofNat o), .int (Int32.ofNat len), .null] 6)) (T13.setTop (mkF m 54 #[.val (.ref a), .val (.ref b), .val (.int (Int32.ofNat o)), .val (.int (Int32.ofNat len)), .val .null, .val (.ref s.heap.size)] [.ref s.heap.size, .ref a])) := (c12.trans (st13 _ (Steps.refl _))).trans (by
    refine XS.aloadN X13.here hexec rfl (hb hbytes d51) rfl rfl ?_
    refine XS.aload X13.here hexec rfl (hb hbytes d52) rfl rfl ?_
    exact Steps.refl _)
  obtain ⟨T15, X15, p15, bl15, sl15, st15⟩ := X13.finit hexec hown (wk W (.fieldLink "java/lang/String" 9 "java/lang/String" "value" "[B")) (Or.inr ⟨_, (wk W (.laysFinal "java/lang/String" "java/lang/String" "value" "[B"))⟩) (Or.inl ⟨rfl, hnm⟩) f1 (Or.inl rfl) bl13 (t := (.array .byte)) (by decide +kernel) rfl (g := (mkF m 54 #[.val (.ref a), .val (.ref b), .val (.int (Int32.ofNat o)), .val (.int (Int32.ofNat len)), .val .null, .val (.ref s.heap.size)] [.ref s.heap.size, .ref a])) rfl (rest := []) rfl (hb hbytes d54)
  have c16 : Steps p.tables e below (s₁.setTop (entryFrame m #[.ref a, .ref b, .int (Int32.ofNat o), .int (Int32.ofNat len), .null] 6)) (T15.setTop (mkF m 57 #[.val (.ref a), .val (.ref b), .val (.int (Int32.ofNat o)), .val (.int (Int32.ofNat len)), .val .null, .val (.ref s.heap.size)] [])) := c14.trans (st15 _ (Steps.refl _))
  have ap := apart (Or.inr ⟨_, (wk W (.laysFinal "java/lang/String" "java/lang/String" "value" "[B"))⟩) (Or.inr ⟨_, (wk W (.laysFinal "java/lang/String" "java/lang/String" "coder" "B"))⟩) f1 f2 (t₁ := .array .byte) (t₂ := .byte) (by decide +kernel) (by decide +kernel) (by decide)
  have al := X8.warmed.alike.symm.trans X15.warmed.alike
  have n7 : T11.heap[s.heap.size]? = some N := by rw [q11]; exact n1.1
  exact ⟨T15, none, _, _, _, X15, by simp, rfl, by omega, (fun _ => rfl), ⟨rfl, _, N, bl15, ((Same.refl D _).set _ (by simp)).set _ (by simp), sl15, (Cell.slots_setSlot_ne _ ap).trans sl13, n1.keep al (p15.other hne (p13.other hne n7)), n2, by rw [al.findClass]; exact n3, n4, n5, fun y c h1 h2 => p15.other h1 (p13.other h1 (by rw [q11]; exact n6 y c h2)), by rw [p15.2.2, p13.2.2, q11]; exact z8⟩, fun fs hl => c16.trans (X15.returnOut hexec hret (hb hbytes d57) hl)⟩
end New4
namespace New1
def yN : MethodName := ⟨"java/lang/String", "<init>", "([C)V"⟩
abbrev yB : ByteArray := jdk_42_method_3_code
theorem d0 : decode yB 0 = .ok (.aload_n 0, 1) := by decide +kernel
theorem d1 : decode yB 1 = .ok (.aload_n 1, 1) := by decide +kernel
theorem d2 : decode yB 2 = .ok (.iconst 0, 1) := by decide +kernel
theorem d3 : decode yB 3 = .ok (.aload_n 1, 1) := by decide +kernel
theorem d4 : decode yB 4 = .ok (.arraylength, 1) := by decide +kernel
theorem d5 : decode yB 5 = .ok (.aconst_null, 1) := by decide +kernel
theorem d6 : decode yB 6 = .ok (.invokespecial 27, 3) := by decide +kernel
theorem d9 : decode yB 9 = .ok (.return_, 1) := by decide +kernel
def site : List Cond := [New4.tab] ++ initW "java/lang/String" 27 New4.yN
def tab : Cond := tabOf yN yB 2 none site
def P (a : Addr) (D : Cell) (fV fC : Field) (b : Addr) (A : Cell) (z : Int32) (args : Array Value) (s : State) : Prop := args = #[.ref a, .ref b] ∧ Blank "java/lang/String" a D s ∧ Found "java/lang/String" "value" "[B" fV s ∧ Found "java/lang/String" "coder" "B" fC s ∧ Ch b A s ∧ StaticIs s "java/lang/String" "COMPACT_STRINGS" "Z" (.int z) ∧ ¬ z = 0 ∧ 0 < A.slots.size ∧ A.slots.size ≤ 536870912 ∧ ∀ i, i < A.slots.size → ¬ 255 < cv A i
def E (a : Addr) (D : Cell) (fV fC : Field) (A : Cell) (r : Option Value) (s u : State) : Prop := Got a D fV fC A 0 A.slots.size r s u
/-- new String(chars), not empty, no char above 255: a Latin-1 String of their low bytes -/
theorem law (l : Launch) (a : Addr) (D : Cell) (fV fC : Field) (b : Addr) (A : Cell) (z : Int32) : Law l yN 2 1 3 52 yB 2 none site (P a D fV fC b A z) (E a D fV fC A) [⟨a, fC.slot⟩, ⟨a, fV.slot⟩] 1 A.slots.size := by
  refine Law.of_walk (plainFor_of_name (by decide +kernel)) (by decide +kernel) (by decide +kernel) (by decide) (fun _ _ h => by rw [h.1]; rfl) (fun _ U U' hal hh h => ⟨h.1, h.2.1.mv hal hh, h.2.2.1.al hal, h.2.2.2.1.al hal, h.2.2.2.2.1.mv hal hh, h.2.2.2.2.2.1.there hal hh, h.2.2.2.2.2.2⟩) (fun r U U' V V' h1 hal h2 h => Got.mv r U U' V V' h1 hal h2 h) ?_
  intro p e s m args below meth c s₁ X0 hexec hbytes hml hret hlk hnm hown hh0 W hP
  obtain ⟨rfl, hB, f1, f2, hA, s1, hz, l0, l2, hp⟩ := hP
  have c1 : Steps p.tables e below (s₁.setTop (entryFrame m #[.ref a, .ref b] 2)) (s₁.setTop (mkF m 0 #[.val (.ref a), .val (.ref b)] [])) := entry rfl
  have c2 : Steps p.tables e below (s₁.setTop (entryFrame m #[.ref a, .ref b] 2)) (s₁.setTop (mkF m 6 #[.val (.ref a), .val (.ref b)] [.null, .int (Int32.ofNat A.slots.size), .int 0, .ref b, .ref a])) := c1.trans (by
    refine XS.aloadN X0.here hexec rfl (hb hbytes d0) rfl rfl ?_
    refine XS.aloadN X0.here hexec rfl (hb hbytes d1) rfl rfl ?_
    refine iconstV X0.here hexec rfl 0 (hb hbytes d2) (by decide) ?_
    refine XS.aloadN X0.here hexec rfl (hb hbytes d3) rfl rfl ?_
    refine X0.alen hexec (hA.1.mv X0.warmed.alike hh0) rfl rfl (hb hbytes d4) ?_
    refine XS.aconstNull X0.here hexec rfl (hb hbytes d5) ?_
    exact Steps.refl _)
  obtain ⟨v3, T3, X3, E3, g3⟩ := X0.callN hexec (New4.law l a D fV fC b A z 0 A.slots.size) rfl hown (wks W (initW "java/lang/String" 27 New4.yN)) (W New4.tab (by simp only [site, List.mem_cons, List.mem_append, true_or, or_true])) (W := 0) (Nat.le_of_ble_eq_true rfl) (Nat.le_of_ble_eq_true rfl) (Nat.le_refl _) (by show 0 + A.slots.size ≤ A.slots.size; omega) (g := (mkF m 6 #[.val (.ref a), .val (.ref b)] [.null, .int (Int32.ofNat A.slots.size), .int (Int32.ofNat 0), .ref b, .ref a])) rfl (by rw [hml]; rfl) c2 (argsL := [.ref b, .int (Int32.ofNat 0), .int (Int32.ofNat A.slots.size), .null]) (rest := []) rfl rfl (by show 2 * 0 + 0 ≤ _; decide) (hb hbytes d6) (⟨rfl, hB.mv X0.warmed.alike hh0, f1.al X0.warmed.alike, f2.al X0.warmed.alike, hA.mv X0.warmed.alike hh0, s1.there X0.warmed.alike hh0, hz, l0, by omega, l2, fun i hi => by rw [Nat.zero_add]; exact hp i hi⟩)
  have e0 := Got.mv _ s₁ s _ _ hh0.symm (Vm.Alike.refl _) rfl E3
  obtain rfl := e0.1
  have c4 : Steps p.tables e below (s₁.setTop (entryFrame m #[.ref a, .ref b] 2)) (T3.setTop (mkF m 9 #[.val (.ref a), .val (.ref b)] [])) := g3
  exact ⟨T3, none, _, _, _, X3, by simp, rfl, by omega, (fun _ => rfl), e0, fun fs hl => c4.trans (X3.returnOut hexec hret (hb hbytes d9) hl)⟩
theorem pays {l : Launch} {R : Room} {p : Program} {e : Env} {below : List Frame} {s : State} {sargs : Array Value} {len W : Nat} (a : Addr) (D : Cell) (fV fC : Field) (b : Addr) (A : Cell) (z : Int32) (htab : tab.before sargs s = true) (hfr : 4 ≤ R.frames) (hlo : W + 65 ≤ R.locals) :
    Back l R p e below s sargs yN len W (fun A₁ a₁ => A₁.cells + 1 ≤ R.cells ∧ A₁.slots + A.slots.size ≤ R.slots ∧ P a D fV fC b A z a₁ A₁.U) (fun A₁ _ v₁ B₁ => E a D fV fC A v₁ A₁.U B₁.U ∧ B₁.locs = A₁.locs ++ [⟨a, fC.slot⟩, ⟨a, fV.slot⟩] ∧ B₁.cells = A₁.cells + 1 ∧ B₁.slots = A₁.slots + A.slots.size) :=
  (law l a D fV fC b A z).pays htab hfr (by omega)
end New1
/-- the byte, read back as charAt reads it, is the char -/
theorem lo8_mask {x : Int32} (h0 : ¬ x < 0) (h1 : ¬ 255 < x) : lo8 x &&& 255 = x := by
  have t : ∀ k : Fin 256, lo8 (Int32.ofNat k.val) &&& 255 = Int32.ofNat k.val := by decide +kernel
  rw [Int32.lt_iff_toInt_lt] at h0 h1
  have e0 : (0 : Int32).toInt = 0 := rfl
  have e1 : (255 : Int32).toInt = 255 := rfl
  obtain ⟨k, hk⟩ : ∃ k : Nat, x.toInt = k := ⟨x.toInt.toNat, by omega⟩
  have hx : x = Int32.ofNat k := Int32.toInt_inj.mp (by rw [hk, Int32.toInt_ofNat_small (by omega)])
  rw [hx]
  exact t ⟨k, by omega⟩
end StrChars
namespace StrChars.Road
open Jvm Sem ClassFile Op Lib Jvm.Stand Jvm.Free Jvm.Free.XT
open Jvm.Lib.Cold (StaticIs)
abbrev ST : String := "java/lang/String"
/-- every table word that New1's law asks, flat -/
abbrev words : List Jvm.Cond := [.code New1.yN New1.yB 2 none, .initialized ST, .methodLink ST 27 New4.yN, .instanceMethod New4.yN,
  .code New4.yN New4.yB 6 none, .fieldLink ST 38 ST "COMPACT_STRINGS" "Z", .laysFinal ST ST "value" "[B", .fieldLink ST 9 ST "value" "[B", .laysFinal ST ST "coder" "B", .fieldLink ST 15 ST "coder" "B",
  .methodLink ST 1 Lib.objectInit, .instanceMethod Lib.objectInit, .code Lib.objectInit ⟨#[0xb1]⟩ 1 none, .methodLink ST 177 Cmp3.yN, .static Cmp3.yN, .methodLink ST 47 CodL.yN, .static CodL.yN,
  .code Cmp3.yN Cmp3.yB 6 (some (.array .byte)), .initialized U16, .arrayClass .byte, .methodLink U16 115 Cmp5.yN, .static Cmp5.yN, .code Cmp5.yN Cmp5.yB 7 (some .int), .code CodL.yN CodL.yB 2 (some .byte)]
theorem tab_of {a : Array Value} {s : State} (h : ∀ w ∈ words, w.before a s = true) : New1.tab.before a s = true := by
  have h5 : Cmp5.tab.before a s = true := unparts (wk h (.code Cmp5.yN Cmp5.yB 7 (some .int))) (wks h (.initialized Cmp5.yN.cls :: Cmp5.site))
  have hc : CodL.tab.before a s = true := unparts (wk h (.code CodL.yN CodL.yB 2 (some .byte))) (wks h (.initialized CodL.yN.cls :: CodL.site))
  have q5 : ∀ w ∈ Cmp5.tab :: words, w.before a s = true := fun w hw => (List.mem_cons.mp hw).elim (fun e => e ▸ h5) (h w)
  have h3 : Cmp3.tab.before a s = true := unparts (wk q5 (.code Cmp3.yN Cmp3.yB 6 (some (.array .byte)))) (wks q5 (.initialized Cmp3.yN.cls :: Cmp3.site))
  have q3 : ∀ w ∈ Cmp3.tab :: CodL.tab :: words, w.before a s = true := fun w hw => (List.mem_cons.mp hw).elim (fun e => e ▸ h3) fun hw => (List.mem_cons.mp hw).elim (fun e => e ▸ hc) (h w)
  have h4 : New4.tab.before a s = true := unparts (wk q3 (.code New4.yN New4.yB 6 none)) (wks q3 (.initialized New4.yN.cls :: New4.site))
  have q4 : ∀ w ∈ New4.tab :: words, w.before a s = true := fun w hw => (List.mem_cons.mp hw).elim (fun e => e ▸ h4) (h w)
  exact unparts (wk q4 (.code New1.yN New1.yB 2 none)) (wks q4 (.initialized New1.yN.cls :: New1.site))
/-- the words ride from the start Z to the walk's own state -/
theorem moved {Z s : State} {a0 args : Array Value} (hZ : Z.Warmed39 s.vm) (hw : ∀ d ∈ words, d.before a0 Z = true) : ∀ d ∈ words, d.before args s = true := fun d hd => by
  have q := hw d hd
  have t : ∀ d ∈ words, d = .arrayClass .byte ∨ (d.onTables && d.keepsFace) = true := by decide +kernel
  rcases t d hd with rfl | t
  · exact RoadKit.mvA hZ q
  · exact RoadKit.mv hZ q t
/-- WHAT COMES BACK, over the tables of the start Z: h the heap at the call, h' behind it -/
def Q (Z : State) (x : Addr) (A : Cell) (h : Heap) (v : Option Value) (h' : Heap) (L : List Loc) : Prop := v = none ∧ (∀ y ∈ L, y.base = x) ∧ RoadKit.Keep h h' [x] ∧ h'.size = h.size + 1 ∧ RoadKit.Exa Z h' x ST ∧ RoadKit.Fld Z h' x ST "value" "[B" (.ref h.size) ∧ RoadKit.Fld Z h' x ST "coder" "B" (.int 0) ∧
  (∃ V : Cell, RoadKit.Arr Z h' h.size V .byte ∧ V.vm = .none ∧ Z.vm.findClass "[B" = some V.cls ∧ V.slots.size = A.slots.size ∧ ∀ j, j < A.slots.size → V.slots[j]? = some (.int (lo8 (cv A j)))) ∧
  ∀ (O n d : String) (w : Value), RoadKit.Fld Z h x O n d w → RoadKit.slotOf Z O n d ≠ RoadKit.slotOf Z ST "value" "[B" → RoadKit.slotOf Z O n d ≠ RoadKit.slotOf Z ST "coder" "B" → RoadKit.Fld Z h' x O n d w
/-- **new String(chars) AT A CALL, IN THE ROAD'S FORM**: for specialBack behind newO: x the fresh String, b the char[] with the cell A -/
theorem back {p : Program} {l : Launch} {e : Env} {R : Room} {s : State} {args : Array Value} {below : List Frame} {len W : Nat} {Z : State} {a0 : Array Value} {h : Heap} (hZ : Z.Warmed39 s.vm) (hw : ∀ d ∈ words, d.before a0 Z = true) {kI : Nat} (wi : (Jvm.Cond.instantiable ST kI).before a0 Z = true)
    {x b : Addr} {A : Cell} {z : Int32} {v0 c0 : Value} (E : RoadKit.Exa Z h x ST) (V : RoadKit.Fld Z h x ST "value" "[B" v0) (C : RoadKit.Fld Z h x ST "coder" "B" c0) (K : RoadKit.Arr Z h b A .char) (hty : Typed .char A) (S : RoadKit.Sta Z h ST "COMPACT_STRINGS" "Z" (.int z)) (hz : ¬ z = 0)
    (l0 : 0 < A.slots.size) (l2 : A.slots.size ≤ 536870912) (hp : ∀ i, i < A.slots.size → ¬ 255 < cv A i) (hfr : 4 ≤ R.frames) (hlo : W + 65 ≤ R.locals) :
    Back l R p e below s args New1.yN len W (fun P a => a = #[.ref x, .ref b] ∧ P.U.heap = h ∧ P.cells + 1 ≤ R.cells ∧ P.slots + A.slots.size ≤ R.slots)
      (fun P _ v B => ∃ L, Q Z x A h v B.U.heap L ∧ B.locs = P.locs ++ L ∧ B.cells = P.cells + 1 ∧ B.slots = P.slots + A.slots.size) := by
  intro m meth c P g ig mk a X hg hsize hdg hW hn hp'
  obtain ⟨rfl, rfl, r1, r2⟩ := hp'
  have al : Z.vm.Alike P.U.vm := hZ.alike.trans X.warmed.alike
  obtain ⟨D, cfV, kV, iV, fV, hD, gV, stV, knV, obV, asV, slV⟩ := id V
  obtain ⟨D', cfC, kC, iC, fC, hD', gC, stC, -, -, asC, slC⟩ := id C
  cases hD.symm.trans hD'
  obtain ⟨D2, kD, e1, e2, e3, e4, e5⟩ := id E
  cases hD.symm.trans e1
  obtain ⟨c2, k2, i1, i2, i3, -⟩ := Cond.instantiable_spec wi
  cases e2.symm.trans i1
  cases e3.symm.trans i2
  obtain ⟨kU, u1, u2⟩ := al.2.2 _ _ e3
  have hB : Blank ST x D P.U := ⟨hD, ⟨knV, fun q hq => by rw [hq] at obV; cases obV⟩, by rw [al.findClass]; exact e2, kU, u1, by rw [u2]; exact i3, by rw [u2]; exact e5 i3⟩
  have F1 : Found ST "value" "[B" fV P.U := ⟨SBG.found_only al ⟨cfV, kV, iV, gV⟩, stV⟩
  have F2 : Found ST "coder" "B" fC P.U := ⟨SBG.found_only al ⟨cfC, kC, iC, gC⟩, stC⟩
  have hA : Ch b A P.U := ⟨⟨K.1, State.isArrayOf_alike al K.2.1, K.2.2, by omega⟩, hty⟩
  have hS : StaticIs P.U ST "COMPACT_STRINGS" "Z" (.int z) := by
    obtain ⟨cfS, iS, kS, fS, st, cS, t1, t2, t3, t4, t5, t6, t7⟩ := S
    exact StaticIs.there (s := { Z with heap := P.U.heap }) ⟨cfS, iS, kS, fS, st, cS, t1, t2, t3, t4, t5, (fun q => by rw [q] at t6; cases t6), t7⟩ al rfl
  obtain ⟨v, B, X', ⟨⟨hv, E', V', q1, q2, q3, q4, q5, q6, q7, q8, q9, q10, q11⟩, hl, hc, hs⟩, st⟩ := New1.pays x D fV fC b A z (tab_of (moved hZ hw)) hfr hlo m meth c P g ig mk _ X hg hsize hdg hW hn ⟨r1, r2, rfl, hB, F1, F2, hA, hS, hz, l0, l2, hp⟩
  have al' : Z.vm.Alike B.U.vm := hZ.alike.trans X'.warmed.alike
  have hsz : E'.slots.size = D.slots.size := by
    obtain ⟨-, -, -, kB, w1, w2, w3⟩ := q1
    obtain ⟨kB', y1, y2⟩ := al'.2.2 _ _ e3
    rw [q2.2.1] at w1
    cases w1.symm.trans y1
    rw [w3, e5 i3, y2]
  refine ⟨v, B, X', ⟨_, ⟨hv, ?_, ⟨by omega, fun y cy hy hn' => q10 y cy (by simpa using hn') hy, fun y cy hy => ?_⟩, q11, ⟨E', _, q1.1, by rw [q2.2.1]; exact e2, by rw [q2.2.1]; exact e3, by rw [q2.1]; exact obV, fun _ => by rw [hsz]; exact e5 i3⟩,
    ⟨E', cfV, kV, iV, fV, q1.1, gV, stV, by rw [q2.1]; exact knV, by rw [q2.1]; exact obV, by rw [q2.2.1]; exact asV, q3⟩, ⟨E', cfC, kC, iC, fC, q1.1, gC, stC, by rw [q2.1]; exact knV, by rw [q2.1]; exact obV, by rw [q2.2.1]; exact asC, q4⟩,
    ⟨V', ⟨q5.1, State.isArrayOf_alike al'.symm q5.2.1, q5.2.2.1⟩, q6, by rw [← al'.findClass]; exact q7, q8, fun j hj => by have := q9 j hj; rwa [Nat.zero_add] at this⟩, fun O n d w F n1 n2 => ?_⟩, hl, hc, hs⟩, st⟩
  · intro y hy
    simp only [List.mem_cons, List.not_mem_nil, or_false] at hy
    rcases hy with rfl | rfl <;> rfl
  · by_cases q : y = x
    · subst q
      cases hD.symm.trans hy
      exact ⟨E', q1.1, q2.2.1, q2.1, hsz⟩
    · exact ⟨cy, q10 y cy q hy, rfl, rfl, rfl⟩
  · obtain ⟨D3, cf, k, i, f, g1, g2, g3, g4, g5, g6, g7⟩ := F
    cases hD.symm.trans g1
    simp only [RoadKit.slotOf, g2, gV, gC, Option.map_some, Option.getD_some] at n1 n2
    exact ⟨E', cf, k, i, f, q1.1, g2, g3, by rw [q2.1]; exact g4, by rw [q2.1]; exact g5, by rw [q2.2.1]; exact g6, by rw [q2.2.2 f.slot (by simp [n1, n2])]; exact g7⟩
end StrChars.Road
namespace StrChars.Road
open Jvm Sem ClassFile Op Lib Jvm.Stand Jvm.Free Jvm.Free.XT
/-- WHAT COMES BACK, the byte[] as a list of values -/
def QA (Z : State) (x : Addr) (zn : Int32) (cs : List Int32) (h : Heap) (v : Option Value) (h' : Heap) (L : List Loc) : Prop := v = none ∧ (∀ y ∈ L, y.base = x) ∧ RoadKit.Keep h h' [x] ∧ h'.size = h.size + 1 ∧ RoadKit.Exa Z h' x ST ∧ RoadKit.Fld Z h' x ST "value" "[B" (.ref h.size) ∧ RoadKit.Fld Z h' x ST "coder" "B" (.int 0) ∧
  (∃ kb, Z.vm.findClass "[B" = some kb ∧ RoadKit.Arv Z h' h.size kb .byte zn (cs.map fun c => .int (lo8 c)) (.int 0)) ∧
  ∀ (O n d : String) (w : Value), RoadKit.Fld Z h x O n d w → RoadKit.slotOf Z O n d ≠ RoadKit.slotOf Z ST "value" "[B" → RoadKit.slotOf Z O n d ≠ RoadKit.slotOf Z ST "coder" "B" → RoadKit.Fld Z h' x O n d w
/-- **new String(chars) AT A CALL, THE ARRAYS AS LISTS**: the char[] at b holds cs, not empty, no char above 255 -/
theorem backArv {p : Program} {l : Launch} {e : Env} {R : Room} {s : State} {args : Array Value} {below : List Frame} {len W : Nat} {Z : State} {a0 : Array Value} {h : Heap} (hZ : Z.Warmed39 s.vm) (hw : ∀ d ∈ words, d.before a0 Z = true) {kI : Nat} (wi : (Jvm.Cond.instantiable ST kI).before a0 Z = true)
    {x b : Addr} {k : ClassId} {zn z : Int32} {cs : List Int32} {dv v0 c0 : Value} (E : RoadKit.Exa Z h x ST) (V : RoadKit.Fld Z h x ST "value" "[B" v0) (C : RoadKit.Fld Z h x ST "coder" "B" c0) (K : RoadKit.Arv Z h b k .char zn (cs.map Value.int) dv) (S : RoadKit.Sta Z h ST "COMPACT_STRINGS" "Z" (.int z)) (hz : ¬ z = 0)
    (hlen : zn.toNatClampNeg = cs.length) (h0 : 0 < cs.length) (hbig : cs.length ≤ 536870912) (hall : ∀ c ∈ cs, ¬ 255 < c) (hfr : 4 ≤ R.frames) (hlo : W + 65 ≤ R.locals) :
    Back l R p e below s args New1.yN len W (fun P a => a = #[.ref x, .ref b] ∧ P.U.heap = h ∧ P.cells + 1 ≤ R.cells ∧ P.slots + cs.length ≤ R.slots)
      (fun P _ v B => ∃ L, QA Z x zn cs h v B.U.heap L ∧ B.locs = P.locs ++ L ∧ B.cells = P.cells + 1 ∧ B.slots = P.slots + cs.length) := by
  obtain ⟨A, K1, K2, K3, K4, K5, K6⟩ := K
  have e : A.slots.size = cs.length := K3.trans hlen
  have hat : ∀ (i : Nat) (hi : i < cs.length), A.slots[i]? = some (.int cs[i]) := fun i hi => by rw [K5 i (by omega)]; simp [List.getD_eq_getElem?_getD, hi]
  have hcv : ∀ (i : Nat) (hi : i < cs.length), cv A i = cs[i] := fun i hi => by unfold cv; rw [hat i hi]
  have hty : Typed .char A := fun i v hv => by
    have hi : i < A.slots.size := (Array.getElem?_eq_some_iff.mp hv).1
    have q := K5 i hi
    rw [hv] at q
    rw [Option.some.inj q]
    exact K6 i hi
  refine Back.mono (back hZ hw wi E V C K1 hty S hz (by omega) (by omega) (fun i hi => by rw [hcv i (by omega)]; exact hall _ (List.getElem_mem _)) hfr hlo) (fun P a hp => ⟨hp.1, hp.2.1, hp.2.2.1, by rw [e]; exact hp.2.2.2⟩) (fun P a v B hp hq => ?_)
  obtain ⟨L, ⟨q1, q2, q3, q4, q5, q6, q7, ⟨V', v1, v2, v3, v4, v5⟩, q9⟩, hl, hc, hs⟩ := hq
  refine ⟨L, ⟨q1, q2, q3, q4, q5, q6, q7, ⟨V'.cls, v3, V', v1, rfl, by rw [v4, e, hlen], K4, fun i hi => ?_, fun i hi => ?_⟩, q9⟩, hl, hc, by rw [hs, e]⟩
  · have hi' : i < cs.length := by omega
    rw [v5 i (by omega), hcv i hi']; simp [List.getD_eq_getElem?_getD, hi']
  · have hi' : i < cs.length := by omega
    simp only [List.getD_eq_getElem?_getD, List.getElem?_map, List.getElem?_eq_getElem hi', Option.map_some, Option.getD_some]
    exact fits_lo8 _
end StrChars.Road
namespace StrChars.Road
open Jvm Sem ClassFile Op Lib Jvm.Stand Jvm.Free Jvm.Free.XT
/-- WHAT COMES BACK, in the writer's own shape -/
def QV (Z : State) (x : Addr) (N : Int32) (bs : List Int32) (h : Heap) (n0 : Nat) (v : Option Value) (h' : Heap) (L : List Loc) : Prop := v = none ∧ RoadKit.Fr n0 L ∧ RoadKit.Keep h h' [x] ∧ RoadKit.Exa Z h' x ST ∧ RoadKit.Fld Z h' x ST "coder" "B" (.int 0) ∧
  ∃ (t : Addr) (kb : ClassId), n0 ≤ t ∧ h.size ≤ t ∧ ¬ t = x ∧ RoadKit.Fld Z h' x ST "value" "[B" (.ref t) ∧ RoadKit.Arv Z h' t kb .byte N (bs.map Value.int) (.int 0)
/-- **new String(chars) AT A CALL, FOR THE WRITER**: a char[] of n known ints, each 0 to 255 -/
theorem backV {p : Program} {l : Launch} {e : Env} {R : Room} {s : State} {args : Array Value} {below : List Frame} {len W : Nat} {Z : State} {a0 : Array Value} {h : Heap} (hZ : Z.Warmed39 s.vm) (hw : ∀ d ∈ words, d.before a0 Z = true) {kI : Nat} (wi : (Jvm.Cond.instantiable ST kI).before a0 Z = true)
    {x b : Addr} {kC : ClassId} {cs bs : List Int32} {d v0 c0 : Value} {z N : Int32} {n n0 : Nat} (hx0 : n0 ≤ x) (hh0 : n0 ≤ h.size) (E : RoadKit.Exa Z h x ST) (V : RoadKit.Fld Z h x ST "value" "[B" v0) (C : RoadKit.Fld Z h x ST "coder" "B" c0) (K : RoadKit.Arv Z h b kC .char N (cs.map Value.int) d) (S : RoadKit.Sta Z h ST "COMPACT_STRINGS" "Z" (.int z)) (hz : ¬ z = 0)
    (hn : cs.length = n) (hN : N = Int32.ofNat n) (l0 : 0 < n) (l2 : n ≤ 4000) (hp : ∀ c ∈ cs, ¬ c < 0 ∧ ¬ (255 : Int32) < c) (hb : bs = cs.map (fun c => c.toInt8.toInt32)) (hfr : 4 ≤ R.frames) (hlo : W + 65 ≤ R.locals) :
    Back l R p e below s args (⟨"java/lang/String", "<init>", "([C)V"⟩ : MethodName) len W (fun P a => a = #[.ref x, .ref b] ∧ P.U.heap = h ∧ P.cells + 1 ≤ R.cells ∧ P.slots + n ≤ R.slots)
      (fun P _ v B => ∃ L, QV Z x N bs h n0 v B.U.heap L ∧ B.locs = P.locs ++ L ∧ B.cells = P.cells + 1 ∧ B.slots = P.slots + n) := by
  subst hn hN hb
  refine Back.mono (backArv hZ hw wi E V C K S hz (n32 (by omega)) l0 (by omega) (fun c hc => (hp c hc).2) hfr hlo) (fun P a hp => hp) (fun P a v B hp hq => ?_)
  obtain ⟨L, ⟨q1, q2, q3, q4, q5, q6, q7, ⟨kb, v1, v2⟩, q9⟩, hl, hc, hs⟩ := hq
  exact ⟨L, ⟨q1, fun y hy => by rw [q2 y hy]; exact hx0, q3, q5, q7, h.size, kb, hh0, Nat.le_refl _, Nat.ne_of_gt E.lt, q6, by rw [List.map_map]; exact v2⟩, hl, hc, hs⟩
end StrChars.Road
namespace StrChars
open Jvm Sem ClassFile Op Lib Jvm.Stand Jvm.Free.XT Jvm.Free.ALB Jvm.Free.JM Jvm.Free
open Jvm.Lib.Cold (StaticIs)
def hi8 (x : Int32) : Int32 := lo8 (x >>> ((8 : Int32) &&& 31))
/-- what StringUTF16.getChar makes of two bytes -/
def pairCh (u v : Int32) : Int32 := (((u &&& 255) <<< ((0 : Int32) &&& 31)) ||| ((v &&& 255) <<< ((8 : Int32) &&& 31))).toUInt32.toUInt16.toUInt32.toInt32
theorem lo8_and (x : Int32) : (lo8 x &&& 255).toBitVec.toNat = x.toBitVec.toNat % 256 := by
  have h : (lo8 x).toBitVec = (x.toBitVec.signExtend 8).signExtend 32 := by rw [lo8, Int8.toBitVec_toInt32, Int32.toBitVec_toInt8]
  rw [Int32.toBitVec_and, BitVec.toNat_and, h]
  have e : ((x.toBitVec.signExtend 8).signExtend 32).toNat % 256 = x.toBitVec.toNat % 256 := by
    rw [BitVec.toNat_signExtend]
    have hlt := x.toBitVec.isLt
    simp only [BitVec.toNat_setWidth, BitVec.toNat_signExtend]
    split <;> split <;> omega
  rw [← e]
  exact Nat.and_two_pow_sub_one_eq_mod _ 8
theorem pair_says {c : Int32} (h0 : ¬ c < 0) (h1 : ¬ 65535 < c) : pairCh (lo8 c) (hi8 c) = c := by
  rw [Int32.lt_iff_toInt_lt] at h0 h1
  have e0 : (0 : Int32).toInt = 0 := rfl
  have e1 : (65535 : Int32).toInt = 65535 := rfl
  have hc : c.toInt = c.toBitVec.toNat := by
    have := c.toBitVec.isLt
    have e : c.toInt = c.toBitVec.toInt := rfl
    rw [e] at h0 h1
    rw [e]
    rw [BitVec.toInt_eq_toNat_cond] at h0 h1 ⊢
    split at h0 <;> split <;> omega
  have hn : c.toBitVec.toNat < 65536 := by omega
  have a1 := lo8_and c
  have a2 : (hi8 c &&& 255).toBitVec.toNat = c.toBitVec.toNat / 256 := by
    rw [hi8, lo8_and]
    have e : ((8 : Int32) &&& 31) = 8 := by decide
    rw [e, Int32.toBitVec_shiftRight]
    have e2 : ((8 : Int32).toBitVec.smod 32) = 8#32 := by decide
    rw [e2, BitVec.sshiftRight_eq', BitVec.toNat_sshiftRight_of_msb_false (by rw [BitVec.msb_eq_false_iff_two_mul_lt]; omega)]
    show c.toBitVec.toNat >>> 8 % 256 = _
    rw [Nat.shiftRight_eq_div_pow]
    omega
  unfold pairCh
  apply Int32.toBitVec_inj.mp
  apply BitVec.eq_of_toNat_eq
  have f0 : ((0 : Int32) &&& 31) = 0 := by decide
  have f8 : ((8 : Int32) &&& 31) = 8 := by decide
  rw [f0, f8]
  have g : (((lo8 c &&& 255) <<< (0 : Int32)) ||| ((hi8 c &&& 255) <<< (8 : Int32))).toBitVec.toNat = c.toBitVec.toNat := by
    rw [Int32.toBitVec_or, Int32.toBitVec_shiftLeft, Int32.toBitVec_shiftLeft]
    have s0 : ((0 : Int32).toBitVec.smod 32) = 0#32 := by decide
    have s8 : ((8 : Int32).toBitVec.smod 32) = 8#32 := by decide
    rw [s0, s8, BitVec.toNat_or]
    simp only [BitVec.shiftLeft_eq', BitVec.toNat_shiftLeft, a1, a2]
    show (c.toBitVec.toNat % 256) <<< 0 % 2 ^ 32 ||| (c.toBitVec.toNat / 256) <<< 8 % 2 ^ 32 = _
    rw [Nat.shiftLeft_zero, Nat.mod_eq_of_lt (show c.toBitVec.toNat % 256 < 2 ^ 32 by omega), Nat.mod_eq_of_lt (show (c.toBitVec.toNat / 256) <<< 8 < 2 ^ 32 by rw [Nat.shiftLeft_eq]; omega), Nat.or_comm, ← Nat.shiftLeft_add_eq_or_of_lt (by omega), Nat.shiftLeft_eq]
    omega
  show BitVec.toNat (((((lo8 c &&& 255) <<< (0 : Int32)) ||| ((hi8 c &&& 255) <<< (8 : Int32))).toBitVec.setWidth 16).setWidth 32) = _
  rw [BitVec.toNat_setWidth, BitVec.toNat_setWidth, g]
  omega
end StrChars
namespace StrChars
open Jvm Sem ClassFile Op Lib Jvm.Stand Jvm.Free.XT Jvm.Free.ALB Jvm.Free.JM Jvm.Free
open Jvm.Lib.Cold (StaticIs)
/-- the array's cell V codes the n chars f 0 .. f (n - 1) by the coder cd, as the JDK does: coder 1 just where some char is above 255 -/
def Cod (cd : Int32) (n : Nat) (f : Nat → Int32) (V : Cell) : Prop := (cd = 0 ∧ V.slots.size = n ∧ ∀ j, j < n → V.slots[j]? = some (.int (lo8 (f j))) ∧ ¬ 255 < f j) ∨ (cd = 1 ∧ V.slots.size = 2 * n ∧ (∀ j, j < n → V.slots[2 * j]? = some (.int (lo8 (f j))) ∧ V.slots[2 * j + 1]? = some (.int (hi8 (f j)))) ∧ ∃ j, j < n ∧ 255 < f j)
/-- **x is a String of the n chars f 0 .. f (n - 1)**, Latin-1 or UTF-16; its array at t has the cell V -/
def Txt (x t : Addr) (V : Cell) (cd : Int32) (n : Nat) (f : Nat → Int32) (U : State) : Prop := Exact "java/lang/String" x U ∧ Has x "java/lang/String" "value" "[B" (.ref t) U ∧ Has x "java/lang/String" "coder" "B" (.int cd) U ∧ XT.Arr .byte t V U ∧ Cod cd n f V ∧ ∀ j, j < n → ¬ f j < 0 ∧ ¬ 65535 < f j
theorem Txt.mv {x t : Addr} {V : Cell} {cd : Int32} {n : Nat} {f : Nat → Int32} {U U' : State} (h : Txt x t V cd n f U) (hal : U.vm.Alike U'.vm) (hh : U'.heap = U.heap) : Txt x t V cd n f U' := ⟨h.1.mv hal hh, h.2.1.mv hal hh, h.2.2.1.mv hal hh, h.2.2.2.1.mv hal hh, h.2.2.2.2⟩
end StrChars
namespace StrChars.Road
open Jvm Sem ClassFile Op Lib Jvm.Stand Jvm.Free Jvm.Free.XT
open Jvm.Lib.Cold (StaticIs)
theorem consq {a : Array Value} {s : State} {c : Jvm.Cond} {L : List Jvm.Cond} (h0 : c.before a s = true) (h : ∀ w ∈ L, w.before a s = true) : ∀ w ∈ c :: L, w.before a s = true := fun w hw => (List.mem_cons.mp hw).elim (fun e => e ▸ h0) (h w)
/-- the bytes of the chars cs, low before high -/
def wideBytes : List Int32 → List Value
  | [] => []
  | c :: cs => .int (lo8 c) :: .int (hi8 c) :: wideBytes cs
theorem wide_lo (d : Value) : ∀ (cs : List Int32) (j : Nat), j < cs.length → (wideBytes cs).getD (2 * j) d = .int (lo8 (cs.getD j 0))
  | [], j, h => absurd h (Nat.not_lt_zero j)
  | c :: cs, 0, _ => rfl
  | c :: cs, j + 1, h => by
    have q := wide_lo d cs j (by simpa using h)
    rw [show 2 * (j + 1) = 2 * j + 1 + 1 from by omega]
    simpa [wideBytes] using q
theorem wide_hi (d : Value) : ∀ (cs : List Int32) (j : Nat), j < cs.length → (wideBytes cs).getD (2 * j + 1) d = .int (hi8 (cs.getD j 0))
  | [], j, h => absurd h (Nat.not_lt_zero j)
  | c :: cs, 0, _ => rfl
  | c :: cs, j + 1, h => by
    have q := wide_hi d cs j (by simpa using h)
    rw [show 2 * (j + 1) + 1 = 2 * j + 1 + 1 + 1 from by omega]
    simpa [wideBytes] using q
theorem low_at (d : Value) (cs : List Int32) (j : Nat) (h : j < cs.length) : (cs.map fun c => Value.int (lo8 c)).getD j d = .int (lo8 (cs.getD j 0)) := by
  simp [List.getD_eq_getElem?_getD, h]
/-- an array of N2 bytes vs codes the chars cs by the coder cd -/
def CodA (cs : List Int32) (cd N2 : Int32) (vs : List Value) : Prop := (cd = 0 ∧ N2 = Int32.ofNat cs.length ∧ vs = (cs.map fun c => Value.int (lo8 c)) ∧ ∀ c ∈ cs, ¬ 255 < c) ∨ (cd = 1 ∧ N2 = Int32.ofNat (2 * cs.length) ∧ vs = wideBytes cs ∧ ∃ c ∈ cs, 255 < c)
theorem CodA.cod {cs : List Int32} {cd N2 : Int32} {vs : List Value} {V : Cell} (h : CodA cs cd N2 vs) (hn : 2 * cs.length < 2 ^ 31) (hs : V.slots.size = N2.toNatClampNeg) (hv : RoadKit.Has V vs (.int 0)) : Cod cd cs.length (fun j => cs.getD j 0) V := by
  rcases h with ⟨rfl, rfl, rfl, h⟩ | ⟨rfl, rfl, rfl, c, hc, hw⟩
  · rw [n32 (by omega)] at hs
    exact Or.inl ⟨rfl, hs, fun j hj => ⟨by rw [hv j (by omega), low_at _ _ _ hj], by
      have e : cs.getD j 0 = cs[j] := by simp [List.getD_eq_getElem?_getD, hj]
      show ¬ 255 < cs.getD j 0
      rw [e]; exact h _ (List.getElem_mem _)⟩⟩
  · rw [n32 (by omega)] at hs
    obtain ⟨j, hj, rfl⟩ := List.getElem_of_mem hc
    exact Or.inr ⟨rfl, hs, fun j hj => ⟨by rw [hv _ (by omega), wide_lo _ _ _ hj], by rw [hv _ (by omega), wide_hi _ _ _ hj]⟩, j, hj, by
      have e : cs.getD j 0 = cs[j] := by simp [List.getD_eq_getElem?_getD, hj]
      show 255 < cs.getD j 0
      rw [e]; exact hw⟩
/-- an object of exactly java/lang/String, its two fields found: as the laws ask it -/
theorem strObj {Z U : State} {a0 : Array Value} {kI : Nat} (wi : (Jvm.Cond.instantiable ST kI).before a0 Z = true) (al : Z.vm.Alike U.vm) {x : Addr} {v0 c0 : Value} (E : RoadKit.Exa Z U.heap x ST) (V : RoadKit.Fld Z U.heap x ST "value" "[B" v0) (C : RoadKit.Fld Z U.heap x ST "coder" "B" c0) :
    ∃ (D : Cell) (fV fC : Field), Blank ST x D U ∧ Found ST "value" "[B" fV U ∧ Found ST "coder" "B" fC U ∧ D.slots[fV.slot]? = some v0 ∧ D.slots[fC.slot]? = some c0 ∧ RoadKit.slotOf Z ST "value" "[B" = fV.slot ∧ RoadKit.slotOf Z ST "coder" "B" = fC.slot := by
  obtain ⟨D, cfV, kV, iV, fV, hD, gV, stV, knV, obV, asV, slV⟩ := V
  obtain ⟨D', cfC, kC, iC, fC, hD', gC, stC, -, -, asC, slC⟩ := C
  cases hD.symm.trans hD'
  obtain ⟨D2, kD, e1, e2, e3, e4, e5⟩ := E
  cases hD.symm.trans e1
  obtain ⟨c2, k2, i1, i2, i3, -⟩ := Cond.instantiable_spec wi
  cases e2.symm.trans i1
  cases e3.symm.trans i2
  obtain ⟨kU, u1, u2⟩ := al.2.2 _ _ e3
  exact ⟨D, fV, fC, ⟨hD, ⟨knV, fun q hq => by rw [hq] at obV; cases obV⟩, by rw [al.findClass]; exact e2, kU, u1, by rw [u2]; exact i3, by rw [u2]; exact e5 i3⟩, ⟨SBG.found_only al ⟨cfV, kV, iV, gV⟩, stV⟩, ⟨SBG.found_only al ⟨cfC, kC, iC, gC⟩, stC⟩, slV, slC, by simp [RoadKit.slotOf, gV], by simp [RoadKit.slotOf, gC]⟩
theorem sta_is {Z U : State} (al : Z.vm.Alike U.vm) {C n d : String} {v : Value} (S : RoadKit.Sta Z U.heap C n d v) : StaticIs U C n d v := by
  obtain ⟨cfS, iS, kS, fS, st, cS, t1, t2, t3, t4, t5, t6, t7⟩ := S
  exact StaticIs.there (s := { Z with heap := U.heap }) ⟨cfS, iS, kS, fS, st, cS, t1, t2, t3, t4, t5, (fun q => by rw [q] at t6; cases t6), t7⟩ al rfl
end StrChars.Road
namespace StrChars
open Jvm Sem ClassFile Op Lib Jvm.Stand Jvm.Free.XT Jvm.Free.ALB Jvm.Free.JM Jvm.Free
open Jvm.Lib.Cold (StaticIs)
/-- what place i of a byte[]'s cell holds -/
def yv (A : Cell) (i : Nat) : Int32 := match A.slots[i]? with | some (.int x) => x | _ => 0
theorem yv_get {a : Addr} {A : Cell} {U : State} (h : XT.Arr .byte a A U) (ht : Typed .byte A) {i : Nat} (hi : i < A.slots.size) : A.slots[i]? = some (.int (yv A i)) := by
  have e := Array.getElem?_eq_getElem hi
  have f := ht i _ e
  unfold yv; rw [e]
  generalize A.slots[i] = v at f
  cases v <;> simp [fits] at f ⊢
/-- the two arrays are equal, place for place -/
def EqC (A B : Cell) : Prop := A.slots.size = B.slots.size ∧ ∀ i, i < A.slots.size → yv A i = yv B i
/-- a boolean that says whether p -/
def Says01 (q : Prop) (r : Option Value) (s u : State) : Prop := ∃ v : Int32, r = some (.int v) ∧ u.heap = s.heap ∧ ((v = 1 ∧ q) ∨ (v = 0 ∧ ¬ q))
theorem Says01.mv {q : Prop} : ∀ r (U U' V V' : State), U'.heap = U.heap → V.vm.Alike V'.vm → V'.heap = V.heap → Says01 q r U V → Says01 q r U' V' :=
  fun r U U' V V' h1 _ h2 ⟨v, a, b, c⟩ => ⟨v, a, by rw [h1, h2]; exact b, c⟩
namespace LEq
def yN : MethodName := ⟨"java/lang/StringLatin1", "equals", "([B[B)Z"⟩
abbrev yB : ByteArray := jdk_43_method_13_code
theorem d0 : decode yB 0 = .ok (.aload_n 0, 1) := by decide +kernel
theorem d1 : decode yB 1 = .ok (.arraylength, 1) := by decide +kernel
theorem d2 : decode yB 2 = .ok (.aload_n 1, 1) := by decide +kernel
theorem d3 : decode yB 3 = .ok (.arraylength, 1) := by decide +kernel
theorem d4 : decode yB 4 = .ok (.if_icmp (.ne) 30, 3) := by decide +kernel
theorem d7 : decode yB 7 = .ok (.iconst 0, 1) := by decide +kernel
theorem d8 : decode yB 8 = .ok (.istore_n 2, 1) := by decide +kernel
theorem d9 : decode yB 9 = .ok (.iload_n 2, 1) := by decide +kernel
theorem d10 : decode yB 10 = .ok (.aload_n 0, 1) := by decide +kernel
theorem d11 : decode yB 11 = .ok (.arraylength, 1) := by decide +kernel
theorem d12 : decode yB 12 = .ok (.if_icmp (.ge) 20, 3) := by decide +kernel
theorem d15 : decode yB 15 = .ok (.aload_n 0, 1) := by decide +kernel
theorem d16 : decode yB 16 = .ok (.iload_n 2, 1) := by decide +kernel
theorem d17 : decode yB 17 = .ok (.baload, 1) := by decide +kernel
theorem d18 : decode yB 18 = .ok (.aload_n 1, 1) := by decide +kernel
theorem d19 : decode yB 19 = .ok (.iload_n 2, 1) := by decide +kernel
theorem d20 : decode yB 20 = .ok (.baload, 1) := by decide +kernel
theorem d21 : decode yB 21 = .ok (.if_icmp (.eq) 5, 3) := by decide +kernel
theorem d24 : decode yB 24 = .ok (.iconst 0, 1) := by decide +kernel
theorem d25 : decode yB 25 = .ok (.ireturn, 1) := by decide +kernel
theorem d26 : decode yB 26 = .ok (.iinc 2 1, 3) := by decide +kernel
theorem d29 : decode yB 29 = .ok (.goto (-20), 3) := by decide +kernel
theorem d32 : decode yB 32 = .ok (.iconst 1, 1) := by decide +kernel
theorem d33 : decode yB 33 = .ok (.ireturn, 1) := by decide +kernel
theorem d34 : decode yB 34 = .ok (.iconst 0, 1) := by decide +kernel
theorem d35 : decode yB 35 = .ok (.ireturn, 1) := by decide +kernel
def site : List Cond := []
def tab : Cond := tabOf yN yB 3 (some .boolean) site
def P (a : Addr) (A : Cell) (b : Addr) (B : Cell) (args : Array Value) (s : State) : Prop := args = #[.ref a, .ref b] ∧ XT.Arr .byte a A s ∧ Typed .byte A ∧ XT.Arr .byte b B s ∧ Typed .byte B
/-- whether two byte[] are equal, place for place -/
theorem law (l : Launch) (a : Addr) (A : Cell) (b : Addr) (B : Cell) : Law l yN 2 2 0 0 yB 3 (some .boolean) site (P a A b B) (Says01 (EqC A B)) [] 0 0 := by
  refine Law.of_walk (plainFor_of_name (by decide +kernel)) (by decide +kernel) (by decide +kernel) (by decide) (fun _ _ h => by rw [h.1]; rfl) (fun _ U U' hal hh h => ⟨h.1, h.2.1.mv hal hh, h.2.2.1, h.2.2.2.1.mv hal hh, h.2.2.2.2⟩) (fun r U U' V V' h1 hal h2 h => Says01.mv r U U' V V' h1 hal h2 h) ?_
  intro p e s m args below meth c s₁ X0 hexec hbytes hml hret hlk hnm hown hh0 W hP
  obtain ⟨rfl, hA, tA, hB, tB⟩ := hP
  have a31 := hA.2.2.2
  have b31 := hB.2.2.2
  have hA0 := hA.mv X0.warmed.alike hh0
  have hB0 := hB.mv X0.warmed.alike hh0
  have c1 : Steps p.tables e below (s₁.setTop (entryFrame m #[.ref a, .ref b] 3)) (s₁.setTop (mkF m 0 #[.val (.ref a), .val (.ref b), .unset] [])) := entry rfl
  have c2 : Steps p.tables e below (s₁.setTop (entryFrame m #[.ref a, .ref b] 3)) (s₁.setTop (mkF m 4 #[.val (.ref a), .val (.ref b), .unset] [.int (Int32.ofNat B.slots.size), .int (Int32.ofNat A.slots.size)])) := c1.trans (by
    refine XS.aloadN X0.here hexec rfl (hb hbytes d0) rfl rfl ?_
    refine X0.alen hexec hA0 rfl rfl (hb hbytes d1) ?_
    refine XS.aloadN X0.here hexec rfl (hb hbytes d2) rfl rfl ?_
    refine X0.alen hexec hB0 rfl rfl (hb hbytes d3) ?_
    exact Steps.refl _)
  by_cases hs : A.slots.size = B.slots.size
  · have c3 : Steps p.tables e below (s₁.setTop (entryFrame m #[.ref a, .ref b] 3)) (s₁.setTop (mkF m 9 #[.val (.ref a), .val (.ref b), .val (.int 0)] [])) := c2.trans (by
      refine XS.icmpNo X0.here hexec rfl (hb hbytes d4) rfl (ii_ne_f (by rw [hs])) ?_
      refine iconstV X0.here hexec rfl 0 (hb hbytes d7) (by decide) ?_
      refine XS.istoreN X0.here hexec rfl (hb hbytes d8) rfl rfl ?_
      exact Steps.refl _)
    have loop : ∀ (r i : Nat), i + r = A.slots.size → (∀ j, j < i → yv A j = yv B j) → Steps p.tables e below (s₁.setTop (entryFrame m #[.ref a, .ref b] 3)) (s₁.setTop (mkF m 9 #[.val (.ref a), .val (.ref b), .val (.int (Int32.ofNat i))] [])) → ∃ (pc : Nat) (Ls : Array Slot) (v : Int32), (pc = 25 ∨ pc = 33) ∧ ((v = 1 ∧ EqC A B) ∨ (v = 0 ∧ ¬ EqC A B)) ∧ Steps p.tables e below (s₁.setTop (entryFrame m #[.ref a, .ref b] 3)) (s₁.setTop (mkF m pc Ls [.int v])) := by
      intro r
      induction r with
      | zero =>
        intro i hi he cl
        exact ⟨33, _, 1, Or.inr rfl, Or.inl ⟨rfl, hs, fun j hj => he j (by omega)⟩, cl.trans (by
          refine XS.iloadN X0.here hexec rfl (hb hbytes d9) rfl ?_
          refine XS.aloadN X0.here hexec rfl (hb hbytes d10) rfl rfl ?_
          refine X0.alen hexec hA0 rfl rfl (hb hbytes d11) ?_
          refine XS.icmpYes X0.here hexec rfl (pc0 := 12) rfl (hb hbytes d12) rfl (ii_ge_t (nlt32 (by omega) (by omega))) (by decide) rfl ?_
          refine iconstV X0.here hexec rfl 1 (hb hbytes d32) (by decide) ?_
          exact Steps.refl _)⟩
      | succ r ih =>
        intro i hi he cl
        have c4 : Steps p.tables e below (s₁.setTop (entryFrame m #[.ref a, .ref b] 3)) (s₁.setTop (mkF m 21 #[.val (.ref a), .val (.ref b), .val (.int (Int32.ofNat i))] [.int (yv B i), .int (yv A i)])) := cl.trans (by
          refine XS.iloadN X0.here hexec rfl (hb hbytes d9) rfl ?_
          refine XS.aloadN X0.here hexec rfl (hb hbytes d10) rfl rfl ?_
          refine X0.alen hexec hA0 rfl rfl (hb hbytes d11) ?_
          refine XS.icmpNo X0.here hexec rfl (hb hbytes d12) rfl (ii_ge_f (lt32 (by omega) (by omega))) ?_
          refine XS.aloadN X0.here hexec rfl (hb hbytes d15) rfl rfl ?_
          refine XS.iloadN X0.here hexec rfl (hb hbytes d16) rfl ?_
          refine X0.aget hexec hA0 rfl (yv_get hA tA (i := i) (by omega)) rfl rfl (hb hbytes d17) ?_
          refine XS.aloadN X0.here hexec rfl (hb hbytes d18) rfl rfl ?_
          refine XS.iloadN X0.here hexec rfl (hb hbytes d19) rfl ?_
          refine X0.aget hexec hB0 rfl (yv_get hB tB (i := i) (by omega)) rfl rfl (hb hbytes d20) ?_
          exact Steps.refl _)
        by_cases hv : yv A i = yv B i
        · have c5 : Steps p.tables e below (s₁.setTop (entryFrame m #[.ref a, .ref b] 3)) (s₁.setTop (mkF m 9 #[.val (.ref a), .val (.ref b), .val (.int (Int32.ofNat i + 1))] [])) := c4.trans (by
            refine XS.icmpYes X0.here hexec rfl (pc0 := 21) rfl (hb hbytes d21) rfl (ii_eq_t hv) (by decide) rfl ?_
            refine iincV X0.here hexec rfl 1 (hb hbytes d26) (by decide) rfl rfl ?_
            refine XS.goto X0.here hexec rfl (pc0 := 29) rfl (hb hbytes d29) (by decide) rfl ?_
            exact Steps.refl _)
          rw [succ32] at c5
          exact ih (i + 1) (by omega) (fun j hj => by
            by_cases e : j = i
            · rw [e]; exact hv
            · exact he j (by omega)) c5
        · exact ⟨25, _, 0, Or.inl rfl, Or.inr ⟨rfl, fun q => hv (q.2 i (by omega))⟩, c4.trans (by
            refine XS.icmpNo X0.here hexec rfl (hb hbytes d21) rfl (ii_eq_f hv) ?_
            refine iconstV X0.here hexec rfl 0 (hb hbytes d24) (by decide) ?_
            exact Steps.refl _)⟩
    obtain ⟨pc, Ls, v, hpc, hv, cz⟩ := loop A.slots.size 0 (by omega) (fun j hj => absurd hj (Nat.not_lt_zero j)) c3
    have nv : narrow .boolean (.int v) = .int v := by rcases hv with ⟨rfl, -⟩ | ⟨rfl, -⟩ <;> rfl
    rcases hpc with rfl | rfl
    · exact ⟨s₁, some (.int v), _, _, _, X0, rfl, rfl, rfl, (fun h => by cases h), ⟨v, rfl, hh0, hv⟩, fun fs hl => cz.trans (X0.ireturnOut hexec hret nv (Or.inr (Or.inl rfl)) (hb hbytes d25) hl)⟩
    · exact ⟨s₁, some (.int v), _, _, _, X0, rfl, rfl, rfl, (fun h => by cases h), ⟨v, rfl, hh0, hv⟩, fun fs hl => cz.trans (X0.ireturnOut hexec hret nv (Or.inr (Or.inl rfl)) (hb hbytes d33) hl)⟩
  · have c3 : Steps p.tables e below (s₁.setTop (entryFrame m #[.ref a, .ref b] 3)) (s₁.setTop (mkF m 35 #[.val (.ref a), .val (.ref b), .unset] [.int 0])) := c2.trans (by
      refine XS.icmpYes X0.here hexec rfl (pc0 := 4) rfl (hb hbytes d4) rfl (ii_ne_t (ne32 a31 b31 hs)) (by decide) rfl ?_
      refine iconstV X0.here hexec rfl 0 (hb hbytes d34) (by decide) ?_
      exact Steps.refl _)
    exact ⟨s₁, some (.int 0), _, _, _, X0, rfl, rfl, rfl, (fun h => by cases h), ⟨0, rfl, hh0, Or.inr ⟨rfl, fun q => hs q.1⟩⟩, fun fs hl => c3.trans (X0.ireturnOut hexec hret rfl (Or.inr (Or.inl rfl)) (hb hbytes d35) hl)⟩
end LEq
theorem Cod.ty {cd : Int32} {n : Nat} {f : Nat → Int32} {V : Cell} (h : Cod cd n f V) : Typed .byte V := fun i v hv => by
  have hi : i < V.slots.size := (Array.getElem?_eq_some_iff.mp hv).1
  rcases h with ⟨-, k1, k2⟩ | ⟨-, k1, k2, -⟩
  · rw [(k2 i (by omega)).1] at hv; cases hv; exact fits_lo8 _
  · rcases Nat.mod_two_eq_zero_or_one i with e | e
    · obtain ⟨j, rfl⟩ : ∃ j, i = 2 * j := ⟨i / 2, by omega⟩
      rw [(k2 j (by omega)).1] at hv; cases hv; exact fits_lo8 _
    · obtain ⟨j, rfl⟩ : ∃ j, i = 2 * j + 1 := ⟨i / 2, by omega⟩
      rw [(k2 j (by omega)).2] at hv; cases hv; exact fits_lo8 _
/-- the same text -/
def SameT (n : Nat) (f : Nat → Int32) (k : Nat) (g : Nat → Int32) : Prop := n = k ∧ ∀ j, j < n → f j = g j
theorem lo8_inj {x y : Int32} (h0 : ¬ x < 0) (h1 : ¬ 255 < x) (k0 : ¬ y < 0) (k1 : ¬ 255 < y) (h : lo8 x = lo8 y) : x = y := by
  rw [← lo8_mask h0 h1, ← lo8_mask k0 k1, h]
/-- arrays coded by one coder are equal just where the texts are -/
theorem Cod.eqv {cd : Int32} {n k : Nat} {f g : Nat → Int32} {V V' : Cell} (h : Cod cd n f V) (h' : Cod cd k g V') (hf : ∀ j, j < n → ¬ f j < 0 ∧ ¬ 65535 < f j) (hg : ∀ j, j < k → ¬ g j < 0 ∧ ¬ 65535 < g j) : EqC V V' ↔ SameT n f k g := by
  have yvv : ∀ {W : Cell} {i : Nat} {x : Int32}, W.slots[i]? = some (.int x) → yv W i = x := fun q => by unfold yv; rw [q]
  rcases h with ⟨rfl, k1, k2⟩ | ⟨rfl, k1, k2, -⟩
  · rcases h' with ⟨-, m1, m2⟩ | ⟨e, -⟩
    · constructor
      · rintro ⟨e1, e2⟩
        refine ⟨by omega, fun j hj => ?_⟩
        have q := e2 j (by omega)
        rw [yvv (k2 j hj).1, yvv (m2 j (by omega)).1] at q
        exact lo8_inj (hf j hj).1 (k2 j hj).2 (hg j (by omega)).1 (m2 j (by omega)).2 q
      · rintro ⟨rfl, e2⟩
        refine ⟨by omega, fun j hj => ?_⟩
        rw [yvv (k2 j (by omega)).1, yvv (m2 j (by omega)).1, e2 j (by omega)]
    · exact absurd e (by decide)
  · rcases h' with ⟨e, -⟩ | ⟨-, m1, m2, -⟩
    · exact absurd e (by decide)
    · constructor
      · rintro ⟨e1, e2⟩
        refine ⟨by omega, fun j hj => ?_⟩
        have q1 := e2 (2 * j) (by omega)
        have q2 := e2 (2 * j + 1) (by omega)
        rw [yvv (k2 j hj).1, yvv (m2 j (by omega)).1] at q1
        rw [yvv (k2 j hj).2, yvv (m2 j (by omega)).2] at q2
        rw [← pair_says (hf j hj).1 (hf j hj).2, ← pair_says (hg j (by omega)).1 (hg j (by omega)).2, q1, q2]
      · rintro ⟨rfl, e2⟩
        refine ⟨by omega, fun i hi => ?_⟩
        rcases Nat.mod_two_eq_zero_or_one i with e | e
        · obtain ⟨j, rfl⟩ : ∃ j, i = 2 * j := ⟨i / 2, by omega⟩
          rw [yvv (k2 j (by omega)).1, yvv (m2 j (by omega)).1, e2 j (by omega)]
        · obtain ⟨j, rfl⟩ : ∃ j, i = 2 * j + 1 := ⟨i / 2, by omega⟩
          rw [yvv (k2 j (by omega)).2, yvv (m2 j (by omega)).2, e2 j (by omega)]
/-- two codings differ: so do the texts -/
theorem Cod.dif {cd cd' : Int32} {n k : Nat} {f g : Nat → Int32} {V V' : Cell} (h : Cod cd n f V) (h' : Cod cd' k g V') (hne : ¬ cd = cd') : ¬ SameT n f k g := by
  rintro ⟨rfl, e⟩
  rcases h with ⟨rfl, -, k2⟩ | ⟨rfl, -, -, j, hj, hw⟩
  · rcases h' with ⟨rfl, -⟩ | ⟨-, -, -, j, hj, hw⟩
    · exact hne rfl
    · exact (k2 j hj).2 (by rw [e j hj]; exact hw)
  · rcases h' with ⟨-, -, m2⟩ | ⟨rfl, -⟩
    · exact (m2 j hj).2 (by rw [← e j hj]; exact hw)
    · exact hne rfl
/-- an object of exactly C is an instance of C -/
theorem cinst {p : Program} {l : Launch} {e : Env} {R : Room} {s : State} {m : MethodId} {args : Array Value} {below : List Frame} {meth : Method} {c : Code} {T : State} {locs : List Loc} {cells slots : Nat} (X : Stand p l e R s m args below meth c T locs cells slots) (hexec : p.tables.exec = Jvm.exec) {own C : String} {index : Nat} (hown : s.vm.findClass own = some m.cls) (hlink : (Cond.classLink own index C).before args s = true) {a : Addr} (hE : Exact C a T)
    {g : JFrame} (hg : g.method = m) {rest : List Value} (hstack : g.stack = .ref a :: rest) (hdg : decode c.code g.pc = .ok (.instanceof index, 3)) :
    ∃ T', Stand p l e R s m args below meth c T' locs cells slots ∧ T'.heap = T.heap ∧ ∀ target, Steps p.tables e below (T'.setTop { g with pc := g.pc + 3, stack := .int 1 :: rest }) target → Steps p.tables e below (T.setTop g) target := by
  obtain ⟨cB, h1, D, h2, h3, h4⟩ := hE
  have h1' : s.vm.findClass C = some cB := by rw [← X.warmed.alike.findClass]; exact h1
  obtain ⟨vm', X', st⟩ := X.instanceofYes hexec hown hlink h2 h4 h1' (by rw [h3]; exact Jvm.Free.SB.assignable_self _ _) hg hstack hdg
  exact ⟨_, X', rfl, st⟩
theorem cself {p : Program} {l : Launch} {e : Env} {R : Room} {s : State} {m : MethodId} {args : Array Value} {below : List Frame} {meth : Method} {c : Code} {T : State} {locs : List Loc} {cells slots : Nat} (X : Stand p l e R s m args below meth c T locs cells slots) (hexec : p.tables.exec = Jvm.exec) {own C : String} {index : Nat} (hown : s.vm.findClass own = some m.cls) (hlink : (Cond.classLink own index C).before args s = true) {a : Addr} (hE : Exact C a T)
    {g : JFrame} (hg : g.method = m) {rest : List Value} (hstack : g.stack = .ref a :: rest) (hdg : decode c.code g.pc = .ok (.checkcast index, 3)) :
    ∃ T', Stand p l e R s m args below meth c T' locs cells slots ∧ T'.heap = T.heap ∧ ∀ target, Steps p.tables e below (T'.setTop { g with pc := g.pc + 3, stack := .ref a :: rest }) target → Steps p.tables e below (T.setTop g) target := by
  obtain ⟨cB, h1, D, h2, h3, h4⟩ := hE
  have h1' : s.vm.findClass C = some cB := by rw [← X.warmed.alike.findClass]; exact h1
  obtain ⟨vm', X', st⟩ := X.checkcastYes hexec hown hlink h2 h4 h1' (by rw [h3]; exact Jvm.Free.SB.assignable_self _ _) hg hstack hdg
  exact ⟨_, X', rfl, fun t h => st t (by rw [← hstack] at h; exact h)⟩
namespace SEq
def yN : MethodName := ⟨"java/lang/String", "equals", "(Ljava/lang/Object;)Z"⟩
abbrev yB : ByteArray := jdk_42_method_66_code
theorem d0 : decode yB 0 = .ok (.aload_n 0, 1) := by decide +kernel
theorem d1 : decode yB 1 = .ok (.aload_n 1, 1) := by decide +kernel
theorem d2 : decode yB 2 = .ok (.if_acmp (.ne) 5, 3) := by decide +kernel
theorem d5 : decode yB 5 = .ok (.iconst 1, 1) := by decide +kernel
theorem d6 : decode yB 6 = .ok (.ireturn, 1) := by decide +kernel
theorem d7 : decode yB 7 = .ok (.aload_n 1, 1) := by decide +kernel
theorem d8 : decode yB 8 = .ok (.instanceof 10, 3) := by decide +kernel
theorem d11 : decode yB 11 = .ok (.ifCond (.eq) 43, 3) := by decide +kernel
theorem d14 : decode yB 14 = .ok (.aload_n 1, 1) := by decide +kernel
theorem d15 : decode yB 15 = .ok (.checkcast 10, 3) := by decide +kernel
theorem d18 : decode yB 18 = .ok (.astore_n 2, 1) := by decide +kernel
theorem d19 : decode yB 19 = .ok (.getstatic 38, 3) := by decide +kernel
theorem d22 : decode yB 22 = .ok (.ifCond (.eq) 14, 3) := by decide +kernel
theorem d25 : decode yB 25 = .ok (.aload_n 0, 1) := by decide +kernel
theorem d26 : decode yB 26 = .ok (.getfield 15, 3) := by decide +kernel
theorem d29 : decode yB 29 = .ok (.aload_n 2, 1) := by decide +kernel
theorem d30 : decode yB 30 = .ok (.getfield 15, 3) := by decide +kernel
theorem d33 : decode yB 33 = .ok (.if_icmp (.ne) 21, 3) := by decide +kernel
theorem d36 : decode yB 36 = .ok (.aload_n 0, 1) := by decide +kernel
theorem d37 : decode yB 37 = .ok (.getfield 9, 3) := by decide +kernel
theorem d40 : decode yB 40 = .ok (.aload_n 2, 1) := by decide +kernel
theorem d41 : decode yB 41 = .ok (.getfield 9, 3) := by decide +kernel
theorem d44 : decode yB 44 = .ok (.invokestatic 541, 3) := by decide +kernel
theorem d47 : decode yB 47 = .ok (.ifCond (.eq) 7, 3) := by decide +kernel
theorem d50 : decode yB 50 = .ok (.iconst 1, 1) := by decide +kernel
theorem d51 : decode yB 51 = .ok (.goto 4, 3) := by decide +kernel
theorem d54 : decode yB 54 = .ok (.iconst 0, 1) := by decide +kernel
theorem d55 : decode yB 55 = .ok (.ireturn, 1) := by decide +kernel
def site : List Cond := [.classLink "java/lang/String" 10 "java/lang/String", .fieldLink "java/lang/String" 38 "java/lang/String" "COMPACT_STRINGS" "Z", .fieldLink "java/lang/String" 15 "java/lang/String" "coder" "B", .fieldLink "java/lang/String" 9 "java/lang/String" "value" "[B", LEq.tab] ++ staticW "java/lang/String" 541 LEq.yN
def tab : Cond := tabOf yN yB 3 (some .boolean) site
def P (x t : Addr) (V : Cell) (cd : Int32) (n : Nat) (f : Nat → Int32) (y t' : Addr) (V' : Cell) (cd' : Int32) (k : Nat) (g : Nat → Int32) (z : Int32) (args : Array Value) (s : State) : Prop := args = #[.ref x, .ref y] ∧ Txt x t V cd n f s ∧ Txt y t' V' cd' k g s ∧ StaticIs s "java/lang/String" "COMPACT_STRINGS" "Z" (.int z) ∧ ¬ z = 0
/-- equals(Object) of two Strings: whether the texts are the same -/
theorem law (l : Launch) (x t : Addr) (V : Cell) (cd : Int32) (n : Nat) (f : Nat → Int32) (y t' : Addr) (V' : Cell) (cd' : Int32) (k : Nat) (g : Nat → Int32) (z : Int32) : Law l yN 2 1 1 14 yB 3 (some .boolean) site (P x t V cd n f y t' V' cd' k g z) (Says01 (SameT n f k g)) [] 0 0 := by
  refine Law.of_walk (plainFor_of_name (by decide +kernel)) (by decide +kernel) (by decide +kernel) (by decide) (fun _ _ h => by rw [h.1]; rfl) (fun _ U U' hal hh h => ⟨h.1, h.2.1.mv hal hh, h.2.2.1.mv hal hh, h.2.2.2.1.there hal hh, h.2.2.2.2⟩) (fun r U U' V V' h1 hal h2 h => Says01.mv r U U' V V' h1 hal h2 h) ?_
  intro p e s m args below meth c s₁ X0 hexec hbytes hml hret hlk hnm hown hh0 W hP
  obtain ⟨rfl, hx, hy, s1, hz⟩ := hP
  have c1 : Steps p.tables e below (s₁.setTop (entryFrame m #[.ref x, .ref y] 3)) (s₁.setTop (mkF m 2 #[.val (.ref x), .val (.ref y), .unset] [.ref y, .ref x])) := Steps.trans (entry rfl) (by
    show Steps p.tables e below (s₁.setTop (mkF m 0 #[.val (.ref x), .val (.ref y), .unset] [])) _
    refine XS.aloadN X0.here hexec rfl (hb hbytes d0) rfl rfl ?_
    refine XS.aloadN X0.here hexec rfl (hb hbytes d1) rfl rfl ?_
    exact Steps.refl _)
  by_cases hxy : x = y
  · have c2 : Steps p.tables e below (s₁.setTop (entryFrame m #[.ref x, .ref y] 3)) (s₁.setTop (mkF m 6 #[.val (.ref x), .val (.ref y), .unset] [.int 1])) := c1.trans (by
      refine acmpNo X0.here hexec rfl (hb hbytes d2) rfl rfl rfl (by simp [acmp, hxy]) ?_
      refine iconstV X0.here hexec rfl 1 (hb hbytes d5) (by decide) ?_
      exact Steps.refl _)
    subst hxy
    have ec : cd = cd' := by
      obtain ⟨D, fd, a1, a2, a3⟩ := hx.2.2.1
      obtain ⟨D', fd', b1, b2, b3⟩ := hy.2.2.1
      cases a1.symm.trans b1
      obtain ⟨q1, q2, q3, q4⟩ := a2.1
      obtain ⟨r1, r2, r3, r4⟩ := b2.1
      cases q4.symm.trans r4
      cases a3.symm.trans b3; rfl
    have et : t = t' := by
      obtain ⟨D, fd, a1, a2, a3⟩ := hx.2.1
      obtain ⟨D', fd', b1, b2, b3⟩ := hy.2.1
      cases a1.symm.trans b1
      obtain ⟨q1, q2, q3, q4⟩ := a2.1
      obtain ⟨r1, r2, r3, r4⟩ := b2.1
      cases q4.symm.trans r4
      cases a3.symm.trans b3; rfl
    subst ec et
    have ev : V = V' := by cases hx.2.2.2.1.1.symm.trans hy.2.2.2.1.1; rfl
    subst ev
    have hs : SameT n f k g := (Cod.eqv hx.2.2.2.2.1 hy.2.2.2.2.1 hx.2.2.2.2.2 hy.2.2.2.2.2).mp ⟨rfl, fun _ _ => rfl⟩
    exact ⟨s₁, some (.int 1), _, _, _, X0, rfl, rfl, rfl, (fun h => by cases h), ⟨1, rfl, hh0, Or.inl ⟨rfl, hs⟩⟩, fun fs hl => c2.trans (X0.ireturnOut hexec hret rfl (Or.inr (Or.inl rfl)) (hb hbytes d6) hl)⟩
  · have c2 : Steps p.tables e below (s₁.setTop (entryFrame m #[.ref x, .ref y] 3)) (s₁.setTop (mkF m 8 #[.val (.ref x), .val (.ref y), .unset] [.ref y])) := c1.trans (by
      refine acmpYes X0.here hexec rfl (pc0 := 2) rfl (hb hbytes d2) rfl rfl rfl (by simp [acmp, hxy]) (by decide) rfl ?_
      refine XS.aloadN X0.here hexec rfl (hb hbytes d7) rfl rfl ?_
      exact Steps.refl _)
    obtain ⟨T3, X3, q3, st3⟩ := cinst X0 hexec hown (wk W (.classLink "java/lang/String" 10 "java/lang/String")) (hy.mv X0.warmed.alike hh0).1 (g := (mkF m 8 #[.val (.ref x), .val (.ref y), .unset] [.ref y])) rfl (rest := []) rfl (hb hbytes d8)
    have hh3 := q3.trans hh0
    have c4 : Steps p.tables e below (s₁.setTop (entryFrame m #[.ref x, .ref y] 3)) (T3.setTop (mkF m 15 #[.val (.ref x), .val (.ref y), .unset] [.ref y])) := (c2.trans (st3 _ (Steps.refl _))).trans (by
      refine XS.ifNo X3.here hexec rfl (hb hbytes d11) rfl (i0_eq_f (by decide)) ?_
      refine XS.aloadN X3.here hexec rfl (hb hbytes d14) rfl rfl ?_
      exact Steps.refl _)
    obtain ⟨T5, X5, q5, st5⟩ := cself X3 hexec hown (wk W (.classLink "java/lang/String" 10 "java/lang/String")) (hy.mv X3.warmed.alike hh3).1 (g := (mkF m 15 #[.val (.ref x), .val (.ref y), .unset] [.ref y])) rfl (rest := []) rfl (hb hbytes d15)
    have hh5 := q5.trans hh3
    have c6 : Steps p.tables e below (s₁.setTop (entryFrame m #[.ref x, .ref y] 3)) (T5.setTop (mkF m 19 #[.val (.ref x), .val (.ref y), .val (.ref y)] [])) := (c4.trans (st5 _ (Steps.refl _))).trans (by
      refine XS.astoreN X5.here hexec rfl (hb hbytes d18) rfl rfl rfl ?_
      exact Steps.refl _)
    obtain ⟨T7, X7, q7, st7⟩ := X5.sget hexec hown (wk W (.fieldLink "java/lang/String" 38 "java/lang/String" "COMPACT_STRINGS" "Z")) s1 (fun _ _ h => by rw [hh5]; exact h) (g := (mkF m 19 #[.val (.ref x), .val (.ref y), .val (.ref y)] [])) rfl (hb hbytes d19)
    have hh7 := q7.trans hh5
    have c8 : Steps p.tables e below (s₁.setTop (entryFrame m #[.ref x, .ref y] 3)) (T7.setTop (mkF m 26 #[.val (.ref x), .val (.ref y), .val (.ref y)] [.ref x])) := (c6.trans (st7 _ (Steps.refl _))).trans (by
      refine XS.ifNo X7.here hexec rfl (hb hbytes d22) rfl (i0_eq_f hz) ?_
      refine XS.aloadN X7.here hexec rfl (hb hbytes d25) rfl rfl ?_
      exact Steps.refl _)
    obtain ⟨T9, X9, q9, st9⟩ := X7.hget hexec hown (wk W (.fieldLink "java/lang/String" 15 "java/lang/String" "coder" "B")) (hx.mv X7.warmed.alike hh7).2.2.1 (g := (mkF m 26 #[.val (.ref x), .val (.ref y), .val (.ref y)] [.ref x])) rfl (rest := []) rfl (hb hbytes d26)
    have hh9 := q9.trans hh7
    have c10 : Steps p.tables e below (s₁.setTop (entryFrame m #[.ref x, .ref y] 3)) (T9.setTop (mkF m 30 #[.val (.ref x), .val (.ref y), .val (.ref y)] [.ref y, .int cd])) := (c8.trans (st9 _ (Steps.refl _))).trans (by
      refine XS.aloadN X9.here hexec rfl (hb hbytes d29) rfl rfl ?_
      exact Steps.refl _)
    obtain ⟨T11, X11, q11, st11⟩ := X9.hget hexec hown (wk W (.fieldLink "java/lang/String" 15 "java/lang/String" "coder" "B")) (hy.mv X9.warmed.alike hh9).2.2.1 (g := (mkF m 30 #[.val (.ref x), .val (.ref y), .val (.ref y)] [.ref y, .int cd])) rfl (rest := [.int cd]) rfl (hb hbytes d30)
    have hh11 := q11.trans hh9
    have c12 : Steps p.tables e below (s₁.setTop (entryFrame m #[.ref x, .ref y] 3)) (T11.setTop (mkF m 33 #[.val (.ref x), .val (.ref y), .val (.ref y)] [.int cd', .int cd])) := c10.trans (st11 _ (Steps.refl _))
    by_cases hcd : cd = cd'
    · subst hcd
      have c13 : Steps p.tables e below (s₁.setTop (entryFrame m #[.ref x, .ref y] 3)) (T11.setTop (mkF m 37 #[.val (.ref x), .val (.ref y), .val (.ref y)] [.ref x])) := c12.trans (by
        refine XS.icmpNo X11.here hexec rfl (hb hbytes d33) rfl (ii_ne_f rfl) ?_
        refine XS.aloadN X11.here hexec rfl (hb hbytes d36) rfl rfl ?_
        exact Steps.refl _)
      obtain ⟨T14, X14, q14, st14⟩ := X11.hget hexec hown (wk W (.fieldLink "java/lang/String" 9 "java/lang/String" "value" "[B")) (hx.mv X11.warmed.alike hh11).2.1 (g := (mkF m 37 #[.val (.ref x), .val (.ref y), .val (.ref y)] [.ref x])) rfl (rest := []) rfl (hb hbytes d37)
      have hh14 := q14.trans hh11
      have c15 : Steps p.tables e below (s₁.setTop (entryFrame m #[.ref x, .ref y] 3)) (T14.setTop (mkF m 41 #[.val (.ref x), .val (.ref y), .val (.ref y)] [.ref y, .ref t])) := (c13.trans (st14 _ (Steps.refl _))).trans (by
        refine XS.aloadN X14.here hexec rfl (hb hbytes d40) rfl rfl ?_
        exact Steps.refl _)
      obtain ⟨T16, X16, q16, st16⟩ := X14.hget hexec hown (wk W (.fieldLink "java/lang/String" 9 "java/lang/String" "value" "[B")) (hy.mv X14.warmed.alike hh14).2.1 (g := (mkF m 41 #[.val (.ref x), .val (.ref y), .val (.ref y)] [.ref y, .ref t])) rfl (rest := [.ref t]) rfl (hb hbytes d41)
      have hh16 := q16.trans hh14
      have c17 : Steps p.tables e below (s₁.setTop (entryFrame m #[.ref x, .ref y] 3)) (T16.setTop (mkF m 44 #[.val (.ref x), .val (.ref y), .val (.ref y)] [.ref t', .ref t])) := c15.trans (st16 _ (Steps.refl _))
      obtain ⟨v18, T18, X18, E18, g18⟩ := X16.callS hexec (LEq.law l t V t' V') hown (wks W (staticW "java/lang/String" 541 LEq.yN)) (wk W LEq.tab) (W := 0) (Nat.le_of_ble_eq_true rfl) (Nat.le_of_ble_eq_true rfl) (Nat.le_refl _) (Nat.le_refl _) (g := (mkF m 44 #[.val (.ref x), .val (.ref y), .val (.ref y)] [.ref t', .ref t])) rfl (by rw [hml]; rfl) c17 (argsL := [.ref t, .ref t']) (rest := []) rfl rfl (by show 2 * 0 + 0 ≤ _; decide) (hb hbytes d44) (⟨rfl, hx.2.2.2.1.mv X16.warmed.alike hh16, hx.2.2.2.2.1.ty, hy.2.2.2.1.mv X16.warmed.alike hh16, hy.2.2.2.2.1.ty⟩)
      obtain ⟨v, rfl, q18, hv⟩ := E18
      have iff := Cod.eqv hx.2.2.2.2.1 hy.2.2.2.2.1 hx.2.2.2.2.2 hy.2.2.2.2.2
      rcases hv with ⟨rfl, he⟩ | ⟨rfl, he⟩
      · have c19 : Steps p.tables e below (s₁.setTop (entryFrame m #[.ref x, .ref y] 3)) (T18.setTop (mkF m 55 #[.val (.ref x), .val (.ref y), .val (.ref y)] [.int 1])) := Steps.trans g18 (by
          refine XS.ifNo X18.here hexec rfl (hb hbytes d47) rfl (i0_eq_f (by decide)) ?_
          refine iconstV X18.here hexec rfl 1 (hb hbytes d50) (by decide) ?_
          refine XS.goto X18.here hexec rfl (pc0 := 51) rfl (hb hbytes d51) (by decide) rfl ?_
          exact Steps.refl _)
        exact ⟨T18, some (.int 1), _, _, _, X18, rfl, rfl, rfl, (fun h => by cases h), ⟨1, rfl, q18.trans hh16, Or.inl ⟨rfl, iff.mp he⟩⟩, fun fs hl => c19.trans (X18.ireturnOut hexec hret rfl (Or.inr (Or.inl rfl)) (hb hbytes d55) hl)⟩
      · have c19 : Steps p.tables e below (s₁.setTop (entryFrame m #[.ref x, .ref y] 3)) (T18.setTop (mkF m 55 #[.val (.ref x), .val (.ref y), .val (.ref y)] [.int 0])) := Steps.trans g18 (by
          refine XS.ifYes X18.here hexec rfl (pc0 := 47) rfl (hb hbytes d47) rfl (i0_eq_t rfl) (by decide) rfl ?_
          refine iconstV X18.here hexec rfl 0 (hb hbytes d54) (by decide) ?_
          exact Steps.refl _)
        exact ⟨T18, some (.int 0), _, _, _, X18, rfl, rfl, rfl, (fun h => by cases h), ⟨0, rfl, q18.trans hh16, Or.inr ⟨rfl, fun q => he (iff.mpr q)⟩⟩, fun fs hl => c19.trans (X18.ireturnOut hexec hret rfl (Or.inr (Or.inl rfl)) (hb hbytes d55) hl)⟩
    · have c13 : Steps p.tables e below (s₁.setTop (entryFrame m #[.ref x, .ref y] 3)) (T11.setTop (mkF m 55 #[.val (.ref x), .val (.ref y), .val (.ref y)] [.int 0])) := c12.trans (by
        refine XS.icmpYes X11.here hexec rfl (pc0 := 33) rfl (hb hbytes d33) rfl (ii_ne_t hcd) (by decide) rfl ?_
        refine iconstV X11.here hexec rfl 0 (hb hbytes d54) (by decide) ?_
        exact Steps.refl _)
      exact ⟨T11, some (.int 0), _, _, _, X11, rfl, rfl, rfl, (fun h => by cases h), ⟨0, rfl, hh11, Or.inr ⟨rfl, Cod.dif hx.2.2.2.2.1 hy.2.2.2.2.1 hcd⟩⟩, fun fs hl => c13.trans (X11.ireturnOut hexec hret rfl (Or.inr (Or.inl rfl)) (hb hbytes d55) hl)⟩
theorem pays {l : Launch} {R : Room} {p : Program} {e : Env} {below : List Frame} {s : State} {sargs : Array Value} {len W : Nat} (x t : Addr) (V : Cell) (cd : Int32) (n : Nat) (f : Nat → Int32) (y t' : Addr) (V' : Cell) (cd' : Int32) (k : Nat) (g : Nat → Int32) (z : Int32) (htab : tab.before sargs s = true) (hfr : 2 ≤ R.frames) (hlo : W + 28 ≤ R.locals) :
    Back l R p e below s sargs yN len W (fun A₁ a₁ => A₁.cells + 0 ≤ R.cells ∧ A₁.slots + 0 ≤ R.slots ∧ P x t V cd n f y t' V' cd' k g z a₁ A₁.U) (fun A₁ _ v₁ B₁ => Says01 (SameT n f k g) v₁ A₁.U B₁.U ∧ B₁.locs = A₁.locs ++ [] ∧ B₁.cells = A₁.cells + 0 ∧ B₁.slots = A₁.slots + 0) :=
  (law l x t V cd n f y t' V' cd' k g z).pays htab hfr (by omega)
end SEq
end StrChars
namespace StrChars.Road
open Jvm Sem ClassFile Op Lib Jvm.Stand Jvm.Free Jvm.Free.XT
open Jvm.Lib.Cold (StaticIs)
/-- the words of String.equals(Object) -/
abbrev wordsEq : List Jvm.Cond := [.code SEq.yN SEq.yB 3 (some .boolean), .initialized ST, .classLink ST 10 ST, .fieldLink ST 38 ST "COMPACT_STRINGS" "Z", .fieldLink ST 15 ST "coder" "B", .fieldLink ST 9 ST "value" "[B", .methodLink ST 541 LEq.yN, .static LEq.yN, .code LEq.yN LEq.yB 3 (some .boolean), .initialized "java/lang/StringLatin1"]
theorem tabEq_of {a : Array Value} {s : State} (h : ∀ w ∈ wordsEq, w.before a s = true) : SEq.tab.before a s = true := by
  have hl : LEq.tab.before a s = true := unparts (wk h (.code LEq.yN LEq.yB 3 (some .boolean))) (wks h (.initialized LEq.yN.cls :: LEq.site))
  have q := consq hl h
  exact unparts (wk q (.code SEq.yN SEq.yB 3 (some .boolean))) (wks q (.initialized SEq.yN.cls :: SEq.site))
theorem movedEq {Z s : State} {a0 args : Array Value} (hZ : Z.Warmed39 s.vm) (hw : ∀ d ∈ wordsEq, d.before a0 Z = true) : ∀ d ∈ wordsEq, d.before args s = true := fun d hd => by
  have t : ∀ d ∈ wordsEq, (d.onTables && d.keepsFace) = true := by decide +kernel
  exact RoadKit.mv hZ (hw d hd) (t d hd)
/-- the road's facts of a String, as the laws ask it -/
theorem txt_of {Z U : State} {a0 : Array Value} {kI : Nat} (wi : (Jvm.Cond.instantiable ST kI).before a0 Z = true) (al : Z.vm.Alike U.vm) {x t : Addr} {kb : ClassId} {cs : List Int32} {cd N2 : Int32} {vs : List Value} (E : RoadKit.Exa Z U.heap x ST) (V : RoadKit.Fld Z U.heap x ST "value" "[B" (.ref t)) (C : RoadKit.Fld Z U.heap x ST "coder" "B" (.int cd)) (K : RoadKit.Arv Z U.heap t kb .byte N2 vs (.int 0)) (hc : CodA cs cd N2 vs) (hb : ∀ c ∈ cs, ¬ c < 0 ∧ ¬ (65535 : Int32) < c) (l2 : cs.length ≤ 4000) :
    ∃ A, Txt x t A cd cs.length (fun j => cs.getD j 0) U := by
  obtain ⟨A, K1, K2, K3, K4, K5, K6⟩ := K
  have hcod := hc.cod (by omega) K3 K5
  obtain ⟨D, fV, fC, hB, F1, F2, g1, g2, -, -⟩ := strObj wi al E V C
  exact ⟨A, ⟨_, hB.2.2.1, D, hB.1, rfl, by cases q : D.vm <;> first | rfl | exact absurd q (hB.2.1.2 _)⟩, Has.of hB F1 g1, Has.of hB F2 g2, ⟨K1.1, State.isArrayOf_alike al K1.2.1, K1.2.2, by rcases hcod with ⟨-, q, -⟩ | ⟨-, q, -⟩ <;> omega⟩, hcod, fun j hj => by
    have e : cs.getD j 0 = cs[j] := by simp [List.getD_eq_getElem?_getD, hj]
    show ¬ cs.getD j 0 < 0 ∧ ¬ 65535 < cs.getD j 0
    rw [e]; exact hb _ (List.getElem_mem _)⟩
theorem same_list (cs ds : List Int32) : SameT cs.length (fun j => cs.getD j 0) ds.length (fun j => ds.getD j 0) ↔ cs = ds := by
  constructor
  · rintro ⟨e, q⟩
    refine List.ext_getElem e fun j h1 h2 => ?_
    have := q j h1
    simpa [List.getD_eq_getElem?_getD, h1, h2] using this
  · rintro rfl
    exact ⟨rfl, fun _ _ => rfl⟩
/-- **equals(Object) OF TWO SUCH STRINGS**: 1 just where the chars are the same -/
theorem eqW {p : Program} {l : Launch} {e : Env} {R : Room} {s : State} {args : Array Value} {below : List Frame} {len W : Nat} {Z : State} {a0 : Array Value} {h : Heap} (hZ : Z.Warmed39 s.vm) (hw : ∀ d ∈ wordsEq, d.before a0 Z = true) {kI : Nat} (wi : (Jvm.Cond.instantiable ST kI).before a0 Z = true)
    {x t : Addr} {kb : ClassId} {cs : List Int32} {cd N2 : Int32} {vs : List Value} (E : RoadKit.Exa Z h x ST) (V : RoadKit.Fld Z h x ST "value" "[B" (.ref t)) (C : RoadKit.Fld Z h x ST "coder" "B" (.int cd)) (K : RoadKit.Arv Z h t kb .byte N2 vs (.int 0)) (hc : CodA cs cd N2 vs) (hb : ∀ c ∈ cs, ¬ c < 0 ∧ ¬ (65535 : Int32) < c) (l2 : cs.length ≤ 4000)
    {y t' : Addr} {kb' : ClassId} {ds : List Int32} {cd' N2' : Int32} {vs' : List Value} (E' : RoadKit.Exa Z h y ST) (V' : RoadKit.Fld Z h y ST "value" "[B" (.ref t')) (C' : RoadKit.Fld Z h y ST "coder" "B" (.int cd')) (K' : RoadKit.Arv Z h t' kb' .byte N2' vs' (.int 0)) (hc' : CodA ds cd' N2' vs') (hb' : ∀ c ∈ ds, ¬ c < 0 ∧ ¬ (65535 : Int32) < c) (l2' : ds.length ≤ 4000)
    {z : Int32} (S : RoadKit.Sta Z h ST "COMPACT_STRINGS" "Z" (.int z)) (hz : ¬ z = 0) (hfr : 2 ≤ R.frames) (hlo : W + 28 ≤ R.locals) :
    Back l R p e below s args (⟨"java/lang/String", "equals", "(Ljava/lang/Object;)Z"⟩ : MethodName) len W (fun P a => a = #[.ref x, .ref y] ∧ P.U.heap = h ∧ P.cells + 0 ≤ R.cells ∧ P.slots + 0 ≤ R.slots)
      (fun P _ v B => ∃ L, (((v = some (.int 1) ∧ cs = ds) ∨ (v = some (.int 0) ∧ ¬ cs = ds)) ∧ L = [] ∧ B.U.heap = h) ∧ B.locs = P.locs ++ L ∧ B.cells = P.cells + 0 ∧ B.slots = P.slots + 0) := by
  intro m meth c P g ig mk a X hg hsize hdg hW hn hp'
  obtain ⟨rfl, rfl, r1, r2⟩ := hp'
  have al : Z.vm.Alike P.U.vm := hZ.alike.trans X.warmed.alike
  obtain ⟨A, hx⟩ := txt_of wi al E V C K hc hb l2
  obtain ⟨A', hy⟩ := txt_of wi al E' V' C' K' hc' hb' l2'
  obtain ⟨v, B, X', ⟨⟨w, hv, hh, hq⟩, hl, hk, hs⟩, st⟩ := SEq.pays x t A cd cs.length (fun j => cs.getD j 0) y t' A' cd' ds.length (fun j => ds.getD j 0) z (tabEq_of (movedEq hZ hw)) hfr hlo m meth c P g ig mk _ X hg hsize hdg hW hn ⟨r1, r2, rfl, hx, hy, sta_is al S, hz⟩
  refine ⟨v, B, X', ⟨[], ⟨?_, rfl, hh⟩, hl, hk, hs⟩, st⟩
  rcases hq with ⟨rfl, q⟩ | ⟨rfl, q⟩
  · exact Or.inl ⟨hv, (same_list cs ds).mp q⟩
  · exact Or.inr ⟨hv, fun e => q ((same_list cs ds).mpr e)⟩
end StrChars.Road
namespace StrChars.Road
open Jvm Sem ClassFile Op Lib Jvm.Stand Jvm.Free Jvm.Free.XT
open Jvm.Lib.Cold (StaticIs)
/-- what backV says of its String, as the contracts of this text ask it: cs's low bytes, coder 0 -/
theorem codOf {cs : List Int32} {n : Nat} (hn : cs.length = n) (hb : ∀ c ∈ cs, ¬ 255 < c) : CodA cs 0 (Int32.ofNat n) ((cs.map lo8).map Value.int) := Or.inl ⟨rfl, by rw [hn], by simp [List.map_map, Function.comp_def], hb⟩
end StrChars.Road
end Jvm.Pilot.@@N@@

namespace Jvm.Pilot.@@N@@
open Jvm Jvm.ClassFile Sem Op Lib Jvm.Free Jvm.Stand Jvm.LawKit Jvm.RoadKit Bundle Jvm.Pilot.@@N@@.Jvm.D
def Amb (Z : State) (o_AMPERES : Addr) (o__VALUES : Addr) (ko__VALUES : ClassId) (o_KVA : Addr) (o_KW : Addr) (o_AMPERES_symbol : Addr) (o_AMPERES_symbol_value : Addr) (ko_AMPERES_symbol_value : ClassId) (o_KVA_symbol : Addr) (o_KVA_symbol_value : Addr) (ko_KVA_symbol_value : ClassId) (o_KW_symbol : Addr) (o_KW_symbol_value : Addr) (ko_KW_symbol_value : ClassId) (G1 : Int32) : Prop := Sta Z Z.heap "com/example/tariff/tariff/BasicCharges$Unit" "AMPERES" "Lcom/example/tariff/tariff/BasicCharges$Unit;" (.ref o_AMPERES) ∧ Exa Z Z.heap o_AMPERES "com/example/tariff/tariff/BasicCharges$Unit" ∧ Sta Z Z.heap "com/example/tariff/tariff/BasicCharges$Unit" "$VALUES" "[Lcom/example/tariff/tariff/BasicCharges$Unit;" (.ref o__VALUES) ∧ Exa Z Z.heap o__VALUES "[Lcom/example/tariff/tariff/BasicCharges$Unit;" ∧ Sta Z Z.heap "com/example/tariff/tariff/BasicCharges$Unit" "KVA" "Lcom/example/tariff/tariff/BasicCharges$Unit;" (.ref o_KVA) ∧ Exa Z Z.heap o_KVA "com/example/tariff/tariff/BasicCharges$Unit" ∧ Sta Z Z.heap "com/example/tariff/tariff/BasicCharges$Unit" "KW" "Lcom/example/tariff/tariff/BasicCharges$Unit;" (.ref o_KW) ∧ Exa Z Z.heap o_KW "com/example/tariff/tariff/BasicCharges$Unit" ∧ Fld Z Z.heap o_AMPERES "com/example/tariff/tariff/BasicCharges$Unit" "symbol" "Ljava/lang/String;" (.ref o_AMPERES_symbol) ∧ Exa Z Z.heap o_AMPERES_symbol "java/lang/String" ∧ Fld Z Z.heap o_AMPERES_symbol "java/lang/String" "value" "[B" (.ref o_AMPERES_symbol_value) ∧ Fld Z Z.heap o_KVA "com/example/tariff/tariff/BasicCharges$Unit" "symbol" "Ljava/lang/String;" (.ref o_KVA_symbol) ∧ Exa Z Z.heap o_KVA_symbol "java/lang/String" ∧ Fld Z Z.heap o_KVA_symbol "java/lang/String" "value" "[B" (.ref o_KVA_symbol_value) ∧ Fld Z Z.heap o_KW "com/example/tariff/tariff/BasicCharges$Unit" "symbol" "Ljava/lang/String;" (.ref o_KW_symbol) ∧ Exa Z Z.heap o_KW_symbol "java/lang/String" ∧ Fld Z Z.heap o_KW_symbol "java/lang/String" "value" "[B" (.ref o_KW_symbol_value) ∧ Fld Z Z.heap o_AMPERES_symbol "java/lang/String" "coder" "B" (.int (0 : Int32)) ∧ Fld Z Z.heap o_KVA_symbol "java/lang/String" "coder" "B" (.int (0 : Int32)) ∧ Fld Z Z.heap o_KW_symbol "java/lang/String" "coder" "B" (.int (0 : Int32)) ∧ Arv Z Z.heap o__VALUES ko__VALUES (.object "com/example/tariff/tariff/BasicCharges$Unit") (3 : Int32) [(.ref o_AMPERES), (.ref o_KVA), (.ref o_KW)] .null ∧ Arv Z Z.heap o_AMPERES_symbol_value ko_AMPERES_symbol_value .byte (1 : Int32) [(.int (65 : Int32))] (.int (0 : Int32)) ∧ Arv Z Z.heap o_KVA_symbol_value ko_KVA_symbol_value .byte (3 : Int32) [(.int (107 : Int32)), (.int (86 : Int32)), (.int (65 : Int32))] (.int (0 : Int32)) ∧ Arv Z Z.heap o_KW_symbol_value ko_KW_symbol_value .byte (2 : Int32) [(.int (107 : Int32)), (.int (87 : Int32))] (.int (0 : Int32)) ∧ Sta Z Z.heap "java/lang/String" "COMPACT_STRINGS" "Z" (.int G1) ∧ (¬ (G1 = (0 : Int32))) ∧ True
theorem Amb.a0 {Z : State} {o_AMPERES : Addr} {o__VALUES : Addr} {ko__VALUES : ClassId} {o_KVA : Addr} {o_KW : Addr} {o_AMPERES_symbol : Addr} {o_AMPERES_symbol_value : Addr} {ko_AMPERES_symbol_value : ClassId} {o_KVA_symbol : Addr} {o_KVA_symbol_value : Addr} {ko_KVA_symbol_value : ClassId} {o_KW_symbol : Addr} {o_KW_symbol_value : Addr} {ko_KW_symbol_value : ClassId} {G1 : Int32} (A : Amb Z o_AMPERES o__VALUES ko__VALUES o_KVA o_KW o_AMPERES_symbol o_AMPERES_symbol_value ko_AMPERES_symbol_value o_KVA_symbol o_KVA_symbol_value ko_KVA_symbol_value o_KW_symbol o_KW_symbol_value ko_KW_symbol_value G1) : Sta Z Z.heap "com/example/tariff/tariff/BasicCharges$Unit" "AMPERES" "Lcom/example/tariff/tariff/BasicCharges$Unit;" (.ref o_AMPERES) := A.1
theorem Amb.a1 {Z : State} {o_AMPERES : Addr} {o__VALUES : Addr} {ko__VALUES : ClassId} {o_KVA : Addr} {o_KW : Addr} {o_AMPERES_symbol : Addr} {o_AMPERES_symbol_value : Addr} {ko_AMPERES_symbol_value : ClassId} {o_KVA_symbol : Addr} {o_KVA_symbol_value : Addr} {ko_KVA_symbol_value : ClassId} {o_KW_symbol : Addr} {o_KW_symbol_value : Addr} {ko_KW_symbol_value : ClassId} {G1 : Int32} (A : Amb Z o_AMPERES o__VALUES ko__VALUES o_KVA o_KW o_AMPERES_symbol o_AMPERES_symbol_value ko_AMPERES_symbol_value o_KVA_symbol o_KVA_symbol_value ko_KVA_symbol_value o_KW_symbol o_KW_symbol_value ko_KW_symbol_value G1) : Exa Z Z.heap o_AMPERES "com/example/tariff/tariff/BasicCharges$Unit" := A.2.1
theorem Amb.a2 {Z : State} {o_AMPERES : Addr} {o__VALUES : Addr} {ko__VALUES : ClassId} {o_KVA : Addr} {o_KW : Addr} {o_AMPERES_symbol : Addr} {o_AMPERES_symbol_value : Addr} {ko_AMPERES_symbol_value : ClassId} {o_KVA_symbol : Addr} {o_KVA_symbol_value : Addr} {ko_KVA_symbol_value : ClassId} {o_KW_symbol : Addr} {o_KW_symbol_value : Addr} {ko_KW_symbol_value : ClassId} {G1 : Int32} (A : Amb Z o_AMPERES o__VALUES ko__VALUES o_KVA o_KW o_AMPERES_symbol o_AMPERES_symbol_value ko_AMPERES_symbol_value o_KVA_symbol o_KVA_symbol_value ko_KVA_symbol_value o_KW_symbol o_KW_symbol_value ko_KW_symbol_value G1) : Sta Z Z.heap "com/example/tariff/tariff/BasicCharges$Unit" "$VALUES" "[Lcom/example/tariff/tariff/BasicCharges$Unit;" (.ref o__VALUES) := A.2.2.1
theorem Amb.a3 {Z : State} {o_AMPERES : Addr} {o__VALUES : Addr} {ko__VALUES : ClassId} {o_KVA : Addr} {o_KW : Addr} {o_AMPERES_symbol : Addr} {o_AMPERES_symbol_value : Addr} {ko_AMPERES_symbol_value : ClassId} {o_KVA_symbol : Addr} {o_KVA_symbol_value : Addr} {ko_KVA_symbol_value : ClassId} {o_KW_symbol : Addr} {o_KW_symbol_value : Addr} {ko_KW_symbol_value : ClassId} {G1 : Int32} (A : Amb Z o_AMPERES o__VALUES ko__VALUES o_KVA o_KW o_AMPERES_symbol o_AMPERES_symbol_value ko_AMPERES_symbol_value o_KVA_symbol o_KVA_symbol_value ko_KVA_symbol_value o_KW_symbol o_KW_symbol_value ko_KW_symbol_value G1) : Exa Z Z.heap o__VALUES "[Lcom/example/tariff/tariff/BasicCharges$Unit;" := A.2.2.2.1
theorem Amb.a4 {Z : State} {o_AMPERES : Addr} {o__VALUES : Addr} {ko__VALUES : ClassId} {o_KVA : Addr} {o_KW : Addr} {o_AMPERES_symbol : Addr} {o_AMPERES_symbol_value : Addr} {ko_AMPERES_symbol_value : ClassId} {o_KVA_symbol : Addr} {o_KVA_symbol_value : Addr} {ko_KVA_symbol_value : ClassId} {o_KW_symbol : Addr} {o_KW_symbol_value : Addr} {ko_KW_symbol_value : ClassId} {G1 : Int32} (A : Amb Z o_AMPERES o__VALUES ko__VALUES o_KVA o_KW o_AMPERES_symbol o_AMPERES_symbol_value ko_AMPERES_symbol_value o_KVA_symbol o_KVA_symbol_value ko_KVA_symbol_value o_KW_symbol o_KW_symbol_value ko_KW_symbol_value G1) : Sta Z Z.heap "com/example/tariff/tariff/BasicCharges$Unit" "KVA" "Lcom/example/tariff/tariff/BasicCharges$Unit;" (.ref o_KVA) := A.2.2.2.2.1
theorem Amb.a5 {Z : State} {o_AMPERES : Addr} {o__VALUES : Addr} {ko__VALUES : ClassId} {o_KVA : Addr} {o_KW : Addr} {o_AMPERES_symbol : Addr} {o_AMPERES_symbol_value : Addr} {ko_AMPERES_symbol_value : ClassId} {o_KVA_symbol : Addr} {o_KVA_symbol_value : Addr} {ko_KVA_symbol_value : ClassId} {o_KW_symbol : Addr} {o_KW_symbol_value : Addr} {ko_KW_symbol_value : ClassId} {G1 : Int32} (A : Amb Z o_AMPERES o__VALUES ko__VALUES o_KVA o_KW o_AMPERES_symbol o_AMPERES_symbol_value ko_AMPERES_symbol_value o_KVA_symbol o_KVA_symbol_value ko_KVA_symbol_value o_KW_symbol o_KW_symbol_value ko_KW_symbol_value G1) : Exa Z Z.heap o_KVA "com/example/tariff/tariff/BasicCharges$Unit" := A.2.2.2.2.2.1
theorem Amb.a6 {Z : State} {o_AMPERES : Addr} {o__VALUES : Addr} {ko__VALUES : ClassId} {o_KVA : Addr} {o_KW : Addr} {o_AMPERES_symbol : Addr} {o_AMPERES_symbol_value : Addr} {ko_AMPERES_symbol_value : ClassId} {o_KVA_symbol : Addr} {o_KVA_symbol_value : Addr} {ko_KVA_symbol_value : ClassId} {o_KW_symbol : Addr} {o_KW_symbol_value : Addr} {ko_KW_symbol_value : ClassId} {G1 : Int32} (A : Amb Z o_AMPERES o__VALUES ko__VALUES o_KVA o_KW o_AMPERES_symbol o_AMPERES_symbol_value ko_AMPERES_symbol_value o_KVA_symbol o_KVA_symbol_value ko_KVA_symbol_value o_KW_symbol o_KW_symbol_value ko_KW_symbol_value G1) : Sta Z Z.heap "com/example/tariff/tariff/BasicCharges$Unit" "KW" "Lcom/example/tariff/tariff/BasicCharges$Unit;" (.ref o_KW) := A.2.2.2.2.2.2.1
theorem Amb.a7 {Z : State} {o_AMPERES : Addr} {o__VALUES : Addr} {ko__VALUES : ClassId} {o_KVA : Addr} {o_KW : Addr} {o_AMPERES_symbol : Addr} {o_AMPERES_symbol_value : Addr} {ko_AMPERES_symbol_value : ClassId} {o_KVA_symbol : Addr} {o_KVA_symbol_value : Addr} {ko_KVA_symbol_value : ClassId} {o_KW_symbol : Addr} {o_KW_symbol_value : Addr} {ko_KW_symbol_value : ClassId} {G1 : Int32} (A : Amb Z o_AMPERES o__VALUES ko__VALUES o_KVA o_KW o_AMPERES_symbol o_AMPERES_symbol_value ko_AMPERES_symbol_value o_KVA_symbol o_KVA_symbol_value ko_KVA_symbol_value o_KW_symbol o_KW_symbol_value ko_KW_symbol_value G1) : Exa Z Z.heap o_KW "com/example/tariff/tariff/BasicCharges$Unit" := A.2.2.2.2.2.2.2.1
theorem Amb.a8 {Z : State} {o_AMPERES : Addr} {o__VALUES : Addr} {ko__VALUES : ClassId} {o_KVA : Addr} {o_KW : Addr} {o_AMPERES_symbol : Addr} {o_AMPERES_symbol_value : Addr} {ko_AMPERES_symbol_value : ClassId} {o_KVA_symbol : Addr} {o_KVA_symbol_value : Addr} {ko_KVA_symbol_value : ClassId} {o_KW_symbol : Addr} {o_KW_symbol_value : Addr} {ko_KW_symbol_value : ClassId} {G1 : Int32} (A : Amb Z o_AMPERES o__VALUES ko__VALUES o_KVA o_KW o_AMPERES_symbol o_AMPERES_symbol_value ko_AMPERES_symbol_value o_KVA_symbol o_KVA_symbol_value ko_KVA_symbol_value o_KW_symbol o_KW_symbol_value ko_KW_symbol_value G1) : Fld Z Z.heap o_AMPERES "com/example/tariff/tariff/BasicCharges$Unit" "symbol" "Ljava/lang/String;" (.ref o_AMPERES_symbol) := A.2.2.2.2.2.2.2.2.1
theorem Amb.a9 {Z : State} {o_AMPERES : Addr} {o__VALUES : Addr} {ko__VALUES : ClassId} {o_KVA : Addr} {o_KW : Addr} {o_AMPERES_symbol : Addr} {o_AMPERES_symbol_value : Addr} {ko_AMPERES_symbol_value : ClassId} {o_KVA_symbol : Addr} {o_KVA_symbol_value : Addr} {ko_KVA_symbol_value : ClassId} {o_KW_symbol : Addr} {o_KW_symbol_value : Addr} {ko_KW_symbol_value : ClassId} {G1 : Int32} (A : Amb Z o_AMPERES o__VALUES ko__VALUES o_KVA o_KW o_AMPERES_symbol o_AMPERES_symbol_value ko_AMPERES_symbol_value o_KVA_symbol o_KVA_symbol_value ko_KVA_symbol_value o_KW_symbol o_KW_symbol_value ko_KW_symbol_value G1) : Exa Z Z.heap o_AMPERES_symbol "java/lang/String" := A.2.2.2.2.2.2.2.2.2.1
theorem Amb.a10 {Z : State} {o_AMPERES : Addr} {o__VALUES : Addr} {ko__VALUES : ClassId} {o_KVA : Addr} {o_KW : Addr} {o_AMPERES_symbol : Addr} {o_AMPERES_symbol_value : Addr} {ko_AMPERES_symbol_value : ClassId} {o_KVA_symbol : Addr} {o_KVA_symbol_value : Addr} {ko_KVA_symbol_value : ClassId} {o_KW_symbol : Addr} {o_KW_symbol_value : Addr} {ko_KW_symbol_value : ClassId} {G1 : Int32} (A : Amb Z o_AMPERES o__VALUES ko__VALUES o_KVA o_KW o_AMPERES_symbol o_AMPERES_symbol_value ko_AMPERES_symbol_value o_KVA_symbol o_KVA_symbol_value ko_KVA_symbol_value o_KW_symbol o_KW_symbol_value ko_KW_symbol_value G1) : Fld Z Z.heap o_AMPERES_symbol "java/lang/String" "value" "[B" (.ref o_AMPERES_symbol_value) := A.2.2.2.2.2.2.2.2.2.2.1
theorem Amb.a11 {Z : State} {o_AMPERES : Addr} {o__VALUES : Addr} {ko__VALUES : ClassId} {o_KVA : Addr} {o_KW : Addr} {o_AMPERES_symbol : Addr} {o_AMPERES_symbol_value : Addr} {ko_AMPERES_symbol_value : ClassId} {o_KVA_symbol : Addr} {o_KVA_symbol_value : Addr} {ko_KVA_symbol_value : ClassId} {o_KW_symbol : Addr} {o_KW_symbol_value : Addr} {ko_KW_symbol_value : ClassId} {G1 : Int32} (A : Amb Z o_AMPERES o__VALUES ko__VALUES o_KVA o_KW o_AMPERES_symbol o_AMPERES_symbol_value ko_AMPERES_symbol_value o_KVA_symbol o_KVA_symbol_value ko_KVA_symbol_value o_KW_symbol o_KW_symbol_value ko_KW_symbol_value G1) : Fld Z Z.heap o_KVA "com/example/tariff/tariff/BasicCharges$Unit" "symbol" "Ljava/lang/String;" (.ref o_KVA_symbol) := A.2.2.2.2.2.2.2.2.2.2.2.1
theorem Amb.a12 {Z : State} {o_AMPERES : Addr} {o__VALUES : Addr} {ko__VALUES : ClassId} {o_KVA : Addr} {o_KW : Addr} {o_AMPERES_symbol : Addr} {o_AMPERES_symbol_value : Addr} {ko_AMPERES_symbol_value : ClassId} {o_KVA_symbol : Addr} {o_KVA_symbol_value : Addr} {ko_KVA_symbol_value : ClassId} {o_KW_symbol : Addr} {o_KW_symbol_value : Addr} {ko_KW_symbol_value : ClassId} {G1 : Int32} (A : Amb Z o_AMPERES o__VALUES ko__VALUES o_KVA o_KW o_AMPERES_symbol o_AMPERES_symbol_value ko_AMPERES_symbol_value o_KVA_symbol o_KVA_symbol_value ko_KVA_symbol_value o_KW_symbol o_KW_symbol_value ko_KW_symbol_value G1) : Exa Z Z.heap o_KVA_symbol "java/lang/String" := A.2.2.2.2.2.2.2.2.2.2.2.2.1
theorem Amb.a13 {Z : State} {o_AMPERES : Addr} {o__VALUES : Addr} {ko__VALUES : ClassId} {o_KVA : Addr} {o_KW : Addr} {o_AMPERES_symbol : Addr} {o_AMPERES_symbol_value : Addr} {ko_AMPERES_symbol_value : ClassId} {o_KVA_symbol : Addr} {o_KVA_symbol_value : Addr} {ko_KVA_symbol_value : ClassId} {o_KW_symbol : Addr} {o_KW_symbol_value : Addr} {ko_KW_symbol_value : ClassId} {G1 : Int32} (A : Amb Z o_AMPERES o__VALUES ko__VALUES o_KVA o_KW o_AMPERES_symbol o_AMPERES_symbol_value ko_AMPERES_symbol_value o_KVA_symbol o_KVA_symbol_value ko_KVA_symbol_value o_KW_symbol o_KW_symbol_value ko_KW_symbol_value G1) : Fld Z Z.heap o_KVA_symbol "java/lang/String" "value" "[B" (.ref o_KVA_symbol_value) := A.2.2.2.2.2.2.2.2.2.2.2.2.2.1
theorem Amb.a14 {Z : State} {o_AMPERES : Addr} {o__VALUES : Addr} {ko__VALUES : ClassId} {o_KVA : Addr} {o_KW : Addr} {o_AMPERES_symbol : Addr} {o_AMPERES_symbol_value : Addr} {ko_AMPERES_symbol_value : ClassId} {o_KVA_symbol : Addr} {o_KVA_symbol_value : Addr} {ko_KVA_symbol_value : ClassId} {o_KW_symbol : Addr} {o_KW_symbol_value : Addr} {ko_KW_symbol_value : ClassId} {G1 : Int32} (A : Amb Z o_AMPERES o__VALUES ko__VALUES o_KVA o_KW o_AMPERES_symbol o_AMPERES_symbol_value ko_AMPERES_symbol_value o_KVA_symbol o_KVA_symbol_value ko_KVA_symbol_value o_KW_symbol o_KW_symbol_value ko_KW_symbol_value G1) : Fld Z Z.heap o_KW "com/example/tariff/tariff/BasicCharges$Unit" "symbol" "Ljava/lang/String;" (.ref o_KW_symbol) := A.2.2.2.2.2.2.2.2.2.2.2.2.2.2.1
theorem Amb.a15 {Z : State} {o_AMPERES : Addr} {o__VALUES : Addr} {ko__VALUES : ClassId} {o_KVA : Addr} {o_KW : Addr} {o_AMPERES_symbol : Addr} {o_AMPERES_symbol_value : Addr} {ko_AMPERES_symbol_value : ClassId} {o_KVA_symbol : Addr} {o_KVA_symbol_value : Addr} {ko_KVA_symbol_value : ClassId} {o_KW_symbol : Addr} {o_KW_symbol_value : Addr} {ko_KW_symbol_value : ClassId} {G1 : Int32} (A : Amb Z o_AMPERES o__VALUES ko__VALUES o_KVA o_KW o_AMPERES_symbol o_AMPERES_symbol_value ko_AMPERES_symbol_value o_KVA_symbol o_KVA_symbol_value ko_KVA_symbol_value o_KW_symbol o_KW_symbol_value ko_KW_symbol_value G1) : Exa Z Z.heap o_KW_symbol "java/lang/String" := A.2.2.2.2.2.2.2.2.2.2.2.2.2.2.2.1
theorem Amb.a16 {Z : State} {o_AMPERES : Addr} {o__VALUES : Addr} {ko__VALUES : ClassId} {o_KVA : Addr} {o_KW : Addr} {o_AMPERES_symbol : Addr} {o_AMPERES_symbol_value : Addr} {ko_AMPERES_symbol_value : ClassId} {o_KVA_symbol : Addr} {o_KVA_symbol_value : Addr} {ko_KVA_symbol_value : ClassId} {o_KW_symbol : Addr} {o_KW_symbol_value : Addr} {ko_KW_symbol_value : ClassId} {G1 : Int32} (A : Amb Z o_AMPERES o__VALUES ko__VALUES o_KVA o_KW o_AMPERES_symbol o_AMPERES_symbol_value ko_AMPERES_symbol_value o_KVA_symbol o_KVA_symbol_value ko_KVA_symbol_value o_KW_symbol o_KW_symbol_value ko_KW_symbol_value G1) : Fld Z Z.heap o_KW_symbol "java/lang/String" "value" "[B" (.ref o_KW_symbol_value) := A.2.2.2.2.2.2.2.2.2.2.2.2.2.2.2.2.1
theorem Amb.a17 {Z : State} {o_AMPERES : Addr} {o__VALUES : Addr} {ko__VALUES : ClassId} {o_KVA : Addr} {o_KW : Addr} {o_AMPERES_symbol : Addr} {o_AMPERES_symbol_value : Addr} {ko_AMPERES_symbol_value : ClassId} {o_KVA_symbol : Addr} {o_KVA_symbol_value : Addr} {ko_KVA_symbol_value : ClassId} {o_KW_symbol : Addr} {o_KW_symbol_value : Addr} {ko_KW_symbol_value : ClassId} {G1 : Int32} (A : Amb Z o_AMPERES o__VALUES ko__VALUES o_KVA o_KW o_AMPERES_symbol o_AMPERES_symbol_value ko_AMPERES_symbol_value o_KVA_symbol o_KVA_symbol_value ko_KVA_symbol_value o_KW_symbol o_KW_symbol_value ko_KW_symbol_value G1) : Fld Z Z.heap o_AMPERES_symbol "java/lang/String" "coder" "B" (.int (0 : Int32)) := A.2.2.2.2.2.2.2.2.2.2.2.2.2.2.2.2.2.1
theorem Amb.a18 {Z : State} {o_AMPERES : Addr} {o__VALUES : Addr} {ko__VALUES : ClassId} {o_KVA : Addr} {o_KW : Addr} {o_AMPERES_symbol : Addr} {o_AMPERES_symbol_value : Addr} {ko_AMPERES_symbol_value : ClassId} {o_KVA_symbol : Addr} {o_KVA_symbol_value : Addr} {ko_KVA_symbol_value : ClassId} {o_KW_symbol : Addr} {o_KW_symbol_value : Addr} {ko_KW_symbol_value : ClassId} {G1 : Int32} (A : Amb Z o_AMPERES o__VALUES ko__VALUES o_KVA o_KW o_AMPERES_symbol o_AMPERES_symbol_value ko_AMPERES_symbol_value o_KVA_symbol o_KVA_symbol_value ko_KVA_symbol_value o_KW_symbol o_KW_symbol_value ko_KW_symbol_value G1) : Fld Z Z.heap o_KVA_symbol "java/lang/String" "coder" "B" (.int (0 : Int32)) := A.2.2.2.2.2.2.2.2.2.2.2.2.2.2.2.2.2.2.1
theorem Amb.a19 {Z : State} {o_AMPERES : Addr} {o__VALUES : Addr} {ko__VALUES : ClassId} {o_KVA : Addr} {o_KW : Addr} {o_AMPERES_symbol : Addr} {o_AMPERES_symbol_value : Addr} {ko_AMPERES_symbol_value : ClassId} {o_KVA_symbol : Addr} {o_KVA_symbol_value : Addr} {ko_KVA_symbol_value : ClassId} {o_KW_symbol : Addr} {o_KW_symbol_value : Addr} {ko_KW_symbol_value : ClassId} {G1 : Int32} (A : Amb Z o_AMPERES o__VALUES ko__VALUES o_KVA o_KW o_AMPERES_symbol o_AMPERES_symbol_value ko_AMPERES_symbol_value o_KVA_symbol o_KVA_symbol_value ko_KVA_symbol_value o_KW_symbol o_KW_symbol_value ko_KW_symbol_value G1) : Fld Z Z.heap o_KW_symbol "java/lang/String" "coder" "B" (.int (0 : Int32)) := A.2.2.2.2.2.2.2.2.2.2.2.2.2.2.2.2.2.2.2.1
theorem Amb.a20 {Z : State} {o_AMPERES : Addr} {o__VALUES : Addr} {ko__VALUES : ClassId} {o_KVA : Addr} {o_KW : Addr} {o_AMPERES_symbol : Addr} {o_AMPERES_symbol_value : Addr} {ko_AMPERES_symbol_value : ClassId} {o_KVA_symbol : Addr} {o_KVA_symbol_value : Addr} {ko_KVA_symbol_value : ClassId} {o_KW_symbol : Addr} {o_KW_symbol_value : Addr} {ko_KW_symbol_value : ClassId} {G1 : Int32} (A : Amb Z o_AMPERES o__VALUES ko__VALUES o_KVA o_KW o_AMPERES_symbol o_AMPERES_symbol_value ko_AMPERES_symbol_value o_KVA_symbol o_KVA_symbol_value ko_KVA_symbol_value o_KW_symbol o_KW_symbol_value ko_KW_symbol_value G1) : Arv Z Z.heap o__VALUES ko__VALUES (.object "com/example/tariff/tariff/BasicCharges$Unit") (3 : Int32) [(.ref o_AMPERES), (.ref o_KVA), (.ref o_KW)] .null := A.2.2.2.2.2.2.2.2.2.2.2.2.2.2.2.2.2.2.2.2.1
theorem Amb.a21 {Z : State} {o_AMPERES : Addr} {o__VALUES : Addr} {ko__VALUES : ClassId} {o_KVA : Addr} {o_KW : Addr} {o_AMPERES_symbol : Addr} {o_AMPERES_symbol_value : Addr} {ko_AMPERES_symbol_value : ClassId} {o_KVA_symbol : Addr} {o_KVA_symbol_value : Addr} {ko_KVA_symbol_value : ClassId} {o_KW_symbol : Addr} {o_KW_symbol_value : Addr} {ko_KW_symbol_value : ClassId} {G1 : Int32} (A : Amb Z o_AMPERES o__VALUES ko__VALUES o_KVA o_KW o_AMPERES_symbol o_AMPERES_symbol_value ko_AMPERES_symbol_value o_KVA_symbol o_KVA_symbol_value ko_KVA_symbol_value o_KW_symbol o_KW_symbol_value ko_KW_symbol_value G1) : Arv Z Z.heap o_AMPERES_symbol_value ko_AMPERES_symbol_value .byte (1 : Int32) [(.int (65 : Int32))] (.int (0 : Int32)) := A.2.2.2.2.2.2.2.2.2.2.2.2.2.2.2.2.2.2.2.2.2.1
theorem Amb.a22 {Z : State} {o_AMPERES : Addr} {o__VALUES : Addr} {ko__VALUES : ClassId} {o_KVA : Addr} {o_KW : Addr} {o_AMPERES_symbol : Addr} {o_AMPERES_symbol_value : Addr} {ko_AMPERES_symbol_value : ClassId} {o_KVA_symbol : Addr} {o_KVA_symbol_value : Addr} {ko_KVA_symbol_value : ClassId} {o_KW_symbol : Addr} {o_KW_symbol_value : Addr} {ko_KW_symbol_value : ClassId} {G1 : Int32} (A : Amb Z o_AMPERES o__VALUES ko__VALUES o_KVA o_KW o_AMPERES_symbol o_AMPERES_symbol_value ko_AMPERES_symbol_value o_KVA_symbol o_KVA_symbol_value ko_KVA_symbol_value o_KW_symbol o_KW_symbol_value ko_KW_symbol_value G1) : Arv Z Z.heap o_KVA_symbol_value ko_KVA_symbol_value .byte (3 : Int32) [(.int (107 : Int32)), (.int (86 : Int32)), (.int (65 : Int32))] (.int (0 : Int32)) := A.2.2.2.2.2.2.2.2.2.2.2.2.2.2.2.2.2.2.2.2.2.2.1
theorem Amb.a23 {Z : State} {o_AMPERES : Addr} {o__VALUES : Addr} {ko__VALUES : ClassId} {o_KVA : Addr} {o_KW : Addr} {o_AMPERES_symbol : Addr} {o_AMPERES_symbol_value : Addr} {ko_AMPERES_symbol_value : ClassId} {o_KVA_symbol : Addr} {o_KVA_symbol_value : Addr} {ko_KVA_symbol_value : ClassId} {o_KW_symbol : Addr} {o_KW_symbol_value : Addr} {ko_KW_symbol_value : ClassId} {G1 : Int32} (A : Amb Z o_AMPERES o__VALUES ko__VALUES o_KVA o_KW o_AMPERES_symbol o_AMPERES_symbol_value ko_AMPERES_symbol_value o_KVA_symbol o_KVA_symbol_value ko_KVA_symbol_value o_KW_symbol o_KW_symbol_value ko_KW_symbol_value G1) : Arv Z Z.heap o_KW_symbol_value ko_KW_symbol_value .byte (2 : Int32) [(.int (107 : Int32)), (.int (87 : Int32))] (.int (0 : Int32)) := A.2.2.2.2.2.2.2.2.2.2.2.2.2.2.2.2.2.2.2.2.2.2.2.1
theorem Amb.a24 {Z : State} {o_AMPERES : Addr} {o__VALUES : Addr} {ko__VALUES : ClassId} {o_KVA : Addr} {o_KW : Addr} {o_AMPERES_symbol : Addr} {o_AMPERES_symbol_value : Addr} {ko_AMPERES_symbol_value : ClassId} {o_KVA_symbol : Addr} {o_KVA_symbol_value : Addr} {ko_KVA_symbol_value : ClassId} {o_KW_symbol : Addr} {o_KW_symbol_value : Addr} {ko_KW_symbol_value : ClassId} {G1 : Int32} (A : Amb Z o_AMPERES o__VALUES ko__VALUES o_KVA o_KW o_AMPERES_symbol o_AMPERES_symbol_value ko_AMPERES_symbol_value o_KVA_symbol o_KVA_symbol_value ko_KVA_symbol_value o_KW_symbol o_KW_symbol_value ko_KW_symbol_value G1) : Sta Z Z.heap "java/lang/String" "COMPACT_STRINGS" "Z" (.int G1) := A.2.2.2.2.2.2.2.2.2.2.2.2.2.2.2.2.2.2.2.2.2.2.2.2.1
theorem Amb.g1 {Z : State} {o_AMPERES : Addr} {o__VALUES : Addr} {ko__VALUES : ClassId} {o_KVA : Addr} {o_KW : Addr} {o_AMPERES_symbol : Addr} {o_AMPERES_symbol_value : Addr} {ko_AMPERES_symbol_value : ClassId} {o_KVA_symbol : Addr} {o_KVA_symbol_value : Addr} {ko_KVA_symbol_value : ClassId} {o_KW_symbol : Addr} {o_KW_symbol_value : Addr} {ko_KW_symbol_value : ClassId} {G1 : Int32} (A : Amb Z o_AMPERES o__VALUES ko__VALUES o_KVA o_KW o_AMPERES_symbol o_AMPERES_symbol_value ko_AMPERES_symbol_value o_KVA_symbol o_KVA_symbol_value ko_KVA_symbol_value o_KW_symbol o_KW_symbol_value ko_KW_symbol_value G1) : ¬ (G1 = (0 : Int32)) := A.2.2.2.2.2.2.2.2.2.2.2.2.2.2.2.2.2.2.2.2.2.2.2.2.2.1

theorem own_words : ∀ d ∈ StrChars.Road.words, d ∈ tables_1 := by decide +kernel

theorem own_wordsEq : ∀ d ∈ StrChars.Road.wordsEq, d ∈ tables_1 := by decide +kernel
theorem own_eqY {v : Option Value} {cs ds : List Int32} (h : (v = some (.int 1) ∧ cs = ds) ∨ (v = some (.int 0) ∧ ¬ cs = ds)) (e : cs = ds) : v = some (.int 1) ∧ True := by
  rcases h with ⟨h, -⟩ | ⟨-, h⟩
  · exact ⟨h, trivial⟩
  · exact absurd e h
theorem own_eqN {v : Option Value} {cs ds : List Int32} (h : (v = some (.int 1) ∧ cs = ds) ∨ (v = some (.int 0) ∧ ¬ cs = ds)) (e : ¬ cs = ds) : v = some (.int 0) ∧ True := by
  rcases h with ⟨-, h⟩ | ⟨h, -⟩
  · exact absurd h e
  · exact ⟨h, trivial⟩

theorem d8_0 : decode prog_3_method_1_code 0 = .ok (.getstatic 13, 3) := by decide +kernel
theorem d8_3 : decode prog_3_method_1_code 3 = .ok (.invokevirtual 17, 3) := by decide +kernel
theorem d8_6 : decode prog_3_method_1_code 6 = .ok (.checkcast 18, 3) := by decide +kernel
theorem d8_9 : decode prog_3_method_1_code 9 = .ok (.areturn, 1) := by decide +kernel
theorem pn_8 : plainName "com/example/tariff/tariff/BasicCharges$Unit" = true := by first | (simp [plainName, overriddenIn]; done) | decide +kernel
theorem ef_8 (m : MethodId)  : entryFrame m #[] 0 = mkF m 0 #[] [] := by first | (simp [entryFrame, mkF, argsToLocals, Value.category]; done) | rfl
def Q8 (Z : State) (o_AMPERES : Addr) (o__VALUES : Addr) (ko__VALUES : ClassId) (o_KVA : Addr) (o_KW : Addr) (o_AMPERES_symbol : Addr) (o_AMPERES_symbol_value : Addr) (ko_AMPERES_symbol_value : ClassId) (o_KVA_symbol : Addr) (o_KVA_symbol_value : Addr) (ko_KVA_symbol_value : ClassId) (o_KW_symbol : Addr) (o_KW_symbol_value : Addr) (ko_KW_symbol_value : ClassId) (G1 : Int32) (h0 : Heap) (n0 : Nat) (v : Option Value) (h : Heap) (L : List Loc) : Prop := ∃ ob : Addr, v = some (.ref ob) ∧ Fr n0 L ∧ Keep h0 h [] ∧ Arv Z h ob ko__VALUES (.object "com/example/tariff/tariff/BasicCharges$Unit") (3 : Int32) [(.ref o_AMPERES), (.ref o_KVA), (.ref o_KW)] .null ∧ Exa Z h ob "[Lcom/example/tariff/tariff/BasicCharges$Unit;" ∧ (h0.size ≤ ob)
set_option maxRecDepth 65536 in
set_option maxHeartbeats 40000000 in
theorem rm8 (l : Launch) (Z : State) (a0 : Array Value) (hw : ∀ d ∈ tables_1, d.before a0 Z = true) (ws : List Jvm.Cond) (o_AMPERES : Addr) (o__VALUES : Addr) (ko__VALUES : ClassId) (o_KVA : Addr) (o_KW : Addr) (o_AMPERES_symbol : Addr) (o_AMPERES_symbol_value : Addr) (ko_AMPERES_symbol_value : ClassId) (o_KVA_symbol : Addr) (o_KVA_symbol_value : Addr) (ko_KVA_symbol_value : ClassId) (o_KW_symbol : Addr) (o_KW_symbol_value : Addr) (ko_KW_symbol_value : ClassId) (G1 : Int32) (h0 : Heap) (n0 : Nat) (Z0 : n0 ≤ h0.size) (OLD : Old Z n0 h0) (A : Amb Z o_AMPERES o__VALUES ko__VALUES o_KVA o_KW o_AMPERES_symbol o_AMPERES_symbol_value ko_AMPERES_symbol_value o_KVA_symbol o_KVA_symbol_value ko_KVA_symbol_value o_KW_symbol o_KW_symbol_value ko_KW_symbol_value G1) :
    MetFree l (⟨"com/example/tariff/tariff/BasicCharges$Unit", "values", "()[Lcom/example/tariff/tariff/BasicCharges$Unit;"⟩ : MethodName) (head1 (Jvm.Cond.code (⟨"com/example/tariff/tariff/BasicCharges$Unit", "values", "()[Lcom/example/tariff/tariff/BasicCharges$Unit;"⟩ : MethodName) prog_3_method_1_code 0 (some (.array (.object "com/example/tariff/tariff/BasicCharges$Unit"))) :: ws) ({ frames := 1, cells := 1, slots := 3, locals := 14 } : Room)) (fun a U => a = #[] ∧ Z.Warmed39 U.vm ∧ U.heap = h0) (fun _ _ _ _ _ => True) (fun _ U o U' => ∃ v L, o = .returned v ∧ Q8 Z o_AMPERES o__VALUES ko__VALUES o_KVA o_KW o_AMPERES_symbol o_AMPERES_symbol_value ko_AMPERES_symbol_value o_KVA_symbol o_KVA_symbol_value ko_KVA_symbol_value o_KW_symbol o_KW_symbol_value ko_KW_symbol_value G1 h0 n0 v U'.heap L ∧ FrameEnd U o U' L ({ frames := 1, cells := 1, slots := 3, locals := 14 } : Room).cells ({ frames := 1, cells := 1, slots := 3, locals := 14 } : Room).slots) := by
  refine MetFree.of_bodySF (plainFor_of_name pn_8) hisR ?_
  intro p e s m args below meth c s₁ Bd hml0 hP hK
  obtain ⟨rfl, hZ, hh⟩ := hP
  have hx := Bd.exec
  have hby := Bd.bytes
  have hml : c.maxLocals = 0 := hml0
  have hown : s.vm.findClass "com/example/tariff/tariff/BasicCharges$Unit" = some m.cls := findClass_of_methodNamed Bd.named
  have hnm := (name_of_methodNamed Bd.named Bd.method).1
  have hlk : meth.locks = false := BodyLoose.notSynchronized Bd
  have hrt := Bd.returns
  have X0 : Stand p l e ({ frames := 1, cells := 1, slots := 3, locals := 14 } : Room) s m #[] below meth c s₁ [] 0 0 := Stand.of_body Bd
  have e0 : s₁.heap = h0 := by rw [← hh, Bd.state]; rfl
  have N0 := Fr.nil n0
  show own_Fin p.tables e below (own_post (Q8 Z o_AMPERES o__VALUES ko__VALUES o_KVA o_KW o_AMPERES_symbol o_AMPERES_symbol_value ko_AMPERES_symbol_value o_KVA_symbol o_KVA_symbol_value ko_KVA_symbol_value o_KW_symbol o_KW_symbol_value ko_KW_symbol_value G1 h0 n0) s ({ frames := 1, cells := 1, slots := 3, locals := 14 } : Room).cells ({ frames := 1, cells := 1, slots := 3, locals := 14 } : Room).slots) (s₁.setTop (entryFrame m #[] 0))
  refine own_Fin.step (fun t k => castTop (ef_8 m ) k) ?_
  have f1 : Sta Z h0 "com/example/tariff/tariff/BasicCharges$Unit" "$VALUES" "[Lcom/example/tariff/tariff/BasicCharges$Unit;" (.ref o__VALUES) := Sta.ext OLD.2 (Amb.a2 A)
  obtain ⟨T2, X2, e2, st2⟩ := getS2 X0 hx hZ hown (host := "") (Or.inl (hw _ (List.mem_of_getElem? (i := 40) rfl))) Via.refl e0 f1 (g := (mkF m 0 #[] [])) rfl (hb hby d8_0)
  refine own_Fin.step (S' := T2.setTop (mkF m 3 #[] [(.ref o__VALUES)])) st2 ?_
  have f3 : Arv Z h0 o__VALUES ko__VALUES (.object "com/example/tariff/tariff/BasicCharges$Unit") (3 : Int32) [(.ref o_AMPERES), (.ref o_KVA), (.ref o_KW)] .null := Arv.ext (Amb.a20 A) OLD.2
  have f4 : Exa Z h0 o__VALUES "[Lcom/example/tariff/tariff/BasicCharges$Unit;" := Exa.ext OLD.2 (Amb.a3 A)
  obtain ⟨T5, h5, X5, e5, E5, A5, B5, st5⟩ := cloneH X2 hx hZ hown (hw _ (List.mem_of_getElem? (i := 42) rfl)) (hw _ (List.mem_of_getElem? (i := 43) rfl)) (hw _ (List.mem_of_getElem? (i := 47) rfl)) (hw _ (List.mem_of_getElem? (i := 45) rfl)) (hw _ (List.mem_of_getElem? (i := 46) rfl)) (hw _ (List.mem_of_getElem? (i := 48) rfl)) e2 (Arv.arh f3) f4 (g := (mkF m 3 #[] [(.ref o__VALUES)])) rfl (by rw [hml]; rfl) rfl (hb hby d8_3) (by decide) (W := 0) (by show 2 * 0 + _ ≤ _; exact Nat.le_of_eq rfl) (by decide) (cap := 3) (by decide) (by decide) (by decide)
  obtain ⟨b5, g5⟩ : ∃ z, z = h0.size := ⟨_, rfl⟩
  rw [← g5] at A5 B5 st5
  have KK5 : Keep h0 h5 [] := (Keep.refl h0 []).ext E5
  have z5 := E5.1
  have V5 : Arv Z h5 b5 ko__VALUES (.object "com/example/tariff/tariff/BasicCharges$Unit") (3 : Int32) [(.ref o_AMPERES), (.ref o_KVA), (.ref o_KW)] .null := A5
  have ll5 : @LT.lt Nat _ b5 (Array.size h5) := V5.lt
  refine own_Fin.step (S' := T5.setTop (mkF m 6 #[] [(.ref b5)])) st5 ?_
  obtain ⟨T6, X6, e6, st6⟩ := castY X5 hx hZ hown (hw _ (List.mem_of_getElem? (i := 52) rfl)) e5 (Ins.self B5) (g := (mkF m 6 #[] [(.ref b5)])) rfl rfl (hb hby d8_6)
  refine own_Fin.step (S' := T6.setTop (mkF m 9 #[] [(.ref b5)])) st6 ?_
  have hq7 : Q8 Z o_AMPERES o__VALUES ko__VALUES o_KVA o_KW o_AMPERES_symbol o_AMPERES_symbol_value ko_AMPERES_symbol_value o_KVA_symbol o_KVA_symbol_value ko_KVA_symbol_value o_KW_symbol o_KW_symbol_value ko_KW_symbol_value G1 h0 n0 (some (.ref b5)) h5 _ := ⟨b5, rfl, N0, KK5, V5, B5, (by first | omega | assumption)⟩
  exact own_retR X6 hx hlk (w := (.ref b5)) rfl hrt rfl (hb hby d8_9) e6 hq7 (by decide) (by decide)
theorem d7_0 : decode prog_3_method_5_code 0 = .ok (.invokestatic 36, 3) := by decide +kernel
theorem d7_3 : decode prog_3_method_5_code 3 = .ok (.astore_n 1, 1) := by decide +kernel
theorem d7_4 : decode prog_3_method_5_code 4 = .ok (.aload_n 1, 1) := by decide +kernel
theorem d7_5 : decode prog_3_method_5_code 5 = .ok (.arraylength, 1) := by decide +kernel
theorem d7_6 : decode prog_3_method_5_code 6 = .ok (.istore_n 2, 1) := by decide +kernel
theorem d7_7 : decode prog_3_method_5_code 7 = .ok (.iconst 0, 1) := by decide +kernel
theorem d7_8 : decode prog_3_method_5_code 8 = .ok (.istore_n 3, 1) := by decide +kernel
theorem d7_9 : decode prog_3_method_5_code 9 = .ok (.iload_n 3, 1) := by decide +kernel
theorem d7_10 : decode prog_3_method_5_code 10 = .ok (.iload_n 2, 1) := by decide +kernel
theorem d7_11 : decode prog_3_method_5_code 11 = .ok (.if_icmp .ge 29, 3) := by decide +kernel
theorem d7_14 : decode prog_3_method_5_code 14 = .ok (.aload_n 1, 1) := by decide +kernel
theorem d7_15 : decode prog_3_method_5_code 15 = .ok (.iload_n 3, 1) := by decide +kernel
theorem d7_16 : decode prog_3_method_5_code 16 = .ok (.aaload, 1) := by decide +kernel
theorem d7_17 : decode prog_3_method_5_code 17 = .ok (.astore 4, 2) := by decide +kernel
theorem d7_19 : decode prog_3_method_5_code 19 = .ok (.aload 4, 2) := by decide +kernel
theorem d7_21 : decode prog_3_method_5_code 21 = .ok (.getfield 32, 3) := by decide +kernel
theorem d7_24 : decode prog_3_method_5_code 24 = .ok (.aload_n 0, 1) := by decide +kernel
theorem d7_25 : decode prog_3_method_5_code 25 = .ok (.invokevirtual 40, 3) := by decide +kernel
theorem d7_28 : decode prog_3_method_5_code 28 = .ok (.ifCond .eq 6, 3) := by decide +kernel
theorem d7_31 : decode prog_3_method_5_code 31 = .ok (.aload 4, 2) := by decide +kernel
theorem d7_33 : decode prog_3_method_5_code 33 = .ok (.areturn, 1) := by decide +kernel
theorem pn_7amperes : plainName "com/example/tariff/tariff/BasicCharges$Unit" = true := by first | (simp [plainName, overriddenIn]; done) | decide +kernel
theorem pd_7amperes_0 : parseMethodDescriptor "()[Lcom/example/tariff/tariff/BasicCharges$Unit;" = some ⟨[], some (.array (.object "com/example/tariff/tariff/BasicCharges$Unit"))⟩ := by decide +kernel
theorem pd_7amperes_1 : parseMethodDescriptor "(Ljava/lang/Object;)Z" = some ⟨[(.object "java/lang/Object")], some .boolean⟩ := by decide +kernel
theorem ef_7amperes (m : MethodId) (x0 : Addr) : entryFrame m #[(.ref x0)] 5 = mkF m 0 #[.val (.ref x0), .unset, .unset, .unset, .unset] [] := by first | (simp [entryFrame, mkF, argsToLocals, Value.category]; done) | rfl
def Q7amperes (Z : State) (o_AMPERES : Addr) (o__VALUES : Addr) (ko__VALUES : ClassId) (o_KVA : Addr) (o_KW : Addr) (o_AMPERES_symbol : Addr) (o_AMPERES_symbol_value : Addr) (ko_AMPERES_symbol_value : ClassId) (o_KVA_symbol : Addr) (o_KVA_symbol_value : Addr) (ko_KVA_symbol_value : ClassId) (o_KW_symbol : Addr) (o_KW_symbol_value : Addr) (ko_KW_symbol_value : ClassId) (G1 : Int32) (sy : Addr) (ta : Addr) (kt : ClassId) (h0 : Heap) (n0 : Nat) (v : Option Value) (h : Heap) (L : List Loc) : Prop := v = some (.ref o_AMPERES) ∧ Fr n0 L ∧ Keep h0 h []
set_option maxRecDepth 65536 in
set_option maxHeartbeats 40000000 in
theorem rm7amperes (l : Launch) (Z : State) (a0 : Array Value) (hw : ∀ d ∈ tables_1, d.before a0 Z = true) (ws : List Jvm.Cond) (o_AMPERES : Addr) (o__VALUES : Addr) (ko__VALUES : ClassId) (o_KVA : Addr) (o_KW : Addr) (o_AMPERES_symbol : Addr) (o_AMPERES_symbol_value : Addr) (ko_AMPERES_symbol_value : ClassId) (o_KVA_symbol : Addr) (o_KVA_symbol_value : Addr) (ko_KVA_symbol_value : ClassId) (o_KW_symbol : Addr) (o_KW_symbol_value : Addr) (ko_KW_symbol_value : ClassId) (G1 : Int32) (sy : Addr) (ta : Addr) (kt : ClassId) (h0 : Heap) (n0 : Nat) (Z0 : n0 ≤ h0.size) (OLD : Old Z n0 h0) (A : Amb Z o_AMPERES o__VALUES ko__VALUES o_KVA o_KW o_AMPERES_symbol o_AMPERES_symbol_value ko_AMPERES_symbol_value o_KVA_symbol o_KVA_symbol_value ko_KVA_symbol_value o_KW_symbol o_KW_symbol_value ko_KW_symbol_value G1) (P0 : Exa Z h0 sy "java/lang/String") (P1 : Fld Z h0 sy "java/lang/String" "value" "[B" (.ref ta)) (P2 : Fld Z h0 sy "java/lang/String" "coder" "B" (.int (0 : Int32))) (P3 : Arv Z h0 ta kt .byte (1 : Int32) ([((65 : Int32)).toInt8.toInt32].map Value.int) (.int 0)) :
    MetFree l (⟨"com/example/tariff/tariff/BasicCharges$Unit", "of", "(Ljava/lang/String;)Lcom/example/tariff/tariff/BasicCharges$Unit;"⟩ : MethodName) (head1 (Jvm.Cond.code (⟨"com/example/tariff/tariff/BasicCharges$Unit", "of", "(Ljava/lang/String;)Lcom/example/tariff/tariff/BasicCharges$Unit;"⟩ : MethodName) prog_3_method_5_code 5 (some (.object "com/example/tariff/tariff/BasicCharges$Unit")) :: ws) ({ frames := 2, cells := 1, slots := 3, locals := 28 } : Room)) (fun a U => a = #[(.ref sy)] ∧ Z.Warmed39 U.vm ∧ U.heap = h0) (fun _ _ _ _ _ => True) (fun _ U o U' => ∃ v L, o = .returned v ∧ Q7amperes Z o_AMPERES o__VALUES ko__VALUES o_KVA o_KW o_AMPERES_symbol o_AMPERES_symbol_value ko_AMPERES_symbol_value o_KVA_symbol o_KVA_symbol_value ko_KVA_symbol_value o_KW_symbol o_KW_symbol_value ko_KW_symbol_value G1 sy ta kt h0 n0 v U'.heap L ∧ FrameEnd U o U' L ({ frames := 2, cells := 1, slots := 3, locals := 28 } : Room).cells ({ frames := 2, cells := 1, slots := 3, locals := 28 } : Room).slots) := by
  refine MetFree.of_bodySF (plainFor_of_name pn_7amperes) hisR ?_
  intro p e s m args below meth c s₁ Bd hml0 hP hK
  obtain ⟨rfl, hZ, hh⟩ := hP
  have hx := Bd.exec
  have hby := Bd.bytes
  have hml : c.maxLocals = 5 := hml0
  have hown : s.vm.findClass "com/example/tariff/tariff/BasicCharges$Unit" = some m.cls := findClass_of_methodNamed Bd.named
  have hnm := (name_of_methodNamed Bd.named Bd.method).1
  have hlk : meth.locks = false := BodyLoose.notSynchronized Bd
  have hrt := Bd.returns
  have X0 : Stand p l e ({ frames := 2, cells := 1, slots := 3, locals := 28 } : Room) s m #[(.ref sy)] below meth c s₁ [] 0 0 := Stand.of_body Bd
  have e0 : s₁.heap = h0 := by rw [← hh, Bd.state]; rfl
  have N0 := Fr.nil n0
  show own_Fin p.tables e below (own_post (Q7amperes Z o_AMPERES o__VALUES ko__VALUES o_KVA o_KW o_AMPERES_symbol o_AMPERES_symbol_value ko_AMPERES_symbol_value o_KVA_symbol o_KVA_symbol_value ko_KVA_symbol_value o_KW_symbol o_KW_symbol_value ko_KW_symbol_value G1 sy ta kt h0 n0) s ({ frames := 2, cells := 1, slots := 3, locals := 28 } : Room).cells ({ frames := 2, cells := 1, slots := 3, locals := 28 } : Room).slots) (s₁.setTop (entryFrame m #[(.ref sy)] 5))
  refine own_Fin.step (fun t k => castTop (ef_7amperes m sy) k) ?_
  have lt_P0 : @LT.lt Nat _ sy (Array.size h0) := P0.lt
  have lt_P1 : @LT.lt Nat _ sy (Array.size h0) := P1.lt
  have lt_P2 : @LT.lt Nat _ sy (Array.size h0) := P2.lt
  have lt_P3 : @LT.lt Nat _ ta (Array.size h0) := P3.lt
  obtain ⟨_, _, ⟨T8, L8, k8, n8⟩, -, X8, ⟨Lc8, hQ8, l8, y8, zz8⟩, st8⟩ := Jvm.LawKit.callS X0 hx (y := (⟨"com/example/tariff/tariff/BasicCharges$Unit", "values", "()[Lcom/example/tariff/tariff/BasicCharges$Unit;"⟩ : MethodName)) hown (mvT hZ (hw _ (List.mem_of_getElem? (i := 37) rfl))) (mvT hZ (hw _ (List.mem_of_getElem? (i := 38) rfl))) (mvT hZ (hw _ (List.mem_of_getElem? (i := 3) rfl))) (mvT hZ (hw _ (List.mem_of_getElem? (i := 39) rfl))) (by decide) (backOf (W := 0) (rm8 l Z a0 hw [] o_AMPERES o__VALUES ko__VALUES o_KVA o_KW o_AMPERES_symbol o_AMPERES_symbol_value ko_AMPERES_symbol_value o_KVA_symbol o_KVA_symbol_value ko_KVA_symbol_value o_KW_symbol o_KW_symbol_value ko_KW_symbol_value G1 h0 n0 (by omega) OLD A) hZ (hw _ (List.mem_of_getElem? (i := 39) rfl)) (hw _ (List.mem_of_getElem? (i := 3) rfl)) (by decide) (by decide)) (g := (mkF m 0 #[.val (.ref sy), .unset, .unset, .unset, .unset] [])) rfl (by rw [hml]; rfl) (argsL := []) (rest := []) (lenOf pd_7amperes_0 rfl) rfl (by show 2 * 0 + _ ≤ _; exact Nat.le_of_eq rfl) (hb hby d7_0) (fun _ _ => ⟨rfl, e0, (by decide : 0 + 1 ≤ _), (by decide : 0 + 3 ≤ _)⟩)
  dsimp only [Pt.U, Pt.locs, Pt.cells, Pt.slots] at X8 l8 y8 zz8 st8 hQ8
  subst l8 y8 zz8
  obtain ⟨ob_8, rfl, N8q, K8, G8_0, G8_1, U8_0⟩ := hQ8
  have N8 := Fr.app N0 N8q
  have z8 := K8.1
  have KK8 : Keep h0 T8.heap [] := (Keep.refl h0 []).trans K8 all0
  have lt8_0 : @LT.lt Nat _ ob_8 (Array.size T8.heap) := G8_0.lt
  have lt8_1 : @LT.lt Nat _ ob_8 (Array.size T8.heap) := G8_1.lt
  refine own_Fin.step (S' := T8.setTop (mkF m 3 #[.val (.ref sy), .unset, .unset, .unset, .unset] [(.ref ob_8)])) st8 ?_
  refine own_Fin.step (S' := T8.setTop (mkF m 4 #[.val (.ref sy), .val (.ref ob_8), .unset, .unset, .unset] [])) (fun t k => XS.astoreN X8.here hx rfl (hb hby d7_3) rfl rfl (l' := #[.val (.ref sy), .val (.ref ob_8), .unset, .unset, .unset]) rfl k) ?_
  refine own_Fin.step (S' := T8.setTop (mkF m 5 #[.val (.ref sy), .val (.ref ob_8), .unset, .unset, .unset] [(.ref ob_8)])) (fun t k => XS.aloadN X8.here hx rfl (hb hby d7_4) rfl rfl  k) ?_
  obtain ⟨cl9, Ar9, q9, S9, N9z, Hs9, G9⟩ := id G8_0
  refine own_Fin.step (X8.arraylength hx Ar9.1 (State.isArrayOf_alike hZ.alike Ar9.2.1) (g := (mkF m 5 #[.val (.ref sy), .val (.ref ob_8), .unset, .unset, .unset] [(.ref ob_8)])) rfl rfl (hb hby d7_5)) ?_
  rw [len_of S9 N9z]
  show own_Fin _ _ _ _ (T8.setTop (mkF m 6 #[.val (.ref sy), .val (.ref ob_8), .unset, .unset, .unset] [(.int (3 : Int32))]))
  refine own_Fin.step (S' := T8.setTop (mkF m 7 #[.val (.ref sy), .val (.ref ob_8), .val (.int (3 : Int32)), .unset, .unset] [])) (fun t k => XS.istoreN X8.here hx rfl (hb hby d7_6) rfl (l' := #[.val (.ref sy), .val (.ref ob_8), .val (.int (3 : Int32)), .unset, .unset]) rfl k) ?_
  refine own_Fin.step (S' := T8.setTop (mkF m 8 #[.val (.ref sy), .val (.ref ob_8), .val (.int (3 : Int32)), .unset, .unset] [(.int (0 : Int32))])) (fun t k => XS.iconst X8.here hx rfl (hb hby d7_7) k) ?_
  refine own_Fin.step (S' := T8.setTop (mkF m 9 #[.val (.ref sy), .val (.ref ob_8), .val (.int (3 : Int32)), .val (.int (0 : Int32)), .unset] [])) (fun t k => XS.istoreN X8.here hx rfl (hb hby d7_8) rfl (l' := #[.val (.ref sy), .val (.ref ob_8), .val (.int (3 : Int32)), .val (.int (0 : Int32)), .unset]) rfl k) ?_
  refine own_Fin.step (S' := T8.setTop (mkF m 10 #[.val (.ref sy), .val (.ref ob_8), .val (.int (3 : Int32)), .val (.int (0 : Int32)), .unset] [(.int (0 : Int32))])) (fun t k => XS.iloadN X8.here hx rfl (hb hby d7_9) rfl  k) ?_
  refine own_Fin.step (S' := T8.setTop (mkF m 11 #[.val (.ref sy), .val (.ref ob_8), .val (.int (3 : Int32)), .val (.int (0 : Int32)), .unset] [(.int (3 : Int32)), (.int (0 : Int32))])) (fun t k => XS.iloadN X8.here hx rfl (hb hby d7_10) rfl  k) ?_
  refine own_Fin.step (S' := T8.setTop (mkF m 14 #[.val (.ref sy), .val (.ref ob_8), .val (.int (3 : Int32)), .val (.int (0 : Int32)), .unset] [])) (fun t k => XS.icmpNo X8.here hx rfl (hb hby d7_11) rfl (tlt (by decide : ((0 : Int32) < (3 : Int32)))).2.1 k) ?_
  refine own_Fin.step (S' := T8.setTop (mkF m 15 #[.val (.ref sy), .val (.ref ob_8), .val (.int (3 : Int32)), .val (.int (0 : Int32)), .unset] [(.ref ob_8)])) (fun t k => XS.aloadN X8.here hx rfl (hb hby d7_14) rfl rfl  k) ?_
  refine own_Fin.step (S' := T8.setTop (mkF m 16 #[.val (.ref sy), .val (.ref ob_8), .val (.int (3 : Int32)), .val (.int (0 : Int32)), .unset] [(.int (0 : Int32)), (.ref ob_8)])) (fun t k => XS.iloadN X8.here hx rfl (hb hby d7_15) rfl  k) ?_
  obtain ⟨cl10, Ar10, q10, S10, N10z, Hs10, G10⟩ := id G8_0
  have hin10 : ¬ ((0 : Int32) < 0 ∨ cl10.slots.size ≤ ((0 : Int32)).toNatClampNeg) := inb_of S10 ⟨by decide, by decide⟩
  have hat10 : cl10.slots[((0 : Int32)).toNatClampNeg]? = some (.ref o_AMPERES) := Hs10.at hin10 rfl
  refine own_Fin.step (S' := T8.setTop (mkF m 17 #[.val (.ref sy), .val (.ref ob_8), .val (.int (3 : Int32)), .val (.int (0 : Int32)), .unset] [(.ref o_AMPERES)])) (X8.aaload hx (j := (0 : Int32)) (v := (.ref o_AMPERES)) Ar10.1 (State.isArrayOf_alike hZ.alike Ar10.2.1) rfl Ar10.2.2 hin10 hat10 (g := (mkF m 16 #[.val (.ref sy), .val (.ref ob_8), .val (.int (3 : Int32)), .val (.int (0 : Int32)), .unset] [(.int (0 : Int32)), (.ref ob_8)])) rfl rfl (hb hby d7_16)) ?_
  refine own_Fin.step (S' := T8.setTop (mkF m 19 #[.val (.ref sy), .val (.ref ob_8), .val (.int (3 : Int32)), .val (.int (0 : Int32)), .val (.ref o_AMPERES)] [])) (fun t k => XS.astore X8.here hx rfl (hb hby d7_17) rfl rfl (l' := #[.val (.ref sy), .val (.ref ob_8), .val (.int (3 : Int32)), .val (.int (0 : Int32)), .val (.ref o_AMPERES)]) rfl k) ?_
  refine own_Fin.step (S' := T8.setTop (mkF m 21 #[.val (.ref sy), .val (.ref ob_8), .val (.int (3 : Int32)), .val (.int (0 : Int32)), .val (.ref o_AMPERES)] [(.ref o_AMPERES)])) (fun t k => XS.aload X8.here hx rfl (hb hby d7_19) rfl rfl  k) ?_
  have f11 : Old Z n0 T8.heap := (OLD.keep K8 all0)
  have f12 : Fld Z T8.heap o_AMPERES "com/example/tariff/tariff/BasicCharges$Unit" "symbol" "Ljava/lang/String;" (.ref o_AMPERES_symbol) := Fld.ext f11.2 (Amb.a8 A)
  obtain ⟨T13, X13, e13, st13⟩ := getF X8 hx hZ hown (host := "") (Or.inl (hw _ (List.mem_of_getElem? (i := 54) rfl))) Via.refl rfl f12 (g := (mkF m 21 #[.val (.ref sy), .val (.ref ob_8), .val (.int (3 : Int32)), .val (.int (0 : Int32)), .val (.ref o_AMPERES)] [(.ref o_AMPERES)])) rfl rfl (hb hby d7_21)
  refine own_Fin.step (S' := T13.setTop (mkF m 24 #[.val (.ref sy), .val (.ref ob_8), .val (.int (3 : Int32)), .val (.int (0 : Int32)), .val (.ref o_AMPERES)] [(.ref o_AMPERES_symbol)])) st13 ?_
  refine own_Fin.step (S' := T13.setTop (mkF m 25 #[.val (.ref sy), .val (.ref ob_8), .val (.int (3 : Int32)), .val (.int (0 : Int32)), .val (.ref o_AMPERES)] [(.ref sy), (.ref o_AMPERES_symbol)])) (fun t k => XS.aloadN X13.here hx rfl (hb hby d7_24) rfl rfl  k) ?_
  have f14 : Fld Z T8.heap sy "java/lang/String" "value" "[B" (.ref ta) := (P1.keep K8 nin0)
  have f15 : Arv Z T8.heap ta kt .byte (1 : Int32) ([((65 : Int32)).toInt8.toInt32].map Value.int) (.int 0) := (P3.keep K8 nin0)
  have f17 : Sta Z T8.heap "java/lang/String" "COMPACT_STRINGS" "Z" (.int G1) := Sta.ext f11.2 (Amb.a24 A)
  have hwe16 : ∀ d ∈ StrChars.Road.wordsEq, d.before a0 Z = true := fun d hd => hw d (own_wordsEq d hd)
  have f18 : Exa Z T8.heap o_AMPERES_symbol "java/lang/String" := Exa.ext f11.2 (Amb.a9 A)
  have f19 : Fld Z T8.heap o_AMPERES_symbol "java/lang/String" "value" "[B" (.ref o_AMPERES_symbol_value) := Fld.ext f11.2 (Amb.a10 A)
  have f20 : Fld Z T8.heap o_AMPERES_symbol "java/lang/String" "coder" "B" (.int (0 : Int32)) := Fld.ext f11.2 (Amb.a17 A)
  have f21 : Arv Z T8.heap o_AMPERES_symbol_value ko_AMPERES_symbol_value .byte (1 : Int32) [(.int (65 : Int32))] (.int (0 : Int32)) := Arv.ext (Amb.a21 A) f11.2
  have kq22 : Arv Z T8.heap o_AMPERES_symbol_value ko_AMPERES_symbol_value .byte (Int32.ofNat 1) ((([65] : List Int32).map StrChars.lo8).map Value.int) (.int 0) := f21
  have f23 : Exa Z T8.heap sy "java/lang/String" := (Exa.keep P0 K8)
  have f24 : Fld Z T8.heap sy "java/lang/String" "coder" "B" (.int (0 : Int32)) := (P2.keep K8 nin0)
  have kq25 : Arv Z T8.heap ta kt .byte (Int32.ofNat 1) ((([65] : List Int32).map StrChars.lo8).map Value.int) (.int 0) := f15
  obtain ⟨cq16, kq16, q16a, q16b, q16c⟩ := isOf hZ e13 f18
  obtain ⟨_, _, ⟨T16, L16, k16, n16⟩, -, X16, ⟨Lc16, hQ16, l16, y16, zz16⟩, st16⟩ := X13.virtualBack hx (y := (⟨"java/lang/String", "equals", "(Ljava/lang/Object;)Z"⟩ : MethodName)) (z := (⟨"java/lang/String", "equals", "(Ljava/lang/Object;)Z"⟩ : MethodName)) hown (mvT hZ (hw _ (List.mem_of_getElem? (i := 56) rfl))) (mvT hZ (hw _ (List.mem_of_getElem? (i := 57) rfl))) (notFace_of_selects (args := #[]) (mvT hZ (hw _ (List.mem_of_getElem? (i := 59) rfl)))) (mvT hZ (hw _ (List.mem_of_getElem? (i := 59) rfl))) (mvT hZ (hw _ (List.mem_of_getElem? (i := 58) rfl))) (by decide) (StrChars.Road.eqW (W := 0) hZ hwe16 (kI := 4) (hw _ (List.mem_of_getElem? (i := 6) rfl)) f18 f19 f20 kq22 (StrChars.Road.codOf (cs := ([65] : List Int32)) (n := 1) rfl (by decide)) (by decide) (by decide) f23 f14 f24 kq25 (StrChars.Road.codOf (cs := ([65] : List Int32)) (n := 1) rfl (by decide)) (by decide) (by decide) f17 (Amb.g1 A) (by decide) (by decide)) q16a q16c (g := (mkF m 25 #[.val (.ref sy), .val (.ref ob_8), .val (.int (3 : Int32)), .val (.int (0 : Int32)), .val (.ref o_AMPERES)] [(.ref sy), (.ref o_AMPERES_symbol)])) rfl (by rw [hml]; rfl) (Steps.refl _) (argsL := [(.ref sy)]) (rest := []) (lenOf pd_7amperes_1 rfl) rfl (by show 2 * 0 + _ ≤ _; exact Nat.le_of_eq rfl) (hb hby d7_25) (fun _ _ => ⟨rfl, e13, (by decide : 1 + 0 ≤ _), (by decide : 3 + 0 ≤ _)⟩)
  dsimp only [Pt.U, Pt.locs, Pt.cells, Pt.slots] at X16 l16 y16 zz16 st16 hQ16
  subst l16 y16 zz16
  obtain ⟨hve16, rfl, e16⟩ := hQ16
  have N16 := Fr.app N8 (Fr.nil n0)
  obtain ⟨rfl, -⟩ := own_eqY hve16 (by decide)
  refine own_Fin.trans (S' := T16.setTop (mkF m 28 #[.val (.ref sy), .val (.ref ob_8), .val (.int (3 : Int32)), .val (.int (0 : Int32)), .val (.ref o_AMPERES)] [(.int (1 : Int32))])) st16 ?_
  refine own_Fin.step (S' := T16.setTop (mkF m 31 #[.val (.ref sy), .val (.ref ob_8), .val (.int (3 : Int32)), .val (.int (0 : Int32)), .val (.ref o_AMPERES)] [])) (fun t k => XS.ifNo X16.here hx rfl (hb hby d7_28) rfl ((if0 _ _).trans (feq (by decide : ¬ ((1 : Int32) = (0 : Int32)))).1) k) ?_
  refine own_Fin.step (S' := T16.setTop (mkF m 33 #[.val (.ref sy), .val (.ref ob_8), .val (.int (3 : Int32)), .val (.int (0 : Int32)), .val (.ref o_AMPERES)] [(.ref o_AMPERES)])) (fun t k => XS.aload X16.here hx rfl (hb hby d7_31) rfl rfl  k) ?_
  have hq26 : Q7amperes Z o_AMPERES o__VALUES ko__VALUES o_KVA o_KW o_AMPERES_symbol o_AMPERES_symbol_value ko_AMPERES_symbol_value o_KVA_symbol o_KVA_symbol_value ko_KVA_symbol_value o_KW_symbol o_KW_symbol_value ko_KW_symbol_value G1 sy ta kt h0 n0 (some (.ref o_AMPERES)) T8.heap _ := ⟨rfl, N16, KK8⟩
  exact own_retR X16 hx hlk (w := (.ref o_AMPERES)) rfl hrt rfl (hb hby d7_33) e16 hq26 (by decide) (by decide)
theorem d7_34 : decode prog_3_method_5_code 34 = .ok (.iinc 3 1, 3) := by decide +kernel
theorem d7_37 : decode prog_3_method_5_code 37 = .ok (.goto (-28), 3) := by decide +kernel
theorem pn_7kva : plainName "com/example/tariff/tariff/BasicCharges$Unit" = true := by first | (simp [plainName, overriddenIn]; done) | decide +kernel
theorem pd_7kva_0 : parseMethodDescriptor "()[Lcom/example/tariff/tariff/BasicCharges$Unit;" = some ⟨[], some (.array (.object "com/example/tariff/tariff/BasicCharges$Unit"))⟩ := by decide +kernel
theorem pd_7kva_1 : parseMethodDescriptor "(Ljava/lang/Object;)Z" = some ⟨[(.object "java/lang/Object")], some .boolean⟩ := by decide +kernel
theorem ef_7kva (m : MethodId) (x0 : Addr) : entryFrame m #[(.ref x0)] 5 = mkF m 0 #[.val (.ref x0), .unset, .unset, .unset, .unset] [] := by first | (simp [entryFrame, mkF, argsToLocals, Value.category]; done) | rfl
def Q7kva (Z : State) (o_AMPERES : Addr) (o__VALUES : Addr) (ko__VALUES : ClassId) (o_KVA : Addr) (o_KW : Addr) (o_AMPERES_symbol : Addr) (o_AMPERES_symbol_value : Addr) (ko_AMPERES_symbol_value : ClassId) (o_KVA_symbol : Addr) (o_KVA_symbol_value : Addr) (ko_KVA_symbol_value : ClassId) (o_KW_symbol : Addr) (o_KW_symbol_value : Addr) (ko_KW_symbol_value : ClassId) (G1 : Int32) (sy : Addr) (ta : Addr) (kt : ClassId) (h0 : Heap) (n0 : Nat) (v : Option Value) (h : Heap) (L : List Loc) : Prop := v = some (.ref o_KVA) ∧ Fr n0 L ∧ Keep h0 h []
set_option maxRecDepth 65536 in
set_option maxHeartbeats 40000000 in
theorem rm7kva (l : Launch) (Z : State) (a0 : Array Value) (hw : ∀ d ∈ tables_1, d.before a0 Z = true) (ws : List Jvm.Cond) (o_AMPERES : Addr) (o__VALUES : Addr) (ko__VALUES : ClassId) (o_KVA : Addr) (o_KW : Addr) (o_AMPERES_symbol : Addr) (o_AMPERES_symbol_value : Addr) (ko_AMPERES_symbol_value : ClassId) (o_KVA_symbol : Addr) (o_KVA_symbol_value : Addr) (ko_KVA_symbol_value : ClassId) (o_KW_symbol : Addr) (o_KW_symbol_value : Addr) (ko_KW_symbol_value : ClassId) (G1 : Int32) (sy : Addr) (ta : Addr) (kt : ClassId) (h0 : Heap) (n0 : Nat) (Z0 : n0 ≤ h0.size) (OLD : Old Z n0 h0) (A : Amb Z o_AMPERES o__VALUES ko__VALUES o_KVA o_KW o_AMPERES_symbol o_AMPERES_symbol_value ko_AMPERES_symbol_value o_KVA_symbol o_KVA_symbol_value ko_KVA_symbol_value o_KW_symbol o_KW_symbol_value ko_KW_symbol_value G1) (P0 : Exa Z h0 sy "java/lang/String") (P1 : Fld Z h0 sy "java/lang/String" "value" "[B" (.ref ta)) (P2 : Fld Z h0 sy "java/lang/String" "coder" "B" (.int (0 : Int32))) (P3 : Arv Z h0 ta kt .byte (3 : Int32) ([((107 : Int32)).toInt8.toInt32, ((86 : Int32)).toInt8.toInt32, ((65 : Int32)).toInt8.toInt32].map Value.int) (.int 0)) :
    MetFree l (⟨"com/example/tariff/tariff/BasicCharges$Unit", "of", "(Ljava/lang/String;)Lcom/example/tariff/tariff/BasicCharges$Unit;"⟩ : MethodName) (head1 (Jvm.Cond.code (⟨"com/example/tariff/tariff/BasicCharges$Unit", "of", "(Ljava/lang/String;)Lcom/example/tariff/tariff/BasicCharges$Unit;"⟩ : MethodName) prog_3_method_5_code 5 (some (.object "com/example/tariff/tariff/BasicCharges$Unit")) :: ws) ({ frames := 2, cells := 1, slots := 3, locals := 28 } : Room)) (fun a U => a = #[(.ref sy)] ∧ Z.Warmed39 U.vm ∧ U.heap = h0) (fun _ _ _ _ _ => True) (fun _ U o U' => ∃ v L, o = .returned v ∧ Q7kva Z o_AMPERES o__VALUES ko__VALUES o_KVA o_KW o_AMPERES_symbol o_AMPERES_symbol_value ko_AMPERES_symbol_value o_KVA_symbol o_KVA_symbol_value ko_KVA_symbol_value o_KW_symbol o_KW_symbol_value ko_KW_symbol_value G1 sy ta kt h0 n0 v U'.heap L ∧ FrameEnd U o U' L ({ frames := 2, cells := 1, slots := 3, locals := 28 } : Room).cells ({ frames := 2, cells := 1, slots := 3, locals := 28 } : Room).slots) := by
  refine MetFree.of_bodySF (plainFor_of_name pn_7kva) hisR ?_
  intro p e s m args below meth c s₁ Bd hml0 hP hK
  obtain ⟨rfl, hZ, hh⟩ := hP
  have hx := Bd.exec
  have hby := Bd.bytes
  have hml : c.maxLocals = 5 := hml0
  have hown : s.vm.findClass "com/example/tariff/tariff/BasicCharges$Unit" = some m.cls := findClass_of_methodNamed Bd.named
  have hnm := (name_of_methodNamed Bd.named Bd.method).1
  have hlk : meth.locks = false := BodyLoose.notSynchronized Bd
  have hrt := Bd.returns
  have X0 : Stand p l e ({ frames := 2, cells := 1, slots := 3, locals := 28 } : Room) s m #[(.ref sy)] below meth c s₁ [] 0 0 := Stand.of_body Bd
  have e0 : s₁.heap = h0 := by rw [← hh, Bd.state]; rfl
  have N0 := Fr.nil n0
  show own_Fin p.tables e below (own_post (Q7kva Z o_AMPERES o__VALUES ko__VALUES o_KVA o_KW o_AMPERES_symbol o_AMPERES_symbol_value ko_AMPERES_symbol_value o_KVA_symbol o_KVA_symbol_value ko_KVA_symbol_value o_KW_symbol o_KW_symbol_value ko_KW_symbol_value G1 sy ta kt h0 n0) s ({ frames := 2, cells := 1, slots := 3, locals := 28 } : Room).cells ({ frames := 2, cells := 1, slots := 3, locals := 28 } : Room).slots) (s₁.setTop (entryFrame m #[(.ref sy)] 5))
  refine own_Fin.step (fun t k => castTop (ef_7kva m sy) k) ?_
  have lt_P0 : @LT.lt Nat _ sy (Array.size h0) := P0.lt
  have lt_P1 : @LT.lt Nat _ sy (Array.size h0) := P1.lt
  have lt_P2 : @LT.lt Nat _ sy (Array.size h0) := P2.lt
  have lt_P3 : @LT.lt Nat _ ta (Array.size h0) := P3.lt
  obtain ⟨_, _, ⟨T27, L27, k27, n27⟩, -, X27, ⟨Lc27, hQ27, l27, y27, zz27⟩, st27⟩ := Jvm.LawKit.callS X0 hx (y := (⟨"com/example/tariff/tariff/BasicCharges$Unit", "values", "()[Lcom/example/tariff/tariff/BasicCharges$Unit;"⟩ : MethodName)) hown (mvT hZ (hw _ (List.mem_of_getElem? (i := 37) rfl))) (mvT hZ (hw _ (List.mem_of_getElem? (i := 38) rfl))) (mvT hZ (hw _ (List.mem_of_getElem? (i := 3) rfl))) (mvT hZ (hw _ (List.mem_of_getElem? (i := 39) rfl))) (by decide) (backOf (W := 0) (rm8 l Z a0 hw [] o_AMPERES o__VALUES ko__VALUES o_KVA o_KW o_AMPERES_symbol o_AMPERES_symbol_value ko_AMPERES_symbol_value o_KVA_symbol o_KVA_symbol_value ko_KVA_symbol_value o_KW_symbol o_KW_symbol_value ko_KW_symbol_value G1 h0 n0 (by omega) OLD A) hZ (hw _ (List.mem_of_getElem? (i := 39) rfl)) (hw _ (List.mem_of_getElem? (i := 3) rfl)) (by decide) (by decide)) (g := (mkF m 0 #[.val (.ref sy), .unset, .unset, .unset, .unset] [])) rfl (by rw [hml]; rfl) (argsL := []) (rest := []) (lenOf pd_7kva_0 rfl) rfl (by show 2 * 0 + _ ≤ _; exact Nat.le_of_eq rfl) (hb hby d7_0) (fun _ _ => ⟨rfl, e0, (by decide : 0 + 1 ≤ _), (by decide : 0 + 3 ≤ _)⟩)
  dsimp only [Pt.U, Pt.locs, Pt.cells, Pt.slots] at X27 l27 y27 zz27 st27 hQ27
  subst l27 y27 zz27
  obtain ⟨ob_27, rfl, N27q, K27, G27_0, G27_1, U27_0⟩ := hQ27
  have N27 := Fr.app N0 N27q
  have z27 := K27.1
  have KK27 : Keep h0 T27.heap [] := (Keep.refl h0 []).trans K27 all0
  have lt27_0 : @LT.lt Nat _ ob_27 (Array.size T27.heap) := G27_0.lt
  have lt27_1 : @LT.lt Nat _ ob_27 (Array.size T27.heap) := G27_1.lt
  refine own_Fin.step (S' := T27.setTop (mkF m 3 #[.val (.ref sy), .unset, .unset, .unset, .unset] [(.ref ob_27)])) st27 ?_
  refine own_Fin.step (S' := T27.setTop (mkF m 4 #[.val (.ref sy), .val (.ref ob_27), .unset, .unset, .unset] [])) (fun t k => XS.astoreN X27.here hx rfl (hb hby d7_3) rfl rfl (l' := #[.val (.ref sy), .val (.ref ob_27), .unset, .unset, .unset]) rfl k) ?_
  refine own_Fin.step (S' := T27.setTop (mkF m 5 #[.val (.ref sy), .val (.ref ob_27), .unset, .unset, .unset] [(.ref ob_27)])) (fun t k => XS.aloadN X27.here hx rfl (hb hby d7_4) rfl rfl  k) ?_
  obtain ⟨cl28, Ar28, q28, S28, N28z, Hs28, G28⟩ := id G27_0
  refine own_Fin.step (X27.arraylength hx Ar28.1 (State.isArrayOf_alike hZ.alike Ar28.2.1) (g := (mkF m 5 #[.val (.ref sy), .val (.ref ob_27), .unset, .unset, .unset] [(.ref ob_27)])) rfl rfl (hb hby d7_5)) ?_
  rw [len_of S28 N28z]
  show own_Fin _ _ _ _ (T27.setTop (mkF m 6 #[.val (.ref sy), .val (.ref ob_27), .unset, .unset, .unset] [(.int (3 : Int32))]))
  refine own_Fin.step (S' := T27.setTop (mkF m 7 #[.val (.ref sy), .val (.ref ob_27), .val (.int (3 : Int32)), .unset, .unset] [])) (fun t k => XS.istoreN X27.here hx rfl (hb hby d7_6) rfl (l' := #[.val (.ref sy), .val (.ref ob_27), .val (.int (3 : Int32)), .unset, .unset]) rfl k) ?_
  refine own_Fin.step (S' := T27.setTop (mkF m 8 #[.val (.ref sy), .val (.ref ob_27), .val (.int (3 : Int32)), .unset, .unset] [(.int (0 : Int32))])) (fun t k => XS.iconst X27.here hx rfl (hb hby d7_7) k) ?_
  refine own_Fin.step (S' := T27.setTop (mkF m 9 #[.val (.ref sy), .val (.ref ob_27), .val (.int (3 : Int32)), .val (.int (0 : Int32)), .unset] [])) (fun t k => XS.istoreN X27.here hx rfl (hb hby d7_8) rfl (l' := #[.val (.ref sy), .val (.ref ob_27), .val (.int (3 : Int32)), .val (.int (0 : Int32)), .unset]) rfl k) ?_
  refine own_Fin.step (S' := T27.setTop (mkF m 10 #[.val (.ref sy), .val (.ref ob_27), .val (.int (3 : Int32)), .val (.int (0 : Int32)), .unset] [(.int (0 : Int32))])) (fun t k => XS.iloadN X27.here hx rfl (hb hby d7_9) rfl  k) ?_
  refine own_Fin.step (S' := T27.setTop (mkF m 11 #[.val (.ref sy), .val (.ref ob_27), .val (.int (3 : Int32)), .val (.int (0 : Int32)), .unset] [(.int (3 : Int32)), (.int (0 : Int32))])) (fun t k => XS.iloadN X27.here hx rfl (hb hby d7_10) rfl  k) ?_
  refine own_Fin.step (S' := T27.setTop (mkF m 14 #[.val (.ref sy), .val (.ref ob_27), .val (.int (3 : Int32)), .val (.int (0 : Int32)), .unset] [])) (fun t k => XS.icmpNo X27.here hx rfl (hb hby d7_11) rfl (tlt (by decide : ((0 : Int32) < (3 : Int32)))).2.1 k) ?_
  refine own_Fin.step (S' := T27.setTop (mkF m 15 #[.val (.ref sy), .val (.ref ob_27), .val (.int (3 : Int32)), .val (.int (0 : Int32)), .unset] [(.ref ob_27)])) (fun t k => XS.aloadN X27.here hx rfl (hb hby d7_14) rfl rfl  k) ?_
  refine own_Fin.step (S' := T27.setTop (mkF m 16 #[.val (.ref sy), .val (.ref ob_27), .val (.int (3 : Int32)), .val (.int (0 : Int32)), .unset] [(.int (0 : Int32)), (.ref ob_27)])) (fun t k => XS.iloadN X27.here hx rfl (hb hby d7_15) rfl  k) ?_
  obtain ⟨cl29, Ar29, q29, S29, N29z, Hs29, G29⟩ := id G27_0
  have hin29 : ¬ ((0 : Int32) < 0 ∨ cl29.slots.size ≤ ((0 : Int32)).toNatClampNeg) := inb_of S29 ⟨by decide, by decide⟩
  have hat29 : cl29.slots[((0 : Int32)).toNatClampNeg]? = some (.ref o_AMPERES) := Hs29.at hin29 rfl
  refine own_Fin.step (S' := T27.setTop (mkF m 17 #[.val (.ref sy), .val (.ref ob_27), .val (.int (3 : Int32)), .val (.int (0 : Int32)), .unset] [(.ref o_AMPERES)])) (X27.aaload hx (j := (0 : Int32)) (v := (.ref o_AMPERES)) Ar29.1 (State.isArrayOf_alike hZ.alike Ar29.2.1) rfl Ar29.2.2 hin29 hat29 (g := (mkF m 16 #[.val (.ref sy), .val (.ref ob_27), .val (.int (3 : Int32)), .val (.int (0 : Int32)), .unset] [(.int (0 : Int32)), (.ref ob_27)])) rfl rfl (hb hby d7_16)) ?_
  refine own_Fin.step (S' := T27.setTop (mkF m 19 #[.val (.ref sy), .val (.ref ob_27), .val (.int (3 : Int32)), .val (.int (0 : Int32)), .val (.ref o_AMPERES)] [])) (fun t k => XS.astore X27.here hx rfl (hb hby d7_17) rfl rfl (l' := #[.val (.ref sy), .val (.ref ob_27), .val (.int (3 : Int32)), .val (.int (0 : Int32)), .val (.ref o_AMPERES)]) rfl k) ?_
  refine own_Fin.step (S' := T27.setTop (mkF m 21 #[.val (.ref sy), .val (.ref ob_27), .val (.int (3 : Int32)), .val (.int (0 : Int32)), .val (.ref o_AMPERES)] [(.ref o_AMPERES)])) (fun t k => XS.aload X27.here hx rfl (hb hby d7_19) rfl rfl  k) ?_
  have f30 : Old Z n0 T27.heap := (OLD.keep K27 all0)
  have f31 : Fld Z T27.heap o_AMPERES "com/example/tariff/tariff/BasicCharges$Unit" "symbol" "Ljava/lang/String;" (.ref o_AMPERES_symbol) := Fld.ext f30.2 (Amb.a8 A)
  obtain ⟨T32, X32, e32, st32⟩ := getF X27 hx hZ hown (host := "") (Or.inl (hw _ (List.mem_of_getElem? (i := 54) rfl))) Via.refl rfl f31 (g := (mkF m 21 #[.val (.ref sy), .val (.ref ob_27), .val (.int (3 : Int32)), .val (.int (0 : Int32)), .val (.ref o_AMPERES)] [(.ref o_AMPERES)])) rfl rfl (hb hby d7_21)
  refine own_Fin.step (S' := T32.setTop (mkF m 24 #[.val (.ref sy), .val (.ref ob_27), .val (.int (3 : Int32)), .val (.int (0 : Int32)), .val (.ref o_AMPERES)] [(.ref o_AMPERES_symbol)])) st32 ?_
  refine own_Fin.step (S' := T32.setTop (mkF m 25 #[.val (.ref sy), .val (.ref ob_27), .val (.int (3 : Int32)), .val (.int (0 : Int32)), .val (.ref o_AMPERES)] [(.ref sy), (.ref o_AMPERES_symbol)])) (fun t k => XS.aloadN X32.here hx rfl (hb hby d7_24) rfl rfl  k) ?_
  have f33 : Fld Z T27.heap sy "java/lang/String" "value" "[B" (.ref ta) := (P1.keep K27 nin0)
  have f34 : Arv Z T27.heap ta kt .byte (3 : Int32) ([((107 : Int32)).toInt8.toInt32, ((86 : Int32)).toInt8.toInt32, ((65 : Int32)).toInt8.toInt32].map Value.int) (.int 0) := (P3.keep K27 nin0)
  have f36 : Sta Z T27.heap "java/lang/String" "COMPACT_STRINGS" "Z" (.int G1) := Sta.ext f30.2 (Amb.a24 A)
  have hwe35 : ∀ d ∈ StrChars.Road.wordsEq, d.before a0 Z = true := fun d hd => hw d (own_wordsEq d hd)
  have f37 : Exa Z T27.heap o_AMPERES_symbol "java/lang/String" := Exa.ext f30.2 (Amb.a9 A)
  have f38 : Fld Z T27.heap o_AMPERES_symbol "java/lang/String" "value" "[B" (.ref o_AMPERES_symbol_value) := Fld.ext f30.2 (Amb.a10 A)
  have f39 : Fld Z T27.heap o_AMPERES_symbol "java/lang/String" "coder" "B" (.int (0 : Int32)) := Fld.ext f30.2 (Amb.a17 A)
  have f40 : Arv Z T27.heap o_AMPERES_symbol_value ko_AMPERES_symbol_value .byte (1 : Int32) [(.int (65 : Int32))] (.int (0 : Int32)) := Arv.ext (Amb.a21 A) f30.2
  have kq41 : Arv Z T27.heap o_AMPERES_symbol_value ko_AMPERES_symbol_value .byte (Int32.ofNat 1) ((([65] : List Int32).map StrChars.lo8).map Value.int) (.int 0) := f40
  have f42 : Exa Z T27.heap sy "java/lang/String" := (Exa.keep P0 K27)
  have f43 : Fld Z T27.heap sy "java/lang/String" "coder" "B" (.int (0 : Int32)) := (P2.keep K27 nin0)
  have kq44 : Arv Z T27.heap ta kt .byte (Int32.ofNat 3) ((([107, 86, 65] : List Int32).map StrChars.lo8).map Value.int) (.int 0) := f34
  obtain ⟨cq35, kq35, q35a, q35b, q35c⟩ := isOf hZ e32 f37
  obtain ⟨_, _, ⟨T35, L35, k35, n35⟩, -, X35, ⟨Lc35, hQ35, l35, y35, zz35⟩, st35⟩ := X32.virtualBack hx (y := (⟨"java/lang/String", "equals", "(Ljava/lang/Object;)Z"⟩ : MethodName)) (z := (⟨"java/lang/String", "equals", "(Ljava/lang/Object;)Z"⟩ : MethodName)) hown (mvT hZ (hw _ (List.mem_of_getElem? (i := 56) rfl))) (mvT hZ (hw _ (List.mem_of_getElem? (i := 57) rfl))) (notFace_of_selects (args := #[]) (mvT hZ (hw _ (List.mem_of_getElem? (i := 59) rfl)))) (mvT hZ (hw _ (List.mem_of_getElem? (i := 59) rfl))) (mvT hZ (hw _ (List.mem_of_getElem? (i := 58) rfl))) (by decide) (StrChars.Road.eqW (W := 0) hZ hwe35 (kI := 4) (hw _ (List.mem_of_getElem? (i := 6) rfl)) f37 f38 f39 kq41 (StrChars.Road.codOf (cs := ([65] : List Int32)) (n := 1) rfl (by decide)) (by decide) (by decide) f42 f33 f43 kq44 (StrChars.Road.codOf (cs := ([107, 86, 65] : List Int32)) (n := 3) rfl (by decide)) (by decide) (by decide) f36 (Amb.g1 A) (by decide) (by decide)) q35a q35c (g := (mkF m 25 #[.val (.ref sy), .val (.ref ob_27), .val (.int (3 : Int32)), .val (.int (0 : Int32)), .val (.ref o_AMPERES)] [(.ref sy), (.ref o_AMPERES_symbol)])) rfl (by rw [hml]; rfl) (Steps.refl _) (argsL := [(.ref sy)]) (rest := []) (lenOf pd_7kva_1 rfl) rfl (by show 2 * 0 + _ ≤ _; exact Nat.le_of_eq rfl) (hb hby d7_25) (fun _ _ => ⟨rfl, e32, (by decide : 1 + 0 ≤ _), (by decide : 3 + 0 ≤ _)⟩)
  dsimp only [Pt.U, Pt.locs, Pt.cells, Pt.slots] at X35 l35 y35 zz35 st35 hQ35
  subst l35 y35 zz35
  obtain ⟨hve35, rfl, e35⟩ := hQ35
  have N35 := Fr.app N27 (Fr.nil n0)
  obtain ⟨rfl, -⟩ := own_eqN hve35 (by decide)
  refine own_Fin.trans (S' := T35.setTop (mkF m 28 #[.val (.ref sy), .val (.ref ob_27), .val (.int (3 : Int32)), .val (.int (0 : Int32)), .val (.ref o_AMPERES)] [(.int (0 : Int32))])) st35 ?_
  refine own_Fin.step (S' := T35.setTop (mkF m 34 #[.val (.ref sy), .val (.ref ob_27), .val (.int (3 : Int32)), .val (.int (0 : Int32)), .val (.ref o_AMPERES)] [])) (fun t k => XS.ifYes X35.here hx rfl (pc0 := 28) (pc' := 34) rfl (hb hby d7_28) rfl ((if0 _ _).trans (teq (by decide : ((0 : Int32) = (0 : Int32)))).1) (by decide) (by decide) k) ?_
  refine own_Fin.step (S' := T35.setTop (mkF m 37 #[.val (.ref sy), .val (.ref ob_27), .val (.int (3 : Int32)), .val (.int (1 : Int32)), .val (.ref o_AMPERES)] [])) (fun t k => XS.iinc X35.here hx rfl (hb hby d7_34) rfl (l' := #[.val (.ref sy), .val (.ref ob_27), .val (.int (3 : Int32)), .val (.int (1 : Int32)), .val (.ref o_AMPERES)]) rfl k) ?_
  refine own_Fin.step (S' := T35.setTop (mkF m 9 #[.val (.ref sy), .val (.ref ob_27), .val (.int (3 : Int32)), .val (.int (1 : Int32)), .val (.ref o_AMPERES)] [])) (fun t k => XS.goto X35.here hx rfl (pc0 := 37) (pc' := 9) rfl (hb hby d7_37) (by decide) (by decide) k) ?_
  refine own_Fin.step (S' := T35.setTop (mkF m 10 #[.val (.ref sy), .val (.ref ob_27), .val (.int (3 : Int32)), .val (.int (1 : Int32)), .val (.ref o_AMPERES)] [(.int (1 : Int32))])) (fun t k => XS.iloadN X35.here hx rfl (hb hby d7_9) rfl  k) ?_
  refine own_Fin.step (S' := T35.setTop (mkF m 11 #[.val (.ref sy), .val (.ref ob_27), .val (.int (3 : Int32)), .val (.int (1 : Int32)), .val (.ref o_AMPERES)] [(.int (3 : Int32)), (.int (1 : Int32))])) (fun t k => XS.iloadN X35.here hx rfl (hb hby d7_10) rfl  k) ?_
  refine own_Fin.step (S' := T35.setTop (mkF m 14 #[.val (.ref sy), .val (.ref ob_27), .val (.int (3 : Int32)), .val (.int (1 : Int32)), .val (.ref o_AMPERES)] [])) (fun t k => XS.icmpNo X35.here hx rfl (hb hby d7_11) rfl (tlt (by decide : ((1 : Int32) < (3 : Int32)))).2.1 k) ?_
  refine own_Fin.step (S' := T35.setTop (mkF m 15 #[.val (.ref sy), .val (.ref ob_27), .val (.int (3 : Int32)), .val (.int (1 : Int32)), .val (.ref o_AMPERES)] [(.ref ob_27)])) (fun t k => XS.aloadN X35.here hx rfl (hb hby d7_14) rfl rfl  k) ?_
  refine own_Fin.step (S' := T35.setTop (mkF m 16 #[.val (.ref sy), .val (.ref ob_27), .val (.int (3 : Int32)), .val (.int (1 : Int32)), .val (.ref o_AMPERES)] [(.int (1 : Int32)), (.ref ob_27)])) (fun t k => XS.iloadN X35.here hx rfl (hb hby d7_15) rfl  k) ?_
  obtain ⟨cl45, Ar45, q45, S45, N45z, Hs45, G45⟩ := id G27_0
  have hin45 : ¬ ((1 : Int32) < 0 ∨ cl45.slots.size ≤ ((1 : Int32)).toNatClampNeg) := inb_of S45 ⟨by decide, by decide⟩
  have hat45 : cl45.slots[((1 : Int32)).toNatClampNeg]? = some (.ref o_KVA) := Hs45.at hin45 rfl
  refine own_Fin.step (S' := T35.setTop (mkF m 17 #[.val (.ref sy), .val (.ref ob_27), .val (.int (3 : Int32)), .val (.int (1 : Int32)), .val (.ref o_AMPERES)] [(.ref o_KVA)])) (X35.aaload hx (j := (1 : Int32)) (v := (.ref o_KVA)) (by rw [e35]; exact Ar45.1) (State.isArrayOf_alike hZ.alike Ar45.2.1) rfl Ar45.2.2 hin45 hat45 (g := (mkF m 16 #[.val (.ref sy), .val (.ref ob_27), .val (.int (3 : Int32)), .val (.int (1 : Int32)), .val (.ref o_AMPERES)] [(.int (1 : Int32)), (.ref ob_27)])) rfl rfl (hb hby d7_16)) ?_
  refine own_Fin.step (S' := T35.setTop (mkF m 19 #[.val (.ref sy), .val (.ref ob_27), .val (.int (3 : Int32)), .val (.int (1 : Int32)), .val (.ref o_KVA)] [])) (fun t k => XS.astore X35.here hx rfl (hb hby d7_17) rfl rfl (l' := #[.val (.ref sy), .val (.ref ob_27), .val (.int (3 : Int32)), .val (.int (1 : Int32)), .val (.ref o_KVA)]) rfl k) ?_
  refine own_Fin.step (S' := T35.setTop (mkF m 21 #[.val (.ref sy), .val (.ref ob_27), .val (.int (3 : Int32)), .val (.int (1 : Int32)), .val (.ref o_KVA)] [(.ref o_KVA)])) (fun t k => XS.aload X35.here hx rfl (hb hby d7_19) rfl rfl  k) ?_
  have f46 : Fld Z T27.heap o_KVA "com/example/tariff/tariff/BasicCharges$Unit" "symbol" "Ljava/lang/String;" (.ref o_KVA_symbol) := Fld.ext f30.2 (Amb.a11 A)
  obtain ⟨T47, X47, e47, st47⟩ := getF X35 hx hZ hown (host := "") (Or.inl (hw _ (List.mem_of_getElem? (i := 54) rfl))) Via.refl e35 f46 (g := (mkF m 21 #[.val (.ref sy), .val (.ref ob_27), .val (.int (3 : Int32)), .val (.int (1 : Int32)), .val (.ref o_KVA)] [(.ref o_KVA)])) rfl rfl (hb hby d7_21)
  refine own_Fin.step (S' := T47.setTop (mkF m 24 #[.val (.ref sy), .val (.ref ob_27), .val (.int (3 : Int32)), .val (.int (1 : Int32)), .val (.ref o_KVA)] [(.ref o_KVA_symbol)])) st47 ?_
  refine own_Fin.step (S' := T47.setTop (mkF m 25 #[.val (.ref sy), .val (.ref ob_27), .val (.int (3 : Int32)), .val (.int (1 : Int32)), .val (.ref o_KVA)] [(.ref sy), (.ref o_KVA_symbol)])) (fun t k => XS.aloadN X47.here hx rfl (hb hby d7_24) rfl rfl  k) ?_
  have hwe48 : ∀ d ∈ StrChars.Road.wordsEq, d.before a0 Z = true := fun d hd => hw d (own_wordsEq d hd)
  have f49 : Exa Z T27.heap o_KVA_symbol "java/lang/String" := Exa.ext f30.2 (Amb.a12 A)
  have f50 : Fld Z T27.heap o_KVA_symbol "java/lang/String" "value" "[B" (.ref o_KVA_symbol_value) := Fld.ext f30.2 (Amb.a13 A)
  have f51 : Fld Z T27.heap o_KVA_symbol "java/lang/String" "coder" "B" (.int (0 : Int32)) := Fld.ext f30.2 (Amb.a18 A)
  have f52 : Arv Z T27.heap o_KVA_symbol_value ko_KVA_symbol_value .byte (3 : Int32) [(.int (107 : Int32)), (.int (86 : Int32)), (.int (65 : Int32))] (.int (0 : Int32)) := Arv.ext (Amb.a22 A) f30.2
  have kq53 : Arv Z T27.heap o_KVA_symbol_value ko_KVA_symbol_value .byte (Int32.ofNat 3) ((([107, 86, 65] : List Int32).map StrChars.lo8).map Value.int) (.int 0) := f52
  have kq54 : Arv Z T27.heap ta kt .byte (Int32.ofNat 3) ((([107, 86, 65] : List Int32).map StrChars.lo8).map Value.int) (.int 0) := f34
  obtain ⟨cq48, kq48, q48a, q48b, q48c⟩ := isOf hZ e47 f49
  obtain ⟨_, _, ⟨T48, L48, k48, n48⟩, -, X48, ⟨Lc48, hQ48, l48, y48, zz48⟩, st48⟩ := X47.virtualBack hx (y := (⟨"java/lang/String", "equals", "(Ljava/lang/Object;)Z"⟩ : MethodName)) (z := (⟨"java/lang/String", "equals", "(Ljava/lang/Object;)Z"⟩ : MethodName)) hown (mvT hZ (hw _ (List.mem_of_getElem? (i := 56) rfl))) (mvT hZ (hw _ (List.mem_of_getElem? (i := 57) rfl))) (notFace_of_selects (args := #[]) (mvT hZ (hw _ (List.mem_of_getElem? (i := 59) rfl)))) (mvT hZ (hw _ (List.mem_of_getElem? (i := 59) rfl))) (mvT hZ (hw _ (List.mem_of_getElem? (i := 58) rfl))) (by decide) (StrChars.Road.eqW (W := 0) hZ hwe48 (kI := 4) (hw _ (List.mem_of_getElem? (i := 6) rfl)) f49 f50 f51 kq53 (StrChars.Road.codOf (cs := ([107, 86, 65] : List Int32)) (n := 3) rfl (by decide)) (by decide) (by decide) f42 f33 f43 kq54 (StrChars.Road.codOf (cs := ([107, 86, 65] : List Int32)) (n := 3) rfl (by decide)) (by decide) (by decide) f36 (Amb.g1 A) (by decide) (by decide)) q48a q48c (g := (mkF m 25 #[.val (.ref sy), .val (.ref ob_27), .val (.int (3 : Int32)), .val (.int (1 : Int32)), .val (.ref o_KVA)] [(.ref sy), (.ref o_KVA_symbol)])) rfl (by rw [hml]; rfl) (Steps.refl _) (argsL := [(.ref sy)]) (rest := []) (lenOf pd_7kva_1 rfl) rfl (by show 2 * 0 + _ ≤ _; exact Nat.le_of_eq rfl) (hb hby d7_25) (fun _ _ => ⟨rfl, e47, (by decide : 1 + 0 ≤ _), (by decide : 3 + 0 ≤ _)⟩)
  dsimp only [Pt.U, Pt.locs, Pt.cells, Pt.slots] at X48 l48 y48 zz48 st48 hQ48
  subst l48 y48 zz48
  obtain ⟨hve48, rfl, e48⟩ := hQ48
  have N48 := Fr.app N35 (Fr.nil n0)
  obtain ⟨rfl, -⟩ := own_eqY hve48 (by decide)
  refine own_Fin.trans (S' := T48.setTop (mkF m 28 #[.val (.ref sy), .val (.ref ob_27), .val (.int (3 : Int32)), .val (.int (1 : Int32)), .val (.ref o_KVA)] [(.int (1 : Int32))])) st48 ?_
  refine own_Fin.step (S' := T48.setTop (mkF m 31 #[.val (.ref sy), .val (.ref ob_27), .val (.int (3 : Int32)), .val (.int (1 : Int32)), .val (.ref o_KVA)] [])) (fun t k => XS.ifNo X48.here hx rfl (hb hby d7_28) rfl ((if0 _ _).trans (feq (by decide : ¬ ((1 : Int32) = (0 : Int32)))).1) k) ?_
  refine own_Fin.step (S' := T48.setTop (mkF m 33 #[.val (.ref sy), .val (.ref ob_27), .val (.int (3 : Int32)), .val (.int (1 : Int32)), .val (.ref o_KVA)] [(.ref o_KVA)])) (fun t k => XS.aload X48.here hx rfl (hb hby d7_31) rfl rfl  k) ?_
  have hq55 : Q7kva Z o_AMPERES o__VALUES ko__VALUES o_KVA o_KW o_AMPERES_symbol o_AMPERES_symbol_value ko_AMPERES_symbol_value o_KVA_symbol o_KVA_symbol_value ko_KVA_symbol_value o_KW_symbol o_KW_symbol_value ko_KW_symbol_value G1 sy ta kt h0 n0 (some (.ref o_KVA)) T27.heap _ := ⟨rfl, N48, KK27⟩
  exact own_retR X48 hx hlk (w := (.ref o_KVA)) rfl hrt rfl (hb hby d7_33) e48 hq55 (by decide) (by decide)
theorem pn_7kw : plainName "com/example/tariff/tariff/BasicCharges$Unit" = true := by first | (simp [plainName, overriddenIn]; done) | decide +kernel
theorem pd_7kw_0 : parseMethodDescriptor "()[Lcom/example/tariff/tariff/BasicCharges$Unit;" = some ⟨[], some (.array (.object "com/example/tariff/tariff/BasicCharges$Unit"))⟩ := by decide +kernel
theorem pd_7kw_1 : parseMethodDescriptor "(Ljava/lang/Object;)Z" = some ⟨[(.object "java/lang/Object")], some .boolean⟩ := by decide +kernel
theorem ef_7kw (m : MethodId) (x0 : Addr) : entryFrame m #[(.ref x0)] 5 = mkF m 0 #[.val (.ref x0), .unset, .unset, .unset, .unset] [] := by first | (simp [entryFrame, mkF, argsToLocals, Value.category]; done) | rfl
def Q7kw (Z : State) (o_AMPERES : Addr) (o__VALUES : Addr) (ko__VALUES : ClassId) (o_KVA : Addr) (o_KW : Addr) (o_AMPERES_symbol : Addr) (o_AMPERES_symbol_value : Addr) (ko_AMPERES_symbol_value : ClassId) (o_KVA_symbol : Addr) (o_KVA_symbol_value : Addr) (ko_KVA_symbol_value : ClassId) (o_KW_symbol : Addr) (o_KW_symbol_value : Addr) (ko_KW_symbol_value : ClassId) (G1 : Int32) (sy : Addr) (ta : Addr) (kt : ClassId) (h0 : Heap) (n0 : Nat) (v : Option Value) (h : Heap) (L : List Loc) : Prop := v = some (.ref o_KW) ∧ Fr n0 L ∧ Keep h0 h []
set_option maxRecDepth 65536 in
set_option maxHeartbeats 40000000 in
theorem rm7kw (l : Launch) (Z : State) (a0 : Array Value) (hw : ∀ d ∈ tables_1, d.before a0 Z = true) (ws : List Jvm.Cond) (o_AMPERES : Addr) (o__VALUES : Addr) (ko__VALUES : ClassId) (o_KVA : Addr) (o_KW : Addr) (o_AMPERES_symbol : Addr) (o_AMPERES_symbol_value : Addr) (ko_AMPERES_symbol_value : ClassId) (o_KVA_symbol : Addr) (o_KVA_symbol_value : Addr) (ko_KVA_symbol_value : ClassId) (o_KW_symbol : Addr) (o_KW_symbol_value : Addr) (ko_KW_symbol_value : ClassId) (G1 : Int32) (sy : Addr) (ta : Addr) (kt : ClassId) (h0 : Heap) (n0 : Nat) (Z0 : n0 ≤ h0.size) (OLD : Old Z n0 h0) (A : Amb Z o_AMPERES o__VALUES ko__VALUES o_KVA o_KW o_AMPERES_symbol o_AMPERES_symbol_value ko_AMPERES_symbol_value o_KVA_symbol o_KVA_symbol_value ko_KVA_symbol_value o_KW_symbol o_KW_symbol_value ko_KW_symbol_value G1) (P0 : Exa Z h0 sy "java/lang/String") (P1 : Fld Z h0 sy "java/lang/String" "value" "[B" (.ref ta)) (P2 : Fld Z h0 sy "java/lang/String" "coder" "B" (.int (0 : Int32))) (P3 : Arv Z h0 ta kt .byte (2 : Int32) ([((107 : Int32)).toInt8.toInt32, ((87 : Int32)).toInt8.toInt32].map Value.int) (.int 0)) :
    MetFree l (⟨"com/example/tariff/tariff/BasicCharges$Unit", "of", "(Ljava/lang/String;)Lcom/example/tariff/tariff/BasicCharges$Unit;"⟩ : MethodName) (head1 (Jvm.Cond.code (⟨"com/example/tariff/tariff/BasicCharges$Unit", "of", "(Ljava/lang/String;)Lcom/example/tariff/tariff/BasicCharges$Unit;"⟩ : MethodName) prog_3_method_5_code 5 (some (.object "com/example/tariff/tariff/BasicCharges$Unit")) :: ws) ({ frames := 2, cells := 1, slots := 3, locals := 28 } : Room)) (fun a U => a = #[(.ref sy)] ∧ Z.Warmed39 U.vm ∧ U.heap = h0) (fun _ _ _ _ _ => True) (fun _ U o U' => ∃ v L, o = .returned v ∧ Q7kw Z o_AMPERES o__VALUES ko__VALUES o_KVA o_KW o_AMPERES_symbol o_AMPERES_symbol_value ko_AMPERES_symbol_value o_KVA_symbol o_KVA_symbol_value ko_KVA_symbol_value o_KW_symbol o_KW_symbol_value ko_KW_symbol_value G1 sy ta kt h0 n0 v U'.heap L ∧ FrameEnd U o U' L ({ frames := 2, cells := 1, slots := 3, locals := 28 } : Room).cells ({ frames := 2, cells := 1, slots := 3, locals := 28 } : Room).slots) := by
  refine MetFree.of_bodySF (plainFor_of_name pn_7kw) hisR ?_
  intro p e s m args below meth c s₁ Bd hml0 hP hK
  obtain ⟨rfl, hZ, hh⟩ := hP
  have hx := Bd.exec
  have hby := Bd.bytes
  have hml : c.maxLocals = 5 := hml0
  have hown : s.vm.findClass "com/example/tariff/tariff/BasicCharges$Unit" = some m.cls := findClass_of_methodNamed Bd.named
  have hnm := (name_of_methodNamed Bd.named Bd.method).1
  have hlk : meth.locks = false := BodyLoose.notSynchronized Bd
  have hrt := Bd.returns
  have X0 : Stand p l e ({ frames := 2, cells := 1, slots := 3, locals := 28 } : Room) s m #[(.ref sy)] below meth c s₁ [] 0 0 := Stand.of_body Bd
  have e0 : s₁.heap = h0 := by rw [← hh, Bd.state]; rfl
  have N0 := Fr.nil n0
  show own_Fin p.tables e below (own_post (Q7kw Z o_AMPERES o__VALUES ko__VALUES o_KVA o_KW o_AMPERES_symbol o_AMPERES_symbol_value ko_AMPERES_symbol_value o_KVA_symbol o_KVA_symbol_value ko_KVA_symbol_value o_KW_symbol o_KW_symbol_value ko_KW_symbol_value G1 sy ta kt h0 n0) s ({ frames := 2, cells := 1, slots := 3, locals := 28 } : Room).cells ({ frames := 2, cells := 1, slots := 3, locals := 28 } : Room).slots) (s₁.setTop (entryFrame m #[(.ref sy)] 5))
  refine own_Fin.step (fun t k => castTop (ef_7kw m sy) k) ?_
  have lt_P0 : @LT.lt Nat _ sy (Array.size h0) := P0.lt
  have lt_P1 : @LT.lt Nat _ sy (Array.size h0) := P1.lt
  have lt_P2 : @LT.lt Nat _ sy (Array.size h0) := P2.lt
  have lt_P3 : @LT.lt Nat _ ta (Array.size h0) := P3.lt
  obtain ⟨_, _, ⟨T56, L56, k56, n56⟩, -, X56, ⟨Lc56, hQ56, l56, y56, zz56⟩, st56⟩ := Jvm.LawKit.callS X0 hx (y := (⟨"com/example/tariff/tariff/BasicCharges$Unit", "values", "()[Lcom/example/tariff/tariff/BasicCharges$Unit;"⟩ : MethodName)) hown (mvT hZ (hw _ (List.mem_of_getElem? (i := 37) rfl))) (mvT hZ (hw _ (List.mem_of_getElem? (i := 38) rfl))) (mvT hZ (hw _ (List.mem_of_getElem? (i := 3) rfl))) (mvT hZ (hw _ (List.mem_of_getElem? (i := 39) rfl))) (by decide) (backOf (W := 0) (rm8 l Z a0 hw [] o_AMPERES o__VALUES ko__VALUES o_KVA o_KW o_AMPERES_symbol o_AMPERES_symbol_value ko_AMPERES_symbol_value o_KVA_symbol o_KVA_symbol_value ko_KVA_symbol_value o_KW_symbol o_KW_symbol_value ko_KW_symbol_value G1 h0 n0 (by omega) OLD A) hZ (hw _ (List.mem_of_getElem? (i := 39) rfl)) (hw _ (List.mem_of_getElem? (i := 3) rfl)) (by decide) (by decide)) (g := (mkF m 0 #[.val (.ref sy), .unset, .unset, .unset, .unset] [])) rfl (by rw [hml]; rfl) (argsL := []) (rest := []) (lenOf pd_7kw_0 rfl) rfl (by show 2 * 0 + _ ≤ _; exact Nat.le_of_eq rfl) (hb hby d7_0) (fun _ _ => ⟨rfl, e0, (by decide : 0 + 1 ≤ _), (by decide : 0 + 3 ≤ _)⟩)
  dsimp only [Pt.U, Pt.locs, Pt.cells, Pt.slots] at X56 l56 y56 zz56 st56 hQ56
  subst l56 y56 zz56
  obtain ⟨ob_56, rfl, N56q, K56, G56_0, G56_1, U56_0⟩ := hQ56
  have N56 := Fr.app N0 N56q
  have z56 := K56.1
  have KK56 : Keep h0 T56.heap [] := (Keep.refl h0 []).trans K56 all0
  have lt56_0 : @LT.lt Nat _ ob_56 (Array.size T56.heap) := G56_0.lt
  have lt56_1 : @LT.lt Nat _ ob_56 (Array.size T56.heap) := G56_1.lt
  refine own_Fin.step (S' := T56.setTop (mkF m 3 #[.val (.ref sy), .unset, .unset, .unset, .unset] [(.ref ob_56)])) st56 ?_
  refine own_Fin.step (S' := T56.setTop (mkF m 4 #[.val (.ref sy), .val (.ref ob_56), .unset, .unset, .unset] [])) (fun t k => XS.astoreN X56.here hx rfl (hb hby d7_3) rfl rfl (l' := #[.val (.ref sy), .val (.ref ob_56), .unset, .unset, .unset]) rfl k) ?_
  refine own_Fin.step (S' := T56.setTop (mkF m 5 #[.val (.ref sy), .val (.ref ob_56), .unset, .unset, .unset] [(.ref ob_56)])) (fun t k => XS.aloadN X56.here hx rfl (hb hby d7_4) rfl rfl  k) ?_
  obtain ⟨cl57, Ar57, q57, S57, N57z, Hs57, G57⟩ := id G56_0
  refine own_Fin.step (X56.arraylength hx Ar57.1 (State.isArrayOf_alike hZ.alike Ar57.2.1) (g := (mkF m 5 #[.val (.ref sy), .val (.ref ob_56), .unset, .unset, .unset] [(.ref ob_56)])) rfl rfl (hb hby d7_5)) ?_
  rw [len_of S57 N57z]
  show own_Fin _ _ _ _ (T56.setTop (mkF m 6 #[.val (.ref sy), .val (.ref ob_56), .unset, .unset, .unset] [(.int (3 : Int32))]))
  refine own_Fin.step (S' := T56.setTop (mkF m 7 #[.val (.ref sy), .val (.ref ob_56), .val (.int (3 : Int32)), .unset, .unset] [])) (fun t k => XS.istoreN X56.here hx rfl (hb hby d7_6) rfl (l' := #[.val (.ref sy), .val (.ref ob_56), .val (.int (3 : Int32)), .unset, .unset]) rfl k) ?_
  refine own_Fin.step (S' := T56.setTop (mkF m 8 #[.val (.ref sy), .val (.ref ob_56), .val (.int (3 : Int32)), .unset, .unset] [(.int (0 : Int32))])) (fun t k => XS.iconst X56.here hx rfl (hb hby d7_7) k) ?_
  refine own_Fin.step (S' := T56.setTop (mkF m 9 #[.val (.ref sy), .val (.ref ob_56), .val (.int (3 : Int32)), .val (.int (0 : Int32)), .unset] [])) (fun t k => XS.istoreN X56.here hx rfl (hb hby d7_8) rfl (l' := #[.val (.ref sy), .val (.ref ob_56), .val (.int (3 : Int32)), .val (.int (0 : Int32)), .unset]) rfl k) ?_
  refine own_Fin.step (S' := T56.setTop (mkF m 10 #[.val (.ref sy), .val (.ref ob_56), .val (.int (3 : Int32)), .val (.int (0 : Int32)), .unset] [(.int (0 : Int32))])) (fun t k => XS.iloadN X56.here hx rfl (hb hby d7_9) rfl  k) ?_
  refine own_Fin.step (S' := T56.setTop (mkF m 11 #[.val (.ref sy), .val (.ref ob_56), .val (.int (3 : Int32)), .val (.int (0 : Int32)), .unset] [(.int (3 : Int32)), (.int (0 : Int32))])) (fun t k => XS.iloadN X56.here hx rfl (hb hby d7_10) rfl  k) ?_
  refine own_Fin.step (S' := T56.setTop (mkF m 14 #[.val (.ref sy), .val (.ref ob_56), .val (.int (3 : Int32)), .val (.int (0 : Int32)), .unset] [])) (fun t k => XS.icmpNo X56.here hx rfl (hb hby d7_11) rfl (tlt (by decide : ((0 : Int32) < (3 : Int32)))).2.1 k) ?_
  refine own_Fin.step (S' := T56.setTop (mkF m 15 #[.val (.ref sy), .val (.ref ob_56), .val (.int (3 : Int32)), .val (.int (0 : Int32)), .unset] [(.ref ob_56)])) (fun t k => XS.aloadN X56.here hx rfl (hb hby d7_14) rfl rfl  k) ?_
  refine own_Fin.step (S' := T56.setTop (mkF m 16 #[.val (.ref sy), .val (.ref ob_56), .val (.int (3 : Int32)), .val (.int (0 : Int32)), .unset] [(.int (0 : Int32)), (.ref ob_56)])) (fun t k => XS.iloadN X56.here hx rfl (hb hby d7_15) rfl  k) ?_
  obtain ⟨cl58, Ar58, q58, S58, N58z, Hs58, G58⟩ := id G56_0
  have hin58 : ¬ ((0 : Int32) < 0 ∨ cl58.slots.size ≤ ((0 : Int32)).toNatClampNeg) := inb_of S58 ⟨by decide, by decide⟩
  have hat58 : cl58.slots[((0 : Int32)).toNatClampNeg]? = some (.ref o_AMPERES) := Hs58.at hin58 rfl
  refine own_Fin.step (S' := T56.setTop (mkF m 17 #[.val (.ref sy), .val (.ref ob_56), .val (.int (3 : Int32)), .val (.int (0 : Int32)), .unset] [(.ref o_AMPERES)])) (X56.aaload hx (j := (0 : Int32)) (v := (.ref o_AMPERES)) Ar58.1 (State.isArrayOf_alike hZ.alike Ar58.2.1) rfl Ar58.2.2 hin58 hat58 (g := (mkF m 16 #[.val (.ref sy), .val (.ref ob_56), .val (.int (3 : Int32)), .val (.int (0 : Int32)), .unset] [(.int (0 : Int32)), (.ref ob_56)])) rfl rfl (hb hby d7_16)) ?_
  refine own_Fin.step (S' := T56.setTop (mkF m 19 #[.val (.ref sy), .val (.ref ob_56), .val (.int (3 : Int32)), .val (.int (0 : Int32)), .val (.ref o_AMPERES)] [])) (fun t k => XS.astore X56.here hx rfl (hb hby d7_17) rfl rfl (l' := #[.val (.ref sy), .val (.ref ob_56), .val (.int (3 : Int32)), .val (.int (0 : Int32)), .val (.ref o_AMPERES)]) rfl k) ?_
  refine own_Fin.step (S' := T56.setTop (mkF m 21 #[.val (.ref sy), .val (.ref ob_56), .val (.int (3 : Int32)), .val (.int (0 : Int32)), .val (.ref o_AMPERES)] [(.ref o_AMPERES)])) (fun t k => XS.aload X56.here hx rfl (hb hby d7_19) rfl rfl  k) ?_
  have f59 : Old Z n0 T56.heap := (OLD.keep K56 all0)
  have f60 : Fld Z T56.heap o_AMPERES "com/example/tariff/tariff/BasicCharges$Unit" "symbol" "Ljava/lang/String;" (.ref o_AMPERES_symbol) := Fld.ext f59.2 (Amb.a8 A)
  obtain ⟨T61, X61, e61, st61⟩ := getF X56 hx hZ hown (host := "") (Or.inl (hw _ (List.mem_of_getElem? (i := 54) rfl))) Via.refl rfl f60 (g := (mkF m 21 #[.val (.ref sy), .val (.ref ob_56), .val (.int (3 : Int32)), .val (.int (0 : Int32)), .val (.ref o_AMPERES)] [(.ref o_AMPERES)])) rfl rfl (hb hby d7_21)
  refine own_Fin.step (S' := T61.setTop (mkF m 24 #[.val (.ref sy), .val (.ref ob_56), .val (.int (3 : Int32)), .val (.int (0 : Int32)), .val (.ref o_AMPERES)] [(.ref o_AMPERES_symbol)])) st61 ?_
  refine own_Fin.step (S' := T61.setTop (mkF m 25 #[.val (.ref sy), .val (.ref ob_56), .val (.int (3 : Int32)), .val (.int (0 : Int32)), .val (.ref o_AMPERES)] [(.ref sy), (.ref o_AMPERES_symbol)])) (fun t k => XS.aloadN X61.here hx rfl (hb hby d7_24) rfl rfl  k) ?_
  have f62 : Fld Z T56.heap sy "java/lang/String" "value" "[B" (.ref ta) := (P1.keep K56 nin0)
  have f63 : Arv Z T56.heap ta kt .byte (2 : Int32) ([((107 : Int32)).toInt8.toInt32, ((87 : Int32)).toInt8.toInt32].map Value.int) (.int 0) := (P3.keep K56 nin0)
  have f65 : Sta Z T56.heap "java/lang/String" "COMPACT_STRINGS" "Z" (.int G1) := Sta.ext f59.2 (Amb.a24 A)
  have hwe64 : ∀ d ∈ StrChars.Road.wordsEq, d.before a0 Z = true := fun d hd => hw d (own_wordsEq d hd)
  have f66 : Exa Z T56.heap o_AMPERES_symbol "java/lang/String" := Exa.ext f59.2 (Amb.a9 A)
  have f67 : Fld Z T56.heap o_AMPERES_symbol "java/lang/String" "value" "[B" (.ref o_AMPERES_symbol_value) := Fld.ext f59.2 (Amb.a10 A)
  have f68 : Fld Z T56.heap o_AMPERES_symbol "java/lang/String" "coder" "B" (.int (0 : Int32)) := Fld.ext f59.2 (Amb.a17 A)
  have f69 : Arv Z T56.heap o_AMPERES_symbol_value ko_AMPERES_symbol_value .byte (1 : Int32) [(.int (65 : Int32))] (.int (0 : Int32)) := Arv.ext (Amb.a21 A) f59.2
  have kq70 : Arv Z T56.heap o_AMPERES_symbol_value ko_AMPERES_symbol_value .byte (Int32.ofNat 1) ((([65] : List Int32).map StrChars.lo8).map Value.int) (.int 0) := f69
  have f71 : Exa Z T56.heap sy "java/lang/String" := (Exa.keep P0 K56)
  have f72 : Fld Z T56.heap sy "java/lang/String" "coder" "B" (.int (0 : Int32)) := (P2.keep K56 nin0)
  have kq73 : Arv Z T56.heap ta kt .byte (Int32.ofNat 2) ((([107, 87] : List Int32).map StrChars.lo8).map Value.int) (.int 0) := f63
  obtain ⟨cq64, kq64, q64a, q64b, q64c⟩ := isOf hZ e61 f66
  obtain ⟨_, _, ⟨T64, L64, k64, n64⟩, -, X64, ⟨Lc64, hQ64, l64, y64, zz64⟩, st64⟩ := X61.virtualBack hx (y := (⟨"java/lang/String", "equals", "(Ljava/lang/Object;)Z"⟩ : MethodName)) (z := (⟨"java/lang/String", "equals", "(Ljava/lang/Object;)Z"⟩ : MethodName)) hown (mvT hZ (hw _ (List.mem_of_getElem? (i := 56) rfl))) (mvT hZ (hw _ (List.mem_of_getElem? (i := 57) rfl))) (notFace_of_selects (args := #[]) (mvT hZ (hw _ (List.mem_of_getElem? (i := 59) rfl)))) (mvT hZ (hw _ (List.mem_of_getElem? (i := 59) rfl))) (mvT hZ (hw _ (List.mem_of_getElem? (i := 58) rfl))) (by decide) (StrChars.Road.eqW (W := 0) hZ hwe64 (kI := 4) (hw _ (List.mem_of_getElem? (i := 6) rfl)) f66 f67 f68 kq70 (StrChars.Road.codOf (cs := ([65] : List Int32)) (n := 1) rfl (by decide)) (by decide) (by decide) f71 f62 f72 kq73 (StrChars.Road.codOf (cs := ([107, 87] : List Int32)) (n := 2) rfl (by decide)) (by decide) (by decide) f65 (Amb.g1 A) (by decide) (by decide)) q64a q64c (g := (mkF m 25 #[.val (.ref sy), .val (.ref ob_56), .val (.int (3 : Int32)), .val (.int (0 : Int32)), .val (.ref o_AMPERES)] [(.ref sy), (.ref o_AMPERES_symbol)])) rfl (by rw [hml]; rfl) (Steps.refl _) (argsL := [(.ref sy)]) (rest := []) (lenOf pd_7kw_1 rfl) rfl (by show 2 * 0 + _ ≤ _; exact Nat.le_of_eq rfl) (hb hby d7_25) (fun _ _ => ⟨rfl, e61, (by decide : 1 + 0 ≤ _), (by decide : 3 + 0 ≤ _)⟩)
  dsimp only [Pt.U, Pt.locs, Pt.cells, Pt.slots] at X64 l64 y64 zz64 st64 hQ64
  subst l64 y64 zz64
  obtain ⟨hve64, rfl, e64⟩ := hQ64
  have N64 := Fr.app N56 (Fr.nil n0)
  obtain ⟨rfl, -⟩ := own_eqN hve64 (by decide)
  refine own_Fin.trans (S' := T64.setTop (mkF m 28 #[.val (.ref sy), .val (.ref ob_56), .val (.int (3 : Int32)), .val (.int (0 : Int32)), .val (.ref o_AMPERES)] [(.int (0 : Int32))])) st64 ?_
  refine own_Fin.step (S' := T64.setTop (mkF m 34 #[.val (.ref sy), .val (.ref ob_56), .val (.int (3 : Int32)), .val (.int (0 : Int32)), .val (.ref o_AMPERES)] [])) (fun t k => XS.ifYes X64.here hx rfl (pc0 := 28) (pc' := 34) rfl (hb hby d7_28) rfl ((if0 _ _).trans (teq (by decide : ((0 : Int32) = (0 : Int32)))).1) (by decide) (by decide) k) ?_
  refine own_Fin.step (S' := T64.setTop (mkF m 37 #[.val (.ref sy), .val (.ref ob_56), .val (.int (3 : Int32)), .val (.int (1 : Int32)), .val (.ref o_AMPERES)] [])) (fun t k => XS.iinc X64.here hx rfl (hb hby d7_34) rfl (l' := #[.val (.ref sy), .val (.ref ob_56), .val (.int (3 : Int32)), .val (.int (1 : Int32)), .val (.ref o_AMPERES)]) rfl k) ?_
  refine own_Fin.step (S' := T64.setTop (mkF m 9 #[.val (.ref sy), .val (.ref ob_56), .val (.int (3 : Int32)), .val (.int (1 : Int32)), .val (.ref o_AMPERES)] [])) (fun t k => XS.goto X64.here hx rfl (pc0 := 37) (pc' := 9) rfl (hb hby d7_37) (by decide) (by decide) k) ?_
  refine own_Fin.step (S' := T64.setTop (mkF m 10 #[.val (.ref sy), .val (.ref ob_56), .val (.int (3 : Int32)), .val (.int (1 : Int32)), .val (.ref o_AMPERES)] [(.int (1 : Int32))])) (fun t k => XS.iloadN X64.here hx rfl (hb hby d7_9) rfl  k) ?_
  refine own_Fin.step (S' := T64.setTop (mkF m 11 #[.val (.ref sy), .val (.ref ob_56), .val (.int (3 : Int32)), .val (.int (1 : Int32)), .val (.ref o_AMPERES)] [(.int (3 : Int32)), (.int (1 : Int32))])) (fun t k => XS.iloadN X64.here hx rfl (hb hby d7_10) rfl  k) ?_
  refine own_Fin.step (S' := T64.setTop (mkF m 14 #[.val (.ref sy), .val (.ref ob_56), .val (.int (3 : Int32)), .val (.int (1 : Int32)), .val (.ref o_AMPERES)] [])) (fun t k => XS.icmpNo X64.here hx rfl (hb hby d7_11) rfl (tlt (by decide : ((1 : Int32) < (3 : Int32)))).2.1 k) ?_
  refine own_Fin.step (S' := T64.setTop (mkF m 15 #[.val (.ref sy), .val (.ref ob_56), .val (.int (3 : Int32)), .val (.int (1 : Int32)), .val (.ref o_AMPERES)] [(.ref ob_56)])) (fun t k => XS.aloadN X64.here hx rfl (hb hby d7_14) rfl rfl  k) ?_
  refine own_Fin.step (S' := T64.setTop (mkF m 16 #[.val (.ref sy), .val (.ref ob_56), .val (.int (3 : Int32)), .val (.int (1 : Int32)), .val (.ref o_AMPERES)] [(.int (1 : Int32)), (.ref ob_56)])) (fun t k => XS.iloadN X64.here hx rfl (hb hby d7_15) rfl  k) ?_
  obtain ⟨cl74, Ar74, q74, S74, N74z, Hs74, G74⟩ := id G56_0
  have hin74 : ¬ ((1 : Int32) < 0 ∨ cl74.slots.size ≤ ((1 : Int32)).toNatClampNeg) := inb_of S74 ⟨by decide, by decide⟩
  have hat74 : cl74.slots[((1 : Int32)).toNatClampNeg]? = some (.ref o_KVA) := Hs74.at hin74 rfl
  refine own_Fin.step (S' := T64.setTop (mkF m 17 #[.val (.ref sy), .val (.ref ob_56), .val (.int (3 : Int32)), .val (.int (1 : Int32)), .val (.ref o_AMPERES)] [(.ref o_KVA)])) (X64.aaload hx (j := (1 : Int32)) (v := (.ref o_KVA)) (by rw [e64]; exact Ar74.1) (State.isArrayOf_alike hZ.alike Ar74.2.1) rfl Ar74.2.2 hin74 hat74 (g := (mkF m 16 #[.val (.ref sy), .val (.ref ob_56), .val (.int (3 : Int32)), .val (.int (1 : Int32)), .val (.ref o_AMPERES)] [(.int (1 : Int32)), (.ref ob_56)])) rfl rfl (hb hby d7_16)) ?_
  refine own_Fin.step (S' := T64.setTop (mkF m 19 #[.val (.ref sy), .val (.ref ob_56), .val (.int (3 : Int32)), .val (.int (1 : Int32)), .val (.ref o_KVA)] [])) (fun t k => XS.astore X64.here hx rfl (hb hby d7_17) rfl rfl (l' := #[.val (.ref sy), .val (.ref ob_56), .val (.int (3 : Int32)), .val (.int (1 : Int32)), .val (.ref o_KVA)]) rfl k) ?_
  refine own_Fin.step (S' := T64.setTop (mkF m 21 #[.val (.ref sy), .val (.ref ob_56), .val (.int (3 : Int32)), .val (.int (1 : Int32)), .val (.ref o_KVA)] [(.ref o_KVA)])) (fun t k => XS.aload X64.here hx rfl (hb hby d7_19) rfl rfl  k) ?_
  have f75 : Fld Z T56.heap o_KVA "com/example/tariff/tariff/BasicCharges$Unit" "symbol" "Ljava/lang/String;" (.ref o_KVA_symbol) := Fld.ext f59.2 (Amb.a11 A)
  obtain ⟨T76, X76, e76, st76⟩ := getF X64 hx hZ hown (host := "") (Or.inl (hw _ (List.mem_of_getElem? (i := 54) rfl))) Via.refl e64 f75 (g := (mkF m 21 #[.val (.ref sy), .val (.ref ob_56), .val (.int (3 : Int32)), .val (.int (1 : Int32)), .val (.ref o_KVA)] [(.ref o_KVA)])) rfl rfl (hb hby d7_21)
  refine own_Fin.step (S' := T76.setTop (mkF m 24 #[.val (.ref sy), .val (.ref ob_56), .val (.int (3 : Int32)), .val (.int (1 : Int32)), .val (.ref o_KVA)] [(.ref o_KVA_symbol)])) st76 ?_
  refine own_Fin.step (S' := T76.setTop (mkF m 25 #[.val (.ref sy), .val (.ref ob_56), .val (.int (3 : Int32)), .val (.int (1 : Int32)), .val (.ref o_KVA)] [(.ref sy), (.ref o_KVA_symbol)])) (fun t k => XS.aloadN X76.here hx rfl (hb hby d7_24) rfl rfl  k) ?_
  have hwe77 : ∀ d ∈ StrChars.Road.wordsEq, d.before a0 Z = true := fun d hd => hw d (own_wordsEq d hd)
  have f78 : Exa Z T56.heap o_KVA_symbol "java/lang/String" := Exa.ext f59.2 (Amb.a12 A)
  have f79 : Fld Z T56.heap o_KVA_symbol "java/lang/String" "value" "[B" (.ref o_KVA_symbol_value) := Fld.ext f59.2 (Amb.a13 A)
  have f80 : Fld Z T56.heap o_KVA_symbol "java/lang/String" "coder" "B" (.int (0 : Int32)) := Fld.ext f59.2 (Amb.a18 A)
  have f81 : Arv Z T56.heap o_KVA_symbol_value ko_KVA_symbol_value .byte (3 : Int32) [(.int (107 : Int32)), (.int (86 : Int32)), (.int (65 : Int32))] (.int (0 : Int32)) := Arv.ext (Amb.a22 A) f59.2
  have kq82 : Arv Z T56.heap o_KVA_symbol_value ko_KVA_symbol_value .byte (Int32.ofNat 3) ((([107, 86, 65] : List Int32).map StrChars.lo8).map Value.int) (.int 0) := f81
  have kq83 : Arv Z T56.heap ta kt .byte (Int32.ofNat 2) ((([107, 87] : List Int32).map StrChars.lo8).map Value.int) (.int 0) := f63
  obtain ⟨cq77, kq77, q77a, q77b, q77c⟩ := isOf hZ e76 f78
  obtain ⟨_, _, ⟨T77, L77, k77, n77⟩, -, X77, ⟨Lc77, hQ77, l77, y77, zz77⟩, st77⟩ := X76.virtualBack hx (y := (⟨"java/lang/String", "equals", "(Ljava/lang/Object;)Z"⟩ : MethodName)) (z := (⟨"java/lang/String", "equals", "(Ljava/lang/Object;)Z"⟩ : MethodName)) hown (mvT hZ (hw _ (List.mem_of_getElem? (i := 56) rfl))) (mvT hZ (hw _ (List.mem_of_getElem? (i := 57) rfl))) (notFace_of_selects (args := #[]) (mvT hZ (hw _ (List.mem_of_getElem? (i := 59) rfl)))) (mvT hZ (hw _ (List.mem_of_getElem? (i := 59) rfl))) (mvT hZ (hw _ (List.mem_of_getElem? (i := 58) rfl))) (by decide) (StrChars.Road.eqW (W := 0) hZ hwe77 (kI := 4) (hw _ (List.mem_of_getElem? (i := 6) rfl)) f78 f79 f80 kq82 (StrChars.Road.codOf (cs := ([107, 86, 65] : List Int32)) (n := 3) rfl (by decide)) (by decide) (by decide) f71 f62 f72 kq83 (StrChars.Road.codOf (cs := ([107, 87] : List Int32)) (n := 2) rfl (by decide)) (by decide) (by decide) f65 (Amb.g1 A) (by decide) (by decide)) q77a q77c (g := (mkF m 25 #[.val (.ref sy), .val (.ref ob_56), .val (.int (3 : Int32)), .val (.int (1 : Int32)), .val (.ref o_KVA)] [(.ref sy), (.ref o_KVA_symbol)])) rfl (by rw [hml]; rfl) (Steps.refl _) (argsL := [(.ref sy)]) (rest := []) (lenOf pd_7kw_1 rfl) rfl (by show 2 * 0 + _ ≤ _; exact Nat.le_of_eq rfl) (hb hby d7_25) (fun _ _ => ⟨rfl, e76, (by decide : 1 + 0 ≤ _), (by decide : 3 + 0 ≤ _)⟩)
  dsimp only [Pt.U, Pt.locs, Pt.cells, Pt.slots] at X77 l77 y77 zz77 st77 hQ77
  subst l77 y77 zz77
  obtain ⟨hve77, rfl, e77⟩ := hQ77
  have N77 := Fr.app N64 (Fr.nil n0)
  obtain ⟨rfl, -⟩ := own_eqN hve77 (by decide)
  refine own_Fin.trans (S' := T77.setTop (mkF m 28 #[.val (.ref sy), .val (.ref ob_56), .val (.int (3 : Int32)), .val (.int (1 : Int32)), .val (.ref o_KVA)] [(.int (0 : Int32))])) st77 ?_
  refine own_Fin.step (S' := T77.setTop (mkF m 34 #[.val (.ref sy), .val (.ref ob_56), .val (.int (3 : Int32)), .val (.int (1 : Int32)), .val (.ref o_KVA)] [])) (fun t k => XS.ifYes X77.here hx rfl (pc0 := 28) (pc' := 34) rfl (hb hby d7_28) rfl ((if0 _ _).trans (teq (by decide : ((0 : Int32) = (0 : Int32)))).1) (by decide) (by decide) k) ?_
  refine own_Fin.step (S' := T77.setTop (mkF m 37 #[.val (.ref sy), .val (.ref ob_56), .val (.int (3 : Int32)), .val (.int (2 : Int32)), .val (.ref o_KVA)] [])) (fun t k => XS.iinc X77.here hx rfl (hb hby d7_34) rfl (l' := #[.val (.ref sy), .val (.ref ob_56), .val (.int (3 : Int32)), .val (.int (2 : Int32)), .val (.ref o_KVA)]) rfl k) ?_
  refine own_Fin.step (S' := T77.setTop (mkF m 9 #[.val (.ref sy), .val (.ref ob_56), .val (.int (3 : Int32)), .val (.int (2 : Int32)), .val (.ref o_KVA)] [])) (fun t k => XS.goto X77.here hx rfl (pc0 := 37) (pc' := 9) rfl (hb hby d7_37) (by decide) (by decide) k) ?_
  refine own_Fin.step (S' := T77.setTop (mkF m 10 #[.val (.ref sy), .val (.ref ob_56), .val (.int (3 : Int32)), .val (.int (2 : Int32)), .val (.ref o_KVA)] [(.int (2 : Int32))])) (fun t k => XS.iloadN X77.here hx rfl (hb hby d7_9) rfl  k) ?_
  refine own_Fin.step (S' := T77.setTop (mkF m 11 #[.val (.ref sy), .val (.ref ob_56), .val (.int (3 : Int32)), .val (.int (2 : Int32)), .val (.ref o_KVA)] [(.int (3 : Int32)), (.int (2 : Int32))])) (fun t k => XS.iloadN X77.here hx rfl (hb hby d7_10) rfl  k) ?_
  refine own_Fin.step (S' := T77.setTop (mkF m 14 #[.val (.ref sy), .val (.ref ob_56), .val (.int (3 : Int32)), .val (.int (2 : Int32)), .val (.ref o_KVA)] [])) (fun t k => XS.icmpNo X77.here hx rfl (hb hby d7_11) rfl (tlt (by decide : ((2 : Int32) < (3 : Int32)))).2.1 k) ?_
  refine own_Fin.step (S' := T77.setTop (mkF m 15 #[.val (.ref sy), .val (.ref ob_56), .val (.int (3 : Int32)), .val (.int (2 : Int32)), .val (.ref o_KVA)] [(.ref ob_56)])) (fun t k => XS.aloadN X77.here hx rfl (hb hby d7_14) rfl rfl  k) ?_
  refine own_Fin.step (S' := T77.setTop (mkF m 16 #[.val (.ref sy), .val (.ref ob_56), .val (.int (3 : Int32)), .val (.int (2 : Int32)), .val (.ref o_KVA)] [(.int (2 : Int32)), (.ref ob_56)])) (fun t k => XS.iloadN X77.here hx rfl (hb hby d7_15) rfl  k) ?_
  obtain ⟨cl84, Ar84, q84, S84, N84z, Hs84, G84⟩ := id G56_0
  have hin84 : ¬ ((2 : Int32) < 0 ∨ cl84.slots.size ≤ ((2 : Int32)).toNatClampNeg) := inb_of S84 ⟨by decide, by decide⟩
  have hat84 : cl84.slots[((2 : Int32)).toNatClampNeg]? = some (.ref o_KW) := Hs84.at hin84 rfl
  refine own_Fin.step (S' := T77.setTop (mkF m 17 #[.val (.ref sy), .val (.ref ob_56), .val (.int (3 : Int32)), .val (.int (2 : Int32)), .val (.ref o_KVA)] [(.ref o_KW)])) (X77.aaload hx (j := (2 : Int32)) (v := (.ref o_KW)) (by rw [e77]; exact Ar84.1) (State.isArrayOf_alike hZ.alike Ar84.2.1) rfl Ar84.2.2 hin84 hat84 (g := (mkF m 16 #[.val (.ref sy), .val (.ref ob_56), .val (.int (3 : Int32)), .val (.int (2 : Int32)), .val (.ref o_KVA)] [(.int (2 : Int32)), (.ref ob_56)])) rfl rfl (hb hby d7_16)) ?_
  refine own_Fin.step (S' := T77.setTop (mkF m 19 #[.val (.ref sy), .val (.ref ob_56), .val (.int (3 : Int32)), .val (.int (2 : Int32)), .val (.ref o_KW)] [])) (fun t k => XS.astore X77.here hx rfl (hb hby d7_17) rfl rfl (l' := #[.val (.ref sy), .val (.ref ob_56), .val (.int (3 : Int32)), .val (.int (2 : Int32)), .val (.ref o_KW)]) rfl k) ?_
  refine own_Fin.step (S' := T77.setTop (mkF m 21 #[.val (.ref sy), .val (.ref ob_56), .val (.int (3 : Int32)), .val (.int (2 : Int32)), .val (.ref o_KW)] [(.ref o_KW)])) (fun t k => XS.aload X77.here hx rfl (hb hby d7_19) rfl rfl  k) ?_
  have f85 : Fld Z T56.heap o_KW "com/example/tariff/tariff/BasicCharges$Unit" "symbol" "Ljava/lang/String;" (.ref o_KW_symbol) := Fld.ext f59.2 (Amb.a14 A)
  obtain ⟨T86, X86, e86, st86⟩ := getF X77 hx hZ hown (host := "") (Or.inl (hw _ (List.mem_of_getElem? (i := 54) rfl))) Via.refl e77 f85 (g := (mkF m 21 #[.val (.ref sy), .val (.ref ob_56), .val (.int (3 : Int32)), .val (.int (2 : Int32)), .val (.ref o_KW)] [(.ref o_KW)])) rfl rfl (hb hby d7_21)
  refine own_Fin.step (S' := T86.setTop (mkF m 24 #[.val (.ref sy), .val (.ref ob_56), .val (.int (3 : Int32)), .val (.int (2 : Int32)), .val (.ref o_KW)] [(.ref o_KW_symbol)])) st86 ?_
  refine own_Fin.step (S' := T86.setTop (mkF m 25 #[.val (.ref sy), .val (.ref ob_56), .val (.int (3 : Int32)), .val (.int (2 : Int32)), .val (.ref o_KW)] [(.ref sy), (.ref o_KW_symbol)])) (fun t k => XS.aloadN X86.here hx rfl (hb hby d7_24) rfl rfl  k) ?_
  have hwe87 : ∀ d ∈ StrChars.Road.wordsEq, d.before a0 Z = true := fun d hd => hw d (own_wordsEq d hd)
  have f88 : Exa Z T56.heap o_KW_symbol "java/lang/String" := Exa.ext f59.2 (Amb.a15 A)
  have f89 : Fld Z T56.heap o_KW_symbol "java/lang/String" "value" "[B" (.ref o_KW_symbol_value) := Fld.ext f59.2 (Amb.a16 A)
  have f90 : Fld Z T56.heap o_KW_symbol "java/lang/String" "coder" "B" (.int (0 : Int32)) := Fld.ext f59.2 (Amb.a19 A)
  have f91 : Arv Z T56.heap o_KW_symbol_value ko_KW_symbol_value .byte (2 : Int32) [(.int (107 : Int32)), (.int (87 : Int32))] (.int (0 : Int32)) := Arv.ext (Amb.a23 A) f59.2
  have kq92 : Arv Z T56.heap o_KW_symbol_value ko_KW_symbol_value .byte (Int32.ofNat 2) ((([107, 87] : List Int32).map StrChars.lo8).map Value.int) (.int 0) := f91
  have kq93 : Arv Z T56.heap ta kt .byte (Int32.ofNat 2) ((([107, 87] : List Int32).map StrChars.lo8).map Value.int) (.int 0) := f63
  obtain ⟨cq87, kq87, q87a, q87b, q87c⟩ := isOf hZ e86 f88
  obtain ⟨_, _, ⟨T87, L87, k87, n87⟩, -, X87, ⟨Lc87, hQ87, l87, y87, zz87⟩, st87⟩ := X86.virtualBack hx (y := (⟨"java/lang/String", "equals", "(Ljava/lang/Object;)Z"⟩ : MethodName)) (z := (⟨"java/lang/String", "equals", "(Ljava/lang/Object;)Z"⟩ : MethodName)) hown (mvT hZ (hw _ (List.mem_of_getElem? (i := 56) rfl))) (mvT hZ (hw _ (List.mem_of_getElem? (i := 57) rfl))) (notFace_of_selects (args := #[]) (mvT hZ (hw _ (List.mem_of_getElem? (i := 59) rfl)))) (mvT hZ (hw _ (List.mem_of_getElem? (i := 59) rfl))) (mvT hZ (hw _ (List.mem_of_getElem? (i := 58) rfl))) (by decide) (StrChars.Road.eqW (W := 0) hZ hwe87 (kI := 4) (hw _ (List.mem_of_getElem? (i := 6) rfl)) f88 f89 f90 kq92 (StrChars.Road.codOf (cs := ([107, 87] : List Int32)) (n := 2) rfl (by decide)) (by decide) (by decide) f71 f62 f72 kq93 (StrChars.Road.codOf (cs := ([107, 87] : List Int32)) (n := 2) rfl (by decide)) (by decide) (by decide) f65 (Amb.g1 A) (by decide) (by decide)) q87a q87c (g := (mkF m 25 #[.val (.ref sy), .val (.ref ob_56), .val (.int (3 : Int32)), .val (.int (2 : Int32)), .val (.ref o_KW)] [(.ref sy), (.ref o_KW_symbol)])) rfl (by rw [hml]; rfl) (Steps.refl _) (argsL := [(.ref sy)]) (rest := []) (lenOf pd_7kw_1 rfl) rfl (by show 2 * 0 + _ ≤ _; exact Nat.le_of_eq rfl) (hb hby d7_25) (fun _ _ => ⟨rfl, e86, (by decide : 1 + 0 ≤ _), (by decide : 3 + 0 ≤ _)⟩)
  dsimp only [Pt.U, Pt.locs, Pt.cells, Pt.slots] at X87 l87 y87 zz87 st87 hQ87
  subst l87 y87 zz87
  obtain ⟨hve87, rfl, e87⟩ := hQ87
  have N87 := Fr.app N77 (Fr.nil n0)
  obtain ⟨rfl, -⟩ := own_eqY hve87 (by decide)
  refine own_Fin.trans (S' := T87.setTop (mkF m 28 #[.val (.ref sy), .val (.ref ob_56), .val (.int (3 : Int32)), .val (.int (2 : Int32)), .val (.ref o_KW)] [(.int (1 : Int32))])) st87 ?_
  refine own_Fin.step (S' := T87.setTop (mkF m 31 #[.val (.ref sy), .val (.ref ob_56), .val (.int (3 : Int32)), .val (.int (2 : Int32)), .val (.ref o_KW)] [])) (fun t k => XS.ifNo X87.here hx rfl (hb hby d7_28) rfl ((if0 _ _).trans (feq (by decide : ¬ ((1 : Int32) = (0 : Int32)))).1) k) ?_
  refine own_Fin.step (S' := T87.setTop (mkF m 33 #[.val (.ref sy), .val (.ref ob_56), .val (.int (3 : Int32)), .val (.int (2 : Int32)), .val (.ref o_KW)] [(.ref o_KW)])) (fun t k => XS.aload X87.here hx rfl (hb hby d7_31) rfl rfl  k) ?_
  have hq94 : Q7kw Z o_AMPERES o__VALUES ko__VALUES o_KVA o_KW o_AMPERES_symbol o_AMPERES_symbol_value ko_AMPERES_symbol_value o_KVA_symbol o_KVA_symbol_value ko_KVA_symbol_value o_KW_symbol o_KW_symbol_value ko_KW_symbol_value G1 sy ta kt h0 n0 (some (.ref o_KW)) T56.heap _ := ⟨rfl, N87, KK56⟩
  exact own_retR X87 hx hlk (w := (.ref o_KW)) rfl hrt rfl (hb hby d7_33) e87 hq94 (by decide) (by decide)
theorem d11_0 : decode prog_3_method_4_code 0 = .ok (.aload_n 0, 1) := by decide +kernel
theorem d11_1 : decode prog_3_method_4_code 1 = .ok (.getfield 32, 3) := by decide +kernel
theorem d11_4 : decode prog_3_method_4_code 4 = .ok (.areturn, 1) := by decide +kernel
theorem pn_11 : plainName "com/example/tariff/tariff/BasicCharges$Unit" = true := by first | (simp [plainName, overriddenIn]; done) | decide +kernel
theorem ef_11 (m : MethodId) (x0 : Addr) : entryFrame m #[(.ref x0)] 1 = mkF m 0 #[.val (.ref x0)] [] := by first | (simp [entryFrame, mkF, argsToLocals, Value.category]; done) | rfl
def Q11 (Z : State) (a1 : Addr) (sy : Addr) (h0 : Heap) (n0 : Nat) (v : Option Value) (h : Heap) (L : List Loc) : Prop := v = some (.ref sy) ∧ Fr n0 L ∧ h = h0
set_option maxRecDepth 65536 in
set_option maxHeartbeats 40000000 in
theorem rm11 (l : Launch) (Z : State) (a0 : Array Value) (hw : ∀ d ∈ tables_1, d.before a0 Z = true) (ws : List Jvm.Cond) (a1 : Addr) (sy : Addr) (h0 : Heap) (n0 : Nat) (Z0 : n0 ≤ h0.size) (P0 : Fld Z h0 a1 "com/example/tariff/tariff/BasicCharges$Unit" "symbol" "Ljava/lang/String;" (.ref sy)) :
    MetFree l (⟨"com/example/tariff/tariff/BasicCharges$Unit", "symbol", "()Ljava/lang/String;"⟩ : MethodName) (head1 (Jvm.Cond.code (⟨"com/example/tariff/tariff/BasicCharges$Unit", "symbol", "()Ljava/lang/String;"⟩ : MethodName) prog_3_method_4_code 1 (some (.object "java/lang/String")) :: ws) ({ frames := 0, cells := 0, slots := 0, locals := 0 } : Room)) (fun a U => a = #[(.ref a1)] ∧ Z.Warmed39 U.vm ∧ U.heap = h0) (fun _ _ _ _ _ => True) (fun _ U o U' => ∃ v L, o = .returned v ∧ Q11 Z a1 sy h0 n0 v U'.heap L ∧ FrameEnd U o U' L ({ frames := 0, cells := 0, slots := 0, locals := 0 } : Room).cells ({ frames := 0, cells := 0, slots := 0, locals := 0 } : Room).slots) := by
  refine MetFree.of_bodySF (plainFor_of_name pn_11) hisR ?_
  intro p e s m args below meth c s₁ Bd hml0 hP hK
  obtain ⟨rfl, hZ, hh⟩ := hP
  have hx := Bd.exec
  have hby := Bd.bytes
  have hml : c.maxLocals = 1 := hml0
  have hown : s.vm.findClass "com/example/tariff/tariff/BasicCharges$Unit" = some m.cls := findClass_of_methodNamed Bd.named
  have hnm := (name_of_methodNamed Bd.named Bd.method).1
  have hlk : meth.locks = false := BodyLoose.notSynchronized Bd
  have hrt := Bd.returns
  have X0 : Stand p l e ({ frames := 0, cells := 0, slots := 0, locals := 0 } : Room) s m #[(.ref a1)] below meth c s₁ [] 0 0 := Stand.of_body Bd
  have e0 : s₁.heap = h0 := by rw [← hh, Bd.state]; rfl
  have N0 := Fr.nil n0
  show own_Fin p.tables e below (own_post (Q11 Z a1 sy h0 n0) s ({ frames := 0, cells := 0, slots := 0, locals := 0 } : Room).cells ({ frames := 0, cells := 0, slots := 0, locals := 0 } : Room).slots) (s₁.setTop (entryFrame m #[(.ref a1)] 1))
  refine own_Fin.step (fun t k => castTop (ef_11 m a1) k) ?_
  have lt_P0 : @LT.lt Nat _ a1 (Array.size h0) := P0.lt
  refine own_Fin.step (S' := s₁.setTop (mkF m 1 #[.val (.ref a1)] [(.ref a1)])) (fun t k => XS.aloadN X0.here hx rfl (hb hby d11_0) rfl rfl  k) ?_
  obtain ⟨T95, X95, e95, st95⟩ := getF X0 hx hZ hown (host := "") (Or.inl (hw _ (List.mem_of_getElem? (i := 54) rfl))) Via.refl e0 P0 (g := (mkF m 1 #[.val (.ref a1)] [(.ref a1)])) rfl rfl (hb hby d11_1)
  refine own_Fin.step (S' := T95.setTop (mkF m 4 #[.val (.ref a1)] [(.ref sy)])) st95 ?_
  have hq96 : Q11 Z a1 sy h0 n0 (some (.ref sy)) h0 _ := ⟨rfl, N0, rfl⟩
  exact own_retR X95 hx hlk (w := (.ref sy)) rfl hrt rfl (hb hby d11_4) e95 hq96 (by decide) (by decide)
theorem pn_0 : plainName "com/example/tariff/tariff/UnitOfPinLaw" = true := by first | (simp [plainName, overriddenIn]; done) | decide +kernel
theorem pd_0_0 : parseMethodDescriptor "([C)V" = some ⟨[(.array .char)], none⟩ := by decide +kernel
theorem pd_0_1 : parseMethodDescriptor "(Ljava/lang/String;)Lcom/example/tariff/tariff/BasicCharges$Unit;" = some ⟨[(.object "java/lang/String")], some (.object "com/example/tariff/tariff/BasicCharges$Unit")⟩ := by decide +kernel
theorem pd_0_2 : parseMethodDescriptor "()Ljava/lang/String;" = some ⟨[], some (.object "java/lang/String")⟩ := by decide +kernel
theorem pd_0_3 : parseMethodDescriptor "(Ljava/lang/Object;)Z" = some ⟨[(.object "java/lang/Object")], some .boolean⟩ := by decide +kernel
theorem ef_0 (m : MethodId) (x0 : Int32) : entryFrame m #[(.int x0)] maxLocals = mkF m 0 #[.val (.int x0), .unset, .unset, .unset, .unset, .unset] [] := by first | (simp [entryFrame, mkF, argsToLocals, Value.category, maxLocals]; done) | rfl
def Q0 (Z : State) (o_AMPERES : Addr) (o__VALUES : Addr) (ko__VALUES : ClassId) (o_KVA : Addr) (o_KW : Addr) (o_AMPERES_symbol : Addr) (o_AMPERES_symbol_value : Addr) (ko_AMPERES_symbol_value : ClassId) (o_KVA_symbol : Addr) (o_KVA_symbol_value : Addr) (ko_KVA_symbol_value : ClassId) (o_KW_symbol : Addr) (o_KW_symbol_value : Addr) (ko_KW_symbol_value : ClassId) (G1 : Int32) (i0 : Int32) (h0 : Heap) (n0 : Nat) (v : Option Value) (h : Heap) (L : List Loc) : Prop := v = some (.int (1 : Int32)) ∧ Fr n0 L
set_option maxRecDepth 65536 in
set_option maxHeartbeats 40000000 in
theorem rm0 (l : Launch) (Z : State) (a0 : Array Value) (hw : ∀ d ∈ tables_1, d.before a0 Z = true) (ws : List Jvm.Cond) (o_AMPERES : Addr) (o__VALUES : Addr) (ko__VALUES : ClassId) (o_KVA : Addr) (o_KW : Addr) (o_AMPERES_symbol : Addr) (o_AMPERES_symbol_value : Addr) (ko_AMPERES_symbol_value : ClassId) (o_KVA_symbol : Addr) (o_KVA_symbol_value : Addr) (ko_KVA_symbol_value : ClassId) (o_KW_symbol : Addr) (o_KW_symbol_value : Addr) (ko_KW_symbol_value : ClassId) (G1 : Int32) (i0 : Int32) (h0 : Heap) (n0 : Nat) (Z0 : n0 ≤ h0.size) (OLD : Old Z n0 h0) (A : Amb Z o_AMPERES o__VALUES ko__VALUES o_KVA o_KW o_AMPERES_symbol o_AMPERES_symbol_value ko_AMPERES_symbol_value o_KVA_symbol o_KVA_symbol_value ko_KVA_symbol_value o_KW_symbol o_KW_symbol_value ko_KW_symbol_value G1) :
    MetFree l x (head1 (Jvm.Cond.code x code maxLocals ret :: ws) room_1) (fun a U => a = #[(.int i0)] ∧ Z.Warmed39 U.vm ∧ U.heap = h0) (fun _ _ _ _ _ => True) (fun _ U o U' => ∃ v L, o = .returned v ∧ Q0 Z o_AMPERES o__VALUES ko__VALUES o_KVA o_KW o_AMPERES_symbol o_AMPERES_symbol_value ko_AMPERES_symbol_value o_KVA_symbol o_KVA_symbol_value ko_KVA_symbol_value o_KW_symbol o_KW_symbol_value ko_KW_symbol_value G1 i0 h0 n0 v U'.heap L ∧ FrameEnd U o U' L 16 128) := by
  refine MetFree.of_bodySF (plainFor_of_name pn_0) hisR ?_
  intro p e s m args below meth c s₁ Bd hml0 hP hK
  obtain ⟨rfl, hZ, hh⟩ := hP
  have hx := Bd.exec
  have hby := Bd.bytes
  have hml : c.maxLocals = 6 := hml0
  have hown : s.vm.findClass "com/example/tariff/tariff/UnitOfPinLaw" = some m.cls := findClass_of_methodNamed Bd.named
  have hnm := (name_of_methodNamed Bd.named Bd.method).1
  have hlk : meth.locks = false := BodyLoose.notSynchronized Bd
  have hrt := Bd.returns
  have X0 : Stand p l e room_1 s m #[(.int i0)] below meth c s₁ [] 0 0 := Stand.of_body Bd
  have e0 : s₁.heap = h0 := by rw [← hh, Bd.state]; rfl
  have N0 := Fr.nil n0
  show own_Fin p.tables e below (own_post (Q0 Z o_AMPERES o__VALUES ko__VALUES o_KVA o_KW o_AMPERES_symbol o_AMPERES_symbol_value ko_AMPERES_symbol_value o_KVA_symbol o_KVA_symbol_value ko_KVA_symbol_value o_KW_symbol o_KW_symbol_value ko_KW_symbol_value G1 i0 h0 n0) s 16 128) (s₁.setTop (entryFrame m #[(.int i0)] maxLocals))
  refine own_Fin.step (fun t k => castTop (ef_0 m i0) k) ?_
  refine own_Fin.step (S' := s₁.setTop (mkF m 1 #[.val (.int i0), .unset, .unset, .unset, .unset, .unset] [(.int i0)])) (fun t k => XS.iloadN X0.here hx rfl (hb hby at_0) rfl  k) ?_
  refine own_Fin.step (S' := s₁.setTop (mkF m 3 #[.val (.int i0), .unset, .unset, .unset, .unset, .unset] [(.int (2147483647 : Int32)), (.int i0)])) (X0.ldcInt hx hown (mvT hZ (hw _ (List.mem_of_getElem? (i := 0) rfl))) (g := (mkF m 1 #[.val (.int i0), .unset, .unset, .unset, .unset, .unset] [(.int i0)])) rfl (hb hby at_1)) ?_
  refine own_Fin.step (S' := s₁.setTop (mkF m 4 #[.val (.int i0), .unset, .unset, .unset, .unset, .unset] [(.int (i0 &&& (2147483647 : Int32)))])) (fun t k => XS.iand X0.here hx rfl (hb hby at_3) rfl k) ?_
  refine own_Fin.step (S' := s₁.setTop (mkF m 5 #[.val (.int i0), .unset, .unset, .unset, .unset, .unset] [(.int (3 : Int32)), (.int (i0 &&& (2147483647 : Int32)))])) (fun t k => XS.iconst X0.here hx rfl (hb hby at_4) k) ?_
  refine own_Fin.step (S' := s₁.setTop (mkF m 6 #[.val (.int i0), .unset, .unset, .unset, .unset, .unset] [(.int ((i0 &&& (2147483647 : Int32)) - ((i0 &&& (2147483647 : Int32)) / (3 : Int32)) * (3 : Int32)))])) (fun t k => XS.irem X0.here hx rfl (hb hby at_5) rfl (by decide) k) ?_
  obtain ⟨v6, hv6⟩ : ∃ z : Int32, z = ((i0 &&& (2147483647 : Int32)) - ((i0 &&& (2147483647 : Int32)) / (3 : Int32)) * (3 : Int32)) := ⟨_, rfl⟩
  rw [← hv6]
  refine own_Fin.step (S' := s₁.setTop (mkF m 7 #[.val (.int i0), .val (.int v6), .unset, .unset, .unset, .unset] [])) (fun t k => XS.istoreN X0.here hx rfl (hb hby at_6) rfl (l' := #[.val (.int i0), .val (.int v6), .unset, .unset, .unset, .unset]) rfl k) ?_
  refine own_Fin.step (S' := s₁.setTop (mkF m 8 #[.val (.int i0), .val (.int v6), .unset, .unset, .unset, .unset] [(.int v6)])) (fun t k => XS.iloadN X0.here hx rfl (hb hby at_7) rfl  k) ?_
  by_cases hc8 : v6 = (0 : Int32)
  · refine own_Fin.step (S' := s₁.setTop (mkF m 11 #[.val (.int i0), .val (.int v6), .unset, .unset, .unset, .unset] [])) (fun t k => XS.ifNo X0.here hx rfl (hb hby at_8) rfl ((if0 _ _).trans (teq hc8).2) k) ?_
    refine own_Fin.step (S' := s₁.setTop (mkF m 12 #[.val (.int i0), .val (.int v6), .unset, .unset, .unset, .unset] [(.int (1 : Int32))])) (fun t k => XS.iconst X0.here hx rfl (hb hby at_11) k) ?_
    obtain ⟨T97, h97, k97, X97, e97, E97, A97, B97, st97⟩ := newPE X0 hx hZ (hw _ (List.mem_of_getElem? (i := 1) rfl)) e0 (g := (mkF m 12 #[.val (.int i0), .val (.int v6), .unset, .unset, .unset, .unset] [(.int (1 : Int32))])) rfl (hb hby at_12) rfl (by decide) (cap := 1) (by decide) (by decide) (by decide) (by decide) (ad := "[C") rfl
    obtain ⟨b97, g97⟩ : ∃ z, z = h0.size := ⟨_, rfl⟩
    rw [← g97] at A97 B97 st97
    have ll97 : @LT.lt Nat _ b97 (Array.size h97) := A97.lt
    have z97 := E97.1
    have V97 : Arv Z h97 b97 k97 .char (1 : Int32) [(.int (0 : Int32))] (.int (0 : Int32)) := (Arv.new A97 (by decide)).pad (pad_rep [] (.int (0 : Int32)) 1)
    refine own_Fin.step (S' := T97.setTop (mkF m 14 #[.val (.int i0), .val (.int v6), .unset, .unset, .unset, .unset] [(.ref b97)])) st97 ?_
    refine own_Fin.step (S' := T97.setTop (mkF m 15 #[.val (.int i0), .val (.int v6), .unset, .unset, .unset, .unset] [(.ref b97), (.ref b97)])) (fun t k => XS.dup X97.here hx rfl (hb hby at_14) rfl rfl k) ?_
    refine own_Fin.step (S' := T97.setTop (mkF m 16 #[.val (.int i0), .val (.int v6), .unset, .unset, .unset, .unset] [(.int (0 : Int32)), (.ref b97), (.ref b97)])) (fun t k => XS.iconst X97.here hx rfl (hb hby at_15) k) ?_
    refine own_Fin.step (S' := T97.setTop (mkF m 18 #[.val (.int i0), .val (.int v6), .unset, .unset, .unset, .unset] [(.int (65 : Int32)), (.int (0 : Int32)), (.ref b97), (.ref b97)])) (fun t k => XS.bipush X97.here hx rfl (hb hby at_16) k) ?_
    obtain ⟨cl98, Ar98, q98, S98, N98z, Hs98, G98⟩ := id V97
    have hin98 : ¬ ((0 : Int32) < 0 ∨ cl98.slots.size ≤ ((0 : Int32)).toNatClampNeg) := inb_of S98 ⟨by decide, by decide⟩
    obtain ⟨T99, h99, X99, e99, W99, st99⟩ := stC X97 hx hZ e97 Ar98 (j := (0 : Int32)) hin98 (g := (mkF m 18 #[.val (.int i0), .val (.int v6), .unset, .unset, .unset, .unset] [(.int (65 : Int32)), (.int (0 : Int32)), (.ref b97), (.ref b97)])) rfl rfl (hb hby at_18)
    have V99 : Arv Z h99 b97 k97 .char (1 : Int32) [(.int (65 : Int32))] (.int (0 : Int32)) := Arv.set Ar98 q98 S98 N98z Hs98 G98 (fits_nar_char _) W99 0 rfl (Nat.le_of_ble_eq_true rfl)
    have z99 := W99.size
    have N99 := Fr.snoc X99 N0 (by omega)
    refine own_Fin.step (S' := T99.setTop (mkF m 19 #[.val (.int i0), .val (.int v6), .unset, .unset, .unset, .unset] [(.ref b97)])) st99 ?_
    refine own_Fin.step (S' := T99.setTop (mkF m 20 #[.val (.int i0), .val (.int v6), .val (.ref b97), .unset, .unset, .unset] [])) (fun t k => XS.astoreN X99.here hx rfl (hb hby at_19) rfl rfl (l' := #[.val (.int i0), .val (.int v6), .val (.ref b97), .unset, .unset, .unset]) rfl k) ?_
    have f100 : Old Z n0 h99 := ((OLD.ext E97).wr W99 (by omega))
    have f101 : Sta Z h99 "com/example/tariff/tariff/BasicCharges$Unit" "AMPERES" "Lcom/example/tariff/tariff/BasicCharges$Unit;" (.ref o_AMPERES) := Sta.ext f100.2 (Amb.a0 A)
    obtain ⟨T102, X102, e102, st102⟩ := getS2 X99 hx hZ hown (host := "") (Or.inl (hw _ (List.mem_of_getElem? (i := 2) rfl))) Via.refl e99 f101 (g := (mkF m 20 #[.val (.int i0), .val (.int v6), .val (.ref b97), .unset, .unset, .unset] [])) rfl (hb hby at_20)
    refine own_Fin.step (S' := T102.setTop (mkF m 23 #[.val (.int i0), .val (.int v6), .val (.ref b97), .unset, .unset, .unset] [(.ref o_AMPERES)])) st102 ?_
    refine own_Fin.step (S' := T102.setTop (mkF m 24 #[.val (.int i0), .val (.int v6), .val (.ref b97), .val (.ref o_AMPERES), .unset, .unset] [])) (fun t k => XS.astoreN X102.here hx rfl (hb hby at_23) rfl rfl (l' := #[.val (.int i0), .val (.int v6), .val (.ref b97), .val (.ref o_AMPERES), .unset, .unset]) rfl k) ?_
    refine own_Fin.step (S' := T102.setTop (mkF m 76 #[.val (.int i0), .val (.int v6), .val (.ref b97), .val (.ref o_AMPERES), .unset, .unset] [])) (fun t k => XS.goto X102.here hx rfl (pc0 := 24) (pc' := 76) rfl (hb hby at_24) (by decide) (by decide) k) ?_
    obtain ⟨T103, h103, X103, e103, E103, A103, D103, -, st103⟩ := newO X102 hx hZ hown (hw _ (List.mem_of_getElem? (i := 5) rfl)) (hw _ (List.mem_of_getElem? (i := 6) rfl)) (hw _ (List.mem_of_getElem? (i := 7) rfl)) e102 (g := (mkF m 76 #[.val (.int i0), .val (.int v6), .val (.ref b97), .val (.ref o_AMPERES), .unset, .unset] [])) rfl (hb hby at_76) (by decide) (by decide)
    obtain ⟨b103, g103⟩ : ∃ z, z = h99.size := ⟨_, rfl⟩
    rw [← g103] at A103 D103 st103
    have ll103 : @LT.lt Nat _ b103 (Array.size h103) := A103.lt
    have z103 := E103.1
    have F104 : Fld Z h103 b103 "java/lang/String" "coder" "B" (.int (0 : Int32)) := D103 (Or.inr (hw _ (List.mem_of_getElem? (i := 31) rfl))) (ty := .byte) (by decide)
    have F105 : Fld Z h103 b103 "java/lang/String" "value" "[B" .null := D103 (Or.inr (hw _ (List.mem_of_getElem? (i := 33) rfl))) (ty := (.array .byte)) (by decide)
    refine own_Fin.step (S' := T103.setTop (mkF m 79 #[.val (.int i0), .val (.int v6), .val (.ref b97), .val (.ref o_AMPERES), .unset, .unset] [(.ref b103)])) st103 ?_
    refine own_Fin.step (S' := T103.setTop (mkF m 80 #[.val (.int i0), .val (.int v6), .val (.ref b97), .val (.ref o_AMPERES), .unset, .unset] [(.ref b103), (.ref b103)])) (fun t k => XS.dup X103.here hx rfl (hb hby at_79) rfl rfl k) ?_
    refine own_Fin.step (S' := T103.setTop (mkF m 81 #[.val (.int i0), .val (.int v6), .val (.ref b97), .val (.ref o_AMPERES), .unset, .unset] [(.ref b97), (.ref b103), (.ref b103)])) (fun t k => XS.aloadN X103.here hx rfl (hb hby at_80) rfl rfl  k) ?_
    have f107 : Arv Z h103 b97 k97 .char (1 : Int32) [(.int (65 : Int32))] (.int (0 : Int32)) := (V99.ext E103)
    have f108 : Old Z n0 h103 := (f100.ext E103)
    have f109 : Sta Z h103 "java/lang/String" "COMPACT_STRINGS" "Z" (.int G1) := Sta.ext f108.2 (Amb.a24 A)
    have hws106 : ∀ d ∈ StrChars.Road.words, d.before a0 Z = true := fun d hd => hw d (own_words d hd)
    have hlat106 : ∀ c ∈ ([(65 : Int32)] : List Int32), ¬ c < 0 ∧ ¬ (255 : Int32) < c := by
      intro c hc
      simp only [List.mem_cons, List.not_mem_nil, or_false] at hc
      rcases hc with rfl
      · exact by decide
    obtain ⟨_, _, ⟨T106, L106, k106, n106⟩, -, X106, ⟨Lc106, hQ106, l106, y106, zz106⟩, st106⟩ := X103.specialBack hx (y := (⟨"java/lang/String", "<init>", "([C)V"⟩ : MethodName)) rfl hown (mvT hZ (hw _ (List.mem_of_getElem? (i := 8) rfl))) (mvT hZ (hw _ (List.mem_of_getElem? (i := 9) rfl))) (mvT hZ (hw _ (List.mem_of_getElem? (i := 10) rfl))) (by decide) (StrChars.Road.backV (W := 1) hZ hws106 (kI := 4) (hw _ (List.mem_of_getElem? (i := 6) rfl)) (cs := [(65 : Int32)]) (bs := [((65 : Int32)).toInt8.toInt32]) (n := 1) (n0 := n0) (by omega) (by omega) A103 F105 F104 f107 f109 (Amb.g1 A) rfl rfl (by decide) (by decide) hlat106 rfl (by decide) (by decide)) (g := (mkF m 81 #[.val (.int i0), .val (.int v6), .val (.ref b97), .val (.ref o_AMPERES), .unset, .unset] [(.ref b97), (.ref b103), (.ref b103)])) rfl (by rw [hml]; rfl) (Steps.refl _) (a := b103) (argsL := [(.ref b97)]) (rest := [(.ref b103)]) (lenOf pd_0_0 rfl) rfl (by show 2 * 0 + _ ≤ _; exact Nat.le_of_eq rfl) (hb hby at_81) (fun _ _ => ⟨rfl, e103, (by decide : 2 + 1 ≤ _), (by decide : 5 + 1 ≤ _)⟩)
    dsimp only [Pt.U, Pt.locs, Pt.cells, Pt.slots] at X106 l106 y106 zz106 st106 hQ106
    subst l106 y106 zz106
    obtain ⟨rfl, N106q, K106, G106_0, G106_1, t106, kb106, gt106, gh106, gn106, G106_2, G106_3⟩ := hQ106
    have N106 := Fr.app N99 N106q
    have z106 := K106.1
    have lt106 : @LT.lt Nat _ t106 (Array.size T106.heap) := G106_3.lt
    refine own_Fin.trans (S' := T106.setTop (mkF m 84 #[.val (.int i0), .val (.int v6), .val (.ref b97), .val (.ref o_AMPERES), .unset, .unset] [(.ref b103)])) st106 ?_
    refine own_Fin.step (S' := T106.setTop (mkF m 86 #[.val (.int i0), .val (.int v6), .val (.ref b97), .val (.ref o_AMPERES), .val (.ref b103), .unset] [])) (fun t k => XS.astore X106.here hx rfl (hb hby at_84) rfl rfl (l' := #[.val (.int i0), .val (.int v6), .val (.ref b97), .val (.ref o_AMPERES), .val (.ref b103), .unset]) rfl k) ?_
    refine own_Fin.step (S' := T106.setTop (mkF m 88 #[.val (.int i0), .val (.int v6), .val (.ref b97), .val (.ref o_AMPERES), .val (.ref b103), .unset] [(.ref b103)])) (fun t k => XS.aload X106.here hx rfl (hb hby at_86) rfl rfl  k) ?_
    have f110 : Old Z n0 T106.heap := (f108.keep K106 (allS (by omega) all0))
    obtain ⟨_, _, ⟨T111, L111, k111, n111⟩, -, X111, ⟨Lc111, hQ111, l111, y111, zz111⟩, st111⟩ := Jvm.LawKit.callS X106 hx (y := (⟨"com/example/tariff/tariff/BasicCharges$Unit", "of", "(Ljava/lang/String;)Lcom/example/tariff/tariff/BasicCharges$Unit;"⟩ : MethodName)) hown (mvT hZ (hw _ (List.mem_of_getElem? (i := 34) rfl))) (mvT hZ (hw _ (List.mem_of_getElem? (i := 35) rfl))) (mvT hZ (hw _ (List.mem_of_getElem? (i := 3) rfl))) (mvT hZ (hw _ (List.mem_of_getElem? (i := 36) rfl))) (by decide) (backOf (W := 0) (rm7amperes l Z a0 hw [] o_AMPERES o__VALUES ko__VALUES o_KVA o_KW o_AMPERES_symbol o_AMPERES_symbol_value ko_AMPERES_symbol_value o_KVA_symbol o_KVA_symbol_value ko_KVA_symbol_value o_KW_symbol o_KW_symbol_value ko_KW_symbol_value G1 b103 t106 kb106 T106.heap n0 (by omega) f110 A G106_0 G106_2 G106_1 G106_3) hZ (hw _ (List.mem_of_getElem? (i := 36) rfl)) (hw _ (List.mem_of_getElem? (i := 3) rfl)) (by decide) (by decide)) (g := (mkF m 88 #[.val (.int i0), .val (.int v6), .val (.ref b97), .val (.ref o_AMPERES), .val (.ref b103), .unset] [(.ref b103)])) rfl (by rw [hml]; rfl) (argsL := [(.ref b103)]) (rest := []) (lenOf pd_0_1 rfl) rfl (by show 2 * 0 + _ ≤ _; exact Nat.le_of_eq rfl) (hb hby at_88) (fun _ _ => ⟨rfl, rfl, (by decide : 3 + 1 ≤ _), (by decide : 6 + 3 ≤ _)⟩)
    dsimp only [Pt.U, Pt.locs, Pt.cells, Pt.slots] at X111 l111 y111 zz111 st111 hQ111
    subst l111 y111 zz111
    obtain ⟨rfl, N111q, K111⟩ := hQ111
    have N111 := Fr.app N106 N111q
    have z111 := K111.1
    refine own_Fin.step (S' := T111.setTop (mkF m 91 #[.val (.int i0), .val (.int v6), .val (.ref b97), .val (.ref o_AMPERES), .val (.ref b103), .unset] [(.ref o_AMPERES)])) st111 ?_
    refine own_Fin.step (S' := T111.setTop (mkF m 93 #[.val (.int i0), .val (.int v6), .val (.ref b97), .val (.ref o_AMPERES), .val (.ref b103), .val (.ref o_AMPERES)] [])) (fun t k => XS.astore X111.here hx rfl (hb hby at_91) rfl rfl (l' := #[.val (.int i0), .val (.int v6), .val (.ref b97), .val (.ref o_AMPERES), .val (.ref b103), .val (.ref o_AMPERES)]) rfl k) ?_
    refine own_Fin.step (S' := T111.setTop (mkF m 95 #[.val (.int i0), .val (.int v6), .val (.ref b97), .val (.ref o_AMPERES), .val (.ref b103), .val (.ref o_AMPERES)] [(.ref o_AMPERES)])) (fun t k => XS.aload X111.here hx rfl (hb hby at_93) rfl rfl  k) ?_
    refine own_Fin.step (S' := T111.setTop (mkF m 96 #[.val (.int i0), .val (.int v6), .val (.ref b97), .val (.ref o_AMPERES), .val (.ref b103), .val (.ref o_AMPERES)] [(.ref o_AMPERES), (.ref o_AMPERES)])) (fun t k => XS.aloadN X111.here hx rfl (hb hby at_95) rfl rfl  k) ?_
    refine own_Fin.step (S' := T111.setTop (mkF m 99 #[.val (.int i0), .val (.int v6), .val (.ref b97), .val (.ref o_AMPERES), .val (.ref b103), .val (.ref o_AMPERES)] [])) (fun t k => Jvm.RoadKit.acmp (g := (mkF m 96 #[.val (.int i0), .val (.int v6), .val (.ref b97), .val (.ref o_AMPERES), .val (.ref b103), .val (.ref o_AMPERES)] [(.ref o_AMPERES), (.ref o_AMPERES)])) X111 hx rfl rfl rfl (pc0 := 96) (pc' := 99) (same := true) rfl (hb hby at_96) rfl (decide_eq_true rfl) (by decide) (by decide) k) ?_
    refine own_Fin.step (S' := T111.setTop (mkF m 101 #[.val (.int i0), .val (.int v6), .val (.ref b97), .val (.ref o_AMPERES), .val (.ref b103), .val (.ref o_AMPERES)] [(.ref o_AMPERES)])) (fun t k => XS.aload X111.here hx rfl (hb hby at_99) rfl rfl  k) ?_
    have f112 : Old Z n0 T111.heap := (f110.keep K111 all0)
    have f113 : Fld Z T111.heap o_AMPERES "com/example/tariff/tariff/BasicCharges$Unit" "symbol" "Ljava/lang/String;" (.ref o_AMPERES_symbol) := Fld.ext f112.2 (Amb.a8 A)
    have f115 : Exa Z T111.heap o_AMPERES "com/example/tariff/tariff/BasicCharges$Unit" := Exa.ext f112.2 (Amb.a1 A)
    obtain ⟨cq114, kq114, q114a, q114b, q114c⟩ := isOf hZ rfl f115
    obtain ⟨_, _, ⟨T114, L114, k114, n114⟩, -, X114, ⟨Lc114, hQ114, l114, y114, zz114⟩, st114⟩ := X111.virtualBack hx (y := (⟨"com/example/tariff/tariff/BasicCharges$Unit", "symbol", "()Ljava/lang/String;"⟩ : MethodName)) (z := (⟨"com/example/tariff/tariff/BasicCharges$Unit", "symbol", "()Ljava/lang/String;"⟩ : MethodName)) hown (mvT hZ (hw _ (List.mem_of_getElem? (i := 66) rfl))) (mvT hZ (hw _ (List.mem_of_getElem? (i := 67) rfl))) (notFace_of_selects (args := #[]) (mvT hZ (hw _ (List.mem_of_getElem? (i := 69) rfl)))) (mvT hZ (hw _ (List.mem_of_getElem? (i := 69) rfl))) (mvT hZ (hw _ (List.mem_of_getElem? (i := 68) rfl))) (by decide) (backOf (W := 0) (rm11 l Z a0 hw [] o_AMPERES o_AMPERES_symbol T111.heap n0 (by omega) f113) hZ (hw _ (List.mem_of_getElem? (i := 70) rfl)) (hw _ (List.mem_of_getElem? (i := 3) rfl)) (by decide) (by decide)) q114a q114c (g := (mkF m 101 #[.val (.int i0), .val (.int v6), .val (.ref b97), .val (.ref o_AMPERES), .val (.ref b103), .val (.ref o_AMPERES)] [(.ref o_AMPERES)])) rfl (by rw [hml]; rfl) (Steps.refl _) (argsL := []) (rest := []) (lenOf pd_0_2 rfl) rfl (by show 2 * 0 + _ ≤ _; exact Nat.le_of_eq rfl) (hb hby at_101) (fun _ _ => ⟨rfl, rfl, (by decide : 4 + 0 ≤ _), (by decide : 9 + 0 ≤ _)⟩)
    dsimp only [Pt.U, Pt.locs, Pt.cells, Pt.slots] at X114 l114 y114 zz114 st114 hQ114
    subst l114 y114 zz114
    obtain ⟨rfl, N114q, e114⟩ := hQ114
    have N114 := Fr.app N111 N114q
    refine own_Fin.trans (S' := T114.setTop (mkF m 104 #[.val (.int i0), .val (.int v6), .val (.ref b97), .val (.ref o_AMPERES), .val (.ref b103), .val (.ref o_AMPERES)] [(.ref o_AMPERES_symbol)])) st114 ?_
    refine own_Fin.step (S' := T114.setTop (mkF m 106 #[.val (.int i0), .val (.int v6), .val (.ref b97), .val (.ref o_AMPERES), .val (.ref b103), .val (.ref o_AMPERES)] [(.ref b103), (.ref o_AMPERES_symbol)])) (fun t k => XS.aload X114.here hx rfl (hb hby at_104) rfl rfl  k) ?_
    have f116 : Fld Z T111.heap b103 "java/lang/String" "value" "[B" (.ref t106) := (G106_2.keep K111 nin0)
    have f117 : Arv Z T111.heap t106 kb106 .byte (1 : Int32) ([((65 : Int32)).toInt8.toInt32].map Value.int) (.int 0) := (G106_3.keep K111 nin0)
    have f119 : Sta Z T111.heap "java/lang/String" "COMPACT_STRINGS" "Z" (.int G1) := Sta.ext f112.2 (Amb.a24 A)
    have hwe118 : ∀ d ∈ StrChars.Road.wordsEq, d.before a0 Z = true := fun d hd => hw d (own_wordsEq d hd)
    have f120 : Exa Z T111.heap o_AMPERES_symbol "java/lang/String" := Exa.ext f112.2 (Amb.a9 A)
    have f121 : Fld Z T111.heap o_AMPERES_symbol "java/lang/String" "value" "[B" (.ref o_AMPERES_symbol_value) := Fld.ext f112.2 (Amb.a10 A)
    have f122 : Fld Z T111.heap o_AMPERES_symbol "java/lang/String" "coder" "B" (.int (0 : Int32)) := Fld.ext f112.2 (Amb.a17 A)
    have f123 : Arv Z T111.heap o_AMPERES_symbol_value ko_AMPERES_symbol_value .byte (1 : Int32) [(.int (65 : Int32))] (.int (0 : Int32)) := Arv.ext (Amb.a21 A) f112.2
    have kq124 : Arv Z T111.heap o_AMPERES_symbol_value ko_AMPERES_symbol_value .byte (Int32.ofNat 1) ((([65] : List Int32).map StrChars.lo8).map Value.int) (.int 0) := f123
    have f125 : Exa Z T111.heap b103 "java/lang/String" := (Exa.keep G106_0 K111)
    have f126 : Fld Z T111.heap b103 "java/lang/String" "coder" "B" (.int (0 : Int32)) := (G106_1.keep K111 nin0)
    have kq127 : Arv Z T111.heap t106 kb106 .byte (Int32.ofNat 1) ((([65] : List Int32).map StrChars.lo8).map Value.int) (.int 0) := f117
    obtain ⟨cq118, kq118, q118a, q118b, q118c⟩ := isOf hZ e114 f120
    obtain ⟨_, _, ⟨T118, L118, k118, n118⟩, -, X118, ⟨Lc118, hQ118, l118, y118, zz118⟩, st118⟩ := X114.virtualBack hx (y := (⟨"java/lang/String", "equals", "(Ljava/lang/Object;)Z"⟩ : MethodName)) (z := (⟨"java/lang/String", "equals", "(Ljava/lang/Object;)Z"⟩ : MethodName)) hown (mvT hZ (hw _ (List.mem_of_getElem? (i := 71) rfl))) (mvT hZ (hw _ (List.mem_of_getElem? (i := 57) rfl))) (notFace_of_selects (args := #[]) (mvT hZ (hw _ (List.mem_of_getElem? (i := 59) rfl)))) (mvT hZ (hw _ (List.mem_of_getElem? (i := 59) rfl))) (mvT hZ (hw _ (List.mem_of_getElem? (i := 58) rfl))) (by decide) (StrChars.Road.eqW (W := 0) hZ hwe118 (kI := 4) (hw _ (List.mem_of_getElem? (i := 6) rfl)) f120 f121 f122 kq124 (StrChars.Road.codOf (cs := ([65] : List Int32)) (n := 1) rfl (by decide)) (by decide) (by decide) f125 f116 f126 kq127 (StrChars.Road.codOf (cs := ([65] : List Int32)) (n := 1) rfl (by decide)) (by decide) (by decide) f119 (Amb.g1 A) (by decide) (by decide)) q118a q118c (g := (mkF m 106 #[.val (.int i0), .val (.int v6), .val (.ref b97), .val (.ref o_AMPERES), .val (.ref b103), .val (.ref o_AMPERES)] [(.ref b103), (.ref o_AMPERES_symbol)])) rfl (by rw [hml]; rfl) (Steps.refl _) (argsL := [(.ref b103)]) (rest := []) (lenOf pd_0_3 rfl) rfl (by show 2 * 0 + _ ≤ _; exact Nat.le_of_eq rfl) (hb hby at_106) (fun _ _ => ⟨rfl, e114, (by decide : 4 + 0 ≤ _), (by decide : 9 + 0 ≤ _)⟩)
    dsimp only [Pt.U, Pt.locs, Pt.cells, Pt.slots] at X118 l118 y118 zz118 st118 hQ118
    subst l118 y118 zz118
    obtain ⟨hve118, rfl, e118⟩ := hQ118
    have N118 := Fr.app N114 (Fr.nil n0)
    obtain ⟨rfl, -⟩ := own_eqY hve118 (by decide)
    refine own_Fin.trans (S' := T118.setTop (mkF m 109 #[.val (.int i0), .val (.int v6), .val (.ref b97), .val (.ref o_AMPERES), .val (.ref b103), .val (.ref o_AMPERES)] [(.int (1 : Int32))])) st118 ?_
    refine own_Fin.step (S' := T118.setTop (mkF m 112 #[.val (.int i0), .val (.int v6), .val (.ref b97), .val (.ref o_AMPERES), .val (.ref b103), .val (.ref o_AMPERES)] [])) (fun t k => XS.ifNo X118.here hx rfl (hb hby at_109) rfl ((if0 _ _).trans (feq (by decide : ¬ ((1 : Int32) = (0 : Int32)))).1) k) ?_
    refine own_Fin.step (S' := T118.setTop (mkF m 113 #[.val (.int i0), .val (.int v6), .val (.ref b97), .val (.ref o_AMPERES), .val (.ref b103), .val (.ref o_AMPERES)] [(.int (1 : Int32))])) (fun t k => XS.iconst X118.here hx rfl (hb hby at_112) k) ?_
    refine own_Fin.step (S' := T118.setTop (mkF m 117 #[.val (.int i0), .val (.int v6), .val (.ref b97), .val (.ref o_AMPERES), .val (.ref b103), .val (.ref o_AMPERES)] [(.int (1 : Int32))])) (fun t k => XS.goto X118.here hx rfl (pc0 := 113) (pc' := 117) rfl (hb hby at_113) (by decide) (by decide) k) ?_
    have hq128 : Q0 Z o_AMPERES o__VALUES ko__VALUES o_KVA o_KW o_AMPERES_symbol o_AMPERES_symbol_value ko_AMPERES_symbol_value o_KVA_symbol o_KVA_symbol_value ko_KVA_symbol_value o_KW_symbol o_KW_symbol_value ko_KW_symbol_value G1 i0 h0 n0 (some (.int (nar .boolean (1 : Int32)))) T111.heap _ := ⟨rfl, N118⟩
    exact own_retN X118 hx hlk (t := .boolean) hrt (by simp) (hb hby at_117) e118 hq128 (by decide) (by decide)
  · refine own_Fin.step (S' := s₁.setTop (mkF m 27 #[.val (.int i0), .val (.int v6), .unset, .unset, .unset, .unset] [])) (fun t k => XS.ifYes X0.here hx rfl (pc0 := 8) (pc' := 27) rfl (hb hby at_8) rfl ((if0 _ _).trans (feq hc8).2) (by decide) (by decide) k) ?_
    refine own_Fin.step (S' := s₁.setTop (mkF m 28 #[.val (.int i0), .val (.int v6), .unset, .unset, .unset, .unset] [(.int v6)])) (fun t k => XS.iloadN X0.here hx rfl (hb hby at_27) rfl  k) ?_
    refine own_Fin.step (S' := s₁.setTop (mkF m 29 #[.val (.int i0), .val (.int v6), .unset, .unset, .unset, .unset] [(.int (1 : Int32)), (.int v6)])) (fun t k => XS.iconst X0.here hx rfl (hb hby at_28) k) ?_
    by_cases hc29 : v6 = (1 : Int32)
    · refine own_Fin.step (S' := s₁.setTop (mkF m 32 #[.val (.int i0), .val (.int v6), .unset, .unset, .unset, .unset] [])) (fun t k => XS.icmpNo X0.here hx rfl (hb hby at_29) rfl (teq hc29).2 k) ?_
      refine own_Fin.step (S' := s₁.setTop (mkF m 33 #[.val (.int i0), .val (.int v6), .unset, .unset, .unset, .unset] [(.int (3 : Int32))])) (fun t k => XS.iconst X0.here hx rfl (hb hby at_32) k) ?_
      obtain ⟨T129, h129, k129, X129, e129, E129, A129, B129, st129⟩ := newPE X0 hx hZ (hw _ (List.mem_of_getElem? (i := 1) rfl)) e0 (g := (mkF m 33 #[.val (.int i0), .val (.int v6), .unset, .unset, .unset, .unset] [(.int (3 : Int32))])) rfl (hb hby at_33) rfl (by decide) (cap := 3) (by decide) (by decide) (by decide) (by decide) (ad := "[C") rfl
      obtain ⟨b129, g129⟩ : ∃ z, z = h0.size := ⟨_, rfl⟩
      rw [← g129] at A129 B129 st129
      have ll129 : @LT.lt Nat _ b129 (Array.size h129) := A129.lt
      have z129 := E129.1
      have V129 : Arv Z h129 b129 k129 .char (3 : Int32) [(.int (0 : Int32)), (.int (0 : Int32)), (.int (0 : Int32))] (.int (0 : Int32)) := (Arv.new A129 (by decide)).pad (pad_rep [] (.int (0 : Int32)) 3)
      refine own_Fin.step (S' := T129.setTop (mkF m 35 #[.val (.int i0), .val (.int v6), .unset, .unset, .unset, .unset] [(.ref b129)])) st129 ?_
      refine own_Fin.step (S' := T129.setTop (mkF m 36 #[.val (.int i0), .val (.int v6), .unset, .unset, .unset, .unset] [(.ref b129), (.ref b129)])) (fun t k => XS.dup X129.here hx rfl (hb hby at_35) rfl rfl k) ?_
      refine own_Fin.step (S' := T129.setTop (mkF m 37 #[.val (.int i0), .val (.int v6), .unset, .unset, .unset, .unset] [(.int (0 : Int32)), (.ref b129), (.ref b129)])) (fun t k => XS.iconst X129.here hx rfl (hb hby at_36) k) ?_
      refine own_Fin.step (S' := T129.setTop (mkF m 39 #[.val (.int i0), .val (.int v6), .unset, .unset, .unset, .unset] [(.int (107 : Int32)), (.int (0 : Int32)), (.ref b129), (.ref b129)])) (fun t k => XS.bipush X129.here hx rfl (hb hby at_37) k) ?_
      obtain ⟨cl130, Ar130, q130, S130, N130z, Hs130, G130⟩ := id V129
      have hin130 : ¬ ((0 : Int32) < 0 ∨ cl130.slots.size ≤ ((0 : Int32)).toNatClampNeg) := inb_of S130 ⟨by decide, by decide⟩
      obtain ⟨T131, h131, X131, e131, W131, st131⟩ := stC X129 hx hZ e129 Ar130 (j := (0 : Int32)) hin130 (g := (mkF m 39 #[.val (.int i0), .val (.int v6), .unset, .unset, .unset, .unset] [(.int (107 : Int32)), (.int (0 : Int32)), (.ref b129), (.ref b129)])) rfl rfl (hb hby at_39)
      have V131 : Arv Z h131 b129 k129 .char (3 : Int32) [(.int (107 : Int32)), (.int (0 : Int32)), (.int (0 : Int32))] (.int (0 : Int32)) := Arv.set Ar130 q130 S130 N130z Hs130 G130 (fits_nar_char _) W131 0 rfl (Nat.le_of_ble_eq_true rfl)
      have z131 := W131.size
      have N131 := Fr.snoc X131 N0 (by omega)
      refine own_Fin.step (S' := T131.setTop (mkF m 40 #[.val (.int i0), .val (.int v6), .unset, .unset, .unset, .unset] [(.ref b129)])) st131 ?_
      refine own_Fin.step (S' := T131.setTop (mkF m 41 #[.val (.int i0), .val (.int v6), .unset, .unset, .unset, .unset] [(.ref b129), (.ref b129)])) (fun t k => XS.dup X131.here hx rfl (hb hby at_40) rfl rfl k) ?_
      refine own_Fin.step (S' := T131.setTop (mkF m 42 #[.val (.int i0), .val (.int v6), .unset, .unset, .unset, .unset] [(.int (1 : Int32)), (.ref b129), (.ref b129)])) (fun t k => XS.iconst X131.here hx rfl (hb hby at_41) k) ?_
      refine own_Fin.step (S' := T131.setTop (mkF m 44 #[.val (.int i0), .val (.int v6), .unset, .unset, .unset, .unset] [(.int (86 : Int32)), (.int (1 : Int32)), (.ref b129), (.ref b129)])) (fun t k => XS.bipush X131.here hx rfl (hb hby at_42) k) ?_
      obtain ⟨cl132, Ar132, q132, S132, N132z, Hs132, G132⟩ := id V131
      have hin132 : ¬ ((1 : Int32) < 0 ∨ cl132.slots.size ≤ ((1 : Int32)).toNatClampNeg) := inb_of S132 ⟨by decide, by decide⟩
      obtain ⟨T133, h133, X133, e133, W133, st133⟩ := stC X131 hx hZ e131 Ar132 (j := (1 : Int32)) hin132 (g := (mkF m 44 #[.val (.int i0), .val (.int v6), .unset, .unset, .unset, .unset] [(.int (86 : Int32)), (.int (1 : Int32)), (.ref b129), (.ref b129)])) rfl rfl (hb hby at_44)
      have V133 : Arv Z h133 b129 k129 .char (3 : Int32) [(.int (107 : Int32)), (.int (86 : Int32)), (.int (0 : Int32))] (.int (0 : Int32)) := Arv.set Ar132 q132 S132 N132z Hs132 G132 (fits_nar_char _) W133 1 rfl (Nat.le_of_ble_eq_true rfl)
      have z133 := W133.size
      have N133 := Fr.snoc X133 N131 (by omega)
      refine own_Fin.step (S' := T133.setTop (mkF m 45 #[.val (.int i0), .val (.int v6), .unset, .unset, .unset, .unset] [(.ref b129)])) st133 ?_
      refine own_Fin.step (S' := T133.setTop (mkF m 46 #[.val (.int i0), .val (.int v6), .unset, .unset, .unset, .unset] [(.ref b129), (.ref b129)])) (fun t k => XS.dup X133.here hx rfl (hb hby at_45) rfl rfl k) ?_
      refine own_Fin.step (S' := T133.setTop (mkF m 47 #[.val (.int i0), .val (.int v6), .unset, .unset, .unset, .unset] [(.int (2 : Int32)), (.ref b129), (.ref b129)])) (fun t k => XS.iconst X133.here hx rfl (hb hby at_46) k) ?_
      refine own_Fin.step (S' := T133.setTop (mkF m 49 #[.val (.int i0), .val (.int v6), .unset, .unset, .unset, .unset] [(.int (65 : Int32)), (.int (2 : Int32)), (.ref b129), (.ref b129)])) (fun t k => XS.bipush X133.here hx rfl (hb hby at_47) k) ?_
      obtain ⟨cl134, Ar134, q134, S134, N134z, Hs134, G134⟩ := id V133
      have hin134 : ¬ ((2 : Int32) < 0 ∨ cl134.slots.size ≤ ((2 : Int32)).toNatClampNeg) := inb_of S134 ⟨by decide, by decide⟩
      obtain ⟨T135, h135, X135, e135, W135, st135⟩ := stC X133 hx hZ e133 Ar134 (j := (2 : Int32)) hin134 (g := (mkF m 49 #[.val (.int i0), .val (.int v6), .unset, .unset, .unset, .unset] [(.int (65 : Int32)), (.int (2 : Int32)), (.ref b129), (.ref b129)])) rfl rfl (hb hby at_49)
      have V135 : Arv Z h135 b129 k129 .char (3 : Int32) [(.int (107 : Int32)), (.int (86 : Int32)), (.int (65 : Int32))] (.int (0 : Int32)) := Arv.set Ar134 q134 S134 N134z Hs134 G134 (fits_nar_char _) W135 2 rfl (Nat.le_of_ble_eq_true rfl)
      have z135 := W135.size
      have N135 := Fr.snoc X135 N133 (by omega)
      refine own_Fin.step (S' := T135.setTop (mkF m 50 #[.val (.int i0), .val (.int v6), .unset, .unset, .unset, .unset] [(.ref b129)])) st135 ?_
      refine own_Fin.step (S' := T135.setTop (mkF m 51 #[.val (.int i0), .val (.int v6), .val (.ref b129), .unset, .unset, .unset] [])) (fun t k => XS.astoreN X135.here hx rfl (hb hby at_50) rfl rfl (l' := #[.val (.int i0), .val (.int v6), .val (.ref b129), .unset, .unset, .unset]) rfl k) ?_
      have f136 : Old Z n0 h135 := ((((OLD.ext E129).wr W131 (by omega)).wr W133 (by omega)).wr W135 (by omega))
      have f137 : Sta Z h135 "com/example/tariff/tariff/BasicCharges$Unit" "KVA" "Lcom/example/tariff/tariff/BasicCharges$Unit;" (.ref o_KVA) := Sta.ext f136.2 (Amb.a4 A)
      obtain ⟨T138, X138, e138, st138⟩ := getS2 X135 hx hZ hown (host := "") (Or.inl (hw _ (List.mem_of_getElem? (i := 73) rfl))) Via.refl e135 f137 (g := (mkF m 51 #[.val (.int i0), .val (.int v6), .val (.ref b129), .unset, .unset, .unset] [])) rfl (hb hby at_51)
      refine own_Fin.step (S' := T138.setTop (mkF m 54 #[.val (.int i0), .val (.int v6), .val (.ref b129), .unset, .unset, .unset] [(.ref o_KVA)])) st138 ?_
      refine own_Fin.step (S' := T138.setTop (mkF m 55 #[.val (.int i0), .val (.int v6), .val (.ref b129), .val (.ref o_KVA), .unset, .unset] [])) (fun t k => XS.astoreN X138.here hx rfl (hb hby at_54) rfl rfl (l' := #[.val (.int i0), .val (.int v6), .val (.ref b129), .val (.ref o_KVA), .unset, .unset]) rfl k) ?_
      refine own_Fin.step (S' := T138.setTop (mkF m 76 #[.val (.int i0), .val (.int v6), .val (.ref b129), .val (.ref o_KVA), .unset, .unset] [])) (fun t k => XS.goto X138.here hx rfl (pc0 := 55) (pc' := 76) rfl (hb hby at_55) (by decide) (by decide) k) ?_
      obtain ⟨T139, h139, X139, e139, E139, A139, D139, -, st139⟩ := newO X138 hx hZ hown (hw _ (List.mem_of_getElem? (i := 5) rfl)) (hw _ (List.mem_of_getElem? (i := 6) rfl)) (hw _ (List.mem_of_getElem? (i := 7) rfl)) e138 (g := (mkF m 76 #[.val (.int i0), .val (.int v6), .val (.ref b129), .val (.ref o_KVA), .unset, .unset] [])) rfl (hb hby at_76) (by decide) (by decide)
      obtain ⟨b139, g139⟩ : ∃ z, z = h135.size := ⟨_, rfl⟩
      rw [← g139] at A139 D139 st139
      have ll139 : @LT.lt Nat _ b139 (Array.size h139) := A139.lt
      have z139 := E139.1
      have F140 : Fld Z h139 b139 "java/lang/String" "coder" "B" (.int (0 : Int32)) := D139 (Or.inr (hw _ (List.mem_of_getElem? (i := 31) rfl))) (ty := .byte) (by decide)
      have F141 : Fld Z h139 b139 "java/lang/String" "value" "[B" .null := D139 (Or.inr (hw _ (List.mem_of_getElem? (i := 33) rfl))) (ty := (.array .byte)) (by decide)
      refine own_Fin.step (S' := T139.setTop (mkF m 79 #[.val (.int i0), .val (.int v6), .val (.ref b129), .val (.ref o_KVA), .unset, .unset] [(.ref b139)])) st139 ?_
      refine own_Fin.step (S' := T139.setTop (mkF m 80 #[.val (.int i0), .val (.int v6), .val (.ref b129), .val (.ref o_KVA), .unset, .unset] [(.ref b139), (.ref b139)])) (fun t k => XS.dup X139.here hx rfl (hb hby at_79) rfl rfl k) ?_
      refine own_Fin.step (S' := T139.setTop (mkF m 81 #[.val (.int i0), .val (.int v6), .val (.ref b129), .val (.ref o_KVA), .unset, .unset] [(.ref b129), (.ref b139), (.ref b139)])) (fun t k => XS.aloadN X139.here hx rfl (hb hby at_80) rfl rfl  k) ?_
      have f143 : Arv Z h139 b129 k129 .char (3 : Int32) [(.int (107 : Int32)), (.int (86 : Int32)), (.int (65 : Int32))] (.int (0 : Int32)) := (V135.ext E139)
      have f144 : Old Z n0 h139 := (f136.ext E139)
      have f145 : Sta Z h139 "java/lang/String" "COMPACT_STRINGS" "Z" (.int G1) := Sta.ext f144.2 (Amb.a24 A)
      have hws142 : ∀ d ∈ StrChars.Road.words, d.before a0 Z = true := fun d hd => hw d (own_words d hd)
      have hlat142 : ∀ c ∈ ([(107 : Int32), (86 : Int32), (65 : Int32)] : List Int32), ¬ c < 0 ∧ ¬ (255 : Int32) < c := by
        intro c hc
        simp only [List.mem_cons, List.not_mem_nil, or_false] at hc
        rcases hc with rfl | rfl | rfl
        · exact by decide
        · exact by decide
        · exact by decide
      obtain ⟨_, _, ⟨T142, L142, k142, n142⟩, -, X142, ⟨Lc142, hQ142, l142, y142, zz142⟩, st142⟩ := X139.specialBack hx (y := (⟨"java/lang/String", "<init>", "([C)V"⟩ : MethodName)) rfl hown (mvT hZ (hw _ (List.mem_of_getElem? (i := 8) rfl))) (mvT hZ (hw _ (List.mem_of_getElem? (i := 9) rfl))) (mvT hZ (hw _ (List.mem_of_getElem? (i := 10) rfl))) (by decide) (StrChars.Road.backV (W := 1) hZ hws142 (kI := 4) (hw _ (List.mem_of_getElem? (i := 6) rfl)) (cs := [(107 : Int32), (86 : Int32), (65 : Int32)]) (bs := [((107 : Int32)).toInt8.toInt32, ((86 : Int32)).toInt8.toInt32, ((65 : Int32)).toInt8.toInt32]) (n := 3) (n0 := n0) (by omega) (by omega) A139 F141 F140 f143 f145 (Amb.g1 A) rfl rfl (by decide) (by decide) hlat142 rfl (by decide) (by decide)) (g := (mkF m 81 #[.val (.int i0), .val (.int v6), .val (.ref b129), .val (.ref o_KVA), .unset, .unset] [(.ref b129), (.ref b139), (.ref b139)])) rfl (by rw [hml]; rfl) (Steps.refl _) (a := b139) (argsL := [(.ref b129)]) (rest := [(.ref b139)]) (lenOf pd_0_0 rfl) rfl (by show 2 * 0 + _ ≤ _; exact Nat.le_of_eq rfl) (hb hby at_81) (fun _ _ => ⟨rfl, e139, (by decide : 2 + 1 ≤ _), (by decide : 7 + 3 ≤ _)⟩)
      dsimp only [Pt.U, Pt.locs, Pt.cells, Pt.slots] at X142 l142 y142 zz142 st142 hQ142
      subst l142 y142 zz142
      obtain ⟨rfl, N142q, K142, G142_0, G142_1, t142, kb142, gt142, gh142, gn142, G142_2, G142_3⟩ := hQ142
      have N142 := Fr.app N135 N142q
      have z142 := K142.1
      have lt142 : @LT.lt Nat _ t142 (Array.size T142.heap) := G142_3.lt
      refine own_Fin.trans (S' := T142.setTop (mkF m 84 #[.val (.int i0), .val (.int v6), .val (.ref b129), .val (.ref o_KVA), .unset, .unset] [(.ref b139)])) st142 ?_
      refine own_Fin.step (S' := T142.setTop (mkF m 86 #[.val (.int i0), .val (.int v6), .val (.ref b129), .val (.ref o_KVA), .val (.ref b139), .unset] [])) (fun t k => XS.astore X142.here hx rfl (hb hby at_84) rfl rfl (l' := #[.val (.int i0), .val (.int v6), .val (.ref b129), .val (.ref o_KVA), .val (.ref b139), .unset]) rfl k) ?_
      refine own_Fin.step (S' := T142.setTop (mkF m 88 #[.val (.int i0), .val (.int v6), .val (.ref b129), .val (.ref o_KVA), .val (.ref b139), .unset] [(.ref b139)])) (fun t k => XS.aload X142.here hx rfl (hb hby at_86) rfl rfl  k) ?_
      have f146 : Old Z n0 T142.heap := (f144.keep K142 (allS (by omega) all0))
      obtain ⟨_, _, ⟨T147, L147, k147, n147⟩, -, X147, ⟨Lc147, hQ147, l147, y147, zz147⟩, st147⟩ := Jvm.LawKit.callS X142 hx (y := (⟨"com/example/tariff/tariff/BasicCharges$Unit", "of", "(Ljava/lang/String;)Lcom/example/tariff/tariff/BasicCharges$Unit;"⟩ : MethodName)) hown (mvT hZ (hw _ (List.mem_of_getElem? (i := 34) rfl))) (mvT hZ (hw _ (List.mem_of_getElem? (i := 35) rfl))) (mvT hZ (hw _ (List.mem_of_getElem? (i := 3) rfl))) (mvT hZ (hw _ (List.mem_of_getElem? (i := 36) rfl))) (by decide) (backOf (W := 0) (rm7kva l Z a0 hw [] o_AMPERES o__VALUES ko__VALUES o_KVA o_KW o_AMPERES_symbol o_AMPERES_symbol_value ko_AMPERES_symbol_value o_KVA_symbol o_KVA_symbol_value ko_KVA_symbol_value o_KW_symbol o_KW_symbol_value ko_KW_symbol_value G1 b139 t142 kb142 T142.heap n0 (by omega) f146 A G142_0 G142_2 G142_1 G142_3) hZ (hw _ (List.mem_of_getElem? (i := 36) rfl)) (hw _ (List.mem_of_getElem? (i := 3) rfl)) (by decide) (by decide)) (g := (mkF m 88 #[.val (.int i0), .val (.int v6), .val (.ref b129), .val (.ref o_KVA), .val (.ref b139), .unset] [(.ref b139)])) rfl (by rw [hml]; rfl) (argsL := [(.ref b139)]) (rest := []) (lenOf pd_0_1 rfl) rfl (by show 2 * 0 + _ ≤ _; exact Nat.le_of_eq rfl) (hb hby at_88) (fun _ _ => ⟨rfl, rfl, (by decide : 3 + 1 ≤ _), (by decide : 10 + 3 ≤ _)⟩)
      dsimp only [Pt.U, Pt.locs, Pt.cells, Pt.slots] at X147 l147 y147 zz147 st147 hQ147
      subst l147 y147 zz147
      obtain ⟨rfl, N147q, K147⟩ := hQ147
      have N147 := Fr.app N142 N147q
      have z147 := K147.1
      refine own_Fin.step (S' := T147.setTop (mkF m 91 #[.val (.int i0), .val (.int v6), .val (.ref b129), .val (.ref o_KVA), .val (.ref b139), .unset] [(.ref o_KVA)])) st147 ?_
      refine own_Fin.step (S' := T147.setTop (mkF m 93 #[.val (.int i0), .val (.int v6), .val (.ref b129), .val (.ref o_KVA), .val (.ref b139), .val (.ref o_KVA)] [])) (fun t k => XS.astore X147.here hx rfl (hb hby at_91) rfl rfl (l' := #[.val (.int i0), .val (.int v6), .val (.ref b129), .val (.ref o_KVA), .val (.ref b139), .val (.ref o_KVA)]) rfl k) ?_
      refine own_Fin.step (S' := T147.setTop (mkF m 95 #[.val (.int i0), .val (.int v6), .val (.ref b129), .val (.ref o_KVA), .val (.ref b139), .val (.ref o_KVA)] [(.ref o_KVA)])) (fun t k => XS.aload X147.here hx rfl (hb hby at_93) rfl rfl  k) ?_
      refine own_Fin.step (S' := T147.setTop (mkF m 96 #[.val (.int i0), .val (.int v6), .val (.ref b129), .val (.ref o_KVA), .val (.ref b139), .val (.ref o_KVA)] [(.ref o_KVA), (.ref o_KVA)])) (fun t k => XS.aloadN X147.here hx rfl (hb hby at_95) rfl rfl  k) ?_
      refine own_Fin.step (S' := T147.setTop (mkF m 99 #[.val (.int i0), .val (.int v6), .val (.ref b129), .val (.ref o_KVA), .val (.ref b139), .val (.ref o_KVA)] [])) (fun t k => Jvm.RoadKit.acmp (g := (mkF m 96 #[.val (.int i0), .val (.int v6), .val (.ref b129), .val (.ref o_KVA), .val (.ref b139), .val (.ref o_KVA)] [(.ref o_KVA), (.ref o_KVA)])) X147 hx rfl rfl rfl (pc0 := 96) (pc' := 99) (same := true) rfl (hb hby at_96) rfl (decide_eq_true rfl) (by decide) (by decide) k) ?_
      refine own_Fin.step (S' := T147.setTop (mkF m 101 #[.val (.int i0), .val (.int v6), .val (.ref b129), .val (.ref o_KVA), .val (.ref b139), .val (.ref o_KVA)] [(.ref o_KVA)])) (fun t k => XS.aload X147.here hx rfl (hb hby at_99) rfl rfl  k) ?_
      have f148 : Old Z n0 T147.heap := (f146.keep K147 all0)
      have f149 : Fld Z T147.heap o_KVA "com/example/tariff/tariff/BasicCharges$Unit" "symbol" "Ljava/lang/String;" (.ref o_KVA_symbol) := Fld.ext f148.2 (Amb.a11 A)
      have f151 : Exa Z T147.heap o_KVA "com/example/tariff/tariff/BasicCharges$Unit" := Exa.ext f148.2 (Amb.a5 A)
      obtain ⟨cq150, kq150, q150a, q150b, q150c⟩ := isOf hZ rfl f151
      obtain ⟨_, _, ⟨T150, L150, k150, n150⟩, -, X150, ⟨Lc150, hQ150, l150, y150, zz150⟩, st150⟩ := X147.virtualBack hx (y := (⟨"com/example/tariff/tariff/BasicCharges$Unit", "symbol", "()Ljava/lang/String;"⟩ : MethodName)) (z := (⟨"com/example/tariff/tariff/BasicCharges$Unit", "symbol", "()Ljava/lang/String;"⟩ : MethodName)) hown (mvT hZ (hw _ (List.mem_of_getElem? (i := 66) rfl))) (mvT hZ (hw _ (List.mem_of_getElem? (i := 67) rfl))) (notFace_of_selects (args := #[]) (mvT hZ (hw _ (List.mem_of_getElem? (i := 69) rfl)))) (mvT hZ (hw _ (List.mem_of_getElem? (i := 69) rfl))) (mvT hZ (hw _ (List.mem_of_getElem? (i := 68) rfl))) (by decide) (backOf (W := 0) (rm11 l Z a0 hw [] o_KVA o_KVA_symbol T147.heap n0 (by omega) f149) hZ (hw _ (List.mem_of_getElem? (i := 70) rfl)) (hw _ (List.mem_of_getElem? (i := 3) rfl)) (by decide) (by decide)) q150a q150c (g := (mkF m 101 #[.val (.int i0), .val (.int v6), .val (.ref b129), .val (.ref o_KVA), .val (.ref b139), .val (.ref o_KVA)] [(.ref o_KVA)])) rfl (by rw [hml]; rfl) (Steps.refl _) (argsL := []) (rest := []) (lenOf pd_0_2 rfl) rfl (by show 2 * 0 + _ ≤ _; exact Nat.le_of_eq rfl) (hb hby at_101) (fun _ _ => ⟨rfl, rfl, (by decide : 4 + 0 ≤ _), (by decide : 13 + 0 ≤ _)⟩)
      dsimp only [Pt.U, Pt.locs, Pt.cells, Pt.slots] at X150 l150 y150 zz150 st150 hQ150
      subst l150 y150 zz150
      obtain ⟨rfl, N150q, e150⟩ := hQ150
      have N150 := Fr.app N147 N150q
      refine own_Fin.trans (S' := T150.setTop (mkF m 104 #[.val (.int i0), .val (.int v6), .val (.ref b129), .val (.ref o_KVA), .val (.ref b139), .val (.ref o_KVA)] [(.ref o_KVA_symbol)])) st150 ?_
      refine own_Fin.step (S' := T150.setTop (mkF m 106 #[.val (.int i0), .val (.int v6), .val (.ref b129), .val (.ref o_KVA), .val (.ref b139), .val (.ref o_KVA)] [(.ref b139), (.ref o_KVA_symbol)])) (fun t k => XS.aload X150.here hx rfl (hb hby at_104) rfl rfl  k) ?_
      have f152 : Fld Z T147.heap b139 "java/lang/String" "value" "[B" (.ref t142) := (G142_2.keep K147 nin0)
      have f153 : Arv Z T147.heap t142 kb142 .byte (3 : Int32) ([((107 : Int32)).toInt8.toInt32, ((86 : Int32)).toInt8.toInt32, ((65 : Int32)).toInt8.toInt32].map Value.int) (.int 0) := (G142_3.keep K147 nin0)
      have f155 : Sta Z T147.heap "java/lang/String" "COMPACT_STRINGS" "Z" (.int G1) := Sta.ext f148.2 (Amb.a24 A)
      have hwe154 : ∀ d ∈ StrChars.Road.wordsEq, d.before a0 Z = true := fun d hd => hw d (own_wordsEq d hd)
      have f156 : Exa Z T147.heap o_KVA_symbol "java/lang/String" := Exa.ext f148.2 (Amb.a12 A)
      have f157 : Fld Z T147.heap o_KVA_symbol "java/lang/String" "value" "[B" (.ref o_KVA_symbol_value) := Fld.ext f148.2 (Amb.a13 A)
      have f158 : Fld Z T147.heap o_KVA_symbol "java/lang/String" "coder" "B" (.int (0 : Int32)) := Fld.ext f148.2 (Amb.a18 A)
      have f159 : Arv Z T147.heap o_KVA_symbol_value ko_KVA_symbol_value .byte (3 : Int32) [(.int (107 : Int32)), (.int (86 : Int32)), (.int (65 : Int32))] (.int (0 : Int32)) := Arv.ext (Amb.a22 A) f148.2
      have kq160 : Arv Z T147.heap o_KVA_symbol_value ko_KVA_symbol_value .byte (Int32.ofNat 3) ((([107, 86, 65] : List Int32).map StrChars.lo8).map Value.int) (.int 0) := f159
      have f161 : Exa Z T147.heap b139 "java/lang/String" := (Exa.keep G142_0 K147)
      have f162 : Fld Z T147.heap b139 "java/lang/String" "coder" "B" (.int (0 : Int32)) := (G142_1.keep K147 nin0)
      have kq163 : Arv Z T147.heap t142 kb142 .byte (Int32.ofNat 3) ((([107, 86, 65] : List Int32).map StrChars.lo8).map Value.int) (.int 0) := f153
      obtain ⟨cq154, kq154, q154a, q154b, q154c⟩ := isOf hZ e150 f156
      obtain ⟨_, _, ⟨T154, L154, k154, n154⟩, -, X154, ⟨Lc154, hQ154, l154, y154, zz154⟩, st154⟩ := X150.virtualBack hx (y := (⟨"java/lang/String", "equals", "(Ljava/lang/Object;)Z"⟩ : MethodName)) (z := (⟨"java/lang/String", "equals", "(Ljava/lang/Object;)Z"⟩ : MethodName)) hown (mvT hZ (hw _ (List.mem_of_getElem? (i := 71) rfl))) (mvT hZ (hw _ (List.mem_of_getElem? (i := 57) rfl))) (notFace_of_selects (args := #[]) (mvT hZ (hw _ (List.mem_of_getElem? (i := 59) rfl)))) (mvT hZ (hw _ (List.mem_of_getElem? (i := 59) rfl))) (mvT hZ (hw _ (List.mem_of_getElem? (i := 58) rfl))) (by decide) (StrChars.Road.eqW (W := 0) hZ hwe154 (kI := 4) (hw _ (List.mem_of_getElem? (i := 6) rfl)) f156 f157 f158 kq160 (StrChars.Road.codOf (cs := ([107, 86, 65] : List Int32)) (n := 3) rfl (by decide)) (by decide) (by decide) f161 f152 f162 kq163 (StrChars.Road.codOf (cs := ([107, 86, 65] : List Int32)) (n := 3) rfl (by decide)) (by decide) (by decide) f155 (Amb.g1 A) (by decide) (by decide)) q154a q154c (g := (mkF m 106 #[.val (.int i0), .val (.int v6), .val (.ref b129), .val (.ref o_KVA), .val (.ref b139), .val (.ref o_KVA)] [(.ref b139), (.ref o_KVA_symbol)])) rfl (by rw [hml]; rfl) (Steps.refl _) (argsL := [(.ref b139)]) (rest := []) (lenOf pd_0_3 rfl) rfl (by show 2 * 0 + _ ≤ _; exact Nat.le_of_eq rfl) (hb hby at_106) (fun _ _ => ⟨rfl, e150, (by decide : 4 + 0 ≤ _), (by decide : 13 + 0 ≤ _)⟩)
      dsimp only [Pt.U, Pt.locs, Pt.cells, Pt.slots] at X154 l154 y154 zz154 st154 hQ154
      subst l154 y154 zz154
      obtain ⟨hve154, rfl, e154⟩ := hQ154
      have N154 := Fr.app N150 (Fr.nil n0)
      obtain ⟨rfl, -⟩ := own_eqY hve154 (by decide)
      refine own_Fin.trans (S' := T154.setTop (mkF m 109 #[.val (.int i0), .val (.int v6), .val (.ref b129), .val (.ref o_KVA), .val (.ref b139), .val (.ref o_KVA)] [(.int (1 : Int32))])) st154 ?_
      refine own_Fin.step (S' := T154.setTop (mkF m 112 #[.val (.int i0), .val (.int v6), .val (.ref b129), .val (.ref o_KVA), .val (.ref b139), .val (.ref o_KVA)] [])) (fun t k => XS.ifNo X154.here hx rfl (hb hby at_109) rfl ((if0 _ _).trans (feq (by decide : ¬ ((1 : Int32) = (0 : Int32)))).1) k) ?_
      refine own_Fin.step (S' := T154.setTop (mkF m 113 #[.val (.int i0), .val (.int v6), .val (.ref b129), .val (.ref o_KVA), .val (.ref b139), .val (.ref o_KVA)] [(.int (1 : Int32))])) (fun t k => XS.iconst X154.here hx rfl (hb hby at_112) k) ?_
      refine own_Fin.step (S' := T154.setTop (mkF m 117 #[.val (.int i0), .val (.int v6), .val (.ref b129), .val (.ref o_KVA), .val (.ref b139), .val (.ref o_KVA)] [(.int (1 : Int32))])) (fun t k => XS.goto X154.here hx rfl (pc0 := 113) (pc' := 117) rfl (hb hby at_113) (by decide) (by decide) k) ?_
      have hq164 : Q0 Z o_AMPERES o__VALUES ko__VALUES o_KVA o_KW o_AMPERES_symbol o_AMPERES_symbol_value ko_AMPERES_symbol_value o_KVA_symbol o_KVA_symbol_value ko_KVA_symbol_value o_KW_symbol o_KW_symbol_value ko_KW_symbol_value G1 i0 h0 n0 (some (.int (nar .boolean (1 : Int32)))) T147.heap _ := ⟨rfl, N154⟩
      exact own_retN X154 hx hlk (t := .boolean) hrt (by simp) (hb hby at_117) e154 hq164 (by decide) (by decide)
    · refine own_Fin.step (S' := s₁.setTop (mkF m 58 #[.val (.int i0), .val (.int v6), .unset, .unset, .unset, .unset] [])) (fun t k => XS.icmpYes X0.here hx rfl (pc0 := 29) (pc' := 58) rfl (hb hby at_29) rfl (feq hc29).2 (by decide) (by decide) k) ?_
      refine own_Fin.step (S' := s₁.setTop (mkF m 59 #[.val (.int i0), .val (.int v6), .unset, .unset, .unset, .unset] [(.int (2 : Int32))])) (fun t k => XS.iconst X0.here hx rfl (hb hby at_58) k) ?_
      obtain ⟨T165, h165, k165, X165, e165, E165, A165, B165, st165⟩ := newPE X0 hx hZ (hw _ (List.mem_of_getElem? (i := 1) rfl)) e0 (g := (mkF m 59 #[.val (.int i0), .val (.int v6), .unset, .unset, .unset, .unset] [(.int (2 : Int32))])) rfl (hb hby at_59) rfl (by decide) (cap := 2) (by decide) (by decide) (by decide) (by decide) (ad := "[C") rfl
      obtain ⟨b165, g165⟩ : ∃ z, z = h0.size := ⟨_, rfl⟩
      rw [← g165] at A165 B165 st165
      have ll165 : @LT.lt Nat _ b165 (Array.size h165) := A165.lt
      have z165 := E165.1
      have V165 : Arv Z h165 b165 k165 .char (2 : Int32) [(.int (0 : Int32)), (.int (0 : Int32))] (.int (0 : Int32)) := (Arv.new A165 (by decide)).pad (pad_rep [] (.int (0 : Int32)) 2)
      refine own_Fin.step (S' := T165.setTop (mkF m 61 #[.val (.int i0), .val (.int v6), .unset, .unset, .unset, .unset] [(.ref b165)])) st165 ?_
      refine own_Fin.step (S' := T165.setTop (mkF m 62 #[.val (.int i0), .val (.int v6), .unset, .unset, .unset, .unset] [(.ref b165), (.ref b165)])) (fun t k => XS.dup X165.here hx rfl (hb hby at_61) rfl rfl k) ?_
      refine own_Fin.step (S' := T165.setTop (mkF m 63 #[.val (.int i0), .val (.int v6), .unset, .unset, .unset, .unset] [(.int (0 : Int32)), (.ref b165), (.ref b165)])) (fun t k => XS.iconst X165.here hx rfl (hb hby at_62) k) ?_
      refine own_Fin.step (S' := T165.setTop (mkF m 65 #[.val (.int i0), .val (.int v6), .unset, .unset, .unset, .unset] [(.int (107 : Int32)), (.int (0 : Int32)), (.ref b165), (.ref b165)])) (fun t k => XS.bipush X165.here hx rfl (hb hby at_63) k) ?_
      obtain ⟨cl166, Ar166, q166, S166, N166z, Hs166, G166⟩ := id V165
      have hin166 : ¬ ((0 : Int32) < 0 ∨ cl166.slots.size ≤ ((0 : Int32)).toNatClampNeg) := inb_of S166 ⟨by decide, by decide⟩
      obtain ⟨T167, h167, X167, e167, W167, st167⟩ := stC X165 hx hZ e165 Ar166 (j := (0 : Int32)) hin166 (g := (mkF m 65 #[.val (.int i0), .val (.int v6), .unset, .unset, .unset, .unset] [(.int (107 : Int32)), (.int (0 : Int32)), (.ref b165), (.ref b165)])) rfl rfl (hb hby at_65)
      have V167 : Arv Z h167 b165 k165 .char (2 : Int32) [(.int (107 : Int32)), (.int (0 : Int32))] (.int (0 : Int32)) := Arv.set Ar166 q166 S166 N166z Hs166 G166 (fits_nar_char _) W167 0 rfl (Nat.le_of_ble_eq_true rfl)
      have z167 := W167.size
      have N167 := Fr.snoc X167 N0 (by omega)
      refine own_Fin.step (S' := T167.setTop (mkF m 66 #[.val (.int i0), .val (.int v6), .unset, .unset, .unset, .unset] [(.ref b165)])) st167 ?_
      refine own_Fin.step (S' := T167.setTop (mkF m 67 #[.val (.int i0), .val (.int v6), .unset, .unset, .unset, .unset] [(.ref b165), (.ref b165)])) (fun t k => XS.dup X167.here hx rfl (hb hby at_66) rfl rfl k) ?_
      refine own_Fin.step (S' := T167.setTop (mkF m 68 #[.val (.int i0), .val (.int v6), .unset, .unset, .unset, .unset] [(.int (1 : Int32)), (.ref b165), (.ref b165)])) (fun t k => XS.iconst X167.here hx rfl (hb hby at_67) k) ?_
      refine own_Fin.step (S' := T167.setTop (mkF m 70 #[.val (.int i0), .val (.int v6), .unset, .unset, .unset, .unset] [(.int (87 : Int32)), (.int (1 : Int32)), (.ref b165), (.ref b165)])) (fun t k => XS.bipush X167.here hx rfl (hb hby at_68) k) ?_
      obtain ⟨cl168, Ar168, q168, S168, N168z, Hs168, G168⟩ := id V167
      have hin168 : ¬ ((1 : Int32) < 0 ∨ cl168.slots.size ≤ ((1 : Int32)).toNatClampNeg) := inb_of S168 ⟨by decide, by decide⟩
      obtain ⟨T169, h169, X169, e169, W169, st169⟩ := stC X167 hx hZ e167 Ar168 (j := (1 : Int32)) hin168 (g := (mkF m 70 #[.val (.int i0), .val (.int v6), .unset, .unset, .unset, .unset] [(.int (87 : Int32)), (.int (1 : Int32)), (.ref b165), (.ref b165)])) rfl rfl (hb hby at_70)
      have V169 : Arv Z h169 b165 k165 .char (2 : Int32) [(.int (107 : Int32)), (.int (87 : Int32))] (.int (0 : Int32)) := Arv.set Ar168 q168 S168 N168z Hs168 G168 (fits_nar_char _) W169 1 rfl (Nat.le_of_ble_eq_true rfl)
      have z169 := W169.size
      have N169 := Fr.snoc X169 N167 (by omega)
      refine own_Fin.step (S' := T169.setTop (mkF m 71 #[.val (.int i0), .val (.int v6), .unset, .unset, .unset, .unset] [(.ref b165)])) st169 ?_
      refine own_Fin.step (S' := T169.setTop (mkF m 72 #[.val (.int i0), .val (.int v6), .val (.ref b165), .unset, .unset, .unset] [])) (fun t k => XS.astoreN X169.here hx rfl (hb hby at_71) rfl rfl (l' := #[.val (.int i0), .val (.int v6), .val (.ref b165), .unset, .unset, .unset]) rfl k) ?_
      have f170 : Old Z n0 h169 := (((OLD.ext E165).wr W167 (by omega)).wr W169 (by omega))
      have f171 : Sta Z h169 "com/example/tariff/tariff/BasicCharges$Unit" "KW" "Lcom/example/tariff/tariff/BasicCharges$Unit;" (.ref o_KW) := Sta.ext f170.2 (Amb.a6 A)
      obtain ⟨T172, X172, e172, st172⟩ := getS2 X169 hx hZ hown (host := "") (Or.inl (hw _ (List.mem_of_getElem? (i := 72) rfl))) Via.refl e169 f171 (g := (mkF m 72 #[.val (.int i0), .val (.int v6), .val (.ref b165), .unset, .unset, .unset] [])) rfl (hb hby at_72)
      refine own_Fin.step (S' := T172.setTop (mkF m 75 #[.val (.int i0), .val (.int v6), .val (.ref b165), .unset, .unset, .unset] [(.ref o_KW)])) st172 ?_
      refine own_Fin.step (S' := T172.setTop (mkF m 76 #[.val (.int i0), .val (.int v6), .val (.ref b165), .val (.ref o_KW), .unset, .unset] [])) (fun t k => XS.astoreN X172.here hx rfl (hb hby at_75) rfl rfl (l' := #[.val (.int i0), .val (.int v6), .val (.ref b165), .val (.ref o_KW), .unset, .unset]) rfl k) ?_
      obtain ⟨T173, h173, X173, e173, E173, A173, D173, -, st173⟩ := newO X172 hx hZ hown (hw _ (List.mem_of_getElem? (i := 5) rfl)) (hw _ (List.mem_of_getElem? (i := 6) rfl)) (hw _ (List.mem_of_getElem? (i := 7) rfl)) e172 (g := (mkF m 76 #[.val (.int i0), .val (.int v6), .val (.ref b165), .val (.ref o_KW), .unset, .unset] [])) rfl (hb hby at_76) (by decide) (by decide)
      obtain ⟨b173, g173⟩ : ∃ z, z = h169.size := ⟨_, rfl⟩
      rw [← g173] at A173 D173 st173
      have ll173 : @LT.lt Nat _ b173 (Array.size h173) := A173.lt
      have z173 := E173.1
      have F174 : Fld Z h173 b173 "java/lang/String" "coder" "B" (.int (0 : Int32)) := D173 (Or.inr (hw _ (List.mem_of_getElem? (i := 31) rfl))) (ty := .byte) (by decide)
      have F175 : Fld Z h173 b173 "java/lang/String" "value" "[B" .null := D173 (Or.inr (hw _ (List.mem_of_getElem? (i := 33) rfl))) (ty := (.array .byte)) (by decide)
      refine own_Fin.step (S' := T173.setTop (mkF m 79 #[.val (.int i0), .val (.int v6), .val (.ref b165), .val (.ref o_KW), .unset, .unset] [(.ref b173)])) st173 ?_
      refine own_Fin.step (S' := T173.setTop (mkF m 80 #[.val (.int i0), .val (.int v6), .val (.ref b165), .val (.ref o_KW), .unset, .unset] [(.ref b173), (.ref b173)])) (fun t k => XS.dup X173.here hx rfl (hb hby at_79) rfl rfl k) ?_
      refine own_Fin.step (S' := T173.setTop (mkF m 81 #[.val (.int i0), .val (.int v6), .val (.ref b165), .val (.ref o_KW), .unset, .unset] [(.ref b165), (.ref b173), (.ref b173)])) (fun t k => XS.aloadN X173.here hx rfl (hb hby at_80) rfl rfl  k) ?_
      have f177 : Arv Z h173 b165 k165 .char (2 : Int32) [(.int (107 : Int32)), (.int (87 : Int32))] (.int (0 : Int32)) := (V169.ext E173)
      have f178 : Old Z n0 h173 := (f170.ext E173)
      have f179 : Sta Z h173 "java/lang/String" "COMPACT_STRINGS" "Z" (.int G1) := Sta.ext f178.2 (Amb.a24 A)
      have hws176 : ∀ d ∈ StrChars.Road.words, d.before a0 Z = true := fun d hd => hw d (own_words d hd)
      have hlat176 : ∀ c ∈ ([(107 : Int32), (87 : Int32)] : List Int32), ¬ c < 0 ∧ ¬ (255 : Int32) < c := by
        intro c hc
        simp only [List.mem_cons, List.not_mem_nil, or_false] at hc
        rcases hc with rfl | rfl
        · exact by decide
        · exact by decide
      obtain ⟨_, _, ⟨T176, L176, k176, n176⟩, -, X176, ⟨Lc176, hQ176, l176, y176, zz176⟩, st176⟩ := X173.specialBack hx (y := (⟨"java/lang/String", "<init>", "([C)V"⟩ : MethodName)) rfl hown (mvT hZ (hw _ (List.mem_of_getElem? (i := 8) rfl))) (mvT hZ (hw _ (List.mem_of_getElem? (i := 9) rfl))) (mvT hZ (hw _ (List.mem_of_getElem? (i := 10) rfl))) (by decide) (StrChars.Road.backV (W := 1) hZ hws176 (kI := 4) (hw _ (List.mem_of_getElem? (i := 6) rfl)) (cs := [(107 : Int32), (87 : Int32)]) (bs := [((107 : Int32)).toInt8.toInt32, ((87 : Int32)).toInt8.toInt32]) (n := 2) (n0 := n0) (by omega) (by omega) A173 F175 F174 f177 f179 (Amb.g1 A) rfl rfl (by decide) (by decide) hlat176 rfl (by decide) (by decide)) (g := (mkF m 81 #[.val (.int i0), .val (.int v6), .val (.ref b165), .val (.ref o_KW), .unset, .unset] [(.ref b165), (.ref b173), (.ref b173)])) rfl (by rw [hml]; rfl) (Steps.refl _) (a := b173) (argsL := [(.ref b165)]) (rest := [(.ref b173)]) (lenOf pd_0_0 rfl) rfl (by show 2 * 0 + _ ≤ _; exact Nat.le_of_eq rfl) (hb hby at_81) (fun _ _ => ⟨rfl, e173, (by decide : 2 + 1 ≤ _), (by decide : 6 + 2 ≤ _)⟩)
      dsimp only [Pt.U, Pt.locs, Pt.cells, Pt.slots] at X176 l176 y176 zz176 st176 hQ176
      subst l176 y176 zz176
      obtain ⟨rfl, N176q, K176, G176_0, G176_1, t176, kb176, gt176, gh176, gn176, G176_2, G176_3⟩ := hQ176
      have N176 := Fr.app N169 N176q
      have z176 := K176.1
      have lt176 : @LT.lt Nat _ t176 (Array.size T176.heap) := G176_3.lt
      refine own_Fin.trans (S' := T176.setTop (mkF m 84 #[.val (.int i0), .val (.int v6), .val (.ref b165), .val (.ref o_KW), .unset, .unset] [(.ref b173)])) st176 ?_
      refine own_Fin.step (S' := T176.setTop (mkF m 86 #[.val (.int i0), .val (.int v6), .val (.ref b165), .val (.ref o_KW), .val (.ref b173), .unset] [])) (fun t k => XS.astore X176.here hx rfl (hb hby at_84) rfl rfl (l' := #[.val (.int i0), .val (.int v6), .val (.ref b165), .val (.ref o_KW), .val (.ref b173), .unset]) rfl k) ?_
      refine own_Fin.step (S' := T176.setTop (mkF m 88 #[.val (.int i0), .val (.int v6), .val (.ref b165), .val (.ref o_KW), .val (.ref b173), .unset] [(.ref b173)])) (fun t k => XS.aload X176.here hx rfl (hb hby at_86) rfl rfl  k) ?_
      have f180 : Old Z n0 T176.heap := (f178.keep K176 (allS (by omega) all0))
      obtain ⟨_, _, ⟨T181, L181, k181, n181⟩, -, X181, ⟨Lc181, hQ181, l181, y181, zz181⟩, st181⟩ := Jvm.LawKit.callS X176 hx (y := (⟨"com/example/tariff/tariff/BasicCharges$Unit", "of", "(Ljava/lang/String;)Lcom/example/tariff/tariff/BasicCharges$Unit;"⟩ : MethodName)) hown (mvT hZ (hw _ (List.mem_of_getElem? (i := 34) rfl))) (mvT hZ (hw _ (List.mem_of_getElem? (i := 35) rfl))) (mvT hZ (hw _ (List.mem_of_getElem? (i := 3) rfl))) (mvT hZ (hw _ (List.mem_of_getElem? (i := 36) rfl))) (by decide) (backOf (W := 0) (rm7kw l Z a0 hw [] o_AMPERES o__VALUES ko__VALUES o_KVA o_KW o_AMPERES_symbol o_AMPERES_symbol_value ko_AMPERES_symbol_value o_KVA_symbol o_KVA_symbol_value ko_KVA_symbol_value o_KW_symbol o_KW_symbol_value ko_KW_symbol_value G1 b173 t176 kb176 T176.heap n0 (by omega) f180 A G176_0 G176_2 G176_1 G176_3) hZ (hw _ (List.mem_of_getElem? (i := 36) rfl)) (hw _ (List.mem_of_getElem? (i := 3) rfl)) (by decide) (by decide)) (g := (mkF m 88 #[.val (.int i0), .val (.int v6), .val (.ref b165), .val (.ref o_KW), .val (.ref b173), .unset] [(.ref b173)])) rfl (by rw [hml]; rfl) (argsL := [(.ref b173)]) (rest := []) (lenOf pd_0_1 rfl) rfl (by show 2 * 0 + _ ≤ _; exact Nat.le_of_eq rfl) (hb hby at_88) (fun _ _ => ⟨rfl, rfl, (by decide : 3 + 1 ≤ _), (by decide : 8 + 3 ≤ _)⟩)
      dsimp only [Pt.U, Pt.locs, Pt.cells, Pt.slots] at X181 l181 y181 zz181 st181 hQ181
      subst l181 y181 zz181
      obtain ⟨rfl, N181q, K181⟩ := hQ181
      have N181 := Fr.app N176 N181q
      have z181 := K181.1
      refine own_Fin.step (S' := T181.setTop (mkF m 91 #[.val (.int i0), .val (.int v6), .val (.ref b165), .val (.ref o_KW), .val (.ref b173), .unset] [(.ref o_KW)])) st181 ?_
      refine own_Fin.step (S' := T181.setTop (mkF m 93 #[.val (.int i0), .val (.int v6), .val (.ref b165), .val (.ref o_KW), .val (.ref b173), .val (.ref o_KW)] [])) (fun t k => XS.astore X181.here hx rfl (hb hby at_91) rfl rfl (l' := #[.val (.int i0), .val (.int v6), .val (.ref b165), .val (.ref o_KW), .val (.ref b173), .val (.ref o_KW)]) rfl k) ?_
      refine own_Fin.step (S' := T181.setTop (mkF m 95 #[.val (.int i0), .val (.int v6), .val (.ref b165), .val (.ref o_KW), .val (.ref b173), .val (.ref o_KW)] [(.ref o_KW)])) (fun t k => XS.aload X181.here hx rfl (hb hby at_93) rfl rfl  k) ?_
      refine own_Fin.step (S' := T181.setTop (mkF m 96 #[.val (.int i0), .val (.int v6), .val (.ref b165), .val (.ref o_KW), .val (.ref b173), .val (.ref o_KW)] [(.ref o_KW), (.ref o_KW)])) (fun t k => XS.aloadN X181.here hx rfl (hb hby at_95) rfl rfl  k) ?_
      refine own_Fin.step (S' := T181.setTop (mkF m 99 #[.val (.int i0), .val (.int v6), .val (.ref b165), .val (.ref o_KW), .val (.ref b173), .val (.ref o_KW)] [])) (fun t k => Jvm.RoadKit.acmp (g := (mkF m 96 #[.val (.int i0), .val (.int v6), .val (.ref b165), .val (.ref o_KW), .val (.ref b173), .val (.ref o_KW)] [(.ref o_KW), (.ref o_KW)])) X181 hx rfl rfl rfl (pc0 := 96) (pc' := 99) (same := true) rfl (hb hby at_96) rfl (decide_eq_true rfl) (by decide) (by decide) k) ?_
      refine own_Fin.step (S' := T181.setTop (mkF m 101 #[.val (.int i0), .val (.int v6), .val (.ref b165), .val (.ref o_KW), .val (.ref b173), .val (.ref o_KW)] [(.ref o_KW)])) (fun t k => XS.aload X181.here hx rfl (hb hby at_99) rfl rfl  k) ?_
      have f182 : Old Z n0 T181.heap := (f180.keep K181 all0)
      have f183 : Fld Z T181.heap o_KW "com/example/tariff/tariff/BasicCharges$Unit" "symbol" "Ljava/lang/String;" (.ref o_KW_symbol) := Fld.ext f182.2 (Amb.a14 A)
      have f185 : Exa Z T181.heap o_KW "com/example/tariff/tariff/BasicCharges$Unit" := Exa.ext f182.2 (Amb.a7 A)
      obtain ⟨cq184, kq184, q184a, q184b, q184c⟩ := isOf hZ rfl f185
      obtain ⟨_, _, ⟨T184, L184, k184, n184⟩, -, X184, ⟨Lc184, hQ184, l184, y184, zz184⟩, st184⟩ := X181.virtualBack hx (y := (⟨"com/example/tariff/tariff/BasicCharges$Unit", "symbol", "()Ljava/lang/String;"⟩ : MethodName)) (z := (⟨"com/example/tariff/tariff/BasicCharges$Unit", "symbol", "()Ljava/lang/String;"⟩ : MethodName)) hown (mvT hZ (hw _ (List.mem_of_getElem? (i := 66) rfl))) (mvT hZ (hw _ (List.mem_of_getElem? (i := 67) rfl))) (notFace_of_selects (args := #[]) (mvT hZ (hw _ (List.mem_of_getElem? (i := 69) rfl)))) (mvT hZ (hw _ (List.mem_of_getElem? (i := 69) rfl))) (mvT hZ (hw _ (List.mem_of_getElem? (i := 68) rfl))) (by decide) (backOf (W := 0) (rm11 l Z a0 hw [] o_KW o_KW_symbol T181.heap n0 (by omega) f183) hZ (hw _ (List.mem_of_getElem? (i := 70) rfl)) (hw _ (List.mem_of_getElem? (i := 3) rfl)) (by decide) (by decide)) q184a q184c (g := (mkF m 101 #[.val (.int i0), .val (.int v6), .val (.ref b165), .val (.ref o_KW), .val (.ref b173), .val (.ref o_KW)] [(.ref o_KW)])) rfl (by rw [hml]; rfl) (Steps.refl _) (argsL := []) (rest := []) (lenOf pd_0_2 rfl) rfl (by show 2 * 0 + _ ≤ _; exact Nat.le_of_eq rfl) (hb hby at_101) (fun _ _ => ⟨rfl, rfl, (by decide : 4 + 0 ≤ _), (by decide : 11 + 0 ≤ _)⟩)
      dsimp only [Pt.U, Pt.locs, Pt.cells, Pt.slots] at X184 l184 y184 zz184 st184 hQ184
      subst l184 y184 zz184
      obtain ⟨rfl, N184q, e184⟩ := hQ184
      have N184 := Fr.app N181 N184q
      refine own_Fin.trans (S' := T184.setTop (mkF m 104 #[.val (.int i0), .val (.int v6), .val (.ref b165), .val (.ref o_KW), .val (.ref b173), .val (.ref o_KW)] [(.ref o_KW_symbol)])) st184 ?_
      refine own_Fin.step (S' := T184.setTop (mkF m 106 #[.val (.int i0), .val (.int v6), .val (.ref b165), .val (.ref o_KW), .val (.ref b173), .val (.ref o_KW)] [(.ref b173), (.ref o_KW_symbol)])) (fun t k => XS.aload X184.here hx rfl (hb hby at_104) rfl rfl  k) ?_
      have f186 : Fld Z T181.heap b173 "java/lang/String" "value" "[B" (.ref t176) := (G176_2.keep K181 nin0)
      have f187 : Arv Z T181.heap t176 kb176 .byte (2 : Int32) ([((107 : Int32)).toInt8.toInt32, ((87 : Int32)).toInt8.toInt32].map Value.int) (.int 0) := (G176_3.keep K181 nin0)
      have f189 : Sta Z T181.heap "java/lang/String" "COMPACT_STRINGS" "Z" (.int G1) := Sta.ext f182.2 (Amb.a24 A)
      have hwe188 : ∀ d ∈ StrChars.Road.wordsEq, d.before a0 Z = true := fun d hd => hw d (own_wordsEq d hd)
      have f190 : Exa Z T181.heap o_KW_symbol "java/lang/String" := Exa.ext f182.2 (Amb.a15 A)
      have f191 : Fld Z T181.heap o_KW_symbol "java/lang/String" "value" "[B" (.ref o_KW_symbol_value) := Fld.ext f182.2 (Amb.a16 A)
      have f192 : Fld Z T181.heap o_KW_symbol "java/lang/String" "coder" "B" (.int (0 : Int32)) := Fld.ext f182.2 (Amb.a19 A)
      have f193 : Arv Z T181.heap o_KW_symbol_value ko_KW_symbol_value .byte (2 : Int32) [(.int (107 : Int32)), (.int (87 : Int32))] (.int (0 : Int32)) := Arv.ext (Amb.a23 A) f182.2
      have kq194 : Arv Z T181.heap o_KW_symbol_value ko_KW_symbol_value .byte (Int32.ofNat 2) ((([107, 87] : List Int32).map StrChars.lo8).map Value.int) (.int 0) := f193
      have f195 : Exa Z T181.heap b173 "java/lang/String" := (Exa.keep G176_0 K181)
      have f196 : Fld Z T181.heap b173 "java/lang/String" "coder" "B" (.int (0 : Int32)) := (G176_1.keep K181 nin0)
      have kq197 : Arv Z T181.heap t176 kb176 .byte (Int32.ofNat 2) ((([107, 87] : List Int32).map StrChars.lo8).map Value.int) (.int 0) := f187
      obtain ⟨cq188, kq188, q188a, q188b, q188c⟩ := isOf hZ e184 f190
      obtain ⟨_, _, ⟨T188, L188, k188, n188⟩, -, X188, ⟨Lc188, hQ188, l188, y188, zz188⟩, st188⟩ := X184.virtualBack hx (y := (⟨"java/lang/String", "equals", "(Ljava/lang/Object;)Z"⟩ : MethodName)) (z := (⟨"java/lang/String", "equals", "(Ljava/lang/Object;)Z"⟩ : MethodName)) hown (mvT hZ (hw _ (List.mem_of_getElem? (i := 71) rfl))) (mvT hZ (hw _ (List.mem_of_getElem? (i := 57) rfl))) (notFace_of_selects (args := #[]) (mvT hZ (hw _ (List.mem_of_getElem? (i := 59) rfl)))) (mvT hZ (hw _ (List.mem_of_getElem? (i := 59) rfl))) (mvT hZ (hw _ (List.mem_of_getElem? (i := 58) rfl))) (by decide) (StrChars.Road.eqW (W := 0) hZ hwe188 (kI := 4) (hw _ (List.mem_of_getElem? (i := 6) rfl)) f190 f191 f192 kq194 (StrChars.Road.codOf (cs := ([107, 87] : List Int32)) (n := 2) rfl (by decide)) (by decide) (by decide) f195 f186 f196 kq197 (StrChars.Road.codOf (cs := ([107, 87] : List Int32)) (n := 2) rfl (by decide)) (by decide) (by decide) f189 (Amb.g1 A) (by decide) (by decide)) q188a q188c (g := (mkF m 106 #[.val (.int i0), .val (.int v6), .val (.ref b165), .val (.ref o_KW), .val (.ref b173), .val (.ref o_KW)] [(.ref b173), (.ref o_KW_symbol)])) rfl (by rw [hml]; rfl) (Steps.refl _) (argsL := [(.ref b173)]) (rest := []) (lenOf pd_0_3 rfl) rfl (by show 2 * 0 + _ ≤ _; exact Nat.le_of_eq rfl) (hb hby at_106) (fun _ _ => ⟨rfl, e184, (by decide : 4 + 0 ≤ _), (by decide : 11 + 0 ≤ _)⟩)
      dsimp only [Pt.U, Pt.locs, Pt.cells, Pt.slots] at X188 l188 y188 zz188 st188 hQ188
      subst l188 y188 zz188
      obtain ⟨hve188, rfl, e188⟩ := hQ188
      have N188 := Fr.app N184 (Fr.nil n0)
      obtain ⟨rfl, -⟩ := own_eqY hve188 (by decide)
      refine own_Fin.trans (S' := T188.setTop (mkF m 109 #[.val (.int i0), .val (.int v6), .val (.ref b165), .val (.ref o_KW), .val (.ref b173), .val (.ref o_KW)] [(.int (1 : Int32))])) st188 ?_
      refine own_Fin.step (S' := T188.setTop (mkF m 112 #[.val (.int i0), .val (.int v6), .val (.ref b165), .val (.ref o_KW), .val (.ref b173), .val (.ref o_KW)] [])) (fun t k => XS.ifNo X188.here hx rfl (hb hby at_109) rfl ((if0 _ _).trans (feq (by decide : ¬ ((1 : Int32) = (0 : Int32)))).1) k) ?_
      refine own_Fin.step (S' := T188.setTop (mkF m 113 #[.val (.int i0), .val (.int v6), .val (.ref b165), .val (.ref o_KW), .val (.ref b173), .val (.ref o_KW)] [(.int (1 : Int32))])) (fun t k => XS.iconst X188.here hx rfl (hb hby at_112) k) ?_
      refine own_Fin.step (S' := T188.setTop (mkF m 117 #[.val (.int i0), .val (.int v6), .val (.ref b165), .val (.ref o_KW), .val (.ref b173), .val (.ref o_KW)] [(.int (1 : Int32))])) (fun t k => XS.goto X188.here hx rfl (pc0 := 113) (pc' := 117) rfl (hb hby at_113) (by decide) (by decide) k) ?_
      have hq198 : Q0 Z o_AMPERES o__VALUES ko__VALUES o_KVA o_KW o_AMPERES_symbol o_AMPERES_symbol_value ko_AMPERES_symbol_value o_KVA_symbol o_KVA_symbol_value ko_KVA_symbol_value o_KW_symbol o_KW_symbol_value ko_KW_symbol_value G1 i0 h0 n0 (some (.int (nar .boolean (1 : Int32)))) T181.heap _ := ⟨rfl, N188⟩
      exact own_retN X188 hx hlk (t := .boolean) hrt (by simp) (hb hby at_117) e188 hq198 (by decide) (by decide)
set_option maxRecDepth 65536 in
set_option maxHeartbeats 40000000 in
theorem comes_1 {Post : Tables → Env → Array Value → State → Outcome → State → Prop} (hpost : ∀ tb e args s v u, (limb_1_1.after args s (.returned v) u = true ∧ limb_1_2.after args s (.returned v) u = true ∧ True) → FrameEnd s (.returned v) u (Jvm.fieldLocs frame_1_writes args s ++ Jvm.arrayLocs frame_1_arrays args s ++ Jvm.staticLocs frame_1_statics s) 16 128 → Post tb e args s (.returned v) u) :
    ArmFor flags0 classFile x code maxLocals ret World_1 tables_1 room_1 Calls_1 rest_1 Pre_1 Post := by
  intro l hfl _ _ p e ha hc hk s m args below hf hA hF happ hP
  obtain ⟨hcalls, hrest, hpre⟩ := hP
  obtain ⟨-, -, -, hnamed, -, -, -, hat⟩ := (Spec.applies_iff hf).mp happ
  obtain ⟨hg, hn⟩ := and_e (Cond.before_iff.mp (show (Jvm.Cond.and given_1 narrow_1).before args s = true from hpre))
  obtain ⟨gg1, gg2⟩ := and_e hg
  obtain ⟨w0, rfl⟩ : ∃ w0 : Value, args = #[w0] := by
    have hs : args.size = 1 := by simpa [Cond.value, given_1] using gg1
    obtain ⟨L⟩ := args
    match L, hs with
    | [w0], _ => exact ⟨w0, rfl⟩
  have hw := fun d (hd : d ∈ tables_1) => atoms_spec (ws := Jvm.Cond.code x code maxLocals ret :: tables_1) hat d (List.mem_cons_of_mem _ hd)
  have hfit : Fit s := fun {y c} hc i hi => by
    obtain ⟨ha, rfl⟩ := Array.getElem?_eq_some_iff.mp hc
    have q := List.all_eq_true.mp ((Array.all_eq_true_iff_forall_mem.mp hF) _ (Array.getElem_mem ha)) i (List.mem_range.mpr hi)
    simpa [Array.getElem?_eq_getElem hi] using q
  obtain ⟨i0, ei0⟩ := is_v gg2
  obtain rfl : w0 = (.int i0) := Option.some.inj ei0
  obtain ⟨hsets, hown0⟩ := atoms_of _ (rest_1_c_eq ▸ (show rest_1_c.before _ s = true from hrest))
  have hn0 := hn
  obtain ⟨hA1, hB1⟩ := and_e hn0
  obtain ⟨hA2, hB2⟩ := and_e hB1
  obtain ⟨hA3, hB3⟩ := and_e hB2
  obtain ⟨hA4, hB4⟩ := and_e hB3
  obtain ⟨hA5, hB5⟩ := and_e hB4
  obtain ⟨hA6, hB6⟩ := and_e hB5
  obtain ⟨hA7, hB7⟩ := and_e hB6
  obtain ⟨hA8, hB8⟩ := and_e hB7
  obtain ⟨hA9, hB9⟩ := and_e hB8
  obtain ⟨hA10, hB10⟩ := and_e hB9
  obtain ⟨hA11, hB11⟩ := and_e hB10
  obtain ⟨hA12, hB12⟩ := and_e hB11
  obtain ⟨hA13, hB13⟩ := and_e hB12
  obtain ⟨hA14, hB14⟩ := and_e hB13
  obtain ⟨hA15, hB15⟩ := and_e hB14
  obtain ⟨hA16, hB16⟩ := and_e hB15
  obtain ⟨hA17, hB17⟩ := and_e hB16
  obtain ⟨hA18, hB18⟩ := and_e hB17
  obtain ⟨hA19, hB19⟩ := and_e hB18
  obtain ⟨hA20, hB20⟩ := and_e hB19
  obtain ⟨hA21, hB21⟩ := and_e hB20
  obtain ⟨hA22, hB22⟩ := and_e hB21
  obtain ⟨hA23, hB23⟩ := and_e hB22
  obtain ⟨hA24, hB24⟩ := and_e hB23
  obtain ⟨hA25, hB25⟩ := and_e hB24
  obtain ⟨hA26, hB26⟩ := and_e hB25
  obtain ⟨o_AMPERES, eo_AMPERES⟩ := exa_v hA1
  obtain ⟨o__VALUES, eo__VALUES⟩ := arr_v hA2
  obtain ⟨clo__VALUES, Ao__VALUES⟩ := Arr.start eo__VALUES hA2
  obtain ⟨ko__VALUES, eko__VALUES⟩ : ∃ z, z = clo__VALUES.cls := ⟨_, rfl⟩
  obtain ⟨o_KVA, eo_KVA⟩ := exa_v hA6
  obtain ⟨o_KW, eo_KW⟩ := exa_v hA8
  obtain ⟨o_AMPERES_symbol, eo_AMPERES_symbol⟩ := exa_v hA10
  obtain ⟨o_AMPERES_symbol_value, eo_AMPERES_symbol_value⟩ := arr_v hA12
  obtain ⟨clo_AMPERES_symbol_value, Ao_AMPERES_symbol_value⟩ := Arr.start eo_AMPERES_symbol_value hA12
  obtain ⟨ko_AMPERES_symbol_value, eko_AMPERES_symbol_value⟩ : ∃ z, z = clo_AMPERES_symbol_value.cls := ⟨_, rfl⟩
  obtain ⟨o_KVA_symbol, eo_KVA_symbol⟩ := exa_v hA15
  obtain ⟨o_KVA_symbol_value, eo_KVA_symbol_value⟩ := arr_v hA17
  obtain ⟨clo_KVA_symbol_value, Ao_KVA_symbol_value⟩ := Arr.start eo_KVA_symbol_value hA17
  obtain ⟨ko_KVA_symbol_value, eko_KVA_symbol_value⟩ : ∃ z, z = clo_KVA_symbol_value.cls := ⟨_, rfl⟩
  obtain ⟨o_KW_symbol, eo_KW_symbol⟩ := exa_v hA19
  obtain ⟨o_KW_symbol_value, eo_KW_symbol_value⟩ := arr_v hA21
  obtain ⟨clo_KW_symbol_value, Ao_KW_symbol_value⟩ := Arr.start eo_KW_symbol_value hA21
  obtain ⟨ko_KW_symbol_value, eko_KW_symbol_value⟩ : ∃ z, z = clo_KW_symbol_value.cls := ⟨_, rfl⟩
  obtain ⟨G1, eG1⟩ := is_v (Cond.before_iff.mp (hsets _ (List.mem_of_getElem? (i := 1) rfl)))
  have M0 : Sta s s.heap "com/example/tariff/tariff/BasicCharges$Unit" "AMPERES" "Lcom/example/tariff/tariff/BasicCharges$Unit;" (.ref o_AMPERES) := Sta.start eo_AMPERES (Or.inr ⟨hw _ (List.mem_of_getElem? (i := 3) rfl), hw _ (List.mem_of_getElem? (i := 4) rfl)⟩)
  have M1 : Exa s s.heap o_AMPERES "com/example/tariff/tariff/BasicCharges$Unit" := Exa.start eo_AMPERES hA1
  have M2 : Sta s s.heap "com/example/tariff/tariff/BasicCharges$Unit" "$VALUES" "[Lcom/example/tariff/tariff/BasicCharges$Unit;" (.ref o__VALUES) := Sta.start eo__VALUES (Or.inr ⟨hw _ (List.mem_of_getElem? (i := 3) rfl), hw _ (List.mem_of_getElem? (i := 41) rfl)⟩)
  have M3 : Exa s s.heap o__VALUES "[Lcom/example/tariff/tariff/BasicCharges$Unit;" := Exa.start eo__VALUES hA3
  have M4 : Sta s s.heap "com/example/tariff/tariff/BasicCharges$Unit" "KVA" "Lcom/example/tariff/tariff/BasicCharges$Unit;" (.ref o_KVA) := Sta.start eo_KVA (Or.inr ⟨hw _ (List.mem_of_getElem? (i := 3) rfl), hw _ (List.mem_of_getElem? (i := 49) rfl)⟩)
  have M5 : Exa s s.heap o_KVA "com/example/tariff/tariff/BasicCharges$Unit" := Exa.start eo_KVA hA6
  have M6 : Sta s s.heap "com/example/tariff/tariff/BasicCharges$Unit" "KW" "Lcom/example/tariff/tariff/BasicCharges$Unit;" (.ref o_KW) := Sta.start eo_KW (Or.inr ⟨hw _ (List.mem_of_getElem? (i := 3) rfl), hw _ (List.mem_of_getElem? (i := 50) rfl)⟩)
  have M7 : Exa s s.heap o_KW "com/example/tariff/tariff/BasicCharges$Unit" := Exa.start eo_KW hA8
  have M8 : Fld s s.heap o_AMPERES "com/example/tariff/tariff/BasicCharges$Unit" "symbol" "Ljava/lang/String;" (.ref o_AMPERES_symbol) := Fld.start ((fld_at eo_AMPERES).symm.trans eo_AMPERES_symbol)
  have M9 : Exa s s.heap o_AMPERES_symbol "java/lang/String" := Exa.start eo_AMPERES_symbol hA10
  have M10 : Fld s s.heap o_AMPERES_symbol "java/lang/String" "value" "[B" (.ref o_AMPERES_symbol_value) := Fld.start ((fld_at eo_AMPERES_symbol).symm.trans eo_AMPERES_symbol_value)
  have M11 : Fld s s.heap o_KVA "com/example/tariff/tariff/BasicCharges$Unit" "symbol" "Ljava/lang/String;" (.ref o_KVA_symbol) := Fld.start ((fld_at eo_KVA).symm.trans eo_KVA_symbol)
  have M12 : Exa s s.heap o_KVA_symbol "java/lang/String" := Exa.start eo_KVA_symbol hA15
  have M13 : Fld s s.heap o_KVA_symbol "java/lang/String" "value" "[B" (.ref o_KVA_symbol_value) := Fld.start ((fld_at eo_KVA_symbol).symm.trans eo_KVA_symbol_value)
  have M14 : Fld s s.heap o_KW "com/example/tariff/tariff/BasicCharges$Unit" "symbol" "Ljava/lang/String;" (.ref o_KW_symbol) := Fld.start ((fld_at eo_KW).symm.trans eo_KW_symbol)
  have M15 : Exa s s.heap o_KW_symbol "java/lang/String" := Exa.start eo_KW_symbol hA19
  have M16 : Fld s s.heap o_KW_symbol "java/lang/String" "value" "[B" (.ref o_KW_symbol_value) := Fld.start ((fld_at eo_KW_symbol).symm.trans eo_KW_symbol_value)
  have M17 : Fld s s.heap o_AMPERES_symbol "java/lang/String" "coder" "B" (.int (0 : Int32)) := Fld.start ((fld_at eo_AMPERES_symbol).symm.trans (own_eqI hA11 (Term.int_eval _)))
  have M18 : Fld s s.heap o_KVA_symbol "java/lang/String" "coder" "B" (.int (0 : Int32)) := Fld.start ((fld_at eo_KVA_symbol).symm.trans (own_eqI hA16 (Term.int_eval _)))
  have M19 : Fld s s.heap o_KW_symbol "java/lang/String" "coder" "B" (.int (0 : Int32)) := Fld.start ((fld_at eo_KW_symbol).symm.trans (own_eqI hA20 (Term.int_eval _)))
  have M20 : Arv s s.heap o__VALUES ko__VALUES (.object "com/example/tariff/tariff/BasicCharges$Unit") (3 : Int32) [(.ref o_AMPERES), (.ref o_KVA), (.ref o_KW)] .null := by rw [eko__VALUES]; exact own_arv hfit eo__VALUES Ao__VALUES (own_eqI hA4 (Term.int_eval _)) (by decide) rfl ⟨own_elem eo__VALUES Ao__VALUES (own_eqR hA5 eo_AMPERES), own_elem eo__VALUES Ao__VALUES (own_eqR hA7 eo_KVA), own_elem eo__VALUES Ao__VALUES (own_eqR hA9 eo_KW), trivial⟩
  have M21 : Arv s s.heap o_AMPERES_symbol_value ko_AMPERES_symbol_value .byte (1 : Int32) [(.int (65 : Int32))] (.int (0 : Int32)) := by rw [eko_AMPERES_symbol_value]; exact own_arv hfit eo_AMPERES_symbol_value Ao_AMPERES_symbol_value (own_eqI hA13 (Term.int_eval _)) (by decide) rfl ⟨own_elem eo_AMPERES_symbol_value Ao_AMPERES_symbol_value (own_eqI hA14 (Term.int_eval _)), trivial⟩
  have M22 : Arv s s.heap o_KVA_symbol_value ko_KVA_symbol_value .byte (3 : Int32) [(.int (107 : Int32)), (.int (86 : Int32)), (.int (65 : Int32))] (.int (0 : Int32)) := by rw [eko_KVA_symbol_value]; exact own_arv hfit eo_KVA_symbol_value Ao_KVA_symbol_value (own_eqI hA18 (Term.int_eval _)) (by decide) rfl ⟨own_elem eo_KVA_symbol_value Ao_KVA_symbol_value (own_eqI hA25 (Term.int_eval _)), own_elem eo_KVA_symbol_value Ao_KVA_symbol_value (own_eqI hA26 (Term.int_eval _)), own_elem eo_KVA_symbol_value Ao_KVA_symbol_value (own_eqI hB26 (Term.int_eval _)), trivial⟩
  have M23 : Arv s s.heap o_KW_symbol_value ko_KW_symbol_value .byte (2 : Int32) [(.int (107 : Int32)), (.int (87 : Int32))] (.int (0 : Int32)) := by rw [eko_KW_symbol_value]; exact own_arv hfit eo_KW_symbol_value Ao_KW_symbol_value (own_eqI hA22 (Term.int_eval _)) (by decide) rfl ⟨own_elem eo_KW_symbol_value Ao_KW_symbol_value (own_eqI hA23 (Term.int_eval _)), own_elem eo_KW_symbol_value Ao_KW_symbol_value (own_eqI hA24 (Term.int_eval _)), trivial⟩
  have M24 : Sta s s.heap "java/lang/String" "COMPACT_STRINGS" "Z" (.int G1) := Sta.start eG1 (Or.inl (hsets _ (List.mem_of_getElem? (i := 0) rfl)))
  have MP0 : ¬ (G1 = (0 : Int32)) := gotF (Cond.eq_ints eG1 (Term.int_eval (0))) (not_v (Cond.before_iff.mp (hsets _ (List.mem_of_getElem? (i := 2) rfl))))
  have AM : Amb s o_AMPERES o__VALUES ko__VALUES o_KVA o_KW o_AMPERES_symbol o_AMPERES_symbol_value ko_AMPERES_symbol_value o_KVA_symbol o_KVA_symbol_value ko_KVA_symbol_value o_KW_symbol o_KW_symbol_value ko_KW_symbol_value G1 := ⟨M0, M1, M2, M3, M4, M5, M6, M7, M8, M9, M10, M11, M12, M13, M14, M15, M16, M17, M18, M19, M20, M21, M22, M23, M24, MP0, trivial⟩
  obtain ⟨n, o, h1, h2, h3, _, L, rfl, ⟨rfl, N⟩, hq⟩ := rm0 l s _ hw tables_1 o_AMPERES o__VALUES ko__VALUES o_KVA o_KW o_AMPERES_symbol o_AMPERES_symbol_value ko_AMPERES_symbol_value o_KVA_symbol o_KVA_symbol_value ko_KVA_symbol_value o_KW_symbol o_KW_symbol_value ko_KW_symbol_value G1 i0 s.heap s.heap.size (Nat.le_refl _) (Old.start s) AM p e ha hc hk s m _ below hf ((Spec.applies_iff_loose hf).mp happ).1 ⟨rfl, State.Warmed39.refl s, rfl⟩ trivial
  refine ⟨n, _, h1, h2, h3, hpost _ _ _ _ _ _ ⟨Cond.after_iff.mpr rfl, Cond.after_iff.mpr (eq_i res_at (Term.int_eval (1)) rfl), trivial⟩ ⟨hq.1, hq.2.1, (hq.2.2.sift fun y hy => Or.inr (N y hy)).mono (by decide) (by decide)⟩⟩
theorem main_1_1 : Claimed_1_1 := comes_1 fun _ _ _ _ _ _ h hF => ⟨h.1, hF⟩
theorem main_1_2 : Claimed_1_2 := comes_1 fun _ _ _ _ _ _ h hF => ⟨h.2.1, hF⟩
end Jvm.Pilot.@@N@@
namespace Jvm.Pilot.@@N@@
open Jvm Jvm.ClassFile Sem Op Lib Jvm.Free Jvm.Stand Jvm.Pilot.@@N@@.Jvm.D
/-! MADE BY PROGRAM (witnessworld.py) out of the Statement's table words and the real class files: 22 classes; the members and pool entries that the words name. The judged class is class 1, her method 1. -/
namespace start1
open Jvm.ClassFile
def u (s : String) : CpInfo := .utf8 (stringToUtf16 s)
/-- a pool by its gaps: so many unusable entries, then the entry; so many at the end -/
def gap : Nat → List CpInfo → List CpInfo
  | 0, r => r
  | n + 1, r => .unusable :: gap n r
def poolList (es : List (Nat × CpInfo)) (last : Nat) : List CpInfo := es.foldr (fun e r => gap e.1 (e.2 :: r)) (gap last [])
def pool (es : List (Nat × CpInfo)) (last : Nat) : Array CpInfo := ⟨poolList es last⟩
def fileOf (pool : Array CpInfo) (this : Nat) (attrs : Array Attribute := #[]) (ms : Array MethodInfo := #[]) (fl : Nat := 33) (sup : Nat := 0) (ifs : Array Nat := #[]) (fds : Array FieldInfo := #[]) : ClassFile where
  minorVersion := 0
  majorVersion := 65
  constantPool := pool
  accessFlags := fl
  thisClass := this
  superClass := sup
  interfaces := ifs
  fields := fds
  methods := ms
  attributes := attrs
def plain (name : String) (sup : Option ClassId) : Class where
  name := name
  kind := .ordinary
  loader := none
  accessFlags := 33
  super := sup
  interfaces := #[]
  cf := none
  fields := #[]
  methods := #[]
  instanceTypes := #[]
  staticTypes := #[]
  resolved := #[]
  callSites := []
  init := .initialized
  statics := none
  mirror := none

def pool0 : Array CpInfo := pool [(5, u "<init>"), (0, u "()V"), (1, .class_ 10), (1, u "java/lang/Object"), (85, u "clone"), (0, u "()Ljava/lang/Object;")] 26

def k0c0 : Code := { maxStack := 0, maxLocals := 1, code := object_method_1_code, exceptionTable := #[], attributes := #[] }
def k0m0 : Method := { name := "<init>", desc := "()V", sig := { parameters := [], returnType := none }, accessFlags := 1, code := some k0c0 }
def k0m1 : Method := { name := "clone", desc := "()Ljava/lang/Object;", sig := { parameters := [], returnType := some (.object "java/lang/Object") }, accessFlags := 260, code := none }
/-- java/lang/Object -/
def k0 : Class := { plain "java/lang/Object" none with
  accessFlags := 33
  interfaces := #[]
  cf := some (fileOf pool0 8 #[] #[{ accessFlags := 1, nameIndex := 5, descriptorIndex := 6, attributes := #[] }, { accessFlags := 260, nameIndex := 96, descriptorIndex := 97, attributes := #[] }] 33 0 #[] #[])
  fields := #[]
  methods := #[k0m0, k0m1]
  instanceTypes := #[]
  staticTypes := #[]
  resolved := Array.replicate 124 none
  statics := none }

def pool1 : Array CpInfo := pool [(2, .class_ 4), (1, u "java/lang/Object"), (0, u "<init>"), (0, u "()V"), (0, .integer 2147483647), (0, .fieldref 9 10), (0, .class_ 11), (0, .nameAndType 12 13), (0, u "com/example/tariff/tariff/BasicCharges$Unit"), (0, u "AMPERES"), (0, u "Lcom/example/tariff/tariff/BasicCharges$Unit;"), (0, .fieldref 9 15), (0, .nameAndType 16 13), (0, u "KVA"), (0, .fieldref 9 18), (0, .nameAndType 19 13), (0, u "KW"), (0, .class_ 21), (0, u "java/lang/String"), (0, .methodref 20 23), (0, .nameAndType 5 24), (0, u "([C)V"), (0, .methodref 9 26), (0, .nameAndType 27 28), (0, u "of"), (0, u "(Ljava/lang/String;)Lcom/example/tariff/tariff/BasicCharges$Unit;"), (0, .methodref 9 30), (0, .nameAndType 31 32), (0, u "symbol"), (0, u "()Ljava/lang/String;"), (0, .methodref 20 34), (0, .nameAndType 35 36), (0, u "equals"), (0, u "(Ljava/lang/Object;)Z"), (0, .class_ 38), (0, u "com/example/tariff/tariff/UnitOfPinLaw"), (2, u "law"), (0, u "(I)Z")] 9

def k1m0 : Method := { name := "<init>", desc := "()V", sig := { parameters := [], returnType := none }, accessFlags := 1, code := none }
def k1c1 : Code := { maxStack := 4, maxLocals := 6, code := code, exceptionTable := #[], attributes := #[] }
def k1m1 : Method := { name := "law", desc := "(I)Z", sig := { parameters := [.int], returnType := some .boolean }, accessFlags := 9, code := some k1c1 }
/-- com/example/tariff/tariff/UnitOfPinLaw -/
def k1 : Class := { plain "com/example/tariff/tariff/UnitOfPinLaw" (some 0) with
  accessFlags := 49
  interfaces := #[]
  cf := some (fileOf pool1 37 #[] #[{ accessFlags := 1, nameIndex := 5, descriptorIndex := 6, attributes := #[] }, { accessFlags := 9, nameIndex := 41, descriptorIndex := 42, attributes := #[] }] 49 2 #[] #[])
  fields := #[]
  methods := #[k1m0, k1m1]
  instanceTypes := #[]
  staticTypes := #[]
  resolved := Array.replicate 52 none
  statics := none }

def pool2 : Array CpInfo := pool [(1, .class_ 2), (0, u "java/lang/constant/Constable"), (0, .class_ 4), (0, u "java/lang/Object")] 6

/-- java/lang/constant/Constable -/
def k2 : Class := { plain "java/lang/constant/Constable" (some 0) with
  accessFlags := 1537
  interfaces := #[]
  cf := some (fileOf pool2 1 #[] #[] 1537 3 #[] #[])
  fields := #[]
  methods := #[]
  instanceTypes := #[]
  staticTypes := #[]
  resolved := Array.replicate 11 none
  statics := none }

def pool3 : Array CpInfo := pool [(1, .class_ 2), (0, u "java/lang/Comparable"), (0, .class_ 4), (0, u "java/lang/Object")] 7

/-- java/lang/Comparable -/
def k3 : Class := { plain "java/lang/Comparable" (some 0) with
  accessFlags := 1537
  interfaces := #[]
  cf := some (fileOf pool3 1 #[] #[] 1537 3 #[] #[])
  fields := #[]
  methods := #[]
  instanceTypes := #[]
  staticTypes := #[]
  resolved := Array.replicate 12 none
  statics := none }

def pool4 : Array CpInfo := pool [(1, .class_ 2), (0, u "java/io/Serializable"), (0, .class_ 4), (0, u "java/lang/Object")] 2

/-- java/io/Serializable -/
def k4 : Class := { plain "java/io/Serializable" (some 0) with
  accessFlags := 1537
  interfaces := #[]
  cf := some (fileOf pool4 1 #[] #[] 1537 3 #[] #[])
  fields := #[]
  methods := #[]
  instanceTypes := #[]
  staticTypes := #[]
  resolved := Array.replicate 7 none
  statics := none }

def pool5 : Array CpInfo := pool [(2, .class_ 4), (1, u "java/lang/Enum"), (0, u "name"), (0, u "Ljava/lang/String;"), (2, u "ordinal"), (0, u "I"), (1, .class_ 14), (1, u "java/lang/Object"), (4, u "hash"), (86, .class_ 108), (1, u "java/lang/Enum$EnumDesc"), (2, .class_ 112), (0, u "java/lang/constant/Constable"), (0, .class_ 114), (0, u "java/lang/Comparable"), (0, .class_ 116), (0, u "java/io/Serializable")] 87

/-- java/lang/Enum -/
def k5 : Class := { plain "java/lang/Enum" (some 0) with
  accessFlags := 1057
  interfaces := #[2, 3, 4]
  cf := some (fileOf pool5 2 #[.nestMembers #[106]] #[] 1057 12 #[111, 113, 115] #[{ accessFlags := 18, nameIndex := 5, descriptorIndex := 6, attributes := #[] }, { accessFlags := 18, nameIndex := 9, descriptorIndex := 10, attributes := #[] }, { accessFlags := 2, nameIndex := 19, descriptorIndex := 10, attributes := #[] }])
  fields := #[{ name := "name", type := (.object "java/lang/String"), accessFlags := 18, slot := 0, constantValue := 0 }, { name := "ordinal", type := .int, accessFlags := 18, slot := 1, constantValue := 0 }, { name := "hash", type := .int, accessFlags := 2, slot := 2, constantValue := 0 }]
  methods := #[]
  instanceTypes := #[(.object "java/lang/String"), .int, .int]
  staticTypes := #[]
  resolved := Array.replicate 204 none
  statics := none }

def pool6 : Array CpInfo := pool [(1, .class_ 2), (0, u "com/example/tariff/tariff/BasicCharges$Unit"), (2, u "AMPERES"), (0, u "Lcom/example/tariff/tariff/BasicCharges$Unit;"), (2, u "KVA"), (2, u "KW"), (0, .fieldref 1 14), (0, .nameAndType 15 16), (0, u "$VALUES"), (0, u "[Lcom/example/tariff/tariff/BasicCharges$Unit;"), (0, .methodref 18 19), (0, .class_ 16), (0, .nameAndType 20 21), (0, u "clone"), (0, u "()Ljava/lang/Object;"), (1, .class_ 25), (1, u "java/lang/Enum"), (6, .fieldref 1 33), (0, .nameAndType 34 35), (0, u "symbol"), (0, u "Ljava/lang/String;"), (0, .methodref 1 37), (0, .nameAndType 38 39), (0, u "values"), (0, u "()[Lcom/example/tariff/tariff/BasicCharges$Unit;"), (0, .methodref 41 42), (0, .class_ 43), (0, .nameAndType 44 45), (0, u "java/lang/String"), (0, u "equals"), (0, u "(Ljava/lang/Object;)Z"), (26, u "(Ljava/lang/String;)Lcom/example/tariff/tariff/BasicCharges$Unit;"), (2, u "()Ljava/lang/String;"), (0, u "of"), (7, .class_ 85), (0, u "com/example/tariff/tariff/BasicCharges")] 16

def k6c0 : Code := { maxStack := 1, maxLocals := 0, code := prog_3_method_1_code, exceptionTable := #[], attributes := #[] }
def k6m0 : Method := { name := "values", desc := "()[Lcom/example/tariff/tariff/BasicCharges$Unit;", sig := { parameters := [], returnType := some (.array (.object "com/example/tariff/tariff/BasicCharges$Unit")) }, accessFlags := 9, code := some k6c0 }
def k6c1 : Code := { maxStack := 1, maxLocals := 1, code := prog_3_method_4_code, exceptionTable := #[], attributes := #[] }
def k6m1 : Method := { name := "symbol", desc := "()Ljava/lang/String;", sig := { parameters := [], returnType := some (.object "java/lang/String") }, accessFlags := 0, code := some k6c1 }
def k6c2 : Code := { maxStack := 3, maxLocals := 5, code := prog_3_method_5_code, exceptionTable := #[], attributes := #[] }
def k6m2 : Method := { name := "of", desc := "(Ljava/lang/String;)Lcom/example/tariff/tariff/BasicCharges$Unit;", sig := { parameters := [(.object "java/lang/String")], returnType := some (.object "com/example/tariff/tariff/BasicCharges$Unit") }, accessFlags := 8, code := some k6c2 }
/-- com/example/tariff/tariff/BasicCharges$Unit -/
def k6 : Class := { plain "com/example/tariff/tariff/BasicCharges$Unit" (some 5) with
  accessFlags := 16432
  interfaces := #[]
  cf := some (fileOf pool6 1 #[.nestHost 84] #[{ accessFlags := 9, nameIndex := 38, descriptorIndex := 39, attributes := #[] }, { accessFlags := 0, nameIndex := 34, descriptorIndex := 75, attributes := #[] }, { accessFlags := 8, nameIndex := 76, descriptorIndex := 72, attributes := #[] }] 16432 23 #[] #[{ accessFlags := 16409, nameIndex := 5, descriptorIndex := 6, attributes := #[] }, { accessFlags := 16409, nameIndex := 9, descriptorIndex := 6, attributes := #[] }, { accessFlags := 16409, nameIndex := 12, descriptorIndex := 6, attributes := #[] }, { accessFlags := 18, nameIndex := 34, descriptorIndex := 35, attributes := #[] }, { accessFlags := 4122, nameIndex := 15, descriptorIndex := 16, attributes := #[] }])
  fields := #[{ name := "AMPERES", type := (.object "com/example/tariff/tariff/BasicCharges$Unit"), accessFlags := 16409, slot := 0, constantValue := 0 }, { name := "KVA", type := (.object "com/example/tariff/tariff/BasicCharges$Unit"), accessFlags := 16409, slot := 1, constantValue := 0 }, { name := "KW", type := (.object "com/example/tariff/tariff/BasicCharges$Unit"), accessFlags := 16409, slot := 2, constantValue := 0 }, { name := "symbol", type := (.object "java/lang/String"), accessFlags := 18, slot := 3, constantValue := 0 }, { name := "$VALUES", type := (.array (.object "com/example/tariff/tariff/BasicCharges$Unit")), accessFlags := 4122, slot := 3, constantValue := 0 }]
  methods := #[k6m0, k6m1, k6m2]
  instanceTypes := #[(.object "java/lang/String"), .int, .int, (.object "java/lang/String")]
  staticTypes := #[(.object "com/example/tariff/tariff/BasicCharges$Unit"), (.object "com/example/tariff/tariff/BasicCharges$Unit"), (.object "com/example/tariff/tariff/BasicCharges$Unit"), (.array (.object "com/example/tariff/tariff/BasicCharges$Unit"))]
  resolved := Array.replicate 102 none
  statics := some 0 }

def pool7 : Array CpInfo := pool [(2, .class_ 4), (1, u "java/lang/CharSequence"), (42, .class_ 48), (0, u "java/lang/CharSequence$1CodePointIterator"), (10, .class_ 60), (0, u "java/lang/CharSequence$1CharIterator"), (5, .class_ 67), (0, u "java/lang/Object")] 63

/-- java/lang/CharSequence -/
def k7 : Class := { plain "java/lang/CharSequence" (some 0) with
  accessFlags := 1537
  interfaces := #[]
  cf := some (fileOf pool7 2 #[.nestMembers #[47, 59]] #[] 1537 66 #[] #[])
  fields := #[]
  methods := #[]
  instanceTypes := #[]
  staticTypes := #[]
  resolved := Array.replicate 131 none
  statics := none }

def pool8 : Array CpInfo := pool [(1, .class_ 2), (0, u "java/lang/constant/ConstantDesc"), (0, .class_ 4), (0, u "java/lang/Object")] 32

/-- java/lang/constant/ConstantDesc -/
def k8 : Class := { plain "java/lang/constant/ConstantDesc" (some 0) with
  accessFlags := 1537
  interfaces := #[]
  cf := some (fileOf pool8 1 #[] #[] 1537 3 #[] #[])
  fields := #[]
  methods := #[]
  instanceTypes := #[]
  staticTypes := #[]
  resolved := Array.replicate 37 none
  statics := none }

def pool9 : Array CpInfo := pool [(1, .methodref 2 3), (0, .class_ 4), (0, .nameAndType 5 6), (0, u "java/lang/Object"), (0, u "<init>"), (0, u "()V"), (2, .fieldref 10 11), (0, .class_ 12), (0, .nameAndType 13 14), (0, u "java/lang/String"), (0, u "value"), (0, u "[B"), (0, .fieldref 10 16), (0, .nameAndType 17 18), (0, u "coder"), (0, u "B"), (2, u "hash"), (0, u "I"), (2, u "hashIsZero"), (0, u "Z"), (0, .methodref 10 28), (0, .nameAndType 5 29), (0, u "([CIILjava/lang/Void;)V"), (8, .fieldref 10 39), (0, .nameAndType 40 26), (0, u "COMPACT_STRINGS"), (1, .class_ 44), (1, u "java/lang/StringUTF16"), (0, u "compress"), (1, .methodref 42 48), (0, .nameAndType 49 50), (0, u "coderFromArrayLen"), (0, u "([BI)B"), (56, .class_ 109), (1, u "java/lang/StringLatin1"), (67, .methodref 42 178), (0, .nameAndType 45 179), (0, u "([CII)[B"), (361, .methodref 107 542), (0, .nameAndType 543 544), (0, u "equals"), (0, u "([B[B)Z"), (28, u "(Ljava/lang/Object;)Z"), (1, .class_ 576), (0, u "java/lang/CharSequence"), (22, u "CASE_INSENSITIVE_ORDER"), (0, u "Ljava/util/Comparator;"), (409, u "([C)V"), (90, u "serialPersistentFields"), (0, u "[Ljava/io/ObjectStreamField;"), (0, .class_ 1104), (0, u "java/lang/String$CaseInsensitiveComparator"), (1, .class_ 1107), (0, u "java/io/Serializable"), (0, .class_ 1109), (0, u "java/lang/Comparable"), (0, .class_ 1111), (0, u "java/lang/constant/Constable"), (0, .class_ 1113), (0, u "java/lang/constant/ConstantDesc"), (2, u "serialVersionUID"), (0, u "J"), (3, u "REPL"), (0, u "C"), (2, u "LATIN1"), (1, u "UTF16")] 323

def k9m0 : Method := { name := "<init>", desc := "()V", sig := { parameters := [], returnType := none }, accessFlags := 1, code := none }
def k9c1 : Code := { maxStack := 5, maxLocals := 2, code := jdk_42_method_3_code, exceptionTable := #[], attributes := #[] }
def k9m1 : Method := { name := "<init>", desc := "([C)V", sig := { parameters := [(.array .char)], returnType := none }, accessFlags := 1, code := some k9c1 }
def k9c2 : Code := { maxStack := 2, maxLocals := 3, code := jdk_42_method_66_code, exceptionTable := #[], attributes := #[] }
def k9m2 : Method := { name := "equals", desc := "(Ljava/lang/Object;)Z", sig := { parameters := [(.object "java/lang/Object")], returnType := some .boolean }, accessFlags := 1, code := some k9c2 }
def k9c3 : Code := { maxStack := 4, maxLocals := 6, code := jdk_42_method_149_code, exceptionTable := #[], attributes := #[] }
def k9m3 : Method := { name := "<init>", desc := "([CIILjava/lang/Void;)V", sig := { parameters := [(.array .char), .int, .int, (.object "java/lang/Void")], returnType := none }, accessFlags := 2, code := some k9c3 }
/-- java/lang/String -/
def k9 : Class := { plain "java/lang/String" (some 0) with
  accessFlags := 49
  interfaces := #[4, 3, 7, 2, 8]
  cf := some (fileOf pool9 10 #[.nestMembers #[1103]] #[{ accessFlags := 1, nameIndex := 5, descriptorIndex := 6, attributes := #[] }, { accessFlags := 1, nameIndex := 5, descriptorIndex := 1010, attributes := #[] }, { accessFlags := 1, nameIndex := 543, descriptorIndex := 573, attributes := #[] }, { accessFlags := 2, nameIndex := 5, descriptorIndex := 29, attributes := #[] }] 49 2 #[1106, 1108, 575, 1110, 1112] #[{ accessFlags := 18, nameIndex := 13, descriptorIndex := 14, attributes := #[] }, { accessFlags := 18, nameIndex := 17, descriptorIndex := 18, attributes := #[] }, { accessFlags := 2, nameIndex := 21, descriptorIndex := 22, attributes := #[] }, { accessFlags := 2, nameIndex := 25, descriptorIndex := 26, attributes := #[] }, { accessFlags := 26, nameIndex := 1116, descriptorIndex := 1117, attributes := #[] }, { accessFlags := 24, nameIndex := 40, descriptorIndex := 26, attributes := #[] }, { accessFlags := 26, nameIndex := 1101, descriptorIndex := 1102, attributes := #[] }, { accessFlags := 26, nameIndex := 1121, descriptorIndex := 1122, attributes := #[] }, { accessFlags := 25, nameIndex := 599, descriptorIndex := 600, attributes := #[] }, { accessFlags := 24, nameIndex := 1125, descriptorIndex := 18, attributes := #[] }, { accessFlags := 24, nameIndex := 1127, descriptorIndex := 18, attributes := #[] }])
  fields := #[{ name := "value", type := (.array .byte), accessFlags := 18, slot := 0, constantValue := 0 }, { name := "coder", type := .byte, accessFlags := 18, slot := 1, constantValue := 0 }, { name := "hash", type := .int, accessFlags := 2, slot := 2, constantValue := 0 }, { name := "hashIsZero", type := .boolean, accessFlags := 2, slot := 3, constantValue := 0 }, { name := "serialVersionUID", type := .long, accessFlags := 26, slot := 0, constantValue := 0 }, { name := "COMPACT_STRINGS", type := .boolean, accessFlags := 24, slot := 1, constantValue := 0 }, { name := "serialPersistentFields", type := (.array (.object "java/io/ObjectStreamField")), accessFlags := 26, slot := 2, constantValue := 0 }, { name := "REPL", type := .char, accessFlags := 26, slot := 3, constantValue := 0 }, { name := "CASE_INSENSITIVE_ORDER", type := (.object "java/util/Comparator"), accessFlags := 25, slot := 4, constantValue := 0 }, { name := "LATIN1", type := .byte, accessFlags := 24, slot := 5, constantValue := 0 }, { name := "UTF16", type := .byte, accessFlags := 24, slot := 6, constantValue := 0 }]
  methods := #[k9m0, k9m1, k9m2, k9m3]
  instanceTypes := #[(.array .byte), .byte, .int, .boolean]
  staticTypes := #[.long, .boolean, (.array (.object "java/io/ObjectStreamField")), .char, (.object "java/util/Comparator"), .byte, .byte]
  resolved := Array.replicate 1451 none
  statics := some 1 }

def pool10 : Array CpInfo := pool [(6, .class_ 8), (1, u "java/lang/Object"), (0, u "<init>"), (0, u "()V"), (1, .class_ 14), (1, u "java/lang/StringUTF16"), (31, u "$assertionsDisabled"), (0, u "Z"), (13, u "HI_BYTE_SHIFT"), (0, u "I"), (2, u "LO_BYTE_SHIFT"), (49, .methodref 12 116), (0, .nameAndType 117 118), (0, u "compress"), (0, u "([CI[BII)I"), (3, u "([CII)[B"), (138, u "coderFromArrayLen"), (0, u "([BI)B"), (106, .class_ 371), (1, u "java/lang/StringUTF16$LinesSpliterator"), (58, u "MAX_LENGTH"), (196, .class_ 628), (0, u "java/lang/StringUTF16$CodePointsSpliterator"), (0, .class_ 630), (0, u "java/lang/StringUTF16$CharsSpliterator")] 4

def k10m0 : Method := { name := "<init>", desc := "()V", sig := { parameters := [], returnType := none }, accessFlags := 0, code := none }
def k10c1 : Code := { maxStack := 2, maxLocals := 2, code := jdk_52_method_15_code, exceptionTable := #[], attributes := #[] }
def k10m1 : Method := { name := "coderFromArrayLen", desc := "([BI)B", sig := { parameters := [(.array .byte), .int], returnType := some .byte }, accessFlags := 8, code := some k10c1 }
def k10c2 : Code := { maxStack := 5, maxLocals := 6, code := jdk_52_method_16_code, exceptionTable := #[], attributes := #[] }
def k10m2 : Method := { name := "compress", desc := "([CII)[B", sig := { parameters := [(.array .char), .int, .int], returnType := some (.array .byte) }, accessFlags := 9, code := some k10c2 }
def k10c3 : Code := { maxStack := 3, maxLocals := 7, code := jdk_52_method_21_code, exceptionTable := #[], attributes := #[] }
def k10m3 : Method := { name := "compress", desc := "([CI[BII)I", sig := { parameters := [(.array .char), .int, (.array .byte), .int, .int], returnType := some .int }, accessFlags := 9, code := some k10c3 }
/-- java/lang/StringUTF16 -/
def k10 : Class := { plain "java/lang/StringUTF16" (some 0) with
  accessFlags := 48
  interfaces := #[]
  cf := some (fileOf pool10 12 #[.nestMembers #[627, 629, 369]] #[{ accessFlags := 0, nameIndex := 9, descriptorIndex := 10, attributes := #[] }, { accessFlags := 8, nameIndex := 261, descriptorIndex := 262, attributes := #[] }, { accessFlags := 9, nameIndex := 117, descriptorIndex := 122, attributes := #[] }, { accessFlags := 9, nameIndex := 117, descriptorIndex := 118, attributes := #[] }] 48 6 #[] #[{ accessFlags := 26, nameIndex := 61, descriptorIndex := 62, attributes := #[] }, { accessFlags := 26, nameIndex := 65, descriptorIndex := 62, attributes := #[] }, { accessFlags := 24, nameIndex := 430, descriptorIndex := 62, attributes := #[] }, { accessFlags := 4120, nameIndex := 46, descriptorIndex := 47, attributes := #[] }])
  fields := #[{ name := "HI_BYTE_SHIFT", type := .int, accessFlags := 26, slot := 0, constantValue := 0 }, { name := "LO_BYTE_SHIFT", type := .int, accessFlags := 26, slot := 1, constantValue := 0 }, { name := "MAX_LENGTH", type := .int, accessFlags := 24, slot := 2, constantValue := 0 }, { name := "$assertionsDisabled", type := .boolean, accessFlags := 4120, slot := 3, constantValue := 0 }]
  methods := #[k10m0, k10m1, k10m2, k10m3]
  instanceTypes := #[]
  staticTypes := #[.int, .int, .int, .boolean]
  resolved := Array.replicate 635 none
  statics := none }

def pool11 : Array CpInfo := pool [(1, .class_ 2), (0, u "java/lang/Cloneable"), (0, .class_ 4), (0, u "java/lang/Object")] 2

/-- java/lang/Cloneable -/
def k11 : Class := { plain "java/lang/Cloneable" (some 0) with
  accessFlags := 1537
  interfaces := #[]
  cf := some (fileOf pool11 1 #[] #[] 1537 3 #[] #[])
  fields := #[]
  methods := #[]
  instanceTypes := #[]
  staticTypes := #[]
  resolved := Array.replicate 7 none
  statics := none }

def pool12 : Array CpInfo := pool [(4, .class_ 6), (1, u "java/lang/Object"), (0, u "<init>"), (0, u "()V"), (5, .class_ 16), (1, u "java/lang/StringLatin1"), (104, u "$assertionsDisabled"), (0, u "Z"), (98, .class_ 223), (1, u "java/lang/StringLatin1$LinesSpliterator"), (57, u "equals"), (0, u "([B[B)Z"), (107, .class_ 391), (0, u "java/lang/StringLatin1$CharsSpliterator")] 3

def k12m0 : Method := { name := "<init>", desc := "()V", sig := { parameters := [], returnType := none }, accessFlags := 0, code := none }
def k12c1 : Code := { maxStack := 3, maxLocals := 3, code := jdk_43_method_13_code, exceptionTable := #[], attributes := #[] }
def k12m1 : Method := { name := "equals", desc := "([B[B)Z", sig := { parameters := [(.array .byte), (.array .byte)], returnType := some .boolean }, accessFlags := 9, code := some k12c1 }
/-- java/lang/StringLatin1 -/
def k12 : Class := { plain "java/lang/StringLatin1" (some 0) with
  accessFlags := 48
  interfaces := #[]
  cf := some (fileOf pool12 14 #[.nestMembers #[390, 221]] #[{ accessFlags := 0, nameIndex := 7, descriptorIndex := 8, attributes := #[] }, { accessFlags := 9, nameIndex := 281, descriptorIndex := 282, attributes := #[] }] 48 4 #[] #[{ accessFlags := 4120, nameIndex := 121, descriptorIndex := 122, attributes := #[] }])
  fields := #[{ name := "$assertionsDisabled", type := .boolean, accessFlags := 4120, slot := 0, constantValue := 0 }]
  methods := #[k12m0, k12m1]
  instanceTypes := #[]
  staticTypes := #[.boolean]
  resolved := Array.replicate 395 none
  statics := none }

def pool13 : Array CpInfo := pool [(2, .class_ 4), (1, u "java/lang/Object"), (0, u "<init>"), (0, u "()V"), (17, .class_ 26), (1, u "jdk/internal/util/Preconditions"), (28, .class_ 56), (0, u "jdk/internal/util/Preconditions$4"), (57, .class_ 115), (0, u "jdk/internal/util/Preconditions$1"), (7, u "SIOOBE_FORMATTER"), (0, u "Ljava/util/function/BiFunction;"), (0, .class_ 126), (0, u "jdk/internal/util/Preconditions$2"), (3, u "AIOOBE_FORMATTER"), (0, .class_ 132), (0, u "jdk/internal/util/Preconditions$3"), (3, u "IOOBE_FORMATTER")] 57

def k13m0 : Method := { name := "<init>", desc := "()V", sig := { parameters := [], returnType := none }, accessFlags := 1, code := none }
/-- jdk/internal/util/Preconditions -/
def k13 : Class := { plain "jdk/internal/util/Preconditions" (some 0) with
  accessFlags := 33
  interfaces := #[]
  cf := some (fileOf pool13 24 #[.nestMembers #[55, 131, 125, 114]] #[{ accessFlags := 1, nameIndex := 5, descriptorIndex := 6, attributes := #[] }] 33 2 #[] #[{ accessFlags := 25, nameIndex := 123, descriptorIndex := 124, attributes := #[] }, { accessFlags := 25, nameIndex := 130, descriptorIndex := 124, attributes := #[] }, { accessFlags := 25, nameIndex := 136, descriptorIndex := 124, attributes := #[] }])
  fields := #[{ name := "SIOOBE_FORMATTER", type := (.object "java/util/function/BiFunction"), accessFlags := 25, slot := 0, constantValue := 0 }, { name := "AIOOBE_FORMATTER", type := (.object "java/util/function/BiFunction"), accessFlags := 25, slot := 1, constantValue := 0 }, { name := "IOOBE_FORMATTER", type := (.object "java/util/function/BiFunction"), accessFlags := 25, slot := 2, constantValue := 0 }]
  methods := #[k13m0]
  instanceTypes := #[]
  staticTypes := #[(.object "java/util/function/BiFunction"), (.object "java/util/function/BiFunction"), (.object "java/util/function/BiFunction")]
  resolved := Array.replicate 194 none
  statics := some 2 }

def pool14 : Array CpInfo := pool [(9, u "<init>"), (6, .class_ 18), (1, u "java/lang/Object"), (0, u "()V"), (1, .class_ 23), (1, u "jdk/internal/util/ArraysSupport"), (0, u "LOG2_ARRAY_LONG_INDEX_SCALE"), (0, u "I"), (2, u "U"), (0, u "Ljdk/internal/misc/Unsafe;"), (8, u "BIG_ENDIAN"), (0, u "Z"), (8, u "LOG2_BYTE_BIT_SIZE"), (4, u "LOG2_ARRAY_INT_INDEX_SCALE"), (54, u "JLA"), (0, u "Ljdk/internal/access/JavaLangAccess;"), (11, u "LOG2_ARRAY_BOOLEAN_INDEX_SCALE"), (9, u "LOG2_ARRAY_BYTE_INDEX_SCALE"), (5, u "LOG2_ARRAY_CHAR_INDEX_SCALE"), (5, u "LOG2_ARRAY_SHORT_INDEX_SCALE"), (18, u "LOG2_ARRAY_FLOAT_INDEX_SCALE"), (24, u "LOG2_ARRAY_DOUBLE_INDEX_SCALE"), (89, u "T_BOOLEAN"), (2, u "T_CHAR"), (1, u "T_FLOAT"), (1, u "T_DOUBLE"), (1, u "T_BYTE"), (1, u "T_SHORT"), (1, u "T_INT"), (1, u "T_LONG"), (1, u "SOFT_MAX_ARRAY_LENGTH")] 83

def k14m0 : Method := { name := "<init>", desc := "()V", sig := { parameters := [], returnType := none }, accessFlags := 2, code := none }
/-- jdk/internal/util/ArraysSupport -/
def k14 : Class := { plain "jdk/internal/util/ArraysSupport" (some 0) with
  accessFlags := 33
  interfaces := #[]
  cf := some (fileOf pool14 21 #[] #[{ accessFlags := 2, nameIndex := 9, descriptorIndex := 19, attributes := #[] }] 33 16 #[] #[{ accessFlags := 24, nameIndex := 28, descriptorIndex := 29, attributes := #[] }, { accessFlags := 26, nameIndex := 38, descriptorIndex := 39, attributes := #[] }, { accessFlags := 25, nameIndex := 121, descriptorIndex := 25, attributes := #[] }, { accessFlags := 25, nameIndex := 131, descriptorIndex := 25, attributes := #[] }, { accessFlags := 25, nameIndex := 137, descriptorIndex := 25, attributes := #[] }, { accessFlags := 25, nameIndex := 143, descriptorIndex := 25, attributes := #[] }, { accessFlags := 25, nameIndex := 53, descriptorIndex := 25, attributes := #[] }, { accessFlags := 25, nameIndex := 24, descriptorIndex := 25, attributes := #[] }, { accessFlags := 25, nameIndex := 162, descriptorIndex := 25, attributes := #[] }, { accessFlags := 25, nameIndex := 187, descriptorIndex := 25, attributes := #[] }, { accessFlags := 26, nameIndex := 48, descriptorIndex := 25, attributes := #[] }, { accessFlags := 25, nameIndex := 277, descriptorIndex := 25, attributes := #[] }, { accessFlags := 25, nameIndex := 280, descriptorIndex := 25, attributes := #[] }, { accessFlags := 25, nameIndex := 282, descriptorIndex := 25, attributes := #[] }, { accessFlags := 25, nameIndex := 284, descriptorIndex := 25, attributes := #[] }, { accessFlags := 25, nameIndex := 286, descriptorIndex := 25, attributes := #[] }, { accessFlags := 25, nameIndex := 288, descriptorIndex := 25, attributes := #[] }, { accessFlags := 25, nameIndex := 290, descriptorIndex := 25, attributes := #[] }, { accessFlags := 25, nameIndex := 292, descriptorIndex := 25, attributes := #[] }, { accessFlags := 26, nameIndex := 108, descriptorIndex := 109, attributes := #[] }, { accessFlags := 25, nameIndex := 294, descriptorIndex := 25, attributes := #[] }])
  fields := #[{ name := "U", type := (.object "jdk/internal/misc/Unsafe"), accessFlags := 24, slot := 0, constantValue := 0 }, { name := "BIG_ENDIAN", type := .boolean, accessFlags := 26, slot := 1, constantValue := 0 }, { name := "LOG2_ARRAY_BOOLEAN_INDEX_SCALE", type := .int, accessFlags := 25, slot := 2, constantValue := 0 }, { name := "LOG2_ARRAY_BYTE_INDEX_SCALE", type := .int, accessFlags := 25, slot := 3, constantValue := 0 }, { name := "LOG2_ARRAY_CHAR_INDEX_SCALE", type := .int, accessFlags := 25, slot := 4, constantValue := 0 }, { name := "LOG2_ARRAY_SHORT_INDEX_SCALE", type := .int, accessFlags := 25, slot := 5, constantValue := 0 }, { name := "LOG2_ARRAY_INT_INDEX_SCALE", type := .int, accessFlags := 25, slot := 6, constantValue := 0 }, { name := "LOG2_ARRAY_LONG_INDEX_SCALE", type := .int, accessFlags := 25, slot := 7, constantValue := 0 }, { name := "LOG2_ARRAY_FLOAT_INDEX_SCALE", type := .int, accessFlags := 25, slot := 8, constantValue := 0 }, { name := "LOG2_ARRAY_DOUBLE_INDEX_SCALE", type := .int, accessFlags := 25, slot := 9, constantValue := 0 }, { name := "LOG2_BYTE_BIT_SIZE", type := .int, accessFlags := 26, slot := 10, constantValue := 0 }, { name := "T_BOOLEAN", type := .int, accessFlags := 25, slot := 11, constantValue := 0 }, { name := "T_CHAR", type := .int, accessFlags := 25, slot := 12, constantValue := 0 }, { name := "T_FLOAT", type := .int, accessFlags := 25, slot := 13, constantValue := 0 }, { name := "T_DOUBLE", type := .int, accessFlags := 25, slot := 14, constantValue := 0 }, { name := "T_BYTE", type := .int, accessFlags := 25, slot := 15, constantValue := 0 }, { name := "T_SHORT", type := .int, accessFlags := 25, slot := 16, constantValue := 0 }, { name := "T_INT", type := .int, accessFlags := 25, slot := 17, constantValue := 0 }, { name := "T_LONG", type := .int, accessFlags := 25, slot := 18, constantValue := 0 }, { name := "JLA", type := (.object "jdk/internal/access/JavaLangAccess"), accessFlags := 26, slot := 19, constantValue := 0 }, { name := "SOFT_MAX_ARRAY_LENGTH", type := .int, accessFlags := 25, slot := 20, constantValue := 0 }]
  methods := #[k14m0]
  instanceTypes := #[]
  staticTypes := #[(.object "jdk/internal/misc/Unsafe"), .boolean, .int, .int, .int, .int, .int, .int, .int, .int, .int, .int, .int, .int, .int, .int, .int, .int, .int, (.object "jdk/internal/access/JavaLangAccess"), .int]
  resolved := Array.replicate 378 none
  statics := none }

/-- the primitive byte -/
def k15 : Class := { plain "byte" none with kind := .primitive 'B', accessFlags := 0x411 }
/-- [B -/
def k16 : Class := { plain "[B" (some 0) with kind := .array 15 .byte, interfaces := #[11, 4], accessFlags := 1041 }

/-- the primitive char -/
def k17 : Class := { plain "char" none with kind := .primitive 'C', accessFlags := 0x411 }
/-- [C -/
def k18 : Class := { plain "[C" (some 0) with kind := .array 17 .char, interfaces := #[11, 4], accessFlags := 1041 }

/-- the primitive int -/
def k19 : Class := { plain "int" none with kind := .primitive 'I', accessFlags := 0x411 }
/-- [I -/
def k20 : Class := { plain "[I" (some 0) with kind := .array 19 .int, interfaces := #[11, 4], accessFlags := 1041 }

/-- [Lcom/example/tariff/tariff/BasicCharges$Unit; -/
def k21 : Class := { plain "[Lcom/example/tariff/tariff/BasicCharges$Unit;" (some 0) with kind := .array 6 (.object "com/example/tariff/tariff/BasicCharges$Unit"), interfaces := #[11, 4], accessFlags := 1041 }

def heap : Heap := #[{ cls := 6, slots := #[.ref 7, .ref 8, .ref 9, .ref 3], vm := .statics 6 },
  { cls := 9, slots := #[.long 0, .int 1, .null, .int 0, .null, .int 0, .int 0], vm := .statics 9 },
  { cls := 13, slots := #[.null, .null, .null], vm := .statics 13 },
  { cls := 21, slots := #[.ref 7, .ref 8, .ref 9], vm := .none },
  { cls := 16, slots := #[.int 65], vm := .none },
  { cls := 16, slots := #[.int 107, .int 86, .int 65], vm := .none },
  { cls := 16, slots := #[.int 107, .int 87], vm := .none },
  { cls := 6, slots := #[.null, .int 0, .int 0, .ref 10], vm := .none },
  { cls := 6, slots := #[.null, .int 0, .int 0, .ref 11], vm := .none },
  { cls := 6, slots := #[.null, .int 0, .int 0, .ref 12], vm := .none },
  { cls := 9, slots := #[.ref 4, .int 0, .int 0, .int 0], vm := .none },
  { cls := 9, slots := #[.ref 5, .int 0, .int 0, .int 0], vm := .none },
  { cls := 9, slots := #[.ref 6, .int 0, .int 0, .int 0], vm := .none }]
def classes : Array Class := #[k0, k1, k2, k3, k4, k5, k6, k7, k8, k9, k10, k11, k12, k13, k14, k15, k16, k17, k18, k19, k20, k21]
def interned : List (Array UInt16 × Addr) := []
def slotsUsed : Nat := 47
def theMethod : MethodId := ⟨1, 1⟩
def args0 : Array Value := #[.int 5]
def aboutOver (below : List Frame) : State where
  vm := { classes := classes, interned := interned.toArray }
  heap := heap
  slotsUsed := slotsUsed
  threads := #[{ frames := .invoking theMethod args0 :: below }]
def below0 : List Frame := [.native { method := ⟨0, 0⟩, args := #[] }]
def about1 : State := aboutOver below0
def p0 : Program := .bare "" "" ""
def e0 : Env := launch0.env 0 0 0
theorem w_frames : about1.frames = Frame.invoking theMethod args0 :: below0 := rfl
set_option maxRecDepth 65536 in
theorem w_args : argsFit about1.vm theMethod args0 = true := by decide +kernel
set_option maxRecDepth 65536 in
theorem w_heap : heapFits about1 = true := by decide +kernel
set_option maxRecDepth 65536 in
theorem w_runnable : about1.curStatus? = some .runnable := by decide +kernel
set_option maxRecDepth 65536 in
theorem w_alone : about1.alone = true := by decide +kernel
set_option maxRecDepth 65536 in
theorem w_named : about1.methodNamed? x = some theMethod := by decide +kernel
set_option maxRecDepth 65536 in
theorem w_hears : about1.hears theMethod below0 = true := by decide +kernel
set_option maxRecDepth 65536 in
theorem w_ripe : about1.ripe theMethod args0 below0 = true := by decide +kernel
theorem w_running : about1.status = .running := rfl
set_option maxRecDepth 65536 in
theorem w_room : about1.hasRoom e0.platform room_1 = true :=
  launch0.hasRoom_least _ room_1 (by decide +kernel) (by decide +kernel) (by decide +kernel) (by decide +kernel) (by decide +kernel) (by decide +kernel)
theorem allAtoms_all (ts : List Jvm.Cond) (a : Array Jvm.Value) (st : Jvm.State) : (allAtoms ts).before a st = ts.all (fun c => c.before a st) := by
  induction ts with
  | nil => rfl
  | cons c t ih =>
    show (Jvm.Cond.and c (allAtoms t)).before a st = _
    rw [Jvm.Cond.before_and, ih, List.all_cons]
def words1 : List Jvm.Cond := Jvm.Cond.code x code maxLocals ret :: tables_1
/-- a 'code' word, met by the world's own term for the bytes: nothing is compared byte by byte -/
theorem code_word {y : MethodName} {bytes : ByteArray} {mx : Nat} {rt : Option FieldType} {a : Array Value} {s : State} {m : MethodId} {meth : Method} {c : Code} (h1 : s.methodNamed? y = some m) (h2 : s.vm.method? m = some meth) (h3 : meth.code = some c) (h4 : c.code = bytes)
    (h5 : (c.maxLocals == mx && c.exceptionTable.isEmpty && decide (c.maxStack ≤ mostOperands) && decide (meth.sig.returnType = rt) && !meth.locks && decide (parseMethodDescriptor y.desc = some meth.sig)) = true) : (Jvm.Cond.code y bytes mx rt).before a s = true := by
  simp only [Bool.and_eq_true, beq_iff_eq, Bool.not_eq_true', decide_eq_true_eq] at h5
  obtain ⟨⟨⟨⟨⟨g1, g2⟩, g3⟩, g4⟩, g5⟩, g6⟩ := h5
  simp [Cond.before, Cond.holds, Cond.value, h1, h2, h3, h4, g1, g2, g3, g4, g5, g6]
def isCode : Jvm.Cond → Bool
  | .code _ _ _ _ => true
  | _ => false
theorem all_split {L : List Jvm.Cond} {P : Jvm.Cond → Bool} (h1 : L.all (fun c => isCode c || P c) = true) (h2 : ∀ c ∈ L.filter isCode, P c = true) : L.all P = true := by
  refine List.all_eq_true.mpr fun c hc => ?_
  have h := List.all_eq_true.mp h1 c hc
  rcases Bool.eq_false_or_eq_true (isCode c) with hi | hi
  · exact h2 c (List.mem_filter.mpr ⟨hc, hi⟩)
  · simpa [hi] using h
set_option maxRecDepth 65536 in
theorem w_c0 : (Jvm.Cond.code x code maxLocals ret).before args0 about1 = true := code_word (m := ⟨1, 1⟩) (meth := k1m1) (c := k1c1) (by decide +kernel) rfl rfl rfl (by decide +kernel)
set_option maxRecDepth 65536 in
theorem w_c1 : (Jvm.Cond.code ({ cls := "java/lang/String", name := "<init>", desc := "([C)V" } : Jvm.MethodName) jdk_42_method_3_code (2 : Nat) (Option.none : Option Jvm.ClassFile.FieldType)).before args0 about1 = true := code_word (m := ⟨9, 1⟩) (meth := k9m1) (c := k9c1) (by decide +kernel) rfl rfl rfl (by decide +kernel)
set_option maxRecDepth 65536 in
theorem w_c2 : (Jvm.Cond.code ({ cls := "java/lang/String", name := "<init>", desc := "([CIILjava/lang/Void;)V" } : Jvm.MethodName) jdk_42_method_149_code (6 : Nat) (Option.none : Option Jvm.ClassFile.FieldType)).before args0 about1 = true := code_word (m := ⟨9, 3⟩) (meth := k9m3) (c := k9c3) (by decide +kernel) rfl rfl rfl (by decide +kernel)
set_option maxRecDepth 65536 in
theorem w_c3 : (Jvm.Cond.code ({ cls := "java/lang/Object", name := "<init>", desc := "()V" } : Jvm.MethodName) object_method_1_code (1 : Nat) (Option.none : Option Jvm.ClassFile.FieldType)).before args0 about1 = true := code_word (m := ⟨0, 0⟩) (meth := k0m0) (c := k0c0) (by decide +kernel) rfl rfl rfl (by decide +kernel)
set_option maxRecDepth 65536 in
theorem w_c4 : (Jvm.Cond.code ({ cls := "java/lang/StringUTF16", name := "compress", desc := "([CII)[B" } : Jvm.MethodName) jdk_52_method_16_code (6 : Nat) (Option.some (Jvm.ClassFile.FieldType.array Jvm.ClassFile.FieldType.byte))).before args0 about1 = true := code_word (m := ⟨10, 2⟩) (meth := k10m2) (c := k10c2) (by decide +kernel) rfl rfl rfl (by decide +kernel)
set_option maxRecDepth 65536 in
theorem w_c5 : (Jvm.Cond.code ({ cls := "java/lang/StringUTF16", name := "compress", desc := "([CI[BII)I" } : Jvm.MethodName) jdk_52_method_21_code (7 : Nat) (Option.some Jvm.ClassFile.FieldType.int)).before args0 about1 = true := code_word (m := ⟨10, 3⟩) (meth := k10m3) (c := k10c3) (by decide +kernel) rfl rfl rfl (by decide +kernel)
set_option maxRecDepth 65536 in
theorem w_c6 : (Jvm.Cond.code ({ cls := "java/lang/StringUTF16", name := "coderFromArrayLen", desc := "([BI)B" } : Jvm.MethodName) jdk_52_method_15_code (2 : Nat) (Option.some Jvm.ClassFile.FieldType.byte)).before args0 about1 = true := code_word (m := ⟨10, 1⟩) (meth := k10m1) (c := k10c1) (by decide +kernel) rfl rfl rfl (by decide +kernel)
set_option maxRecDepth 65536 in
theorem w_c7 : (Jvm.Cond.code ({ cls := "com/example/tariff/tariff/BasicCharges$Unit", name := "of", desc := "(Ljava/lang/String;)Lcom/example/tariff/tariff/BasicCharges$Unit;" } : Jvm.MethodName) prog_3_method_5_code (5 : Nat) (Option.some (Jvm.ClassFile.FieldType.object "com/example/tariff/tariff/BasicCharges$Unit"))).before args0 about1 = true := code_word (m := ⟨6, 2⟩) (meth := k6m2) (c := k6c2) (by decide +kernel) rfl rfl rfl (by decide +kernel)
set_option maxRecDepth 65536 in
theorem w_c8 : (Jvm.Cond.code ({ cls := "com/example/tariff/tariff/BasicCharges$Unit", name := "values", desc := "()[Lcom/example/tariff/tariff/BasicCharges$Unit;" } : Jvm.MethodName) prog_3_method_1_code (0 : Nat) (Option.some (Jvm.ClassFile.FieldType.array (Jvm.ClassFile.FieldType.object "com/example/tariff/tariff/BasicCharges$Unit")))).before args0 about1 = true := code_word (m := ⟨6, 0⟩) (meth := k6m0) (c := k6c0) (by decide +kernel) rfl rfl rfl (by decide +kernel)
set_option maxRecDepth 65536 in
theorem w_c9 : (Jvm.Cond.code ({ cls := "java/lang/String", name := "equals", desc := "(Ljava/lang/Object;)Z" } : Jvm.MethodName) jdk_42_method_66_code (3 : Nat) (Option.some Jvm.ClassFile.FieldType.boolean)).before args0 about1 = true := code_word (m := ⟨9, 2⟩) (meth := k9m2) (c := k9c2) (by decide +kernel) rfl rfl rfl (by decide +kernel)
set_option maxRecDepth 65536 in
theorem w_c10 : (Jvm.Cond.code ({ cls := "java/lang/StringLatin1", name := "equals", desc := "([B[B)Z" } : Jvm.MethodName) jdk_43_method_13_code (3 : Nat) (Option.some Jvm.ClassFile.FieldType.boolean)).before args0 about1 = true := code_word (m := ⟨12, 1⟩) (meth := k12m1) (c := k12c1) (by decide +kernel) rfl rfl rfl (by decide +kernel)
set_option maxRecDepth 65536 in
theorem w_c11 : (Jvm.Cond.code ({ cls := "com/example/tariff/tariff/BasicCharges$Unit", name := "symbol", desc := "()Ljava/lang/String;" } : Jvm.MethodName) prog_3_method_4_code (1 : Nat) (Option.some (Jvm.ClassFile.FieldType.object "java/lang/String"))).before args0 about1 = true := code_word (m := ⟨6, 1⟩) (meth := k6m1) (c := k6c1) (by decide +kernel) rfl rfl rfl (by decide +kernel)
def codes1 : List Jvm.Cond := [Jvm.Cond.code x code maxLocals ret, Jvm.Cond.code ({ cls := "java/lang/String", name := "<init>", desc := "([C)V" } : Jvm.MethodName) jdk_42_method_3_code (2 : Nat) (Option.none : Option Jvm.ClassFile.FieldType), Jvm.Cond.code ({ cls := "java/lang/String", name := "<init>", desc := "([CIILjava/lang/Void;)V" } : Jvm.MethodName) jdk_42_method_149_code (6 : Nat) (Option.none : Option Jvm.ClassFile.FieldType), Jvm.Cond.code ({ cls := "java/lang/Object", name := "<init>", desc := "()V" } : Jvm.MethodName) object_method_1_code (1 : Nat) (Option.none : Option Jvm.ClassFile.FieldType), Jvm.Cond.code ({ cls := "java/lang/StringUTF16", name := "compress", desc := "([CII)[B" } : Jvm.MethodName) jdk_52_method_16_code (6 : Nat) (Option.some (Jvm.ClassFile.FieldType.array Jvm.ClassFile.FieldType.byte)), Jvm.Cond.code ({ cls := "java/lang/StringUTF16", name := "compress", desc := "([CI[BII)I" } : Jvm.MethodName) jdk_52_method_21_code (7 : Nat) (Option.some Jvm.ClassFile.FieldType.int), Jvm.Cond.code ({ cls := "java/lang/StringUTF16", name := "coderFromArrayLen", desc := "([BI)B" } : Jvm.MethodName) jdk_52_method_15_code (2 : Nat) (Option.some Jvm.ClassFile.FieldType.byte), Jvm.Cond.code ({ cls := "com/example/tariff/tariff/BasicCharges$Unit", name := "of", desc := "(Ljava/lang/String;)Lcom/example/tariff/tariff/BasicCharges$Unit;" } : Jvm.MethodName) prog_3_method_5_code (5 : Nat) (Option.some (Jvm.ClassFile.FieldType.object "com/example/tariff/tariff/BasicCharges$Unit")), Jvm.Cond.code ({ cls := "com/example/tariff/tariff/BasicCharges$Unit", name := "values", desc := "()[Lcom/example/tariff/tariff/BasicCharges$Unit;" } : Jvm.MethodName) prog_3_method_1_code (0 : Nat) (Option.some (Jvm.ClassFile.FieldType.array (Jvm.ClassFile.FieldType.object "com/example/tariff/tariff/BasicCharges$Unit"))), Jvm.Cond.code ({ cls := "java/lang/String", name := "equals", desc := "(Ljava/lang/Object;)Z" } : Jvm.MethodName) jdk_42_method_66_code (3 : Nat) (Option.some Jvm.ClassFile.FieldType.boolean), Jvm.Cond.code ({ cls := "java/lang/StringLatin1", name := "equals", desc := "([B[B)Z" } : Jvm.MethodName) jdk_43_method_13_code (3 : Nat) (Option.some Jvm.ClassFile.FieldType.boolean), Jvm.Cond.code ({ cls := "com/example/tariff/tariff/BasicCharges$Unit", name := "symbol", desc := "()Ljava/lang/String;" } : Jvm.MethodName) prog_3_method_4_code (1 : Nat) (Option.some (Jvm.ClassFile.FieldType.object "java/lang/String"))]
set_option maxRecDepth 65536 in
theorem codes_eq : words1.filter isCode = codes1 := rfl
theorem w_codes : ∀ c ∈ words1.filter isCode, c.before args0 about1 = true := by
  rw [codes_eq]
  intro c hc
  simp only [codes1, List.mem_cons, List.not_mem_nil, or_false] at hc
  rcases hc with rfl | rfl | rfl | rfl | rfl | rfl | rfl | rfl | rfl | rfl | rfl | rfl
  · exact w_c0
  · exact w_c1
  · exact w_c2
  · exact w_c3
  · exact w_c4
  · exact w_c5
  · exact w_c6
  · exact w_c7
  · exact w_c8
  · exact w_c9
  · exact w_c10
  · exact w_c11
set_option maxRecDepth 65536 in
theorem w_t1 : (words1.take 24).all (fun c => isCode c || c.before args0 about1) = true := by decide +kernel
set_option maxRecDepth 65536 in
theorem w_t2 : ((words1.drop 24).take 24).all (fun c => isCode c || c.before args0 about1) = true := by decide +kernel
set_option maxRecDepth 65536 in
theorem w_t3 : (((words1.drop 24).drop 24).take 24).all (fun c => isCode c || c.before args0 about1) = true := by decide +kernel
set_option maxRecDepth 65536 in
theorem w_t4 : (((words1.drop 24).drop 24).drop 24).all (fun c => isCode c || c.before args0 about1) = true := by decide +kernel
theorem w_tables : (allAtoms (Jvm.Cond.code x code maxLocals ret :: tables_1)).before args0 about1 = true := by
  rw [allAtoms_all]
  show words1.all (fun c => c.before args0 about1) = true
  refine all_split ?_ w_codes
  rw [← List.take_append_drop 24 words1, List.all_append, w_t1, ← List.take_append_drop 24 (words1.drop 24), List.all_append, w_t2, ← List.take_append_drop 24 ((words1.drop 24).drop 24), List.all_append, w_t3, w_t4]
  rfl
set_option maxRecDepth 65536 in
theorem w_rest : rest_1_c.before args0 about1 = true := by decide +kernel
set_option maxRecDepth 65536 in
theorem w_case : (Jvm.Cond.and given_1 narrow_1).before args0 about1 = true := by decide +kernel
theorem w_applies : (headSpec (Jvm.Cond.code x code maxLocals ret :: tables_1) room_1).applies x e0.platform about1 = true :=
  (Spec.applies_iff w_frames).mpr ⟨w_running, w_runnable, w_alone, w_named, w_hears, w_ripe, w_room, w_tables⟩
theorem atStart : AtStart classFile x code maxLocals ret World_1 tables_1 room_1 Calls_1 rest_1 Pre_1 launch0 p0 e0 about1 theMethod args0 below0 :=
  ⟨lists_1, trivial, launch0.admits_env _ _ _, launch0.least_env, fairChoices_fair.cas, fairChoices_fair.clock, w_frames, w_args, w_heap, w_applies, trivial, w_rest, w_case⟩
end start1
theorem witness_1 : WitnessClaimed_1 := ⟨start1.p0, start1.e0, start1.about1, start1.theMethod, start1.args0, start1.below0, start1.atStart⟩
end Jvm.Pilot.@@N@@
