import JvmDerived
import JvmDerived.Pilot.@@N@@Statement
import JvmDerived.Pilot.@@N@@Code
set_option linter.unusedVariables false
set_option linter.unusedSimpArgs false
namespace Jvm.RoadKit
open Sem ClassFile Op Lib Jvm.Stand Jvm.Free Jvm.LawKit
/-- the run from S comes to an end that Post allows -/
def own_Fin (tb : Tables) (e : Env) (below : List Frame) (Post : Outcome → State → Prop) (S : State) : Prop := ∃ s₂ o, Steps tb e below S s₂ ∧ s₂.status = .running ∧ Ended s₂ below o ∧ Post o s₂
def own_post (Q : Option Value → Heap → List Loc → Prop) (s : State) (k n : Nat) (o : Outcome) (U : State) : Prop := ∃ v L, o = .returned v ∧ Q v U.heap L ∧ FrameEnd s o U L k n
def own_bool (P : Prop) (v : Option Value) : Prop := (v = some (.int 1) ∧ P) ∨ (v = some (.int 0) ∧ ¬ P)
theorem own_Fin.step {tb : Tables} {e : Env} {below : List Frame} {Post : Outcome → State → Prop} {S S' : State} (h : ∀ t, Steps tb e below S' t → Steps tb e below S t) (k : own_Fin tb e below Post S') : own_Fin tb e below Post S := by
  obtain ⟨s2, o, h1, h2⟩ := k
  exact ⟨s2, o, h _ h1, h2⟩
theorem own_Fin.trans {tb : Tables} {e : Env} {below : List Frame} {Post : Outcome → State → Prop} {S S' : State} (h : Steps tb e below S S') (k : own_Fin tb e below Post S') : own_Fin tb e below Post S := by
  obtain ⟨s2, o, h1, h2⟩ := k
  exact ⟨s2, o, h.trans h1, h2⟩
section New
variable {p : Program} {l : Launch} {e : Env} {R : Room} {s : State} {m : MethodId} {args : Array Value} {below : List Frame} {meth : Method} {c : Code} {T : State} {locs : List Loc} {cells slots : Nat} {Q : Option Value → Heap → List Loc → Prop} {kc ks : Nat} {h : Heap}
theorem retI (X : Stand p l e R s m args below meth c T locs cells slots) (hx : p.tables.exec = Jvm.exec) {pc : Nat} {Ls : Array Slot} {z : Int32} {rest : List Value} (hret : meth.sig.returnType = some .int) (hd : decode c.code pc = .ok (.ireturn, 1)) {fs : List Frame}
    (hl : ∀ (f : JFrame) (acts : List Action), f.method = m → f.locked = none → f.entered = [] → (doReturn e (T.setTop f) acts (some (.int z))).1 = T.setFrames fs) : Steps p.tables e below (T.setTop (mkF m pc Ls (.int z :: rest))) (T.setFrames fs) := by
  have hm' : T.vm.method? m = some meth := X.method'
  have hn : narrow .int (.int z) = .int z := rfl
  show Steps p.tables e below (T.setTop { method := m, pc := pc, locals := Ls, stack := _ :: rest, locked := none }) _
  jvm_step X.here [X.here.top, hx, hd, hm', hret, hn]
  first | (intro acts; rw [hl _ acts rfl rfl rfl]) | rw [hl _ _ rfl rfl rfl]
  exact Steps.refl _
theorem own_retN (X : Stand p l e R s m args below meth c T locs cells slots) (hx : p.tables.exec = Jvm.exec) (hlk : meth.locks = false) {pc : Nat} {Ls : Array Slot} {z : Int32} {t : FieldType} {rest : List Value} (hret : meth.sig.returnType = some t) (ht : t = .boolean ∨ t = .byte ∨ t = .char ∨ t = .short)
    (hd : decode c.code pc = .ok (.ireturn, 1)) (eT : T.heap = h) (hq : Q (some (.int (nar t z))) h locs) (hc : cells ≤ kc) (hs : slots ≤ ks) : own_Fin p.tables e below (own_post Q s kc ks) (T.setTop (mkF m pc Ls (.int z :: rest))) := by
  obtain ⟨fs, hr, hrun, hended, hW, hsame⟩ := X.leave (v := some (.int (nar t z))) (fun h => by rw [hret] at h; cases h) hlk
  exact ⟨_, _, retN X hx hret ht hd hr, hrun, hended, _, _, rfl, (eT ▸ hq : Q (some (.int (nar t z))) T.heap locs), ⟨_, rfl⟩, hW, hsame.mono hc hs⟩
theorem own_retI (X : Stand p l e R s m args below meth c T locs cells slots) (hx : p.tables.exec = Jvm.exec) (hlk : meth.locks = false) {pc : Nat} {Ls : Array Slot} {z : Int32} {rest : List Value} (hret : meth.sig.returnType = some .int)
    (hd : decode c.code pc = .ok (.ireturn, 1)) (eT : T.heap = h) (hq : Q (some (.int z)) h locs) (hc : cells ≤ kc) (hs : slots ≤ ks) : own_Fin p.tables e below (own_post Q s kc ks) (T.setTop (mkF m pc Ls (.int z :: rest))) := by
  obtain ⟨fs, hr, hrun, hended, hW, hsame⟩ := X.leave (v := some (.int z)) (fun h => by rw [hret] at h; cases h) hlk
  exact ⟨_, _, retI X hx hret hd hr, hrun, hended, _, _, rfl, (eT ▸ hq : Q (some (.int z)) T.heap locs), ⟨_, rfl⟩, hW, hsame.mono hc hs⟩
theorem own_retJ (X : Stand p l e R s m args below meth c T locs cells slots) (hx : p.tables.exec = Jvm.exec) (hlk : meth.locks = false) {pc : Nat} {Ls : Array Slot} {z : Int64} (hret : meth.sig.returnType = some .long)
    (hd : decode c.code pc = .ok (.lreturn, 1)) (eT : T.heap = h) (hq : Q (some (.long z)) h locs) (hc : cells ≤ kc) (hs : slots ≤ ks) : own_Fin p.tables e below (own_post Q s kc ks) (T.setTop (mkF m pc Ls [.long z])) := by
  obtain ⟨fs, hr, hrun, hended, hW, hsame⟩ := X.leave (v := some (.long z)) (fun h => by rw [hret] at h; cases h) hlk
  exact ⟨_, _, X.lreturnOut hx hret hd hr, hrun, hended, _, _, rfl, (eT ▸ hq : Q (some (.long z)) T.heap locs), ⟨_, rfl⟩, hW, hsame.mono hc hs⟩
theorem own_retR (X : Stand p l e R s m args below meth c T locs cells slots) (hx : p.tables.exec = Jvm.exec) (hlk : meth.locks = false) {pc : Nat} {Ls : Array Slot} {w : Value} {t : FieldType} (hw : w.isRef = true) (hret : meth.sig.returnType = some t) (ht : t.isReference = true)
    (hd : decode c.code pc = .ok (.areturn, 1)) (eT : T.heap = h) (hq : Q (some w) h locs) (hc : cells ≤ kc) (hs : slots ≤ ks) : own_Fin p.tables e below (own_post Q s kc ks) (T.setTop (mkF m pc Ls [w])) := by
  obtain ⟨fs, hr, hrun, hended, hW, hsame⟩ := X.leave (v := some w) (fun h => by rw [hret] at h; cases h) hlk
  exact ⟨_, _, X.areturnOut hx hw hret ht hd hr, hrun, hended, _, _, rfl, (eT ▸ hq : Q (some w) T.heap locs), ⟨_, rfl⟩, hW, hsame.mono hc hs⟩
theorem own_retV (X : Stand p l e R s m args below meth c T locs cells slots) (hx : p.tables.exec = Jvm.exec) (hlk : meth.locks = false) {pc : Nat} {Ls : Array Slot} (hret : meth.sig.returnType = none)
    (hd : decode c.code pc = .ok (.return_, 1)) (eT : T.heap = h) (hq : Q none h locs) (hc : cells ≤ kc) (hs : slots ≤ ks) : own_Fin p.tables e below (own_post Q s kc ks) (T.setTop (mkF m pc Ls [])) := by
  obtain ⟨fs, hr, hrun, hended, hW, hsame⟩ := X.leave (v := none) (fun _ => rfl) hlk
  exact ⟨_, _, X.returnOut hx hret hd hr, hrun, hended, _, _, rfl, (eT ▸ hq : Q none T.heap locs), ⟨_, rfl⟩, hW, hsame.mono hc hs⟩
theorem own_cat1 {v : Value} (h : v.isRef = true) : v.category = 1 := by cases v <;> simp [Value.isRef, Value.category] at h ⊢
theorem own_catR {a : Addr} : (Value.ref a).category = 1 := rfl
theorem own_catN : Value.null.category = 1 := rfl
theorem own_catI {a : Int32} : (Value.int a).category = 1 := rfl
theorem own_catJ {a : Int64} : (Value.long a).category = 2 := rfl
theorem own_fitR {v : Value} {C : String} (h : v.isRef = true) : fits (.object C) v = true := by cases v <;> simp [Value.isRef, fits] at h ⊢
theorem own_fitA {v : Value} {ty : FieldType} (h : v.isRef = true) : fits (.array ty) v = true := by cases v <;> simp [Value.isRef, fits] at h ⊢
theorem own_selPriv {s : State} {args : Array Value} {y : MethodName} {n : Nat} (hi : (Cond.instantiable y.cls n).before args s = true) (hpriv : s.PrivateAt y) (hinst : (Cond.instanceMethod y).before args s = true) (hy : y.cls ≠ "java/lang/invoke/MethodHandle" ∧ y.cls ≠ "java/lang/invoke/VarHandle") : (Cond.selects y.cls y y).before args s = true := by
  obtain ⟨c, k, h1, h2, -, h4, -, -⟩ := Cond.instantiable_spec hi
  have h5 : k.isInterface = false := by
    cases hk : k.isInterface with
    | false => rfl
    | true => simp [hk] at h4
  exact selects_self_of_private h1 h2 h5 hpriv hinst hy
theorem own_eqI {a b : Term} {args : Array Value} {first st : State} {o : Option Outcome} {idx : List Nat} {y : Int32} (h : (Cond.eq a b).value args first o st idx = some true) (hb : b.eval args first o idx st = some (.int y)) : a.eval args first o idx st = some (.int y) := by
  cases ha : a.eval args first o idx st with
  | none => simp [Cond.value, ha] at h
  | some x => cases x <;> simp [Cond.value, ha, hb] at h ⊢ <;> exact h
theorem own_eqR {a b : Term} {args : Array Value} {first st : State} {o : Option Outcome} {idx : List Nat} {y : Addr} (h : (Cond.eq a b).value args first o st idx = some true) (hb : b.eval args first o idx st = some (.ref y)) : a.eval args first o idx st = some (.ref y) := by
  cases ha : a.eval args first o idx st with
  | none => simp [Cond.value, ha] at h
  | some x => cases x <;> simp [Cond.value, ha, hb] at h ⊢ <;> exact h
theorem own_elem {t : Term} {args : Array Value} {Z : State} {a : Addr} {cl : Cell} {ty : FieldType} {j : Int32} {v : Value} (ev : t.eval args Z none [] Z = some (.ref a)) (A : Arr Z Z.heap a cl ty) (h : (Term.elem t (.int j)).eval args Z none [] Z = some v) : cl.slots[j.toNatClampNeg]? = some v := by
  obtain ⟨a', j', cell, e1, e2, e3, -, e5⟩ := Term.elem_spec h
  cases e1.symm.trans ev
  have e6 : some (Value.int j) = some (Value.int j') := e2
  cases e6
  have := IntBox.arrayAt_of A.1 A.2.1 A.2.2
  cases e3.symm.trans this
  exact e5
theorem own_arv {t : Term} {args : Array Value} {Z : State} {a : Addr} {cl : Cell} {ty : FieldType} {z : Int32} {vs : List Value} {dv : Value} (hf : Fit Z) (ev : t.eval args Z none [] Z = some (.ref a)) (A : Arr Z Z.heap a cl ty) (hl : (Term.length t).eval args Z none [] Z = some (.int z)) (hz : ¬ z < 0) (hn : z.toNatClampNeg = vs.length) (H : HasL cl 0 vs) : Arv Z Z.heap a cl.cls ty z vs dv := by
  have hA := IntBox.arrayAt_of A.1 A.2.1 A.2.2
  have hlt : cl.slots.size < 2 ^ 31 := by
    by_cases hq : cl.slots.size < 2 ^ 31
    · exact hq
    · simp [Term.eval, ev, hA, hq] at hl
  have e := len_f (t := t) (args := args) (first := Z) (o := none) (idx := []) ev hA hlt
  have e2 : cl.slots.size.toInt32 = z := by
    have := e.symm.trans hl
    cases this; rfl
  exact Arv.start hf A hlt e2 hz hn H
end New
end Jvm.RoadKit
/- laws to paste: Road.backV (cut by pick.py; bodies as the Statement names them) -/
namespace Jvm.Pilot.@@N@@
namespace StrChars
open Jvm Sem ClassFile Op Lib Jvm.Stand Jvm.Free.XT Jvm.Free.ALB Jvm.Free.JM Jvm.Free
open Jvm.Lib.Cold (StaticIs)
/-- a char array whose places are chars -/
def Ch (a : Addr) (A : Cell) (U : State) : Prop := Arr .char a A U ∧ Typed .char A
theorem Ch.mv {a : Addr} {A : Cell} {U U' : State} (h : Ch a A U) (hal : U.vm.Alike U'.vm) (hh : U'.heap = U.heap) : Ch a A U' := ⟨h.1.mv hal hh, h.2⟩
theorem Ch.keep {a : Addr} {A : Cell} {U U' : State} (h : Ch a A U) (hal : U.vm.Alike U'.vm) (hk : U'.heap[a]? = some A) : Ch a A U' := ⟨h.1.keep hal hk, h.2⟩
/-- what place i of a char[]'s cell holds -/
def cv (A : Cell) (i : Nat) : Int32 := match A.slots[i]? with | some (.int x) => x | _ => 0
theorem Ch.get {a : Addr} {A : Cell} {U : State} (h : Ch a A U) {i : Nat} (hi : i < A.slots.size) : A.slots[i]? = some (.int (cv A i)) := by
  have e := Array.getElem?_eq_getElem hi
  have f := h.2 i _ e
  unfold cv; rw [e]
  generalize A.slots[i] = v at f
  cases v <;> simp [fits] at f ⊢
/-- the byte that i2b leaves of a char -/
def lo8 (x : Int32) : Int32 := x.toInt8.toInt32
theorem fits_lo8 (y : Int32) : fits .byte (.int (lo8 y)) = true := by
  have h1 := y.toInt8.le_toInt
  have h2 := y.toInt8.toInt_lt
  simp only [lo8, fits, Bool.and_eq_true, decide_eq_true_eq, Int32.le_iff_toInt_le, Int8.toInt_toInt32, show (-128 : Int32).toInt = -128 from by decide, show (127 : Int32).toInt = 127 from by decide]
  omega
/-- A' is A but that each place j of lo .. hi - 1 holds f j -/
def Laid (A A' : Cell) (lo hi : Nat) (f : Nat → Value) : Prop := A'.cls = A.cls ∧ A'.vm = A.vm ∧ A'.slots.size = A.slots.size ∧ ∀ i, A'.slots[i]? = if lo ≤ i ∧ i < hi then some (f i) else A.slots[i]?
theorem Laid.zero (A : Cell) (lo : Nat) (f : Nat → Value) : Laid A A lo (lo + 0) f := ⟨rfl, rfl, rfl, fun i => by rw [if_neg (by omega)]⟩
theorem Laid.step {A Ak : Cell} {lo k : Nat} {f : Nat → Value} {v : Value} (h : Laid A Ak lo k f) (hlo : lo ≤ k) (hk : k < Ak.slots.size) (hv : v = f k) : Laid A (Ak.setSlot k v) lo (k + 1) f := by
  refine ⟨h.1, h.2.1, by simpa [Cell.setSlot] using h.2.2.1, fun i => ?_⟩
  by_cases e : k = i
  · subst e; rw [Cell.slots_setSlot_self v hk, if_pos (by omega), hv]
  · rw [Cell.slots_setSlot_ne v e, h.2.2.2 i]
    by_cases q : lo ≤ i ∧ i < k
    · rw [if_pos q, if_pos (by omega)]
    · rw [if_neg q, if_neg (by omega)]
def U16 : String := "java/lang/StringUTF16"
namespace Cmp5
def yN : MethodName := ⟨"java/lang/StringUTF16", "compress", "([CI[BII)I"⟩
abbrev yB : ByteArray := jdk_52_method_21_code
theorem d0 : decode yB 0 = .ok (.iconst 0, 1) := by decide +kernel
theorem d1 : decode yB 1 = .ok (.istore 5, 2) := by decide +kernel
theorem d3 : decode yB 3 = .ok (.iload 5, 2) := by decide +kernel
theorem d5 : decode yB 5 = .ok (.iload 4, 2) := by decide +kernel
theorem d7 : decode yB 7 = .ok (.if_icmp (.ge) 37, 3) := by decide +kernel
theorem d10 : decode yB 10 = .ok (.aload_n 0, 1) := by decide +kernel
theorem d11 : decode yB 11 = .ok (.iload_n 1, 1) := by decide +kernel
theorem d12 : decode yB 12 = .ok (.caload, 1) := by decide +kernel
theorem d13 : decode yB 13 = .ok (.istore 6, 2) := by decide +kernel
theorem d15 : decode yB 15 = .ok (.iload 6, 2) := by decide +kernel
theorem d17 : decode yB 17 = .ok (.sipush 255, 3) := by decide +kernel
theorem d20 : decode yB 20 = .ok (.if_icmp (.le) 6, 3) := by decide +kernel
theorem d26 : decode yB 26 = .ok (.aload_n 2, 1) := by decide +kernel
theorem d27 : decode yB 27 = .ok (.iload_n 3, 1) := by decide +kernel
theorem d28 : decode yB 28 = .ok (.iload 6, 2) := by decide +kernel
theorem d30 : decode yB 30 = .ok (.i2b, 1) := by decide +kernel
theorem d31 : decode yB 31 = .ok (.bastore, 1) := by decide +kernel
theorem d32 : decode yB 32 = .ok (.iinc 1 1, 3) := by decide +kernel
theorem d35 : decode yB 35 = .ok (.iinc 3 1, 3) := by decide +kernel
theorem d38 : decode yB 38 = .ok (.iinc 5 1, 3) := by decide +kernel
theorem d41 : decode yB 41 = .ok (.goto (-38), 3) := by decide +kernel
theorem d44 : decode yB 44 = .ok (.iload 4, 2) := by decide +kernel
theorem d46 : decode yB 46 = .ok (.ireturn, 1) := by decide +kernel
def site : List Cond := []
def tab : Cond := tabOf yN yB 7 (some .int) site
def P (b : Addr) (A : Cell) (d : Addr) (B : Cell) (o q len : Nat) (args : Array Value) (s : State) : Prop := args = #[.ref b, .int (Int32.ofNat o), .ref d, .int (Int32.ofNat q), .int (Int32.ofNat len)] ∧ Ch b A s ∧ Arr .byte d B s ∧ b ≠ d ∧ o + len ≤ A.slots.size ∧ q + len ≤ B.slots.size ∧ ∀ i, i < len → ¬ 255 < cv A (o + i)
def E (b : Addr) (A : Cell) (d : Addr) (B : Cell) (o q len : Nat) (r : Option Value) (s u : State) : Prop := r = some (.int (Int32.ofNat len)) ∧ ∃ B', Put d B' s u ∧ Laid B B' q (q + len) (fun j => Value.int (lo8 (cv A (o + (j - q)))))
/-- no char of the range above 255: len; the places written hold each char's low byte -/
theorem law (l : Launch) (b : Addr) (A : Cell) (d : Addr) (B : Cell) (o q len : Nat) : Law l yN 5 5 0 0 yB 7 (some .int) site (P b A d B o q len) (E b A d B o q len) (copyLocs d q len) 0 0 := by
  refine Law.of_walk (plainFor_of_name (by decide +kernel)) (by decide +kernel) (by decide +kernel) (by decide) (fun _ _ h => by rw [h.1]; rfl) (fun _ U U' hal hh h => ⟨h.1, h.2.1.mv hal hh, h.2.2.1.mv hal hh, h.2.2.2⟩) (fun r U U' V V' h1 hal h2 h => ⟨h.1, h.2.elim fun B' q => ⟨B', q.1.mv h1 h2, q.2⟩⟩) ?_
  intro p e s m args below meth c s₁ X0 hexec hbytes hml hret hlk hnm hown hh0 W hP
  obtain ⟨rfl, hA, hB, hne, l1, l2, hp⟩ := hP
  have c1 : Steps p.tables e below (s₁.setTop (entryFrame m #[.ref b, .int (Int32.ofNat o), .ref d, .int (Int32.ofNat q), .int (Int32.ofNat len)] 7)) (s₁.setTop (mkF m 0 #[.val (.ref b), .val (.int (Int32.ofNat o)), .val (.ref d), .val (.int (Int32.ofNat q)), .val (.int (Int32.ofNat len)), .unset, .unset] [])) := entry rfl
  have hA0 := hA.1.mv X0.warmed.alike hh0
  have hB0 := hB.mv X0.warmed.alike hh0
  have a31 := hA.1.2.2.2
  have c2 : Steps p.tables e below (s₁.setTop (entryFrame m #[.ref b, .int (Int32.ofNat o), .ref d, .int (Int32.ofNat q), .int (Int32.ofNat len)] 7)) (s₁.setTop (mkF m 3 #[.val (.ref b), .val (.int (Int32.ofNat o)), .val (.ref d), .val (.int (Int32.ofNat q)), .val (.int (Int32.ofNat len)), .val (.int 0), .unset] [])) := c1.trans (by
    refine iconstV X0.here hexec rfl 0 (hb hbytes d0) (by decide) ?_
    refine XS.istore X0.here hexec rfl (hb hbytes d1) rfl rfl ?_
    exact Steps.refl _)
  have loop : ∀ (r i : Nat), i + r = len → ∀ (z : Slot), (z = .unset ∨ ∃ w, z = .val w ∧ w.category = 1) → ∀ (Tl : State) (Bk : Cell), Stand p l e { frames := 0, locals := 0, cells := 0, slots := 0 } s m #[.ref b, .int (Int32.ofNat o), .ref d, .int (Int32.ofNat q), .int (Int32.ofNat len)] below meth c Tl ([] ++ copyLocs d q i) 0 0 → Put d Bk s₁ Tl → Laid B Bk q (q + i) (fun j => Value.int (lo8 (cv A (o + (j - q))))) →
      Steps p.tables e below (s₁.setTop (entryFrame m #[.ref b, .int (Int32.ofNat o), .ref d, .int (Int32.ofNat q), .int (Int32.ofNat len)] 7)) (Tl.setTop (mkF m 3 #[.val (.ref b), .val (.int (Int32.ofNat (o + i))), .val (.ref d), .val (.int (Int32.ofNat (q + i))), .val (.int (Int32.ofNat len)), .val (.int (Int32.ofNat i)), z] [])) → ∃ (T' : State) (B' : Cell) (z' : Slot), Stand p l e { frames := 0, locals := 0, cells := 0, slots := 0 } s m #[.ref b, .int (Int32.ofNat o), .ref d, .int (Int32.ofNat q), .int (Int32.ofNat len)] below meth c T' ([] ++ copyLocs d q len) 0 0 ∧ Put d B' s₁ T' ∧ Laid B B' q (q + len) (fun j => Value.int (lo8 (cv A (o + (j - q))))) ∧
      Steps p.tables e below (s₁.setTop (entryFrame m #[.ref b, .int (Int32.ofNat o), .ref d, .int (Int32.ofNat q), .int (Int32.ofNat len)] 7)) (T'.setTop (mkF m 3 #[.val (.ref b), .val (.int (Int32.ofNat (o + len))), .val (.ref d), .val (.int (Int32.ofNat (q + len))), .val (.int (Int32.ofNat len)), .val (.int (Int32.ofNat len)), z'] [])) := by
    intro r
    induction r with
    | zero =>
      intro i hi z hz Tl Bk Xl pl fl cl
      have hil : i = len := by omega
      rw [hil] at Xl fl cl
      exact ⟨Tl, Bk, z, Xl, pl, fl, cl⟩
    | succ r ih =>
      intro i hi z hz Tl Bk Xl pl fl cl
      have all := X0.warmed.alike.symm.trans Xl.warmed.alike
      have hAl := hA0.keep all (pl.other hne hA0.1)
      have hBk := hB0.like all pl.1 fl.1 fl.2.1 fl.2.2.1
      have hlt : q + i < Bk.slots.size := by rw [fl.2.2.1]; omega
      have c3 : Steps p.tables e below (s₁.setTop (entryFrame m #[.ref b, .int (Int32.ofNat o), .ref d, .int (Int32.ofNat q), .int (Int32.ofNat len)] 7)) (Tl.setTop (mkF m 12 #[.val (.ref b), .val (.int (Int32.ofNat (o + i))), .val (.ref d), .val (.int (Int32.ofNat (q + i))), .val (.int (Int32.ofNat len)), .val (.int (Int32.ofNat i)), z] [.int (Int32.ofNat (o + i)), .ref b])) := cl.trans (by
        refine XS.iload Xl.here hexec rfl (hb hbytes d3) rfl ?_
        refine XS.iload Xl.here hexec rfl (hb hbytes d5) rfl ?_
        refine XS.icmpNo Xl.here hexec rfl (hb hbytes d7) rfl (ii_ge_f (lt32 (by omega) (by omega))) ?_
        refine XS.aloadN Xl.here hexec rfl (hb hbytes d10) rfl rfl ?_
        refine XS.iloadN Xl.here hexec rfl (hb hbytes d11) rfl ?_
        exact Steps.refl _)
      have c4 : Steps p.tables e below (s₁.setTop (entryFrame m #[.ref b, .int (Int32.ofNat o), .ref d, .int (Int32.ofNat q), .int (Int32.ofNat len)] 7)) (Tl.setTop (mkF m 13 #[.val (.ref b), .val (.int (Int32.ofNat (o + i))), .val (.ref d), .val (.int (Int32.ofNat (q + i))), .val (.int (Int32.ofNat len)), .val (.int (Int32.ofNat i)), z] [.int (cv A (o + i))])) := c3.trans (by
        refine Xl.aget hexec hAl rfl (hA.get (i := o + i) (by omega)) rfl rfl (hb hbytes d12) ?_
        exact Steps.refl _)
      have c5 : Steps p.tables e below (s₁.setTop (entryFrame m #[.ref b, .int (Int32.ofNat o), .ref d, .int (Int32.ofNat q), .int (Int32.ofNat len)] 7)) (Tl.setTop (mkF m 15 #[.val (.ref b), .val (.int (Int32.ofNat (o + i))), .val (.ref d), .val (.int (Int32.ofNat (q + i))), .val (.int (Int32.ofNat len)), .val (.int (Int32.ofNat i)), .val (.int (cv A (o + i)))] [])) := c4.trans (by
        refine XS.istoreS Xl.here hexec rfl (hb hbytes d13) rfl rfl hz ?_
        exact Steps.refl _)
      have c6 : Steps p.tables e below (s₁.setTop (entryFrame m #[.ref b, .int (Int32.ofNat o), .ref d, .int (Int32.ofNat q), .int (Int32.ofNat len)] 7)) (Tl.setTop (mkF m 31 #[.val (.ref b), .val (.int (Int32.ofNat (o + i))), .val (.ref d), .val (.int (Int32.ofNat (q + i))), .val (.int (Int32.ofNat len)), .val (.int (Int32.ofNat i)), .val (.int (cv A (o + i)))] [.int (lo8 (cv A (o + i))), .int (Int32.ofNat (q + i)), .ref d])) := c5.trans (by
        refine XS.iload Xl.here hexec rfl (hb hbytes d15) rfl ?_
        refine sipushV Xl.here hexec rfl 255 (hb hbytes d17) (by decide) ?_
        refine XS.icmpYes Xl.here hexec rfl (pc0 := 20) rfl (hb hbytes d20) rfl (ii_le_t (hp i (by omega))) (by decide) rfl ?_
        refine XS.aloadN Xl.here hexec rfl (hb hbytes d26) rfl rfl ?_
        refine XS.iloadN Xl.here hexec rfl (hb hbytes d27) rfl ?_
        refine XS.iload Xl.here hexec rfl (hb hbytes d28) rfl ?_
        refine i2b Xl.here hexec rfl (hb hbytes d30) rfl ?_
        exact Steps.refl _)
      obtain ⟨T7, X7, p7, st7⟩ := Xl.aput hexec hBk rfl hlt rfl (fits_lo8 (cv A (o + i))) (g := (mkF m 31 #[.val (.ref b), .val (.int (Int32.ofNat (o + i))), .val (.ref d), .val (.int (Int32.ofNat (q + i))), .val (.int (Int32.ofNat len)), .val (.int (Int32.ofNat i)), .val (.int (cv A (o + i)))] [.int (lo8 (cv A (o + i))), .int (Int32.ofNat (q + i)), .ref d])) rfl (rest := []) rfl (hb hbytes d31)
      have c8 : Steps p.tables e below (s₁.setTop (entryFrame m #[.ref b, .int (Int32.ofNat o), .ref d, .int (Int32.ofNat q), .int (Int32.ofNat len)] 7)) (T7.setTop (mkF m 32 #[.val (.ref b), .val (.int (Int32.ofNat (o + i))), .val (.ref d), .val (.int (Int32.ofNat (q + i))), .val (.int (Int32.ofNat len)), .val (.int (Int32.ofNat i)), .val (.int (cv A (o + i)))] [])) := c6.trans (st7 _ (Steps.refl _))
      have c9 : Steps p.tables e below (s₁.setTop (entryFrame m #[.ref b, .int (Int32.ofNat o), .ref d, .int (Int32.ofNat q), .int (Int32.ofNat len)] 7)) (T7.setTop (mkF m 3 #[.val (.ref b), .val (.int (Int32.ofNat (o + i) + 1)), .val (.ref d), .val (.int (Int32.ofNat (q + i) + 1)), .val (.int (Int32.ofNat len)), .val (.int (Int32.ofNat i + 1)), .val (.int (cv A (o + i)))] [])) := c8.trans (by
        refine iincV X7.here hexec rfl 1 (hb hbytes d32) (by decide) rfl rfl ?_
        refine iincV X7.here hexec rfl 1 (hb hbytes d35) (by decide) rfl rfl ?_
        refine iincV X7.here hexec rfl 1 (hb hbytes d38) (by decide) rfl rfl ?_
        refine XS.goto X7.here hexec rfl (pc0 := 41) rfl (hb hbytes d41) (by decide) rfl ?_
        exact Steps.refl _)
      have c10 : Steps p.tables e below (s₁.setTop (entryFrame m #[.ref b, .int (Int32.ofNat o), .ref d, .int (Int32.ofNat q), .int (Int32.ofNat len)] 7)) (T7.setTop (mkF m 3 #[.val (.ref b), .val (.int (Int32.ofNat (o + (i + 1)))), .val (.ref d), .val (.int (Int32.ofNat (q + (i + 1)))), .val (.int (Int32.ofNat len)), .val (.int (Int32.ofNat (i + 1))), .val (.int (cv A (o + i)))] [])) := by
        have := c9
        rw [succ32, succ32, succ32] at this
        exact this
      exact ih (i + 1) (by omega) _ (Or.inr ⟨_, rfl, rfl⟩) T7 _ (by rw [copyLocs_step, ← List.append_assoc]; exact X7) (pl.trans p7) (fl.step (by omega) hlt (by simp)) c10
  obtain ⟨T9, B9, z9, X9, p9, f9, g9⟩ := loop len 0 (by omega) .unset (Or.inl rfl) s₁ B (by simpa [copyLocs] using X0) ⟨hB0.1, fun _ _ => rfl, rfl⟩ (Laid.zero _ _ _) c2
  have c11 : Steps p.tables e below (s₁.setTop (entryFrame m #[.ref b, .int (Int32.ofNat o), .ref d, .int (Int32.ofNat q), .int (Int32.ofNat len)] 7)) (T9.setTop (mkF m 46 #[.val (.ref b), .val (.int (Int32.ofNat (o + len))), .val (.ref d), .val (.int (Int32.ofNat (q + len))), .val (.int (Int32.ofNat len)), .val (.int (Int32.ofNat len)), z9] [.int (Int32.ofNat len)])) := g9.trans (by
    refine XS.iload X9.here hexec rfl (hb hbytes d3) rfl ?_
    refine XS.iload X9.here hexec rfl (hb hbytes d5) rfl ?_
    refine XS.icmpYes X9.here hexec rfl (pc0 := 7) rfl (hb hbytes d7) rfl (ii_ge_t (nlt32 (by omega) (Nat.le_refl _))) (by decide) rfl ?_
    refine XS.iload X9.here hexec rfl (hb hbytes d44) rfl ?_
    exact Steps.refl _)
  exact ⟨T9, some (.int (Int32.ofNat len)), _, _, _, X9, by simp, rfl, rfl, (fun h => by cases h), ⟨rfl, B9, p9.from hh0, f9⟩, fun fs hl => c11.trans (X9.ireturnOut hexec hret rfl (Or.inl rfl) (hb hbytes d46) hl)⟩
end Cmp5
namespace Cmp3
def yN : MethodName := ⟨"java/lang/StringUTF16", "compress", "([CII)[B"⟩
abbrev yB : ByteArray := jdk_52_method_16_code
theorem d0 : decode yB 0 = .ok (.iload_n 2, 1) := by decide +kernel
theorem d1 : decode yB 1 = .ok (.newarray .byte, 2) := by decide +kernel
theorem d3 : decode yB 3 = .ok (.astore_n 3, 1) := by decide +kernel
theorem d4 : decode yB 4 = .ok (.aload_n 0, 1) := by decide +kernel
theorem d5 : decode yB 5 = .ok (.iload_n 1, 1) := by decide +kernel
theorem d6 : decode yB 6 = .ok (.aload_n 3, 1) := by decide +kernel
theorem d7 : decode yB 7 = .ok (.iconst 0, 1) := by decide +kernel
theorem d8 : decode yB 8 = .ok (.iload_n 2, 1) := by decide +kernel
theorem d9 : decode yB 9 = .ok (.invokestatic 115, 3) := by decide +kernel
theorem d12 : decode yB 12 = .ok (.istore 4, 2) := by decide +kernel
theorem d14 : decode yB 14 = .ok (.iload 4, 2) := by decide +kernel
theorem d16 : decode yB 16 = .ok (.iload_n 2, 1) := by decide +kernel
theorem d17 : decode yB 17 = .ok (.if_icmp (.eq) 40, 3) := by decide +kernel
theorem d57 : decode yB 57 = .ok (.aload_n 3, 1) := by decide +kernel
theorem d58 : decode yB 58 = .ok (.areturn, 1) := by decide +kernel
def site : List Cond := [.arrayClass .byte, Cmp5.tab] ++ staticW U16 115 Cmp5.yN
def tab : Cond := tabOf yN yB 6 (some (.array .byte)) site
def P (b : Addr) (A : Cell) (o len : Nat) (args : Array Value) (s : State) : Prop := args = #[.ref b, .int (Int32.ofNat o), .int (Int32.ofNat len)] ∧ Ch b A s ∧ o + len ≤ A.slots.size ∧ len ≤ 536870912 ∧ ∀ i, i < len → ¬ 255 < cv A (o + i)
def E (b : Addr) (A : Cell) (o len : Nat) (r : Option Value) (s u : State) : Prop := NewArr .byte "[B" len (fun j => .int (lo8 (cv A (o + j)))) r s u ∧ u.heap.size = s.heap.size + 1
/-- no char of the range above 255: a new byte[] of their low bytes -/
theorem law (l : Launch) (b : Addr) (A : Cell) (o len : Nat) : Law l yN 3 3 1 18 yB 6 (some (.array .byte)) site (P b A o len) (E b A o len) [] 1 len := by
  refine Law.of_walk (plainFor_of_name (by decide +kernel)) (by decide +kernel) (by decide +kernel) (by decide) (fun _ _ h => by rw [h.1]; rfl) (fun _ U U' hal hh h => ⟨h.1, h.2.1.mv hal hh, h.2.2⟩) (fun r U U' V V' h1 hal h2 h => ⟨NewArr.mv r U U' V V' h1 hal h2 h.1, by rw [h1, h2]; exact h.2⟩) ?_
  intro p e s m args below meth c s₁ X0 hexec hbytes hml hret hlk hnm hown hh0 W hP
  obtain ⟨rfl, hA, l1, l2, hp⟩ := hP
  have a31 := hA.1.2.2.2
  have c1 : Steps p.tables e below (s₁.setTop (entryFrame m #[.ref b, .int (Int32.ofNat o), .int (Int32.ofNat len)] 6)) (s₁.setTop (mkF m 0 #[.val (.ref b), .val (.int (Int32.ofNat o)), .val (.int (Int32.ofNat len)), .unset, .unset, .unset] [])) := entry rfl
  have c2 : Steps p.tables e below (s₁.setTop (entryFrame m #[.ref b, .int (Int32.ofNat o), .int (Int32.ofNat len)] 6)) (s₁.setTop (mkF m 1 #[.val (.ref b), .val (.int (Int32.ofNat o)), .val (.int (Int32.ofNat len)), .unset, .unset, .unset] [.int (Int32.ofNat len)])) := c1.trans (by
    refine XS.iloadN X0.here hexec rfl (hb hbytes d0) rfl ?_
    exact Steps.refl _)
  obtain ⟨T3, B3, X3, ba3, bs3, bv3, bh3, bf3, st3⟩ := X0.anew hexec (atype := .byte) (wk W (.arrayClass .byte)) rfl (by show len * 1 ≤ _; omega) (by omega) (g := (mkF m 1 #[.val (.ref b), .val (.int (Int32.ofNat o)), .val (.int (Int32.ofNat len)), .unset, .unset, .unset] [.int (Int32.ofNat len)])) rfl (hb hbytes d1) (rest := []) rfl (Nat.le_refl _) (by show 0 + len ≤ len; omega)
  rw [hh0] at ba3 st3
  have kp3 : XT.Kept s T3 := (XT.Kept.of_eq hh0).push bh3
  have hA3 := hA.keep X3.warmed.alike (kp3 _ _ hA.1.1)
  have hne : b ≠ s.heap.size := hA.1.ne
  have c4 : Steps p.tables e below (s₁.setTop (entryFrame m #[.ref b, .int (Int32.ofNat o), .int (Int32.ofNat len)] 6)) (T3.setTop (mkF m 3 #[.val (.ref b), .val (.int (Int32.ofNat o)), .val (.int (Int32.ofNat len)), .unset, .unset, .unset] [.ref s.heap.size])) := c2.trans (st3 _ (Steps.refl _))
  have c5 : Steps p.tables e below (s₁.setTop (entryFrame m #[.ref b, .int (Int32.ofNat o), .int (Int32.ofNat len)] 6)) (T3.setTop (mkF m 9 #[.val (.ref b), .val (.int (Int32.ofNat o)), .val (.int (Int32.ofNat len)), .val (.ref s.heap.size), .unset, .unset] [.int (Int32.ofNat len), .int 0, .ref s.heap.size, .int (Int32.ofNat o), .ref b])) := c4.trans (by
    refine XS.astoreN X3.here hexec rfl (hb hbytes d3) rfl rfl rfl ?_
    refine XS.aloadN X3.here hexec rfl (hb hbytes d4) rfl rfl ?_
    refine XS.iloadN X3.here hexec rfl (hb hbytes d5) rfl ?_
    refine XS.aloadN X3.here hexec rfl (hb hbytes d6) rfl rfl ?_
    refine iconstV X3.here hexec rfl 0 (hb hbytes d7) (by decide) ?_
    refine XS.iloadN X3.here hexec rfl (hb hbytes d8) rfl ?_
    exact Steps.refl _)
  obtain ⟨v6, T6, X6, E6, g6⟩ := X3.callS hexec (Cmp5.law l b A s.heap.size B3 o 0 len) hown (wks W (staticW U16 115 Cmp5.yN)) (wk W Cmp5.tab) (W := 0) (Nat.le_of_ble_eq_true rfl) (Nat.le_of_ble_eq_true rfl) (Nat.le_refl _) (by show 0 + len + 0 ≤ len; omega) (g := (mkF m 9 #[.val (.ref b), .val (.int (Int32.ofNat o)), .val (.int (Int32.ofNat len)), .val (.ref s.heap.size), .unset, .unset] [.int (Int32.ofNat len), .int (Int32.ofNat 0), .ref s.heap.size, .int (Int32.ofNat o), .ref b])) rfl (by rw [hml]; rfl) c5 (argsL := [.ref b, .int (Int32.ofNat o), .ref s.heap.size, .int (Int32.ofNat 0), .int (Int32.ofNat len)]) (rest := []) rfl rfl (by show 2 * 0 + 0 ≤ _; decide) (hb hbytes d9) (⟨rfl, hA3, ba3, hne, l1, by rw [bs3]; simp, hp⟩)
  obtain ⟨rfl, B6, p6, f6⟩ := E6
  have c7 : Steps p.tables e below (s₁.setTop (entryFrame m #[.ref b, .int (Int32.ofNat o), .int (Int32.ofNat len)] 6)) (T6.setTop (mkF m 12 #[.val (.ref b), .val (.int (Int32.ofNat o)), .val (.int (Int32.ofNat len)), .val (.ref s.heap.size), .unset, .unset] [.int (Int32.ofNat len)])) := g6
  have c8 : Steps p.tables e below (s₁.setTop (entryFrame m #[.ref b, .int (Int32.ofNat o), .int (Int32.ofNat len)] 6)) (T6.setTop (mkF m 58 #[.val (.ref b), .val (.int (Int32.ofNat o)), .val (.int (Int32.ofNat len)), .val (.ref s.heap.size), .val (.int (Int32.ofNat len)), .unset] [.ref s.heap.size])) := c7.trans (by
    refine XS.istore X6.here hexec rfl (hb hbytes d12) rfl rfl ?_
    refine XS.iload X6.here hexec rfl (hb hbytes d14) rfl ?_
    refine XS.iloadN X6.here hexec rfl (hb hbytes d16) rfl ?_
    refine XS.icmpYes X6.here hexec rfl (pc0 := 17) rfl (hb hbytes d17) rfl (ii_eq_t rfl) (by decide) rfl ?_
    refine XS.aloadN X6.here hexec rfl (hb hbytes d57) rfl rfl ?_
    exact Steps.refl _)
  have X8 := X6.wide (L' := []) (cells' := 1) (slots' := len) (fun x hx hlt => by
    simp only [List.nil_append, copyLocs, List.mem_map, List.mem_range] at hx
    obtain ⟨i, -, rfl⟩ := hx
    exact absurd hlt (Nat.lt_irrefl _)) (Nat.le_refl _) (by omega)
  exact ⟨T6, some (.ref s.heap.size), _, _, _, X8, rfl, rfl, rfl, (fun h => by cases h), ⟨⟨rfl, B6, ba3.like (X3.warmed.alike.symm.trans X6.warmed.alike) p6.1 f6.1 f6.2.1 f6.2.2.1, f6.2.1.trans bv3, by rw [X6.warmed.alike.findClass, f6.1]; exact bf3, by rw [f6.2.2.1, bs3]; simp, fun j hj => by rw [f6.2.2.2 j, if_pos (by omega)]; rfl, kp3.put p6 (Nat.le_refl _)⟩, by rw [p6.2.2, bh3, hh0]; simp⟩, fun fs hl => c8.trans (X8.areturnOut hexec rfl hret rfl (hb hbytes d58) hl)⟩
end Cmp3
namespace CodL
def yN : MethodName := ⟨"java/lang/StringUTF16", "coderFromArrayLen", "([BI)B"⟩
abbrev yB : ByteArray := jdk_52_method_15_code
theorem d0 : decode yB 0 = .ok (.iload_n 1, 1) := by decide +kernel
theorem d1 : decode yB 1 = .ok (.aload_n 0, 1) := by decide +kernel
theorem d2 : decode yB 2 = .ok (.arraylength, 1) := by decide +kernel
theorem d3 : decode yB 3 = .ok (.isub, 1) := by decide +kernel
theorem d4 : decode yB 4 = .ok (.bipush 31, 2) := by decide +kernel
theorem d6 : decode yB 6 = .ok (.iushr, 1) := by decide +kernel
theorem d7 : decode yB 7 = .ok (.i2b, 1) := by decide +kernel
theorem d8 : decode yB 8 = .ok (.ireturn, 1) := by decide +kernel
def site : List Cond := []
def tab : Cond := tabOf yN yB 2 (some .byte) site
def P (d : Addr) (B : Cell) (args : Array Value) (s : State) : Prop := args = #[.ref d, .int (Int32.ofNat B.slots.size)] ∧ Arr .byte d B s
def E (r : Option Value) (s u : State) : Prop := XT.PureE (some (.int 0)) r s u
/-- an array as long as the number of chars: LATIN1 -/
theorem law (l : Launch) (d : Addr) (B : Cell) : Law l yN 2 2 0 0 yB 2 (some .byte) site (P d B) E [] 0 0 := by
  refine Law.of_walk (plainFor_of_name (by decide +kernel)) (by decide +kernel) (by decide +kernel) (by decide) (fun _ _ h => by rw [h.1]; rfl) (fun _ U U' hal hh h => ⟨h.1, h.2.mv hal hh⟩) (fun r U U' V V' h1 hal h2 h => XT.PureE.mv r U U' V V' h1 hal h2 h) ?_
  intro p e s m args below meth c s₁ X0 hexec hbytes hml hret hlk hnm hown hh0 W hP
  obtain ⟨rfl, hB⟩ := hP
  have hB0 := hB.mv X0.warmed.alike hh0
  have c1 : Steps p.tables e below (s₁.setTop (entryFrame m #[.ref d, .int (Int32.ofNat B.slots.size)] 2)) (s₁.setTop (mkF m 0 #[.val (.ref d), .val (.int (Int32.ofNat B.slots.size))] [])) := entry rfl
  have c2 : Steps p.tables e below (s₁.setTop (entryFrame m #[.ref d, .int (Int32.ofNat B.slots.size)] 2)) (s₁.setTop (mkF m 2 #[.val (.ref d), .val (.int (Int32.ofNat B.slots.size))] [.ref d, .int (Int32.ofNat B.slots.size)])) := c1.trans (by
    refine XS.iloadN X0.here hexec rfl (hb hbytes d0) rfl ?_
    refine XS.aloadN X0.here hexec rfl (hb hbytes d1) rfl rfl ?_
    exact Steps.refl _)
  have c3 : Steps p.tables e below (s₁.setTop (entryFrame m #[.ref d, .int (Int32.ofNat B.slots.size)] 2)) (s₁.setTop (mkF m 8 #[.val (.ref d), .val (.int (Int32.ofNat B.slots.size))] [.int (lo8 (ushr (Int32.ofNat B.slots.size - Int32.ofNat B.slots.size) 31))])) := c2.trans (by
    refine X0.alen hexec hB0 rfl rfl (hb hbytes d2) ?_
    refine XS.isub X0.here hexec rfl (hb hbytes d3) rfl ?_
    refine bipushV X0.here hexec rfl 31 (hb hbytes d4) (by decide) ?_
    refine iushr X0.here hexec rfl (hb hbytes d6) rfl ?_
    refine i2b X0.here hexec rfl (hb hbytes d7) rfl ?_
    exact Steps.refl _)
  have e0 : lo8 (ushr (Int32.ofNat B.slots.size - Int32.ofNat B.slots.size) 31) = 0 := by rw [Int32.sub_self]; decide
  rw [e0] at c3
  exact ⟨s₁, some (.int 0), _, _, _, X0, rfl, rfl, rfl, (fun h => by cases h), ⟨rfl, hh0⟩, fun fs hl => c3.trans (X0.ireturnOut hexec hret rfl (Or.inr (Or.inr (Or.inl rfl))) (hb hbytes d8) hl)⟩
end CodL
/-- the String at a is Latin-1 over a new byte[] (the heap's one new cell): the low bytes of the len chars of A from o on; every cell but a is kept -/
def Got (a : Addr) (D : Cell) (fV fC : Field) (A : Cell) (o len : Nat) (r : Option Value) (s u : State) : Prop := r = none ∧ ∃ D' V : Cell, Blank "java/lang/String" a D' u ∧ Same D D' [fV.slot, fC.slot] ∧ D'.slots[fV.slot]? = some (.ref s.heap.size) ∧ D'.slots[fC.slot]? = some (.int 0) ∧ Arr .byte s.heap.size V u ∧ V.vm = .none ∧ u.vm.findClass "[B" = some V.cls ∧ V.slots.size = len ∧ (∀ j, j < len → V.slots[j]? = some (.int (lo8 (cv A (o + j))))) ∧ (∀ (y : Addr) (c : Cell), y ≠ a → s.heap[y]? = some c → u.heap[y]? = some c) ∧ u.heap.size = s.heap.size + 1
theorem Got.mv {a : Addr} {D A : Cell} {fV fC : Field} {o len : Nat} : ∀ r (U U' V V' : State), U'.heap = U.heap → V.vm.Alike V'.vm → V'.heap = V.heap → Got a D fV fC A o len r U V → Got a D fV fC A o len r U' V' :=
  fun r U U' V V' h1 hal h2 ⟨e0, D', X, a1, a2, a3, a4, a5, a6, a7, a8, a9, a10, a11⟩ => ⟨e0, D', X, a1.mv hal h2, a2, by rw [h1]; exact a3, a4, by rw [h1]; exact a5.mv hal h2, a6, by rw [hal.findClass]; exact a7, a8, a9, by rw [h1, h2]; exact a10, by rw [h1, h2]; exact a11⟩
namespace New4
def yN : MethodName := ⟨"java/lang/String", "<init>", "([CIILjava/lang/Void;)V"⟩
abbrev yB : ByteArray := jdk_42_method_149_code
theorem d0 : decode yB 0 = .ok (.aload_n 0, 1) := by decide +kernel
theorem d1 : decode yB 1 = .ok (.invokespecial 1, 3) := by decide +kernel
theorem d4 : decode yB 4 = .ok (.iload_n 3, 1) := by decide +kernel
theorem d5 : decode yB 5 = .ok (.ifCond (.ne) 22, 3) := by decide +kernel
theorem d27 : decode yB 27 = .ok (.getstatic 38, 3) := by decide +kernel
theorem d30 : decode yB 30 = .ok (.ifCond (.eq) 28, 3) := by decide +kernel
theorem d33 : decode yB 33 = .ok (.aload_n 1, 1) := by decide +kernel
theorem d34 : decode yB 34 = .ok (.iload_n 2, 1) := by decide +kernel
theorem d35 : decode yB 35 = .ok (.iload_n 3, 1) := by decide +kernel
theorem d36 : decode yB 36 = .ok (.invokestatic 177, 3) := by decide +kernel
theorem d39 : decode yB 39 = .ok (.astore 5, 2) := by decide +kernel
theorem d41 : decode yB 41 = .ok (.aload_n 0, 1) := by decide +kernel
theorem d42 : decode yB 42 = .ok (.aload 5, 2) := by decide +kernel
theorem d44 : decode yB 44 = .ok (.iload_n 3, 1) := by decide +kernel
theorem d45 : decode yB 45 = .ok (.invokestatic 47, 3) := by decide +kernel
theorem d48 : decode yB 48 = .ok (.putfield 15, 3) := by decide +kernel
theorem d51 : decode yB 51 = .ok (.aload_n 0, 1) := by decide +kernel
theorem d52 : decode yB 52 = .ok (.aload 5, 2) := by decide +kernel
theorem d54 : decode yB 54 = .ok (.putfield 9, 3) := by decide +kernel
theorem d57 : decode yB 57 = .ok (.return_, 1) := by decide +kernel
def site : List Cond := [.fieldLink "java/lang/String" 38 "java/lang/String" "COMPACT_STRINGS" "Z", Cmp3.tab, CodL.tab, .laysFinal "java/lang/String" "java/lang/String" "value" "[B", .fieldLink "java/lang/String" 9 "java/lang/String" "value" "[B", .laysFinal "java/lang/String" "java/lang/String" "coder" "B", .fieldLink "java/lang/String" 15 "java/lang/String" "coder" "B"] ++ objW "java/lang/String" 1 ++ staticW "java/lang/String" 177 Cmp3.yN ++ staticW "java/lang/String" 47 CodL.yN
def tab : Cond := tabOf yN yB 6 none site
def P (a : Addr) (D : Cell) (fV fC : Field) (b : Addr) (A : Cell) (z : Int32) (o len : Nat) (args : Array Value) (s : State) : Prop := args = #[.ref a, .ref b, .int (Int32.ofNat o), .int (Int32.ofNat len), .null] ∧ Blank "java/lang/String" a D s ∧ Found "java/lang/String" "value" "[B" fV s ∧ Found "java/lang/String" "coder" "B" fC s ∧ Ch b A s ∧ StaticIs s "java/lang/String" "COMPACT_STRINGS" "Z" (.int z) ∧ ¬ z = 0 ∧ 0 < len ∧ o + len ≤ A.slots.size ∧ len ≤ 536870912 ∧ ∀ i, i < len → ¬ 255 < cv A (o + i)
def E (a : Addr) (D : Cell) (fV fC : Field) (A : Cell) (o len : Nat) (r : Option Value) (s u : State) : Prop := Got a D fV fC A o len r s u
/-- len > 0, no char of the range above 255: a Latin-1 String of their low bytes -/
theorem law (l : Launch) (a : Addr) (D : Cell) (fV fC : Field) (b : Addr) (A : Cell) (z : Int32) (o len : Nat) : Law l yN 5 4 2 35 yB 6 none site (P a D fV fC b A z o len) (E a D fV fC A o len) [⟨a, fC.slot⟩, ⟨a, fV.slot⟩] 1 len := by
  refine Law.of_walk (plainFor_of_name (by decide +kernel)) (by decide +kernel) (by decide +kernel) (by decide) (fun _ _ h => by rw [h.1]; rfl) (fun _ U U' hal hh h => ⟨h.1, h.2.1.mv hal hh, h.2.2.1.al hal, h.2.2.2.1.al hal, h.2.2.2.2.1.mv hal hh, h.2.2.2.2.2.1.there hal hh, h.2.2.2.2.2.2⟩) (fun r U U' V V' h1 hal h2 h => Got.mv r U U' V V' h1 hal h2 h) ?_
  intro p e s m args below meth c s₁ X0 hexec hbytes hml hret hlk hnm hown hh0 W hP
  obtain ⟨rfl, hB, f1, f2, hA, s1, hz, l0, l1, l2, hp⟩ := hP
  have a31 := hA.1.2.2.2
  have c1 : Steps p.tables e below (s₁.setTop (entryFrame m #[.ref a, .ref b, .int (Int32.ofNat o), .int (Int32.ofNat len), .null] 6)) (s₁.setTop (mkF m 0 #[.val (.ref a), .val (.ref b), .val (.int (Int32.ofNat o)), .val (.int (Int32.ofNat len)), .val .null, .unset] [])) := entry rfl
  have c2 : Steps p.tables e below (s₁.setTop (entryFrame m #[.ref a, .ref b, .int (Int32.ofNat o), .int (Int32.ofNat len), .null] 6)) (s₁.setTop (mkF m 1 #[.val (.ref a), .val (.ref b), .val (.int (Int32.ofNat o)), .val (.int (Int32.ofNat len)), .val .null, .unset] [.ref a])) := c1.trans (by
    refine XS.aloadN X0.here hexec rfl (hb hbytes d0) rfl rfl ?_
    exact Steps.refl _)
  obtain ⟨T3, X3, q3, st3⟩ := X0.oinit hexec hown (wks W (objW "java/lang/String" 1)) (g := (mkF m 1 #[.val (.ref a), .val (.ref b), .val (.int (Int32.ofNat o)), .val (.int (Int32.ofNat len)), .val .null, .unset] [.ref a])) rfl (by rw [hml]; rfl) (rest := []) rfl (hb hbytes d1) (W := 0) (by show 2 * 0 + 0 ≤ _; decide) (Nat.le_of_ble_eq_true rfl) (Nat.le_of_ble_eq_true rfl)
  have hh3 := q3.trans hh0
  have c4 : Steps p.tables e below (s₁.setTop (entryFrame m #[.ref a, .ref b, .int (Int32.ofNat o), .int (Int32.ofNat len), .null] 6)) (T3.setTop (mkF m 27 #[.val (.ref a), .val (.ref b), .val (.int (Int32.ofNat o)), .val (.int (Int32.ofNat len)), .val .null, .unset] [])) := (c2.trans (st3 _ (Steps.refl _))).trans (by
    refine XS.iloadN X3.here hexec rfl (hb hbytes d4) rfl ?_
    refine XS.ifYes X3.here hexec rfl (pc0 := 5) rfl (hb hbytes d5) rfl (i0_ne_t (nz32 (by omega) l0)) (by decide) rfl ?_
    exact Steps.refl _)
  obtain ⟨T5, X5, q5, st5⟩ := X3.sget hexec hown (wk W (.fieldLink "java/lang/String" 38 "java/lang/String" "COMPACT_STRINGS" "Z")) s1 (fun _ _ h => by rw [hh3]; exact h) (g := (mkF m 27 #[.val (.ref a), .val (.ref b), .val (.int (Int32.ofNat o)), .val (.int (Int32.ofNat len)), .val .null, .unset] [])) rfl (hb hbytes d27)
  have hh5 := q5.trans hh3
  have c6 : Steps p.tables e below (s₁.setTop (entryFrame m #[.ref a, .ref b, .int (Int32.ofNat o), .int (Int32.ofNat len), .null] 6)) (T5.setTop (mkF m 30 #[.val (.ref a), .val (.ref b), .val (.int (Int32.ofNat o)), .val (.int (Int32.ofNat len)), .val .null, .unset] [.int z])) := c4.trans (st5 _ (Steps.refl _))
  have c7 : Steps p.tables e below (s₁.setTop (entryFrame m #[.ref a, .ref b, .int (Int32.ofNat o), .int (Int32.ofNat len), .null] 6)) (T5.setTop (mkF m 36 #[.val (.ref a), .val (.ref b), .val (.int (Int32.ofNat o)), .val (.int (Int32.ofNat len)), .val .null, .unset] [.int (Int32.ofNat len), .int (Int32.ofNat o), .ref b])) := c6.trans (by
    refine XS.ifNo X5.here hexec rfl (hb hbytes d30) rfl (i0_eq_f hz) ?_
    refine XS.aloadN X5.here hexec rfl (hb hbytes d33) rfl rfl ?_
    refine XS.iloadN X5.here hexec rfl (hb hbytes d34) rfl ?_
    refine XS.iloadN X5.here hexec rfl (hb hbytes d35) rfl ?_
    exact Steps.refl _)
  obtain ⟨v8, T8, X8, E8, g8⟩ := X5.callS hexec (Cmp3.law l b A o len) hown (wks W (staticW "java/lang/String" 177 Cmp3.yN)) (wk W Cmp3.tab) (W := 0) (Nat.le_of_ble_eq_true rfl) (Nat.le_of_ble_eq_true rfl) (Nat.le_refl _) (by show 0 + len ≤ len; omega) (g := (mkF m 36 #[.val (.ref a), .val (.ref b), .val (.int (Int32.ofNat o)), .val (.int (Int32.ofNat len)), .val .null, .unset] [.int (Int32.ofNat len), .int (Int32.ofNat o), .ref b])) rfl (by rw [hml]; rfl) c7 (argsL := [.ref b, .int (Int32.ofNat o), .int (Int32.ofNat len)]) (rest := []) rfl rfl (by show 2 * 0 + 0 ≤ _; decide) (hb hbytes d36) (⟨rfl, hA.mv X5.warmed.alike hh5, l1, l2, hp⟩)
  obtain ⟨e8, z8⟩ := E8
  obtain ⟨rfl, N, n1, n2, n3, n4, n5, n6⟩ := NewArr.mv _ T5 s _ _ hh5.symm (Vm.Alike.refl _) rfl e8
  rw [hh5] at z8
  have hB1 := hB.keep X8.warmed.alike (n6 _ _ hB.1)
  have hne : s.heap.size ≠ a := (Nat.ne_of_lt (Array.getElem?_eq_some_iff.mp hB.1).1).symm
  have c9 : Steps p.tables e below (s₁.setTop (entryFrame m #[.ref a, .ref b, .int (Int32.ofNat o), .int (Int32.ofNat len), .null] 6)) (T8.setTop (mkF m 39 #[.val (.ref a), .val (.ref b), .val (.int (Int32.ofNat o)), .val (.int (Int32.ofNat len)), .val .null, .unset] [.ref s.heap.size])) := g8
  have c10 : Steps p.tables e below (s₁.setTop (entryFrame m #[.ref a, .ref b, .int (Int32.ofNat o), .int (Int32.ofNat len), .null] 6)) (T8.setTop (mkF m 45 #[.val (.ref a), .val (.ref b), .val (.int (Int32.ofNat o)), .val (.int (Int32.ofNat len)), .val .null, .val (.ref s.heap.size)] [.int (Int32.ofNat N.slots.size), .ref s.heap.size, .ref a])) := by
    have hc : Steps p.tables e below (s₁.setTop (entryFrame m #[.ref a, .ref b, .int (Int32.ofNat o), .int (Int32.ofNat len), .null] 6)) (T8.setTop (mkF m 45 #[.val (.ref a), .val (.ref b), .val (.int (Int32.ofNat o)), .val (.int (Int32.ofNat len)), .val .null, .val (.ref s.heap.size)] [.int (Int32.ofNat len), .ref s.heap.size, .ref a])) := c9.trans (by
      refine XS.astore X8.here hexec rfl (hb hbytes d39) rfl rfl rfl ?_
      refine XS.aloadN X8.here hexec rfl (hb hbytes d41) rfl rfl ?_
      refine XS.aload X8.here hexec rfl (hb hbytes d42) rfl rfl ?_
      refine XS.iloadN X8.here hexec rfl (hb hbytes d44) rfl ?_
      exact Steps.refl _)
    rw [n4]; exact hc
  obtain ⟨v11, T11, X11, E11, g11⟩ := X8.callS hexec (CodL.law l s.heap.size N) hown (wks W (staticW "java/lang/String" 47 CodL.yN)) (wk W CodL.tab) (W := 1) (Nat.le_of_ble_eq_true rfl) (Nat.le_of_ble_eq_true rfl) (Nat.le_refl _) (by show 0 + len + 0 ≤ len; omega) (g := (mkF m 45 #[.val (.ref a), .val (.ref b), .val (.int (Int32.ofNat o)), .val (.int (Int32.ofNat len)), .val .null, .val (.ref s.heap.size)] [.int (Int32.ofNat N.slots.size), .ref s.heap.size, .ref a])) rfl (by rw [hml]; rfl) c10 (argsL := [.ref s.heap.size, .int (Int32.ofNat N.slots.size)]) (rest := [.ref a]) rfl rfl (by show 2 * 0 + (1 + 0) ≤ _; decide) (hb hbytes d45) (⟨rfl, n1⟩)
  obtain ⟨rfl, q11⟩ := E11
  have hB11 := hB1.mv (X8.warmed.alike.symm.trans X11.warmed.alike) q11
  have c12 : Steps p.tables e below (s₁.setTop (entryFrame m #[.ref a, .ref b, .int (Int32.ofNat o), .int (Int32.ofNat len), .null] 6)) (T11.setTop (mkF m 48 #[.val (.ref a), .val (.ref b), .val (.int (Int32.ofNat o)), .val (.int (Int32.ofNat len)), .val .null, .val (.ref s.heap.size)] [.int 0, .ref a])) := g11
  obtain ⟨T13, X13, p13, bl13, sl13, st13⟩ := X11.finit hexec hown (wk W (.fieldLink "java/lang/String" 15 "java/lang/String" "coder" "B")) (Or.inr ⟨_, (wk W (.laysFinal "java/lang/String" "java/lang/String" "coder" "B"))⟩) (Or.inl ⟨rfl, hnm⟩) f2 (Or.inl rfl) hB11 (t := .byte) (by decide +kernel) rfl (g := (mkF m 48 #[.val (.ref a), .val (.ref b), .val (.int (Int32.ofNat o)), .val (.int (Int32.ofNat len)), .val .null, .val (.ref s.heap.size)] [.int 0, .ref a])) rfl (rest := []) rfl (hb hbytes d48)
  have c14 : Steps p.tables e below (s₁.setTop (entryFrame m #[.ref a, .ref b, .int (Int32.ofNat o), .int (Int32.ofNat len), .null] 6)) (T13.setTop (mkF m 54 #[.val (.ref a), .val (.ref b), .val (.int (Int32.ofNat o)), .val (.int (Int32.ofNat len)), .val .null, .val (.ref s.heap.size)] [.ref s.heap.size, .ref a])) := (c12.trans (st13 _ (Steps.refl _))).trans (by
    refine XS.aloadN X13.here hexec rfl (hb hbytes d51) rfl rfl ?_
    refine XS.aload X13.here hexec rfl (hb hbytes d52) rfl rfl ?_
    exact Steps.refl _)
  obtain ⟨T15, X15, p15, bl15, sl15, st15⟩ := X13.finit hexec hown (wk W (.fieldLink "java/lang/String" 9 "java/lang/String" "value" "[B")) (Or.inr ⟨_, (wk W (.laysFinal "java/lang/String" "java/lang/String" "value" "[B"))⟩) (Or.inl ⟨rfl, hnm⟩) f1 (Or.inl rfl) bl13 (t := (.array .byte)) (by decide +kernel) rfl (g := (mkF m 54 #[.val (.ref a), .val (.ref b), .val (.int (Int32.ofNat o)), .val (.int (Int32.ofNat len)), .val .null, .val (.ref s.heap.size)] [.ref s.heap.size, .ref a])) rfl (rest := []) rfl (hb hbytes d54)
  have c16 : Steps p.tables e below (s₁.setTop (entryFrame m #[.ref a, .ref b, .int (Int32.ofNat o), .int (Int32.ofNat len), .null] 6)) (T15.setTop (mkF m 57 #[.val (.ref a), .val (.ref b), .val (.int (Int32.ofNat o)), .val (.int (Int32.ofNat len)), .val .null, .val (.ref s.heap.size)] [])) := c14.trans (st15 _ (Steps.refl _))
  have ap := apart (Or.inr ⟨_, (wk W (.laysFinal "java/lang/String" "java/lang/String" "value" "[B"))⟩) (Or.inr ⟨_, (wk W (.laysFinal "java/lang/String" "java/lang/String" "coder" "B"))⟩) f1 f2 (t₁ := .array .byte) (t₂ := .byte) (by decide +kernel) (by decide +kernel) (by decide)
  have al := X8.warmed.alike.symm.trans X15.warmed.alike
  have n7 : T11.heap[s.heap.size]? = some N := by rw [q11]; exact n1.1
  exact ⟨T15, none, _, _, _, X15, by simp, rfl, by omega, (fun _ => rfl), ⟨rfl, _, N, bl15, ((Same.refl D _).set _ (by simp)).set _ (by simp), sl15, (Cell.slots_setSlot_ne _ ap).trans sl13, n1.keep al (p15.other hne (p13.other hne n7)), n2, by rw [al.findClass]; exact n3, n4, n5, fun y c h1 h2 => p15.other h1 (p13.other h1 (by rw [q11]; exact n6 y c h2)), by rw [p15.2.2, p13.2.2, q11]; exact z8⟩, fun fs hl => c16.trans (X15.returnOut hexec hret (hb hbytes d57) hl)⟩
end New4
namespace New1
def yN : MethodName := ⟨"java/lang/String", "<init>", "([C)V"⟩
abbrev yB : ByteArray := jdk_42_method_3_code
theorem d0 : decode yB 0 = .ok (.aload_n 0, 1) := by decide +kernel
theorem d1 : decode yB 1 = .ok (.aload_n 1, 1) := by decide +kernel
theorem d2 : decode yB 2 = .ok (.iconst 0, 1) := by decide +kernel
theorem d3 : decode yB 3 = .ok (.aload_n 1, 1) := by decide +kernel
theorem d4 : decode yB 4 = .ok (.arraylength, 1) := by decide +kernel
theorem d5 : decode yB 5 = .ok (.aconst_null, 1) := by decide +kernel
theorem d6 : decode yB 6 = .ok (.invokespecial 27, 3) := by decide +kernel
theorem d9 : decode yB 9 = .ok (.return_, 1) := by decide +kernel
def site : List Cond := [New4.tab] ++ initW "java/lang/String" 27 New4.yN
def tab : Cond := tabOf yN yB 2 none site
def P (a : Addr) (D : Cell) (fV fC : Field) (b : Addr) (A : Cell) (z : Int32) (args : Array Value) (s : State) : Prop := args = #[.ref a, .ref b] ∧ Blank "java/lang/String" a D s ∧ Found "java/lang/String" "value" "[B" fV s ∧ Found "java/lang/String" "coder" "B" fC s ∧ Ch b A s ∧ StaticIs s "java/lang/String" "COMPACT_STRINGS" "Z" (.int z) ∧ ¬ z = 0 ∧ 0 < A.slots.size ∧ A.slots.size ≤ 536870912 ∧ ∀ i, i < A.slots.size → ¬ 255 < cv A i
def E (a : Addr) (D : Cell) (fV fC : Field) (A : Cell) (r : Option Value) (s u : State) : Prop := Got a D fV fC A 0 A.slots.size r s u
/-- new String(chars), not empty, no char above 255: a Latin-1 String of their low bytes -/
theorem law (l : Launch) (a : Addr) (D : Cell) (fV fC : Field) (b : Addr) (A : Cell) (z : Int32) : Law l yN 2 1 3 52 yB 2 none site (P a D fV fC b A z) (E a D fV fC A) [⟨a, fC.slot⟩, ⟨a, fV.slot⟩] 1 A.slots.size := by
  refine Law.of_walk (plainFor_of_name (by decide +kernel)) (by decide +kernel) (by decide +kernel) (by decide) (fun _ _ h => by rw [h.1]; rfl) (fun _ U U' hal hh h => ⟨h.1, h.2.1.mv hal hh, h.2.2.1.al hal, h.2.2.2.1.al hal, h.2.2.2.2.1.mv hal hh, h.2.2.2.2.2.1.there hal hh, h.2.2.2.2.2.2⟩) (fun r U U' V V' h1 hal h2 h => Got.mv r U U' V V' h1 hal h2 h) ?_
  intro p e s m args below meth c s₁ X0 hexec hbytes hml hret hlk hnm hown hh0 W hP
  obtain ⟨rfl, hB, f1, f2, hA, s1, hz, l0, l2, hp⟩ := hP
  have c1 : Steps p.tables e below (s₁.setTop (entryFrame m #[.ref a, .ref b] 2)) (s₁.setTop (mkF m 0 #[.val (.ref a), .val (.ref b)] [])) := entry rfl
  have c2 : Steps p.tables e below (s₁.setTop (entryFrame m #[.ref a, .ref b] 2)) (s₁.setTop (mkF m 6 #[.val (.ref a), .val (.ref b)] [.null, .int (Int32.ofNat A.slots.size), .int 0, .ref b, .ref a])) := c1.trans (by
    refine XS.aloadN X0.here hexec rfl (hb hbytes d0) rfl rfl ?_
    refine XS.aloadN X0.here hexec rfl (hb hbytes d1) rfl rfl ?_
    refine iconstV X0.here hexec rfl 0 (hb hbytes d2) (by decide) ?_
    refine XS.aloadN X0.here hexec rfl (hb hbytes d3) rfl rfl ?_
    refine X0.alen hexec (hA.1.mv X0.warmed.alike hh0) rfl rfl (hb hbytes d4) ?_
    refine XS.aconstNull X0.here hexec rfl (hb hbytes d5) ?_
    exact Steps.refl _)
  obtain ⟨v3, T3, X3, E3, g3⟩ := X0.callN hexec (New4.law l a D fV fC b A z 0 A.slots.size) rfl hown (wks W (initW "java/lang/String" 27 New4.yN)) (W New4.tab (by simp only [site, List.mem_cons, List.mem_append, true_or, or_true])) (W := 0) (Nat.le_of_ble_eq_true rfl) (Nat.le_of_ble_eq_true rfl) (Nat.le_refl _) (by show 0 + A.slots.size ≤ A.slots.size; omega) (g := (mkF m 6 #[.val (.ref a), .val (.ref b)] [.null, .int (Int32.ofNat A.slots.size), .int (Int32.ofNat 0), .ref b, .ref a])) rfl (by rw [hml]; rfl) c2 (argsL := [.ref b, .int (Int32.ofNat 0), .int (Int32.ofNat A.slots.size), .null]) (rest := []) rfl rfl (by show 2 * 0 + 0 ≤ _; decide) (hb hbytes d6) (⟨rfl, hB.mv X0.warmed.alike hh0, f1.al X0.warmed.alike, f2.al X0.warmed.alike, hA.mv X0.warmed.alike hh0, s1.there X0.warmed.alike hh0, hz, l0, by omega, l2, fun i hi => by rw [Nat.zero_add]; exact hp i hi⟩)
  have e0 := Got.mv _ s₁ s _ _ hh0.symm (Vm.Alike.refl _) rfl E3
  obtain rfl := e0.1
  have c4 : Steps p.tables e below (s₁.setTop (entryFrame m #[.ref a, .ref b] 2)) (T3.setTop (mkF m 9 #[.val (.ref a), .val (.ref b)] [])) := g3
  exact ⟨T3, none, _, _, _, X3, by simp, rfl, by omega, (fun _ => rfl), e0, fun fs hl => c4.trans (X3.returnOut hexec hret (hb hbytes d9) hl)⟩
theorem pays {l : Launch} {R : Room} {p : Program} {e : Env} {below : List Frame} {s : State} {sargs : Array Value} {len W : Nat} (a : Addr) (D : Cell) (fV fC : Field) (b : Addr) (A : Cell) (z : Int32) (htab : tab.before sargs s = true) (hfr : 4 ≤ R.frames) (hlo : W + 65 ≤ R.locals) :
    Back l R p e below s sargs yN len W (fun A₁ a₁ => A₁.cells + 1 ≤ R.cells ∧ A₁.slots + A.slots.size ≤ R.slots ∧ P a D fV fC b A z a₁ A₁.U) (fun A₁ _ v₁ B₁ => E a D fV fC A v₁ A₁.U B₁.U ∧ B₁.locs = A₁.locs ++ [⟨a, fC.slot⟩, ⟨a, fV.slot⟩] ∧ B₁.cells = A₁.cells + 1 ∧ B₁.slots = A₁.slots + A.slots.size) :=
  (law l a D fV fC b A z).pays htab hfr (by omega)
end New1
end StrChars
namespace StrChars.Road
open Jvm Sem ClassFile Op Lib Jvm.Stand Jvm.Free Jvm.Free.XT
open Jvm.Lib.Cold (StaticIs)
abbrev ST : String := "java/lang/String"
/-- every table word that New1's law asks, flat -/
abbrev words : List Jvm.Cond := [.code New1.yN New1.yB 2 none, .initialized ST, .methodLink ST 27 New4.yN, .instanceMethod New4.yN,
  .code New4.yN New4.yB 6 none, .fieldLink ST 38 ST "COMPACT_STRINGS" "Z", .laysFinal ST ST "value" "[B", .fieldLink ST 9 ST "value" "[B", .laysFinal ST ST "coder" "B", .fieldLink ST 15 ST "coder" "B",
  .methodLink ST 1 Lib.objectInit, .instanceMethod Lib.objectInit, .code Lib.objectInit ⟨#[0xb1]⟩ 1 none, .methodLink ST 177 Cmp3.yN, .static Cmp3.yN, .methodLink ST 47 CodL.yN, .static CodL.yN,
  .code Cmp3.yN Cmp3.yB 6 (some (.array .byte)), .initialized U16, .arrayClass .byte, .methodLink U16 115 Cmp5.yN, .static Cmp5.yN, .code Cmp5.yN Cmp5.yB 7 (some .int), .code CodL.yN CodL.yB 2 (some .byte)]
theorem tab_of {a : Array Value} {s : State} (h : ∀ w ∈ words, w.before a s = true) : New1.tab.before a s = true := by
  have h5 : Cmp5.tab.before a s = true := unparts (wk h (.code Cmp5.yN Cmp5.yB 7 (some .int))) (wks h (.initialized Cmp5.yN.cls :: Cmp5.site))
  have hc : CodL.tab.before a s = true := unparts (wk h (.code CodL.yN CodL.yB 2 (some .byte))) (wks h (.initialized CodL.yN.cls :: CodL.site))
  have q5 : ∀ w ∈ Cmp5.tab :: words, w.before a s = true := fun w hw => (List.mem_cons.mp hw).elim (fun e => e ▸ h5) (h w)
  have h3 : Cmp3.tab.before a s = true := unparts (wk q5 (.code Cmp3.yN Cmp3.yB 6 (some (.array .byte)))) (wks q5 (.initialized Cmp3.yN.cls :: Cmp3.site))
  have q3 : ∀ w ∈ Cmp3.tab :: CodL.tab :: words, w.before a s = true := fun w hw => (List.mem_cons.mp hw).elim (fun e => e ▸ h3) fun hw => (List.mem_cons.mp hw).elim (fun e => e ▸ hc) (h w)
  have h4 : New4.tab.before a s = true := unparts (wk q3 (.code New4.yN New4.yB 6 none)) (wks q3 (.initialized New4.yN.cls :: New4.site))
  have q4 : ∀ w ∈ New4.tab :: words, w.before a s = true := fun w hw => (List.mem_cons.mp hw).elim (fun e => e ▸ h4) (h w)
  exact unparts (wk q4 (.code New1.yN New1.yB 2 none)) (wks q4 (.initialized New1.yN.cls :: New1.site))
/-- the words ride from the start Z to the walk's own state -/
theorem moved {Z s : State} {a0 args : Array Value} (hZ : Z.Warmed39 s.vm) (hw : ∀ d ∈ words, d.before a0 Z = true) : ∀ d ∈ words, d.before args s = true := fun d hd => by
  have q := hw d hd
  have t : ∀ d ∈ words, d = .arrayClass .byte ∨ (d.onTables && d.keepsFace) = true := by decide +kernel
  rcases t d hd with rfl | t
  · exact RoadKit.mvA hZ q
  · exact RoadKit.mv hZ q t
/-- WHAT COMES BACK, over the tables of the start Z: h the heap at the call, h' behind it -/
def Q (Z : State) (x : Addr) (A : Cell) (h : Heap) (v : Option Value) (h' : Heap) (L : List Loc) : Prop := v = none ∧ (∀ y ∈ L, y.base = x) ∧ RoadKit.Keep h h' [x] ∧ h'.size = h.size + 1 ∧ RoadKit.Exa Z h' x ST ∧ RoadKit.Fld Z h' x ST "value" "[B" (.ref h.size) ∧ RoadKit.Fld Z h' x ST "coder" "B" (.int 0) ∧
  (∃ V : Cell, RoadKit.Arr Z h' h.size V .byte ∧ V.vm = .none ∧ Z.vm.findClass "[B" = some V.cls ∧ V.slots.size = A.slots.size ∧ ∀ j, j < A.slots.size → V.slots[j]? = some (.int (lo8 (cv A j)))) ∧
  ∀ (O n d : String) (w : Value), RoadKit.Fld Z h x O n d w → RoadKit.slotOf Z O n d ≠ RoadKit.slotOf Z ST "value" "[B" → RoadKit.slotOf Z O n d ≠ RoadKit.slotOf Z ST "coder" "B" → RoadKit.Fld Z h' x O n d w
/-- **new String(chars) AT A CALL, IN THE ROAD'S FORM**: for specialBack behind newO: x the fresh String, b the char[] with the cell A -/
theorem back {p : Program} {l : Launch} {e : Env} {R : Room} {s : State} {args : Array Value} {below : List Frame} {len W : Nat} {Z : State} {a0 : Array Value} {h : Heap} (hZ : Z.Warmed39 s.vm) (hw : ∀ d ∈ words, d.before a0 Z = true) {kI : Nat} (wi : (Jvm.Cond.instantiable ST kI).before a0 Z = true)
    {x b : Addr} {A : Cell} {z : Int32} {v0 c0 : Value} (E : RoadKit.Exa Z h x ST) (V : RoadKit.Fld Z h x ST "value" "[B" v0) (C : RoadKit.Fld Z h x ST "coder" "B" c0) (K : RoadKit.Arr Z h b A .char) (hty : Typed .char A) (S : RoadKit.Sta Z h ST "COMPACT_STRINGS" "Z" (.int z)) (hz : ¬ z = 0)
    (l0 : 0 < A.slots.size) (l2 : A.slots.size ≤ 536870912) (hp : ∀ i, i < A.slots.size → ¬ 255 < cv A i) (hfr : 4 ≤ R.frames) (hlo : W + 65 ≤ R.locals) :
    Back l R p e below s args New1.yN len W (fun P a => a = #[.ref x, .ref b] ∧ P.U.heap = h ∧ P.cells + 1 ≤ R.cells ∧ P.slots + A.slots.size ≤ R.slots)
      (fun P _ v B => ∃ L, Q Z x A h v B.U.heap L ∧ B.locs = P.locs ++ L ∧ B.cells = P.cells + 1 ∧ B.slots = P.slots + A.slots.size) := by
  intro m meth c P g ig mk a X hg hsize hdg hW hn hp'
  obtain ⟨rfl, rfl, r1, r2⟩ := hp'
  have al : Z.vm.Alike P.U.vm := hZ.alike.trans X.warmed.alike
  obtain ⟨D, cfV, kV, iV, fV, hD, gV, stV, knV, obV, asV, slV⟩ := id V
  obtain ⟨D', cfC, kC, iC, fC, hD', gC, stC, -, -, asC, slC⟩ := id C
  cases hD.symm.trans hD'
  obtain ⟨D2, kD, e1, e2, e3, e4, e5⟩ := id E
  cases hD.symm.trans e1
  obtain ⟨c2, k2, i1, i2, i3, -⟩ := Cond.instantiable_spec wi
  cases e2.symm.trans i1
  cases e3.symm.trans i2
  obtain ⟨kU, u1, u2⟩ := al.2.2 _ _ e3
  have hB : Blank ST x D P.U := ⟨hD, ⟨knV, fun q hq => by rw [hq] at obV; cases obV⟩, by rw [al.findClass]; exact e2, kU, u1, by rw [u2]; exact i3, by rw [u2]; exact e5 i3⟩
  have F1 : Found ST "value" "[B" fV P.U := ⟨SBG.found_only al ⟨cfV, kV, iV, gV⟩, stV⟩
  have F2 : Found ST "coder" "B" fC P.U := ⟨SBG.found_only al ⟨cfC, kC, iC, gC⟩, stC⟩
  have hA : Ch b A P.U := ⟨⟨K.1, State.isArrayOf_alike al K.2.1, K.2.2, by omega⟩, hty⟩
  have hS : StaticIs P.U ST "COMPACT_STRINGS" "Z" (.int z) := by
    obtain ⟨cfS, iS, kS, fS, st, cS, t1, t2, t3, t4, t5, t6, t7⟩ := S
    exact StaticIs.there (s := { Z with heap := P.U.heap }) ⟨cfS, iS, kS, fS, st, cS, t1, t2, t3, t4, t5, (fun q => by rw [q] at t6; cases t6), t7⟩ al rfl
  obtain ⟨v, B, X', ⟨⟨hv, E', V', q1, q2, q3, q4, q5, q6, q7, q8, q9, q10, q11⟩, hl, hc, hs⟩, st⟩ := New1.pays x D fV fC b A z (tab_of (moved hZ hw)) hfr hlo m meth c P g ig mk _ X hg hsize hdg hW hn ⟨r1, r2, rfl, hB, F1, F2, hA, hS, hz, l0, l2, hp⟩
  have al' : Z.vm.Alike B.U.vm := hZ.alike.trans X'.warmed.alike
  have hsz : E'.slots.size = D.slots.size := by
    obtain ⟨-, -, -, kB, w1, w2, w3⟩ := q1
    obtain ⟨kB', y1, y2⟩ := al'.2.2 _ _ e3
    rw [q2.2.1] at w1
    cases w1.symm.trans y1
    rw [w3, e5 i3, y2]
  refine ⟨v, B, X', ⟨_, ⟨hv, ?_, ⟨by omega, fun y cy hy hn' => q10 y cy (by simpa using hn') hy, fun y cy hy => ?_⟩, q11, ⟨E', _, q1.1, by rw [q2.2.1]; exact e2, by rw [q2.2.1]; exact e3, by rw [q2.1]; exact obV, fun _ => by rw [hsz]; exact e5 i3⟩,
    ⟨E', cfV, kV, iV, fV, q1.1, gV, stV, by rw [q2.1]; exact knV, by rw [q2.1]; exact obV, by rw [q2.2.1]; exact asV, q3⟩, ⟨E', cfC, kC, iC, fC, q1.1, gC, stC, by rw [q2.1]; exact knV, by rw [q2.1]; exact obV, by rw [q2.2.1]; exact asC, q4⟩,
    ⟨V', ⟨q5.1, State.isArrayOf_alike al'.symm q5.2.1, q5.2.2.1⟩, q6, by rw [← al'.findClass]; exact q7, q8, fun j hj => by have := q9 j hj; rwa [Nat.zero_add] at this⟩, fun O n d w F n1 n2 => ?_⟩, hl, hc, hs⟩, st⟩
  · intro y hy
    simp only [List.mem_cons, List.not_mem_nil, or_false] at hy
    rcases hy with rfl | rfl <;> rfl
  · by_cases q : y = x
    · subst q
      cases hD.symm.trans hy
      exact ⟨E', q1.1, q2.2.1, q2.1, hsz⟩
    · exact ⟨cy, q10 y cy q hy, rfl, rfl, rfl⟩
  · obtain ⟨D3, cf, k, i, f, g1, g2, g3, g4, g5, g6, g7⟩ := F
    cases hD.symm.trans g1
    simp only [RoadKit.slotOf, g2, gV, gC, Option.map_some, Option.getD_some] at n1 n2
    exact ⟨E', cf, k, i, f, q1.1, g2, g3, by rw [q2.1]; exact g4, by rw [q2.1]; exact g5, by rw [q2.2.1]; exact g6, by rw [q2.2.2 f.slot (by simp [n1, n2])]; exact g7⟩
end StrChars.Road
namespace StrChars.Road
open Jvm Sem ClassFile Op Lib Jvm.Stand Jvm.Free Jvm.Free.XT
/-- WHAT COMES BACK, the byte[] as a list of values -/
def QA (Z : State) (x : Addr) (zn : Int32) (cs : List Int32) (h : Heap) (v : Option Value) (h' : Heap) (L : List Loc) : Prop := v = none ∧ (∀ y ∈ L, y.base = x) ∧ RoadKit.Keep h h' [x] ∧ h'.size = h.size + 1 ∧ RoadKit.Exa Z h' x ST ∧ RoadKit.Fld Z h' x ST "value" "[B" (.ref h.size) ∧ RoadKit.Fld Z h' x ST "coder" "B" (.int 0) ∧
  (∃ kb, Z.vm.findClass "[B" = some kb ∧ RoadKit.Arv Z h' h.size kb .byte zn (cs.map fun c => .int (lo8 c)) (.int 0)) ∧
  ∀ (O n d : String) (w : Value), RoadKit.Fld Z h x O n d w → RoadKit.slotOf Z O n d ≠ RoadKit.slotOf Z ST "value" "[B" → RoadKit.slotOf Z O n d ≠ RoadKit.slotOf Z ST "coder" "B" → RoadKit.Fld Z h' x O n d w
/-- **new String(chars) AT A CALL, THE ARRAYS AS LISTS**: the char[] at b holds cs, not empty, no char above 255 -/
theorem backArv {p : Program} {l : Launch} {e : Env} {R : Room} {s : State} {args : Array Value} {below : List Frame} {len W : Nat} {Z : State} {a0 : Array Value} {h : Heap} (hZ : Z.Warmed39 s.vm) (hw : ∀ d ∈ words, d.before a0 Z = true) {kI : Nat} (wi : (Jvm.Cond.instantiable ST kI).before a0 Z = true)
    {x b : Addr} {k : ClassId} {zn z : Int32} {cs : List Int32} {dv v0 c0 : Value} (E : RoadKit.Exa Z h x ST) (V : RoadKit.Fld Z h x ST "value" "[B" v0) (C : RoadKit.Fld Z h x ST "coder" "B" c0) (K : RoadKit.Arv Z h b k .char zn (cs.map Value.int) dv) (S : RoadKit.Sta Z h ST "COMPACT_STRINGS" "Z" (.int z)) (hz : ¬ z = 0)
    (hlen : zn.toNatClampNeg = cs.length) (h0 : 0 < cs.length) (hbig : cs.length ≤ 536870912) (hall : ∀ c ∈ cs, ¬ 255 < c) (hfr : 4 ≤ R.frames) (hlo : W + 65 ≤ R.locals) :
    Back l R p e below s args New1.yN len W (fun P a => a = #[.ref x, .ref b] ∧ P.U.heap = h ∧ P.cells + 1 ≤ R.cells ∧ P.slots + cs.length ≤ R.slots)
      (fun P _ v B => ∃ L, QA Z x zn cs h v B.U.heap L ∧ B.locs = P.locs ++ L ∧ B.cells = P.cells + 1 ∧ B.slots = P.slots + cs.length) := by
  obtain ⟨A, K1, K2, K3, K4, K5, K6⟩ := K
  have e : A.slots.size = cs.length := K3.trans hlen
  have hat : ∀ (i : Nat) (hi : i < cs.length), A.slots[i]? = some (.int cs[i]) := fun i hi => by rw [K5 i (by omega)]; simp [List.getD_eq_getElem?_getD, hi]
  have hcv : ∀ (i : Nat) (hi : i < cs.length), cv A i = cs[i] := fun i hi => by unfold cv; rw [hat i hi]
  have hty : Typed .char A := fun i v hv => by
    have hi : i < A.slots.size := (Array.getElem?_eq_some_iff.mp hv).1
    have q := K5 i hi
    rw [hv] at q
    rw [Option.some.inj q]
    exact K6 i hi
  refine Back.mono (back hZ hw wi E V C K1 hty S hz (by omega) (by omega) (fun i hi => by rw [hcv i (by omega)]; exact hall _ (List.getElem_mem _)) hfr hlo) (fun P a hp => ⟨hp.1, hp.2.1, hp.2.2.1, by rw [e]; exact hp.2.2.2⟩) (fun P a v B hp hq => ?_)
  obtain ⟨L, ⟨q1, q2, q3, q4, q5, q6, q7, ⟨V', v1, v2, v3, v4, v5⟩, q9⟩, hl, hc, hs⟩ := hq
  refine ⟨L, ⟨q1, q2, q3, q4, q5, q6, q7, ⟨V'.cls, v3, V', v1, rfl, by rw [v4, e, hlen], K4, fun i hi => ?_, fun i hi => ?_⟩, q9⟩, hl, hc, by rw [hs, e]⟩
  · have hi' : i < cs.length := by omega
    rw [v5 i (by omega), hcv i hi']; simp [List.getD_eq_getElem?_getD, hi']
  · have hi' : i < cs.length := by omega
    simp only [List.getD_eq_getElem?_getD, List.getElem?_map, List.getElem?_eq_getElem hi', Option.map_some, Option.getD_some]
    exact fits_lo8 _
end StrChars.Road
namespace StrChars.Road
open Jvm Sem ClassFile Op Lib Jvm.Stand Jvm.Free Jvm.Free.XT
/-- WHAT COMES BACK, in the writer's own shape -/
def QV (Z : State) (x : Addr) (N : Int32) (bs : List Int32) (h : Heap) (n0 : Nat) (v : Option Value) (h' : Heap) (L : List Loc) : Prop := v = none ∧ RoadKit.Fr n0 L ∧ RoadKit.Keep h h' [x] ∧ RoadKit.Exa Z h' x ST ∧ RoadKit.Fld Z h' x ST "coder" "B" (.int 0) ∧
  ∃ (t : Addr) (kb : ClassId), n0 ≤ t ∧ h.size ≤ t ∧ ¬ t = x ∧ RoadKit.Fld Z h' x ST "value" "[B" (.ref t) ∧ RoadKit.Arv Z h' t kb .byte N (bs.map Value.int) (.int 0)
/-- **new String(chars) AT A CALL, FOR THE WRITER**: a char[] of n known ints, each 0 to 255 -/
theorem backV {p : Program} {l : Launch} {e : Env} {R : Room} {s : State} {args : Array Value} {below : List Frame} {len W : Nat} {Z : State} {a0 : Array Value} {h : Heap} (hZ : Z.Warmed39 s.vm) (hw : ∀ d ∈ words, d.before a0 Z = true) {kI : Nat} (wi : (Jvm.Cond.instantiable ST kI).before a0 Z = true)
    {x b : Addr} {kC : ClassId} {cs bs : List Int32} {d v0 c0 : Value} {z N : Int32} {n n0 : Nat} (hx0 : n0 ≤ x) (hh0 : n0 ≤ h.size) (E : RoadKit.Exa Z h x ST) (V : RoadKit.Fld Z h x ST "value" "[B" v0) (C : RoadKit.Fld Z h x ST "coder" "B" c0) (K : RoadKit.Arv Z h b kC .char N (cs.map Value.int) d) (S : RoadKit.Sta Z h ST "COMPACT_STRINGS" "Z" (.int z)) (hz : ¬ z = 0)
    (hn : cs.length = n) (hN : N = Int32.ofNat n) (l0 : 0 < n) (l2 : n ≤ 4000) (hp : ∀ c ∈ cs, ¬ c < 0 ∧ ¬ (255 : Int32) < c) (hb : bs = cs.map (fun c => c.toInt8.toInt32)) (hfr : 4 ≤ R.frames) (hlo : W + 65 ≤ R.locals) :
    Back l R p e below s args (⟨"java/lang/String", "<init>", "([C)V"⟩ : MethodName) len W (fun P a => a = #[.ref x, .ref b] ∧ P.U.heap = h ∧ P.cells + 1 ≤ R.cells ∧ P.slots + n ≤ R.slots)
      (fun P _ v B => ∃ L, QV Z x N bs h n0 v B.U.heap L ∧ B.locs = P.locs ++ L ∧ B.cells = P.cells + 1 ∧ B.slots = P.slots + n) := by
  subst hn hN hb
  refine Back.mono (backArv hZ hw wi E V C K S hz (n32 (by omega)) l0 (by omega) (fun c hc => (hp c hc).2) hfr hlo) (fun P a hp => hp) (fun P a v B hp hq => ?_)
  obtain ⟨L, ⟨q1, q2, q3, q4, q5, q6, q7, ⟨kb, v1, v2⟩, q9⟩, hl, hc, hs⟩ := hq
  exact ⟨L, ⟨q1, fun y hy => by rw [q2 y hy]; exact hx0, q3, q5, q7, h.size, kb, hh0, Nat.le_refl _, Nat.ne_of_gt E.lt, q6, by rw [List.map_map]; exact v2⟩, hl, hc, hs⟩
end StrChars.Road
end Jvm.Pilot.@@N@@

namespace Jvm.Pilot.@@N@@
open Jvm Jvm.ClassFile Sem Op Lib Jvm.Free Jvm.Stand Jvm.LawKit Jvm.RoadKit Bundle Jvm.Pilot.@@N@@.Jvm.D
def Amb (Z : State) (o_WAITING : Addr) (o_PLAYED : Addr) (o_BYE : Addr) (o_READY : Addr) (G1 : Int32) : Prop := Sta Z Z.heap "com/example/rulebinder/rulebinder/Bracket$State" "WAITING" "Lcom/example/rulebinder/rulebinder/Bracket$State;" (.ref o_WAITING) ∧ Exa Z Z.heap o_WAITING "com/example/rulebinder/rulebinder/Bracket$State" ∧ Sta Z Z.heap "com/example/rulebinder/rulebinder/Bracket$State" "PLAYED" "Lcom/example/rulebinder/rulebinder/Bracket$State;" (.ref o_PLAYED) ∧ Exa Z Z.heap o_PLAYED "com/example/rulebinder/rulebinder/Bracket$State" ∧ Sta Z Z.heap "com/example/rulebinder/rulebinder/Bracket$State" "BYE" "Lcom/example/rulebinder/rulebinder/Bracket$State;" (.ref o_BYE) ∧ Exa Z Z.heap o_BYE "com/example/rulebinder/rulebinder/Bracket$State" ∧ Sta Z Z.heap "com/example/rulebinder/rulebinder/Bracket$State" "READY" "Lcom/example/rulebinder/rulebinder/Bracket$State;" (.ref o_READY) ∧ Exa Z Z.heap o_READY "com/example/rulebinder/rulebinder/Bracket$State" ∧ Fld Z Z.heap o_WAITING "java/lang/Enum" "ordinal" "I" (.int (0 : Int32)) ∧ Fld Z Z.heap o_PLAYED "java/lang/Enum" "ordinal" "I" (.int (2 : Int32)) ∧ Fld Z Z.heap o_BYE "java/lang/Enum" "ordinal" "I" (.int (3 : Int32)) ∧ Fld Z Z.heap o_READY "java/lang/Enum" "ordinal" "I" (.int (1 : Int32)) ∧ Sta Z Z.heap "java/lang/String" "COMPACT_STRINGS" "Z" (.int G1) ∧ (¬ (G1 = (0 : Int32))) ∧ (o_WAITING ≠ o_PLAYED) ∧ (o_WAITING ≠ o_BYE) ∧ (o_READY ≠ o_PLAYED) ∧ (o_READY ≠ o_BYE) ∧ True
theorem Amb.a0 {Z : State} {o_WAITING : Addr} {o_PLAYED : Addr} {o_BYE : Addr} {o_READY : Addr} {G1 : Int32} (A : Amb Z o_WAITING o_PLAYED o_BYE o_READY G1) : Sta Z Z.heap "com/example/rulebinder/rulebinder/Bracket$State" "WAITING" "Lcom/example/rulebinder/rulebinder/Bracket$State;" (.ref o_WAITING) := A.1
theorem Amb.a1 {Z : State} {o_WAITING : Addr} {o_PLAYED : Addr} {o_BYE : Addr} {o_READY : Addr} {G1 : Int32} (A : Amb Z o_WAITING o_PLAYED o_BYE o_READY G1) : Exa Z Z.heap o_WAITING "com/example/rulebinder/rulebinder/Bracket$State" := A.2.1
theorem Amb.a2 {Z : State} {o_WAITING : Addr} {o_PLAYED : Addr} {o_BYE : Addr} {o_READY : Addr} {G1 : Int32} (A : Amb Z o_WAITING o_PLAYED o_BYE o_READY G1) : Sta Z Z.heap "com/example/rulebinder/rulebinder/Bracket$State" "PLAYED" "Lcom/example/rulebinder/rulebinder/Bracket$State;" (.ref o_PLAYED) := A.2.2.1
theorem Amb.a3 {Z : State} {o_WAITING : Addr} {o_PLAYED : Addr} {o_BYE : Addr} {o_READY : Addr} {G1 : Int32} (A : Amb Z o_WAITING o_PLAYED o_BYE o_READY G1) : Exa Z Z.heap o_PLAYED "com/example/rulebinder/rulebinder/Bracket$State" := A.2.2.2.1
theorem Amb.a4 {Z : State} {o_WAITING : Addr} {o_PLAYED : Addr} {o_BYE : Addr} {o_READY : Addr} {G1 : Int32} (A : Amb Z o_WAITING o_PLAYED o_BYE o_READY G1) : Sta Z Z.heap "com/example/rulebinder/rulebinder/Bracket$State" "BYE" "Lcom/example/rulebinder/rulebinder/Bracket$State;" (.ref o_BYE) := A.2.2.2.2.1
theorem Amb.a5 {Z : State} {o_WAITING : Addr} {o_PLAYED : Addr} {o_BYE : Addr} {o_READY : Addr} {G1 : Int32} (A : Amb Z o_WAITING o_PLAYED o_BYE o_READY G1) : Exa Z Z.heap o_BYE "com/example/rulebinder/rulebinder/Bracket$State" := A.2.2.2.2.2.1
theorem Amb.a6 {Z : State} {o_WAITING : Addr} {o_PLAYED : Addr} {o_BYE : Addr} {o_READY : Addr} {G1 : Int32} (A : Amb Z o_WAITING o_PLAYED o_BYE o_READY G1) : Sta Z Z.heap "com/example/rulebinder/rulebinder/Bracket$State" "READY" "Lcom/example/rulebinder/rulebinder/Bracket$State;" (.ref o_READY) := A.2.2.2.2.2.2.1
theorem Amb.a7 {Z : State} {o_WAITING : Addr} {o_PLAYED : Addr} {o_BYE : Addr} {o_READY : Addr} {G1 : Int32} (A : Amb Z o_WAITING o_PLAYED o_BYE o_READY G1) : Exa Z Z.heap o_READY "com/example/rulebinder/rulebinder/Bracket$State" := A.2.2.2.2.2.2.2.1
theorem Amb.a8 {Z : State} {o_WAITING : Addr} {o_PLAYED : Addr} {o_BYE : Addr} {o_READY : Addr} {G1 : Int32} (A : Amb Z o_WAITING o_PLAYED o_BYE o_READY G1) : Fld Z Z.heap o_WAITING "java/lang/Enum" "ordinal" "I" (.int (0 : Int32)) := A.2.2.2.2.2.2.2.2.1
theorem Amb.a9 {Z : State} {o_WAITING : Addr} {o_PLAYED : Addr} {o_BYE : Addr} {o_READY : Addr} {G1 : Int32} (A : Amb Z o_WAITING o_PLAYED o_BYE o_READY G1) : Fld Z Z.heap o_PLAYED "java/lang/Enum" "ordinal" "I" (.int (2 : Int32)) := A.2.2.2.2.2.2.2.2.2.1
theorem Amb.a10 {Z : State} {o_WAITING : Addr} {o_PLAYED : Addr} {o_BYE : Addr} {o_READY : Addr} {G1 : Int32} (A : Amb Z o_WAITING o_PLAYED o_BYE o_READY G1) : Fld Z Z.heap o_BYE "java/lang/Enum" "ordinal" "I" (.int (3 : Int32)) := A.2.2.2.2.2.2.2.2.2.2.1
theorem Amb.a11 {Z : State} {o_WAITING : Addr} {o_PLAYED : Addr} {o_BYE : Addr} {o_READY : Addr} {G1 : Int32} (A : Amb Z o_WAITING o_PLAYED o_BYE o_READY G1) : Fld Z Z.heap o_READY "java/lang/Enum" "ordinal" "I" (.int (1 : Int32)) := A.2.2.2.2.2.2.2.2.2.2.2.1
theorem Amb.a12 {Z : State} {o_WAITING : Addr} {o_PLAYED : Addr} {o_BYE : Addr} {o_READY : Addr} {G1 : Int32} (A : Amb Z o_WAITING o_PLAYED o_BYE o_READY G1) : Sta Z Z.heap "java/lang/String" "COMPACT_STRINGS" "Z" (.int G1) := A.2.2.2.2.2.2.2.2.2.2.2.2.1
theorem Amb.g1 {Z : State} {o_WAITING : Addr} {o_PLAYED : Addr} {o_BYE : Addr} {o_READY : Addr} {G1 : Int32} (A : Amb Z o_WAITING o_PLAYED o_BYE o_READY G1) : ¬ (G1 = (0 : Int32)) := A.2.2.2.2.2.2.2.2.2.2.2.2.2.1
theorem Amb.n_WAITING_PLAYED {Z : State} {o_WAITING : Addr} {o_PLAYED : Addr} {o_BYE : Addr} {o_READY : Addr} {G1 : Int32} (A : Amb Z o_WAITING o_PLAYED o_BYE o_READY G1) : o_WAITING ≠ o_PLAYED := A.2.2.2.2.2.2.2.2.2.2.2.2.2.2.1
theorem Amb.n_WAITING_BYE {Z : State} {o_WAITING : Addr} {o_PLAYED : Addr} {o_BYE : Addr} {o_READY : Addr} {G1 : Int32} (A : Amb Z o_WAITING o_PLAYED o_BYE o_READY G1) : o_WAITING ≠ o_BYE := A.2.2.2.2.2.2.2.2.2.2.2.2.2.2.2.1
theorem Amb.n_READY_PLAYED {Z : State} {o_WAITING : Addr} {o_PLAYED : Addr} {o_BYE : Addr} {o_READY : Addr} {G1 : Int32} (A : Amb Z o_WAITING o_PLAYED o_BYE o_READY G1) : o_READY ≠ o_PLAYED := A.2.2.2.2.2.2.2.2.2.2.2.2.2.2.2.2.1
theorem Amb.n_READY_BYE {Z : State} {o_WAITING : Addr} {o_PLAYED : Addr} {o_BYE : Addr} {o_READY : Addr} {G1 : Int32} (A : Amb Z o_WAITING o_PLAYED o_BYE o_READY G1) : o_READY ≠ o_BYE := A.2.2.2.2.2.2.2.2.2.2.2.2.2.2.2.2.2.1

theorem own_words : ∀ d ∈ StrChars.Road.words, d ∈ tables_1 := by decide +kernel

theorem d8_0 : decode jdk_30_method_1_code 0 = .ok (.aload_n 0, 1) := by decide +kernel
theorem d8_1 : decode jdk_30_method_1_code 1 = .ok (.invokespecial 1, 3) := by decide +kernel
theorem d8_4 : decode jdk_30_method_1_code 4 = .ok (.return_, 1) := by decide +kernel
theorem pn_8 : plainName "java/lang/Record" = true := by first | (simp [plainName, overriddenIn]; done) | decide +kernel
theorem ef_8 (m : MethodId) (x0 : Addr) : entryFrame m #[(.ref x0)] 1 = mkF m 0 #[.val (.ref x0)] [] := by first | (simp [entryFrame, mkF, argsToLocals, Value.category]; done) | rfl
def Q8 (Z : State) (a1 : Addr) (h0 : Heap) (n0 : Nat) (v : Option Value) (h : Heap) (L : List Loc) : Prop := v = none ∧ Fr n0 L ∧ h = h0
set_option maxRecDepth 65536 in
set_option maxHeartbeats 40000000 in
theorem rm8 (l : Launch) (Z : State) (a0 : Array Value) (hw : ∀ d ∈ tables_1, d.before a0 Z = true) (ws : List Jvm.Cond) (a1 : Addr) (h0 : Heap) (n0 : Nat) (Z0 : n0 ≤ h0.size)  :
    MetFree l (⟨"java/lang/Record", "<init>", "()V"⟩ : MethodName) (head1 (Jvm.Cond.code (⟨"java/lang/Record", "<init>", "()V"⟩ : MethodName) jdk_30_method_1_code 1 none :: ws) ({ frames := 1, cells := 0, slots := 0, locals := 12 } : Room)) (fun a U => a = #[(.ref a1)] ∧ Z.Warmed39 U.vm ∧ U.heap = h0) (fun _ _ _ _ _ => True) (fun _ U o U' => ∃ v L, o = .returned v ∧ Q8 Z a1 h0 n0 v U'.heap L ∧ FrameEnd U o U' L ({ frames := 1, cells := 0, slots := 0, locals := 12 } : Room).cells ({ frames := 1, cells := 0, slots := 0, locals := 12 } : Room).slots) := by
  refine MetFree.of_bodySF (plainFor_of_name pn_8) hisR ?_
  intro p e s m args below meth c s₁ Bd hml0 hP hK
  obtain ⟨rfl, hZ, hh⟩ := hP
  have hx := Bd.exec
  have hby := Bd.bytes
  have hml : c.maxLocals = 1 := hml0
  have hown : s.vm.findClass "java/lang/Record" = some m.cls := findClass_of_methodNamed Bd.named
  have hnm := (name_of_methodNamed Bd.named Bd.method).1
  have hlk : meth.locks = false := BodyLoose.notSynchronized Bd
  have hrt := Bd.returns
  have X0 : Stand p l e ({ frames := 1, cells := 0, slots := 0, locals := 12 } : Room) s m #[(.ref a1)] below meth c s₁ [] 0 0 := Stand.of_body Bd
  have e0 : s₁.heap = h0 := by rw [← hh, Bd.state]; rfl
  have N0 := Fr.nil n0
  show own_Fin p.tables e below (own_post (Q8 Z a1 h0 n0) s ({ frames := 1, cells := 0, slots := 0, locals := 12 } : Room).cells ({ frames := 1, cells := 0, slots := 0, locals := 12 } : Room).slots) (s₁.setTop (entryFrame m #[(.ref a1)] 1))
  refine own_Fin.step (fun t k => castTop (ef_8 m a1) k) ?_
  refine own_Fin.step (S' := s₁.setTop (mkF m 1 #[.val (.ref a1)] [(.ref a1)])) (fun t k => XS.aloadN X0.here hx rfl (hb hby d8_0) rfl rfl  k) ?_
  obtain ⟨T1, X1, e1, st1⟩ := initO X0 hx hZ hown (hw _ (List.mem_of_getElem? (i := 44) rfl)) (hw _ (List.mem_of_getElem? (i := 15) rfl)) (hw _ (List.mem_of_getElem? (i := 16) rfl)) e0 (g := (mkF m 1 #[.val (.ref a1)] [(.ref a1)])) rfl (by rw [hml]; rfl) rfl (hb hby d8_1) (by decide) (W := 0) (by show 2 * 0 + _ ≤ _; exact Nat.le_of_eq rfl) (by decide)
  refine own_Fin.step (S' := T1.setTop (mkF m 4 #[.val (.ref a1)] [])) st1 ?_
  have hq2 : Q8 Z a1 h0 n0 none h0 _ := ⟨rfl, N0, rfl⟩
  exact own_retV X1 hx hlk hrt (hb hby d8_4) e1 hq2 (by decide) (by decide)
theorem d7_0 : decode prog_38_method_1_code 0 = .ok (.aload_n 0, 1) := by decide +kernel
theorem d7_1 : decode prog_38_method_1_code 1 = .ok (.invokespecial 1, 3) := by decide +kernel
theorem d7_4 : decode prog_38_method_1_code 4 = .ok (.aload_n 0, 1) := by decide +kernel
theorem d7_5 : decode prog_38_method_1_code 5 = .ok (.aload_n 1, 1) := by decide +kernel
theorem d7_6 : decode prog_38_method_1_code 6 = .ok (.putfield 7, 3) := by decide +kernel
theorem d7_9 : decode prog_38_method_1_code 9 = .ok (.aload_n 0, 1) := by decide +kernel
theorem d7_10 : decode prog_38_method_1_code 10 = .ok (.aload_n 2, 1) := by decide +kernel
theorem d7_11 : decode prog_38_method_1_code 11 = .ok (.putfield 13, 3) := by decide +kernel
theorem d7_14 : decode prog_38_method_1_code 14 = .ok (.return_, 1) := by decide +kernel
theorem pn_7 : plainName "com/example/rulebinder/rulebinder/Player" = true := by first | (simp [plainName, overriddenIn]; done) | decide +kernel
theorem pd_7_0 : parseMethodDescriptor "()V" = some ⟨[], none⟩ := by decide +kernel
theorem ef_7 (m : MethodId) (x0 : Addr) (x1 : Addr) (x2 : Addr) : entryFrame m #[(.ref x0), (.ref x1), (.ref x2)] 3 = mkF m 0 #[.val (.ref x0), .val (.ref x1), .val (.ref x2)] [] := by first | (simp [entryFrame, mkF, argsToLocals, Value.category]; done) | rfl
def Q7 (Z : State) (a1 : Addr) (s1 : Addr) (s2 : Addr) (u1 : Value) (u2 : Value) (h0 : Heap) (n0 : Nat) (v : Option Value) (h : Heap) (L : List Loc) : Prop := v = none ∧ Fr n0 L ∧ Keep h0 h [a1] ∧ Exa Z h a1 "com/example/rulebinder/rulebinder/Player"
set_option maxRecDepth 65536 in
set_option maxHeartbeats 40000000 in
theorem rm7 (l : Launch) (Z : State) (a0 : Array Value) (hw : ∀ d ∈ tables_1, d.before a0 Z = true) (ws : List Jvm.Cond) (a1 : Addr) (s1 : Addr) (s2 : Addr) (u1 : Value) (u2 : Value) (h0 : Heap) (n0 : Nat) (Z0 : n0 ≤ h0.size) (P0 : Exa Z h0 a1 "com/example/rulebinder/rulebinder/Player") (P1 : Fld Z h0 a1 "com/example/rulebinder/rulebinder/Player" "id" "Ljava/lang/String;" u1) (P2 : Fld Z h0 a1 "com/example/rulebinder/rulebinder/Player" "name" "Ljava/lang/String;" u2) (g_a1 : n0 ≤ a1) :
    MetFree l (⟨"com/example/rulebinder/rulebinder/Player", "<init>", "(Ljava/lang/String;Ljava/lang/String;)V"⟩ : MethodName) (head1 (Jvm.Cond.code (⟨"com/example/rulebinder/rulebinder/Player", "<init>", "(Ljava/lang/String;Ljava/lang/String;)V"⟩ : MethodName) prog_38_method_1_code 3 none :: ws) ({ frames := 2, cells := 0, slots := 0, locals := 24 } : Room)) (fun a U => a = #[(.ref a1), (.ref s1), (.ref s2)] ∧ Z.Warmed39 U.vm ∧ U.heap = h0) (fun _ _ _ _ _ => True) (fun _ U o U' => ∃ v L, o = .returned v ∧ Q7 Z a1 s1 s2 u1 u2 h0 n0 v U'.heap L ∧ FrameEnd U o U' L ({ frames := 2, cells := 0, slots := 0, locals := 24 } : Room).cells ({ frames := 2, cells := 0, slots := 0, locals := 24 } : Room).slots) := by
  refine MetFree.of_bodySF (plainFor_of_name pn_7) hisR ?_
  intro p e s m args below meth c s₁ Bd hml0 hP hK
  obtain ⟨rfl, hZ, hh⟩ := hP
  have hx := Bd.exec
  have hby := Bd.bytes
  have hml : c.maxLocals = 3 := hml0
  have hown : s.vm.findClass "com/example/rulebinder/rulebinder/Player" = some m.cls := findClass_of_methodNamed Bd.named
  have hnm := (name_of_methodNamed Bd.named Bd.method).1
  have hlk : meth.locks = false := BodyLoose.notSynchronized Bd
  have hrt := Bd.returns
  have X0 : Stand p l e ({ frames := 2, cells := 0, slots := 0, locals := 24 } : Room) s m #[(.ref a1), (.ref s1), (.ref s2)] below meth c s₁ [] 0 0 := Stand.of_body Bd
  have e0 : s₁.heap = h0 := by rw [← hh, Bd.state]; rfl
  have N0 := Fr.nil n0
  show own_Fin p.tables e below (own_post (Q7 Z a1 s1 s2 u1 u2 h0 n0) s ({ frames := 2, cells := 0, slots := 0, locals := 24 } : Room).cells ({ frames := 2, cells := 0, slots := 0, locals := 24 } : Room).slots) (s₁.setTop (entryFrame m #[(.ref a1), (.ref s1), (.ref s2)] 3))
  refine own_Fin.step (fun t k => castTop (ef_7 m a1 s1 s2) k) ?_
  have lt_P0 : @LT.lt Nat _ a1 (Array.size h0) := P0.lt
  have lt_P1 : @LT.lt Nat _ a1 (Array.size h0) := P1.lt
  have lt_P2 : @LT.lt Nat _ a1 (Array.size h0) := P2.lt
  refine own_Fin.step (S' := s₁.setTop (mkF m 1 #[.val (.ref a1), .val (.ref s1), .val (.ref s2)] [(.ref a1)])) (fun t k => XS.aloadN X0.here hx rfl (hb hby d7_0) rfl rfl  k) ?_
  obtain ⟨_, _, ⟨T3, L3, k3, n3⟩, -, X3, ⟨Lc3, hQ3, l3, y3, zz3⟩, st3⟩ := X0.specialBack hx (y := (⟨"java/lang/Record", "<init>", "()V"⟩ : MethodName)) rfl hown (mvT hZ (hw _ (List.mem_of_getElem? (i := 39) rfl))) (mvT hZ (hw _ (List.mem_of_getElem? (i := 40) rfl))) (mvT hZ (hw _ (List.mem_of_getElem? (i := 43) rfl))) (by decide) (backOf (W := 0) (rm8 l Z a0 hw [] a1 h0 n0 (by omega) ) hZ (hw _ (List.mem_of_getElem? (i := 43) rfl)) (hw _ (List.mem_of_getElem? (i := 42) rfl)) (by decide) (by decide)) (g := (mkF m 1 #[.val (.ref a1), .val (.ref s1), .val (.ref s2)] [(.ref a1)])) rfl (by rw [hml]; rfl) (Steps.refl _) (a := a1) (argsL := []) (rest := []) (lenOf pd_7_0 rfl) rfl (by show 2 * 0 + _ ≤ _; exact Nat.le_of_eq rfl) (hb hby d7_1) (fun _ _ => ⟨rfl, e0, (by decide : 0 + 0 ≤ _), (by decide : 0 + 0 ≤ _)⟩)
  dsimp only [Pt.U, Pt.locs, Pt.cells, Pt.slots] at X3 l3 y3 zz3 st3 hQ3
  subst l3 y3 zz3
  obtain ⟨rfl, N3q, e3⟩ := hQ3
  have N3 := Fr.app N0 N3q
  refine own_Fin.trans (S' := T3.setTop (mkF m 4 #[.val (.ref a1), .val (.ref s1), .val (.ref s2)] [])) st3 ?_
  refine own_Fin.step (S' := T3.setTop (mkF m 5 #[.val (.ref a1), .val (.ref s1), .val (.ref s2)] [(.ref a1)])) (fun t k => XS.aloadN X3.here hx rfl (hb hby d7_4) rfl rfl  k) ?_
  refine own_Fin.step (S' := T3.setTop (mkF m 6 #[.val (.ref a1), .val (.ref s1), .val (.ref s2)] [(.ref s1), (.ref a1)])) (fun t k => XS.aloadN X3.here hx rfl (hb hby d7_5) rfl rfl  k) ?_
  obtain ⟨T4, h4, X4, e4, W4, st4⟩ := putF X3 hx hZ hown (host := "") (Or.inl (hw _ (List.mem_of_getElem? (i := 45) rfl))) Via.refl e3 P1 P0 (Or.inr ⟨(hw _ (List.mem_of_getElem? (i := 46) rfl)), rfl, hnm⟩) (hw _ (List.mem_of_getElem? (i := 34) rfl)) (ty := (.object "java/lang/String")) (by decide) rfl rfl (g := (mkF m 6 #[.val (.ref a1), .val (.ref s1), .val (.ref s2)] [(.ref s1), (.ref a1)])) rfl rfl (hb hby d7_6)
  have F4 := Fld.same W4 P1
  have z4 := W4.size
  have KK4 : Keep h0 h4 [a1] := (Keep.refl h0 [a1]).wr W4 (Or.inl (by simp))
  have N4 := Fr.snoc X4 N3 (by omega)
  refine own_Fin.step (S' := T4.setTop (mkF m 9 #[.val (.ref a1), .val (.ref s1), .val (.ref s2)] [])) st4 ?_
  refine own_Fin.step (S' := T4.setTop (mkF m 10 #[.val (.ref a1), .val (.ref s1), .val (.ref s2)] [(.ref a1)])) (fun t k => XS.aloadN X4.here hx rfl (hb hby d7_9) rfl rfl  k) ?_
  refine own_Fin.step (S' := T4.setTop (mkF m 11 #[.val (.ref a1), .val (.ref s1), .val (.ref s2)] [(.ref s2), (.ref a1)])) (fun t k => XS.aloadN X4.here hx rfl (hb hby d7_10) rfl rfl  k) ?_
  have f5 : Exa Z h4 a1 "com/example/rulebinder/rulebinder/Player" := (Exa.wr W4 P0)
  have f6 : Fld Z h4 a1 "com/example/rulebinder/rulebinder/Player" "name" "Ljava/lang/String;" u2 := (Fld.other W4 P2 (Or.inr (slot_ne (Or.inr (hw _ (List.mem_of_getElem? (i := 48) rfl))) (Or.inr (hw _ (List.mem_of_getElem? (i := 46) rfl))) (by decide) (t := (.object "java/lang/String")) (t' := (.object "java/lang/String")) (by decide) (by decide))))
  obtain ⟨T7, h7, X7, e7, W7, st7⟩ := putF X4 hx hZ hown (host := "") (Or.inl (hw _ (List.mem_of_getElem? (i := 47) rfl))) Via.refl e4 f6 f5 (Or.inr ⟨(hw _ (List.mem_of_getElem? (i := 48) rfl)), rfl, hnm⟩) (hw _ (List.mem_of_getElem? (i := 34) rfl)) (ty := (.object "java/lang/String")) (by decide) rfl rfl (g := (mkF m 11 #[.val (.ref a1), .val (.ref s1), .val (.ref s2)] [(.ref s2), (.ref a1)])) rfl rfl (hb hby d7_11)
  have F7 := Fld.same W7 f6
  have z7 := W7.size
  have KK7 : Keep h0 h7 [a1] := KK4.wr W7 (Or.inl (by simp))
  have N7 := Fr.snoc X7 N4 (by omega)
  refine own_Fin.step (S' := T7.setTop (mkF m 14 #[.val (.ref a1), .val (.ref s1), .val (.ref s2)] [])) st7 ?_
  have f9 : Exa Z h7 a1 "com/example/rulebinder/rulebinder/Player" := (Exa.wr W7 f5)
  have hq8 : Q7 Z a1 s1 s2 u1 u2 h0 n0 none h7 _ := ⟨rfl, N7, KK7, f9⟩
  exact own_retV X7 hx hlk hrt (hb hby d7_14) e7 hq8 (by decide) (by decide)
theorem d9_0 : decode prog_8_method_1_code 0 = .ok (.aload_n 0, 1) := by decide +kernel
theorem d9_1 : decode prog_8_method_1_code 1 = .ok (.invokespecial 3, 3) := by decide +kernel
theorem d9_4 : decode prog_8_method_1_code 4 = .ok (.aload_n 0, 1) := by decide +kernel
theorem d9_5 : decode prog_8_method_1_code 5 = .ok (.aload_n 1, 1) := by decide +kernel
theorem d9_6 : decode prog_8_method_1_code 6 = .ok (.putfield 9, 3) := by decide +kernel
theorem d9_9 : decode prog_8_method_1_code 9 = .ok (.aload_n 0, 1) := by decide +kernel
theorem d9_10 : decode prog_8_method_1_code 10 = .ok (.aload_n 2, 1) := by decide +kernel
theorem d9_11 : decode prog_8_method_1_code 11 = .ok (.putfield 15, 3) := by decide +kernel
theorem d9_14 : decode prog_8_method_1_code 14 = .ok (.aload_n 0, 1) := by decide +kernel
theorem d9_15 : decode prog_8_method_1_code 15 = .ok (.aload_n 3, 1) := by decide +kernel
theorem d9_16 : decode prog_8_method_1_code 16 = .ok (.putfield 19, 3) := by decide +kernel
theorem d9_19 : decode prog_8_method_1_code 19 = .ok (.aload_n 0, 1) := by decide +kernel
theorem d9_20 : decode prog_8_method_1_code 20 = .ok (.aload 4, 2) := by decide +kernel
theorem d9_22 : decode prog_8_method_1_code 22 = .ok (.putfield 22, 3) := by decide +kernel
theorem d9_25 : decode prog_8_method_1_code 25 = .ok (.aload_n 0, 1) := by decide +kernel
theorem d9_26 : decode prog_8_method_1_code 26 = .ok (.aload 5, 2) := by decide +kernel
theorem d9_28 : decode prog_8_method_1_code 28 = .ok (.putfield 25, 3) := by decide +kernel
theorem d9_31 : decode prog_8_method_1_code 31 = .ok (.return_, 1) := by decide +kernel
theorem pn_9 : plainName "com/example/rulebinder/rulebinder/Bracket$Match" = true := by first | (simp [plainName, overriddenIn]; done) | decide +kernel
theorem pd_9_0 : parseMethodDescriptor "()V" = some ⟨[], none⟩ := by decide +kernel
theorem ef_9 (m : MethodId) (x0 : Addr) (x1 : Addr) (x2 : Value) (x3 : Value) (x4 : Value) (x5 : Addr) (c2 : x2.category = 1) (c3 : x3.category = 1) (c4 : x4.category = 1) : entryFrame m #[(.ref x0), (.ref x1), x2, x3, x4, (.ref x5)] 6 = mkF m 0 #[.val (.ref x0), .val (.ref x1), .val x2, .val x3, .val x4, .val (.ref x5)] [] := by first | (simp [entryFrame, mkF, argsToLocals, own_catR, own_catI, own_catJ, own_catN, c2, c3, c4]; done) | rfl
def Q9 (Z : State) (a1 : Addr) (s1 : Addr) (v1 : Value) (v2 : Value) (v3 : Value) (s2 : Addr) (u0 : Value) (u1 : Value) (u2 : Value) (u3 : Value) (u4 : Value) (h0 : Heap) (n0 : Nat) (v : Option Value) (h : Heap) (L : List Loc) : Prop := v = none ∧ Fr n0 L ∧ Keep h0 h [a1] ∧ Exa Z h a1 "com/example/rulebinder/rulebinder/Bracket$Match" ∧ Fld Z h a1 "com/example/rulebinder/rulebinder/Bracket$Match" "state" "Lcom/example/rulebinder/rulebinder/Bracket$State;" (.ref s2)
set_option maxRecDepth 65536 in
set_option maxHeartbeats 40000000 in
theorem rm9 (l : Launch) (Z : State) (a0 : Array Value) (hw : ∀ d ∈ tables_1, d.before a0 Z = true) (ws : List Jvm.Cond) (a1 : Addr) (s1 : Addr) (v1 : Value) (v2 : Value) (v3 : Value) (s2 : Addr) (u0 : Value) (u1 : Value) (u2 : Value) (u3 : Value) (u4 : Value) (h0 : Heap) (n0 : Nat) (Z0 : n0 ≤ h0.size) (P0 : Exa Z h0 a1 "com/example/rulebinder/rulebinder/Bracket$Match") (P1 : Fld Z h0 a1 "com/example/rulebinder/rulebinder/Bracket$Match" "name" "Ljava/lang/String;" u0) (P2 : Fld Z h0 a1 "com/example/rulebinder/rulebinder/Bracket$Match" "first" "Lcom/example/rulebinder/rulebinder/Player;" u1) (P3 : Fld Z h0 a1 "com/example/rulebinder/rulebinder/Bracket$Match" "second" "Lcom/example/rulebinder/rulebinder/Player;" u2) (P4 : Fld Z h0 a1 "com/example/rulebinder/rulebinder/Bracket$Match" "winner" "Lcom/example/rulebinder/rulebinder/Player;" u3) (P5 : Fld Z h0 a1 "com/example/rulebinder/rulebinder/Bracket$Match" "state" "Lcom/example/rulebinder/rulebinder/Bracket$State;" u4) (g_a1 : n0 ≤ a1) (h_v1 : v1.isRef = true) (h_v2 : v2.isRef = true) (h_v3 : v3.isRef = true) :
    MetFree l (⟨"com/example/rulebinder/rulebinder/Bracket$Match", "<init>", "(Ljava/lang/String;Lcom/example/rulebinder/rulebinder/Player;Lcom/example/rulebinder/rulebinder/Player;Lcom/example/rulebinder/rulebinder/Player;Lcom/example/rulebinder/rulebinder/Bracket$State;)V"⟩ : MethodName) (head1 (Jvm.Cond.code (⟨"com/example/rulebinder/rulebinder/Bracket$Match", "<init>", "(Ljava/lang/String;Lcom/example/rulebinder/rulebinder/Player;Lcom/example/rulebinder/rulebinder/Player;Lcom/example/rulebinder/rulebinder/Player;Lcom/example/rulebinder/rulebinder/Bracket$State;)V"⟩ : MethodName) prog_8_method_1_code 6 none :: ws) ({ frames := 2, cells := 0, slots := 0, locals := 24 } : Room)) (fun a U => a = #[(.ref a1), (.ref s1), v1, v2, v3, (.ref s2)] ∧ Z.Warmed39 U.vm ∧ U.heap = h0) (fun _ _ _ _ _ => True) (fun _ U o U' => ∃ v L, o = .returned v ∧ Q9 Z a1 s1 v1 v2 v3 s2 u0 u1 u2 u3 u4 h0 n0 v U'.heap L ∧ FrameEnd U o U' L ({ frames := 2, cells := 0, slots := 0, locals := 24 } : Room).cells ({ frames := 2, cells := 0, slots := 0, locals := 24 } : Room).slots) := by
  refine MetFree.of_bodySF (plainFor_of_name pn_9) hisR ?_
  intro p e s m args below meth c s₁ Bd hml0 hP hK
  obtain ⟨rfl, hZ, hh⟩ := hP
  have hx := Bd.exec
  have hby := Bd.bytes
  have hml : c.maxLocals = 6 := hml0
  have hown : s.vm.findClass "com/example/rulebinder/rulebinder/Bracket$Match" = some m.cls := findClass_of_methodNamed Bd.named
  have hnm := (name_of_methodNamed Bd.named Bd.method).1
  have hlk : meth.locks = false := BodyLoose.notSynchronized Bd
  have hrt := Bd.returns
  have X0 : Stand p l e ({ frames := 2, cells := 0, slots := 0, locals := 24 } : Room) s m #[(.ref a1), (.ref s1), v1, v2, v3, (.ref s2)] below meth c s₁ [] 0 0 := Stand.of_body Bd
  have e0 : s₁.heap = h0 := by rw [← hh, Bd.state]; rfl
  have N0 := Fr.nil n0
  show own_Fin p.tables e below (own_post (Q9 Z a1 s1 v1 v2 v3 s2 u0 u1 u2 u3 u4 h0 n0) s ({ frames := 2, cells := 0, slots := 0, locals := 24 } : Room).cells ({ frames := 2, cells := 0, slots := 0, locals := 24 } : Room).slots) (s₁.setTop (entryFrame m #[(.ref a1), (.ref s1), v1, v2, v3, (.ref s2)] 6))
  refine own_Fin.step (fun t k => castTop (ef_9 m a1 s1 v1 v2 v3 s2 (own_cat1 h_v1) (own_cat1 h_v2) (own_cat1 h_v3)) k) ?_
  have lt_P0 : @LT.lt Nat _ a1 (Array.size h0) := P0.lt
  have lt_P1 : @LT.lt Nat _ a1 (Array.size h0) := P1.lt
  have lt_P2 : @LT.lt Nat _ a1 (Array.size h0) := P2.lt
  have lt_P3 : @LT.lt Nat _ a1 (Array.size h0) := P3.lt
  have lt_P4 : @LT.lt Nat _ a1 (Array.size h0) := P4.lt
  have lt_P5 : @LT.lt Nat _ a1 (Array.size h0) := P5.lt
  refine own_Fin.step (S' := s₁.setTop (mkF m 1 #[.val (.ref a1), .val (.ref s1), .val v1, .val v2, .val v3, .val (.ref s2)] [(.ref a1)])) (fun t k => XS.aloadN X0.here hx rfl (hb hby d9_0) rfl rfl  k) ?_
  obtain ⟨_, _, ⟨T10, L10, k10, n10⟩, -, X10, ⟨Lc10, hQ10, l10, y10, zz10⟩, st10⟩ := X0.specialBack hx (y := (⟨"java/lang/Record", "<init>", "()V"⟩ : MethodName)) rfl hown (mvT hZ (hw _ (List.mem_of_getElem? (i := 55) rfl))) (mvT hZ (hw _ (List.mem_of_getElem? (i := 40) rfl))) (mvT hZ (hw _ (List.mem_of_getElem? (i := 43) rfl))) (by decide) (backOf (W := 0) (rm8 l Z a0 hw [] a1 h0 n0 (by omega) ) hZ (hw _ (List.mem_of_getElem? (i := 43) rfl)) (hw _ (List.mem_of_getElem? (i := 42) rfl)) (by decide) (by decide)) (g := (mkF m 1 #[.val (.ref a1), .val (.ref s1), .val v1, .val v2, .val v3, .val (.ref s2)] [(.ref a1)])) rfl (by rw [hml]; rfl) (Steps.refl _) (a := a1) (argsL := []) (rest := []) (lenOf pd_9_0 rfl) rfl (by show 2 * 0 + _ ≤ _; exact Nat.le_of_eq rfl) (hb hby d9_1) (fun _ _ => ⟨rfl, e0, (by decide : 0 + 0 ≤ _), (by decide : 0 + 0 ≤ _)⟩)
  dsimp only [Pt.U, Pt.locs, Pt.cells, Pt.slots] at X10 l10 y10 zz10 st10 hQ10
  subst l10 y10 zz10
  obtain ⟨rfl, N10q, e10⟩ := hQ10
  have N10 := Fr.app N0 N10q
  refine own_Fin.trans (S' := T10.setTop (mkF m 4 #[.val (.ref a1), .val (.ref s1), .val v1, .val v2, .val v3, .val (.ref s2)] [])) st10 ?_
  refine own_Fin.step (S' := T10.setTop (mkF m 5 #[.val (.ref a1), .val (.ref s1), .val v1, .val v2, .val v3, .val (.ref s2)] [(.ref a1)])) (fun t k => XS.aloadN X10.here hx rfl (hb hby d9_4) rfl rfl  k) ?_
  refine own_Fin.step (S' := T10.setTop (mkF m 6 #[.val (.ref a1), .val (.ref s1), .val v1, .val v2, .val v3, .val (.ref s2)] [(.ref s1), (.ref a1)])) (fun t k => XS.aloadN X10.here hx rfl (hb hby d9_5) rfl rfl  k) ?_
  obtain ⟨T11, h11, X11, e11, W11, st11⟩ := putF X10 hx hZ hown (host := "") (Or.inl (hw _ (List.mem_of_getElem? (i := 56) rfl))) Via.refl e10 P1 P0 (Or.inr ⟨(hw _ (List.mem_of_getElem? (i := 57) rfl)), rfl, hnm⟩) (hw _ (List.mem_of_getElem? (i := 50) rfl)) (ty := (.object "java/lang/String")) (by decide) rfl rfl (g := (mkF m 6 #[.val (.ref a1), .val (.ref s1), .val v1, .val v2, .val v3, .val (.ref s2)] [(.ref s1), (.ref a1)])) rfl rfl (hb hby d9_6)
  have F11 := Fld.same W11 P1
  have z11 := W11.size
  have KK11 : Keep h0 h11 [a1] := (Keep.refl h0 [a1]).wr W11 (Or.inl (by simp))
  have N11 := Fr.snoc X11 N10 (by omega)
  refine own_Fin.step (S' := T11.setTop (mkF m 9 #[.val (.ref a1), .val (.ref s1), .val v1, .val v2, .val v3, .val (.ref s2)] [])) st11 ?_
  refine own_Fin.step (S' := T11.setTop (mkF m 10 #[.val (.ref a1), .val (.ref s1), .val v1, .val v2, .val v3, .val (.ref s2)] [(.ref a1)])) (fun t k => XS.aloadN X11.here hx rfl (hb hby d9_9) rfl rfl  k) ?_
  refine own_Fin.step (S' := T11.setTop (mkF m 11 #[.val (.ref a1), .val (.ref s1), .val v1, .val v2, .val v3, .val (.ref s2)] [v1, (.ref a1)])) (fun t k => XS.aloadN X11.here hx rfl (hb hby d9_10) rfl h_v1  k) ?_
  have f12 : Exa Z h11 a1 "com/example/rulebinder/rulebinder/Bracket$Match" := (Exa.wr W11 P0)
  have f13 : Fld Z h11 a1 "com/example/rulebinder/rulebinder/Bracket$Match" "first" "Lcom/example/rulebinder/rulebinder/Player;" u1 := (Fld.other W11 P2 (Or.inr (slot_ne (Or.inr (hw _ (List.mem_of_getElem? (i := 59) rfl))) (Or.inr (hw _ (List.mem_of_getElem? (i := 57) rfl))) (by decide) (t := (.object "com/example/rulebinder/rulebinder/Player")) (t' := (.object "java/lang/String")) (by decide) (by decide))))
  obtain ⟨T14, h14, X14, e14, W14, st14⟩ := putF X11 hx hZ hown (host := "") (Or.inl (hw _ (List.mem_of_getElem? (i := 58) rfl))) Via.refl e11 f13 f12 (Or.inr ⟨(hw _ (List.mem_of_getElem? (i := 59) rfl)), rfl, hnm⟩) (hw _ (List.mem_of_getElem? (i := 50) rfl)) (ty := (.object "com/example/rulebinder/rulebinder/Player")) (by decide) rfl (own_fitR h_v1) (g := (mkF m 11 #[.val (.ref a1), .val (.ref s1), .val v1, .val v2, .val v3, .val (.ref s2)] [v1, (.ref a1)])) rfl rfl (hb hby d9_11)
  have F14 := Fld.same W14 f13
  have z14 := W14.size
  have KK14 : Keep h0 h14 [a1] := KK11.wr W14 (Or.inl (by simp))
  have N14 := Fr.snoc X14 N11 (by omega)
  refine own_Fin.step (S' := T14.setTop (mkF m 14 #[.val (.ref a1), .val (.ref s1), .val v1, .val v2, .val v3, .val (.ref s2)] [])) st14 ?_
  refine own_Fin.step (S' := T14.setTop (mkF m 15 #[.val (.ref a1), .val (.ref s1), .val v1, .val v2, .val v3, .val (.ref s2)] [(.ref a1)])) (fun t k => XS.aloadN X14.here hx rfl (hb hby d9_14) rfl rfl  k) ?_
  refine own_Fin.step (S' := T14.setTop (mkF m 16 #[.val (.ref a1), .val (.ref s1), .val v1, .val v2, .val v3, .val (.ref s2)] [v2, (.ref a1)])) (fun t k => XS.aloadN X14.here hx rfl (hb hby d9_15) rfl h_v2  k) ?_
  have f15 : Exa Z h14 a1 "com/example/rulebinder/rulebinder/Bracket$Match" := (Exa.wr W14 f12)
  have f16 : Fld Z h14 a1 "com/example/rulebinder/rulebinder/Bracket$Match" "second" "Lcom/example/rulebinder/rulebinder/Player;" u2 := (Fld.other W14 (Fld.other W11 P3 (Or.inr (slot_ne (Or.inr (hw _ (List.mem_of_getElem? (i := 61) rfl))) (Or.inr (hw _ (List.mem_of_getElem? (i := 57) rfl))) (by decide) (t := (.object "com/example/rulebinder/rulebinder/Player")) (t' := (.object "java/lang/String")) (by decide) (by decide)))) (Or.inr (slot_ne (Or.inr (hw _ (List.mem_of_getElem? (i := 61) rfl))) (Or.inr (hw _ (List.mem_of_getElem? (i := 59) rfl))) (by decide) (t := (.object "com/example/rulebinder/rulebinder/Player")) (t' := (.object "com/example/rulebinder/rulebinder/Player")) (by decide) (by decide))))
  obtain ⟨T17, h17, X17, e17, W17, st17⟩ := putF X14 hx hZ hown (host := "") (Or.inl (hw _ (List.mem_of_getElem? (i := 60) rfl))) Via.refl e14 f16 f15 (Or.inr ⟨(hw _ (List.mem_of_getElem? (i := 61) rfl)), rfl, hnm⟩) (hw _ (List.mem_of_getElem? (i := 50) rfl)) (ty := (.object "com/example/rulebinder/rulebinder/Player")) (by decide) rfl (own_fitR h_v2) (g := (mkF m 16 #[.val (.ref a1), .val (.ref s1), .val v1, .val v2, .val v3, .val (.ref s2)] [v2, (.ref a1)])) rfl rfl (hb hby d9_16)
  have F17 := Fld.same W17 f16
  have z17 := W17.size
  have KK17 : Keep h0 h17 [a1] := KK14.wr W17 (Or.inl (by simp))
  have N17 := Fr.snoc X17 N14 (by omega)
  refine own_Fin.step (S' := T17.setTop (mkF m 19 #[.val (.ref a1), .val (.ref s1), .val v1, .val v2, .val v3, .val (.ref s2)] [])) st17 ?_
  refine own_Fin.step (S' := T17.setTop (mkF m 20 #[.val (.ref a1), .val (.ref s1), .val v1, .val v2, .val v3, .val (.ref s2)] [(.ref a1)])) (fun t k => XS.aloadN X17.here hx rfl (hb hby d9_19) rfl rfl  k) ?_
  refine own_Fin.step (S' := T17.setTop (mkF m 22 #[.val (.ref a1), .val (.ref s1), .val v1, .val v2, .val v3, .val (.ref s2)] [v3, (.ref a1)])) (fun t k => XS.aload X17.here hx rfl (hb hby d9_20) rfl h_v3  k) ?_
  have f18 : Exa Z h17 a1 "com/example/rulebinder/rulebinder/Bracket$Match" := (Exa.wr W17 f15)
  have f19 : Fld Z h17 a1 "com/example/rulebinder/rulebinder/Bracket$Match" "winner" "Lcom/example/rulebinder/rulebinder/Player;" u3 := (Fld.other W17 (Fld.other W14 (Fld.other W11 P4 (Or.inr (slot_ne (Or.inr (hw _ (List.mem_of_getElem? (i := 63) rfl))) (Or.inr (hw _ (List.mem_of_getElem? (i := 57) rfl))) (by decide) (t := (.object "com/example/rulebinder/rulebinder/Player")) (t' := (.object "java/lang/String")) (by decide) (by decide)))) (Or.inr (slot_ne (Or.inr (hw _ (List.mem_of_getElem? (i := 63) rfl))) (Or.inr (hw _ (List.mem_of_getElem? (i := 59) rfl))) (by decide) (t := (.object "com/example/rulebinder/rulebinder/Player")) (t' := (.object "com/example/rulebinder/rulebinder/Player")) (by decide) (by decide)))) (Or.inr (slot_ne (Or.inr (hw _ (List.mem_of_getElem? (i := 63) rfl))) (Or.inr (hw _ (List.mem_of_getElem? (i := 61) rfl))) (by decide) (t := (.object "com/example/rulebinder/rulebinder/Player")) (t' := (.object "com/example/rulebinder/rulebinder/Player")) (by decide) (by decide))))
  obtain ⟨T20, h20, X20, e20, W20, st20⟩ := putF X17 hx hZ hown (host := "") (Or.inl (hw _ (List.mem_of_getElem? (i := 62) rfl))) Via.refl e17 f19 f18 (Or.inr ⟨(hw _ (List.mem_of_getElem? (i := 63) rfl)), rfl, hnm⟩) (hw _ (List.mem_of_getElem? (i := 50) rfl)) (ty := (.object "com/example/rulebinder/rulebinder/Player")) (by decide) rfl (own_fitR h_v3) (g := (mkF m 22 #[.val (.ref a1), .val (.ref s1), .val v1, .val v2, .val v3, .val (.ref s2)] [v3, (.ref a1)])) rfl rfl (hb hby d9_22)
  have F20 := Fld.same W20 f19
  have z20 := W20.size
  have KK20 : Keep h0 h20 [a1] := KK17.wr W20 (Or.inl (by simp))
  have N20 := Fr.snoc X20 N17 (by omega)
  refine own_Fin.step (S' := T20.setTop (mkF m 25 #[.val (.ref a1), .val (.ref s1), .val v1, .val v2, .val v3, .val (.ref s2)] [])) st20 ?_
  refine own_Fin.step (S' := T20.setTop (mkF m 26 #[.val (.ref a1), .val (.ref s1), .val v1, .val v2, .val v3, .val (.ref s2)] [(.ref a1)])) (fun t k => XS.aloadN X20.here hx rfl (hb hby d9_25) rfl rfl  k) ?_
  refine own_Fin.step (S' := T20.setTop (mkF m 28 #[.val (.ref a1), .val (.ref s1), .val v1, .val v2, .val v3, .val (.ref s2)] [(.ref s2), (.ref a1)])) (fun t k => XS.aload X20.here hx rfl (hb hby d9_26) rfl rfl  k) ?_
  have f21 : Exa Z h20 a1 "com/example/rulebinder/rulebinder/Bracket$Match" := (Exa.wr W20 f18)
  have f22 : Fld Z h20 a1 "com/example/rulebinder/rulebinder/Bracket$Match" "state" "Lcom/example/rulebinder/rulebinder/Bracket$State;" u4 := (Fld.other W20 (Fld.other W17 (Fld.other W14 (Fld.other W11 P5 (Or.inr (slot_ne (Or.inr (hw _ (List.mem_of_getElem? (i := 65) rfl))) (Or.inr (hw _ (List.mem_of_getElem? (i := 57) rfl))) (by decide) (t := (.object "com/example/rulebinder/rulebinder/Bracket$State")) (t' := (.object "java/lang/String")) (by decide) (by decide)))) (Or.inr (slot_ne (Or.inr (hw _ (List.mem_of_getElem? (i := 65) rfl))) (Or.inr (hw _ (List.mem_of_getElem? (i := 59) rfl))) (by decide) (t := (.object "com/example/rulebinder/rulebinder/Bracket$State")) (t' := (.object "com/example/rulebinder/rulebinder/Player")) (by decide) (by decide)))) (Or.inr (slot_ne (Or.inr (hw _ (List.mem_of_getElem? (i := 65) rfl))) (Or.inr (hw _ (List.mem_of_getElem? (i := 61) rfl))) (by decide) (t := (.object "com/example/rulebinder/rulebinder/Bracket$State")) (t' := (.object "com/example/rulebinder/rulebinder/Player")) (by decide) (by decide)))) (Or.inr (slot_ne (Or.inr (hw _ (List.mem_of_getElem? (i := 65) rfl))) (Or.inr (hw _ (List.mem_of_getElem? (i := 63) rfl))) (by decide) (t := (.object "com/example/rulebinder/rulebinder/Bracket$State")) (t' := (.object "com/example/rulebinder/rulebinder/Player")) (by decide) (by decide))))
  obtain ⟨T23, h23, X23, e23, W23, st23⟩ := putF X20 hx hZ hown (host := "") (Or.inl (hw _ (List.mem_of_getElem? (i := 64) rfl))) Via.refl e20 f22 f21 (Or.inr ⟨(hw _ (List.mem_of_getElem? (i := 65) rfl)), rfl, hnm⟩) (hw _ (List.mem_of_getElem? (i := 50) rfl)) (ty := (.object "com/example/rulebinder/rulebinder/Bracket$State")) (by decide) rfl rfl (g := (mkF m 28 #[.val (.ref a1), .val (.ref s1), .val v1, .val v2, .val v3, .val (.ref s2)] [(.ref s2), (.ref a1)])) rfl rfl (hb hby d9_28)
  have F23 := Fld.same W23 f22
  have z23 := W23.size
  have KK23 : Keep h0 h23 [a1] := KK20.wr W23 (Or.inl (by simp))
  have N23 := Fr.snoc X23 N20 (by omega)
  refine own_Fin.step (S' := T23.setTop (mkF m 31 #[.val (.ref a1), .val (.ref s1), .val v1, .val v2, .val v3, .val (.ref s2)] [])) st23 ?_
  have f25 : Exa Z h23 a1 "com/example/rulebinder/rulebinder/Bracket$Match" := (Exa.wr W23 f21)
  have hq24 : Q9 Z a1 s1 v1 v2 v3 s2 u0 u1 u2 u3 u4 h0 n0 none h23 _ := ⟨rfl, N23, KK23, f25, F23⟩
  exact own_retV X23 hx hlk hrt (hb hby d9_31) e23 hq24 (by decide) (by decide)
theorem d10_0 : decode prog_8_method_2_code 0 = .ok (.aload_n 0, 1) := by decide +kernel
theorem d10_1 : decode prog_8_method_2_code 1 = .ok (.getfield 25, 3) := by decide +kernel
theorem d10_4 : decode prog_8_method_2_code 4 = .ok (.getstatic 29, 3) := by decide +kernel
theorem d10_7 : decode prog_8_method_2_code 7 = .ok (.if_acmp .eq 13, 3) := by decide +kernel
theorem d10_10 : decode prog_8_method_2_code 10 = .ok (.aload_n 0, 1) := by decide +kernel
theorem d10_11 : decode prog_8_method_2_code 11 = .ok (.getfield 25, 3) := by decide +kernel
theorem d10_14 : decode prog_8_method_2_code 14 = .ok (.getstatic 34, 3) := by decide +kernel
theorem d10_17 : decode prog_8_method_2_code 17 = .ok (.if_acmp .ne 7, 3) := by decide +kernel
theorem d10_20 : decode prog_8_method_2_code 20 = .ok (.iconst 1, 1) := by decide +kernel
theorem d10_21 : decode prog_8_method_2_code 21 = .ok (.goto 4, 3) := by decide +kernel
theorem d10_24 : decode prog_8_method_2_code 24 = .ok (.iconst 0, 1) := by decide +kernel
theorem d10_25 : decode prog_8_method_2_code 25 = .ok (.ireturn, 1) := by decide +kernel
theorem pn_10 : plainName "com/example/rulebinder/rulebinder/Bracket$Match" = true := by first | (simp [plainName, overriddenIn]; done) | decide +kernel
theorem ef_10 (m : MethodId) (x0 : Addr) : entryFrame m #[(.ref x0)] 1 = mkF m 0 #[.val (.ref x0)] [] := by first | (simp [entryFrame, mkF, argsToLocals, Value.category]; done) | rfl
def Q10 (Z : State) (o_WAITING : Addr) (o_PLAYED : Addr) (o_BYE : Addr) (o_READY : Addr) (G1 : Int32) (a1 : Addr) (sa : Addr) (h0 : Heap) (n0 : Nat) (v : Option Value) (h : Heap) (L : List Loc) : Prop := own_bool (sa = o_PLAYED ∨ sa = o_BYE) v ∧ Fr n0 L ∧ h = h0
set_option maxRecDepth 65536 in
set_option maxHeartbeats 40000000 in
theorem rm10 (l : Launch) (Z : State) (a0 : Array Value) (hw : ∀ d ∈ tables_1, d.before a0 Z = true) (ws : List Jvm.Cond) (o_WAITING : Addr) (o_PLAYED : Addr) (o_BYE : Addr) (o_READY : Addr) (G1 : Int32) (a1 : Addr) (sa : Addr) (h0 : Heap) (n0 : Nat) (Z0 : n0 ≤ h0.size) (OLD : Old Z n0 h0) (A : Amb Z o_WAITING o_PLAYED o_BYE o_READY G1) (P0 : Fld Z h0 a1 "com/example/rulebinder/rulebinder/Bracket$Match" "state" "Lcom/example/rulebinder/rulebinder/Bracket$State;" (.ref sa)) :
    MetFree l (⟨"com/example/rulebinder/rulebinder/Bracket$Match", "isDecided", "()Z"⟩ : MethodName) (head1 (Jvm.Cond.code (⟨"com/example/rulebinder/rulebinder/Bracket$Match", "isDecided", "()Z"⟩ : MethodName) prog_8_method_2_code 1 (some .boolean) :: ws) ({ frames := 0, cells := 0, slots := 0, locals := 0 } : Room)) (fun a U => a = #[(.ref a1)] ∧ Z.Warmed39 U.vm ∧ U.heap = h0) (fun _ _ _ _ _ => True) (fun _ U o U' => ∃ v L, o = .returned v ∧ Q10 Z o_WAITING o_PLAYED o_BYE o_READY G1 a1 sa h0 n0 v U'.heap L ∧ FrameEnd U o U' L ({ frames := 0, cells := 0, slots := 0, locals := 0 } : Room).cells ({ frames := 0, cells := 0, slots := 0, locals := 0 } : Room).slots) := by
  refine MetFree.of_bodySF (plainFor_of_name pn_10) hisR ?_
  intro p e s m args below meth c s₁ Bd hml0 hP hK
  obtain ⟨rfl, hZ, hh⟩ := hP
  have hx := Bd.exec
  have hby := Bd.bytes
  have hml : c.maxLocals = 1 := hml0
  have hown : s.vm.findClass "com/example/rulebinder/rulebinder/Bracket$Match" = some m.cls := findClass_of_methodNamed Bd.named
  have hnm := (name_of_methodNamed Bd.named Bd.method).1
  have hlk : meth.locks = false := BodyLoose.notSynchronized Bd
  have hrt := Bd.returns
  have X0 : Stand p l e ({ frames := 0, cells := 0, slots := 0, locals := 0 } : Room) s m #[(.ref a1)] below meth c s₁ [] 0 0 := Stand.of_body Bd
  have e0 : s₁.heap = h0 := by rw [← hh, Bd.state]; rfl
  have N0 := Fr.nil n0
  show own_Fin p.tables e below (own_post (Q10 Z o_WAITING o_PLAYED o_BYE o_READY G1 a1 sa h0 n0) s ({ frames := 0, cells := 0, slots := 0, locals := 0 } : Room).cells ({ frames := 0, cells := 0, slots := 0, locals := 0 } : Room).slots) (s₁.setTop (entryFrame m #[(.ref a1)] 1))
  refine own_Fin.step (fun t k => castTop (ef_10 m a1) k) ?_
  have lt_P0 : @LT.lt Nat _ a1 (Array.size h0) := P0.lt
  refine own_Fin.step (S' := s₁.setTop (mkF m 1 #[.val (.ref a1)] [(.ref a1)])) (fun t k => XS.aloadN X0.here hx rfl (hb hby d10_0) rfl rfl  k) ?_
  obtain ⟨T26, X26, e26, st26⟩ := getF X0 hx hZ hown (host := "") (Or.inl (hw _ (List.mem_of_getElem? (i := 64) rfl))) Via.refl e0 P0 (g := (mkF m 1 #[.val (.ref a1)] [(.ref a1)])) rfl rfl (hb hby d10_1)
  refine own_Fin.step (S' := T26.setTop (mkF m 4 #[.val (.ref a1)] [(.ref sa)])) st26 ?_
  have f27 : Sta Z h0 "com/example/rulebinder/rulebinder/Bracket$State" "PLAYED" "Lcom/example/rulebinder/rulebinder/Bracket$State;" (.ref o_PLAYED) := Sta.ext OLD.2 (Amb.a2 A)
  obtain ⟨T28, X28, e28, st28⟩ := getS2 X26 hx hZ hown (host := "") (Or.inl (hw _ (List.mem_of_getElem? (i := 71) rfl))) Via.refl e26 f27 (g := (mkF m 4 #[.val (.ref a1)] [(.ref sa)])) rfl (hb hby d10_4)
  refine own_Fin.step (S' := T28.setTop (mkF m 7 #[.val (.ref a1)] [(.ref o_PLAYED), (.ref sa)])) st28 ?_
  by_cases ha7 : sa = o_PLAYED
  · refine own_Fin.step (S' := T28.setTop (mkF m 20 #[.val (.ref a1)] [])) (fun t k => Jvm.RoadKit.acmp (g := (mkF m 7 #[.val (.ref a1)] [(.ref o_PLAYED), (.ref sa)])) X28 hx rfl rfl rfl (pc0 := 7) (pc' := 20) (same := true) rfl (hb hby d10_7) rfl (decide_eq_true (congrArg Value.ref ha7)) (by decide) (by decide) k) ?_
    refine own_Fin.step (S' := T28.setTop (mkF m 21 #[.val (.ref a1)] [(.int (1 : Int32))])) (fun t k => XS.iconst X28.here hx rfl (hb hby d10_20) k) ?_
    refine own_Fin.step (S' := T28.setTop (mkF m 25 #[.val (.ref a1)] [(.int (1 : Int32))])) (fun t k => XS.goto X28.here hx rfl (pc0 := 21) (pc' := 25) rfl (hb hby d10_21) (by decide) (by decide) k) ?_
    have hq29 : Q10 Z o_WAITING o_PLAYED o_BYE o_READY G1 a1 sa h0 n0 (some (.int (nar .boolean (1 : Int32)))) h0 _ := ⟨Or.inl ⟨rfl, (Or.inl ha7)⟩, N0, rfl⟩
    exact own_retN X28 hx hlk (t := .boolean) hrt (by simp) (hb hby d10_25) e28 hq29 (by decide) (by decide)
  · refine own_Fin.step (S' := T28.setTop (mkF m 10 #[.val (.ref a1)] [])) (fun t k => Jvm.RoadKit.acmp (g := (mkF m 7 #[.val (.ref a1)] [(.ref o_PLAYED), (.ref sa)])) X28 hx rfl rfl rfl (pc0 := 7) (pc' := 10) (same := false) rfl (hb hby d10_7) rfl (decide_eq_false fun q => ha7 (Value.ref.inj q)) (by decide) (by decide) k) ?_
    refine own_Fin.step (S' := T28.setTop (mkF m 11 #[.val (.ref a1)] [(.ref a1)])) (fun t k => XS.aloadN X28.here hx rfl (hb hby d10_10) rfl rfl  k) ?_
    obtain ⟨T30, X30, e30, st30⟩ := getF X28 hx hZ hown (host := "") (Or.inl (hw _ (List.mem_of_getElem? (i := 64) rfl))) Via.refl e28 P0 (g := (mkF m 11 #[.val (.ref a1)] [(.ref a1)])) rfl rfl (hb hby d10_11)
    refine own_Fin.step (S' := T30.setTop (mkF m 14 #[.val (.ref a1)] [(.ref sa)])) st30 ?_
    have f31 : Sta Z h0 "com/example/rulebinder/rulebinder/Bracket$State" "BYE" "Lcom/example/rulebinder/rulebinder/Bracket$State;" (.ref o_BYE) := Sta.ext OLD.2 (Amb.a4 A)
    obtain ⟨T32, X32, e32, st32⟩ := getS2 X30 hx hZ hown (host := "") (Or.inl (hw _ (List.mem_of_getElem? (i := 73) rfl))) Via.refl e30 f31 (g := (mkF m 14 #[.val (.ref a1)] [(.ref sa)])) rfl (hb hby d10_14)
    refine own_Fin.step (S' := T32.setTop (mkF m 17 #[.val (.ref a1)] [(.ref o_BYE), (.ref sa)])) st32 ?_
    by_cases ha17 : sa = o_BYE
    · refine own_Fin.step (S' := T32.setTop (mkF m 20 #[.val (.ref a1)] [])) (fun t k => Jvm.RoadKit.acmp (g := (mkF m 17 #[.val (.ref a1)] [(.ref o_BYE), (.ref sa)])) X32 hx rfl rfl rfl (pc0 := 17) (pc' := 20) (same := true) rfl (hb hby d10_17) rfl (decide_eq_true (congrArg Value.ref ha17)) (by decide) (by decide) k) ?_
      refine own_Fin.step (S' := T32.setTop (mkF m 21 #[.val (.ref a1)] [(.int (1 : Int32))])) (fun t k => XS.iconst X32.here hx rfl (hb hby d10_20) k) ?_
      refine own_Fin.step (S' := T32.setTop (mkF m 25 #[.val (.ref a1)] [(.int (1 : Int32))])) (fun t k => XS.goto X32.here hx rfl (pc0 := 21) (pc' := 25) rfl (hb hby d10_21) (by decide) (by decide) k) ?_
      have hq33 : Q10 Z o_WAITING o_PLAYED o_BYE o_READY G1 a1 sa h0 n0 (some (.int (nar .boolean (1 : Int32)))) h0 _ := ⟨Or.inl ⟨rfl, (Or.inr ha17)⟩, N0, rfl⟩
      exact own_retN X32 hx hlk (t := .boolean) hrt (by simp) (hb hby d10_25) e32 hq33 (by decide) (by decide)
    · refine own_Fin.step (S' := T32.setTop (mkF m 24 #[.val (.ref a1)] [])) (fun t k => Jvm.RoadKit.acmp (g := (mkF m 17 #[.val (.ref a1)] [(.ref o_BYE), (.ref sa)])) X32 hx rfl rfl rfl (pc0 := 17) (pc' := 24) (same := false) rfl (hb hby d10_17) rfl (decide_eq_false fun q => ha17 (Value.ref.inj q)) (by decide) (by decide) k) ?_
      refine own_Fin.step (S' := T32.setTop (mkF m 25 #[.val (.ref a1)] [(.int (0 : Int32))])) (fun t k => XS.iconst X32.here hx rfl (hb hby d10_24) k) ?_
      have hq34 : Q10 Z o_WAITING o_PLAYED o_BYE o_READY G1 a1 sa h0 n0 (some (.int (nar .boolean (0 : Int32)))) h0 _ := ⟨Or.inr ⟨rfl, (fun q => q.elim ha7 ha17)⟩, N0, rfl⟩
      exact own_retN X32 hx hlk (t := .boolean) hrt (by simp) (hb hby d10_25) e32 hq34 (by decide) (by decide)
theorem own_m255 (q : Int32) : ¬ (q &&& 255) < 0 ∧ ¬ (255 : Int32) < (q &&& 255) := by
  have h := c_mask q 255 8 (by decide) (by decide)
  rw [Int32.lt_iff_toInt_lt, Int32.lt_iff_toInt_lt]
  have e0 : (0 : Int32).toInt = 0 := rfl
  have e1 : (255 : Int32).toInt = 255 := rfl
  omega
theorem own_and255 (q : Int32) : ¬ nar .char ((q &&& (255 : Int32)).toUInt32.toUInt16.toUInt32.toInt32) < 0 ∧ ¬ (255 : Int32) < nar .char ((q &&& (255 : Int32)).toUInt32.toUInt16.toUInt32.toInt32) := by
  rw [show nar .char ((q &&& (255 : Int32)).toUInt32.toUInt16.toUInt32.toInt32) = q &&& 255 from by simp only [nar, i2c_mask]]; exact own_m255 q
theorem own_st {q v : Int32} (h : v = (q &&& (3 : Int32))) : (v = 0 → v < 2) ∧ (v = 1 → v < 2) ∧ (v = 2 → ¬ v < 2) ∧ (¬ v = 0 → ¬ v = 1 → ¬ v = 2 → ¬ v < 2) := by
  have h1 := c_mask q 3 2 (by decide) (by decide)
  rw [← h] at h1
  refine ⟨fun e => by subst e; decide, fun e => by subst e; decide, fun e => by subst e; decide, fun a b c => ?_⟩
  rw [Int32.lt_iff_toInt_lt]
  have e2 : (2 : Int32).toInt = 2 := rfl
  have a' : v.toInt ≠ 0 := fun e => a (Int32.toInt_inj.mp e)
  have b' : v.toInt ≠ 1 := fun e => b (Int32.toInt_inj.mp e)
  have c' : v.toInt ≠ 2 := fun e => c (Int32.toInt_inj.mp e)
  omega

theorem pn_0 : plainName "com/example/rulebinder/rulebinder/MatchIsDecidedPinLaw" = true := by first | (simp [plainName, overriddenIn]; done) | decide +kernel
theorem pd_0_0 : parseMethodDescriptor "([C)V" = some ⟨[(.array .char)], none⟩ := by decide +kernel
theorem pd_0_1 : parseMethodDescriptor "(Ljava/lang/String;Ljava/lang/String;)V" = some ⟨[(.object "java/lang/String"), (.object "java/lang/String")], none⟩ := by decide +kernel
theorem pd_0_2 : parseMethodDescriptor "(Ljava/lang/String;Lcom/example/rulebinder/rulebinder/Player;Lcom/example/rulebinder/rulebinder/Player;Lcom/example/rulebinder/rulebinder/Player;Lcom/example/rulebinder/rulebinder/Bracket$State;)V" = some ⟨[(.object "java/lang/String"), (.object "com/example/rulebinder/rulebinder/Player"), (.object "com/example/rulebinder/rulebinder/Player"), (.object "com/example/rulebinder/rulebinder/Player"), (.object "com/example/rulebinder/rulebinder/Bracket$State")], none⟩ := by decide +kernel
theorem pd_0_3 : parseMethodDescriptor "()Z" = some ⟨[], some .boolean⟩ := by decide +kernel
theorem ef_0 (m : MethodId) (x0 : Int32) (x1 : Int32) (x2 : Int32) : entryFrame m #[(.int x0), (.int x1), (.int x2)] maxLocals = mkF m 0 #[.val (.int x0), .val (.int x1), .val (.int x2), .unset, .unset, .unset, .unset, .unset, .unset, .unset, .unset, .unset, .unset] [] := by first | (simp [entryFrame, mkF, argsToLocals, Value.category, maxLocals]; done) | rfl
def Q0 (Z : State) (o_WAITING : Addr) (o_PLAYED : Addr) (o_BYE : Addr) (o_READY : Addr) (G1 : Int32) (i0 : Int32) (i1 : Int32) (i2 : Int32) (h0 : Heap) (n0 : Nat) (v : Option Value) (h : Heap) (L : List Loc) : Prop := v = some (.int (1 : Int32)) ∧ Fr n0 L
set_option maxRecDepth 65536 in
set_option maxHeartbeats 40000000 in
theorem rm0 (l : Launch) (Z : State) (a0 : Array Value) (hw : ∀ d ∈ tables_1, d.before a0 Z = true) (ws : List Jvm.Cond) (o_WAITING : Addr) (o_PLAYED : Addr) (o_BYE : Addr) (o_READY : Addr) (G1 : Int32) (i0 : Int32) (i1 : Int32) (i2 : Int32) (h0 : Heap) (n0 : Nat) (Z0 : n0 ≤ h0.size) (OLD : Old Z n0 h0) (A : Amb Z o_WAITING o_PLAYED o_BYE o_READY G1) :
    MetFree l x (head1 (Jvm.Cond.code x code maxLocals ret :: ws) room_1) (fun a U => a = #[(.int i0), (.int i1), (.int i2)] ∧ Z.Warmed39 U.vm ∧ U.heap = h0) (fun _ _ _ _ _ => True) (fun _ U o U' => ∃ v L, o = .returned v ∧ Q0 Z o_WAITING o_PLAYED o_BYE o_READY G1 i0 i1 i2 h0 n0 v U'.heap L ∧ FrameEnd U o U' L 24 128) := by
  refine MetFree.of_bodySF (plainFor_of_name pn_0) hisR ?_
  intro p e s m args below meth c s₁ Bd hml0 hP hK
  obtain ⟨rfl, hZ, hh⟩ := hP
  have hx := Bd.exec
  have hby := Bd.bytes
  have hml : c.maxLocals = 13 := hml0
  have hown : s.vm.findClass "com/example/rulebinder/rulebinder/MatchIsDecidedPinLaw" = some m.cls := findClass_of_methodNamed Bd.named
  have hnm := (name_of_methodNamed Bd.named Bd.method).1
  have hlk : meth.locks = false := BodyLoose.notSynchronized Bd
  have hrt := Bd.returns
  have X0 : Stand p l e room_1 s m #[(.int i0), (.int i1), (.int i2)] below meth c s₁ [] 0 0 := Stand.of_body Bd
  have e0 : s₁.heap = h0 := by rw [← hh, Bd.state]; rfl
  have N0 := Fr.nil n0
  show own_Fin p.tables e below (own_post (Q0 Z o_WAITING o_PLAYED o_BYE o_READY G1 i0 i1 i2 h0 n0) s 24 128) (s₁.setTop (entryFrame m #[(.int i0), (.int i1), (.int i2)] maxLocals))
  refine own_Fin.step (fun t k => castTop (ef_0 m i0 i1 i2) k) ?_
  refine own_Fin.step (S' := s₁.setTop (mkF m 1 #[.val (.int i0), .val (.int i1), .val (.int i2), .unset, .unset, .unset, .unset, .unset, .unset, .unset, .unset, .unset, .unset] [(.int i0)])) (fun t k => XS.iloadN X0.here hx rfl (hb hby at_0) rfl  k) ?_
  refine own_Fin.step (S' := s₁.setTop (mkF m 2 #[.val (.int i0), .val (.int i1), .val (.int i2), .unset, .unset, .unset, .unset, .unset, .unset, .unset, .unset, .unset, .unset] [(.int (3 : Int32)), (.int i0)])) (fun t k => XS.iconst X0.here hx rfl (hb hby at_1) k) ?_
  refine own_Fin.step (S' := s₁.setTop (mkF m 3 #[.val (.int i0), .val (.int i1), .val (.int i2), .unset, .unset, .unset, .unset, .unset, .unset, .unset, .unset, .unset, .unset] [(.int (i0 &&& (3 : Int32)))])) (fun t k => XS.iand X0.here hx rfl (hb hby at_2) rfl k) ?_
  obtain ⟨v3, hv3⟩ : ∃ z : Int32, z = (i0 &&& (3 : Int32)) := ⟨_, rfl⟩
  rw [← hv3]
  refine own_Fin.step (S' := s₁.setTop (mkF m 4 #[.val (.int i0), .val (.int i1), .val (.int i2), .val (.int v3), .unset, .unset, .unset, .unset, .unset, .unset, .unset, .unset, .unset] [])) (fun t k => XS.istoreN X0.here hx rfl (hb hby at_3) rfl (l' := #[.val (.int i0), .val (.int i1), .val (.int i2), .val (.int v3), .unset, .unset, .unset, .unset, .unset, .unset, .unset, .unset, .unset]) rfl k) ?_
  refine own_Fin.step (S' := s₁.setTop (mkF m 5 #[.val (.int i0), .val (.int i1), .val (.int i2), .val (.int v3), .unset, .unset, .unset, .unset, .unset, .unset, .unset, .unset, .unset] [(.int v3)])) (fun t k => XS.iloadN X0.here hx rfl (hb hby at_4) rfl  k) ?_
  have J35 : ∀ (TJ35 : State) (LJ35 : List Loc) (hJ35 : Heap) (sa : Addr), Stand p l e room_1 s m #[(.int i0), (.int i1), (.int i2)] below meth c TJ35 LJ35 0 0 → TJ35.heap = hJ35 → Fr n0 LJ35 → h0.size ≤ hJ35.size → Old Z n0 hJ35 → (¬ v3 < 2 ∧ (sa = o_PLAYED ∨ sa = o_BYE)) ∨ (v3 < 2 ∧ ¬ (sa = o_PLAYED ∨ sa = o_BYE)) → own_Fin p.tables e below (own_post (Q0 Z o_WAITING o_PLAYED o_BYE o_READY G1 i0 i1 i2 h0 n0) s 24 128) (TJ35.setTop (mkF m 39 #[.val (.int i0), .val (.int i1), .val (.int i2), .val (.int v3), .unset, .unset, .unset, .unset, .unset, .unset, .unset, .unset, .unset] [(.ref sa)])) := by
    intro TJ35 LJ35 hJ35 sa XJ35 eJ35 NJ35 zJ35 FJ35_0 hsa
    refine own_Fin.step (S' := TJ35.setTop (mkF m 41 #[.val (.int i0), .val (.int i1), .val (.int i2), .val (.int v3), .val (.ref sa), .unset, .unset, .unset, .unset, .unset, .unset, .unset, .unset] [])) (fun t k => XS.astore XJ35.here hx rfl (hb hby at_39) rfl rfl (l' := #[.val (.int i0), .val (.int i1), .val (.int i2), .val (.int v3), .val (.ref sa), .unset, .unset, .unset, .unset, .unset, .unset, .unset, .unset]) rfl k) ?_
    refine own_Fin.step (S' := TJ35.setTop (mkF m 42 #[.val (.int i0), .val (.int i1), .val (.int i2), .val (.int v3), .val (.ref sa), .unset, .unset, .unset, .unset, .unset, .unset, .unset, .unset] [(.int (1 : Int32))])) (fun t k => XS.iconst XJ35.here hx rfl (hb hby at_41) k) ?_
    obtain ⟨T36, h36, k36, X36, e36, E36, A36, B36, st36⟩ := newPE XJ35 hx hZ (hw _ (List.mem_of_getElem? (i := 3) rfl)) eJ35 (g := (mkF m 42 #[.val (.int i0), .val (.int i1), .val (.int i2), .val (.int v3), .val (.ref sa), .unset, .unset, .unset, .unset, .unset, .unset, .unset, .unset] [(.int (1 : Int32))])) rfl (hb hby at_42) rfl (by decide) (cap := 1) (by decide) (by decide) (by decide) (by decide) (ad := "[C") rfl
    obtain ⟨b36, g36⟩ : ∃ z, z = hJ35.size := ⟨_, rfl⟩
    rw [← g36] at A36 B36 st36
    have ll36 : @LT.lt Nat _ b36 (Array.size h36) := A36.lt
    have z36 := E36.1
    have V36 : Arv Z h36 b36 k36 .char (1 : Int32) [(.int (0 : Int32))] (.int (0 : Int32)) := (Arv.new A36 (by decide)).pad (pad_rep [] (.int (0 : Int32)) 1)
    refine own_Fin.step (S' := T36.setTop (mkF m 44 #[.val (.int i0), .val (.int i1), .val (.int i2), .val (.int v3), .val (.ref sa), .unset, .unset, .unset, .unset, .unset, .unset, .unset, .unset] [(.ref b36)])) st36 ?_
    refine own_Fin.step (S' := T36.setTop (mkF m 45 #[.val (.int i0), .val (.int i1), .val (.int i2), .val (.int v3), .val (.ref sa), .unset, .unset, .unset, .unset, .unset, .unset, .unset, .unset] [(.ref b36), (.ref b36)])) (fun t k => XS.dup X36.here hx rfl (hb hby at_44) rfl rfl k) ?_
    refine own_Fin.step (S' := T36.setTop (mkF m 46 #[.val (.int i0), .val (.int i1), .val (.int i2), .val (.int v3), .val (.ref sa), .unset, .unset, .unset, .unset, .unset, .unset, .unset, .unset] [(.int (0 : Int32)), (.ref b36), (.ref b36)])) (fun t k => XS.iconst X36.here hx rfl (hb hby at_45) k) ?_
    refine own_Fin.step (S' := T36.setTop (mkF m 47 #[.val (.int i0), .val (.int i1), .val (.int i2), .val (.int v3), .val (.ref sa), .unset, .unset, .unset, .unset, .unset, .unset, .unset, .unset] [(.int i2), (.int (0 : Int32)), (.ref b36), (.ref b36)])) (fun t k => XS.iloadN X36.here hx rfl (hb hby at_46) rfl  k) ?_
    refine own_Fin.step (S' := T36.setTop (mkF m 50 #[.val (.int i0), .val (.int i1), .val (.int i2), .val (.int v3), .val (.ref sa), .unset, .unset, .unset, .unset, .unset, .unset, .unset, .unset] [(.int (255 : Int32)), (.int i2), (.int (0 : Int32)), (.ref b36), (.ref b36)])) (fun t k => XS.sipush X36.here hx rfl (hb hby at_47) k) ?_
    refine own_Fin.step (S' := T36.setTop (mkF m 51 #[.val (.int i0), .val (.int i1), .val (.int i2), .val (.int v3), .val (.ref sa), .unset, .unset, .unset, .unset, .unset, .unset, .unset, .unset] [(.int (i2 &&& (255 : Int32))), (.int (0 : Int32)), (.ref b36), (.ref b36)])) (fun t k => XS.iand X36.here hx rfl (hb hby at_50) rfl k) ?_
    refine own_Fin.step (S' := T36.setTop (mkF m 52 #[.val (.int i0), .val (.int i1), .val (.int i2), .val (.int v3), .val (.ref sa), .unset, .unset, .unset, .unset, .unset, .unset, .unset, .unset] [(.int ((i2 &&& (255 : Int32)).toUInt32.toUInt16.toUInt32.toInt32)), (.int (0 : Int32)), (.ref b36), (.ref b36)])) (fun t k => XS.i2c X36.here hx rfl (hb hby at_51) rfl k) ?_
    obtain ⟨cl37, Ar37, q37, S37, N37z, Hs37, G37⟩ := id V36
    have hin37 : ¬ ((0 : Int32) < 0 ∨ cl37.slots.size ≤ ((0 : Int32)).toNatClampNeg) := inb_of S37 ⟨by decide, by decide⟩
    obtain ⟨T38, h38, X38, e38, W38, st38⟩ := stC X36 hx hZ e36 Ar37 (j := (0 : Int32)) hin37 (g := (mkF m 52 #[.val (.int i0), .val (.int i1), .val (.int i2), .val (.int v3), .val (.ref sa), .unset, .unset, .unset, .unset, .unset, .unset, .unset, .unset] [(.int ((i2 &&& (255 : Int32)).toUInt32.toUInt16.toUInt32.toInt32)), (.int (0 : Int32)), (.ref b36), (.ref b36)])) rfl rfl (hb hby at_52)
    have V38 : Arv Z h38 b36 k36 .char (1 : Int32) [(.int (nar .char ((i2 &&& (255 : Int32)).toUInt32.toUInt16.toUInt32.toInt32)))] (.int (0 : Int32)) := Arv.set Ar37 q37 S37 N37z Hs37 G37 (fits_nar_char _) W38 0 rfl (Nat.le_of_ble_eq_true rfl)
    have z38 := W38.size
    have N38 := Fr.snoc X38 NJ35 (by omega)
    refine own_Fin.step (S' := T38.setTop (mkF m 53 #[.val (.int i0), .val (.int i1), .val (.int i2), .val (.int v3), .val (.ref sa), .unset, .unset, .unset, .unset, .unset, .unset, .unset, .unset] [(.ref b36)])) st38 ?_
    refine own_Fin.step (S' := T38.setTop (mkF m 55 #[.val (.int i0), .val (.int i1), .val (.int i2), .val (.int v3), .val (.ref sa), .val (.ref b36), .unset, .unset, .unset, .unset, .unset, .unset, .unset] [])) (fun t k => XS.astore X38.here hx rfl (hb hby at_53) rfl rfl (l' := #[.val (.int i0), .val (.int i1), .val (.int i2), .val (.int v3), .val (.ref sa), .val (.ref b36), .unset, .unset, .unset, .unset, .unset, .unset, .unset]) rfl k) ?_
    obtain ⟨T39, h39, X39, e39, E39, A39, D39, -, st39⟩ := newO X38 hx hZ hown (hw _ (List.mem_of_getElem? (i := 4) rfl)) (hw _ (List.mem_of_getElem? (i := 5) rfl)) (hw _ (List.mem_of_getElem? (i := 6) rfl)) e38 (g := (mkF m 55 #[.val (.int i0), .val (.int i1), .val (.int i2), .val (.int v3), .val (.ref sa), .val (.ref b36), .unset, .unset, .unset, .unset, .unset, .unset, .unset] [])) rfl (hb hby at_55) (by decide) (by decide)
    obtain ⟨b39, g39⟩ : ∃ z, z = h38.size := ⟨_, rfl⟩
    rw [← g39] at A39 D39 st39
    have ll39 : @LT.lt Nat _ b39 (Array.size h39) := A39.lt
    have z39 := E39.1
    have F40 : Fld Z h39 b39 "java/lang/String" "coder" "B" (.int (0 : Int32)) := D39 (Or.inr (hw _ (List.mem_of_getElem? (i := 30) rfl))) (ty := .byte) (by decide)
    have F41 : Fld Z h39 b39 "java/lang/String" "value" "[B" .null := D39 (Or.inr (hw _ (List.mem_of_getElem? (i := 32) rfl))) (ty := (.array .byte)) (by decide)
    refine own_Fin.step (S' := T39.setTop (mkF m 58 #[.val (.int i0), .val (.int i1), .val (.int i2), .val (.int v3), .val (.ref sa), .val (.ref b36), .unset, .unset, .unset, .unset, .unset, .unset, .unset] [(.ref b39)])) st39 ?_
    refine own_Fin.step (S' := T39.setTop (mkF m 59 #[.val (.int i0), .val (.int i1), .val (.int i2), .val (.int v3), .val (.ref sa), .val (.ref b36), .unset, .unset, .unset, .unset, .unset, .unset, .unset] [(.ref b39), (.ref b39)])) (fun t k => XS.dup X39.here hx rfl (hb hby at_58) rfl rfl k) ?_
    refine own_Fin.step (S' := T39.setTop (mkF m 61 #[.val (.int i0), .val (.int i1), .val (.int i2), .val (.int v3), .val (.ref sa), .val (.ref b36), .unset, .unset, .unset, .unset, .unset, .unset, .unset] [(.ref b36), (.ref b39), (.ref b39)])) (fun t k => XS.aload X39.here hx rfl (hb hby at_59) rfl rfl  k) ?_
    have f43 : Arv Z h39 b36 k36 .char (1 : Int32) [(.int (nar .char ((i2 &&& (255 : Int32)).toUInt32.toUInt16.toUInt32.toInt32)))] (.int (0 : Int32)) := (V38.ext E39)
    have f44 : Old Z n0 h39 := (((FJ35_0.ext E36).wr W38 (by omega)).ext E39)
    have f45 : Sta Z h39 "java/lang/String" "COMPACT_STRINGS" "Z" (.int G1) := Sta.ext f44.2 (Amb.a12 A)
    have hws42 : ∀ d ∈ StrChars.Road.words, d.before a0 Z = true := fun d hd => hw d (own_words d hd)
    have hlat42 : ∀ c ∈ ([(nar .char ((i2 &&& (255 : Int32)).toUInt32.toUInt16.toUInt32.toInt32))] : List Int32), ¬ c < 0 ∧ ¬ (255 : Int32) < c := by
      intro c hc
      simp only [List.mem_cons, List.not_mem_nil, or_false] at hc
      rcases hc with rfl
      · exact own_and255 i2
    obtain ⟨_, _, ⟨T42, L42, k42, n42⟩, -, X42, ⟨Lc42, hQ42, l42, y42, zz42⟩, st42⟩ := X39.specialBack hx (y := (⟨"java/lang/String", "<init>", "([C)V"⟩ : MethodName)) rfl hown (mvT hZ (hw _ (List.mem_of_getElem? (i := 7) rfl))) (mvT hZ (hw _ (List.mem_of_getElem? (i := 8) rfl))) (mvT hZ (hw _ (List.mem_of_getElem? (i := 9) rfl))) (by decide) (StrChars.Road.backV (W := 1) hZ hws42 (kI := 4) (hw _ (List.mem_of_getElem? (i := 5) rfl)) (cs := [(nar .char ((i2 &&& (255 : Int32)).toUInt32.toUInt16.toUInt32.toInt32))]) (bs := [((nar .char ((i2 &&& (255 : Int32)).toUInt32.toUInt16.toUInt32.toInt32))).toInt8.toInt32]) (n := 1) (n0 := n0) (by omega) (by omega) A39 F41 F40 f43 f45 (Amb.g1 A) rfl rfl (by decide) (by decide) hlat42 rfl (by decide) (by decide)) (g := (mkF m 61 #[.val (.int i0), .val (.int i1), .val (.int i2), .val (.int v3), .val (.ref sa), .val (.ref b36), .unset, .unset, .unset, .unset, .unset, .unset, .unset] [(.ref b36), (.ref b39), (.ref b39)])) rfl (by rw [hml]; rfl) (Steps.refl _) (a := b39) (argsL := [(.ref b36)]) (rest := [(.ref b39)]) (lenOf pd_0_0 rfl) rfl (by show 2 * 0 + _ ≤ _; exact Nat.le_of_eq rfl) (hb hby at_61) (fun _ _ => ⟨rfl, e39, (by decide : 2 + 1 ≤ _), (by decide : 5 + 1 ≤ _)⟩)
    dsimp only [Pt.U, Pt.locs, Pt.cells, Pt.slots] at X42 l42 y42 zz42 st42 hQ42
    subst l42 y42 zz42
    obtain ⟨rfl, N42q, K42, G42_0, G42_1, t42, kb42, gt42, gh42, gn42, G42_2, G42_3⟩ := hQ42
    have N42 := Fr.app N38 N42q
    have z42 := K42.1
    have lt42 : @LT.lt Nat _ t42 (Array.size T42.heap) := G42_3.lt
    refine own_Fin.trans (S' := T42.setTop (mkF m 64 #[.val (.int i0), .val (.int i1), .val (.int i2), .val (.int v3), .val (.ref sa), .val (.ref b36), .unset, .unset, .unset, .unset, .unset, .unset, .unset] [(.ref b39)])) st42 ?_
    refine own_Fin.step (S' := T42.setTop (mkF m 66 #[.val (.int i0), .val (.int i1), .val (.int i2), .val (.int v3), .val (.ref sa), .val (.ref b36), .val (.ref b39), .unset, .unset, .unset, .unset, .unset, .unset] [])) (fun t k => XS.astore X42.here hx rfl (hb hby at_64) rfl rfl (l' := #[.val (.int i0), .val (.int i1), .val (.int i2), .val (.int v3), .val (.ref sa), .val (.ref b36), .val (.ref b39), .unset, .unset, .unset, .unset, .unset, .unset]) rfl k) ?_
    obtain ⟨T46, h46, X46, e46, E46, A46, D46, -, st46⟩ := newO X42 hx hZ hown (hw _ (List.mem_of_getElem? (i := 33) rfl)) (hw _ (List.mem_of_getElem? (i := 34) rfl)) (hw _ (List.mem_of_getElem? (i := 35) rfl)) rfl (g := (mkF m 66 #[.val (.int i0), .val (.int i1), .val (.int i2), .val (.int v3), .val (.ref sa), .val (.ref b36), .val (.ref b39), .unset, .unset, .unset, .unset, .unset, .unset] [])) rfl (hb hby at_66) (by decide) (by decide)
    obtain ⟨b46, g46⟩ : ∃ z, z = T42.heap.size := ⟨_, rfl⟩
    rw [← g46] at A46 D46 st46
    have ll46 : @LT.lt Nat _ b46 (Array.size h46) := A46.lt
    have z46 := E46.1
    have F47 : Fld Z h46 b46 "com/example/rulebinder/rulebinder/Player" "id" "Ljava/lang/String;" .null := D46 (Or.inr (hw _ (List.mem_of_getElem? (i := 46) rfl))) (ty := (.object "java/lang/String")) (by decide)
    have F48 : Fld Z h46 b46 "com/example/rulebinder/rulebinder/Player" "name" "Ljava/lang/String;" .null := D46 (Or.inr (hw _ (List.mem_of_getElem? (i := 48) rfl))) (ty := (.object "java/lang/String")) (by decide)
    refine own_Fin.step (S' := T46.setTop (mkF m 69 #[.val (.int i0), .val (.int i1), .val (.int i2), .val (.int v3), .val (.ref sa), .val (.ref b36), .val (.ref b39), .unset, .unset, .unset, .unset, .unset, .unset] [(.ref b46)])) st46 ?_
    refine own_Fin.step (S' := T46.setTop (mkF m 70 #[.val (.int i0), .val (.int i1), .val (.int i2), .val (.int v3), .val (.ref sa), .val (.ref b36), .val (.ref b39), .unset, .unset, .unset, .unset, .unset, .unset] [(.ref b46), (.ref b46)])) (fun t k => XS.dup X46.here hx rfl (hb hby at_69) rfl rfl k) ?_
    refine own_Fin.step (S' := T46.setTop (mkF m 72 #[.val (.int i0), .val (.int i1), .val (.int i2), .val (.int v3), .val (.ref sa), .val (.ref b36), .val (.ref b39), .unset, .unset, .unset, .unset, .unset, .unset] [(.ref b39), (.ref b46), (.ref b46)])) (fun t k => XS.aload X46.here hx rfl (hb hby at_70) rfl rfl  k) ?_
    refine own_Fin.step (S' := T46.setTop (mkF m 74 #[.val (.int i0), .val (.int i1), .val (.int i2), .val (.int v3), .val (.ref sa), .val (.ref b36), .val (.ref b39), .unset, .unset, .unset, .unset, .unset, .unset] [(.ref b39), (.ref b39), (.ref b46), (.ref b46)])) (fun t k => XS.aload X46.here hx rfl (hb hby at_72) rfl rfl  k) ?_
    obtain ⟨_, _, ⟨T49, L49, k49, n49⟩, -, X49, ⟨Lc49, hQ49, l49, y49, zz49⟩, st49⟩ := X46.specialBack hx (y := (⟨"com/example/rulebinder/rulebinder/Player", "<init>", "(Ljava/lang/String;Ljava/lang/String;)V"⟩ : MethodName)) rfl hown (mvT hZ (hw _ (List.mem_of_getElem? (i := 36) rfl))) (mvT hZ (hw _ (List.mem_of_getElem? (i := 37) rfl))) (mvT hZ (hw _ (List.mem_of_getElem? (i := 38) rfl))) (by decide) (backOf (W := 1) (rm7 l Z a0 hw [] b46 b39 b39 .null .null h46 n0 (by omega) A46 F47 F48 (by omega)) hZ (hw _ (List.mem_of_getElem? (i := 38) rfl)) (hw _ (List.mem_of_getElem? (i := 35) rfl)) (by decide) (by decide)) (g := (mkF m 74 #[.val (.int i0), .val (.int i1), .val (.int i2), .val (.int v3), .val (.ref sa), .val (.ref b36), .val (.ref b39), .unset, .unset, .unset, .unset, .unset, .unset] [(.ref b39), (.ref b39), (.ref b46), (.ref b46)])) rfl (by rw [hml]; rfl) (Steps.refl _) (a := b46) (argsL := [(.ref b39), (.ref b39)]) (rest := [(.ref b46)]) (lenOf pd_0_1 rfl) rfl (by show 2 * 0 + _ ≤ _; exact Nat.le_of_eq rfl) (hb hby at_74) (fun _ _ => ⟨rfl, e46, (by decide : 4 + 0 ≤ _), (by decide : 8 + 0 ≤ _)⟩)
    dsimp only [Pt.U, Pt.locs, Pt.cells, Pt.slots] at X49 l49 y49 zz49 st49 hQ49
    subst l49 y49 zz49
    obtain ⟨rfl, N49q, K49, G49_0⟩ := hQ49
    have N49 := Fr.app N42 N49q
    have z49 := K49.1
    have lt49_0 : @LT.lt Nat _ b46 (Array.size T49.heap) := G49_0.lt
    refine own_Fin.trans (S' := T49.setTop (mkF m 77 #[.val (.int i0), .val (.int i1), .val (.int i2), .val (.int v3), .val (.ref sa), .val (.ref b36), .val (.ref b39), .unset, .unset, .unset, .unset, .unset, .unset] [(.ref b46)])) st49 ?_
    refine own_Fin.step (S' := T49.setTop (mkF m 79 #[.val (.int i0), .val (.int i1), .val (.int i2), .val (.int v3), .val (.ref sa), .val (.ref b36), .val (.ref b39), .val (.ref b46), .unset, .unset, .unset, .unset, .unset] [])) (fun t k => XS.astore X49.here hx rfl (hb hby at_77) rfl rfl (l' := #[.val (.int i0), .val (.int i1), .val (.int i2), .val (.int v3), .val (.ref sa), .val (.ref b36), .val (.ref b39), .val (.ref b46), .unset, .unset, .unset, .unset, .unset]) rfl k) ?_
    refine own_Fin.step (S' := T49.setTop (mkF m 80 #[.val (.int i0), .val (.int i1), .val (.int i2), .val (.int v3), .val (.ref sa), .val (.ref b36), .val (.ref b39), .val (.ref b46), .unset, .unset, .unset, .unset, .unset] [(.int i1)])) (fun t k => XS.iloadN X49.here hx rfl (hb hby at_79) rfl  k) ?_
    refine own_Fin.step (S' := T49.setTop (mkF m 81 #[.val (.int i0), .val (.int i1), .val (.int i2), .val (.int v3), .val (.ref sa), .val (.ref b36), .val (.ref b39), .val (.ref b46), .unset, .unset, .unset, .unset, .unset] [(.int (1 : Int32)), (.int i1)])) (fun t k => XS.iconst X49.here hx rfl (hb hby at_80) k) ?_
    refine own_Fin.step (S' := T49.setTop (mkF m 82 #[.val (.int i0), .val (.int i1), .val (.int i2), .val (.int v3), .val (.ref sa), .val (.ref b36), .val (.ref b39), .val (.ref b46), .unset, .unset, .unset, .unset, .unset] [(.int (i1 &&& (1 : Int32)))])) (fun t k => XS.iand X49.here hx rfl (hb hby at_81) rfl k) ?_
    have J50 : ∀ (fv : Value), fv.isRef = true → own_Fin p.tables e below (own_post (Q0 Z o_WAITING o_PLAYED o_BYE o_READY G1 i0 i1 i2 h0 n0) s 24 128) (T49.setTop (mkF m 91 #[.val (.int i0), .val (.int i1), .val (.int i2), .val (.int v3), .val (.ref sa), .val (.ref b36), .val (.ref b39), .val (.ref b46), .unset, .unset, .unset, .unset, .unset] [fv])) := by
      intro fv h_fv
      refine own_Fin.step (S' := T49.setTop (mkF m 93 #[.val (.int i0), .val (.int i1), .val (.int i2), .val (.int v3), .val (.ref sa), .val (.ref b36), .val (.ref b39), .val (.ref b46), .val fv, .unset, .unset, .unset, .unset] [])) (fun t k => XS.astore X49.here hx rfl (hb hby at_91) rfl h_fv (l' := #[.val (.int i0), .val (.int i1), .val (.int i2), .val (.int v3), .val (.ref sa), .val (.ref b36), .val (.ref b39), .val (.ref b46), .val fv, .unset, .unset, .unset, .unset]) ((XS.store1 (o := .unset) rfl (Or.inl rfl) (own_cat1 h_fv)).trans rfl) k) ?_
      refine own_Fin.step (S' := T49.setTop (mkF m 94 #[.val (.int i0), .val (.int i1), .val (.int i2), .val (.int v3), .val (.ref sa), .val (.ref b36), .val (.ref b39), .val (.ref b46), .val fv, .unset, .unset, .unset, .unset] [(.int i1)])) (fun t k => XS.iloadN X49.here hx rfl (hb hby at_93) rfl  k) ?_
      refine own_Fin.step (S' := T49.setTop (mkF m 95 #[.val (.int i0), .val (.int i1), .val (.int i2), .val (.int v3), .val (.ref sa), .val (.ref b36), .val (.ref b39), .val (.ref b46), .val fv, .unset, .unset, .unset, .unset] [(.int (2 : Int32)), (.int i1)])) (fun t k => XS.iconst X49.here hx rfl (hb hby at_94) k) ?_
      refine own_Fin.step (S' := T49.setTop (mkF m 96 #[.val (.int i0), .val (.int i1), .val (.int i2), .val (.int v3), .val (.ref sa), .val (.ref b36), .val (.ref b39), .val (.ref b46), .val fv, .unset, .unset, .unset, .unset] [(.int (i1 &&& (2 : Int32)))])) (fun t k => XS.iand X49.here hx rfl (hb hby at_95) rfl k) ?_
      have J51 : ∀ (sv : Value), sv.isRef = true → own_Fin p.tables e below (own_post (Q0 Z o_WAITING o_PLAYED o_BYE o_READY G1 i0 i1 i2 h0 n0) s 24 128) (T49.setTop (mkF m 105 #[.val (.int i0), .val (.int i1), .val (.int i2), .val (.int v3), .val (.ref sa), .val (.ref b36), .val (.ref b39), .val (.ref b46), .val fv, .unset, .unset, .unset, .unset] [sv])) := by
        intro sv h_sv
        refine own_Fin.step (S' := T49.setTop (mkF m 107 #[.val (.int i0), .val (.int i1), .val (.int i2), .val (.int v3), .val (.ref sa), .val (.ref b36), .val (.ref b39), .val (.ref b46), .val fv, .val sv, .unset, .unset, .unset] [])) (fun t k => XS.astore X49.here hx rfl (hb hby at_105) rfl h_sv (l' := #[.val (.int i0), .val (.int i1), .val (.int i2), .val (.int v3), .val (.ref sa), .val (.ref b36), .val (.ref b39), .val (.ref b46), .val fv, .val sv, .unset, .unset, .unset]) ((XS.store1 (o := .unset) rfl (Or.inl rfl) (own_cat1 h_sv)).trans rfl) k) ?_
        refine own_Fin.step (S' := T49.setTop (mkF m 108 #[.val (.int i0), .val (.int i1), .val (.int i2), .val (.int v3), .val (.ref sa), .val (.ref b36), .val (.ref b39), .val (.ref b46), .val fv, .val sv, .unset, .unset, .unset] [(.int i1)])) (fun t k => XS.iloadN X49.here hx rfl (hb hby at_107) rfl  k) ?_
        refine own_Fin.step (S' := T49.setTop (mkF m 109 #[.val (.int i0), .val (.int i1), .val (.int i2), .val (.int v3), .val (.ref sa), .val (.ref b36), .val (.ref b39), .val (.ref b46), .val fv, .val sv, .unset, .unset, .unset] [(.int (4 : Int32)), (.int i1)])) (fun t k => XS.iconst X49.here hx rfl (hb hby at_108) k) ?_
        refine own_Fin.step (S' := T49.setTop (mkF m 110 #[.val (.int i0), .val (.int i1), .val (.int i2), .val (.int v3), .val (.ref sa), .val (.ref b36), .val (.ref b39), .val (.ref b46), .val fv, .val sv, .unset, .unset, .unset] [(.int (i1 &&& (4 : Int32)))])) (fun t k => XS.iand X49.here hx rfl (hb hby at_109) rfl k) ?_
        have J52 : ∀ (wv : Value), wv.isRef = true → own_Fin p.tables e below (own_post (Q0 Z o_WAITING o_PLAYED o_BYE o_READY G1 i0 i1 i2 h0 n0) s 24 128) (T49.setTop (mkF m 119 #[.val (.int i0), .val (.int i1), .val (.int i2), .val (.int v3), .val (.ref sa), .val (.ref b36), .val (.ref b39), .val (.ref b46), .val fv, .val sv, .unset, .unset, .unset] [wv])) := by
          intro wv h_wv
          refine own_Fin.step (S' := T49.setTop (mkF m 121 #[.val (.int i0), .val (.int i1), .val (.int i2), .val (.int v3), .val (.ref sa), .val (.ref b36), .val (.ref b39), .val (.ref b46), .val fv, .val sv, .val wv, .unset, .unset] [])) (fun t k => XS.astore X49.here hx rfl (hb hby at_119) rfl h_wv (l' := #[.val (.int i0), .val (.int i1), .val (.int i2), .val (.int v3), .val (.ref sa), .val (.ref b36), .val (.ref b39), .val (.ref b46), .val fv, .val sv, .val wv, .unset, .unset]) ((XS.store1 (o := .unset) rfl (Or.inl rfl) (own_cat1 h_wv)).trans rfl) k) ?_
          obtain ⟨T53, h53, X53, e53, E53, A53, D53, -, st53⟩ := newO X49 hx hZ hown (hw _ (List.mem_of_getElem? (i := 49) rfl)) (hw _ (List.mem_of_getElem? (i := 50) rfl)) (hw _ (List.mem_of_getElem? (i := 51) rfl)) rfl (g := (mkF m 121 #[.val (.int i0), .val (.int i1), .val (.int i2), .val (.int v3), .val (.ref sa), .val (.ref b36), .val (.ref b39), .val (.ref b46), .val fv, .val sv, .val wv, .unset, .unset] [])) rfl (hb hby at_121) (by decide) (by decide)
          obtain ⟨b53, g53⟩ : ∃ z, z = T49.heap.size := ⟨_, rfl⟩
          rw [← g53] at A53 D53 st53
          have ll53 : @LT.lt Nat _ b53 (Array.size h53) := A53.lt
          have z53 := E53.1
          have F54 : Fld Z h53 b53 "com/example/rulebinder/rulebinder/Bracket$Match" "name" "Ljava/lang/String;" .null := D53 (Or.inr (hw _ (List.mem_of_getElem? (i := 57) rfl))) (ty := (.object "java/lang/String")) (by decide)
          have F55 : Fld Z h53 b53 "com/example/rulebinder/rulebinder/Bracket$Match" "first" "Lcom/example/rulebinder/rulebinder/Player;" .null := D53 (Or.inr (hw _ (List.mem_of_getElem? (i := 59) rfl))) (ty := (.object "com/example/rulebinder/rulebinder/Player")) (by decide)
          have F56 : Fld Z h53 b53 "com/example/rulebinder/rulebinder/Bracket$Match" "second" "Lcom/example/rulebinder/rulebinder/Player;" .null := D53 (Or.inr (hw _ (List.mem_of_getElem? (i := 61) rfl))) (ty := (.object "com/example/rulebinder/rulebinder/Player")) (by decide)
          have F57 : Fld Z h53 b53 "com/example/rulebinder/rulebinder/Bracket$Match" "winner" "Lcom/example/rulebinder/rulebinder/Player;" .null := D53 (Or.inr (hw _ (List.mem_of_getElem? (i := 63) rfl))) (ty := (.object "com/example/rulebinder/rulebinder/Player")) (by decide)
          have F58 : Fld Z h53 b53 "com/example/rulebinder/rulebinder/Bracket$Match" "state" "Lcom/example/rulebinder/rulebinder/Bracket$State;" .null := D53 (Or.inr (hw _ (List.mem_of_getElem? (i := 65) rfl))) (ty := (.object "com/example/rulebinder/rulebinder/Bracket$State")) (by decide)
          refine own_Fin.step (S' := T53.setTop (mkF m 124 #[.val (.int i0), .val (.int i1), .val (.int i2), .val (.int v3), .val (.ref sa), .val (.ref b36), .val (.ref b39), .val (.ref b46), .val fv, .val sv, .val wv, .unset, .unset] [(.ref b53)])) st53 ?_
          refine own_Fin.step (S' := T53.setTop (mkF m 125 #[.val (.int i0), .val (.int i1), .val (.int i2), .val (.int v3), .val (.ref sa), .val (.ref b36), .val (.ref b39), .val (.ref b46), .val fv, .val sv, .val wv, .unset, .unset] [(.ref b53), (.ref b53)])) (fun t k => XS.dup X53.here hx rfl (hb hby at_124) rfl rfl k) ?_
          refine own_Fin.step (S' := T53.setTop (mkF m 127 #[.val (.int i0), .val (.int i1), .val (.int i2), .val (.int v3), .val (.ref sa), .val (.ref b36), .val (.ref b39), .val (.ref b46), .val fv, .val sv, .val wv, .unset, .unset] [(.ref b39), (.ref b53), (.ref b53)])) (fun t k => XS.aload X53.here hx rfl (hb hby at_125) rfl rfl  k) ?_
          refine own_Fin.step (S' := T53.setTop (mkF m 129 #[.val (.int i0), .val (.int i1), .val (.int i2), .val (.int v3), .val (.ref sa), .val (.ref b36), .val (.ref b39), .val (.ref b46), .val fv, .val sv, .val wv, .unset, .unset] [fv, (.ref b39), (.ref b53), (.ref b53)])) (fun t k => XS.aload X53.here hx rfl (hb hby at_127) rfl h_fv  k) ?_
          refine own_Fin.step (S' := T53.setTop (mkF m 131 #[.val (.int i0), .val (.int i1), .val (.int i2), .val (.int v3), .val (.ref sa), .val (.ref b36), .val (.ref b39), .val (.ref b46), .val fv, .val sv, .val wv, .unset, .unset] [sv, fv, (.ref b39), (.ref b53), (.ref b53)])) (fun t k => XS.aload X53.here hx rfl (hb hby at_129) rfl h_sv  k) ?_
          refine own_Fin.step (S' := T53.setTop (mkF m 133 #[.val (.int i0), .val (.int i1), .val (.int i2), .val (.int v3), .val (.ref sa), .val (.ref b36), .val (.ref b39), .val (.ref b46), .val fv, .val sv, .val wv, .unset, .unset] [wv, sv, fv, (.ref b39), (.ref b53), (.ref b53)])) (fun t k => XS.aload X53.here hx rfl (hb hby at_131) rfl h_wv  k) ?_
          refine own_Fin.step (S' := T53.setTop (mkF m 135 #[.val (.int i0), .val (.int i1), .val (.int i2), .val (.int v3), .val (.ref sa), .val (.ref b36), .val (.ref b39), .val (.ref b46), .val fv, .val sv, .val wv, .unset, .unset] [(.ref sa), wv, sv, fv, (.ref b39), (.ref b53), (.ref b53)])) (fun t k => XS.aload X53.here hx rfl (hb hby at_133) rfl rfl  k) ?_
          obtain ⟨_, _, ⟨T59, L59, k59, n59⟩, -, X59, ⟨Lc59, hQ59, l59, y59, zz59⟩, st59⟩ := X53.specialBack hx (y := (⟨"com/example/rulebinder/rulebinder/Bracket$Match", "<init>", "(Ljava/lang/String;Lcom/example/rulebinder/rulebinder/Player;Lcom/example/rulebinder/rulebinder/Player;Lcom/example/rulebinder/rulebinder/Player;Lcom/example/rulebinder/rulebinder/Bracket$State;)V"⟩ : MethodName)) rfl hown (mvT hZ (hw _ (List.mem_of_getElem? (i := 52) rfl))) (mvT hZ (hw _ (List.mem_of_getElem? (i := 53) rfl))) (mvT hZ (hw _ (List.mem_of_getElem? (i := 54) rfl))) (by decide) (backOf (W := 1) (rm9 l Z a0 hw [] b53 b39 fv sv wv sa .null .null .null .null .null h53 n0 (by omega) A53 F54 F55 F56 F57 F58 (by omega) h_fv h_sv h_wv) hZ (hw _ (List.mem_of_getElem? (i := 54) rfl)) (hw _ (List.mem_of_getElem? (i := 51) rfl)) (by decide) (by decide)) (g := (mkF m 135 #[.val (.int i0), .val (.int i1), .val (.int i2), .val (.int v3), .val (.ref sa), .val (.ref b36), .val (.ref b39), .val (.ref b46), .val fv, .val sv, .val wv, .unset, .unset] [(.ref sa), wv, sv, fv, (.ref b39), (.ref b53), (.ref b53)])) rfl (by rw [hml]; rfl) (Steps.refl _) (a := b53) (argsL := [(.ref b39), fv, sv, wv, (.ref sa)]) (rest := [(.ref b53)]) (lenOf pd_0_2 rfl) rfl (by show 2 * 0 + _ ≤ _; exact Nat.le_of_eq rfl) (hb hby at_135) (fun _ _ => ⟨rfl, e53, (by decide : 5 + 0 ≤ _), (by decide : 13 + 0 ≤ _)⟩)
          dsimp only [Pt.U, Pt.locs, Pt.cells, Pt.slots] at X59 l59 y59 zz59 st59 hQ59
          subst l59 y59 zz59
          obtain ⟨rfl, N59q, K59, G59_0, G59_1⟩ := hQ59
          have N59 := Fr.app N49 N59q
          have z59 := K59.1
          have lt59_0 : @LT.lt Nat _ b53 (Array.size T59.heap) := G59_0.lt
          have lt59_1 : @LT.lt Nat _ b53 (Array.size T59.heap) := G59_1.lt
          refine own_Fin.trans (S' := T59.setTop (mkF m 138 #[.val (.int i0), .val (.int i1), .val (.int i2), .val (.int v3), .val (.ref sa), .val (.ref b36), .val (.ref b39), .val (.ref b46), .val fv, .val sv, .val wv, .unset, .unset] [(.ref b53)])) st59 ?_
          refine own_Fin.step (S' := T59.setTop (mkF m 140 #[.val (.int i0), .val (.int i1), .val (.int i2), .val (.int v3), .val (.ref sa), .val (.ref b36), .val (.ref b39), .val (.ref b46), .val fv, .val sv, .val wv, .val (.ref b53), .unset] [])) (fun t k => XS.astore X59.here hx rfl (hb hby at_138) rfl rfl (l' := #[.val (.int i0), .val (.int i1), .val (.int i2), .val (.int v3), .val (.ref sa), .val (.ref b36), .val (.ref b39), .val (.ref b46), .val fv, .val sv, .val wv, .val (.ref b53), .unset]) rfl k) ?_
          refine own_Fin.step (S' := T59.setTop (mkF m 141 #[.val (.int i0), .val (.int i1), .val (.int i2), .val (.int v3), .val (.ref sa), .val (.ref b36), .val (.ref b39), .val (.ref b46), .val fv, .val sv, .val wv, .val (.ref b53), .unset] [(.int v3)])) (fun t k => XS.iloadN X59.here hx rfl (hb hby at_140) rfl  k) ?_
          refine own_Fin.step (S' := T59.setTop (mkF m 142 #[.val (.int i0), .val (.int i1), .val (.int i2), .val (.int v3), .val (.ref sa), .val (.ref b36), .val (.ref b39), .val (.ref b46), .val fv, .val sv, .val wv, .val (.ref b53), .unset] [(.int (2 : Int32)), (.int v3)])) (fun t k => XS.iconst X59.here hx rfl (hb hby at_141) k) ?_
          by_cases hc142 : v3 < (2 : Int32)
          · refine own_Fin.step (S' := T59.setTop (mkF m 149 #[.val (.int i0), .val (.int i1), .val (.int i2), .val (.int v3), .val (.ref sa), .val (.ref b36), .val (.ref b39), .val (.ref b46), .val fv, .val sv, .val wv, .val (.ref b53), .unset] [])) (fun t k => XS.icmpYes X59.here hx rfl (pc0 := 142) (pc' := 149) rfl (hb hby at_142) rfl (tlt hc142).1 (by decide) (by decide) k) ?_
            refine own_Fin.step (S' := T59.setTop (mkF m 150 #[.val (.int i0), .val (.int i1), .val (.int i2), .val (.int v3), .val (.ref sa), .val (.ref b36), .val (.ref b39), .val (.ref b46), .val fv, .val sv, .val wv, .val (.ref b53), .unset] [(.int (0 : Int32))])) (fun t k => XS.iconst X59.here hx rfl (hb hby at_149) k) ?_
            refine own_Fin.step (S' := T59.setTop (mkF m 152 #[.val (.int i0), .val (.int i1), .val (.int i2), .val (.int v3), .val (.ref sa), .val (.ref b36), .val (.ref b39), .val (.ref b46), .val fv, .val sv, .val wv, .val (.ref b53), .val (.int (0 : Int32))] [])) (fun t k => XS.istore X59.here hx rfl (hb hby at_150) rfl (l' := #[.val (.int i0), .val (.int i1), .val (.int i2), .val (.int v3), .val (.ref sa), .val (.ref b36), .val (.ref b39), .val (.ref b46), .val fv, .val sv, .val wv, .val (.ref b53), .val (.int (0 : Int32))]) rfl k) ?_
            refine own_Fin.step (S' := T59.setTop (mkF m 154 #[.val (.int i0), .val (.int i1), .val (.int i2), .val (.int v3), .val (.ref sa), .val (.ref b36), .val (.ref b39), .val (.ref b46), .val fv, .val sv, .val wv, .val (.ref b53), .val (.int (0 : Int32))] [(.ref b53)])) (fun t k => XS.aload X59.here hx rfl (hb hby at_152) rfl rfl  k) ?_
            have f60 : Old Z n0 T59.heap := (((((f44.keep K42 (allS (by omega) all0)).ext E46).keep K49 (allS (by omega) all0)).ext E53).keep K59 (allS (by omega) all0))
            obtain ⟨cq61, kq61, q61a, q61b, q61c⟩ := isOf hZ rfl G59_0
            obtain ⟨_, _, ⟨T61, L61, k61, n61⟩, -, X61, ⟨Lc61, hQ61, l61, y61, zz61⟩, st61⟩ := X59.virtualBack hx (y := (⟨"com/example/rulebinder/rulebinder/Bracket$Match", "isDecided", "()Z"⟩ : MethodName)) (z := (⟨"com/example/rulebinder/rulebinder/Bracket$Match", "isDecided", "()Z"⟩ : MethodName)) hown (mvT hZ (hw _ (List.mem_of_getElem? (i := 66) rfl))) (mvT hZ (hw _ (List.mem_of_getElem? (i := 67) rfl))) (notFace_of_selects (args := #[]) (mvT hZ (hw _ (List.mem_of_getElem? (i := 69) rfl)))) (mvT hZ (hw _ (List.mem_of_getElem? (i := 69) rfl))) (mvT hZ (hw _ (List.mem_of_getElem? (i := 68) rfl))) (by decide) (backOf (W := 0) (rm10 l Z a0 hw [] o_WAITING o_PLAYED o_BYE o_READY G1 b53 sa T59.heap n0 (by omega) f60 A G59_1) hZ (hw _ (List.mem_of_getElem? (i := 70) rfl)) (hw _ (List.mem_of_getElem? (i := 51) rfl)) (by decide) (by decide)) q61a q61c (g := (mkF m 154 #[.val (.int i0), .val (.int i1), .val (.int i2), .val (.int v3), .val (.ref sa), .val (.ref b36), .val (.ref b39), .val (.ref b46), .val fv, .val sv, .val wv, .val (.ref b53), .val (.int (0 : Int32))] [(.ref b53)])) rfl (by rw [hml]; rfl) (Steps.refl _) (argsL := []) (rest := []) (lenOf pd_0_3 rfl) rfl (by show 2 * 0 + _ ≤ _; exact Nat.le_of_eq rfl) (hb hby at_154) (fun _ _ => ⟨rfl, rfl, (by decide : 5 + 0 ≤ _), (by decide : 13 + 0 ≤ _)⟩)
            dsimp only [Pt.U, Pt.locs, Pt.cells, Pt.slots] at X61 l61 y61 zz61 st61 hQ61
            subst l61 y61 zz61
            obtain ⟨hvc61, N61q, e61⟩ := hQ61
            have N61 := Fr.app N59 N61q
            rcases hvc61 with ⟨rfl, hp154⟩ | ⟨rfl, hp154⟩
            · refine own_Fin.trans (S' := T61.setTop (mkF m 157 #[.val (.int i0), .val (.int i1), .val (.int i2), .val (.int v3), .val (.ref sa), .val (.ref b36), .val (.ref b39), .val (.ref b46), .val fv, .val sv, .val wv, .val (.ref b53), .val (.int (0 : Int32))] [(.int (1 : Int32))])) st61 ?_
              refine own_Fin.step (S' := T61.setTop (mkF m 159 #[.val (.int i0), .val (.int i1), .val (.int i2), .val (.int v3), .val (.ref sa), .val (.ref b36), .val (.ref b39), .val (.ref b46), .val fv, .val sv, .val wv, .val (.ref b53), .val (.int (0 : Int32))] [(.int (0 : Int32)), (.int (1 : Int32))])) (fun t k => XS.iload X61.here hx rfl (hb hby at_157) rfl  k) ?_
              refine own_Fin.step (S' := T61.setTop (mkF m 166 #[.val (.int i0), .val (.int i1), .val (.int i2), .val (.int v3), .val (.ref sa), .val (.ref b36), .val (.ref b39), .val (.ref b46), .val fv, .val sv, .val wv, .val (.ref b53), .val (.int (0 : Int32))] [])) (fun t k => XS.icmpYes X61.here hx rfl (pc0 := 159) (pc' := 166) rfl (hb hby at_159) rfl (feq (by decide : ¬ ((1 : Int32) = (0 : Int32)))).2 (by decide) (by decide) k) ?_
              refine own_Fin.step (S' := T61.setTop (mkF m 167 #[.val (.int i0), .val (.int i1), .val (.int i2), .val (.int v3), .val (.ref sa), .val (.ref b36), .val (.ref b39), .val (.ref b46), .val fv, .val sv, .val wv, .val (.ref b53), .val (.int (0 : Int32))] [(.int (0 : Int32))])) (fun t k => XS.iconst X61.here hx rfl (hb hby at_166) k) ?_
              have hq62 : Q0 Z o_WAITING o_PLAYED o_BYE o_READY G1 i0 i1 i2 h0 n0 (some (.int (nar .boolean (0 : Int32)))) T59.heap _ := ⟨(by exfalso; rcases hsa with ⟨h1, h2⟩ | ⟨h1, h2⟩ <;> first | exact absurd hc142 h1 | exact absurd h1 hc142 | exact absurd hp154 h2 | exact absurd h2 hp154), N61⟩
              exact own_retN X61 hx hlk (t := .boolean) hrt (by simp) (hb hby at_167) e61 hq62 (by decide) (by decide)
            · refine own_Fin.trans (S' := T61.setTop (mkF m 157 #[.val (.int i0), .val (.int i1), .val (.int i2), .val (.int v3), .val (.ref sa), .val (.ref b36), .val (.ref b39), .val (.ref b46), .val fv, .val sv, .val wv, .val (.ref b53), .val (.int (0 : Int32))] [(.int (0 : Int32))])) st61 ?_
              refine own_Fin.step (S' := T61.setTop (mkF m 159 #[.val (.int i0), .val (.int i1), .val (.int i2), .val (.int v3), .val (.ref sa), .val (.ref b36), .val (.ref b39), .val (.ref b46), .val fv, .val sv, .val wv, .val (.ref b53), .val (.int (0 : Int32))] [(.int (0 : Int32)), (.int (0 : Int32))])) (fun t k => XS.iload X61.here hx rfl (hb hby at_157) rfl  k) ?_
              refine own_Fin.step (S' := T61.setTop (mkF m 162 #[.val (.int i0), .val (.int i1), .val (.int i2), .val (.int v3), .val (.ref sa), .val (.ref b36), .val (.ref b39), .val (.ref b46), .val fv, .val sv, .val wv, .val (.ref b53), .val (.int (0 : Int32))] [])) (fun t k => XS.icmpNo X61.here hx rfl (hb hby at_159) rfl (teq (by decide : ((0 : Int32) = (0 : Int32)))).2 k) ?_
              refine own_Fin.step (S' := T61.setTop (mkF m 163 #[.val (.int i0), .val (.int i1), .val (.int i2), .val (.int v3), .val (.ref sa), .val (.ref b36), .val (.ref b39), .val (.ref b46), .val fv, .val sv, .val wv, .val (.ref b53), .val (.int (0 : Int32))] [(.int (1 : Int32))])) (fun t k => XS.iconst X61.here hx rfl (hb hby at_162) k) ?_
              refine own_Fin.step (S' := T61.setTop (mkF m 167 #[.val (.int i0), .val (.int i1), .val (.int i2), .val (.int v3), .val (.ref sa), .val (.ref b36), .val (.ref b39), .val (.ref b46), .val fv, .val sv, .val wv, .val (.ref b53), .val (.int (0 : Int32))] [(.int (1 : Int32))])) (fun t k => XS.goto X61.here hx rfl (pc0 := 163) (pc' := 167) rfl (hb hby at_163) (by decide) (by decide) k) ?_
              have hq63 : Q0 Z o_WAITING o_PLAYED o_BYE o_READY G1 i0 i1 i2 h0 n0 (some (.int (nar .boolean (1 : Int32)))) T59.heap _ := ⟨rfl, N61⟩
              exact own_retN X61 hx hlk (t := .boolean) hrt (by simp) (hb hby at_167) e61 hq63 (by decide) (by decide)
          · refine own_Fin.step (S' := T59.setTop (mkF m 145 #[.val (.int i0), .val (.int i1), .val (.int i2), .val (.int v3), .val (.ref sa), .val (.ref b36), .val (.ref b39), .val (.ref b46), .val fv, .val sv, .val wv, .val (.ref b53), .unset] [])) (fun t k => XS.icmpNo X59.here hx rfl (hb hby at_142) rfl (flt hc142).1 k) ?_
            refine own_Fin.step (S' := T59.setTop (mkF m 146 #[.val (.int i0), .val (.int i1), .val (.int i2), .val (.int v3), .val (.ref sa), .val (.ref b36), .val (.ref b39), .val (.ref b46), .val fv, .val sv, .val wv, .val (.ref b53), .unset] [(.int (1 : Int32))])) (fun t k => XS.iconst X59.here hx rfl (hb hby at_145) k) ?_
            refine own_Fin.step (S' := T59.setTop (mkF m 150 #[.val (.int i0), .val (.int i1), .val (.int i2), .val (.int v3), .val (.ref sa), .val (.ref b36), .val (.ref b39), .val (.ref b46), .val fv, .val sv, .val wv, .val (.ref b53), .unset] [(.int (1 : Int32))])) (fun t k => XS.goto X59.here hx rfl (pc0 := 146) (pc' := 150) rfl (hb hby at_146) (by decide) (by decide) k) ?_
            refine own_Fin.step (S' := T59.setTop (mkF m 152 #[.val (.int i0), .val (.int i1), .val (.int i2), .val (.int v3), .val (.ref sa), .val (.ref b36), .val (.ref b39), .val (.ref b46), .val fv, .val sv, .val wv, .val (.ref b53), .val (.int (1 : Int32))] [])) (fun t k => XS.istore X59.here hx rfl (hb hby at_150) rfl (l' := #[.val (.int i0), .val (.int i1), .val (.int i2), .val (.int v3), .val (.ref sa), .val (.ref b36), .val (.ref b39), .val (.ref b46), .val fv, .val sv, .val wv, .val (.ref b53), .val (.int (1 : Int32))]) rfl k) ?_
            refine own_Fin.step (S' := T59.setTop (mkF m 154 #[.val (.int i0), .val (.int i1), .val (.int i2), .val (.int v3), .val (.ref sa), .val (.ref b36), .val (.ref b39), .val (.ref b46), .val fv, .val sv, .val wv, .val (.ref b53), .val (.int (1 : Int32))] [(.ref b53)])) (fun t k => XS.aload X59.here hx rfl (hb hby at_152) rfl rfl  k) ?_
            have f64 : Old Z n0 T59.heap := (((((f44.keep K42 (allS (by omega) all0)).ext E46).keep K49 (allS (by omega) all0)).ext E53).keep K59 (allS (by omega) all0))
            obtain ⟨cq65, kq65, q65a, q65b, q65c⟩ := isOf hZ rfl G59_0
            obtain ⟨_, _, ⟨T65, L65, k65, n65⟩, -, X65, ⟨Lc65, hQ65, l65, y65, zz65⟩, st65⟩ := X59.virtualBack hx (y := (⟨"com/example/rulebinder/rulebinder/Bracket$Match", "isDecided", "()Z"⟩ : MethodName)) (z := (⟨"com/example/rulebinder/rulebinder/Bracket$Match", "isDecided", "()Z"⟩ : MethodName)) hown (mvT hZ (hw _ (List.mem_of_getElem? (i := 66) rfl))) (mvT hZ (hw _ (List.mem_of_getElem? (i := 67) rfl))) (notFace_of_selects (args := #[]) (mvT hZ (hw _ (List.mem_of_getElem? (i := 69) rfl)))) (mvT hZ (hw _ (List.mem_of_getElem? (i := 69) rfl))) (mvT hZ (hw _ (List.mem_of_getElem? (i := 68) rfl))) (by decide) (backOf (W := 0) (rm10 l Z a0 hw [] o_WAITING o_PLAYED o_BYE o_READY G1 b53 sa T59.heap n0 (by omega) f64 A G59_1) hZ (hw _ (List.mem_of_getElem? (i := 70) rfl)) (hw _ (List.mem_of_getElem? (i := 51) rfl)) (by decide) (by decide)) q65a q65c (g := (mkF m 154 #[.val (.int i0), .val (.int i1), .val (.int i2), .val (.int v3), .val (.ref sa), .val (.ref b36), .val (.ref b39), .val (.ref b46), .val fv, .val sv, .val wv, .val (.ref b53), .val (.int (1 : Int32))] [(.ref b53)])) rfl (by rw [hml]; rfl) (Steps.refl _) (argsL := []) (rest := []) (lenOf pd_0_3 rfl) rfl (by show 2 * 0 + _ ≤ _; exact Nat.le_of_eq rfl) (hb hby at_154) (fun _ _ => ⟨rfl, rfl, (by decide : 5 + 0 ≤ _), (by decide : 13 + 0 ≤ _)⟩)
            dsimp only [Pt.U, Pt.locs, Pt.cells, Pt.slots] at X65 l65 y65 zz65 st65 hQ65
            subst l65 y65 zz65
            obtain ⟨hvc65, N65q, e65⟩ := hQ65
            have N65 := Fr.app N59 N65q
            rcases hvc65 with ⟨rfl, hp154⟩ | ⟨rfl, hp154⟩
            · refine own_Fin.trans (S' := T65.setTop (mkF m 157 #[.val (.int i0), .val (.int i1), .val (.int i2), .val (.int v3), .val (.ref sa), .val (.ref b36), .val (.ref b39), .val (.ref b46), .val fv, .val sv, .val wv, .val (.ref b53), .val (.int (1 : Int32))] [(.int (1 : Int32))])) st65 ?_
              refine own_Fin.step (S' := T65.setTop (mkF m 159 #[.val (.int i0), .val (.int i1), .val (.int i2), .val (.int v3), .val (.ref sa), .val (.ref b36), .val (.ref b39), .val (.ref b46), .val fv, .val sv, .val wv, .val (.ref b53), .val (.int (1 : Int32))] [(.int (1 : Int32)), (.int (1 : Int32))])) (fun t k => XS.iload X65.here hx rfl (hb hby at_157) rfl  k) ?_
              refine own_Fin.step (S' := T65.setTop (mkF m 162 #[.val (.int i0), .val (.int i1), .val (.int i2), .val (.int v3), .val (.ref sa), .val (.ref b36), .val (.ref b39), .val (.ref b46), .val fv, .val sv, .val wv, .val (.ref b53), .val (.int (1 : Int32))] [])) (fun t k => XS.icmpNo X65.here hx rfl (hb hby at_159) rfl (teq (by decide : ((1 : Int32) = (1 : Int32)))).2 k) ?_
              refine own_Fin.step (S' := T65.setTop (mkF m 163 #[.val (.int i0), .val (.int i1), .val (.int i2), .val (.int v3), .val (.ref sa), .val (.ref b36), .val (.ref b39), .val (.ref b46), .val fv, .val sv, .val wv, .val (.ref b53), .val (.int (1 : Int32))] [(.int (1 : Int32))])) (fun t k => XS.iconst X65.here hx rfl (hb hby at_162) k) ?_
              refine own_Fin.step (S' := T65.setTop (mkF m 167 #[.val (.int i0), .val (.int i1), .val (.int i2), .val (.int v3), .val (.ref sa), .val (.ref b36), .val (.ref b39), .val (.ref b46), .val fv, .val sv, .val wv, .val (.ref b53), .val (.int (1 : Int32))] [(.int (1 : Int32))])) (fun t k => XS.goto X65.here hx rfl (pc0 := 163) (pc' := 167) rfl (hb hby at_163) (by decide) (by decide) k) ?_
              have hq66 : Q0 Z o_WAITING o_PLAYED o_BYE o_READY G1 i0 i1 i2 h0 n0 (some (.int (nar .boolean (1 : Int32)))) T59.heap _ := ⟨rfl, N65⟩
              exact own_retN X65 hx hlk (t := .boolean) hrt (by simp) (hb hby at_167) e65 hq66 (by decide) (by decide)
            · refine own_Fin.trans (S' := T65.setTop (mkF m 157 #[.val (.int i0), .val (.int i1), .val (.int i2), .val (.int v3), .val (.ref sa), .val (.ref b36), .val (.ref b39), .val (.ref b46), .val fv, .val sv, .val wv, .val (.ref b53), .val (.int (1 : Int32))] [(.int (0 : Int32))])) st65 ?_
              refine own_Fin.step (S' := T65.setTop (mkF m 159 #[.val (.int i0), .val (.int i1), .val (.int i2), .val (.int v3), .val (.ref sa), .val (.ref b36), .val (.ref b39), .val (.ref b46), .val fv, .val sv, .val wv, .val (.ref b53), .val (.int (1 : Int32))] [(.int (1 : Int32)), (.int (0 : Int32))])) (fun t k => XS.iload X65.here hx rfl (hb hby at_157) rfl  k) ?_
              refine own_Fin.step (S' := T65.setTop (mkF m 166 #[.val (.int i0), .val (.int i1), .val (.int i2), .val (.int v3), .val (.ref sa), .val (.ref b36), .val (.ref b39), .val (.ref b46), .val fv, .val sv, .val wv, .val (.ref b53), .val (.int (1 : Int32))] [])) (fun t k => XS.icmpYes X65.here hx rfl (pc0 := 159) (pc' := 166) rfl (hb hby at_159) rfl (feq (by decide : ¬ ((0 : Int32) = (1 : Int32)))).2 (by decide) (by decide) k) ?_
              refine own_Fin.step (S' := T65.setTop (mkF m 167 #[.val (.int i0), .val (.int i1), .val (.int i2), .val (.int v3), .val (.ref sa), .val (.ref b36), .val (.ref b39), .val (.ref b46), .val fv, .val sv, .val wv, .val (.ref b53), .val (.int (1 : Int32))] [(.int (0 : Int32))])) (fun t k => XS.iconst X65.here hx rfl (hb hby at_166) k) ?_
              have hq67 : Q0 Z o_WAITING o_PLAYED o_BYE o_READY G1 i0 i1 i2 h0 n0 (some (.int (nar .boolean (0 : Int32)))) T59.heap _ := ⟨(by exfalso; rcases hsa with ⟨h1, h2⟩ | ⟨h1, h2⟩ <;> first | exact absurd hc142 h1 | exact absurd h1 hc142 | exact absurd hp154 h2 | exact absurd h2 hp154), N65⟩
              exact own_retN X65 hx hlk (t := .boolean) hrt (by simp) (hb hby at_167) e65 hq67 (by decide) (by decide)
        by_cases hc110 : (i1 &&& (4 : Int32)) = (0 : Int32)
        · refine own_Fin.step (S' := T49.setTop (mkF m 118 #[.val (.int i0), .val (.int i1), .val (.int i2), .val (.int v3), .val (.ref sa), .val (.ref b36), .val (.ref b39), .val (.ref b46), .val fv, .val sv, .unset, .unset, .unset] [])) (fun t k => XS.ifYes X49.here hx rfl (pc0 := 110) (pc' := 118) rfl (hb hby at_110) rfl ((if0 _ _).trans (teq hc110).1) (by decide) (by decide) k) ?_
          refine own_Fin.step (S' := T49.setTop (mkF m 119 #[.val (.int i0), .val (.int i1), .val (.int i2), .val (.int v3), .val (.ref sa), .val (.ref b36), .val (.ref b39), .val (.ref b46), .val fv, .val sv, .unset, .unset, .unset] [.null])) (fun t k => XS.aconstNull X49.here hx rfl (hb hby at_118) k) ?_
          exact J52 (.null) rfl
        · refine own_Fin.step (S' := T49.setTop (mkF m 113 #[.val (.int i0), .val (.int i1), .val (.int i2), .val (.int v3), .val (.ref sa), .val (.ref b36), .val (.ref b39), .val (.ref b46), .val fv, .val sv, .unset, .unset, .unset] [])) (fun t k => XS.ifNo X49.here hx rfl (hb hby at_110) rfl ((if0 _ _).trans (feq hc110).1) k) ?_
          refine own_Fin.step (S' := T49.setTop (mkF m 115 #[.val (.int i0), .val (.int i1), .val (.int i2), .val (.int v3), .val (.ref sa), .val (.ref b36), .val (.ref b39), .val (.ref b46), .val fv, .val sv, .unset, .unset, .unset] [(.ref b46)])) (fun t k => XS.aload X49.here hx rfl (hb hby at_113) rfl rfl  k) ?_
          refine own_Fin.step (S' := T49.setTop (mkF m 119 #[.val (.int i0), .val (.int i1), .val (.int i2), .val (.int v3), .val (.ref sa), .val (.ref b36), .val (.ref b39), .val (.ref b46), .val fv, .val sv, .unset, .unset, .unset] [(.ref b46)])) (fun t k => XS.goto X49.here hx rfl (pc0 := 115) (pc' := 119) rfl (hb hby at_115) (by decide) (by decide) k) ?_
          exact J52 (.ref b46) rfl
      by_cases hc96 : (i1 &&& (2 : Int32)) = (0 : Int32)
      · refine own_Fin.step (S' := T49.setTop (mkF m 104 #[.val (.int i0), .val (.int i1), .val (.int i2), .val (.int v3), .val (.ref sa), .val (.ref b36), .val (.ref b39), .val (.ref b46), .val fv, .unset, .unset, .unset, .unset] [])) (fun t k => XS.ifYes X49.here hx rfl (pc0 := 96) (pc' := 104) rfl (hb hby at_96) rfl ((if0 _ _).trans (teq hc96).1) (by decide) (by decide) k) ?_
        refine own_Fin.step (S' := T49.setTop (mkF m 105 #[.val (.int i0), .val (.int i1), .val (.int i2), .val (.int v3), .val (.ref sa), .val (.ref b36), .val (.ref b39), .val (.ref b46), .val fv, .unset, .unset, .unset, .unset] [.null])) (fun t k => XS.aconstNull X49.here hx rfl (hb hby at_104) k) ?_
        exact J51 (.null) rfl
      · refine own_Fin.step (S' := T49.setTop (mkF m 99 #[.val (.int i0), .val (.int i1), .val (.int i2), .val (.int v3), .val (.ref sa), .val (.ref b36), .val (.ref b39), .val (.ref b46), .val fv, .unset, .unset, .unset, .unset] [])) (fun t k => XS.ifNo X49.here hx rfl (hb hby at_96) rfl ((if0 _ _).trans (feq hc96).1) k) ?_
        refine own_Fin.step (S' := T49.setTop (mkF m 101 #[.val (.int i0), .val (.int i1), .val (.int i2), .val (.int v3), .val (.ref sa), .val (.ref b36), .val (.ref b39), .val (.ref b46), .val fv, .unset, .unset, .unset, .unset] [(.ref b46)])) (fun t k => XS.aload X49.here hx rfl (hb hby at_99) rfl rfl  k) ?_
        refine own_Fin.step (S' := T49.setTop (mkF m 105 #[.val (.int i0), .val (.int i1), .val (.int i2), .val (.int v3), .val (.ref sa), .val (.ref b36), .val (.ref b39), .val (.ref b46), .val fv, .unset, .unset, .unset, .unset] [(.ref b46)])) (fun t k => XS.goto X49.here hx rfl (pc0 := 101) (pc' := 105) rfl (hb hby at_101) (by decide) (by decide) k) ?_
        exact J51 (.ref b46) rfl
    by_cases hc82 : (i1 &&& (1 : Int32)) = (0 : Int32)
    · refine own_Fin.step (S' := T49.setTop (mkF m 90 #[.val (.int i0), .val (.int i1), .val (.int i2), .val (.int v3), .val (.ref sa), .val (.ref b36), .val (.ref b39), .val (.ref b46), .unset, .unset, .unset, .unset, .unset] [])) (fun t k => XS.ifYes X49.here hx rfl (pc0 := 82) (pc' := 90) rfl (hb hby at_82) rfl ((if0 _ _).trans (teq hc82).1) (by decide) (by decide) k) ?_
      refine own_Fin.step (S' := T49.setTop (mkF m 91 #[.val (.int i0), .val (.int i1), .val (.int i2), .val (.int v3), .val (.ref sa), .val (.ref b36), .val (.ref b39), .val (.ref b46), .unset, .unset, .unset, .unset, .unset] [.null])) (fun t k => XS.aconstNull X49.here hx rfl (hb hby at_90) k) ?_
      exact J50 (.null) rfl
    · refine own_Fin.step (S' := T49.setTop (mkF m 85 #[.val (.int i0), .val (.int i1), .val (.int i2), .val (.int v3), .val (.ref sa), .val (.ref b36), .val (.ref b39), .val (.ref b46), .unset, .unset, .unset, .unset, .unset] [])) (fun t k => XS.ifNo X49.here hx rfl (hb hby at_82) rfl ((if0 _ _).trans (feq hc82).1) k) ?_
      refine own_Fin.step (S' := T49.setTop (mkF m 87 #[.val (.int i0), .val (.int i1), .val (.int i2), .val (.int v3), .val (.ref sa), .val (.ref b36), .val (.ref b39), .val (.ref b46), .unset, .unset, .unset, .unset, .unset] [(.ref b46)])) (fun t k => XS.aload X49.here hx rfl (hb hby at_85) rfl rfl  k) ?_
      refine own_Fin.step (S' := T49.setTop (mkF m 91 #[.val (.int i0), .val (.int i1), .val (.int i2), .val (.int v3), .val (.ref sa), .val (.ref b36), .val (.ref b39), .val (.ref b46), .unset, .unset, .unset, .unset, .unset] [(.ref b46)])) (fun t k => XS.goto X49.here hx rfl (pc0 := 87) (pc' := 91) rfl (hb hby at_87) (by decide) (by decide) k) ?_
      exact J50 (.ref b46) rfl
  by_cases hc5 : v3 = (0 : Int32)
  · refine own_Fin.step (S' := s₁.setTop (mkF m 8 #[.val (.int i0), .val (.int i1), .val (.int i2), .val (.int v3), .unset, .unset, .unset, .unset, .unset, .unset, .unset, .unset, .unset] [])) (fun t k => XS.ifNo X0.here hx rfl (hb hby at_5) rfl ((if0 _ _).trans (teq hc5).2) k) ?_
    have f68 : Sta Z h0 "com/example/rulebinder/rulebinder/Bracket$State" "WAITING" "Lcom/example/rulebinder/rulebinder/Bracket$State;" (.ref o_WAITING) := Sta.ext OLD.2 (Amb.a0 A)
    obtain ⟨T69, X69, e69, st69⟩ := getS2 X0 hx hZ hown (host := "") (Or.inl (hw _ (List.mem_of_getElem? (i := 0) rfl))) Via.refl e0 f68 (g := (mkF m 8 #[.val (.int i0), .val (.int i1), .val (.int i2), .val (.int v3), .unset, .unset, .unset, .unset, .unset, .unset, .unset, .unset, .unset] [])) rfl (hb hby at_8)
    refine own_Fin.step (S' := T69.setTop (mkF m 11 #[.val (.int i0), .val (.int i1), .val (.int i2), .val (.int v3), .unset, .unset, .unset, .unset, .unset, .unset, .unset, .unset, .unset] [(.ref o_WAITING)])) st69 ?_
    refine own_Fin.step (S' := T69.setTop (mkF m 39 #[.val (.int i0), .val (.int i1), .val (.int i2), .val (.int v3), .unset, .unset, .unset, .unset, .unset, .unset, .unset, .unset, .unset] [(.ref o_WAITING)])) (fun t k => XS.goto X69.here hx rfl (pc0 := 11) (pc' := 39) rfl (hb hby at_11) (by decide) (by decide) k) ?_
    exact J35 _ _ _ o_WAITING (X69.more (by decide) (by decide)) e69 N0 (by omega) OLD (Or.inr ⟨(own_st hv3).1 hc5, fun q => q.elim (Amb.n_WAITING_PLAYED A) (Amb.n_WAITING_BYE A)⟩)
  · refine own_Fin.step (S' := s₁.setTop (mkF m 14 #[.val (.int i0), .val (.int i1), .val (.int i2), .val (.int v3), .unset, .unset, .unset, .unset, .unset, .unset, .unset, .unset, .unset] [])) (fun t k => XS.ifYes X0.here hx rfl (pc0 := 5) (pc' := 14) rfl (hb hby at_5) rfl ((if0 _ _).trans (feq hc5).2) (by decide) (by decide) k) ?_
    refine own_Fin.step (S' := s₁.setTop (mkF m 15 #[.val (.int i0), .val (.int i1), .val (.int i2), .val (.int v3), .unset, .unset, .unset, .unset, .unset, .unset, .unset, .unset, .unset] [(.int v3)])) (fun t k => XS.iloadN X0.here hx rfl (hb hby at_14) rfl  k) ?_
    refine own_Fin.step (S' := s₁.setTop (mkF m 16 #[.val (.int i0), .val (.int i1), .val (.int i2), .val (.int v3), .unset, .unset, .unset, .unset, .unset, .unset, .unset, .unset, .unset] [(.int (1 : Int32)), (.int v3)])) (fun t k => XS.iconst X0.here hx rfl (hb hby at_15) k) ?_
    by_cases hc16 : v3 = (1 : Int32)
    · refine own_Fin.step (S' := s₁.setTop (mkF m 19 #[.val (.int i0), .val (.int i1), .val (.int i2), .val (.int v3), .unset, .unset, .unset, .unset, .unset, .unset, .unset, .unset, .unset] [])) (fun t k => XS.icmpNo X0.here hx rfl (hb hby at_16) rfl (teq hc16).2 k) ?_
      have f70 : Sta Z h0 "com/example/rulebinder/rulebinder/Bracket$State" "READY" "Lcom/example/rulebinder/rulebinder/Bracket$State;" (.ref o_READY) := Sta.ext OLD.2 (Amb.a6 A)
      obtain ⟨T71, X71, e71, st71⟩ := getS2 X0 hx hZ hown (host := "") (Or.inl (hw _ (List.mem_of_getElem? (i := 75) rfl))) Via.refl e0 f70 (g := (mkF m 19 #[.val (.int i0), .val (.int i1), .val (.int i2), .val (.int v3), .unset, .unset, .unset, .unset, .unset, .unset, .unset, .unset, .unset] [])) rfl (hb hby at_19)
      refine own_Fin.step (S' := T71.setTop (mkF m 22 #[.val (.int i0), .val (.int i1), .val (.int i2), .val (.int v3), .unset, .unset, .unset, .unset, .unset, .unset, .unset, .unset, .unset] [(.ref o_READY)])) st71 ?_
      refine own_Fin.step (S' := T71.setTop (mkF m 39 #[.val (.int i0), .val (.int i1), .val (.int i2), .val (.int v3), .unset, .unset, .unset, .unset, .unset, .unset, .unset, .unset, .unset] [(.ref o_READY)])) (fun t k => XS.goto X71.here hx rfl (pc0 := 22) (pc' := 39) rfl (hb hby at_22) (by decide) (by decide) k) ?_
      exact J35 _ _ _ o_READY (X71.more (by decide) (by decide)) e71 N0 (by omega) OLD (Or.inr ⟨(own_st hv3).2.1 hc16, fun q => q.elim (Amb.n_READY_PLAYED A) (Amb.n_READY_BYE A)⟩)
    · refine own_Fin.step (S' := s₁.setTop (mkF m 25 #[.val (.int i0), .val (.int i1), .val (.int i2), .val (.int v3), .unset, .unset, .unset, .unset, .unset, .unset, .unset, .unset, .unset] [])) (fun t k => XS.icmpYes X0.here hx rfl (pc0 := 16) (pc' := 25) rfl (hb hby at_16) rfl (feq hc16).2 (by decide) (by decide) k) ?_
      refine own_Fin.step (S' := s₁.setTop (mkF m 26 #[.val (.int i0), .val (.int i1), .val (.int i2), .val (.int v3), .unset, .unset, .unset, .unset, .unset, .unset, .unset, .unset, .unset] [(.int v3)])) (fun t k => XS.iloadN X0.here hx rfl (hb hby at_25) rfl  k) ?_
      refine own_Fin.step (S' := s₁.setTop (mkF m 27 #[.val (.int i0), .val (.int i1), .val (.int i2), .val (.int v3), .unset, .unset, .unset, .unset, .unset, .unset, .unset, .unset, .unset] [(.int (2 : Int32)), (.int v3)])) (fun t k => XS.iconst X0.here hx rfl (hb hby at_26) k) ?_
      by_cases hc27 : v3 = (2 : Int32)
      · refine own_Fin.step (S' := s₁.setTop (mkF m 30 #[.val (.int i0), .val (.int i1), .val (.int i2), .val (.int v3), .unset, .unset, .unset, .unset, .unset, .unset, .unset, .unset, .unset] [])) (fun t k => XS.icmpNo X0.here hx rfl (hb hby at_27) rfl (teq hc27).2 k) ?_
        have f72 : Sta Z h0 "com/example/rulebinder/rulebinder/Bracket$State" "PLAYED" "Lcom/example/rulebinder/rulebinder/Bracket$State;" (.ref o_PLAYED) := Sta.ext OLD.2 (Amb.a2 A)
        obtain ⟨T73, X73, e73, st73⟩ := getS2 X0 hx hZ hown (host := "") (Or.inl (hw _ (List.mem_of_getElem? (i := 78) rfl))) Via.refl e0 f72 (g := (mkF m 30 #[.val (.int i0), .val (.int i1), .val (.int i2), .val (.int v3), .unset, .unset, .unset, .unset, .unset, .unset, .unset, .unset, .unset] [])) rfl (hb hby at_30)
        refine own_Fin.step (S' := T73.setTop (mkF m 33 #[.val (.int i0), .val (.int i1), .val (.int i2), .val (.int v3), .unset, .unset, .unset, .unset, .unset, .unset, .unset, .unset, .unset] [(.ref o_PLAYED)])) st73 ?_
        refine own_Fin.step (S' := T73.setTop (mkF m 39 #[.val (.int i0), .val (.int i1), .val (.int i2), .val (.int v3), .unset, .unset, .unset, .unset, .unset, .unset, .unset, .unset, .unset] [(.ref o_PLAYED)])) (fun t k => XS.goto X73.here hx rfl (pc0 := 33) (pc' := 39) rfl (hb hby at_33) (by decide) (by decide) k) ?_
        exact J35 _ _ _ o_PLAYED (X73.more (by decide) (by decide)) e73 N0 (by omega) OLD (Or.inl ⟨(own_st hv3).2.2.1 hc27, Or.inl rfl⟩)
      · refine own_Fin.step (S' := s₁.setTop (mkF m 36 #[.val (.int i0), .val (.int i1), .val (.int i2), .val (.int v3), .unset, .unset, .unset, .unset, .unset, .unset, .unset, .unset, .unset] [])) (fun t k => XS.icmpYes X0.here hx rfl (pc0 := 27) (pc' := 36) rfl (hb hby at_27) rfl (feq hc27).2 (by decide) (by decide) k) ?_
        have f74 : Sta Z h0 "com/example/rulebinder/rulebinder/Bracket$State" "BYE" "Lcom/example/rulebinder/rulebinder/Bracket$State;" (.ref o_BYE) := Sta.ext OLD.2 (Amb.a4 A)
        obtain ⟨T75, X75, e75, st75⟩ := getS2 X0 hx hZ hown (host := "") (Or.inl (hw _ (List.mem_of_getElem? (i := 77) rfl))) Via.refl e0 f74 (g := (mkF m 36 #[.val (.int i0), .val (.int i1), .val (.int i2), .val (.int v3), .unset, .unset, .unset, .unset, .unset, .unset, .unset, .unset, .unset] [])) rfl (hb hby at_36)
        refine own_Fin.step (S' := T75.setTop (mkF m 39 #[.val (.int i0), .val (.int i1), .val (.int i2), .val (.int v3), .unset, .unset, .unset, .unset, .unset, .unset, .unset, .unset, .unset] [(.ref o_BYE)])) st75 ?_
        exact J35 _ _ _ o_BYE (X75.more (by decide) (by decide)) e75 N0 (by omega) OLD (Or.inl ⟨(own_st hv3).2.2.2 hc5 hc16 hc27, Or.inr rfl⟩)
set_option maxRecDepth 65536 in
set_option maxHeartbeats 40000000 in
theorem comes_1 {Post : Tables → Env → Array Value → State → Outcome → State → Prop} (hpost : ∀ tb e args s v u, (limb_1_1.after args s (.returned v) u = true ∧ limb_1_2.after args s (.returned v) u = true ∧ True) → FrameEnd s (.returned v) u (Jvm.fieldLocs frame_1_writes args s ++ Jvm.arrayLocs frame_1_arrays args s ++ Jvm.staticLocs frame_1_statics s) 24 128 → Post tb e args s (.returned v) u) :
    ArmFor flags0 classFile x code maxLocals ret World_1 tables_1 room_1 Calls_1 rest_1 Pre_1 Post := by
  intro l hfl _ _ p e ha hc hk s m args below hf hA hF happ hP
  obtain ⟨hcalls, hrest, hpre⟩ := hP
  obtain ⟨-, -, -, hnamed, -, -, -, hat⟩ := (Spec.applies_iff hf).mp happ
  obtain ⟨hg, hn⟩ := and_e (Cond.before_iff.mp (show (Jvm.Cond.and given_1 narrow_1).before args s = true from hpre))
  obtain ⟨gg1, gg2⟩ := and_e hg
  obtain ⟨gg3, gg4⟩ := and_e gg2
  obtain ⟨gg5, gg6⟩ := and_e gg4
  obtain ⟨w0, w1, w2, rfl⟩ : ∃ w0 w1 w2 : Value, args = #[w0, w1, w2] := by
    have hs : args.size = 3 := by simpa [Cond.value, given_1] using gg1
    obtain ⟨L⟩ := args
    match L, hs with
    | [w0, w1, w2], _ => exact ⟨w0, w1, w2, rfl⟩
  have hw := fun d (hd : d ∈ tables_1) => atoms_spec (ws := Jvm.Cond.code x code maxLocals ret :: tables_1) hat d (List.mem_cons_of_mem _ hd)
  have hfit : Fit s := fun {y c} hc i hi => by
    obtain ⟨ha, rfl⟩ := Array.getElem?_eq_some_iff.mp hc
    have q := List.all_eq_true.mp ((Array.all_eq_true_iff_forall_mem.mp hF) _ (Array.getElem_mem ha)) i (List.mem_range.mpr hi)
    simpa [Array.getElem?_eq_getElem hi] using q
  obtain ⟨i0, ei0⟩ := is_v gg3
  obtain rfl : w0 = (.int i0) := Option.some.inj ei0
  obtain ⟨i1, ei1⟩ := is_v gg5
  obtain rfl : w1 = (.int i1) := Option.some.inj ei1
  obtain ⟨i2, ei2⟩ := is_v gg6
  obtain rfl : w2 = (.int i2) := Option.some.inj ei2
  obtain ⟨hsets, hown0⟩ := atoms_of _ (rest_1_c_eq ▸ (show rest_1_c.before _ s = true from hrest))
  have hn0 := hn
  obtain ⟨hA1, hB1⟩ := and_e hn0
  obtain ⟨hA2, hB2⟩ := and_e hB1
  obtain ⟨hA3, hB3⟩ := and_e hB2
  obtain ⟨hA4, hB4⟩ := and_e hB3
  obtain ⟨hA5, hB5⟩ := and_e hB4
  obtain ⟨hA6, hB6⟩ := and_e hB5
  obtain ⟨hA7, hB7⟩ := and_e hB6
  obtain ⟨o_WAITING, eo_WAITING⟩ := exa_v hA1
  obtain ⟨o_PLAYED, eo_PLAYED⟩ := exa_v hA2
  obtain ⟨o_BYE, eo_BYE⟩ := exa_v hA5
  obtain ⟨o_READY, eo_READY⟩ := exa_v hA7
  obtain ⟨G1, eG1⟩ := is_v (Cond.before_iff.mp (hsets _ (List.mem_of_getElem? (i := 1) rfl)))
  have M0 : Sta s s.heap "com/example/rulebinder/rulebinder/Bracket$State" "WAITING" "Lcom/example/rulebinder/rulebinder/Bracket$State;" (.ref o_WAITING) := Sta.start eo_WAITING (Or.inr ⟨hw _ (List.mem_of_getElem? (i := 1) rfl), hw _ (List.mem_of_getElem? (i := 2) rfl)⟩)
  have M1 : Exa s s.heap o_WAITING "com/example/rulebinder/rulebinder/Bracket$State" := Exa.start eo_WAITING hA1
  have M2 : Sta s s.heap "com/example/rulebinder/rulebinder/Bracket$State" "PLAYED" "Lcom/example/rulebinder/rulebinder/Bracket$State;" (.ref o_PLAYED) := Sta.start eo_PLAYED (Or.inr ⟨hw _ (List.mem_of_getElem? (i := 1) rfl), hw _ (List.mem_of_getElem? (i := 72) rfl)⟩)
  have M3 : Exa s s.heap o_PLAYED "com/example/rulebinder/rulebinder/Bracket$State" := Exa.start eo_PLAYED hA2
  have M4 : Sta s s.heap "com/example/rulebinder/rulebinder/Bracket$State" "BYE" "Lcom/example/rulebinder/rulebinder/Bracket$State;" (.ref o_BYE) := Sta.start eo_BYE (Or.inr ⟨hw _ (List.mem_of_getElem? (i := 1) rfl), hw _ (List.mem_of_getElem? (i := 74) rfl)⟩)
  have M5 : Exa s s.heap o_BYE "com/example/rulebinder/rulebinder/Bracket$State" := Exa.start eo_BYE hA5
  have M6 : Sta s s.heap "com/example/rulebinder/rulebinder/Bracket$State" "READY" "Lcom/example/rulebinder/rulebinder/Bracket$State;" (.ref o_READY) := Sta.start eo_READY (Or.inr ⟨hw _ (List.mem_of_getElem? (i := 1) rfl), hw _ (List.mem_of_getElem? (i := 76) rfl)⟩)
  have M7 : Exa s s.heap o_READY "com/example/rulebinder/rulebinder/Bracket$State" := Exa.start eo_READY hA7
  have M8 : Fld s s.heap o_WAITING "java/lang/Enum" "ordinal" "I" (.int (0 : Int32)) := Fld.start ((fld_at eo_WAITING).symm.trans (own_eqI hA3 (Term.int_eval _)))
  have M9 : Fld s s.heap o_PLAYED "java/lang/Enum" "ordinal" "I" (.int (2 : Int32)) := Fld.start ((fld_at eo_PLAYED).symm.trans (own_eqI hA4 (Term.int_eval _)))
  have M10 : Fld s s.heap o_BYE "java/lang/Enum" "ordinal" "I" (.int (3 : Int32)) := Fld.start ((fld_at eo_BYE).symm.trans (own_eqI hA6 (Term.int_eval _)))
  have M11 : Fld s s.heap o_READY "java/lang/Enum" "ordinal" "I" (.int (1 : Int32)) := Fld.start ((fld_at eo_READY).symm.trans (own_eqI hB7 (Term.int_eval _)))
  have M12 : Sta s s.heap "java/lang/String" "COMPACT_STRINGS" "Z" (.int G1) := Sta.start eG1 (Or.inl (hsets _ (List.mem_of_getElem? (i := 0) rfl)))
  have MP0 : ¬ (G1 = (0 : Int32)) := gotF (Cond.eq_ints eG1 (Term.int_eval (0))) (not_v (Cond.before_iff.mp (hsets _ (List.mem_of_getElem? (i := 2) rfl))))
  have MP1 : o_WAITING ≠ o_PLAYED := Fld.ne M8 M9 (by decide)
  have MP2 : o_WAITING ≠ o_BYE := Fld.ne M8 M10 (by decide)
  have MP3 : o_READY ≠ o_PLAYED := Fld.ne M11 M9 (by decide)
  have MP4 : o_READY ≠ o_BYE := Fld.ne M11 M10 (by decide)
  have AM : Amb s o_WAITING o_PLAYED o_BYE o_READY G1 := ⟨M0, M1, M2, M3, M4, M5, M6, M7, M8, M9, M10, M11, M12, MP0, MP1, MP2, MP3, MP4, trivial⟩
  obtain ⟨n, o, h1, h2, h3, _, L, rfl, ⟨rfl, N⟩, hq⟩ := rm0 l s _ hw tables_1 o_WAITING o_PLAYED o_BYE o_READY G1 i0 i1 i2 s.heap s.heap.size (Nat.le_refl _) (Old.start s) AM p e ha hc hk s m _ below hf ((Spec.applies_iff_loose hf).mp happ).1 ⟨rfl, State.Warmed39.refl s, rfl⟩ trivial
  refine ⟨n, _, h1, h2, h3, hpost _ _ _ _ _ _ ⟨Cond.after_iff.mpr rfl, Cond.after_iff.mpr (eq_i res_at (Term.int_eval (1)) rfl), trivial⟩ ⟨hq.1, hq.2.1, (hq.2.2.sift fun y hy => Or.inr (N y hy)).mono (by decide) (by decide)⟩⟩
theorem main_1_1 : Claimed_1_1 := comes_1 fun _ _ _ _ _ _ h hF => ⟨h.1, hF⟩
theorem main_1_2 : Claimed_1_2 := comes_1 fun _ _ _ _ _ _ h hF => ⟨h.2.1, hF⟩
end Jvm.Pilot.@@N@@
namespace Jvm.Pilot.@@N@@
open Jvm Jvm.ClassFile Sem Op Lib Jvm.Free Jvm.Stand Jvm.Pilot.@@N@@.Jvm.D
/-! MADE BY PROGRAM (witnessworld.py) out of the Statement's table words and the real class files: 24 classes; the members and pool entries that the words name. The judged class is class 1, her method 1. -/
namespace start1
open Jvm.ClassFile
def u (s : String) : CpInfo := .utf8 (stringToUtf16 s)
/-- a pool by its gaps: so many unusable entries, then the entry; so many at the end -/
def gap : Nat → List CpInfo → List CpInfo
  | 0, r => r
  | n + 1, r => .unusable :: gap n r
def poolList (es : List (Nat × CpInfo)) (last : Nat) : List CpInfo := es.foldr (fun e r => gap e.1 (e.2 :: r)) (gap last [])
def pool (es : List (Nat × CpInfo)) (last : Nat) : Array CpInfo := ⟨poolList es last⟩
def fileOf (pool : Array CpInfo) (this : Nat) (attrs : Array Attribute := #[]) (ms : Array MethodInfo := #[]) (fl : Nat := 33) (sup : Nat := 0) (ifs : Array Nat := #[]) (fds : Array FieldInfo := #[]) : ClassFile where
  minorVersion := 0
  majorVersion := 65
  constantPool := pool
  accessFlags := fl
  thisClass := this
  superClass := sup
  interfaces := ifs
  fields := fds
  methods := ms
  attributes := attrs
def plain (name : String) (sup : Option ClassId) : Class where
  name := name
  kind := .ordinary
  loader := none
  accessFlags := 33
  super := sup
  interfaces := #[]
  cf := none
  fields := #[]
  methods := #[]
  instanceTypes := #[]
  staticTypes := #[]
  resolved := #[]
  callSites := []
  init := .initialized
  statics := none
  mirror := none

def pool0 : Array CpInfo := pool [(5, u "<init>"), (0, u "()V"), (1, .class_ 10), (1, u "java/lang/Object")] 113

def k0c0 : Code := { maxStack := 0, maxLocals := 1, code := object_method_1_code, exceptionTable := #[], attributes := #[] }
def k0m0 : Method := { name := "<init>", desc := "()V", sig := { parameters := [], returnType := none }, accessFlags := 1, code := some k0c0 }
/-- java/lang/Object -/
def k0 : Class := { plain "java/lang/Object" none with
  accessFlags := 33
  interfaces := #[]
  cf := some (fileOf pool0 8 #[] #[{ accessFlags := 1, nameIndex := 5, descriptorIndex := 6, attributes := #[] }] 33 0 #[] #[])
  fields := #[]
  methods := #[k0m0]
  instanceTypes := #[]
  staticTypes := #[]
  resolved := Array.replicate 124 none
  statics := none }

def pool1 : Array CpInfo := pool [(2, .class_ 4), (1, u "java/lang/Object"), (0, u "<init>"), (0, u "()V"), (0, .fieldref 8 9), (0, .class_ 10), (0, .nameAndType 11 12), (0, u "com/example/rulebinder/rulebinder/Bracket$State"), (0, u "WAITING"), (0, u "Lcom/example/rulebinder/rulebinder/Bracket$State;"), (0, .fieldref 8 14), (0, .nameAndType 15 12), (0, u "READY"), (0, .fieldref 8 17), (0, .nameAndType 18 12), (0, u "PLAYED"), (0, .fieldref 8 20), (0, .nameAndType 21 12), (0, u "BYE"), (0, .class_ 23), (0, u "java/lang/String"), (0, .methodref 22 25), (0, .nameAndType 5 26), (0, u "([C)V"), (0, .class_ 28), (0, u "com/example/rulebinder/rulebinder/Player"), (0, .methodref 27 30), (0, .nameAndType 5 31), (0, u "(Ljava/lang/String;Ljava/lang/String;)V"), (0, .class_ 33), (0, u "com/example/rulebinder/rulebinder/Bracket$Match"), (0, .methodref 32 35), (0, .nameAndType 5 36), (0, u "(Ljava/lang/String;Lcom/example/rulebinder/rulebinder/Player;Lcom/example/rulebinder/rulebinder/Player;Lcom/example/rulebinder/rulebinder/Player;Lcom/example/rulebinder/rulebinder/Bracket$State;)V"), (0, .methodref 32 38), (0, .nameAndType 39 40), (0, u "isDecided"), (0, u "()Z"), (0, .class_ 42), (0, u "com/example/rulebinder/rulebinder/MatchIsDecidedPinLaw"), (2, u "law"), (0, u "(III)Z")] 10

def k1m0 : Method := { name := "<init>", desc := "()V", sig := { parameters := [], returnType := none }, accessFlags := 2, code := none }
def k1c1 : Code := { maxStack := 7, maxLocals := 13, code := code, exceptionTable := #[], attributes := #[] }
def k1m1 : Method := { name := "law", desc := "(III)Z", sig := { parameters := [.int, .int, .int], returnType := some .boolean }, accessFlags := 9, code := some k1c1 }
/-- com/example/rulebinder/rulebinder/MatchIsDecidedPinLaw -/
def k1 : Class := { plain "com/example/rulebinder/rulebinder/MatchIsDecidedPinLaw" (some 0) with
  accessFlags := 49
  interfaces := #[]
  cf := some (fileOf pool1 41 #[] #[{ accessFlags := 2, nameIndex := 5, descriptorIndex := 6, attributes := #[] }, { accessFlags := 9, nameIndex := 45, descriptorIndex := 46, attributes := #[] }] 49 2 #[] #[])
  fields := #[]
  methods := #[k1m0, k1m1]
  instanceTypes := #[]
  staticTypes := #[]
  resolved := Array.replicate 57 none
  statics := none }

def pool2 : Array CpInfo := pool [(1, .class_ 2), (0, u "java/lang/constant/Constable"), (0, .class_ 4), (0, u "java/lang/Object")] 6

/-- java/lang/constant/Constable -/
def k2 : Class := { plain "java/lang/constant/Constable" (some 0) with
  accessFlags := 1537
  interfaces := #[]
  cf := some (fileOf pool2 1 #[] #[] 1537 3 #[] #[])
  fields := #[]
  methods := #[]
  instanceTypes := #[]
  staticTypes := #[]
  resolved := Array.replicate 11 none
  statics := none }

def pool3 : Array CpInfo := pool [(1, .class_ 2), (0, u "java/lang/Comparable"), (0, .class_ 4), (0, u "java/lang/Object")] 7

/-- java/lang/Comparable -/
def k3 : Class := { plain "java/lang/Comparable" (some 0) with
  accessFlags := 1537
  interfaces := #[]
  cf := some (fileOf pool3 1 #[] #[] 1537 3 #[] #[])
  fields := #[]
  methods := #[]
  instanceTypes := #[]
  staticTypes := #[]
  resolved := Array.replicate 12 none
  statics := none }

def pool4 : Array CpInfo := pool [(1, .class_ 2), (0, u "java/io/Serializable"), (0, .class_ 4), (0, u "java/lang/Object")] 2

/-- java/io/Serializable -/
def k4 : Class := { plain "java/io/Serializable" (some 0) with
  accessFlags := 1537
  interfaces := #[]
  cf := some (fileOf pool4 1 #[] #[] 1537 3 #[] #[])
  fields := #[]
  methods := #[]
  instanceTypes := #[]
  staticTypes := #[]
  resolved := Array.replicate 7 none
  statics := none }

def pool5 : Array CpInfo := pool [(2, .class_ 4), (1, u "java/lang/Enum"), (0, u "name"), (0, u "Ljava/lang/String;"), (2, u "ordinal"), (0, u "I"), (1, .class_ 14), (1, u "java/lang/Object"), (4, u "hash"), (86, .class_ 108), (1, u "java/lang/Enum$EnumDesc"), (2, .class_ 112), (0, u "java/lang/constant/Constable"), (0, .class_ 114), (0, u "java/lang/Comparable"), (0, .class_ 116), (0, u "java/io/Serializable")] 87

/-- java/lang/Enum -/
def k5 : Class := { plain "java/lang/Enum" (some 0) with
  accessFlags := 1057
  interfaces := #[2, 3, 4]
  cf := some (fileOf pool5 2 #[.nestMembers #[106]] #[] 1057 12 #[111, 113, 115] #[{ accessFlags := 18, nameIndex := 5, descriptorIndex := 6, attributes := #[] }, { accessFlags := 18, nameIndex := 9, descriptorIndex := 10, attributes := #[] }, { accessFlags := 2, nameIndex := 19, descriptorIndex := 10, attributes := #[] }])
  fields := #[{ name := "name", type := (.object "java/lang/String"), accessFlags := 18, slot := 0, constantValue := 0 }, { name := "ordinal", type := .int, accessFlags := 18, slot := 1, constantValue := 0 }, { name := "hash", type := .int, accessFlags := 2, slot := 2, constantValue := 0 }]
  methods := #[]
  instanceTypes := #[(.object "java/lang/String"), .int, .int]
  staticTypes := #[]
  resolved := Array.replicate 204 none
  statics := none }

def pool6 : Array CpInfo := pool [(1, .class_ 2), (0, u "com/example/rulebinder/rulebinder/Bracket$State"), (2, u "WAITING"), (0, u "Lcom/example/rulebinder/rulebinder/Bracket$State;"), (2, u "READY"), (2, u "PLAYED"), (2, u "BYE"), (2, u "$VALUES"), (0, u "[Lcom/example/rulebinder/rulebinder/Bracket$State;"), (6, .class_ 28), (1, u "java/lang/Enum"), (27, .class_ 57), (0, u "com/example/rulebinder/rulebinder/Bracket")] 2

/-- com/example/rulebinder/rulebinder/Bracket$State -/
def k6 : Class := { plain "com/example/rulebinder/rulebinder/Bracket$State" (some 5) with
  accessFlags := 16432
  interfaces := #[]
  cf := some (fileOf pool6 1 #[.nestHost 56] #[] 16432 26 #[] #[{ accessFlags := 16409, nameIndex := 5, descriptorIndex := 6, attributes := #[] }, { accessFlags := 16409, nameIndex := 9, descriptorIndex := 6, attributes := #[] }, { accessFlags := 16409, nameIndex := 12, descriptorIndex := 6, attributes := #[] }, { accessFlags := 16409, nameIndex := 15, descriptorIndex := 6, attributes := #[] }, { accessFlags := 4122, nameIndex := 18, descriptorIndex := 19, attributes := #[] }])
  fields := #[{ name := "WAITING", type := (.object "com/example/rulebinder/rulebinder/Bracket$State"), accessFlags := 16409, slot := 0, constantValue := 0 }, { name := "READY", type := (.object "com/example/rulebinder/rulebinder/Bracket$State"), accessFlags := 16409, slot := 1, constantValue := 0 }, { name := "PLAYED", type := (.object "com/example/rulebinder/rulebinder/Bracket$State"), accessFlags := 16409, slot := 2, constantValue := 0 }, { name := "BYE", type := (.object "com/example/rulebinder/rulebinder/Bracket$State"), accessFlags := 16409, slot := 3, constantValue := 0 }, { name := "$VALUES", type := (.array (.object "com/example/rulebinder/rulebinder/Bracket$State")), accessFlags := 4122, slot := 4, constantValue := 0 }]
  methods := #[]
  instanceTypes := #[(.object "java/lang/String"), .int, .int]
  staticTypes := #[(.object "com/example/rulebinder/rulebinder/Bracket$State"), (.object "com/example/rulebinder/rulebinder/Bracket$State"), (.object "com/example/rulebinder/rulebinder/Bracket$State"), (.object "com/example/rulebinder/rulebinder/Bracket$State"), (.array (.object "com/example/rulebinder/rulebinder/Bracket$State"))]
  resolved := Array.replicate 60 none
  statics := some 0 }

def pool7 : Array CpInfo := pool [(2, .class_ 4), (1, u "java/lang/CharSequence"), (42, .class_ 48), (0, u "java/lang/CharSequence$1CodePointIterator"), (10, .class_ 60), (0, u "java/lang/CharSequence$1CharIterator"), (5, .class_ 67), (0, u "java/lang/Object")] 63

/-- java/lang/CharSequence -/
def k7 : Class := { plain "java/lang/CharSequence" (some 0) with
  accessFlags := 1537
  interfaces := #[]
  cf := some (fileOf pool7 2 #[.nestMembers #[47, 59]] #[] 1537 66 #[] #[])
  fields := #[]
  methods := #[]
  instanceTypes := #[]
  staticTypes := #[]
  resolved := Array.replicate 131 none
  statics := none }

def pool8 : Array CpInfo := pool [(1, .class_ 2), (0, u "java/lang/constant/ConstantDesc"), (0, .class_ 4), (0, u "java/lang/Object")] 32

/-- java/lang/constant/ConstantDesc -/
def k8 : Class := { plain "java/lang/constant/ConstantDesc" (some 0) with
  accessFlags := 1537
  interfaces := #[]
  cf := some (fileOf pool8 1 #[] #[] 1537 3 #[] #[])
  fields := #[]
  methods := #[]
  instanceTypes := #[]
  staticTypes := #[]
  resolved := Array.replicate 37 none
  statics := none }

def pool9 : Array CpInfo := pool [(1, .methodref 2 3), (0, .class_ 4), (0, .nameAndType 5 6), (0, u "java/lang/Object"), (0, u "<init>"), (0, u "()V"), (2, .fieldref 10 11), (0, .class_ 12), (0, .nameAndType 13 14), (0, u "java/lang/String"), (0, u "value"), (0, u "[B"), (0, .fieldref 10 16), (0, .nameAndType 17 18), (0, u "coder"), (0, u "B"), (2, u "hash"), (0, u "I"), (2, u "hashIsZero"), (0, u "Z"), (0, .methodref 10 28), (0, .nameAndType 5 29), (0, u "([CIILjava/lang/Void;)V"), (8, .fieldref 10 39), (0, .nameAndType 40 26), (0, u "COMPACT_STRINGS"), (1, .class_ 44), (1, u "java/lang/StringUTF16"), (0, u "compress"), (1, .methodref 42 48), (0, .nameAndType 49 50), (0, u "coderFromArrayLen"), (0, u "([BI)B"), (126, .methodref 42 178), (0, .nameAndType 45 179), (0, u "([CII)[B"), (395, .class_ 576), (0, u "java/lang/CharSequence"), (22, u "CASE_INSENSITIVE_ORDER"), (0, u "Ljava/util/Comparator;"), (409, u "([C)V"), (90, u "serialPersistentFields"), (0, u "[Ljava/io/ObjectStreamField;"), (0, .class_ 1104), (0, u "java/lang/String$CaseInsensitiveComparator"), (1, .class_ 1107), (0, u "java/io/Serializable"), (0, .class_ 1109), (0, u "java/lang/Comparable"), (0, .class_ 1111), (0, u "java/lang/constant/Constable"), (0, .class_ 1113), (0, u "java/lang/constant/ConstantDesc"), (2, u "serialVersionUID"), (0, u "J"), (3, u "REPL"), (0, u "C"), (2, u "LATIN1"), (1, u "UTF16")] 323

def k9m0 : Method := { name := "<init>", desc := "()V", sig := { parameters := [], returnType := none }, accessFlags := 1, code := none }
def k9c1 : Code := { maxStack := 5, maxLocals := 2, code := jdk_42_method_3_code, exceptionTable := #[], attributes := #[] }
def k9m1 : Method := { name := "<init>", desc := "([C)V", sig := { parameters := [(.array .char)], returnType := none }, accessFlags := 1, code := some k9c1 }
def k9c2 : Code := { maxStack := 4, maxLocals := 6, code := jdk_42_method_149_code, exceptionTable := #[], attributes := #[] }
def k9m2 : Method := { name := "<init>", desc := "([CIILjava/lang/Void;)V", sig := { parameters := [(.array .char), .int, .int, (.object "java/lang/Void")], returnType := none }, accessFlags := 2, code := some k9c2 }
/-- java/lang/String -/
def k9 : Class := { plain "java/lang/String" (some 0) with
  accessFlags := 49
  interfaces := #[4, 3, 7, 2, 8]
  cf := some (fileOf pool9 10 #[.nestMembers #[1103]] #[{ accessFlags := 1, nameIndex := 5, descriptorIndex := 6, attributes := #[] }, { accessFlags := 1, nameIndex := 5, descriptorIndex := 1010, attributes := #[] }, { accessFlags := 2, nameIndex := 5, descriptorIndex := 29, attributes := #[] }] 49 2 #[1106, 1108, 575, 1110, 1112] #[{ accessFlags := 18, nameIndex := 13, descriptorIndex := 14, attributes := #[] }, { accessFlags := 18, nameIndex := 17, descriptorIndex := 18, attributes := #[] }, { accessFlags := 2, nameIndex := 21, descriptorIndex := 22, attributes := #[] }, { accessFlags := 2, nameIndex := 25, descriptorIndex := 26, attributes := #[] }, { accessFlags := 26, nameIndex := 1116, descriptorIndex := 1117, attributes := #[] }, { accessFlags := 24, nameIndex := 40, descriptorIndex := 26, attributes := #[] }, { accessFlags := 26, nameIndex := 1101, descriptorIndex := 1102, attributes := #[] }, { accessFlags := 26, nameIndex := 1121, descriptorIndex := 1122, attributes := #[] }, { accessFlags := 25, nameIndex := 599, descriptorIndex := 600, attributes := #[] }, { accessFlags := 24, nameIndex := 1125, descriptorIndex := 18, attributes := #[] }, { accessFlags := 24, nameIndex := 1127, descriptorIndex := 18, attributes := #[] }])
  fields := #[{ name := "value", type := (.array .byte), accessFlags := 18, slot := 0, constantValue := 0 }, { name := "coder", type := .byte, accessFlags := 18, slot := 1, constantValue := 0 }, { name := "hash", type := .int, accessFlags := 2, slot := 2, constantValue := 0 }, { name := "hashIsZero", type := .boolean, accessFlags := 2, slot := 3, constantValue := 0 }, { name := "serialVersionUID", type := .long, accessFlags := 26, slot := 0, constantValue := 0 }, { name := "COMPACT_STRINGS", type := .boolean, accessFlags := 24, slot := 1, constantValue := 0 }, { name := "serialPersistentFields", type := (.array (.object "java/io/ObjectStreamField")), accessFlags := 26, slot := 2, constantValue := 0 }, { name := "REPL", type := .char, accessFlags := 26, slot := 3, constantValue := 0 }, { name := "CASE_INSENSITIVE_ORDER", type := (.object "java/util/Comparator"), accessFlags := 25, slot := 4, constantValue := 0 }, { name := "LATIN1", type := .byte, accessFlags := 24, slot := 5, constantValue := 0 }, { name := "UTF16", type := .byte, accessFlags := 24, slot := 6, constantValue := 0 }]
  methods := #[k9m0, k9m1, k9m2]
  instanceTypes := #[(.array .byte), .byte, .int, .boolean]
  staticTypes := #[.long, .boolean, (.array (.object "java/io/ObjectStreamField")), .char, (.object "java/util/Comparator"), .byte, .byte]
  resolved := Array.replicate 1451 none
  statics := some 1 }

def pool10 : Array CpInfo := pool [(6, .class_ 8), (1, u "java/lang/Object"), (0, u "<init>"), (0, u "()V"), (1, .class_ 14), (1, u "java/lang/StringUTF16"), (31, u "$assertionsDisabled"), (0, u "Z"), (13, u "HI_BYTE_SHIFT"), (0, u "I"), (2, u "LO_BYTE_SHIFT"), (49, .methodref 12 116), (0, .nameAndType 117 118), (0, u "compress"), (0, u "([CI[BII)I"), (3, u "([CII)[B"), (138, u "coderFromArrayLen"), (0, u "([BI)B"), (106, .class_ 371), (1, u "java/lang/StringUTF16$LinesSpliterator"), (58, u "MAX_LENGTH"), (196, .class_ 628), (0, u "java/lang/StringUTF16$CodePointsSpliterator"), (0, .class_ 630), (0, u "java/lang/StringUTF16$CharsSpliterator")] 4

def k10m0 : Method := { name := "<init>", desc := "()V", sig := { parameters := [], returnType := none }, accessFlags := 0, code := none }
def k10c1 : Code := { maxStack := 2, maxLocals := 2, code := jdk_52_method_15_code, exceptionTable := #[], attributes := #[] }
def k10m1 : Method := { name := "coderFromArrayLen", desc := "([BI)B", sig := { parameters := [(.array .byte), .int], returnType := some .byte }, accessFlags := 8, code := some k10c1 }
def k10c2 : Code := { maxStack := 5, maxLocals := 6, code := jdk_52_method_16_code, exceptionTable := #[], attributes := #[] }
def k10m2 : Method := { name := "compress", desc := "([CII)[B", sig := { parameters := [(.array .char), .int, .int], returnType := some (.array .byte) }, accessFlags := 9, code := some k10c2 }
def k10c3 : Code := { maxStack := 3, maxLocals := 7, code := jdk_52_method_21_code, exceptionTable := #[], attributes := #[] }
def k10m3 : Method := { name := "compress", desc := "([CI[BII)I", sig := { parameters := [(.array .char), .int, (.array .byte), .int, .int], returnType := some .int }, accessFlags := 9, code := some k10c3 }
/-- java/lang/StringUTF16 -/
def k10 : Class := { plain "java/lang/StringUTF16" (some 0) with
  accessFlags := 48
  interfaces := #[]
  cf := some (fileOf pool10 12 #[.nestMembers #[627, 629, 369]] #[{ accessFlags := 0, nameIndex := 9, descriptorIndex := 10, attributes := #[] }, { accessFlags := 8, nameIndex := 261, descriptorIndex := 262, attributes := #[] }, { accessFlags := 9, nameIndex := 117, descriptorIndex := 122, attributes := #[] }, { accessFlags := 9, nameIndex := 117, descriptorIndex := 118, attributes := #[] }] 48 6 #[] #[{ accessFlags := 26, nameIndex := 61, descriptorIndex := 62, attributes := #[] }, { accessFlags := 26, nameIndex := 65, descriptorIndex := 62, attributes := #[] }, { accessFlags := 24, nameIndex := 430, descriptorIndex := 62, attributes := #[] }, { accessFlags := 4120, nameIndex := 46, descriptorIndex := 47, attributes := #[] }])
  fields := #[{ name := "HI_BYTE_SHIFT", type := .int, accessFlags := 26, slot := 0, constantValue := 0 }, { name := "LO_BYTE_SHIFT", type := .int, accessFlags := 26, slot := 1, constantValue := 0 }, { name := "MAX_LENGTH", type := .int, accessFlags := 24, slot := 2, constantValue := 0 }, { name := "$assertionsDisabled", type := .boolean, accessFlags := 4120, slot := 3, constantValue := 0 }]
  methods := #[k10m0, k10m1, k10m2, k10m3]
  instanceTypes := #[]
  staticTypes := #[.int, .int, .int, .boolean]
  resolved := Array.replicate 635 none
  statics := none }

def pool11 : Array CpInfo := pool [(1, .methodref 2 3), (0, .class_ 4), (0, .nameAndType 5 6), (0, u "java/lang/Object"), (0, u "<init>"), (0, u "()V"), (0, .class_ 8), (0, u "java/lang/Record")] 13

def k11c0 : Code := { maxStack := 1, maxLocals := 1, code := jdk_30_method_1_code, exceptionTable := #[], attributes := #[] }
def k11m0 : Method := { name := "<init>", desc := "()V", sig := { parameters := [], returnType := none }, accessFlags := 4, code := some k11c0 }
/-- java/lang/Record -/
def k11 : Class := { plain "java/lang/Record" (some 0) with
  accessFlags := 1057
  interfaces := #[]
  cf := some (fileOf pool11 7 #[] #[{ accessFlags := 4, nameIndex := 5, descriptorIndex := 6, attributes := #[] }] 1057 2 #[] #[])
  fields := #[]
  methods := #[k11m0]
  instanceTypes := #[]
  staticTypes := #[]
  resolved := Array.replicate 22 none
  statics := none }

def pool12 : Array CpInfo := pool [(1, .methodref 2 3), (0, .class_ 4), (0, .nameAndType 5 6), (0, u "java/lang/Record"), (0, u "<init>"), (0, u "()V"), (0, .fieldref 8 9), (0, .class_ 10), (0, .nameAndType 11 12), (0, u "com/example/rulebinder/rulebinder/Player"), (0, u "id"), (0, u "Ljava/lang/String;"), (0, .fieldref 8 14), (0, .nameAndType 15 12), (0, u "name"), (12, u "(Ljava/lang/String;Ljava/lang/String;)V")] 27

def k12c0 : Code := { maxStack := 2, maxLocals := 3, code := prog_38_method_1_code, exceptionTable := #[], attributes := #[] }
def k12m0 : Method := { name := "<init>", desc := "(Ljava/lang/String;Ljava/lang/String;)V", sig := { parameters := [(.object "java/lang/String"), (.object "java/lang/String")], returnType := none }, accessFlags := 0, code := some k12c0 }
/-- com/example/rulebinder/rulebinder/Player -/
def k12 : Class := { plain "com/example/rulebinder/rulebinder/Player" (some 11) with
  accessFlags := 48
  interfaces := #[]
  cf := some (fileOf pool12 8 #[] #[{ accessFlags := 0, nameIndex := 5, descriptorIndex := 28, attributes := #[] }] 48 2 #[] #[{ accessFlags := 18, nameIndex := 11, descriptorIndex := 12, attributes := #[] }, { accessFlags := 18, nameIndex := 15, descriptorIndex := 12, attributes := #[] }])
  fields := #[{ name := "id", type := (.object "java/lang/String"), accessFlags := 18, slot := 0, constantValue := 0 }, { name := "name", type := (.object "java/lang/String"), accessFlags := 18, slot := 1, constantValue := 0 }]
  methods := #[k12m0]
  instanceTypes := #[(.object "java/lang/String"), (.object "java/lang/String")]
  staticTypes := #[]
  resolved := Array.replicate 56 none
  statics := none }

def pool13 : Array CpInfo := pool [(1, .class_ 2), (0, u "com/example/rulebinder/rulebinder/Bracket"), (0, .methodref 4 5), (0, .class_ 6), (0, .nameAndType 7 8), (0, u "java/lang/Record"), (0, u "<init>"), (0, u "()V"), (0, .fieldref 10 11), (0, .class_ 12), (0, .nameAndType 13 14), (0, u "com/example/rulebinder/rulebinder/Bracket$Match"), (0, u "name"), (0, u "Ljava/lang/String;"), (0, .fieldref 10 16), (0, .nameAndType 17 18), (0, u "first"), (0, u "Lcom/example/rulebinder/rulebinder/Player;"), (0, .fieldref 10 20), (0, .nameAndType 21 18), (0, u "second"), (0, .fieldref 10 23), (0, .nameAndType 24 18), (0, u "winner"), (0, .fieldref 10 26), (0, .nameAndType 27 28), (0, u "state"), (0, u "Lcom/example/rulebinder/rulebinder/Bracket$State;"), (0, .fieldref 30 31), (0, .class_ 32), (0, .nameAndType 33 28), (0, u "com/example/rulebinder/rulebinder/Bracket$State"), (0, u "PLAYED"), (0, .fieldref 30 35), (0, .nameAndType 36 28), (0, u "BYE"), (57, u "(Ljava/lang/String;Lcom/example/rulebinder/rulebinder/Player;Lcom/example/rulebinder/rulebinder/Player;Lcom/example/rulebinder/rulebinder/Player;Lcom/example/rulebinder/rulebinder/Bracket$State;)V"), (3, u "isDecided"), (0, u "()Z")] 36

def k13c0 : Code := { maxStack := 2, maxLocals := 6, code := prog_8_method_1_code, exceptionTable := #[], attributes := #[] }
def k13m0 : Method := { name := "<init>", desc := "(Ljava/lang/String;Lcom/example/rulebinder/rulebinder/Player;Lcom/example/rulebinder/rulebinder/Player;Lcom/example/rulebinder/rulebinder/Player;Lcom/example/rulebinder/rulebinder/Bracket$State;)V", sig := { parameters := [(.object "java/lang/String"), (.object "com/example/rulebinder/rulebinder/Player"), (.object "com/example/rulebinder/rulebinder/Player"), (.object "com/example/rulebinder/rulebinder/Player"), (.object "com/example/rulebinder/rulebinder/Bracket$State")], returnType := none }, accessFlags := 0, code := some k13c0 }
def k13c1 : Code := { maxStack := 2, maxLocals := 1, code := prog_8_method_2_code, exceptionTable := #[], attributes := #[] }
def k13m1 : Method := { name := "isDecided", desc := "()Z", sig := { parameters := [], returnType := some .boolean }, accessFlags := 0, code := some k13c1 }
/-- com/example/rulebinder/rulebinder/Bracket$Match -/
def k13 : Class := { plain "com/example/rulebinder/rulebinder/Bracket$Match" (some 11) with
  accessFlags := 48
  interfaces := #[]
  cf := some (fileOf pool13 10 #[.nestHost 1] #[{ accessFlags := 0, nameIndex := 7, descriptorIndex := 94, attributes := #[] }, { accessFlags := 0, nameIndex := 98, descriptorIndex := 99, attributes := #[] }] 48 4 #[] #[{ accessFlags := 18, nameIndex := 13, descriptorIndex := 14, attributes := #[] }, { accessFlags := 18, nameIndex := 17, descriptorIndex := 18, attributes := #[] }, { accessFlags := 18, nameIndex := 21, descriptorIndex := 18, attributes := #[] }, { accessFlags := 18, nameIndex := 24, descriptorIndex := 18, attributes := #[] }, { accessFlags := 18, nameIndex := 27, descriptorIndex := 28, attributes := #[] }])
  fields := #[{ name := "name", type := (.object "java/lang/String"), accessFlags := 18, slot := 0, constantValue := 0 }, { name := "first", type := (.object "com/example/rulebinder/rulebinder/Player"), accessFlags := 18, slot := 1, constantValue := 0 }, { name := "second", type := (.object "com/example/rulebinder/rulebinder/Player"), accessFlags := 18, slot := 2, constantValue := 0 }, { name := "winner", type := (.object "com/example/rulebinder/rulebinder/Player"), accessFlags := 18, slot := 3, constantValue := 0 }, { name := "state", type := (.object "com/example/rulebinder/rulebinder/Bracket$State"), accessFlags := 18, slot := 4, constantValue := 0 }]
  methods := #[k13m0, k13m1]
  instanceTypes := #[(.object "java/lang/String"), (.object "com/example/rulebinder/rulebinder/Player"), (.object "com/example/rulebinder/rulebinder/Player"), (.object "com/example/rulebinder/rulebinder/Player"), (.object "com/example/rulebinder/rulebinder/Bracket$State")]
  staticTypes := #[]
  resolved := Array.replicate 136 none
  statics := none }

def pool14 : Array CpInfo := pool [(4, .class_ 6), (1, u "java/lang/Object"), (0, u "<init>"), (0, u "()V"), (5, .class_ 16), (1, u "java/lang/StringLatin1"), (104, u "$assertionsDisabled"), (0, u "Z"), (98, .class_ 223), (1, u "java/lang/StringLatin1$LinesSpliterator"), (166, .class_ 391), (0, u "java/lang/StringLatin1$CharsSpliterator")] 3

def k14m0 : Method := { name := "<init>", desc := "()V", sig := { parameters := [], returnType := none }, accessFlags := 0, code := none }
/-- java/lang/StringLatin1 -/
def k14 : Class := { plain "java/lang/StringLatin1" (some 0) with
  accessFlags := 48
  interfaces := #[]
  cf := some (fileOf pool14 14 #[.nestMembers #[390, 221]] #[{ accessFlags := 0, nameIndex := 7, descriptorIndex := 8, attributes := #[] }] 48 4 #[] #[{ accessFlags := 4120, nameIndex := 121, descriptorIndex := 122, attributes := #[] }])
  fields := #[{ name := "$assertionsDisabled", type := .boolean, accessFlags := 4120, slot := 0, constantValue := 0 }]
  methods := #[k14m0]
  instanceTypes := #[]
  staticTypes := #[.boolean]
  resolved := Array.replicate 395 none
  statics := none }

def pool15 : Array CpInfo := pool [(2, .class_ 4), (1, u "java/lang/Object"), (0, u "<init>"), (0, u "()V"), (17, .class_ 26), (1, u "jdk/internal/util/Preconditions"), (28, .class_ 56), (0, u "jdk/internal/util/Preconditions$4"), (57, .class_ 115), (0, u "jdk/internal/util/Preconditions$1"), (7, u "SIOOBE_FORMATTER"), (0, u "Ljava/util/function/BiFunction;"), (0, .class_ 126), (0, u "jdk/internal/util/Preconditions$2"), (3, u "AIOOBE_FORMATTER"), (0, .class_ 132), (0, u "jdk/internal/util/Preconditions$3"), (3, u "IOOBE_FORMATTER")] 57

def k15m0 : Method := { name := "<init>", desc := "()V", sig := { parameters := [], returnType := none }, accessFlags := 1, code := none }
/-- jdk/internal/util/Preconditions -/
def k15 : Class := { plain "jdk/internal/util/Preconditions" (some 0) with
  accessFlags := 33
  interfaces := #[]
  cf := some (fileOf pool15 24 #[.nestMembers #[55, 131, 125, 114]] #[{ accessFlags := 1, nameIndex := 5, descriptorIndex := 6, attributes := #[] }] 33 2 #[] #[{ accessFlags := 25, nameIndex := 123, descriptorIndex := 124, attributes := #[] }, { accessFlags := 25, nameIndex := 130, descriptorIndex := 124, attributes := #[] }, { accessFlags := 25, nameIndex := 136, descriptorIndex := 124, attributes := #[] }])
  fields := #[{ name := "SIOOBE_FORMATTER", type := (.object "java/util/function/BiFunction"), accessFlags := 25, slot := 0, constantValue := 0 }, { name := "AIOOBE_FORMATTER", type := (.object "java/util/function/BiFunction"), accessFlags := 25, slot := 1, constantValue := 0 }, { name := "IOOBE_FORMATTER", type := (.object "java/util/function/BiFunction"), accessFlags := 25, slot := 2, constantValue := 0 }]
  methods := #[k15m0]
  instanceTypes := #[]
  staticTypes := #[(.object "java/util/function/BiFunction"), (.object "java/util/function/BiFunction"), (.object "java/util/function/BiFunction")]
  resolved := Array.replicate 194 none
  statics := some 2 }

def pool16 : Array CpInfo := pool [(9, u "<init>"), (6, .class_ 18), (1, u "java/lang/Object"), (0, u "()V"), (1, .class_ 23), (1, u "jdk/internal/util/ArraysSupport"), (0, u "LOG2_ARRAY_LONG_INDEX_SCALE"), (0, u "I"), (2, u "U"), (0, u "Ljdk/internal/misc/Unsafe;"), (8, u "BIG_ENDIAN"), (0, u "Z"), (8, u "LOG2_BYTE_BIT_SIZE"), (4, u "LOG2_ARRAY_INT_INDEX_SCALE"), (54, u "JLA"), (0, u "Ljdk/internal/access/JavaLangAccess;"), (11, u "LOG2_ARRAY_BOOLEAN_INDEX_SCALE"), (9, u "LOG2_ARRAY_BYTE_INDEX_SCALE"), (5, u "LOG2_ARRAY_CHAR_INDEX_SCALE"), (5, u "LOG2_ARRAY_SHORT_INDEX_SCALE"), (18, u "LOG2_ARRAY_FLOAT_INDEX_SCALE"), (24, u "LOG2_ARRAY_DOUBLE_INDEX_SCALE"), (89, u "T_BOOLEAN"), (2, u "T_CHAR"), (1, u "T_FLOAT"), (1, u "T_DOUBLE"), (1, u "T_BYTE"), (1, u "T_SHORT"), (1, u "T_INT"), (1, u "T_LONG"), (1, u "SOFT_MAX_ARRAY_LENGTH")] 83

def k16m0 : Method := { name := "<init>", desc := "()V", sig := { parameters := [], returnType := none }, accessFlags := 2, code := none }
/-- jdk/internal/util/ArraysSupport -/
def k16 : Class := { plain "jdk/internal/util/ArraysSupport" (some 0) with
  accessFlags := 33
  interfaces := #[]
  cf := some (fileOf pool16 21 #[] #[{ accessFlags := 2, nameIndex := 9, descriptorIndex := 19, attributes := #[] }] 33 16 #[] #[{ accessFlags := 24, nameIndex := 28, descriptorIndex := 29, attributes := #[] }, { accessFlags := 26, nameIndex := 38, descriptorIndex := 39, attributes := #[] }, { accessFlags := 25, nameIndex := 121, descriptorIndex := 25, attributes := #[] }, { accessFlags := 25, nameIndex := 131, descriptorIndex := 25, attributes := #[] }, { accessFlags := 25, nameIndex := 137, descriptorIndex := 25, attributes := #[] }, { accessFlags := 25, nameIndex := 143, descriptorIndex := 25, attributes := #[] }, { accessFlags := 25, nameIndex := 53, descriptorIndex := 25, attributes := #[] }, { accessFlags := 25, nameIndex := 24, descriptorIndex := 25, attributes := #[] }, { accessFlags := 25, nameIndex := 162, descriptorIndex := 25, attributes := #[] }, { accessFlags := 25, nameIndex := 187, descriptorIndex := 25, attributes := #[] }, { accessFlags := 26, nameIndex := 48, descriptorIndex := 25, attributes := #[] }, { accessFlags := 25, nameIndex := 277, descriptorIndex := 25, attributes := #[] }, { accessFlags := 25, nameIndex := 280, descriptorIndex := 25, attributes := #[] }, { accessFlags := 25, nameIndex := 282, descriptorIndex := 25, attributes := #[] }, { accessFlags := 25, nameIndex := 284, descriptorIndex := 25, attributes := #[] }, { accessFlags := 25, nameIndex := 286, descriptorIndex := 25, attributes := #[] }, { accessFlags := 25, nameIndex := 288, descriptorIndex := 25, attributes := #[] }, { accessFlags := 25, nameIndex := 290, descriptorIndex := 25, attributes := #[] }, { accessFlags := 25, nameIndex := 292, descriptorIndex := 25, attributes := #[] }, { accessFlags := 26, nameIndex := 108, descriptorIndex := 109, attributes := #[] }, { accessFlags := 25, nameIndex := 294, descriptorIndex := 25, attributes := #[] }])
  fields := #[{ name := "U", type := (.object "jdk/internal/misc/Unsafe"), accessFlags := 24, slot := 0, constantValue := 0 }, { name := "BIG_ENDIAN", type := .boolean, accessFlags := 26, slot := 1, constantValue := 0 }, { name := "LOG2_ARRAY_BOOLEAN_INDEX_SCALE", type := .int, accessFlags := 25, slot := 2, constantValue := 0 }, { name := "LOG2_ARRAY_BYTE_INDEX_SCALE", type := .int, accessFlags := 25, slot := 3, constantValue := 0 }, { name := "LOG2_ARRAY_CHAR_INDEX_SCALE", type := .int, accessFlags := 25, slot := 4, constantValue := 0 }, { name := "LOG2_ARRAY_SHORT_INDEX_SCALE", type := .int, accessFlags := 25, slot := 5, constantValue := 0 }, { name := "LOG2_ARRAY_INT_INDEX_SCALE", type := .int, accessFlags := 25, slot := 6, constantValue := 0 }, { name := "LOG2_ARRAY_LONG_INDEX_SCALE", type := .int, accessFlags := 25, slot := 7, constantValue := 0 }, { name := "LOG2_ARRAY_FLOAT_INDEX_SCALE", type := .int, accessFlags := 25, slot := 8, constantValue := 0 }, { name := "LOG2_ARRAY_DOUBLE_INDEX_SCALE", type := .int, accessFlags := 25, slot := 9, constantValue := 0 }, { name := "LOG2_BYTE_BIT_SIZE", type := .int, accessFlags := 26, slot := 10, constantValue := 0 }, { name := "T_BOOLEAN", type := .int, accessFlags := 25, slot := 11, constantValue := 0 }, { name := "T_CHAR", type := .int, accessFlags := 25, slot := 12, constantValue := 0 }, { name := "T_FLOAT", type := .int, accessFlags := 25, slot := 13, constantValue := 0 }, { name := "T_DOUBLE", type := .int, accessFlags := 25, slot := 14, constantValue := 0 }, { name := "T_BYTE", type := .int, accessFlags := 25, slot := 15, constantValue := 0 }, { name := "T_SHORT", type := .int, accessFlags := 25, slot := 16, constantValue := 0 }, { name := "T_INT", type := .int, accessFlags := 25, slot := 17, constantValue := 0 }, { name := "T_LONG", type := .int, accessFlags := 25, slot := 18, constantValue := 0 }, { name := "JLA", type := (.object "jdk/internal/access/JavaLangAccess"), accessFlags := 26, slot := 19, constantValue := 0 }, { name := "SOFT_MAX_ARRAY_LENGTH", type := .int, accessFlags := 25, slot := 20, constantValue := 0 }]
  methods := #[k16m0]
  instanceTypes := #[]
  staticTypes := #[(.object "jdk/internal/misc/Unsafe"), .boolean, .int, .int, .int, .int, .int, .int, .int, .int, .int, .int, .int, .int, .int, .int, .int, .int, .int, (.object "jdk/internal/access/JavaLangAccess"), .int]
  resolved := Array.replicate 378 none
  statics := none }

def pool17 : Array CpInfo := pool [(1, u "java/lang/Cloneable"), (0, .class_ 1), (0, u "java/lang/Object"), (0, .class_ 3)] 3

/-- java/lang/Cloneable -/
def k17 : Class := { plain "java/lang/Cloneable" (some 0) with
  accessFlags := 1537
  interfaces := #[]
  cf := some (fileOf pool17 2 #[] #[] 1537 4 #[] #[])
  fields := #[]
  methods := #[]
  instanceTypes := #[]
  staticTypes := #[]
  resolved := Array.replicate 8 none
  statics := none }

/-- the primitive byte -/
def k18 : Class := { plain "byte" none with kind := .primitive 'B', accessFlags := 0x411 }
/-- [B -/
def k19 : Class := { plain "[B" (some 0) with kind := .array 18 .byte, interfaces := #[17, 4], accessFlags := 1041 }

/-- the primitive char -/
def k20 : Class := { plain "char" none with kind := .primitive 'C', accessFlags := 0x411 }
/-- [C -/
def k21 : Class := { plain "[C" (some 0) with kind := .array 20 .char, interfaces := #[17, 4], accessFlags := 1041 }

/-- the primitive int -/
def k22 : Class := { plain "int" none with kind := .primitive 'I', accessFlags := 0x411 }
/-- [I -/
def k23 : Class := { plain "[I" (some 0) with kind := .array 22 .int, interfaces := #[17, 4], accessFlags := 1041 }

def heap : Heap := #[{ cls := 6, slots := #[.ref 3, .ref 6, .ref 4, .ref 5, .null], vm := .statics 6 },
  { cls := 9, slots := #[.long 0, .int 1, .null, .int 0, .null, .int 0, .int 0], vm := .statics 9 },
  { cls := 15, slots := #[.null, .null, .null], vm := .statics 15 },
  { cls := 6, slots := #[.null, .int 0, .int 0], vm := .none },
  { cls := 6, slots := #[.null, .int 2, .int 0], vm := .none },
  { cls := 6, slots := #[.null, .int 3, .int 0], vm := .none },
  { cls := 6, slots := #[.null, .int 1, .int 0], vm := .none }]
def classes : Array Class := #[k0, k1, k2, k3, k4, k5, k6, k7, k8, k9, k10, k11, k12, k13, k14, k15, k16, k17, k18, k19, k20, k21, k22, k23]
def interned : List (Array UInt16 × Addr) := []
def slotsUsed : Nat := 27
def theMethod : MethodId := ⟨1, 1⟩
def args0 : Array Value := #[.int 5, .int 1, .int 2]
def aboutOver (below : List Frame) : State where
  vm := { classes := classes, interned := interned.toArray }
  heap := heap
  slotsUsed := slotsUsed
  threads := #[{ frames := .invoking theMethod args0 :: below }]
def below0 : List Frame := [.native { method := ⟨0, 0⟩, args := #[] }]
def about1 : State := aboutOver below0
def p0 : Program := .bare "" "" ""
def e0 : Env := launch0.env 0 0 0
theorem w_frames : about1.frames = Frame.invoking theMethod args0 :: below0 := rfl
set_option maxRecDepth 65536 in
theorem w_args : argsFit about1.vm theMethod args0 = true := by decide +kernel
set_option maxRecDepth 65536 in
theorem w_heap : heapFits about1 = true := by decide +kernel
set_option maxRecDepth 65536 in
theorem w_runnable : about1.curStatus? = some .runnable := by decide +kernel
set_option maxRecDepth 65536 in
theorem w_alone : about1.alone = true := by decide +kernel
set_option maxRecDepth 65536 in
theorem w_named : about1.methodNamed? x = some theMethod := by decide +kernel
set_option maxRecDepth 65536 in
theorem w_hears : about1.hears theMethod below0 = true := by decide +kernel
set_option maxRecDepth 65536 in
theorem w_ripe : about1.ripe theMethod args0 below0 = true := by decide +kernel
theorem w_running : about1.status = .running := rfl
set_option maxRecDepth 65536 in
theorem w_room : about1.hasRoom e0.platform room_1 = true :=
  launch0.hasRoom_least _ room_1 (by decide +kernel) (by decide +kernel) (by decide +kernel) (by decide +kernel) (by decide +kernel) (by decide +kernel)
theorem allAtoms_all (ts : List Jvm.Cond) (a : Array Jvm.Value) (st : Jvm.State) : (allAtoms ts).before a st = ts.all (fun c => c.before a st) := by
  induction ts with
  | nil => rfl
  | cons c t ih =>
    show (Jvm.Cond.and c (allAtoms t)).before a st = _
    rw [Jvm.Cond.before_and, ih, List.all_cons]
def words1 : List Jvm.Cond := Jvm.Cond.code x code maxLocals ret :: tables_1
/-- a 'code' word, met by the world's own term for the bytes: nothing is compared byte by byte -/
theorem code_word {y : MethodName} {bytes : ByteArray} {mx : Nat} {rt : Option FieldType} {a : Array Value} {s : State} {m : MethodId} {meth : Method} {c : Code} (h1 : s.methodNamed? y = some m) (h2 : s.vm.method? m = some meth) (h3 : meth.code = some c) (h4 : c.code = bytes)
    (h5 : (c.maxLocals == mx && c.exceptionTable.isEmpty && decide (c.maxStack ≤ mostOperands) && decide (meth.sig.returnType = rt) && !meth.locks && decide (parseMethodDescriptor y.desc = some meth.sig)) = true) : (Jvm.Cond.code y bytes mx rt).before a s = true := by
  simp only [Bool.and_eq_true, beq_iff_eq, Bool.not_eq_true', decide_eq_true_eq] at h5
  obtain ⟨⟨⟨⟨⟨g1, g2⟩, g3⟩, g4⟩, g5⟩, g6⟩ := h5
  simp [Cond.before, Cond.holds, Cond.value, h1, h2, h3, h4, g1, g2, g3, g4, g5, g6]
def isCode : Jvm.Cond → Bool
  | .code _ _ _ _ => true
  | _ => false
theorem all_split {L : List Jvm.Cond} {P : Jvm.Cond → Bool} (h1 : L.all (fun c => isCode c || P c) = true) (h2 : ∀ c ∈ L.filter isCode, P c = true) : L.all P = true := by
  refine List.all_eq_true.mpr fun c hc => ?_
  have h := List.all_eq_true.mp h1 c hc
  rcases Bool.eq_false_or_eq_true (isCode c) with hi | hi
  · exact h2 c (List.mem_filter.mpr ⟨hc, hi⟩)
  · simpa [hi] using h
set_option maxRecDepth 65536 in
theorem w_c0 : (Jvm.Cond.code x code maxLocals ret).before args0 about1 = true := code_word (m := ⟨1, 1⟩) (meth := k1m1) (c := k1c1) (by decide +kernel) rfl rfl rfl (by decide +kernel)
set_option maxRecDepth 65536 in
theorem w_c1 : (Jvm.Cond.code ({ cls := "java/lang/String", name := "<init>", desc := "([C)V" } : Jvm.MethodName) jdk_42_method_3_code (2 : Nat) (Option.none : Option Jvm.ClassFile.FieldType)).before args0 about1 = true := code_word (m := ⟨9, 1⟩) (meth := k9m1) (c := k9c1) (by decide +kernel) rfl rfl rfl (by decide +kernel)
set_option maxRecDepth 65536 in
theorem w_c2 : (Jvm.Cond.code ({ cls := "java/lang/String", name := "<init>", desc := "([CIILjava/lang/Void;)V" } : Jvm.MethodName) jdk_42_method_149_code (6 : Nat) (Option.none : Option Jvm.ClassFile.FieldType)).before args0 about1 = true := code_word (m := ⟨9, 2⟩) (meth := k9m2) (c := k9c2) (by decide +kernel) rfl rfl rfl (by decide +kernel)
set_option maxRecDepth 65536 in
theorem w_c3 : (Jvm.Cond.code ({ cls := "java/lang/Object", name := "<init>", desc := "()V" } : Jvm.MethodName) object_method_1_code (1 : Nat) (Option.none : Option Jvm.ClassFile.FieldType)).before args0 about1 = true := code_word (m := ⟨0, 0⟩) (meth := k0m0) (c := k0c0) (by decide +kernel) rfl rfl rfl (by decide +kernel)
set_option maxRecDepth 65536 in
theorem w_c4 : (Jvm.Cond.code ({ cls := "java/lang/StringUTF16", name := "compress", desc := "([CII)[B" } : Jvm.MethodName) jdk_52_method_16_code (6 : Nat) (Option.some (Jvm.ClassFile.FieldType.array Jvm.ClassFile.FieldType.byte))).before args0 about1 = true := code_word (m := ⟨10, 2⟩) (meth := k10m2) (c := k10c2) (by decide +kernel) rfl rfl rfl (by decide +kernel)
set_option maxRecDepth 65536 in
theorem w_c5 : (Jvm.Cond.code ({ cls := "java/lang/StringUTF16", name := "compress", desc := "([CI[BII)I" } : Jvm.MethodName) jdk_52_method_21_code (7 : Nat) (Option.some Jvm.ClassFile.FieldType.int)).before args0 about1 = true := code_word (m := ⟨10, 3⟩) (meth := k10m3) (c := k10c3) (by decide +kernel) rfl rfl rfl (by decide +kernel)
set_option maxRecDepth 65536 in
theorem w_c6 : (Jvm.Cond.code ({ cls := "java/lang/StringUTF16", name := "coderFromArrayLen", desc := "([BI)B" } : Jvm.MethodName) jdk_52_method_15_code (2 : Nat) (Option.some Jvm.ClassFile.FieldType.byte)).before args0 about1 = true := code_word (m := ⟨10, 1⟩) (meth := k10m1) (c := k10c1) (by decide +kernel) rfl rfl rfl (by decide +kernel)
set_option maxRecDepth 65536 in
theorem w_c7 : (Jvm.Cond.code ({ cls := "com/example/rulebinder/rulebinder/Player", name := "<init>", desc := "(Ljava/lang/String;Ljava/lang/String;)V" } : Jvm.MethodName) prog_38_method_1_code (3 : Nat) (Option.none : Option Jvm.ClassFile.FieldType)).before args0 about1 = true := code_word (m := ⟨12, 0⟩) (meth := k12m0) (c := k12c0) (by decide +kernel) rfl rfl rfl (by decide +kernel)
set_option maxRecDepth 65536 in
theorem w_c8 : (Jvm.Cond.code ({ cls := "java/lang/Record", name := "<init>", desc := "()V" } : Jvm.MethodName) jdk_30_method_1_code (1 : Nat) (Option.none : Option Jvm.ClassFile.FieldType)).before args0 about1 = true := code_word (m := ⟨11, 0⟩) (meth := k11m0) (c := k11c0) (by decide +kernel) rfl rfl rfl (by decide +kernel)
set_option maxRecDepth 65536 in
theorem w_c9 : (Jvm.Cond.code ({ cls := "com/example/rulebinder/rulebinder/Bracket$Match", name := "<init>", desc := "(Ljava/lang/String;Lcom/example/rulebinder/rulebinder/Player;Lcom/example/rulebinder/rulebinder/Player;Lcom/example/rulebinder/rulebinder/Player;Lcom/example/rulebinder/rulebinder/Bracket$State;)V" } : Jvm.MethodName) prog_8_method_1_code (6 : Nat) (Option.none : Option Jvm.ClassFile.FieldType)).before args0 about1 = true := code_word (m := ⟨13, 0⟩) (meth := k13m0) (c := k13c0) (by decide +kernel) rfl rfl rfl (by decide +kernel)
set_option maxRecDepth 65536 in
theorem w_c10 : (Jvm.Cond.code ({ cls := "com/example/rulebinder/rulebinder/Bracket$Match", name := "isDecided", desc := "()Z" } : Jvm.MethodName) prog_8_method_2_code (1 : Nat) (Option.some Jvm.ClassFile.FieldType.boolean)).before args0 about1 = true := code_word (m := ⟨13, 1⟩) (meth := k13m1) (c := k13c1) (by decide +kernel) rfl rfl rfl (by decide +kernel)
def codes1 : List Jvm.Cond := [Jvm.Cond.code x code maxLocals ret, Jvm.Cond.code ({ cls := "java/lang/String", name := "<init>", desc := "([C)V" } : Jvm.MethodName) jdk_42_method_3_code (2 : Nat) (Option.none : Option Jvm.ClassFile.FieldType), Jvm.Cond.code ({ cls := "java/lang/String", name := "<init>", desc := "([CIILjava/lang/Void;)V" } : Jvm.MethodName) jdk_42_method_149_code (6 : Nat) (Option.none : Option Jvm.ClassFile.FieldType), Jvm.Cond.code ({ cls := "java/lang/Object", name := "<init>", desc := "()V" } : Jvm.MethodName) object_method_1_code (1 : Nat) (Option.none : Option Jvm.ClassFile.FieldType), Jvm.Cond.code ({ cls := "java/lang/StringUTF16", name := "compress", desc := "([CII)[B" } : Jvm.MethodName) jdk_52_method_16_code (6 : Nat) (Option.some (Jvm.ClassFile.FieldType.array Jvm.ClassFile.FieldType.byte)), Jvm.Cond.code ({ cls := "java/lang/StringUTF16", name := "compress", desc := "([CI[BII)I" } : Jvm.MethodName) jdk_52_method_21_code (7 : Nat) (Option.some Jvm.ClassFile.FieldType.int), Jvm.Cond.code ({ cls := "java/lang/StringUTF16", name := "coderFromArrayLen", desc := "([BI)B" } : Jvm.MethodName) jdk_52_method_15_code (2 : Nat) (Option.some Jvm.ClassFile.FieldType.byte), Jvm.Cond.code ({ cls := "com/example/rulebinder/rulebinder/Player", name := "<init>", desc := "(Ljava/lang/String;Ljava/lang/String;)V" } : Jvm.MethodName) prog_38_method_1_code (3 : Nat) (Option.none : Option Jvm.ClassFile.FieldType), Jvm.Cond.code ({ cls := "java/lang/Record", name := "<init>", desc := "()V" } : Jvm.MethodName) jdk_30_method_1_code (1 : Nat) (Option.none : Option Jvm.ClassFile.FieldType), Jvm.Cond.code ({ cls := "com/example/rulebinder/rulebinder/Bracket$Match", name := "<init>", desc := "(Ljava/lang/String;Lcom/example/rulebinder/rulebinder/Player;Lcom/example/rulebinder/rulebinder/Player;Lcom/example/rulebinder/rulebinder/Player;Lcom/example/rulebinder/rulebinder/Bracket$State;)V" } : Jvm.MethodName) prog_8_method_1_code (6 : Nat) (Option.none : Option Jvm.ClassFile.FieldType), Jvm.Cond.code ({ cls := "com/example/rulebinder/rulebinder/Bracket$Match", name := "isDecided", desc := "()Z" } : Jvm.MethodName) prog_8_method_2_code (1 : Nat) (Option.some Jvm.ClassFile.FieldType.boolean)]
set_option maxRecDepth 65536 in
theorem codes_eq : words1.filter isCode = codes1 := rfl
theorem w_codes : ∀ c ∈ words1.filter isCode, c.before args0 about1 = true := by
  rw [codes_eq]
  intro c hc
  simp only [codes1, List.mem_cons, List.not_mem_nil, or_false] at hc
  rcases hc with rfl | rfl | rfl | rfl | rfl | rfl | rfl | rfl | rfl | rfl | rfl
  · exact w_c0
  · exact w_c1
  · exact w_c2
  · exact w_c3
  · exact w_c4
  · exact w_c5
  · exact w_c6
  · exact w_c7
  · exact w_c8
  · exact w_c9
  · exact w_c10
set_option maxRecDepth 65536 in
theorem w_t1 : (words1.take 24).all (fun c => isCode c || c.before args0 about1) = true := by decide +kernel
set_option maxRecDepth 65536 in
theorem w_t2 : ((words1.drop 24).take 24).all (fun c => isCode c || c.before args0 about1) = true := by decide +kernel
set_option maxRecDepth 65536 in
theorem w_t3 : (((words1.drop 24).drop 24).take 24).all (fun c => isCode c || c.before args0 about1) = true := by decide +kernel
set_option maxRecDepth 65536 in
theorem w_t4 : (((words1.drop 24).drop 24).drop 24).all (fun c => isCode c || c.before args0 about1) = true := by decide +kernel
theorem w_tables : (allAtoms (Jvm.Cond.code x code maxLocals ret :: tables_1)).before args0 about1 = true := by
  rw [allAtoms_all]
  show words1.all (fun c => c.before args0 about1) = true
  refine all_split ?_ w_codes
  rw [← List.take_append_drop 24 words1, List.all_append, w_t1, ← List.take_append_drop 24 (words1.drop 24), List.all_append, w_t2, ← List.take_append_drop 24 ((words1.drop 24).drop 24), List.all_append, w_t3, w_t4]
  rfl
set_option maxRecDepth 65536 in
theorem w_rest : rest_1_c.before args0 about1 = true := by decide +kernel
set_option maxRecDepth 65536 in
theorem w_case : (Jvm.Cond.and given_1 narrow_1).before args0 about1 = true := by decide +kernel
theorem w_applies : (headSpec (Jvm.Cond.code x code maxLocals ret :: tables_1) room_1).applies x e0.platform about1 = true :=
  (Spec.applies_iff w_frames).mpr ⟨w_running, w_runnable, w_alone, w_named, w_hears, w_ripe, w_room, w_tables⟩
theorem atStart : AtStart classFile x code maxLocals ret World_1 tables_1 room_1 Calls_1 rest_1 Pre_1 launch0 p0 e0 about1 theMethod args0 below0 :=
  ⟨lists_1, trivial, launch0.admits_env _ _ _, launch0.least_env, fairChoices_fair.cas, fairChoices_fair.clock, w_frames, w_args, w_heap, w_applies, trivial, w_rest, w_case⟩
end start1
theorem witness_1 : WitnessClaimed_1 := ⟨start1.p0, start1.e0, start1.about1, start1.theMethod, start1.args0, start1.below0, start1.atStart⟩
end Jvm.Pilot.@@N@@
