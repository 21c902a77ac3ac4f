import JvmDerived
import JvmDerived.Pilot.@@N@@Statement
import JvmDerived.Pilot.@@N@@Code
set_option linter.unusedVariables false
set_option linter.unusedSimpArgs false
namespace Jvm.Pilot.@@N@@
open Jvm Jvm.ClassFile Sem Op Lib Jvm.Free Jvm.Stand Jvm.LawKit Jvm.RoadKit Bundle Jvm.Pilot.@@N@@.Jvm.D
def own_Go (p : Program) (e : Env) (below : List Frame) (P : Outcome → State → Prop) (st : State) : Prop :=
  ∃ s₂ o, Steps p.tables e below st s₂ ∧ s₂.status = .running ∧ Ended s₂ below o ∧ P o s₂
def own_Fin (s : State) (C S : Nat) (Q : Option Value → Heap → List Loc → Prop) (o : Outcome) (U : State) : Prop := ∃ v L, o = .returned v ∧ Q v U.heap L ∧ FrameEnd s o U L C S
def own_upd {α : Type} (f : Nat → α) (j : Nat) (v : α) : Nat → α := fun i => if i = j then v else f i
def own_Arf (Z : State) (h : Heap) (a : Addr) (k : ClassId) (ty : FieldType) (n : Int32) (f : Nat → Value) : Prop := ∃ c : Cell, Arr Z h a c ty ∧ c.cls = k ∧ c.slots.size = n.toNatClampNeg ∧ ¬ n < 0 ∧ (∀ i, i < c.slots.size → c.slots[i]? = some (f i)) ∧ ∀ i, i < c.slots.size → fits ty (f i) = true
section OwnKit
variable {p : Program} {l : Launch} {e : Env} {R : Room} {s : State} {m : MethodId} {args : Array Value} {below : List Frame} {meth : Method} {c : Code} {T : State} {locs : List Loc} {cells slots C S : Nat} {P : Outcome → State → Prop} {Q : Option Value → Heap → List Loc → Prop} {Z : State} {h h' : Heap} {a b : Addr} {k : ClassId} {ty : FieldType} {n : Int32} {ws : List Addr}
theorem own_by {st st' : State} (f : ∀ t, Steps p.tables e below st' t → Steps p.tables e below st t) (g : own_Go p e below P st') : own_Go p e below P st := by
  obtain ⟨s₂, o, h1, h2⟩ := g
  exact ⟨s₂, o, f _ h1, h2⟩
theorem own_mono (X : Stand p l e R s m args below meth c T locs cells slots) {c' s' : Nat} (hc : cells ≤ c') (hs : slots ≤ s') : Stand p l e R s m args below meth c T locs c' s' := { X with same := X.same.mono hc hs }
theorem own_end (X : Stand p l e R s m args below meth c T locs cells slots) {v : Option Value} (hv : meth.sig.returnType = none → v = none) (hlk : meth.locks = false) (eT : T.heap = h) (hQ : Q v h locs) (hc : cells ≤ C) (hs : slots ≤ S)
    {g : JFrame} (st : ∀ fs, (∀ (f : JFrame) (acts : List Action), f.method = m → f.locked = none → f.entered = [] → (doReturn e (T.setTop f) acts v).1 = T.setFrames fs) → Steps p.tables e below (T.setTop g) (T.setFrames fs)) : own_Go p e below (own_Fin s C S Q) (T.setTop g) := by
  obtain ⟨fs, hr, hrun, hended, hW, hsame⟩ := X.leave (v := v) hv hlk
  refine ⟨_, _, st fs hr, hrun, hended, v, locs, rfl, ?_, ⟨_, rfl⟩, hW, hsame.mono hc hs⟩
  show Q v T.heap locs
  rw [eT]; exact hQ
theorem own_retN (X : Stand p l e R s m args below meth c T locs cells slots) (hx : p.tables.exec = Jvm.exec) {pc : Nat} {Ls : Array Slot} {z : Int32} {t : FieldType} {rest : List Value} (hret : meth.sig.returnType = some t) (ht : t = .boolean ∨ t = .byte ∨ t = .char ∨ t = .short) (hd : decode c.code pc = .ok (.ireturn, 1)) (hlk : meth.locks = false) (eT : T.heap = h) (hQ : Q (some (.int (nar t z))) h locs) (hc : cells ≤ C) (hs : slots ≤ S) : own_Go p e below (own_Fin s C S Q) (T.setTop (mkF m pc Ls (.int z :: rest))) :=
  own_end X (fun h => by rw [hret] at h; cases h) hlk eT hQ hc hs fun fs hr => retN X hx hret ht hd hr
theorem own_retI (X : Stand p l e R s m args below meth c T locs cells slots) (hx : p.tables.exec = Jvm.exec) {pc : Nat} {Ls : Array Slot} {z : Int32} {rest : List Value} (hret : meth.sig.returnType = some .int) (hd : decode c.code pc = .ok (.ireturn, 1)) (hlk : meth.locks = false) (eT : T.heap = h) (hQ : Q (some (.int z)) h locs) (hc : cells ≤ C) (hs : slots ≤ S) : own_Go p e below (own_Fin s C S Q) (T.setTop (mkF m pc Ls (.int z :: rest))) :=
  own_end X (fun h => by rw [hret] at h; cases h) hlk eT hQ hc hs fun fs hr => retOut X hx hret rfl (Or.inl ⟨rfl, Or.inl rfl, _, rfl⟩) hd hr
theorem own_retJ (X : Stand p l e R s m args below meth c T locs cells slots) (hx : p.tables.exec = Jvm.exec) {pc : Nat} {Ls : Array Slot} {z : Int64} {rest : List Value} (hret : meth.sig.returnType = some .long) (hd : decode c.code pc = .ok (.lreturn, 1)) (hlk : meth.locks = false) (eT : T.heap = h) (hQ : Q (some (.long z)) h locs) (hc : cells ≤ C) (hs : slots ≤ S) : own_Go p e below (own_Fin s C S Q) (T.setTop (mkF m pc Ls (.long z :: rest))) :=
  own_end X (fun h => by rw [hret] at h; cases h) hlk eT hQ hc hs fun fs hr => retOut X hx hret rfl (Or.inr (Or.inl ⟨rfl, rfl, _, rfl⟩)) hd hr
theorem own_retD (X : Stand p l e R s m args below meth c T locs cells slots) (hx : p.tables.exec = Jvm.exec) {pc : Nat} {Ls : Array Slot} {z : UInt64} {rest : List Value} (hret : meth.sig.returnType = some .double) (hd : decode c.code pc = .ok (.dreturn, 1)) (hlk : meth.locks = false) (eT : T.heap = h) (hQ : Q (some (.double z)) h locs) (hc : cells ≤ C) (hs : slots ≤ S) : own_Go p e below (own_Fin s C S Q) (T.setTop (mkF m pc Ls (.double z :: rest))) :=
  own_end X (fun h => by rw [hret] at h; cases h) hlk eT hQ hc hs fun fs hr => retOut X hx hret rfl (Or.inr (Or.inr (Or.inl ⟨rfl, rfl, _, rfl⟩))) hd hr
theorem own_retR (X : Stand p l e R s m args below meth c T locs cells slots) (hx : p.tables.exec = Jvm.exec) {pc : Nat} {Ls : Array Slot} {w : Value} {t : FieldType} {rest : List Value} (hret : meth.sig.returnType = some t) (ht : t.isReference = true) (hw : w.isRef = true) (hd : decode c.code pc = .ok (.areturn, 1)) (hlk : meth.locks = false) (eT : T.heap = h) (hQ : Q (some w) h locs) (hc : cells ≤ C) (hs : slots ≤ S) : own_Go p e below (own_Fin s C S Q) (T.setTop (mkF m pc Ls (w :: rest))) :=
  own_end X (fun h => by rw [hret] at h; cases h) hlk eT hQ hc hs fun fs hr => retOut X hx hret (by cases t <;> first | rfl | (cases w <;> first | rfl | cases hw) | (cases ht)) (Or.inr (Or.inr (Or.inr (Or.inr ⟨rfl, ht, hw⟩)))) hd hr
theorem own_ret0 (X : Stand p l e R s m args below meth c T locs cells slots) (hx : p.tables.exec = Jvm.exec) {pc : Nat} {Ls : Array Slot} (hret : meth.sig.returnType = none) (hd : decode c.code pc = .ok (.return_, 1)) (hlk : meth.locks = false) (eT : T.heap = h) (hQ : Q none h locs) (hc : cells ≤ C) (hs : slots ≤ S) : own_Go p e below (own_Fin s C S Q) (T.setTop (mkF m pc Ls [])) :=
  own_end X (fun _ => rfl) hlk eT hQ hc hs fun fs hr => X.returnOut hx hret hd hr
theorem own_one {z : Int32} (q : z = 1) : (some (.int (nar .boolean z)) : Option Value) = some (.int 1) := by subst q; rfl
theorem own_lrem {g : JFrame} {target : State} (hh : At T m c below) (hx : p.tables.exec = Jvm.exec) (hg : g.method = m) {x y : Int64} {rest : List Value} (hd : decode c.code g.pc = .ok (.lrem, 1)) (hs : g.stack = .long y :: .long x :: rest) (hy : y ≠ 0)
    (hr : Steps p.tables e below (T.setTop { g with pc := g.pc + 1, stack := .long (x % y) :: rest }) target) : Steps p.tables e below (T.setTop g) target :=
  XS.lrem hh hx hg hd hs hy (by rw [lrem_mod]; exact hr)
theorem own_Arf.lt {f : Nat → Value} (F : own_Arf Z h a k ty n f) : a < h.size := by obtain ⟨c, A, -⟩ := F; exact A.lt
theorem own_Arf.ext {f : Nat → Value} (F : own_Arf Z h a k ty n f) (E : Ext h h') : own_Arf Z h' a k ty n f := by obtain ⟨c, A, r⟩ := F; exact ⟨c, A.ext E, r⟩
theorem own_Arf.other {f : Nat → Value} {sl : Nat} {v : Value} (F : own_Arf Z h b k ty n f) (W : Wr h h' a sl v) (q : b ≠ a) : own_Arf Z h' b k ty n f := by obtain ⟨c, A, r⟩ := F; exact ⟨c, A.other W q, r⟩
theorem own_Arf.keep {f : Nat → Value} (F : own_Arf Z h a k ty n f) (K : Keep h h' ws) (q : a ∉ ws) : own_Arf Z h' a k ty n f := by obtain ⟨c, A, r⟩ := F; exact ⟨c, ⟨K.2.1 a c A.1 q, A.2⟩, r⟩
theorem own_arfNew (A : Arr Z h a (newA k ty n) ty) (q : ¬ n < 0) : own_Arf Z h a k ty n (fun _ => defaultValue ty) := ⟨_, A, rfl, sz_new _ _ _, q, fun i hi => by
  rw [sz_new] at hi; simp [newA, hi], fun i _ => by cases ty <;> rfl⟩
theorem own_arfSet {cl : Cell} {f : Nat → Value} {j : Nat} {v : Value} (A : Arr Z h a cl ty) (q1 : cl.cls = k) (S : cl.slots.size = n.toNatClampNeg) (q3 : ¬ n < 0) (H : ∀ i, i < cl.slots.size → cl.slots[i]? = some (f i)) (G : ∀ i, i < cl.slots.size → fits ty (f i) = true) (hv : fits ty v = true) (W : Wr h h' a j v) : own_Arf Z h' a k ty n (own_upd f j v) := by
  refine ⟨_, A.same W, q1, by rw [sz_set]; exact S, q3, fun i hi => ?_, fun i hi => ?_⟩
  · rw [sz_set] at hi
    by_cases u : j = i
    · subst u; simp [Cell.setSlot, hi, own_upd]
    · have := H i hi; simp only [Cell.setSlot] at this ⊢
      rw [Array.getElem?_setIfInBounds_ne u, this]; simp [own_upd, Ne.symm u]
  · rw [sz_set] at hi
    by_cases u : j = i
    · subst u; simpa [own_upd] using hv
    · have := G i hi; simpa [own_upd, Ne.symm u] using this
theorem own_arfSetI {cl : Cell} {f : Nat → Int32} {j : Nat} {v : Int32} (A : Arr Z h a cl ty) (q1 : cl.cls = k) (S : cl.slots.size = n.toNatClampNeg) (q3 : ¬ n < 0) (H : ∀ i, i < cl.slots.size → cl.slots[i]? = some (.int (f i))) (G : ∀ i, i < cl.slots.size → fits ty (.int (f i)) = true) (hv : fits ty (.int v) = true) (W : Wr h h' a j (.int v)) : own_Arf Z h' a k ty n (fun i => .int (own_upd f j v i)) := by
  have q := own_arfSet (f := fun i => .int (f i)) A q1 S q3 H G hv W
  have e : (own_upd (fun i => Value.int (f i)) j (.int v)) = (fun i => .int (own_upd f j v i)) := by funext i; simp only [own_upd]; split <;> rfl
  rw [← e]; exact q
theorem own_arfSetJ {cl : Cell} {f : Nat → Int64} {j : Nat} {v : Int64} (A : Arr Z h a cl ty) (q1 : cl.cls = k) (S : cl.slots.size = n.toNatClampNeg) (q3 : ¬ n < 0) (H : ∀ i, i < cl.slots.size → cl.slots[i]? = some (.long (f i))) (G : ∀ i, i < cl.slots.size → fits ty (.long (f i)) = true) (hv : fits ty (.long v) = true) (W : Wr h h' a j (.long v)) : own_Arf Z h' a k ty n (fun i => .long (own_upd f j v i)) := by
  have q := own_arfSet (f := fun i => .long (f i)) A q1 S q3 H G hv W
  have e : (own_upd (fun i => Value.long (f i)) j (.long v)) = (fun i => .long (own_upd f j v i)) := by funext i; simp only [own_upd]; split <;> rfl
  rw [← e]; exact q
theorem own_arfSetD {cl : Cell} {f : Nat → UInt64} {j : Nat} {v : UInt64} (A : Arr Z h a cl ty) (q1 : cl.cls = k) (S : cl.slots.size = n.toNatClampNeg) (q3 : ¬ n < 0) (H : ∀ i, i < cl.slots.size → cl.slots[i]? = some (.double (f i))) (G : ∀ i, i < cl.slots.size → fits ty (.double (f i)) = true) (hv : fits ty (.double v) = true) (W : Wr h h' a j (.double v)) : own_Arf Z h' a k ty n (fun i => .double (own_upd f j v i)) := by
  have q := own_arfSet (f := fun i => .double (f i)) A q1 S q3 H G hv W
  have e : (own_upd (fun i => Value.double (f i)) j (.double v)) = (fun i => .double (own_upd f j v i)) := by funext i; simp only [own_upd]; split <;> rfl
  rw [← e]; exact q
theorem own_neArr {A0 : Array Value} {C : String} {kk : Nat} {f : Nat → Value} (F : Exa Z h a C) (wi : (Cond.instantiable C kk).before A0 Z = true) (G : own_Arf Z h b k ty n f) : a ≠ b := by
  obtain ⟨c, A, -⟩ := G
  exact ne_arr F wi A
theorem own_selPriv {Z s : State} {A0 args : Array Value} {y : MethodName} {n : Nat} (hZ : Z.Warmed39 s.vm) (wi : (Cond.instantiable y.cls n).before A0 Z = true) (wp : (Cond.privateMethod y).before A0 Z = true) (wm : (Cond.instanceMethod y).before A0 Z = true) (hy : y.cls ≠ "java/lang/invoke/MethodHandle" ∧ y.cls ≠ "java/lang/invoke/VarHandle") : (Cond.selects y.cls y y).before args s = true := by
  have wi' : (Cond.instantiable y.cls n).before args s = true := mvT hZ wi
  obtain ⟨c, k, h1, h2, h3, h4, -⟩ := Cond.instantiable_spec wi'
  refine selects_self_of_private h1 h2 ?_ (Cond.privateMethod_at (mvP hZ wp (args := args))) (mvT hZ wm) hy
  cases hi : k.isInterface <;> simp_all
theorem own_fitR {t : FieldType} {v : Value} (h : v.isRef = true) : fits (.array t) v = true := by cases v <;> first | rfl | cases h
theorem own_fitO {t : String} {v : Value} (h : v.isRef = true) : fits (.object t) v = true := by cases v <;> first | rfl | cases h
theorem own_exaPlain {C : String} (E : Exa Z h a C) : ∀ c : Cell, h[a]? = some c → c.vm.isStatics = false := fun c hc => by
  obtain ⟨cell, k, h1, -, -, h4, -⟩ := E
  cases h1.symm.trans hc; exact h4
theorem own_arfPlain {f : Nat → Value} (F : own_Arf Z h a k ty n f) : ∀ c : Cell, h[a]? = some c → c.vm.isStatics = false := fun c hc => by
  obtain ⟨cell, A, -⟩ := F
  cases A.1.symm.trans hc; exact A.plain
theorem own_staKeep {C nn d : String} {w : Value} (F : Sta Z h C nn d w) (K : Keep h h' ws) (hp : ∀ x ∈ ws, ∀ c : Cell, h[x]? = some c → c.vm.isStatics = false) : Sta Z h' C nn d w := by
  obtain ⟨cf, i, k, f, st, cell, h1, h2, h3, h4, h5, h6, h7⟩ := F
  have hn : st ∉ ws := fun hm => by have := hp st hm cell h5; rw [h6] at this; cases this
  exact ⟨cf, i, k, f, st, cell, h1, h2, h3, h4, K.2.1 st cell h5 hn, h6, h7⟩
theorem own_cat1 {v : Value} (h : v.isRef = true) : v.category = 1 := by cases v <;> first | rfl | cases h
end OwnKit

theorem own_landNN (x : Int64) : ¬ ((x &&& (9223372036854775807 : Int64)) < (0 : Int64)) := by
  have h := (c_andSL x 9223372036854775807).2.2 (by decide)
  rw [Int64.lt_iff_toInt_lt]
  have e : (0 : Int64).toInt = 0 := rfl
  omega
theorem own_rem (x : Int32) (d : Int) (y : Int32) (hy : y.toInt = d) (h0 : 0 < d) : 0 ≤ ((x &&& 2147483647) % y).toInt ∧ ((x &&& 2147483647) % y).toInt < d := by
  have h1 := c_and x 2147483647 (by decide)
  have h2 := (c_irem (x &&& 2147483647) y d hy).1 h1.1
  rw [h2]; exact ⟨Int.emod_nonneg _ (by omega), Int.emod_lt_of_pos _ h0⟩
theorem own_fldEq {args : Array Value} {s : State} {t : Term} {a : Addr} {C n d : String} {k : Int32} (h : (Jvm.Cond.eq (Term.field t C n d) (Term.int k)).value args s none s [] = some true) (ev : t.eval args s none [] s = some (.ref a)) : Fld s s.heap a C n d (.int k) := by
  refine Fld.start ?_
  have e1 := fld_at (C := C) (n := n) (dd := d) ev
  have e2 : (Term.int k).eval args s none [] s = some (.int k) := rfl
  simp only [Cond.value, e1, e2] at h
  cases hf : s.fieldOf? a C n d with
  | none => rw [hf] at h; simp at h
  | some v =>
    rw [hf] at h
    cases v <;> simp_all
theorem own_s16 (x : Int32) (h1 : -32768 ≤ x.toInt) (h2 : x.toInt < 32768) : x.toInt16.toInt32 = x := by
  have h := c_i2s x
  apply Int32.toInt_inj.mp
  omega
theorem own_swn (k : Int32) {a : Int32} {A : Int} (e : a.toInt = A) (h : ¬ (k = a)) : (A == k.toInt) = false := by
  apply Bool.eq_false_iff.mpr
  intro q
  exact h (Int32.toInt_inj.mp ((beq_iff_eq.mp q).symm.trans e.symm))
/-- a double as a whole number of the format's least numbers -/
abbrev own_z (x : UInt64) : Int := FP.Core.zval FP.Core.b64 (FP.Core.val64 x)
/-- 2^-40 in these units -/
def own_P : Int := ((2 ^ 1034 : Nat) : Int)
theorem own_Pp : 0 < own_P := Int.ofNat_lt.mpr (Nat.two_pow_pos 1034)
theorem own_grid (k : Nat) (hk : k < 2 ^ 53) : ∃ V, FP.Core.fits FP.Core.b64 V ∧ V ≠ .nan ∧ FP.Core.zval FP.Core.b64 V = (k : Int) * own_P := by
  by_cases h0 : k = 0
  · subst h0
    refine ⟨.fin false 0 FP.Core.b64.qmin, FP.Core.zero_fits FP.Core.good_b64 false, nofun, ?_⟩
    show FP.Core.signed false (FP.Core.inUnits 0 _ _) = _
    simp [FP.Core.inUnits, FP.Core.signed]
  · have h1 : 2 ^ k.log2 ≤ k := Nat.log2_self_le h0
    have h2 : k < 2 ^ (k.log2 + 1) := Nat.lt_log2_self
    have h3 : k.log2 ≤ 52 := by
      have h4 : 2 ^ k.log2 < 2 ^ 53 := Nat.lt_of_le_of_lt h1 hk
      have := (Nat.pow_lt_pow_iff_right (a := 2) (by decide)).mp h4
      omega
    generalize k.log2 = l at h1 h2 h3
    have e : 2 ^ (l + 1) * 2 ^ (52 - l) = 2 ^ 53 := by rw [← Nat.pow_add]; congr 1; omega
    have e2 : 2 ^ l * 2 ^ (52 - l) = 2 ^ 52 := by rw [← Nat.pow_add]; congr 1; omega
    refine ⟨.fin false (k * 2 ^ (52 - l)) ((l : Int) - 92), ⟨?_, ?_, ?_, Or.inr ?_⟩, nofun, ?_⟩
    · show k * 2 ^ (52 - l) < 2 ^ 53
      rw [← e]
      exact Nat.mul_lt_mul_of_pos_right h2 (Nat.two_pow_pos _)
    · rw [FP.Core.qmin_b64]; omega
    · have : FP.Core.b64.qmax = 971 := by decide
      rw [this]; omega
    · rw [FP.Core.tails_b64, ← e2]
      exact Nat.mul_le_mul_right _ h1
    · show FP.Core.signed false (FP.Core.inUnits (k * 2 ^ (52 - l)) ((l : Int) - 92) FP.Core.b64.qmin) = _
      rw [FP.Core.qmin_b64]
      have e3 : ((l : Int) - 92 - -1074).toNat = l + 982 := by omega
      unfold FP.Core.inUnits
      rw [e3, Nat.mul_assoc, ← Nat.pow_add]
      have e4 : 52 - l + (l + 982) = 1034 := by omega
      rw [e4]
      show ((k * 2 ^ 1034 : Nat) : Int) = (k : Int) * ((2 ^ 1034 : Nat) : Int)
      exact Int.natCast_mul _ _
/-- below and above s, on the grid -/
theorem own_near (s : Int) (h0 : 0 ≤ s) (h1 : s ≤ 8796093022208 * own_P) : ∃ V W, FP.Core.fits FP.Core.b64 V ∧ V ≠ .nan ∧ FP.Core.fits FP.Core.b64 W ∧ W ≠ .nan ∧ 0 ≤ FP.Core.zval FP.Core.b64 V ∧ FP.Core.zval FP.Core.b64 V ≤ s ∧ s - own_P ≤ FP.Core.zval FP.Core.b64 V ∧ s ≤ FP.Core.zval FP.Core.b64 W ∧ FP.Core.zval FP.Core.b64 W ≤ s + own_P := by
  have hp := own_Pp
  have a1 := Int.ediv_mul_le s (Int.ne_of_gt hp)
  have a2 := Int.lt_ediv_add_one_mul_self s hp
  have a3 : 0 ≤ s / own_P := Int.ediv_nonneg h0 (Int.le_of_lt hp)
  have a4 : s / own_P ≤ 8796093022208 := Int.le_of_mul_le_mul_right (Int.le_trans a1 h1) hp
  obtain ⟨k, hk⟩ : ∃ k : Nat, s / own_P = (k : Int) := ⟨(s / own_P).toNat, (Int.toNat_of_nonneg a3).symm⟩
  rw [hk] at a1 a2 a4
  obtain ⟨V, v1, v2, v3⟩ := own_grid k (by omega)
  obtain ⟨W, w1, w2, w3⟩ := own_grid (k + 1) (by omega)
  have e : ((k + 1 : Nat) : Int) * own_P = (k : Int) * own_P + own_P := by rw [Int.natCast_add, Int.add_mul]; simp
  have e' : ((k : Int) + 1) * own_P = (k : Int) * own_P + own_P := by rw [Int.add_mul]; simp
  rw [e'] at a2
  refine ⟨V, W, v1, v2, w1, w2, ?_, ?_, ?_, ?_, ?_⟩
  · rw [v3]; exact Int.mul_nonneg (Int.natCast_nonneg k) (Int.le_of_lt hp)
  · rw [v3]; exact a1
  · rw [v3]; omega
  · rw [w3, e]; omega
  · rw [w3, e]; omega
theorem own_finz {r : UInt64} (hn : FP.Core.val64 r ≠ .nan) (h : own_z r ≤ 8796093022209 * own_P) (h' : 0 ≤ own_z r) : FP.Core.DFin r := by
  cases e : FP.Core.val64 r with
  | nan => exact absurd e hn
  | fin s c q => exact ⟨s, c, q, e⟩
  | inf s =>
    exfalso
    unfold own_z at h h'
    rw [e] at h h'
    cases s
    · exact absurd h (by decide +kernel)
    · exact absurd h' (by decide +kernel)
theorem own_sum {x y : UInt64} {d : FP.Core.Datum} {r : UInt64} (hx : FP.Core.DFin x) (hd : ∃ s c q, d = .fin s c q) (fd : FP.Core.fits FP.Core.b64 d) (zd : FP.Core.zval FP.Core.b64 d = own_z y) (hr : FP.Core.val64 r = FP.Core.round FP.Core.b64 (FP.Core.exactSum (FP.Core.val64 x) d)) (h0 : 0 ≤ own_z x + own_z y) (h1 : own_z x + own_z y ≤ 8796093022208 * own_P) : FP.Core.DFin r ∧ 0 ≤ own_z r ∧ own_z x + own_z y - own_P ≤ own_z r ∧ own_z r ≤ own_z x + own_z y + own_P := by
  obtain ⟨V, W, v1, v2, w1, w2, b0, b1, b2, b3, b4⟩ := own_near _ h0 h1
  have g1 := FP.Core.sum_ge FP.Core.good_b64 hx hd (FP.Core.val64_fits x) fd v1 v2 (by rw [zd]; exact b1)
  have g2 := FP.Core.sum_le FP.Core.good_b64 hx hd (FP.Core.val64_fits x) fd w1 w2 (by rw [zd]; exact b3)
  have hn : FP.Core.val64 r ≠ .nan := by
    obtain ⟨s, c, q, ex⟩ := hx
    obtain ⟨t, c', q', rfl⟩ := hd
    rw [hr, ex]
    exact FP.Core.roundRatio_ne_nan _ _ _ _ _
  rw [← hr] at g1 g2
  have k1 : own_z x + own_z y - own_P ≤ own_z r := Int.le_trans b2 g1
  have k2 : own_z r ≤ own_z x + own_z y + own_P := Int.le_trans g2 b4
  have k0 : 0 ≤ own_z r := Int.le_trans b0 g1
  exact ⟨own_finz hn (by omega) k0, k0, k1, k2⟩
theorem own_dadd {x y : UInt64} (hx : FP.Core.DFin x) (hy : FP.Core.DFin y) (h0 : 0 ≤ own_z x + own_z y) (h1 : own_z x + own_z y ≤ 8796093022208 * own_P) : FP.Core.DFin (FP.dadd x y) ∧ 0 ≤ own_z (FP.dadd x y) ∧ own_z x + own_z y - own_P ≤ own_z (FP.dadd x y) ∧ own_z (FP.dadd x y) ≤ own_z x + own_z y + own_P :=
  own_sum hx hy (FP.Core.val64_fits y) rfl (FP.Core.val64_dadd x y) h0 h1
theorem own_dneg {y : UInt64} (hy : FP.Core.DFin y) : ∃ s c q, FP.Core.negate (FP.Core.val64 y) = .fin s c q := by
  obtain ⟨s, c, q, e⟩ := hy
  exact ⟨!s, c, q, by rw [e]; rfl⟩
theorem own_noNaN {x : UInt64} (h : FP.Core.DFin x) : Fl.NoNaN64 x := by
  obtain ⟨s, c, q, e⟩ := h
  exact Jvm.Free.Fl.val64_no.mpr (by rw [e]; exact nofun)
theorem own_grid53 (k : Nat) (hk : k < 2 ^ 53) : ∃ V, FP.Core.fits FP.Core.b64 V ∧ V ≠ .nan ∧ FP.Core.zmag FP.Core.b64 V = k * 2 ^ 1021 := by
  by_cases h0 : k = 0
  · subst h0
    refine ⟨.fin false 0 FP.Core.b64.qmin, FP.Core.zero_fits FP.Core.good_b64 false, nofun, ?_⟩
    show FP.Core.inUnits 0 _ _ = _
    simp [FP.Core.inUnits]
  · have h1 : 2 ^ k.log2 ≤ k := Nat.log2_self_le h0
    have h2 : k < 2 ^ (k.log2 + 1) := Nat.lt_log2_self
    have h3 : k.log2 ≤ 52 := by
      have h4 : 2 ^ k.log2 < 2 ^ 53 := Nat.lt_of_le_of_lt h1 hk
      have := (Nat.pow_lt_pow_iff_right (a := 2) (by decide)).mp h4
      omega
    generalize k.log2 = l at h1 h2 h3
    have e : 2 ^ (l + 1) * 2 ^ (52 - l) = 2 ^ 53 := by rw [← Nat.pow_add]; congr 1; omega
    have e2 : 2 ^ l * 2 ^ (52 - l) = 2 ^ 52 := by rw [← Nat.pow_add]; congr 1; omega
    refine ⟨.fin false (k * 2 ^ (52 - l)) ((l : Int) - 105), ⟨?_, ?_, ?_, Or.inr ?_⟩, nofun, ?_⟩
    · show k * 2 ^ (52 - l) < 2 ^ 53
      rw [← e]
      exact Nat.mul_lt_mul_of_pos_right h2 (Nat.two_pow_pos _)
    · rw [FP.Core.qmin_b64]; omega
    · have : FP.Core.b64.qmax = 971 := by decide
      rw [this]; omega
    · rw [FP.Core.tails_b64, ← e2]
      exact Nat.mul_le_mul_right _ h1
    · show FP.Core.inUnits (k * 2 ^ (52 - l)) ((l : Int) - 105) FP.Core.b64.qmin = _
      rw [FP.Core.qmin_b64]
      have e3 : ((l : Int) - 105 - -1074).toNat = l + 969 := by omega
      unfold FP.Core.inUnits
      rw [e3, Nat.mul_assoc, ← Nat.pow_add]
      have e4 : 52 - l + (l + 969) = 1021 := by omega
      rw [e4]
theorem own_pow (q r : Int) : 2 ^ (q - r).toNat * (2 ^ (-q).toNat * 2 ^ r.toNat) = 2 ^ (r - q).toNat * (2 ^ q.toNat * 2 ^ (-r).toNat) := by
  rw [← Nat.pow_add, ← Nat.pow_add, ← Nat.pow_add, ← Nat.pow_add]
  congr 1
  omega
theorem own_wh {i : Int} {c : Nat} {q : Int} (h : FP.Core.Whole i (.fin false c q)) (hi : 0 ≤ i) : c * 2 ^ q.toNat = i.toNat * 2 ^ (-q).toNat := by
  have h' : ((c * 2 ^ q.toNat : Nat) : Int) = i * ((2 ^ (-q).toNat : Nat) : Int) := h
  apply Int.ofNat.inj
  show ((c * 2 ^ q.toNat : Nat) : Int) = ((i.toNat * 2 ^ (-q).toNat : Nat) : Int)
  rw [h', Int.natCast_mul, Int.toNat_of_nonneg hi]
def own_S (a : Int64) : Prop := 0 < a.toInt ∧ a.toInt < 9007199254740992
theorem own_q {a n : Int64} (ha : own_S a) (hn : own_S n) : FP.Core.val64 (FP.ddiv (FP.l2d a) (FP.l2d n)) = FP.Core.roundRatio FP.Core.b64 false a.toInt.toNat n.toInt.toNat 0 := by
  obtain ⟨ha0, ha1⟩ := ha
  obtain ⟨hn0, hn1⟩ := hn
  obtain ⟨c, q, ea⟩ := FP.Core.l2d_shape a
  obtain ⟨d, r, en⟩ := FP.Core.l2d_shape n
  have wa := FP.Core.l2d_whole (a := a) ⟨by omega, ha1⟩
  have wn := FP.Core.l2d_whole (a := n) ⟨by omega, hn1⟩
  rw [decide_eq_false (show ¬ a.toInt < 0 by omega)] at ea
  rw [decide_eq_false (show ¬ n.toInt < 0 by omega)] at en
  rw [ea] at wa
  rw [en] at wn
  have e := FP.Core.val64_ddiv (FP.Core.l2d a) (FP.Core.l2d n)
  rw [ea, en] at e
  have hd : d ≠ 0 := fun h => by
    have := (FP.Core.whole_zero wn).mp h
    omega
  have e2 : FP.Core.quotient FP.Core.b64 (.fin false c q) (.fin false d r) = FP.Core.roundRatio FP.Core.b64 false c d (q - r) := by
    show (if d = 0 then _ else _) = _
    rw [if_neg hd]
    rfl
  rw [e2] at e
  refine Eq.trans e (FP.Core.roundRatio_congr (Nat.pos_of_ne_zero hd) (by omega) ?_)
  have wa' := own_wh wa (Int.le_of_lt ha0)
  have wn' := own_wh wn (Int.le_of_lt hn0)
  have hp := own_pow q r
  clear wa wn e e2 ea en
  generalize a.toInt.toNat = A at *
  generalize n.toInt.toNat = N at *
  rw [show q - r - 0 = q - r by omega, show (0 : Int) - (q - r) = r - q by omega]
  have p1 := Nat.two_pow_pos q.toNat
  have p2 := Nat.two_pow_pos (-q).toNat
  have p3 := Nat.two_pow_pos r.toNat
  have p4 := Nat.two_pow_pos (-r).toNat
  generalize 2 ^ q.toNat = X at *
  generalize 2 ^ (-q).toNat = X' at *
  generalize 2 ^ r.toNat = Y at *
  generalize 2 ^ (-r).toNat = Y' at *
  generalize 2 ^ (q - r).toNat = E at *
  generalize 2 ^ (r - q).toNat = E' at *
  apply Nat.eq_of_mul_eq_mul_right (Nat.mul_pos (Nat.mul_pos p1 p4) (Nat.mul_pos p2 p3))
  calc c * N * E * (X * Y' * (X' * Y)) = (c * X) * (N * Y') * (E * (X' * Y)) := by ac_rfl
    _ = (A * X') * (d * Y) * (E' * (X * Y')) := by rw [wa', wn', hp]
    _ = A * d * E' * (X * Y' * (X' * Y)) := by ac_rfl
abbrev own_r (a n : Nat) : Nat := FP.Core.zmag FP.Core.b64 (FP.Core.roundRatio FP.Core.b64 false a n 0)
theorem own_53 : (2 : Nat) ^ 1074 = 2 ^ 53 * 2 ^ 1021 := by rw [← Nat.pow_add]
theorem own_qle {a n k : Nat} (hn : 0 < n) (hk : k < 2 ^ 53) (h : a * 2 ^ 53 ≤ k * n) : own_r a n ≤ k * 2 ^ 1021 := by
  obtain ⟨V, v1, v2, v3⟩ := own_grid53 k hk
  rw [← v3]
  refine FP.Core.zmag_roundRatio_le FP.Core.good_b64 (e0 := FP.Core.b64.qmin) hn v1 v2 (Int.le_refl _) (by rw [FP.Core.qmin_b64]; decide) ?_
  rw [v3, Int.sub_self, FP.Core.qmin_b64]
  show a * 2 ^ 1074 ≤ k * 2 ^ 1021 * 2 ^ 0 * n
  rw [own_53]
  generalize (2 : Nat) ^ 53 = b at *
  generalize (2 : Nat) ^ 1021 = B at *
  calc a * (b * B) = (a * b) * B := by ac_rfl
    _ ≤ (k * n) * B := Nat.mul_le_mul_right _ h
    _ = k * B * 2 ^ 0 * n := by rw [Nat.pow_zero, Nat.mul_one]; ac_rfl
theorem own_qge {a n k : Nat} (hn : 0 < n) (hk : k < 2 ^ 53) (h : k * n ≤ a * 2 ^ 53) : k * 2 ^ 1021 ≤ own_r a n := by
  obtain ⟨V, v1, v2, v3⟩ := own_grid53 k hk
  rw [← v3]
  refine FP.Core.zmag_roundRatio_ge FP.Core.good_b64 (e0 := FP.Core.b64.qmin) hn v1 (Int.le_refl _) (by rw [FP.Core.qmin_b64]; decide) ?_
  rw [v3, Int.sub_self, FP.Core.qmin_b64]
  show k * 2 ^ 1021 * 2 ^ 0 * n ≤ a * 2 ^ 1074
  rw [own_53]
  generalize (2 : Nat) ^ 53 = b at *
  generalize (2 : Nat) ^ 1021 = B at *
  calc k * B * 2 ^ 0 * n = (k * n) * B := by rw [Nat.pow_zero, Nat.mul_one]; ac_rfl
    _ ≤ (a * b) * B := Nat.mul_le_mul_right _ h
    _ = a * (b * B) := by ac_rfl
theorem own_rz {a n : Nat} {x : UInt64} (h : FP.Core.val64 x = FP.Core.roundRatio FP.Core.b64 false a n 0) : own_z x = ((own_r a n : Nat) : Int) ∧ FP.Core.val64 x ≠ .nan := by
  constructor
  · show FP.Core.signed (FP.Core.sgn (FP.Core.val64 x)) (FP.Core.zmag FP.Core.b64 (FP.Core.val64 x)) = _
    rw [h, FP.Core.sgn_roundRatio]
    rfl
  · rw [h]; exact FP.Core.roundRatio_ne_nan _ _ _ _ _
/-- trust of s successes and f failures -/
theorem own_T {s f : Int64} (hs : 0 ≤ s.toInt ∧ s.toInt ≤ 35184372088832) (hf : 0 ≤ f.toInt ∧ f.toInt ≤ 35184372088832) :
    FP.dadd (FP.l2d s) FP.dconst1 = FP.l2d (s + 1) ∧ FP.dadd (FP.l2d (s + f)) (4611686018427387904 : UInt64) = FP.l2d ((s + f) + 2) ∧ FP.Core.val64 (FP.ddiv (FP.dadd (FP.l2d s) FP.dconst1) (FP.dadd (FP.l2d (s + f)) (4611686018427387904 : UInt64))) = FP.Core.roundRatio FP.Core.b64 false (s.toInt.toNat + 1) (s.toInt.toNat + f.toInt.toNat + 2) 0 := by
  have c1 := c_ladd s 1
  have c2 := c_ladd s f
  have c3 := c_ladd (s + f) 2
  have r1 := rng64 (s + 1)
  have r2 := rng64 (s + f)
  have r3 := rng64 (s + f + 2)
  have k1 : (1 : Int64).toInt = 1 := rfl
  have k2 : (2 : Int64).toInt = 2 := rfl
  have e1 : (s + 1).toInt = s.toInt + 1 := by omega
  have e2 : (s + f).toInt = s.toInt + f.toInt := by omega
  have e3 : (s + f + 2).toInt = s.toInt + f.toInt + 2 := by omega
  have o1 : FP.dconst1 = FP.Core.l2d 1 := by decide +kernel
  have o2 : (4611686018427387904 : UInt64) = FP.Core.l2d 2 := by decide +kernel
  have d1 : FP.dadd (FP.l2d s) FP.dconst1 = FP.l2d (s + 1) := by
    rw [o1]
    exact FP.Core.dadd_l2d ⟨by omega, by omega⟩ ⟨by decide, by decide⟩
  have d2 : FP.dadd (FP.l2d (s + f)) (4611686018427387904 : UInt64) = FP.l2d ((s + f) + 2) := by
    rw [o2]
    exact FP.Core.dadd_l2d ⟨by omega, by omega⟩ ⟨by decide, by decide⟩
  refine ⟨d1, d2, ?_⟩
  rw [d1, d2]
  have h := own_q (a := s + 1) (n := s + f + 2) ⟨by omega, by omega⟩ ⟨by omega, by omega⟩
  rw [e1, e3, show (s.toInt + 1).toNat = s.toInt.toNat + 1 by omega, show (s.toInt + f.toInt + 2).toNat = s.toInt.toNat + f.toInt.toNat + 2 by omega] at h
  exact h
theorem own_nnT {s f : Int64} (hs : 0 ≤ s.toInt ∧ s.toInt ≤ 35184372088832) (hf : 0 ≤ f.toInt ∧ f.toInt ≤ 35184372088832) : Fl.NoNaN64 (FP.dadd (FP.l2d s) FP.dconst1) ∧ Fl.NoNaN64 (FP.dadd (FP.l2d (s + f)) (4611686018427387904 : UInt64)) ∧ Fl.NoNaN64 (FP.ddiv (FP.dadd (FP.l2d s) FP.dconst1) (FP.dadd (FP.l2d (s + f)) (4611686018427387904 : UInt64))) := by
  obtain ⟨h1, h2, h3⟩ := own_T hs hf
  refine ⟨?_, ?_, ?_⟩
  · rw [h1]; exact own_noNaN (FP.Core.l2d_fin _)
  · rw [h2]; exact own_noNaN (FP.Core.l2d_fin _)
  · exact Jvm.Free.Fl.val64_no.mpr (own_rz h3).2
theorem own_cl {x y : UInt64} (nx : FP.Core.val64 x ≠ .nan) (ny : FP.Core.val64 y ≠ .nan) : (cmpValue (FP.dcmp x y) .l = (0 : Int32) ↔ own_z x = own_z y) ∧ (cmpValue (FP.dcmp x y) .g < (0 : Int32) ↔ own_z x < own_z y) := by
  have h : FP.dcmp x y = some (compare (own_z x) (own_z y)) := FP.Core.dcmp_zval nx ny
  rw [h, FP.Core.compare_ite]
  by_cases q1 : own_z x < own_z y
  · rw [if_pos q1]
    exact ⟨⟨fun k => absurd k (by decide), fun k => by omega⟩, ⟨fun _ => q1, fun _ => by decide⟩⟩
  · rw [if_neg q1]
    by_cases q2 : own_z x = own_z y
    · rw [if_pos q2]
      exact ⟨⟨fun _ => q2, fun _ => by decide⟩, ⟨fun k => absurd k (by decide), fun k => absurd k q1⟩⟩
    · rw [if_neg q2]
      exact ⟨⟨fun k => absurd k (by decide), fun k => absurd k q2⟩, ⟨fun k => absurd k (by decide), fun k => absurd k q1⟩⟩
theorem own_two (k : Nat) (h : k < 27) : ((1 : Int64) <<< ((Int32.ofNat k) &&& 0x3f).toInt64).toInt = ((2 ^ k : Nat) : Int) := by
  revert h; revert k; decide +kernel
theorem own_mulL (x y : Int64) (a b : Int) (hx : 0 ≤ x.toInt ∧ x.toInt ≤ a) (hy : 0 ≤ y.toInt ∧ y.toInt ≤ b) (hab : a * b < 9223372036854775808) : (x * y).toInt = x.toInt * y.toInt ∧ 0 ≤ x.toInt * y.toInt ∧ x.toInt * y.toInt ≤ a * b := by
  have h := c_lmul x y
  have r := rng64 (x * y)
  have p0 : 0 ≤ x.toInt * y.toInt := Int.mul_nonneg hx.1 hy.1
  have p1 : x.toInt * y.toInt ≤ a * b := Int.mul_le_mul hx.2 hy.2 hy.1 (Int.le_trans hx.1 hx.2)
  generalize x.toInt * y.toInt = P at *
  exact ⟨by omega, p0, p1⟩
def own_N (v1 v2 v3 v4 v6 v7 v8 : Int64) (k : Nat) : Prop := (0 ≤ v1.toInt ∧ v1.toInt ≤ 16777215) ∧ (0 ≤ v2.toInt ∧ v2.toInt ≤ 16777215) ∧ v3.toInt = v1.toInt + 1 ∧ v4.toInt = v1.toInt + v2.toInt + 2 ∧ (1 ≤ k ∧ k ≤ 26) ∧ v6.toInt = ((2 ^ k : Nat) : Int) ∧ (1 ≤ v7.toInt ∧ v7.toInt < v6.toInt) ∧ (1 ≤ v8.toInt ∧ v8.toInt ≤ 1048576)
theorem own_nums {q0 q1 v1 v2 v3 v4 v6 v7 v8 : Int64} {p2 p3 p4 v5 : Int32} (h1 : (q0 &&& (16777215 : Int64)) = v1) (h2 : (q1 &&& (16777215 : Int64)) = v2) (h3 : (v1 + (1 : Int64)) = v3) (h4 : ((v1 + v2) + (2 : Int64)) = v4) (h5 : (((p2 &&& (2147483647 : Int32)) % (26 : Int32)) + (1 : Int32)) = v5) (h6 : ((1 : Int64) <<< (v5 &&& 0x3f).toInt64) = v6) (h7 : ((1 : Int64) + (((p3 &&& (2147483647 : Int32)).toInt64) % (v6 - (1 : Int64)))) = v7) (h8 : ((1 : Int64) + ((p4 &&& (1048575 : Int32)).toInt64)) = v8) : ∃ k, own_N v1 v2 v3 v4 v6 v7 v8 k := by
  have k1 : (1 : Int64).toInt = 1 := rfl
  have k2 : (2 : Int64).toInt = 2 := rfl
  have a1 := c_maskL q0 16777215 24 (by decide) (by decide)
  have a2 := c_maskL q1 16777215 24 (by decide) (by decide)
  rw [h1] at a1
  rw [h2] at a2
  have b1 : 0 ≤ v1.toInt ∧ v1.toInt ≤ 16777215 := by omega
  have b2 : 0 ≤ v2.toInt ∧ v2.toInt ≤ 16777215 := by omega
  have a3 := c_ladd v1 1
  rw [h3] at a3
  have r3 := rng64 v3
  have b3 : v3.toInt = v1.toInt + 1 := by omega
  have a4 := c_ladd v1 v2
  have r4 := rng64 (v1 + v2)
  have a5 := c_ladd (v1 + v2) 2
  rw [h4] at a5
  have r5 := rng64 v4
  have b4 : v4.toInt = v1.toInt + v2.toInt + 2 := by omega
  have c5 := own_rem p2 26 26 rfl (by decide)
  have c6 := c_iadd ((p2 &&& (2147483647 : Int32)) % (26 : Int32)) 1
  rw [h5] at c6
  have e1 : (1 : Int32).toInt = 1 := rfl
  have r6 := rng32 v5
  have b5 : 1 ≤ v5.toInt ∧ v5.toInt ≤ 26 := by omega
  obtain ⟨k, hk⟩ : ∃ k : Nat, v5.toInt = (k : Int) := ⟨v5.toInt.toNat, (Int.toNat_of_nonneg (by omega)).symm⟩
  have ev : v5 = Int32.ofNat k := by
    apply Int32.toInt_inj.mp
    rw [hk, Int32.toInt_ofNat_of_lt (by omega)]
  have b6 : v6.toInt = ((2 ^ k : Nat) : Int) := by
    rw [← h6, ev]
    exact own_two k (by omega)
  have p6 : 2 ^ 1 ≤ 2 ^ k := Nat.pow_le_pow_right (by decide) (by omega)
  have p7 : 2 ^ k ≤ 2 ^ 26 := Nat.pow_le_pow_right (by decide) (by omega)
  have c7 := c_lsub v6 1
  have r7 := rng64 (v6 - 1)
  have b7 : (v6 - 1).toInt = v6.toInt - 1 := by omega
  have c8 := c_and p3 2147483647 (by decide)
  have c9 := c_i2l (p3 &&& 2147483647)
  have c10 : ((p3 &&& (2147483647 : Int32)).toInt64 % (v6 - (1 : Int64))).toInt = ((p3 &&& (2147483647 : Int32)).toInt64).toInt.tmod (v6 - (1 : Int64)).toInt := Int64.toInt_mod _ _
  have c11 : 0 ≤ ((p3 &&& (2147483647 : Int32)).toInt64).toInt.tmod (v6 - (1 : Int64)).toInt := Int.tmod_nonneg _ (by omega)
  have c12 : ((p3 &&& (2147483647 : Int32)).toInt64).toInt.tmod (v6 - (1 : Int64)).toInt < (v6 - (1 : Int64)).toInt := Int.tmod_lt_of_pos _ (by omega)
  rw [← c10] at c11 c12
  have c13 := c_ladd 1 ((p3 &&& (2147483647 : Int32)).toInt64 % (v6 - (1 : Int64)))
  rw [h7] at c13
  have r8 := rng64 v7
  have b8 : 1 ≤ v7.toInt ∧ v7.toInt < v6.toInt := by omega
  have c14 := c_and p4 1048575 (by decide)
  have c15 := c_i2l (p4 &&& 1048575)
  have c16 := c_ladd 1 ((p4 &&& (1048575 : Int32)).toInt64)
  rw [h8] at c16
  have r9 := rng64 v8
  have e9 : (1048575 : Int32).toInt = 1048575 := rfl
  exact ⟨k, b1, b2, b3, b4, ⟨by omega, by omega⟩, b6, b8, by omega⟩
section OwnL
variable {v1 v2 v3 v4 v6 v7 v8 : Int64} {k : Nat}
theorem own_p26 (h : own_N v1 v2 v3 v4 v6 v7 v8 k) : 2 ≤ v6.toInt ∧ v6.toInt ≤ 67108864 := by
  obtain ⟨-, -, -, -, hk, h6, -, -⟩ := h
  have p6 : 2 ^ 1 ≤ 2 ^ k := Nat.pow_le_pow_right (by decide) (by omega)
  have p7 : 2 ^ k ≤ 2 ^ 26 := Nat.pow_le_pow_right (by decide) (by omega)
  omega
theorem own_s2 (h : own_N v1 v2 v3 v4 v6 v7 v8 k) : ((v7 - 1).toInt = v7.toInt - 1 ∧ 0 ≤ v7.toInt - 1) ∧ (((v6 - v7) - 1).toInt = v6.toInt - v7.toInt - 1 ∧ 0 ≤ v6.toInt - v7.toInt - 1) := by
  have h6 := own_p26 h
  obtain ⟨-, -, -, -, -, -, h7, -⟩ := h
  have a1 := c_lsub v7 1
  have a2 := c_lsub v6 v7
  have a3 := c_lsub (v6 - v7) 1
  have r1 := rng64 (v7 - 1)
  have r2 := rng64 (v6 - v7)
  have r3 := rng64 (v6 - v7 - 1)
  have k1 : (1 : Int64).toInt = 1 := rfl
  omega
theorem own_s3 (h : own_N v1 v2 v3 v4 v6 v7 v8 k) : ((v8 * v3 - 1).toInt = v8.toInt * v3.toInt - 1 ∧ 0 ≤ v8.toInt * v3.toInt - 1 ∧ v8.toInt * v3.toInt ≤ 17592186044416) ∧ ((v8 * (v2 + 1) - 1).toInt = v8.toInt * (v2.toInt + 1) - 1 ∧ 0 ≤ v8.toInt * (v2.toInt + 1) - 1 ∧ v8.toInt * (v2.toInt + 1) ≤ 17592186044416) := by
  obtain ⟨h1, h2, h3, -, -, -, -, h8⟩ := h
  have k1 : (1 : Int64).toInt = 1 := rfl
  have a0 := c_ladd v2 1
  have r0 := rng64 (v2 + 1)
  have e0 : (v2 + 1).toInt = v2.toInt + 1 := by omega
  obtain ⟨m1, m2, m3⟩ := own_mulL v8 v3 1048576 16777216 ⟨by omega, by omega⟩ ⟨by omega, by omega⟩ (by decide)
  obtain ⟨n1, n2, n3⟩ := own_mulL v8 (v2 + 1) 1048576 16777216 ⟨by omega, by omega⟩ ⟨by omega, by omega⟩ (by decide)
  rw [e0] at n1 n2 n3
  have q1 : 1 * 1 ≤ v8.toInt * v3.toInt := Int.mul_le_mul h8.1 (by omega) (by decide) (by omega)
  have q2 : 1 * 1 ≤ v8.toInt * (v2.toInt + 1) := Int.mul_le_mul h8.1 (by omega) (by decide) (by omega)
  have a1 := c_lsub (v8 * v3) 1
  have a2 := c_lsub (v8 * (v2 + 1)) 1
  have r1 := rng64 (v8 * v3 - 1)
  have r2 := rng64 (v8 * (v2 + 1) - 1)
  generalize v8.toInt * v3.toInt = P at *
  generalize v8.toInt * (v2.toInt + 1) = Q at *
  omega
/-- all that the law says of the three quotients -/
theorem own_law {t1 t2 t3 : UInt64} {v44 v45 : Int64} (h : own_N v1 v2 v3 v4 v6 v7 v8 k) (e1 : (FP.ddiv (FP.dadd (FP.l2d v1) FP.dconst1) (FP.dadd (FP.l2d (v1 + v2)) (4611686018427387904 : UInt64))) = t1) (e2 : (FP.ddiv (FP.dadd (FP.l2d (v7 - (1 : Int64))) FP.dconst1) (FP.dadd (FP.l2d ((v7 - (1 : Int64)) + ((v6 - v7) - (1 : Int64)))) (4611686018427387904 : UInt64))) = t2) (e3 : (FP.ddiv (FP.dadd (FP.l2d ((v8 * v3) - (1 : Int64))) FP.dconst1) (FP.dadd (FP.l2d (((v8 * v3) - (1 : Int64)) + ((v8 * (v2 + (1 : Int64))) - (1 : Int64)))) (4611686018427387904 : UInt64))) = t3) (e4 : v3 * v6 = v44) (e5 : v7 * v4 = v45) :
    Fl.NoNaN64 (FP.dmul t2 (FP.l2d v6)) ∧ cmpValue (FP.dcmp (FP.dmul t2 (FP.l2d v6)) (FP.l2d v7)) .l = (0 : Int32) ∧ (cmpValue (FP.dcmp t1 t2) .g < (0 : Int32) ↔ v44 < v45) ∧ (cmpValue (FP.dcmp t1 t2) .l = (0 : Int32) ↔ v44 = v45) ∧ cmpValue (FP.dcmp t3 t1) .l = (0 : Int32) ∧ cmpValue (FP.dcmp FP.dconst0 t1) .g < (0 : Int32) ∧ cmpValue (FP.dcmp t1 FP.dconst1) .g < (0 : Int32) := by
  have s6 := own_p26 h
  obtain ⟨⟨s1, s1'⟩, s2, s2'⟩ := own_s2 h
  obtain ⟨⟨s3, s3', s3''⟩, s4, s4', s4''⟩ := own_s3 h
  obtain ⟨h1, h2, h3, h4, hk, h6, h7, h8⟩ := h
  have T1 := (own_T (s := v1) (f := v2) ⟨h1.1, by omega⟩ ⟨h2.1, by omega⟩).2.2
  have T2 := (own_T (s := v7 - 1) (f := v6 - v7 - 1) ⟨by omega, by omega⟩ ⟨by omega, by omega⟩).2.2
  have T3 := (own_T (s := v8 * v3 - 1) (f := v8 * (v2 + 1) - 1) ⟨by omega, by omega⟩ ⟨by omega, by omega⟩).2.2
  rw [e1] at T1
  rw [e2] at T2
  rw [e3] at T3
  -- the whole numbers, as Nat
  obtain ⟨S, hS⟩ : ∃ S : Nat, v1.toInt = (S : Int) := ⟨v1.toInt.toNat, (Int.toNat_of_nonneg h1.1).symm⟩
  obtain ⟨F, hF⟩ : ∃ F : Nat, v2.toInt = (F : Int) := ⟨v2.toInt.toNat, (Int.toNat_of_nonneg h2.1).symm⟩
  obtain ⟨A, hA⟩ : ∃ A : Nat, v7.toInt = (A : Int) := ⟨v7.toInt.toNat, (Int.toNat_of_nonneg (by omega)).symm⟩
  obtain ⟨m, hm⟩ : ∃ m : Nat, v8.toInt = (m : Int) := ⟨v8.toInt.toNat, (Int.toNat_of_nonneg (by omega)).symm⟩
  have x1 : v1.toInt.toNat + 1 = S + 1 := by omega
  have x2 : v1.toInt.toNat + v2.toInt.toNat + 2 = S + F + 2 := by omega
  have x3 : (v7 - 1).toInt.toNat + 1 = A := by omega
  have x4 : (v7 - 1).toInt.toNat + (v6 - v7 - 1).toInt.toNat + 2 = 2 ^ k := by omega
  have y1 : v8.toInt * v3.toInt = ((m * (S + 1) : Nat) : Int) := by rw [hm, h3, hS]; push_cast; rfl
  have y2 : v8.toInt * (v2.toInt + 1) = ((m * (F + 1) : Nat) : Int) := by rw [hm, hF]; push_cast; rfl
  have x5 : (v8 * v3 - 1).toInt.toNat + 1 = m * (S + 1) := by rw [s3]; omega
  have x6 : (v8 * v3 - 1).toInt.toNat + (v8 * (v2 + 1) - 1).toInt.toNat + 2 = m * (S + 1) + m * (F + 1) := by rw [s3, s4]; omega
  rw [x1, x2] at T1
  rw [x3, x4] at T2
  rw [x5, x6] at T3
  have T31 : FP.Core.val64 t3 = FP.Core.val64 t1 := by
    rw [T3, T1]
    refine FP.Core.roundRatio_congr ?_ (by omega) ?_
    · have : 0 < m * (S + 1) := Nat.mul_pos (by omega) (by omega)
      omega
    · show m * (S + 1) * (S + F + 2) * 2 ^ 0 = (S + 1) * (m * (S + 1) + m * (F + 1)) * 2 ^ 0
      rw [← Nat.mul_add, show S + 1 + (F + 1) = S + F + 2 by omega]
      ac_rfl
  obtain ⟨z1, n1⟩ := own_rz T1
  obtain ⟨z2, n2⟩ := own_rz T2
  have hk53 : 2 ^ k * 2 ^ (53 - k) = 2 ^ 53 := by rw [← Nat.pow_add]; congr 1; omega
  have hb : S + F + 2 ≤ 2 ^ (53 - k) := by
    have : 2 ^ 27 ≤ 2 ^ (53 - k) := Nat.pow_le_pow_right (by decide) (by omega)
    omega
  have hA2 : A < 2 ^ k := by omega
  -- t2 is exact
  have K1 : A * 2 ^ (53 - k) + 2 ^ (53 - k) ≤ 2 ^ 53 := by
    rw [← hk53, show A * 2 ^ (53 - k) + 2 ^ (53 - k) = (A + 1) * 2 ^ (53 - k) by rw [Nat.add_mul, Nat.one_mul]]
    exact Nat.mul_le_mul_right _ hA2
  have KA : A * 2 ^ 53 = A * 2 ^ (53 - k) * 2 ^ k := by rw [← hk53]; ac_rfl
  have pk := Nat.two_pow_pos k
  have R2 : own_r A (2 ^ k) = A * 2 ^ (53 - k) * 2 ^ 1021 := Nat.le_antisymm (own_qle pk (by omega) (Nat.le_of_eq KA)) (own_qge pk (by omega) (Nat.le_of_eq KA.symm))
  have m44 := own_mulL v3 v6 16777216 67108864 ⟨by omega, by omega⟩ ⟨by omega, by omega⟩ (by decide)
  have m45 := own_mulL v7 v4 67108864 33554432 ⟨by omega, by omega⟩ ⟨by omega, by omega⟩ (by decide)
  rw [e4] at m44
  rw [e5] at m45
  have L44 : v44.toInt = (((S + 1) * 2 ^ k : Nat) : Int) := by rw [m44.1, h3, hS, h6]; push_cast; rfl
  have L45 : v45.toInt = ((A * (S + F + 2) : Nat) : Int) := by rw [m45.1, hA, h4, hS, hF]; push_cast; rfl
  have hn1 : 0 < S + F + 2 := by omega
  have hA1 : 1 ≤ A := by omega
  have E53 : (S + 1) * 2 ^ 53 = (S + 1) * 2 ^ k * 2 ^ (53 - k) := by rw [← hk53]; ac_rfl
  have pB := Nat.two_pow_pos (53 - k)
  have pU := Nat.two_pow_pos 1021
  have KB : A * 2 ^ (53 - k) * (S + F + 2) = A * (S + F + 2) * 2 ^ (53 - k) := by ac_rfl
  have K0 : 1 ≤ A * 2 ^ (53 - k) := Nat.mul_pos hA1 pB
  have tri : ((S + 1) * 2 ^ k < A * (S + F + 2) → own_r (S + 1) (S + F + 2) < A * 2 ^ (53 - k) * 2 ^ 1021) ∧ ((S + 1) * 2 ^ k = A * (S + F + 2) → own_r (S + 1) (S + F + 2) = A * 2 ^ (53 - k) * 2 ^ 1021) ∧ (A * (S + F + 2) < (S + 1) * 2 ^ k → A * 2 ^ (53 - k) * 2 ^ 1021 < own_r (S + 1) (S + F + 2)) := by
    refine ⟨fun q => ?_, fun q => ?_, fun q => ?_⟩
    · have g : (S + 1) * 2 ^ 53 ≤ (A * 2 ^ (53 - k) - 1) * (S + F + 2) := by
        rw [Nat.sub_mul, Nat.one_mul, KB, E53]
        have := Nat.mul_le_mul_right (2 ^ (53 - k)) (Nat.succ_le_of_lt q)
        rw [Nat.succ_mul] at this
        omega
      have := own_qle hn1 (by omega) g
      exact Nat.lt_of_le_of_lt this (Nat.mul_lt_mul_of_pos_right (by omega) pU)
    · have g : (S + 1) * 2 ^ 53 = A * 2 ^ (53 - k) * (S + F + 2) := by rw [KB, E53, q]
      exact Nat.le_antisymm (own_qle hn1 (by omega) (Nat.le_of_eq g)) (own_qge hn1 (by omega) (Nat.le_of_eq g.symm))
    · have g : (A * 2 ^ (53 - k) + 1) * (S + F + 2) ≤ (S + 1) * 2 ^ 53 := by
        rw [Nat.add_mul, Nat.one_mul, KB, E53]
        have := Nat.mul_le_mul_right (2 ^ (53 - k)) (Nat.succ_le_of_lt q)
        rw [Nat.succ_mul] at this
        omega
      have hlt : A * 2 ^ (53 - k) + 1 < 2 ^ 53 := by omega
      exact Nat.lt_of_lt_of_le (Nat.mul_lt_mul_of_pos_right (by omega) pU) (own_qge hn1 hlt g)
  have low : 2 ^ 1021 ≤ own_r (S + 1) (S + F + 2) := by
    have := own_qge (a := S + 1) (k := 1) hn1 (by decide) (by omega)
    rw [Nat.one_mul] at this
    exact this
  have top : own_r (S + 1) (S + F + 2) < 2 ^ 53 * 2 ^ 1021 := by
    have := own_qle (a := S + 1) (n := S + F + 2) (k := 2 ^ 53 - 1) hn1 (by decide) (by omega)
    exact Nat.lt_of_le_of_lt this (Nat.mul_lt_mul_of_pos_right (by decide) pU)
  have zc0 : own_z FP.dconst0 = 0 := by decide +kernel
  have zc1 : own_z FP.dconst1 = ((2 ^ 53 * 2 ^ 1021 : Nat) : Int) := by decide +kernel
  have nc0 : FP.Core.val64 FP.dconst0 ≠ .nan := by decide +kernel
  have nc1 : FP.Core.val64 FP.dconst1 ≠ .nan := by decide +kernel
  -- the product
  have f2 : FP.Core.DFin t2 := by
    refine own_finz n2 ?_ ?_
    · rw [z2, R2]
      have : A * 2 ^ (53 - k) * 2 ^ 1021 ≤ 8796093022209 * 2 ^ 1034 := by
        have q : A * 2 ^ (53 - k) * 2 ^ 1021 ≤ 2 ^ 53 * 2 ^ 1021 := Nat.mul_le_mul_right _ (by omega)
        refine Nat.le_trans q ?_
        decide +kernel
      exact Int.le_trans (Int.ofNat_le.mpr this) (Int.le_of_eq (Int.natCast_mul _ _))
    · rw [z2]; exact Int.natCast_nonneg _
  obtain ⟨sg, c, q, ec⟩ := f2
  have hsg : sg = false := by
    have := congrArg FP.Core.sgn T2
    rw [FP.Core.sgn_roundRatio, ec] at this
    exact this
  subst hsg
  obtain ⟨d, r, ed⟩ := FP.Core.l2d_shape v6
  rw [decide_eq_false (show ¬ v6.toInt < 0 by omega)] at ed
  have w6 := FP.Core.l2d_whole (a := v6) ⟨by omega, by omega⟩
  have w7 := FP.Core.l2d_whole (a := v7) ⟨by omega, by omega⟩
  have zv7 := FP.Core.whole_zval FP.Core.good_b64 (FP.Core.val64_fits (FP.Core.l2d v7)) w7
  have zv6 := FP.Core.whole_zval FP.Core.good_b64 (FP.Core.val64_fits (FP.Core.l2d v6)) w6
  have fx := FP.Core.val64_fits t2
  have fy := FP.Core.val64_fits (FP.Core.l2d v6)
  have mt2 : FP.Core.zmag FP.Core.b64 (FP.Core.val64 t2) = A * 2 ^ (53 - k) * 2 ^ 1021 := by rw [T2]; exact R2
  have m6 : FP.Core.zmag FP.Core.b64 (FP.Core.val64 (FP.Core.l2d v6)) = 2 ^ k * 2 ^ 1074 := by
    have q1 : FP.Core.zval FP.Core.b64 (FP.Core.val64 (FP.Core.l2d v6)) = ((FP.Core.zmag FP.Core.b64 (FP.Core.val64 (FP.Core.l2d v6)) : Nat) : Int) := by
      rw [ed]; rfl
    rw [q1, h6] at zv6
    apply Int.ofNat.inj
    refine Eq.trans zv6 ?_
    rw [FP.Core.qmin_b64]
    exact (Int.natCast_mul _ _).symm
  rw [ec] at fx mt2
  rw [ed] at fy m6
  obtain ⟨pe, pq, pm⟩ := FP.Core.product_units fx fy
  rw [mt2, m6] at pm
  have hr := FP.Core.val64_dmul t2 (FP.Core.l2d v6)
  rw [ec, ed, pe] at hr
  have hr : FP.Core.val64 (FP.dmul t2 (FP.l2d v6)) = FP.Core.round FP.Core.b64 (.fin false (c * d) (q + r)) := hr
  have key : ((FP.Core.inUnits (c * d) (q + r) (2 * FP.Core.b64.qmin) : Nat) : Int) = FP.Core.zval FP.Core.b64 (FP.Core.val64 (FP.Core.l2d v7)) * ((2 ^ (FP.Core.b64.qmin - 2 * FP.Core.b64.qmin).toNat : Nat) : Int) := by
    rw [pm, zv7, hA, FP.Core.qmin_b64]
    show ((A * 2 ^ (53 - k) * 2 ^ 1021 * (2 ^ k * 2 ^ 1074) : Nat) : Int) = (A : Int) * ((2 ^ 1074 : Nat) : Int) * ((2 ^ 1074 : Nat) : Int)
    rw [← Int.natCast_mul, ← Int.natCast_mul]
    refine congrArg (fun z : Nat => (z : Int)) ?_
    have this : A * 2 ^ 1074 = A * 2 ^ (53 - k) * 2 ^ k * 2 ^ 1021 := by
      rw [← KA, own_53]
      generalize (2 : Nat) ^ 53 = b
      generalize (2 : Nat) ^ 1021 = B
      ac_rfl
    generalize (2 : Nat) ^ 1074 = D at *
    generalize (2 : Nat) ^ 1021 = B at *
    rw [this]
    generalize (2 : Nat) ^ (53 - k) = x at *
    generalize (2 : Nat) ^ k = y at *
    clear this
    ac_rfl
  have n7 : FP.Core.val64 (FP.Core.l2d v7) ≠ .nan := w7.ne_nan
  have q0 : 2 * FP.Core.b64.qmin ≤ FP.Core.b64.qmin := by rw [FP.Core.qmin_b64]; decide
  have g1 := FP.Core.zval_round_le FP.Core.good_b64 (s := false) (FP.Core.val64_fits (FP.Core.l2d v7)) n7 q0 pq (Int.le_of_eq key)
  have g2 := FP.Core.zval_round_ge FP.Core.good_b64 (s := false) (FP.Core.val64_fits (FP.Core.l2d v7)) n7 q0 pq (Int.le_of_eq key.symm)
  rw [← hr] at g1 g2
  have nm : FP.Core.val64 (FP.dmul t2 (FP.l2d v6)) ≠ .nan := by rw [hr]; exact FP.Core.roundRatio_ne_nan _ _ _ _ _
  have n3 : FP.Core.val64 t3 ≠ .nan := by rw [T31]; exact n1
  refine ⟨Jvm.Free.Fl.val64_no.mpr nm, (own_cl nm n7).1.mpr (Int.le_antisymm g1 g2), ?_, ?_, ?_, ?_, ?_⟩
  · rw [(own_cl n1 n2).2, z1, z2, R2, Int64.lt_iff_toInt_lt, L44, L45, Int.ofNat_lt, Int.ofNat_lt]
    obtain ⟨t1, t2, t3⟩ := tri
    constructor
    · intro q
      apply Classical.byContradiction
      intro n
      rcases Nat.lt_or_eq_of_le (Nat.le_of_not_lt n) with n | n
      · have := t3 n; omega
      · have := t2 n.symm; omega
    · exact t1
  · rw [(own_cl n1 n2).1, z1, z2, R2, ← Int64.toInt_inj, L44, L45, Int.natCast_inj, Int.natCast_inj]
    obtain ⟨t1, t2, t3⟩ := tri
    constructor
    · intro q
      rcases Nat.lt_trichotomy ((S + 1) * 2 ^ k) (A * (S + F + 2)) with n | n | n
      · have := t1 n; omega
      · exact n
      · have := t3 n; omega
    · exact t2
  · exact (own_cl n3 n1).1.mpr (by show FP.Core.zval _ (FP.Core.val64 t3) = FP.Core.zval _ (FP.Core.val64 t1); rw [T31])
  · rw [(own_cl nc0 n1).2, zc0, z1]
    exact Int.ofNat_lt.mpr (Nat.lt_of_lt_of_le pU low)
  · rw [(own_cl n1 nc1).2, zc1, z1]
    exact Int.ofNat_lt.mpr top
end OwnL
theorem own_nl {v : Int64} {b : Int} (h : 0 ≤ v.toInt ∧ v.toInt ≤ b) : ¬ (v < (0 : Int64)) := by
  rw [Int64.lt_iff_toInt_lt]
  have e : (0 : Int64).toInt = 0 := rfl
  omega
theorem own_bds {v1 v2 v3 v4 v6 v7 v8 : Int64} {k : Nat} (h : own_N v1 v2 v3 v4 v6 v7 v8 k) : ((0 ≤ v1.toInt ∧ v1.toInt ≤ 35184372088832) ∧ (0 ≤ v2.toInt ∧ v2.toInt ≤ 35184372088832)) ∧ ((0 ≤ (v7 - 1).toInt ∧ (v7 - 1).toInt ≤ 35184372088832) ∧ (0 ≤ ((v6 - v7) - 1).toInt ∧ ((v6 - v7) - 1).toInt ≤ 35184372088832)) ∧ ((0 ≤ (v8 * v3 - 1).toInt ∧ (v8 * v3 - 1).toInt ≤ 35184372088832) ∧ (0 ≤ (v8 * (v2 + 1) - 1).toInt ∧ (v8 * (v2 + 1) - 1).toInt ≤ 35184372088832)) := by
  have s6 := own_p26 h
  have s2 := own_s2 h
  have s3 := own_s3 h
  obtain ⟨h1, h2, -, -, -, -, h7, -⟩ := h
  refine ⟨⟨⟨h1.1, by omega⟩, ⟨h2.1, by omega⟩⟩, ⟨⟨by omega, by omega⟩, ⟨by omega, by omega⟩⟩, ⟨⟨by omega, by omega⟩, ⟨by omega, by omega⟩⟩⟩
theorem own_v61 {p2 v5 : Int32} {v6 : Int64} (h5 : (((p2 &&& (2147483647 : Int32)) % (26 : Int32)) + (1 : Int32)) = v5) (h6 : ((1 : Int64) <<< (v5 &&& 0x3f).toInt64) = v6) : ¬ ((v6 - (1 : Int64)) = (0 : Int64)) := by
  obtain ⟨k, h⟩ := own_nums (q0 := 0) (q1 := 0) (p3 := 0) (p4 := 0) rfl rfl rfl rfl h5 h6 rfl rfl
  have s6 := own_p26 h
  have c := c_lsub v6 1
  have r := rng64 (v6 - 1)
  have k1 : (1 : Int64).toInt = 1 := rfl
  have k0 : (0 : Int64).toInt = 0 := rfl
  intro e
  rw [← Int64.toInt_inj] at e
  omega
theorem d1_0 : decode prog_1_method_1_code 0 = .ok (.aload_n 0, 1) := by decide +kernel
theorem d1_1 : decode prog_1_method_1_code 1 = .ok (.invokespecial 1, 3) := by decide +kernel
theorem d1_4 : decode prog_1_method_1_code 4 = .ok (.return_, 1) := by decide +kernel
theorem pn_1 : plainName "com/example/credence/credence/core/BetaModel" = true := by first | (simp [plainName, overriddenIn]; done) | decide +kernel
theorem ef_1 (m : MethodId) (a0 : Addr) : entryFrame m #[(.ref a0)] 1 = mkF m 0 #[.val (.ref a0)] [] := by first | (simp [entryFrame, mkF, argsToLocals, Value.category]; done) | rfl
def Q1 (Z : State) (a0 : Addr) (h0 : Heap) (n0 : Nat) (v : Option Value) (h : Heap) (L : List Loc) : Prop := v = none ∧ Fr n0 L ∧ h = h0
set_option maxRecDepth 65536 in
set_option maxHeartbeats 40000000 in
theorem rm1 (l : Launch) (Z : State) (A0 : Array Value) (hw : ∀ d ∈ tables_1, d.before A0 Z = true) (ws : List Jvm.Cond) (a0 : Addr) (h0 : Heap) (n0 : Nat) (Z0 : n0 ≤ h0.size) :
    MetFree l (⟨"com/example/credence/credence/core/BetaModel", "<init>", "()V"⟩ : MethodName) (head1 (Jvm.Cond.code (⟨"com/example/credence/credence/core/BetaModel", "<init>", "()V"⟩ : MethodName) prog_1_method_1_code 1 none :: ws) ({ frames := 1, cells := 0, slots := 0, locals := 12 } : Room)) (fun a U => a = #[(.ref a0)] ∧ Z.Warmed39 U.vm ∧ U.heap = h0) (fun _ _ _ _ _ => True) (fun _ U o U' => ∃ v L, o = .returned v ∧ Q1 Z a0 h0 n0 v U'.heap L ∧ FrameEnd U o U' L 0 0) := by
 refine MetFree.of_bodySF (plainFor_of_name pn_1) hisR ?_
 intro p e s m args below meth c s₁ Bd hml0 hP hK
 obtain ⟨rfl, hZ, hh⟩ := hP
 have hwd := fun i {d : Jvm.Cond} (h : tables_1[i]? = some d) => hw d (List.mem_of_getElem? h)
 have hx := Bd.exec
 have hby := Bd.bytes
 have hml : c.maxLocals = 1 := hml0
 have hlk : meth.locks = false := Bd.notSynchronized
 have hown : s.vm.findClass "com/example/credence/credence/core/BetaModel" = some m.cls := findClass_of_methodNamed Bd.named
 have hnm := (name_of_methodNamed Bd.named Bd.method).1
 have X0 : Stand p l e ({ frames := 1, cells := 0, slots := 0, locals := 12 } : Room) s m #[(.ref a0)] below meth c s₁ [] 0 0 := Stand.of_body Bd
 have e0 : s₁.heap = h0 := by rw [← hh, Bd.state]; rfl
 have N0 := Fr.nil n0
 show own_Go p e below (own_Fin s 0 0 (Q1 Z a0 h0 n0)) _
 refine own_by (fun t k => castTop (ef_1 m a0) k) ?_
 show own_Go p e below _ (s₁.setTop (mkF m 0 #[.val (.ref a0)] []))
 refine own_by (fun _ k => XS.aloadN X0.here hx rfl (hb hby d1_0) rfl rfl k) ?_
 show own_Go p e below _ (s₁.setTop (mkF m 1 #[.val (.ref a0)] [(.ref a0)]))
 obtain ⟨T1, X1, e1, st1⟩ := initO X0 hx hZ hown (hwd 10 rfl) (hwd 11 rfl) (hwd 12 rfl) e0 (g := (mkF m 1 #[.val (.ref a0)] [(.ref a0)])) rfl (by rw [hml]; rfl) rfl (hb hby d1_1) (by decide) (W := 0) (by show 2 * 0 + _ ≤ _; exact Nat.le_of_eq rfl) (by decide)
 refine own_by st1 ?_
 show own_Go p e below _ (T1.setTop (mkF m 4 #[.val (.ref a0)] []))
 exact own_ret0 X1 hx Bd.returns (hb hby d1_4) hlk e1 ⟨rfl, N0, rfl⟩ (by decide) (by decide)
theorem d4_0 : decode jdk_30_method_1_code 0 = .ok (.aload_n 0, 1) := by decide +kernel
theorem d4_1 : decode jdk_30_method_1_code 1 = .ok (.invokespecial 1, 3) := by decide +kernel
theorem d4_4 : decode jdk_30_method_1_code 4 = .ok (.return_, 1) := by decide +kernel
theorem pn_4 : plainName "java/lang/Record" = true := by first | (simp [plainName, overriddenIn]; done) | decide +kernel
theorem ef_4 (m : MethodId) (a0 : Addr) : entryFrame m #[(.ref a0)] 1 = mkF m 0 #[.val (.ref a0)] [] := by first | (simp [entryFrame, mkF, argsToLocals, Value.category]; done) | rfl
def Q4 (Z : State) (a0 : Addr) (h0 : Heap) (n0 : Nat) (v : Option Value) (h : Heap) (L : List Loc) : Prop := v = none ∧ Fr n0 L ∧ h = h0
set_option maxRecDepth 65536 in
set_option maxHeartbeats 40000000 in
theorem rm4 (l : Launch) (Z : State) (A0 : Array Value) (hw : ∀ d ∈ tables_1, d.before A0 Z = true) (ws : List Jvm.Cond) (a0 : Addr) (h0 : Heap) (n0 : Nat) (Z0 : n0 ≤ h0.size) :
    MetFree l (⟨"java/lang/Record", "<init>", "()V"⟩ : MethodName) (head1 (Jvm.Cond.code (⟨"java/lang/Record", "<init>", "()V"⟩ : MethodName) jdk_30_method_1_code 1 none :: ws) ({ frames := 1, cells := 0, slots := 0, locals := 12 } : Room)) (fun a U => a = #[(.ref a0)] ∧ Z.Warmed39 U.vm ∧ U.heap = h0) (fun _ _ _ _ _ => True) (fun _ U o U' => ∃ v L, o = .returned v ∧ Q4 Z a0 h0 n0 v U'.heap L ∧ FrameEnd U o U' L 0 0) := by
 refine MetFree.of_bodySF (plainFor_of_name pn_4) hisR ?_
 intro p e s m args below meth c s₁ Bd hml0 hP hK
 obtain ⟨rfl, hZ, hh⟩ := hP
 have hwd := fun i {d : Jvm.Cond} (h : tables_1[i]? = some d) => hw d (List.mem_of_getElem? h)
 have hx := Bd.exec
 have hby := Bd.bytes
 have hml : c.maxLocals = 1 := hml0
 have hlk : meth.locks = false := Bd.notSynchronized
 have hown : s.vm.findClass "java/lang/Record" = some m.cls := findClass_of_methodNamed Bd.named
 have hnm := (name_of_methodNamed Bd.named Bd.method).1
 have X0 : Stand p l e ({ frames := 1, cells := 0, slots := 0, locals := 12 } : Room) s m #[(.ref a0)] below meth c s₁ [] 0 0 := Stand.of_body Bd
 have e0 : s₁.heap = h0 := by rw [← hh, Bd.state]; rfl
 have N0 := Fr.nil n0
 show own_Go p e below (own_Fin s 0 0 (Q4 Z a0 h0 n0)) _
 refine own_by (fun t k => castTop (ef_4 m a0) k) ?_
 show own_Go p e below _ (s₁.setTop (mkF m 0 #[.val (.ref a0)] []))
 refine own_by (fun _ k => XS.aloadN X0.here hx rfl (hb hby d4_0) rfl rfl k) ?_
 show own_Go p e below _ (s₁.setTop (mkF m 1 #[.val (.ref a0)] [(.ref a0)]))
 obtain ⟨T1, X1, e1, st1⟩ := initO X0 hx hZ hown (hwd 24 rfl) (hwd 11 rfl) (hwd 12 rfl) e0 (g := (mkF m 1 #[.val (.ref a0)] [(.ref a0)])) rfl (by rw [hml]; rfl) rfl (hb hby d4_1) (by decide) (W := 0) (by show 2 * 0 + _ ≤ _; exact Nat.le_of_eq rfl) (by decide)
 refine own_by st1 ?_
 show own_Go p e below _ (T1.setTop (mkF m 4 #[.val (.ref a0)] []))
 exact own_ret0 X1 hx Bd.returns (hb hby d4_4) hlk e1 ⟨rfl, N0, rfl⟩ (by decide) (by decide)
theorem pd_7 : parseMethodDescriptor "()V" = some ⟨[], none⟩ := by decide +kernel
theorem d3_0 : decode prog_3_method_1_code 0 = .ok (.aload_n 0, 1) := by decide +kernel
theorem d3_1 : decode prog_3_method_1_code 1 = .ok (.invokespecial 1, 3) := by decide +kernel
theorem d3_4 : decode prog_3_method_1_code 4 = .ok (.lload_n 1, 1) := by decide +kernel
theorem d3_5 : decode prog_3_method_1_code 5 = .ok (.lconst 0, 1) := by decide +kernel
theorem d3_6 : decode prog_3_method_1_code 6 = .ok (.lcmp, 1) := by decide +kernel
theorem d3_7 : decode prog_3_method_1_code 7 = .ok (.ifCond .lt 9, 3) := by decide +kernel
theorem d3_10 : decode prog_3_method_1_code 10 = .ok (.lload_n 3, 1) := by decide +kernel
theorem d3_11 : decode prog_3_method_1_code 11 = .ok (.lconst 0, 1) := by decide +kernel
theorem d3_12 : decode prog_3_method_1_code 12 = .ok (.lcmp, 1) := by decide +kernel
theorem d3_13 : decode prog_3_method_1_code 13 = .ok (.ifCond .ge 18, 3) := by decide +kernel
theorem d3_31 : decode prog_3_method_1_code 31 = .ok (.aload_n 0, 1) := by decide +kernel
theorem d3_32 : decode prog_3_method_1_code 32 = .ok (.lload_n 1, 1) := by decide +kernel
theorem d3_33 : decode prog_3_method_1_code 33 = .ok (.putfield 16, 3) := by decide +kernel
theorem d3_36 : decode prog_3_method_1_code 36 = .ok (.aload_n 0, 1) := by decide +kernel
theorem d3_37 : decode prog_3_method_1_code 37 = .ok (.lload_n 3, 1) := by decide +kernel
theorem d3_38 : decode prog_3_method_1_code 38 = .ok (.putfield 22, 3) := by decide +kernel
theorem d3_41 : decode prog_3_method_1_code 41 = .ok (.return_, 1) := by decide +kernel
theorem pn_3 : plainName "com/example/credence/credence/core/Evidence" = true := by first | (simp [plainName, overriddenIn]; done) | decide +kernel
theorem ef_3 (m : MethodId) (a0 : Addr) (q1 : Int64) (q2 : Int64) : entryFrame m #[(.ref a0), (.long q1), (.long q2)] 5 = mkF m 0 #[.val (.ref a0), .val (.long q1), .second, .val (.long q2), .second] [] := by first | (simp [entryFrame, mkF, argsToLocals, Value.category]; done) | rfl
def Q3 (Z : State) (a0 : Addr) (q1 : Int64) (q2 : Int64) (f_a0_successes : Int64) (f_a0_failures : Int64) (h0 : Heap) (n0 : Nat) (v : Option Value) (h : Heap) (L : List Loc) : Prop := v = none ∧ Fr n0 L ∧ Keep h0 h [a0] ∧ Exa Z h a0 "com/example/credence/credence/core/Evidence" ∧ Fld Z h a0 "com/example/credence/credence/core/Evidence" "successes" "J" (.long q1) ∧ Fld Z h a0 "com/example/credence/credence/core/Evidence" "failures" "J" (.long q2)
set_option maxRecDepth 65536 in
set_option maxHeartbeats 40000000 in
theorem rm3 (l : Launch) (Z : State) (A0 : Array Value) (hw : ∀ d ∈ tables_1, d.before A0 Z = true) (ws : List Jvm.Cond) (a0 : Addr) (q1 : Int64) (q2 : Int64) (f_a0_successes : Int64) (f_a0_failures : Int64) (h0 : Heap) (n0 : Nat) (Z0 : n0 ≤ h0.size) (hc7 : ¬ (q1 < (0 : Int64))) (hc13 : ¬ (q2 < (0 : Int64))) (P_E_a0 : Exa Z h0 a0 "com/example/credence/credence/core/Evidence") (P_F_a0_successes : Fld Z h0 a0 "com/example/credence/credence/core/Evidence" "successes" "J" (.long f_a0_successes)) (g_a0 : n0 ≤ a0) (P_F_a0_failures : Fld Z h0 a0 "com/example/credence/credence/core/Evidence" "failures" "J" (.long f_a0_failures)) :
    MetFree l (⟨"com/example/credence/credence/core/Evidence", "<init>", "(JJ)V"⟩ : MethodName) (head1 (Jvm.Cond.code (⟨"com/example/credence/credence/core/Evidence", "<init>", "(JJ)V"⟩ : MethodName) prog_3_method_1_code 5 none :: ws) ({ frames := 2, cells := 0, slots := 0, locals := 24 } : Room)) (fun a U => a = #[(.ref a0), (.long q1), (.long q2)] ∧ Z.Warmed39 U.vm ∧ U.heap = h0) (fun _ _ _ _ _ => True) (fun _ U o U' => ∃ v L, o = .returned v ∧ Q3 Z a0 q1 q2 f_a0_successes f_a0_failures h0 n0 v U'.heap L ∧ FrameEnd U o U' L 0 0) := by
 refine MetFree.of_bodySF (plainFor_of_name pn_3) hisR ?_
 intro p e s m args below meth c s₁ Bd hml0 hP hK
 obtain ⟨rfl, hZ, hh⟩ := hP
 have hwd := fun i {d : Jvm.Cond} (h : tables_1[i]? = some d) => hw d (List.mem_of_getElem? h)
 have hx := Bd.exec
 have hby := Bd.bytes
 have hml : c.maxLocals = 5 := hml0
 have hlk : meth.locks = false := Bd.notSynchronized
 have hown : s.vm.findClass "com/example/credence/credence/core/Evidence" = some m.cls := findClass_of_methodNamed Bd.named
 have hnm := (name_of_methodNamed Bd.named Bd.method).1
 have X0 : Stand p l e ({ frames := 2, cells := 0, slots := 0, locals := 24 } : Room) s m #[(.ref a0), (.long q1), (.long q2)] below meth c s₁ [] 0 0 := Stand.of_body Bd
 have e0 : s₁.heap = h0 := by rw [← hh, Bd.state]; rfl
 have N0 := Fr.nil n0
 show own_Go p e below (own_Fin s 0 0 (Q3 Z a0 q1 q2 f_a0_successes f_a0_failures h0 n0)) _
 refine own_by (fun t k => castTop (ef_3 m a0 q1 q2) k) ?_
 show own_Go p e below _ (s₁.setTop (mkF m 0 #[.val (.ref a0), .val (.long q1), .second, .val (.long q2), .second] []))
 refine own_by (fun _ k => XS.aloadN X0.here hx rfl (hb hby d3_0) rfl rfl k) ?_
 show own_Go p e below _ (s₁.setTop (mkF m 1 #[.val (.ref a0), .val (.long q1), .second, .val (.long q2), .second] [(.ref a0)]))
 obtain ⟨_, _, ⟨T1, L1, k1, n1⟩, -, X1, ⟨Lc1, hQ1, l1, y1, z1⟩, st1⟩ := X0.specialBack hx (y := (⟨"java/lang/Record", "<init>", "()V"⟩ : MethodName)) rfl hown (mvT hZ (hwd 19 rfl)) (mvT hZ (hwd 20 rfl)) (mvT hZ (hwd 23 rfl)) (by decide) (backOf (W := 0) (rm4 l Z A0 hw [] a0 h0 n0 Z0 ) hZ (hwd 23 rfl) (hwd 22 rfl) (by decide) (by decide)) (g := (mkF m 1 #[.val (.ref a0), .val (.long q1), .second, .val (.long q2), .second] [(.ref a0)])) rfl (by rw [hml]; rfl) (Steps.refl _) (a := a0) (argsL := []) (rest := []) (lenOf pd_7 rfl) rfl (by show 2 * 0 + _ ≤ _; exact Nat.le_of_eq rfl) (hb hby d3_1) (fun _ _ => ⟨rfl, e0, (by decide : 0 + 0 ≤ _), (by decide : 0 + 0 ≤ _)⟩)
 dsimp only [Pt.U, Pt.locs, Pt.cells, Pt.slots] at X1 l1 y1 z1 st1 hQ1
 subst l1 y1 z1
 obtain ⟨rfl, Nq1, eq1⟩ := hQ1
 have N1 := Fr.app N0 Nq1
 refine own_by (fun _ k => st1.trans k) ?_
 show own_Go p e below _ (T1.setTop (mkF m 4 #[.val (.ref a0), .val (.long q1), .second, .val (.long q2), .second] []))
 refine own_by (fun _ k => XS.lloadN X1.here hx rfl (hb hby d3_4) rfl k) ?_
 show own_Go p e below _ (T1.setTop (mkF m 5 #[.val (.ref a0), .val (.long q1), .second, .val (.long q2), .second] [(.long q1)]))
 refine own_by (fun _ k => XS.lconst X1.here hx rfl (hb hby d3_5) k) ?_
 show own_Go p e below _ (T1.setTop (mkF m 6 #[.val (.ref a0), .val (.long q1), .second, .val (.long q2), .second] [(.long (0 : Int64)), (.long q1)]))
 refine own_by (fun _ k => XS.lcmp X1.here hx rfl (hb hby d3_6) rfl k) ?_
 show own_Go p e below _ (T1.setTop (mkF m 7 #[.val (.ref a0), .val (.long q1), .second, .val (.long q2), .second] [(.int (lcmpW q1 (0 : Int64)))]))
 refine own_by (fun _ k => XS.ifNo X1.here hx rfl (hb hby d3_7) rfl ((if0 _ _).trans (flt (fun q => hc7 ((lw_lt _ _).mp q))).1) k) ?_
 show own_Go p e below _ (T1.setTop (mkF m 10 #[.val (.ref a0), .val (.long q1), .second, .val (.long q2), .second] []))
 refine own_by (fun _ k => XS.lloadN X1.here hx rfl (hb hby d3_10) rfl k) ?_
 show own_Go p e below _ (T1.setTop (mkF m 11 #[.val (.ref a0), .val (.long q1), .second, .val (.long q2), .second] [(.long q2)]))
 refine own_by (fun _ k => XS.lconst X1.here hx rfl (hb hby d3_11) k) ?_
 show own_Go p e below _ (T1.setTop (mkF m 12 #[.val (.ref a0), .val (.long q1), .second, .val (.long q2), .second] [(.long (0 : Int64)), (.long q2)]))
 refine own_by (fun _ k => XS.lcmp X1.here hx rfl (hb hby d3_12) rfl k) ?_
 show own_Go p e below _ (T1.setTop (mkF m 13 #[.val (.ref a0), .val (.long q1), .second, .val (.long q2), .second] [(.int (lcmpW q2 (0 : Int64)))]))
 refine own_by (fun _ k => XS.ifYes X1.here hx rfl (pc0 := 13) (pc' := 31) rfl (hb hby d3_13) rfl ((if0 _ _).trans (flt (fun q => hc13 ((lw_lt _ _).mp q))).2.1) (by decide) (by decide) k) ?_
 show own_Go p e below _ (T1.setTop (mkF m 31 #[.val (.ref a0), .val (.long q1), .second, .val (.long q2), .second] []))
 refine own_by (fun _ k => XS.aloadN X1.here hx rfl (hb hby d3_31) rfl rfl k) ?_
 show own_Go p e below _ (T1.setTop (mkF m 32 #[.val (.ref a0), .val (.long q1), .second, .val (.long q2), .second] [(.ref a0)]))
 refine own_by (fun _ k => XS.lloadN X1.here hx rfl (hb hby d3_32) rfl k) ?_
 show own_Go p e below _ (T1.setTop (mkF m 33 #[.val (.ref a0), .val (.long q1), .second, .val (.long q2), .second] [(.long q1), (.ref a0)]))
 obtain ⟨T2, h2, X2, e2, W2, st2⟩ := putF X1 hx hZ hown (host := "") (Or.inl (hwd 25 rfl)) Via.refl eq1 P_F_a0_successes P_E_a0 (Or.inr ⟨(hwd 26 rfl), rfl, hnm⟩) (hwd 14 rfl) (ty := .long) (by decide) rfl rfl (g := (mkF m 33 #[.val (.ref a0), .val (.long q1), .second, .val (.long q2), .second] [(.long q1), (.ref a0)])) rfl rfl (hb hby d3_33)
 have Fw2 : Fld Z h2 a0 "com/example/credence/credence/core/Evidence" "successes" "J" (.long q1) := P_F_a0_successes.same W2
 have K2 : Keep h0 h2 [a0] := (Keep.refl h0 [a0]).wr W2 (Or.inl (List.mem_of_getElem? (i := 0) rfl))
 have Z2 : n0 ≤ h2.size := Nat.le_trans Z0 (Keep.of_wr W2).1
 have N2 := Fr.snoc X2 N1 g_a0
 refine own_by st2 ?_
 show own_Go p e below _ (T2.setTop (mkF m 36 #[.val (.ref a0), .val (.long q1), .second, .val (.long q2), .second] []))
 refine own_by (fun _ k => XS.aloadN X2.here hx rfl (hb hby d3_36) rfl rfl k) ?_
 show own_Go p e below _ (T2.setTop (mkF m 37 #[.val (.ref a0), .val (.long q1), .second, .val (.long q2), .second] [(.ref a0)]))
 refine own_by (fun _ k => XS.lloadN X2.here hx rfl (hb hby d3_37) rfl k) ?_
 show own_Go p e below _ (T2.setTop (mkF m 38 #[.val (.ref a0), .val (.long q1), .second, .val (.long q2), .second] [(.long q2), (.ref a0)]))
 have F3 : Exa Z h2 a0 "com/example/credence/credence/core/Evidence" := (P_E_a0.wr W2)
 have F4 : Fld Z h2 a0 "com/example/credence/credence/core/Evidence" "failures" "J" (.long f_a0_failures) := (P_F_a0_failures.other W2 (Or.inr (slot_ne (Or.inr (hwd 28 rfl)) (Or.inr (hwd 26 rfl)) (by decide) (t := .long) (t' := .long) (by decide) (by decide))))
 obtain ⟨T5, h5, X5, e5, W5, st5⟩ := putF X2 hx hZ hown (host := "") (Or.inl (hwd 27 rfl)) Via.refl e2 F4 F3 (Or.inr ⟨(hwd 28 rfl), rfl, hnm⟩) (hwd 14 rfl) (ty := .long) (by decide) rfl rfl (g := (mkF m 38 #[.val (.ref a0), .val (.long q1), .second, .val (.long q2), .second] [(.long q2), (.ref a0)])) rfl rfl (hb hby d3_38)
 have Fw5 : Fld Z h5 a0 "com/example/credence/credence/core/Evidence" "failures" "J" (.long q2) := F4.same W5
 have K5 : Keep h0 h5 [a0] := K2.wr W5 (Or.inl (List.mem_of_getElem? (i := 0) rfl))
 have Z5 : n0 ≤ h5.size := Nat.le_trans Z2 (Keep.of_wr W5).1
 have N5 := Fr.snoc X5 N2 g_a0
 refine own_by st5 ?_
 show own_Go p e below _ (T5.setTop (mkF m 41 #[.val (.ref a0), .val (.long q1), .second, .val (.long q2), .second] []))
 have F6 : Exa Z h5 a0 "com/example/credence/credence/core/Evidence" := (F3.wr W5)
 have F7 : Fld Z h5 a0 "com/example/credence/credence/core/Evidence" "successes" "J" (.long q1) := (Fw2.other W5 (Or.inr (slot_ne (Or.inr (hwd 26 rfl)) (Or.inr (hwd 28 rfl)) (by decide) (t := .long) (t' := .long) (by decide) (by decide))))
 exact own_ret0 X5 hx Bd.returns (hb hby d3_41) hlk e5 ⟨rfl, N5, K5, F6, F7, Fw5⟩ (by decide) (by decide)
theorem d6_0 : decode prog_3_method_6_code 0 = .ok (.aload_n 0, 1) := by decide +kernel
theorem d6_1 : decode prog_3_method_6_code 1 = .ok (.getfield 16, 3) := by decide +kernel
theorem d6_4 : decode prog_3_method_6_code 4 = .ok (.lreturn, 1) := by decide +kernel
theorem pn_6 : plainName "com/example/credence/credence/core/Evidence" = true := by first | (simp [plainName, overriddenIn]; done) | decide +kernel
theorem ef_6 (m : MethodId) (a0 : Addr) : entryFrame m #[(.ref a0)] 1 = mkF m 0 #[.val (.ref a0)] [] := by first | (simp [entryFrame, mkF, argsToLocals, Value.category]; done) | rfl
def Q6 (Z : State) (a0 : Addr) (f_a0_successes : Int64) (h0 : Heap) (n0 : Nat) (v : Option Value) (h : Heap) (L : List Loc) : Prop := v = some (.long f_a0_successes) ∧ Fr n0 L ∧ h = h0
set_option maxRecDepth 65536 in
set_option maxHeartbeats 40000000 in
theorem rm6 (l : Launch) (Z : State) (A0 : Array Value) (hw : ∀ d ∈ tables_1, d.before A0 Z = true) (ws : List Jvm.Cond) (a0 : Addr) (f_a0_successes : Int64) (h0 : Heap) (n0 : Nat) (Z0 : n0 ≤ h0.size) (P_F_a0_successes : Fld Z h0 a0 "com/example/credence/credence/core/Evidence" "successes" "J" (.long f_a0_successes)) :
    MetFree l (⟨"com/example/credence/credence/core/Evidence", "successes", "()J"⟩ : MethodName) (head1 (Jvm.Cond.code (⟨"com/example/credence/credence/core/Evidence", "successes", "()J"⟩ : MethodName) prog_3_method_6_code 1 (some .long) :: ws) ({ frames := 0, cells := 0, slots := 0, locals := 0 } : Room)) (fun a U => a = #[(.ref a0)] ∧ Z.Warmed39 U.vm ∧ U.heap = h0) (fun _ _ _ _ _ => True) (fun _ U o U' => ∃ v L, o = .returned v ∧ Q6 Z a0 f_a0_successes h0 n0 v U'.heap L ∧ FrameEnd U o U' L 0 0) := by
 refine MetFree.of_bodySF (plainFor_of_name pn_6) hisR ?_
 intro p e s m args below meth c s₁ Bd hml0 hP hK
 obtain ⟨rfl, hZ, hh⟩ := hP
 have hwd := fun i {d : Jvm.Cond} (h : tables_1[i]? = some d) => hw d (List.mem_of_getElem? h)
 have hx := Bd.exec
 have hby := Bd.bytes
 have hml : c.maxLocals = 1 := hml0
 have hlk : meth.locks = false := Bd.notSynchronized
 have hown : s.vm.findClass "com/example/credence/credence/core/Evidence" = some m.cls := findClass_of_methodNamed Bd.named
 have hnm := (name_of_methodNamed Bd.named Bd.method).1
 have X0 : Stand p l e ({ frames := 0, cells := 0, slots := 0, locals := 0 } : Room) s m #[(.ref a0)] below meth c s₁ [] 0 0 := Stand.of_body Bd
 have e0 : s₁.heap = h0 := by rw [← hh, Bd.state]; rfl
 have N0 := Fr.nil n0
 show own_Go p e below (own_Fin s 0 0 (Q6 Z a0 f_a0_successes h0 n0)) _
 refine own_by (fun t k => castTop (ef_6 m a0) k) ?_
 show own_Go p e below _ (s₁.setTop (mkF m 0 #[.val (.ref a0)] []))
 refine own_by (fun _ k => XS.aloadN X0.here hx rfl (hb hby d6_0) rfl rfl k) ?_
 show own_Go p e below _ (s₁.setTop (mkF m 1 #[.val (.ref a0)] [(.ref a0)]))
 obtain ⟨T1, X1, e1, st1⟩ := getF X0 hx hZ hown (host := "") (Or.inl (hwd 25 rfl)) Via.refl e0 P_F_a0_successes (g := (mkF m 1 #[.val (.ref a0)] [(.ref a0)])) rfl rfl (hb hby d6_1)
 refine own_by st1 ?_
 show own_Go p e below _ (T1.setTop (mkF m 4 #[.val (.ref a0)] [(.long f_a0_successes)]))
 exact own_retJ X1 hx Bd.returns (hb hby d6_4) hlk e1 ⟨rfl, N0, rfl⟩ (by decide) (by decide)
theorem d7_0 : decode prog_3_method_7_code 0 = .ok (.aload_n 0, 1) := by decide +kernel
theorem d7_1 : decode prog_3_method_7_code 1 = .ok (.getfield 22, 3) := by decide +kernel
theorem d7_4 : decode prog_3_method_7_code 4 = .ok (.lreturn, 1) := by decide +kernel
theorem pn_7 : plainName "com/example/credence/credence/core/Evidence" = true := by first | (simp [plainName, overriddenIn]; done) | decide +kernel
theorem ef_7 (m : MethodId) (a0 : Addr) : entryFrame m #[(.ref a0)] 1 = mkF m 0 #[.val (.ref a0)] [] := by first | (simp [entryFrame, mkF, argsToLocals, Value.category]; done) | rfl
def Q7 (Z : State) (a0 : Addr) (f_a0_failures : Int64) (h0 : Heap) (n0 : Nat) (v : Option Value) (h : Heap) (L : List Loc) : Prop := v = some (.long f_a0_failures) ∧ Fr n0 L ∧ h = h0
set_option maxRecDepth 65536 in
set_option maxHeartbeats 40000000 in
theorem rm7 (l : Launch) (Z : State) (A0 : Array Value) (hw : ∀ d ∈ tables_1, d.before A0 Z = true) (ws : List Jvm.Cond) (a0 : Addr) (f_a0_failures : Int64) (h0 : Heap) (n0 : Nat) (Z0 : n0 ≤ h0.size) (P_F_a0_failures : Fld Z h0 a0 "com/example/credence/credence/core/Evidence" "failures" "J" (.long f_a0_failures)) :
    MetFree l (⟨"com/example/credence/credence/core/Evidence", "failures", "()J"⟩ : MethodName) (head1 (Jvm.Cond.code (⟨"com/example/credence/credence/core/Evidence", "failures", "()J"⟩ : MethodName) prog_3_method_7_code 1 (some .long) :: ws) ({ frames := 0, cells := 0, slots := 0, locals := 0 } : Room)) (fun a U => a = #[(.ref a0)] ∧ Z.Warmed39 U.vm ∧ U.heap = h0) (fun _ _ _ _ _ => True) (fun _ U o U' => ∃ v L, o = .returned v ∧ Q7 Z a0 f_a0_failures h0 n0 v U'.heap L ∧ FrameEnd U o U' L 0 0) := by
 refine MetFree.of_bodySF (plainFor_of_name pn_7) hisR ?_
 intro p e s m args below meth c s₁ Bd hml0 hP hK
 obtain ⟨rfl, hZ, hh⟩ := hP
 have hwd := fun i {d : Jvm.Cond} (h : tables_1[i]? = some d) => hw d (List.mem_of_getElem? h)
 have hx := Bd.exec
 have hby := Bd.bytes
 have hml : c.maxLocals = 1 := hml0
 have hlk : meth.locks = false := Bd.notSynchronized
 have hown : s.vm.findClass "com/example/credence/credence/core/Evidence" = some m.cls := findClass_of_methodNamed Bd.named
 have hnm := (name_of_methodNamed Bd.named Bd.method).1
 have X0 : Stand p l e ({ frames := 0, cells := 0, slots := 0, locals := 0 } : Room) s m #[(.ref a0)] below meth c s₁ [] 0 0 := Stand.of_body Bd
 have e0 : s₁.heap = h0 := by rw [← hh, Bd.state]; rfl
 have N0 := Fr.nil n0
 show own_Go p e below (own_Fin s 0 0 (Q7 Z a0 f_a0_failures h0 n0)) _
 refine own_by (fun t k => castTop (ef_7 m a0) k) ?_
 show own_Go p e below _ (s₁.setTop (mkF m 0 #[.val (.ref a0)] []))
 refine own_by (fun _ k => XS.aloadN X0.here hx rfl (hb hby d7_0) rfl rfl k) ?_
 show own_Go p e below _ (s₁.setTop (mkF m 1 #[.val (.ref a0)] [(.ref a0)]))
 obtain ⟨T1, X1, e1, st1⟩ := getF X0 hx hZ hown (host := "") (Or.inl (hwd 27 rfl)) Via.refl e0 P_F_a0_failures (g := (mkF m 1 #[.val (.ref a0)] [(.ref a0)])) rfl rfl (hb hby d7_1)
 refine own_by st1 ?_
 show own_Go p e below _ (T1.setTop (mkF m 4 #[.val (.ref a0)] [(.long f_a0_failures)]))
 exact own_retJ X1 hx Bd.returns (hb hby d7_4) hlk e1 ⟨rfl, N0, rfl⟩ (by decide) (by decide)
theorem pd_34 : parseMethodDescriptor "()J" = some ⟨[], some .long⟩ := by decide +kernel
theorem d5_0 : decode prog_1_method_2_code 0 = .ok (.aload_n 1, 1) := by decide +kernel
theorem d5_1 : decode prog_1_method_2_code 1 = .ok (.invokevirtual 7, 3) := by decide +kernel
theorem d5_4 : decode prog_1_method_2_code 4 = .ok (.l2d, 1) := by decide +kernel
theorem d5_5 : decode prog_1_method_2_code 5 = .ok (.dconst 1, 1) := by decide +kernel
theorem d5_6 : decode prog_1_method_2_code 6 = .ok (.dadd, 1) := by decide +kernel
theorem d5_7 : decode prog_1_method_2_code 7 = .ok (.aload_n 1, 1) := by decide +kernel
theorem d5_8 : decode prog_1_method_2_code 8 = .ok (.invokevirtual 7, 3) := by decide +kernel
theorem d5_11 : decode prog_1_method_2_code 11 = .ok (.aload_n 1, 1) := by decide +kernel
theorem d5_12 : decode prog_1_method_2_code 12 = .ok (.invokevirtual 13, 3) := by decide +kernel
theorem d5_15 : decode prog_1_method_2_code 15 = .ok (.ladd, 1) := by decide +kernel
theorem d5_16 : decode prog_1_method_2_code 16 = .ok (.l2d, 1) := by decide +kernel
theorem d5_17 : decode prog_1_method_2_code 17 = .ok (.ldc2_w 16, 3) := by decide +kernel
theorem d5_20 : decode prog_1_method_2_code 20 = .ok (.dadd, 1) := by decide +kernel
theorem d5_21 : decode prog_1_method_2_code 21 = .ok (.ddiv, 1) := by decide +kernel
theorem d5_22 : decode prog_1_method_2_code 22 = .ok (.dreturn, 1) := by decide +kernel
theorem pn_5 : plainName "com/example/credence/credence/core/BetaModel" = true := by first | (simp [plainName, overriddenIn]; done) | decide +kernel
theorem ef_5 (m : MethodId) (a0 : Addr) (a1 : Addr) : entryFrame m #[(.ref a0), (.ref a1)] 2 = mkF m 0 #[.val (.ref a0), .val (.ref a1)] [] := by first | (simp [entryFrame, mkF, argsToLocals, Value.category]; done) | rfl
def Q5 (Z : State) (a0 : Addr) (a1 : Addr) (f_a1_successes : Int64) (f_a1_failures : Int64) (h0 : Heap) (n0 : Nat) (v : Option Value) (h : Heap) (L : List Loc) : Prop := v = some (.double (FP.ddiv (FP.dadd (FP.l2d f_a1_successes) FP.dconst1) (FP.dadd (FP.l2d (f_a1_successes + f_a1_failures)) (4611686018427387904 : UInt64)))) ∧ Fr n0 L ∧ h = h0
set_option maxRecDepth 65536 in
set_option maxHeartbeats 40000000 in
theorem rm5 (l : Launch) (Z : State) (A0 : Array Value) (hw : ∀ d ∈ tables_1, d.before A0 Z = true) (ws : List Jvm.Cond) (a0 : Addr) (a1 : Addr) (f_a1_successes : Int64) (f_a1_failures : Int64) (h0 : Heap) (n0 : Nat) (Z0 : n0 ≤ h0.size) (P_F_a1_successes : Fld Z h0 a1 "com/example/credence/credence/core/Evidence" "successes" "J" (.long f_a1_successes)) (P_E_a1 : Exa Z h0 a1 "com/example/credence/credence/core/Evidence") (hp_0 : Fl.NoNaN64 (FP.dadd (FP.l2d f_a1_successes) FP.dconst1)) (P_F_a1_failures : Fld Z h0 a1 "com/example/credence/credence/core/Evidence" "failures" "J" (.long f_a1_failures)) (hp_1 : Fl.NoNaN64 (FP.dadd (FP.l2d (f_a1_successes + f_a1_failures)) (4611686018427387904 : UInt64))) (hp_2 : Fl.NoNaN64 (FP.ddiv (FP.dadd (FP.l2d f_a1_successes) FP.dconst1) (FP.dadd (FP.l2d (f_a1_successes + f_a1_failures)) (4611686018427387904 : UInt64)))) :
    MetFree l (⟨"com/example/credence/credence/core/BetaModel", "trust", "(Lcom/example/credence/credence/core/Evidence;)D"⟩ : MethodName) (head1 (Jvm.Cond.code (⟨"com/example/credence/credence/core/BetaModel", "trust", "(Lcom/example/credence/credence/core/Evidence;)D"⟩ : MethodName) prog_1_method_2_code 2 (some .double) :: ws) ({ frames := 1, cells := 0, slots := 0, locals := 16 } : Room)) (fun a U => a = #[(.ref a0), (.ref a1)] ∧ Z.Warmed39 U.vm ∧ U.heap = h0) (fun _ _ _ _ _ => True) (fun _ U o U' => ∃ v L, o = .returned v ∧ Q5 Z a0 a1 f_a1_successes f_a1_failures h0 n0 v U'.heap L ∧ FrameEnd U o U' L 0 0) := by
 refine MetFree.of_bodySF (plainFor_of_name pn_5) hisR ?_
 intro p e s m args below meth c s₁ Bd hml0 hP hK
 obtain ⟨rfl, hZ, hh⟩ := hP
 have hwd := fun i {d : Jvm.Cond} (h : tables_1[i]? = some d) => hw d (List.mem_of_getElem? h)
 have hx := Bd.exec
 have hby := Bd.bytes
 have hml : c.maxLocals = 2 := hml0
 have hlk : meth.locks = false := Bd.notSynchronized
 have hown : s.vm.findClass "com/example/credence/credence/core/BetaModel" = some m.cls := findClass_of_methodNamed Bd.named
 have hnm := (name_of_methodNamed Bd.named Bd.method).1
 have X0 : Stand p l e ({ frames := 1, cells := 0, slots := 0, locals := 16 } : Room) s m #[(.ref a0), (.ref a1)] below meth c s₁ [] 0 0 := Stand.of_body Bd
 have e0 : s₁.heap = h0 := by rw [← hh, Bd.state]; rfl
 have N0 := Fr.nil n0
 show own_Go p e below (own_Fin s 0 0 (Q5 Z a0 a1 f_a1_successes f_a1_failures h0 n0)) _
 refine own_by (fun t k => castTop (ef_5 m a0 a1) k) ?_
 show own_Go p e below _ (s₁.setTop (mkF m 0 #[.val (.ref a0), .val (.ref a1)] []))
 refine own_by (fun _ k => XS.aloadN X0.here hx rfl (hb hby d5_0) rfl rfl k) ?_
 show own_Go p e below _ (s₁.setTop (mkF m 1 #[.val (.ref a0), .val (.ref a1)] [(.ref a1)]))
 obtain ⟨cq1, kq1, qq1a, qq1b, qq1c⟩ := isOf hZ e0 P_E_a1
 obtain ⟨_, _, ⟨T1, L1, k1, n1⟩, -, X1, ⟨Lc1, hQ1, l1, y1, z1⟩, st1⟩ := X0.virtualBack hx (y := (⟨"com/example/credence/credence/core/Evidence", "successes", "()J"⟩ : MethodName)) (z := (⟨"com/example/credence/credence/core/Evidence", "successes", "()J"⟩ : MethodName)) hown (mvT hZ (hwd 34 rfl)) (mvT hZ (hwd 35 rfl)) (notFace_of_selects (args := #[]) (mvT hZ (hwd 37 rfl))) (mvT hZ (hwd 37 rfl)) (mvT hZ (hwd 36 rfl)) (by decide) (backOf (W := 0) (rm6 l Z A0 hw [] a1 f_a1_successes h0 n0 Z0 P_F_a1_successes) hZ (hwd 38 rfl) (hwd 15 rfl) (by decide) (by decide)) qq1a qq1c (g := (mkF m 1 #[.val (.ref a0), .val (.ref a1)] [(.ref a1)])) rfl (by rw [hml]; rfl) (Steps.refl _) (argsL := []) (rest := []) (lenOf pd_34 rfl) rfl (by show 2 * 0 + _ ≤ _; exact Nat.le_of_eq rfl) (hb hby d5_1) (fun _ _ => ⟨rfl, e0, (by decide : 0 + 0 ≤ _), (by decide : 0 + 0 ≤ _)⟩)
 dsimp only [Pt.U, Pt.locs, Pt.cells, Pt.slots] at X1 l1 y1 z1 st1 hQ1
 subst l1 y1 z1
 obtain ⟨rfl, Nq1, eq1⟩ := hQ1
 have N1 := Fr.app N0 Nq1
 refine own_by (fun _ k => st1.trans k) ?_
 show own_Go p e below _ (T1.setTop (mkF m 4 #[.val (.ref a0), .val (.ref a1)] [(.long f_a1_successes)]))
 refine own_by (fun _ k => XS.l2dS X1.here hx rfl (hb hby d5_4) rfl rfl k) ?_
 show own_Go p e below _ (T1.setTop (mkF m 5 #[.val (.ref a0), .val (.ref a1)] [(.double (FP.l2d f_a1_successes))]))
 refine own_by (fun _ k => XS.dconst1 X1.here hx rfl (hb hby d5_5) rfl k) ?_
 show own_Go p e below _ (T1.setTop (mkF m 6 #[.val (.ref a0), .val (.ref a1)] [(.double FP.dconst1), (.double (FP.l2d f_a1_successes))]))
 refine own_by (fun _ k => XS.daddS X1.here hx rfl (hb hby d5_6) rfl hp_0 rfl k) ?_
 show own_Go p e below _ (T1.setTop (mkF m 7 #[.val (.ref a0), .val (.ref a1)] [(.double (FP.dadd (FP.l2d f_a1_successes) FP.dconst1))]))
 refine own_by (fun _ k => XS.aloadN X1.here hx rfl (hb hby d5_7) rfl rfl k) ?_
 show own_Go p e below _ (T1.setTop (mkF m 8 #[.val (.ref a0), .val (.ref a1)] [(.ref a1), (.double (FP.dadd (FP.l2d f_a1_successes) FP.dconst1))]))
 obtain ⟨cq2, kq2, qq2a, qq2b, qq2c⟩ := isOf hZ eq1 P_E_a1
 obtain ⟨_, _, ⟨T2, L2, k2, n2⟩, -, X2, ⟨Lc2, hQ2, l2, y2, z2⟩, st2⟩ := X1.virtualBack hx (y := (⟨"com/example/credence/credence/core/Evidence", "successes", "()J"⟩ : MethodName)) (z := (⟨"com/example/credence/credence/core/Evidence", "successes", "()J"⟩ : MethodName)) hown (mvT hZ (hwd 34 rfl)) (mvT hZ (hwd 35 rfl)) (notFace_of_selects (args := #[]) (mvT hZ (hwd 37 rfl))) (mvT hZ (hwd 37 rfl)) (mvT hZ (hwd 36 rfl)) (by decide) (backOf (W := 2) (rm6 l Z A0 hw [] a1 f_a1_successes h0 n0 Z0 P_F_a1_successes) hZ (hwd 38 rfl) (hwd 15 rfl) (by decide) (by decide)) qq2a qq2c (g := (mkF m 8 #[.val (.ref a0), .val (.ref a1)] [(.ref a1), (.double (FP.dadd (FP.l2d f_a1_successes) FP.dconst1))])) rfl (by rw [hml]; rfl) (Steps.refl _) (argsL := []) (rest := [(.double (FP.dadd (FP.l2d f_a1_successes) FP.dconst1))]) (lenOf pd_34 rfl) rfl (by show 2 * 0 + _ ≤ _; exact Nat.le_of_eq rfl) (hb hby d5_8) (fun _ _ => ⟨rfl, eq1, (by decide : 0 + 0 ≤ _), (by decide : 0 + 0 ≤ _)⟩)
 dsimp only [Pt.U, Pt.locs, Pt.cells, Pt.slots] at X2 l2 y2 z2 st2 hQ2
 subst l2 y2 z2
 obtain ⟨rfl, Nq2, eq2⟩ := hQ2
 have N2 := Fr.app N1 Nq2
 refine own_by (fun _ k => st2.trans k) ?_
 show own_Go p e below _ (T2.setTop (mkF m 11 #[.val (.ref a0), .val (.ref a1)] [(.long f_a1_successes), (.double (FP.dadd (FP.l2d f_a1_successes) FP.dconst1))]))
 refine own_by (fun _ k => XS.aloadN X2.here hx rfl (hb hby d5_11) rfl rfl k) ?_
 show own_Go p e below _ (T2.setTop (mkF m 12 #[.val (.ref a0), .val (.ref a1)] [(.ref a1), (.long f_a1_successes), (.double (FP.dadd (FP.l2d f_a1_successes) FP.dconst1))]))
 obtain ⟨cq3, kq3, qq3a, qq3b, qq3c⟩ := isOf hZ eq2 P_E_a1
 obtain ⟨_, _, ⟨T3, L3, k3, n3⟩, -, X3, ⟨Lc3, hQ3, l3, y3, z3⟩, st3⟩ := X2.virtualBack hx (y := (⟨"com/example/credence/credence/core/Evidence", "failures", "()J"⟩ : MethodName)) (z := (⟨"com/example/credence/credence/core/Evidence", "failures", "()J"⟩ : MethodName)) hown (mvT hZ (hwd 39 rfl)) (mvT hZ (hwd 40 rfl)) (notFace_of_selects (args := #[]) (mvT hZ (hwd 42 rfl))) (mvT hZ (hwd 42 rfl)) (mvT hZ (hwd 41 rfl)) (by decide) (backOf (W := 4) (rm7 l Z A0 hw [] a1 f_a1_failures h0 n0 Z0 P_F_a1_failures) hZ (hwd 43 rfl) (hwd 15 rfl) (by decide) (by decide)) qq3a qq3c (g := (mkF m 12 #[.val (.ref a0), .val (.ref a1)] [(.ref a1), (.long f_a1_successes), (.double (FP.dadd (FP.l2d f_a1_successes) FP.dconst1))])) rfl (by rw [hml]; rfl) (Steps.refl _) (argsL := []) (rest := [(.long f_a1_successes), (.double (FP.dadd (FP.l2d f_a1_successes) FP.dconst1))]) (lenOf pd_34 rfl) rfl (by show 2 * 0 + _ ≤ _; exact Nat.le_of_eq rfl) (hb hby d5_12) (fun _ _ => ⟨rfl, eq2, (by decide : 0 + 0 ≤ _), (by decide : 0 + 0 ≤ _)⟩)
 dsimp only [Pt.U, Pt.locs, Pt.cells, Pt.slots] at X3 l3 y3 z3 st3 hQ3
 subst l3 y3 z3
 obtain ⟨rfl, Nq3, eq3⟩ := hQ3
 have N3 := Fr.app N2 Nq3
 refine own_by (fun _ k => st3.trans k) ?_
 show own_Go p e below _ (T3.setTop (mkF m 15 #[.val (.ref a0), .val (.ref a1)] [(.long f_a1_failures), (.long f_a1_successes), (.double (FP.dadd (FP.l2d f_a1_successes) FP.dconst1))]))
 refine own_by (fun _ k => XS.ladd X3.here hx rfl (hb hby d5_15) rfl k) ?_
 show own_Go p e below _ (T3.setTop (mkF m 16 #[.val (.ref a0), .val (.ref a1)] [(.long (f_a1_successes + f_a1_failures)), (.double (FP.dadd (FP.l2d f_a1_successes) FP.dconst1))]))
 refine own_by (fun _ k => XS.l2dS X3.here hx rfl (hb hby d5_16) rfl rfl k) ?_
 show own_Go p e below _ (T3.setTop (mkF m 17 #[.val (.ref a0), .val (.ref a1)] [(.double (FP.l2d (f_a1_successes + f_a1_failures))), (.double (FP.dadd (FP.l2d f_a1_successes) FP.dconst1))]))
 refine own_by (fun t k => X3.ldc2DoubleC hx hown (mvT hZ (hwd 44 rfl)) (g := (mkF m 17 #[.val (.ref a0), .val (.ref a1)] [(.double (FP.l2d (f_a1_successes + f_a1_failures))), (.double (FP.dadd (FP.l2d f_a1_successes) FP.dconst1))])) rfl (hb hby d5_17) _ k) ?_
 show own_Go p e below _ (T3.setTop (mkF m 20 #[.val (.ref a0), .val (.ref a1)] [(.double (4611686018427387904 : UInt64)), (.double (FP.l2d (f_a1_successes + f_a1_failures))), (.double (FP.dadd (FP.l2d f_a1_successes) FP.dconst1))]))
 refine own_by (fun _ k => XS.daddS X3.here hx rfl (hb hby d5_20) rfl hp_1 rfl k) ?_
 show own_Go p e below _ (T3.setTop (mkF m 21 #[.val (.ref a0), .val (.ref a1)] [(.double (FP.dadd (FP.l2d (f_a1_successes + f_a1_failures)) (4611686018427387904 : UInt64))), (.double (FP.dadd (FP.l2d f_a1_successes) FP.dconst1))]))
 refine own_by (fun _ k => XS.ddivS X3.here hx rfl (hb hby d5_21) rfl hp_2 rfl k) ?_
 show own_Go p e below _ (T3.setTop (mkF m 22 #[.val (.ref a0), .val (.ref a1)] [(.double (FP.ddiv (FP.dadd (FP.l2d f_a1_successes) FP.dconst1) (FP.dadd (FP.l2d (f_a1_successes + f_a1_failures)) (4611686018427387904 : UInt64))))]))
 exact own_retD X3 hx Bd.returns (hb hby d5_22) hlk eq3 ⟨rfl, N3, rfl⟩ (by decide) (by decide)
theorem pd_16 : parseMethodDescriptor "(JJ)V" = some ⟨[.long, .long], none⟩ := by decide +kernel
theorem pd_29 : parseMethodDescriptor "(Lcom/example/credence/credence/core/Evidence;)D" = some ⟨[(.object "com/example/credence/credence/core/Evidence")], some .double⟩ := by decide +kernel
theorem pn_0 : plainName "com/example/credence/credence/core/BetaModelTrustPinLaw" = true := by first | (simp [plainName, overriddenIn]; done) | decide +kernel
theorem ef_0 (m : MethodId) (q0 : Int64) (q1 : Int64) (p2 : Int32) (p3 : Int32) (p4 : Int32) : entryFrame m #[(.long q0), (.long q1), (.int p2), (.int p3), (.int p4)] maxLocals = mkF m 0 #[.val (.long q0), .second, .val (.long q1), .second, .val (.int p2), .val (.int p3), .val (.int p4), .unset, .unset, .unset, .unset, .unset, .unset, .unset, .unset, .unset, .unset, .unset, .unset, .unset, .unset, .unset, .unset, .unset, .unset, .unset, .unset, .unset, .unset, .unset, .unset, .unset, .unset, .unset, .unset, .unset, .unset] [] := by first | (simp [entryFrame, mkF, argsToLocals, Value.category, maxLocals]; done) | rfl
theorem ob_0_1 (q0 : Int64) (q1 : Int64) (p2 : Int32) (v1 : Int64) (v2 : Int64) (v3 : Int64) (v4 : Int64) (v5 : Int32) (v6 : Int64) (hv1 : (q0 &&& (16777215 : Int64)) = v1) (hv2 : (q1 &&& (16777215 : Int64)) = v2) (hv3 : (v1 + (1 : Int64)) = v3) (hv4 : ((v1 + v2) + (2 : Int64)) = v4) (hv5 : (((p2 &&& (2147483647 : Int32)) % (26 : Int32)) + (1 : Int32)) = v5) (hv6 : ((1 : Int64) <<< (v5 &&& 0x3f).toInt64) = v6) : ¬ ((v6 - (1 : Int64)) = (0 : Int64)) := by
  exact own_v61 hv5 hv6
theorem ob_0_2 (q0 : Int64) (q1 : Int64) (p2 : Int32) (p3 : Int32) (p4 : Int32) (v1 : Int64) (v2 : Int64) (v3 : Int64) (v4 : Int64) (v5 : Int32) (v6 : Int64) (v7 : Int64) (v8 : Int64) (hv1 : (q0 &&& (16777215 : Int64)) = v1) (hv2 : (q1 &&& (16777215 : Int64)) = v2) (hv3 : (v1 + (1 : Int64)) = v3) (hv4 : ((v1 + v2) + (2 : Int64)) = v4) (hv5 : (((p2 &&& (2147483647 : Int32)) % (26 : Int32)) + (1 : Int32)) = v5) (hv6 : ((1 : Int64) <<< (v5 &&& 0x3f).toInt64) = v6) (hv7 : ((1 : Int64) + (((p3 &&& (2147483647 : Int32)).toInt64) % (v6 - (1 : Int64)))) = v7) (hv8 : ((1 : Int64) + ((p4 &&& (1048575 : Int32)).toInt64)) = v8) : ¬ (v1 < (0 : Int64)) := by
  obtain ⟨k, hN⟩ := own_nums hv1 hv2 hv3 hv4 hv5 hv6 hv7 hv8
  obtain ⟨⟨b1, b2⟩, ⟨b3, b4⟩, b5, b6⟩ := own_bds hN
  exact own_nl b1
theorem ob_0_3 (q0 : Int64) (q1 : Int64) (p2 : Int32) (p3 : Int32) (p4 : Int32) (v1 : Int64) (v2 : Int64) (v3 : Int64) (v4 : Int64) (v5 : Int32) (v6 : Int64) (v7 : Int64) (v8 : Int64) (hv1 : (q0 &&& (16777215 : Int64)) = v1) (hv2 : (q1 &&& (16777215 : Int64)) = v2) (hv3 : (v1 + (1 : Int64)) = v3) (hv4 : ((v1 + v2) + (2 : Int64)) = v4) (hv5 : (((p2 &&& (2147483647 : Int32)) % (26 : Int32)) + (1 : Int32)) = v5) (hv6 : ((1 : Int64) <<< (v5 &&& 0x3f).toInt64) = v6) (hv7 : ((1 : Int64) + (((p3 &&& (2147483647 : Int32)).toInt64) % (v6 - (1 : Int64)))) = v7) (hv8 : ((1 : Int64) + ((p4 &&& (1048575 : Int32)).toInt64)) = v8) : ¬ (v2 < (0 : Int64)) := by
  obtain ⟨k, hN⟩ := own_nums hv1 hv2 hv3 hv4 hv5 hv6 hv7 hv8
  obtain ⟨⟨b1, b2⟩, ⟨b3, b4⟩, b5, b6⟩ := own_bds hN
  exact own_nl b2
theorem ob_0_4 (q0 : Int64) (q1 : Int64) (p2 : Int32) (p3 : Int32) (p4 : Int32) (v1 : Int64) (v2 : Int64) (v3 : Int64) (v4 : Int64) (v5 : Int32) (v6 : Int64) (v7 : Int64) (v8 : Int64) (hv1 : (q0 &&& (16777215 : Int64)) = v1) (hv2 : (q1 &&& (16777215 : Int64)) = v2) (hv3 : (v1 + (1 : Int64)) = v3) (hv4 : ((v1 + v2) + (2 : Int64)) = v4) (hv5 : (((p2 &&& (2147483647 : Int32)) % (26 : Int32)) + (1 : Int32)) = v5) (hv6 : ((1 : Int64) <<< (v5 &&& 0x3f).toInt64) = v6) (hv7 : ((1 : Int64) + (((p3 &&& (2147483647 : Int32)).toInt64) % (v6 - (1 : Int64)))) = v7) (hv8 : ((1 : Int64) + ((p4 &&& (1048575 : Int32)).toInt64)) = v8) : Fl.NoNaN64 (FP.dadd (FP.l2d v1) FP.dconst1) := by
  obtain ⟨k, hN⟩ := own_nums hv1 hv2 hv3 hv4 hv5 hv6 hv7 hv8
  obtain ⟨⟨b1, b2⟩, ⟨b3, b4⟩, b5, b6⟩ := own_bds hN
  exact (own_nnT b1 b2).1
theorem ob_0_5 (q0 : Int64) (q1 : Int64) (p2 : Int32) (p3 : Int32) (p4 : Int32) (v1 : Int64) (v2 : Int64) (v3 : Int64) (v4 : Int64) (v5 : Int32) (v6 : Int64) (v7 : Int64) (v8 : Int64) (hv1 : (q0 &&& (16777215 : Int64)) = v1) (hv2 : (q1 &&& (16777215 : Int64)) = v2) (hv3 : (v1 + (1 : Int64)) = v3) (hv4 : ((v1 + v2) + (2 : Int64)) = v4) (hv5 : (((p2 &&& (2147483647 : Int32)) % (26 : Int32)) + (1 : Int32)) = v5) (hv6 : ((1 : Int64) <<< (v5 &&& 0x3f).toInt64) = v6) (hv7 : ((1 : Int64) + (((p3 &&& (2147483647 : Int32)).toInt64) % (v6 - (1 : Int64)))) = v7) (hv8 : ((1 : Int64) + ((p4 &&& (1048575 : Int32)).toInt64)) = v8) : Fl.NoNaN64 (FP.dadd (FP.l2d (v1 + v2)) (4611686018427387904 : UInt64)) := by
  obtain ⟨k, hN⟩ := own_nums hv1 hv2 hv3 hv4 hv5 hv6 hv7 hv8
  obtain ⟨⟨b1, b2⟩, ⟨b3, b4⟩, b5, b6⟩ := own_bds hN
  exact (own_nnT b1 b2).2.1
theorem ob_0_6 (q0 : Int64) (q1 : Int64) (p2 : Int32) (p3 : Int32) (p4 : Int32) (v1 : Int64) (v2 : Int64) (v3 : Int64) (v4 : Int64) (v5 : Int32) (v6 : Int64) (v7 : Int64) (v8 : Int64) (hv1 : (q0 &&& (16777215 : Int64)) = v1) (hv2 : (q1 &&& (16777215 : Int64)) = v2) (hv3 : (v1 + (1 : Int64)) = v3) (hv4 : ((v1 + v2) + (2 : Int64)) = v4) (hv5 : (((p2 &&& (2147483647 : Int32)) % (26 : Int32)) + (1 : Int32)) = v5) (hv6 : ((1 : Int64) <<< (v5 &&& 0x3f).toInt64) = v6) (hv7 : ((1 : Int64) + (((p3 &&& (2147483647 : Int32)).toInt64) % (v6 - (1 : Int64)))) = v7) (hv8 : ((1 : Int64) + ((p4 &&& (1048575 : Int32)).toInt64)) = v8) : Fl.NoNaN64 (FP.ddiv (FP.dadd (FP.l2d v1) FP.dconst1) (FP.dadd (FP.l2d (v1 + v2)) (4611686018427387904 : UInt64))) := by
  obtain ⟨k, hN⟩ := own_nums hv1 hv2 hv3 hv4 hv5 hv6 hv7 hv8
  obtain ⟨⟨b1, b2⟩, ⟨b3, b4⟩, b5, b6⟩ := own_bds hN
  exact (own_nnT b1 b2).2.2
theorem ob_0_7 (q0 : Int64) (q1 : Int64) (p2 : Int32) (p3 : Int32) (p4 : Int32) (v1 : Int64) (v2 : Int64) (v3 : Int64) (v4 : Int64) (v5 : Int32) (v6 : Int64) (v7 : Int64) (v8 : Int64) (v18 : UInt64) (hv1 : (q0 &&& (16777215 : Int64)) = v1) (hv2 : (q1 &&& (16777215 : Int64)) = v2) (hv3 : (v1 + (1 : Int64)) = v3) (hv4 : ((v1 + v2) + (2 : Int64)) = v4) (hv5 : (((p2 &&& (2147483647 : Int32)) % (26 : Int32)) + (1 : Int32)) = v5) (hv6 : ((1 : Int64) <<< (v5 &&& 0x3f).toInt64) = v6) (hv7 : ((1 : Int64) + (((p3 &&& (2147483647 : Int32)).toInt64) % (v6 - (1 : Int64)))) = v7) (hv8 : ((1 : Int64) + ((p4 &&& (1048575 : Int32)).toInt64)) = v8) (hv18 : (FP.ddiv (FP.dadd (FP.l2d v1) FP.dconst1) (FP.dadd (FP.l2d (v1 + v2)) (4611686018427387904 : UInt64))) = v18) : ¬ ((v7 - (1 : Int64)) < (0 : Int64)) := by
  obtain ⟨k, hN⟩ := own_nums hv1 hv2 hv3 hv4 hv5 hv6 hv7 hv8
  obtain ⟨⟨b1, b2⟩, ⟨b3, b4⟩, b5, b6⟩ := own_bds hN
  exact own_nl b3
theorem ob_0_8 (q0 : Int64) (q1 : Int64) (p2 : Int32) (p3 : Int32) (p4 : Int32) (v1 : Int64) (v2 : Int64) (v3 : Int64) (v4 : Int64) (v5 : Int32) (v6 : Int64) (v7 : Int64) (v8 : Int64) (v18 : UInt64) (hv1 : (q0 &&& (16777215 : Int64)) = v1) (hv2 : (q1 &&& (16777215 : Int64)) = v2) (hv3 : (v1 + (1 : Int64)) = v3) (hv4 : ((v1 + v2) + (2 : Int64)) = v4) (hv5 : (((p2 &&& (2147483647 : Int32)) % (26 : Int32)) + (1 : Int32)) = v5) (hv6 : ((1 : Int64) <<< (v5 &&& 0x3f).toInt64) = v6) (hv7 : ((1 : Int64) + (((p3 &&& (2147483647 : Int32)).toInt64) % (v6 - (1 : Int64)))) = v7) (hv8 : ((1 : Int64) + ((p4 &&& (1048575 : Int32)).toInt64)) = v8) (hv18 : (FP.ddiv (FP.dadd (FP.l2d v1) FP.dconst1) (FP.dadd (FP.l2d (v1 + v2)) (4611686018427387904 : UInt64))) = v18) : ¬ (((v6 - v7) - (1 : Int64)) < (0 : Int64)) := by
  obtain ⟨k, hN⟩ := own_nums hv1 hv2 hv3 hv4 hv5 hv6 hv7 hv8
  obtain ⟨⟨b1, b2⟩, ⟨b3, b4⟩, b5, b6⟩ := own_bds hN
  exact own_nl b4
theorem ob_0_9 (q0 : Int64) (q1 : Int64) (p2 : Int32) (p3 : Int32) (p4 : Int32) (v1 : Int64) (v2 : Int64) (v3 : Int64) (v4 : Int64) (v5 : Int32) (v6 : Int64) (v7 : Int64) (v8 : Int64) (v18 : UInt64) (hv1 : (q0 &&& (16777215 : Int64)) = v1) (hv2 : (q1 &&& (16777215 : Int64)) = v2) (hv3 : (v1 + (1 : Int64)) = v3) (hv4 : ((v1 + v2) + (2 : Int64)) = v4) (hv5 : (((p2 &&& (2147483647 : Int32)) % (26 : Int32)) + (1 : Int32)) = v5) (hv6 : ((1 : Int64) <<< (v5 &&& 0x3f).toInt64) = v6) (hv7 : ((1 : Int64) + (((p3 &&& (2147483647 : Int32)).toInt64) % (v6 - (1 : Int64)))) = v7) (hv8 : ((1 : Int64) + ((p4 &&& (1048575 : Int32)).toInt64)) = v8) (hv18 : (FP.ddiv (FP.dadd (FP.l2d v1) FP.dconst1) (FP.dadd (FP.l2d (v1 + v2)) (4611686018427387904 : UInt64))) = v18) : Fl.NoNaN64 (FP.dadd (FP.l2d (v7 - (1 : Int64))) FP.dconst1) := by
  obtain ⟨k, hN⟩ := own_nums hv1 hv2 hv3 hv4 hv5 hv6 hv7 hv8
  obtain ⟨⟨b1, b2⟩, ⟨b3, b4⟩, b5, b6⟩ := own_bds hN
  exact (own_nnT b3 b4).1
theorem ob_0_10 (q0 : Int64) (q1 : Int64) (p2 : Int32) (p3 : Int32) (p4 : Int32) (v1 : Int64) (v2 : Int64) (v3 : Int64) (v4 : Int64) (v5 : Int32) (v6 : Int64) (v7 : Int64) (v8 : Int64) (v18 : UInt64) (hv1 : (q0 &&& (16777215 : Int64)) = v1) (hv2 : (q1 &&& (16777215 : Int64)) = v2) (hv3 : (v1 + (1 : Int64)) = v3) (hv4 : ((v1 + v2) + (2 : Int64)) = v4) (hv5 : (((p2 &&& (2147483647 : Int32)) % (26 : Int32)) + (1 : Int32)) = v5) (hv6 : ((1 : Int64) <<< (v5 &&& 0x3f).toInt64) = v6) (hv7 : ((1 : Int64) + (((p3 &&& (2147483647 : Int32)).toInt64) % (v6 - (1 : Int64)))) = v7) (hv8 : ((1 : Int64) + ((p4 &&& (1048575 : Int32)).toInt64)) = v8) (hv18 : (FP.ddiv (FP.dadd (FP.l2d v1) FP.dconst1) (FP.dadd (FP.l2d (v1 + v2)) (4611686018427387904 : UInt64))) = v18) : Fl.NoNaN64 (FP.dadd (FP.l2d ((v7 - (1 : Int64)) + ((v6 - v7) - (1 : Int64)))) (4611686018427387904 : UInt64)) := by
  obtain ⟨k, hN⟩ := own_nums hv1 hv2 hv3 hv4 hv5 hv6 hv7 hv8
  obtain ⟨⟨b1, b2⟩, ⟨b3, b4⟩, b5, b6⟩ := own_bds hN
  exact (own_nnT b3 b4).2.1
theorem ob_0_11 (q0 : Int64) (q1 : Int64) (p2 : Int32) (p3 : Int32) (p4 : Int32) (v1 : Int64) (v2 : Int64) (v3 : Int64) (v4 : Int64) (v5 : Int32) (v6 : Int64) (v7 : Int64) (v8 : Int64) (v18 : UInt64) (hv1 : (q0 &&& (16777215 : Int64)) = v1) (hv2 : (q1 &&& (16777215 : Int64)) = v2) (hv3 : (v1 + (1 : Int64)) = v3) (hv4 : ((v1 + v2) + (2 : Int64)) = v4) (hv5 : (((p2 &&& (2147483647 : Int32)) % (26 : Int32)) + (1 : Int32)) = v5) (hv6 : ((1 : Int64) <<< (v5 &&& 0x3f).toInt64) = v6) (hv7 : ((1 : Int64) + (((p3 &&& (2147483647 : Int32)).toInt64) % (v6 - (1 : Int64)))) = v7) (hv8 : ((1 : Int64) + ((p4 &&& (1048575 : Int32)).toInt64)) = v8) (hv18 : (FP.ddiv (FP.dadd (FP.l2d v1) FP.dconst1) (FP.dadd (FP.l2d (v1 + v2)) (4611686018427387904 : UInt64))) = v18) : Fl.NoNaN64 (FP.ddiv (FP.dadd (FP.l2d (v7 - (1 : Int64))) FP.dconst1) (FP.dadd (FP.l2d ((v7 - (1 : Int64)) + ((v6 - v7) - (1 : Int64)))) (4611686018427387904 : UInt64))) := by
  obtain ⟨k, hN⟩ := own_nums hv1 hv2 hv3 hv4 hv5 hv6 hv7 hv8
  obtain ⟨⟨b1, b2⟩, ⟨b3, b4⟩, b5, b6⟩ := own_bds hN
  exact (own_nnT b3 b4).2.2
theorem ob_0_12 (q0 : Int64) (q1 : Int64) (p2 : Int32) (p3 : Int32) (p4 : Int32) (v1 : Int64) (v2 : Int64) (v3 : Int64) (v4 : Int64) (v5 : Int32) (v6 : Int64) (v7 : Int64) (v8 : Int64) (v18 : UInt64) (v26 : UInt64) (hv1 : (q0 &&& (16777215 : Int64)) = v1) (hv2 : (q1 &&& (16777215 : Int64)) = v2) (hv3 : (v1 + (1 : Int64)) = v3) (hv4 : ((v1 + v2) + (2 : Int64)) = v4) (hv5 : (((p2 &&& (2147483647 : Int32)) % (26 : Int32)) + (1 : Int32)) = v5) (hv6 : ((1 : Int64) <<< (v5 &&& 0x3f).toInt64) = v6) (hv7 : ((1 : Int64) + (((p3 &&& (2147483647 : Int32)).toInt64) % (v6 - (1 : Int64)))) = v7) (hv8 : ((1 : Int64) + ((p4 &&& (1048575 : Int32)).toInt64)) = v8) (hv18 : (FP.ddiv (FP.dadd (FP.l2d v1) FP.dconst1) (FP.dadd (FP.l2d (v1 + v2)) (4611686018427387904 : UInt64))) = v18) (hv26 : (FP.ddiv (FP.dadd (FP.l2d (v7 - (1 : Int64))) FP.dconst1) (FP.dadd (FP.l2d ((v7 - (1 : Int64)) + ((v6 - v7) - (1 : Int64)))) (4611686018427387904 : UInt64))) = v26) : ¬ (((v8 * v3) - (1 : Int64)) < (0 : Int64)) := by
  obtain ⟨k, hN⟩ := own_nums hv1 hv2 hv3 hv4 hv5 hv6 hv7 hv8
  obtain ⟨⟨b1, b2⟩, ⟨b3, b4⟩, b5, b6⟩ := own_bds hN
  exact own_nl b5
theorem ob_0_13 (q0 : Int64) (q1 : Int64) (p2 : Int32) (p3 : Int32) (p4 : Int32) (v1 : Int64) (v2 : Int64) (v3 : Int64) (v4 : Int64) (v5 : Int32) (v6 : Int64) (v7 : Int64) (v8 : Int64) (v18 : UInt64) (v26 : UInt64) (hv1 : (q0 &&& (16777215 : Int64)) = v1) (hv2 : (q1 &&& (16777215 : Int64)) = v2) (hv3 : (v1 + (1 : Int64)) = v3) (hv4 : ((v1 + v2) + (2 : Int64)) = v4) (hv5 : (((p2 &&& (2147483647 : Int32)) % (26 : Int32)) + (1 : Int32)) = v5) (hv6 : ((1 : Int64) <<< (v5 &&& 0x3f).toInt64) = v6) (hv7 : ((1 : Int64) + (((p3 &&& (2147483647 : Int32)).toInt64) % (v6 - (1 : Int64)))) = v7) (hv8 : ((1 : Int64) + ((p4 &&& (1048575 : Int32)).toInt64)) = v8) (hv18 : (FP.ddiv (FP.dadd (FP.l2d v1) FP.dconst1) (FP.dadd (FP.l2d (v1 + v2)) (4611686018427387904 : UInt64))) = v18) (hv26 : (FP.ddiv (FP.dadd (FP.l2d (v7 - (1 : Int64))) FP.dconst1) (FP.dadd (FP.l2d ((v7 - (1 : Int64)) + ((v6 - v7) - (1 : Int64)))) (4611686018427387904 : UInt64))) = v26) : ¬ (((v8 * (v2 + (1 : Int64))) - (1 : Int64)) < (0 : Int64)) := by
  obtain ⟨k, hN⟩ := own_nums hv1 hv2 hv3 hv4 hv5 hv6 hv7 hv8
  obtain ⟨⟨b1, b2⟩, ⟨b3, b4⟩, b5, b6⟩ := own_bds hN
  exact own_nl b6
theorem ob_0_14 (q0 : Int64) (q1 : Int64) (p2 : Int32) (p3 : Int32) (p4 : Int32) (v1 : Int64) (v2 : Int64) (v3 : Int64) (v4 : Int64) (v5 : Int32) (v6 : Int64) (v7 : Int64) (v8 : Int64) (v18 : UInt64) (v26 : UInt64) (hv1 : (q0 &&& (16777215 : Int64)) = v1) (hv2 : (q1 &&& (16777215 : Int64)) = v2) (hv3 : (v1 + (1 : Int64)) = v3) (hv4 : ((v1 + v2) + (2 : Int64)) = v4) (hv5 : (((p2 &&& (2147483647 : Int32)) % (26 : Int32)) + (1 : Int32)) = v5) (hv6 : ((1 : Int64) <<< (v5 &&& 0x3f).toInt64) = v6) (hv7 : ((1 : Int64) + (((p3 &&& (2147483647 : Int32)).toInt64) % (v6 - (1 : Int64)))) = v7) (hv8 : ((1 : Int64) + ((p4 &&& (1048575 : Int32)).toInt64)) = v8) (hv18 : (FP.ddiv (FP.dadd (FP.l2d v1) FP.dconst1) (FP.dadd (FP.l2d (v1 + v2)) (4611686018427387904 : UInt64))) = v18) (hv26 : (FP.ddiv (FP.dadd (FP.l2d (v7 - (1 : Int64))) FP.dconst1) (FP.dadd (FP.l2d ((v7 - (1 : Int64)) + ((v6 - v7) - (1 : Int64)))) (4611686018427387904 : UInt64))) = v26) : Fl.NoNaN64 (FP.dadd (FP.l2d ((v8 * v3) - (1 : Int64))) FP.dconst1) := by
  obtain ⟨k, hN⟩ := own_nums hv1 hv2 hv3 hv4 hv5 hv6 hv7 hv8
  obtain ⟨⟨b1, b2⟩, ⟨b3, b4⟩, b5, b6⟩ := own_bds hN
  exact (own_nnT b5 b6).1
theorem ob_0_15 (q0 : Int64) (q1 : Int64) (p2 : Int32) (p3 : Int32) (p4 : Int32) (v1 : Int64) (v2 : Int64) (v3 : Int64) (v4 : Int64) (v5 : Int32) (v6 : Int64) (v7 : Int64) (v8 : Int64) (v18 : UInt64) (v26 : UInt64) (hv1 : (q0 &&& (16777215 : Int64)) = v1) (hv2 : (q1 &&& (16777215 : Int64)) = v2) (hv3 : (v1 + (1 : Int64)) = v3) (hv4 : ((v1 + v2) + (2 : Int64)) = v4) (hv5 : (((p2 &&& (2147483647 : Int32)) % (26 : Int32)) + (1 : Int32)) = v5) (hv6 : ((1 : Int64) <<< (v5 &&& 0x3f).toInt64) = v6) (hv7 : ((1 : Int64) + (((p3 &&& (2147483647 : Int32)).toInt64) % (v6 - (1 : Int64)))) = v7) (hv8 : ((1 : Int64) + ((p4 &&& (1048575 : Int32)).toInt64)) = v8) (hv18 : (FP.ddiv (FP.dadd (FP.l2d v1) FP.dconst1) (FP.dadd (FP.l2d (v1 + v2)) (4611686018427387904 : UInt64))) = v18) (hv26 : (FP.ddiv (FP.dadd (FP.l2d (v7 - (1 : Int64))) FP.dconst1) (FP.dadd (FP.l2d ((v7 - (1 : Int64)) + ((v6 - v7) - (1 : Int64)))) (4611686018427387904 : UInt64))) = v26) : Fl.NoNaN64 (FP.dadd (FP.l2d (((v8 * v3) - (1 : Int64)) + ((v8 * (v2 + (1 : Int64))) - (1 : Int64)))) (4611686018427387904 : UInt64)) := by
  obtain ⟨k, hN⟩ := own_nums hv1 hv2 hv3 hv4 hv5 hv6 hv7 hv8
  obtain ⟨⟨b1, b2⟩, ⟨b3, b4⟩, b5, b6⟩ := own_bds hN
  exact (own_nnT b5 b6).2.1
theorem ob_0_16 (q0 : Int64) (q1 : Int64) (p2 : Int32) (p3 : Int32) (p4 : Int32) (v1 : Int64) (v2 : Int64) (v3 : Int64) (v4 : Int64) (v5 : Int32) (v6 : Int64) (v7 : Int64) (v8 : Int64) (v18 : UInt64) (v26 : UInt64) (hv1 : (q0 &&& (16777215 : Int64)) = v1) (hv2 : (q1 &&& (16777215 : Int64)) = v2) (hv3 : (v1 + (1 : Int64)) = v3) (hv4 : ((v1 + v2) + (2 : Int64)) = v4) (hv5 : (((p2 &&& (2147483647 : Int32)) % (26 : Int32)) + (1 : Int32)) = v5) (hv6 : ((1 : Int64) <<< (v5 &&& 0x3f).toInt64) = v6) (hv7 : ((1 : Int64) + (((p3 &&& (2147483647 : Int32)).toInt64) % (v6 - (1 : Int64)))) = v7) (hv8 : ((1 : Int64) + ((p4 &&& (1048575 : Int32)).toInt64)) = v8) (hv18 : (FP.ddiv (FP.dadd (FP.l2d v1) FP.dconst1) (FP.dadd (FP.l2d (v1 + v2)) (4611686018427387904 : UInt64))) = v18) (hv26 : (FP.ddiv (FP.dadd (FP.l2d (v7 - (1 : Int64))) FP.dconst1) (FP.dadd (FP.l2d ((v7 - (1 : Int64)) + ((v6 - v7) - (1 : Int64)))) (4611686018427387904 : UInt64))) = v26) : Fl.NoNaN64 (FP.ddiv (FP.dadd (FP.l2d ((v8 * v3) - (1 : Int64))) FP.dconst1) (FP.dadd (FP.l2d (((v8 * v3) - (1 : Int64)) + ((v8 * (v2 + (1 : Int64))) - (1 : Int64)))) (4611686018427387904 : UInt64))) := by
  obtain ⟨k, hN⟩ := own_nums hv1 hv2 hv3 hv4 hv5 hv6 hv7 hv8
  obtain ⟨⟨b1, b2⟩, ⟨b3, b4⟩, b5, b6⟩ := own_bds hN
  exact (own_nnT b5 b6).2.2
theorem ob_0_17 (q0 : Int64) (q1 : Int64) (p2 : Int32) (p3 : Int32) (p4 : Int32) (v1 : Int64) (v2 : Int64) (v3 : Int64) (v4 : Int64) (v5 : Int32) (v6 : Int64) (v7 : Int64) (v8 : Int64) (v18 : UInt64) (v26 : UInt64) (v34 : UInt64) (hv1 : (q0 &&& (16777215 : Int64)) = v1) (hv2 : (q1 &&& (16777215 : Int64)) = v2) (hv3 : (v1 + (1 : Int64)) = v3) (hv4 : ((v1 + v2) + (2 : Int64)) = v4) (hv5 : (((p2 &&& (2147483647 : Int32)) % (26 : Int32)) + (1 : Int32)) = v5) (hv6 : ((1 : Int64) <<< (v5 &&& 0x3f).toInt64) = v6) (hv7 : ((1 : Int64) + (((p3 &&& (2147483647 : Int32)).toInt64) % (v6 - (1 : Int64)))) = v7) (hv8 : ((1 : Int64) + ((p4 &&& (1048575 : Int32)).toInt64)) = v8) (hv18 : (FP.ddiv (FP.dadd (FP.l2d v1) FP.dconst1) (FP.dadd (FP.l2d (v1 + v2)) (4611686018427387904 : UInt64))) = v18) (hv26 : (FP.ddiv (FP.dadd (FP.l2d (v7 - (1 : Int64))) FP.dconst1) (FP.dadd (FP.l2d ((v7 - (1 : Int64)) + ((v6 - v7) - (1 : Int64)))) (4611686018427387904 : UInt64))) = v26) (hv34 : (FP.ddiv (FP.dadd (FP.l2d ((v8 * v3) - (1 : Int64))) FP.dconst1) (FP.dadd (FP.l2d (((v8 * v3) - (1 : Int64)) + ((v8 * (v2 + (1 : Int64))) - (1 : Int64)))) (4611686018427387904 : UInt64))) = v34) : Fl.NoNaN64 (FP.dmul v26 (FP.l2d v6)) := by
  obtain ⟨k, hN⟩ := own_nums hv1 hv2 hv3 hv4 hv5 hv6 hv7 hv8
  exact (own_law hN hv18 hv26 hv34 rfl rfl).1
theorem ob_0_18 (q0 : Int64) (q1 : Int64) (p2 : Int32) (p3 : Int32) (p4 : Int32) (v1 : Int64) (v2 : Int64) (v3 : Int64) (v4 : Int64) (v5 : Int32) (v6 : Int64) (v7 : Int64) (v8 : Int64) (v18 : UInt64) (v26 : UInt64) (v34 : UInt64) (z42 : Int32) (v44 : Int64) (v45 : Int64) (z53 : Int32) (z62 : Int32) (z90 : Int32) (z99 : Int32) (z109 : Int32) (hv1 : (q0 &&& (16777215 : Int64)) = v1) (hv2 : (q1 &&& (16777215 : Int64)) = v2) (hv3 : (v1 + (1 : Int64)) = v3) (hv4 : ((v1 + v2) + (2 : Int64)) = v4) (hv5 : (((p2 &&& (2147483647 : Int32)) % (26 : Int32)) + (1 : Int32)) = v5) (hv6 : ((1 : Int64) <<< (v5 &&& 0x3f).toInt64) = v6) (hv7 : ((1 : Int64) + (((p3 &&& (2147483647 : Int32)).toInt64) % (v6 - (1 : Int64)))) = v7) (hv8 : ((1 : Int64) + ((p4 &&& (1048575 : Int32)).toInt64)) = v8) (hv18 : (FP.ddiv (FP.dadd (FP.l2d v1) FP.dconst1) (FP.dadd (FP.l2d (v1 + v2)) (4611686018427387904 : UInt64))) = v18) (hv26 : (FP.ddiv (FP.dadd (FP.l2d (v7 - (1 : Int64))) FP.dconst1) (FP.dadd (FP.l2d ((v7 - (1 : Int64)) + ((v6 - v7) - (1 : Int64)))) (4611686018427387904 : UInt64))) = v26) (hv34 : (FP.ddiv (FP.dadd (FP.l2d ((v8 * v3) - (1 : Int64))) FP.dconst1) (FP.dadd (FP.l2d (((v8 * v3) - (1 : Int64)) + ((v8 * (v2 + (1 : Int64))) - (1 : Int64)))) (4611686018427387904 : UInt64))) = v34) (hj43 : (((cmpValue (FP.dcmp (FP.dmul v26 (FP.l2d v6)) (FP.l2d v7)) .l) = (0 : Int32)) ∧ z42 = (1 : Int32)) ∨ ((¬ ((cmpValue (FP.dcmp (FP.dmul v26 (FP.l2d v6)) (FP.l2d v7)) .l) = (0 : Int32))) ∧ z42 = (0 : Int32))) (hv44 : (v3 * v6) = v44) (hv45 : (v7 * v4) = v45) (hj54 : (((cmpValue (FP.dcmp v18 v26) .g) < (0 : Int32)) ∧ z53 = (1 : Int32)) ∨ ((¬ ((cmpValue (FP.dcmp v18 v26) .g) < (0 : Int32))) ∧ z53 = (0 : Int32))) (hj63 : ((v44 < v45) ∧ z62 = (1 : Int32)) ∨ ((¬ (v44 < v45)) ∧ z62 = (0 : Int32))) (hj91 : (∃ (z72 : Int32) (z81 : Int32), (z53 = z62) ∧ ((((cmpValue (FP.dcmp v18 v26) .l) = (0 : Int32)) ∧ z72 = (1 : Int32)) ∨ ((¬ ((cmpValue (FP.dcmp v18 v26) .l) = (0 : Int32))) ∧ z72 = (0 : Int32))) ∧ (((v44 = v45) ∧ z81 = (1 : Int32)) ∨ ((¬ (v44 = v45)) ∧ z81 = (0 : Int32))) ∧ (z72 = z81) ∧ z90 = (1 : Int32)) ∨ (∃ (z72 : Int32) (z81 : Int32), (z53 = z62) ∧ ((((cmpValue (FP.dcmp v18 v26) .l) = (0 : Int32)) ∧ z72 = (1 : Int32)) ∨ ((¬ ((cmpValue (FP.dcmp v18 v26) .l) = (0 : Int32))) ∧ z72 = (0 : Int32))) ∧ (((v44 = v45) ∧ z81 = (1 : Int32)) ∨ ((¬ (v44 = v45)) ∧ z81 = (0 : Int32))) ∧ (¬ (z72 = z81)) ∧ z90 = (0 : Int32)) ∨ ((¬ (z53 = z62)) ∧ z90 = (0 : Int32))) (hj100 : (((cmpValue (FP.dcmp v34 v18) .l) = (0 : Int32)) ∧ z99 = (1 : Int32)) ∨ ((¬ ((cmpValue (FP.dcmp v34 v18) .l) = (0 : Int32))) ∧ z99 = (0 : Int32))) (hj110 : (((cmpValue (FP.dcmp FP.dconst0 v18) .g) < (0 : Int32)) ∧ ((cmpValue (FP.dcmp v18 FP.dconst1) .g) < (0 : Int32)) ∧ z109 = (1 : Int32)) ∨ (((cmpValue (FP.dcmp FP.dconst0 v18) .g) < (0 : Int32)) ∧ (¬ ((cmpValue (FP.dcmp v18 FP.dconst1) .g) < (0 : Int32))) ∧ z109 = (0 : Int32)) ∨ ((¬ ((cmpValue (FP.dcmp FP.dconst0 v18) .g) < (0 : Int32))) ∧ z109 = (0 : Int32))) (c111 : z42 = (0 : Int32)) : False := by
  obtain ⟨k, hN⟩ := own_nums hv1 hv2 hv3 hv4 hv5 hv6 hv7 hv8
  obtain ⟨-, L1, L2, L3, L4, L5, L6⟩ := own_law hN hv18 hv26 hv34 hv44 hv45
  clear hN hv45 hv44 hv34 hv26 hv18 hv8 hv7 hv6 hv5 hv4 hv3 hv2 hv1
  grind
theorem ob_0_19 (q0 : Int64) (q1 : Int64) (p2 : Int32) (p3 : Int32) (p4 : Int32) (v1 : Int64) (v2 : Int64) (v3 : Int64) (v4 : Int64) (v5 : Int32) (v6 : Int64) (v7 : Int64) (v8 : Int64) (v18 : UInt64) (v26 : UInt64) (v34 : UInt64) (z42 : Int32) (v44 : Int64) (v45 : Int64) (z53 : Int32) (z62 : Int32) (z90 : Int32) (z99 : Int32) (z109 : Int32) (hv1 : (q0 &&& (16777215 : Int64)) = v1) (hv2 : (q1 &&& (16777215 : Int64)) = v2) (hv3 : (v1 + (1 : Int64)) = v3) (hv4 : ((v1 + v2) + (2 : Int64)) = v4) (hv5 : (((p2 &&& (2147483647 : Int32)) % (26 : Int32)) + (1 : Int32)) = v5) (hv6 : ((1 : Int64) <<< (v5 &&& 0x3f).toInt64) = v6) (hv7 : ((1 : Int64) + (((p3 &&& (2147483647 : Int32)).toInt64) % (v6 - (1 : Int64)))) = v7) (hv8 : ((1 : Int64) + ((p4 &&& (1048575 : Int32)).toInt64)) = v8) (hv18 : (FP.ddiv (FP.dadd (FP.l2d v1) FP.dconst1) (FP.dadd (FP.l2d (v1 + v2)) (4611686018427387904 : UInt64))) = v18) (hv26 : (FP.ddiv (FP.dadd (FP.l2d (v7 - (1 : Int64))) FP.dconst1) (FP.dadd (FP.l2d ((v7 - (1 : Int64)) + ((v6 - v7) - (1 : Int64)))) (4611686018427387904 : UInt64))) = v26) (hv34 : (FP.ddiv (FP.dadd (FP.l2d ((v8 * v3) - (1 : Int64))) FP.dconst1) (FP.dadd (FP.l2d (((v8 * v3) - (1 : Int64)) + ((v8 * (v2 + (1 : Int64))) - (1 : Int64)))) (4611686018427387904 : UInt64))) = v34) (hj43 : (((cmpValue (FP.dcmp (FP.dmul v26 (FP.l2d v6)) (FP.l2d v7)) .l) = (0 : Int32)) ∧ z42 = (1 : Int32)) ∨ ((¬ ((cmpValue (FP.dcmp (FP.dmul v26 (FP.l2d v6)) (FP.l2d v7)) .l) = (0 : Int32))) ∧ z42 = (0 : Int32))) (hv44 : (v3 * v6) = v44) (hv45 : (v7 * v4) = v45) (hj54 : (((cmpValue (FP.dcmp v18 v26) .g) < (0 : Int32)) ∧ z53 = (1 : Int32)) ∨ ((¬ ((cmpValue (FP.dcmp v18 v26) .g) < (0 : Int32))) ∧ z53 = (0 : Int32))) (hj63 : ((v44 < v45) ∧ z62 = (1 : Int32)) ∨ ((¬ (v44 < v45)) ∧ z62 = (0 : Int32))) (hj91 : (∃ (z72 : Int32) (z81 : Int32), (z53 = z62) ∧ ((((cmpValue (FP.dcmp v18 v26) .l) = (0 : Int32)) ∧ z72 = (1 : Int32)) ∨ ((¬ ((cmpValue (FP.dcmp v18 v26) .l) = (0 : Int32))) ∧ z72 = (0 : Int32))) ∧ (((v44 = v45) ∧ z81 = (1 : Int32)) ∨ ((¬ (v44 = v45)) ∧ z81 = (0 : Int32))) ∧ (z72 = z81) ∧ z90 = (1 : Int32)) ∨ (∃ (z72 : Int32) (z81 : Int32), (z53 = z62) ∧ ((((cmpValue (FP.dcmp v18 v26) .l) = (0 : Int32)) ∧ z72 = (1 : Int32)) ∨ ((¬ ((cmpValue (FP.dcmp v18 v26) .l) = (0 : Int32))) ∧ z72 = (0 : Int32))) ∧ (((v44 = v45) ∧ z81 = (1 : Int32)) ∨ ((¬ (v44 = v45)) ∧ z81 = (0 : Int32))) ∧ (¬ (z72 = z81)) ∧ z90 = (0 : Int32)) ∨ ((¬ (z53 = z62)) ∧ z90 = (0 : Int32))) (hj100 : (((cmpValue (FP.dcmp v34 v18) .l) = (0 : Int32)) ∧ z99 = (1 : Int32)) ∨ ((¬ ((cmpValue (FP.dcmp v34 v18) .l) = (0 : Int32))) ∧ z99 = (0 : Int32))) (hj110 : (((cmpValue (FP.dcmp FP.dconst0 v18) .g) < (0 : Int32)) ∧ ((cmpValue (FP.dcmp v18 FP.dconst1) .g) < (0 : Int32)) ∧ z109 = (1 : Int32)) ∨ (((cmpValue (FP.dcmp FP.dconst0 v18) .g) < (0 : Int32)) ∧ (¬ ((cmpValue (FP.dcmp v18 FP.dconst1) .g) < (0 : Int32))) ∧ z109 = (0 : Int32)) ∨ ((¬ ((cmpValue (FP.dcmp FP.dconst0 v18) .g) < (0 : Int32))) ∧ z109 = (0 : Int32))) (c111 : ¬ (z42 = (0 : Int32))) (c112 : z90 = (0 : Int32)) : False := by
  obtain ⟨k, hN⟩ := own_nums hv1 hv2 hv3 hv4 hv5 hv6 hv7 hv8
  obtain ⟨-, L1, L2, L3, L4, L5, L6⟩ := own_law hN hv18 hv26 hv34 hv44 hv45
  clear hN hv45 hv44 hv34 hv26 hv18 hv8 hv7 hv6 hv5 hv4 hv3 hv2 hv1
  grind
theorem ob_0_20 (q0 : Int64) (q1 : Int64) (p2 : Int32) (p3 : Int32) (p4 : Int32) (v1 : Int64) (v2 : Int64) (v3 : Int64) (v4 : Int64) (v5 : Int32) (v6 : Int64) (v7 : Int64) (v8 : Int64) (v18 : UInt64) (v26 : UInt64) (v34 : UInt64) (z42 : Int32) (v44 : Int64) (v45 : Int64) (z53 : Int32) (z62 : Int32) (z90 : Int32) (z99 : Int32) (z109 : Int32) (hv1 : (q0 &&& (16777215 : Int64)) = v1) (hv2 : (q1 &&& (16777215 : Int64)) = v2) (hv3 : (v1 + (1 : Int64)) = v3) (hv4 : ((v1 + v2) + (2 : Int64)) = v4) (hv5 : (((p2 &&& (2147483647 : Int32)) % (26 : Int32)) + (1 : Int32)) = v5) (hv6 : ((1 : Int64) <<< (v5 &&& 0x3f).toInt64) = v6) (hv7 : ((1 : Int64) + (((p3 &&& (2147483647 : Int32)).toInt64) % (v6 - (1 : Int64)))) = v7) (hv8 : ((1 : Int64) + ((p4 &&& (1048575 : Int32)).toInt64)) = v8) (hv18 : (FP.ddiv (FP.dadd (FP.l2d v1) FP.dconst1) (FP.dadd (FP.l2d (v1 + v2)) (4611686018427387904 : UInt64))) = v18) (hv26 : (FP.ddiv (FP.dadd (FP.l2d (v7 - (1 : Int64))) FP.dconst1) (FP.dadd (FP.l2d ((v7 - (1 : Int64)) + ((v6 - v7) - (1 : Int64)))) (4611686018427387904 : UInt64))) = v26) (hv34 : (FP.ddiv (FP.dadd (FP.l2d ((v8 * v3) - (1 : Int64))) FP.dconst1) (FP.dadd (FP.l2d (((v8 * v3) - (1 : Int64)) + ((v8 * (v2 + (1 : Int64))) - (1 : Int64)))) (4611686018427387904 : UInt64))) = v34) (hj43 : (((cmpValue (FP.dcmp (FP.dmul v26 (FP.l2d v6)) (FP.l2d v7)) .l) = (0 : Int32)) ∧ z42 = (1 : Int32)) ∨ ((¬ ((cmpValue (FP.dcmp (FP.dmul v26 (FP.l2d v6)) (FP.l2d v7)) .l) = (0 : Int32))) ∧ z42 = (0 : Int32))) (hv44 : (v3 * v6) = v44) (hv45 : (v7 * v4) = v45) (hj54 : (((cmpValue (FP.dcmp v18 v26) .g) < (0 : Int32)) ∧ z53 = (1 : Int32)) ∨ ((¬ ((cmpValue (FP.dcmp v18 v26) .g) < (0 : Int32))) ∧ z53 = (0 : Int32))) (hj63 : ((v44 < v45) ∧ z62 = (1 : Int32)) ∨ ((¬ (v44 < v45)) ∧ z62 = (0 : Int32))) (hj91 : (∃ (z72 : Int32) (z81 : Int32), (z53 = z62) ∧ ((((cmpValue (FP.dcmp v18 v26) .l) = (0 : Int32)) ∧ z72 = (1 : Int32)) ∨ ((¬ ((cmpValue (FP.dcmp v18 v26) .l) = (0 : Int32))) ∧ z72 = (0 : Int32))) ∧ (((v44 = v45) ∧ z81 = (1 : Int32)) ∨ ((¬ (v44 = v45)) ∧ z81 = (0 : Int32))) ∧ (z72 = z81) ∧ z90 = (1 : Int32)) ∨ (∃ (z72 : Int32) (z81 : Int32), (z53 = z62) ∧ ((((cmpValue (FP.dcmp v18 v26) .l) = (0 : Int32)) ∧ z72 = (1 : Int32)) ∨ ((¬ ((cmpValue (FP.dcmp v18 v26) .l) = (0 : Int32))) ∧ z72 = (0 : Int32))) ∧ (((v44 = v45) ∧ z81 = (1 : Int32)) ∨ ((¬ (v44 = v45)) ∧ z81 = (0 : Int32))) ∧ (¬ (z72 = z81)) ∧ z90 = (0 : Int32)) ∨ ((¬ (z53 = z62)) ∧ z90 = (0 : Int32))) (hj100 : (((cmpValue (FP.dcmp v34 v18) .l) = (0 : Int32)) ∧ z99 = (1 : Int32)) ∨ ((¬ ((cmpValue (FP.dcmp v34 v18) .l) = (0 : Int32))) ∧ z99 = (0 : Int32))) (hj110 : (((cmpValue (FP.dcmp FP.dconst0 v18) .g) < (0 : Int32)) ∧ ((cmpValue (FP.dcmp v18 FP.dconst1) .g) < (0 : Int32)) ∧ z109 = (1 : Int32)) ∨ (((cmpValue (FP.dcmp FP.dconst0 v18) .g) < (0 : Int32)) ∧ (¬ ((cmpValue (FP.dcmp v18 FP.dconst1) .g) < (0 : Int32))) ∧ z109 = (0 : Int32)) ∨ ((¬ ((cmpValue (FP.dcmp FP.dconst0 v18) .g) < (0 : Int32))) ∧ z109 = (0 : Int32))) (c111 : ¬ (z42 = (0 : Int32))) (c112 : ¬ (z90 = (0 : Int32))) (c113 : z99 = (0 : Int32)) : False := by
  obtain ⟨k, hN⟩ := own_nums hv1 hv2 hv3 hv4 hv5 hv6 hv7 hv8
  obtain ⟨-, L1, L2, L3, L4, L5, L6⟩ := own_law hN hv18 hv26 hv34 hv44 hv45
  clear hN hv45 hv44 hv34 hv26 hv18 hv8 hv7 hv6 hv5 hv4 hv3 hv2 hv1
  grind
theorem ob_0_21 (q0 : Int64) (q1 : Int64) (p2 : Int32) (p3 : Int32) (p4 : Int32) (v1 : Int64) (v2 : Int64) (v3 : Int64) (v4 : Int64) (v5 : Int32) (v6 : Int64) (v7 : Int64) (v8 : Int64) (v18 : UInt64) (v26 : UInt64) (v34 : UInt64) (z42 : Int32) (v44 : Int64) (v45 : Int64) (z53 : Int32) (z62 : Int32) (z90 : Int32) (z99 : Int32) (z109 : Int32) (hv1 : (q0 &&& (16777215 : Int64)) = v1) (hv2 : (q1 &&& (16777215 : Int64)) = v2) (hv3 : (v1 + (1 : Int64)) = v3) (hv4 : ((v1 + v2) + (2 : Int64)) = v4) (hv5 : (((p2 &&& (2147483647 : Int32)) % (26 : Int32)) + (1 : Int32)) = v5) (hv6 : ((1 : Int64) <<< (v5 &&& 0x3f).toInt64) = v6) (hv7 : ((1 : Int64) + (((p3 &&& (2147483647 : Int32)).toInt64) % (v6 - (1 : Int64)))) = v7) (hv8 : ((1 : Int64) + ((p4 &&& (1048575 : Int32)).toInt64)) = v8) (hv18 : (FP.ddiv (FP.dadd (FP.l2d v1) FP.dconst1) (FP.dadd (FP.l2d (v1 + v2)) (4611686018427387904 : UInt64))) = v18) (hv26 : (FP.ddiv (FP.dadd (FP.l2d (v7 - (1 : Int64))) FP.dconst1) (FP.dadd (FP.l2d ((v7 - (1 : Int64)) + ((v6 - v7) - (1 : Int64)))) (4611686018427387904 : UInt64))) = v26) (hv34 : (FP.ddiv (FP.dadd (FP.l2d ((v8 * v3) - (1 : Int64))) FP.dconst1) (FP.dadd (FP.l2d (((v8 * v3) - (1 : Int64)) + ((v8 * (v2 + (1 : Int64))) - (1 : Int64)))) (4611686018427387904 : UInt64))) = v34) (hj43 : (((cmpValue (FP.dcmp (FP.dmul v26 (FP.l2d v6)) (FP.l2d v7)) .l) = (0 : Int32)) ∧ z42 = (1 : Int32)) ∨ ((¬ ((cmpValue (FP.dcmp (FP.dmul v26 (FP.l2d v6)) (FP.l2d v7)) .l) = (0 : Int32))) ∧ z42 = (0 : Int32))) (hv44 : (v3 * v6) = v44) (hv45 : (v7 * v4) = v45) (hj54 : (((cmpValue (FP.dcmp v18 v26) .g) < (0 : Int32)) ∧ z53 = (1 : Int32)) ∨ ((¬ ((cmpValue (FP.dcmp v18 v26) .g) < (0 : Int32))) ∧ z53 = (0 : Int32))) (hj63 : ((v44 < v45) ∧ z62 = (1 : Int32)) ∨ ((¬ (v44 < v45)) ∧ z62 = (0 : Int32))) (hj91 : (∃ (z72 : Int32) (z81 : Int32), (z53 = z62) ∧ ((((cmpValue (FP.dcmp v18 v26) .l) = (0 : Int32)) ∧ z72 = (1 : Int32)) ∨ ((¬ ((cmpValue (FP.dcmp v18 v26) .l) = (0 : Int32))) ∧ z72 = (0 : Int32))) ∧ (((v44 = v45) ∧ z81 = (1 : Int32)) ∨ ((¬ (v44 = v45)) ∧ z81 = (0 : Int32))) ∧ (z72 = z81) ∧ z90 = (1 : Int32)) ∨ (∃ (z72 : Int32) (z81 : Int32), (z53 = z62) ∧ ((((cmpValue (FP.dcmp v18 v26) .l) = (0 : Int32)) ∧ z72 = (1 : Int32)) ∨ ((¬ ((cmpValue (FP.dcmp v18 v26) .l) = (0 : Int32))) ∧ z72 = (0 : Int32))) ∧ (((v44 = v45) ∧ z81 = (1 : Int32)) ∨ ((¬ (v44 = v45)) ∧ z81 = (0 : Int32))) ∧ (¬ (z72 = z81)) ∧ z90 = (0 : Int32)) ∨ ((¬ (z53 = z62)) ∧ z90 = (0 : Int32))) (hj100 : (((cmpValue (FP.dcmp v34 v18) .l) = (0 : Int32)) ∧ z99 = (1 : Int32)) ∨ ((¬ ((cmpValue (FP.dcmp v34 v18) .l) = (0 : Int32))) ∧ z99 = (0 : Int32))) (hj110 : (((cmpValue (FP.dcmp FP.dconst0 v18) .g) < (0 : Int32)) ∧ ((cmpValue (FP.dcmp v18 FP.dconst1) .g) < (0 : Int32)) ∧ z109 = (1 : Int32)) ∨ (((cmpValue (FP.dcmp FP.dconst0 v18) .g) < (0 : Int32)) ∧ (¬ ((cmpValue (FP.dcmp v18 FP.dconst1) .g) < (0 : Int32))) ∧ z109 = (0 : Int32)) ∨ ((¬ ((cmpValue (FP.dcmp FP.dconst0 v18) .g) < (0 : Int32))) ∧ z109 = (0 : Int32))) (c111 : ¬ (z42 = (0 : Int32))) (c112 : ¬ (z90 = (0 : Int32))) (c113 : ¬ (z99 = (0 : Int32))) (c114 : z109 = (0 : Int32)) : False := by
  obtain ⟨k, hN⟩ := own_nums hv1 hv2 hv3 hv4 hv5 hv6 hv7 hv8
  obtain ⟨-, L1, L2, L3, L4, L5, L6⟩ := own_law hN hv18 hv26 hv34 hv44 hv45
  clear hN hv45 hv44 hv34 hv26 hv18 hv8 hv7 hv6 hv5 hv4 hv3 hv2 hv1
  grind
def Q0 (Z : State) (q0 : Int64) (q1 : Int64) (p2 : Int32) (p3 : Int32) (p4 : Int32) (h0 : Heap) (n0 : Nat) (v : Option Value) (h : Heap) (L : List Loc) : Prop := v = some (.int (1 : Int32)) ∧ Fr n0 L
set_option maxRecDepth 65536 in
set_option maxHeartbeats 40000000 in
theorem rm0 (l : Launch) (Z : State) (A0 : Array Value) (hw : ∀ d ∈ tables_1, d.before A0 Z = true) (ws : List Jvm.Cond) (q0 : Int64) (q1 : Int64) (p2 : Int32) (p3 : Int32) (p4 : Int32) (h0 : Heap) (n0 : Nat) (Z0 : n0 ≤ h0.size) :
    MetFree l x (head1 (Jvm.Cond.code x code maxLocals ret :: ws) room_1) (fun a U => a = #[(.long q0), (.long q1), (.int p2), (.int p3), (.int p4)] ∧ Z.Warmed39 U.vm ∧ U.heap = h0) (fun _ _ _ _ _ => True) (fun _ U o U' => ∃ v L, o = .returned v ∧ Q0 Z q0 q1 p2 p3 p4 h0 n0 v U'.heap L ∧ FrameEnd U o U' L 16 128) := by
 refine MetFree.of_bodySF (plainFor_of_name pn_0) hisR ?_
 intro p e s m args below meth c s₁ Bd hml0 hP hK
 obtain ⟨rfl, hZ, hh⟩ := hP
 have hwd := fun i {d : Jvm.Cond} (h : tables_1[i]? = some d) => hw d (List.mem_of_getElem? h)
 have hx := Bd.exec
 have hby := Bd.bytes
 have hml : c.maxLocals = 37 := hml0
 have hlk : meth.locks = false := Bd.notSynchronized
 have hown : s.vm.findClass "com/example/credence/credence/core/BetaModelTrustPinLaw" = some m.cls := findClass_of_methodNamed Bd.named
 have hnm := (name_of_methodNamed Bd.named Bd.method).1
 have X0 : Stand p l e room_1 s m #[(.long q0), (.long q1), (.int p2), (.int p3), (.int p4)] below meth c s₁ [] 0 0 := Stand.of_body Bd
 have e0 : s₁.heap = h0 := by rw [← hh, Bd.state]; rfl
 have N0 := Fr.nil n0
 show own_Go p e below (own_Fin s 16 128 (Q0 Z q0 q1 p2 p3 p4 h0 n0)) _
 refine own_by (fun t k => castTop (ef_0 m q0 q1 p2 p3 p4) k) ?_
 show own_Go p e below _ (s₁.setTop (mkF m 0 #[.val (.long q0), .second, .val (.long q1), .second, .val (.int p2), .val (.int p3), .val (.int p4), .unset, .unset, .unset, .unset, .unset, .unset, .unset, .unset, .unset, .unset, .unset, .unset, .unset, .unset, .unset, .unset, .unset, .unset, .unset, .unset, .unset, .unset, .unset, .unset, .unset, .unset, .unset, .unset, .unset, .unset] []))
 refine own_by (fun _ k => XS.lloadN X0.here hx rfl (hb hby at_0) rfl k) ?_
 show own_Go p e below _ (s₁.setTop (mkF m 1 #[.val (.long q0), .second, .val (.long q1), .second, .val (.int p2), .val (.int p3), .val (.int p4), .unset, .unset, .unset, .unset, .unset, .unset, .unset, .unset, .unset, .unset, .unset, .unset, .unset, .unset, .unset, .unset, .unset, .unset, .unset, .unset, .unset, .unset, .unset, .unset, .unset, .unset, .unset, .unset, .unset, .unset] [(.long q0)]))
 refine own_by (fun t k => X0.ldc2Long hx hown (mvT hZ (hwd 0 rfl)) (g := (mkF m 1 #[.val (.long q0), .second, .val (.long q1), .second, .val (.int p2), .val (.int p3), .val (.int p4), .unset, .unset, .unset, .unset, .unset, .unset, .unset, .unset, .unset, .unset, .unset, .unset, .unset, .unset, .unset, .unset, .unset, .unset, .unset, .unset, .unset, .unset, .unset, .unset, .unset, .unset, .unset, .unset, .unset, .unset] [(.long q0)])) rfl (hb hby at_1) _ k) ?_
 show own_Go p e below _ (s₁.setTop (mkF m 4 #[.val (.long q0), .second, .val (.long q1), .second, .val (.int p2), .val (.int p3), .val (.int p4), .unset, .unset, .unset, .unset, .unset, .unset, .unset, .unset, .unset, .unset, .unset, .unset, .unset, .unset, .unset, .unset, .unset, .unset, .unset, .unset, .unset, .unset, .unset, .unset, .unset, .unset, .unset, .unset, .unset, .unset] [(.long (16777215 : Int64)), (.long q0)]))
 refine own_by (fun _ k => XS.land X0.here hx rfl (hb hby at_4) rfl k) ?_
 show own_Go p e below _ (s₁.setTop (mkF m 5 #[.val (.long q0), .second, .val (.long q1), .second, .val (.int p2), .val (.int p3), .val (.int p4), .unset, .unset, .unset, .unset, .unset, .unset, .unset, .unset, .unset, .unset, .unset, .unset, .unset, .unset, .unset, .unset, .unset, .unset, .unset, .unset, .unset, .unset, .unset, .unset, .unset, .unset, .unset, .unset, .unset, .unset] [(.long (q0 &&& (16777215 : Int64)))]))
 refine own_by (fun _ k => XS.lstore X0.here hx rfl (hb hby at_5) rfl (l' := #[.val (.long q0), .second, .val (.long q1), .second, .val (.int p2), .val (.int p3), .val (.int p4), .val (.long (q0 &&& (16777215 : Int64))), .second, .unset, .unset, .unset, .unset, .unset, .unset, .unset, .unset, .unset, .unset, .unset, .unset, .unset, .unset, .unset, .unset, .unset, .unset, .unset, .unset, .unset, .unset, .unset, .unset, .unset, .unset, .unset, .unset]) rfl k) ?_
 show own_Go p e below _ (s₁.setTop (mkF m 7 #[.val (.long q0), .second, .val (.long q1), .second, .val (.int p2), .val (.int p3), .val (.int p4), .val (.long (q0 &&& (16777215 : Int64))), .second, .unset, .unset, .unset, .unset, .unset, .unset, .unset, .unset, .unset, .unset, .unset, .unset, .unset, .unset, .unset, .unset, .unset, .unset, .unset, .unset, .unset, .unset, .unset, .unset, .unset, .unset, .unset, .unset] []))
 generalize hv1 : (q0 &&& (16777215 : Int64)) = v1
 show own_Go p e below _ (s₁.setTop (mkF m 7 #[.val (.long q0), .second, .val (.long q1), .second, .val (.int p2), .val (.int p3), .val (.int p4), .val (.long v1), .second, .unset, .unset, .unset, .unset, .unset, .unset, .unset, .unset, .unset, .unset, .unset, .unset, .unset, .unset, .unset, .unset, .unset, .unset, .unset, .unset, .unset, .unset, .unset, .unset, .unset, .unset, .unset, .unset] []))
 refine own_by (fun _ k => XS.lloadN X0.here hx rfl (hb hby at_7) rfl k) ?_
 show own_Go p e below _ (s₁.setTop (mkF m 8 #[.val (.long q0), .second, .val (.long q1), .second, .val (.int p2), .val (.int p3), .val (.int p4), .val (.long v1), .second, .unset, .unset, .unset, .unset, .unset, .unset, .unset, .unset, .unset, .unset, .unset, .unset, .unset, .unset, .unset, .unset, .unset, .unset, .unset, .unset, .unset, .unset, .unset, .unset, .unset, .unset, .unset, .unset] [(.long q1)]))
 refine own_by (fun t k => X0.ldc2Long hx hown (mvT hZ (hwd 0 rfl)) (g := (mkF m 8 #[.val (.long q0), .second, .val (.long q1), .second, .val (.int p2), .val (.int p3), .val (.int p4), .val (.long v1), .second, .unset, .unset, .unset, .unset, .unset, .unset, .unset, .unset, .unset, .unset, .unset, .unset, .unset, .unset, .unset, .unset, .unset, .unset, .unset, .unset, .unset, .unset, .unset, .unset, .unset, .unset, .unset, .unset] [(.long q1)])) rfl (hb hby at_8) _ k) ?_
 show own_Go p e below _ (s₁.setTop (mkF m 11 #[.val (.long q0), .second, .val (.long q1), .second, .val (.int p2), .val (.int p3), .val (.int p4), .val (.long v1), .second, .unset, .unset, .unset, .unset, .unset, .unset, .unset, .unset, .unset, .unset, .unset, .unset, .unset, .unset, .unset, .unset, .unset, .unset, .unset, .unset, .unset, .unset, .unset, .unset, .unset, .unset, .unset, .unset] [(.long (16777215 : Int64)), (.long q1)]))
 refine own_by (fun _ k => XS.land X0.here hx rfl (hb hby at_11) rfl k) ?_
 show own_Go p e below _ (s₁.setTop (mkF m 12 #[.val (.long q0), .second, .val (.long q1), .second, .val (.int p2), .val (.int p3), .val (.int p4), .val (.long v1), .second, .unset, .unset, .unset, .unset, .unset, .unset, .unset, .unset, .unset, .unset, .unset, .unset, .unset, .unset, .unset, .unset, .unset, .unset, .unset, .unset, .unset, .unset, .unset, .unset, .unset, .unset, .unset, .unset] [(.long (q1 &&& (16777215 : Int64)))]))
 refine own_by (fun _ k => XS.lstore X0.here hx rfl (hb hby at_12) rfl (l' := #[.val (.long q0), .second, .val (.long q1), .second, .val (.int p2), .val (.int p3), .val (.int p4), .val (.long v1), .second, .val (.long (q1 &&& (16777215 : Int64))), .second, .unset, .unset, .unset, .unset, .unset, .unset, .unset, .unset, .unset, .unset, .unset, .unset, .unset, .unset, .unset, .unset, .unset, .unset, .unset, .unset, .unset, .unset, .unset, .unset, .unset, .unset]) rfl k) ?_
 show own_Go p e below _ (s₁.setTop (mkF m 14 #[.val (.long q0), .second, .val (.long q1), .second, .val (.int p2), .val (.int p3), .val (.int p4), .val (.long v1), .second, .val (.long (q1 &&& (16777215 : Int64))), .second, .unset, .unset, .unset, .unset, .unset, .unset, .unset, .unset, .unset, .unset, .unset, .unset, .unset, .unset, .unset, .unset, .unset, .unset, .unset, .unset, .unset, .unset, .unset, .unset, .unset, .unset] []))
 generalize hv2 : (q1 &&& (16777215 : Int64)) = v2
 show own_Go p e below _ (s₁.setTop (mkF m 14 #[.val (.long q0), .second, .val (.long q1), .second, .val (.int p2), .val (.int p3), .val (.int p4), .val (.long v1), .second, .val (.long v2), .second, .unset, .unset, .unset, .unset, .unset, .unset, .unset, .unset, .unset, .unset, .unset, .unset, .unset, .unset, .unset, .unset, .unset, .unset, .unset, .unset, .unset, .unset, .unset, .unset, .unset, .unset] []))
 refine own_by (fun _ k => XS.lload X0.here hx rfl (hb hby at_14) rfl k) ?_
 show own_Go p e below _ (s₁.setTop (mkF m 16 #[.val (.long q0), .second, .val (.long q1), .second, .val (.int p2), .val (.int p3), .val (.int p4), .val (.long v1), .second, .val (.long v2), .second, .unset, .unset, .unset, .unset, .unset, .unset, .unset, .unset, .unset, .unset, .unset, .unset, .unset, .unset, .unset, .unset, .unset, .unset, .unset, .unset, .unset, .unset, .unset, .unset, .unset, .unset] [(.long v1)]))
 refine own_by (fun _ k => XS.lconst X0.here hx rfl (hb hby at_16) k) ?_
 show own_Go p e below _ (s₁.setTop (mkF m 17 #[.val (.long q0), .second, .val (.long q1), .second, .val (.int p2), .val (.int p3), .val (.int p4), .val (.long v1), .second, .val (.long v2), .second, .unset, .unset, .unset, .unset, .unset, .unset, .unset, .unset, .unset, .unset, .unset, .unset, .unset, .unset, .unset, .unset, .unset, .unset, .unset, .unset, .unset, .unset, .unset, .unset, .unset, .unset] [(.long (1 : Int64)), (.long v1)]))
 refine own_by (fun _ k => XS.ladd X0.here hx rfl (hb hby at_17) rfl k) ?_
 show own_Go p e below _ (s₁.setTop (mkF m 18 #[.val (.long q0), .second, .val (.long q1), .second, .val (.int p2), .val (.int p3), .val (.int p4), .val (.long v1), .second, .val (.long v2), .second, .unset, .unset, .unset, .unset, .unset, .unset, .unset, .unset, .unset, .unset, .unset, .unset, .unset, .unset, .unset, .unset, .unset, .unset, .unset, .unset, .unset, .unset, .unset, .unset, .unset, .unset] [(.long (v1 + (1 : Int64)))]))
 refine own_by (fun _ k => XS.lstore X0.here hx rfl (hb hby at_18) rfl (l' := #[.val (.long q0), .second, .val (.long q1), .second, .val (.int p2), .val (.int p3), .val (.int p4), .val (.long v1), .second, .val (.long v2), .second, .val (.long (v1 + (1 : Int64))), .second, .unset, .unset, .unset, .unset, .unset, .unset, .unset, .unset, .unset, .unset, .unset, .unset, .unset, .unset, .unset, .unset, .unset, .unset, .unset, .unset, .unset, .unset, .unset, .unset]) rfl k) ?_
 show own_Go p e below _ (s₁.setTop (mkF m 20 #[.val (.long q0), .second, .val (.long q1), .second, .val (.int p2), .val (.int p3), .val (.int p4), .val (.long v1), .second, .val (.long v2), .second, .val (.long (v1 + (1 : Int64))), .second, .unset, .unset, .unset, .unset, .unset, .unset, .unset, .unset, .unset, .unset, .unset, .unset, .unset, .unset, .unset, .unset, .unset, .unset, .unset, .unset, .unset, .unset, .unset, .unset] []))
 generalize hv3 : (v1 + (1 : Int64)) = v3
 show own_Go p e below _ (s₁.setTop (mkF m 20 #[.val (.long q0), .second, .val (.long q1), .second, .val (.int p2), .val (.int p3), .val (.int p4), .val (.long v1), .second, .val (.long v2), .second, .val (.long v3), .second, .unset, .unset, .unset, .unset, .unset, .unset, .unset, .unset, .unset, .unset, .unset, .unset, .unset, .unset, .unset, .unset, .unset, .unset, .unset, .unset, .unset, .unset, .unset, .unset] []))
 refine own_by (fun _ k => XS.lload X0.here hx rfl (hb hby at_20) rfl k) ?_
 show own_Go p e below _ (s₁.setTop (mkF m 22 #[.val (.long q0), .second, .val (.long q1), .second, .val (.int p2), .val (.int p3), .val (.int p4), .val (.long v1), .second, .val (.long v2), .second, .val (.long v3), .second, .unset, .unset, .unset, .unset, .unset, .unset, .unset, .unset, .unset, .unset, .unset, .unset, .unset, .unset, .unset, .unset, .unset, .unset, .unset, .unset, .unset, .unset, .unset, .unset] [(.long v1)]))
 refine own_by (fun _ k => XS.lload X0.here hx rfl (hb hby at_22) rfl k) ?_
 show own_Go p e below _ (s₁.setTop (mkF m 24 #[.val (.long q0), .second, .val (.long q1), .second, .val (.int p2), .val (.int p3), .val (.int p4), .val (.long v1), .second, .val (.long v2), .second, .val (.long v3), .second, .unset, .unset, .unset, .unset, .unset, .unset, .unset, .unset, .unset, .unset, .unset, .unset, .unset, .unset, .unset, .unset, .unset, .unset, .unset, .unset, .unset, .unset, .unset, .unset] [(.long v2), (.long v1)]))
 refine own_by (fun _ k => XS.ladd X0.here hx rfl (hb hby at_24) rfl k) ?_
 show own_Go p e below _ (s₁.setTop (mkF m 25 #[.val (.long q0), .second, .val (.long q1), .second, .val (.int p2), .val (.int p3), .val (.int p4), .val (.long v1), .second, .val (.long v2), .second, .val (.long v3), .second, .unset, .unset, .unset, .unset, .unset, .unset, .unset, .unset, .unset, .unset, .unset, .unset, .unset, .unset, .unset, .unset, .unset, .unset, .unset, .unset, .unset, .unset, .unset, .unset] [(.long (v1 + v2))]))
 refine own_by (fun t k => X0.ldc2Long hx hown (mvT hZ (hwd 1 rfl)) (g := (mkF m 25 #[.val (.long q0), .second, .val (.long q1), .second, .val (.int p2), .val (.int p3), .val (.int p4), .val (.long v1), .second, .val (.long v2), .second, .val (.long v3), .second, .unset, .unset, .unset, .unset, .unset, .unset, .unset, .unset, .unset, .unset, .unset, .unset, .unset, .unset, .unset, .unset, .unset, .unset, .unset, .unset, .unset, .unset, .unset, .unset] [(.long (v1 + v2))])) rfl (hb hby at_25) _ k) ?_
 show own_Go p e below _ (s₁.setTop (mkF m 28 #[.val (.long q0), .second, .val (.long q1), .second, .val (.int p2), .val (.int p3), .val (.int p4), .val (.long v1), .second, .val (.long v2), .second, .val (.long v3), .second, .unset, .unset, .unset, .unset, .unset, .unset, .unset, .unset, .unset, .unset, .unset, .unset, .unset, .unset, .unset, .unset, .unset, .unset, .unset, .unset, .unset, .unset, .unset, .unset] [(.long (2 : Int64)), (.long (v1 + v2))]))
 refine own_by (fun _ k => XS.ladd X0.here hx rfl (hb hby at_28) rfl k) ?_
 show own_Go p e below _ (s₁.setTop (mkF m 29 #[.val (.long q0), .second, .val (.long q1), .second, .val (.int p2), .val (.int p3), .val (.int p4), .val (.long v1), .second, .val (.long v2), .second, .val (.long v3), .second, .unset, .unset, .unset, .unset, .unset, .unset, .unset, .unset, .unset, .unset, .unset, .unset, .unset, .unset, .unset, .unset, .unset, .unset, .unset, .unset, .unset, .unset, .unset, .unset] [(.long ((v1 + v2) + (2 : Int64)))]))
 refine own_by (fun _ k => XS.lstore X0.here hx rfl (hb hby at_29) rfl (l' := #[.val (.long q0), .second, .val (.long q1), .second, .val (.int p2), .val (.int p3), .val (.int p4), .val (.long v1), .second, .val (.long v2), .second, .val (.long v3), .second, .val (.long ((v1 + v2) + (2 : Int64))), .second, .unset, .unset, .unset, .unset, .unset, .unset, .unset, .unset, .unset, .unset, .unset, .unset, .unset, .unset, .unset, .unset, .unset, .unset, .unset, .unset, .unset, .unset]) rfl k) ?_
 show own_Go p e below _ (s₁.setTop (mkF m 31 #[.val (.long q0), .second, .val (.long q1), .second, .val (.int p2), .val (.int p3), .val (.int p4), .val (.long v1), .second, .val (.long v2), .second, .val (.long v3), .second, .val (.long ((v1 + v2) + (2 : Int64))), .second, .unset, .unset, .unset, .unset, .unset, .unset, .unset, .unset, .unset, .unset, .unset, .unset, .unset, .unset, .unset, .unset, .unset, .unset, .unset, .unset, .unset, .unset] []))
 generalize hv4 : ((v1 + v2) + (2 : Int64)) = v4
 show own_Go p e below _ (s₁.setTop (mkF m 31 #[.val (.long q0), .second, .val (.long q1), .second, .val (.int p2), .val (.int p3), .val (.int p4), .val (.long v1), .second, .val (.long v2), .second, .val (.long v3), .second, .val (.long v4), .second, .unset, .unset, .unset, .unset, .unset, .unset, .unset, .unset, .unset, .unset, .unset, .unset, .unset, .unset, .unset, .unset, .unset, .unset, .unset, .unset, .unset, .unset] []))
 refine own_by (fun _ k => XS.iload X0.here hx rfl (hb hby at_31) rfl k) ?_
 show own_Go p e below _ (s₁.setTop (mkF m 33 #[.val (.long q0), .second, .val (.long q1), .second, .val (.int p2), .val (.int p3), .val (.int p4), .val (.long v1), .second, .val (.long v2), .second, .val (.long v3), .second, .val (.long v4), .second, .unset, .unset, .unset, .unset, .unset, .unset, .unset, .unset, .unset, .unset, .unset, .unset, .unset, .unset, .unset, .unset, .unset, .unset, .unset, .unset, .unset, .unset] [(.int p2)]))
 refine own_by (fun t k => X0.ldcInt hx hown (mvT hZ (hwd 2 rfl)) (g := (mkF m 33 #[.val (.long q0), .second, .val (.long q1), .second, .val (.int p2), .val (.int p3), .val (.int p4), .val (.long v1), .second, .val (.long v2), .second, .val (.long v3), .second, .val (.long v4), .second, .unset, .unset, .unset, .unset, .unset, .unset, .unset, .unset, .unset, .unset, .unset, .unset, .unset, .unset, .unset, .unset, .unset, .unset, .unset, .unset, .unset, .unset] [(.int p2)])) rfl (hb hby at_33) _ k) ?_
 show own_Go p e below _ (s₁.setTop (mkF m 35 #[.val (.long q0), .second, .val (.long q1), .second, .val (.int p2), .val (.int p3), .val (.int p4), .val (.long v1), .second, .val (.long v2), .second, .val (.long v3), .second, .val (.long v4), .second, .unset, .unset, .unset, .unset, .unset, .unset, .unset, .unset, .unset, .unset, .unset, .unset, .unset, .unset, .unset, .unset, .unset, .unset, .unset, .unset, .unset, .unset] [(.int (2147483647 : Int32)), (.int p2)]))
 refine own_by (fun _ k => XS.iand X0.here hx rfl (hb hby at_35) rfl k) ?_
 show own_Go p e below _ (s₁.setTop (mkF m 36 #[.val (.long q0), .second, .val (.long q1), .second, .val (.int p2), .val (.int p3), .val (.int p4), .val (.long v1), .second, .val (.long v2), .second, .val (.long v3), .second, .val (.long v4), .second, .unset, .unset, .unset, .unset, .unset, .unset, .unset, .unset, .unset, .unset, .unset, .unset, .unset, .unset, .unset, .unset, .unset, .unset, .unset, .unset, .unset, .unset] [(.int (p2 &&& (2147483647 : Int32)))]))
 refine own_by (fun _ k => XS.bipush X0.here hx rfl (hb hby at_36) k) ?_
 show own_Go p e below _ (s₁.setTop (mkF m 38 #[.val (.long q0), .second, .val (.long q1), .second, .val (.int p2), .val (.int p3), .val (.int p4), .val (.long v1), .second, .val (.long v2), .second, .val (.long v3), .second, .val (.long v4), .second, .unset, .unset, .unset, .unset, .unset, .unset, .unset, .unset, .unset, .unset, .unset, .unset, .unset, .unset, .unset, .unset, .unset, .unset, .unset, .unset, .unset, .unset] [(.int (26 : Int32)), (.int (p2 &&& (2147483647 : Int32)))]))
 refine own_by (fun _ k => iremM X0 hx rfl (hb hby at_38) rfl (by decide) k) ?_
 show own_Go p e below _ (s₁.setTop (mkF m 39 #[.val (.long q0), .second, .val (.long q1), .second, .val (.int p2), .val (.int p3), .val (.int p4), .val (.long v1), .second, .val (.long v2), .second, .val (.long v3), .second, .val (.long v4), .second, .unset, .unset, .unset, .unset, .unset, .unset, .unset, .unset, .unset, .unset, .unset, .unset, .unset, .unset, .unset, .unset, .unset, .unset, .unset, .unset, .unset, .unset] [(.int ((p2 &&& (2147483647 : Int32)) % (26 : Int32)))]))
 refine own_by (fun _ k => XS.iconst X0.here hx rfl (hb hby at_39) k) ?_
 show own_Go p e below _ (s₁.setTop (mkF m 40 #[.val (.long q0), .second, .val (.long q1), .second, .val (.int p2), .val (.int p3), .val (.int p4), .val (.long v1), .second, .val (.long v2), .second, .val (.long v3), .second, .val (.long v4), .second, .unset, .unset, .unset, .unset, .unset, .unset, .unset, .unset, .unset, .unset, .unset, .unset, .unset, .unset, .unset, .unset, .unset, .unset, .unset, .unset, .unset, .unset] [(.int (1 : Int32)), (.int ((p2 &&& (2147483647 : Int32)) % (26 : Int32)))]))
 refine own_by (fun _ k => XS.iadd X0.here hx rfl (hb hby at_40) rfl k) ?_
 show own_Go p e below _ (s₁.setTop (mkF m 41 #[.val (.long q0), .second, .val (.long q1), .second, .val (.int p2), .val (.int p3), .val (.int p4), .val (.long v1), .second, .val (.long v2), .second, .val (.long v3), .second, .val (.long v4), .second, .unset, .unset, .unset, .unset, .unset, .unset, .unset, .unset, .unset, .unset, .unset, .unset, .unset, .unset, .unset, .unset, .unset, .unset, .unset, .unset, .unset, .unset] [(.int (((p2 &&& (2147483647 : Int32)) % (26 : Int32)) + (1 : Int32)))]))
 refine own_by (fun _ k => XS.istore X0.here hx rfl (hb hby at_41) rfl (l' := #[.val (.long q0), .second, .val (.long q1), .second, .val (.int p2), .val (.int p3), .val (.int p4), .val (.long v1), .second, .val (.long v2), .second, .val (.long v3), .second, .val (.long v4), .second, .val (.int (((p2 &&& (2147483647 : Int32)) % (26 : Int32)) + (1 : Int32))), .unset, .unset, .unset, .unset, .unset, .unset, .unset, .unset, .unset, .unset, .unset, .unset, .unset, .unset, .unset, .unset, .unset, .unset, .unset, .unset, .unset]) rfl k) ?_
 show own_Go p e below _ (s₁.setTop (mkF m 43 #[.val (.long q0), .second, .val (.long q1), .second, .val (.int p2), .val (.int p3), .val (.int p4), .val (.long v1), .second, .val (.long v2), .second, .val (.long v3), .second, .val (.long v4), .second, .val (.int (((p2 &&& (2147483647 : Int32)) % (26 : Int32)) + (1 : Int32))), .unset, .unset, .unset, .unset, .unset, .unset, .unset, .unset, .unset, .unset, .unset, .unset, .unset, .unset, .unset, .unset, .unset, .unset, .unset, .unset, .unset] []))
 generalize hv5 : (((p2 &&& (2147483647 : Int32)) % (26 : Int32)) + (1 : Int32)) = v5
 show own_Go p e below _ (s₁.setTop (mkF m 43 #[.val (.long q0), .second, .val (.long q1), .second, .val (.int p2), .val (.int p3), .val (.int p4), .val (.long v1), .second, .val (.long v2), .second, .val (.long v3), .second, .val (.long v4), .second, .val (.int v5), .unset, .unset, .unset, .unset, .unset, .unset, .unset, .unset, .unset, .unset, .unset, .unset, .unset, .unset, .unset, .unset, .unset, .unset, .unset, .unset, .unset] []))
 refine own_by (fun _ k => XS.lconst X0.here hx rfl (hb hby at_43) k) ?_
 show own_Go p e below _ (s₁.setTop (mkF m 44 #[.val (.long q0), .second, .val (.long q1), .second, .val (.int p2), .val (.int p3), .val (.int p4), .val (.long v1), .second, .val (.long v2), .second, .val (.long v3), .second, .val (.long v4), .second, .val (.int v5), .unset, .unset, .unset, .unset, .unset, .unset, .unset, .unset, .unset, .unset, .unset, .unset, .unset, .unset, .unset, .unset, .unset, .unset, .unset, .unset, .unset] [(.long (1 : Int64))]))
 refine own_by (fun _ k => XS.iload X0.here hx rfl (hb hby at_44) rfl k) ?_
 show own_Go p e below _ (s₁.setTop (mkF m 46 #[.val (.long q0), .second, .val (.long q1), .second, .val (.int p2), .val (.int p3), .val (.int p4), .val (.long v1), .second, .val (.long v2), .second, .val (.long v3), .second, .val (.long v4), .second, .val (.int v5), .unset, .unset, .unset, .unset, .unset, .unset, .unset, .unset, .unset, .unset, .unset, .unset, .unset, .unset, .unset, .unset, .unset, .unset, .unset, .unset, .unset] [(.int v5), (.long (1 : Int64))]))
 refine own_by (fun _ k => XS.lshl X0.here hx rfl (hb hby at_46) rfl k) ?_
 show own_Go p e below _ (s₁.setTop (mkF m 47 #[.val (.long q0), .second, .val (.long q1), .second, .val (.int p2), .val (.int p3), .val (.int p4), .val (.long v1), .second, .val (.long v2), .second, .val (.long v3), .second, .val (.long v4), .second, .val (.int v5), .unset, .unset, .unset, .unset, .unset, .unset, .unset, .unset, .unset, .unset, .unset, .unset, .unset, .unset, .unset, .unset, .unset, .unset, .unset, .unset, .unset] [(.long ((1 : Int64) <<< (v5 &&& 0x3f).toInt64))]))
 refine own_by (fun _ k => XS.lstore X0.here hx rfl (hb hby at_47) rfl (l' := #[.val (.long q0), .second, .val (.long q1), .second, .val (.int p2), .val (.int p3), .val (.int p4), .val (.long v1), .second, .val (.long v2), .second, .val (.long v3), .second, .val (.long v4), .second, .val (.int v5), .val (.long ((1 : Int64) <<< (v5 &&& 0x3f).toInt64)), .second, .unset, .unset, .unset, .unset, .unset, .unset, .unset, .unset, .unset, .unset, .unset, .unset, .unset, .unset, .unset, .unset, .unset, .unset, .unset]) rfl k) ?_
 show own_Go p e below _ (s₁.setTop (mkF m 49 #[.val (.long q0), .second, .val (.long q1), .second, .val (.int p2), .val (.int p3), .val (.int p4), .val (.long v1), .second, .val (.long v2), .second, .val (.long v3), .second, .val (.long v4), .second, .val (.int v5), .val (.long ((1 : Int64) <<< (v5 &&& 0x3f).toInt64)), .second, .unset, .unset, .unset, .unset, .unset, .unset, .unset, .unset, .unset, .unset, .unset, .unset, .unset, .unset, .unset, .unset, .unset, .unset, .unset] []))
 generalize hv6 : ((1 : Int64) <<< (v5 &&& 0x3f).toInt64) = v6
 show own_Go p e below _ (s₁.setTop (mkF m 49 #[.val (.long q0), .second, .val (.long q1), .second, .val (.int p2), .val (.int p3), .val (.int p4), .val (.long v1), .second, .val (.long v2), .second, .val (.long v3), .second, .val (.long v4), .second, .val (.int v5), .val (.long v6), .second, .unset, .unset, .unset, .unset, .unset, .unset, .unset, .unset, .unset, .unset, .unset, .unset, .unset, .unset, .unset, .unset, .unset, .unset, .unset] []))
 refine own_by (fun _ k => XS.lconst X0.here hx rfl (hb hby at_49) k) ?_
 show own_Go p e below _ (s₁.setTop (mkF m 50 #[.val (.long q0), .second, .val (.long q1), .second, .val (.int p2), .val (.int p3), .val (.int p4), .val (.long v1), .second, .val (.long v2), .second, .val (.long v3), .second, .val (.long v4), .second, .val (.int v5), .val (.long v6), .second, .unset, .unset, .unset, .unset, .unset, .unset, .unset, .unset, .unset, .unset, .unset, .unset, .unset, .unset, .unset, .unset, .unset, .unset, .unset] [(.long (1 : Int64))]))
 refine own_by (fun _ k => XS.iload X0.here hx rfl (hb hby at_50) rfl k) ?_
 show own_Go p e below _ (s₁.setTop (mkF m 52 #[.val (.long q0), .second, .val (.long q1), .second, .val (.int p2), .val (.int p3), .val (.int p4), .val (.long v1), .second, .val (.long v2), .second, .val (.long v3), .second, .val (.long v4), .second, .val (.int v5), .val (.long v6), .second, .unset, .unset, .unset, .unset, .unset, .unset, .unset, .unset, .unset, .unset, .unset, .unset, .unset, .unset, .unset, .unset, .unset, .unset, .unset] [(.int p3), (.long (1 : Int64))]))
 refine own_by (fun t k => X0.ldcInt hx hown (mvT hZ (hwd 2 rfl)) (g := (mkF m 52 #[.val (.long q0), .second, .val (.long q1), .second, .val (.int p2), .val (.int p3), .val (.int p4), .val (.long v1), .second, .val (.long v2), .second, .val (.long v3), .second, .val (.long v4), .second, .val (.int v5), .val (.long v6), .second, .unset, .unset, .unset, .unset, .unset, .unset, .unset, .unset, .unset, .unset, .unset, .unset, .unset, .unset, .unset, .unset, .unset, .unset, .unset] [(.int p3), (.long (1 : Int64))])) rfl (hb hby at_52) _ k) ?_
 show own_Go p e below _ (s₁.setTop (mkF m 54 #[.val (.long q0), .second, .val (.long q1), .second, .val (.int p2), .val (.int p3), .val (.int p4), .val (.long v1), .second, .val (.long v2), .second, .val (.long v3), .second, .val (.long v4), .second, .val (.int v5), .val (.long v6), .second, .unset, .unset, .unset, .unset, .unset, .unset, .unset, .unset, .unset, .unset, .unset, .unset, .unset, .unset, .unset, .unset, .unset, .unset, .unset] [(.int (2147483647 : Int32)), (.int p3), (.long (1 : Int64))]))
 refine own_by (fun _ k => XS.iand X0.here hx rfl (hb hby at_54) rfl k) ?_
 show own_Go p e below _ (s₁.setTop (mkF m 55 #[.val (.long q0), .second, .val (.long q1), .second, .val (.int p2), .val (.int p3), .val (.int p4), .val (.long v1), .second, .val (.long v2), .second, .val (.long v3), .second, .val (.long v4), .second, .val (.int v5), .val (.long v6), .second, .unset, .unset, .unset, .unset, .unset, .unset, .unset, .unset, .unset, .unset, .unset, .unset, .unset, .unset, .unset, .unset, .unset, .unset, .unset] [(.int (p3 &&& (2147483647 : Int32))), (.long (1 : Int64))]))
 refine own_by (fun _ k => XS.i2l X0.here hx rfl (hb hby at_55) rfl k) ?_
 show own_Go p e below _ (s₁.setTop (mkF m 56 #[.val (.long q0), .second, .val (.long q1), .second, .val (.int p2), .val (.int p3), .val (.int p4), .val (.long v1), .second, .val (.long v2), .second, .val (.long v3), .second, .val (.long v4), .second, .val (.int v5), .val (.long v6), .second, .unset, .unset, .unset, .unset, .unset, .unset, .unset, .unset, .unset, .unset, .unset, .unset, .unset, .unset, .unset, .unset, .unset, .unset, .unset] [(.long ((p3 &&& (2147483647 : Int32)).toInt64)), (.long (1 : Int64))]))
 refine own_by (fun _ k => XS.lload X0.here hx rfl (hb hby at_56) rfl k) ?_
 show own_Go p e below _ (s₁.setTop (mkF m 58 #[.val (.long q0), .second, .val (.long q1), .second, .val (.int p2), .val (.int p3), .val (.int p4), .val (.long v1), .second, .val (.long v2), .second, .val (.long v3), .second, .val (.long v4), .second, .val (.int v5), .val (.long v6), .second, .unset, .unset, .unset, .unset, .unset, .unset, .unset, .unset, .unset, .unset, .unset, .unset, .unset, .unset, .unset, .unset, .unset, .unset, .unset] [(.long v6), (.long ((p3 &&& (2147483647 : Int32)).toInt64)), (.long (1 : Int64))]))
 refine own_by (fun _ k => XS.lconst X0.here hx rfl (hb hby at_58) k) ?_
 show own_Go p e below _ (s₁.setTop (mkF m 59 #[.val (.long q0), .second, .val (.long q1), .second, .val (.int p2), .val (.int p3), .val (.int p4), .val (.long v1), .second, .val (.long v2), .second, .val (.long v3), .second, .val (.long v4), .second, .val (.int v5), .val (.long v6), .second, .unset, .unset, .unset, .unset, .unset, .unset, .unset, .unset, .unset, .unset, .unset, .unset, .unset, .unset, .unset, .unset, .unset, .unset, .unset] [(.long (1 : Int64)), (.long v6), (.long ((p3 &&& (2147483647 : Int32)).toInt64)), (.long (1 : Int64))]))
 refine own_by (fun _ k => XS.lsub X0.here hx rfl (hb hby at_59) rfl k) ?_
 show own_Go p e below _ (s₁.setTop (mkF m 60 #[.val (.long q0), .second, .val (.long q1), .second, .val (.int p2), .val (.int p3), .val (.int p4), .val (.long v1), .second, .val (.long v2), .second, .val (.long v3), .second, .val (.long v4), .second, .val (.int v5), .val (.long v6), .second, .unset, .unset, .unset, .unset, .unset, .unset, .unset, .unset, .unset, .unset, .unset, .unset, .unset, .unset, .unset, .unset, .unset, .unset, .unset] [(.long (v6 - (1 : Int64))), (.long ((p3 &&& (2147483647 : Int32)).toInt64)), (.long (1 : Int64))]))
 refine own_by (fun _ k => own_lrem X0.here hx rfl (hb hby at_60) rfl (ob_0_1 q0 q1 p2 v1 v2 v3 v4 v5 v6 hv1 hv2 hv3 hv4 hv5 hv6) k) ?_
 show own_Go p e below _ (s₁.setTop (mkF m 61 #[.val (.long q0), .second, .val (.long q1), .second, .val (.int p2), .val (.int p3), .val (.int p4), .val (.long v1), .second, .val (.long v2), .second, .val (.long v3), .second, .val (.long v4), .second, .val (.int v5), .val (.long v6), .second, .unset, .unset, .unset, .unset, .unset, .unset, .unset, .unset, .unset, .unset, .unset, .unset, .unset, .unset, .unset, .unset, .unset, .unset, .unset] [(.long (((p3 &&& (2147483647 : Int32)).toInt64) % (v6 - (1 : Int64)))), (.long (1 : Int64))]))
 refine own_by (fun _ k => XS.ladd X0.here hx rfl (hb hby at_61) rfl k) ?_
 show own_Go p e below _ (s₁.setTop (mkF m 62 #[.val (.long q0), .second, .val (.long q1), .second, .val (.int p2), .val (.int p3), .val (.int p4), .val (.long v1), .second, .val (.long v2), .second, .val (.long v3), .second, .val (.long v4), .second, .val (.int v5), .val (.long v6), .second, .unset, .unset, .unset, .unset, .unset, .unset, .unset, .unset, .unset, .unset, .unset, .unset, .unset, .unset, .unset, .unset, .unset, .unset, .unset] [(.long ((1 : Int64) + (((p3 &&& (2147483647 : Int32)).toInt64) % (v6 - (1 : Int64)))))]))
 refine own_by (fun _ k => XS.lstore X0.here hx rfl (hb hby at_62) rfl (l' := #[.val (.long q0), .second, .val (.long q1), .second, .val (.int p2), .val (.int p3), .val (.int p4), .val (.long v1), .second, .val (.long v2), .second, .val (.long v3), .second, .val (.long v4), .second, .val (.int v5), .val (.long v6), .second, .val (.long ((1 : Int64) + (((p3 &&& (2147483647 : Int32)).toInt64) % (v6 - (1 : Int64))))), .second, .unset, .unset, .unset, .unset, .unset, .unset, .unset, .unset, .unset, .unset, .unset, .unset, .unset, .unset, .unset, .unset, .unset]) rfl k) ?_
 show own_Go p e below _ (s₁.setTop (mkF m 64 #[.val (.long q0), .second, .val (.long q1), .second, .val (.int p2), .val (.int p3), .val (.int p4), .val (.long v1), .second, .val (.long v2), .second, .val (.long v3), .second, .val (.long v4), .second, .val (.int v5), .val (.long v6), .second, .val (.long ((1 : Int64) + (((p3 &&& (2147483647 : Int32)).toInt64) % (v6 - (1 : Int64))))), .second, .unset, .unset, .unset, .unset, .unset, .unset, .unset, .unset, .unset, .unset, .unset, .unset, .unset, .unset, .unset, .unset, .unset] []))
 generalize hv7 : ((1 : Int64) + (((p3 &&& (2147483647 : Int32)).toInt64) % (v6 - (1 : Int64)))) = v7
 show own_Go p e below _ (s₁.setTop (mkF m 64 #[.val (.long q0), .second, .val (.long q1), .second, .val (.int p2), .val (.int p3), .val (.int p4), .val (.long v1), .second, .val (.long v2), .second, .val (.long v3), .second, .val (.long v4), .second, .val (.int v5), .val (.long v6), .second, .val (.long v7), .second, .unset, .unset, .unset, .unset, .unset, .unset, .unset, .unset, .unset, .unset, .unset, .unset, .unset, .unset, .unset, .unset, .unset] []))
 refine own_by (fun _ k => XS.lconst X0.here hx rfl (hb hby at_64) k) ?_
 show own_Go p e below _ (s₁.setTop (mkF m 65 #[.val (.long q0), .second, .val (.long q1), .second, .val (.int p2), .val (.int p3), .val (.int p4), .val (.long v1), .second, .val (.long v2), .second, .val (.long v3), .second, .val (.long v4), .second, .val (.int v5), .val (.long v6), .second, .val (.long v7), .second, .unset, .unset, .unset, .unset, .unset, .unset, .unset, .unset, .unset, .unset, .unset, .unset, .unset, .unset, .unset, .unset, .unset] [(.long (1 : Int64))]))
 refine own_by (fun _ k => XS.iload X0.here hx rfl (hb hby at_65) rfl k) ?_
 show own_Go p e below _ (s₁.setTop (mkF m 67 #[.val (.long q0), .second, .val (.long q1), .second, .val (.int p2), .val (.int p3), .val (.int p4), .val (.long v1), .second, .val (.long v2), .second, .val (.long v3), .second, .val (.long v4), .second, .val (.int v5), .val (.long v6), .second, .val (.long v7), .second, .unset, .unset, .unset, .unset, .unset, .unset, .unset, .unset, .unset, .unset, .unset, .unset, .unset, .unset, .unset, .unset, .unset] [(.int p4), (.long (1 : Int64))]))
 refine own_by (fun t k => X0.ldcInt hx hown (mvT hZ (hwd 3 rfl)) (g := (mkF m 67 #[.val (.long q0), .second, .val (.long q1), .second, .val (.int p2), .val (.int p3), .val (.int p4), .val (.long v1), .second, .val (.long v2), .second, .val (.long v3), .second, .val (.long v4), .second, .val (.int v5), .val (.long v6), .second, .val (.long v7), .second, .unset, .unset, .unset, .unset, .unset, .unset, .unset, .unset, .unset, .unset, .unset, .unset, .unset, .unset, .unset, .unset, .unset] [(.int p4), (.long (1 : Int64))])) rfl (hb hby at_67) _ k) ?_
 show own_Go p e below _ (s₁.setTop (mkF m 69 #[.val (.long q0), .second, .val (.long q1), .second, .val (.int p2), .val (.int p3), .val (.int p4), .val (.long v1), .second, .val (.long v2), .second, .val (.long v3), .second, .val (.long v4), .second, .val (.int v5), .val (.long v6), .second, .val (.long v7), .second, .unset, .unset, .unset, .unset, .unset, .unset, .unset, .unset, .unset, .unset, .unset, .unset, .unset, .unset, .unset, .unset, .unset] [(.int (1048575 : Int32)), (.int p4), (.long (1 : Int64))]))
 refine own_by (fun _ k => XS.iand X0.here hx rfl (hb hby at_69) rfl k) ?_
 show own_Go p e below _ (s₁.setTop (mkF m 70 #[.val (.long q0), .second, .val (.long q1), .second, .val (.int p2), .val (.int p3), .val (.int p4), .val (.long v1), .second, .val (.long v2), .second, .val (.long v3), .second, .val (.long v4), .second, .val (.int v5), .val (.long v6), .second, .val (.long v7), .second, .unset, .unset, .unset, .unset, .unset, .unset, .unset, .unset, .unset, .unset, .unset, .unset, .unset, .unset, .unset, .unset, .unset] [(.int (p4 &&& (1048575 : Int32))), (.long (1 : Int64))]))
 refine own_by (fun _ k => XS.i2l X0.here hx rfl (hb hby at_70) rfl k) ?_
 show own_Go p e below _ (s₁.setTop (mkF m 71 #[.val (.long q0), .second, .val (.long q1), .second, .val (.int p2), .val (.int p3), .val (.int p4), .val (.long v1), .second, .val (.long v2), .second, .val (.long v3), .second, .val (.long v4), .second, .val (.int v5), .val (.long v6), .second, .val (.long v7), .second, .unset, .unset, .unset, .unset, .unset, .unset, .unset, .unset, .unset, .unset, .unset, .unset, .unset, .unset, .unset, .unset, .unset] [(.long ((p4 &&& (1048575 : Int32)).toInt64)), (.long (1 : Int64))]))
 refine own_by (fun _ k => XS.ladd X0.here hx rfl (hb hby at_71) rfl k) ?_
 show own_Go p e below _ (s₁.setTop (mkF m 72 #[.val (.long q0), .second, .val (.long q1), .second, .val (.int p2), .val (.int p3), .val (.int p4), .val (.long v1), .second, .val (.long v2), .second, .val (.long v3), .second, .val (.long v4), .second, .val (.int v5), .val (.long v6), .second, .val (.long v7), .second, .unset, .unset, .unset, .unset, .unset, .unset, .unset, .unset, .unset, .unset, .unset, .unset, .unset, .unset, .unset, .unset, .unset] [(.long ((1 : Int64) + ((p4 &&& (1048575 : Int32)).toInt64)))]))
 refine own_by (fun _ k => XS.lstore X0.here hx rfl (hb hby at_72) rfl (l' := #[.val (.long q0), .second, .val (.long q1), .second, .val (.int p2), .val (.int p3), .val (.int p4), .val (.long v1), .second, .val (.long v2), .second, .val (.long v3), .second, .val (.long v4), .second, .val (.int v5), .val (.long v6), .second, .val (.long v7), .second, .val (.long ((1 : Int64) + ((p4 &&& (1048575 : Int32)).toInt64))), .second, .unset, .unset, .unset, .unset, .unset, .unset, .unset, .unset, .unset, .unset, .unset, .unset, .unset, .unset, .unset]) rfl k) ?_
 show own_Go p e below _ (s₁.setTop (mkF m 74 #[.val (.long q0), .second, .val (.long q1), .second, .val (.int p2), .val (.int p3), .val (.int p4), .val (.long v1), .second, .val (.long v2), .second, .val (.long v3), .second, .val (.long v4), .second, .val (.int v5), .val (.long v6), .second, .val (.long v7), .second, .val (.long ((1 : Int64) + ((p4 &&& (1048575 : Int32)).toInt64))), .second, .unset, .unset, .unset, .unset, .unset, .unset, .unset, .unset, .unset, .unset, .unset, .unset, .unset, .unset, .unset] []))
 generalize hv8 : ((1 : Int64) + ((p4 &&& (1048575 : Int32)).toInt64)) = v8
 show own_Go p e below _ (s₁.setTop (mkF m 74 #[.val (.long q0), .second, .val (.long q1), .second, .val (.int p2), .val (.int p3), .val (.int p4), .val (.long v1), .second, .val (.long v2), .second, .val (.long v3), .second, .val (.long v4), .second, .val (.int v5), .val (.long v6), .second, .val (.long v7), .second, .val (.long v8), .second, .unset, .unset, .unset, .unset, .unset, .unset, .unset, .unset, .unset, .unset, .unset, .unset, .unset, .unset, .unset] []))
 obtain ⟨T9, h9, X9, e9, E9, A9, D9, -, st9⟩ := newO X0 hx hZ hown (hwd 4 rfl) (hwd 5 rfl) (hwd 6 rfl) e0 (g := (mkF m 74 #[.val (.long q0), .second, .val (.long q1), .second, .val (.int p2), .val (.int p3), .val (.int p4), .val (.long v1), .second, .val (.long v2), .second, .val (.long v3), .second, .val (.long v4), .second, .val (.int v5), .val (.long v6), .second, .val (.long v7), .second, .val (.long v8), .second, .unset, .unset, .unset, .unset, .unset, .unset, .unset, .unset, .unset, .unset, .unset, .unset, .unset, .unset, .unset] [])) rfl (hb hby at_74) (by decide) (by decide)
 obtain ⟨b9, g9⟩ : ∃ z, z = h0.size := ⟨_, rfl⟩
 have ge_b9 : n0 ≤ b9 := Nat.le_trans Z0 (Nat.le_of_eq g9.symm)
 have sz_b9 : h0.size ≤ b9 := Nat.le_trans (Keep.refl h0 []).1 (Nat.le_of_eq g9.symm)
 have K9 : Keep h0 h9 [] := (Keep.refl h0 []).ext E9
 have Z9 : n0 ≤ h9.size := Nat.le_trans Z0 E9.1
 rw [← g9] at A9 D9 st9
 refine own_by st9 ?_
 show own_Go p e below _ (T9.setTop (mkF m 77 #[.val (.long q0), .second, .val (.long q1), .second, .val (.int p2), .val (.int p3), .val (.int p4), .val (.long v1), .second, .val (.long v2), .second, .val (.long v3), .second, .val (.long v4), .second, .val (.int v5), .val (.long v6), .second, .val (.long v7), .second, .val (.long v8), .second, .unset, .unset, .unset, .unset, .unset, .unset, .unset, .unset, .unset, .unset, .unset, .unset, .unset, .unset, .unset] [(.ref b9)]))
 refine own_by (fun _ k => XS.dup X9.here hx rfl (hb hby at_77) rfl rfl k) ?_
 show own_Go p e below _ (T9.setTop (mkF m 78 #[.val (.long q0), .second, .val (.long q1), .second, .val (.int p2), .val (.int p3), .val (.int p4), .val (.long v1), .second, .val (.long v2), .second, .val (.long v3), .second, .val (.long v4), .second, .val (.int v5), .val (.long v6), .second, .val (.long v7), .second, .val (.long v8), .second, .unset, .unset, .unset, .unset, .unset, .unset, .unset, .unset, .unset, .unset, .unset, .unset, .unset, .unset, .unset] [(.ref b9), (.ref b9)]))
 obtain ⟨_, _, ⟨T10, L10, k10, n10⟩, -, X10, ⟨Lc10, hQ10, l10, y10, z10⟩, st10⟩ := X9.specialBack hx (y := (⟨"com/example/credence/credence/core/BetaModel", "<init>", "()V"⟩ : MethodName)) rfl hown (mvT hZ (hwd 7 rfl)) (mvT hZ (hwd 8 rfl)) (mvT hZ (hwd 9 rfl)) (by decide) (backOf (W := 1) (rm1 l Z A0 hw [] b9 h9 n0 Z9 ) hZ (hwd 9 rfl) (hwd 6 rfl) (by decide) (by decide)) (g := (mkF m 78 #[.val (.long q0), .second, .val (.long q1), .second, .val (.int p2), .val (.int p3), .val (.int p4), .val (.long v1), .second, .val (.long v2), .second, .val (.long v3), .second, .val (.long v4), .second, .val (.int v5), .val (.long v6), .second, .val (.long v7), .second, .val (.long v8), .second, .unset, .unset, .unset, .unset, .unset, .unset, .unset, .unset, .unset, .unset, .unset, .unset, .unset, .unset, .unset] [(.ref b9), (.ref b9)])) rfl (by rw [hml]; rfl) (Steps.refl _) (a := b9) (argsL := []) (rest := [(.ref b9)]) (lenOf pd_7 rfl) rfl (by show 2 * 0 + _ ≤ _; exact Nat.le_of_eq rfl) (hb hby at_78) (fun _ _ => ⟨rfl, e9, (by decide : 1 + 0 ≤ _), (by decide : 0 + 0 ≤ _)⟩)
 dsimp only [Pt.U, Pt.locs, Pt.cells, Pt.slots] at X10 l10 y10 z10 st10 hQ10
 subst l10 y10 z10
 obtain ⟨rfl, Nq10, eq10⟩ := hQ10
 have N10 := Fr.app N0 Nq10
 refine own_by (fun _ k => st10.trans k) ?_
 show own_Go p e below _ (T10.setTop (mkF m 81 #[.val (.long q0), .second, .val (.long q1), .second, .val (.int p2), .val (.int p3), .val (.int p4), .val (.long v1), .second, .val (.long v2), .second, .val (.long v3), .second, .val (.long v4), .second, .val (.int v5), .val (.long v6), .second, .val (.long v7), .second, .val (.long v8), .second, .unset, .unset, .unset, .unset, .unset, .unset, .unset, .unset, .unset, .unset, .unset, .unset, .unset, .unset, .unset] [(.ref b9)]))
 refine own_by (fun _ k => XS.astore X10.here hx rfl (hb hby at_81) rfl rfl (l' := #[.val (.long q0), .second, .val (.long q1), .second, .val (.int p2), .val (.int p3), .val (.int p4), .val (.long v1), .second, .val (.long v2), .second, .val (.long v3), .second, .val (.long v4), .second, .val (.int v5), .val (.long v6), .second, .val (.long v7), .second, .val (.long v8), .second, .val (.ref b9), .unset, .unset, .unset, .unset, .unset, .unset, .unset, .unset, .unset, .unset, .unset, .unset, .unset, .unset]) rfl k) ?_
 show own_Go p e below _ (T10.setTop (mkF m 83 #[.val (.long q0), .second, .val (.long q1), .second, .val (.int p2), .val (.int p3), .val (.int p4), .val (.long v1), .second, .val (.long v2), .second, .val (.long v3), .second, .val (.long v4), .second, .val (.int v5), .val (.long v6), .second, .val (.long v7), .second, .val (.long v8), .second, .val (.ref b9), .unset, .unset, .unset, .unset, .unset, .unset, .unset, .unset, .unset, .unset, .unset, .unset, .unset, .unset] []))
 refine own_by (fun _ k => XS.aload X10.here hx rfl (hb hby at_83) rfl rfl k) ?_
 show own_Go p e below _ (T10.setTop (mkF m 85 #[.val (.long q0), .second, .val (.long q1), .second, .val (.int p2), .val (.int p3), .val (.int p4), .val (.long v1), .second, .val (.long v2), .second, .val (.long v3), .second, .val (.long v4), .second, .val (.int v5), .val (.long v6), .second, .val (.long v7), .second, .val (.long v8), .second, .val (.ref b9), .unset, .unset, .unset, .unset, .unset, .unset, .unset, .unset, .unset, .unset, .unset, .unset, .unset, .unset] [(.ref b9)]))
 obtain ⟨T11, h11, X11, e11, E11, A11, D11, -, st11⟩ := newO X10 hx hZ hown (hwd 13 rfl) (hwd 14 rfl) (hwd 15 rfl) eq10 (g := (mkF m 85 #[.val (.long q0), .second, .val (.long q1), .second, .val (.int p2), .val (.int p3), .val (.int p4), .val (.long v1), .second, .val (.long v2), .second, .val (.long v3), .second, .val (.long v4), .second, .val (.int v5), .val (.long v6), .second, .val (.long v7), .second, .val (.long v8), .second, .val (.ref b9), .unset, .unset, .unset, .unset, .unset, .unset, .unset, .unset, .unset, .unset, .unset, .unset, .unset, .unset] [(.ref b9)])) rfl (hb hby at_85) (by decide) (by decide)
 obtain ⟨b11, g11⟩ : ∃ z, z = h9.size := ⟨_, rfl⟩
 have ge_b11 : n0 ≤ b11 := Nat.le_trans Z9 (Nat.le_of_eq g11.symm)
 have sz_b11 : h0.size ≤ b11 := Nat.le_trans K9.1 (Nat.le_of_eq g11.symm)
 have K11 : Keep h0 h11 [] := K9.ext E11
 have Z11 : n0 ≤ h11.size := Nat.le_trans Z9 E11.1
 rw [← g11] at A11 D11 st11
 have F_successes_b11 : Fld Z h11 b11 "com/example/credence/credence/core/Evidence" "successes" "J" (.long (0 : Int64)) := D11 (Or.inr (hwd 26 rfl)) (ty := .long) (by decide)
 have F_failures_b11 : Fld Z h11 b11 "com/example/credence/credence/core/Evidence" "failures" "J" (.long (0 : Int64)) := D11 (Or.inr (hwd 28 rfl)) (ty := .long) (by decide)
 refine own_by st11 ?_
 show own_Go p e below _ (T11.setTop (mkF m 88 #[.val (.long q0), .second, .val (.long q1), .second, .val (.int p2), .val (.int p3), .val (.int p4), .val (.long v1), .second, .val (.long v2), .second, .val (.long v3), .second, .val (.long v4), .second, .val (.int v5), .val (.long v6), .second, .val (.long v7), .second, .val (.long v8), .second, .val (.ref b9), .unset, .unset, .unset, .unset, .unset, .unset, .unset, .unset, .unset, .unset, .unset, .unset, .unset, .unset] [(.ref b11), (.ref b9)]))
 refine own_by (fun _ k => XS.dup X11.here hx rfl (hb hby at_88) rfl rfl k) ?_
 show own_Go p e below _ (T11.setTop (mkF m 89 #[.val (.long q0), .second, .val (.long q1), .second, .val (.int p2), .val (.int p3), .val (.int p4), .val (.long v1), .second, .val (.long v2), .second, .val (.long v3), .second, .val (.long v4), .second, .val (.int v5), .val (.long v6), .second, .val (.long v7), .second, .val (.long v8), .second, .val (.ref b9), .unset, .unset, .unset, .unset, .unset, .unset, .unset, .unset, .unset, .unset, .unset, .unset, .unset, .unset] [(.ref b11), (.ref b11), (.ref b9)]))
 refine own_by (fun _ k => XS.lload X11.here hx rfl (hb hby at_89) rfl k) ?_
 show own_Go p e below _ (T11.setTop (mkF m 91 #[.val (.long q0), .second, .val (.long q1), .second, .val (.int p2), .val (.int p3), .val (.int p4), .val (.long v1), .second, .val (.long v2), .second, .val (.long v3), .second, .val (.long v4), .second, .val (.int v5), .val (.long v6), .second, .val (.long v7), .second, .val (.long v8), .second, .val (.ref b9), .unset, .unset, .unset, .unset, .unset, .unset, .unset, .unset, .unset, .unset, .unset, .unset, .unset, .unset] [(.long v1), (.ref b11), (.ref b11), (.ref b9)]))
 refine own_by (fun _ k => XS.lload X11.here hx rfl (hb hby at_91) rfl k) ?_
 show own_Go p e below _ (T11.setTop (mkF m 93 #[.val (.long q0), .second, .val (.long q1), .second, .val (.int p2), .val (.int p3), .val (.int p4), .val (.long v1), .second, .val (.long v2), .second, .val (.long v3), .second, .val (.long v4), .second, .val (.int v5), .val (.long v6), .second, .val (.long v7), .second, .val (.long v8), .second, .val (.ref b9), .unset, .unset, .unset, .unset, .unset, .unset, .unset, .unset, .unset, .unset, .unset, .unset, .unset, .unset] [(.long v2), (.long v1), (.ref b11), (.ref b11), (.ref b9)]))
 obtain ⟨_, _, ⟨T12, L12, k12, n12⟩, -, X12, ⟨Lc12, hQ12, l12, y12, z12⟩, st12⟩ := X11.specialBack hx (y := (⟨"com/example/credence/credence/core/Evidence", "<init>", "(JJ)V"⟩ : MethodName)) rfl hown (mvT hZ (hwd 16 rfl)) (mvT hZ (hwd 17 rfl)) (mvT hZ (hwd 18 rfl)) (by decide) (backOf (W := 2) (rm3 l Z A0 hw [] b11 v1 v2 (0 : Int64) (0 : Int64) h11 n0 Z11 (ob_0_2 q0 q1 p2 p3 p4 v1 v2 v3 v4 v5 v6 v7 v8 hv1 hv2 hv3 hv4 hv5 hv6 hv7 hv8) (ob_0_3 q0 q1 p2 p3 p4 v1 v2 v3 v4 v5 v6 v7 v8 hv1 hv2 hv3 hv4 hv5 hv6 hv7 hv8) A11 F_successes_b11 ge_b11 F_failures_b11) hZ (hwd 18 rfl) (hwd 15 rfl) (by decide) (by decide)) (g := (mkF m 93 #[.val (.long q0), .second, .val (.long q1), .second, .val (.int p2), .val (.int p3), .val (.int p4), .val (.long v1), .second, .val (.long v2), .second, .val (.long v3), .second, .val (.long v4), .second, .val (.int v5), .val (.long v6), .second, .val (.long v7), .second, .val (.long v8), .second, .val (.ref b9), .unset, .unset, .unset, .unset, .unset, .unset, .unset, .unset, .unset, .unset, .unset, .unset, .unset, .unset] [(.long v2), (.long v1), (.ref b11), (.ref b11), (.ref b9)])) rfl (by rw [hml]; rfl) (Steps.refl _) (a := b11) (argsL := [(.long v1), (.long v2)]) (rest := [(.ref b11), (.ref b9)]) (lenOf pd_16 rfl) rfl (by show 2 * 0 + _ ≤ _; exact Nat.le_of_eq rfl) (hb hby at_93) (fun _ _ => ⟨rfl, e11, (by decide : 2 + 0 ≤ _), (by decide : 2 + 0 ≤ _)⟩)
 dsimp only [Pt.U, Pt.locs, Pt.cells, Pt.slots] at X12 l12 y12 z12 st12 hQ12
 subst l12 y12 z12
 obtain ⟨rfl, Nq12, Kq12, F13, F14, F15⟩ := hQ12
 have N12 := Fr.app N10 Nq12
 have K12 : Keep h0 T12.heap [] := K11.trans Kq12 ((allS (Or.inr sz_b11) all0))
 have Z12 : n0 ≤ T12.heap.size := Nat.le_trans Z11 Kq12.1
 refine own_by (fun _ k => st12.trans k) ?_
 show own_Go p e below _ (T12.setTop (mkF m 96 #[.val (.long q0), .second, .val (.long q1), .second, .val (.int p2), .val (.int p3), .val (.int p4), .val (.long v1), .second, .val (.long v2), .second, .val (.long v3), .second, .val (.long v4), .second, .val (.int v5), .val (.long v6), .second, .val (.long v7), .second, .val (.long v8), .second, .val (.ref b9), .unset, .unset, .unset, .unset, .unset, .unset, .unset, .unset, .unset, .unset, .unset, .unset, .unset, .unset] [(.ref b11), (.ref b9)]))
 have F17 : Exa Z T12.heap b9 "com/example/credence/credence/core/BetaModel" := ((A9.ext E11).keep Kq12)
 obtain ⟨cq16, kq16, qq16a, qq16b, qq16c⟩ := isOf hZ rfl F17
 obtain ⟨_, _, ⟨T16, L16, k16, n16⟩, -, X16, ⟨Lc16, hQ16, l16, y16, z16⟩, st16⟩ := X12.virtualBack hx (y := (⟨"com/example/credence/credence/core/BetaModel", "trust", "(Lcom/example/credence/credence/core/Evidence;)D"⟩ : MethodName)) (z := (⟨"com/example/credence/credence/core/BetaModel", "trust", "(Lcom/example/credence/credence/core/Evidence;)D"⟩ : MethodName)) hown (mvT hZ (hwd 29 rfl)) (mvT hZ (hwd 30 rfl)) (notFace_of_selects (args := #[]) (mvT hZ (hwd 32 rfl))) (mvT hZ (hwd 32 rfl)) (mvT hZ (hwd 31 rfl)) (by decide) (backOf (W := 0) (rm5 l Z A0 hw [] b9 b11 v1 v2 T12.heap n0 Z12 F14 F13 (ob_0_4 q0 q1 p2 p3 p4 v1 v2 v3 v4 v5 v6 v7 v8 hv1 hv2 hv3 hv4 hv5 hv6 hv7 hv8) F15 (ob_0_5 q0 q1 p2 p3 p4 v1 v2 v3 v4 v5 v6 v7 v8 hv1 hv2 hv3 hv4 hv5 hv6 hv7 hv8) (ob_0_6 q0 q1 p2 p3 p4 v1 v2 v3 v4 v5 v6 v7 v8 hv1 hv2 hv3 hv4 hv5 hv6 hv7 hv8)) hZ (hwd 33 rfl) (hwd 6 rfl) (by decide) (by decide)) qq16a qq16c (g := (mkF m 96 #[.val (.long q0), .second, .val (.long q1), .second, .val (.int p2), .val (.int p3), .val (.int p4), .val (.long v1), .second, .val (.long v2), .second, .val (.long v3), .second, .val (.long v4), .second, .val (.int v5), .val (.long v6), .second, .val (.long v7), .second, .val (.long v8), .second, .val (.ref b9), .unset, .unset, .unset, .unset, .unset, .unset, .unset, .unset, .unset, .unset, .unset, .unset, .unset, .unset] [(.ref b11), (.ref b9)])) rfl (by rw [hml]; rfl) (Steps.refl _) (argsL := [(.ref b11)]) (rest := []) (lenOf pd_29 rfl) rfl (by show 2 * 0 + _ ≤ _; exact Nat.le_of_eq rfl) (hb hby at_96) (fun _ _ => ⟨rfl, rfl, (by decide : 2 + 0 ≤ _), (by decide : 2 + 0 ≤ _)⟩)
 dsimp only [Pt.U, Pt.locs, Pt.cells, Pt.slots] at X16 l16 y16 z16 st16 hQ16
 subst l16 y16 z16
 obtain ⟨rfl, Nq16, eq16⟩ := hQ16
 have N16 := Fr.app N12 Nq16
 refine own_by (fun _ k => st16.trans k) ?_
 show own_Go p e below _ (T16.setTop (mkF m 99 #[.val (.long q0), .second, .val (.long q1), .second, .val (.int p2), .val (.int p3), .val (.int p4), .val (.long v1), .second, .val (.long v2), .second, .val (.long v3), .second, .val (.long v4), .second, .val (.int v5), .val (.long v6), .second, .val (.long v7), .second, .val (.long v8), .second, .val (.ref b9), .unset, .unset, .unset, .unset, .unset, .unset, .unset, .unset, .unset, .unset, .unset, .unset, .unset, .unset] [(.double (FP.ddiv (FP.dadd (FP.l2d v1) FP.dconst1) (FP.dadd (FP.l2d (v1 + v2)) (4611686018427387904 : UInt64))))]))
 refine own_by (fun _ k => XS.dstore X16.here hx rfl (hb hby at_99) rfl (l' := #[.val (.long q0), .second, .val (.long q1), .second, .val (.int p2), .val (.int p3), .val (.int p4), .val (.long v1), .second, .val (.long v2), .second, .val (.long v3), .second, .val (.long v4), .second, .val (.int v5), .val (.long v6), .second, .val (.long v7), .second, .val (.long v8), .second, .val (.ref b9), .val (.double (FP.ddiv (FP.dadd (FP.l2d v1) FP.dconst1) (FP.dadd (FP.l2d (v1 + v2)) (4611686018427387904 : UInt64)))), .second, .unset, .unset, .unset, .unset, .unset, .unset, .unset, .unset, .unset, .unset, .unset, .unset]) rfl k) ?_
 show own_Go p e below _ (T16.setTop (mkF m 101 #[.val (.long q0), .second, .val (.long q1), .second, .val (.int p2), .val (.int p3), .val (.int p4), .val (.long v1), .second, .val (.long v2), .second, .val (.long v3), .second, .val (.long v4), .second, .val (.int v5), .val (.long v6), .second, .val (.long v7), .second, .val (.long v8), .second, .val (.ref b9), .val (.double (FP.ddiv (FP.dadd (FP.l2d v1) FP.dconst1) (FP.dadd (FP.l2d (v1 + v2)) (4611686018427387904 : UInt64)))), .second, .unset, .unset, .unset, .unset, .unset, .unset, .unset, .unset, .unset, .unset, .unset, .unset] []))
 generalize hv18 : (FP.ddiv (FP.dadd (FP.l2d v1) FP.dconst1) (FP.dadd (FP.l2d (v1 + v2)) (4611686018427387904 : UInt64))) = v18
 show own_Go p e below _ (T16.setTop (mkF m 101 #[.val (.long q0), .second, .val (.long q1), .second, .val (.int p2), .val (.int p3), .val (.int p4), .val (.long v1), .second, .val (.long v2), .second, .val (.long v3), .second, .val (.long v4), .second, .val (.int v5), .val (.long v6), .second, .val (.long v7), .second, .val (.long v8), .second, .val (.ref b9), .val (.double v18), .second, .unset, .unset, .unset, .unset, .unset, .unset, .unset, .unset, .unset, .unset, .unset, .unset] []))
 refine own_by (fun _ k => XS.aload X16.here hx rfl (hb hby at_101) rfl rfl k) ?_
 show own_Go p e below _ (T16.setTop (mkF m 103 #[.val (.long q0), .second, .val (.long q1), .second, .val (.int p2), .val (.int p3), .val (.int p4), .val (.long v1), .second, .val (.long v2), .second, .val (.long v3), .second, .val (.long v4), .second, .val (.int v5), .val (.long v6), .second, .val (.long v7), .second, .val (.long v8), .second, .val (.ref b9), .val (.double v18), .second, .unset, .unset, .unset, .unset, .unset, .unset, .unset, .unset, .unset, .unset, .unset, .unset] [(.ref b9)]))
 obtain ⟨T19, h19, X19, e19, E19, A19, D19, -, st19⟩ := newO X16 hx hZ hown (hwd 13 rfl) (hwd 14 rfl) (hwd 15 rfl) eq16 (g := (mkF m 103 #[.val (.long q0), .second, .val (.long q1), .second, .val (.int p2), .val (.int p3), .val (.int p4), .val (.long v1), .second, .val (.long v2), .second, .val (.long v3), .second, .val (.long v4), .second, .val (.int v5), .val (.long v6), .second, .val (.long v7), .second, .val (.long v8), .second, .val (.ref b9), .val (.double v18), .second, .unset, .unset, .unset, .unset, .unset, .unset, .unset, .unset, .unset, .unset, .unset, .unset] [(.ref b9)])) rfl (hb hby at_103) (by decide) (by decide)
 obtain ⟨b19, g19⟩ : ∃ z, z = T12.heap.size := ⟨_, rfl⟩
 have ge_b19 : n0 ≤ b19 := Nat.le_trans Z12 (Nat.le_of_eq g19.symm)
 have sz_b19 : h0.size ≤ b19 := Nat.le_trans K12.1 (Nat.le_of_eq g19.symm)
 have K19 : Keep h0 h19 [] := K12.ext E19
 have Z19 : n0 ≤ h19.size := Nat.le_trans Z12 E19.1
 rw [← g19] at A19 D19 st19
 have F_successes_b19 : Fld Z h19 b19 "com/example/credence/credence/core/Evidence" "successes" "J" (.long (0 : Int64)) := D19 (Or.inr (hwd 26 rfl)) (ty := .long) (by decide)
 have F_failures_b19 : Fld Z h19 b19 "com/example/credence/credence/core/Evidence" "failures" "J" (.long (0 : Int64)) := D19 (Or.inr (hwd 28 rfl)) (ty := .long) (by decide)
 refine own_by st19 ?_
 show own_Go p e below _ (T19.setTop (mkF m 106 #[.val (.long q0), .second, .val (.long q1), .second, .val (.int p2), .val (.int p3), .val (.int p4), .val (.long v1), .second, .val (.long v2), .second, .val (.long v3), .second, .val (.long v4), .second, .val (.int v5), .val (.long v6), .second, .val (.long v7), .second, .val (.long v8), .second, .val (.ref b9), .val (.double v18), .second, .unset, .unset, .unset, .unset, .unset, .unset, .unset, .unset, .unset, .unset, .unset, .unset] [(.ref b19), (.ref b9)]))
 refine own_by (fun _ k => XS.dup X19.here hx rfl (hb hby at_106) rfl rfl k) ?_
 show own_Go p e below _ (T19.setTop (mkF m 107 #[.val (.long q0), .second, .val (.long q1), .second, .val (.int p2), .val (.int p3), .val (.int p4), .val (.long v1), .second, .val (.long v2), .second, .val (.long v3), .second, .val (.long v4), .second, .val (.int v5), .val (.long v6), .second, .val (.long v7), .second, .val (.long v8), .second, .val (.ref b9), .val (.double v18), .second, .unset, .unset, .unset, .unset, .unset, .unset, .unset, .unset, .unset, .unset, .unset, .unset] [(.ref b19), (.ref b19), (.ref b9)]))
 refine own_by (fun _ k => XS.lload X19.here hx rfl (hb hby at_107) rfl k) ?_
 show own_Go p e below _ (T19.setTop (mkF m 109 #[.val (.long q0), .second, .val (.long q1), .second, .val (.int p2), .val (.int p3), .val (.int p4), .val (.long v1), .second, .val (.long v2), .second, .val (.long v3), .second, .val (.long v4), .second, .val (.int v5), .val (.long v6), .second, .val (.long v7), .second, .val (.long v8), .second, .val (.ref b9), .val (.double v18), .second, .unset, .unset, .unset, .unset, .unset, .unset, .unset, .unset, .unset, .unset, .unset, .unset] [(.long v7), (.ref b19), (.ref b19), (.ref b9)]))
 refine own_by (fun _ k => XS.lconst X19.here hx rfl (hb hby at_109) k) ?_
 show own_Go p e below _ (T19.setTop (mkF m 110 #[.val (.long q0), .second, .val (.long q1), .second, .val (.int p2), .val (.int p3), .val (.int p4), .val (.long v1), .second, .val (.long v2), .second, .val (.long v3), .second, .val (.long v4), .second, .val (.int v5), .val (.long v6), .second, .val (.long v7), .second, .val (.long v8), .second, .val (.ref b9), .val (.double v18), .second, .unset, .unset, .unset, .unset, .unset, .unset, .unset, .unset, .unset, .unset, .unset, .unset] [(.long (1 : Int64)), (.long v7), (.ref b19), (.ref b19), (.ref b9)]))
 refine own_by (fun _ k => XS.lsub X19.here hx rfl (hb hby at_110) rfl k) ?_
 show own_Go p e below _ (T19.setTop (mkF m 111 #[.val (.long q0), .second, .val (.long q1), .second, .val (.int p2), .val (.int p3), .val (.int p4), .val (.long v1), .second, .val (.long v2), .second, .val (.long v3), .second, .val (.long v4), .second, .val (.int v5), .val (.long v6), .second, .val (.long v7), .second, .val (.long v8), .second, .val (.ref b9), .val (.double v18), .second, .unset, .unset, .unset, .unset, .unset, .unset, .unset, .unset, .unset, .unset, .unset, .unset] [(.long (v7 - (1 : Int64))), (.ref b19), (.ref b19), (.ref b9)]))
 refine own_by (fun _ k => XS.lload X19.here hx rfl (hb hby at_111) rfl k) ?_
 show own_Go p e below _ (T19.setTop (mkF m 113 #[.val (.long q0), .second, .val (.long q1), .second, .val (.int p2), .val (.int p3), .val (.int p4), .val (.long v1), .second, .val (.long v2), .second, .val (.long v3), .second, .val (.long v4), .second, .val (.int v5), .val (.long v6), .second, .val (.long v7), .second, .val (.long v8), .second, .val (.ref b9), .val (.double v18), .second, .unset, .unset, .unset, .unset, .unset, .unset, .unset, .unset, .unset, .unset, .unset, .unset] [(.long v6), (.long (v7 - (1 : Int64))), (.ref b19), (.ref b19), (.ref b9)]))
 refine own_by (fun _ k => XS.lload X19.here hx rfl (hb hby at_113) rfl k) ?_
 show own_Go p e below _ (T19.setTop (mkF m 115 #[.val (.long q0), .second, .val (.long q1), .second, .val (.int p2), .val (.int p3), .val (.int p4), .val (.long v1), .second, .val (.long v2), .second, .val (.long v3), .second, .val (.long v4), .second, .val (.int v5), .val (.long v6), .second, .val (.long v7), .second, .val (.long v8), .second, .val (.ref b9), .val (.double v18), .second, .unset, .unset, .unset, .unset, .unset, .unset, .unset, .unset, .unset, .unset, .unset, .unset] [(.long v7), (.long v6), (.long (v7 - (1 : Int64))), (.ref b19), (.ref b19), (.ref b9)]))
 refine own_by (fun _ k => XS.lsub X19.here hx rfl (hb hby at_115) rfl k) ?_
 show own_Go p e below _ (T19.setTop (mkF m 116 #[.val (.long q0), .second, .val (.long q1), .second, .val (.int p2), .val (.int p3), .val (.int p4), .val (.long v1), .second, .val (.long v2), .second, .val (.long v3), .second, .val (.long v4), .second, .val (.int v5), .val (.long v6), .second, .val (.long v7), .second, .val (.long v8), .second, .val (.ref b9), .val (.double v18), .second, .unset, .unset, .unset, .unset, .unset, .unset, .unset, .unset, .unset, .unset, .unset, .unset] [(.long (v6 - v7)), (.long (v7 - (1 : Int64))), (.ref b19), (.ref b19), (.ref b9)]))
 refine own_by (fun _ k => XS.lconst X19.here hx rfl (hb hby at_116) k) ?_
 show own_Go p e below _ (T19.setTop (mkF m 117 #[.val (.long q0), .second, .val (.long q1), .second, .val (.int p2), .val (.int p3), .val (.int p4), .val (.long v1), .second, .val (.long v2), .second, .val (.long v3), .second, .val (.long v4), .second, .val (.int v5), .val (.long v6), .second, .val (.long v7), .second, .val (.long v8), .second, .val (.ref b9), .val (.double v18), .second, .unset, .unset, .unset, .unset, .unset, .unset, .unset, .unset, .unset, .unset, .unset, .unset] [(.long (1 : Int64)), (.long (v6 - v7)), (.long (v7 - (1 : Int64))), (.ref b19), (.ref b19), (.ref b9)]))
 refine own_by (fun _ k => XS.lsub X19.here hx rfl (hb hby at_117) rfl k) ?_
 show own_Go p e below _ (T19.setTop (mkF m 118 #[.val (.long q0), .second, .val (.long q1), .second, .val (.int p2), .val (.int p3), .val (.int p4), .val (.long v1), .second, .val (.long v2), .second, .val (.long v3), .second, .val (.long v4), .second, .val (.int v5), .val (.long v6), .second, .val (.long v7), .second, .val (.long v8), .second, .val (.ref b9), .val (.double v18), .second, .unset, .unset, .unset, .unset, .unset, .unset, .unset, .unset, .unset, .unset, .unset, .unset] [(.long ((v6 - v7) - (1 : Int64))), (.long (v7 - (1 : Int64))), (.ref b19), (.ref b19), (.ref b9)]))
 obtain ⟨_, _, ⟨T20, L20, k20, n20⟩, -, X20, ⟨Lc20, hQ20, l20, y20, z20⟩, st20⟩ := X19.specialBack hx (y := (⟨"com/example/credence/credence/core/Evidence", "<init>", "(JJ)V"⟩ : MethodName)) rfl hown (mvT hZ (hwd 16 rfl)) (mvT hZ (hwd 17 rfl)) (mvT hZ (hwd 18 rfl)) (by decide) (backOf (W := 2) (rm3 l Z A0 hw [] b19 (v7 - (1 : Int64)) ((v6 - v7) - (1 : Int64)) (0 : Int64) (0 : Int64) h19 n0 Z19 (ob_0_7 q0 q1 p2 p3 p4 v1 v2 v3 v4 v5 v6 v7 v8 v18 hv1 hv2 hv3 hv4 hv5 hv6 hv7 hv8 hv18) (ob_0_8 q0 q1 p2 p3 p4 v1 v2 v3 v4 v5 v6 v7 v8 v18 hv1 hv2 hv3 hv4 hv5 hv6 hv7 hv8 hv18) A19 F_successes_b19 ge_b19 F_failures_b19) hZ (hwd 18 rfl) (hwd 15 rfl) (by decide) (by decide)) (g := (mkF m 118 #[.val (.long q0), .second, .val (.long q1), .second, .val (.int p2), .val (.int p3), .val (.int p4), .val (.long v1), .second, .val (.long v2), .second, .val (.long v3), .second, .val (.long v4), .second, .val (.int v5), .val (.long v6), .second, .val (.long v7), .second, .val (.long v8), .second, .val (.ref b9), .val (.double v18), .second, .unset, .unset, .unset, .unset, .unset, .unset, .unset, .unset, .unset, .unset, .unset, .unset] [(.long ((v6 - v7) - (1 : Int64))), (.long (v7 - (1 : Int64))), (.ref b19), (.ref b19), (.ref b9)])) rfl (by rw [hml]; rfl) (Steps.refl _) (a := b19) (argsL := [(.long (v7 - (1 : Int64))), (.long ((v6 - v7) - (1 : Int64)))]) (rest := [(.ref b19), (.ref b9)]) (lenOf pd_16 rfl) rfl (by show 2 * 0 + _ ≤ _; exact Nat.le_of_eq rfl) (hb hby at_118) (fun _ _ => ⟨rfl, e19, (by decide : 3 + 0 ≤ _), (by decide : 4 + 0 ≤ _)⟩)
 dsimp only [Pt.U, Pt.locs, Pt.cells, Pt.slots] at X20 l20 y20 z20 st20 hQ20
 subst l20 y20 z20
 obtain ⟨rfl, Nq20, Kq20, F21, F22, F23⟩ := hQ20
 have N20 := Fr.app N16 Nq20
 have K20 : Keep h0 T20.heap [] := K19.trans Kq20 ((allS (Or.inr sz_b19) all0))
 have Z20 : n0 ≤ T20.heap.size := Nat.le_trans Z19 Kq20.1
 refine own_by (fun _ k => st20.trans k) ?_
 show own_Go p e below _ (T20.setTop (mkF m 121 #[.val (.long q0), .second, .val (.long q1), .second, .val (.int p2), .val (.int p3), .val (.int p4), .val (.long v1), .second, .val (.long v2), .second, .val (.long v3), .second, .val (.long v4), .second, .val (.int v5), .val (.long v6), .second, .val (.long v7), .second, .val (.long v8), .second, .val (.ref b9), .val (.double v18), .second, .unset, .unset, .unset, .unset, .unset, .unset, .unset, .unset, .unset, .unset, .unset, .unset] [(.ref b19), (.ref b9)]))
 have F25 : Exa Z T20.heap b9 "com/example/credence/credence/core/BetaModel" := ((F17.ext E19).keep Kq20)
 obtain ⟨cq24, kq24, qq24a, qq24b, qq24c⟩ := isOf hZ rfl F25
 obtain ⟨_, _, ⟨T24, L24, k24, n24⟩, -, X24, ⟨Lc24, hQ24, l24, y24, z24⟩, st24⟩ := X20.virtualBack hx (y := (⟨"com/example/credence/credence/core/BetaModel", "trust", "(Lcom/example/credence/credence/core/Evidence;)D"⟩ : MethodName)) (z := (⟨"com/example/credence/credence/core/BetaModel", "trust", "(Lcom/example/credence/credence/core/Evidence;)D"⟩ : MethodName)) hown (mvT hZ (hwd 29 rfl)) (mvT hZ (hwd 30 rfl)) (notFace_of_selects (args := #[]) (mvT hZ (hwd 32 rfl))) (mvT hZ (hwd 32 rfl)) (mvT hZ (hwd 31 rfl)) (by decide) (backOf (W := 0) (rm5 l Z A0 hw [] b9 b19 (v7 - (1 : Int64)) ((v6 - v7) - (1 : Int64)) T20.heap n0 Z20 F22 F21 (ob_0_9 q0 q1 p2 p3 p4 v1 v2 v3 v4 v5 v6 v7 v8 v18 hv1 hv2 hv3 hv4 hv5 hv6 hv7 hv8 hv18) F23 (ob_0_10 q0 q1 p2 p3 p4 v1 v2 v3 v4 v5 v6 v7 v8 v18 hv1 hv2 hv3 hv4 hv5 hv6 hv7 hv8 hv18) (ob_0_11 q0 q1 p2 p3 p4 v1 v2 v3 v4 v5 v6 v7 v8 v18 hv1 hv2 hv3 hv4 hv5 hv6 hv7 hv8 hv18)) hZ (hwd 33 rfl) (hwd 6 rfl) (by decide) (by decide)) qq24a qq24c (g := (mkF m 121 #[.val (.long q0), .second, .val (.long q1), .second, .val (.int p2), .val (.int p3), .val (.int p4), .val (.long v1), .second, .val (.long v2), .second, .val (.long v3), .second, .val (.long v4), .second, .val (.int v5), .val (.long v6), .second, .val (.long v7), .second, .val (.long v8), .second, .val (.ref b9), .val (.double v18), .second, .unset, .unset, .unset, .unset, .unset, .unset, .unset, .unset, .unset, .unset, .unset, .unset] [(.ref b19), (.ref b9)])) rfl (by rw [hml]; rfl) (Steps.refl _) (argsL := [(.ref b19)]) (rest := []) (lenOf pd_29 rfl) rfl (by show 2 * 0 + _ ≤ _; exact Nat.le_of_eq rfl) (hb hby at_121) (fun _ _ => ⟨rfl, rfl, (by decide : 3 + 0 ≤ _), (by decide : 4 + 0 ≤ _)⟩)
 dsimp only [Pt.U, Pt.locs, Pt.cells, Pt.slots] at X24 l24 y24 z24 st24 hQ24
 subst l24 y24 z24
 obtain ⟨rfl, Nq24, eq24⟩ := hQ24
 have N24 := Fr.app N20 Nq24
 refine own_by (fun _ k => st24.trans k) ?_
 show own_Go p e below _ (T24.setTop (mkF m 124 #[.val (.long q0), .second, .val (.long q1), .second, .val (.int p2), .val (.int p3), .val (.int p4), .val (.long v1), .second, .val (.long v2), .second, .val (.long v3), .second, .val (.long v4), .second, .val (.int v5), .val (.long v6), .second, .val (.long v7), .second, .val (.long v8), .second, .val (.ref b9), .val (.double v18), .second, .unset, .unset, .unset, .unset, .unset, .unset, .unset, .unset, .unset, .unset, .unset, .unset] [(.double (FP.ddiv (FP.dadd (FP.l2d (v7 - (1 : Int64))) FP.dconst1) (FP.dadd (FP.l2d ((v7 - (1 : Int64)) + ((v6 - v7) - (1 : Int64)))) (4611686018427387904 : UInt64))))]))
 refine own_by (fun _ k => XS.dstore X24.here hx rfl (hb hby at_124) rfl (l' := #[.val (.long q0), .second, .val (.long q1), .second, .val (.int p2), .val (.int p3), .val (.int p4), .val (.long v1), .second, .val (.long v2), .second, .val (.long v3), .second, .val (.long v4), .second, .val (.int v5), .val (.long v6), .second, .val (.long v7), .second, .val (.long v8), .second, .val (.ref b9), .val (.double v18), .second, .val (.double (FP.ddiv (FP.dadd (FP.l2d (v7 - (1 : Int64))) FP.dconst1) (FP.dadd (FP.l2d ((v7 - (1 : Int64)) + ((v6 - v7) - (1 : Int64)))) (4611686018427387904 : UInt64)))), .second, .unset, .unset, .unset, .unset, .unset, .unset, .unset, .unset, .unset, .unset]) rfl k) ?_
 show own_Go p e below _ (T24.setTop (mkF m 126 #[.val (.long q0), .second, .val (.long q1), .second, .val (.int p2), .val (.int p3), .val (.int p4), .val (.long v1), .second, .val (.long v2), .second, .val (.long v3), .second, .val (.long v4), .second, .val (.int v5), .val (.long v6), .second, .val (.long v7), .second, .val (.long v8), .second, .val (.ref b9), .val (.double v18), .second, .val (.double (FP.ddiv (FP.dadd (FP.l2d (v7 - (1 : Int64))) FP.dconst1) (FP.dadd (FP.l2d ((v7 - (1 : Int64)) + ((v6 - v7) - (1 : Int64)))) (4611686018427387904 : UInt64)))), .second, .unset, .unset, .unset, .unset, .unset, .unset, .unset, .unset, .unset, .unset] []))
 generalize hv26 : (FP.ddiv (FP.dadd (FP.l2d (v7 - (1 : Int64))) FP.dconst1) (FP.dadd (FP.l2d ((v7 - (1 : Int64)) + ((v6 - v7) - (1 : Int64)))) (4611686018427387904 : UInt64))) = v26
 show own_Go p e below _ (T24.setTop (mkF m 126 #[.val (.long q0), .second, .val (.long q1), .second, .val (.int p2), .val (.int p3), .val (.int p4), .val (.long v1), .second, .val (.long v2), .second, .val (.long v3), .second, .val (.long v4), .second, .val (.int v5), .val (.long v6), .second, .val (.long v7), .second, .val (.long v8), .second, .val (.ref b9), .val (.double v18), .second, .val (.double v26), .second, .unset, .unset, .unset, .unset, .unset, .unset, .unset, .unset, .unset, .unset] []))
 refine own_by (fun _ k => XS.aload X24.here hx rfl (hb hby at_126) rfl rfl k) ?_
 show own_Go p e below _ (T24.setTop (mkF m 128 #[.val (.long q0), .second, .val (.long q1), .second, .val (.int p2), .val (.int p3), .val (.int p4), .val (.long v1), .second, .val (.long v2), .second, .val (.long v3), .second, .val (.long v4), .second, .val (.int v5), .val (.long v6), .second, .val (.long v7), .second, .val (.long v8), .second, .val (.ref b9), .val (.double v18), .second, .val (.double v26), .second, .unset, .unset, .unset, .unset, .unset, .unset, .unset, .unset, .unset, .unset] [(.ref b9)]))
 obtain ⟨T27, h27, X27, e27, E27, A27, D27, -, st27⟩ := newO X24 hx hZ hown (hwd 13 rfl) (hwd 14 rfl) (hwd 15 rfl) eq24 (g := (mkF m 128 #[.val (.long q0), .second, .val (.long q1), .second, .val (.int p2), .val (.int p3), .val (.int p4), .val (.long v1), .second, .val (.long v2), .second, .val (.long v3), .second, .val (.long v4), .second, .val (.int v5), .val (.long v6), .second, .val (.long v7), .second, .val (.long v8), .second, .val (.ref b9), .val (.double v18), .second, .val (.double v26), .second, .unset, .unset, .unset, .unset, .unset, .unset, .unset, .unset, .unset, .unset] [(.ref b9)])) rfl (hb hby at_128) (by decide) (by decide)
 obtain ⟨b27, g27⟩ : ∃ z, z = T20.heap.size := ⟨_, rfl⟩
 have ge_b27 : n0 ≤ b27 := Nat.le_trans Z20 (Nat.le_of_eq g27.symm)
 have sz_b27 : h0.size ≤ b27 := Nat.le_trans K20.1 (Nat.le_of_eq g27.symm)
 have K27 : Keep h0 h27 [] := K20.ext E27
 have Z27 : n0 ≤ h27.size := Nat.le_trans Z20 E27.1
 rw [← g27] at A27 D27 st27
 have F_successes_b27 : Fld Z h27 b27 "com/example/credence/credence/core/Evidence" "successes" "J" (.long (0 : Int64)) := D27 (Or.inr (hwd 26 rfl)) (ty := .long) (by decide)
 have F_failures_b27 : Fld Z h27 b27 "com/example/credence/credence/core/Evidence" "failures" "J" (.long (0 : Int64)) := D27 (Or.inr (hwd 28 rfl)) (ty := .long) (by decide)
 refine own_by st27 ?_
 show own_Go p e below _ (T27.setTop (mkF m 131 #[.val (.long q0), .second, .val (.long q1), .second, .val (.int p2), .val (.int p3), .val (.int p4), .val (.long v1), .second, .val (.long v2), .second, .val (.long v3), .second, .val (.long v4), .second, .val (.int v5), .val (.long v6), .second, .val (.long v7), .second, .val (.long v8), .second, .val (.ref b9), .val (.double v18), .second, .val (.double v26), .second, .unset, .unset, .unset, .unset, .unset, .unset, .unset, .unset, .unset, .unset] [(.ref b27), (.ref b9)]))
 refine own_by (fun _ k => XS.dup X27.here hx rfl (hb hby at_131) rfl rfl k) ?_
 show own_Go p e below _ (T27.setTop (mkF m 132 #[.val (.long q0), .second, .val (.long q1), .second, .val (.int p2), .val (.int p3), .val (.int p4), .val (.long v1), .second, .val (.long v2), .second, .val (.long v3), .second, .val (.long v4), .second, .val (.int v5), .val (.long v6), .second, .val (.long v7), .second, .val (.long v8), .second, .val (.ref b9), .val (.double v18), .second, .val (.double v26), .second, .unset, .unset, .unset, .unset, .unset, .unset, .unset, .unset, .unset, .unset] [(.ref b27), (.ref b27), (.ref b9)]))
 refine own_by (fun _ k => XS.lload X27.here hx rfl (hb hby at_132) rfl k) ?_
 show own_Go p e below _ (T27.setTop (mkF m 134 #[.val (.long q0), .second, .val (.long q1), .second, .val (.int p2), .val (.int p3), .val (.int p4), .val (.long v1), .second, .val (.long v2), .second, .val (.long v3), .second, .val (.long v4), .second, .val (.int v5), .val (.long v6), .second, .val (.long v7), .second, .val (.long v8), .second, .val (.ref b9), .val (.double v18), .second, .val (.double v26), .second, .unset, .unset, .unset, .unset, .unset, .unset, .unset, .unset, .unset, .unset] [(.long v8), (.ref b27), (.ref b27), (.ref b9)]))
 refine own_by (fun _ k => XS.lload X27.here hx rfl (hb hby at_134) rfl k) ?_
 show own_Go p e below _ (T27.setTop (mkF m 136 #[.val (.long q0), .second, .val (.long q1), .second, .val (.int p2), .val (.int p3), .val (.int p4), .val (.long v1), .second, .val (.long v2), .second, .val (.long v3), .second, .val (.long v4), .second, .val (.int v5), .val (.long v6), .second, .val (.long v7), .second, .val (.long v8), .second, .val (.ref b9), .val (.double v18), .second, .val (.double v26), .second, .unset, .unset, .unset, .unset, .unset, .unset, .unset, .unset, .unset, .unset] [(.long v3), (.long v8), (.ref b27), (.ref b27), (.ref b9)]))
 refine own_by (fun _ k => XS.lmul X27.here hx rfl (hb hby at_136) rfl k) ?_
 show own_Go p e below _ (T27.setTop (mkF m 137 #[.val (.long q0), .second, .val (.long q1), .second, .val (.int p2), .val (.int p3), .val (.int p4), .val (.long v1), .second, .val (.long v2), .second, .val (.long v3), .second, .val (.long v4), .second, .val (.int v5), .val (.long v6), .second, .val (.long v7), .second, .val (.long v8), .second, .val (.ref b9), .val (.double v18), .second, .val (.double v26), .second, .unset, .unset, .unset, .unset, .unset, .unset, .unset, .unset, .unset, .unset] [(.long (v8 * v3)), (.ref b27), (.ref b27), (.ref b9)]))
 refine own_by (fun _ k => XS.lconst X27.here hx rfl (hb hby at_137) k) ?_
 show own_Go p e below _ (T27.setTop (mkF m 138 #[.val (.long q0), .second, .val (.long q1), .second, .val (.int p2), .val (.int p3), .val (.int p4), .val (.long v1), .second, .val (.long v2), .second, .val (.long v3), .second, .val (.long v4), .second, .val (.int v5), .val (.long v6), .second, .val (.long v7), .second, .val (.long v8), .second, .val (.ref b9), .val (.double v18), .second, .val (.double v26), .second, .unset, .unset, .unset, .unset, .unset, .unset, .unset, .unset, .unset, .unset] [(.long (1 : Int64)), (.long (v8 * v3)), (.ref b27), (.ref b27), (.ref b9)]))
 refine own_by (fun _ k => XS.lsub X27.here hx rfl (hb hby at_138) rfl k) ?_
 show own_Go p e below _ (T27.setTop (mkF m 139 #[.val (.long q0), .second, .val (.long q1), .second, .val (.int p2), .val (.int p3), .val (.int p4), .val (.long v1), .second, .val (.long v2), .second, .val (.long v3), .second, .val (.long v4), .second, .val (.int v5), .val (.long v6), .second, .val (.long v7), .second, .val (.long v8), .second, .val (.ref b9), .val (.double v18), .second, .val (.double v26), .second, .unset, .unset, .unset, .unset, .unset, .unset, .unset, .unset, .unset, .unset] [(.long ((v8 * v3) - (1 : Int64))), (.ref b27), (.ref b27), (.ref b9)]))
 refine own_by (fun _ k => XS.lload X27.here hx rfl (hb hby at_139) rfl k) ?_
 show own_Go p e below _ (T27.setTop (mkF m 141 #[.val (.long q0), .second, .val (.long q1), .second, .val (.int p2), .val (.int p3), .val (.int p4), .val (.long v1), .second, .val (.long v2), .second, .val (.long v3), .second, .val (.long v4), .second, .val (.int v5), .val (.long v6), .second, .val (.long v7), .second, .val (.long v8), .second, .val (.ref b9), .val (.double v18), .second, .val (.double v26), .second, .unset, .unset, .unset, .unset, .unset, .unset, .unset, .unset, .unset, .unset] [(.long v8), (.long ((v8 * v3) - (1 : Int64))), (.ref b27), (.ref b27), (.ref b9)]))
 refine own_by (fun _ k => XS.lload X27.here hx rfl (hb hby at_141) rfl k) ?_
 show own_Go p e below _ (T27.setTop (mkF m 143 #[.val (.long q0), .second, .val (.long q1), .second, .val (.int p2), .val (.int p3), .val (.int p4), .val (.long v1), .second, .val (.long v2), .second, .val (.long v3), .second, .val (.long v4), .second, .val (.int v5), .val (.long v6), .second, .val (.long v7), .second, .val (.long v8), .second, .val (.ref b9), .val (.double v18), .second, .val (.double v26), .second, .unset, .unset, .unset, .unset, .unset, .unset, .unset, .unset, .unset, .unset] [(.long v2), (.long v8), (.long ((v8 * v3) - (1 : Int64))), (.ref b27), (.ref b27), (.ref b9)]))
 refine own_by (fun _ k => XS.lconst X27.here hx rfl (hb hby at_143) k) ?_
 show own_Go p e below _ (T27.setTop (mkF m 144 #[.val (.long q0), .second, .val (.long q1), .second, .val (.int p2), .val (.int p3), .val (.int p4), .val (.long v1), .second, .val (.long v2), .second, .val (.long v3), .second, .val (.long v4), .second, .val (.int v5), .val (.long v6), .second, .val (.long v7), .second, .val (.long v8), .second, .val (.ref b9), .val (.double v18), .second, .val (.double v26), .second, .unset, .unset, .unset, .unset, .unset, .unset, .unset, .unset, .unset, .unset] [(.long (1 : Int64)), (.long v2), (.long v8), (.long ((v8 * v3) - (1 : Int64))), (.ref b27), (.ref b27), (.ref b9)]))
 refine own_by (fun _ k => XS.ladd X27.here hx rfl (hb hby at_144) rfl k) ?_
 show own_Go p e below _ (T27.setTop (mkF m 145 #[.val (.long q0), .second, .val (.long q1), .second, .val (.int p2), .val (.int p3), .val (.int p4), .val (.long v1), .second, .val (.long v2), .second, .val (.long v3), .second, .val (.long v4), .second, .val (.int v5), .val (.long v6), .second, .val (.long v7), .second, .val (.long v8), .second, .val (.ref b9), .val (.double v18), .second, .val (.double v26), .second, .unset, .unset, .unset, .unset, .unset, .unset, .unset, .unset, .unset, .unset] [(.long (v2 + (1 : Int64))), (.long v8), (.long ((v8 * v3) - (1 : Int64))), (.ref b27), (.ref b27), (.ref b9)]))
 refine own_by (fun _ k => XS.lmul X27.here hx rfl (hb hby at_145) rfl k) ?_
 show own_Go p e below _ (T27.setTop (mkF m 146 #[.val (.long q0), .second, .val (.long q1), .second, .val (.int p2), .val (.int p3), .val (.int p4), .val (.long v1), .second, .val (.long v2), .second, .val (.long v3), .second, .val (.long v4), .second, .val (.int v5), .val (.long v6), .second, .val (.long v7), .second, .val (.long v8), .second, .val (.ref b9), .val (.double v18), .second, .val (.double v26), .second, .unset, .unset, .unset, .unset, .unset, .unset, .unset, .unset, .unset, .unset] [(.long (v8 * (v2 + (1 : Int64)))), (.long ((v8 * v3) - (1 : Int64))), (.ref b27), (.ref b27), (.ref b9)]))
 refine own_by (fun _ k => XS.lconst X27.here hx rfl (hb hby at_146) k) ?_
 show own_Go p e below _ (T27.setTop (mkF m 147 #[.val (.long q0), .second, .val (.long q1), .second, .val (.int p2), .val (.int p3), .val (.int p4), .val (.long v1), .second, .val (.long v2), .second, .val (.long v3), .second, .val (.long v4), .second, .val (.int v5), .val (.long v6), .second, .val (.long v7), .second, .val (.long v8), .second, .val (.ref b9), .val (.double v18), .second, .val (.double v26), .second, .unset, .unset, .unset, .unset, .unset, .unset, .unset, .unset, .unset, .unset] [(.long (1 : Int64)), (.long (v8 * (v2 + (1 : Int64)))), (.long ((v8 * v3) - (1 : Int64))), (.ref b27), (.ref b27), (.ref b9)]))
 refine own_by (fun _ k => XS.lsub X27.here hx rfl (hb hby at_147) rfl k) ?_
 show own_Go p e below _ (T27.setTop (mkF m 148 #[.val (.long q0), .second, .val (.long q1), .second, .val (.int p2), .val (.int p3), .val (.int p4), .val (.long v1), .second, .val (.long v2), .second, .val (.long v3), .second, .val (.long v4), .second, .val (.int v5), .val (.long v6), .second, .val (.long v7), .second, .val (.long v8), .second, .val (.ref b9), .val (.double v18), .second, .val (.double v26), .second, .unset, .unset, .unset, .unset, .unset, .unset, .unset, .unset, .unset, .unset] [(.long ((v8 * (v2 + (1 : Int64))) - (1 : Int64))), (.long ((v8 * v3) - (1 : Int64))), (.ref b27), (.ref b27), (.ref b9)]))
 obtain ⟨_, _, ⟨T28, L28, k28, n28⟩, -, X28, ⟨Lc28, hQ28, l28, y28, z28⟩, st28⟩ := X27.specialBack hx (y := (⟨"com/example/credence/credence/core/Evidence", "<init>", "(JJ)V"⟩ : MethodName)) rfl hown (mvT hZ (hwd 16 rfl)) (mvT hZ (hwd 17 rfl)) (mvT hZ (hwd 18 rfl)) (by decide) (backOf (W := 2) (rm3 l Z A0 hw [] b27 ((v8 * v3) - (1 : Int64)) ((v8 * (v2 + (1 : Int64))) - (1 : Int64)) (0 : Int64) (0 : Int64) h27 n0 Z27 (ob_0_12 q0 q1 p2 p3 p4 v1 v2 v3 v4 v5 v6 v7 v8 v18 v26 hv1 hv2 hv3 hv4 hv5 hv6 hv7 hv8 hv18 hv26) (ob_0_13 q0 q1 p2 p3 p4 v1 v2 v3 v4 v5 v6 v7 v8 v18 v26 hv1 hv2 hv3 hv4 hv5 hv6 hv7 hv8 hv18 hv26) A27 F_successes_b27 ge_b27 F_failures_b27) hZ (hwd 18 rfl) (hwd 15 rfl) (by decide) (by decide)) (g := (mkF m 148 #[.val (.long q0), .second, .val (.long q1), .second, .val (.int p2), .val (.int p3), .val (.int p4), .val (.long v1), .second, .val (.long v2), .second, .val (.long v3), .second, .val (.long v4), .second, .val (.int v5), .val (.long v6), .second, .val (.long v7), .second, .val (.long v8), .second, .val (.ref b9), .val (.double v18), .second, .val (.double v26), .second, .unset, .unset, .unset, .unset, .unset, .unset, .unset, .unset, .unset, .unset] [(.long ((v8 * (v2 + (1 : Int64))) - (1 : Int64))), (.long ((v8 * v3) - (1 : Int64))), (.ref b27), (.ref b27), (.ref b9)])) rfl (by rw [hml]; rfl) (Steps.refl _) (a := b27) (argsL := [(.long ((v8 * v3) - (1 : Int64))), (.long ((v8 * (v2 + (1 : Int64))) - (1 : Int64)))]) (rest := [(.ref b27), (.ref b9)]) (lenOf pd_16 rfl) rfl (by show 2 * 0 + _ ≤ _; exact Nat.le_of_eq rfl) (hb hby at_148) (fun _ _ => ⟨rfl, e27, (by decide : 4 + 0 ≤ _), (by decide : 6 + 0 ≤ _)⟩)
 dsimp only [Pt.U, Pt.locs, Pt.cells, Pt.slots] at X28 l28 y28 z28 st28 hQ28
 subst l28 y28 z28
 obtain ⟨rfl, Nq28, Kq28, F29, F30, F31⟩ := hQ28
 have N28 := Fr.app N24 Nq28
 have K28 : Keep h0 T28.heap [] := K27.trans Kq28 ((allS (Or.inr sz_b27) all0))
 have Z28 : n0 ≤ T28.heap.size := Nat.le_trans Z27 Kq28.1
 refine own_by (fun _ k => st28.trans k) ?_
 show own_Go p e below _ (T28.setTop (mkF m 151 #[.val (.long q0), .second, .val (.long q1), .second, .val (.int p2), .val (.int p3), .val (.int p4), .val (.long v1), .second, .val (.long v2), .second, .val (.long v3), .second, .val (.long v4), .second, .val (.int v5), .val (.long v6), .second, .val (.long v7), .second, .val (.long v8), .second, .val (.ref b9), .val (.double v18), .second, .val (.double v26), .second, .unset, .unset, .unset, .unset, .unset, .unset, .unset, .unset, .unset, .unset] [(.ref b27), (.ref b9)]))
 have F33 : Exa Z T28.heap b9 "com/example/credence/credence/core/BetaModel" := ((F25.ext E27).keep Kq28)
 obtain ⟨cq32, kq32, qq32a, qq32b, qq32c⟩ := isOf hZ rfl F33
 obtain ⟨_, _, ⟨T32, L32, k32, n32⟩, -, X32, ⟨Lc32, hQ32, l32, y32, z32⟩, st32⟩ := X28.virtualBack hx (y := (⟨"com/example/credence/credence/core/BetaModel", "trust", "(Lcom/example/credence/credence/core/Evidence;)D"⟩ : MethodName)) (z := (⟨"com/example/credence/credence/core/BetaModel", "trust", "(Lcom/example/credence/credence/core/Evidence;)D"⟩ : MethodName)) hown (mvT hZ (hwd 29 rfl)) (mvT hZ (hwd 30 rfl)) (notFace_of_selects (args := #[]) (mvT hZ (hwd 32 rfl))) (mvT hZ (hwd 32 rfl)) (mvT hZ (hwd 31 rfl)) (by decide) (backOf (W := 0) (rm5 l Z A0 hw [] b9 b27 ((v8 * v3) - (1 : Int64)) ((v8 * (v2 + (1 : Int64))) - (1 : Int64)) T28.heap n0 Z28 F30 F29 (ob_0_14 q0 q1 p2 p3 p4 v1 v2 v3 v4 v5 v6 v7 v8 v18 v26 hv1 hv2 hv3 hv4 hv5 hv6 hv7 hv8 hv18 hv26) F31 (ob_0_15 q0 q1 p2 p3 p4 v1 v2 v3 v4 v5 v6 v7 v8 v18 v26 hv1 hv2 hv3 hv4 hv5 hv6 hv7 hv8 hv18 hv26) (ob_0_16 q0 q1 p2 p3 p4 v1 v2 v3 v4 v5 v6 v7 v8 v18 v26 hv1 hv2 hv3 hv4 hv5 hv6 hv7 hv8 hv18 hv26)) hZ (hwd 33 rfl) (hwd 6 rfl) (by decide) (by decide)) qq32a qq32c (g := (mkF m 151 #[.val (.long q0), .second, .val (.long q1), .second, .val (.int p2), .val (.int p3), .val (.int p4), .val (.long v1), .second, .val (.long v2), .second, .val (.long v3), .second, .val (.long v4), .second, .val (.int v5), .val (.long v6), .second, .val (.long v7), .second, .val (.long v8), .second, .val (.ref b9), .val (.double v18), .second, .val (.double v26), .second, .unset, .unset, .unset, .unset, .unset, .unset, .unset, .unset, .unset, .unset] [(.ref b27), (.ref b9)])) rfl (by rw [hml]; rfl) (Steps.refl _) (argsL := [(.ref b27)]) (rest := []) (lenOf pd_29 rfl) rfl (by show 2 * 0 + _ ≤ _; exact Nat.le_of_eq rfl) (hb hby at_151) (fun _ _ => ⟨rfl, rfl, (by decide : 4 + 0 ≤ _), (by decide : 6 + 0 ≤ _)⟩)
 dsimp only [Pt.U, Pt.locs, Pt.cells, Pt.slots] at X32 l32 y32 z32 st32 hQ32
 subst l32 y32 z32
 obtain ⟨rfl, Nq32, eq32⟩ := hQ32
 have N32 := Fr.app N28 Nq32
 refine own_by (fun _ k => st32.trans k) ?_
 show own_Go p e below _ (T32.setTop (mkF m 154 #[.val (.long q0), .second, .val (.long q1), .second, .val (.int p2), .val (.int p3), .val (.int p4), .val (.long v1), .second, .val (.long v2), .second, .val (.long v3), .second, .val (.long v4), .second, .val (.int v5), .val (.long v6), .second, .val (.long v7), .second, .val (.long v8), .second, .val (.ref b9), .val (.double v18), .second, .val (.double v26), .second, .unset, .unset, .unset, .unset, .unset, .unset, .unset, .unset, .unset, .unset] [(.double (FP.ddiv (FP.dadd (FP.l2d ((v8 * v3) - (1 : Int64))) FP.dconst1) (FP.dadd (FP.l2d (((v8 * v3) - (1 : Int64)) + ((v8 * (v2 + (1 : Int64))) - (1 : Int64)))) (4611686018427387904 : UInt64))))]))
 refine own_by (fun _ k => XS.dstore X32.here hx rfl (hb hby at_154) rfl (l' := #[.val (.long q0), .second, .val (.long q1), .second, .val (.int p2), .val (.int p3), .val (.int p4), .val (.long v1), .second, .val (.long v2), .second, .val (.long v3), .second, .val (.long v4), .second, .val (.int v5), .val (.long v6), .second, .val (.long v7), .second, .val (.long v8), .second, .val (.ref b9), .val (.double v18), .second, .val (.double v26), .second, .val (.double (FP.ddiv (FP.dadd (FP.l2d ((v8 * v3) - (1 : Int64))) FP.dconst1) (FP.dadd (FP.l2d (((v8 * v3) - (1 : Int64)) + ((v8 * (v2 + (1 : Int64))) - (1 : Int64)))) (4611686018427387904 : UInt64)))), .second, .unset, .unset, .unset, .unset, .unset, .unset, .unset, .unset]) rfl k) ?_
 show own_Go p e below _ (T32.setTop (mkF m 156 #[.val (.long q0), .second, .val (.long q1), .second, .val (.int p2), .val (.int p3), .val (.int p4), .val (.long v1), .second, .val (.long v2), .second, .val (.long v3), .second, .val (.long v4), .second, .val (.int v5), .val (.long v6), .second, .val (.long v7), .second, .val (.long v8), .second, .val (.ref b9), .val (.double v18), .second, .val (.double v26), .second, .val (.double (FP.ddiv (FP.dadd (FP.l2d ((v8 * v3) - (1 : Int64))) FP.dconst1) (FP.dadd (FP.l2d (((v8 * v3) - (1 : Int64)) + ((v8 * (v2 + (1 : Int64))) - (1 : Int64)))) (4611686018427387904 : UInt64)))), .second, .unset, .unset, .unset, .unset, .unset, .unset, .unset, .unset] []))
 generalize hv34 : (FP.ddiv (FP.dadd (FP.l2d ((v8 * v3) - (1 : Int64))) FP.dconst1) (FP.dadd (FP.l2d (((v8 * v3) - (1 : Int64)) + ((v8 * (v2 + (1 : Int64))) - (1 : Int64)))) (4611686018427387904 : UInt64))) = v34
 show own_Go p e below _ (T32.setTop (mkF m 156 #[.val (.long q0), .second, .val (.long q1), .second, .val (.int p2), .val (.int p3), .val (.int p4), .val (.long v1), .second, .val (.long v2), .second, .val (.long v3), .second, .val (.long v4), .second, .val (.int v5), .val (.long v6), .second, .val (.long v7), .second, .val (.long v8), .second, .val (.ref b9), .val (.double v18), .second, .val (.double v26), .second, .val (.double v34), .second, .unset, .unset, .unset, .unset, .unset, .unset, .unset, .unset] []))
 refine own_by (fun _ k => XS.dload X32.here hx rfl (hb hby at_156) rfl k) ?_
 show own_Go p e below _ (T32.setTop (mkF m 158 #[.val (.long q0), .second, .val (.long q1), .second, .val (.int p2), .val (.int p3), .val (.int p4), .val (.long v1), .second, .val (.long v2), .second, .val (.long v3), .second, .val (.long v4), .second, .val (.int v5), .val (.long v6), .second, .val (.long v7), .second, .val (.long v8), .second, .val (.ref b9), .val (.double v18), .second, .val (.double v26), .second, .val (.double v34), .second, .unset, .unset, .unset, .unset, .unset, .unset, .unset, .unset] [(.double v26)]))
 refine own_by (fun _ k => XS.lload X32.here hx rfl (hb hby at_158) rfl k) ?_
 show own_Go p e below _ (T32.setTop (mkF m 160 #[.val (.long q0), .second, .val (.long q1), .second, .val (.int p2), .val (.int p3), .val (.int p4), .val (.long v1), .second, .val (.long v2), .second, .val (.long v3), .second, .val (.long v4), .second, .val (.int v5), .val (.long v6), .second, .val (.long v7), .second, .val (.long v8), .second, .val (.ref b9), .val (.double v18), .second, .val (.double v26), .second, .val (.double v34), .second, .unset, .unset, .unset, .unset, .unset, .unset, .unset, .unset] [(.long v6), (.double v26)]))
 refine own_by (fun _ k => XS.l2dS X32.here hx rfl (hb hby at_160) rfl rfl k) ?_
 show own_Go p e below _ (T32.setTop (mkF m 161 #[.val (.long q0), .second, .val (.long q1), .second, .val (.int p2), .val (.int p3), .val (.int p4), .val (.long v1), .second, .val (.long v2), .second, .val (.long v3), .second, .val (.long v4), .second, .val (.int v5), .val (.long v6), .second, .val (.long v7), .second, .val (.long v8), .second, .val (.ref b9), .val (.double v18), .second, .val (.double v26), .second, .val (.double v34), .second, .unset, .unset, .unset, .unset, .unset, .unset, .unset, .unset] [(.double (FP.l2d v6)), (.double v26)]))
 refine own_by (fun _ k => XS.dmulS X32.here hx rfl (hb hby at_161) rfl (ob_0_17 q0 q1 p2 p3 p4 v1 v2 v3 v4 v5 v6 v7 v8 v18 v26 v34 hv1 hv2 hv3 hv4 hv5 hv6 hv7 hv8 hv18 hv26 hv34) rfl k) ?_
 show own_Go p e below _ (T32.setTop (mkF m 162 #[.val (.long q0), .second, .val (.long q1), .second, .val (.int p2), .val (.int p3), .val (.int p4), .val (.long v1), .second, .val (.long v2), .second, .val (.long v3), .second, .val (.long v4), .second, .val (.int v5), .val (.long v6), .second, .val (.long v7), .second, .val (.long v8), .second, .val (.ref b9), .val (.double v18), .second, .val (.double v26), .second, .val (.double v34), .second, .unset, .unset, .unset, .unset, .unset, .unset, .unset, .unset] [(.double (FP.dmul v26 (FP.l2d v6)))]))
 refine own_by (fun _ k => XS.lload X32.here hx rfl (hb hby at_162) rfl k) ?_
 show own_Go p e below _ (T32.setTop (mkF m 164 #[.val (.long q0), .second, .val (.long q1), .second, .val (.int p2), .val (.int p3), .val (.int p4), .val (.long v1), .second, .val (.long v2), .second, .val (.long v3), .second, .val (.long v4), .second, .val (.int v5), .val (.long v6), .second, .val (.long v7), .second, .val (.long v8), .second, .val (.ref b9), .val (.double v18), .second, .val (.double v26), .second, .val (.double v34), .second, .unset, .unset, .unset, .unset, .unset, .unset, .unset, .unset] [(.long v7), (.double (FP.dmul v26 (FP.l2d v6)))]))
 refine own_by (fun _ k => XS.l2dS X32.here hx rfl (hb hby at_164) rfl rfl k) ?_
 show own_Go p e below _ (T32.setTop (mkF m 165 #[.val (.long q0), .second, .val (.long q1), .second, .val (.int p2), .val (.int p3), .val (.int p4), .val (.long v1), .second, .val (.long v2), .second, .val (.long v3), .second, .val (.long v4), .second, .val (.int v5), .val (.long v6), .second, .val (.long v7), .second, .val (.long v8), .second, .val (.ref b9), .val (.double v18), .second, .val (.double v26), .second, .val (.double v34), .second, .unset, .unset, .unset, .unset, .unset, .unset, .unset, .unset] [(.double (FP.l2d v7)), (.double (FP.dmul v26 (FP.l2d v6)))]))
 refine own_by (fun _ k => XS.dcmpS X32.here hx rfl (hb hby at_165) rfl rfl k) ?_
 show own_Go p e below _ (T32.setTop (mkF m 166 #[.val (.long q0), .second, .val (.long q1), .second, .val (.int p2), .val (.int p3), .val (.int p4), .val (.long v1), .second, .val (.long v2), .second, .val (.long v3), .second, .val (.long v4), .second, .val (.int v5), .val (.long v6), .second, .val (.long v7), .second, .val (.long v8), .second, .val (.ref b9), .val (.double v18), .second, .val (.double v26), .second, .val (.double v34), .second, .unset, .unset, .unset, .unset, .unset, .unset, .unset, .unset] [(.int (cmpValue (FP.dcmp (FP.dmul v26 (FP.l2d v6)) (FP.l2d v7)) .l))]))
 have J36 : ∀ (T37 : State) (L38 : List Loc) (z42 : Int32), Stand p l e room_1 s m #[(.long q0), (.long q1), (.int p2), (.int p3), (.int p4)] below meth c T37 L38 4 6 → T37.heap = T28.heap → Fr n0 L38 → ((((cmpValue (FP.dcmp (FP.dmul v26 (FP.l2d v6)) (FP.l2d v7)) .l) = (0 : Int32)) ∧ z42 = (1 : Int32)) ∨ ((¬ ((cmpValue (FP.dcmp (FP.dmul v26 (FP.l2d v6)) (FP.l2d v7)) .l) = (0 : Int32))) ∧ z42 = (0 : Int32))) → own_Go p e below (own_Fin s 16 128 (Q0 Z q0 q1 p2 p3 p4 h0 n0)) (T37.setTop (mkF m 174 #[.val (.long q0), .second, .val (.long q1), .second, .val (.int p2), .val (.int p3), .val (.int p4), .val (.long v1), .second, .val (.long v2), .second, .val (.long v3), .second, .val (.long v4), .second, .val (.int v5), .val (.long v6), .second, .val (.long v7), .second, .val (.long v8), .second, .val (.ref b9), .val (.double v18), .second, .val (.double v26), .second, .val (.double v34), .second, .unset, .unset, .unset, .unset, .unset, .unset, .unset, .unset] [(.int z42)])) := by
  intro T37 L38 z42 X39 e40 N41 hj43
  refine own_by (fun _ k => XS.istore X39.here hx rfl (hb hby at_174) rfl (l' := #[.val (.long q0), .second, .val (.long q1), .second, .val (.int p2), .val (.int p3), .val (.int p4), .val (.long v1), .second, .val (.long v2), .second, .val (.long v3), .second, .val (.long v4), .second, .val (.int v5), .val (.long v6), .second, .val (.long v7), .second, .val (.long v8), .second, .val (.ref b9), .val (.double v18), .second, .val (.double v26), .second, .val (.double v34), .second, .val (.int z42), .unset, .unset, .unset, .unset, .unset, .unset, .unset]) rfl k) ?_
  show own_Go p e below _ (T37.setTop (mkF m 176 #[.val (.long q0), .second, .val (.long q1), .second, .val (.int p2), .val (.int p3), .val (.int p4), .val (.long v1), .second, .val (.long v2), .second, .val (.long v3), .second, .val (.long v4), .second, .val (.int v5), .val (.long v6), .second, .val (.long v7), .second, .val (.long v8), .second, .val (.ref b9), .val (.double v18), .second, .val (.double v26), .second, .val (.double v34), .second, .val (.int z42), .unset, .unset, .unset, .unset, .unset, .unset, .unset] []))
  refine own_by (fun _ k => XS.lload X39.here hx rfl (hb hby at_176) rfl k) ?_
  show own_Go p e below _ (T37.setTop (mkF m 178 #[.val (.long q0), .second, .val (.long q1), .second, .val (.int p2), .val (.int p3), .val (.int p4), .val (.long v1), .second, .val (.long v2), .second, .val (.long v3), .second, .val (.long v4), .second, .val (.int v5), .val (.long v6), .second, .val (.long v7), .second, .val (.long v8), .second, .val (.ref b9), .val (.double v18), .second, .val (.double v26), .second, .val (.double v34), .second, .val (.int z42), .unset, .unset, .unset, .unset, .unset, .unset, .unset] [(.long v3)]))
  refine own_by (fun _ k => XS.lload X39.here hx rfl (hb hby at_178) rfl k) ?_
  show own_Go p e below _ (T37.setTop (mkF m 180 #[.val (.long q0), .second, .val (.long q1), .second, .val (.int p2), .val (.int p3), .val (.int p4), .val (.long v1), .second, .val (.long v2), .second, .val (.long v3), .second, .val (.long v4), .second, .val (.int v5), .val (.long v6), .second, .val (.long v7), .second, .val (.long v8), .second, .val (.ref b9), .val (.double v18), .second, .val (.double v26), .second, .val (.double v34), .second, .val (.int z42), .unset, .unset, .unset, .unset, .unset, .unset, .unset] [(.long v6), (.long v3)]))
  refine own_by (fun _ k => XS.lmul X39.here hx rfl (hb hby at_180) rfl k) ?_
  show own_Go p e below _ (T37.setTop (mkF m 181 #[.val (.long q0), .second, .val (.long q1), .second, .val (.int p2), .val (.int p3), .val (.int p4), .val (.long v1), .second, .val (.long v2), .second, .val (.long v3), .second, .val (.long v4), .second, .val (.int v5), .val (.long v6), .second, .val (.long v7), .second, .val (.long v8), .second, .val (.ref b9), .val (.double v18), .second, .val (.double v26), .second, .val (.double v34), .second, .val (.int z42), .unset, .unset, .unset, .unset, .unset, .unset, .unset] [(.long (v3 * v6))]))
  refine own_by (fun _ k => XS.lstore X39.here hx rfl (hb hby at_181) rfl (l' := #[.val (.long q0), .second, .val (.long q1), .second, .val (.int p2), .val (.int p3), .val (.int p4), .val (.long v1), .second, .val (.long v2), .second, .val (.long v3), .second, .val (.long v4), .second, .val (.int v5), .val (.long v6), .second, .val (.long v7), .second, .val (.long v8), .second, .val (.ref b9), .val (.double v18), .second, .val (.double v26), .second, .val (.double v34), .second, .val (.int z42), .val (.long (v3 * v6)), .second, .unset, .unset, .unset, .unset, .unset]) rfl k) ?_
  show own_Go p e below _ (T37.setTop (mkF m 183 #[.val (.long q0), .second, .val (.long q1), .second, .val (.int p2), .val (.int p3), .val (.int p4), .val (.long v1), .second, .val (.long v2), .second, .val (.long v3), .second, .val (.long v4), .second, .val (.int v5), .val (.long v6), .second, .val (.long v7), .second, .val (.long v8), .second, .val (.ref b9), .val (.double v18), .second, .val (.double v26), .second, .val (.double v34), .second, .val (.int z42), .val (.long (v3 * v6)), .second, .unset, .unset, .unset, .unset, .unset] []))
  generalize hv44 : (v3 * v6) = v44
  show own_Go p e below _ (T37.setTop (mkF m 183 #[.val (.long q0), .second, .val (.long q1), .second, .val (.int p2), .val (.int p3), .val (.int p4), .val (.long v1), .second, .val (.long v2), .second, .val (.long v3), .second, .val (.long v4), .second, .val (.int v5), .val (.long v6), .second, .val (.long v7), .second, .val (.long v8), .second, .val (.ref b9), .val (.double v18), .second, .val (.double v26), .second, .val (.double v34), .second, .val (.int z42), .val (.long v44), .second, .unset, .unset, .unset, .unset, .unset] []))
  refine own_by (fun _ k => XS.lload X39.here hx rfl (hb hby at_183) rfl k) ?_
  show own_Go p e below _ (T37.setTop (mkF m 185 #[.val (.long q0), .second, .val (.long q1), .second, .val (.int p2), .val (.int p3), .val (.int p4), .val (.long v1), .second, .val (.long v2), .second, .val (.long v3), .second, .val (.long v4), .second, .val (.int v5), .val (.long v6), .second, .val (.long v7), .second, .val (.long v8), .second, .val (.ref b9), .val (.double v18), .second, .val (.double v26), .second, .val (.double v34), .second, .val (.int z42), .val (.long v44), .second, .unset, .unset, .unset, .unset, .unset] [(.long v7)]))
  refine own_by (fun _ k => XS.lload X39.here hx rfl (hb hby at_185) rfl k) ?_
  show own_Go p e below _ (T37.setTop (mkF m 187 #[.val (.long q0), .second, .val (.long q1), .second, .val (.int p2), .val (.int p3), .val (.int p4), .val (.long v1), .second, .val (.long v2), .second, .val (.long v3), .second, .val (.long v4), .second, .val (.int v5), .val (.long v6), .second, .val (.long v7), .second, .val (.long v8), .second, .val (.ref b9), .val (.double v18), .second, .val (.double v26), .second, .val (.double v34), .second, .val (.int z42), .val (.long v44), .second, .unset, .unset, .unset, .unset, .unset] [(.long v4), (.long v7)]))
  refine own_by (fun _ k => XS.lmul X39.here hx rfl (hb hby at_187) rfl k) ?_
  show own_Go p e below _ (T37.setTop (mkF m 188 #[.val (.long q0), .second, .val (.long q1), .second, .val (.int p2), .val (.int p3), .val (.int p4), .val (.long v1), .second, .val (.long v2), .second, .val (.long v3), .second, .val (.long v4), .second, .val (.int v5), .val (.long v6), .second, .val (.long v7), .second, .val (.long v8), .second, .val (.ref b9), .val (.double v18), .second, .val (.double v26), .second, .val (.double v34), .second, .val (.int z42), .val (.long v44), .second, .unset, .unset, .unset, .unset, .unset] [(.long (v7 * v4))]))
  refine own_by (fun _ k => XS.lstore X39.here hx rfl (hb hby at_188) rfl (l' := #[.val (.long q0), .second, .val (.long q1), .second, .val (.int p2), .val (.int p3), .val (.int p4), .val (.long v1), .second, .val (.long v2), .second, .val (.long v3), .second, .val (.long v4), .second, .val (.int v5), .val (.long v6), .second, .val (.long v7), .second, .val (.long v8), .second, .val (.ref b9), .val (.double v18), .second, .val (.double v26), .second, .val (.double v34), .second, .val (.int z42), .val (.long v44), .second, .val (.long (v7 * v4)), .second, .unset, .unset, .unset]) rfl k) ?_
  show own_Go p e below _ (T37.setTop (mkF m 190 #[.val (.long q0), .second, .val (.long q1), .second, .val (.int p2), .val (.int p3), .val (.int p4), .val (.long v1), .second, .val (.long v2), .second, .val (.long v3), .second, .val (.long v4), .second, .val (.int v5), .val (.long v6), .second, .val (.long v7), .second, .val (.long v8), .second, .val (.ref b9), .val (.double v18), .second, .val (.double v26), .second, .val (.double v34), .second, .val (.int z42), .val (.long v44), .second, .val (.long (v7 * v4)), .second, .unset, .unset, .unset] []))
  generalize hv45 : (v7 * v4) = v45
  show own_Go p e below _ (T37.setTop (mkF m 190 #[.val (.long q0), .second, .val (.long q1), .second, .val (.int p2), .val (.int p3), .val (.int p4), .val (.long v1), .second, .val (.long v2), .second, .val (.long v3), .second, .val (.long v4), .second, .val (.int v5), .val (.long v6), .second, .val (.long v7), .second, .val (.long v8), .second, .val (.ref b9), .val (.double v18), .second, .val (.double v26), .second, .val (.double v34), .second, .val (.int z42), .val (.long v44), .second, .val (.long v45), .second, .unset, .unset, .unset] []))
  refine own_by (fun _ k => XS.dload X39.here hx rfl (hb hby at_190) rfl k) ?_
  show own_Go p e below _ (T37.setTop (mkF m 192 #[.val (.long q0), .second, .val (.long q1), .second, .val (.int p2), .val (.int p3), .val (.int p4), .val (.long v1), .second, .val (.long v2), .second, .val (.long v3), .second, .val (.long v4), .second, .val (.int v5), .val (.long v6), .second, .val (.long v7), .second, .val (.long v8), .second, .val (.ref b9), .val (.double v18), .second, .val (.double v26), .second, .val (.double v34), .second, .val (.int z42), .val (.long v44), .second, .val (.long v45), .second, .unset, .unset, .unset] [(.double v18)]))
  refine own_by (fun _ k => XS.dload X39.here hx rfl (hb hby at_192) rfl k) ?_
  show own_Go p e below _ (T37.setTop (mkF m 194 #[.val (.long q0), .second, .val (.long q1), .second, .val (.int p2), .val (.int p3), .val (.int p4), .val (.long v1), .second, .val (.long v2), .second, .val (.long v3), .second, .val (.long v4), .second, .val (.int v5), .val (.long v6), .second, .val (.long v7), .second, .val (.long v8), .second, .val (.ref b9), .val (.double v18), .second, .val (.double v26), .second, .val (.double v34), .second, .val (.int z42), .val (.long v44), .second, .val (.long v45), .second, .unset, .unset, .unset] [(.double v26), (.double v18)]))
  refine own_by (fun _ k => XS.dcmpS X39.here hx rfl (hb hby at_194) rfl rfl k) ?_
  show own_Go p e below _ (T37.setTop (mkF m 195 #[.val (.long q0), .second, .val (.long q1), .second, .val (.int p2), .val (.int p3), .val (.int p4), .val (.long v1), .second, .val (.long v2), .second, .val (.long v3), .second, .val (.long v4), .second, .val (.int v5), .val (.long v6), .second, .val (.long v7), .second, .val (.long v8), .second, .val (.ref b9), .val (.double v18), .second, .val (.double v26), .second, .val (.double v34), .second, .val (.int z42), .val (.long v44), .second, .val (.long v45), .second, .unset, .unset, .unset] [(.int (cmpValue (FP.dcmp v18 v26) .g))]))
  have J47 : ∀ (T48 : State) (L49 : List Loc) (z53 : Int32), Stand p l e room_1 s m #[(.long q0), (.long q1), (.int p2), (.int p3), (.int p4)] below meth c T48 L49 4 6 → T48.heap = T28.heap → Fr n0 L49 → ((((cmpValue (FP.dcmp v18 v26) .g) < (0 : Int32)) ∧ z53 = (1 : Int32)) ∨ ((¬ ((cmpValue (FP.dcmp v18 v26) .g) < (0 : Int32))) ∧ z53 = (0 : Int32))) → own_Go p e below (own_Fin s 16 128 (Q0 Z q0 q1 p2 p3 p4 h0 n0)) (T48.setTop (mkF m 203 #[.val (.long q0), .second, .val (.long q1), .second, .val (.int p2), .val (.int p3), .val (.int p4), .val (.long v1), .second, .val (.long v2), .second, .val (.long v3), .second, .val (.long v4), .second, .val (.int v5), .val (.long v6), .second, .val (.long v7), .second, .val (.long v8), .second, .val (.ref b9), .val (.double v18), .second, .val (.double v26), .second, .val (.double v34), .second, .val (.int z42), .val (.long v44), .second, .val (.long v45), .second, .unset, .unset, .unset] [(.int z53)])) := by
   intro T48 L49 z53 X50 e51 N52 hj54
   refine own_by (fun _ k => XS.lload X50.here hx rfl (hb hby at_203) rfl k) ?_
   show own_Go p e below _ (T48.setTop (mkF m 205 #[.val (.long q0), .second, .val (.long q1), .second, .val (.int p2), .val (.int p3), .val (.int p4), .val (.long v1), .second, .val (.long v2), .second, .val (.long v3), .second, .val (.long v4), .second, .val (.int v5), .val (.long v6), .second, .val (.long v7), .second, .val (.long v8), .second, .val (.ref b9), .val (.double v18), .second, .val (.double v26), .second, .val (.double v34), .second, .val (.int z42), .val (.long v44), .second, .val (.long v45), .second, .unset, .unset, .unset] [(.long v44), (.int z53)]))
   refine own_by (fun _ k => XS.lload X50.here hx rfl (hb hby at_205) rfl k) ?_
   show own_Go p e below _ (T48.setTop (mkF m 207 #[.val (.long q0), .second, .val (.long q1), .second, .val (.int p2), .val (.int p3), .val (.int p4), .val (.long v1), .second, .val (.long v2), .second, .val (.long v3), .second, .val (.long v4), .second, .val (.int v5), .val (.long v6), .second, .val (.long v7), .second, .val (.long v8), .second, .val (.ref b9), .val (.double v18), .second, .val (.double v26), .second, .val (.double v34), .second, .val (.int z42), .val (.long v44), .second, .val (.long v45), .second, .unset, .unset, .unset] [(.long v45), (.long v44), (.int z53)]))
   refine own_by (fun _ k => XS.lcmp X50.here hx rfl (hb hby at_207) rfl k) ?_
   show own_Go p e below _ (T48.setTop (mkF m 208 #[.val (.long q0), .second, .val (.long q1), .second, .val (.int p2), .val (.int p3), .val (.int p4), .val (.long v1), .second, .val (.long v2), .second, .val (.long v3), .second, .val (.long v4), .second, .val (.int v5), .val (.long v6), .second, .val (.long v7), .second, .val (.long v8), .second, .val (.ref b9), .val (.double v18), .second, .val (.double v26), .second, .val (.double v34), .second, .val (.int z42), .val (.long v44), .second, .val (.long v45), .second, .unset, .unset, .unset] [(.int (lcmpW v44 v45)), (.int z53)]))
   have J56 : ∀ (T57 : State) (L58 : List Loc) (z62 : Int32), Stand p l e room_1 s m #[(.long q0), (.long q1), (.int p2), (.int p3), (.int p4)] below meth c T57 L58 4 6 → T57.heap = T28.heap → Fr n0 L58 → (((v44 < v45) ∧ z62 = (1 : Int32)) ∨ ((¬ (v44 < v45)) ∧ z62 = (0 : Int32))) → own_Go p e below (own_Fin s 16 128 (Q0 Z q0 q1 p2 p3 p4 h0 n0)) (T57.setTop (mkF m 216 #[.val (.long q0), .second, .val (.long q1), .second, .val (.int p2), .val (.int p3), .val (.int p4), .val (.long v1), .second, .val (.long v2), .second, .val (.long v3), .second, .val (.long v4), .second, .val (.int v5), .val (.long v6), .second, .val (.long v7), .second, .val (.long v8), .second, .val (.ref b9), .val (.double v18), .second, .val (.double v26), .second, .val (.double v34), .second, .val (.int z42), .val (.long v44), .second, .val (.long v45), .second, .unset, .unset, .unset] [(.int z62), (.int z53)])) := by
    intro T57 L58 z62 X59 e60 N61 hj63
    have J84 : ∀ (T85 : State) (L86 : List Loc) (z90 : Int32), Stand p l e room_1 s m #[(.long q0), (.long q1), (.int p2), (.int p3), (.int p4)] below meth c T85 L86 4 6 → T85.heap = T28.heap → Fr n0 L86 → ((∃ (z72 : Int32) (z81 : Int32), (z53 = z62) ∧ ((((cmpValue (FP.dcmp v18 v26) .l) = (0 : Int32)) ∧ z72 = (1 : Int32)) ∨ ((¬ ((cmpValue (FP.dcmp v18 v26) .l) = (0 : Int32))) ∧ z72 = (0 : Int32))) ∧ (((v44 = v45) ∧ z81 = (1 : Int32)) ∨ ((¬ (v44 = v45)) ∧ z81 = (0 : Int32))) ∧ (z72 = z81) ∧ z90 = (1 : Int32)) ∨ (∃ (z72 : Int32) (z81 : Int32), (z53 = z62) ∧ ((((cmpValue (FP.dcmp v18 v26) .l) = (0 : Int32)) ∧ z72 = (1 : Int32)) ∨ ((¬ ((cmpValue (FP.dcmp v18 v26) .l) = (0 : Int32))) ∧ z72 = (0 : Int32))) ∧ (((v44 = v45) ∧ z81 = (1 : Int32)) ∨ ((¬ (v44 = v45)) ∧ z81 = (0 : Int32))) ∧ (¬ (z72 = z81)) ∧ z90 = (0 : Int32)) ∨ ((¬ (z53 = z62)) ∧ z90 = (0 : Int32))) → own_Go p e below (own_Fin s 16 128 (Q0 Z q0 q1 p2 p3 p4 h0 n0)) (T85.setTop (mkF m 253 #[.val (.long q0), .second, .val (.long q1), .second, .val (.int p2), .val (.int p3), .val (.int p4), .val (.long v1), .second, .val (.long v2), .second, .val (.long v3), .second, .val (.long v4), .second, .val (.int v5), .val (.long v6), .second, .val (.long v7), .second, .val (.long v8), .second, .val (.ref b9), .val (.double v18), .second, .val (.double v26), .second, .val (.double v34), .second, .val (.int z42), .val (.long v44), .second, .val (.long v45), .second, .unset, .unset, .unset] [(.int z90)])) := by
     intro T85 L86 z90 X87 e88 N89 hj91
     refine own_by (fun _ k => XS.istore X87.here hx rfl (hb hby at_253) rfl (l' := #[.val (.long q0), .second, .val (.long q1), .second, .val (.int p2), .val (.int p3), .val (.int p4), .val (.long v1), .second, .val (.long v2), .second, .val (.long v3), .second, .val (.long v4), .second, .val (.int v5), .val (.long v6), .second, .val (.long v7), .second, .val (.long v8), .second, .val (.ref b9), .val (.double v18), .second, .val (.double v26), .second, .val (.double v34), .second, .val (.int z42), .val (.long v44), .second, .val (.long v45), .second, .val (.int z90), .unset, .unset]) rfl k) ?_
     show own_Go p e below _ (T85.setTop (mkF m 255 #[.val (.long q0), .second, .val (.long q1), .second, .val (.int p2), .val (.int p3), .val (.int p4), .val (.long v1), .second, .val (.long v2), .second, .val (.long v3), .second, .val (.long v4), .second, .val (.int v5), .val (.long v6), .second, .val (.long v7), .second, .val (.long v8), .second, .val (.ref b9), .val (.double v18), .second, .val (.double v26), .second, .val (.double v34), .second, .val (.int z42), .val (.long v44), .second, .val (.long v45), .second, .val (.int z90), .unset, .unset] []))
     refine own_by (fun _ k => XS.dload X87.here hx rfl (hb hby at_255) rfl k) ?_
     show own_Go p e below _ (T85.setTop (mkF m 257 #[.val (.long q0), .second, .val (.long q1), .second, .val (.int p2), .val (.int p3), .val (.int p4), .val (.long v1), .second, .val (.long v2), .second, .val (.long v3), .second, .val (.long v4), .second, .val (.int v5), .val (.long v6), .second, .val (.long v7), .second, .val (.long v8), .second, .val (.ref b9), .val (.double v18), .second, .val (.double v26), .second, .val (.double v34), .second, .val (.int z42), .val (.long v44), .second, .val (.long v45), .second, .val (.int z90), .unset, .unset] [(.double v34)]))
     refine own_by (fun _ k => XS.dload X87.here hx rfl (hb hby at_257) rfl k) ?_
     show own_Go p e below _ (T85.setTop (mkF m 259 #[.val (.long q0), .second, .val (.long q1), .second, .val (.int p2), .val (.int p3), .val (.int p4), .val (.long v1), .second, .val (.long v2), .second, .val (.long v3), .second, .val (.long v4), .second, .val (.int v5), .val (.long v6), .second, .val (.long v7), .second, .val (.long v8), .second, .val (.ref b9), .val (.double v18), .second, .val (.double v26), .second, .val (.double v34), .second, .val (.int z42), .val (.long v44), .second, .val (.long v45), .second, .val (.int z90), .unset, .unset] [(.double v18), (.double v34)]))
     refine own_by (fun _ k => XS.dcmpS X87.here hx rfl (hb hby at_259) rfl rfl k) ?_
     show own_Go p e below _ (T85.setTop (mkF m 260 #[.val (.long q0), .second, .val (.long q1), .second, .val (.int p2), .val (.int p3), .val (.int p4), .val (.long v1), .second, .val (.long v2), .second, .val (.long v3), .second, .val (.long v4), .second, .val (.int v5), .val (.long v6), .second, .val (.long v7), .second, .val (.long v8), .second, .val (.ref b9), .val (.double v18), .second, .val (.double v26), .second, .val (.double v34), .second, .val (.int z42), .val (.long v44), .second, .val (.long v45), .second, .val (.int z90), .unset, .unset] [(.int (cmpValue (FP.dcmp v34 v18) .l))]))
     have J93 : ∀ (T94 : State) (L95 : List Loc) (z99 : Int32), Stand p l e room_1 s m #[(.long q0), (.long q1), (.int p2), (.int p3), (.int p4)] below meth c T94 L95 4 6 → T94.heap = T28.heap → Fr n0 L95 → ((((cmpValue (FP.dcmp v34 v18) .l) = (0 : Int32)) ∧ z99 = (1 : Int32)) ∨ ((¬ ((cmpValue (FP.dcmp v34 v18) .l) = (0 : Int32))) ∧ z99 = (0 : Int32))) → own_Go p e below (own_Fin s 16 128 (Q0 Z q0 q1 p2 p3 p4 h0 n0)) (T94.setTop (mkF m 268 #[.val (.long q0), .second, .val (.long q1), .second, .val (.int p2), .val (.int p3), .val (.int p4), .val (.long v1), .second, .val (.long v2), .second, .val (.long v3), .second, .val (.long v4), .second, .val (.int v5), .val (.long v6), .second, .val (.long v7), .second, .val (.long v8), .second, .val (.ref b9), .val (.double v18), .second, .val (.double v26), .second, .val (.double v34), .second, .val (.int z42), .val (.long v44), .second, .val (.long v45), .second, .val (.int z90), .unset, .unset] [(.int z99)])) := by
      intro T94 L95 z99 X96 e97 N98 hj100
      refine own_by (fun _ k => XS.istore X96.here hx rfl (hb hby at_268) rfl (l' := #[.val (.long q0), .second, .val (.long q1), .second, .val (.int p2), .val (.int p3), .val (.int p4), .val (.long v1), .second, .val (.long v2), .second, .val (.long v3), .second, .val (.long v4), .second, .val (.int v5), .val (.long v6), .second, .val (.long v7), .second, .val (.long v8), .second, .val (.ref b9), .val (.double v18), .second, .val (.double v26), .second, .val (.double v34), .second, .val (.int z42), .val (.long v44), .second, .val (.long v45), .second, .val (.int z90), .val (.int z99), .unset]) rfl k) ?_
      show own_Go p e below _ (T94.setTop (mkF m 270 #[.val (.long q0), .second, .val (.long q1), .second, .val (.int p2), .val (.int p3), .val (.int p4), .val (.long v1), .second, .val (.long v2), .second, .val (.long v3), .second, .val (.long v4), .second, .val (.int v5), .val (.long v6), .second, .val (.long v7), .second, .val (.long v8), .second, .val (.ref b9), .val (.double v18), .second, .val (.double v26), .second, .val (.double v34), .second, .val (.int z42), .val (.long v44), .second, .val (.long v45), .second, .val (.int z90), .val (.int z99), .unset] []))
      refine own_by (fun _ k => XS.dconst0 X96.here hx rfl (hb hby at_270) rfl k) ?_
      show own_Go p e below _ (T94.setTop (mkF m 271 #[.val (.long q0), .second, .val (.long q1), .second, .val (.int p2), .val (.int p3), .val (.int p4), .val (.long v1), .second, .val (.long v2), .second, .val (.long v3), .second, .val (.long v4), .second, .val (.int v5), .val (.long v6), .second, .val (.long v7), .second, .val (.long v8), .second, .val (.ref b9), .val (.double v18), .second, .val (.double v26), .second, .val (.double v34), .second, .val (.int z42), .val (.long v44), .second, .val (.long v45), .second, .val (.int z90), .val (.int z99), .unset] [(.double FP.dconst0)]))
      refine own_by (fun _ k => XS.dload X96.here hx rfl (hb hby at_271) rfl k) ?_
      show own_Go p e below _ (T94.setTop (mkF m 273 #[.val (.long q0), .second, .val (.long q1), .second, .val (.int p2), .val (.int p3), .val (.int p4), .val (.long v1), .second, .val (.long v2), .second, .val (.long v3), .second, .val (.long v4), .second, .val (.int v5), .val (.long v6), .second, .val (.long v7), .second, .val (.long v8), .second, .val (.ref b9), .val (.double v18), .second, .val (.double v26), .second, .val (.double v34), .second, .val (.int z42), .val (.long v44), .second, .val (.long v45), .second, .val (.int z90), .val (.int z99), .unset] [(.double v18), (.double FP.dconst0)]))
      refine own_by (fun _ k => XS.dcmpS X96.here hx rfl (hb hby at_273) rfl rfl k) ?_
      show own_Go p e below _ (T94.setTop (mkF m 274 #[.val (.long q0), .second, .val (.long q1), .second, .val (.int p2), .val (.int p3), .val (.int p4), .val (.long v1), .second, .val (.long v2), .second, .val (.long v3), .second, .val (.long v4), .second, .val (.int v5), .val (.long v6), .second, .val (.long v7), .second, .val (.long v8), .second, .val (.ref b9), .val (.double v18), .second, .val (.double v26), .second, .val (.double v34), .second, .val (.int z42), .val (.long v44), .second, .val (.long v45), .second, .val (.int z90), .val (.int z99), .unset] [(.int (cmpValue (FP.dcmp FP.dconst0 v18) .g))]))
      have J103 : ∀ (T104 : State) (L105 : List Loc) (z109 : Int32), Stand p l e room_1 s m #[(.long q0), (.long q1), (.int p2), (.int p3), (.int p4)] below meth c T104 L105 4 6 → T104.heap = T28.heap → Fr n0 L105 → ((((cmpValue (FP.dcmp FP.dconst0 v18) .g) < (0 : Int32)) ∧ ((cmpValue (FP.dcmp v18 FP.dconst1) .g) < (0 : Int32)) ∧ z109 = (1 : Int32)) ∨ (((cmpValue (FP.dcmp FP.dconst0 v18) .g) < (0 : Int32)) ∧ (¬ ((cmpValue (FP.dcmp v18 FP.dconst1) .g) < (0 : Int32))) ∧ z109 = (0 : Int32)) ∨ ((¬ ((cmpValue (FP.dcmp FP.dconst0 v18) .g) < (0 : Int32))) ∧ z109 = (0 : Int32))) → own_Go p e below (own_Fin s 16 128 (Q0 Z q0 q1 p2 p3 p4 h0 n0)) (T104.setTop (mkF m 289 #[.val (.long q0), .second, .val (.long q1), .second, .val (.int p2), .val (.int p3), .val (.int p4), .val (.long v1), .second, .val (.long v2), .second, .val (.long v3), .second, .val (.long v4), .second, .val (.int v5), .val (.long v6), .second, .val (.long v7), .second, .val (.long v8), .second, .val (.ref b9), .val (.double v18), .second, .val (.double v26), .second, .val (.double v34), .second, .val (.int z42), .val (.long v44), .second, .val (.long v45), .second, .val (.int z90), .val (.int z99), .unset] [(.int z109)])) := by
       intro T104 L105 z109 X106 e107 N108 hj110
       refine own_by (fun _ k => XS.istore X106.here hx rfl (hb hby at_289) rfl (l' := #[.val (.long q0), .second, .val (.long q1), .second, .val (.int p2), .val (.int p3), .val (.int p4), .val (.long v1), .second, .val (.long v2), .second, .val (.long v3), .second, .val (.long v4), .second, .val (.int v5), .val (.long v6), .second, .val (.long v7), .second, .val (.long v8), .second, .val (.ref b9), .val (.double v18), .second, .val (.double v26), .second, .val (.double v34), .second, .val (.int z42), .val (.long v44), .second, .val (.long v45), .second, .val (.int z90), .val (.int z99), .val (.int z109)]) rfl k) ?_
       show own_Go p e below _ (T104.setTop (mkF m 291 #[.val (.long q0), .second, .val (.long q1), .second, .val (.int p2), .val (.int p3), .val (.int p4), .val (.long v1), .second, .val (.long v2), .second, .val (.long v3), .second, .val (.long v4), .second, .val (.int v5), .val (.long v6), .second, .val (.long v7), .second, .val (.long v8), .second, .val (.ref b9), .val (.double v18), .second, .val (.double v26), .second, .val (.double v34), .second, .val (.int z42), .val (.long v44), .second, .val (.long v45), .second, .val (.int z90), .val (.int z99), .val (.int z109)] []))
       refine own_by (fun _ k => XS.iload X106.here hx rfl (hb hby at_291) rfl k) ?_
       show own_Go p e below _ (T104.setTop (mkF m 293 #[.val (.long q0), .second, .val (.long q1), .second, .val (.int p2), .val (.int p3), .val (.int p4), .val (.long v1), .second, .val (.long v2), .second, .val (.long v3), .second, .val (.long v4), .second, .val (.int v5), .val (.long v6), .second, .val (.long v7), .second, .val (.long v8), .second, .val (.ref b9), .val (.double v18), .second, .val (.double v26), .second, .val (.double v34), .second, .val (.int z42), .val (.long v44), .second, .val (.long v45), .second, .val (.int z90), .val (.int z99), .val (.int z109)] [(.int z42)]))
       by_cases c111 : z42 = (0 : Int32)
       ·skip
        refine own_by (fun _ k => XS.ifYes X106.here hx rfl (pc0 := 293) (pc' := 315) rfl (hb hby at_293) rfl ((if0 _ _).trans (teq c111).1) (by decide) (by decide) k) ?_
        show own_Go p e below _ (T104.setTop (mkF m 315 #[.val (.long q0), .second, .val (.long q1), .second, .val (.int p2), .val (.int p3), .val (.int p4), .val (.long v1), .second, .val (.long v2), .second, .val (.long v3), .second, .val (.long v4), .second, .val (.int v5), .val (.long v6), .second, .val (.long v7), .second, .val (.long v8), .second, .val (.ref b9), .val (.double v18), .second, .val (.double v26), .second, .val (.double v34), .second, .val (.int z42), .val (.long v44), .second, .val (.long v45), .second, .val (.int z90), .val (.int z99), .val (.int z109)] []))
        refine own_by (fun _ k => XS.iconst X106.here hx rfl (hb hby at_315) k) ?_
        show own_Go p e below _ (T104.setTop (mkF m 316 #[.val (.long q0), .second, .val (.long q1), .second, .val (.int p2), .val (.int p3), .val (.int p4), .val (.long v1), .second, .val (.long v2), .second, .val (.long v3), .second, .val (.long v4), .second, .val (.int v5), .val (.long v6), .second, .val (.long v7), .second, .val (.long v8), .second, .val (.ref b9), .val (.double v18), .second, .val (.double v26), .second, .val (.double v34), .second, .val (.int z42), .val (.long v44), .second, .val (.long v45), .second, .val (.int z90), .val (.int z99), .val (.int z109)] [(.int (0 : Int32))]))
        exact own_retN X106 hx (t := .boolean) Bd.returns (by simp) (hb hby at_316) hlk e107 ⟨((ob_0_18 q0 q1 p2 p3 p4 v1 v2 v3 v4 v5 v6 v7 v8 v18 v26 v34 z42 v44 v45 z53 z62 z90 z99 z109 hv1 hv2 hv3 hv4 hv5 hv6 hv7 hv8 hv18 hv26 hv34 hj43 hv44 hv45 hj54 hj63 hj91 hj100 hj110 c111)).elim, N108⟩ (by decide) (by decide)
       ·skip
        refine own_by (fun _ k => XS.ifNo X106.here hx rfl (hb hby at_293) rfl ((if0 _ _).trans (feq c111).1) k) ?_
        show own_Go p e below _ (T104.setTop (mkF m 296 #[.val (.long q0), .second, .val (.long q1), .second, .val (.int p2), .val (.int p3), .val (.int p4), .val (.long v1), .second, .val (.long v2), .second, .val (.long v3), .second, .val (.long v4), .second, .val (.int v5), .val (.long v6), .second, .val (.long v7), .second, .val (.long v8), .second, .val (.ref b9), .val (.double v18), .second, .val (.double v26), .second, .val (.double v34), .second, .val (.int z42), .val (.long v44), .second, .val (.long v45), .second, .val (.int z90), .val (.int z99), .val (.int z109)] []))
        refine own_by (fun _ k => XS.iload X106.here hx rfl (hb hby at_296) rfl k) ?_
        show own_Go p e below _ (T104.setTop (mkF m 298 #[.val (.long q0), .second, .val (.long q1), .second, .val (.int p2), .val (.int p3), .val (.int p4), .val (.long v1), .second, .val (.long v2), .second, .val (.long v3), .second, .val (.long v4), .second, .val (.int v5), .val (.long v6), .second, .val (.long v7), .second, .val (.long v8), .second, .val (.ref b9), .val (.double v18), .second, .val (.double v26), .second, .val (.double v34), .second, .val (.int z42), .val (.long v44), .second, .val (.long v45), .second, .val (.int z90), .val (.int z99), .val (.int z109)] [(.int z90)]))
        by_cases c112 : z90 = (0 : Int32)
        ·skip
         refine own_by (fun _ k => XS.ifYes X106.here hx rfl (pc0 := 298) (pc' := 315) rfl (hb hby at_298) rfl ((if0 _ _).trans (teq c112).1) (by decide) (by decide) k) ?_
         show own_Go p e below _ (T104.setTop (mkF m 315 #[.val (.long q0), .second, .val (.long q1), .second, .val (.int p2), .val (.int p3), .val (.int p4), .val (.long v1), .second, .val (.long v2), .second, .val (.long v3), .second, .val (.long v4), .second, .val (.int v5), .val (.long v6), .second, .val (.long v7), .second, .val (.long v8), .second, .val (.ref b9), .val (.double v18), .second, .val (.double v26), .second, .val (.double v34), .second, .val (.int z42), .val (.long v44), .second, .val (.long v45), .second, .val (.int z90), .val (.int z99), .val (.int z109)] []))
         refine own_by (fun _ k => XS.iconst X106.here hx rfl (hb hby at_315) k) ?_
         show own_Go p e below _ (T104.setTop (mkF m 316 #[.val (.long q0), .second, .val (.long q1), .second, .val (.int p2), .val (.int p3), .val (.int p4), .val (.long v1), .second, .val (.long v2), .second, .val (.long v3), .second, .val (.long v4), .second, .val (.int v5), .val (.long v6), .second, .val (.long v7), .second, .val (.long v8), .second, .val (.ref b9), .val (.double v18), .second, .val (.double v26), .second, .val (.double v34), .second, .val (.int z42), .val (.long v44), .second, .val (.long v45), .second, .val (.int z90), .val (.int z99), .val (.int z109)] [(.int (0 : Int32))]))
         exact own_retN X106 hx (t := .boolean) Bd.returns (by simp) (hb hby at_316) hlk e107 ⟨((ob_0_19 q0 q1 p2 p3 p4 v1 v2 v3 v4 v5 v6 v7 v8 v18 v26 v34 z42 v44 v45 z53 z62 z90 z99 z109 hv1 hv2 hv3 hv4 hv5 hv6 hv7 hv8 hv18 hv26 hv34 hj43 hv44 hv45 hj54 hj63 hj91 hj100 hj110 c111 c112)).elim, N108⟩ (by decide) (by decide)
        ·skip
         refine own_by (fun _ k => XS.ifNo X106.here hx rfl (hb hby at_298) rfl ((if0 _ _).trans (feq c112).1) k) ?_
         show own_Go p e below _ (T104.setTop (mkF m 301 #[.val (.long q0), .second, .val (.long q1), .second, .val (.int p2), .val (.int p3), .val (.int p4), .val (.long v1), .second, .val (.long v2), .second, .val (.long v3), .second, .val (.long v4), .second, .val (.int v5), .val (.long v6), .second, .val (.long v7), .second, .val (.long v8), .second, .val (.ref b9), .val (.double v18), .second, .val (.double v26), .second, .val (.double v34), .second, .val (.int z42), .val (.long v44), .second, .val (.long v45), .second, .val (.int z90), .val (.int z99), .val (.int z109)] []))
         refine own_by (fun _ k => XS.iload X106.here hx rfl (hb hby at_301) rfl k) ?_
         show own_Go p e below _ (T104.setTop (mkF m 303 #[.val (.long q0), .second, .val (.long q1), .second, .val (.int p2), .val (.int p3), .val (.int p4), .val (.long v1), .second, .val (.long v2), .second, .val (.long v3), .second, .val (.long v4), .second, .val (.int v5), .val (.long v6), .second, .val (.long v7), .second, .val (.long v8), .second, .val (.ref b9), .val (.double v18), .second, .val (.double v26), .second, .val (.double v34), .second, .val (.int z42), .val (.long v44), .second, .val (.long v45), .second, .val (.int z90), .val (.int z99), .val (.int z109)] [(.int z99)]))
         by_cases c113 : z99 = (0 : Int32)
         ·skip
          refine own_by (fun _ k => XS.ifYes X106.here hx rfl (pc0 := 303) (pc' := 315) rfl (hb hby at_303) rfl ((if0 _ _).trans (teq c113).1) (by decide) (by decide) k) ?_
          show own_Go p e below _ (T104.setTop (mkF m 315 #[.val (.long q0), .second, .val (.long q1), .second, .val (.int p2), .val (.int p3), .val (.int p4), .val (.long v1), .second, .val (.long v2), .second, .val (.long v3), .second, .val (.long v4), .second, .val (.int v5), .val (.long v6), .second, .val (.long v7), .second, .val (.long v8), .second, .val (.ref b9), .val (.double v18), .second, .val (.double v26), .second, .val (.double v34), .second, .val (.int z42), .val (.long v44), .second, .val (.long v45), .second, .val (.int z90), .val (.int z99), .val (.int z109)] []))
          refine own_by (fun _ k => XS.iconst X106.here hx rfl (hb hby at_315) k) ?_
          show own_Go p e below _ (T104.setTop (mkF m 316 #[.val (.long q0), .second, .val (.long q1), .second, .val (.int p2), .val (.int p3), .val (.int p4), .val (.long v1), .second, .val (.long v2), .second, .val (.long v3), .second, .val (.long v4), .second, .val (.int v5), .val (.long v6), .second, .val (.long v7), .second, .val (.long v8), .second, .val (.ref b9), .val (.double v18), .second, .val (.double v26), .second, .val (.double v34), .second, .val (.int z42), .val (.long v44), .second, .val (.long v45), .second, .val (.int z90), .val (.int z99), .val (.int z109)] [(.int (0 : Int32))]))
          exact own_retN X106 hx (t := .boolean) Bd.returns (by simp) (hb hby at_316) hlk e107 ⟨((ob_0_20 q0 q1 p2 p3 p4 v1 v2 v3 v4 v5 v6 v7 v8 v18 v26 v34 z42 v44 v45 z53 z62 z90 z99 z109 hv1 hv2 hv3 hv4 hv5 hv6 hv7 hv8 hv18 hv26 hv34 hj43 hv44 hv45 hj54 hj63 hj91 hj100 hj110 c111 c112 c113)).elim, N108⟩ (by decide) (by decide)
         ·skip
          refine own_by (fun _ k => XS.ifNo X106.here hx rfl (hb hby at_303) rfl ((if0 _ _).trans (feq c113).1) k) ?_
          show own_Go p e below _ (T104.setTop (mkF m 306 #[.val (.long q0), .second, .val (.long q1), .second, .val (.int p2), .val (.int p3), .val (.int p4), .val (.long v1), .second, .val (.long v2), .second, .val (.long v3), .second, .val (.long v4), .second, .val (.int v5), .val (.long v6), .second, .val (.long v7), .second, .val (.long v8), .second, .val (.ref b9), .val (.double v18), .second, .val (.double v26), .second, .val (.double v34), .second, .val (.int z42), .val (.long v44), .second, .val (.long v45), .second, .val (.int z90), .val (.int z99), .val (.int z109)] []))
          refine own_by (fun _ k => XS.iload X106.here hx rfl (hb hby at_306) rfl k) ?_
          show own_Go p e below _ (T104.setTop (mkF m 308 #[.val (.long q0), .second, .val (.long q1), .second, .val (.int p2), .val (.int p3), .val (.int p4), .val (.long v1), .second, .val (.long v2), .second, .val (.long v3), .second, .val (.long v4), .second, .val (.int v5), .val (.long v6), .second, .val (.long v7), .second, .val (.long v8), .second, .val (.ref b9), .val (.double v18), .second, .val (.double v26), .second, .val (.double v34), .second, .val (.int z42), .val (.long v44), .second, .val (.long v45), .second, .val (.int z90), .val (.int z99), .val (.int z109)] [(.int z109)]))
          by_cases c114 : z109 = (0 : Int32)
          ·skip
           refine own_by (fun _ k => XS.ifYes X106.here hx rfl (pc0 := 308) (pc' := 315) rfl (hb hby at_308) rfl ((if0 _ _).trans (teq c114).1) (by decide) (by decide) k) ?_
           show own_Go p e below _ (T104.setTop (mkF m 315 #[.val (.long q0), .second, .val (.long q1), .second, .val (.int p2), .val (.int p3), .val (.int p4), .val (.long v1), .second, .val (.long v2), .second, .val (.long v3), .second, .val (.long v4), .second, .val (.int v5), .val (.long v6), .second, .val (.long v7), .second, .val (.long v8), .second, .val (.ref b9), .val (.double v18), .second, .val (.double v26), .second, .val (.double v34), .second, .val (.int z42), .val (.long v44), .second, .val (.long v45), .second, .val (.int z90), .val (.int z99), .val (.int z109)] []))
           refine own_by (fun _ k => XS.iconst X106.here hx rfl (hb hby at_315) k) ?_
           show own_Go p e below _ (T104.setTop (mkF m 316 #[.val (.long q0), .second, .val (.long q1), .second, .val (.int p2), .val (.int p3), .val (.int p4), .val (.long v1), .second, .val (.long v2), .second, .val (.long v3), .second, .val (.long v4), .second, .val (.int v5), .val (.long v6), .second, .val (.long v7), .second, .val (.long v8), .second, .val (.ref b9), .val (.double v18), .second, .val (.double v26), .second, .val (.double v34), .second, .val (.int z42), .val (.long v44), .second, .val (.long v45), .second, .val (.int z90), .val (.int z99), .val (.int z109)] [(.int (0 : Int32))]))
           exact own_retN X106 hx (t := .boolean) Bd.returns (by simp) (hb hby at_316) hlk e107 ⟨((ob_0_21 q0 q1 p2 p3 p4 v1 v2 v3 v4 v5 v6 v7 v8 v18 v26 v34 z42 v44 v45 z53 z62 z90 z99 z109 hv1 hv2 hv3 hv4 hv5 hv6 hv7 hv8 hv18 hv26 hv34 hj43 hv44 hv45 hj54 hj63 hj91 hj100 hj110 c111 c112 c113 c114)).elim, N108⟩ (by decide) (by decide)
          ·skip
           refine own_by (fun _ k => XS.ifNo X106.here hx rfl (hb hby at_308) rfl ((if0 _ _).trans (feq c114).1) k) ?_
           show own_Go p e below _ (T104.setTop (mkF m 311 #[.val (.long q0), .second, .val (.long q1), .second, .val (.int p2), .val (.int p3), .val (.int p4), .val (.long v1), .second, .val (.long v2), .second, .val (.long v3), .second, .val (.long v4), .second, .val (.int v5), .val (.long v6), .second, .val (.long v7), .second, .val (.long v8), .second, .val (.ref b9), .val (.double v18), .second, .val (.double v26), .second, .val (.double v34), .second, .val (.int z42), .val (.long v44), .second, .val (.long v45), .second, .val (.int z90), .val (.int z99), .val (.int z109)] []))
           refine own_by (fun _ k => XS.iconst X106.here hx rfl (hb hby at_311) k) ?_
           show own_Go p e below _ (T104.setTop (mkF m 312 #[.val (.long q0), .second, .val (.long q1), .second, .val (.int p2), .val (.int p3), .val (.int p4), .val (.long v1), .second, .val (.long v2), .second, .val (.long v3), .second, .val (.long v4), .second, .val (.int v5), .val (.long v6), .second, .val (.long v7), .second, .val (.long v8), .second, .val (.ref b9), .val (.double v18), .second, .val (.double v26), .second, .val (.double v34), .second, .val (.int z42), .val (.long v44), .second, .val (.long v45), .second, .val (.int z90), .val (.int z99), .val (.int z109)] [(.int (1 : Int32))]))
           refine own_by (fun _ k => XS.goto X106.here hx rfl (pc0 := 312) (pc' := 316) rfl (hb hby at_312) (by decide) (by decide) k) ?_
           show own_Go p e below _ (T104.setTop (mkF m 316 #[.val (.long q0), .second, .val (.long q1), .second, .val (.int p2), .val (.int p3), .val (.int p4), .val (.long v1), .second, .val (.long v2), .second, .val (.long v3), .second, .val (.long v4), .second, .val (.int v5), .val (.long v6), .second, .val (.long v7), .second, .val (.long v8), .second, .val (.ref b9), .val (.double v18), .second, .val (.double v26), .second, .val (.double v34), .second, .val (.int z42), .val (.long v44), .second, .val (.long v45), .second, .val (.int z90), .val (.int z99), .val (.int z109)] [(.int (1 : Int32))]))
           exact own_retN X106 hx (t := .boolean) Bd.returns (by simp) (hb hby at_316) hlk e107 ⟨rfl, N108⟩ (by decide) (by decide)
      by_cases c101 : (cmpValue (FP.dcmp FP.dconst0 v18) .g) < (0 : Int32)
      ·skip
       refine own_by (fun _ k => XS.ifNo X96.here hx rfl (hb hby at_274) rfl ((if0 _ _).trans (tlt c101).2.1) k) ?_
       show own_Go p e below _ (T94.setTop (mkF m 277 #[.val (.long q0), .second, .val (.long q1), .second, .val (.int p2), .val (.int p3), .val (.int p4), .val (.long v1), .second, .val (.long v2), .second, .val (.long v3), .second, .val (.long v4), .second, .val (.int v5), .val (.long v6), .second, .val (.long v7), .second, .val (.long v8), .second, .val (.ref b9), .val (.double v18), .second, .val (.double v26), .second, .val (.double v34), .second, .val (.int z42), .val (.long v44), .second, .val (.long v45), .second, .val (.int z90), .val (.int z99), .unset] []))
       refine own_by (fun _ k => XS.dload X96.here hx rfl (hb hby at_277) rfl k) ?_
       show own_Go p e below _ (T94.setTop (mkF m 279 #[.val (.long q0), .second, .val (.long q1), .second, .val (.int p2), .val (.int p3), .val (.int p4), .val (.long v1), .second, .val (.long v2), .second, .val (.long v3), .second, .val (.long v4), .second, .val (.int v5), .val (.long v6), .second, .val (.long v7), .second, .val (.long v8), .second, .val (.ref b9), .val (.double v18), .second, .val (.double v26), .second, .val (.double v34), .second, .val (.int z42), .val (.long v44), .second, .val (.long v45), .second, .val (.int z90), .val (.int z99), .unset] [(.double v18)]))
       refine own_by (fun _ k => XS.dconst1 X96.here hx rfl (hb hby at_279) rfl k) ?_
       show own_Go p e below _ (T94.setTop (mkF m 280 #[.val (.long q0), .second, .val (.long q1), .second, .val (.int p2), .val (.int p3), .val (.int p4), .val (.long v1), .second, .val (.long v2), .second, .val (.long v3), .second, .val (.long v4), .second, .val (.int v5), .val (.long v6), .second, .val (.long v7), .second, .val (.long v8), .second, .val (.ref b9), .val (.double v18), .second, .val (.double v26), .second, .val (.double v34), .second, .val (.int z42), .val (.long v44), .second, .val (.long v45), .second, .val (.int z90), .val (.int z99), .unset] [(.double FP.dconst1), (.double v18)]))
       refine own_by (fun _ k => XS.dcmpS X96.here hx rfl (hb hby at_280) rfl rfl k) ?_
       show own_Go p e below _ (T94.setTop (mkF m 281 #[.val (.long q0), .second, .val (.long q1), .second, .val (.int p2), .val (.int p3), .val (.int p4), .val (.long v1), .second, .val (.long v2), .second, .val (.long v3), .second, .val (.long v4), .second, .val (.int v5), .val (.long v6), .second, .val (.long v7), .second, .val (.long v8), .second, .val (.ref b9), .val (.double v18), .second, .val (.double v26), .second, .val (.double v34), .second, .val (.int z42), .val (.long v44), .second, .val (.long v45), .second, .val (.int z90), .val (.int z99), .unset] [(.int (cmpValue (FP.dcmp v18 FP.dconst1) .g))]))
       by_cases c102 : (cmpValue (FP.dcmp v18 FP.dconst1) .g) < (0 : Int32)
       ·skip
        refine own_by (fun _ k => XS.ifNo X96.here hx rfl (hb hby at_281) rfl ((if0 _ _).trans (tlt c102).2.1) k) ?_
        show own_Go p e below _ (T94.setTop (mkF m 284 #[.val (.long q0), .second, .val (.long q1), .second, .val (.int p2), .val (.int p3), .val (.int p4), .val (.long v1), .second, .val (.long v2), .second, .val (.long v3), .second, .val (.long v4), .second, .val (.int v5), .val (.long v6), .second, .val (.long v7), .second, .val (.long v8), .second, .val (.ref b9), .val (.double v18), .second, .val (.double v26), .second, .val (.double v34), .second, .val (.int z42), .val (.long v44), .second, .val (.long v45), .second, .val (.int z90), .val (.int z99), .unset] []))
        refine own_by (fun _ k => XS.iconst X96.here hx rfl (hb hby at_284) k) ?_
        show own_Go p e below _ (T94.setTop (mkF m 285 #[.val (.long q0), .second, .val (.long q1), .second, .val (.int p2), .val (.int p3), .val (.int p4), .val (.long v1), .second, .val (.long v2), .second, .val (.long v3), .second, .val (.long v4), .second, .val (.int v5), .val (.long v6), .second, .val (.long v7), .second, .val (.long v8), .second, .val (.ref b9), .val (.double v18), .second, .val (.double v26), .second, .val (.double v34), .second, .val (.int z42), .val (.long v44), .second, .val (.long v45), .second, .val (.int z90), .val (.int z99), .unset] [(.int (1 : Int32))]))
        refine own_by (fun _ k => XS.goto X96.here hx rfl (pc0 := 285) (pc' := 289) rfl (hb hby at_285) (by decide) (by decide) k) ?_
        show own_Go p e below _ (T94.setTop (mkF m 289 #[.val (.long q0), .second, .val (.long q1), .second, .val (.int p2), .val (.int p3), .val (.int p4), .val (.long v1), .second, .val (.long v2), .second, .val (.long v3), .second, .val (.long v4), .second, .val (.int v5), .val (.long v6), .second, .val (.long v7), .second, .val (.long v8), .second, .val (.ref b9), .val (.double v18), .second, .val (.double v26), .second, .val (.double v34), .second, .val (.int z42), .val (.long v44), .second, .val (.long v45), .second, .val (.int z90), .val (.int z99), .unset] [(.int (1 : Int32))]))
        exact J103 _ _ (1 : Int32) X96 e97 N98 (Or.inl ⟨c101, c102, rfl⟩)
       ·skip
        refine own_by (fun _ k => XS.ifYes X96.here hx rfl (pc0 := 281) (pc' := 288) rfl (hb hby at_281) rfl ((if0 _ _).trans (flt c102).2.1) (by decide) (by decide) k) ?_
        show own_Go p e below _ (T94.setTop (mkF m 288 #[.val (.long q0), .second, .val (.long q1), .second, .val (.int p2), .val (.int p3), .val (.int p4), .val (.long v1), .second, .val (.long v2), .second, .val (.long v3), .second, .val (.long v4), .second, .val (.int v5), .val (.long v6), .second, .val (.long v7), .second, .val (.long v8), .second, .val (.ref b9), .val (.double v18), .second, .val (.double v26), .second, .val (.double v34), .second, .val (.int z42), .val (.long v44), .second, .val (.long v45), .second, .val (.int z90), .val (.int z99), .unset] []))
        refine own_by (fun _ k => XS.iconst X96.here hx rfl (hb hby at_288) k) ?_
        show own_Go p e below _ (T94.setTop (mkF m 289 #[.val (.long q0), .second, .val (.long q1), .second, .val (.int p2), .val (.int p3), .val (.int p4), .val (.long v1), .second, .val (.long v2), .second, .val (.long v3), .second, .val (.long v4), .second, .val (.int v5), .val (.long v6), .second, .val (.long v7), .second, .val (.long v8), .second, .val (.ref b9), .val (.double v18), .second, .val (.double v26), .second, .val (.double v34), .second, .val (.int z42), .val (.long v44), .second, .val (.long v45), .second, .val (.int z90), .val (.int z99), .unset] [(.int (0 : Int32))]))
        exact J103 _ _ (0 : Int32) X96 e97 N98 (Or.inr (Or.inl ⟨c101, c102, rfl⟩))
      ·skip
       refine own_by (fun _ k => XS.ifYes X96.here hx rfl (pc0 := 274) (pc' := 288) rfl (hb hby at_274) rfl ((if0 _ _).trans (flt c101).2.1) (by decide) (by decide) k) ?_
       show own_Go p e below _ (T94.setTop (mkF m 288 #[.val (.long q0), .second, .val (.long q1), .second, .val (.int p2), .val (.int p3), .val (.int p4), .val (.long v1), .second, .val (.long v2), .second, .val (.long v3), .second, .val (.long v4), .second, .val (.int v5), .val (.long v6), .second, .val (.long v7), .second, .val (.long v8), .second, .val (.ref b9), .val (.double v18), .second, .val (.double v26), .second, .val (.double v34), .second, .val (.int z42), .val (.long v44), .second, .val (.long v45), .second, .val (.int z90), .val (.int z99), .unset] []))
       refine own_by (fun _ k => XS.iconst X96.here hx rfl (hb hby at_288) k) ?_
       show own_Go p e below _ (T94.setTop (mkF m 289 #[.val (.long q0), .second, .val (.long q1), .second, .val (.int p2), .val (.int p3), .val (.int p4), .val (.long v1), .second, .val (.long v2), .second, .val (.long v3), .second, .val (.long v4), .second, .val (.int v5), .val (.long v6), .second, .val (.long v7), .second, .val (.long v8), .second, .val (.ref b9), .val (.double v18), .second, .val (.double v26), .second, .val (.double v34), .second, .val (.int z42), .val (.long v44), .second, .val (.long v45), .second, .val (.int z90), .val (.int z99), .unset] [(.int (0 : Int32))]))
       exact J103 _ _ (0 : Int32) X96 e97 N98 (Or.inr (Or.inr (⟨c101, rfl⟩)))
     by_cases c92 : (cmpValue (FP.dcmp v34 v18) .l) = (0 : Int32)
     ·skip
      refine own_by (fun _ k => XS.ifNo X87.here hx rfl (hb hby at_260) rfl ((if0 _ _).trans (teq c92).2) k) ?_
      show own_Go p e below _ (T85.setTop (mkF m 263 #[.val (.long q0), .second, .val (.long q1), .second, .val (.int p2), .val (.int p3), .val (.int p4), .val (.long v1), .second, .val (.long v2), .second, .val (.long v3), .second, .val (.long v4), .second, .val (.int v5), .val (.long v6), .second, .val (.long v7), .second, .val (.long v8), .second, .val (.ref b9), .val (.double v18), .second, .val (.double v26), .second, .val (.double v34), .second, .val (.int z42), .val (.long v44), .second, .val (.long v45), .second, .val (.int z90), .unset, .unset] []))
      refine own_by (fun _ k => XS.iconst X87.here hx rfl (hb hby at_263) k) ?_
      show own_Go p e below _ (T85.setTop (mkF m 264 #[.val (.long q0), .second, .val (.long q1), .second, .val (.int p2), .val (.int p3), .val (.int p4), .val (.long v1), .second, .val (.long v2), .second, .val (.long v3), .second, .val (.long v4), .second, .val (.int v5), .val (.long v6), .second, .val (.long v7), .second, .val (.long v8), .second, .val (.ref b9), .val (.double v18), .second, .val (.double v26), .second, .val (.double v34), .second, .val (.int z42), .val (.long v44), .second, .val (.long v45), .second, .val (.int z90), .unset, .unset] [(.int (1 : Int32))]))
      refine own_by (fun _ k => XS.goto X87.here hx rfl (pc0 := 264) (pc' := 268) rfl (hb hby at_264) (by decide) (by decide) k) ?_
      show own_Go p e below _ (T85.setTop (mkF m 268 #[.val (.long q0), .second, .val (.long q1), .second, .val (.int p2), .val (.int p3), .val (.int p4), .val (.long v1), .second, .val (.long v2), .second, .val (.long v3), .second, .val (.long v4), .second, .val (.int v5), .val (.long v6), .second, .val (.long v7), .second, .val (.long v8), .second, .val (.ref b9), .val (.double v18), .second, .val (.double v26), .second, .val (.double v34), .second, .val (.int z42), .val (.long v44), .second, .val (.long v45), .second, .val (.int z90), .unset, .unset] [(.int (1 : Int32))]))
      exact J93 _ _ (1 : Int32) X87 e88 N89 (Or.inl ⟨c92, rfl⟩)
     ·skip
      refine own_by (fun _ k => XS.ifYes X87.here hx rfl (pc0 := 260) (pc' := 267) rfl (hb hby at_260) rfl ((if0 _ _).trans (feq c92).2) (by decide) (by decide) k) ?_
      show own_Go p e below _ (T85.setTop (mkF m 267 #[.val (.long q0), .second, .val (.long q1), .second, .val (.int p2), .val (.int p3), .val (.int p4), .val (.long v1), .second, .val (.long v2), .second, .val (.long v3), .second, .val (.long v4), .second, .val (.int v5), .val (.long v6), .second, .val (.long v7), .second, .val (.long v8), .second, .val (.ref b9), .val (.double v18), .second, .val (.double v26), .second, .val (.double v34), .second, .val (.int z42), .val (.long v44), .second, .val (.long v45), .second, .val (.int z90), .unset, .unset] []))
      refine own_by (fun _ k => XS.iconst X87.here hx rfl (hb hby at_267) k) ?_
      show own_Go p e below _ (T85.setTop (mkF m 268 #[.val (.long q0), .second, .val (.long q1), .second, .val (.int p2), .val (.int p3), .val (.int p4), .val (.long v1), .second, .val (.long v2), .second, .val (.long v3), .second, .val (.long v4), .second, .val (.int v5), .val (.long v6), .second, .val (.long v7), .second, .val (.long v8), .second, .val (.ref b9), .val (.double v18), .second, .val (.double v26), .second, .val (.double v34), .second, .val (.int z42), .val (.long v44), .second, .val (.long v45), .second, .val (.int z90), .unset, .unset] [(.int (0 : Int32))]))
      exact J93 _ _ (0 : Int32) X87 e88 N89 (Or.inr (⟨c92, rfl⟩))
    by_cases c64 : z53 = z62
    ·skip
     refine own_by (fun _ k => XS.icmpNo X59.here hx rfl (hb hby at_216) rfl (teq c64).2 k) ?_
     show own_Go p e below _ (T57.setTop (mkF m 219 #[.val (.long q0), .second, .val (.long q1), .second, .val (.int p2), .val (.int p3), .val (.int p4), .val (.long v1), .second, .val (.long v2), .second, .val (.long v3), .second, .val (.long v4), .second, .val (.int v5), .val (.long v6), .second, .val (.long v7), .second, .val (.long v8), .second, .val (.ref b9), .val (.double v18), .second, .val (.double v26), .second, .val (.double v34), .second, .val (.int z42), .val (.long v44), .second, .val (.long v45), .second, .unset, .unset, .unset] []))
     refine own_by (fun _ k => XS.dload X59.here hx rfl (hb hby at_219) rfl k) ?_
     show own_Go p e below _ (T57.setTop (mkF m 221 #[.val (.long q0), .second, .val (.long q1), .second, .val (.int p2), .val (.int p3), .val (.int p4), .val (.long v1), .second, .val (.long v2), .second, .val (.long v3), .second, .val (.long v4), .second, .val (.int v5), .val (.long v6), .second, .val (.long v7), .second, .val (.long v8), .second, .val (.ref b9), .val (.double v18), .second, .val (.double v26), .second, .val (.double v34), .second, .val (.int z42), .val (.long v44), .second, .val (.long v45), .second, .unset, .unset, .unset] [(.double v18)]))
     refine own_by (fun _ k => XS.dload X59.here hx rfl (hb hby at_221) rfl k) ?_
     show own_Go p e below _ (T57.setTop (mkF m 223 #[.val (.long q0), .second, .val (.long q1), .second, .val (.int p2), .val (.int p3), .val (.int p4), .val (.long v1), .second, .val (.long v2), .second, .val (.long v3), .second, .val (.long v4), .second, .val (.int v5), .val (.long v6), .second, .val (.long v7), .second, .val (.long v8), .second, .val (.ref b9), .val (.double v18), .second, .val (.double v26), .second, .val (.double v34), .second, .val (.int z42), .val (.long v44), .second, .val (.long v45), .second, .unset, .unset, .unset] [(.double v26), (.double v18)]))
     refine own_by (fun _ k => XS.dcmpS X59.here hx rfl (hb hby at_223) rfl rfl k) ?_
     show own_Go p e below _ (T57.setTop (mkF m 224 #[.val (.long q0), .second, .val (.long q1), .second, .val (.int p2), .val (.int p3), .val (.int p4), .val (.long v1), .second, .val (.long v2), .second, .val (.long v3), .second, .val (.long v4), .second, .val (.int v5), .val (.long v6), .second, .val (.long v7), .second, .val (.long v8), .second, .val (.ref b9), .val (.double v18), .second, .val (.double v26), .second, .val (.double v34), .second, .val (.int z42), .val (.long v44), .second, .val (.long v45), .second, .unset, .unset, .unset] [(.int (cmpValue (FP.dcmp v18 v26) .l))]))
     have J66 : ∀ (T67 : State) (L68 : List Loc) (z72 : Int32), Stand p l e room_1 s m #[(.long q0), (.long q1), (.int p2), (.int p3), (.int p4)] below meth c T67 L68 4 6 → T67.heap = T28.heap → Fr n0 L68 → ((((cmpValue (FP.dcmp v18 v26) .l) = (0 : Int32)) ∧ z72 = (1 : Int32)) ∨ ((¬ ((cmpValue (FP.dcmp v18 v26) .l) = (0 : Int32))) ∧ z72 = (0 : Int32))) → own_Go p e below (own_Fin s 16 128 (Q0 Z q0 q1 p2 p3 p4 h0 n0)) (T67.setTop (mkF m 232 #[.val (.long q0), .second, .val (.long q1), .second, .val (.int p2), .val (.int p3), .val (.int p4), .val (.long v1), .second, .val (.long v2), .second, .val (.long v3), .second, .val (.long v4), .second, .val (.int v5), .val (.long v6), .second, .val (.long v7), .second, .val (.long v8), .second, .val (.ref b9), .val (.double v18), .second, .val (.double v26), .second, .val (.double v34), .second, .val (.int z42), .val (.long v44), .second, .val (.long v45), .second, .unset, .unset, .unset] [(.int z72)])) := by
      intro T67 L68 z72 X69 e70 N71 hj73
      refine own_by (fun _ k => XS.lload X69.here hx rfl (hb hby at_232) rfl k) ?_
      show own_Go p e below _ (T67.setTop (mkF m 234 #[.val (.long q0), .second, .val (.long q1), .second, .val (.int p2), .val (.int p3), .val (.int p4), .val (.long v1), .second, .val (.long v2), .second, .val (.long v3), .second, .val (.long v4), .second, .val (.int v5), .val (.long v6), .second, .val (.long v7), .second, .val (.long v8), .second, .val (.ref b9), .val (.double v18), .second, .val (.double v26), .second, .val (.double v34), .second, .val (.int z42), .val (.long v44), .second, .val (.long v45), .second, .unset, .unset, .unset] [(.long v44), (.int z72)]))
      refine own_by (fun _ k => XS.lload X69.here hx rfl (hb hby at_234) rfl k) ?_
      show own_Go p e below _ (T67.setTop (mkF m 236 #[.val (.long q0), .second, .val (.long q1), .second, .val (.int p2), .val (.int p3), .val (.int p4), .val (.long v1), .second, .val (.long v2), .second, .val (.long v3), .second, .val (.long v4), .second, .val (.int v5), .val (.long v6), .second, .val (.long v7), .second, .val (.long v8), .second, .val (.ref b9), .val (.double v18), .second, .val (.double v26), .second, .val (.double v34), .second, .val (.int z42), .val (.long v44), .second, .val (.long v45), .second, .unset, .unset, .unset] [(.long v45), (.long v44), (.int z72)]))
      refine own_by (fun _ k => XS.lcmp X69.here hx rfl (hb hby at_236) rfl k) ?_
      show own_Go p e below _ (T67.setTop (mkF m 237 #[.val (.long q0), .second, .val (.long q1), .second, .val (.int p2), .val (.int p3), .val (.int p4), .val (.long v1), .second, .val (.long v2), .second, .val (.long v3), .second, .val (.long v4), .second, .val (.int v5), .val (.long v6), .second, .val (.long v7), .second, .val (.long v8), .second, .val (.ref b9), .val (.double v18), .second, .val (.double v26), .second, .val (.double v34), .second, .val (.int z42), .val (.long v44), .second, .val (.long v45), .second, .unset, .unset, .unset] [(.int (lcmpW v44 v45)), (.int z72)]))
      have J75 : ∀ (T76 : State) (L77 : List Loc) (z81 : Int32), Stand p l e room_1 s m #[(.long q0), (.long q1), (.int p2), (.int p3), (.int p4)] below meth c T76 L77 4 6 → T76.heap = T28.heap → Fr n0 L77 → (((v44 = v45) ∧ z81 = (1 : Int32)) ∨ ((¬ (v44 = v45)) ∧ z81 = (0 : Int32))) → own_Go p e below (own_Fin s 16 128 (Q0 Z q0 q1 p2 p3 p4 h0 n0)) (T76.setTop (mkF m 245 #[.val (.long q0), .second, .val (.long q1), .second, .val (.int p2), .val (.int p3), .val (.int p4), .val (.long v1), .second, .val (.long v2), .second, .val (.long v3), .second, .val (.long v4), .second, .val (.int v5), .val (.long v6), .second, .val (.long v7), .second, .val (.long v8), .second, .val (.ref b9), .val (.double v18), .second, .val (.double v26), .second, .val (.double v34), .second, .val (.int z42), .val (.long v44), .second, .val (.long v45), .second, .unset, .unset, .unset] [(.int z81), (.int z72)])) := by
       intro T76 L77 z81 X78 e79 N80 hj82
       by_cases c83 : z72 = z81
       ·skip
        refine own_by (fun _ k => XS.icmpNo X78.here hx rfl (hb hby at_245) rfl (teq c83).2 k) ?_
        show own_Go p e below _ (T76.setTop (mkF m 248 #[.val (.long q0), .second, .val (.long q1), .second, .val (.int p2), .val (.int p3), .val (.int p4), .val (.long v1), .second, .val (.long v2), .second, .val (.long v3), .second, .val (.long v4), .second, .val (.int v5), .val (.long v6), .second, .val (.long v7), .second, .val (.long v8), .second, .val (.ref b9), .val (.double v18), .second, .val (.double v26), .second, .val (.double v34), .second, .val (.int z42), .val (.long v44), .second, .val (.long v45), .second, .unset, .unset, .unset] []))
        refine own_by (fun _ k => XS.iconst X78.here hx rfl (hb hby at_248) k) ?_
        show own_Go p e below _ (T76.setTop (mkF m 249 #[.val (.long q0), .second, .val (.long q1), .second, .val (.int p2), .val (.int p3), .val (.int p4), .val (.long v1), .second, .val (.long v2), .second, .val (.long v3), .second, .val (.long v4), .second, .val (.int v5), .val (.long v6), .second, .val (.long v7), .second, .val (.long v8), .second, .val (.ref b9), .val (.double v18), .second, .val (.double v26), .second, .val (.double v34), .second, .val (.int z42), .val (.long v44), .second, .val (.long v45), .second, .unset, .unset, .unset] [(.int (1 : Int32))]))
        refine own_by (fun _ k => XS.goto X78.here hx rfl (pc0 := 249) (pc' := 253) rfl (hb hby at_249) (by decide) (by decide) k) ?_
        show own_Go p e below _ (T76.setTop (mkF m 253 #[.val (.long q0), .second, .val (.long q1), .second, .val (.int p2), .val (.int p3), .val (.int p4), .val (.long v1), .second, .val (.long v2), .second, .val (.long v3), .second, .val (.long v4), .second, .val (.int v5), .val (.long v6), .second, .val (.long v7), .second, .val (.long v8), .second, .val (.ref b9), .val (.double v18), .second, .val (.double v26), .second, .val (.double v34), .second, .val (.int z42), .val (.long v44), .second, .val (.long v45), .second, .unset, .unset, .unset] [(.int (1 : Int32))]))
        exact J84 _ _ (1 : Int32) X78 e79 N80 (Or.inl ⟨z72, z81, c64, hj73, hj82, c83, rfl⟩)
       ·skip
        refine own_by (fun _ k => XS.icmpYes X78.here hx rfl (pc0 := 245) (pc' := 252) rfl (hb hby at_245) rfl (feq c83).2 (by decide) (by decide) k) ?_
        show own_Go p e below _ (T76.setTop (mkF m 252 #[.val (.long q0), .second, .val (.long q1), .second, .val (.int p2), .val (.int p3), .val (.int p4), .val (.long v1), .second, .val (.long v2), .second, .val (.long v3), .second, .val (.long v4), .second, .val (.int v5), .val (.long v6), .second, .val (.long v7), .second, .val (.long v8), .second, .val (.ref b9), .val (.double v18), .second, .val (.double v26), .second, .val (.double v34), .second, .val (.int z42), .val (.long v44), .second, .val (.long v45), .second, .unset, .unset, .unset] []))
        refine own_by (fun _ k => XS.iconst X78.here hx rfl (hb hby at_252) k) ?_
        show own_Go p e below _ (T76.setTop (mkF m 253 #[.val (.long q0), .second, .val (.long q1), .second, .val (.int p2), .val (.int p3), .val (.int p4), .val (.long v1), .second, .val (.long v2), .second, .val (.long v3), .second, .val (.long v4), .second, .val (.int v5), .val (.long v6), .second, .val (.long v7), .second, .val (.long v8), .second, .val (.ref b9), .val (.double v18), .second, .val (.double v26), .second, .val (.double v34), .second, .val (.int z42), .val (.long v44), .second, .val (.long v45), .second, .unset, .unset, .unset] [(.int (0 : Int32))]))
        exact J84 _ _ (0 : Int32) X78 e79 N80 (Or.inr (Or.inl ⟨z72, z81, c64, hj73, hj82, c83, rfl⟩))
      by_cases c74 : v44 = v45
      ·skip
       refine own_by (fun _ k => XS.ifNo X69.here hx rfl (hb hby at_237) rfl ((if0 _ _).trans (teq ((lw_eq _ _).mpr c74)).2) k) ?_
       show own_Go p e below _ (T67.setTop (mkF m 240 #[.val (.long q0), .second, .val (.long q1), .second, .val (.int p2), .val (.int p3), .val (.int p4), .val (.long v1), .second, .val (.long v2), .second, .val (.long v3), .second, .val (.long v4), .second, .val (.int v5), .val (.long v6), .second, .val (.long v7), .second, .val (.long v8), .second, .val (.ref b9), .val (.double v18), .second, .val (.double v26), .second, .val (.double v34), .second, .val (.int z42), .val (.long v44), .second, .val (.long v45), .second, .unset, .unset, .unset] [(.int z72)]))
       refine own_by (fun _ k => XS.iconst X69.here hx rfl (hb hby at_240) k) ?_
       show own_Go p e below _ (T67.setTop (mkF m 241 #[.val (.long q0), .second, .val (.long q1), .second, .val (.int p2), .val (.int p3), .val (.int p4), .val (.long v1), .second, .val (.long v2), .second, .val (.long v3), .second, .val (.long v4), .second, .val (.int v5), .val (.long v6), .second, .val (.long v7), .second, .val (.long v8), .second, .val (.ref b9), .val (.double v18), .second, .val (.double v26), .second, .val (.double v34), .second, .val (.int z42), .val (.long v44), .second, .val (.long v45), .second, .unset, .unset, .unset] [(.int (1 : Int32)), (.int z72)]))
       refine own_by (fun _ k => XS.goto X69.here hx rfl (pc0 := 241) (pc' := 245) rfl (hb hby at_241) (by decide) (by decide) k) ?_
       show own_Go p e below _ (T67.setTop (mkF m 245 #[.val (.long q0), .second, .val (.long q1), .second, .val (.int p2), .val (.int p3), .val (.int p4), .val (.long v1), .second, .val (.long v2), .second, .val (.long v3), .second, .val (.long v4), .second, .val (.int v5), .val (.long v6), .second, .val (.long v7), .second, .val (.long v8), .second, .val (.ref b9), .val (.double v18), .second, .val (.double v26), .second, .val (.double v34), .second, .val (.int z42), .val (.long v44), .second, .val (.long v45), .second, .unset, .unset, .unset] [(.int (1 : Int32)), (.int z72)]))
       exact J75 _ _ (1 : Int32) X69 e70 N71 (Or.inl ⟨c74, rfl⟩)
      ·skip
       refine own_by (fun _ k => XS.ifYes X69.here hx rfl (pc0 := 237) (pc' := 244) rfl (hb hby at_237) rfl ((if0 _ _).trans (feq (fun q => c74 ((lw_eq _ _).mp q))).2) (by decide) (by decide) k) ?_
       show own_Go p e below _ (T67.setTop (mkF m 244 #[.val (.long q0), .second, .val (.long q1), .second, .val (.int p2), .val (.int p3), .val (.int p4), .val (.long v1), .second, .val (.long v2), .second, .val (.long v3), .second, .val (.long v4), .second, .val (.int v5), .val (.long v6), .second, .val (.long v7), .second, .val (.long v8), .second, .val (.ref b9), .val (.double v18), .second, .val (.double v26), .second, .val (.double v34), .second, .val (.int z42), .val (.long v44), .second, .val (.long v45), .second, .unset, .unset, .unset] [(.int z72)]))
       refine own_by (fun _ k => XS.iconst X69.here hx rfl (hb hby at_244) k) ?_
       show own_Go p e below _ (T67.setTop (mkF m 245 #[.val (.long q0), .second, .val (.long q1), .second, .val (.int p2), .val (.int p3), .val (.int p4), .val (.long v1), .second, .val (.long v2), .second, .val (.long v3), .second, .val (.long v4), .second, .val (.int v5), .val (.long v6), .second, .val (.long v7), .second, .val (.long v8), .second, .val (.ref b9), .val (.double v18), .second, .val (.double v26), .second, .val (.double v34), .second, .val (.int z42), .val (.long v44), .second, .val (.long v45), .second, .unset, .unset, .unset] [(.int (0 : Int32)), (.int z72)]))
       exact J75 _ _ (0 : Int32) X69 e70 N71 (Or.inr (⟨c74, rfl⟩))
     by_cases c65 : (cmpValue (FP.dcmp v18 v26) .l) = (0 : Int32)
     ·skip
      refine own_by (fun _ k => XS.ifNo X59.here hx rfl (hb hby at_224) rfl ((if0 _ _).trans (teq c65).2) k) ?_
      show own_Go p e below _ (T57.setTop (mkF m 227 #[.val (.long q0), .second, .val (.long q1), .second, .val (.int p2), .val (.int p3), .val (.int p4), .val (.long v1), .second, .val (.long v2), .second, .val (.long v3), .second, .val (.long v4), .second, .val (.int v5), .val (.long v6), .second, .val (.long v7), .second, .val (.long v8), .second, .val (.ref b9), .val (.double v18), .second, .val (.double v26), .second, .val (.double v34), .second, .val (.int z42), .val (.long v44), .second, .val (.long v45), .second, .unset, .unset, .unset] []))
      refine own_by (fun _ k => XS.iconst X59.here hx rfl (hb hby at_227) k) ?_
      show own_Go p e below _ (T57.setTop (mkF m 228 #[.val (.long q0), .second, .val (.long q1), .second, .val (.int p2), .val (.int p3), .val (.int p4), .val (.long v1), .second, .val (.long v2), .second, .val (.long v3), .second, .val (.long v4), .second, .val (.int v5), .val (.long v6), .second, .val (.long v7), .second, .val (.long v8), .second, .val (.ref b9), .val (.double v18), .second, .val (.double v26), .second, .val (.double v34), .second, .val (.int z42), .val (.long v44), .second, .val (.long v45), .second, .unset, .unset, .unset] [(.int (1 : Int32))]))
      refine own_by (fun _ k => XS.goto X59.here hx rfl (pc0 := 228) (pc' := 232) rfl (hb hby at_228) (by decide) (by decide) k) ?_
      show own_Go p e below _ (T57.setTop (mkF m 232 #[.val (.long q0), .second, .val (.long q1), .second, .val (.int p2), .val (.int p3), .val (.int p4), .val (.long v1), .second, .val (.long v2), .second, .val (.long v3), .second, .val (.long v4), .second, .val (.int v5), .val (.long v6), .second, .val (.long v7), .second, .val (.long v8), .second, .val (.ref b9), .val (.double v18), .second, .val (.double v26), .second, .val (.double v34), .second, .val (.int z42), .val (.long v44), .second, .val (.long v45), .second, .unset, .unset, .unset] [(.int (1 : Int32))]))
      exact J66 _ _ (1 : Int32) X59 e60 N61 (Or.inl ⟨c65, rfl⟩)
     ·skip
      refine own_by (fun _ k => XS.ifYes X59.here hx rfl (pc0 := 224) (pc' := 231) rfl (hb hby at_224) rfl ((if0 _ _).trans (feq c65).2) (by decide) (by decide) k) ?_
      show own_Go p e below _ (T57.setTop (mkF m 231 #[.val (.long q0), .second, .val (.long q1), .second, .val (.int p2), .val (.int p3), .val (.int p4), .val (.long v1), .second, .val (.long v2), .second, .val (.long v3), .second, .val (.long v4), .second, .val (.int v5), .val (.long v6), .second, .val (.long v7), .second, .val (.long v8), .second, .val (.ref b9), .val (.double v18), .second, .val (.double v26), .second, .val (.double v34), .second, .val (.int z42), .val (.long v44), .second, .val (.long v45), .second, .unset, .unset, .unset] []))
      refine own_by (fun _ k => XS.iconst X59.here hx rfl (hb hby at_231) k) ?_
      show own_Go p e below _ (T57.setTop (mkF m 232 #[.val (.long q0), .second, .val (.long q1), .second, .val (.int p2), .val (.int p3), .val (.int p4), .val (.long v1), .second, .val (.long v2), .second, .val (.long v3), .second, .val (.long v4), .second, .val (.int v5), .val (.long v6), .second, .val (.long v7), .second, .val (.long v8), .second, .val (.ref b9), .val (.double v18), .second, .val (.double v26), .second, .val (.double v34), .second, .val (.int z42), .val (.long v44), .second, .val (.long v45), .second, .unset, .unset, .unset] [(.int (0 : Int32))]))
      exact J66 _ _ (0 : Int32) X59 e60 N61 (Or.inr (⟨c65, rfl⟩))
    ·skip
     refine own_by (fun _ k => XS.icmpYes X59.here hx rfl (pc0 := 216) (pc' := 252) rfl (hb hby at_216) rfl (feq c64).2 (by decide) (by decide) k) ?_
     show own_Go p e below _ (T57.setTop (mkF m 252 #[.val (.long q0), .second, .val (.long q1), .second, .val (.int p2), .val (.int p3), .val (.int p4), .val (.long v1), .second, .val (.long v2), .second, .val (.long v3), .second, .val (.long v4), .second, .val (.int v5), .val (.long v6), .second, .val (.long v7), .second, .val (.long v8), .second, .val (.ref b9), .val (.double v18), .second, .val (.double v26), .second, .val (.double v34), .second, .val (.int z42), .val (.long v44), .second, .val (.long v45), .second, .unset, .unset, .unset] []))
     refine own_by (fun _ k => XS.iconst X59.here hx rfl (hb hby at_252) k) ?_
     show own_Go p e below _ (T57.setTop (mkF m 253 #[.val (.long q0), .second, .val (.long q1), .second, .val (.int p2), .val (.int p3), .val (.int p4), .val (.long v1), .second, .val (.long v2), .second, .val (.long v3), .second, .val (.long v4), .second, .val (.int v5), .val (.long v6), .second, .val (.long v7), .second, .val (.long v8), .second, .val (.ref b9), .val (.double v18), .second, .val (.double v26), .second, .val (.double v34), .second, .val (.int z42), .val (.long v44), .second, .val (.long v45), .second, .unset, .unset, .unset] [(.int (0 : Int32))]))
     exact J84 _ _ (0 : Int32) X59 e60 N61 (Or.inr (Or.inr (⟨c64, rfl⟩)))
   by_cases c55 : v44 < v45
   ·skip
    refine own_by (fun _ k => XS.ifNo X50.here hx rfl (hb hby at_208) rfl ((if0 _ _).trans (tlt ((lw_lt _ _).mpr c55)).2.1) k) ?_
    show own_Go p e below _ (T48.setTop (mkF m 211 #[.val (.long q0), .second, .val (.long q1), .second, .val (.int p2), .val (.int p3), .val (.int p4), .val (.long v1), .second, .val (.long v2), .second, .val (.long v3), .second, .val (.long v4), .second, .val (.int v5), .val (.long v6), .second, .val (.long v7), .second, .val (.long v8), .second, .val (.ref b9), .val (.double v18), .second, .val (.double v26), .second, .val (.double v34), .second, .val (.int z42), .val (.long v44), .second, .val (.long v45), .second, .unset, .unset, .unset] [(.int z53)]))
    refine own_by (fun _ k => XS.iconst X50.here hx rfl (hb hby at_211) k) ?_
    show own_Go p e below _ (T48.setTop (mkF m 212 #[.val (.long q0), .second, .val (.long q1), .second, .val (.int p2), .val (.int p3), .val (.int p4), .val (.long v1), .second, .val (.long v2), .second, .val (.long v3), .second, .val (.long v4), .second, .val (.int v5), .val (.long v6), .second, .val (.long v7), .second, .val (.long v8), .second, .val (.ref b9), .val (.double v18), .second, .val (.double v26), .second, .val (.double v34), .second, .val (.int z42), .val (.long v44), .second, .val (.long v45), .second, .unset, .unset, .unset] [(.int (1 : Int32)), (.int z53)]))
    refine own_by (fun _ k => XS.goto X50.here hx rfl (pc0 := 212) (pc' := 216) rfl (hb hby at_212) (by decide) (by decide) k) ?_
    show own_Go p e below _ (T48.setTop (mkF m 216 #[.val (.long q0), .second, .val (.long q1), .second, .val (.int p2), .val (.int p3), .val (.int p4), .val (.long v1), .second, .val (.long v2), .second, .val (.long v3), .second, .val (.long v4), .second, .val (.int v5), .val (.long v6), .second, .val (.long v7), .second, .val (.long v8), .second, .val (.ref b9), .val (.double v18), .second, .val (.double v26), .second, .val (.double v34), .second, .val (.int z42), .val (.long v44), .second, .val (.long v45), .second, .unset, .unset, .unset] [(.int (1 : Int32)), (.int z53)]))
    exact J56 _ _ (1 : Int32) X50 e51 N52 (Or.inl ⟨c55, rfl⟩)
   ·skip
    refine own_by (fun _ k => XS.ifYes X50.here hx rfl (pc0 := 208) (pc' := 215) rfl (hb hby at_208) rfl ((if0 _ _).trans (flt (fun q => c55 ((lw_lt _ _).mp q))).2.1) (by decide) (by decide) k) ?_
    show own_Go p e below _ (T48.setTop (mkF m 215 #[.val (.long q0), .second, .val (.long q1), .second, .val (.int p2), .val (.int p3), .val (.int p4), .val (.long v1), .second, .val (.long v2), .second, .val (.long v3), .second, .val (.long v4), .second, .val (.int v5), .val (.long v6), .second, .val (.long v7), .second, .val (.long v8), .second, .val (.ref b9), .val (.double v18), .second, .val (.double v26), .second, .val (.double v34), .second, .val (.int z42), .val (.long v44), .second, .val (.long v45), .second, .unset, .unset, .unset] [(.int z53)]))
    refine own_by (fun _ k => XS.iconst X50.here hx rfl (hb hby at_215) k) ?_
    show own_Go p e below _ (T48.setTop (mkF m 216 #[.val (.long q0), .second, .val (.long q1), .second, .val (.int p2), .val (.int p3), .val (.int p4), .val (.long v1), .second, .val (.long v2), .second, .val (.long v3), .second, .val (.long v4), .second, .val (.int v5), .val (.long v6), .second, .val (.long v7), .second, .val (.long v8), .second, .val (.ref b9), .val (.double v18), .second, .val (.double v26), .second, .val (.double v34), .second, .val (.int z42), .val (.long v44), .second, .val (.long v45), .second, .unset, .unset, .unset] [(.int (0 : Int32)), (.int z53)]))
    exact J56 _ _ (0 : Int32) X50 e51 N52 (Or.inr (⟨c55, rfl⟩))
  by_cases c46 : (cmpValue (FP.dcmp v18 v26) .g) < (0 : Int32)
  ·skip
   refine own_by (fun _ k => XS.ifNo X39.here hx rfl (hb hby at_195) rfl ((if0 _ _).trans (tlt c46).2.1) k) ?_
   show own_Go p e below _ (T37.setTop (mkF m 198 #[.val (.long q0), .second, .val (.long q1), .second, .val (.int p2), .val (.int p3), .val (.int p4), .val (.long v1), .second, .val (.long v2), .second, .val (.long v3), .second, .val (.long v4), .second, .val (.int v5), .val (.long v6), .second, .val (.long v7), .second, .val (.long v8), .second, .val (.ref b9), .val (.double v18), .second, .val (.double v26), .second, .val (.double v34), .second, .val (.int z42), .val (.long v44), .second, .val (.long v45), .second, .unset, .unset, .unset] []))
   refine own_by (fun _ k => XS.iconst X39.here hx rfl (hb hby at_198) k) ?_
   show own_Go p e below _ (T37.setTop (mkF m 199 #[.val (.long q0), .second, .val (.long q1), .second, .val (.int p2), .val (.int p3), .val (.int p4), .val (.long v1), .second, .val (.long v2), .second, .val (.long v3), .second, .val (.long v4), .second, .val (.int v5), .val (.long v6), .second, .val (.long v7), .second, .val (.long v8), .second, .val (.ref b9), .val (.double v18), .second, .val (.double v26), .second, .val (.double v34), .second, .val (.int z42), .val (.long v44), .second, .val (.long v45), .second, .unset, .unset, .unset] [(.int (1 : Int32))]))
   refine own_by (fun _ k => XS.goto X39.here hx rfl (pc0 := 199) (pc' := 203) rfl (hb hby at_199) (by decide) (by decide) k) ?_
   show own_Go p e below _ (T37.setTop (mkF m 203 #[.val (.long q0), .second, .val (.long q1), .second, .val (.int p2), .val (.int p3), .val (.int p4), .val (.long v1), .second, .val (.long v2), .second, .val (.long v3), .second, .val (.long v4), .second, .val (.int v5), .val (.long v6), .second, .val (.long v7), .second, .val (.long v8), .second, .val (.ref b9), .val (.double v18), .second, .val (.double v26), .second, .val (.double v34), .second, .val (.int z42), .val (.long v44), .second, .val (.long v45), .second, .unset, .unset, .unset] [(.int (1 : Int32))]))
   exact J47 _ _ (1 : Int32) X39 e40 N41 (Or.inl ⟨c46, rfl⟩)
  ·skip
   refine own_by (fun _ k => XS.ifYes X39.here hx rfl (pc0 := 195) (pc' := 202) rfl (hb hby at_195) rfl ((if0 _ _).trans (flt c46).2.1) (by decide) (by decide) k) ?_
   show own_Go p e below _ (T37.setTop (mkF m 202 #[.val (.long q0), .second, .val (.long q1), .second, .val (.int p2), .val (.int p3), .val (.int p4), .val (.long v1), .second, .val (.long v2), .second, .val (.long v3), .second, .val (.long v4), .second, .val (.int v5), .val (.long v6), .second, .val (.long v7), .second, .val (.long v8), .second, .val (.ref b9), .val (.double v18), .second, .val (.double v26), .second, .val (.double v34), .second, .val (.int z42), .val (.long v44), .second, .val (.long v45), .second, .unset, .unset, .unset] []))
   refine own_by (fun _ k => XS.iconst X39.here hx rfl (hb hby at_202) k) ?_
   show own_Go p e below _ (T37.setTop (mkF m 203 #[.val (.long q0), .second, .val (.long q1), .second, .val (.int p2), .val (.int p3), .val (.int p4), .val (.long v1), .second, .val (.long v2), .second, .val (.long v3), .second, .val (.long v4), .second, .val (.int v5), .val (.long v6), .second, .val (.long v7), .second, .val (.long v8), .second, .val (.ref b9), .val (.double v18), .second, .val (.double v26), .second, .val (.double v34), .second, .val (.int z42), .val (.long v44), .second, .val (.long v45), .second, .unset, .unset, .unset] [(.int (0 : Int32))]))
   exact J47 _ _ (0 : Int32) X39 e40 N41 (Or.inr (⟨c46, rfl⟩))
 by_cases c35 : (cmpValue (FP.dcmp (FP.dmul v26 (FP.l2d v6)) (FP.l2d v7)) .l) = (0 : Int32)
 ·skip
  refine own_by (fun _ k => XS.ifNo X32.here hx rfl (hb hby at_166) rfl ((if0 _ _).trans (teq c35).2) k) ?_
  show own_Go p e below _ (T32.setTop (mkF m 169 #[.val (.long q0), .second, .val (.long q1), .second, .val (.int p2), .val (.int p3), .val (.int p4), .val (.long v1), .second, .val (.long v2), .second, .val (.long v3), .second, .val (.long v4), .second, .val (.int v5), .val (.long v6), .second, .val (.long v7), .second, .val (.long v8), .second, .val (.ref b9), .val (.double v18), .second, .val (.double v26), .second, .val (.double v34), .second, .unset, .unset, .unset, .unset, .unset, .unset, .unset, .unset] []))
  refine own_by (fun _ k => XS.iconst X32.here hx rfl (hb hby at_169) k) ?_
  show own_Go p e below _ (T32.setTop (mkF m 170 #[.val (.long q0), .second, .val (.long q1), .second, .val (.int p2), .val (.int p3), .val (.int p4), .val (.long v1), .second, .val (.long v2), .second, .val (.long v3), .second, .val (.long v4), .second, .val (.int v5), .val (.long v6), .second, .val (.long v7), .second, .val (.long v8), .second, .val (.ref b9), .val (.double v18), .second, .val (.double v26), .second, .val (.double v34), .second, .unset, .unset, .unset, .unset, .unset, .unset, .unset, .unset] [(.int (1 : Int32))]))
  refine own_by (fun _ k => XS.goto X32.here hx rfl (pc0 := 170) (pc' := 174) rfl (hb hby at_170) (by decide) (by decide) k) ?_
  show own_Go p e below _ (T32.setTop (mkF m 174 #[.val (.long q0), .second, .val (.long q1), .second, .val (.int p2), .val (.int p3), .val (.int p4), .val (.long v1), .second, .val (.long v2), .second, .val (.long v3), .second, .val (.long v4), .second, .val (.int v5), .val (.long v6), .second, .val (.long v7), .second, .val (.long v8), .second, .val (.ref b9), .val (.double v18), .second, .val (.double v26), .second, .val (.double v34), .second, .unset, .unset, .unset, .unset, .unset, .unset, .unset, .unset] [(.int (1 : Int32))]))
  exact J36 _ _ (1 : Int32) X32 eq32 N32 (Or.inl ⟨c35, rfl⟩)
 ·skip
  refine own_by (fun _ k => XS.ifYes X32.here hx rfl (pc0 := 166) (pc' := 173) rfl (hb hby at_166) rfl ((if0 _ _).trans (feq c35).2) (by decide) (by decide) k) ?_
  show own_Go p e below _ (T32.setTop (mkF m 173 #[.val (.long q0), .second, .val (.long q1), .second, .val (.int p2), .val (.int p3), .val (.int p4), .val (.long v1), .second, .val (.long v2), .second, .val (.long v3), .second, .val (.long v4), .second, .val (.int v5), .val (.long v6), .second, .val (.long v7), .second, .val (.long v8), .second, .val (.ref b9), .val (.double v18), .second, .val (.double v26), .second, .val (.double v34), .second, .unset, .unset, .unset, .unset, .unset, .unset, .unset, .unset] []))
  refine own_by (fun _ k => XS.iconst X32.here hx rfl (hb hby at_173) k) ?_
  show own_Go p e below _ (T32.setTop (mkF m 174 #[.val (.long q0), .second, .val (.long q1), .second, .val (.int p2), .val (.int p3), .val (.int p4), .val (.long v1), .second, .val (.long v2), .second, .val (.long v3), .second, .val (.long v4), .second, .val (.int v5), .val (.long v6), .second, .val (.long v7), .second, .val (.long v8), .second, .val (.ref b9), .val (.double v18), .second, .val (.double v26), .second, .val (.double v34), .second, .unset, .unset, .unset, .unset, .unset, .unset, .unset, .unset] [(.int (0 : Int32))]))
  exact J36 _ _ (0 : Int32) X32 eq32 N32 (Or.inr (⟨c35, rfl⟩))
set_option maxRecDepth 65536 in
set_option maxHeartbeats 40000000 in
theorem comes_1 {Post : Tables → Env → Array Value → State → Outcome → State → Prop} (hpost : ∀ tb e args s v u, (limb_1_1.after args s (.returned v) u = true ∧ limb_1_2.after args s (.returned v) u = true ∧ True) → FrameEnd s (.returned v) u (Jvm.fieldLocs frame_1_writes args s ++ Jvm.arrayLocs frame_1_arrays args s ++ Jvm.staticLocs frame_1_statics s) 16 128 → Post tb e args s (.returned v) u) :
    ArmFor flags0 classFile x code maxLocals ret World_1 tables_1 room_1 Calls_1 rest_1 Pre_1 Post := by
  intro l hfl _ _ p e ha hc hk s m args below hf hA hF happ hP
  obtain ⟨hcalls, hrest, hpre⟩ := hP
  obtain ⟨-, -, -, hnamed, -, -, -, hat⟩ := (Spec.applies_iff hf).mp happ
  obtain ⟨hg, hn⟩ := and_e (Cond.before_iff.mp (show (Jvm.Cond.and given_1 narrow_1).before args s = true from hpre))
  obtain ⟨g0, r0⟩ := and_e hg
  obtain ⟨ga0, r1⟩ := and_e r0
  obtain ⟨ga1, r2⟩ := and_e r1
  obtain ⟨ga2, r3⟩ := and_e r2
  obtain ⟨ga3, r4⟩ := and_e r3
  obtain ⟨w0, w1, w2, w3, w4, rfl⟩ : ∃ w0 w1 w2 w3 w4 : Value, args = #[w0, w1, w2, w3, w4] := by
    have hs : args.size = 5 := by simpa [Cond.value, given_1] using g0
    obtain ⟨L⟩ := args
    match L, hs with
    | [w0, w1, w2, w3, w4], _ => exact ⟨w0, w1, w2, w3, w4, rfl⟩
  have hw := fun d (hd : d ∈ tables_1) => atoms_spec (ws := Jvm.Cond.code x code maxLocals ret :: tables_1) hat d (List.mem_cons_of_mem _ hd)
  have hwd := fun i {d : Jvm.Cond} (h : tables_1[i]? = some d) => hw d (List.mem_of_getElem? h)
  have hfit : Fit s := fun {y c} hc i hi => by
    obtain ⟨ha, rfl⟩ := Array.getElem?_eq_some_iff.mp hc
    have q := List.all_eq_true.mp ((Array.all_eq_true_iff_forall_mem.mp hF) _ (Array.getElem_mem ha)) i (List.mem_range.mpr hi)
    simpa [Array.getElem?_eq_getElem hi] using q
  obtain ⟨i0, ei0⟩ := isL_v ga0
  obtain rfl : w0 = (.long i0) := Option.some.inj ei0
  obtain ⟨i1, ei1⟩ := isL_v ga1
  obtain rfl : w1 = (.long i1) := Option.some.inj ei1
  obtain ⟨i2, ei2⟩ := is_v ga2
  obtain rfl : w2 = (.int i2) := Option.some.inj ei2
  obtain ⟨i3, ei3⟩ := is_v ga3
  obtain rfl : w3 = (.int i3) := Option.some.inj ei3
  obtain ⟨i4, ei4⟩ := is_v r4
  obtain rfl : w4 = (.int i4) := Option.some.inj ei4
  obtain ⟨n, o, h1, h2, h3, _, L, rfl, ⟨rfl, N⟩, hq⟩ := rm0 l s _ hw tables_1 i0 i1 i2 i3 i4 s.heap s.heap.size (Nat.le_refl _)  p e ha hc hk s m _ below hf ((Spec.applies_iff_loose hf).mp happ).1 ⟨rfl, State.Warmed39.refl s, rfl⟩ trivial
  refine ⟨n, _, h1, h2, h3, hpost _ _ _ _ _ _ ⟨Cond.after_iff.mpr rfl, Cond.after_iff.mpr (eq_i res_at (Term.int_eval (1)) rfl), trivial⟩ ⟨hq.1, hq.2.1, (hq.2.2.sift fun y hy => Or.inr (N y hy)).mono (by decide) (by decide)⟩⟩
theorem main_1_1 : Claimed_1_1 := comes_1 fun _ _ _ _ _ _ h hF => ⟨h.1, hF⟩
theorem main_1_2 : Claimed_1_2 := comes_1 fun _ _ _ _ _ _ h hF => ⟨h.2.1, hF⟩
end Jvm.Pilot.@@N@@
namespace Jvm.Pilot.@@N@@
open Jvm Jvm.ClassFile Sem Op Lib Jvm.Free Jvm.Stand Jvm.Pilot.@@N@@.Jvm.D
/-! MADE BY PROGRAM (witnessworld.py) out of the Statement's table words and the real class files: 12 classes; the members and pool entries that the words name. The judged class is class 1, her method 1. -/
namespace start1
open Jvm.ClassFile
def u (s : String) : CpInfo := .utf8 (stringToUtf16 s)
/-- a pool by its gaps: so many unusable entries, then the entry; so many at the end -/
def gap : Nat → List CpInfo → List CpInfo
  | 0, r => r
  | n + 1, r => .unusable :: gap n r
def poolList (es : List (Nat × CpInfo)) (last : Nat) : List CpInfo := es.foldr (fun e r => gap e.1 (e.2 :: r)) (gap last [])
def pool (es : List (Nat × CpInfo)) (last : Nat) : Array CpInfo := ⟨poolList es last⟩
def fileOf (pool : Array CpInfo) (this : Nat) (attrs : Array Attribute := #[]) (ms : Array MethodInfo := #[]) (fl : Nat := 33) (sup : Nat := 0) (ifs : Array Nat := #[]) (fds : Array FieldInfo := #[]) : ClassFile where
  minorVersion := 0
  majorVersion := 65
  constantPool := pool
  accessFlags := fl
  thisClass := this
  superClass := sup
  interfaces := ifs
  fields := fds
  methods := ms
  attributes := attrs
def plain (name : String) (sup : Option ClassId) : Class where
  name := name
  kind := .ordinary
  loader := none
  accessFlags := 33
  super := sup
  interfaces := #[]
  cf := none
  fields := #[]
  methods := #[]
  instanceTypes := #[]
  staticTypes := #[]
  resolved := #[]
  callSites := []
  init := .initialized
  statics := none
  mirror := none

def pool0 : Array CpInfo := pool [(5, u "<init>"), (0, u "()V"), (1, .class_ 10), (1, u "java/lang/Object")] 113

def k0c0 : Code := { maxStack := 0, maxLocals := 1, code := object_method_1_code, exceptionTable := #[], attributes := #[] }
def k0m0 : Method := { name := "<init>", desc := "()V", sig := { parameters := [], returnType := none }, accessFlags := 1, code := some k0c0 }
/-- java/lang/Object -/
def k0 : Class := { plain "java/lang/Object" none with
  accessFlags := 33
  interfaces := #[]
  cf := some (fileOf pool0 8 #[] #[{ accessFlags := 1, nameIndex := 5, descriptorIndex := 6, attributes := #[] }] 33 0 #[] #[])
  fields := #[]
  methods := #[k0m0]
  instanceTypes := #[]
  staticTypes := #[]
  resolved := Array.replicate 124 none
  statics := none }

def pool1 : Array CpInfo := pool [(2, .class_ 4), (0, .nameAndType 5 6), (0, u "java/lang/Object"), (0, u "<init>"), (0, u "()V"), (0, .long 16777215), (1, .long 2), (1, .integer 2147483647), (0, .integer 1048575), (0, .class_ 14), (0, u "com/example/credence/credence/core/BetaModel"), (0, .methodref 13 3), (0, .class_ 17), (0, u "com/example/credence/credence/core/Evidence"), (0, .methodref 16 19), (0, .nameAndType 5 20), (0, u "(JJ)V"), (0, .methodref 13 22), (0, .nameAndType 23 24), (0, u "trust"), (0, u "(Lcom/example/credence/credence/core/Evidence;)D"), (0, .class_ 26), (0, u "com/example/credence/credence/core/BetaModelTrustPinLaw"), (2, u "law"), (0, u "(JJIII)Z")] 3

def k1m0 : Method := { name := "<init>", desc := "()V", sig := { parameters := [], returnType := none }, accessFlags := 1, code := none }
def k1c1 : Code := { maxStack := 11, maxLocals := 37, code := code, exceptionTable := #[], attributes := #[] }
def k1m1 : Method := { name := "law", desc := "(JJIII)Z", sig := { parameters := [.long, .long, .int, .int, .int], returnType := some .boolean }, accessFlags := 9, code := some k1c1 }
/-- com/example/credence/credence/core/BetaModelTrustPinLaw -/
def k1 : Class := { plain "com/example/credence/credence/core/BetaModelTrustPinLaw" (some 0) with
  accessFlags := 49
  interfaces := #[]
  cf := some (fileOf pool1 25 #[] #[{ accessFlags := 1, nameIndex := 5, descriptorIndex := 6, attributes := #[] }, { accessFlags := 9, nameIndex := 29, descriptorIndex := 30, attributes := #[] }] 49 2 #[] #[])
  fields := #[]
  methods := #[k1m0, k1m1]
  instanceTypes := #[]
  staticTypes := #[]
  resolved := Array.replicate 34 none
  statics := none }

def pool2 : Array CpInfo := pool [(1, .class_ 2), (0, u "com/example/credence/credence/core/TrustModel"), (0, .class_ 4), (0, u "java/lang/Object")] 4

/-- com/example/credence/credence/core/TrustModel -/
def k2 : Class := { plain "com/example/credence/credence/core/TrustModel" (some 0) with
  accessFlags := 1537
  interfaces := #[]
  cf := some (fileOf pool2 1 #[] #[] 1537 3 #[] #[])
  fields := #[]
  methods := #[]
  instanceTypes := #[]
  staticTypes := #[]
  resolved := Array.replicate 9 none
  statics := none }

def pool3 : Array CpInfo := pool [(1, .methodref 2 3), (0, .class_ 4), (0, .nameAndType 5 6), (0, u "java/lang/Object"), (0, u "<init>"), (0, u "()V"), (0, .methodref 8 9), (0, .class_ 10), (0, .nameAndType 11 12), (0, u "com/example/credence/credence/core/Evidence"), (0, u "successes"), (0, u "()J"), (0, .methodref 8 14), (0, .nameAndType 15 12), (0, u "failures"), (0, .double 4611686018427387904), (1, .class_ 19), (0, u "com/example/credence/credence/core/BetaModel"), (0, .class_ 21), (0, u "com/example/credence/credence/core/TrustModel"), (2, u "trust"), (0, u "(Lcom/example/credence/credence/core/Evidence;)D")] 2

def k3c0 : Code := { maxStack := 1, maxLocals := 1, code := prog_1_method_1_code, exceptionTable := #[], attributes := #[] }
def k3m0 : Method := { name := "<init>", desc := "()V", sig := { parameters := [], returnType := none }, accessFlags := 1, code := some k3c0 }
def k3c1 : Code := { maxStack := 6, maxLocals := 2, code := prog_1_method_2_code, exceptionTable := #[], attributes := #[] }
def k3m1 : Method := { name := "trust", desc := "(Lcom/example/credence/credence/core/Evidence;)D", sig := { parameters := [(.object "com/example/credence/credence/core/Evidence")], returnType := some .double }, accessFlags := 1, code := some k3c1 }
/-- com/example/credence/credence/core/BetaModel -/
def k3 : Class := { plain "com/example/credence/credence/core/BetaModel" (some 0) with
  accessFlags := 49
  interfaces := #[2]
  cf := some (fileOf pool3 18 #[] #[{ accessFlags := 1, nameIndex := 5, descriptorIndex := 6, attributes := #[] }, { accessFlags := 1, nameIndex := 24, descriptorIndex := 25, attributes := #[] }] 49 2 #[20] #[])
  fields := #[]
  methods := #[k3m0, k3m1]
  instanceTypes := #[]
  staticTypes := #[]
  resolved := Array.replicate 28 none
  statics := none }

def pool4 : Array CpInfo := pool [(1, .methodref 2 3), (0, .class_ 4), (0, .nameAndType 5 6), (0, u "java/lang/Object"), (0, u "<init>"), (0, u "()V"), (0, .class_ 8), (0, u "java/lang/Record")] 13

def k4c0 : Code := { maxStack := 1, maxLocals := 1, code := jdk_30_method_1_code, exceptionTable := #[], attributes := #[] }
def k4m0 : Method := { name := "<init>", desc := "()V", sig := { parameters := [], returnType := none }, accessFlags := 4, code := some k4c0 }
/-- java/lang/Record -/
def k4 : Class := { plain "java/lang/Record" (some 0) with
  accessFlags := 1057
  interfaces := #[]
  cf := some (fileOf pool4 7 #[] #[{ accessFlags := 4, nameIndex := 5, descriptorIndex := 6, attributes := #[] }] 1057 2 #[] #[])
  fields := #[]
  methods := #[k4m0]
  instanceTypes := #[]
  staticTypes := #[]
  resolved := Array.replicate 22 none
  statics := none }

def pool5 : Array CpInfo := pool [(1, .methodref 2 3), (0, .class_ 4), (0, .nameAndType 5 6), (0, u "java/lang/Record"), (0, u "<init>"), (0, u "()V"), (9, .fieldref 17 18), (0, .class_ 19), (0, .nameAndType 20 21), (0, u "com/example/credence/credence/core/Evidence"), (0, u "successes"), (0, u "J"), (0, .fieldref 17 23), (0, .nameAndType 24 21), (0, u "failures"), (2, u "(JJ)V"), (14, u "NONE"), (0, u "Lcom/example/credence/credence/core/Evidence;"), (9, u "()J")] 30

def k5c0 : Code := { maxStack := 6, maxLocals := 5, code := prog_3_method_1_code, exceptionTable := #[], attributes := #[] }
def k5m0 : Method := { name := "<init>", desc := "(JJ)V", sig := { parameters := [.long, .long], returnType := none }, accessFlags := 1, code := some k5c0 }
def k5c1 : Code := { maxStack := 2, maxLocals := 1, code := prog_3_method_6_code, exceptionTable := #[], attributes := #[] }
def k5m1 : Method := { name := "successes", desc := "()J", sig := { parameters := [], returnType := some .long }, accessFlags := 1, code := some k5c1 }
def k5c2 : Code := { maxStack := 2, maxLocals := 1, code := prog_3_method_7_code, exceptionTable := #[], attributes := #[] }
def k5m2 : Method := { name := "failures", desc := "()J", sig := { parameters := [], returnType := some .long }, accessFlags := 1, code := some k5c2 }
/-- com/example/credence/credence/core/Evidence -/
def k5 : Class := { plain "com/example/credence/credence/core/Evidence" (some 4) with
  accessFlags := 49
  interfaces := #[]
  cf := some (fileOf pool5 17 #[] #[{ accessFlags := 1, nameIndex := 5, descriptorIndex := 27, attributes := #[] }, { accessFlags := 1, nameIndex := 20, descriptorIndex := 53, attributes := #[] }, { accessFlags := 1, nameIndex := 24, descriptorIndex := 53, attributes := #[] }] 49 2 #[] #[{ accessFlags := 18, nameIndex := 20, descriptorIndex := 21, attributes := #[] }, { accessFlags := 18, nameIndex := 24, descriptorIndex := 21, attributes := #[] }, { accessFlags := 25, nameIndex := 42, descriptorIndex := 43, attributes := #[] }])
  fields := #[{ name := "successes", type := .long, accessFlags := 18, slot := 0, constantValue := 0 }, { name := "failures", type := .long, accessFlags := 18, slot := 1, constantValue := 0 }, { name := "NONE", type := (.object "com/example/credence/credence/core/Evidence"), accessFlags := 25, slot := 0, constantValue := 0 }]
  methods := #[k5m0, k5m1, k5m2]
  instanceTypes := #[.long, .long]
  staticTypes := #[(.object "com/example/credence/credence/core/Evidence")]
  resolved := Array.replicate 84 none
  statics := none }

def pool6 : Array CpInfo := pool [(1, u "java/lang/Cloneable"), (0, .class_ 1), (0, u "java/lang/Object"), (0, .class_ 3)] 3

/-- java/lang/Cloneable -/
def k6 : Class := { plain "java/lang/Cloneable" (some 0) with
  accessFlags := 1537
  interfaces := #[]
  cf := some (fileOf pool6 2 #[] #[] 1537 4 #[] #[])
  fields := #[]
  methods := #[]
  instanceTypes := #[]
  staticTypes := #[]
  resolved := Array.replicate 8 none
  statics := none }

def pool7 : Array CpInfo := pool [(1, u "java/io/Serializable"), (0, .class_ 1), (0, u "java/lang/Object"), (0, .class_ 3)] 3

/-- java/io/Serializable -/
def k7 : Class := { plain "java/io/Serializable" (some 0) with
  accessFlags := 1537
  interfaces := #[]
  cf := some (fileOf pool7 2 #[] #[] 1537 4 #[] #[])
  fields := #[]
  methods := #[]
  instanceTypes := #[]
  staticTypes := #[]
  resolved := Array.replicate 8 none
  statics := none }

/-- the primitive byte -/
def k8 : Class := { plain "byte" none with kind := .primitive 'B', accessFlags := 0x411 }
/-- [B -/
def k9 : Class := { plain "[B" (some 0) with kind := .array 8 .byte, interfaces := #[6, 7], accessFlags := 1041 }

/-- the primitive int -/
def k10 : Class := { plain "int" none with kind := .primitive 'I', accessFlags := 0x411 }
/-- [I -/
def k11 : Class := { plain "[I" (some 0) with kind := .array 10 .int, interfaces := #[6, 7], accessFlags := 1041 }

def heap : Heap := #[]
def classes : Array Class := #[k0, k1, k2, k3, k4, k5, k6, k7, k8, k9, k10, k11]
def interned : List (Array UInt16 × Addr) := []
def slotsUsed : Nat := 0
def theMethod : MethodId := ⟨1, 1⟩
def args0 : Array Value := #[.long 5, .long 6, .int 3, .int 4, .int 5]
def aboutOver (below : List Frame) : State where
  vm := { classes := classes, interned := interned.toArray }
  heap := heap
  slotsUsed := slotsUsed
  threads := #[{ frames := .invoking theMethod args0 :: below }]
def below0 : List Frame := [.native { method := ⟨0, 0⟩, args := #[] }]
def about1 : State := aboutOver below0
def p0 : Program := .bare "" "" ""
def e0 : Env := launch0.env 0 0 0
theorem w_frames : about1.frames = Frame.invoking theMethod args0 :: below0 := rfl
set_option maxRecDepth 65536 in
theorem w_args : argsFit about1.vm theMethod args0 = true := by decide +kernel
set_option maxRecDepth 65536 in
theorem w_heap : heapFits about1 = true := by decide +kernel
set_option maxRecDepth 65536 in
theorem w_runnable : about1.curStatus? = some .runnable := by decide +kernel
set_option maxRecDepth 65536 in
theorem w_alone : about1.alone = true := by decide +kernel
set_option maxRecDepth 65536 in
theorem w_named : about1.methodNamed? x = some theMethod := by decide +kernel
set_option maxRecDepth 65536 in
theorem w_hears : about1.hears theMethod below0 = true := by decide +kernel
set_option maxRecDepth 65536 in
theorem w_ripe : about1.ripe theMethod args0 below0 = true := by decide +kernel
theorem w_running : about1.status = .running := rfl
set_option maxRecDepth 65536 in
theorem w_room : about1.hasRoom e0.platform room_1 = true :=
  launch0.hasRoom_least _ room_1 (by decide +kernel) (by decide +kernel) (by decide +kernel) (by decide +kernel) (by decide +kernel) (by decide +kernel)
theorem allAtoms_all (ts : List Jvm.Cond) (a : Array Jvm.Value) (st : Jvm.State) : (allAtoms ts).before a st = ts.all (fun c => c.before a st) := by
  induction ts with
  | nil => rfl
  | cons c t ih =>
    show (Jvm.Cond.and c (allAtoms t)).before a st = _
    rw [Jvm.Cond.before_and, ih, List.all_cons]
def words1 : List Jvm.Cond := Jvm.Cond.code x code maxLocals ret :: tables_1
/-- a 'code' word, met by the world's own term for the bytes: nothing is compared byte by byte -/
theorem code_word {y : MethodName} {bytes : ByteArray} {mx : Nat} {rt : Option FieldType} {a : Array Value} {s : State} {m : MethodId} {meth : Method} {c : Code} (h1 : s.methodNamed? y = some m) (h2 : s.vm.method? m = some meth) (h3 : meth.code = some c) (h4 : c.code = bytes)
    (h5 : (c.maxLocals == mx && c.exceptionTable.isEmpty && decide (c.maxStack ≤ mostOperands) && decide (meth.sig.returnType = rt) && !meth.locks && decide (parseMethodDescriptor y.desc = some meth.sig)) = true) : (Jvm.Cond.code y bytes mx rt).before a s = true := by
  simp only [Bool.and_eq_true, beq_iff_eq, Bool.not_eq_true', decide_eq_true_eq] at h5
  obtain ⟨⟨⟨⟨⟨g1, g2⟩, g3⟩, g4⟩, g5⟩, g6⟩ := h5
  simp [Cond.before, Cond.holds, Cond.value, h1, h2, h3, h4, g1, g2, g3, g4, g5, g6]
def isCode : Jvm.Cond → Bool
  | .code _ _ _ _ => true
  | _ => false
theorem all_split {L : List Jvm.Cond} {P : Jvm.Cond → Bool} (h1 : L.all (fun c => isCode c || P c) = true) (h2 : ∀ c ∈ L.filter isCode, P c = true) : L.all P = true := by
  refine List.all_eq_true.mpr fun c hc => ?_
  have h := List.all_eq_true.mp h1 c hc
  rcases Bool.eq_false_or_eq_true (isCode c) with hi | hi
  · exact h2 c (List.mem_filter.mpr ⟨hc, hi⟩)
  · simpa [hi] using h
set_option maxRecDepth 65536 in
theorem w_c0 : (Jvm.Cond.code x code maxLocals ret).before args0 about1 = true := code_word (m := ⟨1, 1⟩) (meth := k1m1) (c := k1c1) (by decide +kernel) rfl rfl rfl (by decide +kernel)
set_option maxRecDepth 65536 in
theorem w_c1 : (Jvm.Cond.code ({ cls := "com/example/credence/credence/core/BetaModel", name := "<init>", desc := "()V" } : Jvm.MethodName) prog_1_method_1_code (1 : Nat) (Option.none : Option Jvm.ClassFile.FieldType)).before args0 about1 = true := code_word (m := ⟨3, 0⟩) (meth := k3m0) (c := k3c0) (by decide +kernel) rfl rfl rfl (by decide +kernel)
set_option maxRecDepth 65536 in
theorem w_c2 : (Jvm.Cond.code ({ cls := "java/lang/Object", name := "<init>", desc := "()V" } : Jvm.MethodName) object_method_1_code (1 : Nat) (Option.none : Option Jvm.ClassFile.FieldType)).before args0 about1 = true := code_word (m := ⟨0, 0⟩) (meth := k0m0) (c := k0c0) (by decide +kernel) rfl rfl rfl (by decide +kernel)
set_option maxRecDepth 65536 in
theorem w_c3 : (Jvm.Cond.code ({ cls := "com/example/credence/credence/core/Evidence", name := "<init>", desc := "(JJ)V" } : Jvm.MethodName) prog_3_method_1_code (5 : Nat) (Option.none : Option Jvm.ClassFile.FieldType)).before args0 about1 = true := code_word (m := ⟨5, 0⟩) (meth := k5m0) (c := k5c0) (by decide +kernel) rfl rfl rfl (by decide +kernel)
set_option maxRecDepth 65536 in
theorem w_c4 : (Jvm.Cond.code ({ cls := "java/lang/Record", name := "<init>", desc := "()V" } : Jvm.MethodName) jdk_30_method_1_code (1 : Nat) (Option.none : Option Jvm.ClassFile.FieldType)).before args0 about1 = true := code_word (m := ⟨4, 0⟩) (meth := k4m0) (c := k4c0) (by decide +kernel) rfl rfl rfl (by decide +kernel)
set_option maxRecDepth 65536 in
theorem w_c5 : (Jvm.Cond.code ({ cls := "com/example/credence/credence/core/BetaModel", name := "trust", desc := "(Lcom/example/credence/credence/core/Evidence;)D" } : Jvm.MethodName) prog_1_method_2_code (2 : Nat) (Option.some Jvm.ClassFile.FieldType.double)).before args0 about1 = true := code_word (m := ⟨3, 1⟩) (meth := k3m1) (c := k3c1) (by decide +kernel) rfl rfl rfl (by decide +kernel)
set_option maxRecDepth 65536 in
theorem w_c6 : (Jvm.Cond.code ({ cls := "com/example/credence/credence/core/Evidence", name := "successes", desc := "()J" } : Jvm.MethodName) prog_3_method_6_code (1 : Nat) (Option.some Jvm.ClassFile.FieldType.long)).before args0 about1 = true := code_word (m := ⟨5, 1⟩) (meth := k5m1) (c := k5c1) (by decide +kernel) rfl rfl rfl (by decide +kernel)
set_option maxRecDepth 65536 in
theorem w_c7 : (Jvm.Cond.code ({ cls := "com/example/credence/credence/core/Evidence", name := "failures", desc := "()J" } : Jvm.MethodName) prog_3_method_7_code (1 : Nat) (Option.some Jvm.ClassFile.FieldType.long)).before args0 about1 = true := code_word (m := ⟨5, 2⟩) (meth := k5m2) (c := k5c2) (by decide +kernel) rfl rfl rfl (by decide +kernel)
def codes1 : List Jvm.Cond := [Jvm.Cond.code x code maxLocals ret, Jvm.Cond.code ({ cls := "com/example/credence/credence/core/BetaModel", name := "<init>", desc := "()V" } : Jvm.MethodName) prog_1_method_1_code (1 : Nat) (Option.none : Option Jvm.ClassFile.FieldType), Jvm.Cond.code ({ cls := "java/lang/Object", name := "<init>", desc := "()V" } : Jvm.MethodName) object_method_1_code (1 : Nat) (Option.none : Option Jvm.ClassFile.FieldType), Jvm.Cond.code ({ cls := "com/example/credence/credence/core/Evidence", name := "<init>", desc := "(JJ)V" } : Jvm.MethodName) prog_3_method_1_code (5 : Nat) (Option.none : Option Jvm.ClassFile.FieldType), Jvm.Cond.code ({ cls := "java/lang/Record", name := "<init>", desc := "()V" } : Jvm.MethodName) jdk_30_method_1_code (1 : Nat) (Option.none : Option Jvm.ClassFile.FieldType), Jvm.Cond.code ({ cls := "com/example/credence/credence/core/BetaModel", name := "trust", desc := "(Lcom/example/credence/credence/core/Evidence;)D" } : Jvm.MethodName) prog_1_method_2_code (2 : Nat) (Option.some Jvm.ClassFile.FieldType.double), Jvm.Cond.code ({ cls := "com/example/credence/credence/core/Evidence", name := "successes", desc := "()J" } : Jvm.MethodName) prog_3_method_6_code (1 : Nat) (Option.some Jvm.ClassFile.FieldType.long), Jvm.Cond.code ({ cls := "com/example/credence/credence/core/Evidence", name := "failures", desc := "()J" } : Jvm.MethodName) prog_3_method_7_code (1 : Nat) (Option.some Jvm.ClassFile.FieldType.long)]
set_option maxRecDepth 65536 in
theorem codes_eq : words1.filter isCode = codes1 := rfl
theorem w_codes : ∀ c ∈ words1.filter isCode, c.before args0 about1 = true := by
  rw [codes_eq]
  intro c hc
  simp only [codes1, List.mem_cons, List.not_mem_nil, or_false] at hc
  rcases hc with rfl | rfl | rfl | rfl | rfl | rfl | rfl | rfl
  · exact w_c0
  · exact w_c1
  · exact w_c2
  · exact w_c3
  · exact w_c4
  · exact w_c5
  · exact w_c6
  · exact w_c7
set_option maxRecDepth 65536 in
theorem w_t1 : (words1.take 24).all (fun c => isCode c || c.before args0 about1) = true := by decide +kernel
set_option maxRecDepth 65536 in
theorem w_t2 : (words1.drop 24).all (fun c => isCode c || c.before args0 about1) = true := by decide +kernel
theorem w_tables : (allAtoms (Jvm.Cond.code x code maxLocals ret :: tables_1)).before args0 about1 = true := by
  rw [allAtoms_all]
  show words1.all (fun c => c.before args0 about1) = true
  refine all_split ?_ w_codes
  rw [← List.take_append_drop 24 words1, List.all_append, w_t1, w_t2]
  rfl
set_option maxRecDepth 65536 in
theorem w_case : (Jvm.Cond.and given_1 narrow_1).before args0 about1 = true := by decide +kernel
theorem w_applies : (headSpec (Jvm.Cond.code x code maxLocals ret :: tables_1) room_1).applies x e0.platform about1 = true :=
  (Spec.applies_iff w_frames).mpr ⟨w_running, w_runnable, w_alone, w_named, w_hears, w_ripe, w_room, w_tables⟩
theorem atStart : AtStart classFile x code maxLocals ret World_1 tables_1 room_1 Calls_1 rest_1 Pre_1 launch0 p0 e0 about1 theMethod args0 below0 :=
  ⟨lists_1, trivial, launch0.admits_env _ _ _, launch0.least_env, fairChoices_fair.cas, fairChoices_fair.clock, w_frames, w_args, w_heap, w_applies, trivial, trivial, w_case⟩
end start1
theorem witness_1 : WitnessClaimed_1 := ⟨start1.p0, start1.e0, start1.about1, start1.theMethod, start1.args0, start1.below0, start1.atStart⟩
end Jvm.Pilot.@@N@@
