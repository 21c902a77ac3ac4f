import JvmDerived
import JvmDerived.Pilot.@@N@@Statement
import JvmDerived.Pilot.@@N@@Code
set_option linter.unusedVariables false
set_option linter.unusedSimpArgs false
namespace Jvm.Pilot.@@N@@
open Jvm Jvm.ClassFile Sem Op Lib Jvm.Free Jvm.Stand Jvm.LawKit Jvm.RoadKit Bundle Jvm.Pilot.@@N@@.Jvm.D
def own_Go (p : Program) (e : Env) (below : List Frame) (P : Outcome → State → Prop) (st : State) : Prop :=
  ∃ s₂ o, Steps p.tables e below st s₂ ∧ s₂.status = .running ∧ Ended s₂ below o ∧ P o s₂
def own_Fin (s : State) (C S : Nat) (Q : Option Value → Heap → List Loc → Prop) (o : Outcome) (U : State) : Prop := ∃ v L, o = .returned v ∧ Q v U.heap L ∧ FrameEnd s o U L C S
def own_upd {α : Type} (f : Nat → α) (j : Nat) (v : α) : Nat → α := fun i => if i = j then v else f i
def own_Arf (Z : State) (h : Heap) (a : Addr) (k : ClassId) (ty : FieldType) (n : Int32) (f : Nat → Value) : Prop := ∃ c : Cell, Arr Z h a c ty ∧ c.cls = k ∧ c.slots.size = n.toNatClampNeg ∧ ¬ n < 0 ∧ (∀ i, i < c.slots.size → c.slots[i]? = some (f i)) ∧ ∀ i, i < c.slots.size → fits ty (f i) = true
section OwnKit
variable {p : Program} {l : Launch} {e : Env} {R : Room} {s : State} {m : MethodId} {args : Array Value} {below : List Frame} {meth : Method} {c : Code} {T : State} {locs : List Loc} {cells slots C S : Nat} {P : Outcome → State → Prop} {Q : Option Value → Heap → List Loc → Prop} {Z : State} {h h' : Heap} {a b : Addr} {k : ClassId} {ty : FieldType} {n : Int32} {ws : List Addr}
theorem own_by {st st' : State} (f : ∀ t, Steps p.tables e below st' t → Steps p.tables e below st t) (g : own_Go p e below P st') : own_Go p e below P st := by
  obtain ⟨s₂, o, h1, h2⟩ := g
  exact ⟨s₂, o, f _ h1, h2⟩
theorem own_mono (X : Stand p l e R s m args below meth c T locs cells slots) {c' s' : Nat} (hc : cells ≤ c') (hs : slots ≤ s') : Stand p l e R s m args below meth c T locs c' s' := { X with same := X.same.mono hc hs }
theorem own_end (X : Stand p l e R s m args below meth c T locs cells slots) {v : Option Value} (hv : meth.sig.returnType = none → v = none) (hlk : meth.locks = false) (eT : T.heap = h) (hQ : Q v h locs) (hc : cells ≤ C) (hs : slots ≤ S)
    {g : JFrame} (st : ∀ fs, (∀ (f : JFrame) (acts : List Action), f.method = m → f.locked = none → f.entered = [] → (doReturn e (T.setTop f) acts v).1 = T.setFrames fs) → Steps p.tables e below (T.setTop g) (T.setFrames fs)) : own_Go p e below (own_Fin s C S Q) (T.setTop g) := by
  obtain ⟨fs, hr, hrun, hended, hW, hsame⟩ := X.leave (v := v) hv hlk
  refine ⟨_, _, st fs hr, hrun, hended, v, locs, rfl, ?_, ⟨_, rfl⟩, hW, hsame.mono hc hs⟩
  show Q v T.heap locs
  rw [eT]; exact hQ
theorem own_retN (X : Stand p l e R s m args below meth c T locs cells slots) (hx : p.tables.exec = Jvm.exec) {pc : Nat} {Ls : Array Slot} {z : Int32} {t : FieldType} {rest : List Value} (hret : meth.sig.returnType = some t) (ht : t = .boolean ∨ t = .byte ∨ t = .char ∨ t = .short) (hd : decode c.code pc = .ok (.ireturn, 1)) (hlk : meth.locks = false) (eT : T.heap = h) (hQ : Q (some (.int (nar t z))) h locs) (hc : cells ≤ C) (hs : slots ≤ S) : own_Go p e below (own_Fin s C S Q) (T.setTop (mkF m pc Ls (.int z :: rest))) :=
  own_end X (fun h => by rw [hret] at h; cases h) hlk eT hQ hc hs fun fs hr => retN X hx hret ht hd hr
theorem own_retI (X : Stand p l e R s m args below meth c T locs cells slots) (hx : p.tables.exec = Jvm.exec) {pc : Nat} {Ls : Array Slot} {z : Int32} {rest : List Value} (hret : meth.sig.returnType = some .int) (hd : decode c.code pc = .ok (.ireturn, 1)) (hlk : meth.locks = false) (eT : T.heap = h) (hQ : Q (some (.int z)) h locs) (hc : cells ≤ C) (hs : slots ≤ S) : own_Go p e below (own_Fin s C S Q) (T.setTop (mkF m pc Ls (.int z :: rest))) :=
  own_end X (fun h => by rw [hret] at h; cases h) hlk eT hQ hc hs fun fs hr => retOut X hx hret rfl (Or.inl ⟨rfl, Or.inl rfl, _, rfl⟩) hd hr
theorem own_retJ (X : Stand p l e R s m args below meth c T locs cells slots) (hx : p.tables.exec = Jvm.exec) {pc : Nat} {Ls : Array Slot} {z : Int64} {rest : List Value} (hret : meth.sig.returnType = some .long) (hd : decode c.code pc = .ok (.lreturn, 1)) (hlk : meth.locks = false) (eT : T.heap = h) (hQ : Q (some (.long z)) h locs) (hc : cells ≤ C) (hs : slots ≤ S) : own_Go p e below (own_Fin s C S Q) (T.setTop (mkF m pc Ls (.long z :: rest))) :=
  own_end X (fun h => by rw [hret] at h; cases h) hlk eT hQ hc hs fun fs hr => retOut X hx hret rfl (Or.inr (Or.inl ⟨rfl, rfl, _, rfl⟩)) hd hr
theorem own_retD (X : Stand p l e R s m args below meth c T locs cells slots) (hx : p.tables.exec = Jvm.exec) {pc : Nat} {Ls : Array Slot} {z : UInt64} {rest : List Value} (hret : meth.sig.returnType = some .double) (hd : decode c.code pc = .ok (.dreturn, 1)) (hlk : meth.locks = false) (eT : T.heap = h) (hQ : Q (some (.double z)) h locs) (hc : cells ≤ C) (hs : slots ≤ S) : own_Go p e below (own_Fin s C S Q) (T.setTop (mkF m pc Ls (.double z :: rest))) :=
  own_end X (fun h => by rw [hret] at h; cases h) hlk eT hQ hc hs fun fs hr => retOut X hx hret rfl (Or.inr (Or.inr (Or.inl ⟨rfl, rfl, _, rfl⟩))) hd hr
theorem own_retR (X : Stand p l e R s m args below meth c T locs cells slots) (hx : p.tables.exec = Jvm.exec) {pc : Nat} {Ls : Array Slot} {w : Value} {t : FieldType} {rest : List Value} (hret : meth.sig.returnType = some t) (ht : t.isReference = true) (hw : w.isRef = true) (hd : decode c.code pc = .ok (.areturn, 1)) (hlk : meth.locks = false) (eT : T.heap = h) (hQ : Q (some w) h locs) (hc : cells ≤ C) (hs : slots ≤ S) : own_Go p e below (own_Fin s C S Q) (T.setTop (mkF m pc Ls (w :: rest))) :=
  own_end X (fun h => by rw [hret] at h; cases h) hlk eT hQ hc hs fun fs hr => retOut X hx hret (by cases t <;> first | rfl | (cases w <;> first | rfl | cases hw) | (cases ht)) (Or.inr (Or.inr (Or.inr (Or.inr ⟨rfl, ht, hw⟩)))) hd hr
theorem own_ret0 (X : Stand p l e R s m args below meth c T locs cells slots) (hx : p.tables.exec = Jvm.exec) {pc : Nat} {Ls : Array Slot} (hret : meth.sig.returnType = none) (hd : decode c.code pc = .ok (.return_, 1)) (hlk : meth.locks = false) (eT : T.heap = h) (hQ : Q none h locs) (hc : cells ≤ C) (hs : slots ≤ S) : own_Go p e below (own_Fin s C S Q) (T.setTop (mkF m pc Ls [])) :=
  own_end X (fun _ => rfl) hlk eT hQ hc hs fun fs hr => X.returnOut hx hret hd hr
theorem own_one {z : Int32} (q : z = 1) : (some (.int (nar .boolean z)) : Option Value) = some (.int 1) := by subst q; rfl
theorem own_lrem {g : JFrame} {target : State} (hh : At T m c below) (hx : p.tables.exec = Jvm.exec) (hg : g.method = m) {x y : Int64} {rest : List Value} (hd : decode c.code g.pc = .ok (.lrem, 1)) (hs : g.stack = .long y :: .long x :: rest) (hy : y ≠ 0)
    (hr : Steps p.tables e below (T.setTop { g with pc := g.pc + 1, stack := .long (x % y) :: rest }) target) : Steps p.tables e below (T.setTop g) target :=
  XS.lrem hh hx hg hd hs hy (by rw [lrem_mod]; exact hr)
theorem own_Arf.lt {f : Nat → Value} (F : own_Arf Z h a k ty n f) : a < h.size := by obtain ⟨c, A, -⟩ := F; exact A.lt
theorem own_Arf.ext {f : Nat → Value} (F : own_Arf Z h a k ty n f) (E : Ext h h') : own_Arf Z h' a k ty n f := by obtain ⟨c, A, r⟩ := F; exact ⟨c, A.ext E, r⟩
theorem own_Arf.other {f : Nat → Value} {sl : Nat} {v : Value} (F : own_Arf Z h b k ty n f) (W : Wr h h' a sl v) (q : b ≠ a) : own_Arf Z h' b k ty n f := by obtain ⟨c, A, r⟩ := F; exact ⟨c, A.other W q, r⟩
theorem own_Arf.keep {f : Nat → Value} (F : own_Arf Z h a k ty n f) (K : Keep h h' ws) (q : a ∉ ws) : own_Arf Z h' a k ty n f := by obtain ⟨c, A, r⟩ := F; exact ⟨c, ⟨K.2.1 a c A.1 q, A.2⟩, r⟩
theorem own_arfNew (A : Arr Z h a (newA k ty n) ty) (q : ¬ n < 0) : own_Arf Z h a k ty n (fun _ => defaultValue ty) := ⟨_, A, rfl, sz_new _ _ _, q, fun i hi => by
  rw [sz_new] at hi; simp [newA, hi], fun i _ => by cases ty <;> rfl⟩
theorem own_arfSet {cl : Cell} {f : Nat → Value} {j : Nat} {v : Value} (A : Arr Z h a cl ty) (q1 : cl.cls = k) (S : cl.slots.size = n.toNatClampNeg) (q3 : ¬ n < 0) (H : ∀ i, i < cl.slots.size → cl.slots[i]? = some (f i)) (G : ∀ i, i < cl.slots.size → fits ty (f i) = true) (hv : fits ty v = true) (W : Wr h h' a j v) : own_Arf Z h' a k ty n (own_upd f j v) := by
  refine ⟨_, A.same W, q1, by rw [sz_set]; exact S, q3, fun i hi => ?_, fun i hi => ?_⟩
  · rw [sz_set] at hi
    by_cases u : j = i
    · subst u; simp [Cell.setSlot, hi, own_upd]
    · have := H i hi; simp only [Cell.setSlot] at this ⊢
      rw [Array.getElem?_setIfInBounds_ne u, this]; simp [own_upd, Ne.symm u]
  · rw [sz_set] at hi
    by_cases u : j = i
    · subst u; simpa [own_upd] using hv
    · have := G i hi; simpa [own_upd, Ne.symm u] using this
theorem own_arfSetI {cl : Cell} {f : Nat → Int32} {j : Nat} {v : Int32} (A : Arr Z h a cl ty) (q1 : cl.cls = k) (S : cl.slots.size = n.toNatClampNeg) (q3 : ¬ n < 0) (H : ∀ i, i < cl.slots.size → cl.slots[i]? = some (.int (f i))) (G : ∀ i, i < cl.slots.size → fits ty (.int (f i)) = true) (hv : fits ty (.int v) = true) (W : Wr h h' a j (.int v)) : own_Arf Z h' a k ty n (fun i => .int (own_upd f j v i)) := by
  have q := own_arfSet (f := fun i => .int (f i)) A q1 S q3 H G hv W
  have e : (own_upd (fun i => Value.int (f i)) j (.int v)) = (fun i => .int (own_upd f j v i)) := by funext i; simp only [own_upd]; split <;> rfl
  rw [← e]; exact q
theorem own_arfSetJ {cl : Cell} {f : Nat → Int64} {j : Nat} {v : Int64} (A : Arr Z h a cl ty) (q1 : cl.cls = k) (S : cl.slots.size = n.toNatClampNeg) (q3 : ¬ n < 0) (H : ∀ i, i < cl.slots.size → cl.slots[i]? = some (.long (f i))) (G : ∀ i, i < cl.slots.size → fits ty (.long (f i)) = true) (hv : fits ty (.long v) = true) (W : Wr h h' a j (.long v)) : own_Arf Z h' a k ty n (fun i => .long (own_upd f j v i)) := by
  have q := own_arfSet (f := fun i => .long (f i)) A q1 S q3 H G hv W
  have e : (own_upd (fun i => Value.long (f i)) j (.long v)) = (fun i => .long (own_upd f j v i)) := by funext i; simp only [own_upd]; split <;> rfl
  rw [← e]; exact q
theorem own_arfSetD {cl : Cell} {f : Nat → UInt64} {j : Nat} {v : UInt64} (A : Arr Z h a cl ty) (q1 : cl.cls = k) (S : cl.slots.size = n.toNatClampNeg) (q3 : ¬ n < 0) (H : ∀ i, i < cl.slots.size → cl.slots[i]? = some (.double (f i))) (G : ∀ i, i < cl.slots.size → fits ty (.double (f i)) = true) (hv : fits ty (.double v) = true) (W : Wr h h' a j (.double v)) : own_Arf Z h' a k ty n (fun i => .double (own_upd f j v i)) := by
  have q := own_arfSet (f := fun i => .double (f i)) A q1 S q3 H G hv W
  have e : (own_upd (fun i => Value.double (f i)) j (.double v)) = (fun i => .double (own_upd f j v i)) := by funext i; simp only [own_upd]; split <;> rfl
  rw [← e]; exact q
theorem own_neArr {A0 : Array Value} {C : String} {kk : Nat} {f : Nat → Value} (F : Exa Z h a C) (wi : (Cond.instantiable C kk).before A0 Z = true) (G : own_Arf Z h b k ty n f) : a ≠ b := by
  obtain ⟨c, A, -⟩ := G
  exact ne_arr F wi A
theorem own_selPriv {Z s : State} {A0 args : Array Value} {y : MethodName} {n : Nat} (hZ : Z.Warmed39 s.vm) (wi : (Cond.instantiable y.cls n).before A0 Z = true) (wp : (Cond.privateMethod y).before A0 Z = true) (wm : (Cond.instanceMethod y).before A0 Z = true) (hy : y.cls ≠ "java/lang/invoke/MethodHandle" ∧ y.cls ≠ "java/lang/invoke/VarHandle") : (Cond.selects y.cls y y).before args s = true := by
  have wi' : (Cond.instantiable y.cls n).before args s = true := mvT hZ wi
  obtain ⟨c, k, h1, h2, h3, h4, -⟩ := Cond.instantiable_spec wi'
  refine selects_self_of_private h1 h2 ?_ (Cond.privateMethod_at (mvP hZ wp (args := args))) (mvT hZ wm) hy
  cases hi : k.isInterface <;> simp_all
theorem own_fitR {t : FieldType} {v : Value} (h : v.isRef = true) : fits (.array t) v = true := by cases v <;> first | rfl | cases h
theorem own_fitO {t : String} {v : Value} (h : v.isRef = true) : fits (.object t) v = true := by cases v <;> first | rfl | cases h
theorem own_exaPlain {C : String} (E : Exa Z h a C) : ∀ c : Cell, h[a]? = some c → c.vm.isStatics = false := fun c hc => by
  obtain ⟨cell, k, h1, -, -, h4, -⟩ := E
  cases h1.symm.trans hc; exact h4
theorem own_arfPlain {f : Nat → Value} (F : own_Arf Z h a k ty n f) : ∀ c : Cell, h[a]? = some c → c.vm.isStatics = false := fun c hc => by
  obtain ⟨cell, A, -⟩ := F
  cases A.1.symm.trans hc; exact A.plain
theorem own_staKeep {C nn d : String} {w : Value} (F : Sta Z h C nn d w) (K : Keep h h' ws) (hp : ∀ x ∈ ws, ∀ c : Cell, h[x]? = some c → c.vm.isStatics = false) : Sta Z h' C nn d w := by
  obtain ⟨cf, i, k, f, st, cell, h1, h2, h3, h4, h5, h6, h7⟩ := F
  have hn : st ∉ ws := fun hm => by have := hp st hm cell h5; rw [h6] at this; cases this
  exact ⟨cf, i, k, f, st, cell, h1, h2, h3, h4, K.2.1 st cell h5 hn, h6, h7⟩
theorem own_cat1 {v : Value} (h : v.isRef = true) : v.category = 1 := by cases v <;> first | rfl | cases h
end OwnKit

theorem own_landNN (x : Int64) : ¬ ((x &&& (9223372036854775807 : Int64)) < (0 : Int64)) := by
  have h := (c_andSL x 9223372036854775807).2.2 (by decide)
  rw [Int64.lt_iff_toInt_lt]
  have e : (0 : Int64).toInt = 0 := rfl
  omega
theorem own_rem (x : Int32) (d : Int) (y : Int32) (hy : y.toInt = d) (h0 : 0 < d) : 0 ≤ ((x &&& 2147483647) % y).toInt ∧ ((x &&& 2147483647) % y).toInt < d := by
  have h1 := c_and x 2147483647 (by decide)
  have h2 := (c_irem (x &&& 2147483647) y d hy).1 h1.1
  rw [h2]; exact ⟨Int.emod_nonneg _ (by omega), Int.emod_lt_of_pos _ h0⟩
theorem own_fldEq {args : Array Value} {s : State} {t : Term} {a : Addr} {C n d : String} {k : Int32} (h : (Jvm.Cond.eq (Term.field t C n d) (Term.int k)).value args s none s [] = some true) (ev : t.eval args s none [] s = some (.ref a)) : Fld s s.heap a C n d (.int k) := by
  refine Fld.start ?_
  have e1 := fld_at (C := C) (n := n) (dd := d) ev
  have e2 : (Term.int k).eval args s none [] s = some (.int k) := rfl
  simp only [Cond.value, e1, e2] at h
  cases hf : s.fieldOf? a C n d with
  | none => rw [hf] at h; simp at h
  | some v =>
    rw [hf] at h
    cases v <;> simp_all
theorem own_s16 (x : Int32) (h1 : -32768 ≤ x.toInt) (h2 : x.toInt < 32768) : x.toInt16.toInt32 = x := by
  have h := c_i2s x
  apply Int32.toInt_inj.mp
  omega
theorem own_swn (k : Int32) {a : Int32} {A : Int} (e : a.toInt = A) (h : ¬ (k = a)) : (A == k.toInt) = false := by
  apply Bool.eq_false_iff.mpr
  intro q
  exact h (Int32.toInt_inj.mp ((beq_iff_eq.mp q).symm.trans e.symm))
/-- a double as a whole number of the format's least numbers -/
abbrev own_z (x : UInt64) : Int := FP.Core.zval FP.Core.b64 (FP.Core.val64 x)
/-- 2^-40 in these units -/
def own_P : Int := ((2 ^ 1034 : Nat) : Int)
theorem own_Pp : 0 < own_P := Int.ofNat_lt.mpr (Nat.two_pow_pos 1034)
theorem own_grid (k : Nat) (hk : k < 2 ^ 53) : ∃ V, FP.Core.fits FP.Core.b64 V ∧ V ≠ .nan ∧ FP.Core.zval FP.Core.b64 V = (k : Int) * own_P := by
  by_cases h0 : k = 0
  · subst h0
    refine ⟨.fin false 0 FP.Core.b64.qmin, FP.Core.zero_fits FP.Core.good_b64 false, nofun, ?_⟩
    show FP.Core.signed false (FP.Core.inUnits 0 _ _) = _
    simp [FP.Core.inUnits, FP.Core.signed]
  · have h1 : 2 ^ k.log2 ≤ k := Nat.log2_self_le h0
    have h2 : k < 2 ^ (k.log2 + 1) := Nat.lt_log2_self
    have h3 : k.log2 ≤ 52 := by
      have h4 : 2 ^ k.log2 < 2 ^ 53 := Nat.lt_of_le_of_lt h1 hk
      have := (Nat.pow_lt_pow_iff_right (a := 2) (by decide)).mp h4
      omega
    generalize k.log2 = l at h1 h2 h3
    have e : 2 ^ (l + 1) * 2 ^ (52 - l) = 2 ^ 53 := by rw [← Nat.pow_add]; congr 1; omega
    have e2 : 2 ^ l * 2 ^ (52 - l) = 2 ^ 52 := by rw [← Nat.pow_add]; congr 1; omega
    refine ⟨.fin false (k * 2 ^ (52 - l)) ((l : Int) - 92), ⟨?_, ?_, ?_, Or.inr ?_⟩, nofun, ?_⟩
    · show k * 2 ^ (52 - l) < 2 ^ 53
      rw [← e]
      exact Nat.mul_lt_mul_of_pos_right h2 (Nat.two_pow_pos _)
    · rw [FP.Core.qmin_b64]; omega
    · have : FP.Core.b64.qmax = 971 := by decide
      rw [this]; omega
    · rw [FP.Core.tails_b64, ← e2]
      exact Nat.mul_le_mul_right _ h1
    · show FP.Core.signed false (FP.Core.inUnits (k * 2 ^ (52 - l)) ((l : Int) - 92) FP.Core.b64.qmin) = _
      rw [FP.Core.qmin_b64]
      have e3 : ((l : Int) - 92 - -1074).toNat = l + 982 := by omega
      unfold FP.Core.inUnits
      rw [e3, Nat.mul_assoc, ← Nat.pow_add]
      have e4 : 52 - l + (l + 982) = 1034 := by omega
      rw [e4]
      show ((k * 2 ^ 1034 : Nat) : Int) = (k : Int) * ((2 ^ 1034 : Nat) : Int)
      exact Int.natCast_mul _ _
/-- below and above s, on the grid -/
theorem own_near (s : Int) (h0 : 0 ≤ s) (h1 : s ≤ 8796093022208 * own_P) : ∃ V W, FP.Core.fits FP.Core.b64 V ∧ V ≠ .nan ∧ FP.Core.fits FP.Core.b64 W ∧ W ≠ .nan ∧ 0 ≤ FP.Core.zval FP.Core.b64 V ∧ FP.Core.zval FP.Core.b64 V ≤ s ∧ s - own_P ≤ FP.Core.zval FP.Core.b64 V ∧ s ≤ FP.Core.zval FP.Core.b64 W ∧ FP.Core.zval FP.Core.b64 W ≤ s + own_P := by
  have hp := own_Pp
  have a1 := Int.ediv_mul_le s (Int.ne_of_gt hp)
  have a2 := Int.lt_ediv_add_one_mul_self s hp
  have a3 : 0 ≤ s / own_P := Int.ediv_nonneg h0 (Int.le_of_lt hp)
  have a4 : s / own_P ≤ 8796093022208 := Int.le_of_mul_le_mul_right (Int.le_trans a1 h1) hp
  obtain ⟨k, hk⟩ : ∃ k : Nat, s / own_P = (k : Int) := ⟨(s / own_P).toNat, (Int.toNat_of_nonneg a3).symm⟩
  rw [hk] at a1 a2 a4
  obtain ⟨V, v1, v2, v3⟩ := own_grid k (by omega)
  obtain ⟨W, w1, w2, w3⟩ := own_grid (k + 1) (by omega)
  have e : ((k + 1 : Nat) : Int) * own_P = (k : Int) * own_P + own_P := by rw [Int.natCast_add, Int.add_mul]; simp
  have e' : ((k : Int) + 1) * own_P = (k : Int) * own_P + own_P := by rw [Int.add_mul]; simp
  rw [e'] at a2
  refine ⟨V, W, v1, v2, w1, w2, ?_, ?_, ?_, ?_, ?_⟩
  · rw [v3]; exact Int.mul_nonneg (Int.natCast_nonneg k) (Int.le_of_lt hp)
  · rw [v3]; exact a1
  · rw [v3]; omega
  · rw [w3, e]; omega
  · rw [w3, e]; omega
theorem own_finz {r : UInt64} (hn : FP.Core.val64 r ≠ .nan) (h : own_z r ≤ 8796093022209 * own_P) (h' : 0 ≤ own_z r) : FP.Core.DFin r := by
  cases e : FP.Core.val64 r with
  | nan => exact absurd e hn
  | fin s c q => exact ⟨s, c, q, e⟩
  | inf s =>
    exfalso
    unfold own_z at h h'
    rw [e] at h h'
    cases s
    · exact absurd h (by decide +kernel)
    · exact absurd h' (by decide +kernel)
theorem own_sum {x y : UInt64} {d : FP.Core.Datum} {r : UInt64} (hx : FP.Core.DFin x) (hd : ∃ s c q, d = .fin s c q) (fd : FP.Core.fits FP.Core.b64 d) (zd : FP.Core.zval FP.Core.b64 d = own_z y) (hr : FP.Core.val64 r = FP.Core.round FP.Core.b64 (FP.Core.exactSum (FP.Core.val64 x) d)) (h0 : 0 ≤ own_z x + own_z y) (h1 : own_z x + own_z y ≤ 8796093022208 * own_P) : FP.Core.DFin r ∧ 0 ≤ own_z r ∧ own_z x + own_z y - own_P ≤ own_z r ∧ own_z r ≤ own_z x + own_z y + own_P := by
  obtain ⟨V, W, v1, v2, w1, w2, b0, b1, b2, b3, b4⟩ := own_near _ h0 h1
  have g1 := FP.Core.sum_ge FP.Core.good_b64 hx hd (FP.Core.val64_fits x) fd v1 v2 (by rw [zd]; exact b1)
  have g2 := FP.Core.sum_le FP.Core.good_b64 hx hd (FP.Core.val64_fits x) fd w1 w2 (by rw [zd]; exact b3)
  have hn : FP.Core.val64 r ≠ .nan := by
    obtain ⟨s, c, q, ex⟩ := hx
    obtain ⟨t, c', q', rfl⟩ := hd
    rw [hr, ex]
    exact FP.Core.roundRatio_ne_nan _ _ _ _ _
  rw [← hr] at g1 g2
  have k1 : own_z x + own_z y - own_P ≤ own_z r := Int.le_trans b2 g1
  have k2 : own_z r ≤ own_z x + own_z y + own_P := Int.le_trans g2 b4
  have k0 : 0 ≤ own_z r := Int.le_trans b0 g1
  exact ⟨own_finz hn (by omega) k0, k0, k1, k2⟩
theorem own_dadd {x y : UInt64} (hx : FP.Core.DFin x) (hy : FP.Core.DFin y) (h0 : 0 ≤ own_z x + own_z y) (h1 : own_z x + own_z y ≤ 8796093022208 * own_P) : FP.Core.DFin (FP.dadd x y) ∧ 0 ≤ own_z (FP.dadd x y) ∧ own_z x + own_z y - own_P ≤ own_z (FP.dadd x y) ∧ own_z (FP.dadd x y) ≤ own_z x + own_z y + own_P :=
  own_sum hx hy (FP.Core.val64_fits y) rfl (FP.Core.val64_dadd x y) h0 h1
theorem own_dneg {y : UInt64} (hy : FP.Core.DFin y) : ∃ s c q, FP.Core.negate (FP.Core.val64 y) = .fin s c q := by
  obtain ⟨s, c, q, e⟩ := hy
  exact ⟨!s, c, q, by rw [e]; rfl⟩
theorem own_noNaN {x : UInt64} (h : FP.Core.DFin x) : Fl.NoNaN64 x := by
  obtain ⟨s, c, q, e⟩ := h
  exact Jvm.Free.Fl.val64_no.mpr (by rw [e]; exact nofun)
theorem own_dsub {x y : UInt64} (hx : FP.Core.DFin x) (hy : FP.Core.DFin y) (h0 : 0 ≤ own_z x - own_z y) (h1 : own_z x - own_z y ≤ 8796093022208 * own_P) : FP.Core.DFin (FP.dsub x y) ∧ 0 ≤ own_z (FP.dsub x y) ∧ own_z x - own_z y - own_P ≤ own_z (FP.dsub x y) ∧ own_z (FP.dsub x y) ≤ own_z x - own_z y + own_P := by
  obtain ⟨V, W, v1, v2, w1, w2, b0, b1, b2, b3, b4⟩ := own_near _ h0 h1
  have zd : FP.Core.zval FP.Core.b64 (FP.Core.negate (FP.Core.val64 y)) = -own_z y := FP.Core.zval_negate FP.Core.b64 (FP.Core.val64 y)
  have hr := FP.Core.val64_dsub x y
  have g1 := FP.Core.sum_ge FP.Core.good_b64 hx (own_dneg hy) (FP.Core.val64_fits x) (FP.Core.negate_fits (FP.Core.val64_fits y)) v1 v2 (by rw [zd]; show _ ≤ own_z x + -own_z y; omega)
  have g2 := FP.Core.sum_le FP.Core.good_b64 hx (own_dneg hy) (FP.Core.val64_fits x) (FP.Core.negate_fits (FP.Core.val64_fits y)) w1 w2 (by rw [zd]; show own_z x + -own_z y ≤ _; omega)
  have hn : FP.Core.val64 (FP.Core.dsub x y) ≠ .nan := by
    obtain ⟨s, c, q, ex⟩ := hx
    obtain ⟨t, c', q', ey⟩ := hy
    rw [hr, ex, ey]
    exact FP.Core.roundRatio_ne_nan _ _ _ _ _
  rw [← hr] at g1 g2
  have k1 : own_z x - own_z y - own_P ≤ own_z (FP.Core.dsub x y) := Int.le_trans b2 g1
  have k2 : own_z (FP.Core.dsub x y) ≤ own_z x - own_z y + own_P := Int.le_trans g2 b4
  have k0 : 0 ≤ own_z (FP.Core.dsub x y) := Int.le_trans b0 g1
  exact ⟨own_finz hn (Int.le_trans k2 (by have := own_Pp; omega)) k0, k0, k1, k2⟩
def own_dchk (a : Nat) : Bool := decide ((FP.ddiv (FP.i2d (Int32.ofNat a)) 4652007308841189376).toNat % 2 ^ 63 < 9218868437227405312) && (decide (0 ≤ own_z (FP.ddiv (FP.i2d (Int32.ofNat a)) 4652007308841189376)) && (decide (1000 * own_z (FP.ddiv (FP.i2d (Int32.ofNat a)) 4652007308841189376) ≤ ((a * 2 ^ 1074 + 1000 * 2 ^ 1034 : Nat) : Int)) && decide (((a * 2 ^ 1074 : Nat) : Int) ≤ 1000 * own_z (FP.ddiv (FP.i2d (Int32.ofNat a)) 4652007308841189376) + ((1000 * 2 ^ 1034 : Nat) : Int))))
theorem own_dall : ∀ a, a < 1001 → own_dchk a = true := by decide +kernel
def own_R : UInt64 := 4472406533629990549
theorem own_Rz : 1099 * own_P ≤ own_z 4472406533629990549 ∧ own_z 4472406533629990549 ≤ 1100 * own_P := by decide +kernel
theorem own_Rf : FP.Core.DFin 4472406533629990549 := (FP.Core.fin_bits _).mpr (by decide +kernel)
theorem own_0f : FP.Core.DFin FP.dconst0 := (FP.Core.fin_bits _).mpr (by decide +kernel)
theorem own_0z : own_z FP.dconst0 = 0 := by decide +kernel
theorem own_ddiv {v : Int32} (h0 : 0 ≤ v.toInt) (h1 : v.toInt ≤ 1000) : FP.Core.DFin (FP.ddiv (FP.i2d v) 4652007308841189376) ∧ 0 ≤ own_z (FP.ddiv (FP.i2d v) 4652007308841189376) ∧ 1000 * own_z (FP.ddiv (FP.i2d v) 4652007308841189376) ≤ 1099511627776 * (v.toInt * own_P) + 1000 * own_P ∧ 1099511627776 * (v.toInt * own_P) ≤ 1000 * own_z (FP.ddiv (FP.i2d v) 4652007308841189376) + 1000 * own_P := by
  obtain ⟨a, ha⟩ : ∃ a : Nat, v.toInt = (a : Int) := ⟨v.toInt.toNat, (Int.toNat_of_nonneg h0).symm⟩
  have ev : v = Int32.ofNat a := by
    apply Int32.toInt_inj.mp
    rw [ha, Int32.toInt_ofNat_of_lt (by omega)]
  have h := own_dall a (by omega)
  unfold own_dchk at h
  rw [← ev] at h
  simp only [Bool.and_eq_true, decide_eq_true_eq] at h
  obtain ⟨c1, c0, c2, c3⟩ := h
  have e1 : ((a * 2 ^ 1074 : Nat) : Int) = 1099511627776 * (v.toInt * own_P) := by
    rw [ha, show (2 : Nat) ^ 1074 = 1099511627776 * 2 ^ 1034 by rw [show 1074 = 40 + 1034 from rfl, Nat.pow_add]]
    unfold own_P
    rw [Int.natCast_mul, Int.natCast_mul]
    rw [Int.mul_left_comm]
    rfl
  have e2 : ((1000 * 2 ^ 1034 : Nat) : Int) = 1000 * own_P := by
    unfold own_P
    rw [Int.natCast_mul]
    rfl
  rw [Int.natCast_add, e1, e2] at c2
  rw [e1, e2] at c3
  exact ⟨(FP.Core.fin_bits _).mpr c1, c0, c2, c3⟩
theorem own_rng {p v : Int32} (h : ((p &&& (2147483647 : Int32)) % (1001 : Int32)) = v) : 0 ≤ v.toInt ∧ v.toInt ≤ 1000 := by
  have h1 := own_rem p 1001 1001 rfl (by decide)
  rw [h] at h1
  omega
theorem own_rng4 {p v : Int32} (h : (((p &&& (2147483647 : Int32)) % (1000 : Int32)) + (1 : Int32)) = v) : 1 ≤ v.toInt ∧ v.toInt ≤ 1000 := by
  have h1 := own_rem p 1000 1000 rfl (by decide)
  have h2 := c_iadd ((p &&& (2147483647 : Int32)) % (1000 : Int32)) 1
  rw [h] at h2
  have e : (1 : Int32).toInt = 1 := rfl
  have r := rng32 v
  omega
/-- all that the law reckons, in units -/
theorem own_all {a b d c : Int32} (ha : 0 ≤ a.toInt ∧ a.toInt ≤ 1000) (hb : 0 ≤ b.toInt ∧ b.toInt ≤ 1000) (hd : 0 ≤ d.toInt ∧ d.toInt ≤ 1000) (hc : 1 ≤ c.toInt ∧ c.toInt ≤ 1000) {u1 u2 u3 u4 : UInt64} (e1 : FP.dadd FP.dconst0 (FP.ddiv (FP.i2d a) 4652007308841189376) = u1) (e2 : FP.dadd u1 (FP.ddiv (FP.i2d b) 4652007308841189376) = u2) (e3 : FP.dadd u2 (FP.ddiv (FP.i2d d) 4652007308841189376) = u3) (e4 : FP.ddiv (FP.i2d c) 4652007308841189376 = u4) :
    FP.Core.DFin u1 ∧ FP.Core.DFin u2 ∧ FP.Core.DFin u3 ∧ FP.Core.DFin u4 ∧ FP.Core.DFin (FP.dsub u4 4472406533629990549) ∧ (a.toInt + b.toInt + d.toInt < c.toInt ↔ own_z u3 < own_z (FP.dsub u4 4472406533629990549)) := by
  have hp := own_Pp
  obtain ⟨f1, a0, a1, a2⟩ := own_ddiv ha.1 ha.2
  obtain ⟨f2, b0, b1, b2⟩ := own_ddiv hb.1 hb.2
  obtain ⟨f3, d0, d1, d2⟩ := own_ddiv hd.1 hd.2
  obtain ⟨f4, c0, c1, c2⟩ := own_ddiv (v := c) (by omega) hc.2
  have m1 : a.toInt * own_P ≤ 1000 * own_P := Int.mul_le_mul_of_nonneg_right ha.2 (Int.le_of_lt hp)
  have m2 : b.toInt * own_P ≤ 1000 * own_P := Int.mul_le_mul_of_nonneg_right hb.2 (Int.le_of_lt hp)
  have m3 : d.toInt * own_P ≤ 1000 * own_P := Int.mul_le_mul_of_nonneg_right hd.2 (Int.le_of_lt hp)
  have m4 : 1 * own_P ≤ c.toInt * own_P := Int.mul_le_mul_of_nonneg_right hc.1 (Int.le_of_lt hp)
  have m5 : c.toInt * own_P ≤ 1000 * own_P := Int.mul_le_mul_of_nonneg_right hc.2 (Int.le_of_lt hp)
  have z0 := own_0z
  obtain ⟨r1, r2⟩ := own_Rz
  obtain ⟨g1, x0, x1, x2⟩ := own_dadd own_0f f1 (by omega) (by omega)
  rw [e1] at g1 x0 x1 x2
  obtain ⟨g2, y0, y1, y2⟩ := own_dadd g1 f2 (by omega) (by omega)
  rw [e2] at g2 y0 y1 y2
  obtain ⟨g3, w0, w1, w2⟩ := own_dadd g2 f3 (by omega) (by omega)
  rw [e3] at g3 w0 w1 w2
  rw [e4] at f4 c0 c1 c2
  obtain ⟨g5, t0, t1, t2⟩ := own_dsub f4 own_Rf (by omega) (by omega)
  refine ⟨g1, g2, g3, f4, g5, ?_⟩
  have s1 : (a.toInt + b.toInt + d.toInt) * own_P = a.toInt * own_P + b.toInt * own_P + d.toInt * own_P := by rw [Int.add_mul, Int.add_mul]
  constructor
  · intro h
    have k : (a.toInt + b.toInt + d.toInt + 1) * own_P ≤ c.toInt * own_P := Int.mul_le_mul_of_nonneg_right (by omega) (Int.le_of_lt hp)
    rw [Int.add_mul, s1] at k
    omega
  · intro h
    apply Classical.byContradiction
    intro n
    have k : c.toInt * own_P ≤ (a.toInt + b.toInt + d.toInt) * own_P := Int.mul_le_mul_of_nonneg_right (by omega) (Int.le_of_lt hp)
    rw [s1] at k
    omega
theorem own_cmpl {x y : UInt64} (hx : FP.Core.DFin x) (hy : FP.Core.DFin y) : cmpValue (FP.dcmp x y) .l < (0 : Int32) ↔ own_z x < own_z y := by
  have nx : FP.Core.val64 x ≠ .nan := by obtain ⟨s, c, q, e⟩ := hx; rw [e]; exact nofun
  have ny : FP.Core.val64 y ≠ .nan := by obtain ⟨s, c, q, e⟩ := hy; rw [e]; exact nofun
  constructor
  · intro h
    apply Classical.byContradiction
    intro n
    rcases FP.Core.dcmp_ge.mpr ⟨nx, ny, Int.not_lt.mp n⟩ with q | q
    · have e : cmpValue (FP.dcmp x y) .l = 1 := by show cmpValue (FP.Core.dcmp x y) .l = 1; rw [q]; rfl
      rw [e] at h; exact absurd h (by decide)
    · have e : cmpValue (FP.dcmp x y) .l = 0 := by show cmpValue (FP.Core.dcmp x y) .l = 0; rw [q]; rfl
      rw [e] at h; exact absurd h (by decide)
  · intro h
    have e : cmpValue (FP.dcmp x y) .l = -1 := by show cmpValue (FP.Core.dcmp x y) .l = -1; rw [FP.Core.dcmp_lt.mpr ⟨nx, ny, h⟩]; rfl
    rw [e]; decide
theorem own_ltI {a b d c : Int32} (ha : 0 ≤ a.toInt ∧ a.toInt ≤ 1000) (hb : 0 ≤ b.toInt ∧ b.toInt ≤ 1000) (hd : 0 ≤ d.toInt ∧ d.toInt ≤ 1000) : ((a + b) + d) < c ↔ a.toInt + b.toInt + d.toInt < c.toInt := by
  rw [Int32.lt_iff_toInt_lt]
  have h1 := c_iadd a b
  have h2 := c_iadd (a + b) d
  have r1 := rng32 (a + b)
  have r2 := rng32 (a + b + d)
  have e1 : (a + b).toInt = a.toInt + b.toInt := by omega
  have e2 : (a + b + d).toInt = a.toInt + b.toInt + d.toInt := by omega
  rw [e2]
theorem d1_0 : decode prog_45_method_5_code 0 = .ok (.dload_n 0, 1) := by decide +kernel
theorem d1_1 : decode prog_45_method_5_code 1 = .ok (.dload_n 2, 1) := by decide +kernel
theorem d1_2 : decode prog_45_method_5_code 2 = .ok (.ldc2_w 132, 3) := by decide +kernel
theorem d1_5 : decode prog_45_method_5_code 5 = .ok (.dsub, 1) := by decide +kernel
theorem d1_6 : decode prog_45_method_5_code 6 = .ok (.dcmp .l, 1) := by decide +kernel
theorem d1_7 : decode prog_45_method_5_code 7 = .ok (.ifCond .lt 7, 3) := by decide +kernel
theorem d1_10 : decode prog_45_method_5_code 10 = .ok (.iconst 1, 1) := by decide +kernel
theorem d1_11 : decode prog_45_method_5_code 11 = .ok (.goto 4, 3) := by decide +kernel
theorem d1_14 : decode prog_45_method_5_code 14 = .ok (.iconst 0, 1) := by decide +kernel
theorem d1_15 : decode prog_45_method_5_code 15 = .ok (.ireturn, 1) := by decide +kernel
theorem pn_1 : plainName "com/example/libacross/libacross/translation/Translation" = true := by first | (simp [plainName, overriddenIn]; done) | decide +kernel
theorem ef_1 (m : MethodId) (d0 : UInt64) (d1 : UInt64) : entryFrame m #[(.double d0), (.double d1)] 4 = mkF m 0 #[.val (.double d0), .second, .val (.double d1), .second] [] := by first | (simp [entryFrame, mkF, argsToLocals, Value.category]; done) | rfl
def Q1 (Z : State) (d0 : UInt64) (d1 : UInt64) (h0 : Heap) (n0 : Nat) (v : Option Value) (h : Heap) (L : List Loc) : Prop := ∃ (zz : Int32), v = some (.int zz) ∧ Fr n0 L ∧ h = h0 ∧ ((((cmpValue (FP.dcmp d0 (FP.dsub d1 (4472406533629990549 : UInt64))) .l) < (0 : Int32)) ∧ zz = (0 : Int32)) ∨ ((¬ ((cmpValue (FP.dcmp d0 (FP.dsub d1 (4472406533629990549 : UInt64))) .l) < (0 : Int32))) ∧ zz = (1 : Int32)))
set_option maxRecDepth 65536 in
set_option maxHeartbeats 40000000 in
theorem rm1 (l : Launch) (Z : State) (A0 : Array Value) (hw : ∀ d ∈ tables_1, d.before A0 Z = true) (ws : List Jvm.Cond) (d0 : UInt64) (d1 : UInt64) (h0 : Heap) (n0 : Nat) (Z0 : n0 ≤ h0.size) (hp_0 : Fl.NoNaN64 (FP.dsub d1 (4472406533629990549 : UInt64))) :
    MetFree l (⟨"com/example/libacross/libacross/translation/Translation", "reaches", "(DD)Z"⟩ : MethodName) (head1 (Jvm.Cond.code (⟨"com/example/libacross/libacross/translation/Translation", "reaches", "(DD)Z"⟩ : MethodName) prog_45_method_5_code 4 (some .boolean) :: ws) ({ frames := 0, cells := 0, slots := 0, locals := 0 } : Room)) (fun a U => a = #[(.double d0), (.double d1)] ∧ Z.Warmed39 U.vm ∧ U.heap = h0) (fun _ _ _ _ _ => True) (fun _ U o U' => ∃ v L, o = .returned v ∧ Q1 Z d0 d1 h0 n0 v U'.heap L ∧ FrameEnd U o U' L 0 0) := by
 refine MetFree.of_bodySF (plainFor_of_name pn_1) hisR ?_
 intro p e s m args below meth c s₁ Bd hml0 hP hK
 obtain ⟨rfl, hZ, hh⟩ := hP
 have hwd := fun i {d : Jvm.Cond} (h : tables_1[i]? = some d) => hw d (List.mem_of_getElem? h)
 have hx := Bd.exec
 have hby := Bd.bytes
 have hml : c.maxLocals = 4 := hml0
 have hlk : meth.locks = false := Bd.notSynchronized
 have hown : s.vm.findClass "com/example/libacross/libacross/translation/Translation" = some m.cls := findClass_of_methodNamed Bd.named
 have hnm := (name_of_methodNamed Bd.named Bd.method).1
 have X0 : Stand p l e ({ frames := 0, cells := 0, slots := 0, locals := 0 } : Room) s m #[(.double d0), (.double d1)] below meth c s₁ [] 0 0 := Stand.of_body Bd
 have e0 : s₁.heap = h0 := by rw [← hh, Bd.state]; rfl
 have N0 := Fr.nil n0
 show own_Go p e below (own_Fin s 0 0 (Q1 Z d0 d1 h0 n0)) _
 refine own_by (fun t k => castTop (ef_1 m d0 d1) k) ?_
 show own_Go p e below _ (s₁.setTop (mkF m 0 #[.val (.double d0), .second, .val (.double d1), .second] []))
 refine own_by (fun _ k => XS.dloadN X0.here hx rfl (hb hby d1_0) rfl k) ?_
 show own_Go p e below _ (s₁.setTop (mkF m 1 #[.val (.double d0), .second, .val (.double d1), .second] [(.double d0)]))
 refine own_by (fun _ k => XS.dloadN X0.here hx rfl (hb hby d1_1) rfl k) ?_
 show own_Go p e below _ (s₁.setTop (mkF m 2 #[.val (.double d0), .second, .val (.double d1), .second] [(.double d1), (.double d0)]))
 refine own_by (fun t k => X0.ldc2DoubleC hx hown (mvT hZ (hwd 6 rfl)) (g := (mkF m 2 #[.val (.double d0), .second, .val (.double d1), .second] [(.double d1), (.double d0)])) rfl (hb hby d1_2) _ k) ?_
 show own_Go p e below _ (s₁.setTop (mkF m 5 #[.val (.double d0), .second, .val (.double d1), .second] [(.double (4472406533629990549 : UInt64)), (.double d1), (.double d0)]))
 refine own_by (fun _ k => XS.dsubS X0.here hx rfl (hb hby d1_5) rfl hp_0 rfl k) ?_
 show own_Go p e below _ (s₁.setTop (mkF m 6 #[.val (.double d0), .second, .val (.double d1), .second] [(.double (FP.dsub d1 (4472406533629990549 : UInt64))), (.double d0)]))
 refine own_by (fun _ k => XS.dcmpS X0.here hx rfl (hb hby d1_6) rfl rfl k) ?_
 show own_Go p e below _ (s₁.setTop (mkF m 7 #[.val (.double d0), .second, .val (.double d1), .second] [(.int (cmpValue (FP.dcmp d0 (FP.dsub d1 (4472406533629990549 : UInt64))) .l))]))
 by_cases c1 : (cmpValue (FP.dcmp d0 (FP.dsub d1 (4472406533629990549 : UInt64))) .l) < (0 : Int32)
 ·skip
  refine own_by (fun _ k => XS.ifYes X0.here hx rfl (pc0 := 7) (pc' := 14) rfl (hb hby d1_7) rfl ((if0 _ _).trans (tlt c1).1) (by decide) (by decide) k) ?_
  show own_Go p e below _ (s₁.setTop (mkF m 14 #[.val (.double d0), .second, .val (.double d1), .second] []))
  refine own_by (fun _ k => XS.iconst X0.here hx rfl (hb hby d1_14) k) ?_
  show own_Go p e below _ (s₁.setTop (mkF m 15 #[.val (.double d0), .second, .val (.double d1), .second] [(.int (0 : Int32))]))
  exact own_retN X0 hx (t := .boolean) Bd.returns (by simp) (hb hby d1_15) hlk e0 ⟨_, rfl, N0, rfl, (Or.inl ⟨c1, rfl⟩)⟩ (by decide) (by decide)
 ·skip
  refine own_by (fun _ k => XS.ifNo X0.here hx rfl (hb hby d1_7) rfl ((if0 _ _).trans (flt c1).1) k) ?_
  show own_Go p e below _ (s₁.setTop (mkF m 10 #[.val (.double d0), .second, .val (.double d1), .second] []))
  refine own_by (fun _ k => XS.iconst X0.here hx rfl (hb hby d1_10) k) ?_
  show own_Go p e below _ (s₁.setTop (mkF m 11 #[.val (.double d0), .second, .val (.double d1), .second] [(.int (1 : Int32))]))
  refine own_by (fun _ k => XS.goto X0.here hx rfl (pc0 := 11) (pc' := 15) rfl (hb hby d1_11) (by decide) (by decide) k) ?_
  show own_Go p e below _ (s₁.setTop (mkF m 15 #[.val (.double d0), .second, .val (.double d1), .second] [(.int (1 : Int32))]))
  exact own_retN X0 hx (t := .boolean) Bd.returns (by simp) (hb hby d1_15) hlk e0 ⟨_, rfl, N0, rfl, (Or.inr (⟨c1, rfl⟩))⟩ (by decide) (by decide)
theorem pd_2 : parseMethodDescriptor "(DD)Z" = some ⟨[.double, .double], some .boolean⟩ := by decide +kernel
theorem pn_0 : plainName "com/example/libacross/libacross/translation/TranslationReachesPinLaw" = true := by first | (simp [plainName, overriddenIn]; done) | decide +kernel
theorem ef_0 (m : MethodId) (p0 : Int32) (p1 : Int32) (p2 : Int32) (p3 : Int32) : entryFrame m #[(.int p0), (.int p1), (.int p2), (.int p3)] maxLocals = mkF m 0 #[.val (.int p0), .val (.int p1), .val (.int p2), .val (.int p3), .unset, .unset, .unset, .unset, .unset, .unset, .unset, .unset, .unset] [] := by first | (simp [entryFrame, mkF, argsToLocals, Value.category, maxLocals]; done) | rfl
theorem ob_0_1 (p0 : Int32) (p1 : Int32) (p2 : Int32) (p3 : Int32) (v1 : Int32) (v2 : Int32) (v3 : Int32) (v4 : Int32) (hv1 : ((p0 &&& (2147483647 : Int32)) % (1001 : Int32)) = v1) (hv2 : ((p1 &&& (2147483647 : Int32)) % (1001 : Int32)) = v2) (hv3 : ((p2 &&& (2147483647 : Int32)) % (1001 : Int32)) = v3) (hv4 : (((p3 &&& (2147483647 : Int32)) % (1000 : Int32)) + (1 : Int32)) = v4) : Fl.NoNaN64 (FP.ddiv (FP.i2d v1) (4652007308841189376 : UInt64)) := by
  exact own_noNaN (own_ddiv (own_rng hv1).1 (own_rng hv1).2).1
theorem ob_0_2 (p0 : Int32) (p1 : Int32) (p2 : Int32) (p3 : Int32) (v1 : Int32) (v2 : Int32) (v3 : Int32) (v4 : Int32) (hv1 : ((p0 &&& (2147483647 : Int32)) % (1001 : Int32)) = v1) (hv2 : ((p1 &&& (2147483647 : Int32)) % (1001 : Int32)) = v2) (hv3 : ((p2 &&& (2147483647 : Int32)) % (1001 : Int32)) = v3) (hv4 : (((p3 &&& (2147483647 : Int32)) % (1000 : Int32)) + (1 : Int32)) = v4) : Fl.NoNaN64 (FP.dadd FP.dconst0 (FP.ddiv (FP.i2d v1) (4652007308841189376 : UInt64))) := by
  have ra := own_rng hv1
  have rb := own_rng hv2
  have rd := own_rng hv3
  have rc := own_rng4 hv4
  exact own_noNaN (own_all ra rb rd rc rfl rfl rfl rfl).1
theorem ob_0_3 (p0 : Int32) (p1 : Int32) (p2 : Int32) (p3 : Int32) (v1 : Int32) (v2 : Int32) (v3 : Int32) (v4 : Int32) (v5 : UInt64) (hv1 : ((p0 &&& (2147483647 : Int32)) % (1001 : Int32)) = v1) (hv2 : ((p1 &&& (2147483647 : Int32)) % (1001 : Int32)) = v2) (hv3 : ((p2 &&& (2147483647 : Int32)) % (1001 : Int32)) = v3) (hv4 : (((p3 &&& (2147483647 : Int32)) % (1000 : Int32)) + (1 : Int32)) = v4) (hv5 : (FP.dadd FP.dconst0 (FP.ddiv (FP.i2d v1) (4652007308841189376 : UInt64))) = v5) : Fl.NoNaN64 (FP.ddiv (FP.i2d v2) (4652007308841189376 : UInt64)) := by
  exact own_noNaN (own_ddiv (own_rng hv2).1 (own_rng hv2).2).1
theorem ob_0_4 (p0 : Int32) (p1 : Int32) (p2 : Int32) (p3 : Int32) (v1 : Int32) (v2 : Int32) (v3 : Int32) (v4 : Int32) (v5 : UInt64) (hv1 : ((p0 &&& (2147483647 : Int32)) % (1001 : Int32)) = v1) (hv2 : ((p1 &&& (2147483647 : Int32)) % (1001 : Int32)) = v2) (hv3 : ((p2 &&& (2147483647 : Int32)) % (1001 : Int32)) = v3) (hv4 : (((p3 &&& (2147483647 : Int32)) % (1000 : Int32)) + (1 : Int32)) = v4) (hv5 : (FP.dadd FP.dconst0 (FP.ddiv (FP.i2d v1) (4652007308841189376 : UInt64))) = v5) : Fl.NoNaN64 (FP.dadd v5 (FP.ddiv (FP.i2d v2) (4652007308841189376 : UInt64))) := by
  have ra := own_rng hv1
  have rb := own_rng hv2
  have rd := own_rng hv3
  have rc := own_rng4 hv4
  exact own_noNaN (own_all ra rb rd rc hv5 rfl rfl rfl).2.1
theorem ob_0_5 (p0 : Int32) (p1 : Int32) (p2 : Int32) (p3 : Int32) (v1 : Int32) (v2 : Int32) (v3 : Int32) (v4 : Int32) (v5 : UInt64) (v6 : UInt64) (hv1 : ((p0 &&& (2147483647 : Int32)) % (1001 : Int32)) = v1) (hv2 : ((p1 &&& (2147483647 : Int32)) % (1001 : Int32)) = v2) (hv3 : ((p2 &&& (2147483647 : Int32)) % (1001 : Int32)) = v3) (hv4 : (((p3 &&& (2147483647 : Int32)) % (1000 : Int32)) + (1 : Int32)) = v4) (hv5 : (FP.dadd FP.dconst0 (FP.ddiv (FP.i2d v1) (4652007308841189376 : UInt64))) = v5) (hv6 : (FP.dadd v5 (FP.ddiv (FP.i2d v2) (4652007308841189376 : UInt64))) = v6) : Fl.NoNaN64 (FP.ddiv (FP.i2d v3) (4652007308841189376 : UInt64)) := by
  exact own_noNaN (own_ddiv (own_rng hv3).1 (own_rng hv3).2).1
theorem ob_0_6 (p0 : Int32) (p1 : Int32) (p2 : Int32) (p3 : Int32) (v1 : Int32) (v2 : Int32) (v3 : Int32) (v4 : Int32) (v5 : UInt64) (v6 : UInt64) (hv1 : ((p0 &&& (2147483647 : Int32)) % (1001 : Int32)) = v1) (hv2 : ((p1 &&& (2147483647 : Int32)) % (1001 : Int32)) = v2) (hv3 : ((p2 &&& (2147483647 : Int32)) % (1001 : Int32)) = v3) (hv4 : (((p3 &&& (2147483647 : Int32)) % (1000 : Int32)) + (1 : Int32)) = v4) (hv5 : (FP.dadd FP.dconst0 (FP.ddiv (FP.i2d v1) (4652007308841189376 : UInt64))) = v5) (hv6 : (FP.dadd v5 (FP.ddiv (FP.i2d v2) (4652007308841189376 : UInt64))) = v6) : Fl.NoNaN64 (FP.dadd v6 (FP.ddiv (FP.i2d v3) (4652007308841189376 : UInt64))) := by
  have ra := own_rng hv1
  have rb := own_rng hv2
  have rd := own_rng hv3
  have rc := own_rng4 hv4
  exact own_noNaN (own_all ra rb rd rc hv5 hv6 rfl rfl).2.2.1
theorem ob_0_7 (p0 : Int32) (p1 : Int32) (p2 : Int32) (p3 : Int32) (v1 : Int32) (v2 : Int32) (v3 : Int32) (v4 : Int32) (v5 : UInt64) (v6 : UInt64) (v7 : UInt64) (hv1 : ((p0 &&& (2147483647 : Int32)) % (1001 : Int32)) = v1) (hv2 : ((p1 &&& (2147483647 : Int32)) % (1001 : Int32)) = v2) (hv3 : ((p2 &&& (2147483647 : Int32)) % (1001 : Int32)) = v3) (hv4 : (((p3 &&& (2147483647 : Int32)) % (1000 : Int32)) + (1 : Int32)) = v4) (hv5 : (FP.dadd FP.dconst0 (FP.ddiv (FP.i2d v1) (4652007308841189376 : UInt64))) = v5) (hv6 : (FP.dadd v5 (FP.ddiv (FP.i2d v2) (4652007308841189376 : UInt64))) = v6) (hv7 : (FP.dadd v6 (FP.ddiv (FP.i2d v3) (4652007308841189376 : UInt64))) = v7) : Fl.NoNaN64 (FP.ddiv (FP.i2d v4) (4652007308841189376 : UInt64)) := by
  exact own_noNaN (own_ddiv (Int.le_trans (by decide) (own_rng4 hv4).1) (own_rng4 hv4).2).1
theorem ob_0_8 (p0 : Int32) (p1 : Int32) (p2 : Int32) (p3 : Int32) (v1 : Int32) (v2 : Int32) (v3 : Int32) (v4 : Int32) (v5 : UInt64) (v6 : UInt64) (v7 : UInt64) (v8 : UInt64) (z16 : Int32) (hv1 : ((p0 &&& (2147483647 : Int32)) % (1001 : Int32)) = v1) (hv2 : ((p1 &&& (2147483647 : Int32)) % (1001 : Int32)) = v2) (hv3 : ((p2 &&& (2147483647 : Int32)) % (1001 : Int32)) = v3) (hv4 : (((p3 &&& (2147483647 : Int32)) % (1000 : Int32)) + (1 : Int32)) = v4) (hv5 : (FP.dadd FP.dconst0 (FP.ddiv (FP.i2d v1) (4652007308841189376 : UInt64))) = v5) (hv6 : (FP.dadd v5 (FP.ddiv (FP.i2d v2) (4652007308841189376 : UInt64))) = v6) (hv7 : (FP.dadd v6 (FP.ddiv (FP.i2d v3) (4652007308841189376 : UInt64))) = v7) (hv8 : (FP.ddiv (FP.i2d v4) (4652007308841189376 : UInt64)) = v8) (hj17 : ((((v1 + v2) + v3) < v4) ∧ z16 = (0 : Int32)) ∨ ((¬ (((v1 + v2) + v3) < v4)) ∧ z16 = (1 : Int32))) : Fl.NoNaN64 (FP.dsub v8 (4472406533629990549 : UInt64)) := by
  have ra := own_rng hv1
  have rb := own_rng hv2
  have rd := own_rng hv3
  have rc := own_rng4 hv4
  exact own_noNaN (own_all ra rb rd rc hv5 hv6 hv7 hv8).2.2.2.2.1
theorem ob_0_9 (p0 : Int32) (p1 : Int32) (p2 : Int32) (p3 : Int32) (v1 : Int32) (v2 : Int32) (v3 : Int32) (v4 : Int32) (v5 : UInt64) (v6 : UInt64) (v7 : UInt64) (v8 : UInt64) (z16 : Int32) (o19 : Int32) (hv1 : ((p0 &&& (2147483647 : Int32)) % (1001 : Int32)) = v1) (hv2 : ((p1 &&& (2147483647 : Int32)) % (1001 : Int32)) = v2) (hv3 : ((p2 &&& (2147483647 : Int32)) % (1001 : Int32)) = v3) (hv4 : (((p3 &&& (2147483647 : Int32)) % (1000 : Int32)) + (1 : Int32)) = v4) (hv5 : (FP.dadd FP.dconst0 (FP.ddiv (FP.i2d v1) (4652007308841189376 : UInt64))) = v5) (hv6 : (FP.dadd v5 (FP.ddiv (FP.i2d v2) (4652007308841189376 : UInt64))) = v6) (hv7 : (FP.dadd v6 (FP.ddiv (FP.i2d v3) (4652007308841189376 : UInt64))) = v7) (hv8 : (FP.ddiv (FP.i2d v4) (4652007308841189376 : UInt64)) = v8) (hj17 : ((((v1 + v2) + v3) < v4) ∧ z16 = (0 : Int32)) ∨ ((¬ (((v1 + v2) + v3) < v4)) ∧ z16 = (1 : Int32))) (hp20 : (((cmpValue (FP.dcmp v7 (FP.dsub v8 (4472406533629990549 : UInt64))) .l) < (0 : Int32)) ∧ o19 = (0 : Int32)) ∨ ((¬ ((cmpValue (FP.dcmp v7 (FP.dsub v8 (4472406533629990549 : UInt64))) .l) < (0 : Int32))) ∧ o19 = (1 : Int32))) (c21 : ¬ (o19 = z16)) : False := by
  have ra := own_rng hv1
  have rb := own_rng hv2
  have rd := own_rng hv3
  have rc := own_rng4 hv4
  obtain ⟨-, -, g3, -, g5, hi⟩ := (own_all ra rb rd rc hv5 hv6 hv7 hv8)
  have hc := own_cmpl g3 g5
  have hl := own_ltI (c := v4) ra rb rd
  rw [← hl, ← hc] at hi
  clear hc hl g3 g5 ra rb rd rc hv8 hv7 hv6 hv5 hv4 hv3 hv2 hv1
  grind
def Q0 (Z : State) (p0 : Int32) (p1 : Int32) (p2 : Int32) (p3 : Int32) (h0 : Heap) (n0 : Nat) (v : Option Value) (h : Heap) (L : List Loc) : Prop := v = some (.int (1 : Int32)) ∧ Fr n0 L
set_option maxRecDepth 65536 in
set_option maxHeartbeats 40000000 in
theorem rm0 (l : Launch) (Z : State) (A0 : Array Value) (hw : ∀ d ∈ tables_1, d.before A0 Z = true) (ws : List Jvm.Cond) (p0 : Int32) (p1 : Int32) (p2 : Int32) (p3 : Int32) (h0 : Heap) (n0 : Nat) (Z0 : n0 ≤ h0.size) :
    MetFree l x (head1 (Jvm.Cond.code x code maxLocals ret :: ws) room_1) (fun a U => a = #[(.int p0), (.int p1), (.int p2), (.int p3)] ∧ Z.Warmed39 U.vm ∧ U.heap = h0) (fun _ _ _ _ _ => True) (fun _ U o U' => ∃ v L, o = .returned v ∧ Q0 Z p0 p1 p2 p3 h0 n0 v U'.heap L ∧ FrameEnd U o U' L 0 0) := by
 refine MetFree.of_bodySF (plainFor_of_name pn_0) hisR ?_
 intro p e s m args below meth c s₁ Bd hml0 hP hK
 obtain ⟨rfl, hZ, hh⟩ := hP
 have hwd := fun i {d : Jvm.Cond} (h : tables_1[i]? = some d) => hw d (List.mem_of_getElem? h)
 have hx := Bd.exec
 have hby := Bd.bytes
 have hml : c.maxLocals = 13 := hml0
 have hlk : meth.locks = false := Bd.notSynchronized
 have hown : s.vm.findClass "com/example/libacross/libacross/translation/TranslationReachesPinLaw" = some m.cls := findClass_of_methodNamed Bd.named
 have hnm := (name_of_methodNamed Bd.named Bd.method).1
 have X0 : Stand p l e room_1 s m #[(.int p0), (.int p1), (.int p2), (.int p3)] below meth c s₁ [] 0 0 := Stand.of_body Bd
 have e0 : s₁.heap = h0 := by rw [← hh, Bd.state]; rfl
 have N0 := Fr.nil n0
 show own_Go p e below (own_Fin s 0 0 (Q0 Z p0 p1 p2 p3 h0 n0)) _
 refine own_by (fun t k => castTop (ef_0 m p0 p1 p2 p3) k) ?_
 show own_Go p e below _ (s₁.setTop (mkF m 0 #[.val (.int p0), .val (.int p1), .val (.int p2), .val (.int p3), .unset, .unset, .unset, .unset, .unset, .unset, .unset, .unset, .unset] []))
 refine own_by (fun _ k => XS.iloadN X0.here hx rfl (hb hby at_0) rfl k) ?_
 show own_Go p e below _ (s₁.setTop (mkF m 1 #[.val (.int p0), .val (.int p1), .val (.int p2), .val (.int p3), .unset, .unset, .unset, .unset, .unset, .unset, .unset, .unset, .unset] [(.int p0)]))
 refine own_by (fun t k => X0.ldcInt hx hown (mvT hZ (hwd 0 rfl)) (g := (mkF m 1 #[.val (.int p0), .val (.int p1), .val (.int p2), .val (.int p3), .unset, .unset, .unset, .unset, .unset, .unset, .unset, .unset, .unset] [(.int p0)])) rfl (hb hby at_1) _ k) ?_
 show own_Go p e below _ (s₁.setTop (mkF m 3 #[.val (.int p0), .val (.int p1), .val (.int p2), .val (.int p3), .unset, .unset, .unset, .unset, .unset, .unset, .unset, .unset, .unset] [(.int (2147483647 : Int32)), (.int p0)]))
 refine own_by (fun _ k => XS.iand X0.here hx rfl (hb hby at_3) rfl k) ?_
 show own_Go p e below _ (s₁.setTop (mkF m 4 #[.val (.int p0), .val (.int p1), .val (.int p2), .val (.int p3), .unset, .unset, .unset, .unset, .unset, .unset, .unset, .unset, .unset] [(.int (p0 &&& (2147483647 : Int32)))]))
 refine own_by (fun _ k => XS.sipush X0.here hx rfl (hb hby at_4) k) ?_
 show own_Go p e below _ (s₁.setTop (mkF m 7 #[.val (.int p0), .val (.int p1), .val (.int p2), .val (.int p3), .unset, .unset, .unset, .unset, .unset, .unset, .unset, .unset, .unset] [(.int (1001 : Int32)), (.int (p0 &&& (2147483647 : Int32)))]))
 refine own_by (fun _ k => iremM X0 hx rfl (hb hby at_7) rfl (by decide) k) ?_
 show own_Go p e below _ (s₁.setTop (mkF m 8 #[.val (.int p0), .val (.int p1), .val (.int p2), .val (.int p3), .unset, .unset, .unset, .unset, .unset, .unset, .unset, .unset, .unset] [(.int ((p0 &&& (2147483647 : Int32)) % (1001 : Int32)))]))
 refine own_by (fun _ k => XS.istore X0.here hx rfl (hb hby at_8) rfl (l' := #[.val (.int p0), .val (.int p1), .val (.int p2), .val (.int p3), .val (.int ((p0 &&& (2147483647 : Int32)) % (1001 : Int32))), .unset, .unset, .unset, .unset, .unset, .unset, .unset, .unset]) rfl k) ?_
 show own_Go p e below _ (s₁.setTop (mkF m 10 #[.val (.int p0), .val (.int p1), .val (.int p2), .val (.int p3), .val (.int ((p0 &&& (2147483647 : Int32)) % (1001 : Int32))), .unset, .unset, .unset, .unset, .unset, .unset, .unset, .unset] []))
 generalize hv1 : ((p0 &&& (2147483647 : Int32)) % (1001 : Int32)) = v1
 show own_Go p e below _ (s₁.setTop (mkF m 10 #[.val (.int p0), .val (.int p1), .val (.int p2), .val (.int p3), .val (.int v1), .unset, .unset, .unset, .unset, .unset, .unset, .unset, .unset] []))
 refine own_by (fun _ k => XS.iloadN X0.here hx rfl (hb hby at_10) rfl k) ?_
 show own_Go p e below _ (s₁.setTop (mkF m 11 #[.val (.int p0), .val (.int p1), .val (.int p2), .val (.int p3), .val (.int v1), .unset, .unset, .unset, .unset, .unset, .unset, .unset, .unset] [(.int p1)]))
 refine own_by (fun t k => X0.ldcInt hx hown (mvT hZ (hwd 0 rfl)) (g := (mkF m 11 #[.val (.int p0), .val (.int p1), .val (.int p2), .val (.int p3), .val (.int v1), .unset, .unset, .unset, .unset, .unset, .unset, .unset, .unset] [(.int p1)])) rfl (hb hby at_11) _ k) ?_
 show own_Go p e below _ (s₁.setTop (mkF m 13 #[.val (.int p0), .val (.int p1), .val (.int p2), .val (.int p3), .val (.int v1), .unset, .unset, .unset, .unset, .unset, .unset, .unset, .unset] [(.int (2147483647 : Int32)), (.int p1)]))
 refine own_by (fun _ k => XS.iand X0.here hx rfl (hb hby at_13) rfl k) ?_
 show own_Go p e below _ (s₁.setTop (mkF m 14 #[.val (.int p0), .val (.int p1), .val (.int p2), .val (.int p3), .val (.int v1), .unset, .unset, .unset, .unset, .unset, .unset, .unset, .unset] [(.int (p1 &&& (2147483647 : Int32)))]))
 refine own_by (fun _ k => XS.sipush X0.here hx rfl (hb hby at_14) k) ?_
 show own_Go p e below _ (s₁.setTop (mkF m 17 #[.val (.int p0), .val (.int p1), .val (.int p2), .val (.int p3), .val (.int v1), .unset, .unset, .unset, .unset, .unset, .unset, .unset, .unset] [(.int (1001 : Int32)), (.int (p1 &&& (2147483647 : Int32)))]))
 refine own_by (fun _ k => iremM X0 hx rfl (hb hby at_17) rfl (by decide) k) ?_
 show own_Go p e below _ (s₁.setTop (mkF m 18 #[.val (.int p0), .val (.int p1), .val (.int p2), .val (.int p3), .val (.int v1), .unset, .unset, .unset, .unset, .unset, .unset, .unset, .unset] [(.int ((p1 &&& (2147483647 : Int32)) % (1001 : Int32)))]))
 refine own_by (fun _ k => XS.istore X0.here hx rfl (hb hby at_18) rfl (l' := #[.val (.int p0), .val (.int p1), .val (.int p2), .val (.int p3), .val (.int v1), .val (.int ((p1 &&& (2147483647 : Int32)) % (1001 : Int32))), .unset, .unset, .unset, .unset, .unset, .unset, .unset]) rfl k) ?_
 show own_Go p e below _ (s₁.setTop (mkF m 20 #[.val (.int p0), .val (.int p1), .val (.int p2), .val (.int p3), .val (.int v1), .val (.int ((p1 &&& (2147483647 : Int32)) % (1001 : Int32))), .unset, .unset, .unset, .unset, .unset, .unset, .unset] []))
 generalize hv2 : ((p1 &&& (2147483647 : Int32)) % (1001 : Int32)) = v2
 show own_Go p e below _ (s₁.setTop (mkF m 20 #[.val (.int p0), .val (.int p1), .val (.int p2), .val (.int p3), .val (.int v1), .val (.int v2), .unset, .unset, .unset, .unset, .unset, .unset, .unset] []))
 refine own_by (fun _ k => XS.iloadN X0.here hx rfl (hb hby at_20) rfl k) ?_
 show own_Go p e below _ (s₁.setTop (mkF m 21 #[.val (.int p0), .val (.int p1), .val (.int p2), .val (.int p3), .val (.int v1), .val (.int v2), .unset, .unset, .unset, .unset, .unset, .unset, .unset] [(.int p2)]))
 refine own_by (fun t k => X0.ldcInt hx hown (mvT hZ (hwd 0 rfl)) (g := (mkF m 21 #[.val (.int p0), .val (.int p1), .val (.int p2), .val (.int p3), .val (.int v1), .val (.int v2), .unset, .unset, .unset, .unset, .unset, .unset, .unset] [(.int p2)])) rfl (hb hby at_21) _ k) ?_
 show own_Go p e below _ (s₁.setTop (mkF m 23 #[.val (.int p0), .val (.int p1), .val (.int p2), .val (.int p3), .val (.int v1), .val (.int v2), .unset, .unset, .unset, .unset, .unset, .unset, .unset] [(.int (2147483647 : Int32)), (.int p2)]))
 refine own_by (fun _ k => XS.iand X0.here hx rfl (hb hby at_23) rfl k) ?_
 show own_Go p e below _ (s₁.setTop (mkF m 24 #[.val (.int p0), .val (.int p1), .val (.int p2), .val (.int p3), .val (.int v1), .val (.int v2), .unset, .unset, .unset, .unset, .unset, .unset, .unset] [(.int (p2 &&& (2147483647 : Int32)))]))
 refine own_by (fun _ k => XS.sipush X0.here hx rfl (hb hby at_24) k) ?_
 show own_Go p e below _ (s₁.setTop (mkF m 27 #[.val (.int p0), .val (.int p1), .val (.int p2), .val (.int p3), .val (.int v1), .val (.int v2), .unset, .unset, .unset, .unset, .unset, .unset, .unset] [(.int (1001 : Int32)), (.int (p2 &&& (2147483647 : Int32)))]))
 refine own_by (fun _ k => iremM X0 hx rfl (hb hby at_27) rfl (by decide) k) ?_
 show own_Go p e below _ (s₁.setTop (mkF m 28 #[.val (.int p0), .val (.int p1), .val (.int p2), .val (.int p3), .val (.int v1), .val (.int v2), .unset, .unset, .unset, .unset, .unset, .unset, .unset] [(.int ((p2 &&& (2147483647 : Int32)) % (1001 : Int32)))]))
 refine own_by (fun _ k => XS.istore X0.here hx rfl (hb hby at_28) rfl (l' := #[.val (.int p0), .val (.int p1), .val (.int p2), .val (.int p3), .val (.int v1), .val (.int v2), .val (.int ((p2 &&& (2147483647 : Int32)) % (1001 : Int32))), .unset, .unset, .unset, .unset, .unset, .unset]) rfl k) ?_
 show own_Go p e below _ (s₁.setTop (mkF m 30 #[.val (.int p0), .val (.int p1), .val (.int p2), .val (.int p3), .val (.int v1), .val (.int v2), .val (.int ((p2 &&& (2147483647 : Int32)) % (1001 : Int32))), .unset, .unset, .unset, .unset, .unset, .unset] []))
 generalize hv3 : ((p2 &&& (2147483647 : Int32)) % (1001 : Int32)) = v3
 show own_Go p e below _ (s₁.setTop (mkF m 30 #[.val (.int p0), .val (.int p1), .val (.int p2), .val (.int p3), .val (.int v1), .val (.int v2), .val (.int v3), .unset, .unset, .unset, .unset, .unset, .unset] []))
 refine own_by (fun _ k => XS.iloadN X0.here hx rfl (hb hby at_30) rfl k) ?_
 show own_Go p e below _ (s₁.setTop (mkF m 31 #[.val (.int p0), .val (.int p1), .val (.int p2), .val (.int p3), .val (.int v1), .val (.int v2), .val (.int v3), .unset, .unset, .unset, .unset, .unset, .unset] [(.int p3)]))
 refine own_by (fun t k => X0.ldcInt hx hown (mvT hZ (hwd 0 rfl)) (g := (mkF m 31 #[.val (.int p0), .val (.int p1), .val (.int p2), .val (.int p3), .val (.int v1), .val (.int v2), .val (.int v3), .unset, .unset, .unset, .unset, .unset, .unset] [(.int p3)])) rfl (hb hby at_31) _ k) ?_
 show own_Go p e below _ (s₁.setTop (mkF m 33 #[.val (.int p0), .val (.int p1), .val (.int p2), .val (.int p3), .val (.int v1), .val (.int v2), .val (.int v3), .unset, .unset, .unset, .unset, .unset, .unset] [(.int (2147483647 : Int32)), (.int p3)]))
 refine own_by (fun _ k => XS.iand X0.here hx rfl (hb hby at_33) rfl k) ?_
 show own_Go p e below _ (s₁.setTop (mkF m 34 #[.val (.int p0), .val (.int p1), .val (.int p2), .val (.int p3), .val (.int v1), .val (.int v2), .val (.int v3), .unset, .unset, .unset, .unset, .unset, .unset] [(.int (p3 &&& (2147483647 : Int32)))]))
 refine own_by (fun _ k => XS.sipush X0.here hx rfl (hb hby at_34) k) ?_
 show own_Go p e below _ (s₁.setTop (mkF m 37 #[.val (.int p0), .val (.int p1), .val (.int p2), .val (.int p3), .val (.int v1), .val (.int v2), .val (.int v3), .unset, .unset, .unset, .unset, .unset, .unset] [(.int (1000 : Int32)), (.int (p3 &&& (2147483647 : Int32)))]))
 refine own_by (fun _ k => iremM X0 hx rfl (hb hby at_37) rfl (by decide) k) ?_
 show own_Go p e below _ (s₁.setTop (mkF m 38 #[.val (.int p0), .val (.int p1), .val (.int p2), .val (.int p3), .val (.int v1), .val (.int v2), .val (.int v3), .unset, .unset, .unset, .unset, .unset, .unset] [(.int ((p3 &&& (2147483647 : Int32)) % (1000 : Int32)))]))
 refine own_by (fun _ k => XS.iconst X0.here hx rfl (hb hby at_38) k) ?_
 show own_Go p e below _ (s₁.setTop (mkF m 39 #[.val (.int p0), .val (.int p1), .val (.int p2), .val (.int p3), .val (.int v1), .val (.int v2), .val (.int v3), .unset, .unset, .unset, .unset, .unset, .unset] [(.int (1 : Int32)), (.int ((p3 &&& (2147483647 : Int32)) % (1000 : Int32)))]))
 refine own_by (fun _ k => XS.iadd X0.here hx rfl (hb hby at_39) rfl k) ?_
 show own_Go p e below _ (s₁.setTop (mkF m 40 #[.val (.int p0), .val (.int p1), .val (.int p2), .val (.int p3), .val (.int v1), .val (.int v2), .val (.int v3), .unset, .unset, .unset, .unset, .unset, .unset] [(.int (((p3 &&& (2147483647 : Int32)) % (1000 : Int32)) + (1 : Int32)))]))
 refine own_by (fun _ k => XS.istore X0.here hx rfl (hb hby at_40) rfl (l' := #[.val (.int p0), .val (.int p1), .val (.int p2), .val (.int p3), .val (.int v1), .val (.int v2), .val (.int v3), .val (.int (((p3 &&& (2147483647 : Int32)) % (1000 : Int32)) + (1 : Int32))), .unset, .unset, .unset, .unset, .unset]) rfl k) ?_
 show own_Go p e below _ (s₁.setTop (mkF m 42 #[.val (.int p0), .val (.int p1), .val (.int p2), .val (.int p3), .val (.int v1), .val (.int v2), .val (.int v3), .val (.int (((p3 &&& (2147483647 : Int32)) % (1000 : Int32)) + (1 : Int32))), .unset, .unset, .unset, .unset, .unset] []))
 generalize hv4 : (((p3 &&& (2147483647 : Int32)) % (1000 : Int32)) + (1 : Int32)) = v4
 show own_Go p e below _ (s₁.setTop (mkF m 42 #[.val (.int p0), .val (.int p1), .val (.int p2), .val (.int p3), .val (.int v1), .val (.int v2), .val (.int v3), .val (.int v4), .unset, .unset, .unset, .unset, .unset] []))
 refine own_by (fun _ k => XS.dconst0 X0.here hx rfl (hb hby at_42) rfl k) ?_
 show own_Go p e below _ (s₁.setTop (mkF m 43 #[.val (.int p0), .val (.int p1), .val (.int p2), .val (.int p3), .val (.int v1), .val (.int v2), .val (.int v3), .val (.int v4), .unset, .unset, .unset, .unset, .unset] [(.double FP.dconst0)]))
 refine own_by (fun _ k => XS.dstore X0.here hx rfl (hb hby at_43) rfl (l' := #[.val (.int p0), .val (.int p1), .val (.int p2), .val (.int p3), .val (.int v1), .val (.int v2), .val (.int v3), .val (.int v4), .val (.double FP.dconst0), .second, .unset, .unset, .unset]) rfl k) ?_
 show own_Go p e below _ (s₁.setTop (mkF m 45 #[.val (.int p0), .val (.int p1), .val (.int p2), .val (.int p3), .val (.int v1), .val (.int v2), .val (.int v3), .val (.int v4), .val (.double FP.dconst0), .second, .unset, .unset, .unset] []))
 refine own_by (fun _ k => XS.dload X0.here hx rfl (hb hby at_45) rfl k) ?_
 show own_Go p e below _ (s₁.setTop (mkF m 47 #[.val (.int p0), .val (.int p1), .val (.int p2), .val (.int p3), .val (.int v1), .val (.int v2), .val (.int v3), .val (.int v4), .val (.double FP.dconst0), .second, .unset, .unset, .unset] [(.double FP.dconst0)]))
 refine own_by (fun _ k => XS.iload X0.here hx rfl (hb hby at_47) rfl k) ?_
 show own_Go p e below _ (s₁.setTop (mkF m 49 #[.val (.int p0), .val (.int p1), .val (.int p2), .val (.int p3), .val (.int v1), .val (.int v2), .val (.int v3), .val (.int v4), .val (.double FP.dconst0), .second, .unset, .unset, .unset] [(.int v1), (.double FP.dconst0)]))
 refine own_by (fun _ k => XS.i2dS X0.here hx rfl (hb hby at_49) rfl rfl k) ?_
 show own_Go p e below _ (s₁.setTop (mkF m 50 #[.val (.int p0), .val (.int p1), .val (.int p2), .val (.int p3), .val (.int v1), .val (.int v2), .val (.int v3), .val (.int v4), .val (.double FP.dconst0), .second, .unset, .unset, .unset] [(.double (FP.i2d v1)), (.double FP.dconst0)]))
 refine own_by (fun t k => X0.ldc2DoubleC hx hown (mvT hZ (hwd 1 rfl)) (g := (mkF m 50 #[.val (.int p0), .val (.int p1), .val (.int p2), .val (.int p3), .val (.int v1), .val (.int v2), .val (.int v3), .val (.int v4), .val (.double FP.dconst0), .second, .unset, .unset, .unset] [(.double (FP.i2d v1)), (.double FP.dconst0)])) rfl (hb hby at_50) _ k) ?_
 show own_Go p e below _ (s₁.setTop (mkF m 53 #[.val (.int p0), .val (.int p1), .val (.int p2), .val (.int p3), .val (.int v1), .val (.int v2), .val (.int v3), .val (.int v4), .val (.double FP.dconst0), .second, .unset, .unset, .unset] [(.double (4652007308841189376 : UInt64)), (.double (FP.i2d v1)), (.double FP.dconst0)]))
 refine own_by (fun _ k => XS.ddivS X0.here hx rfl (hb hby at_53) rfl (ob_0_1 p0 p1 p2 p3 v1 v2 v3 v4 hv1 hv2 hv3 hv4) rfl k) ?_
 show own_Go p e below _ (s₁.setTop (mkF m 54 #[.val (.int p0), .val (.int p1), .val (.int p2), .val (.int p3), .val (.int v1), .val (.int v2), .val (.int v3), .val (.int v4), .val (.double FP.dconst0), .second, .unset, .unset, .unset] [(.double (FP.ddiv (FP.i2d v1) (4652007308841189376 : UInt64))), (.double FP.dconst0)]))
 refine own_by (fun _ k => XS.daddS X0.here hx rfl (hb hby at_54) rfl (ob_0_2 p0 p1 p2 p3 v1 v2 v3 v4 hv1 hv2 hv3 hv4) rfl k) ?_
 show own_Go p e below _ (s₁.setTop (mkF m 55 #[.val (.int p0), .val (.int p1), .val (.int p2), .val (.int p3), .val (.int v1), .val (.int v2), .val (.int v3), .val (.int v4), .val (.double FP.dconst0), .second, .unset, .unset, .unset] [(.double (FP.dadd FP.dconst0 (FP.ddiv (FP.i2d v1) (4652007308841189376 : UInt64))))]))
 refine own_by (fun _ k => XS.dstore X0.here hx rfl (hb hby at_55) rfl (l' := #[.val (.int p0), .val (.int p1), .val (.int p2), .val (.int p3), .val (.int v1), .val (.int v2), .val (.int v3), .val (.int v4), .val (.double (FP.dadd FP.dconst0 (FP.ddiv (FP.i2d v1) (4652007308841189376 : UInt64)))), .second, .unset, .unset, .unset]) rfl k) ?_
 show own_Go p e below _ (s₁.setTop (mkF m 57 #[.val (.int p0), .val (.int p1), .val (.int p2), .val (.int p3), .val (.int v1), .val (.int v2), .val (.int v3), .val (.int v4), .val (.double (FP.dadd FP.dconst0 (FP.ddiv (FP.i2d v1) (4652007308841189376 : UInt64)))), .second, .unset, .unset, .unset] []))
 generalize hv5 : (FP.dadd FP.dconst0 (FP.ddiv (FP.i2d v1) (4652007308841189376 : UInt64))) = v5
 show own_Go p e below _ (s₁.setTop (mkF m 57 #[.val (.int p0), .val (.int p1), .val (.int p2), .val (.int p3), .val (.int v1), .val (.int v2), .val (.int v3), .val (.int v4), .val (.double v5), .second, .unset, .unset, .unset] []))
 refine own_by (fun _ k => XS.dload X0.here hx rfl (hb hby at_57) rfl k) ?_
 show own_Go p e below _ (s₁.setTop (mkF m 59 #[.val (.int p0), .val (.int p1), .val (.int p2), .val (.int p3), .val (.int v1), .val (.int v2), .val (.int v3), .val (.int v4), .val (.double v5), .second, .unset, .unset, .unset] [(.double v5)]))
 refine own_by (fun _ k => XS.iload X0.here hx rfl (hb hby at_59) rfl k) ?_
 show own_Go p e below _ (s₁.setTop (mkF m 61 #[.val (.int p0), .val (.int p1), .val (.int p2), .val (.int p3), .val (.int v1), .val (.int v2), .val (.int v3), .val (.int v4), .val (.double v5), .second, .unset, .unset, .unset] [(.int v2), (.double v5)]))
 refine own_by (fun _ k => XS.i2dS X0.here hx rfl (hb hby at_61) rfl rfl k) ?_
 show own_Go p e below _ (s₁.setTop (mkF m 62 #[.val (.int p0), .val (.int p1), .val (.int p2), .val (.int p3), .val (.int v1), .val (.int v2), .val (.int v3), .val (.int v4), .val (.double v5), .second, .unset, .unset, .unset] [(.double (FP.i2d v2)), (.double v5)]))
 refine own_by (fun t k => X0.ldc2DoubleC hx hown (mvT hZ (hwd 1 rfl)) (g := (mkF m 62 #[.val (.int p0), .val (.int p1), .val (.int p2), .val (.int p3), .val (.int v1), .val (.int v2), .val (.int v3), .val (.int v4), .val (.double v5), .second, .unset, .unset, .unset] [(.double (FP.i2d v2)), (.double v5)])) rfl (hb hby at_62) _ k) ?_
 show own_Go p e below _ (s₁.setTop (mkF m 65 #[.val (.int p0), .val (.int p1), .val (.int p2), .val (.int p3), .val (.int v1), .val (.int v2), .val (.int v3), .val (.int v4), .val (.double v5), .second, .unset, .unset, .unset] [(.double (4652007308841189376 : UInt64)), (.double (FP.i2d v2)), (.double v5)]))
 refine own_by (fun _ k => XS.ddivS X0.here hx rfl (hb hby at_65) rfl (ob_0_3 p0 p1 p2 p3 v1 v2 v3 v4 v5 hv1 hv2 hv3 hv4 hv5) rfl k) ?_
 show own_Go p e below _ (s₁.setTop (mkF m 66 #[.val (.int p0), .val (.int p1), .val (.int p2), .val (.int p3), .val (.int v1), .val (.int v2), .val (.int v3), .val (.int v4), .val (.double v5), .second, .unset, .unset, .unset] [(.double (FP.ddiv (FP.i2d v2) (4652007308841189376 : UInt64))), (.double v5)]))
 refine own_by (fun _ k => XS.daddS X0.here hx rfl (hb hby at_66) rfl (ob_0_4 p0 p1 p2 p3 v1 v2 v3 v4 v5 hv1 hv2 hv3 hv4 hv5) rfl k) ?_
 show own_Go p e below _ (s₁.setTop (mkF m 67 #[.val (.int p0), .val (.int p1), .val (.int p2), .val (.int p3), .val (.int v1), .val (.int v2), .val (.int v3), .val (.int v4), .val (.double v5), .second, .unset, .unset, .unset] [(.double (FP.dadd v5 (FP.ddiv (FP.i2d v2) (4652007308841189376 : UInt64))))]))
 refine own_by (fun _ k => XS.dstore X0.here hx rfl (hb hby at_67) rfl (l' := #[.val (.int p0), .val (.int p1), .val (.int p2), .val (.int p3), .val (.int v1), .val (.int v2), .val (.int v3), .val (.int v4), .val (.double (FP.dadd v5 (FP.ddiv (FP.i2d v2) (4652007308841189376 : UInt64)))), .second, .unset, .unset, .unset]) rfl k) ?_
 show own_Go p e below _ (s₁.setTop (mkF m 69 #[.val (.int p0), .val (.int p1), .val (.int p2), .val (.int p3), .val (.int v1), .val (.int v2), .val (.int v3), .val (.int v4), .val (.double (FP.dadd v5 (FP.ddiv (FP.i2d v2) (4652007308841189376 : UInt64)))), .second, .unset, .unset, .unset] []))
 generalize hv6 : (FP.dadd v5 (FP.ddiv (FP.i2d v2) (4652007308841189376 : UInt64))) = v6
 show own_Go p e below _ (s₁.setTop (mkF m 69 #[.val (.int p0), .val (.int p1), .val (.int p2), .val (.int p3), .val (.int v1), .val (.int v2), .val (.int v3), .val (.int v4), .val (.double v6), .second, .unset, .unset, .unset] []))
 refine own_by (fun _ k => XS.dload X0.here hx rfl (hb hby at_69) rfl k) ?_
 show own_Go p e below _ (s₁.setTop (mkF m 71 #[.val (.int p0), .val (.int p1), .val (.int p2), .val (.int p3), .val (.int v1), .val (.int v2), .val (.int v3), .val (.int v4), .val (.double v6), .second, .unset, .unset, .unset] [(.double v6)]))
 refine own_by (fun _ k => XS.iload X0.here hx rfl (hb hby at_71) rfl k) ?_
 show own_Go p e below _ (s₁.setTop (mkF m 73 #[.val (.int p0), .val (.int p1), .val (.int p2), .val (.int p3), .val (.int v1), .val (.int v2), .val (.int v3), .val (.int v4), .val (.double v6), .second, .unset, .unset, .unset] [(.int v3), (.double v6)]))
 refine own_by (fun _ k => XS.i2dS X0.here hx rfl (hb hby at_73) rfl rfl k) ?_
 show own_Go p e below _ (s₁.setTop (mkF m 74 #[.val (.int p0), .val (.int p1), .val (.int p2), .val (.int p3), .val (.int v1), .val (.int v2), .val (.int v3), .val (.int v4), .val (.double v6), .second, .unset, .unset, .unset] [(.double (FP.i2d v3)), (.double v6)]))
 refine own_by (fun t k => X0.ldc2DoubleC hx hown (mvT hZ (hwd 1 rfl)) (g := (mkF m 74 #[.val (.int p0), .val (.int p1), .val (.int p2), .val (.int p3), .val (.int v1), .val (.int v2), .val (.int v3), .val (.int v4), .val (.double v6), .second, .unset, .unset, .unset] [(.double (FP.i2d v3)), (.double v6)])) rfl (hb hby at_74) _ k) ?_
 show own_Go p e below _ (s₁.setTop (mkF m 77 #[.val (.int p0), .val (.int p1), .val (.int p2), .val (.int p3), .val (.int v1), .val (.int v2), .val (.int v3), .val (.int v4), .val (.double v6), .second, .unset, .unset, .unset] [(.double (4652007308841189376 : UInt64)), (.double (FP.i2d v3)), (.double v6)]))
 refine own_by (fun _ k => XS.ddivS X0.here hx rfl (hb hby at_77) rfl (ob_0_5 p0 p1 p2 p3 v1 v2 v3 v4 v5 v6 hv1 hv2 hv3 hv4 hv5 hv6) rfl k) ?_
 show own_Go p e below _ (s₁.setTop (mkF m 78 #[.val (.int p0), .val (.int p1), .val (.int p2), .val (.int p3), .val (.int v1), .val (.int v2), .val (.int v3), .val (.int v4), .val (.double v6), .second, .unset, .unset, .unset] [(.double (FP.ddiv (FP.i2d v3) (4652007308841189376 : UInt64))), (.double v6)]))
 refine own_by (fun _ k => XS.daddS X0.here hx rfl (hb hby at_78) rfl (ob_0_6 p0 p1 p2 p3 v1 v2 v3 v4 v5 v6 hv1 hv2 hv3 hv4 hv5 hv6) rfl k) ?_
 show own_Go p e below _ (s₁.setTop (mkF m 79 #[.val (.int p0), .val (.int p1), .val (.int p2), .val (.int p3), .val (.int v1), .val (.int v2), .val (.int v3), .val (.int v4), .val (.double v6), .second, .unset, .unset, .unset] [(.double (FP.dadd v6 (FP.ddiv (FP.i2d v3) (4652007308841189376 : UInt64))))]))
 refine own_by (fun _ k => XS.dstore X0.here hx rfl (hb hby at_79) rfl (l' := #[.val (.int p0), .val (.int p1), .val (.int p2), .val (.int p3), .val (.int v1), .val (.int v2), .val (.int v3), .val (.int v4), .val (.double (FP.dadd v6 (FP.ddiv (FP.i2d v3) (4652007308841189376 : UInt64)))), .second, .unset, .unset, .unset]) rfl k) ?_
 show own_Go p e below _ (s₁.setTop (mkF m 81 #[.val (.int p0), .val (.int p1), .val (.int p2), .val (.int p3), .val (.int v1), .val (.int v2), .val (.int v3), .val (.int v4), .val (.double (FP.dadd v6 (FP.ddiv (FP.i2d v3) (4652007308841189376 : UInt64)))), .second, .unset, .unset, .unset] []))
 generalize hv7 : (FP.dadd v6 (FP.ddiv (FP.i2d v3) (4652007308841189376 : UInt64))) = v7
 show own_Go p e below _ (s₁.setTop (mkF m 81 #[.val (.int p0), .val (.int p1), .val (.int p2), .val (.int p3), .val (.int v1), .val (.int v2), .val (.int v3), .val (.int v4), .val (.double v7), .second, .unset, .unset, .unset] []))
 refine own_by (fun _ k => XS.iload X0.here hx rfl (hb hby at_81) rfl k) ?_
 show own_Go p e below _ (s₁.setTop (mkF m 83 #[.val (.int p0), .val (.int p1), .val (.int p2), .val (.int p3), .val (.int v1), .val (.int v2), .val (.int v3), .val (.int v4), .val (.double v7), .second, .unset, .unset, .unset] [(.int v4)]))
 refine own_by (fun _ k => XS.i2dS X0.here hx rfl (hb hby at_83) rfl rfl k) ?_
 show own_Go p e below _ (s₁.setTop (mkF m 84 #[.val (.int p0), .val (.int p1), .val (.int p2), .val (.int p3), .val (.int v1), .val (.int v2), .val (.int v3), .val (.int v4), .val (.double v7), .second, .unset, .unset, .unset] [(.double (FP.i2d v4))]))
 refine own_by (fun t k => X0.ldc2DoubleC hx hown (mvT hZ (hwd 1 rfl)) (g := (mkF m 84 #[.val (.int p0), .val (.int p1), .val (.int p2), .val (.int p3), .val (.int v1), .val (.int v2), .val (.int v3), .val (.int v4), .val (.double v7), .second, .unset, .unset, .unset] [(.double (FP.i2d v4))])) rfl (hb hby at_84) _ k) ?_
 show own_Go p e below _ (s₁.setTop (mkF m 87 #[.val (.int p0), .val (.int p1), .val (.int p2), .val (.int p3), .val (.int v1), .val (.int v2), .val (.int v3), .val (.int v4), .val (.double v7), .second, .unset, .unset, .unset] [(.double (4652007308841189376 : UInt64)), (.double (FP.i2d v4))]))
 refine own_by (fun _ k => XS.ddivS X0.here hx rfl (hb hby at_87) rfl (ob_0_7 p0 p1 p2 p3 v1 v2 v3 v4 v5 v6 v7 hv1 hv2 hv3 hv4 hv5 hv6 hv7) rfl k) ?_
 show own_Go p e below _ (s₁.setTop (mkF m 88 #[.val (.int p0), .val (.int p1), .val (.int p2), .val (.int p3), .val (.int v1), .val (.int v2), .val (.int v3), .val (.int v4), .val (.double v7), .second, .unset, .unset, .unset] [(.double (FP.ddiv (FP.i2d v4) (4652007308841189376 : UInt64)))]))
 refine own_by (fun _ k => XS.dstore X0.here hx rfl (hb hby at_88) rfl (l' := #[.val (.int p0), .val (.int p1), .val (.int p2), .val (.int p3), .val (.int v1), .val (.int v2), .val (.int v3), .val (.int v4), .val (.double v7), .second, .val (.double (FP.ddiv (FP.i2d v4) (4652007308841189376 : UInt64))), .second, .unset]) rfl k) ?_
 show own_Go p e below _ (s₁.setTop (mkF m 90 #[.val (.int p0), .val (.int p1), .val (.int p2), .val (.int p3), .val (.int v1), .val (.int v2), .val (.int v3), .val (.int v4), .val (.double v7), .second, .val (.double (FP.ddiv (FP.i2d v4) (4652007308841189376 : UInt64))), .second, .unset] []))
 generalize hv8 : (FP.ddiv (FP.i2d v4) (4652007308841189376 : UInt64)) = v8
 show own_Go p e below _ (s₁.setTop (mkF m 90 #[.val (.int p0), .val (.int p1), .val (.int p2), .val (.int p3), .val (.int v1), .val (.int v2), .val (.int v3), .val (.int v4), .val (.double v7), .second, .val (.double v8), .second, .unset] []))
 refine own_by (fun _ k => XS.iload X0.here hx rfl (hb hby at_90) rfl k) ?_
 show own_Go p e below _ (s₁.setTop (mkF m 92 #[.val (.int p0), .val (.int p1), .val (.int p2), .val (.int p3), .val (.int v1), .val (.int v2), .val (.int v3), .val (.int v4), .val (.double v7), .second, .val (.double v8), .second, .unset] [(.int v1)]))
 refine own_by (fun _ k => XS.iload X0.here hx rfl (hb hby at_92) rfl k) ?_
 show own_Go p e below _ (s₁.setTop (mkF m 94 #[.val (.int p0), .val (.int p1), .val (.int p2), .val (.int p3), .val (.int v1), .val (.int v2), .val (.int v3), .val (.int v4), .val (.double v7), .second, .val (.double v8), .second, .unset] [(.int v2), (.int v1)]))
 refine own_by (fun _ k => XS.iadd X0.here hx rfl (hb hby at_94) rfl k) ?_
 show own_Go p e below _ (s₁.setTop (mkF m 95 #[.val (.int p0), .val (.int p1), .val (.int p2), .val (.int p3), .val (.int v1), .val (.int v2), .val (.int v3), .val (.int v4), .val (.double v7), .second, .val (.double v8), .second, .unset] [(.int (v1 + v2))]))
 refine own_by (fun _ k => XS.iload X0.here hx rfl (hb hby at_95) rfl k) ?_
 show own_Go p e below _ (s₁.setTop (mkF m 97 #[.val (.int p0), .val (.int p1), .val (.int p2), .val (.int p3), .val (.int v1), .val (.int v2), .val (.int v3), .val (.int v4), .val (.double v7), .second, .val (.double v8), .second, .unset] [(.int v3), (.int (v1 + v2))]))
 refine own_by (fun _ k => XS.iadd X0.here hx rfl (hb hby at_97) rfl k) ?_
 show own_Go p e below _ (s₁.setTop (mkF m 98 #[.val (.int p0), .val (.int p1), .val (.int p2), .val (.int p3), .val (.int v1), .val (.int v2), .val (.int v3), .val (.int v4), .val (.double v7), .second, .val (.double v8), .second, .unset] [(.int ((v1 + v2) + v3))]))
 refine own_by (fun _ k => XS.iload X0.here hx rfl (hb hby at_98) rfl k) ?_
 show own_Go p e below _ (s₁.setTop (mkF m 100 #[.val (.int p0), .val (.int p1), .val (.int p2), .val (.int p3), .val (.int v1), .val (.int v2), .val (.int v3), .val (.int v4), .val (.double v7), .second, .val (.double v8), .second, .unset] [(.int v4), (.int ((v1 + v2) + v3))]))
 have J10 : ∀ (T11 : State) (L12 : List Loc) (z16 : Int32), Stand p l e room_1 s m #[(.int p0), (.int p1), (.int p2), (.int p3)] below meth c T11 L12 0 0 → T11.heap = h0 → Fr n0 L12 → (((((v1 + v2) + v3) < v4) ∧ z16 = (0 : Int32)) ∨ ((¬ (((v1 + v2) + v3) < v4)) ∧ z16 = (1 : Int32))) → own_Go p e below (own_Fin s 0 0 (Q0 Z p0 p1 p2 p3 h0 n0)) (T11.setTop (mkF m 108 #[.val (.int p0), .val (.int p1), .val (.int p2), .val (.int p3), .val (.int v1), .val (.int v2), .val (.int v3), .val (.int v4), .val (.double v7), .second, .val (.double v8), .second, .unset] [(.int z16)])) := by
  intro T11 L12 z16 X13 e14 N15 hj17
  refine own_by (fun _ k => XS.istore X13.here hx rfl (hb hby at_108) rfl (l' := #[.val (.int p0), .val (.int p1), .val (.int p2), .val (.int p3), .val (.int v1), .val (.int v2), .val (.int v3), .val (.int v4), .val (.double v7), .second, .val (.double v8), .second, .val (.int z16)]) rfl k) ?_
  show own_Go p e below _ (T11.setTop (mkF m 110 #[.val (.int p0), .val (.int p1), .val (.int p2), .val (.int p3), .val (.int v1), .val (.int v2), .val (.int v3), .val (.int v4), .val (.double v7), .second, .val (.double v8), .second, .val (.int z16)] []))
  refine own_by (fun _ k => XS.dload X13.here hx rfl (hb hby at_110) rfl k) ?_
  show own_Go p e below _ (T11.setTop (mkF m 112 #[.val (.int p0), .val (.int p1), .val (.int p2), .val (.int p3), .val (.int v1), .val (.int v2), .val (.int v3), .val (.int v4), .val (.double v7), .second, .val (.double v8), .second, .val (.int z16)] [(.double v7)]))
  refine own_by (fun _ k => XS.dload X13.here hx rfl (hb hby at_112) rfl k) ?_
  show own_Go p e below _ (T11.setTop (mkF m 114 #[.val (.int p0), .val (.int p1), .val (.int p2), .val (.int p3), .val (.int v1), .val (.int v2), .val (.int v3), .val (.int v4), .val (.double v7), .second, .val (.double v8), .second, .val (.int z16)] [(.double v8), (.double v7)]))
  obtain ⟨_, _, ⟨T18, L18, k18, n18⟩, -, X18, ⟨Lc18, hQ18, l18, y18, z18⟩, st18⟩ := Jvm.LawKit.callS X13 hx (y := (⟨"com/example/libacross/libacross/translation/Translation", "reaches", "(DD)Z"⟩ : MethodName)) hown (mvT hZ (hwd 2 rfl)) (mvT hZ (hwd 3 rfl)) (mvT hZ (hwd 4 rfl)) (mvT hZ (hwd 5 rfl)) (by decide) (backOf (W := 0) (rm1 l Z A0 hw [] v7 v8 h0 n0 Z0 (ob_0_8 p0 p1 p2 p3 v1 v2 v3 v4 v5 v6 v7 v8 z16 hv1 hv2 hv3 hv4 hv5 hv6 hv7 hv8 hj17)) hZ (hwd 5 rfl) (hwd 4 rfl) (by decide) (by decide)) (g := (mkF m 114 #[.val (.int p0), .val (.int p1), .val (.int p2), .val (.int p3), .val (.int v1), .val (.int v2), .val (.int v3), .val (.int v4), .val (.double v7), .second, .val (.double v8), .second, .val (.int z16)] [(.double v8), (.double v7)])) rfl (by rw [hml]; rfl) (argsL := [(.double v7), (.double v8)]) (rest := []) (lenOf pd_2 rfl) rfl (by show 2 * 0 + _ ≤ _; exact Nat.le_of_eq rfl) (hb hby at_114) (fun _ _ => ⟨rfl, e14, (by decide : 0 + 0 ≤ _), (by decide : 0 + 0 ≤ _)⟩)
  dsimp only [Pt.U, Pt.locs, Pt.cells, Pt.slots] at X18 l18 y18 z18 st18 hQ18
  subst l18 y18 z18
  obtain ⟨o19, rfl, Nq18, eq18, hp20⟩ := hQ18
  have N18 := Fr.app N15 Nq18
  refine own_by st18 ?_
  show own_Go p e below _ (T18.setTop (mkF m 117 #[.val (.int p0), .val (.int p1), .val (.int p2), .val (.int p3), .val (.int v1), .val (.int v2), .val (.int v3), .val (.int v4), .val (.double v7), .second, .val (.double v8), .second, .val (.int z16)] [(.int o19)]))
  refine own_by (fun _ k => XS.iload X18.here hx rfl (hb hby at_117) rfl k) ?_
  show own_Go p e below _ (T18.setTop (mkF m 119 #[.val (.int p0), .val (.int p1), .val (.int p2), .val (.int p3), .val (.int v1), .val (.int v2), .val (.int v3), .val (.int v4), .val (.double v7), .second, .val (.double v8), .second, .val (.int z16)] [(.int z16), (.int o19)]))
  by_cases c21 : o19 = z16
  ·skip
   refine own_by (fun _ k => XS.icmpNo X18.here hx rfl (hb hby at_119) rfl (teq c21).2 k) ?_
   show own_Go p e below _ (T18.setTop (mkF m 122 #[.val (.int p0), .val (.int p1), .val (.int p2), .val (.int p3), .val (.int v1), .val (.int v2), .val (.int v3), .val (.int v4), .val (.double v7), .second, .val (.double v8), .second, .val (.int z16)] []))
   refine own_by (fun _ k => XS.iconst X18.here hx rfl (hb hby at_122) k) ?_
   show own_Go p e below _ (T18.setTop (mkF m 123 #[.val (.int p0), .val (.int p1), .val (.int p2), .val (.int p3), .val (.int v1), .val (.int v2), .val (.int v3), .val (.int v4), .val (.double v7), .second, .val (.double v8), .second, .val (.int z16)] [(.int (1 : Int32))]))
   refine own_by (fun _ k => XS.goto X18.here hx rfl (pc0 := 123) (pc' := 127) rfl (hb hby at_123) (by decide) (by decide) k) ?_
   show own_Go p e below _ (T18.setTop (mkF m 127 #[.val (.int p0), .val (.int p1), .val (.int p2), .val (.int p3), .val (.int v1), .val (.int v2), .val (.int v3), .val (.int v4), .val (.double v7), .second, .val (.double v8), .second, .val (.int z16)] [(.int (1 : Int32))]))
   exact own_retN X18 hx (t := .boolean) Bd.returns (by simp) (hb hby at_127) hlk eq18 ⟨rfl, N18⟩ (by decide) (by decide)
  ·skip
   refine own_by (fun _ k => XS.icmpYes X18.here hx rfl (pc0 := 119) (pc' := 126) rfl (hb hby at_119) rfl (feq c21).2 (by decide) (by decide) k) ?_
   show own_Go p e below _ (T18.setTop (mkF m 126 #[.val (.int p0), .val (.int p1), .val (.int p2), .val (.int p3), .val (.int v1), .val (.int v2), .val (.int v3), .val (.int v4), .val (.double v7), .second, .val (.double v8), .second, .val (.int z16)] []))
   refine own_by (fun _ k => XS.iconst X18.here hx rfl (hb hby at_126) k) ?_
   show own_Go p e below _ (T18.setTop (mkF m 127 #[.val (.int p0), .val (.int p1), .val (.int p2), .val (.int p3), .val (.int v1), .val (.int v2), .val (.int v3), .val (.int v4), .val (.double v7), .second, .val (.double v8), .second, .val (.int z16)] [(.int (0 : Int32))]))
   exact own_retN X18 hx (t := .boolean) Bd.returns (by simp) (hb hby at_127) hlk eq18 ⟨((ob_0_9 p0 p1 p2 p3 v1 v2 v3 v4 v5 v6 v7 v8 z16 o19 hv1 hv2 hv3 hv4 hv5 hv6 hv7 hv8 hj17 hp20 c21)).elim, N18⟩ (by decide) (by decide)
 by_cases c9 : ((v1 + v2) + v3) < v4
 ·skip
  refine own_by (fun _ k => XS.icmpYes X0.here hx rfl (pc0 := 100) (pc' := 107) rfl (hb hby at_100) rfl (tlt c9).1 (by decide) (by decide) k) ?_
  show own_Go p e below _ (s₁.setTop (mkF m 107 #[.val (.int p0), .val (.int p1), .val (.int p2), .val (.int p3), .val (.int v1), .val (.int v2), .val (.int v3), .val (.int v4), .val (.double v7), .second, .val (.double v8), .second, .unset] []))
  refine own_by (fun _ k => XS.iconst X0.here hx rfl (hb hby at_107) k) ?_
  show own_Go p e below _ (s₁.setTop (mkF m 108 #[.val (.int p0), .val (.int p1), .val (.int p2), .val (.int p3), .val (.int v1), .val (.int v2), .val (.int v3), .val (.int v4), .val (.double v7), .second, .val (.double v8), .second, .unset] [(.int (0 : Int32))]))
  exact J10 _ _ (0 : Int32) X0 e0 N0 (Or.inl ⟨c9, rfl⟩)
 ·skip
  refine own_by (fun _ k => XS.icmpNo X0.here hx rfl (hb hby at_100) rfl (flt c9).1 k) ?_
  show own_Go p e below _ (s₁.setTop (mkF m 103 #[.val (.int p0), .val (.int p1), .val (.int p2), .val (.int p3), .val (.int v1), .val (.int v2), .val (.int v3), .val (.int v4), .val (.double v7), .second, .val (.double v8), .second, .unset] []))
  refine own_by (fun _ k => XS.iconst X0.here hx rfl (hb hby at_103) k) ?_
  show own_Go p e below _ (s₁.setTop (mkF m 104 #[.val (.int p0), .val (.int p1), .val (.int p2), .val (.int p3), .val (.int v1), .val (.int v2), .val (.int v3), .val (.int v4), .val (.double v7), .second, .val (.double v8), .second, .unset] [(.int (1 : Int32))]))
  refine own_by (fun _ k => XS.goto X0.here hx rfl (pc0 := 104) (pc' := 108) rfl (hb hby at_104) (by decide) (by decide) k) ?_
  show own_Go p e below _ (s₁.setTop (mkF m 108 #[.val (.int p0), .val (.int p1), .val (.int p2), .val (.int p3), .val (.int v1), .val (.int v2), .val (.int v3), .val (.int v4), .val (.double v7), .second, .val (.double v8), .second, .unset] [(.int (1 : Int32))]))
  exact J10 _ _ (1 : Int32) X0 e0 N0 (Or.inr (⟨c9, rfl⟩))
set_option maxRecDepth 65536 in
set_option maxHeartbeats 40000000 in
theorem comes_1 {Post : Tables → Env → Array Value → State → Outcome → State → Prop} (hpost : ∀ tb e args s v u, (limb_1_1.after args s (.returned v) u = true ∧ limb_1_2.after args s (.returned v) u = true ∧ True) → FrameEnd s (.returned v) u (Jvm.fieldLocs frame_1_writes args s ++ Jvm.arrayLocs frame_1_arrays args s ++ Jvm.staticLocs frame_1_statics s) 0 0 → Post tb e args s (.returned v) u) :
    ArmFor flags0 classFile x code maxLocals ret World_1 tables_1 room_1 Calls_1 rest_1 Pre_1 Post := by
  intro l hfl _ _ p e ha hc hk s m args below hf hA hF happ hP
  obtain ⟨hcalls, hrest, hpre⟩ := hP
  obtain ⟨-, -, -, hnamed, -, -, -, hat⟩ := (Spec.applies_iff hf).mp happ
  obtain ⟨hg, hn⟩ := and_e (Cond.before_iff.mp (show (Jvm.Cond.and given_1 narrow_1).before args s = true from hpre))
  obtain ⟨g0, r0⟩ := and_e hg
  obtain ⟨ga0, r1⟩ := and_e r0
  obtain ⟨ga1, r2⟩ := and_e r1
  obtain ⟨ga2, r3⟩ := and_e r2
  obtain ⟨w0, w1, w2, w3, rfl⟩ : ∃ w0 w1 w2 w3 : Value, args = #[w0, w1, w2, w3] := by
    have hs : args.size = 4 := by simpa [Cond.value, given_1] using g0
    obtain ⟨L⟩ := args
    match L, hs with
    | [w0, w1, w2, w3], _ => exact ⟨w0, w1, w2, w3, rfl⟩
  have hw := fun d (hd : d ∈ tables_1) => atoms_spec (ws := Jvm.Cond.code x code maxLocals ret :: tables_1) hat d (List.mem_cons_of_mem _ hd)
  have hwd := fun i {d : Jvm.Cond} (h : tables_1[i]? = some d) => hw d (List.mem_of_getElem? h)
  have hfit : Fit s := fun {y c} hc i hi => by
    obtain ⟨ha, rfl⟩ := Array.getElem?_eq_some_iff.mp hc
    have q := List.all_eq_true.mp ((Array.all_eq_true_iff_forall_mem.mp hF) _ (Array.getElem_mem ha)) i (List.mem_range.mpr hi)
    simpa [Array.getElem?_eq_getElem hi] using q
  obtain ⟨i0, ei0⟩ := is_v ga0
  obtain rfl : w0 = (.int i0) := Option.some.inj ei0
  obtain ⟨i1, ei1⟩ := is_v ga1
  obtain rfl : w1 = (.int i1) := Option.some.inj ei1
  obtain ⟨i2, ei2⟩ := is_v ga2
  obtain rfl : w2 = (.int i2) := Option.some.inj ei2
  obtain ⟨i3, ei3⟩ := is_v r3
  obtain rfl : w3 = (.int i3) := Option.some.inj ei3
  obtain ⟨n, o, h1, h2, h3, _, L, rfl, ⟨rfl, N⟩, hq⟩ := rm0 l s _ hw tables_1 i0 i1 i2 i3 s.heap s.heap.size (Nat.le_refl _)  p e ha hc hk s m _ below hf ((Spec.applies_iff_loose hf).mp happ).1 ⟨rfl, State.Warmed39.refl s, rfl⟩ trivial
  refine ⟨n, _, h1, h2, h3, hpost _ _ _ _ _ _ ⟨Cond.after_iff.mpr rfl, Cond.after_iff.mpr (eq_i res_at (Term.int_eval (1)) rfl), trivial⟩ ⟨hq.1, hq.2.1, (hq.2.2.sift fun y hy => Or.inr (N y hy)).mono (by decide) (by decide)⟩⟩
theorem main_1_1 : Claimed_1_1 := comes_1 fun _ _ _ _ _ _ h hF => ⟨h.1, hF⟩
theorem main_1_2 : Claimed_1_2 := comes_1 fun _ _ _ _ _ _ h hF => ⟨h.2.1, hF⟩
end Jvm.Pilot.@@N@@
namespace Jvm.Pilot.@@N@@
open Jvm Jvm.ClassFile Sem Op Lib Jvm.Free Jvm.Stand Jvm.Pilot.@@N@@.Jvm.D
/-! MADE BY PROGRAM (witnessworld.py) out of the Statement's table words and the real class files: 10 classes; the members and pool entries that the words name. The judged class is class 1, her method 1. -/
namespace start1
open Jvm.ClassFile
def u (s : String) : CpInfo := .utf8 (stringToUtf16 s)
/-- a pool by its gaps: so many unusable entries, then the entry; so many at the end -/
def gap : Nat → List CpInfo → List CpInfo
  | 0, r => r
  | n + 1, r => .unusable :: gap n r
def poolList (es : List (Nat × CpInfo)) (last : Nat) : List CpInfo := es.foldr (fun e r => gap e.1 (e.2 :: r)) (gap last [])
def pool (es : List (Nat × CpInfo)) (last : Nat) : Array CpInfo := ⟨poolList es last⟩
def fileOf (pool : Array CpInfo) (this : Nat) (attrs : Array Attribute := #[]) (ms : Array MethodInfo := #[]) (fl : Nat := 33) (sup : Nat := 0) (ifs : Array Nat := #[]) (fds : Array FieldInfo := #[]) : ClassFile where
  minorVersion := 0
  majorVersion := 65
  constantPool := pool
  accessFlags := fl
  thisClass := this
  superClass := sup
  interfaces := ifs
  fields := fds
  methods := ms
  attributes := attrs
def plain (name : String) (sup : Option ClassId) : Class where
  name := name
  kind := .ordinary
  loader := none
  accessFlags := 33
  super := sup
  interfaces := #[]
  cf := none
  fields := #[]
  methods := #[]
  instanceTypes := #[]
  staticTypes := #[]
  resolved := #[]
  callSites := []
  init := .initialized
  statics := none
  mirror := none

def pool0 : Array CpInfo := pool [(5, u "<init>"), (0, u "()V"), (1, .class_ 10), (1, u "java/lang/Object")] 113

def k0m0 : Method := { name := "<init>", desc := "()V", sig := { parameters := [], returnType := none }, accessFlags := 1, code := none }
/-- java/lang/Object -/
def k0 : Class := { plain "java/lang/Object" none with
  accessFlags := 33
  interfaces := #[]
  cf := some (fileOf pool0 8 #[] #[{ accessFlags := 1, nameIndex := 5, descriptorIndex := 6, attributes := #[] }] 33 0 #[] #[])
  fields := #[]
  methods := #[k0m0]
  instanceTypes := #[]
  staticTypes := #[]
  resolved := Array.replicate 124 none
  statics := none }

def pool1 : Array CpInfo := pool [(2, .class_ 4), (1, u "java/lang/Object"), (0, u "<init>"), (0, u "()V"), (0, .integer 2147483647), (0, .double 4652007308841189376), (1, .methodref 11 12), (0, .class_ 13), (0, .nameAndType 14 15), (0, u "com/example/libacross/libacross/translation/Translation"), (0, u "reaches"), (0, u "(DD)Z"), (0, .class_ 17), (0, u "com/example/libacross/libacross/translation/TranslationReachesPinLaw"), (2, u "law"), (0, u "(IIII)Z")] 3

def k1m0 : Method := { name := "<init>", desc := "()V", sig := { parameters := [], returnType := none }, accessFlags := 1, code := none }
def k1c1 : Code := { maxStack := 6, maxLocals := 13, code := code, exceptionTable := #[], attributes := #[] }
def k1m1 : Method := { name := "law", desc := "(IIII)Z", sig := { parameters := [.int, .int, .int, .int], returnType := some .boolean }, accessFlags := 9, code := some k1c1 }
/-- com/example/libacross/libacross/translation/TranslationReachesPinLaw -/
def k1 : Class := { plain "com/example/libacross/libacross/translation/TranslationReachesPinLaw" (some 0) with
  accessFlags := 49
  interfaces := #[]
  cf := some (fileOf pool1 16 #[] #[{ accessFlags := 1, nameIndex := 5, descriptorIndex := 6, attributes := #[] }, { accessFlags := 9, nameIndex := 20, descriptorIndex := 21, attributes := #[] }] 49 2 #[] #[])
  fields := #[]
  methods := #[k1m0, k1m1]
  instanceTypes := #[]
  staticTypes := #[]
  resolved := Array.replicate 25 none
  statics := none }

def pool2 : Array CpInfo := pool [(2, .class_ 4), (1, u "java/lang/Object"), (0, u "<init>"), (0, u "()V"), (0, .class_ 8), (0, u "java/lang/Record")] 13

def k2m0 : Method := { name := "<init>", desc := "()V", sig := { parameters := [], returnType := none }, accessFlags := 4, code := none }
/-- java/lang/Record -/
def k2 : Class := { plain "java/lang/Record" (some 0) with
  accessFlags := 1057
  interfaces := #[]
  cf := some (fileOf pool2 7 #[] #[{ accessFlags := 4, nameIndex := 5, descriptorIndex := 6, attributes := #[] }] 1057 2 #[] #[])
  fields := #[]
  methods := #[k2m0]
  instanceTypes := #[]
  staticTypes := #[]
  resolved := Array.replicate 22 none
  statics := none }

def pool3 : Array CpInfo := pool [(2, .class_ 4), (1, u "java/lang/Record"), (22, .class_ 29), (1, u "com/example/libacross/libacross/translation/Translation"), (0, u "source"), (0, u "Ljava/lang/String;"), (2, u "targets"), (0, u "Ljava/util/List;"), (7, u "WEIGHT_ORDER"), (0, u "Ljava/util/Comparator;"), (18, .class_ 64), (0, u "com/example/libacross/libacross/translation/Translation$Target"), (10, u "reaches"), (0, u "(DD)Z"), (55, .double 4472406533629990549), (46, u "ROUNDING"), (0, u "D")] 69

def k3c0 : Code := { maxStack := 6, maxLocals := 4, code := prog_45_method_5_code, exceptionTable := #[], attributes := #[] }
def k3m0 : Method := { name := "reaches", desc := "(DD)Z", sig := { parameters := [.double, .double], returnType := some .boolean }, accessFlags := 8, code := some k3c0 }
/-- com/example/libacross/libacross/translation/Translation -/
def k3 : Class := { plain "com/example/libacross/libacross/translation/Translation" (some 2) with
  accessFlags := 49
  interfaces := #[]
  cf := some (fileOf pool3 27 #[.nestMembers #[63]] #[{ accessFlags := 8, nameIndex := 75, descriptorIndex := 76, attributes := #[] }] 49 2 #[] #[{ accessFlags := 18, nameIndex := 30, descriptorIndex := 31, attributes := #[] }, { accessFlags := 18, nameIndex := 34, descriptorIndex := 35, attributes := #[] }, { accessFlags := 26, nameIndex := 179, descriptorIndex := 180, attributes := #[] }, { accessFlags := 26, nameIndex := 43, descriptorIndex := 44, attributes := #[] }])
  fields := #[{ name := "source", type := (.object "java/lang/String"), accessFlags := 18, slot := 0, constantValue := 0 }, { name := "targets", type := (.object "java/util/List"), accessFlags := 18, slot := 1, constantValue := 0 }, { name := "ROUNDING", type := .double, accessFlags := 26, slot := 0, constantValue := 0 }, { name := "WEIGHT_ORDER", type := (.object "java/util/Comparator"), accessFlags := 26, slot := 1, constantValue := 0 }]
  methods := #[k3m0]
  instanceTypes := #[(.object "java/lang/String"), (.object "java/util/List")]
  staticTypes := #[.double, (.object "java/util/Comparator")]
  resolved := Array.replicate 250 none
  statics := none }

def pool4 : Array CpInfo := pool [(1, u "java/lang/Cloneable"), (0, .class_ 1), (0, u "java/lang/Object"), (0, .class_ 3)] 3

/-- java/lang/Cloneable -/
def k4 : Class := { plain "java/lang/Cloneable" (some 0) with
  accessFlags := 1537
  interfaces := #[]
  cf := some (fileOf pool4 2 #[] #[] 1537 4 #[] #[])
  fields := #[]
  methods := #[]
  instanceTypes := #[]
  staticTypes := #[]
  resolved := Array.replicate 8 none
  statics := none }

def pool5 : Array CpInfo := pool [(1, u "java/io/Serializable"), (0, .class_ 1), (0, u "java/lang/Object"), (0, .class_ 3)] 3

/-- java/io/Serializable -/
def k5 : Class := { plain "java/io/Serializable" (some 0) with
  accessFlags := 1537
  interfaces := #[]
  cf := some (fileOf pool5 2 #[] #[] 1537 4 #[] #[])
  fields := #[]
  methods := #[]
  instanceTypes := #[]
  staticTypes := #[]
  resolved := Array.replicate 8 none
  statics := none }

/-- the primitive byte -/
def k6 : Class := { plain "byte" none with kind := .primitive 'B', accessFlags := 0x411 }
/-- [B -/
def k7 : Class := { plain "[B" (some 0) with kind := .array 6 .byte, interfaces := #[4, 5], accessFlags := 1041 }

/-- the primitive int -/
def k8 : Class := { plain "int" none with kind := .primitive 'I', accessFlags := 0x411 }
/-- [I -/
def k9 : Class := { plain "[I" (some 0) with kind := .array 8 .int, interfaces := #[4, 5], accessFlags := 1041 }

def heap : Heap := #[]
def classes : Array Class := #[k0, k1, k2, k3, k4, k5, k6, k7, k8, k9]
def interned : List (Array UInt16 × Addr) := []
def slotsUsed : Nat := 0
def theMethod : MethodId := ⟨1, 1⟩
def args0 : Array Value := #[.int 3, .int 4, .int 5, .int 6]
def aboutOver (below : List Frame) : State where
  vm := { classes := classes, interned := interned.toArray }
  heap := heap
  slotsUsed := slotsUsed
  threads := #[{ frames := .invoking theMethod args0 :: below }]
def below0 : List Frame := [.native { method := ⟨0, 0⟩, args := #[] }]
def about1 : State := aboutOver below0
def p0 : Program := .bare "" "" ""
def e0 : Env := launch0.env 0 0 0
theorem w_frames : about1.frames = Frame.invoking theMethod args0 :: below0 := rfl
set_option maxRecDepth 65536 in
theorem w_args : argsFit about1.vm theMethod args0 = true := by decide +kernel
set_option maxRecDepth 65536 in
theorem w_heap : heapFits about1 = true := by decide +kernel
set_option maxRecDepth 65536 in
theorem w_runnable : about1.curStatus? = some .runnable := by decide +kernel
set_option maxRecDepth 65536 in
theorem w_alone : about1.alone = true := by decide +kernel
set_option maxRecDepth 65536 in
theorem w_named : about1.methodNamed? x = some theMethod := by decide +kernel
set_option maxRecDepth 65536 in
theorem w_hears : about1.hears theMethod below0 = true := by decide +kernel
set_option maxRecDepth 65536 in
theorem w_ripe : about1.ripe theMethod args0 below0 = true := by decide +kernel
theorem w_running : about1.status = .running := rfl
set_option maxRecDepth 65536 in
theorem w_room : about1.hasRoom e0.platform room_1 = true :=
  launch0.hasRoom_least _ room_1 (by decide +kernel) (by decide +kernel) (by decide +kernel) (by decide +kernel) (by decide +kernel) (by decide +kernel)
theorem allAtoms_all (ts : List Jvm.Cond) (a : Array Jvm.Value) (st : Jvm.State) : (allAtoms ts).before a st = ts.all (fun c => c.before a st) := by
  induction ts with
  | nil => rfl
  | cons c t ih =>
    show (Jvm.Cond.and c (allAtoms t)).before a st = _
    rw [Jvm.Cond.before_and, ih, List.all_cons]
def words1 : List Jvm.Cond := Jvm.Cond.code x code maxLocals ret :: tables_1
/-- a 'code' word, met by the world's own term for the bytes: nothing is compared byte by byte -/
theorem code_word {y : MethodName} {bytes : ByteArray} {mx : Nat} {rt : Option FieldType} {a : Array Value} {s : State} {m : MethodId} {meth : Method} {c : Code} (h1 : s.methodNamed? y = some m) (h2 : s.vm.method? m = some meth) (h3 : meth.code = some c) (h4 : c.code = bytes)
    (h5 : (c.maxLocals == mx && c.exceptionTable.isEmpty && decide (c.maxStack ≤ mostOperands) && decide (meth.sig.returnType = rt) && !meth.locks && decide (parseMethodDescriptor y.desc = some meth.sig)) = true) : (Jvm.Cond.code y bytes mx rt).before a s = true := by
  simp only [Bool.and_eq_true, beq_iff_eq, Bool.not_eq_true', decide_eq_true_eq] at h5
  obtain ⟨⟨⟨⟨⟨g1, g2⟩, g3⟩, g4⟩, g5⟩, g6⟩ := h5
  simp [Cond.before, Cond.holds, Cond.value, h1, h2, h3, h4, g1, g2, g3, g4, g5, g6]
def isCode : Jvm.Cond → Bool
  | .code _ _ _ _ => true
  | _ => false
theorem all_split {L : List Jvm.Cond} {P : Jvm.Cond → Bool} (h1 : L.all (fun c => isCode c || P c) = true) (h2 : ∀ c ∈ L.filter isCode, P c = true) : L.all P = true := by
  refine List.all_eq_true.mpr fun c hc => ?_
  have h := List.all_eq_true.mp h1 c hc
  rcases Bool.eq_false_or_eq_true (isCode c) with hi | hi
  · exact h2 c (List.mem_filter.mpr ⟨hc, hi⟩)
  · simpa [hi] using h
set_option maxRecDepth 65536 in
theorem w_c0 : (Jvm.Cond.code x code maxLocals ret).before args0 about1 = true := code_word (m := ⟨1, 1⟩) (meth := k1m1) (c := k1c1) (by decide +kernel) rfl rfl rfl (by decide +kernel)
set_option maxRecDepth 65536 in
theorem w_c1 : (Jvm.Cond.code ({ cls := "com/example/libacross/libacross/translation/Translation", name := "reaches", desc := "(DD)Z" } : Jvm.MethodName) prog_45_method_5_code (4 : Nat) (Option.some Jvm.ClassFile.FieldType.boolean)).before args0 about1 = true := code_word (m := ⟨3, 0⟩) (meth := k3m0) (c := k3c0) (by decide +kernel) rfl rfl rfl (by decide +kernel)
def codes1 : List Jvm.Cond := [Jvm.Cond.code x code maxLocals ret, Jvm.Cond.code ({ cls := "com/example/libacross/libacross/translation/Translation", name := "reaches", desc := "(DD)Z" } : Jvm.MethodName) prog_45_method_5_code (4 : Nat) (Option.some Jvm.ClassFile.FieldType.boolean)]
set_option maxRecDepth 65536 in
theorem codes_eq : words1.filter isCode = codes1 := rfl
theorem w_codes : ∀ c ∈ words1.filter isCode, c.before args0 about1 = true := by
  rw [codes_eq]
  intro c hc
  simp only [codes1, List.mem_cons, List.not_mem_nil, or_false] at hc
  rcases hc with rfl | rfl
  · exact w_c0
  · exact w_c1
set_option maxRecDepth 65536 in
theorem w_t1 : words1.all (fun c => isCode c || c.before args0 about1) = true := by decide +kernel
theorem w_tables : (allAtoms (Jvm.Cond.code x code maxLocals ret :: tables_1)).before args0 about1 = true := by
  rw [allAtoms_all]
  show words1.all (fun c => c.before args0 about1) = true
  refine all_split ?_ w_codes
  rw [w_t1]
set_option maxRecDepth 65536 in
theorem w_case : (Jvm.Cond.and given_1 narrow_1).before args0 about1 = true := by decide +kernel
theorem w_applies : (headSpec (Jvm.Cond.code x code maxLocals ret :: tables_1) room_1).applies x e0.platform about1 = true :=
  (Spec.applies_iff w_frames).mpr ⟨w_running, w_runnable, w_alone, w_named, w_hears, w_ripe, w_room, w_tables⟩
theorem atStart : AtStart classFile x code maxLocals ret World_1 tables_1 room_1 Calls_1 rest_1 Pre_1 launch0 p0 e0 about1 theMethod args0 below0 :=
  ⟨lists_1, trivial, launch0.admits_env _ _ _, launch0.least_env, fairChoices_fair.cas, fairChoices_fair.clock, w_frames, w_args, w_heap, w_applies, trivial, trivial, w_case⟩
end start1
theorem witness_1 : WitnessClaimed_1 := ⟨start1.p0, start1.e0, start1.about1, start1.theMethod, start1.args0, start1.below0, start1.atStart⟩
end Jvm.Pilot.@@N@@
