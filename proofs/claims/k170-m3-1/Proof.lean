import JvmDerived
import JvmDerived.Pilot.@@N@@Statement
import JvmDerived.Pilot.@@N@@Code
set_option linter.unusedVariables false
set_option linter.unusedSimpArgs false
namespace Jvm.Pilot.@@N@@
open Jvm Jvm.ClassFile Sem Op Lib Jvm.Free Jvm.Stand Jvm.LawKit Jvm.RoadKit Bundle Jvm.Pilot.@@N@@.Jvm.D
def own_Go (p : Program) (e : Env) (below : List Frame) (P : Outcome → State → Prop) (st : State) : Prop :=
  ∃ s₂ o, Steps p.tables e below st s₂ ∧ s₂.status = .running ∧ Ended s₂ below o ∧ P o s₂
def own_Fin (s : State) (C S : Nat) (Q : Option Value → Heap → List Loc → Prop) (o : Outcome) (U : State) : Prop := ∃ v L, o = .returned v ∧ Q v U.heap L ∧ FrameEnd s o U L C S
def own_upd {α : Type} (f : Nat → α) (j : Nat) (v : α) : Nat → α := fun i => if i = j then v else f i
def own_Arf (Z : State) (h : Heap) (a : Addr) (k : ClassId) (ty : FieldType) (n : Int32) (f : Nat → Value) : Prop := ∃ c : Cell, Arr Z h a c ty ∧ c.cls = k ∧ c.slots.size = n.toNatClampNeg ∧ ¬ n < 0 ∧ (∀ i, i < c.slots.size → c.slots[i]? = some (f i)) ∧ ∀ i, i < c.slots.size → fits ty (f i) = true
section OwnKit
variable {p : Program} {l : Launch} {e : Env} {R : Room} {s : State} {m : MethodId} {args : Array Value} {below : List Frame} {meth : Method} {c : Code} {T : State} {locs : List Loc} {cells slots C S : Nat} {P : Outcome → State → Prop} {Q : Option Value → Heap → List Loc → Prop} {Z : State} {h h' : Heap} {a b : Addr} {k : ClassId} {ty : FieldType} {n : Int32} {ws : List Addr}
theorem own_by {st st' : State} (f : ∀ t, Steps p.tables e below st' t → Steps p.tables e below st t) (g : own_Go p e below P st') : own_Go p e below P st := by
  obtain ⟨s₂, o, h1, h2⟩ := g
  exact ⟨s₂, o, f _ h1, h2⟩
theorem own_mono (X : Stand p l e R s m args below meth c T locs cells slots) {c' s' : Nat} (hc : cells ≤ c') (hs : slots ≤ s') : Stand p l e R s m args below meth c T locs c' s' := { X with same := X.same.mono hc hs }
theorem own_end (X : Stand p l e R s m args below meth c T locs cells slots) {v : Option Value} (hv : meth.sig.returnType = none → v = none) (hlk : meth.locks = false) (eT : T.heap = h) (hQ : Q v h locs) (hc : cells ≤ C) (hs : slots ≤ S)
    {g : JFrame} (st : ∀ fs, (∀ (f : JFrame) (acts : List Action), f.method = m → f.locked = none → f.entered = [] → (doReturn e (T.setTop f) acts v).1 = T.setFrames fs) → Steps p.tables e below (T.setTop g) (T.setFrames fs)) : own_Go p e below (own_Fin s C S Q) (T.setTop g) := by
  obtain ⟨fs, hr, hrun, hended, hW, hsame⟩ := X.leave (v := v) hv hlk
  refine ⟨_, _, st fs hr, hrun, hended, v, locs, rfl, ?_, ⟨_, rfl⟩, hW, hsame.mono hc hs⟩
  show Q v T.heap locs
  rw [eT]; exact hQ
theorem own_retN (X : Stand p l e R s m args below meth c T locs cells slots) (hx : p.tables.exec = Jvm.exec) {pc : Nat} {Ls : Array Slot} {z : Int32} {t : FieldType} {rest : List Value} (hret : meth.sig.returnType = some t) (ht : t = .boolean ∨ t = .byte ∨ t = .char ∨ t = .short) (hd : decode c.code pc = .ok (.ireturn, 1)) (hlk : meth.locks = false) (eT : T.heap = h) (hQ : Q (some (.int (nar t z))) h locs) (hc : cells ≤ C) (hs : slots ≤ S) : own_Go p e below (own_Fin s C S Q) (T.setTop (mkF m pc Ls (.int z :: rest))) :=
  own_end X (fun h => by rw [hret] at h; cases h) hlk eT hQ hc hs fun fs hr => retN X hx hret ht hd hr
theorem own_retI (X : Stand p l e R s m args below meth c T locs cells slots) (hx : p.tables.exec = Jvm.exec) {pc : Nat} {Ls : Array Slot} {z : Int32} {rest : List Value} (hret : meth.sig.returnType = some .int) (hd : decode c.code pc = .ok (.ireturn, 1)) (hlk : meth.locks = false) (eT : T.heap = h) (hQ : Q (some (.int z)) h locs) (hc : cells ≤ C) (hs : slots ≤ S) : own_Go p e below (own_Fin s C S Q) (T.setTop (mkF m pc Ls (.int z :: rest))) :=
  own_end X (fun h => by rw [hret] at h; cases h) hlk eT hQ hc hs fun fs hr => retOut X hx hret rfl (Or.inl ⟨rfl, Or.inl rfl, _, rfl⟩) hd hr
theorem own_retJ (X : Stand p l e R s m args below meth c T locs cells slots) (hx : p.tables.exec = Jvm.exec) {pc : Nat} {Ls : Array Slot} {z : Int64} {rest : List Value} (hret : meth.sig.returnType = some .long) (hd : decode c.code pc = .ok (.lreturn, 1)) (hlk : meth.locks = false) (eT : T.heap = h) (hQ : Q (some (.long z)) h locs) (hc : cells ≤ C) (hs : slots ≤ S) : own_Go p e below (own_Fin s C S Q) (T.setTop (mkF m pc Ls (.long z :: rest))) :=
  own_end X (fun h => by rw [hret] at h; cases h) hlk eT hQ hc hs fun fs hr => retOut X hx hret rfl (Or.inr (Or.inl ⟨rfl, rfl, _, rfl⟩)) hd hr
theorem own_retD (X : Stand p l e R s m args below meth c T locs cells slots) (hx : p.tables.exec = Jvm.exec) {pc : Nat} {Ls : Array Slot} {z : UInt64} {rest : List Value} (hret : meth.sig.returnType = some .double) (hd : decode c.code pc = .ok (.dreturn, 1)) (hlk : meth.locks = false) (eT : T.heap = h) (hQ : Q (some (.double z)) h locs) (hc : cells ≤ C) (hs : slots ≤ S) : own_Go p e below (own_Fin s C S Q) (T.setTop (mkF m pc Ls (.double z :: rest))) :=
  own_end X (fun h => by rw [hret] at h; cases h) hlk eT hQ hc hs fun fs hr => retOut X hx hret rfl (Or.inr (Or.inr (Or.inl ⟨rfl, rfl, _, rfl⟩))) hd hr
theorem own_retR (X : Stand p l e R s m args below meth c T locs cells slots) (hx : p.tables.exec = Jvm.exec) {pc : Nat} {Ls : Array Slot} {w : Value} {t : FieldType} {rest : List Value} (hret : meth.sig.returnType = some t) (ht : t.isReference = true) (hw : w.isRef = true) (hd : decode c.code pc = .ok (.areturn, 1)) (hlk : meth.locks = false) (eT : T.heap = h) (hQ : Q (some w) h locs) (hc : cells ≤ C) (hs : slots ≤ S) : own_Go p e below (own_Fin s C S Q) (T.setTop (mkF m pc Ls (w :: rest))) :=
  own_end X (fun h => by rw [hret] at h; cases h) hlk eT hQ hc hs fun fs hr => retOut X hx hret (by cases t <;> first | rfl | (cases w <;> first | rfl | cases hw) | (cases ht)) (Or.inr (Or.inr (Or.inr (Or.inr ⟨rfl, ht, hw⟩)))) hd hr
theorem own_ret0 (X : Stand p l e R s m args below meth c T locs cells slots) (hx : p.tables.exec = Jvm.exec) {pc : Nat} {Ls : Array Slot} (hret : meth.sig.returnType = none) (hd : decode c.code pc = .ok (.return_, 1)) (hlk : meth.locks = false) (eT : T.heap = h) (hQ : Q none h locs) (hc : cells ≤ C) (hs : slots ≤ S) : own_Go p e below (own_Fin s C S Q) (T.setTop (mkF m pc Ls [])) :=
  own_end X (fun _ => rfl) hlk eT hQ hc hs fun fs hr => X.returnOut hx hret hd hr
theorem own_one {z : Int32} (q : z = 1) : (some (.int (nar .boolean z)) : Option Value) = some (.int 1) := by subst q; rfl
theorem own_lrem {g : JFrame} {target : State} (hh : At T m c below) (hx : p.tables.exec = Jvm.exec) (hg : g.method = m) {x y : Int64} {rest : List Value} (hd : decode c.code g.pc = .ok (.lrem, 1)) (hs : g.stack = .long y :: .long x :: rest) (hy : y ≠ 0)
    (hr : Steps p.tables e below (T.setTop { g with pc := g.pc + 1, stack := .long (x % y) :: rest }) target) : Steps p.tables e below (T.setTop g) target :=
  XS.lrem hh hx hg hd hs hy (by rw [lrem_mod]; exact hr)
theorem own_Arf.lt {f : Nat → Value} (F : own_Arf Z h a k ty n f) : a < h.size := by obtain ⟨c, A, -⟩ := F; exact A.lt
theorem own_Arf.ext {f : Nat → Value} (F : own_Arf Z h a k ty n f) (E : Ext h h') : own_Arf Z h' a k ty n f := by obtain ⟨c, A, r⟩ := F; exact ⟨c, A.ext E, r⟩
theorem own_Arf.other {f : Nat → Value} {sl : Nat} {v : Value} (F : own_Arf Z h b k ty n f) (W : Wr h h' a sl v) (q : b ≠ a) : own_Arf Z h' b k ty n f := by obtain ⟨c, A, r⟩ := F; exact ⟨c, A.other W q, r⟩
theorem own_Arf.keep {f : Nat → Value} (F : own_Arf Z h a k ty n f) (K : Keep h h' ws) (q : a ∉ ws) : own_Arf Z h' a k ty n f := by obtain ⟨c, A, r⟩ := F; exact ⟨c, ⟨K.2.1 a c A.1 q, A.2⟩, r⟩
theorem own_arfNew (A : Arr Z h a (newA k ty n) ty) (q : ¬ n < 0) : own_Arf Z h a k ty n (fun _ => defaultValue ty) := ⟨_, A, rfl, sz_new _ _ _, q, fun i hi => by
  rw [sz_new] at hi; simp [newA, hi], fun i _ => by cases ty <;> rfl⟩
theorem own_arfSet {cl : Cell} {f : Nat → Value} {j : Nat} {v : Value} (A : Arr Z h a cl ty) (q1 : cl.cls = k) (S : cl.slots.size = n.toNatClampNeg) (q3 : ¬ n < 0) (H : ∀ i, i < cl.slots.size → cl.slots[i]? = some (f i)) (G : ∀ i, i < cl.slots.size → fits ty (f i) = true) (hv : fits ty v = true) (W : Wr h h' a j v) : own_Arf Z h' a k ty n (own_upd f j v) := by
  refine ⟨_, A.same W, q1, by rw [sz_set]; exact S, q3, fun i hi => ?_, fun i hi => ?_⟩
  · rw [sz_set] at hi
    by_cases u : j = i
    · subst u; simp [Cell.setSlot, hi, own_upd]
    · have := H i hi; simp only [Cell.setSlot] at this ⊢
      rw [Array.getElem?_setIfInBounds_ne u, this]; simp [own_upd, Ne.symm u]
  · rw [sz_set] at hi
    by_cases u : j = i
    · subst u; simpa [own_upd] using hv
    · have := G i hi; simpa [own_upd, Ne.symm u] using this
theorem own_arfSetI {cl : Cell} {f : Nat → Int32} {j : Nat} {v : Int32} (A : Arr Z h a cl ty) (q1 : cl.cls = k) (S : cl.slots.size = n.toNatClampNeg) (q3 : ¬ n < 0) (H : ∀ i, i < cl.slots.size → cl.slots[i]? = some (.int (f i))) (G : ∀ i, i < cl.slots.size → fits ty (.int (f i)) = true) (hv : fits ty (.int v) = true) (W : Wr h h' a j (.int v)) : own_Arf Z h' a k ty n (fun i => .int (own_upd f j v i)) := by
  have q := own_arfSet (f := fun i => .int (f i)) A q1 S q3 H G hv W
  have e : (own_upd (fun i => Value.int (f i)) j (.int v)) = (fun i => .int (own_upd f j v i)) := by funext i; simp only [own_upd]; split <;> rfl
  rw [← e]; exact q
theorem own_arfSetJ {cl : Cell} {f : Nat → Int64} {j : Nat} {v : Int64} (A : Arr Z h a cl ty) (q1 : cl.cls = k) (S : cl.slots.size = n.toNatClampNeg) (q3 : ¬ n < 0) (H : ∀ i, i < cl.slots.size → cl.slots[i]? = some (.long (f i))) (G : ∀ i, i < cl.slots.size → fits ty (.long (f i)) = true) (hv : fits ty (.long v) = true) (W : Wr h h' a j (.long v)) : own_Arf Z h' a k ty n (fun i => .long (own_upd f j v i)) := by
  have q := own_arfSet (f := fun i => .long (f i)) A q1 S q3 H G hv W
  have e : (own_upd (fun i => Value.long (f i)) j (.long v)) = (fun i => .long (own_upd f j v i)) := by funext i; simp only [own_upd]; split <;> rfl
  rw [← e]; exact q
theorem own_arfSetD {cl : Cell} {f : Nat → UInt64} {j : Nat} {v : UInt64} (A : Arr Z h a cl ty) (q1 : cl.cls = k) (S : cl.slots.size = n.toNatClampNeg) (q3 : ¬ n < 0) (H : ∀ i, i < cl.slots.size → cl.slots[i]? = some (.double (f i))) (G : ∀ i, i < cl.slots.size → fits ty (.double (f i)) = true) (hv : fits ty (.double v) = true) (W : Wr h h' a j (.double v)) : own_Arf Z h' a k ty n (fun i => .double (own_upd f j v i)) := by
  have q := own_arfSet (f := fun i => .double (f i)) A q1 S q3 H G hv W
  have e : (own_upd (fun i => Value.double (f i)) j (.double v)) = (fun i => .double (own_upd f j v i)) := by funext i; simp only [own_upd]; split <;> rfl
  rw [← e]; exact q
theorem own_neArr {A0 : Array Value} {C : String} {kk : Nat} {f : Nat → Value} (F : Exa Z h a C) (wi : (Cond.instantiable C kk).before A0 Z = true) (G : own_Arf Z h b k ty n f) : a ≠ b := by
  obtain ⟨c, A, -⟩ := G
  exact ne_arr F wi A
end OwnKit

theorem own_landNN (x : Int64) : ¬ ((x &&& (9223372036854775807 : Int64)) < (0 : Int64)) := by
  have h := (c_andSL x 9223372036854775807).2.2 (by decide)
  rw [Int64.lt_iff_toInt_lt]
  have e : (0 : Int64).toInt = 0 := rfl
  omega
theorem own_rem (x : Int32) (d : Int) (y : Int32) (hy : y.toInt = d) (h0 : 0 < d) : 0 ≤ ((x &&& 2147483647) % y).toInt ∧ ((x &&& 2147483647) % y).toInt < d := by
  have h1 := c_and x 2147483647 (by decide)
  have h2 := (c_irem (x &&& 2147483647) y d hy).1 h1.1
  rw [h2]; exact ⟨Int.emod_nonneg _ (by omega), Int.emod_lt_of_pos _ h0⟩
theorem own_fldEq {args : Array Value} {s : State} {t : Term} {a : Addr} {C n d : String} {k : Int32} (h : (Jvm.Cond.eq (Term.field t C n d) (Term.int k)).value args s none s [] = some true) (ev : t.eval args s none [] s = some (.ref a)) : Fld s s.heap a C n d (.int k) := by
  refine Fld.start ?_
  have e1 := fld_at (C := C) (n := n) (dd := d) ev
  have e2 : (Term.int k).eval args s none [] s = some (.int k) := rfl
  simp only [Cond.value, e1, e2] at h
  cases hf : s.fieldOf? a C n d with
  | none => rw [hf] at h; simp at h
  | some v =>
    rw [hf] at h
    cases v <;> simp_all
theorem own_s16 (x : Int32) (h1 : -32768 ≤ x.toInt) (h2 : x.toInt < 32768) : x.toInt16.toInt32 = x := by
  have h := c_i2s x
  apply Int32.toInt_inj.mp
  omega
theorem own_keys (v a b : Int32) (h : ((v = (0 : Int32)) ∧ a = (9 : Int32)) ∨ ((¬ (v = (0 : Int32))) ∧ (v = (1 : Int32)) ∧ a = (12 : Int32)) ∨ ((¬ (v = (0 : Int32))) ∧ (¬ (v = (1 : Int32))) ∧ (v = (2 : Int32)) ∧ a = (6 : Int32)) ∨ ((¬ (v = (0 : Int32))) ∧ (¬ (v = (1 : Int32))) ∧ (¬ (v = (2 : Int32))) ∧ (v = (3 : Int32)) ∧ a = (9 : Int32)) ∨ ((¬ (v = (0 : Int32))) ∧ (¬ (v = (1 : Int32))) ∧ (¬ (v = (2 : Int32))) ∧ (¬ (v = (3 : Int32))) ∧ (v = (4 : Int32)) ∧ a = (8 : Int32)) ∨ ((¬ (v = (0 : Int32))) ∧ (¬ (v = (1 : Int32))) ∧ (¬ (v = (2 : Int32))) ∧ (¬ (v = (3 : Int32))) ∧ (¬ (v = (4 : Int32))) ∧ (v = (5 : Int32)) ∧ a = (6 : Int32)) ∨ ((¬ (v = (0 : Int32))) ∧ (¬ (v = (1 : Int32))) ∧ (¬ (v = (2 : Int32))) ∧ (¬ (v = (3 : Int32))) ∧ (¬ (v = (4 : Int32))) ∧ (¬ (v = (5 : Int32))) ∧ (v = (6 : Int32)) ∧ a = (3 : Int32)) ∨ ((¬ (v = (0 : Int32))) ∧ (¬ (v = (1 : Int32))) ∧ (¬ (v = (2 : Int32))) ∧ (¬ (v = (3 : Int32))) ∧ (¬ (v = (4 : Int32))) ∧ (¬ (v = (5 : Int32))) ∧ (¬ (v = (6 : Int32))) ∧ (v = (7 : Int32)) ∧ a = (6 : Int32)) ∨ ((¬ (v = (0 : Int32))) ∧ (¬ (v = (1 : Int32))) ∧ (¬ (v = (2 : Int32))) ∧ (¬ (v = (3 : Int32))) ∧ (¬ (v = (4 : Int32))) ∧ (¬ (v = (5 : Int32))) ∧ (¬ (v = (6 : Int32))) ∧ (¬ (v = (7 : Int32))) ∧ (v = (8 : Int32)) ∧ a = (4 : Int32)) ∨ ((¬ (v = (0 : Int32))) ∧ (¬ (v = (1 : Int32))) ∧ (¬ (v = (2 : Int32))) ∧ (¬ (v = (3 : Int32))) ∧ (¬ (v = (4 : Int32))) ∧ (¬ (v = (5 : Int32))) ∧ (¬ (v = (6 : Int32))) ∧ (¬ (v = (7 : Int32))) ∧ (¬ (v = (8 : Int32))) ∧ (v = (9 : Int32)) ∧ a = (4 : Int32)) ∨ ((¬ (v = (0 : Int32))) ∧ (¬ (v = (1 : Int32))) ∧ (¬ (v = (2 : Int32))) ∧ (¬ (v = (3 : Int32))) ∧ (¬ (v = (4 : Int32))) ∧ (¬ (v = (5 : Int32))) ∧ (¬ (v = (6 : Int32))) ∧ (¬ (v = (7 : Int32))) ∧ (¬ (v = (8 : Int32))) ∧ (¬ (v = (9 : Int32))) ∧ (v = (10 : Int32)) ∧ a = (4 : Int32)) ∨ ((¬ (v = (0 : Int32))) ∧ (¬ (v = (1 : Int32))) ∧ (¬ (v = (2 : Int32))) ∧ (¬ (v = (3 : Int32))) ∧ (¬ (v = (4 : Int32))) ∧ (¬ (v = (5 : Int32))) ∧ (¬ (v = (6 : Int32))) ∧ (¬ (v = (7 : Int32))) ∧ (¬ (v = (8 : Int32))) ∧ (¬ (v = (9 : Int32))) ∧ (¬ (v = (10 : Int32))) ∧ a = (3 : Int32))) (h' : ((v = (0 : Int32)) ∧ b = (9 : Int32)) ∨ ((¬ (v = (0 : Int32))) ∧ (v = (1 : Int32)) ∧ b = (12 : Int32)) ∨ ((¬ (v = (0 : Int32))) ∧ (¬ (v = (1 : Int32))) ∧ (v = (2 : Int32)) ∧ b = (6 : Int32)) ∨ ((¬ (v = (0 : Int32))) ∧ (¬ (v = (1 : Int32))) ∧ (¬ (v = (2 : Int32))) ∧ (v = (3 : Int32)) ∧ b = (9 : Int32)) ∨ ((¬ (v = (0 : Int32))) ∧ (¬ (v = (1 : Int32))) ∧ (¬ (v = (2 : Int32))) ∧ (¬ (v = (3 : Int32))) ∧ (v = (4 : Int32)) ∧ b = (8 : Int32)) ∨ ((¬ (v = (0 : Int32))) ∧ (¬ (v = (1 : Int32))) ∧ (¬ (v = (2 : Int32))) ∧ (¬ (v = (3 : Int32))) ∧ (¬ (v = (4 : Int32))) ∧ (v = (5 : Int32)) ∧ b = (6 : Int32)) ∨ ((¬ (v = (0 : Int32))) ∧ (¬ (v = (1 : Int32))) ∧ (¬ (v = (2 : Int32))) ∧ (¬ (v = (3 : Int32))) ∧ (¬ (v = (4 : Int32))) ∧ (¬ (v = (5 : Int32))) ∧ (v = (6 : Int32)) ∧ b = (3 : Int32)) ∨ ((¬ (v = (0 : Int32))) ∧ (¬ (v = (1 : Int32))) ∧ (¬ (v = (2 : Int32))) ∧ (¬ (v = (3 : Int32))) ∧ (¬ (v = (4 : Int32))) ∧ (¬ (v = (5 : Int32))) ∧ (¬ (v = (6 : Int32))) ∧ (v = (7 : Int32)) ∧ b = (6 : Int32)) ∨ ((¬ (v = (0 : Int32))) ∧ (¬ (v = (1 : Int32))) ∧ (¬ (v = (2 : Int32))) ∧ (¬ (v = (3 : Int32))) ∧ (¬ (v = (4 : Int32))) ∧ (¬ (v = (5 : Int32))) ∧ (¬ (v = (6 : Int32))) ∧ (¬ (v = (7 : Int32))) ∧ (v = (8 : Int32)) ∧ b = (4 : Int32)) ∨ ((¬ (v = (0 : Int32))) ∧ (¬ (v = (1 : Int32))) ∧ (¬ (v = (2 : Int32))) ∧ (¬ (v = (3 : Int32))) ∧ (¬ (v = (4 : Int32))) ∧ (¬ (v = (5 : Int32))) ∧ (¬ (v = (6 : Int32))) ∧ (¬ (v = (7 : Int32))) ∧ (¬ (v = (8 : Int32))) ∧ (v = (9 : Int32)) ∧ b = (4 : Int32)) ∨ ((¬ (v = (0 : Int32))) ∧ (¬ (v = (1 : Int32))) ∧ (¬ (v = (2 : Int32))) ∧ (¬ (v = (3 : Int32))) ∧ (¬ (v = (4 : Int32))) ∧ (¬ (v = (5 : Int32))) ∧ (¬ (v = (6 : Int32))) ∧ (¬ (v = (7 : Int32))) ∧ (¬ (v = (8 : Int32))) ∧ (¬ (v = (9 : Int32))) ∧ (v = (10 : Int32)) ∧ b = (4 : Int32)) ∨ ((¬ (v = (0 : Int32))) ∧ (¬ (v = (1 : Int32))) ∧ (¬ (v = (2 : Int32))) ∧ (¬ (v = (3 : Int32))) ∧ (¬ (v = (4 : Int32))) ∧ (¬ (v = (5 : Int32))) ∧ (¬ (v = (6 : Int32))) ∧ (¬ (v = (7 : Int32))) ∧ (¬ (v = (8 : Int32))) ∧ (¬ (v = (9 : Int32))) ∧ (¬ (v = (10 : Int32))) ∧ b = (3 : Int32))) : b = a ∧ (a = 9 ∨ a = 12 ∨ a = 6 ∨ a = 8 ∨ a = 3 ∨ a = 4) := by
  rcases h with h | h | h | h | h | h | h | h | h | h | h | h <;> grind
theorem own_keys16 (a : Int32) (h : a = 9 ∨ a = 12 ∨ a = 6 ∨ a = 8 ∨ a = 3 ∨ a = 4) : a.toInt16.toInt32 = a ∧ (a - 1).toInt16.toInt32 = a - 1 ∧ a - 1 < a := by
  rcases h with rfl | rfl | rfl | rfl | rfl | rfl <;> decide
theorem d1_0 : decode method_2_code 0 = .ok (.iload_n 0, 1) := by decide +kernel
theorem d1_1 : decode method_2_code 1 = .ok (.ifCond .ne 7, 3) := by decide +kernel
theorem d1_4 : decode method_2_code 4 = .ok (.getstatic 7, 3) := by decide +kernel
theorem d1_7 : decode method_2_code 7 = .ok (.areturn, 1) := by decide +kernel
theorem d1_8 : decode method_2_code 8 = .ok (.iload_n 0, 1) := by decide +kernel
theorem d1_9 : decode method_2_code 9 = .ok (.iconst 1, 1) := by decide +kernel
theorem d1_10 : decode method_2_code 10 = .ok (.if_icmp .ne 7, 3) := by decide +kernel
theorem d1_13 : decode method_2_code 13 = .ok (.getstatic 13, 3) := by decide +kernel
theorem d1_16 : decode method_2_code 16 = .ok (.areturn, 1) := by decide +kernel
theorem d1_17 : decode method_2_code 17 = .ok (.iload_n 0, 1) := by decide +kernel
theorem d1_18 : decode method_2_code 18 = .ok (.iconst 2, 1) := by decide +kernel
theorem d1_19 : decode method_2_code 19 = .ok (.if_icmp .ne 7, 3) := by decide +kernel
theorem d1_22 : decode method_2_code 22 = .ok (.getstatic 16, 3) := by decide +kernel
theorem d1_25 : decode method_2_code 25 = .ok (.areturn, 1) := by decide +kernel
theorem d1_26 : decode method_2_code 26 = .ok (.iload_n 0, 1) := by decide +kernel
theorem d1_27 : decode method_2_code 27 = .ok (.iconst 3, 1) := by decide +kernel
theorem d1_28 : decode method_2_code 28 = .ok (.if_icmp .ne 7, 3) := by decide +kernel
theorem d1_31 : decode method_2_code 31 = .ok (.getstatic 19, 3) := by decide +kernel
theorem d1_34 : decode method_2_code 34 = .ok (.areturn, 1) := by decide +kernel
theorem d1_35 : decode method_2_code 35 = .ok (.iload_n 0, 1) := by decide +kernel
theorem d1_36 : decode method_2_code 36 = .ok (.iconst 4, 1) := by decide +kernel
theorem d1_37 : decode method_2_code 37 = .ok (.if_icmp .ne 7, 3) := by decide +kernel
theorem d1_40 : decode method_2_code 40 = .ok (.getstatic 22, 3) := by decide +kernel
theorem d1_43 : decode method_2_code 43 = .ok (.areturn, 1) := by decide +kernel
theorem d1_44 : decode method_2_code 44 = .ok (.iload_n 0, 1) := by decide +kernel
theorem d1_45 : decode method_2_code 45 = .ok (.iconst 5, 1) := by decide +kernel
theorem d1_46 : decode method_2_code 46 = .ok (.if_icmp .ne 7, 3) := by decide +kernel
theorem d1_49 : decode method_2_code 49 = .ok (.getstatic 25, 3) := by decide +kernel
theorem d1_52 : decode method_2_code 52 = .ok (.areturn, 1) := by decide +kernel
theorem d1_53 : decode method_2_code 53 = .ok (.iload_n 0, 1) := by decide +kernel
theorem d1_54 : decode method_2_code 54 = .ok (.bipush 6, 2) := by decide +kernel
theorem d1_56 : decode method_2_code 56 = .ok (.if_icmp .ne 7, 3) := by decide +kernel
theorem d1_59 : decode method_2_code 59 = .ok (.getstatic 28, 3) := by decide +kernel
theorem d1_62 : decode method_2_code 62 = .ok (.areturn, 1) := by decide +kernel
theorem d1_63 : decode method_2_code 63 = .ok (.iload_n 0, 1) := by decide +kernel
theorem d1_64 : decode method_2_code 64 = .ok (.bipush 7, 2) := by decide +kernel
theorem d1_66 : decode method_2_code 66 = .ok (.if_icmp .ne 7, 3) := by decide +kernel
theorem d1_69 : decode method_2_code 69 = .ok (.getstatic 31, 3) := by decide +kernel
theorem d1_72 : decode method_2_code 72 = .ok (.areturn, 1) := by decide +kernel
theorem d1_73 : decode method_2_code 73 = .ok (.iload_n 0, 1) := by decide +kernel
theorem d1_74 : decode method_2_code 74 = .ok (.bipush 8, 2) := by decide +kernel
theorem d1_76 : decode method_2_code 76 = .ok (.if_icmp .ne 7, 3) := by decide +kernel
theorem d1_79 : decode method_2_code 79 = .ok (.getstatic 34, 3) := by decide +kernel
theorem d1_82 : decode method_2_code 82 = .ok (.areturn, 1) := by decide +kernel
theorem d1_83 : decode method_2_code 83 = .ok (.iload_n 0, 1) := by decide +kernel
theorem d1_84 : decode method_2_code 84 = .ok (.bipush 9, 2) := by decide +kernel
theorem d1_86 : decode method_2_code 86 = .ok (.if_icmp .ne 7, 3) := by decide +kernel
theorem d1_89 : decode method_2_code 89 = .ok (.getstatic 37, 3) := by decide +kernel
theorem d1_92 : decode method_2_code 92 = .ok (.areturn, 1) := by decide +kernel
theorem d1_93 : decode method_2_code 93 = .ok (.iload_n 0, 1) := by decide +kernel
theorem d1_94 : decode method_2_code 94 = .ok (.bipush 10, 2) := by decide +kernel
theorem d1_96 : decode method_2_code 96 = .ok (.if_icmp .ne 7, 3) := by decide +kernel
theorem d1_99 : decode method_2_code 99 = .ok (.getstatic 40, 3) := by decide +kernel
theorem d1_102 : decode method_2_code 102 = .ok (.areturn, 1) := by decide +kernel
theorem d1_103 : decode method_2_code 103 = .ok (.getstatic 43, 3) := by decide +kernel
theorem d1_106 : decode method_2_code 106 = .ok (.areturn, 1) := by decide +kernel
theorem pn_1 : plainName "com/example/keelstream/keelstream/protocol/ApiKeyIsFlexiblePinLaw" = true := by first | (simp [plainName, overriddenIn]; done) | decide +kernel
theorem ef_1 (m : MethodId) (p0 : Int32) : entryFrame m #[(.int p0)] 1 = mkF m 0 #[.val (.int p0)] [] := by first | (simp [entryFrame, mkF, argsToLocals, Value.category]; done) | rfl
def Q1 (Z : State) (f_PRODUCE : Addr) (f_LIST_OFFSETS : Addr) (f_HEARTBEAT : Addr) (f_OFFSET_COMMIT : Addr) (f_FETCH : Addr) (f_FIND_COORDINATOR : Addr) (f_API_VERSIONS : Addr) (f_METADATA : Addr) (f_LEAVE_GROUP : Addr) (f_JOIN_GROUP : Addr) (f_SYNC_GROUP : Addr) (f_OFFSET_FETCH : Addr) (p0 : Int32) (h0 : Heap) (n0 : Nat) (v : Option Value) (h : Heap) (L : List Loc) : Prop := ∃ (rr : Addr) (z5001 : Int32), v = some (.ref rr) ∧ Fr n0 L ∧ h = h0 ∧ Exa Z h rr "com/example/keelstream/keelstream/protocol/ApiKey" ∧ Fld Z h rr "com/example/keelstream/keelstream/protocol/ApiKey" "firstFlexibleVersion" "S" (.int z5001) ∧ (((p0 = (0 : Int32)) ∧ z5001 = (9 : Int32)) ∨ ((¬ (p0 = (0 : Int32))) ∧ (p0 = (1 : Int32)) ∧ z5001 = (12 : Int32)) ∨ ((¬ (p0 = (0 : Int32))) ∧ (¬ (p0 = (1 : Int32))) ∧ (p0 = (2 : Int32)) ∧ z5001 = (6 : Int32)) ∨ ((¬ (p0 = (0 : Int32))) ∧ (¬ (p0 = (1 : Int32))) ∧ (¬ (p0 = (2 : Int32))) ∧ (p0 = (3 : Int32)) ∧ z5001 = (9 : Int32)) ∨ ((¬ (p0 = (0 : Int32))) ∧ (¬ (p0 = (1 : Int32))) ∧ (¬ (p0 = (2 : Int32))) ∧ (¬ (p0 = (3 : Int32))) ∧ (p0 = (4 : Int32)) ∧ z5001 = (8 : Int32)) ∨ ((¬ (p0 = (0 : Int32))) ∧ (¬ (p0 = (1 : Int32))) ∧ (¬ (p0 = (2 : Int32))) ∧ (¬ (p0 = (3 : Int32))) ∧ (¬ (p0 = (4 : Int32))) ∧ (p0 = (5 : Int32)) ∧ z5001 = (6 : Int32)) ∨ ((¬ (p0 = (0 : Int32))) ∧ (¬ (p0 = (1 : Int32))) ∧ (¬ (p0 = (2 : Int32))) ∧ (¬ (p0 = (3 : Int32))) ∧ (¬ (p0 = (4 : Int32))) ∧ (¬ (p0 = (5 : Int32))) ∧ (p0 = (6 : Int32)) ∧ z5001 = (3 : Int32)) ∨ ((¬ (p0 = (0 : Int32))) ∧ (¬ (p0 = (1 : Int32))) ∧ (¬ (p0 = (2 : Int32))) ∧ (¬ (p0 = (3 : Int32))) ∧ (¬ (p0 = (4 : Int32))) ∧ (¬ (p0 = (5 : Int32))) ∧ (¬ (p0 = (6 : Int32))) ∧ (p0 = (7 : Int32)) ∧ z5001 = (6 : Int32)) ∨ ((¬ (p0 = (0 : Int32))) ∧ (¬ (p0 = (1 : Int32))) ∧ (¬ (p0 = (2 : Int32))) ∧ (¬ (p0 = (3 : Int32))) ∧ (¬ (p0 = (4 : Int32))) ∧ (¬ (p0 = (5 : Int32))) ∧ (¬ (p0 = (6 : Int32))) ∧ (¬ (p0 = (7 : Int32))) ∧ (p0 = (8 : Int32)) ∧ z5001 = (4 : Int32)) ∨ ((¬ (p0 = (0 : Int32))) ∧ (¬ (p0 = (1 : Int32))) ∧ (¬ (p0 = (2 : Int32))) ∧ (¬ (p0 = (3 : Int32))) ∧ (¬ (p0 = (4 : Int32))) ∧ (¬ (p0 = (5 : Int32))) ∧ (¬ (p0 = (6 : Int32))) ∧ (¬ (p0 = (7 : Int32))) ∧ (¬ (p0 = (8 : Int32))) ∧ (p0 = (9 : Int32)) ∧ z5001 = (4 : Int32)) ∨ ((¬ (p0 = (0 : Int32))) ∧ (¬ (p0 = (1 : Int32))) ∧ (¬ (p0 = (2 : Int32))) ∧ (¬ (p0 = (3 : Int32))) ∧ (¬ (p0 = (4 : Int32))) ∧ (¬ (p0 = (5 : Int32))) ∧ (¬ (p0 = (6 : Int32))) ∧ (¬ (p0 = (7 : Int32))) ∧ (¬ (p0 = (8 : Int32))) ∧ (¬ (p0 = (9 : Int32))) ∧ (p0 = (10 : Int32)) ∧ z5001 = (4 : Int32)) ∨ ((¬ (p0 = (0 : Int32))) ∧ (¬ (p0 = (1 : Int32))) ∧ (¬ (p0 = (2 : Int32))) ∧ (¬ (p0 = (3 : Int32))) ∧ (¬ (p0 = (4 : Int32))) ∧ (¬ (p0 = (5 : Int32))) ∧ (¬ (p0 = (6 : Int32))) ∧ (¬ (p0 = (7 : Int32))) ∧ (¬ (p0 = (8 : Int32))) ∧ (¬ (p0 = (9 : Int32))) ∧ (¬ (p0 = (10 : Int32))) ∧ z5001 = (3 : Int32)))
set_option maxRecDepth 65536 in
set_option maxHeartbeats 40000000 in
theorem rm1 (l : Launch) (Z : State) (A0 : Array Value) (hw : ∀ d ∈ tables_1, d.before A0 Z = true) (ws : List Jvm.Cond) (f_PRODUCE : Addr) (f_LIST_OFFSETS : Addr) (f_HEARTBEAT : Addr) (f_OFFSET_COMMIT : Addr) (f_FETCH : Addr) (f_FIND_COORDINATOR : Addr) (f_API_VERSIONS : Addr) (f_METADATA : Addr) (f_LEAVE_GROUP : Addr) (f_JOIN_GROUP : Addr) (f_SYNC_GROUP : Addr) (f_OFFSET_FETCH : Addr) (p0 : Int32) (h0 : Heap) (n0 : Nat) (Z0 : n0 ≤ h0.size) (P_S_PRODUCE : Sta Z h0 "com/example/keelstream/keelstream/protocol/ApiKey" "PRODUCE" "Lcom/example/keelstream/keelstream/protocol/ApiKey;" (.ref f_PRODUCE)) (P_E_PRODUCE : Exa Z h0 f_PRODUCE "com/example/keelstream/keelstream/protocol/ApiKey") (P_F_PRODUCE_firstFlexibleVersion : Fld Z h0 f_PRODUCE "com/example/keelstream/keelstream/protocol/ApiKey" "firstFlexibleVersion" "S" (.int (9 : Int32))) (P_S_LIST_OFFSETS : Sta Z h0 "com/example/keelstream/keelstream/protocol/ApiKey" "LIST_OFFSETS" "Lcom/example/keelstream/keelstream/protocol/ApiKey;" (.ref f_LIST_OFFSETS)) (P_E_LIST_OFFSETS : Exa Z h0 f_LIST_OFFSETS "com/example/keelstream/keelstream/protocol/ApiKey") (P_F_LIST_OFFSETS_firstFlexibleVersion : Fld Z h0 f_LIST_OFFSETS "com/example/keelstream/keelstream/protocol/ApiKey" "firstFlexibleVersion" "S" (.int (6 : Int32))) (P_S_HEARTBEAT : Sta Z h0 "com/example/keelstream/keelstream/protocol/ApiKey" "HEARTBEAT" "Lcom/example/keelstream/keelstream/protocol/ApiKey;" (.ref f_HEARTBEAT)) (P_E_HEARTBEAT : Exa Z h0 f_HEARTBEAT "com/example/keelstream/keelstream/protocol/ApiKey") (P_F_HEARTBEAT_firstFlexibleVersion : Fld Z h0 f_HEARTBEAT "com/example/keelstream/keelstream/protocol/ApiKey" "firstFlexibleVersion" "S" (.int (4 : Int32))) (P_S_OFFSET_COMMIT : Sta Z h0 "com/example/keelstream/keelstream/protocol/ApiKey" "OFFSET_COMMIT" "Lcom/example/keelstream/keelstream/protocol/ApiKey;" (.ref f_OFFSET_COMMIT)) (P_E_OFFSET_COMMIT : Exa Z h0 f_OFFSET_COMMIT "com/example/keelstream/keelstream/protocol/ApiKey") (P_F_OFFSET_COMMIT_firstFlexibleVersion : Fld Z h0 f_OFFSET_COMMIT "com/example/keelstream/keelstream/protocol/ApiKey" "firstFlexibleVersion" "S" (.int (8 : Int32))) (P_S_FETCH : Sta Z h0 "com/example/keelstream/keelstream/protocol/ApiKey" "FETCH" "Lcom/example/keelstream/keelstream/protocol/ApiKey;" (.ref f_FETCH)) (P_E_FETCH : Exa Z h0 f_FETCH "com/example/keelstream/keelstream/protocol/ApiKey") (P_F_FETCH_firstFlexibleVersion : Fld Z h0 f_FETCH "com/example/keelstream/keelstream/protocol/ApiKey" "firstFlexibleVersion" "S" (.int (12 : Int32))) (P_S_FIND_COORDINATOR : Sta Z h0 "com/example/keelstream/keelstream/protocol/ApiKey" "FIND_COORDINATOR" "Lcom/example/keelstream/keelstream/protocol/ApiKey;" (.ref f_FIND_COORDINATOR)) (P_E_FIND_COORDINATOR : Exa Z h0 f_FIND_COORDINATOR "com/example/keelstream/keelstream/protocol/ApiKey") (P_F_FIND_COORDINATOR_firstFlexibleVersion : Fld Z h0 f_FIND_COORDINATOR "com/example/keelstream/keelstream/protocol/ApiKey" "firstFlexibleVersion" "S" (.int (3 : Int32))) (P_S_API_VERSIONS : Sta Z h0 "com/example/keelstream/keelstream/protocol/ApiKey" "API_VERSIONS" "Lcom/example/keelstream/keelstream/protocol/ApiKey;" (.ref f_API_VERSIONS)) (P_E_API_VERSIONS : Exa Z h0 f_API_VERSIONS "com/example/keelstream/keelstream/protocol/ApiKey") (P_F_API_VERSIONS_firstFlexibleVersion : Fld Z h0 f_API_VERSIONS "com/example/keelstream/keelstream/protocol/ApiKey" "firstFlexibleVersion" "S" (.int (3 : Int32))) (P_S_METADATA : Sta Z h0 "com/example/keelstream/keelstream/protocol/ApiKey" "METADATA" "Lcom/example/keelstream/keelstream/protocol/ApiKey;" (.ref f_METADATA)) (P_E_METADATA : Exa Z h0 f_METADATA "com/example/keelstream/keelstream/protocol/ApiKey") (P_F_METADATA_firstFlexibleVersion : Fld Z h0 f_METADATA "com/example/keelstream/keelstream/protocol/ApiKey" "firstFlexibleVersion" "S" (.int (9 : Int32))) (P_S_LEAVE_GROUP : Sta Z h0 "com/example/keelstream/keelstream/protocol/ApiKey" "LEAVE_GROUP" "Lcom/example/keelstream/keelstream/protocol/ApiKey;" (.ref f_LEAVE_GROUP)) (P_E_LEAVE_GROUP : Exa Z h0 f_LEAVE_GROUP "com/example/keelstream/keelstream/protocol/ApiKey") (P_F_LEAVE_GROUP_firstFlexibleVersion : Fld Z h0 f_LEAVE_GROUP "com/example/keelstream/keelstream/protocol/ApiKey" "firstFlexibleVersion" "S" (.int (4 : Int32))) (P_S_JOIN_GROUP : Sta Z h0 "com/example/keelstream/keelstream/protocol/ApiKey" "JOIN_GROUP" "Lcom/example/keelstream/keelstream/protocol/ApiKey;" (.ref f_JOIN_GROUP)) (P_E_JOIN_GROUP : Exa Z h0 f_JOIN_GROUP "com/example/keelstream/keelstream/protocol/ApiKey") (P_F_JOIN_GROUP_firstFlexibleVersion : Fld Z h0 f_JOIN_GROUP "com/example/keelstream/keelstream/protocol/ApiKey" "firstFlexibleVersion" "S" (.int (6 : Int32))) (P_S_SYNC_GROUP : Sta Z h0 "com/example/keelstream/keelstream/protocol/ApiKey" "SYNC_GROUP" "Lcom/example/keelstream/keelstream/protocol/ApiKey;" (.ref f_SYNC_GROUP)) (P_E_SYNC_GROUP : Exa Z h0 f_SYNC_GROUP "com/example/keelstream/keelstream/protocol/ApiKey") (P_F_SYNC_GROUP_firstFlexibleVersion : Fld Z h0 f_SYNC_GROUP "com/example/keelstream/keelstream/protocol/ApiKey" "firstFlexibleVersion" "S" (.int (4 : Int32))) (P_S_OFFSET_FETCH : Sta Z h0 "com/example/keelstream/keelstream/protocol/ApiKey" "OFFSET_FETCH" "Lcom/example/keelstream/keelstream/protocol/ApiKey;" (.ref f_OFFSET_FETCH)) (P_E_OFFSET_FETCH : Exa Z h0 f_OFFSET_FETCH "com/example/keelstream/keelstream/protocol/ApiKey") (P_F_OFFSET_FETCH_firstFlexibleVersion : Fld Z h0 f_OFFSET_FETCH "com/example/keelstream/keelstream/protocol/ApiKey" "firstFlexibleVersion" "S" (.int (6 : Int32))) :
    MetFree l (⟨"com/example/keelstream/keelstream/protocol/ApiKeyIsFlexiblePinLaw", "key", "(I)Lcom/example/keelstream/keelstream/protocol/ApiKey;"⟩ : MethodName) (head1 (Jvm.Cond.code (⟨"com/example/keelstream/keelstream/protocol/ApiKeyIsFlexiblePinLaw", "key", "(I)Lcom/example/keelstream/keelstream/protocol/ApiKey;"⟩ : MethodName) method_2_code 1 (some (.object "com/example/keelstream/keelstream/protocol/ApiKey")) :: ws) ({ frames := 0, cells := 0, slots := 0, locals := 0 } : Room)) (fun a U => a = #[(.int p0)] ∧ Z.Warmed39 U.vm ∧ U.heap = h0) (fun _ _ _ _ _ => True) (fun _ U o U' => ∃ v L, o = .returned v ∧ Q1 Z f_PRODUCE f_LIST_OFFSETS f_HEARTBEAT f_OFFSET_COMMIT f_FETCH f_FIND_COORDINATOR f_API_VERSIONS f_METADATA f_LEAVE_GROUP f_JOIN_GROUP f_SYNC_GROUP f_OFFSET_FETCH p0 h0 n0 v U'.heap L ∧ FrameEnd U o U' L 0 0) := by
  refine MetFree.of_bodySF (plainFor_of_name pn_1) hisR ?_
  intro p e s m args below meth c s₁ Bd hml0 hP hK
  obtain ⟨rfl, hZ, hh⟩ := hP
  have hx := Bd.exec
  have hby := Bd.bytes
  have hml : c.maxLocals = 1 := hml0
  have hlk : meth.locks = false := Bd.notSynchronized
  have hown : s.vm.findClass "com/example/keelstream/keelstream/protocol/ApiKeyIsFlexiblePinLaw" = some m.cls := findClass_of_methodNamed Bd.named
  have hnm := (name_of_methodNamed Bd.named Bd.method).1
  have X0 : Stand p l e ({ frames := 0, cells := 0, slots := 0, locals := 0 } : Room) s m #[(.int p0)] below meth c s₁ [] 0 0 := Stand.of_body Bd
  have e0 : s₁.heap = h0 := by rw [← hh, Bd.state]; rfl
  have N0 := Fr.nil n0
  show own_Go p e below (own_Fin s 0 0 (Q1 Z f_PRODUCE f_LIST_OFFSETS f_HEARTBEAT f_OFFSET_COMMIT f_FETCH f_FIND_COORDINATOR f_API_VERSIONS f_METADATA f_LEAVE_GROUP f_JOIN_GROUP f_SYNC_GROUP f_OFFSET_FETCH p0 h0 n0)) _
  refine own_by (fun t k => castTop (ef_1 m p0) k) ?_
  show own_Go p e below _ (s₁.setTop (mkF m 0 #[.val (.int p0)] []))
  refine own_by (fun _ k => XS.iloadN X0.here hx rfl (hb hby d1_0) rfl k) ?_
  show own_Go p e below _ (s₁.setTop (mkF m 1 #[.val (.int p0)] [(.int p0)]))
  by_cases c1 : p0 = (0 : Int32)
  · skip
    refine own_by (fun _ k => XS.ifNo X0.here hx rfl (hb hby d1_1) rfl ((if0 _ _).trans (teq c1).2) k) ?_
    show own_Go p e below _ (s₁.setTop (mkF m 4 #[.val (.int p0)] []))
    obtain ⟨T2, X2, e2, st2⟩ := getS2 X0 hx hZ hown (host := "") (Or.inl (hw _ (List.mem_of_getElem? (i := 5) rfl))) Via.refl e0 P_S_PRODUCE (g := (mkF m 4 #[.val (.int p0)] [])) rfl (hb hby d1_4)
    refine own_by st2 ?_
    show own_Go p e below _ (T2.setTop (mkF m 7 #[.val (.int p0)] [(.ref f_PRODUCE)]))
    exact own_retR X2 hx Bd.returns (by decide) rfl (hb hby d1_7) hlk e2 ⟨f_PRODUCE, (9 : Int32), rfl, N0, rfl, P_E_PRODUCE, P_F_PRODUCE_firstFlexibleVersion, (Or.inl ⟨c1, rfl⟩)⟩ (by decide) (by decide)
  · skip
    refine own_by (fun _ k => XS.ifYes X0.here hx rfl (pc0 := 1) (pc' := 8) rfl (hb hby d1_1) rfl ((if0 _ _).trans (feq c1).2) (by decide) (by decide) k) ?_
    show own_Go p e below _ (s₁.setTop (mkF m 8 #[.val (.int p0)] []))
    refine own_by (fun _ k => XS.iloadN X0.here hx rfl (hb hby d1_8) rfl k) ?_
    show own_Go p e below _ (s₁.setTop (mkF m 9 #[.val (.int p0)] [(.int p0)]))
    refine own_by (fun _ k => XS.iconst X0.here hx rfl (hb hby d1_9) k) ?_
    show own_Go p e below _ (s₁.setTop (mkF m 10 #[.val (.int p0)] [(.int (1 : Int32)), (.int p0)]))
    by_cases c3 : p0 = (1 : Int32)
    · skip
      refine own_by (fun _ k => XS.icmpNo X0.here hx rfl (hb hby d1_10) rfl (teq c3).2 k) ?_
      show own_Go p e below _ (s₁.setTop (mkF m 13 #[.val (.int p0)] []))
      obtain ⟨T4, X4, e4, st4⟩ := getS2 X0 hx hZ hown (host := "") (Or.inl (hw _ (List.mem_of_getElem? (i := 24) rfl))) Via.refl e0 P_S_FETCH (g := (mkF m 13 #[.val (.int p0)] [])) rfl (hb hby d1_13)
      refine own_by st4 ?_
      show own_Go p e below _ (T4.setTop (mkF m 16 #[.val (.int p0)] [(.ref f_FETCH)]))
      exact own_retR X4 hx Bd.returns (by decide) rfl (hb hby d1_16) hlk e4 ⟨f_FETCH, (12 : Int32), rfl, N0, rfl, P_E_FETCH, P_F_FETCH_firstFlexibleVersion, (Or.inr (Or.inl ⟨c1, c3, rfl⟩))⟩ (by decide) (by decide)
    · skip
      refine own_by (fun _ k => XS.icmpYes X0.here hx rfl (pc0 := 10) (pc' := 17) rfl (hb hby d1_10) rfl (feq c3).2 (by decide) (by decide) k) ?_
      show own_Go p e below _ (s₁.setTop (mkF m 17 #[.val (.int p0)] []))
      refine own_by (fun _ k => XS.iloadN X0.here hx rfl (hb hby d1_17) rfl k) ?_
      show own_Go p e below _ (s₁.setTop (mkF m 18 #[.val (.int p0)] [(.int p0)]))
      refine own_by (fun _ k => XS.iconst X0.here hx rfl (hb hby d1_18) k) ?_
      show own_Go p e below _ (s₁.setTop (mkF m 19 #[.val (.int p0)] [(.int (2 : Int32)), (.int p0)]))
      by_cases c5 : p0 = (2 : Int32)
      · skip
        refine own_by (fun _ k => XS.icmpNo X0.here hx rfl (hb hby d1_19) rfl (teq c5).2 k) ?_
        show own_Go p e below _ (s₁.setTop (mkF m 22 #[.val (.int p0)] []))
        obtain ⟨T6, X6, e6, st6⟩ := getS2 X0 hx hZ hown (host := "") (Or.inl (hw _ (List.mem_of_getElem? (i := 18) rfl))) Via.refl e0 P_S_LIST_OFFSETS (g := (mkF m 22 #[.val (.int p0)] [])) rfl (hb hby d1_22)
        refine own_by st6 ?_
        show own_Go p e below _ (T6.setTop (mkF m 25 #[.val (.int p0)] [(.ref f_LIST_OFFSETS)]))
        exact own_retR X6 hx Bd.returns (by decide) rfl (hb hby d1_25) hlk e6 ⟨f_LIST_OFFSETS, (6 : Int32), rfl, N0, rfl, P_E_LIST_OFFSETS, P_F_LIST_OFFSETS_firstFlexibleVersion, (Or.inr (Or.inr (Or.inl ⟨c1, c3, c5, rfl⟩)))⟩ (by decide) (by decide)
      · skip
        refine own_by (fun _ k => XS.icmpYes X0.here hx rfl (pc0 := 19) (pc' := 26) rfl (hb hby d1_19) rfl (feq c5).2 (by decide) (by decide) k) ?_
        show own_Go p e below _ (s₁.setTop (mkF m 26 #[.val (.int p0)] []))
        refine own_by (fun _ k => XS.iloadN X0.here hx rfl (hb hby d1_26) rfl k) ?_
        show own_Go p e below _ (s₁.setTop (mkF m 27 #[.val (.int p0)] [(.int p0)]))
        refine own_by (fun _ k => XS.iconst X0.here hx rfl (hb hby d1_27) k) ?_
        show own_Go p e below _ (s₁.setTop (mkF m 28 #[.val (.int p0)] [(.int (3 : Int32)), (.int p0)]))
        by_cases c7 : p0 = (3 : Int32)
        · skip
          refine own_by (fun _ k => XS.icmpNo X0.here hx rfl (hb hby d1_28) rfl (teq c7).2 k) ?_
          show own_Go p e below _ (s₁.setTop (mkF m 31 #[.val (.int p0)] []))
          obtain ⟨T8, X8, e8, st8⟩ := getS2 X0 hx hZ hown (host := "") (Or.inl (hw _ (List.mem_of_getElem? (i := 30) rfl))) Via.refl e0 P_S_METADATA (g := (mkF m 31 #[.val (.int p0)] [])) rfl (hb hby d1_31)
          refine own_by st8 ?_
          show own_Go p e below _ (T8.setTop (mkF m 34 #[.val (.int p0)] [(.ref f_METADATA)]))
          exact own_retR X8 hx Bd.returns (by decide) rfl (hb hby d1_34) hlk e8 ⟨f_METADATA, (9 : Int32), rfl, N0, rfl, P_E_METADATA, P_F_METADATA_firstFlexibleVersion, (Or.inr (Or.inr (Or.inr (Or.inl ⟨c1, c3, c5, c7, rfl⟩))))⟩ (by decide) (by decide)
        · skip
          refine own_by (fun _ k => XS.icmpYes X0.here hx rfl (pc0 := 28) (pc' := 35) rfl (hb hby d1_28) rfl (feq c7).2 (by decide) (by decide) k) ?_
          show own_Go p e below _ (s₁.setTop (mkF m 35 #[.val (.int p0)] []))
          refine own_by (fun _ k => XS.iloadN X0.here hx rfl (hb hby d1_35) rfl k) ?_
          show own_Go p e below _ (s₁.setTop (mkF m 36 #[.val (.int p0)] [(.int p0)]))
          refine own_by (fun _ k => XS.iconst X0.here hx rfl (hb hby d1_36) k) ?_
          show own_Go p e below _ (s₁.setTop (mkF m 37 #[.val (.int p0)] [(.int (4 : Int32)), (.int p0)]))
          by_cases c9 : p0 = (4 : Int32)
          · skip
            refine own_by (fun _ k => XS.icmpNo X0.here hx rfl (hb hby d1_37) rfl (teq c9).2 k) ?_
            show own_Go p e below _ (s₁.setTop (mkF m 40 #[.val (.int p0)] []))
            obtain ⟨T10, X10, e10, st10⟩ := getS2 X0 hx hZ hown (host := "") (Or.inl (hw _ (List.mem_of_getElem? (i := 22) rfl))) Via.refl e0 P_S_OFFSET_COMMIT (g := (mkF m 40 #[.val (.int p0)] [])) rfl (hb hby d1_40)
            refine own_by st10 ?_
            show own_Go p e below _ (T10.setTop (mkF m 43 #[.val (.int p0)] [(.ref f_OFFSET_COMMIT)]))
            exact own_retR X10 hx Bd.returns (by decide) rfl (hb hby d1_43) hlk e10 ⟨f_OFFSET_COMMIT, (8 : Int32), rfl, N0, rfl, P_E_OFFSET_COMMIT, P_F_OFFSET_COMMIT_firstFlexibleVersion, (Or.inr (Or.inr (Or.inr (Or.inr (Or.inl ⟨c1, c3, c5, c7, c9, rfl⟩)))))⟩ (by decide) (by decide)
          · skip
            refine own_by (fun _ k => XS.icmpYes X0.here hx rfl (pc0 := 37) (pc' := 44) rfl (hb hby d1_37) rfl (feq c9).2 (by decide) (by decide) k) ?_
            show own_Go p e below _ (s₁.setTop (mkF m 44 #[.val (.int p0)] []))
            refine own_by (fun _ k => XS.iloadN X0.here hx rfl (hb hby d1_44) rfl k) ?_
            show own_Go p e below _ (s₁.setTop (mkF m 45 #[.val (.int p0)] [(.int p0)]))
            refine own_by (fun _ k => XS.iconst X0.here hx rfl (hb hby d1_45) k) ?_
            show own_Go p e below _ (s₁.setTop (mkF m 46 #[.val (.int p0)] [(.int (5 : Int32)), (.int p0)]))
            by_cases c11 : p0 = (5 : Int32)
            · skip
              refine own_by (fun _ k => XS.icmpNo X0.here hx rfl (hb hby d1_46) rfl (teq c11).2 k) ?_
              show own_Go p e below _ (s₁.setTop (mkF m 49 #[.val (.int p0)] []))
              obtain ⟨T12, X12, e12, st12⟩ := getS2 X0 hx hZ hown (host := "") (Or.inl (hw _ (List.mem_of_getElem? (i := 38) rfl))) Via.refl e0 P_S_OFFSET_FETCH (g := (mkF m 49 #[.val (.int p0)] [])) rfl (hb hby d1_49)
              refine own_by st12 ?_
              show own_Go p e below _ (T12.setTop (mkF m 52 #[.val (.int p0)] [(.ref f_OFFSET_FETCH)]))
              exact own_retR X12 hx Bd.returns (by decide) rfl (hb hby d1_52) hlk e12 ⟨f_OFFSET_FETCH, (6 : Int32), rfl, N0, rfl, P_E_OFFSET_FETCH, P_F_OFFSET_FETCH_firstFlexibleVersion, (Or.inr (Or.inr (Or.inr (Or.inr (Or.inr (Or.inl ⟨c1, c3, c5, c7, c9, c11, rfl⟩))))))⟩ (by decide) (by decide)
            · skip
              refine own_by (fun _ k => XS.icmpYes X0.here hx rfl (pc0 := 46) (pc' := 53) rfl (hb hby d1_46) rfl (feq c11).2 (by decide) (by decide) k) ?_
              show own_Go p e below _ (s₁.setTop (mkF m 53 #[.val (.int p0)] []))
              refine own_by (fun _ k => XS.iloadN X0.here hx rfl (hb hby d1_53) rfl k) ?_
              show own_Go p e below _ (s₁.setTop (mkF m 54 #[.val (.int p0)] [(.int p0)]))
              refine own_by (fun _ k => XS.bipush X0.here hx rfl (hb hby d1_54) k) ?_
              show own_Go p e below _ (s₁.setTop (mkF m 56 #[.val (.int p0)] [(.int (6 : Int32)), (.int p0)]))
              by_cases c13 : p0 = (6 : Int32)
              · skip
                refine own_by (fun _ k => XS.icmpNo X0.here hx rfl (hb hby d1_56) rfl (teq c13).2 k) ?_
                show own_Go p e below _ (s₁.setTop (mkF m 59 #[.val (.int p0)] []))
                obtain ⟨T14, X14, e14, st14⟩ := getS2 X0 hx hZ hown (host := "") (Or.inl (hw _ (List.mem_of_getElem? (i := 26) rfl))) Via.refl e0 P_S_FIND_COORDINATOR (g := (mkF m 59 #[.val (.int p0)] [])) rfl (hb hby d1_59)
                refine own_by st14 ?_
                show own_Go p e below _ (T14.setTop (mkF m 62 #[.val (.int p0)] [(.ref f_FIND_COORDINATOR)]))
                exact own_retR X14 hx Bd.returns (by decide) rfl (hb hby d1_62) hlk e14 ⟨f_FIND_COORDINATOR, (3 : Int32), rfl, N0, rfl, P_E_FIND_COORDINATOR, P_F_FIND_COORDINATOR_firstFlexibleVersion, (Or.inr (Or.inr (Or.inr (Or.inr (Or.inr (Or.inr (Or.inl ⟨c1, c3, c5, c7, c9, c11, c13, rfl⟩)))))))⟩ (by decide) (by decide)
              · skip
                refine own_by (fun _ k => XS.icmpYes X0.here hx rfl (pc0 := 56) (pc' := 63) rfl (hb hby d1_56) rfl (feq c13).2 (by decide) (by decide) k) ?_
                show own_Go p e below _ (s₁.setTop (mkF m 63 #[.val (.int p0)] []))
                refine own_by (fun _ k => XS.iloadN X0.here hx rfl (hb hby d1_63) rfl k) ?_
                show own_Go p e below _ (s₁.setTop (mkF m 64 #[.val (.int p0)] [(.int p0)]))
                refine own_by (fun _ k => XS.bipush X0.here hx rfl (hb hby d1_64) k) ?_
                show own_Go p e below _ (s₁.setTop (mkF m 66 #[.val (.int p0)] [(.int (7 : Int32)), (.int p0)]))
                by_cases c15 : p0 = (7 : Int32)
                · skip
                  refine own_by (fun _ k => XS.icmpNo X0.here hx rfl (hb hby d1_66) rfl (teq c15).2 k) ?_
                  show own_Go p e below _ (s₁.setTop (mkF m 69 #[.val (.int p0)] []))
                  obtain ⟨T16, X16, e16, st16⟩ := getS2 X0 hx hZ hown (host := "") (Or.inl (hw _ (List.mem_of_getElem? (i := 34) rfl))) Via.refl e0 P_S_JOIN_GROUP (g := (mkF m 69 #[.val (.int p0)] [])) rfl (hb hby d1_69)
                  refine own_by st16 ?_
                  show own_Go p e below _ (T16.setTop (mkF m 72 #[.val (.int p0)] [(.ref f_JOIN_GROUP)]))
                  exact own_retR X16 hx Bd.returns (by decide) rfl (hb hby d1_72) hlk e16 ⟨f_JOIN_GROUP, (6 : Int32), rfl, N0, rfl, P_E_JOIN_GROUP, P_F_JOIN_GROUP_firstFlexibleVersion, (Or.inr (Or.inr (Or.inr (Or.inr (Or.inr (Or.inr (Or.inr (Or.inl ⟨c1, c3, c5, c7, c9, c11, c13, c15, rfl⟩))))))))⟩ (by decide) (by decide)
                · skip
                  refine own_by (fun _ k => XS.icmpYes X0.here hx rfl (pc0 := 66) (pc' := 73) rfl (hb hby d1_66) rfl (feq c15).2 (by decide) (by decide) k) ?_
                  show own_Go p e below _ (s₁.setTop (mkF m 73 #[.val (.int p0)] []))
                  refine own_by (fun _ k => XS.iloadN X0.here hx rfl (hb hby d1_73) rfl k) ?_
                  show own_Go p e below _ (s₁.setTop (mkF m 74 #[.val (.int p0)] [(.int p0)]))
                  refine own_by (fun _ k => XS.bipush X0.here hx rfl (hb hby d1_74) k) ?_
                  show own_Go p e below _ (s₁.setTop (mkF m 76 #[.val (.int p0)] [(.int (8 : Int32)), (.int p0)]))
                  by_cases c17 : p0 = (8 : Int32)
                  · skip
                    refine own_by (fun _ k => XS.icmpNo X0.here hx rfl (hb hby d1_76) rfl (teq c17).2 k) ?_
                    show own_Go p e below _ (s₁.setTop (mkF m 79 #[.val (.int p0)] []))
                    obtain ⟨T18, X18, e18, st18⟩ := getS2 X0 hx hZ hown (host := "") (Or.inl (hw _ (List.mem_of_getElem? (i := 20) rfl))) Via.refl e0 P_S_HEARTBEAT (g := (mkF m 79 #[.val (.int p0)] [])) rfl (hb hby d1_79)
                    refine own_by st18 ?_
                    show own_Go p e below _ (T18.setTop (mkF m 82 #[.val (.int p0)] [(.ref f_HEARTBEAT)]))
                    exact own_retR X18 hx Bd.returns (by decide) rfl (hb hby d1_82) hlk e18 ⟨f_HEARTBEAT, (4 : Int32), rfl, N0, rfl, P_E_HEARTBEAT, P_F_HEARTBEAT_firstFlexibleVersion, (Or.inr (Or.inr (Or.inr (Or.inr (Or.inr (Or.inr (Or.inr (Or.inr (Or.inl ⟨c1, c3, c5, c7, c9, c11, c13, c15, c17, rfl⟩)))))))))⟩ (by decide) (by decide)
                  · skip
                    refine own_by (fun _ k => XS.icmpYes X0.here hx rfl (pc0 := 76) (pc' := 83) rfl (hb hby d1_76) rfl (feq c17).2 (by decide) (by decide) k) ?_
                    show own_Go p e below _ (s₁.setTop (mkF m 83 #[.val (.int p0)] []))
                    refine own_by (fun _ k => XS.iloadN X0.here hx rfl (hb hby d1_83) rfl k) ?_
                    show own_Go p e below _ (s₁.setTop (mkF m 84 #[.val (.int p0)] [(.int p0)]))
                    refine own_by (fun _ k => XS.bipush X0.here hx rfl (hb hby d1_84) k) ?_
                    show own_Go p e below _ (s₁.setTop (mkF m 86 #[.val (.int p0)] [(.int (9 : Int32)), (.int p0)]))
                    by_cases c19 : p0 = (9 : Int32)
                    · skip
                      refine own_by (fun _ k => XS.icmpNo X0.here hx rfl (hb hby d1_86) rfl (teq c19).2 k) ?_
                      show own_Go p e below _ (s₁.setTop (mkF m 89 #[.val (.int p0)] []))
                      obtain ⟨T20, X20, e20, st20⟩ := getS2 X0 hx hZ hown (host := "") (Or.inl (hw _ (List.mem_of_getElem? (i := 32) rfl))) Via.refl e0 P_S_LEAVE_GROUP (g := (mkF m 89 #[.val (.int p0)] [])) rfl (hb hby d1_89)
                      refine own_by st20 ?_
                      show own_Go p e below _ (T20.setTop (mkF m 92 #[.val (.int p0)] [(.ref f_LEAVE_GROUP)]))
                      exact own_retR X20 hx Bd.returns (by decide) rfl (hb hby d1_92) hlk e20 ⟨f_LEAVE_GROUP, (4 : Int32), rfl, N0, rfl, P_E_LEAVE_GROUP, P_F_LEAVE_GROUP_firstFlexibleVersion, (Or.inr (Or.inr (Or.inr (Or.inr (Or.inr (Or.inr (Or.inr (Or.inr (Or.inr (Or.inl ⟨c1, c3, c5, c7, c9, c11, c13, c15, c17, c19, rfl⟩))))))))))⟩ (by decide) (by decide)
                    · skip
                      refine own_by (fun _ k => XS.icmpYes X0.here hx rfl (pc0 := 86) (pc' := 93) rfl (hb hby d1_86) rfl (feq c19).2 (by decide) (by decide) k) ?_
                      show own_Go p e below _ (s₁.setTop (mkF m 93 #[.val (.int p0)] []))
                      refine own_by (fun _ k => XS.iloadN X0.here hx rfl (hb hby d1_93) rfl k) ?_
                      show own_Go p e below _ (s₁.setTop (mkF m 94 #[.val (.int p0)] [(.int p0)]))
                      refine own_by (fun _ k => XS.bipush X0.here hx rfl (hb hby d1_94) k) ?_
                      show own_Go p e below _ (s₁.setTop (mkF m 96 #[.val (.int p0)] [(.int (10 : Int32)), (.int p0)]))
                      by_cases c21 : p0 = (10 : Int32)
                      · skip
                        refine own_by (fun _ k => XS.icmpNo X0.here hx rfl (hb hby d1_96) rfl (teq c21).2 k) ?_
                        show own_Go p e below _ (s₁.setTop (mkF m 99 #[.val (.int p0)] []))
                        obtain ⟨T22, X22, e22, st22⟩ := getS2 X0 hx hZ hown (host := "") (Or.inl (hw _ (List.mem_of_getElem? (i := 36) rfl))) Via.refl e0 P_S_SYNC_GROUP (g := (mkF m 99 #[.val (.int p0)] [])) rfl (hb hby d1_99)
                        refine own_by st22 ?_
                        show own_Go p e below _ (T22.setTop (mkF m 102 #[.val (.int p0)] [(.ref f_SYNC_GROUP)]))
                        exact own_retR X22 hx Bd.returns (by decide) rfl (hb hby d1_102) hlk e22 ⟨f_SYNC_GROUP, (4 : Int32), rfl, N0, rfl, P_E_SYNC_GROUP, P_F_SYNC_GROUP_firstFlexibleVersion, (Or.inr (Or.inr (Or.inr (Or.inr (Or.inr (Or.inr (Or.inr (Or.inr (Or.inr (Or.inr (Or.inl ⟨c1, c3, c5, c7, c9, c11, c13, c15, c17, c19, c21, rfl⟩)))))))))))⟩ (by decide) (by decide)
                      · skip
                        refine own_by (fun _ k => XS.icmpYes X0.here hx rfl (pc0 := 96) (pc' := 103) rfl (hb hby d1_96) rfl (feq c21).2 (by decide) (by decide) k) ?_
                        show own_Go p e below _ (s₁.setTop (mkF m 103 #[.val (.int p0)] []))
                        obtain ⟨T23, X23, e23, st23⟩ := getS2 X0 hx hZ hown (host := "") (Or.inl (hw _ (List.mem_of_getElem? (i := 28) rfl))) Via.refl e0 P_S_API_VERSIONS (g := (mkF m 103 #[.val (.int p0)] [])) rfl (hb hby d1_103)
                        refine own_by st23 ?_
                        show own_Go p e below _ (T23.setTop (mkF m 106 #[.val (.int p0)] [(.ref f_API_VERSIONS)]))
                        exact own_retR X23 hx Bd.returns (by decide) rfl (hb hby d1_106) hlk e23 ⟨f_API_VERSIONS, (3 : Int32), rfl, N0, rfl, P_E_API_VERSIONS, P_F_API_VERSIONS_firstFlexibleVersion, (Or.inr (Or.inr (Or.inr (Or.inr (Or.inr (Or.inr (Or.inr (Or.inr (Or.inr (Or.inr (Or.inr (⟨c1, c3, c5, c7, c9, c11, c13, c15, c17, c19, c21, rfl⟩))))))))))))⟩ (by decide) (by decide)
theorem d2_0 : decode method_3_code 0 = .ok (.iload_n 0, 1) := by decide +kernel
theorem d2_1 : decode method_3_code 1 = .ok (.ifCond .ne 6, 3) := by decide +kernel
theorem d2_4 : decode method_3_code 4 = .ok (.bipush 9, 2) := by decide +kernel
theorem d2_6 : decode method_3_code 6 = .ok (.ireturn, 1) := by decide +kernel
theorem d2_7 : decode method_3_code 7 = .ok (.iload_n 0, 1) := by decide +kernel
theorem d2_8 : decode method_3_code 8 = .ok (.iconst 1, 1) := by decide +kernel
theorem d2_9 : decode method_3_code 9 = .ok (.if_icmp .ne 6, 3) := by decide +kernel
theorem d2_12 : decode method_3_code 12 = .ok (.bipush 12, 2) := by decide +kernel
theorem d2_14 : decode method_3_code 14 = .ok (.ireturn, 1) := by decide +kernel
theorem d2_15 : decode method_3_code 15 = .ok (.iload_n 0, 1) := by decide +kernel
theorem d2_16 : decode method_3_code 16 = .ok (.iconst 2, 1) := by decide +kernel
theorem d2_17 : decode method_3_code 17 = .ok (.if_icmp .ne 6, 3) := by decide +kernel
theorem d2_20 : decode method_3_code 20 = .ok (.bipush 6, 2) := by decide +kernel
theorem d2_22 : decode method_3_code 22 = .ok (.ireturn, 1) := by decide +kernel
theorem d2_23 : decode method_3_code 23 = .ok (.iload_n 0, 1) := by decide +kernel
theorem d2_24 : decode method_3_code 24 = .ok (.iconst 3, 1) := by decide +kernel
theorem d2_25 : decode method_3_code 25 = .ok (.if_icmp .ne 6, 3) := by decide +kernel
theorem d2_28 : decode method_3_code 28 = .ok (.bipush 9, 2) := by decide +kernel
theorem d2_30 : decode method_3_code 30 = .ok (.ireturn, 1) := by decide +kernel
theorem d2_31 : decode method_3_code 31 = .ok (.iload_n 0, 1) := by decide +kernel
theorem d2_32 : decode method_3_code 32 = .ok (.iconst 4, 1) := by decide +kernel
theorem d2_33 : decode method_3_code 33 = .ok (.if_icmp .ne 6, 3) := by decide +kernel
theorem d2_36 : decode method_3_code 36 = .ok (.bipush 8, 2) := by decide +kernel
theorem d2_38 : decode method_3_code 38 = .ok (.ireturn, 1) := by decide +kernel
theorem d2_39 : decode method_3_code 39 = .ok (.iload_n 0, 1) := by decide +kernel
theorem d2_40 : decode method_3_code 40 = .ok (.iconst 5, 1) := by decide +kernel
theorem d2_41 : decode method_3_code 41 = .ok (.if_icmp .ne 6, 3) := by decide +kernel
theorem d2_44 : decode method_3_code 44 = .ok (.bipush 6, 2) := by decide +kernel
theorem d2_46 : decode method_3_code 46 = .ok (.ireturn, 1) := by decide +kernel
theorem d2_47 : decode method_3_code 47 = .ok (.iload_n 0, 1) := by decide +kernel
theorem d2_48 : decode method_3_code 48 = .ok (.bipush 6, 2) := by decide +kernel
theorem d2_50 : decode method_3_code 50 = .ok (.if_icmp .ne 5, 3) := by decide +kernel
theorem d2_53 : decode method_3_code 53 = .ok (.iconst 3, 1) := by decide +kernel
theorem d2_54 : decode method_3_code 54 = .ok (.ireturn, 1) := by decide +kernel
theorem d2_55 : decode method_3_code 55 = .ok (.iload_n 0, 1) := by decide +kernel
theorem d2_56 : decode method_3_code 56 = .ok (.bipush 7, 2) := by decide +kernel
theorem d2_58 : decode method_3_code 58 = .ok (.if_icmp .ne 6, 3) := by decide +kernel
theorem d2_61 : decode method_3_code 61 = .ok (.bipush 6, 2) := by decide +kernel
theorem d2_63 : decode method_3_code 63 = .ok (.ireturn, 1) := by decide +kernel
theorem d2_64 : decode method_3_code 64 = .ok (.iload_n 0, 1) := by decide +kernel
theorem d2_65 : decode method_3_code 65 = .ok (.bipush 8, 2) := by decide +kernel
theorem d2_67 : decode method_3_code 67 = .ok (.if_icmp .ne 5, 3) := by decide +kernel
theorem d2_70 : decode method_3_code 70 = .ok (.iconst 4, 1) := by decide +kernel
theorem d2_71 : decode method_3_code 71 = .ok (.ireturn, 1) := by decide +kernel
theorem d2_72 : decode method_3_code 72 = .ok (.iload_n 0, 1) := by decide +kernel
theorem d2_73 : decode method_3_code 73 = .ok (.bipush 9, 2) := by decide +kernel
theorem d2_75 : decode method_3_code 75 = .ok (.if_icmp .ne 5, 3) := by decide +kernel
theorem d2_78 : decode method_3_code 78 = .ok (.iconst 4, 1) := by decide +kernel
theorem d2_79 : decode method_3_code 79 = .ok (.ireturn, 1) := by decide +kernel
theorem d2_80 : decode method_3_code 80 = .ok (.iload_n 0, 1) := by decide +kernel
theorem d2_81 : decode method_3_code 81 = .ok (.bipush 10, 2) := by decide +kernel
theorem d2_83 : decode method_3_code 83 = .ok (.if_icmp .ne 5, 3) := by decide +kernel
theorem d2_86 : decode method_3_code 86 = .ok (.iconst 4, 1) := by decide +kernel
theorem d2_87 : decode method_3_code 87 = .ok (.ireturn, 1) := by decide +kernel
theorem d2_88 : decode method_3_code 88 = .ok (.iconst 3, 1) := by decide +kernel
theorem d2_89 : decode method_3_code 89 = .ok (.ireturn, 1) := by decide +kernel
theorem pn_2 : plainName "com/example/keelstream/keelstream/protocol/ApiKeyIsFlexiblePinLaw" = true := by first | (simp [plainName, overriddenIn]; done) | decide +kernel
theorem ef_2 (m : MethodId) (p0 : Int32) : entryFrame m #[(.int p0)] 1 = mkF m 0 #[.val (.int p0)] [] := by first | (simp [entryFrame, mkF, argsToLocals, Value.category]; done) | rfl
def Q2 (Z : State) (p0 : Int32) (h0 : Heap) (n0 : Nat) (v : Option Value) (h : Heap) (L : List Loc) : Prop := ∃ (zz : Int32), v = some (.int zz) ∧ Fr n0 L ∧ h = h0 ∧ (((p0 = (0 : Int32)) ∧ zz = (9 : Int32)) ∨ ((¬ (p0 = (0 : Int32))) ∧ (p0 = (1 : Int32)) ∧ zz = (12 : Int32)) ∨ ((¬ (p0 = (0 : Int32))) ∧ (¬ (p0 = (1 : Int32))) ∧ (p0 = (2 : Int32)) ∧ zz = (6 : Int32)) ∨ ((¬ (p0 = (0 : Int32))) ∧ (¬ (p0 = (1 : Int32))) ∧ (¬ (p0 = (2 : Int32))) ∧ (p0 = (3 : Int32)) ∧ zz = (9 : Int32)) ∨ ((¬ (p0 = (0 : Int32))) ∧ (¬ (p0 = (1 : Int32))) ∧ (¬ (p0 = (2 : Int32))) ∧ (¬ (p0 = (3 : Int32))) ∧ (p0 = (4 : Int32)) ∧ zz = (8 : Int32)) ∨ ((¬ (p0 = (0 : Int32))) ∧ (¬ (p0 = (1 : Int32))) ∧ (¬ (p0 = (2 : Int32))) ∧ (¬ (p0 = (3 : Int32))) ∧ (¬ (p0 = (4 : Int32))) ∧ (p0 = (5 : Int32)) ∧ zz = (6 : Int32)) ∨ ((¬ (p0 = (0 : Int32))) ∧ (¬ (p0 = (1 : Int32))) ∧ (¬ (p0 = (2 : Int32))) ∧ (¬ (p0 = (3 : Int32))) ∧ (¬ (p0 = (4 : Int32))) ∧ (¬ (p0 = (5 : Int32))) ∧ (p0 = (6 : Int32)) ∧ zz = (3 : Int32)) ∨ ((¬ (p0 = (0 : Int32))) ∧ (¬ (p0 = (1 : Int32))) ∧ (¬ (p0 = (2 : Int32))) ∧ (¬ (p0 = (3 : Int32))) ∧ (¬ (p0 = (4 : Int32))) ∧ (¬ (p0 = (5 : Int32))) ∧ (¬ (p0 = (6 : Int32))) ∧ (p0 = (7 : Int32)) ∧ zz = (6 : Int32)) ∨ ((¬ (p0 = (0 : Int32))) ∧ (¬ (p0 = (1 : Int32))) ∧ (¬ (p0 = (2 : Int32))) ∧ (¬ (p0 = (3 : Int32))) ∧ (¬ (p0 = (4 : Int32))) ∧ (¬ (p0 = (5 : Int32))) ∧ (¬ (p0 = (6 : Int32))) ∧ (¬ (p0 = (7 : Int32))) ∧ (p0 = (8 : Int32)) ∧ zz = (4 : Int32)) ∨ ((¬ (p0 = (0 : Int32))) ∧ (¬ (p0 = (1 : Int32))) ∧ (¬ (p0 = (2 : Int32))) ∧ (¬ (p0 = (3 : Int32))) ∧ (¬ (p0 = (4 : Int32))) ∧ (¬ (p0 = (5 : Int32))) ∧ (¬ (p0 = (6 : Int32))) ∧ (¬ (p0 = (7 : Int32))) ∧ (¬ (p0 = (8 : Int32))) ∧ (p0 = (9 : Int32)) ∧ zz = (4 : Int32)) ∨ ((¬ (p0 = (0 : Int32))) ∧ (¬ (p0 = (1 : Int32))) ∧ (¬ (p0 = (2 : Int32))) ∧ (¬ (p0 = (3 : Int32))) ∧ (¬ (p0 = (4 : Int32))) ∧ (¬ (p0 = (5 : Int32))) ∧ (¬ (p0 = (6 : Int32))) ∧ (¬ (p0 = (7 : Int32))) ∧ (¬ (p0 = (8 : Int32))) ∧ (¬ (p0 = (9 : Int32))) ∧ (p0 = (10 : Int32)) ∧ zz = (4 : Int32)) ∨ ((¬ (p0 = (0 : Int32))) ∧ (¬ (p0 = (1 : Int32))) ∧ (¬ (p0 = (2 : Int32))) ∧ (¬ (p0 = (3 : Int32))) ∧ (¬ (p0 = (4 : Int32))) ∧ (¬ (p0 = (5 : Int32))) ∧ (¬ (p0 = (6 : Int32))) ∧ (¬ (p0 = (7 : Int32))) ∧ (¬ (p0 = (8 : Int32))) ∧ (¬ (p0 = (9 : Int32))) ∧ (¬ (p0 = (10 : Int32))) ∧ zz = (3 : Int32)))
set_option maxRecDepth 65536 in
set_option maxHeartbeats 40000000 in
theorem rm2 (l : Launch) (Z : State) (A0 : Array Value) (hw : ∀ d ∈ tables_1, d.before A0 Z = true) (ws : List Jvm.Cond) (p0 : Int32) (h0 : Heap) (n0 : Nat) (Z0 : n0 ≤ h0.size) :
    MetFree l (⟨"com/example/keelstream/keelstream/protocol/ApiKeyIsFlexiblePinLaw", "firstFlexible", "(I)I"⟩ : MethodName) (head1 (Jvm.Cond.code (⟨"com/example/keelstream/keelstream/protocol/ApiKeyIsFlexiblePinLaw", "firstFlexible", "(I)I"⟩ : MethodName) method_3_code 1 (some .int) :: ws) ({ frames := 0, cells := 0, slots := 0, locals := 0 } : Room)) (fun a U => a = #[(.int p0)] ∧ Z.Warmed39 U.vm ∧ U.heap = h0) (fun _ _ _ _ _ => True) (fun _ U o U' => ∃ v L, o = .returned v ∧ Q2 Z p0 h0 n0 v U'.heap L ∧ FrameEnd U o U' L 0 0) := by
  refine MetFree.of_bodySF (plainFor_of_name pn_2) hisR ?_
  intro p e s m args below meth c s₁ Bd hml0 hP hK
  obtain ⟨rfl, hZ, hh⟩ := hP
  have hx := Bd.exec
  have hby := Bd.bytes
  have hml : c.maxLocals = 1 := hml0
  have hlk : meth.locks = false := Bd.notSynchronized
  have hown : s.vm.findClass "com/example/keelstream/keelstream/protocol/ApiKeyIsFlexiblePinLaw" = some m.cls := findClass_of_methodNamed Bd.named
  have hnm := (name_of_methodNamed Bd.named Bd.method).1
  have X0 : Stand p l e ({ frames := 0, cells := 0, slots := 0, locals := 0 } : Room) s m #[(.int p0)] below meth c s₁ [] 0 0 := Stand.of_body Bd
  have e0 : s₁.heap = h0 := by rw [← hh, Bd.state]; rfl
  have N0 := Fr.nil n0
  show own_Go p e below (own_Fin s 0 0 (Q2 Z p0 h0 n0)) _
  refine own_by (fun t k => castTop (ef_2 m p0) k) ?_
  show own_Go p e below _ (s₁.setTop (mkF m 0 #[.val (.int p0)] []))
  refine own_by (fun _ k => XS.iloadN X0.here hx rfl (hb hby d2_0) rfl k) ?_
  show own_Go p e below _ (s₁.setTop (mkF m 1 #[.val (.int p0)] [(.int p0)]))
  by_cases c1 : p0 = (0 : Int32)
  · skip
    refine own_by (fun _ k => XS.ifNo X0.here hx rfl (hb hby d2_1) rfl ((if0 _ _).trans (teq c1).2) k) ?_
    show own_Go p e below _ (s₁.setTop (mkF m 4 #[.val (.int p0)] []))
    refine own_by (fun _ k => XS.bipush X0.here hx rfl (hb hby d2_4) k) ?_
    show own_Go p e below _ (s₁.setTop (mkF m 6 #[.val (.int p0)] [(.int (9 : Int32))]))
    exact own_retI X0 hx Bd.returns (hb hby d2_6) hlk e0 ⟨_, rfl, N0, rfl, (Or.inl ⟨c1, rfl⟩)⟩ (by decide) (by decide)
  · skip
    refine own_by (fun _ k => XS.ifYes X0.here hx rfl (pc0 := 1) (pc' := 7) rfl (hb hby d2_1) rfl ((if0 _ _).trans (feq c1).2) (by decide) (by decide) k) ?_
    show own_Go p e below _ (s₁.setTop (mkF m 7 #[.val (.int p0)] []))
    refine own_by (fun _ k => XS.iloadN X0.here hx rfl (hb hby d2_7) rfl k) ?_
    show own_Go p e below _ (s₁.setTop (mkF m 8 #[.val (.int p0)] [(.int p0)]))
    refine own_by (fun _ k => XS.iconst X0.here hx rfl (hb hby d2_8) k) ?_
    show own_Go p e below _ (s₁.setTop (mkF m 9 #[.val (.int p0)] [(.int (1 : Int32)), (.int p0)]))
    by_cases c2 : p0 = (1 : Int32)
    · skip
      refine own_by (fun _ k => XS.icmpNo X0.here hx rfl (hb hby d2_9) rfl (teq c2).2 k) ?_
      show own_Go p e below _ (s₁.setTop (mkF m 12 #[.val (.int p0)] []))
      refine own_by (fun _ k => XS.bipush X0.here hx rfl (hb hby d2_12) k) ?_
      show own_Go p e below _ (s₁.setTop (mkF m 14 #[.val (.int p0)] [(.int (12 : Int32))]))
      exact own_retI X0 hx Bd.returns (hb hby d2_14) hlk e0 ⟨_, rfl, N0, rfl, (Or.inr (Or.inl ⟨c1, c2, rfl⟩))⟩ (by decide) (by decide)
    · skip
      refine own_by (fun _ k => XS.icmpYes X0.here hx rfl (pc0 := 9) (pc' := 15) rfl (hb hby d2_9) rfl (feq c2).2 (by decide) (by decide) k) ?_
      show own_Go p e below _ (s₁.setTop (mkF m 15 #[.val (.int p0)] []))
      refine own_by (fun _ k => XS.iloadN X0.here hx rfl (hb hby d2_15) rfl k) ?_
      show own_Go p e below _ (s₁.setTop (mkF m 16 #[.val (.int p0)] [(.int p0)]))
      refine own_by (fun _ k => XS.iconst X0.here hx rfl (hb hby d2_16) k) ?_
      show own_Go p e below _ (s₁.setTop (mkF m 17 #[.val (.int p0)] [(.int (2 : Int32)), (.int p0)]))
      by_cases c3 : p0 = (2 : Int32)
      · skip
        refine own_by (fun _ k => XS.icmpNo X0.here hx rfl (hb hby d2_17) rfl (teq c3).2 k) ?_
        show own_Go p e below _ (s₁.setTop (mkF m 20 #[.val (.int p0)] []))
        refine own_by (fun _ k => XS.bipush X0.here hx rfl (hb hby d2_20) k) ?_
        show own_Go p e below _ (s₁.setTop (mkF m 22 #[.val (.int p0)] [(.int (6 : Int32))]))
        exact own_retI X0 hx Bd.returns (hb hby d2_22) hlk e0 ⟨_, rfl, N0, rfl, (Or.inr (Or.inr (Or.inl ⟨c1, c2, c3, rfl⟩)))⟩ (by decide) (by decide)
      · skip
        refine own_by (fun _ k => XS.icmpYes X0.here hx rfl (pc0 := 17) (pc' := 23) rfl (hb hby d2_17) rfl (feq c3).2 (by decide) (by decide) k) ?_
        show own_Go p e below _ (s₁.setTop (mkF m 23 #[.val (.int p0)] []))
        refine own_by (fun _ k => XS.iloadN X0.here hx rfl (hb hby d2_23) rfl k) ?_
        show own_Go p e below _ (s₁.setTop (mkF m 24 #[.val (.int p0)] [(.int p0)]))
        refine own_by (fun _ k => XS.iconst X0.here hx rfl (hb hby d2_24) k) ?_
        show own_Go p e below _ (s₁.setTop (mkF m 25 #[.val (.int p0)] [(.int (3 : Int32)), (.int p0)]))
        by_cases c4 : p0 = (3 : Int32)
        · skip
          refine own_by (fun _ k => XS.icmpNo X0.here hx rfl (hb hby d2_25) rfl (teq c4).2 k) ?_
          show own_Go p e below _ (s₁.setTop (mkF m 28 #[.val (.int p0)] []))
          refine own_by (fun _ k => XS.bipush X0.here hx rfl (hb hby d2_28) k) ?_
          show own_Go p e below _ (s₁.setTop (mkF m 30 #[.val (.int p0)] [(.int (9 : Int32))]))
          exact own_retI X0 hx Bd.returns (hb hby d2_30) hlk e0 ⟨_, rfl, N0, rfl, (Or.inr (Or.inr (Or.inr (Or.inl ⟨c1, c2, c3, c4, rfl⟩))))⟩ (by decide) (by decide)
        · skip
          refine own_by (fun _ k => XS.icmpYes X0.here hx rfl (pc0 := 25) (pc' := 31) rfl (hb hby d2_25) rfl (feq c4).2 (by decide) (by decide) k) ?_
          show own_Go p e below _ (s₁.setTop (mkF m 31 #[.val (.int p0)] []))
          refine own_by (fun _ k => XS.iloadN X0.here hx rfl (hb hby d2_31) rfl k) ?_
          show own_Go p e below _ (s₁.setTop (mkF m 32 #[.val (.int p0)] [(.int p0)]))
          refine own_by (fun _ k => XS.iconst X0.here hx rfl (hb hby d2_32) k) ?_
          show own_Go p e below _ (s₁.setTop (mkF m 33 #[.val (.int p0)] [(.int (4 : Int32)), (.int p0)]))
          by_cases c5 : p0 = (4 : Int32)
          · skip
            refine own_by (fun _ k => XS.icmpNo X0.here hx rfl (hb hby d2_33) rfl (teq c5).2 k) ?_
            show own_Go p e below _ (s₁.setTop (mkF m 36 #[.val (.int p0)] []))
            refine own_by (fun _ k => XS.bipush X0.here hx rfl (hb hby d2_36) k) ?_
            show own_Go p e below _ (s₁.setTop (mkF m 38 #[.val (.int p0)] [(.int (8 : Int32))]))
            exact own_retI X0 hx Bd.returns (hb hby d2_38) hlk e0 ⟨_, rfl, N0, rfl, (Or.inr (Or.inr (Or.inr (Or.inr (Or.inl ⟨c1, c2, c3, c4, c5, rfl⟩)))))⟩ (by decide) (by decide)
          · skip
            refine own_by (fun _ k => XS.icmpYes X0.here hx rfl (pc0 := 33) (pc' := 39) rfl (hb hby d2_33) rfl (feq c5).2 (by decide) (by decide) k) ?_
            show own_Go p e below _ (s₁.setTop (mkF m 39 #[.val (.int p0)] []))
            refine own_by (fun _ k => XS.iloadN X0.here hx rfl (hb hby d2_39) rfl k) ?_
            show own_Go p e below _ (s₁.setTop (mkF m 40 #[.val (.int p0)] [(.int p0)]))
            refine own_by (fun _ k => XS.iconst X0.here hx rfl (hb hby d2_40) k) ?_
            show own_Go p e below _ (s₁.setTop (mkF m 41 #[.val (.int p0)] [(.int (5 : Int32)), (.int p0)]))
            by_cases c6 : p0 = (5 : Int32)
            · skip
              refine own_by (fun _ k => XS.icmpNo X0.here hx rfl (hb hby d2_41) rfl (teq c6).2 k) ?_
              show own_Go p e below _ (s₁.setTop (mkF m 44 #[.val (.int p0)] []))
              refine own_by (fun _ k => XS.bipush X0.here hx rfl (hb hby d2_44) k) ?_
              show own_Go p e below _ (s₁.setTop (mkF m 46 #[.val (.int p0)] [(.int (6 : Int32))]))
              exact own_retI X0 hx Bd.returns (hb hby d2_46) hlk e0 ⟨_, rfl, N0, rfl, (Or.inr (Or.inr (Or.inr (Or.inr (Or.inr (Or.inl ⟨c1, c2, c3, c4, c5, c6, rfl⟩))))))⟩ (by decide) (by decide)
            · skip
              refine own_by (fun _ k => XS.icmpYes X0.here hx rfl (pc0 := 41) (pc' := 47) rfl (hb hby d2_41) rfl (feq c6).2 (by decide) (by decide) k) ?_
              show own_Go p e below _ (s₁.setTop (mkF m 47 #[.val (.int p0)] []))
              refine own_by (fun _ k => XS.iloadN X0.here hx rfl (hb hby d2_47) rfl k) ?_
              show own_Go p e below _ (s₁.setTop (mkF m 48 #[.val (.int p0)] [(.int p0)]))
              refine own_by (fun _ k => XS.bipush X0.here hx rfl (hb hby d2_48) k) ?_
              show own_Go p e below _ (s₁.setTop (mkF m 50 #[.val (.int p0)] [(.int (6 : Int32)), (.int p0)]))
              by_cases c7 : p0 = (6 : Int32)
              · skip
                refine own_by (fun _ k => XS.icmpNo X0.here hx rfl (hb hby d2_50) rfl (teq c7).2 k) ?_
                show own_Go p e below _ (s₁.setTop (mkF m 53 #[.val (.int p0)] []))
                refine own_by (fun _ k => XS.iconst X0.here hx rfl (hb hby d2_53) k) ?_
                show own_Go p e below _ (s₁.setTop (mkF m 54 #[.val (.int p0)] [(.int (3 : Int32))]))
                exact own_retI X0 hx Bd.returns (hb hby d2_54) hlk e0 ⟨_, rfl, N0, rfl, (Or.inr (Or.inr (Or.inr (Or.inr (Or.inr (Or.inr (Or.inl ⟨c1, c2, c3, c4, c5, c6, c7, rfl⟩)))))))⟩ (by decide) (by decide)
              · skip
                refine own_by (fun _ k => XS.icmpYes X0.here hx rfl (pc0 := 50) (pc' := 55) rfl (hb hby d2_50) rfl (feq c7).2 (by decide) (by decide) k) ?_
                show own_Go p e below _ (s₁.setTop (mkF m 55 #[.val (.int p0)] []))
                refine own_by (fun _ k => XS.iloadN X0.here hx rfl (hb hby d2_55) rfl k) ?_
                show own_Go p e below _ (s₁.setTop (mkF m 56 #[.val (.int p0)] [(.int p0)]))
                refine own_by (fun _ k => XS.bipush X0.here hx rfl (hb hby d2_56) k) ?_
                show own_Go p e below _ (s₁.setTop (mkF m 58 #[.val (.int p0)] [(.int (7 : Int32)), (.int p0)]))
                by_cases c8 : p0 = (7 : Int32)
                · skip
                  refine own_by (fun _ k => XS.icmpNo X0.here hx rfl (hb hby d2_58) rfl (teq c8).2 k) ?_
                  show own_Go p e below _ (s₁.setTop (mkF m 61 #[.val (.int p0)] []))
                  refine own_by (fun _ k => XS.bipush X0.here hx rfl (hb hby d2_61) k) ?_
                  show own_Go p e below _ (s₁.setTop (mkF m 63 #[.val (.int p0)] [(.int (6 : Int32))]))
                  exact own_retI X0 hx Bd.returns (hb hby d2_63) hlk e0 ⟨_, rfl, N0, rfl, (Or.inr (Or.inr (Or.inr (Or.inr (Or.inr (Or.inr (Or.inr (Or.inl ⟨c1, c2, c3, c4, c5, c6, c7, c8, rfl⟩))))))))⟩ (by decide) (by decide)
                · skip
                  refine own_by (fun _ k => XS.icmpYes X0.here hx rfl (pc0 := 58) (pc' := 64) rfl (hb hby d2_58) rfl (feq c8).2 (by decide) (by decide) k) ?_
                  show own_Go p e below _ (s₁.setTop (mkF m 64 #[.val (.int p0)] []))
                  refine own_by (fun _ k => XS.iloadN X0.here hx rfl (hb hby d2_64) rfl k) ?_
                  show own_Go p e below _ (s₁.setTop (mkF m 65 #[.val (.int p0)] [(.int p0)]))
                  refine own_by (fun _ k => XS.bipush X0.here hx rfl (hb hby d2_65) k) ?_
                  show own_Go p e below _ (s₁.setTop (mkF m 67 #[.val (.int p0)] [(.int (8 : Int32)), (.int p0)]))
                  by_cases c9 : p0 = (8 : Int32)
                  · skip
                    refine own_by (fun _ k => XS.icmpNo X0.here hx rfl (hb hby d2_67) rfl (teq c9).2 k) ?_
                    show own_Go p e below _ (s₁.setTop (mkF m 70 #[.val (.int p0)] []))
                    refine own_by (fun _ k => XS.iconst X0.here hx rfl (hb hby d2_70) k) ?_
                    show own_Go p e below _ (s₁.setTop (mkF m 71 #[.val (.int p0)] [(.int (4 : Int32))]))
                    exact own_retI X0 hx Bd.returns (hb hby d2_71) hlk e0 ⟨_, rfl, N0, rfl, (Or.inr (Or.inr (Or.inr (Or.inr (Or.inr (Or.inr (Or.inr (Or.inr (Or.inl ⟨c1, c2, c3, c4, c5, c6, c7, c8, c9, rfl⟩)))))))))⟩ (by decide) (by decide)
                  · skip
                    refine own_by (fun _ k => XS.icmpYes X0.here hx rfl (pc0 := 67) (pc' := 72) rfl (hb hby d2_67) rfl (feq c9).2 (by decide) (by decide) k) ?_
                    show own_Go p e below _ (s₁.setTop (mkF m 72 #[.val (.int p0)] []))
                    refine own_by (fun _ k => XS.iloadN X0.here hx rfl (hb hby d2_72) rfl k) ?_
                    show own_Go p e below _ (s₁.setTop (mkF m 73 #[.val (.int p0)] [(.int p0)]))
                    refine own_by (fun _ k => XS.bipush X0.here hx rfl (hb hby d2_73) k) ?_
                    show own_Go p e below _ (s₁.setTop (mkF m 75 #[.val (.int p0)] [(.int (9 : Int32)), (.int p0)]))
                    by_cases c10 : p0 = (9 : Int32)
                    · skip
                      refine own_by (fun _ k => XS.icmpNo X0.here hx rfl (hb hby d2_75) rfl (teq c10).2 k) ?_
                      show own_Go p e below _ (s₁.setTop (mkF m 78 #[.val (.int p0)] []))
                      refine own_by (fun _ k => XS.iconst X0.here hx rfl (hb hby d2_78) k) ?_
                      show own_Go p e below _ (s₁.setTop (mkF m 79 #[.val (.int p0)] [(.int (4 : Int32))]))
                      exact own_retI X0 hx Bd.returns (hb hby d2_79) hlk e0 ⟨_, rfl, N0, rfl, (Or.inr (Or.inr (Or.inr (Or.inr (Or.inr (Or.inr (Or.inr (Or.inr (Or.inr (Or.inl ⟨c1, c2, c3, c4, c5, c6, c7, c8, c9, c10, rfl⟩))))))))))⟩ (by decide) (by decide)
                    · skip
                      refine own_by (fun _ k => XS.icmpYes X0.here hx rfl (pc0 := 75) (pc' := 80) rfl (hb hby d2_75) rfl (feq c10).2 (by decide) (by decide) k) ?_
                      show own_Go p e below _ (s₁.setTop (mkF m 80 #[.val (.int p0)] []))
                      refine own_by (fun _ k => XS.iloadN X0.here hx rfl (hb hby d2_80) rfl k) ?_
                      show own_Go p e below _ (s₁.setTop (mkF m 81 #[.val (.int p0)] [(.int p0)]))
                      refine own_by (fun _ k => XS.bipush X0.here hx rfl (hb hby d2_81) k) ?_
                      show own_Go p e below _ (s₁.setTop (mkF m 83 #[.val (.int p0)] [(.int (10 : Int32)), (.int p0)]))
                      by_cases c11 : p0 = (10 : Int32)
                      · skip
                        refine own_by (fun _ k => XS.icmpNo X0.here hx rfl (hb hby d2_83) rfl (teq c11).2 k) ?_
                        show own_Go p e below _ (s₁.setTop (mkF m 86 #[.val (.int p0)] []))
                        refine own_by (fun _ k => XS.iconst X0.here hx rfl (hb hby d2_86) k) ?_
                        show own_Go p e below _ (s₁.setTop (mkF m 87 #[.val (.int p0)] [(.int (4 : Int32))]))
                        exact own_retI X0 hx Bd.returns (hb hby d2_87) hlk e0 ⟨_, rfl, N0, rfl, (Or.inr (Or.inr (Or.inr (Or.inr (Or.inr (Or.inr (Or.inr (Or.inr (Or.inr (Or.inr (Or.inl ⟨c1, c2, c3, c4, c5, c6, c7, c8, c9, c10, c11, rfl⟩)))))))))))⟩ (by decide) (by decide)
                      · skip
                        refine own_by (fun _ k => XS.icmpYes X0.here hx rfl (pc0 := 83) (pc' := 88) rfl (hb hby d2_83) rfl (feq c11).2 (by decide) (by decide) k) ?_
                        show own_Go p e below _ (s₁.setTop (mkF m 88 #[.val (.int p0)] []))
                        refine own_by (fun _ k => XS.iconst X0.here hx rfl (hb hby d2_88) k) ?_
                        show own_Go p e below _ (s₁.setTop (mkF m 89 #[.val (.int p0)] [(.int (3 : Int32))]))
                        exact own_retI X0 hx Bd.returns (hb hby d2_89) hlk e0 ⟨_, rfl, N0, rfl, (Or.inr (Or.inr (Or.inr (Or.inr (Or.inr (Or.inr (Or.inr (Or.inr (Or.inr (Or.inr (Or.inr (⟨c1, c2, c3, c4, c5, c6, c7, c8, c9, c10, c11, rfl⟩))))))))))))⟩ (by decide) (by decide)
theorem d3_0 : decode prog_5_method_9_code 0 = .ok (.iload_n 1, 1) := by decide +kernel
theorem d3_1 : decode prog_5_method_9_code 1 = .ok (.aload_n 0, 1) := by decide +kernel
theorem d3_2 : decode prog_5_method_9_code 2 = .ok (.getfield 69, 3) := by decide +kernel
theorem d3_5 : decode prog_5_method_9_code 5 = .ok (.if_icmp .lt 7, 3) := by decide +kernel
theorem d3_8 : decode prog_5_method_9_code 8 = .ok (.iconst 1, 1) := by decide +kernel
theorem d3_9 : decode prog_5_method_9_code 9 = .ok (.goto 4, 3) := by decide +kernel
theorem d3_12 : decode prog_5_method_9_code 12 = .ok (.iconst 0, 1) := by decide +kernel
theorem d3_13 : decode prog_5_method_9_code 13 = .ok (.ireturn, 1) := by decide +kernel
theorem pn_3 : plainName "com/example/keelstream/keelstream/protocol/ApiKey" = true := by first | (simp [plainName, overriddenIn]; done) | decide +kernel
theorem ef_3 (m : MethodId) (a0 : Addr) (p1 : Int32) : entryFrame m #[(.ref a0), (.int p1)] 2 = mkF m 0 #[.val (.ref a0), .val (.int p1)] [] := by first | (simp [entryFrame, mkF, argsToLocals, Value.category]; done) | rfl
def Q3 (Z : State) (a0 : Addr) (p1 : Int32) (f_a0_firstFlexibleVersion : Int32) (h0 : Heap) (n0 : Nat) (v : Option Value) (h : Heap) (L : List Loc) : Prop := ∃ (zz : Int32), v = some (.int zz) ∧ Fr n0 L ∧ h = h0 ∧ (((p1 < f_a0_firstFlexibleVersion) ∧ zz = (0 : Int32)) ∨ ((¬ (p1 < f_a0_firstFlexibleVersion)) ∧ zz = (1 : Int32)))
set_option maxRecDepth 65536 in
set_option maxHeartbeats 40000000 in
theorem rm3 (l : Launch) (Z : State) (A0 : Array Value) (hw : ∀ d ∈ tables_1, d.before A0 Z = true) (ws : List Jvm.Cond) (a0 : Addr) (p1 : Int32) (f_a0_firstFlexibleVersion : Int32) (h0 : Heap) (n0 : Nat) (Z0 : n0 ≤ h0.size) (P_F_a0_firstFlexibleVersion : Fld Z h0 a0 "com/example/keelstream/keelstream/protocol/ApiKey" "firstFlexibleVersion" "S" (.int f_a0_firstFlexibleVersion)) :
    MetFree l (⟨"com/example/keelstream/keelstream/protocol/ApiKey", "isFlexible", "(S)Z"⟩ : MethodName) (head1 (Jvm.Cond.code (⟨"com/example/keelstream/keelstream/protocol/ApiKey", "isFlexible", "(S)Z"⟩ : MethodName) prog_5_method_9_code 2 (some .boolean) :: ws) ({ frames := 0, cells := 0, slots := 0, locals := 0 } : Room)) (fun a U => a = #[(.ref a0), (.int p1)] ∧ Z.Warmed39 U.vm ∧ U.heap = h0) (fun _ _ _ _ _ => True) (fun _ U o U' => ∃ v L, o = .returned v ∧ Q3 Z a0 p1 f_a0_firstFlexibleVersion h0 n0 v U'.heap L ∧ FrameEnd U o U' L 0 0) := by
  refine MetFree.of_bodySF (plainFor_of_name pn_3) hisR ?_
  intro p e s m args below meth c s₁ Bd hml0 hP hK
  obtain ⟨rfl, hZ, hh⟩ := hP
  have hx := Bd.exec
  have hby := Bd.bytes
  have hml : c.maxLocals = 2 := hml0
  have hlk : meth.locks = false := Bd.notSynchronized
  have hown : s.vm.findClass "com/example/keelstream/keelstream/protocol/ApiKey" = some m.cls := findClass_of_methodNamed Bd.named
  have hnm := (name_of_methodNamed Bd.named Bd.method).1
  have X0 : Stand p l e ({ frames := 0, cells := 0, slots := 0, locals := 0 } : Room) s m #[(.ref a0), (.int p1)] below meth c s₁ [] 0 0 := Stand.of_body Bd
  have e0 : s₁.heap = h0 := by rw [← hh, Bd.state]; rfl
  have N0 := Fr.nil n0
  show own_Go p e below (own_Fin s 0 0 (Q3 Z a0 p1 f_a0_firstFlexibleVersion h0 n0)) _
  refine own_by (fun t k => castTop (ef_3 m a0 p1) k) ?_
  show own_Go p e below _ (s₁.setTop (mkF m 0 #[.val (.ref a0), .val (.int p1)] []))
  refine own_by (fun _ k => XS.iloadN X0.here hx rfl (hb hby d3_0) rfl k) ?_
  show own_Go p e below _ (s₁.setTop (mkF m 1 #[.val (.ref a0), .val (.int p1)] [(.int p1)]))
  refine own_by (fun _ k => XS.aloadN X0.here hx rfl (hb hby d3_1) rfl rfl k) ?_
  show own_Go p e below _ (s₁.setTop (mkF m 2 #[.val (.ref a0), .val (.int p1)] [(.ref a0), (.int p1)]))
  obtain ⟨T1, X1, e1, st1⟩ := getF X0 hx hZ hown (host := "") (Or.inl (hw _ (List.mem_of_getElem? (i := 16) rfl))) Via.refl e0 P_F_a0_firstFlexibleVersion (g := (mkF m 2 #[.val (.ref a0), .val (.int p1)] [(.ref a0), (.int p1)])) rfl rfl (hb hby d3_2)
  refine own_by st1 ?_
  show own_Go p e below _ (T1.setTop (mkF m 5 #[.val (.ref a0), .val (.int p1)] [(.int f_a0_firstFlexibleVersion), (.int p1)]))
  by_cases c2 : p1 < f_a0_firstFlexibleVersion
  · skip
    refine own_by (fun _ k => XS.icmpYes X1.here hx rfl (pc0 := 5) (pc' := 12) rfl (hb hby d3_5) rfl (tlt c2).1 (by decide) (by decide) k) ?_
    show own_Go p e below _ (T1.setTop (mkF m 12 #[.val (.ref a0), .val (.int p1)] []))
    refine own_by (fun _ k => XS.iconst X1.here hx rfl (hb hby d3_12) k) ?_
    show own_Go p e below _ (T1.setTop (mkF m 13 #[.val (.ref a0), .val (.int p1)] [(.int (0 : Int32))]))
    exact own_retN X1 hx (t := .boolean) Bd.returns (by simp) (hb hby d3_13) hlk e1 ⟨_, rfl, N0, rfl, (Or.inl ⟨c2, rfl⟩)⟩ (by decide) (by decide)
  · skip
    refine own_by (fun _ k => XS.icmpNo X1.here hx rfl (hb hby d3_5) rfl (flt c2).1 k) ?_
    show own_Go p e below _ (T1.setTop (mkF m 8 #[.val (.ref a0), .val (.int p1)] []))
    refine own_by (fun _ k => XS.iconst X1.here hx rfl (hb hby d3_8) k) ?_
    show own_Go p e below _ (T1.setTop (mkF m 9 #[.val (.ref a0), .val (.int p1)] [(.int (1 : Int32))]))
    refine own_by (fun _ k => XS.goto X1.here hx rfl (pc0 := 9) (pc' := 13) rfl (hb hby d3_9) (by decide) (by decide) k) ?_
    show own_Go p e below _ (T1.setTop (mkF m 13 #[.val (.ref a0), .val (.int p1)] [(.int (1 : Int32))]))
    exact own_retN X1 hx (t := .boolean) Bd.returns (by simp) (hb hby d3_13) hlk e1 ⟨_, rfl, N0, rfl, (Or.inr (⟨c2, rfl⟩))⟩ (by decide) (by decide)
theorem pd_1 : parseMethodDescriptor "(I)Lcom/example/keelstream/keelstream/protocol/ApiKey;" = some ⟨[.int], some (.object "com/example/keelstream/keelstream/protocol/ApiKey")⟩ := by decide +kernel
theorem pd_8 : parseMethodDescriptor "(I)I" = some ⟨[.int], some .int⟩ := by decide +kernel
theorem pd_11 : parseMethodDescriptor "(S)Z" = some ⟨[.short], some .boolean⟩ := by decide +kernel
theorem pn_0 : plainName "com/example/keelstream/keelstream/protocol/ApiKeyIsFlexiblePinLaw" = true := by first | (simp [plainName, overriddenIn]; done) | decide +kernel
theorem ef_0 (m : MethodId) (p0 : Int32) (p1 : Int32) : entryFrame m #[(.int p0), (.int p1)] maxLocals = mkF m 0 #[.val (.int p0), .val (.int p1), .unset, .unset, .unset, .unset, .unset, .unset, .unset] [] := by first | (simp [entryFrame, mkF, argsToLocals, Value.category, maxLocals]; done) | rfl
theorem ob_0_1 (p0 : Int32) (p1 : Int32) (v1 : Int32) (o4 : Int32) (o9 : Int32) (v11 : Int32) (o13 : Int32) (z22 : Int32) (z31 : Int32) (o34 : Int32) (o37 : Int32) (z46 : Int32) (hv1 : ((p0 &&& (2147483647 : Int32)) % (12 : Int32)) = v1) (hp7 : ((v1 = (0 : Int32)) ∧ o4 = (9 : Int32)) ∨ ((¬ (v1 = (0 : Int32))) ∧ (v1 = (1 : Int32)) ∧ o4 = (12 : Int32)) ∨ ((¬ (v1 = (0 : Int32))) ∧ (¬ (v1 = (1 : Int32))) ∧ (v1 = (2 : Int32)) ∧ o4 = (6 : Int32)) ∨ ((¬ (v1 = (0 : Int32))) ∧ (¬ (v1 = (1 : Int32))) ∧ (¬ (v1 = (2 : Int32))) ∧ (v1 = (3 : Int32)) ∧ o4 = (9 : Int32)) ∨ ((¬ (v1 = (0 : Int32))) ∧ (¬ (v1 = (1 : Int32))) ∧ (¬ (v1 = (2 : Int32))) ∧ (¬ (v1 = (3 : Int32))) ∧ (v1 = (4 : Int32)) ∧ o4 = (8 : Int32)) ∨ ((¬ (v1 = (0 : Int32))) ∧ (¬ (v1 = (1 : Int32))) ∧ (¬ (v1 = (2 : Int32))) ∧ (¬ (v1 = (3 : Int32))) ∧ (¬ (v1 = (4 : Int32))) ∧ (v1 = (5 : Int32)) ∧ o4 = (6 : Int32)) ∨ ((¬ (v1 = (0 : Int32))) ∧ (¬ (v1 = (1 : Int32))) ∧ (¬ (v1 = (2 : Int32))) ∧ (¬ (v1 = (3 : Int32))) ∧ (¬ (v1 = (4 : Int32))) ∧ (¬ (v1 = (5 : Int32))) ∧ (v1 = (6 : Int32)) ∧ o4 = (3 : Int32)) ∨ ((¬ (v1 = (0 : Int32))) ∧ (¬ (v1 = (1 : Int32))) ∧ (¬ (v1 = (2 : Int32))) ∧ (¬ (v1 = (3 : Int32))) ∧ (¬ (v1 = (4 : Int32))) ∧ (¬ (v1 = (5 : Int32))) ∧ (¬ (v1 = (6 : Int32))) ∧ (v1 = (7 : Int32)) ∧ o4 = (6 : Int32)) ∨ ((¬ (v1 = (0 : Int32))) ∧ (¬ (v1 = (1 : Int32))) ∧ (¬ (v1 = (2 : Int32))) ∧ (¬ (v1 = (3 : Int32))) ∧ (¬ (v1 = (4 : Int32))) ∧ (¬ (v1 = (5 : Int32))) ∧ (¬ (v1 = (6 : Int32))) ∧ (¬ (v1 = (7 : Int32))) ∧ (v1 = (8 : Int32)) ∧ o4 = (4 : Int32)) ∨ ((¬ (v1 = (0 : Int32))) ∧ (¬ (v1 = (1 : Int32))) ∧ (¬ (v1 = (2 : Int32))) ∧ (¬ (v1 = (3 : Int32))) ∧ (¬ (v1 = (4 : Int32))) ∧ (¬ (v1 = (5 : Int32))) ∧ (¬ (v1 = (6 : Int32))) ∧ (¬ (v1 = (7 : Int32))) ∧ (¬ (v1 = (8 : Int32))) ∧ (v1 = (9 : Int32)) ∧ o4 = (4 : Int32)) ∨ ((¬ (v1 = (0 : Int32))) ∧ (¬ (v1 = (1 : Int32))) ∧ (¬ (v1 = (2 : Int32))) ∧ (¬ (v1 = (3 : Int32))) ∧ (¬ (v1 = (4 : Int32))) ∧ (¬ (v1 = (5 : Int32))) ∧ (¬ (v1 = (6 : Int32))) ∧ (¬ (v1 = (7 : Int32))) ∧ (¬ (v1 = (8 : Int32))) ∧ (¬ (v1 = (9 : Int32))) ∧ (v1 = (10 : Int32)) ∧ o4 = (4 : Int32)) ∨ ((¬ (v1 = (0 : Int32))) ∧ (¬ (v1 = (1 : Int32))) ∧ (¬ (v1 = (2 : Int32))) ∧ (¬ (v1 = (3 : Int32))) ∧ (¬ (v1 = (4 : Int32))) ∧ (¬ (v1 = (5 : Int32))) ∧ (¬ (v1 = (6 : Int32))) ∧ (¬ (v1 = (7 : Int32))) ∧ (¬ (v1 = (8 : Int32))) ∧ (¬ (v1 = (9 : Int32))) ∧ (¬ (v1 = (10 : Int32))) ∧ o4 = (3 : Int32))) (hp10 : ((v1 = (0 : Int32)) ∧ o9 = (9 : Int32)) ∨ ((¬ (v1 = (0 : Int32))) ∧ (v1 = (1 : Int32)) ∧ o9 = (12 : Int32)) ∨ ((¬ (v1 = (0 : Int32))) ∧ (¬ (v1 = (1 : Int32))) ∧ (v1 = (2 : Int32)) ∧ o9 = (6 : Int32)) ∨ ((¬ (v1 = (0 : Int32))) ∧ (¬ (v1 = (1 : Int32))) ∧ (¬ (v1 = (2 : Int32))) ∧ (v1 = (3 : Int32)) ∧ o9 = (9 : Int32)) ∨ ((¬ (v1 = (0 : Int32))) ∧ (¬ (v1 = (1 : Int32))) ∧ (¬ (v1 = (2 : Int32))) ∧ (¬ (v1 = (3 : Int32))) ∧ (v1 = (4 : Int32)) ∧ o9 = (8 : Int32)) ∨ ((¬ (v1 = (0 : Int32))) ∧ (¬ (v1 = (1 : Int32))) ∧ (¬ (v1 = (2 : Int32))) ∧ (¬ (v1 = (3 : Int32))) ∧ (¬ (v1 = (4 : Int32))) ∧ (v1 = (5 : Int32)) ∧ o9 = (6 : Int32)) ∨ ((¬ (v1 = (0 : Int32))) ∧ (¬ (v1 = (1 : Int32))) ∧ (¬ (v1 = (2 : Int32))) ∧ (¬ (v1 = (3 : Int32))) ∧ (¬ (v1 = (4 : Int32))) ∧ (¬ (v1 = (5 : Int32))) ∧ (v1 = (6 : Int32)) ∧ o9 = (3 : Int32)) ∨ ((¬ (v1 = (0 : Int32))) ∧ (¬ (v1 = (1 : Int32))) ∧ (¬ (v1 = (2 : Int32))) ∧ (¬ (v1 = (3 : Int32))) ∧ (¬ (v1 = (4 : Int32))) ∧ (¬ (v1 = (5 : Int32))) ∧ (¬ (v1 = (6 : Int32))) ∧ (v1 = (7 : Int32)) ∧ o9 = (6 : Int32)) ∨ ((¬ (v1 = (0 : Int32))) ∧ (¬ (v1 = (1 : Int32))) ∧ (¬ (v1 = (2 : Int32))) ∧ (¬ (v1 = (3 : Int32))) ∧ (¬ (v1 = (4 : Int32))) ∧ (¬ (v1 = (5 : Int32))) ∧ (¬ (v1 = (6 : Int32))) ∧ (¬ (v1 = (7 : Int32))) ∧ (v1 = (8 : Int32)) ∧ o9 = (4 : Int32)) ∨ ((¬ (v1 = (0 : Int32))) ∧ (¬ (v1 = (1 : Int32))) ∧ (¬ (v1 = (2 : Int32))) ∧ (¬ (v1 = (3 : Int32))) ∧ (¬ (v1 = (4 : Int32))) ∧ (¬ (v1 = (5 : Int32))) ∧ (¬ (v1 = (6 : Int32))) ∧ (¬ (v1 = (7 : Int32))) ∧ (¬ (v1 = (8 : Int32))) ∧ (v1 = (9 : Int32)) ∧ o9 = (4 : Int32)) ∨ ((¬ (v1 = (0 : Int32))) ∧ (¬ (v1 = (1 : Int32))) ∧ (¬ (v1 = (2 : Int32))) ∧ (¬ (v1 = (3 : Int32))) ∧ (¬ (v1 = (4 : Int32))) ∧ (¬ (v1 = (5 : Int32))) ∧ (¬ (v1 = (6 : Int32))) ∧ (¬ (v1 = (7 : Int32))) ∧ (¬ (v1 = (8 : Int32))) ∧ (¬ (v1 = (9 : Int32))) ∧ (v1 = (10 : Int32)) ∧ o9 = (4 : Int32)) ∨ ((¬ (v1 = (0 : Int32))) ∧ (¬ (v1 = (1 : Int32))) ∧ (¬ (v1 = (2 : Int32))) ∧ (¬ (v1 = (3 : Int32))) ∧ (¬ (v1 = (4 : Int32))) ∧ (¬ (v1 = (5 : Int32))) ∧ (¬ (v1 = (6 : Int32))) ∧ (¬ (v1 = (7 : Int32))) ∧ (¬ (v1 = (8 : Int32))) ∧ (¬ (v1 = (9 : Int32))) ∧ (¬ (v1 = (10 : Int32))) ∧ o9 = (3 : Int32))) (hv11 : (p1.toInt16.toInt32) = v11) (hp14 : ((v11 < o4) ∧ o13 = (0 : Int32)) ∨ ((¬ (v11 < o4)) ∧ o13 = (1 : Int32))) (hj23 : ((v11 < o9) ∧ z22 = (0 : Int32)) ∨ ((¬ (v11 < o9)) ∧ z22 = (1 : Int32))) (hj32 : ((o13 = z22) ∧ z31 = (1 : Int32)) ∨ ((¬ (o13 = z22)) ∧ z31 = (0 : Int32))) (hp35 : (((o9.toInt16.toInt32) < o4) ∧ o34 = (0 : Int32)) ∨ ((¬ ((o9.toInt16.toInt32) < o4)) ∧ o34 = (1 : Int32))) (hp38 : ((((o9 - (1 : Int32)).toInt16.toInt32) < o4) ∧ o37 = (0 : Int32)) ∨ ((¬ (((o9 - (1 : Int32)).toInt16.toInt32) < o4)) ∧ o37 = (1 : Int32))) (hj47 : ((o37 = (0 : Int32)) ∧ z46 = (1 : Int32)) ∨ ((¬ (o37 = (0 : Int32))) ∧ z46 = (0 : Int32))) (c48 : z31 = (0 : Int32)) : False := by
  obtain ⟨rfl, k⟩ := own_keys v1 o4 o9 hp7 hp10
  have k2 := own_keys16 o9 k
  clear hp7 hp10 k hv1 hv11
  generalize o9 - 1 = u at *
  generalize u.toInt16.toInt32 = u2 at *
  generalize o9.toInt16.toInt32 = u1 at *
  grind
theorem ob_0_2 (p0 : Int32) (p1 : Int32) (v1 : Int32) (o4 : Int32) (o9 : Int32) (v11 : Int32) (o13 : Int32) (z22 : Int32) (z31 : Int32) (o34 : Int32) (o37 : Int32) (z46 : Int32) (hv1 : ((p0 &&& (2147483647 : Int32)) % (12 : Int32)) = v1) (hp7 : ((v1 = (0 : Int32)) ∧ o4 = (9 : Int32)) ∨ ((¬ (v1 = (0 : Int32))) ∧ (v1 = (1 : Int32)) ∧ o4 = (12 : Int32)) ∨ ((¬ (v1 = (0 : Int32))) ∧ (¬ (v1 = (1 : Int32))) ∧ (v1 = (2 : Int32)) ∧ o4 = (6 : Int32)) ∨ ((¬ (v1 = (0 : Int32))) ∧ (¬ (v1 = (1 : Int32))) ∧ (¬ (v1 = (2 : Int32))) ∧ (v1 = (3 : Int32)) ∧ o4 = (9 : Int32)) ∨ ((¬ (v1 = (0 : Int32))) ∧ (¬ (v1 = (1 : Int32))) ∧ (¬ (v1 = (2 : Int32))) ∧ (¬ (v1 = (3 : Int32))) ∧ (v1 = (4 : Int32)) ∧ o4 = (8 : Int32)) ∨ ((¬ (v1 = (0 : Int32))) ∧ (¬ (v1 = (1 : Int32))) ∧ (¬ (v1 = (2 : Int32))) ∧ (¬ (v1 = (3 : Int32))) ∧ (¬ (v1 = (4 : Int32))) ∧ (v1 = (5 : Int32)) ∧ o4 = (6 : Int32)) ∨ ((¬ (v1 = (0 : Int32))) ∧ (¬ (v1 = (1 : Int32))) ∧ (¬ (v1 = (2 : Int32))) ∧ (¬ (v1 = (3 : Int32))) ∧ (¬ (v1 = (4 : Int32))) ∧ (¬ (v1 = (5 : Int32))) ∧ (v1 = (6 : Int32)) ∧ o4 = (3 : Int32)) ∨ ((¬ (v1 = (0 : Int32))) ∧ (¬ (v1 = (1 : Int32))) ∧ (¬ (v1 = (2 : Int32))) ∧ (¬ (v1 = (3 : Int32))) ∧ (¬ (v1 = (4 : Int32))) ∧ (¬ (v1 = (5 : Int32))) ∧ (¬ (v1 = (6 : Int32))) ∧ (v1 = (7 : Int32)) ∧ o4 = (6 : Int32)) ∨ ((¬ (v1 = (0 : Int32))) ∧ (¬ (v1 = (1 : Int32))) ∧ (¬ (v1 = (2 : Int32))) ∧ (¬ (v1 = (3 : Int32))) ∧ (¬ (v1 = (4 : Int32))) ∧ (¬ (v1 = (5 : Int32))) ∧ (¬ (v1 = (6 : Int32))) ∧ (¬ (v1 = (7 : Int32))) ∧ (v1 = (8 : Int32)) ∧ o4 = (4 : Int32)) ∨ ((¬ (v1 = (0 : Int32))) ∧ (¬ (v1 = (1 : Int32))) ∧ (¬ (v1 = (2 : Int32))) ∧ (¬ (v1 = (3 : Int32))) ∧ (¬ (v1 = (4 : Int32))) ∧ (¬ (v1 = (5 : Int32))) ∧ (¬ (v1 = (6 : Int32))) ∧ (¬ (v1 = (7 : Int32))) ∧ (¬ (v1 = (8 : Int32))) ∧ (v1 = (9 : Int32)) ∧ o4 = (4 : Int32)) ∨ ((¬ (v1 = (0 : Int32))) ∧ (¬ (v1 = (1 : Int32))) ∧ (¬ (v1 = (2 : Int32))) ∧ (¬ (v1 = (3 : Int32))) ∧ (¬ (v1 = (4 : Int32))) ∧ (¬ (v1 = (5 : Int32))) ∧ (¬ (v1 = (6 : Int32))) ∧ (¬ (v1 = (7 : Int32))) ∧ (¬ (v1 = (8 : Int32))) ∧ (¬ (v1 = (9 : Int32))) ∧ (v1 = (10 : Int32)) ∧ o4 = (4 : Int32)) ∨ ((¬ (v1 = (0 : Int32))) ∧ (¬ (v1 = (1 : Int32))) ∧ (¬ (v1 = (2 : Int32))) ∧ (¬ (v1 = (3 : Int32))) ∧ (¬ (v1 = (4 : Int32))) ∧ (¬ (v1 = (5 : Int32))) ∧ (¬ (v1 = (6 : Int32))) ∧ (¬ (v1 = (7 : Int32))) ∧ (¬ (v1 = (8 : Int32))) ∧ (¬ (v1 = (9 : Int32))) ∧ (¬ (v1 = (10 : Int32))) ∧ o4 = (3 : Int32))) (hp10 : ((v1 = (0 : Int32)) ∧ o9 = (9 : Int32)) ∨ ((¬ (v1 = (0 : Int32))) ∧ (v1 = (1 : Int32)) ∧ o9 = (12 : Int32)) ∨ ((¬ (v1 = (0 : Int32))) ∧ (¬ (v1 = (1 : Int32))) ∧ (v1 = (2 : Int32)) ∧ o9 = (6 : Int32)) ∨ ((¬ (v1 = (0 : Int32))) ∧ (¬ (v1 = (1 : Int32))) ∧ (¬ (v1 = (2 : Int32))) ∧ (v1 = (3 : Int32)) ∧ o9 = (9 : Int32)) ∨ ((¬ (v1 = (0 : Int32))) ∧ (¬ (v1 = (1 : Int32))) ∧ (¬ (v1 = (2 : Int32))) ∧ (¬ (v1 = (3 : Int32))) ∧ (v1 = (4 : Int32)) ∧ o9 = (8 : Int32)) ∨ ((¬ (v1 = (0 : Int32))) ∧ (¬ (v1 = (1 : Int32))) ∧ (¬ (v1 = (2 : Int32))) ∧ (¬ (v1 = (3 : Int32))) ∧ (¬ (v1 = (4 : Int32))) ∧ (v1 = (5 : Int32)) ∧ o9 = (6 : Int32)) ∨ ((¬ (v1 = (0 : Int32))) ∧ (¬ (v1 = (1 : Int32))) ∧ (¬ (v1 = (2 : Int32))) ∧ (¬ (v1 = (3 : Int32))) ∧ (¬ (v1 = (4 : Int32))) ∧ (¬ (v1 = (5 : Int32))) ∧ (v1 = (6 : Int32)) ∧ o9 = (3 : Int32)) ∨ ((¬ (v1 = (0 : Int32))) ∧ (¬ (v1 = (1 : Int32))) ∧ (¬ (v1 = (2 : Int32))) ∧ (¬ (v1 = (3 : Int32))) ∧ (¬ (v1 = (4 : Int32))) ∧ (¬ (v1 = (5 : Int32))) ∧ (¬ (v1 = (6 : Int32))) ∧ (v1 = (7 : Int32)) ∧ o9 = (6 : Int32)) ∨ ((¬ (v1 = (0 : Int32))) ∧ (¬ (v1 = (1 : Int32))) ∧ (¬ (v1 = (2 : Int32))) ∧ (¬ (v1 = (3 : Int32))) ∧ (¬ (v1 = (4 : Int32))) ∧ (¬ (v1 = (5 : Int32))) ∧ (¬ (v1 = (6 : Int32))) ∧ (¬ (v1 = (7 : Int32))) ∧ (v1 = (8 : Int32)) ∧ o9 = (4 : Int32)) ∨ ((¬ (v1 = (0 : Int32))) ∧ (¬ (v1 = (1 : Int32))) ∧ (¬ (v1 = (2 : Int32))) ∧ (¬ (v1 = (3 : Int32))) ∧ (¬ (v1 = (4 : Int32))) ∧ (¬ (v1 = (5 : Int32))) ∧ (¬ (v1 = (6 : Int32))) ∧ (¬ (v1 = (7 : Int32))) ∧ (¬ (v1 = (8 : Int32))) ∧ (v1 = (9 : Int32)) ∧ o9 = (4 : Int32)) ∨ ((¬ (v1 = (0 : Int32))) ∧ (¬ (v1 = (1 : Int32))) ∧ (¬ (v1 = (2 : Int32))) ∧ (¬ (v1 = (3 : Int32))) ∧ (¬ (v1 = (4 : Int32))) ∧ (¬ (v1 = (5 : Int32))) ∧ (¬ (v1 = (6 : Int32))) ∧ (¬ (v1 = (7 : Int32))) ∧ (¬ (v1 = (8 : Int32))) ∧ (¬ (v1 = (9 : Int32))) ∧ (v1 = (10 : Int32)) ∧ o9 = (4 : Int32)) ∨ ((¬ (v1 = (0 : Int32))) ∧ (¬ (v1 = (1 : Int32))) ∧ (¬ (v1 = (2 : Int32))) ∧ (¬ (v1 = (3 : Int32))) ∧ (¬ (v1 = (4 : Int32))) ∧ (¬ (v1 = (5 : Int32))) ∧ (¬ (v1 = (6 : Int32))) ∧ (¬ (v1 = (7 : Int32))) ∧ (¬ (v1 = (8 : Int32))) ∧ (¬ (v1 = (9 : Int32))) ∧ (¬ (v1 = (10 : Int32))) ∧ o9 = (3 : Int32))) (hv11 : (p1.toInt16.toInt32) = v11) (hp14 : ((v11 < o4) ∧ o13 = (0 : Int32)) ∨ ((¬ (v11 < o4)) ∧ o13 = (1 : Int32))) (hj23 : ((v11 < o9) ∧ z22 = (0 : Int32)) ∨ ((¬ (v11 < o9)) ∧ z22 = (1 : Int32))) (hj32 : ((o13 = z22) ∧ z31 = (1 : Int32)) ∨ ((¬ (o13 = z22)) ∧ z31 = (0 : Int32))) (hp35 : (((o9.toInt16.toInt32) < o4) ∧ o34 = (0 : Int32)) ∨ ((¬ ((o9.toInt16.toInt32) < o4)) ∧ o34 = (1 : Int32))) (hp38 : ((((o9 - (1 : Int32)).toInt16.toInt32) < o4) ∧ o37 = (0 : Int32)) ∨ ((¬ (((o9 - (1 : Int32)).toInt16.toInt32) < o4)) ∧ o37 = (1 : Int32))) (hj47 : ((o37 = (0 : Int32)) ∧ z46 = (1 : Int32)) ∨ ((¬ (o37 = (0 : Int32))) ∧ z46 = (0 : Int32))) (c48 : ¬ (z31 = (0 : Int32))) (c49 : o34 = (0 : Int32)) : False := by
  obtain ⟨rfl, k⟩ := own_keys v1 o4 o9 hp7 hp10
  have k2 := own_keys16 o9 k
  clear hp7 hp10 k hv1 hv11
  generalize o9 - 1 = u at *
  generalize u.toInt16.toInt32 = u2 at *
  generalize o9.toInt16.toInt32 = u1 at *
  grind
theorem ob_0_3 (p0 : Int32) (p1 : Int32) (v1 : Int32) (o4 : Int32) (o9 : Int32) (v11 : Int32) (o13 : Int32) (z22 : Int32) (z31 : Int32) (o34 : Int32) (o37 : Int32) (z46 : Int32) (hv1 : ((p0 &&& (2147483647 : Int32)) % (12 : Int32)) = v1) (hp7 : ((v1 = (0 : Int32)) ∧ o4 = (9 : Int32)) ∨ ((¬ (v1 = (0 : Int32))) ∧ (v1 = (1 : Int32)) ∧ o4 = (12 : Int32)) ∨ ((¬ (v1 = (0 : Int32))) ∧ (¬ (v1 = (1 : Int32))) ∧ (v1 = (2 : Int32)) ∧ o4 = (6 : Int32)) ∨ ((¬ (v1 = (0 : Int32))) ∧ (¬ (v1 = (1 : Int32))) ∧ (¬ (v1 = (2 : Int32))) ∧ (v1 = (3 : Int32)) ∧ o4 = (9 : Int32)) ∨ ((¬ (v1 = (0 : Int32))) ∧ (¬ (v1 = (1 : Int32))) ∧ (¬ (v1 = (2 : Int32))) ∧ (¬ (v1 = (3 : Int32))) ∧ (v1 = (4 : Int32)) ∧ o4 = (8 : Int32)) ∨ ((¬ (v1 = (0 : Int32))) ∧ (¬ (v1 = (1 : Int32))) ∧ (¬ (v1 = (2 : Int32))) ∧ (¬ (v1 = (3 : Int32))) ∧ (¬ (v1 = (4 : Int32))) ∧ (v1 = (5 : Int32)) ∧ o4 = (6 : Int32)) ∨ ((¬ (v1 = (0 : Int32))) ∧ (¬ (v1 = (1 : Int32))) ∧ (¬ (v1 = (2 : Int32))) ∧ (¬ (v1 = (3 : Int32))) ∧ (¬ (v1 = (4 : Int32))) ∧ (¬ (v1 = (5 : Int32))) ∧ (v1 = (6 : Int32)) ∧ o4 = (3 : Int32)) ∨ ((¬ (v1 = (0 : Int32))) ∧ (¬ (v1 = (1 : Int32))) ∧ (¬ (v1 = (2 : Int32))) ∧ (¬ (v1 = (3 : Int32))) ∧ (¬ (v1 = (4 : Int32))) ∧ (¬ (v1 = (5 : Int32))) ∧ (¬ (v1 = (6 : Int32))) ∧ (v1 = (7 : Int32)) ∧ o4 = (6 : Int32)) ∨ ((¬ (v1 = (0 : Int32))) ∧ (¬ (v1 = (1 : Int32))) ∧ (¬ (v1 = (2 : Int32))) ∧ (¬ (v1 = (3 : Int32))) ∧ (¬ (v1 = (4 : Int32))) ∧ (¬ (v1 = (5 : Int32))) ∧ (¬ (v1 = (6 : Int32))) ∧ (¬ (v1 = (7 : Int32))) ∧ (v1 = (8 : Int32)) ∧ o4 = (4 : Int32)) ∨ ((¬ (v1 = (0 : Int32))) ∧ (¬ (v1 = (1 : Int32))) ∧ (¬ (v1 = (2 : Int32))) ∧ (¬ (v1 = (3 : Int32))) ∧ (¬ (v1 = (4 : Int32))) ∧ (¬ (v1 = (5 : Int32))) ∧ (¬ (v1 = (6 : Int32))) ∧ (¬ (v1 = (7 : Int32))) ∧ (¬ (v1 = (8 : Int32))) ∧ (v1 = (9 : Int32)) ∧ o4 = (4 : Int32)) ∨ ((¬ (v1 = (0 : Int32))) ∧ (¬ (v1 = (1 : Int32))) ∧ (¬ (v1 = (2 : Int32))) ∧ (¬ (v1 = (3 : Int32))) ∧ (¬ (v1 = (4 : Int32))) ∧ (¬ (v1 = (5 : Int32))) ∧ (¬ (v1 = (6 : Int32))) ∧ (¬ (v1 = (7 : Int32))) ∧ (¬ (v1 = (8 : Int32))) ∧ (¬ (v1 = (9 : Int32))) ∧ (v1 = (10 : Int32)) ∧ o4 = (4 : Int32)) ∨ ((¬ (v1 = (0 : Int32))) ∧ (¬ (v1 = (1 : Int32))) ∧ (¬ (v1 = (2 : Int32))) ∧ (¬ (v1 = (3 : Int32))) ∧ (¬ (v1 = (4 : Int32))) ∧ (¬ (v1 = (5 : Int32))) ∧ (¬ (v1 = (6 : Int32))) ∧ (¬ (v1 = (7 : Int32))) ∧ (¬ (v1 = (8 : Int32))) ∧ (¬ (v1 = (9 : Int32))) ∧ (¬ (v1 = (10 : Int32))) ∧ o4 = (3 : Int32))) (hp10 : ((v1 = (0 : Int32)) ∧ o9 = (9 : Int32)) ∨ ((¬ (v1 = (0 : Int32))) ∧ (v1 = (1 : Int32)) ∧ o9 = (12 : Int32)) ∨ ((¬ (v1 = (0 : Int32))) ∧ (¬ (v1 = (1 : Int32))) ∧ (v1 = (2 : Int32)) ∧ o9 = (6 : Int32)) ∨ ((¬ (v1 = (0 : Int32))) ∧ (¬ (v1 = (1 : Int32))) ∧ (¬ (v1 = (2 : Int32))) ∧ (v1 = (3 : Int32)) ∧ o9 = (9 : Int32)) ∨ ((¬ (v1 = (0 : Int32))) ∧ (¬ (v1 = (1 : Int32))) ∧ (¬ (v1 = (2 : Int32))) ∧ (¬ (v1 = (3 : Int32))) ∧ (v1 = (4 : Int32)) ∧ o9 = (8 : Int32)) ∨ ((¬ (v1 = (0 : Int32))) ∧ (¬ (v1 = (1 : Int32))) ∧ (¬ (v1 = (2 : Int32))) ∧ (¬ (v1 = (3 : Int32))) ∧ (¬ (v1 = (4 : Int32))) ∧ (v1 = (5 : Int32)) ∧ o9 = (6 : Int32)) ∨ ((¬ (v1 = (0 : Int32))) ∧ (¬ (v1 = (1 : Int32))) ∧ (¬ (v1 = (2 : Int32))) ∧ (¬ (v1 = (3 : Int32))) ∧ (¬ (v1 = (4 : Int32))) ∧ (¬ (v1 = (5 : Int32))) ∧ (v1 = (6 : Int32)) ∧ o9 = (3 : Int32)) ∨ ((¬ (v1 = (0 : Int32))) ∧ (¬ (v1 = (1 : Int32))) ∧ (¬ (v1 = (2 : Int32))) ∧ (¬ (v1 = (3 : Int32))) ∧ (¬ (v1 = (4 : Int32))) ∧ (¬ (v1 = (5 : Int32))) ∧ (¬ (v1 = (6 : Int32))) ∧ (v1 = (7 : Int32)) ∧ o9 = (6 : Int32)) ∨ ((¬ (v1 = (0 : Int32))) ∧ (¬ (v1 = (1 : Int32))) ∧ (¬ (v1 = (2 : Int32))) ∧ (¬ (v1 = (3 : Int32))) ∧ (¬ (v1 = (4 : Int32))) ∧ (¬ (v1 = (5 : Int32))) ∧ (¬ (v1 = (6 : Int32))) ∧ (¬ (v1 = (7 : Int32))) ∧ (v1 = (8 : Int32)) ∧ o9 = (4 : Int32)) ∨ ((¬ (v1 = (0 : Int32))) ∧ (¬ (v1 = (1 : Int32))) ∧ (¬ (v1 = (2 : Int32))) ∧ (¬ (v1 = (3 : Int32))) ∧ (¬ (v1 = (4 : Int32))) ∧ (¬ (v1 = (5 : Int32))) ∧ (¬ (v1 = (6 : Int32))) ∧ (¬ (v1 = (7 : Int32))) ∧ (¬ (v1 = (8 : Int32))) ∧ (v1 = (9 : Int32)) ∧ o9 = (4 : Int32)) ∨ ((¬ (v1 = (0 : Int32))) ∧ (¬ (v1 = (1 : Int32))) ∧ (¬ (v1 = (2 : Int32))) ∧ (¬ (v1 = (3 : Int32))) ∧ (¬ (v1 = (4 : Int32))) ∧ (¬ (v1 = (5 : Int32))) ∧ (¬ (v1 = (6 : Int32))) ∧ (¬ (v1 = (7 : Int32))) ∧ (¬ (v1 = (8 : Int32))) ∧ (¬ (v1 = (9 : Int32))) ∧ (v1 = (10 : Int32)) ∧ o9 = (4 : Int32)) ∨ ((¬ (v1 = (0 : Int32))) ∧ (¬ (v1 = (1 : Int32))) ∧ (¬ (v1 = (2 : Int32))) ∧ (¬ (v1 = (3 : Int32))) ∧ (¬ (v1 = (4 : Int32))) ∧ (¬ (v1 = (5 : Int32))) ∧ (¬ (v1 = (6 : Int32))) ∧ (¬ (v1 = (7 : Int32))) ∧ (¬ (v1 = (8 : Int32))) ∧ (¬ (v1 = (9 : Int32))) ∧ (¬ (v1 = (10 : Int32))) ∧ o9 = (3 : Int32))) (hv11 : (p1.toInt16.toInt32) = v11) (hp14 : ((v11 < o4) ∧ o13 = (0 : Int32)) ∨ ((¬ (v11 < o4)) ∧ o13 = (1 : Int32))) (hj23 : ((v11 < o9) ∧ z22 = (0 : Int32)) ∨ ((¬ (v11 < o9)) ∧ z22 = (1 : Int32))) (hj32 : ((o13 = z22) ∧ z31 = (1 : Int32)) ∨ ((¬ (o13 = z22)) ∧ z31 = (0 : Int32))) (hp35 : (((o9.toInt16.toInt32) < o4) ∧ o34 = (0 : Int32)) ∨ ((¬ ((o9.toInt16.toInt32) < o4)) ∧ o34 = (1 : Int32))) (hp38 : ((((o9 - (1 : Int32)).toInt16.toInt32) < o4) ∧ o37 = (0 : Int32)) ∨ ((¬ (((o9 - (1 : Int32)).toInt16.toInt32) < o4)) ∧ o37 = (1 : Int32))) (hj47 : ((o37 = (0 : Int32)) ∧ z46 = (1 : Int32)) ∨ ((¬ (o37 = (0 : Int32))) ∧ z46 = (0 : Int32))) (c48 : ¬ (z31 = (0 : Int32))) (c49 : ¬ (o34 = (0 : Int32))) (c50 : z46 = (0 : Int32)) : False := by
  obtain ⟨rfl, k⟩ := own_keys v1 o4 o9 hp7 hp10
  have k2 := own_keys16 o9 k
  clear hp7 hp10 k hv1 hv11
  generalize o9 - 1 = u at *
  generalize u.toInt16.toInt32 = u2 at *
  generalize o9.toInt16.toInt32 = u1 at *
  grind
def Q0 (Z : State) (f_PRODUCE : Addr) (f_LIST_OFFSETS : Addr) (f_HEARTBEAT : Addr) (f_OFFSET_COMMIT : Addr) (f_FETCH : Addr) (f_FIND_COORDINATOR : Addr) (f_API_VERSIONS : Addr) (f_METADATA : Addr) (f_LEAVE_GROUP : Addr) (f_JOIN_GROUP : Addr) (f_SYNC_GROUP : Addr) (f_OFFSET_FETCH : Addr) (p0 : Int32) (p1 : Int32) (h0 : Heap) (n0 : Nat) (v : Option Value) (h : Heap) (L : List Loc) : Prop := v = some (.int (1 : Int32)) ∧ Fr n0 L
set_option maxRecDepth 65536 in
set_option maxHeartbeats 40000000 in
theorem rm0 (l : Launch) (Z : State) (A0 : Array Value) (hw : ∀ d ∈ tables_1, d.before A0 Z = true) (ws : List Jvm.Cond) (f_PRODUCE : Addr) (f_LIST_OFFSETS : Addr) (f_HEARTBEAT : Addr) (f_OFFSET_COMMIT : Addr) (f_FETCH : Addr) (f_FIND_COORDINATOR : Addr) (f_API_VERSIONS : Addr) (f_METADATA : Addr) (f_LEAVE_GROUP : Addr) (f_JOIN_GROUP : Addr) (f_SYNC_GROUP : Addr) (f_OFFSET_FETCH : Addr) (p0 : Int32) (p1 : Int32) (h0 : Heap) (n0 : Nat) (Z0 : n0 ≤ h0.size) (P_S_PRODUCE : Sta Z h0 "com/example/keelstream/keelstream/protocol/ApiKey" "PRODUCE" "Lcom/example/keelstream/keelstream/protocol/ApiKey;" (.ref f_PRODUCE)) (P_E_PRODUCE : Exa Z h0 f_PRODUCE "com/example/keelstream/keelstream/protocol/ApiKey") (P_F_PRODUCE_firstFlexibleVersion : Fld Z h0 f_PRODUCE "com/example/keelstream/keelstream/protocol/ApiKey" "firstFlexibleVersion" "S" (.int (9 : Int32))) (P_S_LIST_OFFSETS : Sta Z h0 "com/example/keelstream/keelstream/protocol/ApiKey" "LIST_OFFSETS" "Lcom/example/keelstream/keelstream/protocol/ApiKey;" (.ref f_LIST_OFFSETS)) (P_E_LIST_OFFSETS : Exa Z h0 f_LIST_OFFSETS "com/example/keelstream/keelstream/protocol/ApiKey") (P_F_LIST_OFFSETS_firstFlexibleVersion : Fld Z h0 f_LIST_OFFSETS "com/example/keelstream/keelstream/protocol/ApiKey" "firstFlexibleVersion" "S" (.int (6 : Int32))) (P_S_HEARTBEAT : Sta Z h0 "com/example/keelstream/keelstream/protocol/ApiKey" "HEARTBEAT" "Lcom/example/keelstream/keelstream/protocol/ApiKey;" (.ref f_HEARTBEAT)) (P_E_HEARTBEAT : Exa Z h0 f_HEARTBEAT "com/example/keelstream/keelstream/protocol/ApiKey") (P_F_HEARTBEAT_firstFlexibleVersion : Fld Z h0 f_HEARTBEAT "com/example/keelstream/keelstream/protocol/ApiKey" "firstFlexibleVersion" "S" (.int (4 : Int32))) (P_S_OFFSET_COMMIT : Sta Z h0 "com/example/keelstream/keelstream/protocol/ApiKey" "OFFSET_COMMIT" "Lcom/example/keelstream/keelstream/protocol/ApiKey;" (.ref f_OFFSET_COMMIT)) (P_E_OFFSET_COMMIT : Exa Z h0 f_OFFSET_COMMIT "com/example/keelstream/keelstream/protocol/ApiKey") (P_F_OFFSET_COMMIT_firstFlexibleVersion : Fld Z h0 f_OFFSET_COMMIT "com/example/keelstream/keelstream/protocol/ApiKey" "firstFlexibleVersion" "S" (.int (8 : Int32))) (P_S_FETCH : Sta Z h0 "com/example/keelstream/keelstream/protocol/ApiKey" "FETCH" "Lcom/example/keelstream/keelstream/protocol/ApiKey;" (.ref f_FETCH)) (P_E_FETCH : Exa Z h0 f_FETCH "com/example/keelstream/keelstream/protocol/ApiKey") (P_F_FETCH_firstFlexibleVersion : Fld Z h0 f_FETCH "com/example/keelstream/keelstream/protocol/ApiKey" "firstFlexibleVersion" "S" (.int (12 : Int32))) (P_S_FIND_COORDINATOR : Sta Z h0 "com/example/keelstream/keelstream/protocol/ApiKey" "FIND_COORDINATOR" "Lcom/example/keelstream/keelstream/protocol/ApiKey;" (.ref f_FIND_COORDINATOR)) (P_E_FIND_COORDINATOR : Exa Z h0 f_FIND_COORDINATOR "com/example/keelstream/keelstream/protocol/ApiKey") (P_F_FIND_COORDINATOR_firstFlexibleVersion : Fld Z h0 f_FIND_COORDINATOR "com/example/keelstream/keelstream/protocol/ApiKey" "firstFlexibleVersion" "S" (.int (3 : Int32))) (P_S_API_VERSIONS : Sta Z h0 "com/example/keelstream/keelstream/protocol/ApiKey" "API_VERSIONS" "Lcom/example/keelstream/keelstream/protocol/ApiKey;" (.ref f_API_VERSIONS)) (P_E_API_VERSIONS : Exa Z h0 f_API_VERSIONS "com/example/keelstream/keelstream/protocol/ApiKey") (P_F_API_VERSIONS_firstFlexibleVersion : Fld Z h0 f_API_VERSIONS "com/example/keelstream/keelstream/protocol/ApiKey" "firstFlexibleVersion" "S" (.int (3 : Int32))) (P_S_METADATA : Sta Z h0 "com/example/keelstream/keelstream/protocol/ApiKey" "METADATA" "Lcom/example/keelstream/keelstream/protocol/ApiKey;" (.ref f_METADATA)) (P_E_METADATA : Exa Z h0 f_METADATA "com/example/keelstream/keelstream/protocol/ApiKey") (P_F_METADATA_firstFlexibleVersion : Fld Z h0 f_METADATA "com/example/keelstream/keelstream/protocol/ApiKey" "firstFlexibleVersion" "S" (.int (9 : Int32))) (P_S_LEAVE_GROUP : Sta Z h0 "com/example/keelstream/keelstream/protocol/ApiKey" "LEAVE_GROUP" "Lcom/example/keelstream/keelstream/protocol/ApiKey;" (.ref f_LEAVE_GROUP)) (P_E_LEAVE_GROUP : Exa Z h0 f_LEAVE_GROUP "com/example/keelstream/keelstream/protocol/ApiKey") (P_F_LEAVE_GROUP_firstFlexibleVersion : Fld Z h0 f_LEAVE_GROUP "com/example/keelstream/keelstream/protocol/ApiKey" "firstFlexibleVersion" "S" (.int (4 : Int32))) (P_S_JOIN_GROUP : Sta Z h0 "com/example/keelstream/keelstream/protocol/ApiKey" "JOIN_GROUP" "Lcom/example/keelstream/keelstream/protocol/ApiKey;" (.ref f_JOIN_GROUP)) (P_E_JOIN_GROUP : Exa Z h0 f_JOIN_GROUP "com/example/keelstream/keelstream/protocol/ApiKey") (P_F_JOIN_GROUP_firstFlexibleVersion : Fld Z h0 f_JOIN_GROUP "com/example/keelstream/keelstream/protocol/ApiKey" "firstFlexibleVersion" "S" (.int (6 : Int32))) (P_S_SYNC_GROUP : Sta Z h0 "com/example/keelstream/keelstream/protocol/ApiKey" "SYNC_GROUP" "Lcom/example/keelstream/keelstream/protocol/ApiKey;" (.ref f_SYNC_GROUP)) (P_E_SYNC_GROUP : Exa Z h0 f_SYNC_GROUP "com/example/keelstream/keelstream/protocol/ApiKey") (P_F_SYNC_GROUP_firstFlexibleVersion : Fld Z h0 f_SYNC_GROUP "com/example/keelstream/keelstream/protocol/ApiKey" "firstFlexibleVersion" "S" (.int (4 : Int32))) (P_S_OFFSET_FETCH : Sta Z h0 "com/example/keelstream/keelstream/protocol/ApiKey" "OFFSET_FETCH" "Lcom/example/keelstream/keelstream/protocol/ApiKey;" (.ref f_OFFSET_FETCH)) (P_E_OFFSET_FETCH : Exa Z h0 f_OFFSET_FETCH "com/example/keelstream/keelstream/protocol/ApiKey") (P_F_OFFSET_FETCH_firstFlexibleVersion : Fld Z h0 f_OFFSET_FETCH "com/example/keelstream/keelstream/protocol/ApiKey" "firstFlexibleVersion" "S" (.int (6 : Int32))) :
    MetFree l x (head1 (Jvm.Cond.code x code maxLocals ret :: ws) room_1) (fun a U => a = #[(.int p0), (.int p1)] ∧ Z.Warmed39 U.vm ∧ U.heap = h0) (fun _ _ _ _ _ => True) (fun _ U o U' => ∃ v L, o = .returned v ∧ Q0 Z f_PRODUCE f_LIST_OFFSETS f_HEARTBEAT f_OFFSET_COMMIT f_FETCH f_FIND_COORDINATOR f_API_VERSIONS f_METADATA f_LEAVE_GROUP f_JOIN_GROUP f_SYNC_GROUP f_OFFSET_FETCH p0 p1 h0 n0 v U'.heap L ∧ FrameEnd U o U' L 0 0) := by
  refine MetFree.of_bodySF (plainFor_of_name pn_0) hisR ?_
  intro p e s m args below meth c s₁ Bd hml0 hP hK
  obtain ⟨rfl, hZ, hh⟩ := hP
  have hx := Bd.exec
  have hby := Bd.bytes
  have hml : c.maxLocals = 9 := hml0
  have hlk : meth.locks = false := Bd.notSynchronized
  have hown : s.vm.findClass "com/example/keelstream/keelstream/protocol/ApiKeyIsFlexiblePinLaw" = some m.cls := findClass_of_methodNamed Bd.named
  have hnm := (name_of_methodNamed Bd.named Bd.method).1
  have X0 : Stand p l e room_1 s m #[(.int p0), (.int p1)] below meth c s₁ [] 0 0 := Stand.of_body Bd
  have e0 : s₁.heap = h0 := by rw [← hh, Bd.state]; rfl
  have N0 := Fr.nil n0
  show own_Go p e below (own_Fin s 0 0 (Q0 Z f_PRODUCE f_LIST_OFFSETS f_HEARTBEAT f_OFFSET_COMMIT f_FETCH f_FIND_COORDINATOR f_API_VERSIONS f_METADATA f_LEAVE_GROUP f_JOIN_GROUP f_SYNC_GROUP f_OFFSET_FETCH p0 p1 h0 n0)) _
  refine own_by (fun t k => castTop (ef_0 m p0 p1) k) ?_
  show own_Go p e below _ (s₁.setTop (mkF m 0 #[.val (.int p0), .val (.int p1), .unset, .unset, .unset, .unset, .unset, .unset, .unset] []))
  refine own_by (fun _ k => XS.iloadN X0.here hx rfl (hb hby at_0) rfl k) ?_
  show own_Go p e below _ (s₁.setTop (mkF m 1 #[.val (.int p0), .val (.int p1), .unset, .unset, .unset, .unset, .unset, .unset, .unset] [(.int p0)]))
  refine own_by (fun t k => X0.ldcInt hx hown (mvT hZ (hw _ (List.mem_of_getElem? (i := 0) rfl))) (g := (mkF m 1 #[.val (.int p0), .val (.int p1), .unset, .unset, .unset, .unset, .unset, .unset, .unset] [(.int p0)])) rfl (hb hby at_1) _ k) ?_
  show own_Go p e below _ (s₁.setTop (mkF m 3 #[.val (.int p0), .val (.int p1), .unset, .unset, .unset, .unset, .unset, .unset, .unset] [(.int (2147483647 : Int32)), (.int p0)]))
  refine own_by (fun _ k => XS.iand X0.here hx rfl (hb hby at_3) rfl k) ?_
  show own_Go p e below _ (s₁.setTop (mkF m 4 #[.val (.int p0), .val (.int p1), .unset, .unset, .unset, .unset, .unset, .unset, .unset] [(.int (p0 &&& (2147483647 : Int32)))]))
  refine own_by (fun _ k => XS.bipush X0.here hx rfl (hb hby at_4) k) ?_
  show own_Go p e below _ (s₁.setTop (mkF m 6 #[.val (.int p0), .val (.int p1), .unset, .unset, .unset, .unset, .unset, .unset, .unset] [(.int (12 : Int32)), (.int (p0 &&& (2147483647 : Int32)))]))
  refine own_by (fun _ k => iremM X0 hx rfl (hb hby at_6) rfl (by decide) k) ?_
  show own_Go p e below _ (s₁.setTop (mkF m 7 #[.val (.int p0), .val (.int p1), .unset, .unset, .unset, .unset, .unset, .unset, .unset] [(.int ((p0 &&& (2147483647 : Int32)) % (12 : Int32)))]))
  refine own_by (fun _ k => XS.istoreN X0.here hx rfl (hb hby at_7) rfl (l' := #[.val (.int p0), .val (.int p1), .val (.int ((p0 &&& (2147483647 : Int32)) % (12 : Int32))), .unset, .unset, .unset, .unset, .unset, .unset]) rfl k) ?_
  show own_Go p e below _ (s₁.setTop (mkF m 8 #[.val (.int p0), .val (.int p1), .val (.int ((p0 &&& (2147483647 : Int32)) % (12 : Int32))), .unset, .unset, .unset, .unset, .unset, .unset] []))
  generalize hv1 : ((p0 &&& (2147483647 : Int32)) % (12 : Int32)) = v1
  show own_Go p e below _ (s₁.setTop (mkF m 8 #[.val (.int p0), .val (.int p1), .val (.int v1), .unset, .unset, .unset, .unset, .unset, .unset] []))
  refine own_by (fun _ k => XS.iloadN X0.here hx rfl (hb hby at_8) rfl k) ?_
  show own_Go p e below _ (s₁.setTop (mkF m 9 #[.val (.int p0), .val (.int p1), .val (.int v1), .unset, .unset, .unset, .unset, .unset, .unset] [(.int v1)]))
  obtain ⟨_, _, ⟨T2, L2, k2, n2⟩, -, X2, ⟨Lc2, hQ2, l2, y2, z2⟩, st2⟩ := Jvm.LawKit.callS X0 hx (y := (⟨"com/example/keelstream/keelstream/protocol/ApiKeyIsFlexiblePinLaw", "key", "(I)Lcom/example/keelstream/keelstream/protocol/ApiKey;"⟩ : MethodName)) hown (mvT hZ (hw _ (List.mem_of_getElem? (i := 1) rfl))) (mvT hZ (hw _ (List.mem_of_getElem? (i := 2) rfl))) (mvT hZ (hw _ (List.mem_of_getElem? (i := 3) rfl))) (mvT hZ (hw _ (List.mem_of_getElem? (i := 4) rfl))) (by decide) (backOf (W := 0) (rm1 l Z A0 hw [] f_PRODUCE f_LIST_OFFSETS f_HEARTBEAT f_OFFSET_COMMIT f_FETCH f_FIND_COORDINATOR f_API_VERSIONS f_METADATA f_LEAVE_GROUP f_JOIN_GROUP f_SYNC_GROUP f_OFFSET_FETCH v1 h0 n0 Z0 P_S_PRODUCE P_E_PRODUCE P_F_PRODUCE_firstFlexibleVersion P_S_LIST_OFFSETS P_E_LIST_OFFSETS P_F_LIST_OFFSETS_firstFlexibleVersion P_S_HEARTBEAT P_E_HEARTBEAT P_F_HEARTBEAT_firstFlexibleVersion P_S_OFFSET_COMMIT P_E_OFFSET_COMMIT P_F_OFFSET_COMMIT_firstFlexibleVersion P_S_FETCH P_E_FETCH P_F_FETCH_firstFlexibleVersion P_S_FIND_COORDINATOR P_E_FIND_COORDINATOR P_F_FIND_COORDINATOR_firstFlexibleVersion P_S_API_VERSIONS P_E_API_VERSIONS P_F_API_VERSIONS_firstFlexibleVersion P_S_METADATA P_E_METADATA P_F_METADATA_firstFlexibleVersion P_S_LEAVE_GROUP P_E_LEAVE_GROUP P_F_LEAVE_GROUP_firstFlexibleVersion P_S_JOIN_GROUP P_E_JOIN_GROUP P_F_JOIN_GROUP_firstFlexibleVersion P_S_SYNC_GROUP P_E_SYNC_GROUP P_F_SYNC_GROUP_firstFlexibleVersion P_S_OFFSET_FETCH P_E_OFFSET_FETCH P_F_OFFSET_FETCH_firstFlexibleVersion) hZ (hw _ (List.mem_of_getElem? (i := 4) rfl)) (hw _ (List.mem_of_getElem? (i := 3) rfl)) (by decide) (by decide)) (g := (mkF m 9 #[.val (.int p0), .val (.int p1), .val (.int v1), .unset, .unset, .unset, .unset, .unset, .unset] [(.int v1)])) rfl (by rw [hml]; rfl) (argsL := [(.int v1)]) (rest := []) (lenOf pd_1 rfl) rfl (by show 2 * 0 + _ ≤ _; exact Nat.le_of_eq rfl) (hb hby at_9) (fun _ _ => ⟨rfl, e0, (by decide : 0 + 0 ≤ _), (by decide : 0 + 0 ≤ _)⟩)
  dsimp only [Pt.U, Pt.locs, Pt.cells, Pt.slots] at X2 l2 y2 z2 st2 hQ2
  subst l2 y2 z2
  obtain ⟨b3, o4, rfl, Nq2, eq2, F5, F6, hp7⟩ := hQ2
  have N2 := Fr.app N0 Nq2
  rw [eq2] at F5 F6
  refine own_by st2 ?_
  show own_Go p e below _ (T2.setTop (mkF m 12 #[.val (.int p0), .val (.int p1), .val (.int v1), .unset, .unset, .unset, .unset, .unset, .unset] [(.ref b3)]))
  refine own_by (fun _ k => XS.astoreN X2.here hx rfl (hb hby at_12) rfl rfl (l' := #[.val (.int p0), .val (.int p1), .val (.int v1), .val (.ref b3), .unset, .unset, .unset, .unset, .unset]) rfl k) ?_
  show own_Go p e below _ (T2.setTop (mkF m 13 #[.val (.int p0), .val (.int p1), .val (.int v1), .val (.ref b3), .unset, .unset, .unset, .unset, .unset] []))
  refine own_by (fun _ k => XS.iloadN X2.here hx rfl (hb hby at_13) rfl k) ?_
  show own_Go p e below _ (T2.setTop (mkF m 14 #[.val (.int p0), .val (.int p1), .val (.int v1), .val (.ref b3), .unset, .unset, .unset, .unset, .unset] [(.int v1)]))
  obtain ⟨_, _, ⟨T8, L8, k8, n8⟩, -, X8, ⟨Lc8, hQ8, l8, y8, z8⟩, st8⟩ := Jvm.LawKit.callS X2 hx (y := (⟨"com/example/keelstream/keelstream/protocol/ApiKeyIsFlexiblePinLaw", "firstFlexible", "(I)I"⟩ : MethodName)) hown (mvT hZ (hw _ (List.mem_of_getElem? (i := 8) rfl))) (mvT hZ (hw _ (List.mem_of_getElem? (i := 9) rfl))) (mvT hZ (hw _ (List.mem_of_getElem? (i := 3) rfl))) (mvT hZ (hw _ (List.mem_of_getElem? (i := 10) rfl))) (by decide) (backOf (W := 0) (rm2 l Z A0 hw [] v1 h0 n0 Z0 ) hZ (hw _ (List.mem_of_getElem? (i := 10) rfl)) (hw _ (List.mem_of_getElem? (i := 3) rfl)) (by decide) (by decide)) (g := (mkF m 14 #[.val (.int p0), .val (.int p1), .val (.int v1), .val (.ref b3), .unset, .unset, .unset, .unset, .unset] [(.int v1)])) rfl (by rw [hml]; rfl) (argsL := [(.int v1)]) (rest := []) (lenOf pd_8 rfl) rfl (by show 2 * 0 + _ ≤ _; exact Nat.le_of_eq rfl) (hb hby at_14) (fun _ _ => ⟨rfl, eq2, (by decide : 0 + 0 ≤ _), (by decide : 0 + 0 ≤ _)⟩)
  dsimp only [Pt.U, Pt.locs, Pt.cells, Pt.slots] at X8 l8 y8 z8 st8 hQ8
  subst l8 y8 z8
  obtain ⟨o9, rfl, Nq8, eq8, hp10⟩ := hQ8
  have N8 := Fr.app N2 Nq8
  refine own_by st8 ?_
  show own_Go p e below _ (T8.setTop (mkF m 17 #[.val (.int p0), .val (.int p1), .val (.int v1), .val (.ref b3), .unset, .unset, .unset, .unset, .unset] [(.int o9)]))
  refine own_by (fun _ k => XS.istore X8.here hx rfl (hb hby at_17) rfl (l' := #[.val (.int p0), .val (.int p1), .val (.int v1), .val (.ref b3), .val (.int o9), .unset, .unset, .unset, .unset]) rfl k) ?_
  show own_Go p e below _ (T8.setTop (mkF m 19 #[.val (.int p0), .val (.int p1), .val (.int v1), .val (.ref b3), .val (.int o9), .unset, .unset, .unset, .unset] []))
  refine own_by (fun _ k => XS.iloadN X8.here hx rfl (hb hby at_19) rfl k) ?_
  show own_Go p e below _ (T8.setTop (mkF m 20 #[.val (.int p0), .val (.int p1), .val (.int v1), .val (.ref b3), .val (.int o9), .unset, .unset, .unset, .unset] [(.int p1)]))
  refine own_by (fun _ k => XS.i2s X8.here hx rfl (hb hby at_20) rfl k) ?_
  show own_Go p e below _ (T8.setTop (mkF m 21 #[.val (.int p0), .val (.int p1), .val (.int v1), .val (.ref b3), .val (.int o9), .unset, .unset, .unset, .unset] [(.int (p1.toInt16.toInt32))]))
  refine own_by (fun _ k => XS.istore X8.here hx rfl (hb hby at_21) rfl (l' := #[.val (.int p0), .val (.int p1), .val (.int v1), .val (.ref b3), .val (.int o9), .val (.int (p1.toInt16.toInt32)), .unset, .unset, .unset]) rfl k) ?_
  show own_Go p e below _ (T8.setTop (mkF m 23 #[.val (.int p0), .val (.int p1), .val (.int v1), .val (.ref b3), .val (.int o9), .val (.int (p1.toInt16.toInt32)), .unset, .unset, .unset] []))
  generalize hv11 : (p1.toInt16.toInt32) = v11
  show own_Go p e below _ (T8.setTop (mkF m 23 #[.val (.int p0), .val (.int p1), .val (.int v1), .val (.ref b3), .val (.int o9), .val (.int v11), .unset, .unset, .unset] []))
  refine own_by (fun _ k => XS.aloadN X8.here hx rfl (hb hby at_23) rfl rfl k) ?_
  show own_Go p e below _ (T8.setTop (mkF m 24 #[.val (.int p0), .val (.int p1), .val (.int v1), .val (.ref b3), .val (.int o9), .val (.int v11), .unset, .unset, .unset] [(.ref b3)]))
  refine own_by (fun _ k => XS.iload X8.here hx rfl (hb hby at_24) rfl k) ?_
  show own_Go p e below _ (T8.setTop (mkF m 26 #[.val (.int p0), .val (.int p1), .val (.int v1), .val (.ref b3), .val (.int o9), .val (.int v11), .unset, .unset, .unset] [(.int v11), (.ref b3)]))
  obtain ⟨cq12, kq12, q12a, q12b, q12c⟩ := isOf hZ eq8 F5
  obtain ⟨_, _, ⟨T12, L12, k12, n12⟩, -, X12, ⟨Lc12, hQ12, l12, y12, z12⟩, st12⟩ := X8.virtualBack hx (y := (⟨"com/example/keelstream/keelstream/protocol/ApiKey", "isFlexible", "(S)Z"⟩ : MethodName)) (z := (⟨"com/example/keelstream/keelstream/protocol/ApiKey", "isFlexible", "(S)Z"⟩ : MethodName)) hown (mvT hZ (hw _ (List.mem_of_getElem? (i := 11) rfl))) (mvT hZ (hw _ (List.mem_of_getElem? (i := 12) rfl))) (notFace_of_selects (args := #[]) (mvT hZ (hw _ (List.mem_of_getElem? (i := 14) rfl)))) (mvT hZ (hw _ (List.mem_of_getElem? (i := 14) rfl))) (mvT hZ (hw _ (List.mem_of_getElem? (i := 13) rfl))) (by decide) (backOf (W := 0) (rm3 l Z A0 hw [] b3 v11 o4 h0 n0 Z0 F6) hZ (hw _ (List.mem_of_getElem? (i := 15) rfl)) (hw _ (List.mem_of_getElem? (i := 6) rfl)) (by decide) (by decide)) q12a q12c (g := (mkF m 26 #[.val (.int p0), .val (.int p1), .val (.int v1), .val (.ref b3), .val (.int o9), .val (.int v11), .unset, .unset, .unset] [(.int v11), (.ref b3)])) rfl (by rw [hml]; rfl) (Steps.refl _) (argsL := [(.int v11)]) (rest := []) (lenOf pd_11 rfl) rfl (by show 2 * 0 + _ ≤ _; exact Nat.le_of_eq rfl) (hb hby at_26) (fun _ _ => ⟨rfl, eq8, (by decide : 0 + 0 ≤ _), (by decide : 0 + 0 ≤ _)⟩)
  dsimp only [Pt.U, Pt.locs, Pt.cells, Pt.slots] at X12 l12 y12 z12 st12 hQ12
  subst l12 y12 z12
  obtain ⟨o13, rfl, Nq12, eq12, hp14⟩ := hQ12
  have N12 := Fr.app N8 Nq12
  refine own_by (fun _ k => st12.trans k) ?_
  show own_Go p e below _ (T12.setTop (mkF m 29 #[.val (.int p0), .val (.int p1), .val (.int v1), .val (.ref b3), .val (.int o9), .val (.int v11), .unset, .unset, .unset] [(.int o13)]))
  refine own_by (fun _ k => XS.iload X12.here hx rfl (hb hby at_29) rfl k) ?_
  show own_Go p e below _ (T12.setTop (mkF m 31 #[.val (.int p0), .val (.int p1), .val (.int v1), .val (.ref b3), .val (.int o9), .val (.int v11), .unset, .unset, .unset] [(.int v11), (.int o13)]))
  refine own_by (fun _ k => XS.iload X12.here hx rfl (hb hby at_31) rfl k) ?_
  show own_Go p e below _ (T12.setTop (mkF m 33 #[.val (.int p0), .val (.int p1), .val (.int v1), .val (.ref b3), .val (.int o9), .val (.int v11), .unset, .unset, .unset] [(.int o9), (.int v11), (.int o13)]))
  have J16 : ∀ (T17 : State) (L18 : List Loc) (z22 : Int32), Stand p l e room_1 s m #[(.int p0), (.int p1)] below meth c T17 L18 0 0 → T17.heap = h0 → Fr n0 L18 → (((v11 < o9) ∧ z22 = (0 : Int32)) ∨ ((¬ (v11 < o9)) ∧ z22 = (1 : Int32))) → own_Go p e below (own_Fin s 0 0 (Q0 Z f_PRODUCE f_LIST_OFFSETS f_HEARTBEAT f_OFFSET_COMMIT f_FETCH f_FIND_COORDINATOR f_API_VERSIONS f_METADATA f_LEAVE_GROUP f_JOIN_GROUP f_SYNC_GROUP f_OFFSET_FETCH p0 p1 h0 n0)) (T17.setTop (mkF m 41 #[.val (.int p0), .val (.int p1), .val (.int v1), .val (.ref b3), .val (.int o9), .val (.int v11), .unset, .unset, .unset] [(.int z22), (.int o13)])) := by
    intro T17 L18 z22 X19 e20 N21 hj23
    have J25 : ∀ (T26 : State) (L27 : List Loc) (z31 : Int32), Stand p l e room_1 s m #[(.int p0), (.int p1)] below meth c T26 L27 0 0 → T26.heap = h0 → Fr n0 L27 → (((o13 = z22) ∧ z31 = (1 : Int32)) ∨ ((¬ (o13 = z22)) ∧ z31 = (0 : Int32))) → own_Go p e below (own_Fin s 0 0 (Q0 Z f_PRODUCE f_LIST_OFFSETS f_HEARTBEAT f_OFFSET_COMMIT f_FETCH f_FIND_COORDINATOR f_API_VERSIONS f_METADATA f_LEAVE_GROUP f_JOIN_GROUP f_SYNC_GROUP f_OFFSET_FETCH p0 p1 h0 n0)) (T26.setTop (mkF m 49 #[.val (.int p0), .val (.int p1), .val (.int v1), .val (.ref b3), .val (.int o9), .val (.int v11), .unset, .unset, .unset] [(.int z31)])) := by
      intro T26 L27 z31 X28 e29 N30 hj32
      refine own_by (fun _ k => XS.istore X28.here hx rfl (hb hby at_49) rfl (l' := #[.val (.int p0), .val (.int p1), .val (.int v1), .val (.ref b3), .val (.int o9), .val (.int v11), .val (.int z31), .unset, .unset]) rfl k) ?_
      show own_Go p e below _ (T26.setTop (mkF m 51 #[.val (.int p0), .val (.int p1), .val (.int v1), .val (.ref b3), .val (.int o9), .val (.int v11), .val (.int z31), .unset, .unset] []))
      refine own_by (fun _ k => XS.aloadN X28.here hx rfl (hb hby at_51) rfl rfl k) ?_
      show own_Go p e below _ (T26.setTop (mkF m 52 #[.val (.int p0), .val (.int p1), .val (.int v1), .val (.ref b3), .val (.int o9), .val (.int v11), .val (.int z31), .unset, .unset] [(.ref b3)]))
      refine own_by (fun _ k => XS.iload X28.here hx rfl (hb hby at_52) rfl k) ?_
      show own_Go p e below _ (T26.setTop (mkF m 54 #[.val (.int p0), .val (.int p1), .val (.int v1), .val (.ref b3), .val (.int o9), .val (.int v11), .val (.int z31), .unset, .unset] [(.int o9), (.ref b3)]))
      refine own_by (fun _ k => XS.i2s X28.here hx rfl (hb hby at_54) rfl k) ?_
      show own_Go p e below _ (T26.setTop (mkF m 55 #[.val (.int p0), .val (.int p1), .val (.int v1), .val (.ref b3), .val (.int o9), .val (.int v11), .val (.int z31), .unset, .unset] [(.int (o9.toInt16.toInt32)), (.ref b3)]))
      obtain ⟨cq33, kq33, q33a, q33b, q33c⟩ := isOf hZ e29 F5
      obtain ⟨_, _, ⟨T33, L33, k33, n33⟩, -, X33, ⟨Lc33, hQ33, l33, y33, z33⟩, st33⟩ := X28.virtualBack hx (y := (⟨"com/example/keelstream/keelstream/protocol/ApiKey", "isFlexible", "(S)Z"⟩ : MethodName)) (z := (⟨"com/example/keelstream/keelstream/protocol/ApiKey", "isFlexible", "(S)Z"⟩ : MethodName)) hown (mvT hZ (hw _ (List.mem_of_getElem? (i := 11) rfl))) (mvT hZ (hw _ (List.mem_of_getElem? (i := 12) rfl))) (notFace_of_selects (args := #[]) (mvT hZ (hw _ (List.mem_of_getElem? (i := 14) rfl)))) (mvT hZ (hw _ (List.mem_of_getElem? (i := 14) rfl))) (mvT hZ (hw _ (List.mem_of_getElem? (i := 13) rfl))) (by decide) (backOf (W := 0) (rm3 l Z A0 hw [] b3 (o9.toInt16.toInt32) o4 h0 n0 Z0 F6) hZ (hw _ (List.mem_of_getElem? (i := 15) rfl)) (hw _ (List.mem_of_getElem? (i := 6) rfl)) (by decide) (by decide)) q33a q33c (g := (mkF m 55 #[.val (.int p0), .val (.int p1), .val (.int v1), .val (.ref b3), .val (.int o9), .val (.int v11), .val (.int z31), .unset, .unset] [(.int (o9.toInt16.toInt32)), (.ref b3)])) rfl (by rw [hml]; rfl) (Steps.refl _) (argsL := [(.int (o9.toInt16.toInt32))]) (rest := []) (lenOf pd_11 rfl) rfl (by show 2 * 0 + _ ≤ _; exact Nat.le_of_eq rfl) (hb hby at_55) (fun _ _ => ⟨rfl, e29, (by decide : 0 + 0 ≤ _), (by decide : 0 + 0 ≤ _)⟩)
      dsimp only [Pt.U, Pt.locs, Pt.cells, Pt.slots] at X33 l33 y33 z33 st33 hQ33
      subst l33 y33 z33
      obtain ⟨o34, rfl, Nq33, eq33, hp35⟩ := hQ33
      have N33 := Fr.app N30 Nq33
      refine own_by (fun _ k => st33.trans k) ?_
      show own_Go p e below _ (T33.setTop (mkF m 58 #[.val (.int p0), .val (.int p1), .val (.int v1), .val (.ref b3), .val (.int o9), .val (.int v11), .val (.int z31), .unset, .unset] [(.int o34)]))
      refine own_by (fun _ k => XS.istore X33.here hx rfl (hb hby at_58) rfl (l' := #[.val (.int p0), .val (.int p1), .val (.int v1), .val (.ref b3), .val (.int o9), .val (.int v11), .val (.int z31), .val (.int o34), .unset]) rfl k) ?_
      show own_Go p e below _ (T33.setTop (mkF m 60 #[.val (.int p0), .val (.int p1), .val (.int v1), .val (.ref b3), .val (.int o9), .val (.int v11), .val (.int z31), .val (.int o34), .unset] []))
      refine own_by (fun _ k => XS.aloadN X33.here hx rfl (hb hby at_60) rfl rfl k) ?_
      show own_Go p e below _ (T33.setTop (mkF m 61 #[.val (.int p0), .val (.int p1), .val (.int v1), .val (.ref b3), .val (.int o9), .val (.int v11), .val (.int z31), .val (.int o34), .unset] [(.ref b3)]))
      refine own_by (fun _ k => XS.iload X33.here hx rfl (hb hby at_61) rfl k) ?_
      show own_Go p e below _ (T33.setTop (mkF m 63 #[.val (.int p0), .val (.int p1), .val (.int v1), .val (.ref b3), .val (.int o9), .val (.int v11), .val (.int z31), .val (.int o34), .unset] [(.int o9), (.ref b3)]))
      refine own_by (fun _ k => XS.iconst X33.here hx rfl (hb hby at_63) k) ?_
      show own_Go p e below _ (T33.setTop (mkF m 64 #[.val (.int p0), .val (.int p1), .val (.int v1), .val (.ref b3), .val (.int o9), .val (.int v11), .val (.int z31), .val (.int o34), .unset] [(.int (1 : Int32)), (.int o9), (.ref b3)]))
      refine own_by (fun _ k => XS.isub X33.here hx rfl (hb hby at_64) rfl k) ?_
      show own_Go p e below _ (T33.setTop (mkF m 65 #[.val (.int p0), .val (.int p1), .val (.int v1), .val (.ref b3), .val (.int o9), .val (.int v11), .val (.int z31), .val (.int o34), .unset] [(.int (o9 - (1 : Int32))), (.ref b3)]))
      refine own_by (fun _ k => XS.i2s X33.here hx rfl (hb hby at_65) rfl k) ?_
      show own_Go p e below _ (T33.setTop (mkF m 66 #[.val (.int p0), .val (.int p1), .val (.int v1), .val (.ref b3), .val (.int o9), .val (.int v11), .val (.int z31), .val (.int o34), .unset] [(.int ((o9 - (1 : Int32)).toInt16.toInt32)), (.ref b3)]))
      obtain ⟨cq36, kq36, q36a, q36b, q36c⟩ := isOf hZ eq33 F5
      obtain ⟨_, _, ⟨T36, L36, k36, n36⟩, -, X36, ⟨Lc36, hQ36, l36, y36, z36⟩, st36⟩ := X33.virtualBack hx (y := (⟨"com/example/keelstream/keelstream/protocol/ApiKey", "isFlexible", "(S)Z"⟩ : MethodName)) (z := (⟨"com/example/keelstream/keelstream/protocol/ApiKey", "isFlexible", "(S)Z"⟩ : MethodName)) hown (mvT hZ (hw _ (List.mem_of_getElem? (i := 11) rfl))) (mvT hZ (hw _ (List.mem_of_getElem? (i := 12) rfl))) (notFace_of_selects (args := #[]) (mvT hZ (hw _ (List.mem_of_getElem? (i := 14) rfl)))) (mvT hZ (hw _ (List.mem_of_getElem? (i := 14) rfl))) (mvT hZ (hw _ (List.mem_of_getElem? (i := 13) rfl))) (by decide) (backOf (W := 0) (rm3 l Z A0 hw [] b3 ((o9 - (1 : Int32)).toInt16.toInt32) o4 h0 n0 Z0 F6) hZ (hw _ (List.mem_of_getElem? (i := 15) rfl)) (hw _ (List.mem_of_getElem? (i := 6) rfl)) (by decide) (by decide)) q36a q36c (g := (mkF m 66 #[.val (.int p0), .val (.int p1), .val (.int v1), .val (.ref b3), .val (.int o9), .val (.int v11), .val (.int z31), .val (.int o34), .unset] [(.int ((o9 - (1 : Int32)).toInt16.toInt32)), (.ref b3)])) rfl (by rw [hml]; rfl) (Steps.refl _) (argsL := [(.int ((o9 - (1 : Int32)).toInt16.toInt32))]) (rest := []) (lenOf pd_11 rfl) rfl (by show 2 * 0 + _ ≤ _; exact Nat.le_of_eq rfl) (hb hby at_66) (fun _ _ => ⟨rfl, eq33, (by decide : 0 + 0 ≤ _), (by decide : 0 + 0 ≤ _)⟩)
      dsimp only [Pt.U, Pt.locs, Pt.cells, Pt.slots] at X36 l36 y36 z36 st36 hQ36
      subst l36 y36 z36
      obtain ⟨o37, rfl, Nq36, eq36, hp38⟩ := hQ36
      have N36 := Fr.app N33 Nq36
      refine own_by (fun _ k => st36.trans k) ?_
      show own_Go p e below _ (T36.setTop (mkF m 69 #[.val (.int p0), .val (.int p1), .val (.int v1), .val (.ref b3), .val (.int o9), .val (.int v11), .val (.int z31), .val (.int o34), .unset] [(.int o37)]))
      have J40 : ∀ (T41 : State) (L42 : List Loc) (z46 : Int32), Stand p l e room_1 s m #[(.int p0), (.int p1)] below meth c T41 L42 0 0 → T41.heap = h0 → Fr n0 L42 → (((o37 = (0 : Int32)) ∧ z46 = (1 : Int32)) ∨ ((¬ (o37 = (0 : Int32))) ∧ z46 = (0 : Int32))) → own_Go p e below (own_Fin s 0 0 (Q0 Z f_PRODUCE f_LIST_OFFSETS f_HEARTBEAT f_OFFSET_COMMIT f_FETCH f_FIND_COORDINATOR f_API_VERSIONS f_METADATA f_LEAVE_GROUP f_JOIN_GROUP f_SYNC_GROUP f_OFFSET_FETCH p0 p1 h0 n0)) (T41.setTop (mkF m 77 #[.val (.int p0), .val (.int p1), .val (.int v1), .val (.ref b3), .val (.int o9), .val (.int v11), .val (.int z31), .val (.int o34), .unset] [(.int z46)])) := by
        intro T41 L42 z46 X43 e44 N45 hj47
        refine own_by (fun _ k => XS.istore X43.here hx rfl (hb hby at_77) rfl (l' := #[.val (.int p0), .val (.int p1), .val (.int v1), .val (.ref b3), .val (.int o9), .val (.int v11), .val (.int z31), .val (.int o34), .val (.int z46)]) rfl k) ?_
        show own_Go p e below _ (T41.setTop (mkF m 79 #[.val (.int p0), .val (.int p1), .val (.int v1), .val (.ref b3), .val (.int o9), .val (.int v11), .val (.int z31), .val (.int o34), .val (.int z46)] []))
        refine own_by (fun _ k => XS.iload X43.here hx rfl (hb hby at_79) rfl k) ?_
        show own_Go p e below _ (T41.setTop (mkF m 81 #[.val (.int p0), .val (.int p1), .val (.int v1), .val (.ref b3), .val (.int o9), .val (.int v11), .val (.int z31), .val (.int o34), .val (.int z46)] [(.int z31)]))
        by_cases c48 : z31 = (0 : Int32)
        · skip
          refine own_by (fun _ k => XS.ifYes X43.here hx rfl (pc0 := 81) (pc' := 98) rfl (hb hby at_81) rfl ((if0 _ _).trans (teq c48).1) (by decide) (by decide) k) ?_
          show own_Go p e below _ (T41.setTop (mkF m 98 #[.val (.int p0), .val (.int p1), .val (.int v1), .val (.ref b3), .val (.int o9), .val (.int v11), .val (.int z31), .val (.int o34), .val (.int z46)] []))
          refine own_by (fun _ k => XS.iconst X43.here hx rfl (hb hby at_98) k) ?_
          show own_Go p e below _ (T41.setTop (mkF m 99 #[.val (.int p0), .val (.int p1), .val (.int v1), .val (.ref b3), .val (.int o9), .val (.int v11), .val (.int z31), .val (.int o34), .val (.int z46)] [(.int (0 : Int32))]))
          exact own_retN X43 hx (t := .boolean) Bd.returns (by simp) (hb hby at_99) hlk e44 ⟨((ob_0_1 p0 p1 v1 o4 o9 v11 o13 z22 z31 o34 o37 z46 hv1 hp7 hp10 hv11 hp14 hj23 hj32 hp35 hp38 hj47 c48)).elim, N45⟩ (by decide) (by decide)
        · skip
          refine own_by (fun _ k => XS.ifNo X43.here hx rfl (hb hby at_81) rfl ((if0 _ _).trans (feq c48).1) k) ?_
          show own_Go p e below _ (T41.setTop (mkF m 84 #[.val (.int p0), .val (.int p1), .val (.int v1), .val (.ref b3), .val (.int o9), .val (.int v11), .val (.int z31), .val (.int o34), .val (.int z46)] []))
          refine own_by (fun _ k => XS.iload X43.here hx rfl (hb hby at_84) rfl k) ?_
          show own_Go p e below _ (T41.setTop (mkF m 86 #[.val (.int p0), .val (.int p1), .val (.int v1), .val (.ref b3), .val (.int o9), .val (.int v11), .val (.int z31), .val (.int o34), .val (.int z46)] [(.int o34)]))
          by_cases c49 : o34 = (0 : Int32)
          · skip
            refine own_by (fun _ k => XS.ifYes X43.here hx rfl (pc0 := 86) (pc' := 98) rfl (hb hby at_86) rfl ((if0 _ _).trans (teq c49).1) (by decide) (by decide) k) ?_
            show own_Go p e below _ (T41.setTop (mkF m 98 #[.val (.int p0), .val (.int p1), .val (.int v1), .val (.ref b3), .val (.int o9), .val (.int v11), .val (.int z31), .val (.int o34), .val (.int z46)] []))
            refine own_by (fun _ k => XS.iconst X43.here hx rfl (hb hby at_98) k) ?_
            show own_Go p e below _ (T41.setTop (mkF m 99 #[.val (.int p0), .val (.int p1), .val (.int v1), .val (.ref b3), .val (.int o9), .val (.int v11), .val (.int z31), .val (.int o34), .val (.int z46)] [(.int (0 : Int32))]))
            exact own_retN X43 hx (t := .boolean) Bd.returns (by simp) (hb hby at_99) hlk e44 ⟨((ob_0_2 p0 p1 v1 o4 o9 v11 o13 z22 z31 o34 o37 z46 hv1 hp7 hp10 hv11 hp14 hj23 hj32 hp35 hp38 hj47 c48 c49)).elim, N45⟩ (by decide) (by decide)
          · skip
            refine own_by (fun _ k => XS.ifNo X43.here hx rfl (hb hby at_86) rfl ((if0 _ _).trans (feq c49).1) k) ?_
            show own_Go p e below _ (T41.setTop (mkF m 89 #[.val (.int p0), .val (.int p1), .val (.int v1), .val (.ref b3), .val (.int o9), .val (.int v11), .val (.int z31), .val (.int o34), .val (.int z46)] []))
            refine own_by (fun _ k => XS.iload X43.here hx rfl (hb hby at_89) rfl k) ?_
            show own_Go p e below _ (T41.setTop (mkF m 91 #[.val (.int p0), .val (.int p1), .val (.int v1), .val (.ref b3), .val (.int o9), .val (.int v11), .val (.int z31), .val (.int o34), .val (.int z46)] [(.int z46)]))
            by_cases c50 : z46 = (0 : Int32)
            · skip
              refine own_by (fun _ k => XS.ifYes X43.here hx rfl (pc0 := 91) (pc' := 98) rfl (hb hby at_91) rfl ((if0 _ _).trans (teq c50).1) (by decide) (by decide) k) ?_
              show own_Go p e below _ (T41.setTop (mkF m 98 #[.val (.int p0), .val (.int p1), .val (.int v1), .val (.ref b3), .val (.int o9), .val (.int v11), .val (.int z31), .val (.int o34), .val (.int z46)] []))
              refine own_by (fun _ k => XS.iconst X43.here hx rfl (hb hby at_98) k) ?_
              show own_Go p e below _ (T41.setTop (mkF m 99 #[.val (.int p0), .val (.int p1), .val (.int v1), .val (.ref b3), .val (.int o9), .val (.int v11), .val (.int z31), .val (.int o34), .val (.int z46)] [(.int (0 : Int32))]))
              exact own_retN X43 hx (t := .boolean) Bd.returns (by simp) (hb hby at_99) hlk e44 ⟨((ob_0_3 p0 p1 v1 o4 o9 v11 o13 z22 z31 o34 o37 z46 hv1 hp7 hp10 hv11 hp14 hj23 hj32 hp35 hp38 hj47 c48 c49 c50)).elim, N45⟩ (by decide) (by decide)
            · skip
              refine own_by (fun _ k => XS.ifNo X43.here hx rfl (hb hby at_91) rfl ((if0 _ _).trans (feq c50).1) k) ?_
              show own_Go p e below _ (T41.setTop (mkF m 94 #[.val (.int p0), .val (.int p1), .val (.int v1), .val (.ref b3), .val (.int o9), .val (.int v11), .val (.int z31), .val (.int o34), .val (.int z46)] []))
              refine own_by (fun _ k => XS.iconst X43.here hx rfl (hb hby at_94) k) ?_
              show own_Go p e below _ (T41.setTop (mkF m 95 #[.val (.int p0), .val (.int p1), .val (.int v1), .val (.ref b3), .val (.int o9), .val (.int v11), .val (.int z31), .val (.int o34), .val (.int z46)] [(.int (1 : Int32))]))
              refine own_by (fun _ k => XS.goto X43.here hx rfl (pc0 := 95) (pc' := 99) rfl (hb hby at_95) (by decide) (by decide) k) ?_
              show own_Go p e below _ (T41.setTop (mkF m 99 #[.val (.int p0), .val (.int p1), .val (.int v1), .val (.ref b3), .val (.int o9), .val (.int v11), .val (.int z31), .val (.int o34), .val (.int z46)] [(.int (1 : Int32))]))
              exact own_retN X43 hx (t := .boolean) Bd.returns (by simp) (hb hby at_99) hlk e44 ⟨rfl, N45⟩ (by decide) (by decide)
      by_cases c39 : o37 = (0 : Int32)
      · skip
        refine own_by (fun _ k => XS.ifNo X36.here hx rfl (hb hby at_69) rfl ((if0 _ _).trans (teq c39).2) k) ?_
        show own_Go p e below _ (T36.setTop (mkF m 72 #[.val (.int p0), .val (.int p1), .val (.int v1), .val (.ref b3), .val (.int o9), .val (.int v11), .val (.int z31), .val (.int o34), .unset] []))
        refine own_by (fun _ k => XS.iconst X36.here hx rfl (hb hby at_72) k) ?_
        show own_Go p e below _ (T36.setTop (mkF m 73 #[.val (.int p0), .val (.int p1), .val (.int v1), .val (.ref b3), .val (.int o9), .val (.int v11), .val (.int z31), .val (.int o34), .unset] [(.int (1 : Int32))]))
        refine own_by (fun _ k => XS.goto X36.here hx rfl (pc0 := 73) (pc' := 77) rfl (hb hby at_73) (by decide) (by decide) k) ?_
        show own_Go p e below _ (T36.setTop (mkF m 77 #[.val (.int p0), .val (.int p1), .val (.int v1), .val (.ref b3), .val (.int o9), .val (.int v11), .val (.int z31), .val (.int o34), .unset] [(.int (1 : Int32))]))
        exact J40 _ _ (1 : Int32) X36 eq36 N36 (Or.inl ⟨c39, rfl⟩)
      · skip
        refine own_by (fun _ k => XS.ifYes X36.here hx rfl (pc0 := 69) (pc' := 76) rfl (hb hby at_69) rfl ((if0 _ _).trans (feq c39).2) (by decide) (by decide) k) ?_
        show own_Go p e below _ (T36.setTop (mkF m 76 #[.val (.int p0), .val (.int p1), .val (.int v1), .val (.ref b3), .val (.int o9), .val (.int v11), .val (.int z31), .val (.int o34), .unset] []))
        refine own_by (fun _ k => XS.iconst X36.here hx rfl (hb hby at_76) k) ?_
        show own_Go p e below _ (T36.setTop (mkF m 77 #[.val (.int p0), .val (.int p1), .val (.int v1), .val (.ref b3), .val (.int o9), .val (.int v11), .val (.int z31), .val (.int o34), .unset] [(.int (0 : Int32))]))
        exact J40 _ _ (0 : Int32) X36 eq36 N36 (Or.inr (⟨c39, rfl⟩))
    by_cases c24 : o13 = z22
    · skip
      refine own_by (fun _ k => XS.icmpNo X19.here hx rfl (hb hby at_41) rfl (teq c24).2 k) ?_
      show own_Go p e below _ (T17.setTop (mkF m 44 #[.val (.int p0), .val (.int p1), .val (.int v1), .val (.ref b3), .val (.int o9), .val (.int v11), .unset, .unset, .unset] []))
      refine own_by (fun _ k => XS.iconst X19.here hx rfl (hb hby at_44) k) ?_
      show own_Go p e below _ (T17.setTop (mkF m 45 #[.val (.int p0), .val (.int p1), .val (.int v1), .val (.ref b3), .val (.int o9), .val (.int v11), .unset, .unset, .unset] [(.int (1 : Int32))]))
      refine own_by (fun _ k => XS.goto X19.here hx rfl (pc0 := 45) (pc' := 49) rfl (hb hby at_45) (by decide) (by decide) k) ?_
      show own_Go p e below _ (T17.setTop (mkF m 49 #[.val (.int p0), .val (.int p1), .val (.int v1), .val (.ref b3), .val (.int o9), .val (.int v11), .unset, .unset, .unset] [(.int (1 : Int32))]))
      exact J25 _ _ (1 : Int32) X19 e20 N21 (Or.inl ⟨c24, rfl⟩)
    · skip
      refine own_by (fun _ k => XS.icmpYes X19.here hx rfl (pc0 := 41) (pc' := 48) rfl (hb hby at_41) rfl (feq c24).2 (by decide) (by decide) k) ?_
      show own_Go p e below _ (T17.setTop (mkF m 48 #[.val (.int p0), .val (.int p1), .val (.int v1), .val (.ref b3), .val (.int o9), .val (.int v11), .unset, .unset, .unset] []))
      refine own_by (fun _ k => XS.iconst X19.here hx rfl (hb hby at_48) k) ?_
      show own_Go p e below _ (T17.setTop (mkF m 49 #[.val (.int p0), .val (.int p1), .val (.int v1), .val (.ref b3), .val (.int o9), .val (.int v11), .unset, .unset, .unset] [(.int (0 : Int32))]))
      exact J25 _ _ (0 : Int32) X19 e20 N21 (Or.inr (⟨c24, rfl⟩))
  by_cases c15 : v11 < o9
  · skip
    refine own_by (fun _ k => XS.icmpYes X12.here hx rfl (pc0 := 33) (pc' := 40) rfl (hb hby at_33) rfl (tlt c15).1 (by decide) (by decide) k) ?_
    show own_Go p e below _ (T12.setTop (mkF m 40 #[.val (.int p0), .val (.int p1), .val (.int v1), .val (.ref b3), .val (.int o9), .val (.int v11), .unset, .unset, .unset] [(.int o13)]))
    refine own_by (fun _ k => XS.iconst X12.here hx rfl (hb hby at_40) k) ?_
    show own_Go p e below _ (T12.setTop (mkF m 41 #[.val (.int p0), .val (.int p1), .val (.int v1), .val (.ref b3), .val (.int o9), .val (.int v11), .unset, .unset, .unset] [(.int (0 : Int32)), (.int o13)]))
    exact J16 _ _ (0 : Int32) X12 eq12 N12 (Or.inl ⟨c15, rfl⟩)
  · skip
    refine own_by (fun _ k => XS.icmpNo X12.here hx rfl (hb hby at_33) rfl (flt c15).1 k) ?_
    show own_Go p e below _ (T12.setTop (mkF m 36 #[.val (.int p0), .val (.int p1), .val (.int v1), .val (.ref b3), .val (.int o9), .val (.int v11), .unset, .unset, .unset] [(.int o13)]))
    refine own_by (fun _ k => XS.iconst X12.here hx rfl (hb hby at_36) k) ?_
    show own_Go p e below _ (T12.setTop (mkF m 37 #[.val (.int p0), .val (.int p1), .val (.int v1), .val (.ref b3), .val (.int o9), .val (.int v11), .unset, .unset, .unset] [(.int (1 : Int32)), (.int o13)]))
    refine own_by (fun _ k => XS.goto X12.here hx rfl (pc0 := 37) (pc' := 41) rfl (hb hby at_37) (by decide) (by decide) k) ?_
    show own_Go p e below _ (T12.setTop (mkF m 41 #[.val (.int p0), .val (.int p1), .val (.int v1), .val (.ref b3), .val (.int o9), .val (.int v11), .unset, .unset, .unset] [(.int (1 : Int32)), (.int o13)]))
    exact J16 _ _ (1 : Int32) X12 eq12 N12 (Or.inr (⟨c15, rfl⟩))
set_option maxRecDepth 65536 in
set_option maxHeartbeats 40000000 in
theorem comes_1 {Post : Tables → Env → Array Value → State → Outcome → State → Prop} (hpost : ∀ tb e args s v u, (limb_1_1.after args s (.returned v) u = true ∧ limb_1_2.after args s (.returned v) u = true ∧ True) → FrameEnd s (.returned v) u (Jvm.fieldLocs frame_1_writes args s ++ Jvm.arrayLocs frame_1_arrays args s ++ Jvm.staticLocs frame_1_statics s) 0 0 → Post tb e args s (.returned v) u) :
    ArmFor flags0 classFile x code maxLocals ret World_1 tables_1 room_1 Calls_1 rest_1 Pre_1 Post := by
  intro l hfl _ _ p e ha hc hk s m args below hf hA hF happ hP
  obtain ⟨hcalls, hrest, hpre⟩ := hP
  obtain ⟨-, -, -, hnamed, -, -, -, hat⟩ := (Spec.applies_iff hf).mp happ
  obtain ⟨hg, hn⟩ := and_e (Cond.before_iff.mp (show (Jvm.Cond.and given_1 narrow_1).before args s = true from hpre))
  obtain ⟨g0, r0⟩ := and_e hg
  obtain ⟨ga0, r1⟩ := and_e r0
  obtain ⟨w0, w1, rfl⟩ : ∃ w0 w1 : Value, args = #[w0, w1] := by
    have hs : args.size = 2 := by simpa [Cond.value, given_1] using g0
    obtain ⟨L⟩ := args
    match L, hs with
    | [w0, w1], _ => exact ⟨w0, w1, rfl⟩
  have hw := fun d (hd : d ∈ tables_1) => atoms_spec (ws := Jvm.Cond.code x code maxLocals ret :: tables_1) hat d (List.mem_cons_of_mem _ hd)
  have hfit : Fit s := fun {y c} hc i hi => by
    obtain ⟨ha, rfl⟩ := Array.getElem?_eq_some_iff.mp hc
    have q := List.all_eq_true.mp ((Array.all_eq_true_iff_forall_mem.mp hF) _ (Array.getElem_mem ha)) i (List.mem_range.mpr hi)
    simpa [Array.getElem?_eq_getElem hi] using q
  obtain ⟨i0, ei0⟩ := is_v ga0
  obtain rfl : w0 = (.int i0) := Option.some.inj ei0
  obtain ⟨i1, ei1⟩ := is_v r1
  obtain rfl : w1 = (.int i1) := Option.some.inj ei1
  obtain ⟨xn0, rn0⟩ := and_e hn
  obtain ⟨f_PRODUCE, ev_PRODUCE⟩ := exa_v xn0
  obtain ⟨xn1, rn1⟩ := and_e rn0
  obtain ⟨xn2, rn2⟩ := and_e rn1
  obtain ⟨f_LIST_OFFSETS, ev_LIST_OFFSETS⟩ := exa_v xn2
  obtain ⟨xn3, rn3⟩ := and_e rn2
  obtain ⟨xn4, rn4⟩ := and_e rn3
  obtain ⟨f_HEARTBEAT, ev_HEARTBEAT⟩ := exa_v xn4
  obtain ⟨xn5, rn5⟩ := and_e rn4
  obtain ⟨xn6, rn6⟩ := and_e rn5
  obtain ⟨f_OFFSET_COMMIT, ev_OFFSET_COMMIT⟩ := exa_v xn6
  obtain ⟨xn7, rn7⟩ := and_e rn6
  obtain ⟨xn8, rn8⟩ := and_e rn7
  obtain ⟨f_FETCH, ev_FETCH⟩ := exa_v xn8
  obtain ⟨xn9, rn9⟩ := and_e rn8
  obtain ⟨xn10, rn10⟩ := and_e rn9
  obtain ⟨f_FIND_COORDINATOR, ev_FIND_COORDINATOR⟩ := exa_v xn10
  obtain ⟨xn11, rn11⟩ := and_e rn10
  obtain ⟨xn12, rn12⟩ := and_e rn11
  obtain ⟨f_API_VERSIONS, ev_API_VERSIONS⟩ := exa_v xn12
  obtain ⟨xn13, rn13⟩ := and_e rn12
  obtain ⟨xn14, rn14⟩ := and_e rn13
  obtain ⟨f_METADATA, ev_METADATA⟩ := exa_v xn14
  obtain ⟨xn15, rn15⟩ := and_e rn14
  obtain ⟨xn16, rn16⟩ := and_e rn15
  obtain ⟨f_LEAVE_GROUP, ev_LEAVE_GROUP⟩ := exa_v xn16
  obtain ⟨xn17, rn17⟩ := and_e rn16
  obtain ⟨xn18, rn18⟩ := and_e rn17
  obtain ⟨f_JOIN_GROUP, ev_JOIN_GROUP⟩ := exa_v xn18
  obtain ⟨xn19, rn19⟩ := and_e rn18
  obtain ⟨xn20, rn20⟩ := and_e rn19
  obtain ⟨f_SYNC_GROUP, ev_SYNC_GROUP⟩ := exa_v xn20
  obtain ⟨xn21, rn21⟩ := and_e rn20
  obtain ⟨xn22, rn22⟩ := and_e rn21
  obtain ⟨f_OFFSET_FETCH, ev_OFFSET_FETCH⟩ := exa_v xn22
  obtain ⟨n, o, h1, h2, h3, _, L, rfl, ⟨rfl, N⟩, hq⟩ := rm0 l s _ hw tables_1 f_PRODUCE f_LIST_OFFSETS f_HEARTBEAT f_OFFSET_COMMIT f_FETCH f_FIND_COORDINATOR f_API_VERSIONS f_METADATA f_LEAVE_GROUP f_JOIN_GROUP f_SYNC_GROUP f_OFFSET_FETCH i0 i1 s.heap s.heap.size (Nat.le_refl _) (Sta.start ev_PRODUCE (Or.inr ⟨(hw _ (List.mem_of_getElem? (i := 6) rfl)), (hw _ (List.mem_of_getElem? (i := 7) rfl))⟩)) (Exa.start ev_PRODUCE xn0) (own_fldEq xn1 ev_PRODUCE) (Sta.start ev_LIST_OFFSETS (Or.inr ⟨(hw _ (List.mem_of_getElem? (i := 6) rfl)), (hw _ (List.mem_of_getElem? (i := 19) rfl))⟩)) (Exa.start ev_LIST_OFFSETS xn2) (own_fldEq xn3 ev_LIST_OFFSETS) (Sta.start ev_HEARTBEAT (Or.inr ⟨(hw _ (List.mem_of_getElem? (i := 6) rfl)), (hw _ (List.mem_of_getElem? (i := 21) rfl))⟩)) (Exa.start ev_HEARTBEAT xn4) (own_fldEq xn5 ev_HEARTBEAT) (Sta.start ev_OFFSET_COMMIT (Or.inr ⟨(hw _ (List.mem_of_getElem? (i := 6) rfl)), (hw _ (List.mem_of_getElem? (i := 23) rfl))⟩)) (Exa.start ev_OFFSET_COMMIT xn6) (own_fldEq xn7 ev_OFFSET_COMMIT) (Sta.start ev_FETCH (Or.inr ⟨(hw _ (List.mem_of_getElem? (i := 6) rfl)), (hw _ (List.mem_of_getElem? (i := 25) rfl))⟩)) (Exa.start ev_FETCH xn8) (own_fldEq xn9 ev_FETCH) (Sta.start ev_FIND_COORDINATOR (Or.inr ⟨(hw _ (List.mem_of_getElem? (i := 6) rfl)), (hw _ (List.mem_of_getElem? (i := 27) rfl))⟩)) (Exa.start ev_FIND_COORDINATOR xn10) (own_fldEq xn11 ev_FIND_COORDINATOR) (Sta.start ev_API_VERSIONS (Or.inr ⟨(hw _ (List.mem_of_getElem? (i := 6) rfl)), (hw _ (List.mem_of_getElem? (i := 29) rfl))⟩)) (Exa.start ev_API_VERSIONS xn12) (own_fldEq xn13 ev_API_VERSIONS) (Sta.start ev_METADATA (Or.inr ⟨(hw _ (List.mem_of_getElem? (i := 6) rfl)), (hw _ (List.mem_of_getElem? (i := 31) rfl))⟩)) (Exa.start ev_METADATA xn14) (own_fldEq xn15 ev_METADATA) (Sta.start ev_LEAVE_GROUP (Or.inr ⟨(hw _ (List.mem_of_getElem? (i := 6) rfl)), (hw _ (List.mem_of_getElem? (i := 33) rfl))⟩)) (Exa.start ev_LEAVE_GROUP xn16) (own_fldEq xn17 ev_LEAVE_GROUP) (Sta.start ev_JOIN_GROUP (Or.inr ⟨(hw _ (List.mem_of_getElem? (i := 6) rfl)), (hw _ (List.mem_of_getElem? (i := 35) rfl))⟩)) (Exa.start ev_JOIN_GROUP xn18) (own_fldEq xn19 ev_JOIN_GROUP) (Sta.start ev_SYNC_GROUP (Or.inr ⟨(hw _ (List.mem_of_getElem? (i := 6) rfl)), (hw _ (List.mem_of_getElem? (i := 37) rfl))⟩)) (Exa.start ev_SYNC_GROUP xn20) (own_fldEq xn21 ev_SYNC_GROUP) (Sta.start ev_OFFSET_FETCH (Or.inr ⟨(hw _ (List.mem_of_getElem? (i := 6) rfl)), (hw _ (List.mem_of_getElem? (i := 39) rfl))⟩)) (Exa.start ev_OFFSET_FETCH xn22) (own_fldEq rn22 ev_OFFSET_FETCH) p e ha hc hk s m _ below hf ((Spec.applies_iff_loose hf).mp happ).1 ⟨rfl, State.Warmed39.refl s, rfl⟩ trivial
  refine ⟨n, _, h1, h2, h3, hpost _ _ _ _ _ _ ⟨Cond.after_iff.mpr rfl, Cond.after_iff.mpr (eq_i res_at (Term.int_eval (1)) rfl), trivial⟩ ⟨hq.1, hq.2.1, (hq.2.2.sift fun y hy => Or.inr (N y hy)).mono (by decide) (by decide)⟩⟩
theorem main_1_1 : Claimed_1_1 := comes_1 fun _ _ _ _ _ _ h hF => ⟨h.1, hF⟩
theorem main_1_2 : Claimed_1_2 := comes_1 fun _ _ _ _ _ _ h hF => ⟨h.2.1, hF⟩
end Jvm.Pilot.@@N@@
namespace Jvm.Pilot.@@N@@
open Jvm Jvm.ClassFile Sem Op Lib Jvm.Free Jvm.Stand Jvm.Pilot.@@N@@.Jvm.D
/-! MADE BY PROGRAM (witnessworld.py) out of the Statement's table words and the real class files: 12 classes; the members and pool entries that the words name. The judged class is class 1, her method 3. -/
namespace start1
open Jvm.ClassFile
def u (s : String) : CpInfo := .utf8 (stringToUtf16 s)
/-- a pool by its gaps: so many unusable entries, then the entry; so many at the end -/
def gap : Nat → List CpInfo → List CpInfo
  | 0, r => r
  | n + 1, r => .unusable :: gap n r
def poolList (es : List (Nat × CpInfo)) (last : Nat) : List CpInfo := es.foldr (fun e r => gap e.1 (e.2 :: r)) (gap last [])
def pool (es : List (Nat × CpInfo)) (last : Nat) : Array CpInfo := ⟨poolList es last⟩
def fileOf (pool : Array CpInfo) (this : Nat) (attrs : Array Attribute := #[]) (ms : Array MethodInfo := #[]) (fl : Nat := 33) (sup : Nat := 0) (ifs : Array Nat := #[]) (fds : Array FieldInfo := #[]) : ClassFile where
  minorVersion := 0
  majorVersion := 65
  constantPool := pool
  accessFlags := fl
  thisClass := this
  superClass := sup
  interfaces := ifs
  fields := fds
  methods := ms
  attributes := attrs
def plain (name : String) (sup : Option ClassId) : Class where
  name := name
  kind := .ordinary
  loader := none
  accessFlags := 33
  super := sup
  interfaces := #[]
  cf := none
  fields := #[]
  methods := #[]
  instanceTypes := #[]
  staticTypes := #[]
  resolved := #[]
  callSites := []
  init := .initialized
  statics := none
  mirror := none

def pool0 : Array CpInfo := pool [(5, u "<init>"), (0, u "()V"), (1, .class_ 10), (1, u "java/lang/Object")] 113

def k0m0 : Method := { name := "<init>", desc := "()V", sig := { parameters := [], returnType := none }, accessFlags := 1, code := none }
/-- java/lang/Object -/
def k0 : Class := { plain "java/lang/Object" none with
  accessFlags := 33
  interfaces := #[]
  cf := some (fileOf pool0 8 #[] #[{ accessFlags := 1, nameIndex := 5, descriptorIndex := 6, attributes := #[] }] 33 0 #[] #[])
  fields := #[]
  methods := #[k0m0]
  instanceTypes := #[]
  staticTypes := #[]
  resolved := Array.replicate 124 none
  statics := none }

def pool1 : Array CpInfo := pool [(2, .class_ 4), (1, u "java/lang/Object"), (0, u "<init>"), (0, u "()V"), (0, .fieldref 8 9), (0, .class_ 10), (0, .nameAndType 11 12), (0, u "com/example/keelstream/keelstream/protocol/ApiKey"), (0, u "PRODUCE"), (0, u "Lcom/example/keelstream/keelstream/protocol/ApiKey;"), (0, .fieldref 8 14), (0, .nameAndType 15 12), (0, u "FETCH"), (0, .fieldref 8 17), (0, .nameAndType 18 12), (0, u "LIST_OFFSETS"), (0, .fieldref 8 20), (0, .nameAndType 21 12), (0, u "METADATA"), (0, .fieldref 8 23), (0, .nameAndType 24 12), (0, u "OFFSET_COMMIT"), (0, .fieldref 8 26), (0, .nameAndType 27 12), (0, u "OFFSET_FETCH"), (0, .fieldref 8 29), (0, .nameAndType 30 12), (0, u "FIND_COORDINATOR"), (0, .fieldref 8 32), (0, .nameAndType 33 12), (0, u "JOIN_GROUP"), (0, .fieldref 8 35), (0, .nameAndType 36 12), (0, u "HEARTBEAT"), (0, .fieldref 8 38), (0, .nameAndType 39 12), (0, u "LEAVE_GROUP"), (0, .fieldref 8 41), (0, .nameAndType 42 12), (0, u "SYNC_GROUP"), (0, .fieldref 8 44), (0, .nameAndType 45 12), (0, u "API_VERSIONS"), (0, .integer 2147483647), (0, .methodref 48 49), (0, .class_ 50), (0, .nameAndType 51 52), (0, u "com/example/keelstream/keelstream/protocol/ApiKeyIsFlexiblePinLaw"), (0, u "key"), (0, u "(I)Lcom/example/keelstream/keelstream/protocol/ApiKey;"), (0, .methodref 48 54), (0, .nameAndType 55 56), (0, u "firstFlexible"), (0, u "(I)I"), (0, .methodref 8 58), (0, .nameAndType 59 60), (0, u "isFlexible"), (0, u "(S)Z"), (3, u "law"), (0, u "(II)Z")] 2

def k1m0 : Method := { name := "<init>", desc := "()V", sig := { parameters := [], returnType := none }, accessFlags := 1, code := none }
def k1c1 : Code := { maxStack := 2, maxLocals := 1, code := method_2_code, exceptionTable := #[], attributes := #[] }
def k1m1 : Method := { name := "key", desc := "(I)Lcom/example/keelstream/keelstream/protocol/ApiKey;", sig := { parameters := [.int], returnType := some (.object "com/example/keelstream/keelstream/protocol/ApiKey") }, accessFlags := 10, code := some k1c1 }
def k1c2 : Code := { maxStack := 2, maxLocals := 1, code := method_3_code, exceptionTable := #[], attributes := #[] }
def k1m2 : Method := { name := "firstFlexible", desc := "(I)I", sig := { parameters := [.int], returnType := some .int }, accessFlags := 10, code := some k1c2 }
def k1c3 : Code := { maxStack := 3, maxLocals := 9, code := code, exceptionTable := #[], attributes := #[] }
def k1m3 : Method := { name := "law", desc := "(II)Z", sig := { parameters := [.int, .int], returnType := some .boolean }, accessFlags := 9, code := some k1c3 }
/-- com/example/keelstream/keelstream/protocol/ApiKeyIsFlexiblePinLaw -/
def k1 : Class := { plain "com/example/keelstream/keelstream/protocol/ApiKeyIsFlexiblePinLaw" (some 0) with
  accessFlags := 49
  interfaces := #[]
  cf := some (fileOf pool1 48 #[] #[{ accessFlags := 1, nameIndex := 5, descriptorIndex := 6, attributes := #[] }, { accessFlags := 10, nameIndex := 51, descriptorIndex := 52, attributes := #[] }, { accessFlags := 10, nameIndex := 55, descriptorIndex := 56, attributes := #[] }, { accessFlags := 9, nameIndex := 64, descriptorIndex := 65, attributes := #[] }] 49 2 #[] #[])
  fields := #[]
  methods := #[k1m0, k1m1, k1m2, k1m3]
  instanceTypes := #[]
  staticTypes := #[]
  resolved := Array.replicate 68 none
  statics := none }

def pool2 : Array CpInfo := pool [(1, .class_ 2), (0, u "java/lang/constant/Constable"), (0, .class_ 4), (0, u "java/lang/Object")] 6

/-- java/lang/constant/Constable -/
def k2 : Class := { plain "java/lang/constant/Constable" (some 0) with
  accessFlags := 1537
  interfaces := #[]
  cf := some (fileOf pool2 1 #[] #[] 1537 3 #[] #[])
  fields := #[]
  methods := #[]
  instanceTypes := #[]
  staticTypes := #[]
  resolved := Array.replicate 11 none
  statics := none }

def pool3 : Array CpInfo := pool [(1, .class_ 2), (0, u "java/lang/Comparable"), (0, .class_ 4), (0, u "java/lang/Object")] 7

/-- java/lang/Comparable -/
def k3 : Class := { plain "java/lang/Comparable" (some 0) with
  accessFlags := 1537
  interfaces := #[]
  cf := some (fileOf pool3 1 #[] #[] 1537 3 #[] #[])
  fields := #[]
  methods := #[]
  instanceTypes := #[]
  staticTypes := #[]
  resolved := Array.replicate 12 none
  statics := none }

def pool4 : Array CpInfo := pool [(1, .class_ 2), (0, u "java/io/Serializable"), (0, .class_ 4), (0, u "java/lang/Object")] 2

/-- java/io/Serializable -/
def k4 : Class := { plain "java/io/Serializable" (some 0) with
  accessFlags := 1537
  interfaces := #[]
  cf := some (fileOf pool4 1 #[] #[] 1537 3 #[] #[])
  fields := #[]
  methods := #[]
  instanceTypes := #[]
  staticTypes := #[]
  resolved := Array.replicate 7 none
  statics := none }

def pool5 : Array CpInfo := pool [(2, .class_ 4), (1, u "java/lang/Enum"), (0, u "name"), (0, u "Ljava/lang/String;"), (2, u "ordinal"), (0, u "I"), (1, .class_ 14), (1, u "java/lang/Object"), (4, u "hash"), (86, .class_ 108), (1, u "java/lang/Enum$EnumDesc"), (2, .class_ 112), (0, u "java/lang/constant/Constable"), (0, .class_ 114), (0, u "java/lang/Comparable"), (0, .class_ 116), (0, u "java/io/Serializable")] 87

/-- java/lang/Enum -/
def k5 : Class := { plain "java/lang/Enum" (some 0) with
  accessFlags := 1057
  interfaces := #[2, 3, 4]
  cf := some (fileOf pool5 2 #[.nestMembers #[106]] #[] 1057 12 #[111, 113, 115] #[{ accessFlags := 18, nameIndex := 5, descriptorIndex := 6, attributes := #[] }, { accessFlags := 18, nameIndex := 9, descriptorIndex := 10, attributes := #[] }, { accessFlags := 2, nameIndex := 19, descriptorIndex := 10, attributes := #[] }])
  fields := #[{ name := "name", type := (.object "java/lang/String"), accessFlags := 18, slot := 0, constantValue := 0 }, { name := "ordinal", type := .int, accessFlags := 18, slot := 1, constantValue := 0 }, { name := "hash", type := .int, accessFlags := 2, slot := 2, constantValue := 0 }]
  methods := #[]
  instanceTypes := #[(.object "java/lang/String"), .int, .int]
  staticTypes := #[]
  resolved := Array.replicate 204 none
  statics := none }

def pool6 : Array CpInfo := pool [(1, .class_ 2), (0, u "com/example/keelstream/keelstream/protocol/ApiKey"), (2, u "PRODUCE"), (0, u "Lcom/example/keelstream/keelstream/protocol/ApiKey;"), (2, u "FETCH"), (2, u "LIST_OFFSETS"), (2, u "METADATA"), (2, u "OFFSET_COMMIT"), (2, u "OFFSET_FETCH"), (2, u "FIND_COORDINATOR"), (2, u "JOIN_GROUP"), (2, u "HEARTBEAT"), (2, u "LEAVE_GROUP"), (2, u "SYNC_GROUP"), (2, u "API_VERSIONS"), (2, u "$VALUES"), (0, u "[Lcom/example/keelstream/keelstream/protocol/ApiKey;"), (6, .class_ 52), (1, u "java/lang/Enum"), (8, u "id"), (0, u "S"), (2, u "minVersion"), (2, u "maxVersion"), (0, .fieldref 1 70), (0, .nameAndType 71 62), (0, u "firstFlexibleVersion"), (16, u "isFlexible"), (0, u "(S)Z")] 36

def k6c0 : Code := { maxStack := 2, maxLocals := 2, code := prog_5_method_9_code, exceptionTable := #[], attributes := #[] }
def k6m0 : Method := { name := "isFlexible", desc := "(S)Z", sig := { parameters := [.short], returnType := some .boolean }, accessFlags := 1, code := some k6c0 }
/-- com/example/keelstream/keelstream/protocol/ApiKey -/
def k6 : Class := { plain "com/example/keelstream/keelstream/protocol/ApiKey" (some 5) with
  accessFlags := 16433
  interfaces := #[]
  cf := some (fileOf pool6 1 #[] #[{ accessFlags := 1, nameIndex := 88, descriptorIndex := 89, attributes := #[] }] 16433 50 #[] #[{ accessFlags := 16409, nameIndex := 5, descriptorIndex := 6, attributes := #[] }, { accessFlags := 16409, nameIndex := 9, descriptorIndex := 6, attributes := #[] }, { accessFlags := 16409, nameIndex := 12, descriptorIndex := 6, attributes := #[] }, { accessFlags := 16409, nameIndex := 15, descriptorIndex := 6, attributes := #[] }, { accessFlags := 16409, nameIndex := 18, descriptorIndex := 6, attributes := #[] }, { accessFlags := 16409, nameIndex := 21, descriptorIndex := 6, attributes := #[] }, { accessFlags := 16409, nameIndex := 24, descriptorIndex := 6, attributes := #[] }, { accessFlags := 16409, nameIndex := 27, descriptorIndex := 6, attributes := #[] }, { accessFlags := 16409, nameIndex := 30, descriptorIndex := 6, attributes := #[] }, { accessFlags := 16409, nameIndex := 33, descriptorIndex := 6, attributes := #[] }, { accessFlags := 16409, nameIndex := 36, descriptorIndex := 6, attributes := #[] }, { accessFlags := 16409, nameIndex := 39, descriptorIndex := 6, attributes := #[] }, { accessFlags := 18, nameIndex := 61, descriptorIndex := 62, attributes := #[] }, { accessFlags := 18, nameIndex := 65, descriptorIndex := 62, attributes := #[] }, { accessFlags := 18, nameIndex := 68, descriptorIndex := 62, attributes := #[] }, { accessFlags := 18, nameIndex := 71, descriptorIndex := 62, attributes := #[] }, { accessFlags := 4122, nameIndex := 42, descriptorIndex := 43, attributes := #[] }])
  fields := #[{ name := "PRODUCE", type := (.object "com/example/keelstream/keelstream/protocol/ApiKey"), accessFlags := 16409, slot := 0, constantValue := 0 }, { name := "FETCH", type := (.object "com/example/keelstream/keelstream/protocol/ApiKey"), accessFlags := 16409, slot := 1, constantValue := 0 }, { name := "LIST_OFFSETS", type := (.object "com/example/keelstream/keelstream/protocol/ApiKey"), accessFlags := 16409, slot := 2, constantValue := 0 }, { name := "METADATA", type := (.object "com/example/keelstream/keelstream/protocol/ApiKey"), accessFlags := 16409, slot := 3, constantValue := 0 }, { name := "OFFSET_COMMIT", type := (.object "com/example/keelstream/keelstream/protocol/ApiKey"), accessFlags := 16409, slot := 4, constantValue := 0 }, { name := "OFFSET_FETCH", type := (.object "com/example/keelstream/keelstream/protocol/ApiKey"), accessFlags := 16409, slot := 5, constantValue := 0 }, { name := "FIND_COORDINATOR", type := (.object "com/example/keelstream/keelstream/protocol/ApiKey"), accessFlags := 16409, slot := 6, constantValue := 0 }, { name := "JOIN_GROUP", type := (.object "com/example/keelstream/keelstream/protocol/ApiKey"), accessFlags := 16409, slot := 7, constantValue := 0 }, { name := "HEARTBEAT", type := (.object "com/example/keelstream/keelstream/protocol/ApiKey"), accessFlags := 16409, slot := 8, constantValue := 0 }, { name := "LEAVE_GROUP", type := (.object "com/example/keelstream/keelstream/protocol/ApiKey"), accessFlags := 16409, slot := 9, constantValue := 0 }, { name := "SYNC_GROUP", type := (.object "com/example/keelstream/keelstream/protocol/ApiKey"), accessFlags := 16409, slot := 10, constantValue := 0 }, { name := "API_VERSIONS", type := (.object "com/example/keelstream/keelstream/protocol/ApiKey"), accessFlags := 16409, slot := 11, constantValue := 0 }, { name := "id", type := .short, accessFlags := 18, slot := 3, constantValue := 0 }, { name := "minVersion", type := .short, accessFlags := 18, slot := 4, constantValue := 0 }, { name := "maxVersion", type := .short, accessFlags := 18, slot := 5, constantValue := 0 }, { name := "firstFlexibleVersion", type := .short, accessFlags := 18, slot := 6, constantValue := 0 }, { name := "$VALUES", type := (.array (.object "com/example/keelstream/keelstream/protocol/ApiKey")), accessFlags := 4122, slot := 12, constantValue := 0 }]
  methods := #[k6m0]
  instanceTypes := #[(.object "java/lang/String"), .int, .int, .short, .short, .short, .short]
  staticTypes := #[(.object "com/example/keelstream/keelstream/protocol/ApiKey"), (.object "com/example/keelstream/keelstream/protocol/ApiKey"), (.object "com/example/keelstream/keelstream/protocol/ApiKey"), (.object "com/example/keelstream/keelstream/protocol/ApiKey"), (.object "com/example/keelstream/keelstream/protocol/ApiKey"), (.object "com/example/keelstream/keelstream/protocol/ApiKey"), (.object "com/example/keelstream/keelstream/protocol/ApiKey"), (.object "com/example/keelstream/keelstream/protocol/ApiKey"), (.object "com/example/keelstream/keelstream/protocol/ApiKey"), (.object "com/example/keelstream/keelstream/protocol/ApiKey"), (.object "com/example/keelstream/keelstream/protocol/ApiKey"), (.object "com/example/keelstream/keelstream/protocol/ApiKey"), (.array (.object "com/example/keelstream/keelstream/protocol/ApiKey"))]
  resolved := Array.replicate 126 none
  statics := some 0 }

def pool7 : Array CpInfo := pool [(1, u "java/lang/Cloneable"), (0, .class_ 1), (0, u "java/lang/Object"), (0, .class_ 3)] 3

/-- java/lang/Cloneable -/
def k7 : Class := { plain "java/lang/Cloneable" (some 0) with
  accessFlags := 1537
  interfaces := #[]
  cf := some (fileOf pool7 2 #[] #[] 1537 4 #[] #[])
  fields := #[]
  methods := #[]
  instanceTypes := #[]
  staticTypes := #[]
  resolved := Array.replicate 8 none
  statics := none }

/-- the primitive byte -/
def k8 : Class := { plain "byte" none with kind := .primitive 'B', accessFlags := 0x411 }
/-- [B -/
def k9 : Class := { plain "[B" (some 0) with kind := .array 8 .byte, interfaces := #[7, 4], accessFlags := 1041 }

/-- the primitive int -/
def k10 : Class := { plain "int" none with kind := .primitive 'I', accessFlags := 0x411 }
/-- [I -/
def k11 : Class := { plain "[I" (some 0) with kind := .array 10 .int, interfaces := #[7, 4], accessFlags := 1041 }

def heap : Heap := #[{ cls := 6, slots := #[.ref 1, .ref 5, .ref 2, .ref 8, .ref 4, .ref 12, .ref 6, .ref 10, .ref 3, .ref 9, .ref 11, .ref 7, .null], vm := .statics 6 },
  { cls := 6, slots := #[.null, .int 0, .int 0, .int 0, .int 0, .int 0, .int 9], vm := .none },
  { cls := 6, slots := #[.null, .int 0, .int 0, .int 0, .int 0, .int 0, .int 6], vm := .none },
  { cls := 6, slots := #[.null, .int 0, .int 0, .int 0, .int 0, .int 0, .int 4], vm := .none },
  { cls := 6, slots := #[.null, .int 0, .int 0, .int 0, .int 0, .int 0, .int 8], vm := .none },
  { cls := 6, slots := #[.null, .int 0, .int 0, .int 0, .int 0, .int 0, .int 12], vm := .none },
  { cls := 6, slots := #[.null, .int 0, .int 0, .int 0, .int 0, .int 0, .int 3], vm := .none },
  { cls := 6, slots := #[.null, .int 0, .int 0, .int 0, .int 0, .int 0, .int 3], vm := .none },
  { cls := 6, slots := #[.null, .int 0, .int 0, .int 0, .int 0, .int 0, .int 9], vm := .none },
  { cls := 6, slots := #[.null, .int 0, .int 0, .int 0, .int 0, .int 0, .int 4], vm := .none },
  { cls := 6, slots := #[.null, .int 0, .int 0, .int 0, .int 0, .int 0, .int 6], vm := .none },
  { cls := 6, slots := #[.null, .int 0, .int 0, .int 0, .int 0, .int 0, .int 4], vm := .none },
  { cls := 6, slots := #[.null, .int 0, .int 0, .int 0, .int 0, .int 0, .int 6], vm := .none }]
def classes : Array Class := #[k0, k1, k2, k3, k4, k5, k6, k7, k8, k9, k10, k11]
def interned : List (Array UInt16 × Addr) := []
def slotsUsed : Nat := 97
def theMethod : MethodId := ⟨1, 3⟩
def args0 : Array Value := #[.int 5, .int 7]
def aboutOver (below : List Frame) : State where
  vm := { classes := classes, interned := interned.toArray }
  heap := heap
  slotsUsed := slotsUsed
  threads := #[{ frames := .invoking theMethod args0 :: below }]
def below0 : List Frame := [.native { method := ⟨0, 0⟩, args := #[] }]
def about1 : State := aboutOver below0
def p0 : Program := .bare "" "" ""
def e0 : Env := launch0.env 0 0 0
theorem w_frames : about1.frames = Frame.invoking theMethod args0 :: below0 := rfl
set_option maxRecDepth 65536 in
theorem w_args : argsFit about1.vm theMethod args0 = true := by decide +kernel
set_option maxRecDepth 65536 in
theorem w_heap : heapFits about1 = true := by decide +kernel
set_option maxRecDepth 65536 in
theorem w_runnable : about1.curStatus? = some .runnable := by decide +kernel
set_option maxRecDepth 65536 in
theorem w_alone : about1.alone = true := by decide +kernel
set_option maxRecDepth 65536 in
theorem w_named : about1.methodNamed? x = some theMethod := by decide +kernel
set_option maxRecDepth 65536 in
theorem w_hears : about1.hears theMethod below0 = true := by decide +kernel
set_option maxRecDepth 65536 in
theorem w_ripe : about1.ripe theMethod args0 below0 = true := by decide +kernel
theorem w_running : about1.status = .running := rfl
set_option maxRecDepth 65536 in
theorem w_room : about1.hasRoom e0.platform room_1 = true :=
  launch0.hasRoom_least _ room_1 (by decide +kernel) (by decide +kernel) (by decide +kernel) (by decide +kernel) (by decide +kernel) (by decide +kernel)
theorem allAtoms_all (ts : List Jvm.Cond) (a : Array Jvm.Value) (st : Jvm.State) : (allAtoms ts).before a st = ts.all (fun c => c.before a st) := by
  induction ts with
  | nil => rfl
  | cons c t ih =>
    show (Jvm.Cond.and c (allAtoms t)).before a st = _
    rw [Jvm.Cond.before_and, ih, List.all_cons]
def words1 : List Jvm.Cond := Jvm.Cond.code x code maxLocals ret :: tables_1
/-- a 'code' word, met by the world's own term for the bytes: nothing is compared byte by byte -/
theorem code_word {y : MethodName} {bytes : ByteArray} {mx : Nat} {rt : Option FieldType} {a : Array Value} {s : State} {m : MethodId} {meth : Method} {c : Code} (h1 : s.methodNamed? y = some m) (h2 : s.vm.method? m = some meth) (h3 : meth.code = some c) (h4 : c.code = bytes)
    (h5 : (c.maxLocals == mx && c.exceptionTable.isEmpty && decide (c.maxStack ≤ mostOperands) && decide (meth.sig.returnType = rt) && !meth.locks && decide (parseMethodDescriptor y.desc = some meth.sig)) = true) : (Jvm.Cond.code y bytes mx rt).before a s = true := by
  simp only [Bool.and_eq_true, beq_iff_eq, Bool.not_eq_true', decide_eq_true_eq] at h5
  obtain ⟨⟨⟨⟨⟨g1, g2⟩, g3⟩, g4⟩, g5⟩, g6⟩ := h5
  simp [Cond.before, Cond.holds, Cond.value, h1, h2, h3, h4, g1, g2, g3, g4, g5, g6]
def isCode : Jvm.Cond → Bool
  | .code _ _ _ _ => true
  | _ => false
theorem all_split {L : List Jvm.Cond} {P : Jvm.Cond → Bool} (h1 : L.all (fun c => isCode c || P c) = true) (h2 : ∀ c ∈ L.filter isCode, P c = true) : L.all P = true := by
  refine List.all_eq_true.mpr fun c hc => ?_
  have h := List.all_eq_true.mp h1 c hc
  rcases Bool.eq_false_or_eq_true (isCode c) with hi | hi
  · exact h2 c (List.mem_filter.mpr ⟨hc, hi⟩)
  · simpa [hi] using h
set_option maxRecDepth 65536 in
theorem w_c0 : (Jvm.Cond.code x code maxLocals ret).before args0 about1 = true := code_word (m := ⟨1, 3⟩) (meth := k1m3) (c := k1c3) (by decide +kernel) rfl rfl rfl (by decide +kernel)
set_option maxRecDepth 65536 in
theorem w_c1 : (Jvm.Cond.code ({ cls := "com/example/keelstream/keelstream/protocol/ApiKeyIsFlexiblePinLaw", name := "key", desc := "(I)Lcom/example/keelstream/keelstream/protocol/ApiKey;" } : Jvm.MethodName) method_2_code (1 : Nat) (Option.some (Jvm.ClassFile.FieldType.object "com/example/keelstream/keelstream/protocol/ApiKey"))).before args0 about1 = true := code_word (m := ⟨1, 1⟩) (meth := k1m1) (c := k1c1) (by decide +kernel) rfl rfl rfl (by decide +kernel)
set_option maxRecDepth 65536 in
theorem w_c2 : (Jvm.Cond.code ({ cls := "com/example/keelstream/keelstream/protocol/ApiKeyIsFlexiblePinLaw", name := "firstFlexible", desc := "(I)I" } : Jvm.MethodName) method_3_code (1 : Nat) (Option.some Jvm.ClassFile.FieldType.int)).before args0 about1 = true := code_word (m := ⟨1, 2⟩) (meth := k1m2) (c := k1c2) (by decide +kernel) rfl rfl rfl (by decide +kernel)
set_option maxRecDepth 65536 in
theorem w_c3 : (Jvm.Cond.code ({ cls := "com/example/keelstream/keelstream/protocol/ApiKey", name := "isFlexible", desc := "(S)Z" } : Jvm.MethodName) prog_5_method_9_code (2 : Nat) (Option.some Jvm.ClassFile.FieldType.boolean)).before args0 about1 = true := code_word (m := ⟨6, 0⟩) (meth := k6m0) (c := k6c0) (by decide +kernel) rfl rfl rfl (by decide +kernel)
def codes1 : List Jvm.Cond := [Jvm.Cond.code x code maxLocals ret, Jvm.Cond.code ({ cls := "com/example/keelstream/keelstream/protocol/ApiKeyIsFlexiblePinLaw", name := "key", desc := "(I)Lcom/example/keelstream/keelstream/protocol/ApiKey;" } : Jvm.MethodName) method_2_code (1 : Nat) (Option.some (Jvm.ClassFile.FieldType.object "com/example/keelstream/keelstream/protocol/ApiKey")), Jvm.Cond.code ({ cls := "com/example/keelstream/keelstream/protocol/ApiKeyIsFlexiblePinLaw", name := "firstFlexible", desc := "(I)I" } : Jvm.MethodName) method_3_code (1 : Nat) (Option.some Jvm.ClassFile.FieldType.int), Jvm.Cond.code ({ cls := "com/example/keelstream/keelstream/protocol/ApiKey", name := "isFlexible", desc := "(S)Z" } : Jvm.MethodName) prog_5_method_9_code (2 : Nat) (Option.some Jvm.ClassFile.FieldType.boolean)]
set_option maxRecDepth 65536 in
theorem codes_eq : words1.filter isCode = codes1 := rfl
theorem w_codes : ∀ c ∈ words1.filter isCode, c.before args0 about1 = true := by
  rw [codes_eq]
  intro c hc
  simp only [codes1, List.mem_cons, List.not_mem_nil, or_false] at hc
  rcases hc with rfl | rfl | rfl | rfl
  · exact w_c0
  · exact w_c1
  · exact w_c2
  · exact w_c3
set_option maxRecDepth 65536 in
theorem w_t1 : (words1.take 24).all (fun c => isCode c || c.before args0 about1) = true := by decide +kernel
set_option maxRecDepth 65536 in
theorem w_t2 : (words1.drop 24).all (fun c => isCode c || c.before args0 about1) = true := by decide +kernel
theorem w_tables : (allAtoms (Jvm.Cond.code x code maxLocals ret :: tables_1)).before args0 about1 = true := by
  rw [allAtoms_all]
  show words1.all (fun c => c.before args0 about1) = true
  refine all_split ?_ w_codes
  rw [← List.take_append_drop 24 words1, List.all_append, w_t1, w_t2]
  rfl
set_option maxRecDepth 65536 in
theorem w_case : (Jvm.Cond.and given_1 narrow_1).before args0 about1 = true := by decide +kernel
theorem w_applies : (headSpec (Jvm.Cond.code x code maxLocals ret :: tables_1) room_1).applies x e0.platform about1 = true :=
  (Spec.applies_iff w_frames).mpr ⟨w_running, w_runnable, w_alone, w_named, w_hears, w_ripe, w_room, w_tables⟩
theorem atStart : AtStart classFile x code maxLocals ret World_1 tables_1 room_1 Calls_1 rest_1 Pre_1 launch0 p0 e0 about1 theMethod args0 below0 :=
  ⟨lists_1, trivial, launch0.admits_env _ _ _, launch0.least_env, fairChoices_fair.cas, fairChoices_fair.clock, w_frames, w_args, w_heap, w_applies, trivial, trivial, w_case⟩
end start1
theorem witness_1 : WitnessClaimed_1 := ⟨start1.p0, start1.e0, start1.about1, start1.theMethod, start1.args0, start1.below0, start1.atStart⟩
end Jvm.Pilot.@@N@@
