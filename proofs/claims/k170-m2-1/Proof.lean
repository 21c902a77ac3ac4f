import JvmDerived
import JvmDerived.Pilot.@@N@@Statement
import JvmDerived.Pilot.@@N@@Code
set_option linter.unusedVariables false
set_option linter.unusedSimpArgs false
namespace Jvm.Pilot.@@N@@
open Jvm Jvm.ClassFile Sem Op Lib Jvm.Free Jvm.Stand Jvm.LawKit Jvm.RoadKit Bundle Jvm.Pilot.@@N@@.Jvm.D
def own_Go (p : Program) (e : Env) (below : List Frame) (P : Outcome → State → Prop) (st : State) : Prop :=
  ∃ s₂ o, Steps p.tables e below st s₂ ∧ s₂.status = .running ∧ Ended s₂ below o ∧ P o s₂
def own_Fin (s : State) (C S : Nat) (Q : Option Value → Heap → List Loc → Prop) (o : Outcome) (U : State) : Prop := ∃ v L, o = .returned v ∧ Q v U.heap L ∧ FrameEnd s o U L C S
def own_upd {α : Type} (f : Nat → α) (j : Nat) (v : α) : Nat → α := fun i => if i = j then v else f i
def own_Arf (Z : State) (h : Heap) (a : Addr) (k : ClassId) (ty : FieldType) (n : Int32) (f : Nat → Value) : Prop := ∃ c : Cell, Arr Z h a c ty ∧ c.cls = k ∧ c.slots.size = n.toNatClampNeg ∧ ¬ n < 0 ∧ (∀ i, i < c.slots.size → c.slots[i]? = some (f i)) ∧ ∀ i, i < c.slots.size → fits ty (f i) = true
section OwnKit
variable {p : Program} {l : Launch} {e : Env} {R : Room} {s : State} {m : MethodId} {args : Array Value} {below : List Frame} {meth : Method} {c : Code} {T : State} {locs : List Loc} {cells slots C S : Nat} {P : Outcome → State → Prop} {Q : Option Value → Heap → List Loc → Prop} {Z : State} {h h' : Heap} {a b : Addr} {k : ClassId} {ty : FieldType} {n : Int32} {ws : List Addr}
theorem own_by {st st' : State} (f : ∀ t, Steps p.tables e below st' t → Steps p.tables e below st t) (g : own_Go p e below P st') : own_Go p e below P st := by
  obtain ⟨s₂, o, h1, h2⟩ := g
  exact ⟨s₂, o, f _ h1, h2⟩
theorem own_mono (X : Stand p l e R s m args below meth c T locs cells slots) {c' s' : Nat} (hc : cells ≤ c') (hs : slots ≤ s') : Stand p l e R s m args below meth c T locs c' s' := { X with same := X.same.mono hc hs }
theorem own_end (X : Stand p l e R s m args below meth c T locs cells slots) {v : Option Value} (hv : meth.sig.returnType = none → v = none) (hlk : meth.locks = false) (eT : T.heap = h) (hQ : Q v h locs) (hc : cells ≤ C) (hs : slots ≤ S)
    {g : JFrame} (st : ∀ fs, (∀ (f : JFrame) (acts : List Action), f.method = m → f.locked = none → f.entered = [] → (doReturn e (T.setTop f) acts v).1 = T.setFrames fs) → Steps p.tables e below (T.setTop g) (T.setFrames fs)) : own_Go p e below (own_Fin s C S Q) (T.setTop g) := by
  obtain ⟨fs, hr, hrun, hended, hW, hsame⟩ := X.leave (v := v) hv hlk
  refine ⟨_, _, st fs hr, hrun, hended, v, locs, rfl, ?_, ⟨_, rfl⟩, hW, hsame.mono hc hs⟩
  show Q v T.heap locs
  rw [eT]; exact hQ
theorem own_retN (X : Stand p l e R s m args below meth c T locs cells slots) (hx : p.tables.exec = Jvm.exec) {pc : Nat} {Ls : Array Slot} {z : Int32} {t : FieldType} {rest : List Value} (hret : meth.sig.returnType = some t) (ht : t = .boolean ∨ t = .byte ∨ t = .char ∨ t = .short) (hd : decode c.code pc = .ok (.ireturn, 1)) (hlk : meth.locks = false) (eT : T.heap = h) (hQ : Q (some (.int (nar t z))) h locs) (hc : cells ≤ C) (hs : slots ≤ S) : own_Go p e below (own_Fin s C S Q) (T.setTop (mkF m pc Ls (.int z :: rest))) :=
  own_end X (fun h => by rw [hret] at h; cases h) hlk eT hQ hc hs fun fs hr => retN X hx hret ht hd hr
theorem own_retI (X : Stand p l e R s m args below meth c T locs cells slots) (hx : p.tables.exec = Jvm.exec) {pc : Nat} {Ls : Array Slot} {z : Int32} {rest : List Value} (hret : meth.sig.returnType = some .int) (hd : decode c.code pc = .ok (.ireturn, 1)) (hlk : meth.locks = false) (eT : T.heap = h) (hQ : Q (some (.int z)) h locs) (hc : cells ≤ C) (hs : slots ≤ S) : own_Go p e below (own_Fin s C S Q) (T.setTop (mkF m pc Ls (.int z :: rest))) :=
  own_end X (fun h => by rw [hret] at h; cases h) hlk eT hQ hc hs fun fs hr => retOut X hx hret rfl (Or.inl ⟨rfl, Or.inl rfl, _, rfl⟩) hd hr
theorem own_retJ (X : Stand p l e R s m args below meth c T locs cells slots) (hx : p.tables.exec = Jvm.exec) {pc : Nat} {Ls : Array Slot} {z : Int64} {rest : List Value} (hret : meth.sig.returnType = some .long) (hd : decode c.code pc = .ok (.lreturn, 1)) (hlk : meth.locks = false) (eT : T.heap = h) (hQ : Q (some (.long z)) h locs) (hc : cells ≤ C) (hs : slots ≤ S) : own_Go p e below (own_Fin s C S Q) (T.setTop (mkF m pc Ls (.long z :: rest))) :=
  own_end X (fun h => by rw [hret] at h; cases h) hlk eT hQ hc hs fun fs hr => retOut X hx hret rfl (Or.inr (Or.inl ⟨rfl, rfl, _, rfl⟩)) hd hr
theorem own_retD (X : Stand p l e R s m args below meth c T locs cells slots) (hx : p.tables.exec = Jvm.exec) {pc : Nat} {Ls : Array Slot} {z : UInt64} {rest : List Value} (hret : meth.sig.returnType = some .double) (hd : decode c.code pc = .ok (.dreturn, 1)) (hlk : meth.locks = false) (eT : T.heap = h) (hQ : Q (some (.double z)) h locs) (hc : cells ≤ C) (hs : slots ≤ S) : own_Go p e below (own_Fin s C S Q) (T.setTop (mkF m pc Ls (.double z :: rest))) :=
  own_end X (fun h => by rw [hret] at h; cases h) hlk eT hQ hc hs fun fs hr => retOut X hx hret rfl (Or.inr (Or.inr (Or.inl ⟨rfl, rfl, _, rfl⟩))) hd hr
theorem own_retR (X : Stand p l e R s m args below meth c T locs cells slots) (hx : p.tables.exec = Jvm.exec) {pc : Nat} {Ls : Array Slot} {w : Value} {t : FieldType} {rest : List Value} (hret : meth.sig.returnType = some t) (ht : t.isReference = true) (hw : w.isRef = true) (hd : decode c.code pc = .ok (.areturn, 1)) (hlk : meth.locks = false) (eT : T.heap = h) (hQ : Q (some w) h locs) (hc : cells ≤ C) (hs : slots ≤ S) : own_Go p e below (own_Fin s C S Q) (T.setTop (mkF m pc Ls (w :: rest))) :=
  own_end X (fun h => by rw [hret] at h; cases h) hlk eT hQ hc hs fun fs hr => retOut X hx hret (by cases t <;> first | rfl | (cases w <;> first | rfl | cases hw) | (cases ht)) (Or.inr (Or.inr (Or.inr (Or.inr ⟨rfl, ht, hw⟩)))) hd hr
theorem own_ret0 (X : Stand p l e R s m args below meth c T locs cells slots) (hx : p.tables.exec = Jvm.exec) {pc : Nat} {Ls : Array Slot} (hret : meth.sig.returnType = none) (hd : decode c.code pc = .ok (.return_, 1)) (hlk : meth.locks = false) (eT : T.heap = h) (hQ : Q none h locs) (hc : cells ≤ C) (hs : slots ≤ S) : own_Go p e below (own_Fin s C S Q) (T.setTop (mkF m pc Ls [])) :=
  own_end X (fun _ => rfl) hlk eT hQ hc hs fun fs hr => X.returnOut hx hret hd hr
theorem own_one {z : Int32} (q : z = 1) : (some (.int (nar .boolean z)) : Option Value) = some (.int 1) := by subst q; rfl
theorem own_lrem {g : JFrame} {target : State} (hh : At T m c below) (hx : p.tables.exec = Jvm.exec) (hg : g.method = m) {x y : Int64} {rest : List Value} (hd : decode c.code g.pc = .ok (.lrem, 1)) (hs : g.stack = .long y :: .long x :: rest) (hy : y ≠ 0)
    (hr : Steps p.tables e below (T.setTop { g with pc := g.pc + 1, stack := .long (x % y) :: rest }) target) : Steps p.tables e below (T.setTop g) target :=
  XS.lrem hh hx hg hd hs hy (by rw [lrem_mod]; exact hr)
theorem own_Arf.lt {f : Nat → Value} (F : own_Arf Z h a k ty n f) : a < h.size := by obtain ⟨c, A, -⟩ := F; exact A.lt
theorem own_Arf.ext {f : Nat → Value} (F : own_Arf Z h a k ty n f) (E : Ext h h') : own_Arf Z h' a k ty n f := by obtain ⟨c, A, r⟩ := F; exact ⟨c, A.ext E, r⟩
theorem own_Arf.other {f : Nat → Value} {sl : Nat} {v : Value} (F : own_Arf Z h b k ty n f) (W : Wr h h' a sl v) (q : b ≠ a) : own_Arf Z h' b k ty n f := by obtain ⟨c, A, r⟩ := F; exact ⟨c, A.other W q, r⟩
theorem own_Arf.keep {f : Nat → Value} (F : own_Arf Z h a k ty n f) (K : Keep h h' ws) (q : a ∉ ws) : own_Arf Z h' a k ty n f := by obtain ⟨c, A, r⟩ := F; exact ⟨c, ⟨K.2.1 a c A.1 q, A.2⟩, r⟩
theorem own_arfNew (A : Arr Z h a (newA k ty n) ty) (q : ¬ n < 0) : own_Arf Z h a k ty n (fun _ => defaultValue ty) := ⟨_, A, rfl, sz_new _ _ _, q, fun i hi => by
  rw [sz_new] at hi; simp [newA, hi], fun i _ => by cases ty <;> rfl⟩
theorem own_arfSet {cl : Cell} {f : Nat → Value} {j : Nat} {v : Value} (A : Arr Z h a cl ty) (q1 : cl.cls = k) (S : cl.slots.size = n.toNatClampNeg) (q3 : ¬ n < 0) (H : ∀ i, i < cl.slots.size → cl.slots[i]? = some (f i)) (G : ∀ i, i < cl.slots.size → fits ty (f i) = true) (hv : fits ty v = true) (W : Wr h h' a j v) : own_Arf Z h' a k ty n (own_upd f j v) := by
  refine ⟨_, A.same W, q1, by rw [sz_set]; exact S, q3, fun i hi => ?_, fun i hi => ?_⟩
  · rw [sz_set] at hi
    by_cases u : j = i
    · subst u; simp [Cell.setSlot, hi, own_upd]
    · have := H i hi; simp only [Cell.setSlot] at this ⊢
      rw [Array.getElem?_setIfInBounds_ne u, this]; simp [own_upd, Ne.symm u]
  · rw [sz_set] at hi
    by_cases u : j = i
    · subst u; simpa [own_upd] using hv
    · have := G i hi; simpa [own_upd, Ne.symm u] using this
theorem own_arfSetI {cl : Cell} {f : Nat → Int32} {j : Nat} {v : Int32} (A : Arr Z h a cl ty) (q1 : cl.cls = k) (S : cl.slots.size = n.toNatClampNeg) (q3 : ¬ n < 0) (H : ∀ i, i < cl.slots.size → cl.slots[i]? = some (.int (f i))) (G : ∀ i, i < cl.slots.size → fits ty (.int (f i)) = true) (hv : fits ty (.int v) = true) (W : Wr h h' a j (.int v)) : own_Arf Z h' a k ty n (fun i => .int (own_upd f j v i)) := by
  have q := own_arfSet (f := fun i => .int (f i)) A q1 S q3 H G hv W
  have e : (own_upd (fun i => Value.int (f i)) j (.int v)) = (fun i => .int (own_upd f j v i)) := by funext i; simp only [own_upd]; split <;> rfl
  rw [← e]; exact q
theorem own_arfSetJ {cl : Cell} {f : Nat → Int64} {j : Nat} {v : Int64} (A : Arr Z h a cl ty) (q1 : cl.cls = k) (S : cl.slots.size = n.toNatClampNeg) (q3 : ¬ n < 0) (H : ∀ i, i < cl.slots.size → cl.slots[i]? = some (.long (f i))) (G : ∀ i, i < cl.slots.size → fits ty (.long (f i)) = true) (hv : fits ty (.long v) = true) (W : Wr h h' a j (.long v)) : own_Arf Z h' a k ty n (fun i => .long (own_upd f j v i)) := by
  have q := own_arfSet (f := fun i => .long (f i)) A q1 S q3 H G hv W
  have e : (own_upd (fun i => Value.long (f i)) j (.long v)) = (fun i => .long (own_upd f j v i)) := by funext i; simp only [own_upd]; split <;> rfl
  rw [← e]; exact q
theorem own_arfSetD {cl : Cell} {f : Nat → UInt64} {j : Nat} {v : UInt64} (A : Arr Z h a cl ty) (q1 : cl.cls = k) (S : cl.slots.size = n.toNatClampNeg) (q3 : ¬ n < 0) (H : ∀ i, i < cl.slots.size → cl.slots[i]? = some (.double (f i))) (G : ∀ i, i < cl.slots.size → fits ty (.double (f i)) = true) (hv : fits ty (.double v) = true) (W : Wr h h' a j (.double v)) : own_Arf Z h' a k ty n (fun i => .double (own_upd f j v i)) := by
  have q := own_arfSet (f := fun i => .double (f i)) A q1 S q3 H G hv W
  have e : (own_upd (fun i => Value.double (f i)) j (.double v)) = (fun i => .double (own_upd f j v i)) := by funext i; simp only [own_upd]; split <;> rfl
  rw [← e]; exact q
theorem own_neArr {A0 : Array Value} {C : String} {kk : Nat} {f : Nat → Value} (F : Exa Z h a C) (wi : (Cond.instantiable C kk).before A0 Z = true) (G : own_Arf Z h b k ty n f) : a ≠ b := by
  obtain ⟨c, A, -⟩ := G
  exact ne_arr F wi A
end OwnKit

theorem own_landNN (x : Int64) : ¬ ((x &&& (9223372036854775807 : Int64)) < (0 : Int64)) := by
  have h := (c_andSL x 9223372036854775807).2.2 (by decide)
  rw [Int64.lt_iff_toInt_lt]
  have e : (0 : Int64).toInt = 0 := rfl
  omega
theorem own_rem (x : Int32) (d : Int) (y : Int32) (hy : y.toInt = d) (h0 : 0 < d) : 0 ≤ ((x &&& 2147483647) % y).toInt ∧ ((x &&& 2147483647) % y).toInt < d := by
  have h1 := c_and x 2147483647 (by decide)
  have h2 := (c_irem (x &&& 2147483647) y d hy).1 h1.1
  rw [h2]; exact ⟨Int.emod_nonneg _ (by omega), Int.emod_lt_of_pos _ h0⟩
theorem own_fldEq {args : Array Value} {s : State} {t : Term} {a : Addr} {C n d : String} {k : Int32} (h : (Jvm.Cond.eq (Term.field t C n d) (Term.int k)).value args s none s [] = some true) (ev : t.eval args s none [] s = some (.ref a)) : Fld s s.heap a C n d (.int k) := by
  refine Fld.start ?_
  have e1 := fld_at (C := C) (n := n) (dd := d) ev
  have e2 : (Term.int k).eval args s none [] s = some (.int k) := rfl
  simp only [Cond.value, e1, e2] at h
  cases hf : s.fieldOf? a C n d with
  | none => rw [hf] at h; simp at h
  | some v =>
    rw [hf] at h
    cases v <;> simp_all
theorem own_s16 (x : Int32) (h1 : -32768 ≤ x.toInt) (h2 : x.toInt < 32768) : x.toInt16.toInt32 = x := by
  have h := c_i2s x
  apply Int32.toInt_inj.mp
  omega
theorem own_keys (v a b c d : Int32) (h : ((v = (0 : Int32)) ∧ a = (0 : Int32) ∧ b = (7 : Int32)) ∨ ((¬ (v = (0 : Int32))) ∧ (v = (1 : Int32)) ∧ a = (4 : Int32) ∧ b = (11 : Int32)) ∨ ((¬ (v = (0 : Int32))) ∧ (¬ (v = (1 : Int32))) ∧ (v = (2 : Int32)) ∧ a = (1 : Int32) ∧ b = (2 : Int32)) ∨ ((¬ (v = (0 : Int32))) ∧ (¬ (v = (1 : Int32))) ∧ (¬ (v = (2 : Int32))) ∧ (v = (3 : Int32)) ∧ a = (0 : Int32) ∧ b = (4 : Int32)) ∨ ((¬ (v = (0 : Int32))) ∧ (¬ (v = (1 : Int32))) ∧ (¬ (v = (2 : Int32))) ∧ (¬ (v = (3 : Int32))) ∧ (v = (4 : Int32)) ∧ a = (2 : Int32) ∧ b = (7 : Int32)) ∨ ((¬ (v = (0 : Int32))) ∧ (¬ (v = (1 : Int32))) ∧ (¬ (v = (2 : Int32))) ∧ (¬ (v = (3 : Int32))) ∧ (¬ (v = (4 : Int32))) ∧ (v = (5 : Int32)) ∧ a = (1 : Int32) ∧ b = (5 : Int32)) ∨ ((¬ (v = (0 : Int32))) ∧ (¬ (v = (1 : Int32))) ∧ (¬ (v = (2 : Int32))) ∧ (¬ (v = (3 : Int32))) ∧ (¬ (v = (4 : Int32))) ∧ (¬ (v = (5 : Int32))) ∧ (v = (6 : Int32)) ∧ a = (0 : Int32) ∧ b = (2 : Int32)) ∨ ((¬ (v = (0 : Int32))) ∧ (¬ (v = (1 : Int32))) ∧ (¬ (v = (2 : Int32))) ∧ (¬ (v = (3 : Int32))) ∧ (¬ (v = (4 : Int32))) ∧ (¬ (v = (5 : Int32))) ∧ (¬ (v = (6 : Int32))) ∧ (v = (7 : Int32)) ∧ a = (0 : Int32) ∧ b = (5 : Int32)) ∨ ((¬ (v = (0 : Int32))) ∧ (¬ (v = (1 : Int32))) ∧ (¬ (v = (2 : Int32))) ∧ (¬ (v = (3 : Int32))) ∧ (¬ (v = (4 : Int32))) ∧ (¬ (v = (5 : Int32))) ∧ (¬ (v = (6 : Int32))) ∧ (¬ (v = (7 : Int32))) ∧ (v = (8 : Int32)) ∧ a = (0 : Int32) ∧ b = (3 : Int32)) ∨ ((¬ (v = (0 : Int32))) ∧ (¬ (v = (1 : Int32))) ∧ (¬ (v = (2 : Int32))) ∧ (¬ (v = (3 : Int32))) ∧ (¬ (v = (4 : Int32))) ∧ (¬ (v = (5 : Int32))) ∧ (¬ (v = (6 : Int32))) ∧ (¬ (v = (7 : Int32))) ∧ (¬ (v = (8 : Int32))) ∧ (v = (9 : Int32)) ∧ a = (0 : Int32) ∧ b = (3 : Int32)) ∨ ((¬ (v = (0 : Int32))) ∧ (¬ (v = (1 : Int32))) ∧ (¬ (v = (2 : Int32))) ∧ (¬ (v = (3 : Int32))) ∧ (¬ (v = (4 : Int32))) ∧ (¬ (v = (5 : Int32))) ∧ (¬ (v = (6 : Int32))) ∧ (¬ (v = (7 : Int32))) ∧ (¬ (v = (8 : Int32))) ∧ (¬ (v = (9 : Int32))) ∧ (v = (10 : Int32)) ∧ a = (0 : Int32) ∧ b = (3 : Int32)) ∨ ((¬ (v = (0 : Int32))) ∧ (¬ (v = (1 : Int32))) ∧ (¬ (v = (2 : Int32))) ∧ (¬ (v = (3 : Int32))) ∧ (¬ (v = (4 : Int32))) ∧ (¬ (v = (5 : Int32))) ∧ (¬ (v = (6 : Int32))) ∧ (¬ (v = (7 : Int32))) ∧ (¬ (v = (8 : Int32))) ∧ (¬ (v = (9 : Int32))) ∧ (¬ (v = (10 : Int32))) ∧ a = (0 : Int32) ∧ b = (3 : Int32))) (h' : ((v = (1 : Int32)) ∧ c = (4 : Int32)) ∨ ((¬ (v = (1 : Int32))) ∧ (v = (2 : Int32)) ∧ c = (1 : Int32)) ∨ ((¬ (v = (1 : Int32))) ∧ (¬ (v = (2 : Int32))) ∧ (v = (4 : Int32)) ∧ c = (2 : Int32)) ∨ ((¬ (v = (1 : Int32))) ∧ (¬ (v = (2 : Int32))) ∧ (¬ (v = (4 : Int32))) ∧ (v = (5 : Int32)) ∧ c = (1 : Int32)) ∨ ((¬ (v = (1 : Int32))) ∧ (¬ (v = (2 : Int32))) ∧ (¬ (v = (4 : Int32))) ∧ (¬ (v = (5 : Int32))) ∧ c = (0 : Int32))) (h2 : ((v = (0 : Int32)) ∧ d = (7 : Int32)) ∨ ((¬ (v = (0 : Int32))) ∧ (v = (1 : Int32)) ∧ d = (11 : Int32)) ∨ ((¬ (v = (0 : Int32))) ∧ (¬ (v = (1 : Int32))) ∧ (v = (2 : Int32)) ∧ d = (2 : Int32)) ∨ ((¬ (v = (0 : Int32))) ∧ (¬ (v = (1 : Int32))) ∧ (¬ (v = (2 : Int32))) ∧ (v = (3 : Int32)) ∧ d = (4 : Int32)) ∨ ((¬ (v = (0 : Int32))) ∧ (¬ (v = (1 : Int32))) ∧ (¬ (v = (2 : Int32))) ∧ (¬ (v = (3 : Int32))) ∧ (v = (4 : Int32)) ∧ d = (7 : Int32)) ∨ ((¬ (v = (0 : Int32))) ∧ (¬ (v = (1 : Int32))) ∧ (¬ (v = (2 : Int32))) ∧ (¬ (v = (3 : Int32))) ∧ (¬ (v = (4 : Int32))) ∧ (v = (5 : Int32)) ∧ d = (5 : Int32)) ∨ ((¬ (v = (0 : Int32))) ∧ (¬ (v = (1 : Int32))) ∧ (¬ (v = (2 : Int32))) ∧ (¬ (v = (3 : Int32))) ∧ (¬ (v = (4 : Int32))) ∧ (¬ (v = (5 : Int32))) ∧ (v = (6 : Int32)) ∧ d = (2 : Int32)) ∨ ((¬ (v = (0 : Int32))) ∧ (¬ (v = (1 : Int32))) ∧ (¬ (v = (2 : Int32))) ∧ (¬ (v = (3 : Int32))) ∧ (¬ (v = (4 : Int32))) ∧ (¬ (v = (5 : Int32))) ∧ (¬ (v = (6 : Int32))) ∧ (v = (7 : Int32)) ∧ d = (5 : Int32)) ∨ ((¬ (v = (0 : Int32))) ∧ (¬ (v = (1 : Int32))) ∧ (¬ (v = (2 : Int32))) ∧ (¬ (v = (3 : Int32))) ∧ (¬ (v = (4 : Int32))) ∧ (¬ (v = (5 : Int32))) ∧ (¬ (v = (6 : Int32))) ∧ (¬ (v = (7 : Int32))) ∧ d = (3 : Int32))) : a = c ∧ b = d ∧ (c = 0 ∨ c = 4 ∨ c = 1 ∨ c = 2) ∧ (d = 7 ∨ d = 11 ∨ d = 2 ∨ d = 4 ∨ d = 5 ∨ d = 3) := by
  rcases h with h | h | h | h | h | h | h | h | h | h | h | h <;> grind
theorem own_ver (p2 v o w z : Int32) (hw : (((p2 &&& (2147483647 : Int32)) % (5 : Int32)) - (2 : Int32)) = w) (h1 : 0 ≤ o.toInt) (h2 : o.toInt ≤ 11) (hz : z = o + w) : z.toInt16.toInt32 = z := by
  have h := own_rem p2 5 5 rfl (by decide)
  have h3 := c_isub ((p2 &&& (2147483647 : Int32)) % (5 : Int32)) 2
  rw [hw] at h3
  have h4 := c_iadd o w
  rw [← hz] at h4
  have r1 := rng32 w
  have r2 := rng32 z
  have e2 : (2 : Int32).toInt = 2 := rfl
  exact own_s16 z (by omega) (by omega)
theorem own_ver0 (p2 z : Int32) (h : p2.toInt16.toInt32 = z) : z.toInt16.toInt32 = z := by
  have q := c_i2s p2
  rw [h] at q
  exact own_s16 z (by omega) (by omega)
theorem d1_0 : decode method_3_code 0 = .ok (.iload_n 0, 1) := by decide +kernel
theorem d1_1 : decode method_3_code 1 = .ok (.ifCond .ne 7, 3) := by decide +kernel
theorem d1_4 : decode method_3_code 4 = .ok (.getstatic 27, 3) := by decide +kernel
theorem d1_7 : decode method_3_code 7 = .ok (.areturn, 1) := by decide +kernel
theorem d1_8 : decode method_3_code 8 = .ok (.iload_n 0, 1) := by decide +kernel
theorem d1_9 : decode method_3_code 9 = .ok (.iconst 1, 1) := by decide +kernel
theorem d1_10 : decode method_3_code 10 = .ok (.if_icmp .ne 7, 3) := by decide +kernel
theorem d1_13 : decode method_3_code 13 = .ok (.getstatic 31, 3) := by decide +kernel
theorem d1_16 : decode method_3_code 16 = .ok (.areturn, 1) := by decide +kernel
theorem d1_17 : decode method_3_code 17 = .ok (.iload_n 0, 1) := by decide +kernel
theorem d1_18 : decode method_3_code 18 = .ok (.iconst 2, 1) := by decide +kernel
theorem d1_19 : decode method_3_code 19 = .ok (.if_icmp .ne 7, 3) := by decide +kernel
theorem d1_22 : decode method_3_code 22 = .ok (.getstatic 34, 3) := by decide +kernel
theorem d1_25 : decode method_3_code 25 = .ok (.areturn, 1) := by decide +kernel
theorem d1_26 : decode method_3_code 26 = .ok (.iload_n 0, 1) := by decide +kernel
theorem d1_27 : decode method_3_code 27 = .ok (.iconst 3, 1) := by decide +kernel
theorem d1_28 : decode method_3_code 28 = .ok (.if_icmp .ne 7, 3) := by decide +kernel
theorem d1_31 : decode method_3_code 31 = .ok (.getstatic 37, 3) := by decide +kernel
theorem d1_34 : decode method_3_code 34 = .ok (.areturn, 1) := by decide +kernel
theorem d1_35 : decode method_3_code 35 = .ok (.iload_n 0, 1) := by decide +kernel
theorem d1_36 : decode method_3_code 36 = .ok (.iconst 4, 1) := by decide +kernel
theorem d1_37 : decode method_3_code 37 = .ok (.if_icmp .ne 7, 3) := by decide +kernel
theorem d1_40 : decode method_3_code 40 = .ok (.getstatic 40, 3) := by decide +kernel
theorem d1_43 : decode method_3_code 43 = .ok (.areturn, 1) := by decide +kernel
theorem d1_44 : decode method_3_code 44 = .ok (.iload_n 0, 1) := by decide +kernel
theorem d1_45 : decode method_3_code 45 = .ok (.iconst 5, 1) := by decide +kernel
theorem d1_46 : decode method_3_code 46 = .ok (.if_icmp .ne 7, 3) := by decide +kernel
theorem d1_49 : decode method_3_code 49 = .ok (.getstatic 43, 3) := by decide +kernel
theorem d1_52 : decode method_3_code 52 = .ok (.areturn, 1) := by decide +kernel
theorem d1_53 : decode method_3_code 53 = .ok (.iload_n 0, 1) := by decide +kernel
theorem d1_54 : decode method_3_code 54 = .ok (.bipush 6, 2) := by decide +kernel
theorem d1_56 : decode method_3_code 56 = .ok (.if_icmp .ne 7, 3) := by decide +kernel
theorem d1_59 : decode method_3_code 59 = .ok (.getstatic 46, 3) := by decide +kernel
theorem d1_62 : decode method_3_code 62 = .ok (.areturn, 1) := by decide +kernel
theorem d1_63 : decode method_3_code 63 = .ok (.iload_n 0, 1) := by decide +kernel
theorem d1_64 : decode method_3_code 64 = .ok (.bipush 7, 2) := by decide +kernel
theorem d1_66 : decode method_3_code 66 = .ok (.if_icmp .ne 7, 3) := by decide +kernel
theorem d1_69 : decode method_3_code 69 = .ok (.getstatic 49, 3) := by decide +kernel
theorem d1_72 : decode method_3_code 72 = .ok (.areturn, 1) := by decide +kernel
theorem d1_73 : decode method_3_code 73 = .ok (.iload_n 0, 1) := by decide +kernel
theorem d1_74 : decode method_3_code 74 = .ok (.bipush 8, 2) := by decide +kernel
theorem d1_76 : decode method_3_code 76 = .ok (.if_icmp .ne 7, 3) := by decide +kernel
theorem d1_79 : decode method_3_code 79 = .ok (.getstatic 52, 3) := by decide +kernel
theorem d1_82 : decode method_3_code 82 = .ok (.areturn, 1) := by decide +kernel
theorem d1_83 : decode method_3_code 83 = .ok (.iload_n 0, 1) := by decide +kernel
theorem d1_84 : decode method_3_code 84 = .ok (.bipush 9, 2) := by decide +kernel
theorem d1_86 : decode method_3_code 86 = .ok (.if_icmp .ne 7, 3) := by decide +kernel
theorem d1_89 : decode method_3_code 89 = .ok (.getstatic 55, 3) := by decide +kernel
theorem d1_92 : decode method_3_code 92 = .ok (.areturn, 1) := by decide +kernel
theorem d1_93 : decode method_3_code 93 = .ok (.iload_n 0, 1) := by decide +kernel
theorem d1_94 : decode method_3_code 94 = .ok (.bipush 10, 2) := by decide +kernel
theorem d1_96 : decode method_3_code 96 = .ok (.if_icmp .ne 7, 3) := by decide +kernel
theorem d1_99 : decode method_3_code 99 = .ok (.getstatic 58, 3) := by decide +kernel
theorem d1_102 : decode method_3_code 102 = .ok (.areturn, 1) := by decide +kernel
theorem d1_103 : decode method_3_code 103 = .ok (.getstatic 61, 3) := by decide +kernel
theorem d1_106 : decode method_3_code 106 = .ok (.areturn, 1) := by decide +kernel
theorem pn_1 : plainName "com/example/keelstream/keelstream/protocol/ApiKeyIsSupportedPinLaw" = true := by first | (simp [plainName, overriddenIn]; done) | decide +kernel
theorem ef_1 (m : MethodId) (p0 : Int32) : entryFrame m #[(.int p0)] 1 = mkF m 0 #[.val (.int p0)] [] := by first | (simp [entryFrame, mkF, argsToLocals, Value.category]; done) | rfl
def Q1 (Z : State) (f_PRODUCE : Addr) (f_FETCH : Addr) (f_HEARTBEAT : Addr) (f_API_VERSIONS : Addr) (f_FIND_COORDINATOR : Addr) (f_JOIN_GROUP : Addr) (f_METADATA : Addr) (f_SYNC_GROUP : Addr) (f_OFFSET_COMMIT : Addr) (f_OFFSET_FETCH : Addr) (f_LIST_OFFSETS : Addr) (f_LEAVE_GROUP : Addr) (p0 : Int32) (h0 : Heap) (n0 : Nat) (v : Option Value) (h : Heap) (L : List Loc) : Prop := ∃ (rr : Addr) (z5001 : Int32) (z5002 : Int32), v = some (.ref rr) ∧ Fr n0 L ∧ h = h0 ∧ Exa Z h rr "com/example/keelstream/keelstream/protocol/ApiKey" ∧ Fld Z h rr "com/example/keelstream/keelstream/protocol/ApiKey" "minVersion" "S" (.int z5001) ∧ Fld Z h rr "com/example/keelstream/keelstream/protocol/ApiKey" "maxVersion" "S" (.int z5002) ∧ (((p0 = (0 : Int32)) ∧ z5001 = (0 : Int32) ∧ z5002 = (7 : Int32)) ∨ ((¬ (p0 = (0 : Int32))) ∧ (p0 = (1 : Int32)) ∧ z5001 = (4 : Int32) ∧ z5002 = (11 : Int32)) ∨ ((¬ (p0 = (0 : Int32))) ∧ (¬ (p0 = (1 : Int32))) ∧ (p0 = (2 : Int32)) ∧ z5001 = (1 : Int32) ∧ z5002 = (2 : Int32)) ∨ ((¬ (p0 = (0 : Int32))) ∧ (¬ (p0 = (1 : Int32))) ∧ (¬ (p0 = (2 : Int32))) ∧ (p0 = (3 : Int32)) ∧ z5001 = (0 : Int32) ∧ z5002 = (4 : Int32)) ∨ ((¬ (p0 = (0 : Int32))) ∧ (¬ (p0 = (1 : Int32))) ∧ (¬ (p0 = (2 : Int32))) ∧ (¬ (p0 = (3 : Int32))) ∧ (p0 = (4 : Int32)) ∧ z5001 = (2 : Int32) ∧ z5002 = (7 : Int32)) ∨ ((¬ (p0 = (0 : Int32))) ∧ (¬ (p0 = (1 : Int32))) ∧ (¬ (p0 = (2 : Int32))) ∧ (¬ (p0 = (3 : Int32))) ∧ (¬ (p0 = (4 : Int32))) ∧ (p0 = (5 : Int32)) ∧ z5001 = (1 : Int32) ∧ z5002 = (5 : Int32)) ∨ ((¬ (p0 = (0 : Int32))) ∧ (¬ (p0 = (1 : Int32))) ∧ (¬ (p0 = (2 : Int32))) ∧ (¬ (p0 = (3 : Int32))) ∧ (¬ (p0 = (4 : Int32))) ∧ (¬ (p0 = (5 : Int32))) ∧ (p0 = (6 : Int32)) ∧ z5001 = (0 : Int32) ∧ z5002 = (2 : Int32)) ∨ ((¬ (p0 = (0 : Int32))) ∧ (¬ (p0 = (1 : Int32))) ∧ (¬ (p0 = (2 : Int32))) ∧ (¬ (p0 = (3 : Int32))) ∧ (¬ (p0 = (4 : Int32))) ∧ (¬ (p0 = (5 : Int32))) ∧ (¬ (p0 = (6 : Int32))) ∧ (p0 = (7 : Int32)) ∧ z5001 = (0 : Int32) ∧ z5002 = (5 : Int32)) ∨ ((¬ (p0 = (0 : Int32))) ∧ (¬ (p0 = (1 : Int32))) ∧ (¬ (p0 = (2 : Int32))) ∧ (¬ (p0 = (3 : Int32))) ∧ (¬ (p0 = (4 : Int32))) ∧ (¬ (p0 = (5 : Int32))) ∧ (¬ (p0 = (6 : Int32))) ∧ (¬ (p0 = (7 : Int32))) ∧ (p0 = (8 : Int32)) ∧ z5001 = (0 : Int32) ∧ z5002 = (3 : Int32)) ∨ ((¬ (p0 = (0 : Int32))) ∧ (¬ (p0 = (1 : Int32))) ∧ (¬ (p0 = (2 : Int32))) ∧ (¬ (p0 = (3 : Int32))) ∧ (¬ (p0 = (4 : Int32))) ∧ (¬ (p0 = (5 : Int32))) ∧ (¬ (p0 = (6 : Int32))) ∧ (¬ (p0 = (7 : Int32))) ∧ (¬ (p0 = (8 : Int32))) ∧ (p0 = (9 : Int32)) ∧ z5001 = (0 : Int32) ∧ z5002 = (3 : Int32)) ∨ ((¬ (p0 = (0 : Int32))) ∧ (¬ (p0 = (1 : Int32))) ∧ (¬ (p0 = (2 : Int32))) ∧ (¬ (p0 = (3 : Int32))) ∧ (¬ (p0 = (4 : Int32))) ∧ (¬ (p0 = (5 : Int32))) ∧ (¬ (p0 = (6 : Int32))) ∧ (¬ (p0 = (7 : Int32))) ∧ (¬ (p0 = (8 : Int32))) ∧ (¬ (p0 = (9 : Int32))) ∧ (p0 = (10 : Int32)) ∧ z5001 = (0 : Int32) ∧ z5002 = (3 : Int32)) ∨ ((¬ (p0 = (0 : Int32))) ∧ (¬ (p0 = (1 : Int32))) ∧ (¬ (p0 = (2 : Int32))) ∧ (¬ (p0 = (3 : Int32))) ∧ (¬ (p0 = (4 : Int32))) ∧ (¬ (p0 = (5 : Int32))) ∧ (¬ (p0 = (6 : Int32))) ∧ (¬ (p0 = (7 : Int32))) ∧ (¬ (p0 = (8 : Int32))) ∧ (¬ (p0 = (9 : Int32))) ∧ (¬ (p0 = (10 : Int32))) ∧ z5001 = (0 : Int32) ∧ z5002 = (3 : Int32)))
set_option maxRecDepth 65536 in
set_option maxHeartbeats 40000000 in
theorem rm1 (l : Launch) (Z : State) (A0 : Array Value) (hw : ∀ d ∈ tables_1, d.before A0 Z = true) (ws : List Jvm.Cond) (f_PRODUCE : Addr) (f_FETCH : Addr) (f_HEARTBEAT : Addr) (f_API_VERSIONS : Addr) (f_FIND_COORDINATOR : Addr) (f_JOIN_GROUP : Addr) (f_METADATA : Addr) (f_SYNC_GROUP : Addr) (f_OFFSET_COMMIT : Addr) (f_OFFSET_FETCH : Addr) (f_LIST_OFFSETS : Addr) (f_LEAVE_GROUP : Addr) (p0 : Int32) (h0 : Heap) (n0 : Nat) (Z0 : n0 ≤ h0.size) (P_S_PRODUCE : Sta Z h0 "com/example/keelstream/keelstream/protocol/ApiKey" "PRODUCE" "Lcom/example/keelstream/keelstream/protocol/ApiKey;" (.ref f_PRODUCE)) (P_E_PRODUCE : Exa Z h0 f_PRODUCE "com/example/keelstream/keelstream/protocol/ApiKey") (P_F_PRODUCE_minVersion : Fld Z h0 f_PRODUCE "com/example/keelstream/keelstream/protocol/ApiKey" "minVersion" "S" (.int (0 : Int32))) (P_F_PRODUCE_maxVersion : Fld Z h0 f_PRODUCE "com/example/keelstream/keelstream/protocol/ApiKey" "maxVersion" "S" (.int (7 : Int32))) (P_S_FETCH : Sta Z h0 "com/example/keelstream/keelstream/protocol/ApiKey" "FETCH" "Lcom/example/keelstream/keelstream/protocol/ApiKey;" (.ref f_FETCH)) (P_E_FETCH : Exa Z h0 f_FETCH "com/example/keelstream/keelstream/protocol/ApiKey") (P_F_FETCH_minVersion : Fld Z h0 f_FETCH "com/example/keelstream/keelstream/protocol/ApiKey" "minVersion" "S" (.int (4 : Int32))) (P_S_HEARTBEAT : Sta Z h0 "com/example/keelstream/keelstream/protocol/ApiKey" "HEARTBEAT" "Lcom/example/keelstream/keelstream/protocol/ApiKey;" (.ref f_HEARTBEAT)) (P_E_HEARTBEAT : Exa Z h0 f_HEARTBEAT "com/example/keelstream/keelstream/protocol/ApiKey") (P_F_HEARTBEAT_minVersion : Fld Z h0 f_HEARTBEAT "com/example/keelstream/keelstream/protocol/ApiKey" "minVersion" "S" (.int (0 : Int32))) (P_F_HEARTBEAT_maxVersion : Fld Z h0 f_HEARTBEAT "com/example/keelstream/keelstream/protocol/ApiKey" "maxVersion" "S" (.int (3 : Int32))) (P_S_API_VERSIONS : Sta Z h0 "com/example/keelstream/keelstream/protocol/ApiKey" "API_VERSIONS" "Lcom/example/keelstream/keelstream/protocol/ApiKey;" (.ref f_API_VERSIONS)) (P_E_API_VERSIONS : Exa Z h0 f_API_VERSIONS "com/example/keelstream/keelstream/protocol/ApiKey") (P_F_API_VERSIONS_minVersion : Fld Z h0 f_API_VERSIONS "com/example/keelstream/keelstream/protocol/ApiKey" "minVersion" "S" (.int (0 : Int32))) (P_S_FIND_COORDINATOR : Sta Z h0 "com/example/keelstream/keelstream/protocol/ApiKey" "FIND_COORDINATOR" "Lcom/example/keelstream/keelstream/protocol/ApiKey;" (.ref f_FIND_COORDINATOR)) (P_E_FIND_COORDINATOR : Exa Z h0 f_FIND_COORDINATOR "com/example/keelstream/keelstream/protocol/ApiKey") (P_F_FIND_COORDINATOR_minVersion : Fld Z h0 f_FIND_COORDINATOR "com/example/keelstream/keelstream/protocol/ApiKey" "minVersion" "S" (.int (0 : Int32))) (P_S_JOIN_GROUP : Sta Z h0 "com/example/keelstream/keelstream/protocol/ApiKey" "JOIN_GROUP" "Lcom/example/keelstream/keelstream/protocol/ApiKey;" (.ref f_JOIN_GROUP)) (P_E_JOIN_GROUP : Exa Z h0 f_JOIN_GROUP "com/example/keelstream/keelstream/protocol/ApiKey") (P_F_JOIN_GROUP_minVersion : Fld Z h0 f_JOIN_GROUP "com/example/keelstream/keelstream/protocol/ApiKey" "minVersion" "S" (.int (0 : Int32))) (P_F_JOIN_GROUP_maxVersion : Fld Z h0 f_JOIN_GROUP "com/example/keelstream/keelstream/protocol/ApiKey" "maxVersion" "S" (.int (5 : Int32))) (P_S_METADATA : Sta Z h0 "com/example/keelstream/keelstream/protocol/ApiKey" "METADATA" "Lcom/example/keelstream/keelstream/protocol/ApiKey;" (.ref f_METADATA)) (P_E_METADATA : Exa Z h0 f_METADATA "com/example/keelstream/keelstream/protocol/ApiKey") (P_F_METADATA_minVersion : Fld Z h0 f_METADATA "com/example/keelstream/keelstream/protocol/ApiKey" "minVersion" "S" (.int (0 : Int32))) (P_S_SYNC_GROUP : Sta Z h0 "com/example/keelstream/keelstream/protocol/ApiKey" "SYNC_GROUP" "Lcom/example/keelstream/keelstream/protocol/ApiKey;" (.ref f_SYNC_GROUP)) (P_E_SYNC_GROUP : Exa Z h0 f_SYNC_GROUP "com/example/keelstream/keelstream/protocol/ApiKey") (P_F_SYNC_GROUP_minVersion : Fld Z h0 f_SYNC_GROUP "com/example/keelstream/keelstream/protocol/ApiKey" "minVersion" "S" (.int (0 : Int32))) (P_F_SYNC_GROUP_maxVersion : Fld Z h0 f_SYNC_GROUP "com/example/keelstream/keelstream/protocol/ApiKey" "maxVersion" "S" (.int (3 : Int32))) (P_S_OFFSET_COMMIT : Sta Z h0 "com/example/keelstream/keelstream/protocol/ApiKey" "OFFSET_COMMIT" "Lcom/example/keelstream/keelstream/protocol/ApiKey;" (.ref f_OFFSET_COMMIT)) (P_E_OFFSET_COMMIT : Exa Z h0 f_OFFSET_COMMIT "com/example/keelstream/keelstream/protocol/ApiKey") (P_F_OFFSET_COMMIT_minVersion : Fld Z h0 f_OFFSET_COMMIT "com/example/keelstream/keelstream/protocol/ApiKey" "minVersion" "S" (.int (2 : Int32))) (P_F_OFFSET_COMMIT_maxVersion : Fld Z h0 f_OFFSET_COMMIT "com/example/keelstream/keelstream/protocol/ApiKey" "maxVersion" "S" (.int (7 : Int32))) (P_S_OFFSET_FETCH : Sta Z h0 "com/example/keelstream/keelstream/protocol/ApiKey" "OFFSET_FETCH" "Lcom/example/keelstream/keelstream/protocol/ApiKey;" (.ref f_OFFSET_FETCH)) (P_E_OFFSET_FETCH : Exa Z h0 f_OFFSET_FETCH "com/example/keelstream/keelstream/protocol/ApiKey") (P_F_OFFSET_FETCH_minVersion : Fld Z h0 f_OFFSET_FETCH "com/example/keelstream/keelstream/protocol/ApiKey" "minVersion" "S" (.int (1 : Int32))) (P_F_OFFSET_FETCH_maxVersion : Fld Z h0 f_OFFSET_FETCH "com/example/keelstream/keelstream/protocol/ApiKey" "maxVersion" "S" (.int (5 : Int32))) (P_F_FETCH_maxVersion : Fld Z h0 f_FETCH "com/example/keelstream/keelstream/protocol/ApiKey" "maxVersion" "S" (.int (11 : Int32))) (P_S_LIST_OFFSETS : Sta Z h0 "com/example/keelstream/keelstream/protocol/ApiKey" "LIST_OFFSETS" "Lcom/example/keelstream/keelstream/protocol/ApiKey;" (.ref f_LIST_OFFSETS)) (P_E_LIST_OFFSETS : Exa Z h0 f_LIST_OFFSETS "com/example/keelstream/keelstream/protocol/ApiKey") (P_F_LIST_OFFSETS_minVersion : Fld Z h0 f_LIST_OFFSETS "com/example/keelstream/keelstream/protocol/ApiKey" "minVersion" "S" (.int (1 : Int32))) (P_F_API_VERSIONS_maxVersion : Fld Z h0 f_API_VERSIONS "com/example/keelstream/keelstream/protocol/ApiKey" "maxVersion" "S" (.int (3 : Int32))) (P_F_LIST_OFFSETS_maxVersion : Fld Z h0 f_LIST_OFFSETS "com/example/keelstream/keelstream/protocol/ApiKey" "maxVersion" "S" (.int (2 : Int32))) (P_F_METADATA_maxVersion : Fld Z h0 f_METADATA "com/example/keelstream/keelstream/protocol/ApiKey" "maxVersion" "S" (.int (4 : Int32))) (P_S_LEAVE_GROUP : Sta Z h0 "com/example/keelstream/keelstream/protocol/ApiKey" "LEAVE_GROUP" "Lcom/example/keelstream/keelstream/protocol/ApiKey;" (.ref f_LEAVE_GROUP)) (P_E_LEAVE_GROUP : Exa Z h0 f_LEAVE_GROUP "com/example/keelstream/keelstream/protocol/ApiKey") (P_F_LEAVE_GROUP_minVersion : Fld Z h0 f_LEAVE_GROUP "com/example/keelstream/keelstream/protocol/ApiKey" "minVersion" "S" (.int (0 : Int32))) (P_F_FIND_COORDINATOR_maxVersion : Fld Z h0 f_FIND_COORDINATOR "com/example/keelstream/keelstream/protocol/ApiKey" "maxVersion" "S" (.int (2 : Int32))) (P_F_LEAVE_GROUP_maxVersion : Fld Z h0 f_LEAVE_GROUP "com/example/keelstream/keelstream/protocol/ApiKey" "maxVersion" "S" (.int (3 : Int32))) :
    MetFree l (⟨"com/example/keelstream/keelstream/protocol/ApiKeyIsSupportedPinLaw", "key", "(I)Lcom/example/keelstream/keelstream/protocol/ApiKey;"⟩ : MethodName) (head1 (Jvm.Cond.code (⟨"com/example/keelstream/keelstream/protocol/ApiKeyIsSupportedPinLaw", "key", "(I)Lcom/example/keelstream/keelstream/protocol/ApiKey;"⟩ : MethodName) method_3_code 1 (some (.object "com/example/keelstream/keelstream/protocol/ApiKey")) :: ws) ({ frames := 0, cells := 0, slots := 0, locals := 0 } : Room)) (fun a U => a = #[(.int p0)] ∧ Z.Warmed39 U.vm ∧ U.heap = h0) (fun _ _ _ _ _ => True) (fun _ U o U' => ∃ v L, o = .returned v ∧ Q1 Z f_PRODUCE f_FETCH f_HEARTBEAT f_API_VERSIONS f_FIND_COORDINATOR f_JOIN_GROUP f_METADATA f_SYNC_GROUP f_OFFSET_COMMIT f_OFFSET_FETCH f_LIST_OFFSETS f_LEAVE_GROUP p0 h0 n0 v U'.heap L ∧ FrameEnd U o U' L 0 0) := by
  refine MetFree.of_bodySF (plainFor_of_name pn_1) hisR ?_
  intro p e s m args below meth c s₁ Bd hml0 hP hK
  obtain ⟨rfl, hZ, hh⟩ := hP
  have hx := Bd.exec
  have hby := Bd.bytes
  have hml : c.maxLocals = 1 := hml0
  have hlk : meth.locks = false := Bd.notSynchronized
  have hown : s.vm.findClass "com/example/keelstream/keelstream/protocol/ApiKeyIsSupportedPinLaw" = some m.cls := findClass_of_methodNamed Bd.named
  have hnm := (name_of_methodNamed Bd.named Bd.method).1
  have X0 : Stand p l e ({ frames := 0, cells := 0, slots := 0, locals := 0 } : Room) s m #[(.int p0)] below meth c s₁ [] 0 0 := Stand.of_body Bd
  have e0 : s₁.heap = h0 := by rw [← hh, Bd.state]; rfl
  have N0 := Fr.nil n0
  show own_Go p e below (own_Fin s 0 0 (Q1 Z f_PRODUCE f_FETCH f_HEARTBEAT f_API_VERSIONS f_FIND_COORDINATOR f_JOIN_GROUP f_METADATA f_SYNC_GROUP f_OFFSET_COMMIT f_OFFSET_FETCH f_LIST_OFFSETS f_LEAVE_GROUP p0 h0 n0)) _
  refine own_by (fun t k => castTop (ef_1 m p0) k) ?_
  show own_Go p e below _ (s₁.setTop (mkF m 0 #[.val (.int p0)] []))
  refine own_by (fun _ k => XS.iloadN X0.here hx rfl (hb hby d1_0) rfl k) ?_
  show own_Go p e below _ (s₁.setTop (mkF m 1 #[.val (.int p0)] [(.int p0)]))
  by_cases c1 : p0 = (0 : Int32)
  · skip
    refine own_by (fun _ k => XS.ifNo X0.here hx rfl (hb hby d1_1) rfl ((if0 _ _).trans (teq c1).2) k) ?_
    show own_Go p e below _ (s₁.setTop (mkF m 4 #[.val (.int p0)] []))
    obtain ⟨T2, X2, e2, st2⟩ := getS2 X0 hx hZ hown (host := "") (Or.inl (hw _ (List.mem_of_getElem? (i := 5) rfl))) Via.refl e0 P_S_PRODUCE (g := (mkF m 4 #[.val (.int p0)] [])) rfl (hb hby d1_4)
    refine own_by st2 ?_
    show own_Go p e below _ (T2.setTop (mkF m 7 #[.val (.int p0)] [(.ref f_PRODUCE)]))
    exact own_retR X2 hx Bd.returns (by decide) rfl (hb hby d1_7) hlk e2 ⟨f_PRODUCE, (0 : Int32), (7 : Int32), rfl, N0, rfl, P_E_PRODUCE, P_F_PRODUCE_minVersion, P_F_PRODUCE_maxVersion, (Or.inl ⟨c1, rfl, rfl⟩)⟩ (by decide) (by decide)
  · skip
    refine own_by (fun _ k => XS.ifYes X0.here hx rfl (pc0 := 1) (pc' := 8) rfl (hb hby d1_1) rfl ((if0 _ _).trans (feq c1).2) (by decide) (by decide) k) ?_
    show own_Go p e below _ (s₁.setTop (mkF m 8 #[.val (.int p0)] []))
    refine own_by (fun _ k => XS.iloadN X0.here hx rfl (hb hby d1_8) rfl k) ?_
    show own_Go p e below _ (s₁.setTop (mkF m 9 #[.val (.int p0)] [(.int p0)]))
    refine own_by (fun _ k => XS.iconst X0.here hx rfl (hb hby d1_9) k) ?_
    show own_Go p e below _ (s₁.setTop (mkF m 10 #[.val (.int p0)] [(.int (1 : Int32)), (.int p0)]))
    by_cases c3 : p0 = (1 : Int32)
    · skip
      refine own_by (fun _ k => XS.icmpNo X0.here hx rfl (hb hby d1_10) rfl (teq c3).2 k) ?_
      show own_Go p e below _ (s₁.setTop (mkF m 13 #[.val (.int p0)] []))
      obtain ⟨T4, X4, e4, st4⟩ := getS2 X0 hx hZ hown (host := "") (Or.inl (hw _ (List.mem_of_getElem? (i := 23) rfl))) Via.refl e0 P_S_FETCH (g := (mkF m 13 #[.val (.int p0)] [])) rfl (hb hby d1_13)
      refine own_by st4 ?_
      show own_Go p e below _ (T4.setTop (mkF m 16 #[.val (.int p0)] [(.ref f_FETCH)]))
      exact own_retR X4 hx Bd.returns (by decide) rfl (hb hby d1_16) hlk e4 ⟨f_FETCH, (4 : Int32), (11 : Int32), rfl, N0, rfl, P_E_FETCH, P_F_FETCH_minVersion, P_F_FETCH_maxVersion, (Or.inr (Or.inl ⟨c1, c3, rfl, rfl⟩))⟩ (by decide) (by decide)
    · skip
      refine own_by (fun _ k => XS.icmpYes X0.here hx rfl (pc0 := 10) (pc' := 17) rfl (hb hby d1_10) rfl (feq c3).2 (by decide) (by decide) k) ?_
      show own_Go p e below _ (s₁.setTop (mkF m 17 #[.val (.int p0)] []))
      refine own_by (fun _ k => XS.iloadN X0.here hx rfl (hb hby d1_17) rfl k) ?_
      show own_Go p e below _ (s₁.setTop (mkF m 18 #[.val (.int p0)] [(.int p0)]))
      refine own_by (fun _ k => XS.iconst X0.here hx rfl (hb hby d1_18) k) ?_
      show own_Go p e below _ (s₁.setTop (mkF m 19 #[.val (.int p0)] [(.int (2 : Int32)), (.int p0)]))
      by_cases c5 : p0 = (2 : Int32)
      · skip
        refine own_by (fun _ k => XS.icmpNo X0.here hx rfl (hb hby d1_19) rfl (teq c5).2 k) ?_
        show own_Go p e below _ (s₁.setTop (mkF m 22 #[.val (.int p0)] []))
        obtain ⟨T6, X6, e6, st6⟩ := getS2 X0 hx hZ hown (host := "") (Or.inl (hw _ (List.mem_of_getElem? (i := 41) rfl))) Via.refl e0 P_S_LIST_OFFSETS (g := (mkF m 22 #[.val (.int p0)] [])) rfl (hb hby d1_22)
        refine own_by st6 ?_
        show own_Go p e below _ (T6.setTop (mkF m 25 #[.val (.int p0)] [(.ref f_LIST_OFFSETS)]))
        exact own_retR X6 hx Bd.returns (by decide) rfl (hb hby d1_25) hlk e6 ⟨f_LIST_OFFSETS, (1 : Int32), (2 : Int32), rfl, N0, rfl, P_E_LIST_OFFSETS, P_F_LIST_OFFSETS_minVersion, P_F_LIST_OFFSETS_maxVersion, (Or.inr (Or.inr (Or.inl ⟨c1, c3, c5, rfl, rfl⟩)))⟩ (by decide) (by decide)
      · skip
        refine own_by (fun _ k => XS.icmpYes X0.here hx rfl (pc0 := 19) (pc' := 26) rfl (hb hby d1_19) rfl (feq c5).2 (by decide) (by decide) k) ?_
        show own_Go p e below _ (s₁.setTop (mkF m 26 #[.val (.int p0)] []))
        refine own_by (fun _ k => XS.iloadN X0.here hx rfl (hb hby d1_26) rfl k) ?_
        show own_Go p e below _ (s₁.setTop (mkF m 27 #[.val (.int p0)] [(.int p0)]))
        refine own_by (fun _ k => XS.iconst X0.here hx rfl (hb hby d1_27) k) ?_
        show own_Go p e below _ (s₁.setTop (mkF m 28 #[.val (.int p0)] [(.int (3 : Int32)), (.int p0)]))
        by_cases c7 : p0 = (3 : Int32)
        · skip
          refine own_by (fun _ k => XS.icmpNo X0.here hx rfl (hb hby d1_28) rfl (teq c7).2 k) ?_
          show own_Go p e below _ (s₁.setTop (mkF m 31 #[.val (.int p0)] []))
          obtain ⟨T8, X8, e8, st8⟩ := getS2 X0 hx hZ hown (host := "") (Or.inl (hw _ (List.mem_of_getElem? (i := 33) rfl))) Via.refl e0 P_S_METADATA (g := (mkF m 31 #[.val (.int p0)] [])) rfl (hb hby d1_31)
          refine own_by st8 ?_
          show own_Go p e below _ (T8.setTop (mkF m 34 #[.val (.int p0)] [(.ref f_METADATA)]))
          exact own_retR X8 hx Bd.returns (by decide) rfl (hb hby d1_34) hlk e8 ⟨f_METADATA, (0 : Int32), (4 : Int32), rfl, N0, rfl, P_E_METADATA, P_F_METADATA_minVersion, P_F_METADATA_maxVersion, (Or.inr (Or.inr (Or.inr (Or.inl ⟨c1, c3, c5, c7, rfl, rfl⟩))))⟩ (by decide) (by decide)
        · skip
          refine own_by (fun _ k => XS.icmpYes X0.here hx rfl (pc0 := 28) (pc' := 35) rfl (hb hby d1_28) rfl (feq c7).2 (by decide) (by decide) k) ?_
          show own_Go p e below _ (s₁.setTop (mkF m 35 #[.val (.int p0)] []))
          refine own_by (fun _ k => XS.iloadN X0.here hx rfl (hb hby d1_35) rfl k) ?_
          show own_Go p e below _ (s₁.setTop (mkF m 36 #[.val (.int p0)] [(.int p0)]))
          refine own_by (fun _ k => XS.iconst X0.here hx rfl (hb hby d1_36) k) ?_
          show own_Go p e below _ (s₁.setTop (mkF m 37 #[.val (.int p0)] [(.int (4 : Int32)), (.int p0)]))
          by_cases c9 : p0 = (4 : Int32)
          · skip
            refine own_by (fun _ k => XS.icmpNo X0.here hx rfl (hb hby d1_37) rfl (teq c9).2 k) ?_
            show own_Go p e below _ (s₁.setTop (mkF m 40 #[.val (.int p0)] []))
            obtain ⟨T10, X10, e10, st10⟩ := getS2 X0 hx hZ hown (host := "") (Or.inl (hw _ (List.mem_of_getElem? (i := 37) rfl))) Via.refl e0 P_S_OFFSET_COMMIT (g := (mkF m 40 #[.val (.int p0)] [])) rfl (hb hby d1_40)
            refine own_by st10 ?_
            show own_Go p e below _ (T10.setTop (mkF m 43 #[.val (.int p0)] [(.ref f_OFFSET_COMMIT)]))
            exact own_retR X10 hx Bd.returns (by decide) rfl (hb hby d1_43) hlk e10 ⟨f_OFFSET_COMMIT, (2 : Int32), (7 : Int32), rfl, N0, rfl, P_E_OFFSET_COMMIT, P_F_OFFSET_COMMIT_minVersion, P_F_OFFSET_COMMIT_maxVersion, (Or.inr (Or.inr (Or.inr (Or.inr (Or.inl ⟨c1, c3, c5, c7, c9, rfl, rfl⟩)))))⟩ (by decide) (by decide)
          · skip
            refine own_by (fun _ k => XS.icmpYes X0.here hx rfl (pc0 := 37) (pc' := 44) rfl (hb hby d1_37) rfl (feq c9).2 (by decide) (by decide) k) ?_
            show own_Go p e below _ (s₁.setTop (mkF m 44 #[.val (.int p0)] []))
            refine own_by (fun _ k => XS.iloadN X0.here hx rfl (hb hby d1_44) rfl k) ?_
            show own_Go p e below _ (s₁.setTop (mkF m 45 #[.val (.int p0)] [(.int p0)]))
            refine own_by (fun _ k => XS.iconst X0.here hx rfl (hb hby d1_45) k) ?_
            show own_Go p e below _ (s₁.setTop (mkF m 46 #[.val (.int p0)] [(.int (5 : Int32)), (.int p0)]))
            by_cases c11 : p0 = (5 : Int32)
            · skip
              refine own_by (fun _ k => XS.icmpNo X0.here hx rfl (hb hby d1_46) rfl (teq c11).2 k) ?_
              show own_Go p e below _ (s₁.setTop (mkF m 49 #[.val (.int p0)] []))
              obtain ⟨T12, X12, e12, st12⟩ := getS2 X0 hx hZ hown (host := "") (Or.inl (hw _ (List.mem_of_getElem? (i := 39) rfl))) Via.refl e0 P_S_OFFSET_FETCH (g := (mkF m 49 #[.val (.int p0)] [])) rfl (hb hby d1_49)
              refine own_by st12 ?_
              show own_Go p e below _ (T12.setTop (mkF m 52 #[.val (.int p0)] [(.ref f_OFFSET_FETCH)]))
              exact own_retR X12 hx Bd.returns (by decide) rfl (hb hby d1_52) hlk e12 ⟨f_OFFSET_FETCH, (1 : Int32), (5 : Int32), rfl, N0, rfl, P_E_OFFSET_FETCH, P_F_OFFSET_FETCH_minVersion, P_F_OFFSET_FETCH_maxVersion, (Or.inr (Or.inr (Or.inr (Or.inr (Or.inr (Or.inl ⟨c1, c3, c5, c7, c9, c11, rfl, rfl⟩))))))⟩ (by decide) (by decide)
            · skip
              refine own_by (fun _ k => XS.icmpYes X0.here hx rfl (pc0 := 46) (pc' := 53) rfl (hb hby d1_46) rfl (feq c11).2 (by decide) (by decide) k) ?_
              show own_Go p e below _ (s₁.setTop (mkF m 53 #[.val (.int p0)] []))
              refine own_by (fun _ k => XS.iloadN X0.here hx rfl (hb hby d1_53) rfl k) ?_
              show own_Go p e below _ (s₁.setTop (mkF m 54 #[.val (.int p0)] [(.int p0)]))
              refine own_by (fun _ k => XS.bipush X0.here hx rfl (hb hby d1_54) k) ?_
              show own_Go p e below _ (s₁.setTop (mkF m 56 #[.val (.int p0)] [(.int (6 : Int32)), (.int p0)]))
              by_cases c13 : p0 = (6 : Int32)
              · skip
                refine own_by (fun _ k => XS.icmpNo X0.here hx rfl (hb hby d1_56) rfl (teq c13).2 k) ?_
                show own_Go p e below _ (s₁.setTop (mkF m 59 #[.val (.int p0)] []))
                obtain ⟨T14, X14, e14, st14⟩ := getS2 X0 hx hZ hown (host := "") (Or.inl (hw _ (List.mem_of_getElem? (i := 29) rfl))) Via.refl e0 P_S_FIND_COORDINATOR (g := (mkF m 59 #[.val (.int p0)] [])) rfl (hb hby d1_59)
                refine own_by st14 ?_
                show own_Go p e below _ (T14.setTop (mkF m 62 #[.val (.int p0)] [(.ref f_FIND_COORDINATOR)]))
                exact own_retR X14 hx Bd.returns (by decide) rfl (hb hby d1_62) hlk e14 ⟨f_FIND_COORDINATOR, (0 : Int32), (2 : Int32), rfl, N0, rfl, P_E_FIND_COORDINATOR, P_F_FIND_COORDINATOR_minVersion, P_F_FIND_COORDINATOR_maxVersion, (Or.inr (Or.inr (Or.inr (Or.inr (Or.inr (Or.inr (Or.inl ⟨c1, c3, c5, c7, c9, c11, c13, rfl, rfl⟩)))))))⟩ (by decide) (by decide)
              · skip
                refine own_by (fun _ k => XS.icmpYes X0.here hx rfl (pc0 := 56) (pc' := 63) rfl (hb hby d1_56) rfl (feq c13).2 (by decide) (by decide) k) ?_
                show own_Go p e below _ (s₁.setTop (mkF m 63 #[.val (.int p0)] []))
                refine own_by (fun _ k => XS.iloadN X0.here hx rfl (hb hby d1_63) rfl k) ?_
                show own_Go p e below _ (s₁.setTop (mkF m 64 #[.val (.int p0)] [(.int p0)]))
                refine own_by (fun _ k => XS.bipush X0.here hx rfl (hb hby d1_64) k) ?_
                show own_Go p e below _ (s₁.setTop (mkF m 66 #[.val (.int p0)] [(.int (7 : Int32)), (.int p0)]))
                by_cases c15 : p0 = (7 : Int32)
                · skip
                  refine own_by (fun _ k => XS.icmpNo X0.here hx rfl (hb hby d1_66) rfl (teq c15).2 k) ?_
                  show own_Go p e below _ (s₁.setTop (mkF m 69 #[.val (.int p0)] []))
                  obtain ⟨T16, X16, e16, st16⟩ := getS2 X0 hx hZ hown (host := "") (Or.inl (hw _ (List.mem_of_getElem? (i := 31) rfl))) Via.refl e0 P_S_JOIN_GROUP (g := (mkF m 69 #[.val (.int p0)] [])) rfl (hb hby d1_69)
                  refine own_by st16 ?_
                  show own_Go p e below _ (T16.setTop (mkF m 72 #[.val (.int p0)] [(.ref f_JOIN_GROUP)]))
                  exact own_retR X16 hx Bd.returns (by decide) rfl (hb hby d1_72) hlk e16 ⟨f_JOIN_GROUP, (0 : Int32), (5 : Int32), rfl, N0, rfl, P_E_JOIN_GROUP, P_F_JOIN_GROUP_minVersion, P_F_JOIN_GROUP_maxVersion, (Or.inr (Or.inr (Or.inr (Or.inr (Or.inr (Or.inr (Or.inr (Or.inl ⟨c1, c3, c5, c7, c9, c11, c13, c15, rfl, rfl⟩))))))))⟩ (by decide) (by decide)
                · skip
                  refine own_by (fun _ k => XS.icmpYes X0.here hx rfl (pc0 := 66) (pc' := 73) rfl (hb hby d1_66) rfl (feq c15).2 (by decide) (by decide) k) ?_
                  show own_Go p e below _ (s₁.setTop (mkF m 73 #[.val (.int p0)] []))
                  refine own_by (fun _ k => XS.iloadN X0.here hx rfl (hb hby d1_73) rfl k) ?_
                  show own_Go p e below _ (s₁.setTop (mkF m 74 #[.val (.int p0)] [(.int p0)]))
                  refine own_by (fun _ k => XS.bipush X0.here hx rfl (hb hby d1_74) k) ?_
                  show own_Go p e below _ (s₁.setTop (mkF m 76 #[.val (.int p0)] [(.int (8 : Int32)), (.int p0)]))
                  by_cases c17 : p0 = (8 : Int32)
                  · skip
                    refine own_by (fun _ k => XS.icmpNo X0.here hx rfl (hb hby d1_76) rfl (teq c17).2 k) ?_
                    show own_Go p e below _ (s₁.setTop (mkF m 79 #[.val (.int p0)] []))
                    obtain ⟨T18, X18, e18, st18⟩ := getS2 X0 hx hZ hown (host := "") (Or.inl (hw _ (List.mem_of_getElem? (i := 25) rfl))) Via.refl e0 P_S_HEARTBEAT (g := (mkF m 79 #[.val (.int p0)] [])) rfl (hb hby d1_79)
                    refine own_by st18 ?_
                    show own_Go p e below _ (T18.setTop (mkF m 82 #[.val (.int p0)] [(.ref f_HEARTBEAT)]))
                    exact own_retR X18 hx Bd.returns (by decide) rfl (hb hby d1_82) hlk e18 ⟨f_HEARTBEAT, (0 : Int32), (3 : Int32), rfl, N0, rfl, P_E_HEARTBEAT, P_F_HEARTBEAT_minVersion, P_F_HEARTBEAT_maxVersion, (Or.inr (Or.inr (Or.inr (Or.inr (Or.inr (Or.inr (Or.inr (Or.inr (Or.inl ⟨c1, c3, c5, c7, c9, c11, c13, c15, c17, rfl, rfl⟩)))))))))⟩ (by decide) (by decide)
                  · skip
                    refine own_by (fun _ k => XS.icmpYes X0.here hx rfl (pc0 := 76) (pc' := 83) rfl (hb hby d1_76) rfl (feq c17).2 (by decide) (by decide) k) ?_
                    show own_Go p e below _ (s₁.setTop (mkF m 83 #[.val (.int p0)] []))
                    refine own_by (fun _ k => XS.iloadN X0.here hx rfl (hb hby d1_83) rfl k) ?_
                    show own_Go p e below _ (s₁.setTop (mkF m 84 #[.val (.int p0)] [(.int p0)]))
                    refine own_by (fun _ k => XS.bipush X0.here hx rfl (hb hby d1_84) k) ?_
                    show own_Go p e below _ (s₁.setTop (mkF m 86 #[.val (.int p0)] [(.int (9 : Int32)), (.int p0)]))
                    by_cases c19 : p0 = (9 : Int32)
                    · skip
                      refine own_by (fun _ k => XS.icmpNo X0.here hx rfl (hb hby d1_86) rfl (teq c19).2 k) ?_
                      show own_Go p e below _ (s₁.setTop (mkF m 89 #[.val (.int p0)] []))
                      obtain ⟨T20, X20, e20, st20⟩ := getS2 X0 hx hZ hown (host := "") (Or.inl (hw _ (List.mem_of_getElem? (i := 43) rfl))) Via.refl e0 P_S_LEAVE_GROUP (g := (mkF m 89 #[.val (.int p0)] [])) rfl (hb hby d1_89)
                      refine own_by st20 ?_
                      show own_Go p e below _ (T20.setTop (mkF m 92 #[.val (.int p0)] [(.ref f_LEAVE_GROUP)]))
                      exact own_retR X20 hx Bd.returns (by decide) rfl (hb hby d1_92) hlk e20 ⟨f_LEAVE_GROUP, (0 : Int32), (3 : Int32), rfl, N0, rfl, P_E_LEAVE_GROUP, P_F_LEAVE_GROUP_minVersion, P_F_LEAVE_GROUP_maxVersion, (Or.inr (Or.inr (Or.inr (Or.inr (Or.inr (Or.inr (Or.inr (Or.inr (Or.inr (Or.inl ⟨c1, c3, c5, c7, c9, c11, c13, c15, c17, c19, rfl, rfl⟩))))))))))⟩ (by decide) (by decide)
                    · skip
                      refine own_by (fun _ k => XS.icmpYes X0.here hx rfl (pc0 := 86) (pc' := 93) rfl (hb hby d1_86) rfl (feq c19).2 (by decide) (by decide) k) ?_
                      show own_Go p e below _ (s₁.setTop (mkF m 93 #[.val (.int p0)] []))
                      refine own_by (fun _ k => XS.iloadN X0.here hx rfl (hb hby d1_93) rfl k) ?_
                      show own_Go p e below _ (s₁.setTop (mkF m 94 #[.val (.int p0)] [(.int p0)]))
                      refine own_by (fun _ k => XS.bipush X0.here hx rfl (hb hby d1_94) k) ?_
                      show own_Go p e below _ (s₁.setTop (mkF m 96 #[.val (.int p0)] [(.int (10 : Int32)), (.int p0)]))
                      by_cases c21 : p0 = (10 : Int32)
                      · skip
                        refine own_by (fun _ k => XS.icmpNo X0.here hx rfl (hb hby d1_96) rfl (teq c21).2 k) ?_
                        show own_Go p e below _ (s₁.setTop (mkF m 99 #[.val (.int p0)] []))
                        obtain ⟨T22, X22, e22, st22⟩ := getS2 X0 hx hZ hown (host := "") (Or.inl (hw _ (List.mem_of_getElem? (i := 35) rfl))) Via.refl e0 P_S_SYNC_GROUP (g := (mkF m 99 #[.val (.int p0)] [])) rfl (hb hby d1_99)
                        refine own_by st22 ?_
                        show own_Go p e below _ (T22.setTop (mkF m 102 #[.val (.int p0)] [(.ref f_SYNC_GROUP)]))
                        exact own_retR X22 hx Bd.returns (by decide) rfl (hb hby d1_102) hlk e22 ⟨f_SYNC_GROUP, (0 : Int32), (3 : Int32), rfl, N0, rfl, P_E_SYNC_GROUP, P_F_SYNC_GROUP_minVersion, P_F_SYNC_GROUP_maxVersion, (Or.inr (Or.inr (Or.inr (Or.inr (Or.inr (Or.inr (Or.inr (Or.inr (Or.inr (Or.inr (Or.inl ⟨c1, c3, c5, c7, c9, c11, c13, c15, c17, c19, c21, rfl, rfl⟩)))))))))))⟩ (by decide) (by decide)
                      · skip
                        refine own_by (fun _ k => XS.icmpYes X0.here hx rfl (pc0 := 96) (pc' := 103) rfl (hb hby d1_96) rfl (feq c21).2 (by decide) (by decide) k) ?_
                        show own_Go p e below _ (s₁.setTop (mkF m 103 #[.val (.int p0)] []))
                        obtain ⟨T23, X23, e23, st23⟩ := getS2 X0 hx hZ hown (host := "") (Or.inl (hw _ (List.mem_of_getElem? (i := 27) rfl))) Via.refl e0 P_S_API_VERSIONS (g := (mkF m 103 #[.val (.int p0)] [])) rfl (hb hby d1_103)
                        refine own_by st23 ?_
                        show own_Go p e below _ (T23.setTop (mkF m 106 #[.val (.int p0)] [(.ref f_API_VERSIONS)]))
                        exact own_retR X23 hx Bd.returns (by decide) rfl (hb hby d1_106) hlk e23 ⟨f_API_VERSIONS, (0 : Int32), (3 : Int32), rfl, N0, rfl, P_E_API_VERSIONS, P_F_API_VERSIONS_minVersion, P_F_API_VERSIONS_maxVersion, (Or.inr (Or.inr (Or.inr (Or.inr (Or.inr (Or.inr (Or.inr (Or.inr (Or.inr (Or.inr (Or.inr (⟨c1, c3, c5, c7, c9, c11, c13, c15, c17, c19, c21, rfl, rfl⟩))))))))))))⟩ (by decide) (by decide)
theorem d2_0 : decode method_4_code 0 = .ok (.iload_n 0, 1) := by decide +kernel
theorem d2_1 : decode method_4_code 1 = .ok (.iconst 1, 1) := by decide +kernel
theorem d2_2 : decode method_4_code 2 = .ok (.if_icmp .ne 5, 3) := by decide +kernel
theorem d2_5 : decode method_4_code 5 = .ok (.iconst 4, 1) := by decide +kernel
theorem d2_6 : decode method_4_code 6 = .ok (.ireturn, 1) := by decide +kernel
theorem d2_7 : decode method_4_code 7 = .ok (.iload_n 0, 1) := by decide +kernel
theorem d2_8 : decode method_4_code 8 = .ok (.iconst 2, 1) := by decide +kernel
theorem d2_9 : decode method_4_code 9 = .ok (.if_icmp .ne 5, 3) := by decide +kernel
theorem d2_12 : decode method_4_code 12 = .ok (.iconst 1, 1) := by decide +kernel
theorem d2_13 : decode method_4_code 13 = .ok (.ireturn, 1) := by decide +kernel
theorem d2_14 : decode method_4_code 14 = .ok (.iload_n 0, 1) := by decide +kernel
theorem d2_15 : decode method_4_code 15 = .ok (.iconst 4, 1) := by decide +kernel
theorem d2_16 : decode method_4_code 16 = .ok (.if_icmp .ne 5, 3) := by decide +kernel
theorem d2_19 : decode method_4_code 19 = .ok (.iconst 2, 1) := by decide +kernel
theorem d2_20 : decode method_4_code 20 = .ok (.ireturn, 1) := by decide +kernel
theorem d2_21 : decode method_4_code 21 = .ok (.iload_n 0, 1) := by decide +kernel
theorem d2_22 : decode method_4_code 22 = .ok (.iconst 5, 1) := by decide +kernel
theorem d2_23 : decode method_4_code 23 = .ok (.if_icmp .ne 5, 3) := by decide +kernel
theorem d2_26 : decode method_4_code 26 = .ok (.iconst 1, 1) := by decide +kernel
theorem d2_27 : decode method_4_code 27 = .ok (.ireturn, 1) := by decide +kernel
theorem d2_28 : decode method_4_code 28 = .ok (.iconst 0, 1) := by decide +kernel
theorem d2_29 : decode method_4_code 29 = .ok (.ireturn, 1) := by decide +kernel
theorem pn_2 : plainName "com/example/keelstream/keelstream/protocol/ApiKeyIsSupportedPinLaw" = true := by first | (simp [plainName, overriddenIn]; done) | decide +kernel
theorem ef_2 (m : MethodId) (p0 : Int32) : entryFrame m #[(.int p0)] 1 = mkF m 0 #[.val (.int p0)] [] := by first | (simp [entryFrame, mkF, argsToLocals, Value.category]; done) | rfl
def Q2 (Z : State) (p0 : Int32) (h0 : Heap) (n0 : Nat) (v : Option Value) (h : Heap) (L : List Loc) : Prop := ∃ (zz : Int32), v = some (.int zz) ∧ Fr n0 L ∧ h = h0 ∧ (((p0 = (1 : Int32)) ∧ zz = (4 : Int32)) ∨ ((¬ (p0 = (1 : Int32))) ∧ (p0 = (2 : Int32)) ∧ zz = (1 : Int32)) ∨ ((¬ (p0 = (1 : Int32))) ∧ (¬ (p0 = (2 : Int32))) ∧ (p0 = (4 : Int32)) ∧ zz = (2 : Int32)) ∨ ((¬ (p0 = (1 : Int32))) ∧ (¬ (p0 = (2 : Int32))) ∧ (¬ (p0 = (4 : Int32))) ∧ (p0 = (5 : Int32)) ∧ zz = (1 : Int32)) ∨ ((¬ (p0 = (1 : Int32))) ∧ (¬ (p0 = (2 : Int32))) ∧ (¬ (p0 = (4 : Int32))) ∧ (¬ (p0 = (5 : Int32))) ∧ zz = (0 : Int32)))
set_option maxRecDepth 65536 in
set_option maxHeartbeats 40000000 in
theorem rm2 (l : Launch) (Z : State) (A0 : Array Value) (hw : ∀ d ∈ tables_1, d.before A0 Z = true) (ws : List Jvm.Cond) (p0 : Int32) (h0 : Heap) (n0 : Nat) (Z0 : n0 ≤ h0.size) :
    MetFree l (⟨"com/example/keelstream/keelstream/protocol/ApiKeyIsSupportedPinLaw", "lo", "(I)I"⟩ : MethodName) (head1 (Jvm.Cond.code (⟨"com/example/keelstream/keelstream/protocol/ApiKeyIsSupportedPinLaw", "lo", "(I)I"⟩ : MethodName) method_4_code 1 (some .int) :: ws) ({ frames := 0, cells := 0, slots := 0, locals := 0 } : Room)) (fun a U => a = #[(.int p0)] ∧ Z.Warmed39 U.vm ∧ U.heap = h0) (fun _ _ _ _ _ => True) (fun _ U o U' => ∃ v L, o = .returned v ∧ Q2 Z p0 h0 n0 v U'.heap L ∧ FrameEnd U o U' L 0 0) := by
  refine MetFree.of_bodySF (plainFor_of_name pn_2) hisR ?_
  intro p e s m args below meth c s₁ Bd hml0 hP hK
  obtain ⟨rfl, hZ, hh⟩ := hP
  have hx := Bd.exec
  have hby := Bd.bytes
  have hml : c.maxLocals = 1 := hml0
  have hlk : meth.locks = false := Bd.notSynchronized
  have hown : s.vm.findClass "com/example/keelstream/keelstream/protocol/ApiKeyIsSupportedPinLaw" = some m.cls := findClass_of_methodNamed Bd.named
  have hnm := (name_of_methodNamed Bd.named Bd.method).1
  have X0 : Stand p l e ({ frames := 0, cells := 0, slots := 0, locals := 0 } : Room) s m #[(.int p0)] below meth c s₁ [] 0 0 := Stand.of_body Bd
  have e0 : s₁.heap = h0 := by rw [← hh, Bd.state]; rfl
  have N0 := Fr.nil n0
  show own_Go p e below (own_Fin s 0 0 (Q2 Z p0 h0 n0)) _
  refine own_by (fun t k => castTop (ef_2 m p0) k) ?_
  show own_Go p e below _ (s₁.setTop (mkF m 0 #[.val (.int p0)] []))
  refine own_by (fun _ k => XS.iloadN X0.here hx rfl (hb hby d2_0) rfl k) ?_
  show own_Go p e below _ (s₁.setTop (mkF m 1 #[.val (.int p0)] [(.int p0)]))
  refine own_by (fun _ k => XS.iconst X0.here hx rfl (hb hby d2_1) k) ?_
  show own_Go p e below _ (s₁.setTop (mkF m 2 #[.val (.int p0)] [(.int (1 : Int32)), (.int p0)]))
  by_cases c1 : p0 = (1 : Int32)
  · skip
    refine own_by (fun _ k => XS.icmpNo X0.here hx rfl (hb hby d2_2) rfl (teq c1).2 k) ?_
    show own_Go p e below _ (s₁.setTop (mkF m 5 #[.val (.int p0)] []))
    refine own_by (fun _ k => XS.iconst X0.here hx rfl (hb hby d2_5) k) ?_
    show own_Go p e below _ (s₁.setTop (mkF m 6 #[.val (.int p0)] [(.int (4 : Int32))]))
    exact own_retI X0 hx Bd.returns (hb hby d2_6) hlk e0 ⟨_, rfl, N0, rfl, (Or.inl ⟨c1, rfl⟩)⟩ (by decide) (by decide)
  · skip
    refine own_by (fun _ k => XS.icmpYes X0.here hx rfl (pc0 := 2) (pc' := 7) rfl (hb hby d2_2) rfl (feq c1).2 (by decide) (by decide) k) ?_
    show own_Go p e below _ (s₁.setTop (mkF m 7 #[.val (.int p0)] []))
    refine own_by (fun _ k => XS.iloadN X0.here hx rfl (hb hby d2_7) rfl k) ?_
    show own_Go p e below _ (s₁.setTop (mkF m 8 #[.val (.int p0)] [(.int p0)]))
    refine own_by (fun _ k => XS.iconst X0.here hx rfl (hb hby d2_8) k) ?_
    show own_Go p e below _ (s₁.setTop (mkF m 9 #[.val (.int p0)] [(.int (2 : Int32)), (.int p0)]))
    by_cases c2 : p0 = (2 : Int32)
    · skip
      refine own_by (fun _ k => XS.icmpNo X0.here hx rfl (hb hby d2_9) rfl (teq c2).2 k) ?_
      show own_Go p e below _ (s₁.setTop (mkF m 12 #[.val (.int p0)] []))
      refine own_by (fun _ k => XS.iconst X0.here hx rfl (hb hby d2_12) k) ?_
      show own_Go p e below _ (s₁.setTop (mkF m 13 #[.val (.int p0)] [(.int (1 : Int32))]))
      exact own_retI X0 hx Bd.returns (hb hby d2_13) hlk e0 ⟨_, rfl, N0, rfl, (Or.inr (Or.inl ⟨c1, c2, rfl⟩))⟩ (by decide) (by decide)
    · skip
      refine own_by (fun _ k => XS.icmpYes X0.here hx rfl (pc0 := 9) (pc' := 14) rfl (hb hby d2_9) rfl (feq c2).2 (by decide) (by decide) k) ?_
      show own_Go p e below _ (s₁.setTop (mkF m 14 #[.val (.int p0)] []))
      refine own_by (fun _ k => XS.iloadN X0.here hx rfl (hb hby d2_14) rfl k) ?_
      show own_Go p e below _ (s₁.setTop (mkF m 15 #[.val (.int p0)] [(.int p0)]))
      refine own_by (fun _ k => XS.iconst X0.here hx rfl (hb hby d2_15) k) ?_
      show own_Go p e below _ (s₁.setTop (mkF m 16 #[.val (.int p0)] [(.int (4 : Int32)), (.int p0)]))
      by_cases c3 : p0 = (4 : Int32)
      · skip
        refine own_by (fun _ k => XS.icmpNo X0.here hx rfl (hb hby d2_16) rfl (teq c3).2 k) ?_
        show own_Go p e below _ (s₁.setTop (mkF m 19 #[.val (.int p0)] []))
        refine own_by (fun _ k => XS.iconst X0.here hx rfl (hb hby d2_19) k) ?_
        show own_Go p e below _ (s₁.setTop (mkF m 20 #[.val (.int p0)] [(.int (2 : Int32))]))
        exact own_retI X0 hx Bd.returns (hb hby d2_20) hlk e0 ⟨_, rfl, N0, rfl, (Or.inr (Or.inr (Or.inl ⟨c1, c2, c3, rfl⟩)))⟩ (by decide) (by decide)
      · skip
        refine own_by (fun _ k => XS.icmpYes X0.here hx rfl (pc0 := 16) (pc' := 21) rfl (hb hby d2_16) rfl (feq c3).2 (by decide) (by decide) k) ?_
        show own_Go p e below _ (s₁.setTop (mkF m 21 #[.val (.int p0)] []))
        refine own_by (fun _ k => XS.iloadN X0.here hx rfl (hb hby d2_21) rfl k) ?_
        show own_Go p e below _ (s₁.setTop (mkF m 22 #[.val (.int p0)] [(.int p0)]))
        refine own_by (fun _ k => XS.iconst X0.here hx rfl (hb hby d2_22) k) ?_
        show own_Go p e below _ (s₁.setTop (mkF m 23 #[.val (.int p0)] [(.int (5 : Int32)), (.int p0)]))
        by_cases c4 : p0 = (5 : Int32)
        · skip
          refine own_by (fun _ k => XS.icmpNo X0.here hx rfl (hb hby d2_23) rfl (teq c4).2 k) ?_
          show own_Go p e below _ (s₁.setTop (mkF m 26 #[.val (.int p0)] []))
          refine own_by (fun _ k => XS.iconst X0.here hx rfl (hb hby d2_26) k) ?_
          show own_Go p e below _ (s₁.setTop (mkF m 27 #[.val (.int p0)] [(.int (1 : Int32))]))
          exact own_retI X0 hx Bd.returns (hb hby d2_27) hlk e0 ⟨_, rfl, N0, rfl, (Or.inr (Or.inr (Or.inr (Or.inl ⟨c1, c2, c3, c4, rfl⟩))))⟩ (by decide) (by decide)
        · skip
          refine own_by (fun _ k => XS.icmpYes X0.here hx rfl (pc0 := 23) (pc' := 28) rfl (hb hby d2_23) rfl (feq c4).2 (by decide) (by decide) k) ?_
          show own_Go p e below _ (s₁.setTop (mkF m 28 #[.val (.int p0)] []))
          refine own_by (fun _ k => XS.iconst X0.here hx rfl (hb hby d2_28) k) ?_
          show own_Go p e below _ (s₁.setTop (mkF m 29 #[.val (.int p0)] [(.int (0 : Int32))]))
          exact own_retI X0 hx Bd.returns (hb hby d2_29) hlk e0 ⟨_, rfl, N0, rfl, (Or.inr (Or.inr (Or.inr (Or.inr (⟨c1, c2, c3, c4, rfl⟩)))))⟩ (by decide) (by decide)
theorem d3_0 : decode method_5_code 0 = .ok (.iload_n 0, 1) := by decide +kernel
theorem d3_1 : decode method_5_code 1 = .ok (.ifCond .ne 6, 3) := by decide +kernel
theorem d3_4 : decode method_5_code 4 = .ok (.bipush 7, 2) := by decide +kernel
theorem d3_6 : decode method_5_code 6 = .ok (.ireturn, 1) := by decide +kernel
theorem d3_7 : decode method_5_code 7 = .ok (.iload_n 0, 1) := by decide +kernel
theorem d3_8 : decode method_5_code 8 = .ok (.iconst 1, 1) := by decide +kernel
theorem d3_9 : decode method_5_code 9 = .ok (.if_icmp .ne 6, 3) := by decide +kernel
theorem d3_12 : decode method_5_code 12 = .ok (.bipush 11, 2) := by decide +kernel
theorem d3_14 : decode method_5_code 14 = .ok (.ireturn, 1) := by decide +kernel
theorem d3_15 : decode method_5_code 15 = .ok (.iload_n 0, 1) := by decide +kernel
theorem d3_16 : decode method_5_code 16 = .ok (.iconst 2, 1) := by decide +kernel
theorem d3_17 : decode method_5_code 17 = .ok (.if_icmp .ne 5, 3) := by decide +kernel
theorem d3_20 : decode method_5_code 20 = .ok (.iconst 2, 1) := by decide +kernel
theorem d3_21 : decode method_5_code 21 = .ok (.ireturn, 1) := by decide +kernel
theorem d3_22 : decode method_5_code 22 = .ok (.iload_n 0, 1) := by decide +kernel
theorem d3_23 : decode method_5_code 23 = .ok (.iconst 3, 1) := by decide +kernel
theorem d3_24 : decode method_5_code 24 = .ok (.if_icmp .ne 5, 3) := by decide +kernel
theorem d3_27 : decode method_5_code 27 = .ok (.iconst 4, 1) := by decide +kernel
theorem d3_28 : decode method_5_code 28 = .ok (.ireturn, 1) := by decide +kernel
theorem d3_29 : decode method_5_code 29 = .ok (.iload_n 0, 1) := by decide +kernel
theorem d3_30 : decode method_5_code 30 = .ok (.iconst 4, 1) := by decide +kernel
theorem d3_31 : decode method_5_code 31 = .ok (.if_icmp .ne 6, 3) := by decide +kernel
theorem d3_34 : decode method_5_code 34 = .ok (.bipush 7, 2) := by decide +kernel
theorem d3_36 : decode method_5_code 36 = .ok (.ireturn, 1) := by decide +kernel
theorem d3_37 : decode method_5_code 37 = .ok (.iload_n 0, 1) := by decide +kernel
theorem d3_38 : decode method_5_code 38 = .ok (.iconst 5, 1) := by decide +kernel
theorem d3_39 : decode method_5_code 39 = .ok (.if_icmp .ne 5, 3) := by decide +kernel
theorem d3_42 : decode method_5_code 42 = .ok (.iconst 5, 1) := by decide +kernel
theorem d3_43 : decode method_5_code 43 = .ok (.ireturn, 1) := by decide +kernel
theorem d3_44 : decode method_5_code 44 = .ok (.iload_n 0, 1) := by decide +kernel
theorem d3_45 : decode method_5_code 45 = .ok (.bipush 6, 2) := by decide +kernel
theorem d3_47 : decode method_5_code 47 = .ok (.if_icmp .ne 5, 3) := by decide +kernel
theorem d3_50 : decode method_5_code 50 = .ok (.iconst 2, 1) := by decide +kernel
theorem d3_51 : decode method_5_code 51 = .ok (.ireturn, 1) := by decide +kernel
theorem d3_52 : decode method_5_code 52 = .ok (.iload_n 0, 1) := by decide +kernel
theorem d3_53 : decode method_5_code 53 = .ok (.bipush 7, 2) := by decide +kernel
theorem d3_55 : decode method_5_code 55 = .ok (.if_icmp .ne 5, 3) := by decide +kernel
theorem d3_58 : decode method_5_code 58 = .ok (.iconst 5, 1) := by decide +kernel
theorem d3_59 : decode method_5_code 59 = .ok (.ireturn, 1) := by decide +kernel
theorem d3_60 : decode method_5_code 60 = .ok (.iconst 3, 1) := by decide +kernel
theorem d3_61 : decode method_5_code 61 = .ok (.ireturn, 1) := by decide +kernel
theorem pn_3 : plainName "com/example/keelstream/keelstream/protocol/ApiKeyIsSupportedPinLaw" = true := by first | (simp [plainName, overriddenIn]; done) | decide +kernel
theorem ef_3 (m : MethodId) (p0 : Int32) : entryFrame m #[(.int p0)] 1 = mkF m 0 #[.val (.int p0)] [] := by first | (simp [entryFrame, mkF, argsToLocals, Value.category]; done) | rfl
def Q3 (Z : State) (p0 : Int32) (h0 : Heap) (n0 : Nat) (v : Option Value) (h : Heap) (L : List Loc) : Prop := ∃ (zz : Int32), v = some (.int zz) ∧ Fr n0 L ∧ h = h0 ∧ (((p0 = (0 : Int32)) ∧ zz = (7 : Int32)) ∨ ((¬ (p0 = (0 : Int32))) ∧ (p0 = (1 : Int32)) ∧ zz = (11 : Int32)) ∨ ((¬ (p0 = (0 : Int32))) ∧ (¬ (p0 = (1 : Int32))) ∧ (p0 = (2 : Int32)) ∧ zz = (2 : Int32)) ∨ ((¬ (p0 = (0 : Int32))) ∧ (¬ (p0 = (1 : Int32))) ∧ (¬ (p0 = (2 : Int32))) ∧ (p0 = (3 : Int32)) ∧ zz = (4 : Int32)) ∨ ((¬ (p0 = (0 : Int32))) ∧ (¬ (p0 = (1 : Int32))) ∧ (¬ (p0 = (2 : Int32))) ∧ (¬ (p0 = (3 : Int32))) ∧ (p0 = (4 : Int32)) ∧ zz = (7 : Int32)) ∨ ((¬ (p0 = (0 : Int32))) ∧ (¬ (p0 = (1 : Int32))) ∧ (¬ (p0 = (2 : Int32))) ∧ (¬ (p0 = (3 : Int32))) ∧ (¬ (p0 = (4 : Int32))) ∧ (p0 = (5 : Int32)) ∧ zz = (5 : Int32)) ∨ ((¬ (p0 = (0 : Int32))) ∧ (¬ (p0 = (1 : Int32))) ∧ (¬ (p0 = (2 : Int32))) ∧ (¬ (p0 = (3 : Int32))) ∧ (¬ (p0 = (4 : Int32))) ∧ (¬ (p0 = (5 : Int32))) ∧ (p0 = (6 : Int32)) ∧ zz = (2 : Int32)) ∨ ((¬ (p0 = (0 : Int32))) ∧ (¬ (p0 = (1 : Int32))) ∧ (¬ (p0 = (2 : Int32))) ∧ (¬ (p0 = (3 : Int32))) ∧ (¬ (p0 = (4 : Int32))) ∧ (¬ (p0 = (5 : Int32))) ∧ (¬ (p0 = (6 : Int32))) ∧ (p0 = (7 : Int32)) ∧ zz = (5 : Int32)) ∨ ((¬ (p0 = (0 : Int32))) ∧ (¬ (p0 = (1 : Int32))) ∧ (¬ (p0 = (2 : Int32))) ∧ (¬ (p0 = (3 : Int32))) ∧ (¬ (p0 = (4 : Int32))) ∧ (¬ (p0 = (5 : Int32))) ∧ (¬ (p0 = (6 : Int32))) ∧ (¬ (p0 = (7 : Int32))) ∧ zz = (3 : Int32)))
set_option maxRecDepth 65536 in
set_option maxHeartbeats 40000000 in
theorem rm3 (l : Launch) (Z : State) (A0 : Array Value) (hw : ∀ d ∈ tables_1, d.before A0 Z = true) (ws : List Jvm.Cond) (p0 : Int32) (h0 : Heap) (n0 : Nat) (Z0 : n0 ≤ h0.size) :
    MetFree l (⟨"com/example/keelstream/keelstream/protocol/ApiKeyIsSupportedPinLaw", "hi", "(I)I"⟩ : MethodName) (head1 (Jvm.Cond.code (⟨"com/example/keelstream/keelstream/protocol/ApiKeyIsSupportedPinLaw", "hi", "(I)I"⟩ : MethodName) method_5_code 1 (some .int) :: ws) ({ frames := 0, cells := 0, slots := 0, locals := 0 } : Room)) (fun a U => a = #[(.int p0)] ∧ Z.Warmed39 U.vm ∧ U.heap = h0) (fun _ _ _ _ _ => True) (fun _ U o U' => ∃ v L, o = .returned v ∧ Q3 Z p0 h0 n0 v U'.heap L ∧ FrameEnd U o U' L 0 0) := by
  refine MetFree.of_bodySF (plainFor_of_name pn_3) hisR ?_
  intro p e s m args below meth c s₁ Bd hml0 hP hK
  obtain ⟨rfl, hZ, hh⟩ := hP
  have hx := Bd.exec
  have hby := Bd.bytes
  have hml : c.maxLocals = 1 := hml0
  have hlk : meth.locks = false := Bd.notSynchronized
  have hown : s.vm.findClass "com/example/keelstream/keelstream/protocol/ApiKeyIsSupportedPinLaw" = some m.cls := findClass_of_methodNamed Bd.named
  have hnm := (name_of_methodNamed Bd.named Bd.method).1
  have X0 : Stand p l e ({ frames := 0, cells := 0, slots := 0, locals := 0 } : Room) s m #[(.int p0)] below meth c s₁ [] 0 0 := Stand.of_body Bd
  have e0 : s₁.heap = h0 := by rw [← hh, Bd.state]; rfl
  have N0 := Fr.nil n0
  show own_Go p e below (own_Fin s 0 0 (Q3 Z p0 h0 n0)) _
  refine own_by (fun t k => castTop (ef_3 m p0) k) ?_
  show own_Go p e below _ (s₁.setTop (mkF m 0 #[.val (.int p0)] []))
  refine own_by (fun _ k => XS.iloadN X0.here hx rfl (hb hby d3_0) rfl k) ?_
  show own_Go p e below _ (s₁.setTop (mkF m 1 #[.val (.int p0)] [(.int p0)]))
  by_cases c1 : p0 = (0 : Int32)
  · skip
    refine own_by (fun _ k => XS.ifNo X0.here hx rfl (hb hby d3_1) rfl ((if0 _ _).trans (teq c1).2) k) ?_
    show own_Go p e below _ (s₁.setTop (mkF m 4 #[.val (.int p0)] []))
    refine own_by (fun _ k => XS.bipush X0.here hx rfl (hb hby d3_4) k) ?_
    show own_Go p e below _ (s₁.setTop (mkF m 6 #[.val (.int p0)] [(.int (7 : Int32))]))
    exact own_retI X0 hx Bd.returns (hb hby d3_6) hlk e0 ⟨_, rfl, N0, rfl, (Or.inl ⟨c1, rfl⟩)⟩ (by decide) (by decide)
  · skip
    refine own_by (fun _ k => XS.ifYes X0.here hx rfl (pc0 := 1) (pc' := 7) rfl (hb hby d3_1) rfl ((if0 _ _).trans (feq c1).2) (by decide) (by decide) k) ?_
    show own_Go p e below _ (s₁.setTop (mkF m 7 #[.val (.int p0)] []))
    refine own_by (fun _ k => XS.iloadN X0.here hx rfl (hb hby d3_7) rfl k) ?_
    show own_Go p e below _ (s₁.setTop (mkF m 8 #[.val (.int p0)] [(.int p0)]))
    refine own_by (fun _ k => XS.iconst X0.here hx rfl (hb hby d3_8) k) ?_
    show own_Go p e below _ (s₁.setTop (mkF m 9 #[.val (.int p0)] [(.int (1 : Int32)), (.int p0)]))
    by_cases c2 : p0 = (1 : Int32)
    · skip
      refine own_by (fun _ k => XS.icmpNo X0.here hx rfl (hb hby d3_9) rfl (teq c2).2 k) ?_
      show own_Go p e below _ (s₁.setTop (mkF m 12 #[.val (.int p0)] []))
      refine own_by (fun _ k => XS.bipush X0.here hx rfl (hb hby d3_12) k) ?_
      show own_Go p e below _ (s₁.setTop (mkF m 14 #[.val (.int p0)] [(.int (11 : Int32))]))
      exact own_retI X0 hx Bd.returns (hb hby d3_14) hlk e0 ⟨_, rfl, N0, rfl, (Or.inr (Or.inl ⟨c1, c2, rfl⟩))⟩ (by decide) (by decide)
    · skip
      refine own_by (fun _ k => XS.icmpYes X0.here hx rfl (pc0 := 9) (pc' := 15) rfl (hb hby d3_9) rfl (feq c2).2 (by decide) (by decide) k) ?_
      show own_Go p e below _ (s₁.setTop (mkF m 15 #[.val (.int p0)] []))
      refine own_by (fun _ k => XS.iloadN X0.here hx rfl (hb hby d3_15) rfl k) ?_
      show own_Go p e below _ (s₁.setTop (mkF m 16 #[.val (.int p0)] [(.int p0)]))
      refine own_by (fun _ k => XS.iconst X0.here hx rfl (hb hby d3_16) k) ?_
      show own_Go p e below _ (s₁.setTop (mkF m 17 #[.val (.int p0)] [(.int (2 : Int32)), (.int p0)]))
      by_cases c3 : p0 = (2 : Int32)
      · skip
        refine own_by (fun _ k => XS.icmpNo X0.here hx rfl (hb hby d3_17) rfl (teq c3).2 k) ?_
        show own_Go p e below _ (s₁.setTop (mkF m 20 #[.val (.int p0)] []))
        refine own_by (fun _ k => XS.iconst X0.here hx rfl (hb hby d3_20) k) ?_
        show own_Go p e below _ (s₁.setTop (mkF m 21 #[.val (.int p0)] [(.int (2 : Int32))]))
        exact own_retI X0 hx Bd.returns (hb hby d3_21) hlk e0 ⟨_, rfl, N0, rfl, (Or.inr (Or.inr (Or.inl ⟨c1, c2, c3, rfl⟩)))⟩ (by decide) (by decide)
      · skip
        refine own_by (fun _ k => XS.icmpYes X0.here hx rfl (pc0 := 17) (pc' := 22) rfl (hb hby d3_17) rfl (feq c3).2 (by decide) (by decide) k) ?_
        show own_Go p e below _ (s₁.setTop (mkF m 22 #[.val (.int p0)] []))
        refine own_by (fun _ k => XS.iloadN X0.here hx rfl (hb hby d3_22) rfl k) ?_
        show own_Go p e below _ (s₁.setTop (mkF m 23 #[.val (.int p0)] [(.int p0)]))
        refine own_by (fun _ k => XS.iconst X0.here hx rfl (hb hby d3_23) k) ?_
        show own_Go p e below _ (s₁.setTop (mkF m 24 #[.val (.int p0)] [(.int (3 : Int32)), (.int p0)]))
        by_cases c4 : p0 = (3 : Int32)
        · skip
          refine own_by (fun _ k => XS.icmpNo X0.here hx rfl (hb hby d3_24) rfl (teq c4).2 k) ?_
          show own_Go p e below _ (s₁.setTop (mkF m 27 #[.val (.int p0)] []))
          refine own_by (fun _ k => XS.iconst X0.here hx rfl (hb hby d3_27) k) ?_
          show own_Go p e below _ (s₁.setTop (mkF m 28 #[.val (.int p0)] [(.int (4 : Int32))]))
          exact own_retI X0 hx Bd.returns (hb hby d3_28) hlk e0 ⟨_, rfl, N0, rfl, (Or.inr (Or.inr (Or.inr (Or.inl ⟨c1, c2, c3, c4, rfl⟩))))⟩ (by decide) (by decide)
        · skip
          refine own_by (fun _ k => XS.icmpYes X0.here hx rfl (pc0 := 24) (pc' := 29) rfl (hb hby d3_24) rfl (feq c4).2 (by decide) (by decide) k) ?_
          show own_Go p e below _ (s₁.setTop (mkF m 29 #[.val (.int p0)] []))
          refine own_by (fun _ k => XS.iloadN X0.here hx rfl (hb hby d3_29) rfl k) ?_
          show own_Go p e below _ (s₁.setTop (mkF m 30 #[.val (.int p0)] [(.int p0)]))
          refine own_by (fun _ k => XS.iconst X0.here hx rfl (hb hby d3_30) k) ?_
          show own_Go p e below _ (s₁.setTop (mkF m 31 #[.val (.int p0)] [(.int (4 : Int32)), (.int p0)]))
          by_cases c5 : p0 = (4 : Int32)
          · skip
            refine own_by (fun _ k => XS.icmpNo X0.here hx rfl (hb hby d3_31) rfl (teq c5).2 k) ?_
            show own_Go p e below _ (s₁.setTop (mkF m 34 #[.val (.int p0)] []))
            refine own_by (fun _ k => XS.bipush X0.here hx rfl (hb hby d3_34) k) ?_
            show own_Go p e below _ (s₁.setTop (mkF m 36 #[.val (.int p0)] [(.int (7 : Int32))]))
            exact own_retI X0 hx Bd.returns (hb hby d3_36) hlk e0 ⟨_, rfl, N0, rfl, (Or.inr (Or.inr (Or.inr (Or.inr (Or.inl ⟨c1, c2, c3, c4, c5, rfl⟩)))))⟩ (by decide) (by decide)
          · skip
            refine own_by (fun _ k => XS.icmpYes X0.here hx rfl (pc0 := 31) (pc' := 37) rfl (hb hby d3_31) rfl (feq c5).2 (by decide) (by decide) k) ?_
            show own_Go p e below _ (s₁.setTop (mkF m 37 #[.val (.int p0)] []))
            refine own_by (fun _ k => XS.iloadN X0.here hx rfl (hb hby d3_37) rfl k) ?_
            show own_Go p e below _ (s₁.setTop (mkF m 38 #[.val (.int p0)] [(.int p0)]))
            refine own_by (fun _ k => XS.iconst X0.here hx rfl (hb hby d3_38) k) ?_
            show own_Go p e below _ (s₁.setTop (mkF m 39 #[.val (.int p0)] [(.int (5 : Int32)), (.int p0)]))
            by_cases c6 : p0 = (5 : Int32)
            · skip
              refine own_by (fun _ k => XS.icmpNo X0.here hx rfl (hb hby d3_39) rfl (teq c6).2 k) ?_
              show own_Go p e below _ (s₁.setTop (mkF m 42 #[.val (.int p0)] []))
              refine own_by (fun _ k => XS.iconst X0.here hx rfl (hb hby d3_42) k) ?_
              show own_Go p e below _ (s₁.setTop (mkF m 43 #[.val (.int p0)] [(.int (5 : Int32))]))
              exact own_retI X0 hx Bd.returns (hb hby d3_43) hlk e0 ⟨_, rfl, N0, rfl, (Or.inr (Or.inr (Or.inr (Or.inr (Or.inr (Or.inl ⟨c1, c2, c3, c4, c5, c6, rfl⟩))))))⟩ (by decide) (by decide)
            · skip
              refine own_by (fun _ k => XS.icmpYes X0.here hx rfl (pc0 := 39) (pc' := 44) rfl (hb hby d3_39) rfl (feq c6).2 (by decide) (by decide) k) ?_
              show own_Go p e below _ (s₁.setTop (mkF m 44 #[.val (.int p0)] []))
              refine own_by (fun _ k => XS.iloadN X0.here hx rfl (hb hby d3_44) rfl k) ?_
              show own_Go p e below _ (s₁.setTop (mkF m 45 #[.val (.int p0)] [(.int p0)]))
              refine own_by (fun _ k => XS.bipush X0.here hx rfl (hb hby d3_45) k) ?_
              show own_Go p e below _ (s₁.setTop (mkF m 47 #[.val (.int p0)] [(.int (6 : Int32)), (.int p0)]))
              by_cases c7 : p0 = (6 : Int32)
              · skip
                refine own_by (fun _ k => XS.icmpNo X0.here hx rfl (hb hby d3_47) rfl (teq c7).2 k) ?_
                show own_Go p e below _ (s₁.setTop (mkF m 50 #[.val (.int p0)] []))
                refine own_by (fun _ k => XS.iconst X0.here hx rfl (hb hby d3_50) k) ?_
                show own_Go p e below _ (s₁.setTop (mkF m 51 #[.val (.int p0)] [(.int (2 : Int32))]))
                exact own_retI X0 hx Bd.returns (hb hby d3_51) hlk e0 ⟨_, rfl, N0, rfl, (Or.inr (Or.inr (Or.inr (Or.inr (Or.inr (Or.inr (Or.inl ⟨c1, c2, c3, c4, c5, c6, c7, rfl⟩)))))))⟩ (by decide) (by decide)
              · skip
                refine own_by (fun _ k => XS.icmpYes X0.here hx rfl (pc0 := 47) (pc' := 52) rfl (hb hby d3_47) rfl (feq c7).2 (by decide) (by decide) k) ?_
                show own_Go p e below _ (s₁.setTop (mkF m 52 #[.val (.int p0)] []))
                refine own_by (fun _ k => XS.iloadN X0.here hx rfl (hb hby d3_52) rfl k) ?_
                show own_Go p e below _ (s₁.setTop (mkF m 53 #[.val (.int p0)] [(.int p0)]))
                refine own_by (fun _ k => XS.bipush X0.here hx rfl (hb hby d3_53) k) ?_
                show own_Go p e below _ (s₁.setTop (mkF m 55 #[.val (.int p0)] [(.int (7 : Int32)), (.int p0)]))
                by_cases c8 : p0 = (7 : Int32)
                · skip
                  refine own_by (fun _ k => XS.icmpNo X0.here hx rfl (hb hby d3_55) rfl (teq c8).2 k) ?_
                  show own_Go p e below _ (s₁.setTop (mkF m 58 #[.val (.int p0)] []))
                  refine own_by (fun _ k => XS.iconst X0.here hx rfl (hb hby d3_58) k) ?_
                  show own_Go p e below _ (s₁.setTop (mkF m 59 #[.val (.int p0)] [(.int (5 : Int32))]))
                  exact own_retI X0 hx Bd.returns (hb hby d3_59) hlk e0 ⟨_, rfl, N0, rfl, (Or.inr (Or.inr (Or.inr (Or.inr (Or.inr (Or.inr (Or.inr (Or.inl ⟨c1, c2, c3, c4, c5, c6, c7, c8, rfl⟩))))))))⟩ (by decide) (by decide)
                · skip
                  refine own_by (fun _ k => XS.icmpYes X0.here hx rfl (pc0 := 55) (pc' := 60) rfl (hb hby d3_55) rfl (feq c8).2 (by decide) (by decide) k) ?_
                  show own_Go p e below _ (s₁.setTop (mkF m 60 #[.val (.int p0)] []))
                  refine own_by (fun _ k => XS.iconst X0.here hx rfl (hb hby d3_60) k) ?_
                  show own_Go p e below _ (s₁.setTop (mkF m 61 #[.val (.int p0)] [(.int (3 : Int32))]))
                  exact own_retI X0 hx Bd.returns (hb hby d3_61) hlk e0 ⟨_, rfl, N0, rfl, (Or.inr (Or.inr (Or.inr (Or.inr (Or.inr (Or.inr (Or.inr (Or.inr (⟨c1, c2, c3, c4, c5, c6, c7, c8, rfl⟩)))))))))⟩ (by decide) (by decide)
theorem d4_0 : decode prog_5_method_8_code 0 = .ok (.iload_n 1, 1) := by decide +kernel
theorem d4_1 : decode prog_5_method_8_code 1 = .ok (.aload_n 0, 1) := by decide +kernel
theorem d4_2 : decode prog_5_method_8_code 2 = .ok (.getfield 63, 3) := by decide +kernel
theorem d4_5 : decode prog_5_method_8_code 5 = .ok (.if_icmp .lt 15, 3) := by decide +kernel
theorem d4_8 : decode prog_5_method_8_code 8 = .ok (.iload_n 1, 1) := by decide +kernel
theorem d4_9 : decode prog_5_method_8_code 9 = .ok (.aload_n 0, 1) := by decide +kernel
theorem d4_10 : decode prog_5_method_8_code 10 = .ok (.getfield 66, 3) := by decide +kernel
theorem d4_13 : decode prog_5_method_8_code 13 = .ok (.if_icmp .gt 7, 3) := by decide +kernel
theorem d4_16 : decode prog_5_method_8_code 16 = .ok (.iconst 1, 1) := by decide +kernel
theorem d4_17 : decode prog_5_method_8_code 17 = .ok (.goto 4, 3) := by decide +kernel
theorem d4_20 : decode prog_5_method_8_code 20 = .ok (.iconst 0, 1) := by decide +kernel
theorem d4_21 : decode prog_5_method_8_code 21 = .ok (.ireturn, 1) := by decide +kernel
theorem pn_4 : plainName "com/example/keelstream/keelstream/protocol/ApiKey" = true := by first | (simp [plainName, overriddenIn]; done) | decide +kernel
theorem ef_4 (m : MethodId) (a0 : Addr) (p1 : Int32) : entryFrame m #[(.ref a0), (.int p1)] 2 = mkF m 0 #[.val (.ref a0), .val (.int p1)] [] := by first | (simp [entryFrame, mkF, argsToLocals, Value.category]; done) | rfl
def Q4 (Z : State) (a0 : Addr) (p1 : Int32) (f_a0_minVersion : Int32) (f_a0_maxVersion : Int32) (h0 : Heap) (n0 : Nat) (v : Option Value) (h : Heap) (L : List Loc) : Prop := ∃ (zz : Int32), v = some (.int zz) ∧ Fr n0 L ∧ h = h0 ∧ (((p1 < f_a0_minVersion) ∧ zz = (0 : Int32)) ∨ ((¬ (p1 < f_a0_minVersion)) ∧ (f_a0_maxVersion < p1) ∧ zz = (0 : Int32)) ∨ ((¬ (p1 < f_a0_minVersion)) ∧ (¬ (f_a0_maxVersion < p1)) ∧ zz = (1 : Int32)))
set_option maxRecDepth 65536 in
set_option maxHeartbeats 40000000 in
theorem rm4 (l : Launch) (Z : State) (A0 : Array Value) (hw : ∀ d ∈ tables_1, d.before A0 Z = true) (ws : List Jvm.Cond) (a0 : Addr) (p1 : Int32) (f_a0_minVersion : Int32) (f_a0_maxVersion : Int32) (h0 : Heap) (n0 : Nat) (Z0 : n0 ≤ h0.size) (P_F_a0_minVersion : Fld Z h0 a0 "com/example/keelstream/keelstream/protocol/ApiKey" "minVersion" "S" (.int f_a0_minVersion)) (P_F_a0_maxVersion : Fld Z h0 a0 "com/example/keelstream/keelstream/protocol/ApiKey" "maxVersion" "S" (.int f_a0_maxVersion)) :
    MetFree l (⟨"com/example/keelstream/keelstream/protocol/ApiKey", "isSupported", "(S)Z"⟩ : MethodName) (head1 (Jvm.Cond.code (⟨"com/example/keelstream/keelstream/protocol/ApiKey", "isSupported", "(S)Z"⟩ : MethodName) prog_5_method_8_code 2 (some .boolean) :: ws) ({ frames := 0, cells := 0, slots := 0, locals := 0 } : Room)) (fun a U => a = #[(.ref a0), (.int p1)] ∧ Z.Warmed39 U.vm ∧ U.heap = h0) (fun _ _ _ _ _ => True) (fun _ U o U' => ∃ v L, o = .returned v ∧ Q4 Z a0 p1 f_a0_minVersion f_a0_maxVersion h0 n0 v U'.heap L ∧ FrameEnd U o U' L 0 0) := by
  refine MetFree.of_bodySF (plainFor_of_name pn_4) hisR ?_
  intro p e s m args below meth c s₁ Bd hml0 hP hK
  obtain ⟨rfl, hZ, hh⟩ := hP
  have hx := Bd.exec
  have hby := Bd.bytes
  have hml : c.maxLocals = 2 := hml0
  have hlk : meth.locks = false := Bd.notSynchronized
  have hown : s.vm.findClass "com/example/keelstream/keelstream/protocol/ApiKey" = some m.cls := findClass_of_methodNamed Bd.named
  have hnm := (name_of_methodNamed Bd.named Bd.method).1
  have X0 : Stand p l e ({ frames := 0, cells := 0, slots := 0, locals := 0 } : Room) s m #[(.ref a0), (.int p1)] below meth c s₁ [] 0 0 := Stand.of_body Bd
  have e0 : s₁.heap = h0 := by rw [← hh, Bd.state]; rfl
  have N0 := Fr.nil n0
  show own_Go p e below (own_Fin s 0 0 (Q4 Z a0 p1 f_a0_minVersion f_a0_maxVersion h0 n0)) _
  refine own_by (fun t k => castTop (ef_4 m a0 p1) k) ?_
  show own_Go p e below _ (s₁.setTop (mkF m 0 #[.val (.ref a0), .val (.int p1)] []))
  refine own_by (fun _ k => XS.iloadN X0.here hx rfl (hb hby d4_0) rfl k) ?_
  show own_Go p e below _ (s₁.setTop (mkF m 1 #[.val (.ref a0), .val (.int p1)] [(.int p1)]))
  refine own_by (fun _ k => XS.aloadN X0.here hx rfl (hb hby d4_1) rfl rfl k) ?_
  show own_Go p e below _ (s₁.setTop (mkF m 2 #[.val (.ref a0), .val (.int p1)] [(.ref a0), (.int p1)]))
  obtain ⟨T1, X1, e1, st1⟩ := getF X0 hx hZ hown (host := "") (Or.inl (hw _ (List.mem_of_getElem? (i := 19) rfl))) Via.refl e0 P_F_a0_minVersion (g := (mkF m 2 #[.val (.ref a0), .val (.int p1)] [(.ref a0), (.int p1)])) rfl rfl (hb hby d4_2)
  refine own_by st1 ?_
  show own_Go p e below _ (T1.setTop (mkF m 5 #[.val (.ref a0), .val (.int p1)] [(.int f_a0_minVersion), (.int p1)]))
  by_cases c2 : p1 < f_a0_minVersion
  · skip
    refine own_by (fun _ k => XS.icmpYes X1.here hx rfl (pc0 := 5) (pc' := 20) rfl (hb hby d4_5) rfl (tlt c2).1 (by decide) (by decide) k) ?_
    show own_Go p e below _ (T1.setTop (mkF m 20 #[.val (.ref a0), .val (.int p1)] []))
    refine own_by (fun _ k => XS.iconst X1.here hx rfl (hb hby d4_20) k) ?_
    show own_Go p e below _ (T1.setTop (mkF m 21 #[.val (.ref a0), .val (.int p1)] [(.int (0 : Int32))]))
    exact own_retN X1 hx (t := .boolean) Bd.returns (by simp) (hb hby d4_21) hlk e1 ⟨_, rfl, N0, rfl, (Or.inl ⟨c2, rfl⟩)⟩ (by decide) (by decide)
  · skip
    refine own_by (fun _ k => XS.icmpNo X1.here hx rfl (hb hby d4_5) rfl (flt c2).1 k) ?_
    show own_Go p e below _ (T1.setTop (mkF m 8 #[.val (.ref a0), .val (.int p1)] []))
    refine own_by (fun _ k => XS.iloadN X1.here hx rfl (hb hby d4_8) rfl k) ?_
    show own_Go p e below _ (T1.setTop (mkF m 9 #[.val (.ref a0), .val (.int p1)] [(.int p1)]))
    refine own_by (fun _ k => XS.aloadN X1.here hx rfl (hb hby d4_9) rfl rfl k) ?_
    show own_Go p e below _ (T1.setTop (mkF m 10 #[.val (.ref a0), .val (.int p1)] [(.ref a0), (.int p1)]))
    obtain ⟨T3, X3, e3, st3⟩ := getF X1 hx hZ hown (host := "") (Or.inl (hw _ (List.mem_of_getElem? (i := 21) rfl))) Via.refl e1 P_F_a0_maxVersion (g := (mkF m 10 #[.val (.ref a0), .val (.int p1)] [(.ref a0), (.int p1)])) rfl rfl (hb hby d4_10)
    refine own_by st3 ?_
    show own_Go p e below _ (T3.setTop (mkF m 13 #[.val (.ref a0), .val (.int p1)] [(.int f_a0_maxVersion), (.int p1)]))
    by_cases c4 : f_a0_maxVersion < p1
    · skip
      refine own_by (fun _ k => XS.icmpYes X3.here hx rfl (pc0 := 13) (pc' := 20) rfl (hb hby d4_13) rfl (tlt c4).2.2.1 (by decide) (by decide) k) ?_
      show own_Go p e below _ (T3.setTop (mkF m 20 #[.val (.ref a0), .val (.int p1)] []))
      refine own_by (fun _ k => XS.iconst X3.here hx rfl (hb hby d4_20) k) ?_
      show own_Go p e below _ (T3.setTop (mkF m 21 #[.val (.ref a0), .val (.int p1)] [(.int (0 : Int32))]))
      exact own_retN X3 hx (t := .boolean) Bd.returns (by simp) (hb hby d4_21) hlk e3 ⟨_, rfl, N0, rfl, (Or.inr (Or.inl ⟨c2, c4, rfl⟩))⟩ (by decide) (by decide)
    · skip
      refine own_by (fun _ k => XS.icmpNo X3.here hx rfl (hb hby d4_13) rfl (flt c4).2.2.1 k) ?_
      show own_Go p e below _ (T3.setTop (mkF m 16 #[.val (.ref a0), .val (.int p1)] []))
      refine own_by (fun _ k => XS.iconst X3.here hx rfl (hb hby d4_16) k) ?_
      show own_Go p e below _ (T3.setTop (mkF m 17 #[.val (.ref a0), .val (.int p1)] [(.int (1 : Int32))]))
      refine own_by (fun _ k => XS.goto X3.here hx rfl (pc0 := 17) (pc' := 21) rfl (hb hby d4_17) (by decide) (by decide) k) ?_
      show own_Go p e below _ (T3.setTop (mkF m 21 #[.val (.ref a0), .val (.int p1)] [(.int (1 : Int32))]))
      exact own_retN X3 hx (t := .boolean) Bd.returns (by simp) (hb hby d4_21) hlk e3 ⟨_, rfl, N0, rfl, (Or.inr (Or.inr (⟨c2, c4, rfl⟩)))⟩ (by decide) (by decide)
theorem pd_1 : parseMethodDescriptor "(I)Lcom/example/keelstream/keelstream/protocol/ApiKey;" = some ⟨[.int], some (.object "com/example/keelstream/keelstream/protocol/ApiKey")⟩ := by decide +kernel
theorem pd_8 : parseMethodDescriptor "(I)I" = some ⟨[.int], some .int⟩ := by decide +kernel
theorem pd_14 : parseMethodDescriptor "(S)Z" = some ⟨[.short], some .boolean⟩ := by decide +kernel
theorem pn_0 : plainName "com/example/keelstream/keelstream/protocol/ApiKeyIsSupportedPinLaw" = true := by first | (simp [plainName, overriddenIn]; done) | decide +kernel
theorem ef_0 (m : MethodId) (p0 : Int32) (p1 : Int32) (p2 : Int32) : entryFrame m #[(.int p0), (.int p1), (.int p2)] maxLocals = mkF m 0 #[.val (.int p0), .val (.int p1), .val (.int p2), .unset, .unset, .unset, .unset, .unset, .unset, .unset, .unset] [] := by first | (simp [entryFrame, mkF, argsToLocals, Value.category, maxLocals]; done) | rfl
theorem ob_0_1 (p0 : Int32) (p1 : Int32) (p2 : Int32) (v1 : Int32) (o4 : Int32) (o5 : Int32) (o11 : Int32) (o14 : Int32) (v16 : Int32) (v17 : Int32) (z29 : Int32) (z39 : Int32) (o42 : Int32) (hv1 : ((p0 &&& (2147483647 : Int32)) % (12 : Int32)) = v1) (hp9 : ((v1 = (0 : Int32)) ∧ o4 = (0 : Int32) ∧ o5 = (7 : Int32)) ∨ ((¬ (v1 = (0 : Int32))) ∧ (v1 = (1 : Int32)) ∧ o4 = (4 : Int32) ∧ o5 = (11 : Int32)) ∨ ((¬ (v1 = (0 : Int32))) ∧ (¬ (v1 = (1 : Int32))) ∧ (v1 = (2 : Int32)) ∧ o4 = (1 : Int32) ∧ o5 = (2 : Int32)) ∨ ((¬ (v1 = (0 : Int32))) ∧ (¬ (v1 = (1 : Int32))) ∧ (¬ (v1 = (2 : Int32))) ∧ (v1 = (3 : Int32)) ∧ o4 = (0 : Int32) ∧ o5 = (4 : Int32)) ∨ ((¬ (v1 = (0 : Int32))) ∧ (¬ (v1 = (1 : Int32))) ∧ (¬ (v1 = (2 : Int32))) ∧ (¬ (v1 = (3 : Int32))) ∧ (v1 = (4 : Int32)) ∧ o4 = (2 : Int32) ∧ o5 = (7 : Int32)) ∨ ((¬ (v1 = (0 : Int32))) ∧ (¬ (v1 = (1 : Int32))) ∧ (¬ (v1 = (2 : Int32))) ∧ (¬ (v1 = (3 : Int32))) ∧ (¬ (v1 = (4 : Int32))) ∧ (v1 = (5 : Int32)) ∧ o4 = (1 : Int32) ∧ o5 = (5 : Int32)) ∨ ((¬ (v1 = (0 : Int32))) ∧ (¬ (v1 = (1 : Int32))) ∧ (¬ (v1 = (2 : Int32))) ∧ (¬ (v1 = (3 : Int32))) ∧ (¬ (v1 = (4 : Int32))) ∧ (¬ (v1 = (5 : Int32))) ∧ (v1 = (6 : Int32)) ∧ o4 = (0 : Int32) ∧ o5 = (2 : Int32)) ∨ ((¬ (v1 = (0 : Int32))) ∧ (¬ (v1 = (1 : Int32))) ∧ (¬ (v1 = (2 : Int32))) ∧ (¬ (v1 = (3 : Int32))) ∧ (¬ (v1 = (4 : Int32))) ∧ (¬ (v1 = (5 : Int32))) ∧ (¬ (v1 = (6 : Int32))) ∧ (v1 = (7 : Int32)) ∧ o4 = (0 : Int32) ∧ o5 = (5 : Int32)) ∨ ((¬ (v1 = (0 : Int32))) ∧ (¬ (v1 = (1 : Int32))) ∧ (¬ (v1 = (2 : Int32))) ∧ (¬ (v1 = (3 : Int32))) ∧ (¬ (v1 = (4 : Int32))) ∧ (¬ (v1 = (5 : Int32))) ∧ (¬ (v1 = (6 : Int32))) ∧ (¬ (v1 = (7 : Int32))) ∧ (v1 = (8 : Int32)) ∧ o4 = (0 : Int32) ∧ o5 = (3 : Int32)) ∨ ((¬ (v1 = (0 : Int32))) ∧ (¬ (v1 = (1 : Int32))) ∧ (¬ (v1 = (2 : Int32))) ∧ (¬ (v1 = (3 : Int32))) ∧ (¬ (v1 = (4 : Int32))) ∧ (¬ (v1 = (5 : Int32))) ∧ (¬ (v1 = (6 : Int32))) ∧ (¬ (v1 = (7 : Int32))) ∧ (¬ (v1 = (8 : Int32))) ∧ (v1 = (9 : Int32)) ∧ o4 = (0 : Int32) ∧ o5 = (3 : Int32)) ∨ ((¬ (v1 = (0 : Int32))) ∧ (¬ (v1 = (1 : Int32))) ∧ (¬ (v1 = (2 : Int32))) ∧ (¬ (v1 = (3 : Int32))) ∧ (¬ (v1 = (4 : Int32))) ∧ (¬ (v1 = (5 : Int32))) ∧ (¬ (v1 = (6 : Int32))) ∧ (¬ (v1 = (7 : Int32))) ∧ (¬ (v1 = (8 : Int32))) ∧ (¬ (v1 = (9 : Int32))) ∧ (v1 = (10 : Int32)) ∧ o4 = (0 : Int32) ∧ o5 = (3 : Int32)) ∨ ((¬ (v1 = (0 : Int32))) ∧ (¬ (v1 = (1 : Int32))) ∧ (¬ (v1 = (2 : Int32))) ∧ (¬ (v1 = (3 : Int32))) ∧ (¬ (v1 = (4 : Int32))) ∧ (¬ (v1 = (5 : Int32))) ∧ (¬ (v1 = (6 : Int32))) ∧ (¬ (v1 = (7 : Int32))) ∧ (¬ (v1 = (8 : Int32))) ∧ (¬ (v1 = (9 : Int32))) ∧ (¬ (v1 = (10 : Int32))) ∧ o4 = (0 : Int32) ∧ o5 = (3 : Int32))) (hp12 : ((v1 = (1 : Int32)) ∧ o11 = (4 : Int32)) ∨ ((¬ (v1 = (1 : Int32))) ∧ (v1 = (2 : Int32)) ∧ o11 = (1 : Int32)) ∨ ((¬ (v1 = (1 : Int32))) ∧ (¬ (v1 = (2 : Int32))) ∧ (v1 = (4 : Int32)) ∧ o11 = (2 : Int32)) ∨ ((¬ (v1 = (1 : Int32))) ∧ (¬ (v1 = (2 : Int32))) ∧ (¬ (v1 = (4 : Int32))) ∧ (v1 = (5 : Int32)) ∧ o11 = (1 : Int32)) ∨ ((¬ (v1 = (1 : Int32))) ∧ (¬ (v1 = (2 : Int32))) ∧ (¬ (v1 = (4 : Int32))) ∧ (¬ (v1 = (5 : Int32))) ∧ o11 = (0 : Int32))) (hp15 : ((v1 = (0 : Int32)) ∧ o14 = (7 : Int32)) ∨ ((¬ (v1 = (0 : Int32))) ∧ (v1 = (1 : Int32)) ∧ o14 = (11 : Int32)) ∨ ((¬ (v1 = (0 : Int32))) ∧ (¬ (v1 = (1 : Int32))) ∧ (v1 = (2 : Int32)) ∧ o14 = (2 : Int32)) ∨ ((¬ (v1 = (0 : Int32))) ∧ (¬ (v1 = (1 : Int32))) ∧ (¬ (v1 = (2 : Int32))) ∧ (v1 = (3 : Int32)) ∧ o14 = (4 : Int32)) ∨ ((¬ (v1 = (0 : Int32))) ∧ (¬ (v1 = (1 : Int32))) ∧ (¬ (v1 = (2 : Int32))) ∧ (¬ (v1 = (3 : Int32))) ∧ (v1 = (4 : Int32)) ∧ o14 = (7 : Int32)) ∨ ((¬ (v1 = (0 : Int32))) ∧ (¬ (v1 = (1 : Int32))) ∧ (¬ (v1 = (2 : Int32))) ∧ (¬ (v1 = (3 : Int32))) ∧ (¬ (v1 = (4 : Int32))) ∧ (v1 = (5 : Int32)) ∧ o14 = (5 : Int32)) ∨ ((¬ (v1 = (0 : Int32))) ∧ (¬ (v1 = (1 : Int32))) ∧ (¬ (v1 = (2 : Int32))) ∧ (¬ (v1 = (3 : Int32))) ∧ (¬ (v1 = (4 : Int32))) ∧ (¬ (v1 = (5 : Int32))) ∧ (v1 = (6 : Int32)) ∧ o14 = (2 : Int32)) ∨ ((¬ (v1 = (0 : Int32))) ∧ (¬ (v1 = (1 : Int32))) ∧ (¬ (v1 = (2 : Int32))) ∧ (¬ (v1 = (3 : Int32))) ∧ (¬ (v1 = (4 : Int32))) ∧ (¬ (v1 = (5 : Int32))) ∧ (¬ (v1 = (6 : Int32))) ∧ (v1 = (7 : Int32)) ∧ o14 = (5 : Int32)) ∨ ((¬ (v1 = (0 : Int32))) ∧ (¬ (v1 = (1 : Int32))) ∧ (¬ (v1 = (2 : Int32))) ∧ (¬ (v1 = (3 : Int32))) ∧ (¬ (v1 = (4 : Int32))) ∧ (¬ (v1 = (5 : Int32))) ∧ (¬ (v1 = (6 : Int32))) ∧ (¬ (v1 = (7 : Int32))) ∧ o14 = (3 : Int32))) (hv16 : ((p1 &&& (2147483647 : Int32)) % (3 : Int32)) = v16) (hv17 : (((p2 &&& (2147483647 : Int32)) % (5 : Int32)) - (2 : Int32)) = v17) (hj30 : (∃ (v19 : Int32), (v16 = (0 : Int32)) ∧ ((p2.toInt16.toInt32) = v19) ∧ z29 = v19) ∨ (∃ (v21 : Int32), (¬ (v16 = (0 : Int32))) ∧ (v16 = (1 : Int32)) ∧ ((o11 + v17) = v21) ∧ z29 = v21) ∨ (∃ (v22 : Int32), (¬ (v16 = (0 : Int32))) ∧ (¬ (v16 = (1 : Int32))) ∧ ((o14 + v17) = v22) ∧ z29 = v22)) (hj40 : ((z29 < o11) ∧ z39 = (0 : Int32)) ∨ ((¬ (z29 < o11)) ∧ (o14 < z29) ∧ z39 = (0 : Int32)) ∨ ((¬ (z29 < o11)) ∧ (¬ (o14 < z29)) ∧ z39 = (1 : Int32))) (hp43 : (((z29.toInt16.toInt32) < o4) ∧ o42 = (0 : Int32)) ∨ ((¬ ((z29.toInt16.toInt32) < o4)) ∧ (o5 < (z29.toInt16.toInt32)) ∧ o42 = (0 : Int32)) ∨ ((¬ ((z29.toInt16.toInt32) < o4)) ∧ (¬ (o5 < (z29.toInt16.toInt32))) ∧ o42 = (1 : Int32))) (c44 : ¬ (o42 = z39)) : False := by
  obtain ⟨rfl, rfl, k1, k2⟩ := own_keys v1 o4 o5 o11 o14 hp9 hp12 hp15
  have b1 : 0 ≤ o4.toInt ∧ o4.toInt ≤ 11 := by rcases k1 with rfl | rfl | rfl | rfl <;> decide
  have b2 : 0 ≤ o5.toInt ∧ o5.toInt ≤ 11 := by rcases k2 with rfl | rfl | rfl | rfl | rfl | rfl <;> decide
  have e : z29.toInt16.toInt32 = z29 := by
    rcases hj30 with ⟨v, _, h, h'⟩ | ⟨v, _, _, h, h'⟩ | ⟨v, _, _, h, h'⟩
    · exact own_ver0 p2 z29 (h.trans h'.symm)
    · exact own_ver p2 v o4 v17 z29 hv17 b1.1 b1.2 (h'.trans h.symm)
    · exact own_ver p2 v o5 v17 z29 hv17 b2.1 b2.2 (h'.trans h.symm)
  rw [e] at hp43
  clear hp9 hp12 hp15 hj30 hv17 hv16 hv1 k1 k2 e
  grind
def Q0 (Z : State) (f_PRODUCE : Addr) (f_FETCH : Addr) (f_HEARTBEAT : Addr) (f_API_VERSIONS : Addr) (f_FIND_COORDINATOR : Addr) (f_JOIN_GROUP : Addr) (f_METADATA : Addr) (f_SYNC_GROUP : Addr) (f_OFFSET_COMMIT : Addr) (f_OFFSET_FETCH : Addr) (f_LIST_OFFSETS : Addr) (f_LEAVE_GROUP : Addr) (p0 : Int32) (p1 : Int32) (p2 : Int32) (h0 : Heap) (n0 : Nat) (v : Option Value) (h : Heap) (L : List Loc) : Prop := v = some (.int (1 : Int32)) ∧ Fr n0 L
set_option maxRecDepth 65536 in
set_option maxHeartbeats 40000000 in
theorem rm0 (l : Launch) (Z : State) (A0 : Array Value) (hw : ∀ d ∈ tables_1, d.before A0 Z = true) (ws : List Jvm.Cond) (f_PRODUCE : Addr) (f_FETCH : Addr) (f_HEARTBEAT : Addr) (f_API_VERSIONS : Addr) (f_FIND_COORDINATOR : Addr) (f_JOIN_GROUP : Addr) (f_METADATA : Addr) (f_SYNC_GROUP : Addr) (f_OFFSET_COMMIT : Addr) (f_OFFSET_FETCH : Addr) (f_LIST_OFFSETS : Addr) (f_LEAVE_GROUP : Addr) (p0 : Int32) (p1 : Int32) (p2 : Int32) (h0 : Heap) (n0 : Nat) (Z0 : n0 ≤ h0.size) (P_S_PRODUCE : Sta Z h0 "com/example/keelstream/keelstream/protocol/ApiKey" "PRODUCE" "Lcom/example/keelstream/keelstream/protocol/ApiKey;" (.ref f_PRODUCE)) (P_E_PRODUCE : Exa Z h0 f_PRODUCE "com/example/keelstream/keelstream/protocol/ApiKey") (P_F_PRODUCE_minVersion : Fld Z h0 f_PRODUCE "com/example/keelstream/keelstream/protocol/ApiKey" "minVersion" "S" (.int (0 : Int32))) (P_F_PRODUCE_maxVersion : Fld Z h0 f_PRODUCE "com/example/keelstream/keelstream/protocol/ApiKey" "maxVersion" "S" (.int (7 : Int32))) (P_S_FETCH : Sta Z h0 "com/example/keelstream/keelstream/protocol/ApiKey" "FETCH" "Lcom/example/keelstream/keelstream/protocol/ApiKey;" (.ref f_FETCH)) (P_E_FETCH : Exa Z h0 f_FETCH "com/example/keelstream/keelstream/protocol/ApiKey") (P_F_FETCH_minVersion : Fld Z h0 f_FETCH "com/example/keelstream/keelstream/protocol/ApiKey" "minVersion" "S" (.int (4 : Int32))) (P_S_HEARTBEAT : Sta Z h0 "com/example/keelstream/keelstream/protocol/ApiKey" "HEARTBEAT" "Lcom/example/keelstream/keelstream/protocol/ApiKey;" (.ref f_HEARTBEAT)) (P_E_HEARTBEAT : Exa Z h0 f_HEARTBEAT "com/example/keelstream/keelstream/protocol/ApiKey") (P_F_HEARTBEAT_minVersion : Fld Z h0 f_HEARTBEAT "com/example/keelstream/keelstream/protocol/ApiKey" "minVersion" "S" (.int (0 : Int32))) (P_F_HEARTBEAT_maxVersion : Fld Z h0 f_HEARTBEAT "com/example/keelstream/keelstream/protocol/ApiKey" "maxVersion" "S" (.int (3 : Int32))) (P_S_API_VERSIONS : Sta Z h0 "com/example/keelstream/keelstream/protocol/ApiKey" "API_VERSIONS" "Lcom/example/keelstream/keelstream/protocol/ApiKey;" (.ref f_API_VERSIONS)) (P_E_API_VERSIONS : Exa Z h0 f_API_VERSIONS "com/example/keelstream/keelstream/protocol/ApiKey") (P_F_API_VERSIONS_minVersion : Fld Z h0 f_API_VERSIONS "com/example/keelstream/keelstream/protocol/ApiKey" "minVersion" "S" (.int (0 : Int32))) (P_S_FIND_COORDINATOR : Sta Z h0 "com/example/keelstream/keelstream/protocol/ApiKey" "FIND_COORDINATOR" "Lcom/example/keelstream/keelstream/protocol/ApiKey;" (.ref f_FIND_COORDINATOR)) (P_E_FIND_COORDINATOR : Exa Z h0 f_FIND_COORDINATOR "com/example/keelstream/keelstream/protocol/ApiKey") (P_F_FIND_COORDINATOR_minVersion : Fld Z h0 f_FIND_COORDINATOR "com/example/keelstream/keelstream/protocol/ApiKey" "minVersion" "S" (.int (0 : Int32))) (P_S_JOIN_GROUP : Sta Z h0 "com/example/keelstream/keelstream/protocol/ApiKey" "JOIN_GROUP" "Lcom/example/keelstream/keelstream/protocol/ApiKey;" (.ref f_JOIN_GROUP)) (P_E_JOIN_GROUP : Exa Z h0 f_JOIN_GROUP "com/example/keelstream/keelstream/protocol/ApiKey") (P_F_JOIN_GROUP_minVersion : Fld Z h0 f_JOIN_GROUP "com/example/keelstream/keelstream/protocol/ApiKey" "minVersion" "S" (.int (0 : Int32))) (P_F_JOIN_GROUP_maxVersion : Fld Z h0 f_JOIN_GROUP "com/example/keelstream/keelstream/protocol/ApiKey" "maxVersion" "S" (.int (5 : Int32))) (P_S_METADATA : Sta Z h0 "com/example/keelstream/keelstream/protocol/ApiKey" "METADATA" "Lcom/example/keelstream/keelstream/protocol/ApiKey;" (.ref f_METADATA)) (P_E_METADATA : Exa Z h0 f_METADATA "com/example/keelstream/keelstream/protocol/ApiKey") (P_F_METADATA_minVersion : Fld Z h0 f_METADATA "com/example/keelstream/keelstream/protocol/ApiKey" "minVersion" "S" (.int (0 : Int32))) (P_S_SYNC_GROUP : Sta Z h0 "com/example/keelstream/keelstream/protocol/ApiKey" "SYNC_GROUP" "Lcom/example/keelstream/keelstream/protocol/ApiKey;" (.ref f_SYNC_GROUP)) (P_E_SYNC_GROUP : Exa Z h0 f_SYNC_GROUP "com/example/keelstream/keelstream/protocol/ApiKey") (P_F_SYNC_GROUP_minVersion : Fld Z h0 f_SYNC_GROUP "com/example/keelstream/keelstream/protocol/ApiKey" "minVersion" "S" (.int (0 : Int32))) (P_F_SYNC_GROUP_maxVersion : Fld Z h0 f_SYNC_GROUP "com/example/keelstream/keelstream/protocol/ApiKey" "maxVersion" "S" (.int (3 : Int32))) (P_S_OFFSET_COMMIT : Sta Z h0 "com/example/keelstream/keelstream/protocol/ApiKey" "OFFSET_COMMIT" "Lcom/example/keelstream/keelstream/protocol/ApiKey;" (.ref f_OFFSET_COMMIT)) (P_E_OFFSET_COMMIT : Exa Z h0 f_OFFSET_COMMIT "com/example/keelstream/keelstream/protocol/ApiKey") (P_F_OFFSET_COMMIT_minVersion : Fld Z h0 f_OFFSET_COMMIT "com/example/keelstream/keelstream/protocol/ApiKey" "minVersion" "S" (.int (2 : Int32))) (P_F_OFFSET_COMMIT_maxVersion : Fld Z h0 f_OFFSET_COMMIT "com/example/keelstream/keelstream/protocol/ApiKey" "maxVersion" "S" (.int (7 : Int32))) (P_S_OFFSET_FETCH : Sta Z h0 "com/example/keelstream/keelstream/protocol/ApiKey" "OFFSET_FETCH" "Lcom/example/keelstream/keelstream/protocol/ApiKey;" (.ref f_OFFSET_FETCH)) (P_E_OFFSET_FETCH : Exa Z h0 f_OFFSET_FETCH "com/example/keelstream/keelstream/protocol/ApiKey") (P_F_OFFSET_FETCH_minVersion : Fld Z h0 f_OFFSET_FETCH "com/example/keelstream/keelstream/protocol/ApiKey" "minVersion" "S" (.int (1 : Int32))) (P_F_OFFSET_FETCH_maxVersion : Fld Z h0 f_OFFSET_FETCH "com/example/keelstream/keelstream/protocol/ApiKey" "maxVersion" "S" (.int (5 : Int32))) (P_F_FETCH_maxVersion : Fld Z h0 f_FETCH "com/example/keelstream/keelstream/protocol/ApiKey" "maxVersion" "S" (.int (11 : Int32))) (P_S_LIST_OFFSETS : Sta Z h0 "com/example/keelstream/keelstream/protocol/ApiKey" "LIST_OFFSETS" "Lcom/example/keelstream/keelstream/protocol/ApiKey;" (.ref f_LIST_OFFSETS)) (P_E_LIST_OFFSETS : Exa Z h0 f_LIST_OFFSETS "com/example/keelstream/keelstream/protocol/ApiKey") (P_F_LIST_OFFSETS_minVersion : Fld Z h0 f_LIST_OFFSETS "com/example/keelstream/keelstream/protocol/ApiKey" "minVersion" "S" (.int (1 : Int32))) (P_F_API_VERSIONS_maxVersion : Fld Z h0 f_API_VERSIONS "com/example/keelstream/keelstream/protocol/ApiKey" "maxVersion" "S" (.int (3 : Int32))) (P_F_LIST_OFFSETS_maxVersion : Fld Z h0 f_LIST_OFFSETS "com/example/keelstream/keelstream/protocol/ApiKey" "maxVersion" "S" (.int (2 : Int32))) (P_F_METADATA_maxVersion : Fld Z h0 f_METADATA "com/example/keelstream/keelstream/protocol/ApiKey" "maxVersion" "S" (.int (4 : Int32))) (P_S_LEAVE_GROUP : Sta Z h0 "com/example/keelstream/keelstream/protocol/ApiKey" "LEAVE_GROUP" "Lcom/example/keelstream/keelstream/protocol/ApiKey;" (.ref f_LEAVE_GROUP)) (P_E_LEAVE_GROUP : Exa Z h0 f_LEAVE_GROUP "com/example/keelstream/keelstream/protocol/ApiKey") (P_F_LEAVE_GROUP_minVersion : Fld Z h0 f_LEAVE_GROUP "com/example/keelstream/keelstream/protocol/ApiKey" "minVersion" "S" (.int (0 : Int32))) (P_F_FIND_COORDINATOR_maxVersion : Fld Z h0 f_FIND_COORDINATOR "com/example/keelstream/keelstream/protocol/ApiKey" "maxVersion" "S" (.int (2 : Int32))) (P_F_LEAVE_GROUP_maxVersion : Fld Z h0 f_LEAVE_GROUP "com/example/keelstream/keelstream/protocol/ApiKey" "maxVersion" "S" (.int (3 : Int32))) :
    MetFree l x (head1 (Jvm.Cond.code x code maxLocals ret :: ws) room_1) (fun a U => a = #[(.int p0), (.int p1), (.int p2)] ∧ Z.Warmed39 U.vm ∧ U.heap = h0) (fun _ _ _ _ _ => True) (fun _ U o U' => ∃ v L, o = .returned v ∧ Q0 Z f_PRODUCE f_FETCH f_HEARTBEAT f_API_VERSIONS f_FIND_COORDINATOR f_JOIN_GROUP f_METADATA f_SYNC_GROUP f_OFFSET_COMMIT f_OFFSET_FETCH f_LIST_OFFSETS f_LEAVE_GROUP p0 p1 p2 h0 n0 v U'.heap L ∧ FrameEnd U o U' L 0 0) := by
  refine MetFree.of_bodySF (plainFor_of_name pn_0) hisR ?_
  intro p e s m args below meth c s₁ Bd hml0 hP hK
  obtain ⟨rfl, hZ, hh⟩ := hP
  have hx := Bd.exec
  have hby := Bd.bytes
  have hml : c.maxLocals = 11 := hml0
  have hlk : meth.locks = false := Bd.notSynchronized
  have hown : s.vm.findClass "com/example/keelstream/keelstream/protocol/ApiKeyIsSupportedPinLaw" = some m.cls := findClass_of_methodNamed Bd.named
  have hnm := (name_of_methodNamed Bd.named Bd.method).1
  have X0 : Stand p l e room_1 s m #[(.int p0), (.int p1), (.int p2)] below meth c s₁ [] 0 0 := Stand.of_body Bd
  have e0 : s₁.heap = h0 := by rw [← hh, Bd.state]; rfl
  have N0 := Fr.nil n0
  show own_Go p e below (own_Fin s 0 0 (Q0 Z f_PRODUCE f_FETCH f_HEARTBEAT f_API_VERSIONS f_FIND_COORDINATOR f_JOIN_GROUP f_METADATA f_SYNC_GROUP f_OFFSET_COMMIT f_OFFSET_FETCH f_LIST_OFFSETS f_LEAVE_GROUP p0 p1 p2 h0 n0)) _
  refine own_by (fun t k => castTop (ef_0 m p0 p1 p2) k) ?_
  show own_Go p e below _ (s₁.setTop (mkF m 0 #[.val (.int p0), .val (.int p1), .val (.int p2), .unset, .unset, .unset, .unset, .unset, .unset, .unset, .unset] []))
  refine own_by (fun _ k => XS.iloadN X0.here hx rfl (hb hby at_0) rfl k) ?_
  show own_Go p e below _ (s₁.setTop (mkF m 1 #[.val (.int p0), .val (.int p1), .val (.int p2), .unset, .unset, .unset, .unset, .unset, .unset, .unset, .unset] [(.int p0)]))
  refine own_by (fun t k => X0.ldcInt hx hown (mvT hZ (hw _ (List.mem_of_getElem? (i := 0) rfl))) (g := (mkF m 1 #[.val (.int p0), .val (.int p1), .val (.int p2), .unset, .unset, .unset, .unset, .unset, .unset, .unset, .unset] [(.int p0)])) rfl (hb hby at_1) _ k) ?_
  show own_Go p e below _ (s₁.setTop (mkF m 3 #[.val (.int p0), .val (.int p1), .val (.int p2), .unset, .unset, .unset, .unset, .unset, .unset, .unset, .unset] [(.int (2147483647 : Int32)), (.int p0)]))
  refine own_by (fun _ k => XS.iand X0.here hx rfl (hb hby at_3) rfl k) ?_
  show own_Go p e below _ (s₁.setTop (mkF m 4 #[.val (.int p0), .val (.int p1), .val (.int p2), .unset, .unset, .unset, .unset, .unset, .unset, .unset, .unset] [(.int (p0 &&& (2147483647 : Int32)))]))
  refine own_by (fun _ k => XS.bipush X0.here hx rfl (hb hby at_4) k) ?_
  show own_Go p e below _ (s₁.setTop (mkF m 6 #[.val (.int p0), .val (.int p1), .val (.int p2), .unset, .unset, .unset, .unset, .unset, .unset, .unset, .unset] [(.int (12 : Int32)), (.int (p0 &&& (2147483647 : Int32)))]))
  refine own_by (fun _ k => iremM X0 hx rfl (hb hby at_6) rfl (by decide) k) ?_
  show own_Go p e below _ (s₁.setTop (mkF m 7 #[.val (.int p0), .val (.int p1), .val (.int p2), .unset, .unset, .unset, .unset, .unset, .unset, .unset, .unset] [(.int ((p0 &&& (2147483647 : Int32)) % (12 : Int32)))]))
  refine own_by (fun _ k => XS.istoreN X0.here hx rfl (hb hby at_7) rfl (l' := #[.val (.int p0), .val (.int p1), .val (.int p2), .val (.int ((p0 &&& (2147483647 : Int32)) % (12 : Int32))), .unset, .unset, .unset, .unset, .unset, .unset, .unset]) rfl k) ?_
  show own_Go p e below _ (s₁.setTop (mkF m 8 #[.val (.int p0), .val (.int p1), .val (.int p2), .val (.int ((p0 &&& (2147483647 : Int32)) % (12 : Int32))), .unset, .unset, .unset, .unset, .unset, .unset, .unset] []))
  generalize hv1 : ((p0 &&& (2147483647 : Int32)) % (12 : Int32)) = v1
  show own_Go p e below _ (s₁.setTop (mkF m 8 #[.val (.int p0), .val (.int p1), .val (.int p2), .val (.int v1), .unset, .unset, .unset, .unset, .unset, .unset, .unset] []))
  refine own_by (fun _ k => XS.iloadN X0.here hx rfl (hb hby at_8) rfl k) ?_
  show own_Go p e below _ (s₁.setTop (mkF m 9 #[.val (.int p0), .val (.int p1), .val (.int p2), .val (.int v1), .unset, .unset, .unset, .unset, .unset, .unset, .unset] [(.int v1)]))
  obtain ⟨_, _, ⟨T2, L2, k2, n2⟩, -, X2, ⟨Lc2, hQ2, l2, y2, z2⟩, st2⟩ := Jvm.LawKit.callS X0 hx (y := (⟨"com/example/keelstream/keelstream/protocol/ApiKeyIsSupportedPinLaw", "key", "(I)Lcom/example/keelstream/keelstream/protocol/ApiKey;"⟩ : MethodName)) hown (mvT hZ (hw _ (List.mem_of_getElem? (i := 1) rfl))) (mvT hZ (hw _ (List.mem_of_getElem? (i := 2) rfl))) (mvT hZ (hw _ (List.mem_of_getElem? (i := 3) rfl))) (mvT hZ (hw _ (List.mem_of_getElem? (i := 4) rfl))) (by decide) (backOf (W := 0) (rm1 l Z A0 hw [] f_PRODUCE f_FETCH f_HEARTBEAT f_API_VERSIONS f_FIND_COORDINATOR f_JOIN_GROUP f_METADATA f_SYNC_GROUP f_OFFSET_COMMIT f_OFFSET_FETCH f_LIST_OFFSETS f_LEAVE_GROUP v1 h0 n0 Z0 P_S_PRODUCE P_E_PRODUCE P_F_PRODUCE_minVersion P_F_PRODUCE_maxVersion P_S_FETCH P_E_FETCH P_F_FETCH_minVersion P_S_HEARTBEAT P_E_HEARTBEAT P_F_HEARTBEAT_minVersion P_F_HEARTBEAT_maxVersion P_S_API_VERSIONS P_E_API_VERSIONS P_F_API_VERSIONS_minVersion P_S_FIND_COORDINATOR P_E_FIND_COORDINATOR P_F_FIND_COORDINATOR_minVersion P_S_JOIN_GROUP P_E_JOIN_GROUP P_F_JOIN_GROUP_minVersion P_F_JOIN_GROUP_maxVersion P_S_METADATA P_E_METADATA P_F_METADATA_minVersion P_S_SYNC_GROUP P_E_SYNC_GROUP P_F_SYNC_GROUP_minVersion P_F_SYNC_GROUP_maxVersion P_S_OFFSET_COMMIT P_E_OFFSET_COMMIT P_F_OFFSET_COMMIT_minVersion P_F_OFFSET_COMMIT_maxVersion P_S_OFFSET_FETCH P_E_OFFSET_FETCH P_F_OFFSET_FETCH_minVersion P_F_OFFSET_FETCH_maxVersion P_F_FETCH_maxVersion P_S_LIST_OFFSETS P_E_LIST_OFFSETS P_F_LIST_OFFSETS_minVersion P_F_API_VERSIONS_maxVersion P_F_LIST_OFFSETS_maxVersion P_F_METADATA_maxVersion P_S_LEAVE_GROUP P_E_LEAVE_GROUP P_F_LEAVE_GROUP_minVersion P_F_FIND_COORDINATOR_maxVersion P_F_LEAVE_GROUP_maxVersion) hZ (hw _ (List.mem_of_getElem? (i := 4) rfl)) (hw _ (List.mem_of_getElem? (i := 3) rfl)) (by decide) (by decide)) (g := (mkF m 9 #[.val (.int p0), .val (.int p1), .val (.int p2), .val (.int v1), .unset, .unset, .unset, .unset, .unset, .unset, .unset] [(.int v1)])) rfl (by rw [hml]; rfl) (argsL := [(.int v1)]) (rest := []) (lenOf pd_1 rfl) rfl (by show 2 * 0 + _ ≤ _; exact Nat.le_of_eq rfl) (hb hby at_9) (fun _ _ => ⟨rfl, e0, (by decide : 0 + 0 ≤ _), (by decide : 0 + 0 ≤ _)⟩)
  dsimp only [Pt.U, Pt.locs, Pt.cells, Pt.slots] at X2 l2 y2 z2 st2 hQ2
  subst l2 y2 z2
  obtain ⟨b3, o4, o5, rfl, Nq2, eq2, F6, F7, F8, hp9⟩ := hQ2
  have N2 := Fr.app N0 Nq2
  rw [eq2] at F6 F7 F8
  refine own_by st2 ?_
  show own_Go p e below _ (T2.setTop (mkF m 12 #[.val (.int p0), .val (.int p1), .val (.int p2), .val (.int v1), .unset, .unset, .unset, .unset, .unset, .unset, .unset] [(.ref b3)]))
  refine own_by (fun _ k => XS.astore X2.here hx rfl (hb hby at_12) rfl rfl (l' := #[.val (.int p0), .val (.int p1), .val (.int p2), .val (.int v1), .val (.ref b3), .unset, .unset, .unset, .unset, .unset, .unset]) rfl k) ?_
  show own_Go p e below _ (T2.setTop (mkF m 14 #[.val (.int p0), .val (.int p1), .val (.int p2), .val (.int v1), .val (.ref b3), .unset, .unset, .unset, .unset, .unset, .unset] []))
  refine own_by (fun _ k => XS.iloadN X2.here hx rfl (hb hby at_14) rfl k) ?_
  show own_Go p e below _ (T2.setTop (mkF m 15 #[.val (.int p0), .val (.int p1), .val (.int p2), .val (.int v1), .val (.ref b3), .unset, .unset, .unset, .unset, .unset, .unset] [(.int v1)]))
  obtain ⟨_, _, ⟨T10, L10, k10, n10⟩, -, X10, ⟨Lc10, hQ10, l10, y10, z10⟩, st10⟩ := Jvm.LawKit.callS X2 hx (y := (⟨"com/example/keelstream/keelstream/protocol/ApiKeyIsSupportedPinLaw", "lo", "(I)I"⟩ : MethodName)) hown (mvT hZ (hw _ (List.mem_of_getElem? (i := 8) rfl))) (mvT hZ (hw _ (List.mem_of_getElem? (i := 9) rfl))) (mvT hZ (hw _ (List.mem_of_getElem? (i := 3) rfl))) (mvT hZ (hw _ (List.mem_of_getElem? (i := 10) rfl))) (by decide) (backOf (W := 0) (rm2 l Z A0 hw [] v1 h0 n0 Z0 ) hZ (hw _ (List.mem_of_getElem? (i := 10) rfl)) (hw _ (List.mem_of_getElem? (i := 3) rfl)) (by decide) (by decide)) (g := (mkF m 15 #[.val (.int p0), .val (.int p1), .val (.int p2), .val (.int v1), .val (.ref b3), .unset, .unset, .unset, .unset, .unset, .unset] [(.int v1)])) rfl (by rw [hml]; rfl) (argsL := [(.int v1)]) (rest := []) (lenOf pd_8 rfl) rfl (by show 2 * 0 + _ ≤ _; exact Nat.le_of_eq rfl) (hb hby at_15) (fun _ _ => ⟨rfl, eq2, (by decide : 0 + 0 ≤ _), (by decide : 0 + 0 ≤ _)⟩)
  dsimp only [Pt.U, Pt.locs, Pt.cells, Pt.slots] at X10 l10 y10 z10 st10 hQ10
  subst l10 y10 z10
  obtain ⟨o11, rfl, Nq10, eq10, hp12⟩ := hQ10
  have N10 := Fr.app N2 Nq10
  refine own_by st10 ?_
  show own_Go p e below _ (T10.setTop (mkF m 18 #[.val (.int p0), .val (.int p1), .val (.int p2), .val (.int v1), .val (.ref b3), .unset, .unset, .unset, .unset, .unset, .unset] [(.int o11)]))
  refine own_by (fun _ k => XS.istore X10.here hx rfl (hb hby at_18) rfl (l' := #[.val (.int p0), .val (.int p1), .val (.int p2), .val (.int v1), .val (.ref b3), .val (.int o11), .unset, .unset, .unset, .unset, .unset]) rfl k) ?_
  show own_Go p e below _ (T10.setTop (mkF m 20 #[.val (.int p0), .val (.int p1), .val (.int p2), .val (.int v1), .val (.ref b3), .val (.int o11), .unset, .unset, .unset, .unset, .unset] []))
  refine own_by (fun _ k => XS.iloadN X10.here hx rfl (hb hby at_20) rfl k) ?_
  show own_Go p e below _ (T10.setTop (mkF m 21 #[.val (.int p0), .val (.int p1), .val (.int p2), .val (.int v1), .val (.ref b3), .val (.int o11), .unset, .unset, .unset, .unset, .unset] [(.int v1)]))
  obtain ⟨_, _, ⟨T13, L13, k13, n13⟩, -, X13, ⟨Lc13, hQ13, l13, y13, z13⟩, st13⟩ := Jvm.LawKit.callS X10 hx (y := (⟨"com/example/keelstream/keelstream/protocol/ApiKeyIsSupportedPinLaw", "hi", "(I)I"⟩ : MethodName)) hown (mvT hZ (hw _ (List.mem_of_getElem? (i := 11) rfl))) (mvT hZ (hw _ (List.mem_of_getElem? (i := 12) rfl))) (mvT hZ (hw _ (List.mem_of_getElem? (i := 3) rfl))) (mvT hZ (hw _ (List.mem_of_getElem? (i := 13) rfl))) (by decide) (backOf (W := 0) (rm3 l Z A0 hw [] v1 h0 n0 Z0 ) hZ (hw _ (List.mem_of_getElem? (i := 13) rfl)) (hw _ (List.mem_of_getElem? (i := 3) rfl)) (by decide) (by decide)) (g := (mkF m 21 #[.val (.int p0), .val (.int p1), .val (.int p2), .val (.int v1), .val (.ref b3), .val (.int o11), .unset, .unset, .unset, .unset, .unset] [(.int v1)])) rfl (by rw [hml]; rfl) (argsL := [(.int v1)]) (rest := []) (lenOf pd_8 rfl) rfl (by show 2 * 0 + _ ≤ _; exact Nat.le_of_eq rfl) (hb hby at_21) (fun _ _ => ⟨rfl, eq10, (by decide : 0 + 0 ≤ _), (by decide : 0 + 0 ≤ _)⟩)
  dsimp only [Pt.U, Pt.locs, Pt.cells, Pt.slots] at X13 l13 y13 z13 st13 hQ13
  subst l13 y13 z13
  obtain ⟨o14, rfl, Nq13, eq13, hp15⟩ := hQ13
  have N13 := Fr.app N10 Nq13
  refine own_by st13 ?_
  show own_Go p e below _ (T13.setTop (mkF m 24 #[.val (.int p0), .val (.int p1), .val (.int p2), .val (.int v1), .val (.ref b3), .val (.int o11), .unset, .unset, .unset, .unset, .unset] [(.int o14)]))
  refine own_by (fun _ k => XS.istore X13.here hx rfl (hb hby at_24) rfl (l' := #[.val (.int p0), .val (.int p1), .val (.int p2), .val (.int v1), .val (.ref b3), .val (.int o11), .val (.int o14), .unset, .unset, .unset, .unset]) rfl k) ?_
  show own_Go p e below _ (T13.setTop (mkF m 26 #[.val (.int p0), .val (.int p1), .val (.int p2), .val (.int v1), .val (.ref b3), .val (.int o11), .val (.int o14), .unset, .unset, .unset, .unset] []))
  refine own_by (fun _ k => XS.iloadN X13.here hx rfl (hb hby at_26) rfl k) ?_
  show own_Go p e below _ (T13.setTop (mkF m 27 #[.val (.int p0), .val (.int p1), .val (.int p2), .val (.int v1), .val (.ref b3), .val (.int o11), .val (.int o14), .unset, .unset, .unset, .unset] [(.int p1)]))
  refine own_by (fun t k => X13.ldcInt hx hown (mvT hZ (hw _ (List.mem_of_getElem? (i := 0) rfl))) (g := (mkF m 27 #[.val (.int p0), .val (.int p1), .val (.int p2), .val (.int v1), .val (.ref b3), .val (.int o11), .val (.int o14), .unset, .unset, .unset, .unset] [(.int p1)])) rfl (hb hby at_27) _ k) ?_
  show own_Go p e below _ (T13.setTop (mkF m 29 #[.val (.int p0), .val (.int p1), .val (.int p2), .val (.int v1), .val (.ref b3), .val (.int o11), .val (.int o14), .unset, .unset, .unset, .unset] [(.int (2147483647 : Int32)), (.int p1)]))
  refine own_by (fun _ k => XS.iand X13.here hx rfl (hb hby at_29) rfl k) ?_
  show own_Go p e below _ (T13.setTop (mkF m 30 #[.val (.int p0), .val (.int p1), .val (.int p2), .val (.int v1), .val (.ref b3), .val (.int o11), .val (.int o14), .unset, .unset, .unset, .unset] [(.int (p1 &&& (2147483647 : Int32)))]))
  refine own_by (fun _ k => XS.iconst X13.here hx rfl (hb hby at_30) k) ?_
  show own_Go p e below _ (T13.setTop (mkF m 31 #[.val (.int p0), .val (.int p1), .val (.int p2), .val (.int v1), .val (.ref b3), .val (.int o11), .val (.int o14), .unset, .unset, .unset, .unset] [(.int (3 : Int32)), (.int (p1 &&& (2147483647 : Int32)))]))
  refine own_by (fun _ k => iremM X13 hx rfl (hb hby at_31) rfl (by decide) k) ?_
  show own_Go p e below _ (T13.setTop (mkF m 32 #[.val (.int p0), .val (.int p1), .val (.int p2), .val (.int v1), .val (.ref b3), .val (.int o11), .val (.int o14), .unset, .unset, .unset, .unset] [(.int ((p1 &&& (2147483647 : Int32)) % (3 : Int32)))]))
  refine own_by (fun _ k => XS.istore X13.here hx rfl (hb hby at_32) rfl (l' := #[.val (.int p0), .val (.int p1), .val (.int p2), .val (.int v1), .val (.ref b3), .val (.int o11), .val (.int o14), .val (.int ((p1 &&& (2147483647 : Int32)) % (3 : Int32))), .unset, .unset, .unset]) rfl k) ?_
  show own_Go p e below _ (T13.setTop (mkF m 34 #[.val (.int p0), .val (.int p1), .val (.int p2), .val (.int v1), .val (.ref b3), .val (.int o11), .val (.int o14), .val (.int ((p1 &&& (2147483647 : Int32)) % (3 : Int32))), .unset, .unset, .unset] []))
  generalize hv16 : ((p1 &&& (2147483647 : Int32)) % (3 : Int32)) = v16
  show own_Go p e below _ (T13.setTop (mkF m 34 #[.val (.int p0), .val (.int p1), .val (.int p2), .val (.int v1), .val (.ref b3), .val (.int o11), .val (.int o14), .val (.int v16), .unset, .unset, .unset] []))
  refine own_by (fun _ k => XS.iloadN X13.here hx rfl (hb hby at_34) rfl k) ?_
  show own_Go p e below _ (T13.setTop (mkF m 35 #[.val (.int p0), .val (.int p1), .val (.int p2), .val (.int v1), .val (.ref b3), .val (.int o11), .val (.int o14), .val (.int v16), .unset, .unset, .unset] [(.int p2)]))
  refine own_by (fun t k => X13.ldcInt hx hown (mvT hZ (hw _ (List.mem_of_getElem? (i := 0) rfl))) (g := (mkF m 35 #[.val (.int p0), .val (.int p1), .val (.int p2), .val (.int v1), .val (.ref b3), .val (.int o11), .val (.int o14), .val (.int v16), .unset, .unset, .unset] [(.int p2)])) rfl (hb hby at_35) _ k) ?_
  show own_Go p e below _ (T13.setTop (mkF m 37 #[.val (.int p0), .val (.int p1), .val (.int p2), .val (.int v1), .val (.ref b3), .val (.int o11), .val (.int o14), .val (.int v16), .unset, .unset, .unset] [(.int (2147483647 : Int32)), (.int p2)]))
  refine own_by (fun _ k => XS.iand X13.here hx rfl (hb hby at_37) rfl k) ?_
  show own_Go p e below _ (T13.setTop (mkF m 38 #[.val (.int p0), .val (.int p1), .val (.int p2), .val (.int v1), .val (.ref b3), .val (.int o11), .val (.int o14), .val (.int v16), .unset, .unset, .unset] [(.int (p2 &&& (2147483647 : Int32)))]))
  refine own_by (fun _ k => XS.iconst X13.here hx rfl (hb hby at_38) k) ?_
  show own_Go p e below _ (T13.setTop (mkF m 39 #[.val (.int p0), .val (.int p1), .val (.int p2), .val (.int v1), .val (.ref b3), .val (.int o11), .val (.int o14), .val (.int v16), .unset, .unset, .unset] [(.int (5 : Int32)), (.int (p2 &&& (2147483647 : Int32)))]))
  refine own_by (fun _ k => iremM X13 hx rfl (hb hby at_39) rfl (by decide) k) ?_
  show own_Go p e below _ (T13.setTop (mkF m 40 #[.val (.int p0), .val (.int p1), .val (.int p2), .val (.int v1), .val (.ref b3), .val (.int o11), .val (.int o14), .val (.int v16), .unset, .unset, .unset] [(.int ((p2 &&& (2147483647 : Int32)) % (5 : Int32)))]))
  refine own_by (fun _ k => XS.iconst X13.here hx rfl (hb hby at_40) k) ?_
  show own_Go p e below _ (T13.setTop (mkF m 41 #[.val (.int p0), .val (.int p1), .val (.int p2), .val (.int v1), .val (.ref b3), .val (.int o11), .val (.int o14), .val (.int v16), .unset, .unset, .unset] [(.int (2 : Int32)), (.int ((p2 &&& (2147483647 : Int32)) % (5 : Int32)))]))
  refine own_by (fun _ k => XS.isub X13.here hx rfl (hb hby at_41) rfl k) ?_
  show own_Go p e below _ (T13.setTop (mkF m 42 #[.val (.int p0), .val (.int p1), .val (.int p2), .val (.int v1), .val (.ref b3), .val (.int o11), .val (.int o14), .val (.int v16), .unset, .unset, .unset] [(.int (((p2 &&& (2147483647 : Int32)) % (5 : Int32)) - (2 : Int32)))]))
  refine own_by (fun _ k => XS.istore X13.here hx rfl (hb hby at_42) rfl (l' := #[.val (.int p0), .val (.int p1), .val (.int p2), .val (.int v1), .val (.ref b3), .val (.int o11), .val (.int o14), .val (.int v16), .val (.int (((p2 &&& (2147483647 : Int32)) % (5 : Int32)) - (2 : Int32))), .unset, .unset]) rfl k) ?_
  show own_Go p e below _ (T13.setTop (mkF m 44 #[.val (.int p0), .val (.int p1), .val (.int p2), .val (.int v1), .val (.ref b3), .val (.int o11), .val (.int o14), .val (.int v16), .val (.int (((p2 &&& (2147483647 : Int32)) % (5 : Int32)) - (2 : Int32))), .unset, .unset] []))
  generalize hv17 : (((p2 &&& (2147483647 : Int32)) % (5 : Int32)) - (2 : Int32)) = v17
  show own_Go p e below _ (T13.setTop (mkF m 44 #[.val (.int p0), .val (.int p1), .val (.int p2), .val (.int v1), .val (.ref b3), .val (.int o11), .val (.int o14), .val (.int v16), .val (.int v17), .unset, .unset] []))
  refine own_by (fun _ k => XS.iload X13.here hx rfl (hb hby at_44) rfl k) ?_
  show own_Go p e below _ (T13.setTop (mkF m 46 #[.val (.int p0), .val (.int p1), .val (.int p2), .val (.int v1), .val (.ref b3), .val (.int o11), .val (.int o14), .val (.int v16), .val (.int v17), .unset, .unset] [(.int v16)]))
  have J23 : ∀ (T24 : State) (L25 : List Loc) (z29 : Int32), Stand p l e room_1 s m #[(.int p0), (.int p1), (.int p2)] below meth c T24 L25 0 0 → T24.heap = h0 → Fr n0 L25 → ((∃ (v19 : Int32), (v16 = (0 : Int32)) ∧ ((p2.toInt16.toInt32) = v19) ∧ z29 = v19) ∨ (∃ (v21 : Int32), (¬ (v16 = (0 : Int32))) ∧ (v16 = (1 : Int32)) ∧ ((o11 + v17) = v21) ∧ z29 = v21) ∨ (∃ (v22 : Int32), (¬ (v16 = (0 : Int32))) ∧ (¬ (v16 = (1 : Int32))) ∧ ((o14 + v17) = v22) ∧ z29 = v22)) → own_Go p e below (own_Fin s 0 0 (Q0 Z f_PRODUCE f_FETCH f_HEARTBEAT f_API_VERSIONS f_FIND_COORDINATOR f_JOIN_GROUP f_METADATA f_SYNC_GROUP f_OFFSET_COMMIT f_OFFSET_FETCH f_LIST_OFFSETS f_LEAVE_GROUP p0 p1 p2 h0 n0)) (T24.setTop (mkF m 79 #[.val (.int p0), .val (.int p1), .val (.int p2), .val (.int v1), .val (.ref b3), .val (.int o11), .val (.int o14), .val (.int v16), .val (.int v17), .val (.int z29), .unset] [])) := by
    intro T24 L25 z29 X26 e27 N28 hj30
    refine own_by (fun _ k => XS.iload X26.here hx rfl (hb hby at_79) rfl k) ?_
    show own_Go p e below _ (T24.setTop (mkF m 81 #[.val (.int p0), .val (.int p1), .val (.int p2), .val (.int v1), .val (.ref b3), .val (.int o11), .val (.int o14), .val (.int v16), .val (.int v17), .val (.int z29), .unset] [(.int z29)]))
    refine own_by (fun _ k => XS.iload X26.here hx rfl (hb hby at_81) rfl k) ?_
    show own_Go p e below _ (T24.setTop (mkF m 83 #[.val (.int p0), .val (.int p1), .val (.int p2), .val (.int v1), .val (.ref b3), .val (.int o11), .val (.int o14), .val (.int v16), .val (.int v17), .val (.int z29), .unset] [(.int o11), (.int z29)]))
    have J33 : ∀ (T34 : State) (L35 : List Loc) (z39 : Int32), Stand p l e room_1 s m #[(.int p0), (.int p1), (.int p2)] below meth c T34 L35 0 0 → T34.heap = h0 → Fr n0 L35 → (((z29 < o11) ∧ z39 = (0 : Int32)) ∨ ((¬ (z29 < o11)) ∧ (o14 < z29) ∧ z39 = (0 : Int32)) ∨ ((¬ (z29 < o11)) ∧ (¬ (o14 < z29)) ∧ z39 = (1 : Int32))) → own_Go p e below (own_Fin s 0 0 (Q0 Z f_PRODUCE f_FETCH f_HEARTBEAT f_API_VERSIONS f_FIND_COORDINATOR f_JOIN_GROUP f_METADATA f_SYNC_GROUP f_OFFSET_COMMIT f_OFFSET_FETCH f_LIST_OFFSETS f_LEAVE_GROUP p0 p1 p2 h0 n0)) (T34.setTop (mkF m 98 #[.val (.int p0), .val (.int p1), .val (.int p2), .val (.int v1), .val (.ref b3), .val (.int o11), .val (.int o14), .val (.int v16), .val (.int v17), .val (.int z29), .unset] [(.int z39)])) := by
      intro T34 L35 z39 X36 e37 N38 hj40
      refine own_by (fun _ k => XS.istore X36.here hx rfl (hb hby at_98) rfl (l' := #[.val (.int p0), .val (.int p1), .val (.int p2), .val (.int v1), .val (.ref b3), .val (.int o11), .val (.int o14), .val (.int v16), .val (.int v17), .val (.int z29), .val (.int z39)]) rfl k) ?_
      show own_Go p e below _ (T34.setTop (mkF m 100 #[.val (.int p0), .val (.int p1), .val (.int p2), .val (.int v1), .val (.ref b3), .val (.int o11), .val (.int o14), .val (.int v16), .val (.int v17), .val (.int z29), .val (.int z39)] []))
      refine own_by (fun _ k => XS.aload X36.here hx rfl (hb hby at_100) rfl rfl k) ?_
      show own_Go p e below _ (T34.setTop (mkF m 102 #[.val (.int p0), .val (.int p1), .val (.int p2), .val (.int v1), .val (.ref b3), .val (.int o11), .val (.int o14), .val (.int v16), .val (.int v17), .val (.int z29), .val (.int z39)] [(.ref b3)]))
      refine own_by (fun _ k => XS.iload X36.here hx rfl (hb hby at_102) rfl k) ?_
      show own_Go p e below _ (T34.setTop (mkF m 104 #[.val (.int p0), .val (.int p1), .val (.int p2), .val (.int v1), .val (.ref b3), .val (.int o11), .val (.int o14), .val (.int v16), .val (.int v17), .val (.int z29), .val (.int z39)] [(.int z29), (.ref b3)]))
      refine own_by (fun _ k => XS.i2s X36.here hx rfl (hb hby at_104) rfl k) ?_
      show own_Go p e below _ (T34.setTop (mkF m 105 #[.val (.int p0), .val (.int p1), .val (.int p2), .val (.int v1), .val (.ref b3), .val (.int o11), .val (.int o14), .val (.int v16), .val (.int v17), .val (.int z29), .val (.int z39)] [(.int (z29.toInt16.toInt32)), (.ref b3)]))
      obtain ⟨cq41, kq41, q41a, q41b, q41c⟩ := isOf hZ e37 F6
      obtain ⟨_, _, ⟨T41, L41, k41, n41⟩, -, X41, ⟨Lc41, hQ41, l41, y41, z41⟩, st41⟩ := X36.virtualBack hx (y := (⟨"com/example/keelstream/keelstream/protocol/ApiKey", "isSupported", "(S)Z"⟩ : MethodName)) (z := (⟨"com/example/keelstream/keelstream/protocol/ApiKey", "isSupported", "(S)Z"⟩ : MethodName)) hown (mvT hZ (hw _ (List.mem_of_getElem? (i := 14) rfl))) (mvT hZ (hw _ (List.mem_of_getElem? (i := 15) rfl))) (notFace_of_selects (args := #[]) (mvT hZ (hw _ (List.mem_of_getElem? (i := 17) rfl)))) (mvT hZ (hw _ (List.mem_of_getElem? (i := 17) rfl))) (mvT hZ (hw _ (List.mem_of_getElem? (i := 16) rfl))) (by decide) (backOf (W := 0) (rm4 l Z A0 hw [] b3 (z29.toInt16.toInt32) o4 o5 h0 n0 Z0 F7 F8) hZ (hw _ (List.mem_of_getElem? (i := 18) rfl)) (hw _ (List.mem_of_getElem? (i := 6) rfl)) (by decide) (by decide)) q41a q41c (g := (mkF m 105 #[.val (.int p0), .val (.int p1), .val (.int p2), .val (.int v1), .val (.ref b3), .val (.int o11), .val (.int o14), .val (.int v16), .val (.int v17), .val (.int z29), .val (.int z39)] [(.int (z29.toInt16.toInt32)), (.ref b3)])) rfl (by rw [hml]; rfl) (Steps.refl _) (argsL := [(.int (z29.toInt16.toInt32))]) (rest := []) (lenOf pd_14 rfl) rfl (by show 2 * 0 + _ ≤ _; exact Nat.le_of_eq rfl) (hb hby at_105) (fun _ _ => ⟨rfl, e37, (by decide : 0 + 0 ≤ _), (by decide : 0 + 0 ≤ _)⟩)
      dsimp only [Pt.U, Pt.locs, Pt.cells, Pt.slots] at X41 l41 y41 z41 st41 hQ41
      subst l41 y41 z41
      obtain ⟨o42, rfl, Nq41, eq41, hp43⟩ := hQ41
      have N41 := Fr.app N38 Nq41
      refine own_by (fun _ k => st41.trans k) ?_
      show own_Go p e below _ (T41.setTop (mkF m 108 #[.val (.int p0), .val (.int p1), .val (.int p2), .val (.int v1), .val (.ref b3), .val (.int o11), .val (.int o14), .val (.int v16), .val (.int v17), .val (.int z29), .val (.int z39)] [(.int o42)]))
      refine own_by (fun _ k => XS.iload X41.here hx rfl (hb hby at_108) rfl k) ?_
      show own_Go p e below _ (T41.setTop (mkF m 110 #[.val (.int p0), .val (.int p1), .val (.int p2), .val (.int v1), .val (.ref b3), .val (.int o11), .val (.int o14), .val (.int v16), .val (.int v17), .val (.int z29), .val (.int z39)] [(.int z39), (.int o42)]))
      by_cases c44 : o42 = z39
      · skip
        refine own_by (fun _ k => XS.icmpNo X41.here hx rfl (hb hby at_110) rfl (teq c44).2 k) ?_
        show own_Go p e below _ (T41.setTop (mkF m 113 #[.val (.int p0), .val (.int p1), .val (.int p2), .val (.int v1), .val (.ref b3), .val (.int o11), .val (.int o14), .val (.int v16), .val (.int v17), .val (.int z29), .val (.int z39)] []))
        refine own_by (fun _ k => XS.iconst X41.here hx rfl (hb hby at_113) k) ?_
        show own_Go p e below _ (T41.setTop (mkF m 114 #[.val (.int p0), .val (.int p1), .val (.int p2), .val (.int v1), .val (.ref b3), .val (.int o11), .val (.int o14), .val (.int v16), .val (.int v17), .val (.int z29), .val (.int z39)] [(.int (1 : Int32))]))
        refine own_by (fun _ k => XS.goto X41.here hx rfl (pc0 := 114) (pc' := 118) rfl (hb hby at_114) (by decide) (by decide) k) ?_
        show own_Go p e below _ (T41.setTop (mkF m 118 #[.val (.int p0), .val (.int p1), .val (.int p2), .val (.int v1), .val (.ref b3), .val (.int o11), .val (.int o14), .val (.int v16), .val (.int v17), .val (.int z29), .val (.int z39)] [(.int (1 : Int32))]))
        exact own_retN X41 hx (t := .boolean) Bd.returns (by simp) (hb hby at_118) hlk eq41 ⟨rfl, N41⟩ (by decide) (by decide)
      · skip
        refine own_by (fun _ k => XS.icmpYes X41.here hx rfl (pc0 := 110) (pc' := 117) rfl (hb hby at_110) rfl (feq c44).2 (by decide) (by decide) k) ?_
        show own_Go p e below _ (T41.setTop (mkF m 117 #[.val (.int p0), .val (.int p1), .val (.int p2), .val (.int v1), .val (.ref b3), .val (.int o11), .val (.int o14), .val (.int v16), .val (.int v17), .val (.int z29), .val (.int z39)] []))
        refine own_by (fun _ k => XS.iconst X41.here hx rfl (hb hby at_117) k) ?_
        show own_Go p e below _ (T41.setTop (mkF m 118 #[.val (.int p0), .val (.int p1), .val (.int p2), .val (.int v1), .val (.ref b3), .val (.int o11), .val (.int o14), .val (.int v16), .val (.int v17), .val (.int z29), .val (.int z39)] [(.int (0 : Int32))]))
        exact own_retN X41 hx (t := .boolean) Bd.returns (by simp) (hb hby at_118) hlk eq41 ⟨((ob_0_1 p0 p1 p2 v1 o4 o5 o11 o14 v16 v17 z29 z39 o42 hv1 hp9 hp12 hp15 hv16 hv17 hj30 hj40 hp43 c44)).elim, N41⟩ (by decide) (by decide)
    by_cases c31 : z29 < o11
    · skip
      refine own_by (fun _ k => XS.icmpYes X26.here hx rfl (pc0 := 83) (pc' := 97) rfl (hb hby at_83) rfl (tlt c31).1 (by decide) (by decide) k) ?_
      show own_Go p e below _ (T24.setTop (mkF m 97 #[.val (.int p0), .val (.int p1), .val (.int p2), .val (.int v1), .val (.ref b3), .val (.int o11), .val (.int o14), .val (.int v16), .val (.int v17), .val (.int z29), .unset] []))
      refine own_by (fun _ k => XS.iconst X26.here hx rfl (hb hby at_97) k) ?_
      show own_Go p e below _ (T24.setTop (mkF m 98 #[.val (.int p0), .val (.int p1), .val (.int p2), .val (.int v1), .val (.ref b3), .val (.int o11), .val (.int o14), .val (.int v16), .val (.int v17), .val (.int z29), .unset] [(.int (0 : Int32))]))
      exact J33 _ _ (0 : Int32) X26 e27 N28 (Or.inl ⟨c31, rfl⟩)
    · skip
      refine own_by (fun _ k => XS.icmpNo X26.here hx rfl (hb hby at_83) rfl (flt c31).1 k) ?_
      show own_Go p e below _ (T24.setTop (mkF m 86 #[.val (.int p0), .val (.int p1), .val (.int p2), .val (.int v1), .val (.ref b3), .val (.int o11), .val (.int o14), .val (.int v16), .val (.int v17), .val (.int z29), .unset] []))
      refine own_by (fun _ k => XS.iload X26.here hx rfl (hb hby at_86) rfl k) ?_
      show own_Go p e below _ (T24.setTop (mkF m 88 #[.val (.int p0), .val (.int p1), .val (.int p2), .val (.int v1), .val (.ref b3), .val (.int o11), .val (.int o14), .val (.int v16), .val (.int v17), .val (.int z29), .unset] [(.int z29)]))
      refine own_by (fun _ k => XS.iload X26.here hx rfl (hb hby at_88) rfl k) ?_
      show own_Go p e below _ (T24.setTop (mkF m 90 #[.val (.int p0), .val (.int p1), .val (.int p2), .val (.int v1), .val (.ref b3), .val (.int o11), .val (.int o14), .val (.int v16), .val (.int v17), .val (.int z29), .unset] [(.int o14), (.int z29)]))
      by_cases c32 : o14 < z29
      · skip
        refine own_by (fun _ k => XS.icmpYes X26.here hx rfl (pc0 := 90) (pc' := 97) rfl (hb hby at_90) rfl (tlt c32).2.2.1 (by decide) (by decide) k) ?_
        show own_Go p e below _ (T24.setTop (mkF m 97 #[.val (.int p0), .val (.int p1), .val (.int p2), .val (.int v1), .val (.ref b3), .val (.int o11), .val (.int o14), .val (.int v16), .val (.int v17), .val (.int z29), .unset] []))
        refine own_by (fun _ k => XS.iconst X26.here hx rfl (hb hby at_97) k) ?_
        show own_Go p e below _ (T24.setTop (mkF m 98 #[.val (.int p0), .val (.int p1), .val (.int p2), .val (.int v1), .val (.ref b3), .val (.int o11), .val (.int o14), .val (.int v16), .val (.int v17), .val (.int z29), .unset] [(.int (0 : Int32))]))
        exact J33 _ _ (0 : Int32) X26 e27 N28 (Or.inr (Or.inl ⟨c31, c32, rfl⟩))
      · skip
        refine own_by (fun _ k => XS.icmpNo X26.here hx rfl (hb hby at_90) rfl (flt c32).2.2.1 k) ?_
        show own_Go p e below _ (T24.setTop (mkF m 93 #[.val (.int p0), .val (.int p1), .val (.int p2), .val (.int v1), .val (.ref b3), .val (.int o11), .val (.int o14), .val (.int v16), .val (.int v17), .val (.int z29), .unset] []))
        refine own_by (fun _ k => XS.iconst X26.here hx rfl (hb hby at_93) k) ?_
        show own_Go p e below _ (T24.setTop (mkF m 94 #[.val (.int p0), .val (.int p1), .val (.int p2), .val (.int v1), .val (.ref b3), .val (.int o11), .val (.int o14), .val (.int v16), .val (.int v17), .val (.int z29), .unset] [(.int (1 : Int32))]))
        refine own_by (fun _ k => XS.goto X26.here hx rfl (pc0 := 94) (pc' := 98) rfl (hb hby at_94) (by decide) (by decide) k) ?_
        show own_Go p e below _ (T24.setTop (mkF m 98 #[.val (.int p0), .val (.int p1), .val (.int p2), .val (.int v1), .val (.ref b3), .val (.int o11), .val (.int o14), .val (.int v16), .val (.int v17), .val (.int z29), .unset] [(.int (1 : Int32))]))
        exact J33 _ _ (1 : Int32) X26 e27 N28 (Or.inr (Or.inr (⟨c31, c32, rfl⟩)))
  by_cases c18 : v16 = (0 : Int32)
  · skip
    refine own_by (fun _ k => XS.ifNo X13.here hx rfl (hb hby at_46) rfl ((if0 _ _).trans (teq c18).2) k) ?_
    show own_Go p e below _ (T13.setTop (mkF m 49 #[.val (.int p0), .val (.int p1), .val (.int p2), .val (.int v1), .val (.ref b3), .val (.int o11), .val (.int o14), .val (.int v16), .val (.int v17), .unset, .unset] []))
    refine own_by (fun _ k => XS.iloadN X13.here hx rfl (hb hby at_49) rfl k) ?_
    show own_Go p e below _ (T13.setTop (mkF m 50 #[.val (.int p0), .val (.int p1), .val (.int p2), .val (.int v1), .val (.ref b3), .val (.int o11), .val (.int o14), .val (.int v16), .val (.int v17), .unset, .unset] [(.int p2)]))
    refine own_by (fun _ k => XS.i2s X13.here hx rfl (hb hby at_50) rfl k) ?_
    show own_Go p e below _ (T13.setTop (mkF m 51 #[.val (.int p0), .val (.int p1), .val (.int p2), .val (.int v1), .val (.ref b3), .val (.int o11), .val (.int o14), .val (.int v16), .val (.int v17), .unset, .unset] [(.int (p2.toInt16.toInt32))]))
    refine own_by (fun _ k => XS.istore X13.here hx rfl (hb hby at_51) rfl (l' := #[.val (.int p0), .val (.int p1), .val (.int p2), .val (.int v1), .val (.ref b3), .val (.int o11), .val (.int o14), .val (.int v16), .val (.int v17), .val (.int (p2.toInt16.toInt32)), .unset]) rfl k) ?_
    show own_Go p e below _ (T13.setTop (mkF m 53 #[.val (.int p0), .val (.int p1), .val (.int p2), .val (.int v1), .val (.ref b3), .val (.int o11), .val (.int o14), .val (.int v16), .val (.int v17), .val (.int (p2.toInt16.toInt32)), .unset] []))
    generalize hv19 : (p2.toInt16.toInt32) = v19
    show own_Go p e below _ (T13.setTop (mkF m 53 #[.val (.int p0), .val (.int p1), .val (.int p2), .val (.int v1), .val (.ref b3), .val (.int o11), .val (.int o14), .val (.int v16), .val (.int v17), .val (.int v19), .unset] []))
    refine own_by (fun _ k => XS.goto X13.here hx rfl (pc0 := 53) (pc' := 79) rfl (hb hby at_53) (by decide) (by decide) k) ?_
    show own_Go p e below _ (T13.setTop (mkF m 79 #[.val (.int p0), .val (.int p1), .val (.int p2), .val (.int v1), .val (.ref b3), .val (.int o11), .val (.int o14), .val (.int v16), .val (.int v17), .val (.int v19), .unset] []))
    exact J23 _ _ v19 X13 eq13 N13 (Or.inl ⟨v19, c18, hv19, rfl⟩)
  · skip
    refine own_by (fun _ k => XS.ifYes X13.here hx rfl (pc0 := 46) (pc' := 56) rfl (hb hby at_46) rfl ((if0 _ _).trans (feq c18).2) (by decide) (by decide) k) ?_
    show own_Go p e below _ (T13.setTop (mkF m 56 #[.val (.int p0), .val (.int p1), .val (.int p2), .val (.int v1), .val (.ref b3), .val (.int o11), .val (.int o14), .val (.int v16), .val (.int v17), .unset, .unset] []))
    refine own_by (fun _ k => XS.iload X13.here hx rfl (hb hby at_56) rfl k) ?_
    show own_Go p e below _ (T13.setTop (mkF m 58 #[.val (.int p0), .val (.int p1), .val (.int p2), .val (.int v1), .val (.ref b3), .val (.int o11), .val (.int o14), .val (.int v16), .val (.int v17), .unset, .unset] [(.int v16)]))
    refine own_by (fun _ k => XS.iconst X13.here hx rfl (hb hby at_58) k) ?_
    show own_Go p e below _ (T13.setTop (mkF m 59 #[.val (.int p0), .val (.int p1), .val (.int p2), .val (.int v1), .val (.ref b3), .val (.int o11), .val (.int o14), .val (.int v16), .val (.int v17), .unset, .unset] [(.int (1 : Int32)), (.int v16)]))
    by_cases c20 : v16 = (1 : Int32)
    · skip
      refine own_by (fun _ k => XS.icmpNo X13.here hx rfl (hb hby at_59) rfl (teq c20).2 k) ?_
      show own_Go p e below _ (T13.setTop (mkF m 62 #[.val (.int p0), .val (.int p1), .val (.int p2), .val (.int v1), .val (.ref b3), .val (.int o11), .val (.int o14), .val (.int v16), .val (.int v17), .unset, .unset] []))
      refine own_by (fun _ k => XS.iload X13.here hx rfl (hb hby at_62) rfl k) ?_
      show own_Go p e below _ (T13.setTop (mkF m 64 #[.val (.int p0), .val (.int p1), .val (.int p2), .val (.int v1), .val (.ref b3), .val (.int o11), .val (.int o14), .val (.int v16), .val (.int v17), .unset, .unset] [(.int o11)]))
      refine own_by (fun _ k => XS.iload X13.here hx rfl (hb hby at_64) rfl k) ?_
      show own_Go p e below _ (T13.setTop (mkF m 66 #[.val (.int p0), .val (.int p1), .val (.int p2), .val (.int v1), .val (.ref b3), .val (.int o11), .val (.int o14), .val (.int v16), .val (.int v17), .unset, .unset] [(.int v17), (.int o11)]))
      refine own_by (fun _ k => XS.iadd X13.here hx rfl (hb hby at_66) rfl k) ?_
      show own_Go p e below _ (T13.setTop (mkF m 67 #[.val (.int p0), .val (.int p1), .val (.int p2), .val (.int v1), .val (.ref b3), .val (.int o11), .val (.int o14), .val (.int v16), .val (.int v17), .unset, .unset] [(.int (o11 + v17))]))
      refine own_by (fun _ k => XS.istore X13.here hx rfl (hb hby at_67) rfl (l' := #[.val (.int p0), .val (.int p1), .val (.int p2), .val (.int v1), .val (.ref b3), .val (.int o11), .val (.int o14), .val (.int v16), .val (.int v17), .val (.int (o11 + v17)), .unset]) rfl k) ?_
      show own_Go p e below _ (T13.setTop (mkF m 69 #[.val (.int p0), .val (.int p1), .val (.int p2), .val (.int v1), .val (.ref b3), .val (.int o11), .val (.int o14), .val (.int v16), .val (.int v17), .val (.int (o11 + v17)), .unset] []))
      generalize hv21 : (o11 + v17) = v21
      show own_Go p e below _ (T13.setTop (mkF m 69 #[.val (.int p0), .val (.int p1), .val (.int p2), .val (.int v1), .val (.ref b3), .val (.int o11), .val (.int o14), .val (.int v16), .val (.int v17), .val (.int v21), .unset] []))
      refine own_by (fun _ k => XS.goto X13.here hx rfl (pc0 := 69) (pc' := 79) rfl (hb hby at_69) (by decide) (by decide) k) ?_
      show own_Go p e below _ (T13.setTop (mkF m 79 #[.val (.int p0), .val (.int p1), .val (.int p2), .val (.int v1), .val (.ref b3), .val (.int o11), .val (.int o14), .val (.int v16), .val (.int v17), .val (.int v21), .unset] []))
      exact J23 _ _ v21 X13 eq13 N13 (Or.inr (Or.inl ⟨v21, c18, c20, hv21, rfl⟩))
    · skip
      refine own_by (fun _ k => XS.icmpYes X13.here hx rfl (pc0 := 59) (pc' := 72) rfl (hb hby at_59) rfl (feq c20).2 (by decide) (by decide) k) ?_
      show own_Go p e below _ (T13.setTop (mkF m 72 #[.val (.int p0), .val (.int p1), .val (.int p2), .val (.int v1), .val (.ref b3), .val (.int o11), .val (.int o14), .val (.int v16), .val (.int v17), .unset, .unset] []))
      refine own_by (fun _ k => XS.iload X13.here hx rfl (hb hby at_72) rfl k) ?_
      show own_Go p e below _ (T13.setTop (mkF m 74 #[.val (.int p0), .val (.int p1), .val (.int p2), .val (.int v1), .val (.ref b3), .val (.int o11), .val (.int o14), .val (.int v16), .val (.int v17), .unset, .unset] [(.int o14)]))
      refine own_by (fun _ k => XS.iload X13.here hx rfl (hb hby at_74) rfl k) ?_
      show own_Go p e below _ (T13.setTop (mkF m 76 #[.val (.int p0), .val (.int p1), .val (.int p2), .val (.int v1), .val (.ref b3), .val (.int o11), .val (.int o14), .val (.int v16), .val (.int v17), .unset, .unset] [(.int v17), (.int o14)]))
      refine own_by (fun _ k => XS.iadd X13.here hx rfl (hb hby at_76) rfl k) ?_
      show own_Go p e below _ (T13.setTop (mkF m 77 #[.val (.int p0), .val (.int p1), .val (.int p2), .val (.int v1), .val (.ref b3), .val (.int o11), .val (.int o14), .val (.int v16), .val (.int v17), .unset, .unset] [(.int (o14 + v17))]))
      refine own_by (fun _ k => XS.istore X13.here hx rfl (hb hby at_77) rfl (l' := #[.val (.int p0), .val (.int p1), .val (.int p2), .val (.int v1), .val (.ref b3), .val (.int o11), .val (.int o14), .val (.int v16), .val (.int v17), .val (.int (o14 + v17)), .unset]) rfl k) ?_
      show own_Go p e below _ (T13.setTop (mkF m 79 #[.val (.int p0), .val (.int p1), .val (.int p2), .val (.int v1), .val (.ref b3), .val (.int o11), .val (.int o14), .val (.int v16), .val (.int v17), .val (.int (o14 + v17)), .unset] []))
      generalize hv22 : (o14 + v17) = v22
      show own_Go p e below _ (T13.setTop (mkF m 79 #[.val (.int p0), .val (.int p1), .val (.int p2), .val (.int v1), .val (.ref b3), .val (.int o11), .val (.int o14), .val (.int v16), .val (.int v17), .val (.int v22), .unset] []))
      exact J23 _ _ v22 X13 eq13 N13 (Or.inr (Or.inr (⟨v22, c18, c20, hv22, rfl⟩)))
set_option maxRecDepth 65536 in
set_option maxHeartbeats 40000000 in
theorem comes_1 {Post : Tables → Env → Array Value → State → Outcome → State → Prop} (hpost : ∀ tb e args s v u, (limb_1_1.after args s (.returned v) u = true ∧ limb_1_2.after args s (.returned v) u = true ∧ True) → FrameEnd s (.returned v) u (Jvm.fieldLocs frame_1_writes args s ++ Jvm.arrayLocs frame_1_arrays args s ++ Jvm.staticLocs frame_1_statics s) 0 0 → Post tb e args s (.returned v) u) :
    ArmFor flags0 classFile x code maxLocals ret World_1 tables_1 room_1 Calls_1 rest_1 Pre_1 Post := by
  intro l hfl _ _ p e ha hc hk s m args below hf hA hF happ hP
  obtain ⟨hcalls, hrest, hpre⟩ := hP
  obtain ⟨-, -, -, hnamed, -, -, -, hat⟩ := (Spec.applies_iff hf).mp happ
  obtain ⟨hg, hn⟩ := and_e (Cond.before_iff.mp (show (Jvm.Cond.and given_1 narrow_1).before args s = true from hpre))
  obtain ⟨g0, r0⟩ := and_e hg
  obtain ⟨ga0, r1⟩ := and_e r0
  obtain ⟨ga1, r2⟩ := and_e r1
  obtain ⟨w0, w1, w2, rfl⟩ : ∃ w0 w1 w2 : Value, args = #[w0, w1, w2] := by
    have hs : args.size = 3 := by simpa [Cond.value, given_1] using g0
    obtain ⟨L⟩ := args
    match L, hs with
    | [w0, w1, w2], _ => exact ⟨w0, w1, w2, rfl⟩
  have hw := fun d (hd : d ∈ tables_1) => atoms_spec (ws := Jvm.Cond.code x code maxLocals ret :: tables_1) hat d (List.mem_cons_of_mem _ hd)
  have hfit : Fit s := fun {y c} hc i hi => by
    obtain ⟨ha, rfl⟩ := Array.getElem?_eq_some_iff.mp hc
    have q := List.all_eq_true.mp ((Array.all_eq_true_iff_forall_mem.mp hF) _ (Array.getElem_mem ha)) i (List.mem_range.mpr hi)
    simpa [Array.getElem?_eq_getElem hi] using q
  obtain ⟨i0, ei0⟩ := is_v ga0
  obtain rfl : w0 = (.int i0) := Option.some.inj ei0
  obtain ⟨i1, ei1⟩ := is_v ga1
  obtain rfl : w1 = (.int i1) := Option.some.inj ei1
  obtain ⟨i2, ei2⟩ := is_v r2
  obtain rfl : w2 = (.int i2) := Option.some.inj ei2
  obtain ⟨xn0, rn0⟩ := and_e hn
  obtain ⟨f_PRODUCE, ev_PRODUCE⟩ := exa_v xn0
  obtain ⟨xn1, rn1⟩ := and_e rn0
  obtain ⟨xn2, rn2⟩ := and_e rn1
  obtain ⟨xn3, rn3⟩ := and_e rn2
  obtain ⟨f_FETCH, ev_FETCH⟩ := exa_v xn3
  obtain ⟨xn4, rn4⟩ := and_e rn3
  obtain ⟨xn5, rn5⟩ := and_e rn4
  obtain ⟨f_HEARTBEAT, ev_HEARTBEAT⟩ := exa_v xn5
  obtain ⟨xn6, rn6⟩ := and_e rn5
  obtain ⟨xn7, rn7⟩ := and_e rn6
  obtain ⟨xn8, rn8⟩ := and_e rn7
  obtain ⟨f_API_VERSIONS, ev_API_VERSIONS⟩ := exa_v xn8
  obtain ⟨xn9, rn9⟩ := and_e rn8
  obtain ⟨xn10, rn10⟩ := and_e rn9
  obtain ⟨f_FIND_COORDINATOR, ev_FIND_COORDINATOR⟩ := exa_v xn10
  obtain ⟨xn11, rn11⟩ := and_e rn10
  obtain ⟨xn12, rn12⟩ := and_e rn11
  obtain ⟨f_JOIN_GROUP, ev_JOIN_GROUP⟩ := exa_v xn12
  obtain ⟨xn13, rn13⟩ := and_e rn12
  obtain ⟨xn14, rn14⟩ := and_e rn13
  obtain ⟨xn15, rn15⟩ := and_e rn14
  obtain ⟨f_METADATA, ev_METADATA⟩ := exa_v xn15
  obtain ⟨xn16, rn16⟩ := and_e rn15
  obtain ⟨xn17, rn17⟩ := and_e rn16
  obtain ⟨f_SYNC_GROUP, ev_SYNC_GROUP⟩ := exa_v xn17
  obtain ⟨xn18, rn18⟩ := and_e rn17
  obtain ⟨xn19, rn19⟩ := and_e rn18
  obtain ⟨xn20, rn20⟩ := and_e rn19
  obtain ⟨f_OFFSET_COMMIT, ev_OFFSET_COMMIT⟩ := exa_v xn20
  obtain ⟨xn21, rn21⟩ := and_e rn20
  obtain ⟨xn22, rn22⟩ := and_e rn21
  obtain ⟨xn23, rn23⟩ := and_e rn22
  obtain ⟨f_OFFSET_FETCH, ev_OFFSET_FETCH⟩ := exa_v xn23
  obtain ⟨xn24, rn24⟩ := and_e rn23
  obtain ⟨xn25, rn25⟩ := and_e rn24
  obtain ⟨xn26, rn26⟩ := and_e rn25
  obtain ⟨xn27, rn27⟩ := and_e rn26
  obtain ⟨f_LIST_OFFSETS, ev_LIST_OFFSETS⟩ := exa_v xn27
  obtain ⟨xn28, rn28⟩ := and_e rn27
  obtain ⟨xn29, rn29⟩ := and_e rn28
  obtain ⟨xn30, rn30⟩ := and_e rn29
  obtain ⟨xn31, rn31⟩ := and_e rn30
  obtain ⟨xn32, rn32⟩ := and_e rn31
  obtain ⟨f_LEAVE_GROUP, ev_LEAVE_GROUP⟩ := exa_v xn32
  obtain ⟨xn33, rn33⟩ := and_e rn32
  obtain ⟨xn34, rn34⟩ := and_e rn33
  obtain ⟨n, o, h1, h2, h3, _, L, rfl, ⟨rfl, N⟩, hq⟩ := rm0 l s _ hw tables_1 f_PRODUCE f_FETCH f_HEARTBEAT f_API_VERSIONS f_FIND_COORDINATOR f_JOIN_GROUP f_METADATA f_SYNC_GROUP f_OFFSET_COMMIT f_OFFSET_FETCH f_LIST_OFFSETS f_LEAVE_GROUP i0 i1 i2 s.heap s.heap.size (Nat.le_refl _) (Sta.start ev_PRODUCE (Or.inr ⟨(hw _ (List.mem_of_getElem? (i := 6) rfl)), (hw _ (List.mem_of_getElem? (i := 7) rfl))⟩)) (Exa.start ev_PRODUCE xn0) (own_fldEq xn1 ev_PRODUCE) (own_fldEq xn2 ev_PRODUCE) (Sta.start ev_FETCH (Or.inr ⟨(hw _ (List.mem_of_getElem? (i := 6) rfl)), (hw _ (List.mem_of_getElem? (i := 24) rfl))⟩)) (Exa.start ev_FETCH xn3) (own_fldEq xn4 ev_FETCH) (Sta.start ev_HEARTBEAT (Or.inr ⟨(hw _ (List.mem_of_getElem? (i := 6) rfl)), (hw _ (List.mem_of_getElem? (i := 26) rfl))⟩)) (Exa.start ev_HEARTBEAT xn5) (own_fldEq xn6 ev_HEARTBEAT) (own_fldEq xn7 ev_HEARTBEAT) (Sta.start ev_API_VERSIONS (Or.inr ⟨(hw _ (List.mem_of_getElem? (i := 6) rfl)), (hw _ (List.mem_of_getElem? (i := 28) rfl))⟩)) (Exa.start ev_API_VERSIONS xn8) (own_fldEq xn9 ev_API_VERSIONS) (Sta.start ev_FIND_COORDINATOR (Or.inr ⟨(hw _ (List.mem_of_getElem? (i := 6) rfl)), (hw _ (List.mem_of_getElem? (i := 30) rfl))⟩)) (Exa.start ev_FIND_COORDINATOR xn10) (own_fldEq xn11 ev_FIND_COORDINATOR) (Sta.start ev_JOIN_GROUP (Or.inr ⟨(hw _ (List.mem_of_getElem? (i := 6) rfl)), (hw _ (List.mem_of_getElem? (i := 32) rfl))⟩)) (Exa.start ev_JOIN_GROUP xn12) (own_fldEq xn13 ev_JOIN_GROUP) (own_fldEq xn14 ev_JOIN_GROUP) (Sta.start ev_METADATA (Or.inr ⟨(hw _ (List.mem_of_getElem? (i := 6) rfl)), (hw _ (List.mem_of_getElem? (i := 34) rfl))⟩)) (Exa.start ev_METADATA xn15) (own_fldEq xn16 ev_METADATA) (Sta.start ev_SYNC_GROUP (Or.inr ⟨(hw _ (List.mem_of_getElem? (i := 6) rfl)), (hw _ (List.mem_of_getElem? (i := 36) rfl))⟩)) (Exa.start ev_SYNC_GROUP xn17) (own_fldEq xn18 ev_SYNC_GROUP) (own_fldEq xn19 ev_SYNC_GROUP) (Sta.start ev_OFFSET_COMMIT (Or.inr ⟨(hw _ (List.mem_of_getElem? (i := 6) rfl)), (hw _ (List.mem_of_getElem? (i := 38) rfl))⟩)) (Exa.start ev_OFFSET_COMMIT xn20) (own_fldEq xn21 ev_OFFSET_COMMIT) (own_fldEq xn22 ev_OFFSET_COMMIT) (Sta.start ev_OFFSET_FETCH (Or.inr ⟨(hw _ (List.mem_of_getElem? (i := 6) rfl)), (hw _ (List.mem_of_getElem? (i := 40) rfl))⟩)) (Exa.start ev_OFFSET_FETCH xn23) (own_fldEq xn24 ev_OFFSET_FETCH) (own_fldEq xn25 ev_OFFSET_FETCH) (own_fldEq xn26 ev_FETCH) (Sta.start ev_LIST_OFFSETS (Or.inr ⟨(hw _ (List.mem_of_getElem? (i := 6) rfl)), (hw _ (List.mem_of_getElem? (i := 42) rfl))⟩)) (Exa.start ev_LIST_OFFSETS xn27) (own_fldEq xn28 ev_LIST_OFFSETS) (own_fldEq xn29 ev_API_VERSIONS) (own_fldEq xn30 ev_LIST_OFFSETS) (own_fldEq xn31 ev_METADATA) (Sta.start ev_LEAVE_GROUP (Or.inr ⟨(hw _ (List.mem_of_getElem? (i := 6) rfl)), (hw _ (List.mem_of_getElem? (i := 44) rfl))⟩)) (Exa.start ev_LEAVE_GROUP xn32) (own_fldEq xn33 ev_LEAVE_GROUP) (own_fldEq xn34 ev_FIND_COORDINATOR) (own_fldEq rn34 ev_LEAVE_GROUP) p e ha hc hk s m _ below hf ((Spec.applies_iff_loose hf).mp happ).1 ⟨rfl, State.Warmed39.refl s, rfl⟩ trivial
  refine ⟨n, _, h1, h2, h3, hpost _ _ _ _ _ _ ⟨Cond.after_iff.mpr rfl, Cond.after_iff.mpr (eq_i res_at (Term.int_eval (1)) rfl), trivial⟩ ⟨hq.1, hq.2.1, (hq.2.2.sift fun y hy => Or.inr (N y hy)).mono (by decide) (by decide)⟩⟩
theorem main_1_1 : Claimed_1_1 := comes_1 fun _ _ _ _ _ _ h hF => ⟨h.1, hF⟩
theorem main_1_2 : Claimed_1_2 := comes_1 fun _ _ _ _ _ _ h hF => ⟨h.2.1, hF⟩
end Jvm.Pilot.@@N@@
namespace Jvm.Pilot.@@N@@
open Jvm Jvm.ClassFile Sem Op Lib Jvm.Free Jvm.Stand Jvm.Pilot.@@N@@.Jvm.D
/-! MADE BY PROGRAM (witnessworld.py) out of the Statement's table words and the real class files: 12 classes; the members and pool entries that the words name. The judged class is class 1, her method 1. -/
namespace start1
open Jvm.ClassFile
def u (s : String) : CpInfo := .utf8 (stringToUtf16 s)
/-- a pool by its gaps: so many unusable entries, then the entry; so many at the end -/
def gap : Nat → List CpInfo → List CpInfo
  | 0, r => r
  | n + 1, r => .unusable :: gap n r
def poolList (es : List (Nat × CpInfo)) (last : Nat) : List CpInfo := es.foldr (fun e r => gap e.1 (e.2 :: r)) (gap last [])
def pool (es : List (Nat × CpInfo)) (last : Nat) : Array CpInfo := ⟨poolList es last⟩
def fileOf (pool : Array CpInfo) (this : Nat) (attrs : Array Attribute := #[]) (ms : Array MethodInfo := #[]) (fl : Nat := 33) (sup : Nat := 0) (ifs : Array Nat := #[]) (fds : Array FieldInfo := #[]) : ClassFile where
  minorVersion := 0
  majorVersion := 65
  constantPool := pool
  accessFlags := fl
  thisClass := this
  superClass := sup
  interfaces := ifs
  fields := fds
  methods := ms
  attributes := attrs
def plain (name : String) (sup : Option ClassId) : Class where
  name := name
  kind := .ordinary
  loader := none
  accessFlags := 33
  super := sup
  interfaces := #[]
  cf := none
  fields := #[]
  methods := #[]
  instanceTypes := #[]
  staticTypes := #[]
  resolved := #[]
  callSites := []
  init := .initialized
  statics := none
  mirror := none

def pool0 : Array CpInfo := pool [(5, u "<init>"), (0, u "()V"), (1, .class_ 10), (1, u "java/lang/Object")] 113

def k0m0 : Method := { name := "<init>", desc := "()V", sig := { parameters := [], returnType := none }, accessFlags := 1, code := none }
/-- java/lang/Object -/
def k0 : Class := { plain "java/lang/Object" none with
  accessFlags := 33
  interfaces := #[]
  cf := some (fileOf pool0 8 #[] #[{ accessFlags := 1, nameIndex := 5, descriptorIndex := 6, attributes := #[] }] 33 0 #[] #[])
  fields := #[]
  methods := #[k0m0]
  instanceTypes := #[]
  staticTypes := #[]
  resolved := Array.replicate 124 none
  statics := none }

def pool1 : Array CpInfo := pool [(2, .class_ 4), (1, u "java/lang/Object"), (0, u "<init>"), (0, u "()V"), (0, .integer 2147483647), (0, .methodref 9 10), (0, .class_ 11), (0, .nameAndType 12 13), (0, u "com/example/keelstream/keelstream/protocol/ApiKeyIsSupportedPinLaw"), (0, u "key"), (0, u "(I)Lcom/example/keelstream/keelstream/protocol/ApiKey;"), (0, .methodref 9 15), (0, .nameAndType 16 17), (0, u "lo"), (0, u "(I)I"), (0, .methodref 9 19), (0, .nameAndType 20 17), (0, u "hi"), (0, .methodref 22 23), (0, .class_ 24), (0, .nameAndType 25 26), (0, u "com/example/keelstream/keelstream/protocol/ApiKey"), (0, u "isSupported"), (0, u "(S)Z"), (0, .fieldref 22 28), (0, .nameAndType 29 30), (0, u "PRODUCE"), (0, u "Lcom/example/keelstream/keelstream/protocol/ApiKey;"), (0, .fieldref 22 32), (0, .nameAndType 33 30), (0, u "FETCH"), (0, .fieldref 22 35), (0, .nameAndType 36 30), (0, u "LIST_OFFSETS"), (0, .fieldref 22 38), (0, .nameAndType 39 30), (0, u "METADATA"), (0, .fieldref 22 41), (0, .nameAndType 42 30), (0, u "OFFSET_COMMIT"), (0, .fieldref 22 44), (0, .nameAndType 45 30), (0, u "OFFSET_FETCH"), (0, .fieldref 22 47), (0, .nameAndType 48 30), (0, u "FIND_COORDINATOR"), (0, .fieldref 22 50), (0, .nameAndType 51 30), (0, u "JOIN_GROUP"), (0, .fieldref 22 53), (0, .nameAndType 54 30), (0, u "HEARTBEAT"), (0, .fieldref 22 56), (0, .nameAndType 57 30), (0, u "LEAVE_GROUP"), (0, .fieldref 22 59), (0, .nameAndType 60 30), (0, u "SYNC_GROUP"), (0, .fieldref 22 62), (0, .nameAndType 63 30), (0, u "API_VERSIONS"), (2, u "law"), (0, u "(III)Z")] 3

def k1m0 : Method := { name := "<init>", desc := "()V", sig := { parameters := [], returnType := none }, accessFlags := 1, code := none }
def k1c1 : Code := { maxStack := 2, maxLocals := 11, code := code, exceptionTable := #[], attributes := #[] }
def k1m1 : Method := { name := "law", desc := "(III)Z", sig := { parameters := [.int, .int, .int], returnType := some .boolean }, accessFlags := 9, code := some k1c1 }
def k1c2 : Code := { maxStack := 2, maxLocals := 1, code := method_3_code, exceptionTable := #[], attributes := #[] }
def k1m2 : Method := { name := "key", desc := "(I)Lcom/example/keelstream/keelstream/protocol/ApiKey;", sig := { parameters := [.int], returnType := some (.object "com/example/keelstream/keelstream/protocol/ApiKey") }, accessFlags := 10, code := some k1c2 }
def k1c3 : Code := { maxStack := 2, maxLocals := 1, code := method_4_code, exceptionTable := #[], attributes := #[] }
def k1m3 : Method := { name := "lo", desc := "(I)I", sig := { parameters := [.int], returnType := some .int }, accessFlags := 10, code := some k1c3 }
def k1c4 : Code := { maxStack := 2, maxLocals := 1, code := method_5_code, exceptionTable := #[], attributes := #[] }
def k1m4 : Method := { name := "hi", desc := "(I)I", sig := { parameters := [.int], returnType := some .int }, accessFlags := 10, code := some k1c4 }
/-- com/example/keelstream/keelstream/protocol/ApiKeyIsSupportedPinLaw -/
def k1 : Class := { plain "com/example/keelstream/keelstream/protocol/ApiKeyIsSupportedPinLaw" (some 0) with
  accessFlags := 49
  interfaces := #[]
  cf := some (fileOf pool1 9 #[] #[{ accessFlags := 1, nameIndex := 5, descriptorIndex := 6, attributes := #[] }, { accessFlags := 9, nameIndex := 66, descriptorIndex := 67, attributes := #[] }, { accessFlags := 10, nameIndex := 12, descriptorIndex := 13, attributes := #[] }, { accessFlags := 10, nameIndex := 16, descriptorIndex := 17, attributes := #[] }, { accessFlags := 10, nameIndex := 20, descriptorIndex := 17, attributes := #[] }] 49 2 #[] #[])
  fields := #[]
  methods := #[k1m0, k1m1, k1m2, k1m3, k1m4]
  instanceTypes := #[]
  staticTypes := #[]
  resolved := Array.replicate 71 none
  statics := none }

def pool2 : Array CpInfo := pool [(1, .class_ 2), (0, u "java/lang/constant/Constable"), (0, .class_ 4), (0, u "java/lang/Object")] 6

/-- java/lang/constant/Constable -/
def k2 : Class := { plain "java/lang/constant/Constable" (some 0) with
  accessFlags := 1537
  interfaces := #[]
  cf := some (fileOf pool2 1 #[] #[] 1537 3 #[] #[])
  fields := #[]
  methods := #[]
  instanceTypes := #[]
  staticTypes := #[]
  resolved := Array.replicate 11 none
  statics := none }

def pool3 : Array CpInfo := pool [(1, .class_ 2), (0, u "java/lang/Comparable"), (0, .class_ 4), (0, u "java/lang/Object")] 7

/-- java/lang/Comparable -/
def k3 : Class := { plain "java/lang/Comparable" (some 0) with
  accessFlags := 1537
  interfaces := #[]
  cf := some (fileOf pool3 1 #[] #[] 1537 3 #[] #[])
  fields := #[]
  methods := #[]
  instanceTypes := #[]
  staticTypes := #[]
  resolved := Array.replicate 12 none
  statics := none }

def pool4 : Array CpInfo := pool [(1, .class_ 2), (0, u "java/io/Serializable"), (0, .class_ 4), (0, u "java/lang/Object")] 2

/-- java/io/Serializable -/
def k4 : Class := { plain "java/io/Serializable" (some 0) with
  accessFlags := 1537
  interfaces := #[]
  cf := some (fileOf pool4 1 #[] #[] 1537 3 #[] #[])
  fields := #[]
  methods := #[]
  instanceTypes := #[]
  staticTypes := #[]
  resolved := Array.replicate 7 none
  statics := none }

def pool5 : Array CpInfo := pool [(2, .class_ 4), (1, u "java/lang/Enum"), (0, u "name"), (0, u "Ljava/lang/String;"), (2, u "ordinal"), (0, u "I"), (1, .class_ 14), (1, u "java/lang/Object"), (4, u "hash"), (86, .class_ 108), (1, u "java/lang/Enum$EnumDesc"), (2, .class_ 112), (0, u "java/lang/constant/Constable"), (0, .class_ 114), (0, u "java/lang/Comparable"), (0, .class_ 116), (0, u "java/io/Serializable")] 87

/-- java/lang/Enum -/
def k5 : Class := { plain "java/lang/Enum" (some 0) with
  accessFlags := 1057
  interfaces := #[2, 3, 4]
  cf := some (fileOf pool5 2 #[.nestMembers #[106]] #[] 1057 12 #[111, 113, 115] #[{ accessFlags := 18, nameIndex := 5, descriptorIndex := 6, attributes := #[] }, { accessFlags := 18, nameIndex := 9, descriptorIndex := 10, attributes := #[] }, { accessFlags := 2, nameIndex := 19, descriptorIndex := 10, attributes := #[] }])
  fields := #[{ name := "name", type := (.object "java/lang/String"), accessFlags := 18, slot := 0, constantValue := 0 }, { name := "ordinal", type := .int, accessFlags := 18, slot := 1, constantValue := 0 }, { name := "hash", type := .int, accessFlags := 2, slot := 2, constantValue := 0 }]
  methods := #[]
  instanceTypes := #[(.object "java/lang/String"), .int, .int]
  staticTypes := #[]
  resolved := Array.replicate 204 none
  statics := none }

def pool6 : Array CpInfo := pool [(1, .class_ 2), (0, u "com/example/keelstream/keelstream/protocol/ApiKey"), (2, u "PRODUCE"), (0, u "Lcom/example/keelstream/keelstream/protocol/ApiKey;"), (2, u "FETCH"), (2, u "LIST_OFFSETS"), (2, u "METADATA"), (2, u "OFFSET_COMMIT"), (2, u "OFFSET_FETCH"), (2, u "FIND_COORDINATOR"), (2, u "JOIN_GROUP"), (2, u "HEARTBEAT"), (2, u "LEAVE_GROUP"), (2, u "SYNC_GROUP"), (2, u "API_VERSIONS"), (2, u "$VALUES"), (0, u "[Lcom/example/keelstream/keelstream/protocol/ApiKey;"), (6, .class_ 52), (1, u "java/lang/Enum"), (8, u "id"), (0, u "S"), (0, .fieldref 1 64), (0, .nameAndType 65 62), (0, u "minVersion"), (0, .fieldref 1 67), (0, .nameAndType 68 62), (0, u "maxVersion"), (2, u "firstFlexibleVersion"), (17, u "(S)Z"), (29, u "isSupported")] 6

def k6c0 : Code := { maxStack := 2, maxLocals := 2, code := prog_5_method_8_code, exceptionTable := #[], attributes := #[] }
def k6m0 : Method := { name := "isSupported", desc := "(S)Z", sig := { parameters := [.short], returnType := some .boolean }, accessFlags := 1, code := some k6c0 }
/-- com/example/keelstream/keelstream/protocol/ApiKey -/
def k6 : Class := { plain "com/example/keelstream/keelstream/protocol/ApiKey" (some 5) with
  accessFlags := 16433
  interfaces := #[]
  cf := some (fileOf pool6 1 #[] #[{ accessFlags := 1, nameIndex := 119, descriptorIndex := 89, attributes := #[] }] 16433 50 #[] #[{ accessFlags := 16409, nameIndex := 5, descriptorIndex := 6, attributes := #[] }, { accessFlags := 16409, nameIndex := 9, descriptorIndex := 6, attributes := #[] }, { accessFlags := 16409, nameIndex := 12, descriptorIndex := 6, attributes := #[] }, { accessFlags := 16409, nameIndex := 15, descriptorIndex := 6, attributes := #[] }, { accessFlags := 16409, nameIndex := 18, descriptorIndex := 6, attributes := #[] }, { accessFlags := 16409, nameIndex := 21, descriptorIndex := 6, attributes := #[] }, { accessFlags := 16409, nameIndex := 24, descriptorIndex := 6, attributes := #[] }, { accessFlags := 16409, nameIndex := 27, descriptorIndex := 6, attributes := #[] }, { accessFlags := 16409, nameIndex := 30, descriptorIndex := 6, attributes := #[] }, { accessFlags := 16409, nameIndex := 33, descriptorIndex := 6, attributes := #[] }, { accessFlags := 16409, nameIndex := 36, descriptorIndex := 6, attributes := #[] }, { accessFlags := 16409, nameIndex := 39, descriptorIndex := 6, attributes := #[] }, { accessFlags := 18, nameIndex := 61, descriptorIndex := 62, attributes := #[] }, { accessFlags := 18, nameIndex := 65, descriptorIndex := 62, attributes := #[] }, { accessFlags := 18, nameIndex := 68, descriptorIndex := 62, attributes := #[] }, { accessFlags := 18, nameIndex := 71, descriptorIndex := 62, attributes := #[] }, { accessFlags := 4122, nameIndex := 42, descriptorIndex := 43, attributes := #[] }])
  fields := #[{ name := "PRODUCE", type := (.object "com/example/keelstream/keelstream/protocol/ApiKey"), accessFlags := 16409, slot := 0, constantValue := 0 }, { name := "FETCH", type := (.object "com/example/keelstream/keelstream/protocol/ApiKey"), accessFlags := 16409, slot := 1, constantValue := 0 }, { name := "LIST_OFFSETS", type := (.object "com/example/keelstream/keelstream/protocol/ApiKey"), accessFlags := 16409, slot := 2, constantValue := 0 }, { name := "METADATA", type := (.object "com/example/keelstream/keelstream/protocol/ApiKey"), accessFlags := 16409, slot := 3, constantValue := 0 }, { name := "OFFSET_COMMIT", type := (.object "com/example/keelstream/keelstream/protocol/ApiKey"), accessFlags := 16409, slot := 4, constantValue := 0 }, { name := "OFFSET_FETCH", type := (.object "com/example/keelstream/keelstream/protocol/ApiKey"), accessFlags := 16409, slot := 5, constantValue := 0 }, { name := "FIND_COORDINATOR", type := (.object "com/example/keelstream/keelstream/protocol/ApiKey"), accessFlags := 16409, slot := 6, constantValue := 0 }, { name := "JOIN_GROUP", type := (.object "com/example/keelstream/keelstream/protocol/ApiKey"), accessFlags := 16409, slot := 7, constantValue := 0 }, { name := "HEARTBEAT", type := (.object "com/example/keelstream/keelstream/protocol/ApiKey"), accessFlags := 16409, slot := 8, constantValue := 0 }, { name := "LEAVE_GROUP", type := (.object "com/example/keelstream/keelstream/protocol/ApiKey"), accessFlags := 16409, slot := 9, constantValue := 0 }, { name := "SYNC_GROUP", type := (.object "com/example/keelstream/keelstream/protocol/ApiKey"), accessFlags := 16409, slot := 10, constantValue := 0 }, { name := "API_VERSIONS", type := (.object "com/example/keelstream/keelstream/protocol/ApiKey"), accessFlags := 16409, slot := 11, constantValue := 0 }, { name := "id", type := .short, accessFlags := 18, slot := 3, constantValue := 0 }, { name := "minVersion", type := .short, accessFlags := 18, slot := 4, constantValue := 0 }, { name := "maxVersion", type := .short, accessFlags := 18, slot := 5, constantValue := 0 }, { name := "firstFlexibleVersion", type := .short, accessFlags := 18, slot := 6, constantValue := 0 }, { name := "$VALUES", type := (.array (.object "com/example/keelstream/keelstream/protocol/ApiKey")), accessFlags := 4122, slot := 12, constantValue := 0 }]
  methods := #[k6m0]
  instanceTypes := #[(.object "java/lang/String"), .int, .int, .short, .short, .short, .short]
  staticTypes := #[(.object "com/example/keelstream/keelstream/protocol/ApiKey"), (.object "com/example/keelstream/keelstream/protocol/ApiKey"), (.object "com/example/keelstream/keelstream/protocol/ApiKey"), (.object "com/example/keelstream/keelstream/protocol/ApiKey"), (.object "com/example/keelstream/keelstream/protocol/ApiKey"), (.object "com/example/keelstream/keelstream/protocol/ApiKey"), (.object "com/example/keelstream/keelstream/protocol/ApiKey"), (.object "com/example/keelstream/keelstream/protocol/ApiKey"), (.object "com/example/keelstream/keelstream/protocol/ApiKey"), (.object "com/example/keelstream/keelstream/protocol/ApiKey"), (.object "com/example/keelstream/keelstream/protocol/ApiKey"), (.object "com/example/keelstream/keelstream/protocol/ApiKey"), (.array (.object "com/example/keelstream/keelstream/protocol/ApiKey"))]
  resolved := Array.replicate 126 none
  statics := some 0 }

def pool7 : Array CpInfo := pool [(1, u "java/lang/Cloneable"), (0, .class_ 1), (0, u "java/lang/Object"), (0, .class_ 3)] 3

/-- java/lang/Cloneable -/
def k7 : Class := { plain "java/lang/Cloneable" (some 0) with
  accessFlags := 1537
  interfaces := #[]
  cf := some (fileOf pool7 2 #[] #[] 1537 4 #[] #[])
  fields := #[]
  methods := #[]
  instanceTypes := #[]
  staticTypes := #[]
  resolved := Array.replicate 8 none
  statics := none }

/-- the primitive byte -/
def k8 : Class := { plain "byte" none with kind := .primitive 'B', accessFlags := 0x411 }
/-- [B -/
def k9 : Class := { plain "[B" (some 0) with kind := .array 8 .byte, interfaces := #[7, 4], accessFlags := 1041 }

/-- the primitive int -/
def k10 : Class := { plain "int" none with kind := .primitive 'I', accessFlags := 0x411 }
/-- [I -/
def k11 : Class := { plain "[I" (some 0) with kind := .array 10 .int, interfaces := #[7, 4], accessFlags := 1041 }

def heap : Heap := #[{ cls := 6, slots := #[.ref 1, .ref 2, .ref 11, .ref 7, .ref 9, .ref 10, .ref 5, .ref 6, .ref 3, .ref 12, .ref 8, .ref 4, .null], vm := .statics 6 },
  { cls := 6, slots := #[.null, .int 0, .int 0, .int 0, .int 0, .int 7, .int 0], vm := .none },
  { cls := 6, slots := #[.null, .int 0, .int 0, .int 0, .int 4, .int 11, .int 0], vm := .none },
  { cls := 6, slots := #[.null, .int 0, .int 0, .int 0, .int 0, .int 3, .int 0], vm := .none },
  { cls := 6, slots := #[.null, .int 0, .int 0, .int 0, .int 0, .int 3, .int 0], vm := .none },
  { cls := 6, slots := #[.null, .int 0, .int 0, .int 0, .int 0, .int 2, .int 0], vm := .none },
  { cls := 6, slots := #[.null, .int 0, .int 0, .int 0, .int 0, .int 5, .int 0], vm := .none },
  { cls := 6, slots := #[.null, .int 0, .int 0, .int 0, .int 0, .int 4, .int 0], vm := .none },
  { cls := 6, slots := #[.null, .int 0, .int 0, .int 0, .int 0, .int 3, .int 0], vm := .none },
  { cls := 6, slots := #[.null, .int 0, .int 0, .int 0, .int 2, .int 7, .int 0], vm := .none },
  { cls := 6, slots := #[.null, .int 0, .int 0, .int 0, .int 1, .int 5, .int 0], vm := .none },
  { cls := 6, slots := #[.null, .int 0, .int 0, .int 0, .int 1, .int 2, .int 0], vm := .none },
  { cls := 6, slots := #[.null, .int 0, .int 0, .int 0, .int 0, .int 3, .int 0], vm := .none }]
def classes : Array Class := #[k0, k1, k2, k3, k4, k5, k6, k7, k8, k9, k10, k11]
def interned : List (Array UInt16 × Addr) := []
def slotsUsed : Nat := 97
def theMethod : MethodId := ⟨1, 1⟩
def args0 : Array Value := #[.int 5, .int 7, .int 3]
def aboutOver (below : List Frame) : State where
  vm := { classes := classes, interned := interned.toArray }
  heap := heap
  slotsUsed := slotsUsed
  threads := #[{ frames := .invoking theMethod args0 :: below }]
def below0 : List Frame := [.native { method := ⟨0, 0⟩, args := #[] }]
def about1 : State := aboutOver below0
def p0 : Program := .bare "" "" ""
def e0 : Env := launch0.env 0 0 0
theorem w_frames : about1.frames = Frame.invoking theMethod args0 :: below0 := rfl
set_option maxRecDepth 65536 in
theorem w_args : argsFit about1.vm theMethod args0 = true := by decide +kernel
set_option maxRecDepth 65536 in
theorem w_heap : heapFits about1 = true := by decide +kernel
set_option maxRecDepth 65536 in
theorem w_runnable : about1.curStatus? = some .runnable := by decide +kernel
set_option maxRecDepth 65536 in
theorem w_alone : about1.alone = true := by decide +kernel
set_option maxRecDepth 65536 in
theorem w_named : about1.methodNamed? x = some theMethod := by decide +kernel
set_option maxRecDepth 65536 in
theorem w_hears : about1.hears theMethod below0 = true := by decide +kernel
set_option maxRecDepth 65536 in
theorem w_ripe : about1.ripe theMethod args0 below0 = true := by decide +kernel
theorem w_running : about1.status = .running := rfl
set_option maxRecDepth 65536 in
theorem w_room : about1.hasRoom e0.platform room_1 = true :=
  launch0.hasRoom_least _ room_1 (by decide +kernel) (by decide +kernel) (by decide +kernel) (by decide +kernel) (by decide +kernel) (by decide +kernel)
theorem allAtoms_all (ts : List Jvm.Cond) (a : Array Jvm.Value) (st : Jvm.State) : (allAtoms ts).before a st = ts.all (fun c => c.before a st) := by
  induction ts with
  | nil => rfl
  | cons c t ih =>
    show (Jvm.Cond.and c (allAtoms t)).before a st = _
    rw [Jvm.Cond.before_and, ih, List.all_cons]
def words1 : List Jvm.Cond := Jvm.Cond.code x code maxLocals ret :: tables_1
/-- a 'code' word, met by the world's own term for the bytes: nothing is compared byte by byte -/
theorem code_word {y : MethodName} {bytes : ByteArray} {mx : Nat} {rt : Option FieldType} {a : Array Value} {s : State} {m : MethodId} {meth : Method} {c : Code} (h1 : s.methodNamed? y = some m) (h2 : s.vm.method? m = some meth) (h3 : meth.code = some c) (h4 : c.code = bytes)
    (h5 : (c.maxLocals == mx && c.exceptionTable.isEmpty && decide (c.maxStack ≤ mostOperands) && decide (meth.sig.returnType = rt) && !meth.locks && decide (parseMethodDescriptor y.desc = some meth.sig)) = true) : (Jvm.Cond.code y bytes mx rt).before a s = true := by
  simp only [Bool.and_eq_true, beq_iff_eq, Bool.not_eq_true', decide_eq_true_eq] at h5
  obtain ⟨⟨⟨⟨⟨g1, g2⟩, g3⟩, g4⟩, g5⟩, g6⟩ := h5
  simp [Cond.before, Cond.holds, Cond.value, h1, h2, h3, h4, g1, g2, g3, g4, g5, g6]
def isCode : Jvm.Cond → Bool
  | .code _ _ _ _ => true
  | _ => false
theorem all_split {L : List Jvm.Cond} {P : Jvm.Cond → Bool} (h1 : L.all (fun c => isCode c || P c) = true) (h2 : ∀ c ∈ L.filter isCode, P c = true) : L.all P = true := by
  refine List.all_eq_true.mpr fun c hc => ?_
  have h := List.all_eq_true.mp h1 c hc
  rcases Bool.eq_false_or_eq_true (isCode c) with hi | hi
  · exact h2 c (List.mem_filter.mpr ⟨hc, hi⟩)
  · simpa [hi] using h
set_option maxRecDepth 65536 in
theorem w_c0 : (Jvm.Cond.code x code maxLocals ret).before args0 about1 = true := code_word (m := ⟨1, 1⟩) (meth := k1m1) (c := k1c1) (by decide +kernel) rfl rfl rfl (by decide +kernel)
set_option maxRecDepth 65536 in
theorem w_c1 : (Jvm.Cond.code ({ cls := "com/example/keelstream/keelstream/protocol/ApiKeyIsSupportedPinLaw", name := "key", desc := "(I)Lcom/example/keelstream/keelstream/protocol/ApiKey;" } : Jvm.MethodName) method_3_code (1 : Nat) (Option.some (Jvm.ClassFile.FieldType.object "com/example/keelstream/keelstream/protocol/ApiKey"))).before args0 about1 = true := code_word (m := ⟨1, 2⟩) (meth := k1m2) (c := k1c2) (by decide +kernel) rfl rfl rfl (by decide +kernel)
set_option maxRecDepth 65536 in
theorem w_c2 : (Jvm.Cond.code ({ cls := "com/example/keelstream/keelstream/protocol/ApiKeyIsSupportedPinLaw", name := "lo", desc := "(I)I" } : Jvm.MethodName) method_4_code (1 : Nat) (Option.some Jvm.ClassFile.FieldType.int)).before args0 about1 = true := code_word (m := ⟨1, 3⟩) (meth := k1m3) (c := k1c3) (by decide +kernel) rfl rfl rfl (by decide +kernel)
set_option maxRecDepth 65536 in
theorem w_c3 : (Jvm.Cond.code ({ cls := "com/example/keelstream/keelstream/protocol/ApiKeyIsSupportedPinLaw", name := "hi", desc := "(I)I" } : Jvm.MethodName) method_5_code (1 : Nat) (Option.some Jvm.ClassFile.FieldType.int)).before args0 about1 = true := code_word (m := ⟨1, 4⟩) (meth := k1m4) (c := k1c4) (by decide +kernel) rfl rfl rfl (by decide +kernel)
set_option maxRecDepth 65536 in
theorem w_c4 : (Jvm.Cond.code ({ cls := "com/example/keelstream/keelstream/protocol/ApiKey", name := "isSupported", desc := "(S)Z" } : Jvm.MethodName) prog_5_method_8_code (2 : Nat) (Option.some Jvm.ClassFile.FieldType.boolean)).before args0 about1 = true := code_word (m := ⟨6, 0⟩) (meth := k6m0) (c := k6c0) (by decide +kernel) rfl rfl rfl (by decide +kernel)
def codes1 : List Jvm.Cond := [Jvm.Cond.code x code maxLocals ret, Jvm.Cond.code ({ cls := "com/example/keelstream/keelstream/protocol/ApiKeyIsSupportedPinLaw", name := "key", desc := "(I)Lcom/example/keelstream/keelstream/protocol/ApiKey;" } : Jvm.MethodName) method_3_code (1 : Nat) (Option.some (Jvm.ClassFile.FieldType.object "com/example/keelstream/keelstream/protocol/ApiKey")), Jvm.Cond.code ({ cls := "com/example/keelstream/keelstream/protocol/ApiKeyIsSupportedPinLaw", name := "lo", desc := "(I)I" } : Jvm.MethodName) method_4_code (1 : Nat) (Option.some Jvm.ClassFile.FieldType.int), Jvm.Cond.code ({ cls := "com/example/keelstream/keelstream/protocol/ApiKeyIsSupportedPinLaw", name := "hi", desc := "(I)I" } : Jvm.MethodName) method_5_code (1 : Nat) (Option.some Jvm.ClassFile.FieldType.int), Jvm.Cond.code ({ cls := "com/example/keelstream/keelstream/protocol/ApiKey", name := "isSupported", desc := "(S)Z" } : Jvm.MethodName) prog_5_method_8_code (2 : Nat) (Option.some Jvm.ClassFile.FieldType.boolean)]
set_option maxRecDepth 65536 in
theorem codes_eq : words1.filter isCode = codes1 := rfl
theorem w_codes : ∀ c ∈ words1.filter isCode, c.before args0 about1 = true := by
  rw [codes_eq]
  intro c hc
  simp only [codes1, List.mem_cons, List.not_mem_nil, or_false] at hc
  rcases hc with rfl | rfl | rfl | rfl | rfl
  · exact w_c0
  · exact w_c1
  · exact w_c2
  · exact w_c3
  · exact w_c4
set_option maxRecDepth 65536 in
theorem w_t1 : (words1.take 24).all (fun c => isCode c || c.before args0 about1) = true := by decide +kernel
set_option maxRecDepth 65536 in
theorem w_t2 : (words1.drop 24).all (fun c => isCode c || c.before args0 about1) = true := by decide +kernel
theorem w_tables : (allAtoms (Jvm.Cond.code x code maxLocals ret :: tables_1)).before args0 about1 = true := by
  rw [allAtoms_all]
  show words1.all (fun c => c.before args0 about1) = true
  refine all_split ?_ w_codes
  rw [← List.take_append_drop 24 words1, List.all_append, w_t1, w_t2]
  rfl
set_option maxRecDepth 65536 in
theorem w_case : (Jvm.Cond.and given_1 narrow_1).before args0 about1 = true := by decide +kernel
theorem w_applies : (headSpec (Jvm.Cond.code x code maxLocals ret :: tables_1) room_1).applies x e0.platform about1 = true :=
  (Spec.applies_iff w_frames).mpr ⟨w_running, w_runnable, w_alone, w_named, w_hears, w_ripe, w_room, w_tables⟩
theorem atStart : AtStart classFile x code maxLocals ret World_1 tables_1 room_1 Calls_1 rest_1 Pre_1 launch0 p0 e0 about1 theMethod args0 below0 :=
  ⟨lists_1, trivial, launch0.admits_env _ _ _, launch0.least_env, fairChoices_fair.cas, fairChoices_fair.clock, w_frames, w_args, w_heap, w_applies, trivial, trivial, w_case⟩
end start1
theorem witness_1 : WitnessClaimed_1 := ⟨start1.p0, start1.e0, start1.about1, start1.theMethod, start1.args0, start1.below0, start1.atStart⟩
end Jvm.Pilot.@@N@@
