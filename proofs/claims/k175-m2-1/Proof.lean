import JvmDerived
import JvmDerived.Pilot.@@N@@Statement
import JvmDerived.Pilot.@@N@@Code
set_option linter.unusedVariables false
set_option linter.unusedSimpArgs false
namespace Jvm.Pilot.@@N@@
open Jvm Jvm.ClassFile Sem Op Lib Jvm.Free Jvm.Stand Jvm.LawKit Jvm.RoadKit Bundle Jvm.Pilot.@@N@@.Jvm.D
def own_Go (p : Program) (e : Env) (below : List Frame) (P : Outcome → State → Prop) (st : State) : Prop :=
  ∃ s₂ o, Steps p.tables e below st s₂ ∧ s₂.status = .running ∧ Ended s₂ below o ∧ P o s₂
def own_Fin (s : State) (C S : Nat) (Q : Option Value → Heap → List Loc → Prop) (o : Outcome) (U : State) : Prop := ∃ v L, o = .returned v ∧ Q v U.heap L ∧ FrameEnd s o U L C S
def own_upd {α : Type} (f : Nat → α) (j : Nat) (v : α) : Nat → α := fun i => if i = j then v else f i
def own_Arf (Z : State) (h : Heap) (a : Addr) (k : ClassId) (ty : FieldType) (n : Int32) (f : Nat → Value) : Prop := ∃ c : Cell, Arr Z h a c ty ∧ c.cls = k ∧ c.slots.size = n.toNatClampNeg ∧ ¬ n < 0 ∧ (∀ i, i < c.slots.size → c.slots[i]? = some (f i)) ∧ ∀ i, i < c.slots.size → fits ty (f i) = true
section OwnKit
variable {p : Program} {l : Launch} {e : Env} {R : Room} {s : State} {m : MethodId} {args : Array Value} {below : List Frame} {meth : Method} {c : Code} {T : State} {locs : List Loc} {cells slots C S : Nat} {P : Outcome → State → Prop} {Q : Option Value → Heap → List Loc → Prop} {Z : State} {h h' : Heap} {a b : Addr} {k : ClassId} {ty : FieldType} {n : Int32} {ws : List Addr}
theorem own_by {st st' : State} (f : ∀ t, Steps p.tables e below st' t → Steps p.tables e below st t) (g : own_Go p e below P st') : own_Go p e below P st := by
  obtain ⟨s₂, o, h1, h2⟩ := g
  exact ⟨s₂, o, f _ h1, h2⟩
theorem own_mono (X : Stand p l e R s m args below meth c T locs cells slots) {c' s' : Nat} (hc : cells ≤ c') (hs : slots ≤ s') : Stand p l e R s m args below meth c T locs c' s' := { X with same := X.same.mono hc hs }
theorem own_end (X : Stand p l e R s m args below meth c T locs cells slots) {v : Option Value} (hv : meth.sig.returnType = none → v = none) (hlk : meth.locks = false) (eT : T.heap = h) (hQ : Q v h locs) (hc : cells ≤ C) (hs : slots ≤ S)
    {g : JFrame} (st : ∀ fs, (∀ (f : JFrame) (acts : List Action), f.method = m → f.locked = none → f.entered = [] → (doReturn e (T.setTop f) acts v).1 = T.setFrames fs) → Steps p.tables e below (T.setTop g) (T.setFrames fs)) : own_Go p e below (own_Fin s C S Q) (T.setTop g) := by
  obtain ⟨fs, hr, hrun, hended, hW, hsame⟩ := X.leave (v := v) hv hlk
  refine ⟨_, _, st fs hr, hrun, hended, v, locs, rfl, ?_, ⟨_, rfl⟩, hW, hsame.mono hc hs⟩
  show Q v T.heap locs
  rw [eT]; exact hQ
theorem own_retN (X : Stand p l e R s m args below meth c T locs cells slots) (hx : p.tables.exec = Jvm.exec) {pc : Nat} {Ls : Array Slot} {z : Int32} {t : FieldType} {rest : List Value} (hret : meth.sig.returnType = some t) (ht : t = .boolean ∨ t = .byte ∨ t = .char ∨ t = .short) (hd : decode c.code pc = .ok (.ireturn, 1)) (hlk : meth.locks = false) (eT : T.heap = h) (hQ : Q (some (.int (nar t z))) h locs) (hc : cells ≤ C) (hs : slots ≤ S) : own_Go p e below (own_Fin s C S Q) (T.setTop (mkF m pc Ls (.int z :: rest))) :=
  own_end X (fun h => by rw [hret] at h; cases h) hlk eT hQ hc hs fun fs hr => retN X hx hret ht hd hr
theorem own_retI (X : Stand p l e R s m args below meth c T locs cells slots) (hx : p.tables.exec = Jvm.exec) {pc : Nat} {Ls : Array Slot} {z : Int32} {rest : List Value} (hret : meth.sig.returnType = some .int) (hd : decode c.code pc = .ok (.ireturn, 1)) (hlk : meth.locks = false) (eT : T.heap = h) (hQ : Q (some (.int z)) h locs) (hc : cells ≤ C) (hs : slots ≤ S) : own_Go p e below (own_Fin s C S Q) (T.setTop (mkF m pc Ls (.int z :: rest))) :=
  own_end X (fun h => by rw [hret] at h; cases h) hlk eT hQ hc hs fun fs hr => retOut X hx hret rfl (Or.inl ⟨rfl, Or.inl rfl, _, rfl⟩) hd hr
theorem own_retJ (X : Stand p l e R s m args below meth c T locs cells slots) (hx : p.tables.exec = Jvm.exec) {pc : Nat} {Ls : Array Slot} {z : Int64} {rest : List Value} (hret : meth.sig.returnType = some .long) (hd : decode c.code pc = .ok (.lreturn, 1)) (hlk : meth.locks = false) (eT : T.heap = h) (hQ : Q (some (.long z)) h locs) (hc : cells ≤ C) (hs : slots ≤ S) : own_Go p e below (own_Fin s C S Q) (T.setTop (mkF m pc Ls (.long z :: rest))) :=
  own_end X (fun h => by rw [hret] at h; cases h) hlk eT hQ hc hs fun fs hr => retOut X hx hret rfl (Or.inr (Or.inl ⟨rfl, rfl, _, rfl⟩)) hd hr
theorem own_retD (X : Stand p l e R s m args below meth c T locs cells slots) (hx : p.tables.exec = Jvm.exec) {pc : Nat} {Ls : Array Slot} {z : UInt64} {rest : List Value} (hret : meth.sig.returnType = some .double) (hd : decode c.code pc = .ok (.dreturn, 1)) (hlk : meth.locks = false) (eT : T.heap = h) (hQ : Q (some (.double z)) h locs) (hc : cells ≤ C) (hs : slots ≤ S) : own_Go p e below (own_Fin s C S Q) (T.setTop (mkF m pc Ls (.double z :: rest))) :=
  own_end X (fun h => by rw [hret] at h; cases h) hlk eT hQ hc hs fun fs hr => retOut X hx hret rfl (Or.inr (Or.inr (Or.inl ⟨rfl, rfl, _, rfl⟩))) hd hr
theorem own_retR (X : Stand p l e R s m args below meth c T locs cells slots) (hx : p.tables.exec = Jvm.exec) {pc : Nat} {Ls : Array Slot} {w : Value} {t : FieldType} {rest : List Value} (hret : meth.sig.returnType = some t) (ht : t.isReference = true) (hw : w.isRef = true) (hd : decode c.code pc = .ok (.areturn, 1)) (hlk : meth.locks = false) (eT : T.heap = h) (hQ : Q (some w) h locs) (hc : cells ≤ C) (hs : slots ≤ S) : own_Go p e below (own_Fin s C S Q) (T.setTop (mkF m pc Ls (w :: rest))) :=
  own_end X (fun h => by rw [hret] at h; cases h) hlk eT hQ hc hs fun fs hr => retOut X hx hret (by cases t <;> first | rfl | (cases w <;> first | rfl | cases hw) | (cases ht)) (Or.inr (Or.inr (Or.inr (Or.inr ⟨rfl, ht, hw⟩)))) hd hr
theorem own_ret0 (X : Stand p l e R s m args below meth c T locs cells slots) (hx : p.tables.exec = Jvm.exec) {pc : Nat} {Ls : Array Slot} (hret : meth.sig.returnType = none) (hd : decode c.code pc = .ok (.return_, 1)) (hlk : meth.locks = false) (eT : T.heap = h) (hQ : Q none h locs) (hc : cells ≤ C) (hs : slots ≤ S) : own_Go p e below (own_Fin s C S Q) (T.setTop (mkF m pc Ls [])) :=
  own_end X (fun _ => rfl) hlk eT hQ hc hs fun fs hr => X.returnOut hx hret hd hr
theorem own_one {z : Int32} (q : z = 1) : (some (.int (nar .boolean z)) : Option Value) = some (.int 1) := by subst q; rfl
theorem own_lrem {g : JFrame} {target : State} (hh : At T m c below) (hx : p.tables.exec = Jvm.exec) (hg : g.method = m) {x y : Int64} {rest : List Value} (hd : decode c.code g.pc = .ok (.lrem, 1)) (hs : g.stack = .long y :: .long x :: rest) (hy : y ≠ 0)
    (hr : Steps p.tables e below (T.setTop { g with pc := g.pc + 1, stack := .long (x % y) :: rest }) target) : Steps p.tables e below (T.setTop g) target :=
  XS.lrem hh hx hg hd hs hy (by rw [lrem_mod]; exact hr)
theorem own_Arf.lt {f : Nat → Value} (F : own_Arf Z h a k ty n f) : a < h.size := by obtain ⟨c, A, -⟩ := F; exact A.lt
theorem own_Arf.ext {f : Nat → Value} (F : own_Arf Z h a k ty n f) (E : Ext h h') : own_Arf Z h' a k ty n f := by obtain ⟨c, A, r⟩ := F; exact ⟨c, A.ext E, r⟩
theorem own_Arf.other {f : Nat → Value} {sl : Nat} {v : Value} (F : own_Arf Z h b k ty n f) (W : Wr h h' a sl v) (q : b ≠ a) : own_Arf Z h' b k ty n f := by obtain ⟨c, A, r⟩ := F; exact ⟨c, A.other W q, r⟩
theorem own_Arf.keep {f : Nat → Value} (F : own_Arf Z h a k ty n f) (K : Keep h h' ws) (q : a ∉ ws) : own_Arf Z h' a k ty n f := by obtain ⟨c, A, r⟩ := F; exact ⟨c, ⟨K.2.1 a c A.1 q, A.2⟩, r⟩
theorem own_arfNew (A : Arr Z h a (newA k ty n) ty) (q : ¬ n < 0) : own_Arf Z h a k ty n (fun _ => defaultValue ty) := ⟨_, A, rfl, sz_new _ _ _, q, fun i hi => by
  rw [sz_new] at hi; simp [newA, hi], fun i _ => by cases ty <;> rfl⟩
theorem own_arfSet {cl : Cell} {f : Nat → Value} {j : Nat} {v : Value} (A : Arr Z h a cl ty) (q1 : cl.cls = k) (S : cl.slots.size = n.toNatClampNeg) (q3 : ¬ n < 0) (H : ∀ i, i < cl.slots.size → cl.slots[i]? = some (f i)) (G : ∀ i, i < cl.slots.size → fits ty (f i) = true) (hv : fits ty v = true) (W : Wr h h' a j v) : own_Arf Z h' a k ty n (own_upd f j v) := by
  refine ⟨_, A.same W, q1, by rw [sz_set]; exact S, q3, fun i hi => ?_, fun i hi => ?_⟩
  · rw [sz_set] at hi
    by_cases u : j = i
    · subst u; simp [Cell.setSlot, hi, own_upd]
    · have := H i hi; simp only [Cell.setSlot] at this ⊢
      rw [Array.getElem?_setIfInBounds_ne u, this]; simp [own_upd, Ne.symm u]
  · rw [sz_set] at hi
    by_cases u : j = i
    · subst u; simpa [own_upd] using hv
    · have := G i hi; simpa [own_upd, Ne.symm u] using this
theorem own_arfSetI {cl : Cell} {f : Nat → Int32} {j : Nat} {v : Int32} (A : Arr Z h a cl ty) (q1 : cl.cls = k) (S : cl.slots.size = n.toNatClampNeg) (q3 : ¬ n < 0) (H : ∀ i, i < cl.slots.size → cl.slots[i]? = some (.int (f i))) (G : ∀ i, i < cl.slots.size → fits ty (.int (f i)) = true) (hv : fits ty (.int v) = true) (W : Wr h h' a j (.int v)) : own_Arf Z h' a k ty n (fun i => .int (own_upd f j v i)) := by
  have q := own_arfSet (f := fun i => .int (f i)) A q1 S q3 H G hv W
  have e : (own_upd (fun i => Value.int (f i)) j (.int v)) = (fun i => .int (own_upd f j v i)) := by funext i; simp only [own_upd]; split <;> rfl
  rw [← e]; exact q
theorem own_arfSetJ {cl : Cell} {f : Nat → Int64} {j : Nat} {v : Int64} (A : Arr Z h a cl ty) (q1 : cl.cls = k) (S : cl.slots.size = n.toNatClampNeg) (q3 : ¬ n < 0) (H : ∀ i, i < cl.slots.size → cl.slots[i]? = some (.long (f i))) (G : ∀ i, i < cl.slots.size → fits ty (.long (f i)) = true) (hv : fits ty (.long v) = true) (W : Wr h h' a j (.long v)) : own_Arf Z h' a k ty n (fun i => .long (own_upd f j v i)) := by
  have q := own_arfSet (f := fun i => .long (f i)) A q1 S q3 H G hv W
  have e : (own_upd (fun i => Value.long (f i)) j (.long v)) = (fun i => .long (own_upd f j v i)) := by funext i; simp only [own_upd]; split <;> rfl
  rw [← e]; exact q
theorem own_arfSetD {cl : Cell} {f : Nat → UInt64} {j : Nat} {v : UInt64} (A : Arr Z h a cl ty) (q1 : cl.cls = k) (S : cl.slots.size = n.toNatClampNeg) (q3 : ¬ n < 0) (H : ∀ i, i < cl.slots.size → cl.slots[i]? = some (.double (f i))) (G : ∀ i, i < cl.slots.size → fits ty (.double (f i)) = true) (hv : fits ty (.double v) = true) (W : Wr h h' a j (.double v)) : own_Arf Z h' a k ty n (fun i => .double (own_upd f j v i)) := by
  have q := own_arfSet (f := fun i => .double (f i)) A q1 S q3 H G hv W
  have e : (own_upd (fun i => Value.double (f i)) j (.double v)) = (fun i => .double (own_upd f j v i)) := by funext i; simp only [own_upd]; split <;> rfl
  rw [← e]; exact q
theorem own_neArr {A0 : Array Value} {C : String} {kk : Nat} {f : Nat → Value} (F : Exa Z h a C) (wi : (Cond.instantiable C kk).before A0 Z = true) (G : own_Arf Z h b k ty n f) : a ≠ b := by
  obtain ⟨c, A, -⟩ := G
  exact ne_arr F wi A
theorem own_selPriv {Z s : State} {A0 args : Array Value} {y : MethodName} {n : Nat} (hZ : Z.Warmed39 s.vm) (wi : (Cond.instantiable y.cls n).before A0 Z = true) (wp : (Cond.privateMethod y).before A0 Z = true) (wm : (Cond.instanceMethod y).before A0 Z = true) (hy : y.cls ≠ "java/lang/invoke/MethodHandle" ∧ y.cls ≠ "java/lang/invoke/VarHandle") : (Cond.selects y.cls y y).before args s = true := by
  have wi' : (Cond.instantiable y.cls n).before args s = true := mvT hZ wi
  obtain ⟨c, k, h1, h2, h3, h4, -⟩ := Cond.instantiable_spec wi'
  refine selects_self_of_private h1 h2 ?_ (Cond.privateMethod_at (mvP hZ wp (args := args))) (mvT hZ wm) hy
  cases hi : k.isInterface <;> simp_all
end OwnKit

theorem own_landNN (x : Int64) : ¬ ((x &&& (9223372036854775807 : Int64)) < (0 : Int64)) := by
  have h := (c_andSL x 9223372036854775807).2.2 (by decide)
  rw [Int64.lt_iff_toInt_lt]
  have e : (0 : Int64).toInt = 0 := rfl
  omega
theorem own_rem (x : Int32) (d : Int) (y : Int32) (hy : y.toInt = d) (h0 : 0 < d) : 0 ≤ ((x &&& 2147483647) % y).toInt ∧ ((x &&& 2147483647) % y).toInt < d := by
  have h1 := c_and x 2147483647 (by decide)
  have h2 := (c_irem (x &&& 2147483647) y d hy).1 h1.1
  rw [h2]; exact ⟨Int.emod_nonneg _ (by omega), Int.emod_lt_of_pos _ h0⟩
theorem own_fldEq {args : Array Value} {s : State} {t : Term} {a : Addr} {C n d : String} {k : Int32} (h : (Jvm.Cond.eq (Term.field t C n d) (Term.int k)).value args s none s [] = some true) (ev : t.eval args s none [] s = some (.ref a)) : Fld s s.heap a C n d (.int k) := by
  refine Fld.start ?_
  have e1 := fld_at (C := C) (n := n) (dd := d) ev
  have e2 : (Term.int k).eval args s none [] s = some (.int k) := rfl
  simp only [Cond.value, e1, e2] at h
  cases hf : s.fieldOf? a C n d with
  | none => rw [hf] at h; simp at h
  | some v =>
    rw [hf] at h
    cases v <;> simp_all
theorem own_s16 (x : Int32) (h1 : -32768 ≤ x.toInt) (h2 : x.toInt < 32768) : x.toInt16.toInt32 = x := by
  have h := c_i2s x
  apply Int32.toInt_inj.mp
  omega
def own_nlz (p z : Int32) : Prop := (p.toUInt32.toNat = 0 ∧ z.toInt = 32) ∨ ∃ k : Nat, k < 32 ∧ 2 ^ k ≤ p.toUInt32.toNat ∧ p.toUInt32.toNat < 2 ^ (k + 1) ∧ z.toInt = 31 - (k : Int)
def own_nlzL (q : Int64) (z : Int32) : Prop := (q.toUInt64.toNat = 0 ∧ z.toInt = 64) ∨ ∃ k : Nat, k < 64 ∧ 2 ^ k ≤ q.toUInt64.toNat ∧ q.toUInt64.toNat < 2 ^ (k + 1) ∧ z.toInt = 63 - (k : Int)
def own_bc (q : Int64) (z : Int32) : Prop := (q.toUInt64.toNat = 0 ∧ z.toInt = 0) ∨ ∃ j : Nat, j < 8 ∧ 256 ^ j ≤ q.toUInt64.toNat ∧ q.toUInt64.toNat < 256 ^ (j + 1) ∧ z.toInt = (j : Int) + 1
theorem own_u32 (p : Int32) : p.toInt = if p.toUInt32.toNat < 2147483648 then (p.toUInt32.toNat : Int) else (p.toUInt32.toNat : Int) - 4294967296 := by
  have h := BitVec.toInt_eq_toNat_cond p.toBitVec
  have e1 : p.toInt = p.toBitVec.toInt := rfl
  have e2 : p.toUInt32.toNat = p.toBitVec.toNat := rfl
  have l := p.toBitVec.isLt
  rw [e1, e2, h]
  split <;> split <;> omega
theorem own_u64 (p : Int64) : p.toInt = if p.toUInt64.toNat < 9223372036854775808 then (p.toUInt64.toNat : Int) else (p.toUInt64.toNat : Int) - 18446744073709551616 := by
  have h := BitVec.toInt_eq_toNat_cond p.toBitVec
  have e1 : p.toInt = p.toBitVec.toInt := rfl
  have e2 : p.toUInt64.toNat = p.toBitVec.toNat := rfl
  have l := p.toBitVec.isLt
  rw [e1, e2, h]
  split <;> split <;> omega
theorem own_nst (u s b : Nat) (z z' n n' q B nb : Int32) (hq : q.toBitVec.toNat % 32 = b) (hb : 0 < b) (hB : B.toInt = (2 ^ b : Nat)) (hn : nb.toInt = -(b : Int)) (hz : z.toInt = ((u / 2 ^ s : Nat) : Int)) (h0 : 0 < u / 2 ^ s) (hl : u / 2 ^ s < 2 ^ b * 2 ^ b) (hm : n.toInt = 31 - (s : Int)) (hs : (s : Int) + b ≤ 31)
    (h : (z < B ∧ z' = z ∧ n' = n) ∨ (¬ z < B ∧ z' = ((z.toUInt32 >>> (q &&& 31).toUInt32).toInt32) ∧ n' = n + nb)) : ∃ s', s' ≤ s + b ∧ z'.toInt = ((u / 2 ^ s' : Nat) : Int) ∧ 0 < u / 2 ^ s' ∧ u / 2 ^ s' < 2 ^ b ∧ n'.toInt = 31 - (s' : Int) := by
  rw [Int32.lt_iff_toInt_lt, hB, hz] at h
  rcases h with ⟨h1, rfl, rfl⟩ | ⟨h1, rfl, rfl⟩
  · exact ⟨s, by omega, hz, h0, by omega, hm⟩
  · refine ⟨s + b, Nat.le_refl _, ?_, ?_, ?_, ?_⟩
    · rw [c_iushr z q b hq hb, hz]
      have r := rng32 z
      have e1 : ((u / 2 ^ s : Nat) : Int) % 4294967296 = ((u / 2 ^ s : Nat) : Int) := Int.emod_eq_of_lt (by omega) (by rw [← hz]; omega)
      rw [Nat.pow_add, ← Nat.div_div_eq_div_mul, e1]
      exact (Int.natCast_ediv _ _).symm
    · rw [Nat.pow_add, ← Nat.div_div_eq_div_mul]
      exact Nat.div_pos (by omega) (Nat.pow_pos (by decide))
    · rw [Nat.pow_add, ← Nat.div_div_eq_div_mul]
      exact Nat.div_lt_of_lt_mul hl
    · have h2 := c_iadd n nb
      have r := rng32 (n + nb)
      omega
theorem own_nlz1 (p0 z9 z10 z19 z20 z29 z30 z39 z40 : Int32) (c1 : (0 : Int32) < p0)
  (hj11 : ((p0 < (65536 : Int32)) ∧ z9 = p0 ∧ z10 = (31 : Int32)) ∨ ((¬ (p0 < (65536 : Int32))) ∧ z9 = ((p0.toUInt32 >>> ((16 : Int32) &&& 31).toUInt32).toInt32) ∧ z10 = (15 : Int32)))
  (hj21 : ((z9 < (256 : Int32)) ∧ z19 = z9 ∧ z20 = z10) ∨ ((¬ (z9 < (256 : Int32))) ∧ z19 = ((z9.toUInt32 >>> ((8 : Int32) &&& 31).toUInt32).toInt32) ∧ z20 = (z10 + (-8 : Int32))))
  (hj31 : ((z19 < (16 : Int32)) ∧ z29 = z19 ∧ z30 = z20) ∨ ((¬ (z19 < (16 : Int32))) ∧ z29 = ((z19.toUInt32 >>> ((4 : Int32) &&& 31).toUInt32).toInt32) ∧ z30 = (z20 + (-4 : Int32))))
  (hj41 : ((z29 < (4 : Int32)) ∧ z39 = z29 ∧ z40 = z30) ∨ ((¬ (z29 < (4 : Int32))) ∧ z39 = ((z29.toUInt32 >>> ((2 : Int32) &&& 31).toUInt32).toInt32) ∧ z40 = (z30 + (-2 : Int32)))) :
  own_nlz p0 (z40 - ((z39.toUInt32 >>> ((1 : Int32) &&& 31).toUInt32).toInt32)) := by
  rw [own_nlz]
  rw [Int32.lt_iff_toInt_lt] at c1
  have e0 : (0 : Int32).toInt = 0 := rfl
  have hu := own_u32 p0
  have r := rng32 p0
  have l : p0.toUInt32.toNat < 4294967296 := p0.toBitVec.isLt
  have hu2 : p0.toInt = (p0.toUInt32.toNat : Int) := by split at hu <;> omega
  clear hu l
  generalize p0.toUInt32.toNat = u at *
  obtain ⟨s1, l1, a1, a2, a3, a4⟩ := own_nst u 0 16 p0 z9 31 z10 16 65536 (-16) (by decide) (by decide) (by decide) (by decide) (by rw [hu2]; simp) (by simp; omega) (by simp; omega) (by decide) (by decide) (by
    rcases hj11 with h | ⟨h1, h2, h3⟩
    · exact Or.inl h
    · exact Or.inr ⟨h1, h2, h3.trans (by decide)⟩)
  obtain ⟨s2, l2, b1, b2, b3, b4⟩ := own_nst u s1 8 z9 z19 z10 z20 8 256 (-8) (by decide) (by decide) (by decide) (by decide) a1 a2 (by omega) a4 (by omega) hj21
  obtain ⟨s3, l3, d1, d2, d3, d4⟩ := own_nst u s2 4 z19 z29 z20 z30 4 16 (-4) (by decide) (by decide) (by decide) (by decide) b1 b2 (by omega) b4 (by omega) hj31
  obtain ⟨s4, l4, f1, f2, f3, f4⟩ := own_nst u s3 2 z29 z39 z30 z40 2 4 (-2) (by decide) (by decide) (by decide) (by decide) d1 d2 (by omega) d4 (by omega) hj41
  have g1 := c_iushr z39 1 1 (by decide) (by decide)
  have g2 := c_isub z40 ((z39.toUInt32 >>> ((1 : Int32) &&& 31).toUInt32).toInt32)
  have g3 := rng32 (z40 - ((z39.toUInt32 >>> ((1 : Int32) &&& 31).toUInt32).toInt32))
  have hp : 0 < 2 ^ s4 := Nat.pow_pos (by decide)
  have hle : u / 2 ^ s4 * 2 ^ s4 ≤ u := Nat.div_mul_le_self _ _
  have hlt : u < (u / 2 ^ s4 + 1) * 2 ^ s4 := by
    have := Nat.lt_div_mul_add (a := u) hp
    rw [Nat.add_mul]; omega
  clear hj11 hj21 hj31 hj41 a1 a2 a3 a4 b1 b2 b3 b4 d1 d2 d3 d4
  refine Or.inr ?_
  rcases (show u / 2 ^ s4 = 1 ∨ u / 2 ^ s4 = 2 ∨ u / 2 ^ s4 = 3 by omega) with q | q | q
  · refine ⟨s4, by omega, ?_, ?_, by rw [q] at f1; omega⟩
    · rw [q, Nat.one_mul] at hle; exact hle
    · rw [q] at hlt; rw [Nat.pow_succ, Nat.mul_comm]; exact hlt
  · refine ⟨s4 + 1, by omega, ?_, ?_, by rw [q] at f1; omega⟩
    · rw [q] at hle; rw [Nat.pow_succ, Nat.mul_comm]; exact hle
    · rw [q] at hlt; rw [Nat.pow_succ, Nat.pow_succ, Nat.mul_assoc, Nat.mul_comm]; exact Nat.lt_of_lt_of_le hlt (Nat.mul_le_mul_right _ (by decide : 2 + 1 ≤ 2 * 2))
  · refine ⟨s4 + 1, by omega, ?_, ?_, by rw [q] at f1; omega⟩
    · rw [q] at hle; rw [Nat.pow_succ, Nat.mul_comm]; exact Nat.le_trans (Nat.mul_le_mul_right _ (by decide : 2 ≤ 3)) hle
    · rw [q] at hlt; rw [Nat.pow_succ, Nat.pow_succ, Nat.mul_assoc, Nat.mul_comm]; exact hlt
theorem own_nlz2 (p0 : Int32) (c1 : ¬ ((0 : Int32) < p0)) (c42 : p0 = (0 : Int32)) : own_nlz p0 (32 : Int32) := by
  subst c42; exact Or.inl ⟨rfl, rfl⟩
theorem own_nlz3 (p0 : Int32) (c1 : ¬ ((0 : Int32) < p0)) (c42 : ¬ (p0 = (0 : Int32))) : own_nlz p0 (0 : Int32) := by
  rw [Int32.lt_iff_toInt_lt] at c1
  rw [← Int32.toInt_inj] at c42
  have e0 : (0 : Int32).toInt = 0 := rfl
  have hu := own_u32 p0
  have l : p0.toUInt32.toNat < 4294967296 := p0.toBitVec.isLt
  refine Or.inr ⟨31, by decide, ?_, ?_, by decide⟩ <;> split at hu <;> omega
theorem own_shr (q : Int64) (k : Int32) (n : Nat) (s : UInt64) (hs : (k &&& 0x3f).toInt64.toUInt64 = s) (hn : s.toNat % 64 = n) : ((q.toUInt64 >>> (k &&& 0x3f).toInt64.toUInt64).toInt64).toUInt64.toNat = q.toUInt64.toNat / 2 ^ n := by
  have e : ((q.toUInt64 >>> (k &&& 0x3f).toInt64.toUInt64).toInt64).toUInt64 = q.toUInt64 >>> (k &&& 0x3f).toInt64.toUInt64 := rfl
  rw [e, hs, UInt64.toNat_shiftRight, hn, Nat.shiftRight_eq_div_pow]
theorem own_zeroL (x : Int64) : x = (0 : Int64) ↔ x.toUInt64.toNat = 0 := by
  constructor
  · rintro rfl; rfl
  · intro h
    have := own_u64 x
    rw [← Int64.toInt_inj, this]
    have e : (0 : Int64).toInt = 0 := rfl
    split <;> omega
theorem own_l2iN (x : Int64) : x.toInt32.toUInt32.toNat = x.toUInt64.toNat % 4294967296 := by
  have h1 := c_l2i x
  have h2 := own_u32 x.toInt32
  have h3 := own_u64 x
  have l1 : x.toInt32.toUInt32.toNat < 4294967296 := x.toInt32.toBitVec.isLt
  have l2 : x.toUInt64.toNat < 18446744073709551616 := x.toBitVec.isLt
  split at h2 <;> split at h3 <;> omega
theorem own_nlzL1 (q0 : Int64) (v1 o4 : Int32) (hv1 : (((q0.toUInt64 >>> ((32 : Int32) &&& 0x3f).toInt64.toUInt64).toInt64).toInt32) = v1) (c2 : v1 = (0 : Int32)) (hp5 : own_nlz (q0.toInt32) o4) : own_nlzL q0 ((32 : Int32) + o4) := by
  have h1 := own_shr q0 32 32 32 (by decide) (by decide)
  have e1 : v1.toUInt32.toNat = ((q0.toUInt64 >>> ((32 : Int32) &&& 0x3f).toInt64.toUInt64).toInt64).toUInt64.toNat % 4294967296 := by rw [← hv1]; exact own_l2iN _
  have e2 : q0.toInt32.toUInt32.toNat = q0.toUInt64.toNat % 4294967296 := own_l2iN _
  have l : q0.toUInt64.toNat < 18446744073709551616 := q0.toBitVec.isLt
  rw [h1, c2] at e1
  have e3 : (0 : Int32).toUInt32.toNat = 0 := rfl
  rw [e3] at e1
  have h32 : (2 : Nat) ^ 32 = 4294967296 := by decide
  rw [h32] at e1
  have e4 : q0.toUInt64.toNat % 4294967296 = q0.toUInt64.toNat := by omega
  have ha := c_iadd 32 o4
  have r := rng32 ((32 : Int32) + o4)
  have e32 : (32 : Int32).toInt = 32 := rfl
  rcases hp5 with ⟨h, h'⟩ | ⟨k, k1, k2, k3, k4⟩
  · exact Or.inl ⟨by omega, by omega⟩
  · rw [e2, e4] at k2 k3
    exact Or.inr ⟨k, by omega, k2, k3, by omega⟩
theorem own_nlzL2 (q0 : Int64) (v1 o7 : Int32) (hv1 : (((q0.toUInt64 >>> ((32 : Int32) &&& 0x3f).toInt64.toUInt64).toInt64).toInt32) = v1) (c2 : ¬ v1 = (0 : Int32)) (hp8 : own_nlz v1 o7) : own_nlzL q0 o7 := by
  have h1 := own_shr q0 32 32 32 (by decide) (by decide)
  have e1 : v1.toUInt32.toNat = ((q0.toUInt64 >>> ((32 : Int32) &&& 0x3f).toInt64.toUInt64).toInt64).toUInt64.toNat % 4294967296 := by rw [← hv1]; exact own_l2iN _
  have l : q0.toUInt64.toNat < 18446744073709551616 := q0.toBitVec.isLt
  rw [h1] at e1
  have h32 : (2 : Nat) ^ 32 = 4294967296 := by decide
  rw [h32] at e1
  have e4 : v1.toUInt32.toNat = q0.toUInt64.toNat / 4294967296 := by omega
  rcases hp8 with ⟨h, h'⟩ | ⟨k, k1, k2, k3, k4⟩
  · exfalso
    apply c2
    rw [← Int32.toInt_inj, own_u32 v1, h]; rfl
  · rw [e4] at k2 k3
    refine Or.inr ⟨k + 32, by omega, ?_, ?_, by omega⟩
    · rw [Nat.pow_add, h32]
      exact (Nat.le_div_iff_mul_le (by decide)).mp k2
    · rw [show k + 32 + 1 = (k + 1) + 32 by omega, Nat.pow_add, h32]
      exact (Nat.div_lt_iff_lt_mul (by decide)).mp k3
theorem own_bcS (q : Int64) (k z : Int32) (j : Nat) (s s' : UInt64) (k' : Int32) (hj : j < 8) (hs : (k &&& 0x3f).toInt64.toUInt64 = s) (hn : s.toNat % 64 = 8 * j) (hs' : (k' &&& 0x3f).toInt64.toUInt64 = s') (hn' : s'.toNat % 64 = 8 * (j + 1)) (hz : z.toInt = (j : Int) + 1)
    (h : ¬ ((q.toUInt64 >>> (k &&& 0x3f).toInt64.toUInt64).toInt64) = (0 : Int64)) (h' : ((q.toUInt64 >>> (k' &&& 0x3f).toInt64.toUInt64).toInt64) = (0 : Int64)) : own_bc q z := by
  rw [own_zeroL, own_shr q k (8 * j) s hs hn] at h
  rw [own_zeroL, own_shr q k' (8 * (j + 1)) s' hs' hn'] at h'
  have e : ∀ i, (256 : Nat) ^ i = 2 ^ (8 * i) := fun i => by rw [Nat.pow_mul]
  refine Or.inr ⟨j, hj, ?_, ?_, hz⟩
  · rw [e]
    rcases Nat.lt_or_ge q.toUInt64.toNat (2 ^ (8 * j)) with q1 | q1
    · exact absurd (Nat.div_eq_of_lt q1) h
    · exact q1
  · rw [e]
    rcases Nat.lt_or_ge q.toUInt64.toNat (2 ^ (8 * (j + 1))) with q1 | q1
    · exact q1
    · have := Nat.div_pos q1 (Nat.pow_pos (by decide)); omega
def own_sh (v : Int64) : Nat → Int64
  | 0 => v
  | k + 1 => (((own_sh v k).toUInt64 >>> ((8 : Int32) &&& 0x3f).toInt64.toUInt64).toInt64)
def own_wr (f : Nat → Int32) (v : Int64) (n : Nat) : Nat → (Nat → Int32)
  | 0 => f
  | j + 1 => own_upd (own_wr f v n j) (n - j) (nar .byte ((own_sh v j).toInt32.toInt8.toInt32))
theorem own_bc0 (q : Int64) (c1 : ¬ q = (0 : Int64)) (h' : ((q.toUInt64 >>> ((8 : Int32) &&& 0x3f).toInt64.toUInt64).toInt64) = (0 : Int64)) : own_bc q (1 : Int32) := by
  rw [own_zeroL] at c1
  rw [own_zeroL, own_shr q 8 8 8 (by decide) (by decide)] at h'
  refine Or.inr ⟨0, by decide, by simp; omega, ?_, by decide⟩
  simp only [Nat.zero_add, Nat.pow_one]
  omega
theorem own_bc8 (q : Int64) (h : ¬ ((q.toUInt64 >>> ((56 : Int32) &&& 0x3f).toInt64.toUInt64).toInt64) = (0 : Int64)) : own_bc q (8 : Int32) := by
  rw [own_zeroL, own_shr q 56 56 56 (by decide) (by decide)] at h
  have l : q.toUInt64.toNat < 18446744073709551616 := q.toBitVec.isLt
  refine Or.inr ⟨7, by decide, ?_, ?_, by decide⟩
  · have e : (256 : Nat) ^ 7 = 72057594037927936 := by decide
    have e2 : (2 : Nat) ^ 56 = 72057594037927936 := by decide
    rw [e2] at h
    rw [e]; omega
  · have e : (256 : Nat) ^ (7 + 1) = 18446744073709551616 := by decide
    rw [e]; omega
theorem own_pow8 (i : Nat) : (256 : Nat) ^ i = 2 ^ (8 * i) := by rw [Nat.pow_mul]
theorem own_len (y : Int64) (o v : Int32) (h : own_nlzL y o) (hv : ((((64 : Int32) - o) + (7 : Int32)) / (8 : Int32)) = v) : own_bc y v ∧ 0 ≤ v.toInt ∧ v.toInt ≤ 8 := by
  have ho : 0 ≤ o.toInt ∧ o.toInt ≤ 64 := by
    rcases h with ⟨-, h⟩ | ⟨k, k1, -, -, k4⟩ <;> omega
  have h1 := c_isub 64 o
  have r1 := rng32 ((64 : Int32) - o)
  have h2 := c_iadd ((64 : Int32) - o) 7
  have r2 := rng32 (((64 : Int32) - o) + (7 : Int32))
  have e64 : (64 : Int32).toInt = 64 := rfl
  have e7 : (7 : Int32).toInt = 7 := rfl
  have h3 := (c_idiv (((64 : Int32) - o) + (7 : Int32)) 8 8 rfl (by decide)).1 (by omega)
  rw [hv] at h3
  have h4 : v.toInt = (71 - o.toInt) / 8 := by omega
  refine ⟨?_, by omega, by omega⟩
  rcases h with ⟨a, b⟩ | ⟨k, k1, k2, k3, k4⟩
  · exact Or.inl ⟨a, by omega⟩
  · refine Or.inr ⟨k / 8, by omega, ?_, ?_, by omega⟩
    · rw [own_pow8]
      exact Nat.le_trans (Nat.pow_le_pow_right (by decide) (by omega)) k2
    · rw [own_pow8]
      exact Nat.lt_of_lt_of_le k3 (Nat.pow_le_pow_right (by decide) (by omega))
theorem own_bcU (y : Int64) (a b : Int32) (ha : own_bc y a) (hb : own_bc y b) : a = b := by
  apply Int32.toInt_inj.mp
  rcases ha with ⟨a1, a2⟩ | ⟨i, i1, i2, i3, i4⟩ <;> rcases hb with ⟨b1, b2⟩ | ⟨j, j1, j2, j3, j4⟩
  · omega
  · have := Nat.pow_pos (n := j) (show 0 < 256 by decide); omega
  · have := Nat.pow_pos (n := i) (show 0 < 256 by decide); omega
  · have h1 : i < j + 1 := (Nat.pow_lt_pow_iff_right (by decide : 1 < 256)).mp (Nat.lt_of_le_of_lt i2 j3)
    have h2 : j < i + 1 := (Nat.pow_lt_pow_iff_right (by decide : 1 < 256)).mp (Nat.lt_of_le_of_lt j2 i3)
    omega
theorem own_shN (v : Int64) : ∀ k : Nat, k ≤ 7 → (own_sh v k).toUInt64.toNat = v.toUInt64.toNat / 2 ^ (8 * k)
  | 0, _ => by simp [own_sh]
  | k + 1, h => by
    rw [own_sh, own_shr (own_sh v k) 8 8 8 (by decide) (by decide), own_shN v k (by omega), Nat.div_div_eq_div_mul, ← Nat.pow_add, show 8 * (k + 1) = 8 * k + 8 by omega]
theorem own_u64inj (a b : Int64) (h : a.toUInt64.toNat = b.toUInt64.toNat) : a = b := by
  apply Int64.toInt_inj.mp
  rw [own_u64 a, own_u64 b, h]
theorem own_shE (v : Int64) (j : Nat) (k : Int32) (s : UInt64) (hj : j ≤ 7) (hs : (k &&& 0x3f).toInt64.toUInt64 = s) (hn : s.toNat % 64 = 8 * j) : own_sh v j = ((v.toUInt64 >>> (k &&& 0x3f).toInt64.toUInt64).toInt64) :=
  own_u64inj _ _ (by rw [own_shN v j hj, own_shr v k (8 * j) s hs hn])
theorem own_wrAt (f : Nat → Int32) (v : Int64) (n : Nat) (i : Nat) : ∀ m : Nat, m ≤ n → own_wr f v n m i = if n - m < i ∧ i ≤ n then nar .byte ((own_sh v (n - i)).toInt32.toInt8.toInt32) else f i
  | 0, _ => by simp only [own_wr]; rw [if_neg (by omega)]
  | m + 1, h => by
    simp only [own_wr, own_upd]
    by_cases e : i = n - m
    · rw [if_pos e, if_pos (by omega)]
      have : n - i = m := by omega
      rw [this]
    · rw [if_neg e, own_wrAt f v n i m (by omega)]
      by_cases c : n - m < i ∧ i ≤ n
      · rw [if_pos c, if_pos (by omega)]
      · rw [if_neg c, if_neg (by omega)]
theorem own_nar8 (x : Int32) : nar .byte (x.toInt8.toInt32) = x.toInt8.toInt32 := by
  show (x.toInt8.toInt32).toInt8.toInt32 = x.toInt8.toInt32
  have h := c_i2b x
  have h2 := c_i2b (x.toInt8.toInt32)
  apply Int32.toInt_inj.mp
  omega
theorem own_negM (q y : Int64) (h : q < (0 : Int64)) : (q - (1 : Int64)) = ((-q) ^^^ (-1 : Int64)) := by
  have e : ∀ x : Int64, x ^^^ (-1 : Int64) = -x - 1 := fun x => by
    apply Int64.toBitVec_inj.mp
    have e1 : (-1 : Int64).toBitVec = BitVec.allOnes 64 := by decide
    have e2 : (1 : Int64).toBitVec = 1#64 := by decide
    have e3 : (x ^^^ (-1 : Int64)).toBitVec = ~~~ x.toBitVec := by rw [Int64.toBitVec_xor, e1, BitVec.xor_allOnes]
    rw [e3, Int64.toBitVec_sub, Int64.toBitVec_neg, e2, BitVec.neg_eq_not_add, BitVec.add_sub_cancel]
  rw [e]; grind
def own_enc (q : Int64) (n : Int32) (g : Nat → Int32) : Prop := ∃ (y w : Int64) (L z : Int32) (k : Nat), ((q < (0 : Int64) ∧ y = -q ∧ w = q - (1 : Int64) ∧ z = (128 : Int32) - L) ∨ (¬ q < (0 : Int64) ∧ y = q ∧ w = q ∧ z = (128 : Int32) + L)) ∧ own_bc y L ∧ L.toInt = (k : Int) ∧ k ≤ 8 ∧ n = (1 : Int32) + L ∧ g = own_wr (own_upd (fun _ => (0 : Int32)) 0 (nar .byte (z.toInt8.toInt32))) w k k
theorem own_encI (q y w : Int64) (o v z n : Int32) (k : Nat) (h1 : ((q < (0 : Int64)) ∧ y = (-q)) ∨ ((¬ (q < (0 : Int64))) ∧ y = q)) (h2 : own_nlzL y o) (h3 : ((((64 : Int32) - o) + (7 : Int32)) / (8 : Int32)) = v) (h4 : ((q < (0 : Int64)) ∧ z = ((128 : Int32) - v)) ∨ ((¬ (q < (0 : Int64))) ∧ z = ((128 : Int32) + v))) (h5 : ((q < (0 : Int64)) ∧ w = (q - (1 : Int64))) ∨ ((¬ (q < (0 : Int64))) ∧ w = q)) (hk : v.toInt = (k : Int)) (hn : n = (1 : Int32) + v) : own_enc q n (own_wr (own_upd (fun _ => (0 : Int32)) 0 (nar .byte (z.toInt8.toInt32))) w k k) := by
  obtain ⟨b1, b2, b3⟩ := own_len y o v h2 h3
  refine ⟨y, w, v, z, k, ?_, b1, hk, by omega, hn, rfl⟩
  rcases h1 with ⟨c, e1⟩ | ⟨c, e1⟩ <;> rcases h4 with ⟨c', e4⟩ | ⟨c', e4⟩ <;> rcases h5 with ⟨c5, e5⟩ | ⟨c5, e5⟩ <;> first | exact absurd c c' | exact absurd c' c | exact absurd c c5 | exact absurd c5 c | exact Or.inl ⟨c, e1, e5, e4⟩ | exact Or.inr ⟨c, e1, e5, e4⟩
theorem own_hdr (L z : Int32) (k : Nat) (hL : L.toInt = (k : Int)) (hk : k ≤ 8) (h : z = (128 : Int32) - L ∨ z = (128 : Int32) + L) : (nar .byte (z.toInt8.toInt32)) &&& (255 : Int32) = z := by
  rw [own_nar8]
  apply Int32.toInt_inj.mp
  rw [c_mask _ 255 8 (by decide) (by decide)]
  have h1 := c_i2b z
  have h2 := c_isub 128 L
  have h3 := c_iadd 128 L
  have r := rng32 z
  have e : (128 : Int32).toInt = 128 := rfl
  rcases h with rfl | rfl <;> omega
theorem own_part (q : Int64) (n : Int32) (g : Nat → Int32) (h : own_enc q n g) (neg : Int32) (m w : Int64) (len : Int32) (hn : ((q < (0 : Int64)) ∧ neg = (1 : Int32)) ∨ ((¬ (q < (0 : Int64))) ∧ neg = (0 : Int32))) (hm : (neg = (0 : Int32) ∧ m = q) ∨ (¬ neg = (0 : Int32) ∧ m = -q)) (hl : own_bc m len) (hw : (neg = (0 : Int32) ∧ w = m) ∨ (¬ neg = (0 : Int32) ∧ w = (m ^^^ (-1 : Int64)))) :
    n = (1 : Int32) + len ∧ (g 0 &&& (255 : Int32)) = (if neg = (0 : Int32) then (128 : Int32) + len else (128 : Int32) - len) ∧ 0 ≤ len.toInt ∧ len.toInt ≤ 8 ∧ ∀ (i : Nat) (s : UInt64) (k : Int32), 1 ≤ i → (i : Int) ≤ len.toInt → (k &&& 0x3f).toInt64.toUInt64 = s → (s.toNat % 64 : Int) = 8 * (len.toInt - i) → g i = ((((w.toUInt64 >>> (k &&& 0x3f).toInt64.toUInt64).toInt64).toInt32).toInt8.toInt32) := by
  obtain ⟨y, w', L, z, k, h1, h2, h3, h4, h5, h6⟩ := h
  have key : m = y ∧ w = w' ∧ z = (if neg = (0 : Int32) then (128 : Int32) + L else (128 : Int32) - L) := by
    rcases h1 with ⟨c, rfl, rfl, rfl⟩ | ⟨c, rfl, rfl, rfl⟩
    · rcases hn with ⟨-, rfl⟩ | ⟨c', -⟩
      · rcases hm with ⟨a, -⟩ | ⟨-, rfl⟩
        · exact absurd a (by decide)
        · rcases hw with ⟨a, -⟩ | ⟨-, rfl⟩
          · exact absurd a (by decide)
          · exact ⟨rfl, (own_negM q q c).symm, rfl⟩
      · exact absurd c c'
    · rcases hn with ⟨c', -⟩ | ⟨-, rfl⟩
      · exact absurd c' c
      · rcases hm with ⟨-, rfl⟩ | ⟨a, -⟩
        · rcases hw with ⟨-, rfl⟩ | ⟨a, -⟩
          · exact ⟨rfl, rfl, rfl⟩
          · exact absurd rfl a
        · exact absurd rfl a
  obtain ⟨rfl, rfl, hz⟩ := key
  obtain rfl := own_bcU m L len h2 hl
  refine ⟨h5, ?_, by omega, by omega, ?_⟩
  · rw [h6, own_wrAt _ _ _ _ k (Nat.le_refl k), if_neg (by omega)]
    show (nar .byte (z.toInt8.toInt32)) &&& (255 : Int32) = _
    rw [own_hdr L z k h3 h4 (by rw [hz]; split <;> simp), hz]
  · intro i s kk i1 i2 hs hsn
    rw [h6, own_wrAt _ _ _ _ k (Nat.le_refl k), if_pos (by omega), own_nar8, own_shE w (k - i) kk s (by omega) hs (by omega)]
theorem own_amt (o c : Int32) (i : Nat) (hc : c.toInt = (i : Int)) (h1 : (i : Int) ≤ o.toInt) (h2 : o.toInt ≤ 8) (h3 : 1 ≤ i) : (((((8 : Int32) * (o - c)) &&& 0x3f).toInt64.toUInt64.toNat % 64 : Nat) : Int) = 8 * (o.toInt - i) := by
  have h4 := c_isub o c
  have r := rng32 (o - c)
  have h5 : (o - c).toInt = o.toInt - i := by omega
  rw [← h5]
  generalize o - c = d at *
  have key : ∀ j : Int32, d.toInt = j.toInt → (((((8 : Int32) * j) &&& 0x3f).toInt64.toUInt64.toNat % 64 : Nat) : Int) = 8 * j.toInt → (((((8 : Int32) * d) &&& 0x3f).toInt64.toUInt64.toNat % 64 : Nat) : Int) = 8 * d.toInt := fun j hj q => by rw [Int32.toInt_inj.mp hj]; exact q
  rcases (show d.toInt = 0 ∨ d.toInt = 1 ∨ d.toInt = 2 ∨ d.toInt = 3 ∨ d.toInt = 4 ∨ d.toInt = 5 ∨ d.toInt = 6 ∨ d.toInt = 7 by omega) with q | q | q | q | q | q | q | q
  · exact key 0 q (by decide)
  · exact key 1 q (by decide)
  · exact key 2 q (by decide)
  · exact key 3 q (by decide)
  · exact key 4 q (by decide)
  · exact key 5 q (by decide)
  · exact key 6 q (by decide)
  · exact key 7 q (by decide)
theorem d4_0 : decode jdk_33_method_47_code 0 = .ok (.iload_n 0, 1) := by decide +kernel
theorem d4_1 : decode jdk_33_method_47_code 1 = .ok (.ifCond .gt 14, 3) := by decide +kernel
theorem d4_4 : decode jdk_33_method_47_code 4 = .ok (.iload_n 0, 1) := by decide +kernel
theorem d4_5 : decode jdk_33_method_47_code 5 = .ok (.ifCond .ne 8, 3) := by decide +kernel
theorem d4_8 : decode jdk_33_method_47_code 8 = .ok (.bipush 32, 2) := by decide +kernel
theorem d4_10 : decode jdk_33_method_47_code 10 = .ok (.goto 4, 3) := by decide +kernel
theorem d4_13 : decode jdk_33_method_47_code 13 = .ok (.iconst 0, 1) := by decide +kernel
theorem d4_14 : decode jdk_33_method_47_code 14 = .ok (.ireturn, 1) := by decide +kernel
theorem d4_15 : decode jdk_33_method_47_code 15 = .ok (.bipush 31, 2) := by decide +kernel
theorem d4_17 : decode jdk_33_method_47_code 17 = .ok (.istore_n 1, 1) := by decide +kernel
theorem d4_18 : decode jdk_33_method_47_code 18 = .ok (.iload_n 0, 1) := by decide +kernel
theorem d4_19 : decode jdk_33_method_47_code 19 = .ok (.ldc_w 264, 3) := by decide +kernel
theorem d4_22 : decode jdk_33_method_47_code 22 = .ok (.if_icmp .lt 11, 3) := by decide +kernel
theorem d4_25 : decode jdk_33_method_47_code 25 = .ok (.iinc 1 (-16), 3) := by decide +kernel
theorem d4_28 : decode jdk_33_method_47_code 28 = .ok (.iload_n 0, 1) := by decide +kernel
theorem d4_29 : decode jdk_33_method_47_code 29 = .ok (.bipush 16, 2) := by decide +kernel
theorem d4_31 : decode jdk_33_method_47_code 31 = .ok (.iushr, 1) := by decide +kernel
theorem d4_32 : decode jdk_33_method_47_code 32 = .ok (.istore_n 0, 1) := by decide +kernel
theorem d4_33 : decode jdk_33_method_47_code 33 = .ok (.iload_n 0, 1) := by decide +kernel
theorem d4_34 : decode jdk_33_method_47_code 34 = .ok (.sipush 256, 3) := by decide +kernel
theorem d4_37 : decode jdk_33_method_47_code 37 = .ok (.if_icmp .lt 11, 3) := by decide +kernel
theorem d4_40 : decode jdk_33_method_47_code 40 = .ok (.iinc 1 (-8), 3) := by decide +kernel
theorem d4_43 : decode jdk_33_method_47_code 43 = .ok (.iload_n 0, 1) := by decide +kernel
theorem d4_44 : decode jdk_33_method_47_code 44 = .ok (.bipush 8, 2) := by decide +kernel
theorem d4_46 : decode jdk_33_method_47_code 46 = .ok (.iushr, 1) := by decide +kernel
theorem d4_47 : decode jdk_33_method_47_code 47 = .ok (.istore_n 0, 1) := by decide +kernel
theorem d4_48 : decode jdk_33_method_47_code 48 = .ok (.iload_n 0, 1) := by decide +kernel
theorem d4_49 : decode jdk_33_method_47_code 49 = .ok (.bipush 16, 2) := by decide +kernel
theorem d4_51 : decode jdk_33_method_47_code 51 = .ok (.if_icmp .lt 10, 3) := by decide +kernel
theorem d4_54 : decode jdk_33_method_47_code 54 = .ok (.iinc 1 (-4), 3) := by decide +kernel
theorem d4_57 : decode jdk_33_method_47_code 57 = .ok (.iload_n 0, 1) := by decide +kernel
theorem d4_58 : decode jdk_33_method_47_code 58 = .ok (.iconst 4, 1) := by decide +kernel
theorem d4_59 : decode jdk_33_method_47_code 59 = .ok (.iushr, 1) := by decide +kernel
theorem d4_60 : decode jdk_33_method_47_code 60 = .ok (.istore_n 0, 1) := by decide +kernel
theorem d4_61 : decode jdk_33_method_47_code 61 = .ok (.iload_n 0, 1) := by decide +kernel
theorem d4_62 : decode jdk_33_method_47_code 62 = .ok (.iconst 4, 1) := by decide +kernel
theorem d4_63 : decode jdk_33_method_47_code 63 = .ok (.if_icmp .lt 10, 3) := by decide +kernel
theorem d4_66 : decode jdk_33_method_47_code 66 = .ok (.iinc 1 (-2), 3) := by decide +kernel
theorem d4_69 : decode jdk_33_method_47_code 69 = .ok (.iload_n 0, 1) := by decide +kernel
theorem d4_70 : decode jdk_33_method_47_code 70 = .ok (.iconst 2, 1) := by decide +kernel
theorem d4_71 : decode jdk_33_method_47_code 71 = .ok (.iushr, 1) := by decide +kernel
theorem d4_72 : decode jdk_33_method_47_code 72 = .ok (.istore_n 0, 1) := by decide +kernel
theorem d4_73 : decode jdk_33_method_47_code 73 = .ok (.iload_n 1, 1) := by decide +kernel
theorem d4_74 : decode jdk_33_method_47_code 74 = .ok (.iload_n 0, 1) := by decide +kernel
theorem d4_75 : decode jdk_33_method_47_code 75 = .ok (.iconst 1, 1) := by decide +kernel
theorem d4_76 : decode jdk_33_method_47_code 76 = .ok (.iushr, 1) := by decide +kernel
theorem d4_77 : decode jdk_33_method_47_code 77 = .ok (.isub, 1) := by decide +kernel
theorem d4_78 : decode jdk_33_method_47_code 78 = .ok (.ireturn, 1) := by decide +kernel
theorem pn_4 : plainName "java/lang/Integer" = true := by first | (simp [plainName, overriddenIn]; done) | decide +kernel
theorem ef_4 (m : MethodId) (p0 : Int32) : entryFrame m #[(.int p0)] 2 = mkF m 0 #[.val (.int p0), .unset] [] := by first | (simp [entryFrame, mkF, argsToLocals, Value.category]; done) | rfl
theorem ob_4_1 (p0 : Int32) (z9 : Int32) (z10 : Int32) (z19 : Int32) (z20 : Int32) (z29 : Int32) (z30 : Int32) (z39 : Int32) (z40 : Int32) (c1 : (0 : Int32) < p0) (hj11 : ((p0 < (65536 : Int32)) ∧ z9 = p0 ∧ z10 = (31 : Int32)) ∨ ((¬ (p0 < (65536 : Int32))) ∧ z9 = ((p0.toUInt32 >>> ((16 : Int32) &&& 31).toUInt32).toInt32) ∧ z10 = (15 : Int32))) (hj21 : ((z9 < (256 : Int32)) ∧ z19 = z9 ∧ z20 = z10) ∨ ((¬ (z9 < (256 : Int32))) ∧ z19 = ((z9.toUInt32 >>> ((8 : Int32) &&& 31).toUInt32).toInt32) ∧ z20 = (z10 + (-8 : Int32)))) (hj31 : ((z19 < (16 : Int32)) ∧ z29 = z19 ∧ z30 = z20) ∨ ((¬ (z19 < (16 : Int32))) ∧ z29 = ((z19.toUInt32 >>> ((4 : Int32) &&& 31).toUInt32).toInt32) ∧ z30 = (z20 + (-4 : Int32)))) (hj41 : ((z29 < (4 : Int32)) ∧ z39 = z29 ∧ z40 = z30) ∨ ((¬ (z29 < (4 : Int32))) ∧ z39 = ((z29.toUInt32 >>> ((2 : Int32) &&& 31).toUInt32).toInt32) ∧ z40 = (z30 + (-2 : Int32)))) : own_nlz p0 (z40 - ((z39.toUInt32 >>> ((1 : Int32) &&& 31).toUInt32).toInt32)) := by
  exact own_nlz1 _ _ _ _ _ _ _ _ _ c1 hj11 hj21 hj31 hj41
theorem ob_4_2 (p0 : Int32) (c1 : ¬ ((0 : Int32) < p0)) (c42 : p0 = (0 : Int32)) : own_nlz p0 (32 : Int32) := by
  exact own_nlz2 _ c1 c42
theorem ob_4_3 (p0 : Int32) (c1 : ¬ ((0 : Int32) < p0)) (c42 : ¬ (p0 = (0 : Int32))) : own_nlz p0 (0 : Int32) := by
  exact own_nlz3 _ c1 c42
def Q4 (Z : State) (p0 : Int32) (h0 : Heap) (n0 : Nat) (v : Option Value) (h : Heap) (L : List Loc) : Prop := ∃ (zz : Int32), v = some (.int zz) ∧ Fr n0 L ∧ h = h0 ∧ (own_nlz p0 zz)
set_option maxRecDepth 65536 in
set_option maxHeartbeats 40000000 in
theorem rm4 (l : Launch) (Z : State) (A0 : Array Value) (hw : ∀ d ∈ tables_1, d.before A0 Z = true) (ws : List Jvm.Cond) (p0 : Int32) (h0 : Heap) (n0 : Nat) (Z0 : n0 ≤ h0.size) :
    MetFree l (⟨"java/lang/Integer", "numberOfLeadingZeros", "(I)I"⟩ : MethodName) (head1 (Jvm.Cond.code (⟨"java/lang/Integer", "numberOfLeadingZeros", "(I)I"⟩ : MethodName) jdk_33_method_47_code 2 (some .int) :: ws) ({ frames := 0, cells := 0, slots := 0, locals := 0 } : Room)) (fun a U => a = #[(.int p0)] ∧ Z.Warmed39 U.vm ∧ U.heap = h0) (fun _ _ _ _ _ => True) (fun _ U o U' => ∃ v L, o = .returned v ∧ Q4 Z p0 h0 n0 v U'.heap L ∧ FrameEnd U o U' L 0 0) := by
  refine MetFree.of_bodySF (plainFor_of_name pn_4) hisR ?_
  intro p e s m args below meth c s₁ Bd hml0 hP hK
  obtain ⟨rfl, hZ, hh⟩ := hP
  have hwd := fun i {d : Jvm.Cond} (h : tables_1[i]? = some d) => hw d (List.mem_of_getElem? h)
  have hx := Bd.exec
  have hby := Bd.bytes
  have hml : c.maxLocals = 2 := hml0
  have hlk : meth.locks = false := Bd.notSynchronized
  have hown : s.vm.findClass "java/lang/Integer" = some m.cls := findClass_of_methodNamed Bd.named
  have hnm := (name_of_methodNamed Bd.named Bd.method).1
  have X0 : Stand p l e ({ frames := 0, cells := 0, slots := 0, locals := 0 } : Room) s m #[(.int p0)] below meth c s₁ [] 0 0 := Stand.of_body Bd
  have e0 : s₁.heap = h0 := by rw [← hh, Bd.state]; rfl
  have N0 := Fr.nil n0
  show own_Go p e below (own_Fin s 0 0 (Q4 Z p0 h0 n0)) _
  refine own_by (fun t k => castTop (ef_4 m p0) k) ?_
  show own_Go p e below _ (s₁.setTop (mkF m 0 #[.val (.int p0), .unset] []))
  refine own_by (fun _ k => XS.iloadN X0.here hx rfl (hb hby d4_0) rfl k) ?_
  show own_Go p e below _ (s₁.setTop (mkF m 1 #[.val (.int p0), .unset] [(.int p0)]))
  by_cases c1 : (0 : Int32) < p0
  · skip
    refine own_by (fun _ k => XS.ifYes X0.here hx rfl (pc0 := 1) (pc' := 15) rfl (hb hby d4_1) rfl ((if0 _ _).trans (tlt c1).2.2.1) (by decide) (by decide) k) ?_
    show own_Go p e below _ (s₁.setTop (mkF m 15 #[.val (.int p0), .unset] []))
    refine own_by (fun _ k => XS.bipush X0.here hx rfl (hb hby d4_15) k) ?_
    show own_Go p e below _ (s₁.setTop (mkF m 17 #[.val (.int p0), .unset] [(.int (31 : Int32))]))
    refine own_by (fun _ k => XS.istoreN X0.here hx rfl (hb hby d4_17) rfl (l' := #[.val (.int p0), .val (.int (31 : Int32))]) rfl k) ?_
    show own_Go p e below _ (s₁.setTop (mkF m 18 #[.val (.int p0), .val (.int (31 : Int32))] []))
    refine own_by (fun _ k => XS.iloadN X0.here hx rfl (hb hby d4_18) rfl k) ?_
    show own_Go p e below _ (s₁.setTop (mkF m 19 #[.val (.int p0), .val (.int (31 : Int32))] [(.int p0)]))
    refine own_by (fun t k => X0.ldcwInt hx hown (mvT hZ (hwd 24 rfl)) (g := (mkF m 19 #[.val (.int p0), .val (.int (31 : Int32))] [(.int p0)])) rfl (hb hby d4_19) _ k) ?_
    show own_Go p e below _ (s₁.setTop (mkF m 22 #[.val (.int p0), .val (.int (31 : Int32))] [(.int (65536 : Int32)), (.int p0)]))
    have J3 : ∀ (T4 : State) (L5 : List Loc) (z9 : Int32) (z10 : Int32), Stand p l e ({ frames := 0, cells := 0, slots := 0, locals := 0 } : Room) s m #[(.int p0)] below meth c T4 L5 0 0 → T4.heap = h0 → Fr n0 L5 → (((p0 < (65536 : Int32)) ∧ z9 = p0 ∧ z10 = (31 : Int32)) ∨ ((¬ (p0 < (65536 : Int32))) ∧ z9 = ((p0.toUInt32 >>> ((16 : Int32) &&& 31).toUInt32).toInt32) ∧ z10 = (15 : Int32))) → own_Go p e below (own_Fin s 0 0 (Q4 Z p0 h0 n0)) (T4.setTop (mkF m 33 #[.val (.int z9), .val (.int z10)] [])) := by
      intro T4 L5 z9 z10 X6 e7 N8 hj11
      refine own_by (fun _ k => XS.iloadN X6.here hx rfl (hb hby d4_33) rfl k) ?_
      show own_Go p e below _ (T4.setTop (mkF m 34 #[.val (.int z9), .val (.int z10)] [(.int z9)]))
      refine own_by (fun _ k => XS.sipush X6.here hx rfl (hb hby d4_34) k) ?_
      show own_Go p e below _ (T4.setTop (mkF m 37 #[.val (.int z9), .val (.int z10)] [(.int (256 : Int32)), (.int z9)]))
      have J13 : ∀ (T14 : State) (L15 : List Loc) (z19 : Int32) (z20 : Int32), Stand p l e ({ frames := 0, cells := 0, slots := 0, locals := 0 } : Room) s m #[(.int p0)] below meth c T14 L15 0 0 → T14.heap = h0 → Fr n0 L15 → (((z9 < (256 : Int32)) ∧ z19 = z9 ∧ z20 = z10) ∨ ((¬ (z9 < (256 : Int32))) ∧ z19 = ((z9.toUInt32 >>> ((8 : Int32) &&& 31).toUInt32).toInt32) ∧ z20 = (z10 + (-8 : Int32)))) → own_Go p e below (own_Fin s 0 0 (Q4 Z p0 h0 n0)) (T14.setTop (mkF m 48 #[.val (.int z19), .val (.int z20)] [])) := by
        intro T14 L15 z19 z20 X16 e17 N18 hj21
        refine own_by (fun _ k => XS.iloadN X16.here hx rfl (hb hby d4_48) rfl k) ?_
        show own_Go p e below _ (T14.setTop (mkF m 49 #[.val (.int z19), .val (.int z20)] [(.int z19)]))
        refine own_by (fun _ k => XS.bipush X16.here hx rfl (hb hby d4_49) k) ?_
        show own_Go p e below _ (T14.setTop (mkF m 51 #[.val (.int z19), .val (.int z20)] [(.int (16 : Int32)), (.int z19)]))
        have J23 : ∀ (T24 : State) (L25 : List Loc) (z29 : Int32) (z30 : Int32), Stand p l e ({ frames := 0, cells := 0, slots := 0, locals := 0 } : Room) s m #[(.int p0)] below meth c T24 L25 0 0 → T24.heap = h0 → Fr n0 L25 → (((z19 < (16 : Int32)) ∧ z29 = z19 ∧ z30 = z20) ∨ ((¬ (z19 < (16 : Int32))) ∧ z29 = ((z19.toUInt32 >>> ((4 : Int32) &&& 31).toUInt32).toInt32) ∧ z30 = (z20 + (-4 : Int32)))) → own_Go p e below (own_Fin s 0 0 (Q4 Z p0 h0 n0)) (T24.setTop (mkF m 61 #[.val (.int z29), .val (.int z30)] [])) := by
          intro T24 L25 z29 z30 X26 e27 N28 hj31
          refine own_by (fun _ k => XS.iloadN X26.here hx rfl (hb hby d4_61) rfl k) ?_
          show own_Go p e below _ (T24.setTop (mkF m 62 #[.val (.int z29), .val (.int z30)] [(.int z29)]))
          refine own_by (fun _ k => XS.iconst X26.here hx rfl (hb hby d4_62) k) ?_
          show own_Go p e below _ (T24.setTop (mkF m 63 #[.val (.int z29), .val (.int z30)] [(.int (4 : Int32)), (.int z29)]))
          have J33 : ∀ (T34 : State) (L35 : List Loc) (z39 : Int32) (z40 : Int32), Stand p l e ({ frames := 0, cells := 0, slots := 0, locals := 0 } : Room) s m #[(.int p0)] below meth c T34 L35 0 0 → T34.heap = h0 → Fr n0 L35 → (((z29 < (4 : Int32)) ∧ z39 = z29 ∧ z40 = z30) ∨ ((¬ (z29 < (4 : Int32))) ∧ z39 = ((z29.toUInt32 >>> ((2 : Int32) &&& 31).toUInt32).toInt32) ∧ z40 = (z30 + (-2 : Int32)))) → own_Go p e below (own_Fin s 0 0 (Q4 Z p0 h0 n0)) (T34.setTop (mkF m 73 #[.val (.int z39), .val (.int z40)] [])) := by
            intro T34 L35 z39 z40 X36 e37 N38 hj41
            refine own_by (fun _ k => XS.iloadN X36.here hx rfl (hb hby d4_73) rfl k) ?_
            show own_Go p e below _ (T34.setTop (mkF m 74 #[.val (.int z39), .val (.int z40)] [(.int z40)]))
            refine own_by (fun _ k => XS.iloadN X36.here hx rfl (hb hby d4_74) rfl k) ?_
            show own_Go p e below _ (T34.setTop (mkF m 75 #[.val (.int z39), .val (.int z40)] [(.int z39), (.int z40)]))
            refine own_by (fun _ k => XS.iconst X36.here hx rfl (hb hby d4_75) k) ?_
            show own_Go p e below _ (T34.setTop (mkF m 76 #[.val (.int z39), .val (.int z40)] [(.int (1 : Int32)), (.int z39), (.int z40)]))
            refine own_by (fun _ k => XS.iushr X36.here hx rfl (hb hby d4_76) rfl k) ?_
            show own_Go p e below _ (T34.setTop (mkF m 77 #[.val (.int z39), .val (.int z40)] [(.int ((z39.toUInt32 >>> ((1 : Int32) &&& 31).toUInt32).toInt32)), (.int z40)]))
            refine own_by (fun _ k => XS.isub X36.here hx rfl (hb hby d4_77) rfl k) ?_
            show own_Go p e below _ (T34.setTop (mkF m 78 #[.val (.int z39), .val (.int z40)] [(.int (z40 - ((z39.toUInt32 >>> ((1 : Int32) &&& 31).toUInt32).toInt32)))]))
            exact own_retI X36 hx Bd.returns (hb hby d4_78) hlk e37 ⟨_, rfl, N38, rfl, (ob_4_1 p0 z9 z10 z19 z20 z29 z30 z39 z40 c1 hj11 hj21 hj31 hj41)⟩ (by decide) (by decide)
          by_cases c32 : z29 < (4 : Int32)
          · skip
            refine own_by (fun _ k => XS.icmpYes X26.here hx rfl (pc0 := 63) (pc' := 73) rfl (hb hby d4_63) rfl (tlt c32).1 (by decide) (by decide) k) ?_
            show own_Go p e below _ (T24.setTop (mkF m 73 #[.val (.int z29), .val (.int z30)] []))
            exact J33 _ _ z29 z30 X26 e27 N28 (Or.inl ⟨c32, rfl, rfl⟩)
          · skip
            refine own_by (fun _ k => XS.icmpNo X26.here hx rfl (hb hby d4_63) rfl (flt c32).1 k) ?_
            show own_Go p e below _ (T24.setTop (mkF m 66 #[.val (.int z29), .val (.int z30)] []))
            refine own_by (fun _ k => XS.iinc X26.here hx rfl (hb hby d4_66) rfl (l' := #[.val (.int z29), .val (.int (z30 + (-2 : Int32)))]) rfl k) ?_
            show own_Go p e below _ (T24.setTop (mkF m 69 #[.val (.int z29), .val (.int (z30 + (-2 : Int32)))] []))
            refine own_by (fun _ k => XS.iloadN X26.here hx rfl (hb hby d4_69) rfl k) ?_
            show own_Go p e below _ (T24.setTop (mkF m 70 #[.val (.int z29), .val (.int (z30 + (-2 : Int32)))] [(.int z29)]))
            refine own_by (fun _ k => XS.iconst X26.here hx rfl (hb hby d4_70) k) ?_
            show own_Go p e below _ (T24.setTop (mkF m 71 #[.val (.int z29), .val (.int (z30 + (-2 : Int32)))] [(.int (2 : Int32)), (.int z29)]))
            refine own_by (fun _ k => XS.iushr X26.here hx rfl (hb hby d4_71) rfl k) ?_
            show own_Go p e below _ (T24.setTop (mkF m 72 #[.val (.int z29), .val (.int (z30 + (-2 : Int32)))] [(.int ((z29.toUInt32 >>> ((2 : Int32) &&& 31).toUInt32).toInt32))]))
            refine own_by (fun _ k => XS.istoreN X26.here hx rfl (hb hby d4_72) rfl (l' := #[.val (.int ((z29.toUInt32 >>> ((2 : Int32) &&& 31).toUInt32).toInt32)), .val (.int (z30 + (-2 : Int32)))]) rfl k) ?_
            show own_Go p e below _ (T24.setTop (mkF m 73 #[.val (.int ((z29.toUInt32 >>> ((2 : Int32) &&& 31).toUInt32).toInt32)), .val (.int (z30 + (-2 : Int32)))] []))
            exact J33 _ _ (((z29.toUInt32 >>> ((2 : Int32) &&& 31).toUInt32).toInt32)) ((z30 + (-2 : Int32))) X26 e27 N28 (Or.inr (⟨c32, rfl, rfl⟩))
        by_cases c22 : z19 < (16 : Int32)
        · skip
          refine own_by (fun _ k => XS.icmpYes X16.here hx rfl (pc0 := 51) (pc' := 61) rfl (hb hby d4_51) rfl (tlt c22).1 (by decide) (by decide) k) ?_
          show own_Go p e below _ (T14.setTop (mkF m 61 #[.val (.int z19), .val (.int z20)] []))
          exact J23 _ _ z19 z20 X16 e17 N18 (Or.inl ⟨c22, rfl, rfl⟩)
        · skip
          refine own_by (fun _ k => XS.icmpNo X16.here hx rfl (hb hby d4_51) rfl (flt c22).1 k) ?_
          show own_Go p e below _ (T14.setTop (mkF m 54 #[.val (.int z19), .val (.int z20)] []))
          refine own_by (fun _ k => XS.iinc X16.here hx rfl (hb hby d4_54) rfl (l' := #[.val (.int z19), .val (.int (z20 + (-4 : Int32)))]) rfl k) ?_
          show own_Go p e below _ (T14.setTop (mkF m 57 #[.val (.int z19), .val (.int (z20 + (-4 : Int32)))] []))
          refine own_by (fun _ k => XS.iloadN X16.here hx rfl (hb hby d4_57) rfl k) ?_
          show own_Go p e below _ (T14.setTop (mkF m 58 #[.val (.int z19), .val (.int (z20 + (-4 : Int32)))] [(.int z19)]))
          refine own_by (fun _ k => XS.iconst X16.here hx rfl (hb hby d4_58) k) ?_
          show own_Go p e below _ (T14.setTop (mkF m 59 #[.val (.int z19), .val (.int (z20 + (-4 : Int32)))] [(.int (4 : Int32)), (.int z19)]))
          refine own_by (fun _ k => XS.iushr X16.here hx rfl (hb hby d4_59) rfl k) ?_
          show own_Go p e below _ (T14.setTop (mkF m 60 #[.val (.int z19), .val (.int (z20 + (-4 : Int32)))] [(.int ((z19.toUInt32 >>> ((4 : Int32) &&& 31).toUInt32).toInt32))]))
          refine own_by (fun _ k => XS.istoreN X16.here hx rfl (hb hby d4_60) rfl (l' := #[.val (.int ((z19.toUInt32 >>> ((4 : Int32) &&& 31).toUInt32).toInt32)), .val (.int (z20 + (-4 : Int32)))]) rfl k) ?_
          show own_Go p e below _ (T14.setTop (mkF m 61 #[.val (.int ((z19.toUInt32 >>> ((4 : Int32) &&& 31).toUInt32).toInt32)), .val (.int (z20 + (-4 : Int32)))] []))
          exact J23 _ _ (((z19.toUInt32 >>> ((4 : Int32) &&& 31).toUInt32).toInt32)) ((z20 + (-4 : Int32))) X16 e17 N18 (Or.inr (⟨c22, rfl, rfl⟩))
      by_cases c12 : z9 < (256 : Int32)
      · skip
        refine own_by (fun _ k => XS.icmpYes X6.here hx rfl (pc0 := 37) (pc' := 48) rfl (hb hby d4_37) rfl (tlt c12).1 (by decide) (by decide) k) ?_
        show own_Go p e below _ (T4.setTop (mkF m 48 #[.val (.int z9), .val (.int z10)] []))
        exact J13 _ _ z9 z10 X6 e7 N8 (Or.inl ⟨c12, rfl, rfl⟩)
      · skip
        refine own_by (fun _ k => XS.icmpNo X6.here hx rfl (hb hby d4_37) rfl (flt c12).1 k) ?_
        show own_Go p e below _ (T4.setTop (mkF m 40 #[.val (.int z9), .val (.int z10)] []))
        refine own_by (fun _ k => XS.iinc X6.here hx rfl (hb hby d4_40) rfl (l' := #[.val (.int z9), .val (.int (z10 + (-8 : Int32)))]) rfl k) ?_
        show own_Go p e below _ (T4.setTop (mkF m 43 #[.val (.int z9), .val (.int (z10 + (-8 : Int32)))] []))
        refine own_by (fun _ k => XS.iloadN X6.here hx rfl (hb hby d4_43) rfl k) ?_
        show own_Go p e below _ (T4.setTop (mkF m 44 #[.val (.int z9), .val (.int (z10 + (-8 : Int32)))] [(.int z9)]))
        refine own_by (fun _ k => XS.bipush X6.here hx rfl (hb hby d4_44) k) ?_
        show own_Go p e below _ (T4.setTop (mkF m 46 #[.val (.int z9), .val (.int (z10 + (-8 : Int32)))] [(.int (8 : Int32)), (.int z9)]))
        refine own_by (fun _ k => XS.iushr X6.here hx rfl (hb hby d4_46) rfl k) ?_
        show own_Go p e below _ (T4.setTop (mkF m 47 #[.val (.int z9), .val (.int (z10 + (-8 : Int32)))] [(.int ((z9.toUInt32 >>> ((8 : Int32) &&& 31).toUInt32).toInt32))]))
        refine own_by (fun _ k => XS.istoreN X6.here hx rfl (hb hby d4_47) rfl (l' := #[.val (.int ((z9.toUInt32 >>> ((8 : Int32) &&& 31).toUInt32).toInt32)), .val (.int (z10 + (-8 : Int32)))]) rfl k) ?_
        show own_Go p e below _ (T4.setTop (mkF m 48 #[.val (.int ((z9.toUInt32 >>> ((8 : Int32) &&& 31).toUInt32).toInt32)), .val (.int (z10 + (-8 : Int32)))] []))
        exact J13 _ _ (((z9.toUInt32 >>> ((8 : Int32) &&& 31).toUInt32).toInt32)) ((z10 + (-8 : Int32))) X6 e7 N8 (Or.inr (⟨c12, rfl, rfl⟩))
    by_cases c2 : p0 < (65536 : Int32)
    · skip
      refine own_by (fun _ k => XS.icmpYes X0.here hx rfl (pc0 := 22) (pc' := 33) rfl (hb hby d4_22) rfl (tlt c2).1 (by decide) (by decide) k) ?_
      show own_Go p e below _ (s₁.setTop (mkF m 33 #[.val (.int p0), .val (.int (31 : Int32))] []))
      exact J3 _ _ p0 (31 : Int32) X0 e0 N0 (Or.inl ⟨c2, rfl, rfl⟩)
    · skip
      refine own_by (fun _ k => XS.icmpNo X0.here hx rfl (hb hby d4_22) rfl (flt c2).1 k) ?_
      show own_Go p e below _ (s₁.setTop (mkF m 25 #[.val (.int p0), .val (.int (31 : Int32))] []))
      refine own_by (fun _ k => XS.iinc X0.here hx rfl (hb hby d4_25) rfl (l' := #[.val (.int p0), .val (.int (15 : Int32))]) rfl k) ?_
      show own_Go p e below _ (s₁.setTop (mkF m 28 #[.val (.int p0), .val (.int (15 : Int32))] []))
      refine own_by (fun _ k => XS.iloadN X0.here hx rfl (hb hby d4_28) rfl k) ?_
      show own_Go p e below _ (s₁.setTop (mkF m 29 #[.val (.int p0), .val (.int (15 : Int32))] [(.int p0)]))
      refine own_by (fun _ k => XS.bipush X0.here hx rfl (hb hby d4_29) k) ?_
      show own_Go p e below _ (s₁.setTop (mkF m 31 #[.val (.int p0), .val (.int (15 : Int32))] [(.int (16 : Int32)), (.int p0)]))
      refine own_by (fun _ k => XS.iushr X0.here hx rfl (hb hby d4_31) rfl k) ?_
      show own_Go p e below _ (s₁.setTop (mkF m 32 #[.val (.int p0), .val (.int (15 : Int32))] [(.int ((p0.toUInt32 >>> ((16 : Int32) &&& 31).toUInt32).toInt32))]))
      refine own_by (fun _ k => XS.istoreN X0.here hx rfl (hb hby d4_32) rfl (l' := #[.val (.int ((p0.toUInt32 >>> ((16 : Int32) &&& 31).toUInt32).toInt32)), .val (.int (15 : Int32))]) rfl k) ?_
      show own_Go p e below _ (s₁.setTop (mkF m 33 #[.val (.int ((p0.toUInt32 >>> ((16 : Int32) &&& 31).toUInt32).toInt32)), .val (.int (15 : Int32))] []))
      exact J3 _ _ (((p0.toUInt32 >>> ((16 : Int32) &&& 31).toUInt32).toInt32)) (15 : Int32) X0 e0 N0 (Or.inr (⟨c2, rfl, rfl⟩))
  · skip
    refine own_by (fun _ k => XS.ifNo X0.here hx rfl (hb hby d4_1) rfl ((if0 _ _).trans (flt c1).2.2.1) k) ?_
    show own_Go p e below _ (s₁.setTop (mkF m 4 #[.val (.int p0), .unset] []))
    refine own_by (fun _ k => XS.iloadN X0.here hx rfl (hb hby d4_4) rfl k) ?_
    show own_Go p e below _ (s₁.setTop (mkF m 5 #[.val (.int p0), .unset] [(.int p0)]))
    by_cases c42 : p0 = (0 : Int32)
    · skip
      refine own_by (fun _ k => XS.ifNo X0.here hx rfl (hb hby d4_5) rfl ((if0 _ _).trans (teq c42).2) k) ?_
      show own_Go p e below _ (s₁.setTop (mkF m 8 #[.val (.int p0), .unset] []))
      refine own_by (fun _ k => XS.bipush X0.here hx rfl (hb hby d4_8) k) ?_
      show own_Go p e below _ (s₁.setTop (mkF m 10 #[.val (.int p0), .unset] [(.int (32 : Int32))]))
      refine own_by (fun _ k => XS.goto X0.here hx rfl (pc0 := 10) (pc' := 14) rfl (hb hby d4_10) (by decide) (by decide) k) ?_
      show own_Go p e below _ (s₁.setTop (mkF m 14 #[.val (.int p0), .unset] [(.int (32 : Int32))]))
      exact own_retI X0 hx Bd.returns (hb hby d4_14) hlk e0 ⟨_, rfl, N0, rfl, (ob_4_2 p0 c1 c42)⟩ (by decide) (by decide)
    · skip
      refine own_by (fun _ k => XS.ifYes X0.here hx rfl (pc0 := 5) (pc' := 13) rfl (hb hby d4_5) rfl ((if0 _ _).trans (feq c42).2) (by decide) (by decide) k) ?_
      show own_Go p e below _ (s₁.setTop (mkF m 13 #[.val (.int p0), .unset] []))
      refine own_by (fun _ k => XS.iconst X0.here hx rfl (hb hby d4_13) k) ?_
      show own_Go p e below _ (s₁.setTop (mkF m 14 #[.val (.int p0), .unset] [(.int (0 : Int32))]))
      exact own_retI X0 hx Bd.returns (hb hby d4_14) hlk e0 ⟨_, rfl, N0, rfl, (ob_4_3 p0 c1 c42)⟩ (by decide) (by decide)
theorem pd_12 : parseMethodDescriptor "(I)I" = some ⟨[.int], some .int⟩ := by decide +kernel
theorem d3_0 : decode jdk_35_method_48_code 0 = .ok (.lload_n 0, 1) := by decide +kernel
theorem d3_1 : decode jdk_35_method_48_code 1 = .ok (.bipush 32, 2) := by decide +kernel
theorem d3_3 : decode jdk_35_method_48_code 3 = .ok (.lushr, 1) := by decide +kernel
theorem d3_4 : decode jdk_35_method_48_code 4 = .ok (.l2i, 1) := by decide +kernel
theorem d3_5 : decode jdk_35_method_48_code 5 = .ok (.istore_n 2, 1) := by decide +kernel
theorem d3_6 : decode jdk_35_method_48_code 6 = .ok (.iload_n 2, 1) := by decide +kernel
theorem d3_7 : decode jdk_35_method_48_code 7 = .ok (.ifCond .ne 14, 3) := by decide +kernel
theorem d3_10 : decode jdk_35_method_48_code 10 = .ok (.bipush 32, 2) := by decide +kernel
theorem d3_12 : decode jdk_35_method_48_code 12 = .ok (.lload_n 0, 1) := by decide +kernel
theorem d3_13 : decode jdk_35_method_48_code 13 = .ok (.l2i, 1) := by decide +kernel
theorem d3_14 : decode jdk_35_method_48_code 14 = .ok (.invokestatic 308, 3) := by decide +kernel
theorem d3_17 : decode jdk_35_method_48_code 17 = .ok (.iadd, 1) := by decide +kernel
theorem d3_18 : decode jdk_35_method_48_code 18 = .ok (.goto 7, 3) := by decide +kernel
theorem d3_21 : decode jdk_35_method_48_code 21 = .ok (.iload_n 2, 1) := by decide +kernel
theorem d3_22 : decode jdk_35_method_48_code 22 = .ok (.invokestatic 308, 3) := by decide +kernel
theorem d3_25 : decode jdk_35_method_48_code 25 = .ok (.ireturn, 1) := by decide +kernel
theorem pn_3 : plainName "java/lang/Long" = true := by first | (simp [plainName, overriddenIn]; done) | decide +kernel
theorem ef_3 (m : MethodId) (q0 : Int64) : entryFrame m #[(.long q0)] 3 = mkF m 0 #[.val (.long q0), .second, .unset] [] := by first | (simp [entryFrame, mkF, argsToLocals, Value.category]; done) | rfl
theorem ob_3_4 (q0 : Int64) (v1 : Int32) (o4 : Int32) (hv1 : (((q0.toUInt64 >>> ((32 : Int32) &&& 0x3f).toInt64.toUInt64).toInt64).toInt32) = v1) (c2 : v1 = (0 : Int32)) (hp5 : own_nlz (q0.toInt32) o4) : own_nlzL q0 ((32 : Int32) + o4) := by
  exact own_nlzL1 _ _ _ hv1 c2 hp5
theorem ob_3_5 (q0 : Int64) (v1 : Int32) (o7 : Int32) (hv1 : (((q0.toUInt64 >>> ((32 : Int32) &&& 0x3f).toInt64.toUInt64).toInt64).toInt32) = v1) (c2 : ¬ (v1 = (0 : Int32))) (hp8 : own_nlz v1 o7) : own_nlzL q0 o7 := by
  exact own_nlzL2 _ _ _ hv1 c2 hp8
def Q3 (Z : State) (q0 : Int64) (h0 : Heap) (n0 : Nat) (v : Option Value) (h : Heap) (L : List Loc) : Prop := ∃ (zz : Int32), v = some (.int zz) ∧ Fr n0 L ∧ h = h0 ∧ (own_nlzL q0 zz)
set_option maxRecDepth 65536 in
set_option maxHeartbeats 40000000 in
theorem rm3 (l : Launch) (Z : State) (A0 : Array Value) (hw : ∀ d ∈ tables_1, d.before A0 Z = true) (ws : List Jvm.Cond) (q0 : Int64) (h0 : Heap) (n0 : Nat) (Z0 : n0 ≤ h0.size) :
    MetFree l (⟨"java/lang/Long", "numberOfLeadingZeros", "(J)I"⟩ : MethodName) (head1 (Jvm.Cond.code (⟨"java/lang/Long", "numberOfLeadingZeros", "(J)I"⟩ : MethodName) jdk_35_method_48_code 3 (some .int) :: ws) ({ frames := 1, cells := 0, slots := 0, locals := 14 } : Room)) (fun a U => a = #[(.long q0)] ∧ Z.Warmed39 U.vm ∧ U.heap = h0) (fun _ _ _ _ _ => True) (fun _ U o U' => ∃ v L, o = .returned v ∧ Q3 Z q0 h0 n0 v U'.heap L ∧ FrameEnd U o U' L 0 0) := by
  refine MetFree.of_bodySF (plainFor_of_name pn_3) hisR ?_
  intro p e s m args below meth c s₁ Bd hml0 hP hK
  obtain ⟨rfl, hZ, hh⟩ := hP
  have hwd := fun i {d : Jvm.Cond} (h : tables_1[i]? = some d) => hw d (List.mem_of_getElem? h)
  have hx := Bd.exec
  have hby := Bd.bytes
  have hml : c.maxLocals = 3 := hml0
  have hlk : meth.locks = false := Bd.notSynchronized
  have hown : s.vm.findClass "java/lang/Long" = some m.cls := findClass_of_methodNamed Bd.named
  have hnm := (name_of_methodNamed Bd.named Bd.method).1
  have X0 : Stand p l e ({ frames := 1, cells := 0, slots := 0, locals := 14 } : Room) s m #[(.long q0)] below meth c s₁ [] 0 0 := Stand.of_body Bd
  have e0 : s₁.heap = h0 := by rw [← hh, Bd.state]; rfl
  have N0 := Fr.nil n0
  show own_Go p e below (own_Fin s 0 0 (Q3 Z q0 h0 n0)) _
  refine own_by (fun t k => castTop (ef_3 m q0) k) ?_
  show own_Go p e below _ (s₁.setTop (mkF m 0 #[.val (.long q0), .second, .unset] []))
  refine own_by (fun _ k => XS.lloadN X0.here hx rfl (hb hby d3_0) rfl k) ?_
  show own_Go p e below _ (s₁.setTop (mkF m 1 #[.val (.long q0), .second, .unset] [(.long q0)]))
  refine own_by (fun _ k => XS.bipush X0.here hx rfl (hb hby d3_1) k) ?_
  show own_Go p e below _ (s₁.setTop (mkF m 3 #[.val (.long q0), .second, .unset] [(.int (32 : Int32)), (.long q0)]))
  refine own_by (fun _ k => XS.lushr X0.here hx rfl (hb hby d3_3) rfl k) ?_
  show own_Go p e below _ (s₁.setTop (mkF m 4 #[.val (.long q0), .second, .unset] [(.long ((q0.toUInt64 >>> ((32 : Int32) &&& 0x3f).toInt64.toUInt64).toInt64))]))
  refine own_by (fun _ k => XS.l2i X0.here hx rfl (hb hby d3_4) rfl k) ?_
  show own_Go p e below _ (s₁.setTop (mkF m 5 #[.val (.long q0), .second, .unset] [(.int (((q0.toUInt64 >>> ((32 : Int32) &&& 0x3f).toInt64.toUInt64).toInt64).toInt32))]))
  refine own_by (fun _ k => XS.istoreN X0.here hx rfl (hb hby d3_5) rfl (l' := #[.val (.long q0), .second, .val (.int (((q0.toUInt64 >>> ((32 : Int32) &&& 0x3f).toInt64.toUInt64).toInt64).toInt32))]) rfl k) ?_
  show own_Go p e below _ (s₁.setTop (mkF m 6 #[.val (.long q0), .second, .val (.int (((q0.toUInt64 >>> ((32 : Int32) &&& 0x3f).toInt64.toUInt64).toInt64).toInt32))] []))
  generalize hv1 : (((q0.toUInt64 >>> ((32 : Int32) &&& 0x3f).toInt64.toUInt64).toInt64).toInt32) = v1
  show own_Go p e below _ (s₁.setTop (mkF m 6 #[.val (.long q0), .second, .val (.int v1)] []))
  refine own_by (fun _ k => XS.iloadN X0.here hx rfl (hb hby d3_6) rfl k) ?_
  show own_Go p e below _ (s₁.setTop (mkF m 7 #[.val (.long q0), .second, .val (.int v1)] [(.int v1)]))
  by_cases c2 : v1 = (0 : Int32)
  · skip
    refine own_by (fun _ k => XS.ifNo X0.here hx rfl (hb hby d3_7) rfl ((if0 _ _).trans (teq c2).2) k) ?_
    show own_Go p e below _ (s₁.setTop (mkF m 10 #[.val (.long q0), .second, .val (.int v1)] []))
    refine own_by (fun _ k => XS.bipush X0.here hx rfl (hb hby d3_10) k) ?_
    show own_Go p e below _ (s₁.setTop (mkF m 12 #[.val (.long q0), .second, .val (.int v1)] [(.int (32 : Int32))]))
    refine own_by (fun _ k => XS.lloadN X0.here hx rfl (hb hby d3_12) rfl k) ?_
    show own_Go p e below _ (s₁.setTop (mkF m 13 #[.val (.long q0), .second, .val (.int v1)] [(.long q0), (.int (32 : Int32))]))
    refine own_by (fun _ k => XS.l2i X0.here hx rfl (hb hby d3_13) rfl k) ?_
    show own_Go p e below _ (s₁.setTop (mkF m 14 #[.val (.long q0), .second, .val (.int v1)] [(.int (q0.toInt32)), (.int (32 : Int32))]))
    obtain ⟨_, _, ⟨T3, L3, k3, n3⟩, -, X3, ⟨Lc3, hQ3, l3, y3, z3⟩, st3⟩ := Jvm.LawKit.callS X0 hx (y := (⟨"java/lang/Integer", "numberOfLeadingZeros", "(I)I"⟩ : MethodName)) hown (mvT hZ (hwd 12 rfl)) (mvT hZ (hwd 13 rfl)) (mvT hZ (hwd 14 rfl)) (mvT hZ (hwd 15 rfl)) (by decide) (backOf (W := 1) (rm4 l Z A0 hw [] (q0.toInt32) h0 n0 Z0 ) hZ (hwd 15 rfl) (hwd 14 rfl) (by decide) (by decide)) (g := (mkF m 14 #[.val (.long q0), .second, .val (.int v1)] [(.int (q0.toInt32)), (.int (32 : Int32))])) rfl (by rw [hml]; rfl) (argsL := [(.int (q0.toInt32))]) (rest := [(.int (32 : Int32))]) (lenOf pd_12 rfl) rfl (by show 2 * 0 + _ ≤ _; exact Nat.le_of_eq rfl) (hb hby d3_14) (fun _ _ => ⟨rfl, e0, (by decide : 0 + 0 ≤ _), (by decide : 0 + 0 ≤ _)⟩)
    dsimp only [Pt.U, Pt.locs, Pt.cells, Pt.slots] at X3 l3 y3 z3 st3 hQ3
    subst l3 y3 z3
    obtain ⟨o4, rfl, Nq3, eq3, hp5⟩ := hQ3
    have N3 := Fr.app N0 Nq3
    refine own_by st3 ?_
    show own_Go p e below _ (T3.setTop (mkF m 17 #[.val (.long q0), .second, .val (.int v1)] [(.int o4), (.int (32 : Int32))]))
    refine own_by (fun _ k => XS.iadd X3.here hx rfl (hb hby d3_17) rfl k) ?_
    show own_Go p e below _ (T3.setTop (mkF m 18 #[.val (.long q0), .second, .val (.int v1)] [(.int ((32 : Int32) + o4))]))
    refine own_by (fun _ k => XS.goto X3.here hx rfl (pc0 := 18) (pc' := 25) rfl (hb hby d3_18) (by decide) (by decide) k) ?_
    show own_Go p e below _ (T3.setTop (mkF m 25 #[.val (.long q0), .second, .val (.int v1)] [(.int ((32 : Int32) + o4))]))
    exact own_retI X3 hx Bd.returns (hb hby d3_25) hlk eq3 ⟨_, rfl, N3, rfl, (ob_3_4 q0 v1 o4 hv1 c2 hp5)⟩ (by decide) (by decide)
  · skip
    refine own_by (fun _ k => XS.ifYes X0.here hx rfl (pc0 := 7) (pc' := 21) rfl (hb hby d3_7) rfl ((if0 _ _).trans (feq c2).2) (by decide) (by decide) k) ?_
    show own_Go p e below _ (s₁.setTop (mkF m 21 #[.val (.long q0), .second, .val (.int v1)] []))
    refine own_by (fun _ k => XS.iloadN X0.here hx rfl (hb hby d3_21) rfl k) ?_
    show own_Go p e below _ (s₁.setTop (mkF m 22 #[.val (.long q0), .second, .val (.int v1)] [(.int v1)]))
    obtain ⟨_, _, ⟨T6, L6, k6, n6⟩, -, X6, ⟨Lc6, hQ6, l6, y6, z6⟩, st6⟩ := Jvm.LawKit.callS X0 hx (y := (⟨"java/lang/Integer", "numberOfLeadingZeros", "(I)I"⟩ : MethodName)) hown (mvT hZ (hwd 12 rfl)) (mvT hZ (hwd 13 rfl)) (mvT hZ (hwd 14 rfl)) (mvT hZ (hwd 15 rfl)) (by decide) (backOf (W := 0) (rm4 l Z A0 hw [] v1 h0 n0 Z0 ) hZ (hwd 15 rfl) (hwd 14 rfl) (by decide) (by decide)) (g := (mkF m 22 #[.val (.long q0), .second, .val (.int v1)] [(.int v1)])) rfl (by rw [hml]; rfl) (argsL := [(.int v1)]) (rest := []) (lenOf pd_12 rfl) rfl (by show 2 * 0 + _ ≤ _; exact Nat.le_of_eq rfl) (hb hby d3_22) (fun _ _ => ⟨rfl, e0, (by decide : 0 + 0 ≤ _), (by decide : 0 + 0 ≤ _)⟩)
    dsimp only [Pt.U, Pt.locs, Pt.cells, Pt.slots] at X6 l6 y6 z6 st6 hQ6
    subst l6 y6 z6
    obtain ⟨o7, rfl, Nq6, eq6, hp8⟩ := hQ6
    have N6 := Fr.app N0 Nq6
    refine own_by st6 ?_
    show own_Go p e below _ (T6.setTop (mkF m 25 #[.val (.long q0), .second, .val (.int v1)] [(.int o7)]))
    exact own_retI X6 hx Bd.returns (hb hby d3_25) hlk eq6 ⟨_, rfl, N6, rfl, (ob_3_5 q0 v1 o7 hv1 c2 hp8)⟩ (by decide) (by decide)
theorem d1_0 : decode method_3_code 0 = .ok (.lload_n 0, 1) := by decide +kernel
theorem d1_1 : decode method_3_code 1 = .ok (.lconst 0, 1) := by decide +kernel
theorem d1_2 : decode method_3_code 2 = .ok (.lcmp, 1) := by decide +kernel
theorem d1_3 : decode method_3_code 3 = .ok (.ifCond .ne 5, 3) := by decide +kernel
theorem d1_6 : decode method_3_code 6 = .ok (.iconst 0, 1) := by decide +kernel
theorem d1_7 : decode method_3_code 7 = .ok (.ireturn, 1) := by decide +kernel
theorem d1_8 : decode method_3_code 8 = .ok (.lload_n 0, 1) := by decide +kernel
theorem d1_9 : decode method_3_code 9 = .ok (.bipush 8, 2) := by decide +kernel
theorem d1_11 : decode method_3_code 11 = .ok (.lushr, 1) := by decide +kernel
theorem d1_12 : decode method_3_code 12 = .ok (.lconst 0, 1) := by decide +kernel
theorem d1_13 : decode method_3_code 13 = .ok (.lcmp, 1) := by decide +kernel
theorem d1_14 : decode method_3_code 14 = .ok (.ifCond .ne 5, 3) := by decide +kernel
theorem d1_17 : decode method_3_code 17 = .ok (.iconst 1, 1) := by decide +kernel
theorem d1_18 : decode method_3_code 18 = .ok (.ireturn, 1) := by decide +kernel
theorem d1_19 : decode method_3_code 19 = .ok (.lload_n 0, 1) := by decide +kernel
theorem d1_20 : decode method_3_code 20 = .ok (.bipush 16, 2) := by decide +kernel
theorem d1_22 : decode method_3_code 22 = .ok (.lushr, 1) := by decide +kernel
theorem d1_23 : decode method_3_code 23 = .ok (.lconst 0, 1) := by decide +kernel
theorem d1_24 : decode method_3_code 24 = .ok (.lcmp, 1) := by decide +kernel
theorem d1_25 : decode method_3_code 25 = .ok (.ifCond .ne 5, 3) := by decide +kernel
theorem d1_28 : decode method_3_code 28 = .ok (.iconst 2, 1) := by decide +kernel
theorem d1_29 : decode method_3_code 29 = .ok (.ireturn, 1) := by decide +kernel
theorem d1_30 : decode method_3_code 30 = .ok (.lload_n 0, 1) := by decide +kernel
theorem d1_31 : decode method_3_code 31 = .ok (.bipush 24, 2) := by decide +kernel
theorem d1_33 : decode method_3_code 33 = .ok (.lushr, 1) := by decide +kernel
theorem d1_34 : decode method_3_code 34 = .ok (.lconst 0, 1) := by decide +kernel
theorem d1_35 : decode method_3_code 35 = .ok (.lcmp, 1) := by decide +kernel
theorem d1_36 : decode method_3_code 36 = .ok (.ifCond .ne 5, 3) := by decide +kernel
theorem d1_39 : decode method_3_code 39 = .ok (.iconst 3, 1) := by decide +kernel
theorem d1_40 : decode method_3_code 40 = .ok (.ireturn, 1) := by decide +kernel
theorem d1_41 : decode method_3_code 41 = .ok (.lload_n 0, 1) := by decide +kernel
theorem d1_42 : decode method_3_code 42 = .ok (.bipush 32, 2) := by decide +kernel
theorem d1_44 : decode method_3_code 44 = .ok (.lushr, 1) := by decide +kernel
theorem d1_45 : decode method_3_code 45 = .ok (.lconst 0, 1) := by decide +kernel
theorem d1_46 : decode method_3_code 46 = .ok (.lcmp, 1) := by decide +kernel
theorem d1_47 : decode method_3_code 47 = .ok (.ifCond .ne 5, 3) := by decide +kernel
theorem d1_50 : decode method_3_code 50 = .ok (.iconst 4, 1) := by decide +kernel
theorem d1_51 : decode method_3_code 51 = .ok (.ireturn, 1) := by decide +kernel
theorem d1_52 : decode method_3_code 52 = .ok (.lload_n 0, 1) := by decide +kernel
theorem d1_53 : decode method_3_code 53 = .ok (.bipush 40, 2) := by decide +kernel
theorem d1_55 : decode method_3_code 55 = .ok (.lushr, 1) := by decide +kernel
theorem d1_56 : decode method_3_code 56 = .ok (.lconst 0, 1) := by decide +kernel
theorem d1_57 : decode method_3_code 57 = .ok (.lcmp, 1) := by decide +kernel
theorem d1_58 : decode method_3_code 58 = .ok (.ifCond .ne 5, 3) := by decide +kernel
theorem d1_61 : decode method_3_code 61 = .ok (.iconst 5, 1) := by decide +kernel
theorem d1_62 : decode method_3_code 62 = .ok (.ireturn, 1) := by decide +kernel
theorem d1_63 : decode method_3_code 63 = .ok (.lload_n 0, 1) := by decide +kernel
theorem d1_64 : decode method_3_code 64 = .ok (.bipush 48, 2) := by decide +kernel
theorem d1_66 : decode method_3_code 66 = .ok (.lushr, 1) := by decide +kernel
theorem d1_67 : decode method_3_code 67 = .ok (.lconst 0, 1) := by decide +kernel
theorem d1_68 : decode method_3_code 68 = .ok (.lcmp, 1) := by decide +kernel
theorem d1_69 : decode method_3_code 69 = .ok (.ifCond .ne 6, 3) := by decide +kernel
theorem d1_72 : decode method_3_code 72 = .ok (.bipush 6, 2) := by decide +kernel
theorem d1_74 : decode method_3_code 74 = .ok (.ireturn, 1) := by decide +kernel
theorem d1_75 : decode method_3_code 75 = .ok (.lload_n 0, 1) := by decide +kernel
theorem d1_76 : decode method_3_code 76 = .ok (.bipush 56, 2) := by decide +kernel
theorem d1_78 : decode method_3_code 78 = .ok (.lushr, 1) := by decide +kernel
theorem d1_79 : decode method_3_code 79 = .ok (.lconst 0, 1) := by decide +kernel
theorem d1_80 : decode method_3_code 80 = .ok (.lcmp, 1) := by decide +kernel
theorem d1_81 : decode method_3_code 81 = .ok (.ifCond .ne 6, 3) := by decide +kernel
theorem d1_84 : decode method_3_code 84 = .ok (.bipush 7, 2) := by decide +kernel
theorem d1_86 : decode method_3_code 86 = .ok (.ireturn, 1) := by decide +kernel
theorem d1_87 : decode method_3_code 87 = .ok (.bipush 8, 2) := by decide +kernel
theorem d1_89 : decode method_3_code 89 = .ok (.ireturn, 1) := by decide +kernel
theorem pn_1 : plainName "com/example/nested_keyspace/nestedkeyspace/TypedPartsEncodeSignedPinLaw" = true := by first | (simp [plainName, overriddenIn]; done) | decide +kernel
theorem ef_1 (m : MethodId) (q0 : Int64) : entryFrame m #[(.long q0)] 2 = mkF m 0 #[.val (.long q0), .second] [] := by first | (simp [entryFrame, mkF, argsToLocals, Value.category]; done) | rfl
theorem ob_1_6 (q0 : Int64) (c1 : q0 = (0 : Int64)) : own_bc q0 (0 : Int32) := by
  subst c1
  exact Or.inl ⟨rfl, rfl⟩
theorem ob_1_7 (q0 : Int64) (c1 : ¬ (q0 = (0 : Int64))) (c2 : ((q0.toUInt64 >>> ((8 : Int32) &&& 0x3f).toInt64.toUInt64).toInt64) = (0 : Int64)) : own_bc q0 (1 : Int32) := by
  exact own_bc0 _ c1 c2
theorem ob_1_8 (q0 : Int64) (c1 : ¬ (q0 = (0 : Int64))) (c2 : ¬ (((q0.toUInt64 >>> ((8 : Int32) &&& 0x3f).toInt64.toUInt64).toInt64) = (0 : Int64))) (c3 : ((q0.toUInt64 >>> ((16 : Int32) &&& 0x3f).toInt64.toUInt64).toInt64) = (0 : Int64)) : own_bc q0 (2 : Int32) := by
  exact own_bcS _ 8 2 1 8 16 16 (by decide) (by decide) (by decide) (by decide) (by decide) (by decide) c2 c3
theorem ob_1_9 (q0 : Int64) (c1 : ¬ (q0 = (0 : Int64))) (c2 : ¬ (((q0.toUInt64 >>> ((8 : Int32) &&& 0x3f).toInt64.toUInt64).toInt64) = (0 : Int64))) (c3 : ¬ (((q0.toUInt64 >>> ((16 : Int32) &&& 0x3f).toInt64.toUInt64).toInt64) = (0 : Int64))) (c4 : ((q0.toUInt64 >>> ((24 : Int32) &&& 0x3f).toInt64.toUInt64).toInt64) = (0 : Int64)) : own_bc q0 (3 : Int32) := by
  exact own_bcS _ 16 3 2 16 24 24 (by decide) (by decide) (by decide) (by decide) (by decide) (by decide) c3 c4
theorem ob_1_10 (q0 : Int64) (c1 : ¬ (q0 = (0 : Int64))) (c2 : ¬ (((q0.toUInt64 >>> ((8 : Int32) &&& 0x3f).toInt64.toUInt64).toInt64) = (0 : Int64))) (c3 : ¬ (((q0.toUInt64 >>> ((16 : Int32) &&& 0x3f).toInt64.toUInt64).toInt64) = (0 : Int64))) (c4 : ¬ (((q0.toUInt64 >>> ((24 : Int32) &&& 0x3f).toInt64.toUInt64).toInt64) = (0 : Int64))) (c5 : ((q0.toUInt64 >>> ((32 : Int32) &&& 0x3f).toInt64.toUInt64).toInt64) = (0 : Int64)) : own_bc q0 (4 : Int32) := by
  exact own_bcS _ 24 4 3 24 32 32 (by decide) (by decide) (by decide) (by decide) (by decide) (by decide) c4 c5
theorem ob_1_11 (q0 : Int64) (c1 : ¬ (q0 = (0 : Int64))) (c2 : ¬ (((q0.toUInt64 >>> ((8 : Int32) &&& 0x3f).toInt64.toUInt64).toInt64) = (0 : Int64))) (c3 : ¬ (((q0.toUInt64 >>> ((16 : Int32) &&& 0x3f).toInt64.toUInt64).toInt64) = (0 : Int64))) (c4 : ¬ (((q0.toUInt64 >>> ((24 : Int32) &&& 0x3f).toInt64.toUInt64).toInt64) = (0 : Int64))) (c5 : ¬ (((q0.toUInt64 >>> ((32 : Int32) &&& 0x3f).toInt64.toUInt64).toInt64) = (0 : Int64))) (c6 : ((q0.toUInt64 >>> ((40 : Int32) &&& 0x3f).toInt64.toUInt64).toInt64) = (0 : Int64)) : own_bc q0 (5 : Int32) := by
  exact own_bcS _ 32 5 4 32 40 40 (by decide) (by decide) (by decide) (by decide) (by decide) (by decide) c5 c6
theorem ob_1_12 (q0 : Int64) (c1 : ¬ (q0 = (0 : Int64))) (c2 : ¬ (((q0.toUInt64 >>> ((8 : Int32) &&& 0x3f).toInt64.toUInt64).toInt64) = (0 : Int64))) (c3 : ¬ (((q0.toUInt64 >>> ((16 : Int32) &&& 0x3f).toInt64.toUInt64).toInt64) = (0 : Int64))) (c4 : ¬ (((q0.toUInt64 >>> ((24 : Int32) &&& 0x3f).toInt64.toUInt64).toInt64) = (0 : Int64))) (c5 : ¬ (((q0.toUInt64 >>> ((32 : Int32) &&& 0x3f).toInt64.toUInt64).toInt64) = (0 : Int64))) (c6 : ¬ (((q0.toUInt64 >>> ((40 : Int32) &&& 0x3f).toInt64.toUInt64).toInt64) = (0 : Int64))) (c7 : ((q0.toUInt64 >>> ((48 : Int32) &&& 0x3f).toInt64.toUInt64).toInt64) = (0 : Int64)) : own_bc q0 (6 : Int32) := by
  exact own_bcS _ 40 6 5 40 48 48 (by decide) (by decide) (by decide) (by decide) (by decide) (by decide) c6 c7
theorem ob_1_13 (q0 : Int64) (c1 : ¬ (q0 = (0 : Int64))) (c2 : ¬ (((q0.toUInt64 >>> ((8 : Int32) &&& 0x3f).toInt64.toUInt64).toInt64) = (0 : Int64))) (c3 : ¬ (((q0.toUInt64 >>> ((16 : Int32) &&& 0x3f).toInt64.toUInt64).toInt64) = (0 : Int64))) (c4 : ¬ (((q0.toUInt64 >>> ((24 : Int32) &&& 0x3f).toInt64.toUInt64).toInt64) = (0 : Int64))) (c5 : ¬ (((q0.toUInt64 >>> ((32 : Int32) &&& 0x3f).toInt64.toUInt64).toInt64) = (0 : Int64))) (c6 : ¬ (((q0.toUInt64 >>> ((40 : Int32) &&& 0x3f).toInt64.toUInt64).toInt64) = (0 : Int64))) (c7 : ¬ (((q0.toUInt64 >>> ((48 : Int32) &&& 0x3f).toInt64.toUInt64).toInt64) = (0 : Int64))) (c8 : ((q0.toUInt64 >>> ((56 : Int32) &&& 0x3f).toInt64.toUInt64).toInt64) = (0 : Int64)) : own_bc q0 (7 : Int32) := by
  exact own_bcS _ 48 7 6 48 56 56 (by decide) (by decide) (by decide) (by decide) (by decide) (by decide) c7 c8
theorem ob_1_14 (q0 : Int64) (c1 : ¬ (q0 = (0 : Int64))) (c2 : ¬ (((q0.toUInt64 >>> ((8 : Int32) &&& 0x3f).toInt64.toUInt64).toInt64) = (0 : Int64))) (c3 : ¬ (((q0.toUInt64 >>> ((16 : Int32) &&& 0x3f).toInt64.toUInt64).toInt64) = (0 : Int64))) (c4 : ¬ (((q0.toUInt64 >>> ((24 : Int32) &&& 0x3f).toInt64.toUInt64).toInt64) = (0 : Int64))) (c5 : ¬ (((q0.toUInt64 >>> ((32 : Int32) &&& 0x3f).toInt64.toUInt64).toInt64) = (0 : Int64))) (c6 : ¬ (((q0.toUInt64 >>> ((40 : Int32) &&& 0x3f).toInt64.toUInt64).toInt64) = (0 : Int64))) (c7 : ¬ (((q0.toUInt64 >>> ((48 : Int32) &&& 0x3f).toInt64.toUInt64).toInt64) = (0 : Int64))) (c8 : ¬ (((q0.toUInt64 >>> ((56 : Int32) &&& 0x3f).toInt64.toUInt64).toInt64) = (0 : Int64))) : own_bc q0 (8 : Int32) := by
  exact own_bc8 _ c8
def Q1 (Z : State) (q0 : Int64) (h0 : Heap) (n0 : Nat) (v : Option Value) (h : Heap) (L : List Loc) : Prop := ∃ (zz : Int32), v = some (.int zz) ∧ Fr n0 L ∧ h = h0 ∧ (own_bc q0 zz)
set_option maxRecDepth 65536 in
set_option maxHeartbeats 40000000 in
theorem rm1 (l : Launch) (Z : State) (A0 : Array Value) (hw : ∀ d ∈ tables_1, d.before A0 Z = true) (ws : List Jvm.Cond) (q0 : Int64) (h0 : Heap) (n0 : Nat) (Z0 : n0 ≤ h0.size) :
    MetFree l (⟨"com/example/nested_keyspace/nestedkeyspace/TypedPartsEncodeSignedPinLaw", "byteCount", "(J)I"⟩ : MethodName) (head1 (Jvm.Cond.code (⟨"com/example/nested_keyspace/nestedkeyspace/TypedPartsEncodeSignedPinLaw", "byteCount", "(J)I"⟩ : MethodName) method_3_code 2 (some .int) :: ws) ({ frames := 0, cells := 0, slots := 0, locals := 0 } : Room)) (fun a U => a = #[(.long q0)] ∧ Z.Warmed39 U.vm ∧ U.heap = h0) (fun _ _ _ _ _ => True) (fun _ U o U' => ∃ v L, o = .returned v ∧ Q1 Z q0 h0 n0 v U'.heap L ∧ FrameEnd U o U' L 0 0) := by
  refine MetFree.of_bodySF (plainFor_of_name pn_1) hisR ?_
  intro p e s m args below meth c s₁ Bd hml0 hP hK
  obtain ⟨rfl, hZ, hh⟩ := hP
  have hwd := fun i {d : Jvm.Cond} (h : tables_1[i]? = some d) => hw d (List.mem_of_getElem? h)
  have hx := Bd.exec
  have hby := Bd.bytes
  have hml : c.maxLocals = 2 := hml0
  have hlk : meth.locks = false := Bd.notSynchronized
  have hown : s.vm.findClass "com/example/nested_keyspace/nestedkeyspace/TypedPartsEncodeSignedPinLaw" = some m.cls := findClass_of_methodNamed Bd.named
  have hnm := (name_of_methodNamed Bd.named Bd.method).1
  have X0 : Stand p l e ({ frames := 0, cells := 0, slots := 0, locals := 0 } : Room) s m #[(.long q0)] below meth c s₁ [] 0 0 := Stand.of_body Bd
  have e0 : s₁.heap = h0 := by rw [← hh, Bd.state]; rfl
  have N0 := Fr.nil n0
  show own_Go p e below (own_Fin s 0 0 (Q1 Z q0 h0 n0)) _
  refine own_by (fun t k => castTop (ef_1 m q0) k) ?_
  show own_Go p e below _ (s₁.setTop (mkF m 0 #[.val (.long q0), .second] []))
  refine own_by (fun _ k => XS.lloadN X0.here hx rfl (hb hby d1_0) rfl k) ?_
  show own_Go p e below _ (s₁.setTop (mkF m 1 #[.val (.long q0), .second] [(.long q0)]))
  refine own_by (fun _ k => XS.lconst X0.here hx rfl (hb hby d1_1) k) ?_
  show own_Go p e below _ (s₁.setTop (mkF m 2 #[.val (.long q0), .second] [(.long (0 : Int64)), (.long q0)]))
  refine own_by (fun _ k => XS.lcmp X0.here hx rfl (hb hby d1_2) rfl k) ?_
  show own_Go p e below _ (s₁.setTop (mkF m 3 #[.val (.long q0), .second] [(.int (lcmpW q0 (0 : Int64)))]))
  by_cases c1 : q0 = (0 : Int64)
  · skip
    refine own_by (fun _ k => XS.ifNo X0.here hx rfl (hb hby d1_3) rfl ((if0 _ _).trans (teq ((lw_eq _ _).mpr c1)).2) k) ?_
    show own_Go p e below _ (s₁.setTop (mkF m 6 #[.val (.long q0), .second] []))
    refine own_by (fun _ k => XS.iconst X0.here hx rfl (hb hby d1_6) k) ?_
    show own_Go p e below _ (s₁.setTop (mkF m 7 #[.val (.long q0), .second] [(.int (0 : Int32))]))
    exact own_retI X0 hx Bd.returns (hb hby d1_7) hlk e0 ⟨_, rfl, N0, rfl, (ob_1_6 q0 c1)⟩ (by decide) (by decide)
  · skip
    refine own_by (fun _ k => XS.ifYes X0.here hx rfl (pc0 := 3) (pc' := 8) rfl (hb hby d1_3) rfl ((if0 _ _).trans (feq (fun q => c1 ((lw_eq _ _).mp q))).2) (by decide) (by decide) k) ?_
    show own_Go p e below _ (s₁.setTop (mkF m 8 #[.val (.long q0), .second] []))
    refine own_by (fun _ k => XS.lloadN X0.here hx rfl (hb hby d1_8) rfl k) ?_
    show own_Go p e below _ (s₁.setTop (mkF m 9 #[.val (.long q0), .second] [(.long q0)]))
    refine own_by (fun _ k => XS.bipush X0.here hx rfl (hb hby d1_9) k) ?_
    show own_Go p e below _ (s₁.setTop (mkF m 11 #[.val (.long q0), .second] [(.int (8 : Int32)), (.long q0)]))
    refine own_by (fun _ k => XS.lushr X0.here hx rfl (hb hby d1_11) rfl k) ?_
    show own_Go p e below _ (s₁.setTop (mkF m 12 #[.val (.long q0), .second] [(.long ((q0.toUInt64 >>> ((8 : Int32) &&& 0x3f).toInt64.toUInt64).toInt64))]))
    refine own_by (fun _ k => XS.lconst X0.here hx rfl (hb hby d1_12) k) ?_
    show own_Go p e below _ (s₁.setTop (mkF m 13 #[.val (.long q0), .second] [(.long (0 : Int64)), (.long ((q0.toUInt64 >>> ((8 : Int32) &&& 0x3f).toInt64.toUInt64).toInt64))]))
    refine own_by (fun _ k => XS.lcmp X0.here hx rfl (hb hby d1_13) rfl k) ?_
    show own_Go p e below _ (s₁.setTop (mkF m 14 #[.val (.long q0), .second] [(.int (lcmpW ((q0.toUInt64 >>> ((8 : Int32) &&& 0x3f).toInt64.toUInt64).toInt64) (0 : Int64)))]))
    by_cases c2 : ((q0.toUInt64 >>> ((8 : Int32) &&& 0x3f).toInt64.toUInt64).toInt64) = (0 : Int64)
    · skip
      refine own_by (fun _ k => XS.ifNo X0.here hx rfl (hb hby d1_14) rfl ((if0 _ _).trans (teq ((lw_eq _ _).mpr c2)).2) k) ?_
      show own_Go p e below _ (s₁.setTop (mkF m 17 #[.val (.long q0), .second] []))
      refine own_by (fun _ k => XS.iconst X0.here hx rfl (hb hby d1_17) k) ?_
      show own_Go p e below _ (s₁.setTop (mkF m 18 #[.val (.long q0), .second] [(.int (1 : Int32))]))
      exact own_retI X0 hx Bd.returns (hb hby d1_18) hlk e0 ⟨_, rfl, N0, rfl, (ob_1_7 q0 c1 c2)⟩ (by decide) (by decide)
    · skip
      refine own_by (fun _ k => XS.ifYes X0.here hx rfl (pc0 := 14) (pc' := 19) rfl (hb hby d1_14) rfl ((if0 _ _).trans (feq (fun q => c2 ((lw_eq _ _).mp q))).2) (by decide) (by decide) k) ?_
      show own_Go p e below _ (s₁.setTop (mkF m 19 #[.val (.long q0), .second] []))
      refine own_by (fun _ k => XS.lloadN X0.here hx rfl (hb hby d1_19) rfl k) ?_
      show own_Go p e below _ (s₁.setTop (mkF m 20 #[.val (.long q0), .second] [(.long q0)]))
      refine own_by (fun _ k => XS.bipush X0.here hx rfl (hb hby d1_20) k) ?_
      show own_Go p e below _ (s₁.setTop (mkF m 22 #[.val (.long q0), .second] [(.int (16 : Int32)), (.long q0)]))
      refine own_by (fun _ k => XS.lushr X0.here hx rfl (hb hby d1_22) rfl k) ?_
      show own_Go p e below _ (s₁.setTop (mkF m 23 #[.val (.long q0), .second] [(.long ((q0.toUInt64 >>> ((16 : Int32) &&& 0x3f).toInt64.toUInt64).toInt64))]))
      refine own_by (fun _ k => XS.lconst X0.here hx rfl (hb hby d1_23) k) ?_
      show own_Go p e below _ (s₁.setTop (mkF m 24 #[.val (.long q0), .second] [(.long (0 : Int64)), (.long ((q0.toUInt64 >>> ((16 : Int32) &&& 0x3f).toInt64.toUInt64).toInt64))]))
      refine own_by (fun _ k => XS.lcmp X0.here hx rfl (hb hby d1_24) rfl k) ?_
      show own_Go p e below _ (s₁.setTop (mkF m 25 #[.val (.long q0), .second] [(.int (lcmpW ((q0.toUInt64 >>> ((16 : Int32) &&& 0x3f).toInt64.toUInt64).toInt64) (0 : Int64)))]))
      by_cases c3 : ((q0.toUInt64 >>> ((16 : Int32) &&& 0x3f).toInt64.toUInt64).toInt64) = (0 : Int64)
      · skip
        refine own_by (fun _ k => XS.ifNo X0.here hx rfl (hb hby d1_25) rfl ((if0 _ _).trans (teq ((lw_eq _ _).mpr c3)).2) k) ?_
        show own_Go p e below _ (s₁.setTop (mkF m 28 #[.val (.long q0), .second] []))
        refine own_by (fun _ k => XS.iconst X0.here hx rfl (hb hby d1_28) k) ?_
        show own_Go p e below _ (s₁.setTop (mkF m 29 #[.val (.long q0), .second] [(.int (2 : Int32))]))
        exact own_retI X0 hx Bd.returns (hb hby d1_29) hlk e0 ⟨_, rfl, N0, rfl, (ob_1_8 q0 c1 c2 c3)⟩ (by decide) (by decide)
      · skip
        refine own_by (fun _ k => XS.ifYes X0.here hx rfl (pc0 := 25) (pc' := 30) rfl (hb hby d1_25) rfl ((if0 _ _).trans (feq (fun q => c3 ((lw_eq _ _).mp q))).2) (by decide) (by decide) k) ?_
        show own_Go p e below _ (s₁.setTop (mkF m 30 #[.val (.long q0), .second] []))
        refine own_by (fun _ k => XS.lloadN X0.here hx rfl (hb hby d1_30) rfl k) ?_
        show own_Go p e below _ (s₁.setTop (mkF m 31 #[.val (.long q0), .second] [(.long q0)]))
        refine own_by (fun _ k => XS.bipush X0.here hx rfl (hb hby d1_31) k) ?_
        show own_Go p e below _ (s₁.setTop (mkF m 33 #[.val (.long q0), .second] [(.int (24 : Int32)), (.long q0)]))
        refine own_by (fun _ k => XS.lushr X0.here hx rfl (hb hby d1_33) rfl k) ?_
        show own_Go p e below _ (s₁.setTop (mkF m 34 #[.val (.long q0), .second] [(.long ((q0.toUInt64 >>> ((24 : Int32) &&& 0x3f).toInt64.toUInt64).toInt64))]))
        refine own_by (fun _ k => XS.lconst X0.here hx rfl (hb hby d1_34) k) ?_
        show own_Go p e below _ (s₁.setTop (mkF m 35 #[.val (.long q0), .second] [(.long (0 : Int64)), (.long ((q0.toUInt64 >>> ((24 : Int32) &&& 0x3f).toInt64.toUInt64).toInt64))]))
        refine own_by (fun _ k => XS.lcmp X0.here hx rfl (hb hby d1_35) rfl k) ?_
        show own_Go p e below _ (s₁.setTop (mkF m 36 #[.val (.long q0), .second] [(.int (lcmpW ((q0.toUInt64 >>> ((24 : Int32) &&& 0x3f).toInt64.toUInt64).toInt64) (0 : Int64)))]))
        by_cases c4 : ((q0.toUInt64 >>> ((24 : Int32) &&& 0x3f).toInt64.toUInt64).toInt64) = (0 : Int64)
        · skip
          refine own_by (fun _ k => XS.ifNo X0.here hx rfl (hb hby d1_36) rfl ((if0 _ _).trans (teq ((lw_eq _ _).mpr c4)).2) k) ?_
          show own_Go p e below _ (s₁.setTop (mkF m 39 #[.val (.long q0), .second] []))
          refine own_by (fun _ k => XS.iconst X0.here hx rfl (hb hby d1_39) k) ?_
          show own_Go p e below _ (s₁.setTop (mkF m 40 #[.val (.long q0), .second] [(.int (3 : Int32))]))
          exact own_retI X0 hx Bd.returns (hb hby d1_40) hlk e0 ⟨_, rfl, N0, rfl, (ob_1_9 q0 c1 c2 c3 c4)⟩ (by decide) (by decide)
        · skip
          refine own_by (fun _ k => XS.ifYes X0.here hx rfl (pc0 := 36) (pc' := 41) rfl (hb hby d1_36) rfl ((if0 _ _).trans (feq (fun q => c4 ((lw_eq _ _).mp q))).2) (by decide) (by decide) k) ?_
          show own_Go p e below _ (s₁.setTop (mkF m 41 #[.val (.long q0), .second] []))
          refine own_by (fun _ k => XS.lloadN X0.here hx rfl (hb hby d1_41) rfl k) ?_
          show own_Go p e below _ (s₁.setTop (mkF m 42 #[.val (.long q0), .second] [(.long q0)]))
          refine own_by (fun _ k => XS.bipush X0.here hx rfl (hb hby d1_42) k) ?_
          show own_Go p e below _ (s₁.setTop (mkF m 44 #[.val (.long q0), .second] [(.int (32 : Int32)), (.long q0)]))
          refine own_by (fun _ k => XS.lushr X0.here hx rfl (hb hby d1_44) rfl k) ?_
          show own_Go p e below _ (s₁.setTop (mkF m 45 #[.val (.long q0), .second] [(.long ((q0.toUInt64 >>> ((32 : Int32) &&& 0x3f).toInt64.toUInt64).toInt64))]))
          refine own_by (fun _ k => XS.lconst X0.here hx rfl (hb hby d1_45) k) ?_
          show own_Go p e below _ (s₁.setTop (mkF m 46 #[.val (.long q0), .second] [(.long (0 : Int64)), (.long ((q0.toUInt64 >>> ((32 : Int32) &&& 0x3f).toInt64.toUInt64).toInt64))]))
          refine own_by (fun _ k => XS.lcmp X0.here hx rfl (hb hby d1_46) rfl k) ?_
          show own_Go p e below _ (s₁.setTop (mkF m 47 #[.val (.long q0), .second] [(.int (lcmpW ((q0.toUInt64 >>> ((32 : Int32) &&& 0x3f).toInt64.toUInt64).toInt64) (0 : Int64)))]))
          by_cases c5 : ((q0.toUInt64 >>> ((32 : Int32) &&& 0x3f).toInt64.toUInt64).toInt64) = (0 : Int64)
          · skip
            refine own_by (fun _ k => XS.ifNo X0.here hx rfl (hb hby d1_47) rfl ((if0 _ _).trans (teq ((lw_eq _ _).mpr c5)).2) k) ?_
            show own_Go p e below _ (s₁.setTop (mkF m 50 #[.val (.long q0), .second] []))
            refine own_by (fun _ k => XS.iconst X0.here hx rfl (hb hby d1_50) k) ?_
            show own_Go p e below _ (s₁.setTop (mkF m 51 #[.val (.long q0), .second] [(.int (4 : Int32))]))
            exact own_retI X0 hx Bd.returns (hb hby d1_51) hlk e0 ⟨_, rfl, N0, rfl, (ob_1_10 q0 c1 c2 c3 c4 c5)⟩ (by decide) (by decide)
          · skip
            refine own_by (fun _ k => XS.ifYes X0.here hx rfl (pc0 := 47) (pc' := 52) rfl (hb hby d1_47) rfl ((if0 _ _).trans (feq (fun q => c5 ((lw_eq _ _).mp q))).2) (by decide) (by decide) k) ?_
            show own_Go p e below _ (s₁.setTop (mkF m 52 #[.val (.long q0), .second] []))
            refine own_by (fun _ k => XS.lloadN X0.here hx rfl (hb hby d1_52) rfl k) ?_
            show own_Go p e below _ (s₁.setTop (mkF m 53 #[.val (.long q0), .second] [(.long q0)]))
            refine own_by (fun _ k => XS.bipush X0.here hx rfl (hb hby d1_53) k) ?_
            show own_Go p e below _ (s₁.setTop (mkF m 55 #[.val (.long q0), .second] [(.int (40 : Int32)), (.long q0)]))
            refine own_by (fun _ k => XS.lushr X0.here hx rfl (hb hby d1_55) rfl k) ?_
            show own_Go p e below _ (s₁.setTop (mkF m 56 #[.val (.long q0), .second] [(.long ((q0.toUInt64 >>> ((40 : Int32) &&& 0x3f).toInt64.toUInt64).toInt64))]))
            refine own_by (fun _ k => XS.lconst X0.here hx rfl (hb hby d1_56) k) ?_
            show own_Go p e below _ (s₁.setTop (mkF m 57 #[.val (.long q0), .second] [(.long (0 : Int64)), (.long ((q0.toUInt64 >>> ((40 : Int32) &&& 0x3f).toInt64.toUInt64).toInt64))]))
            refine own_by (fun _ k => XS.lcmp X0.here hx rfl (hb hby d1_57) rfl k) ?_
            show own_Go p e below _ (s₁.setTop (mkF m 58 #[.val (.long q0), .second] [(.int (lcmpW ((q0.toUInt64 >>> ((40 : Int32) &&& 0x3f).toInt64.toUInt64).toInt64) (0 : Int64)))]))
            by_cases c6 : ((q0.toUInt64 >>> ((40 : Int32) &&& 0x3f).toInt64.toUInt64).toInt64) = (0 : Int64)
            · skip
              refine own_by (fun _ k => XS.ifNo X0.here hx rfl (hb hby d1_58) rfl ((if0 _ _).trans (teq ((lw_eq _ _).mpr c6)).2) k) ?_
              show own_Go p e below _ (s₁.setTop (mkF m 61 #[.val (.long q0), .second] []))
              refine own_by (fun _ k => XS.iconst X0.here hx rfl (hb hby d1_61) k) ?_
              show own_Go p e below _ (s₁.setTop (mkF m 62 #[.val (.long q0), .second] [(.int (5 : Int32))]))
              exact own_retI X0 hx Bd.returns (hb hby d1_62) hlk e0 ⟨_, rfl, N0, rfl, (ob_1_11 q0 c1 c2 c3 c4 c5 c6)⟩ (by decide) (by decide)
            · skip
              refine own_by (fun _ k => XS.ifYes X0.here hx rfl (pc0 := 58) (pc' := 63) rfl (hb hby d1_58) rfl ((if0 _ _).trans (feq (fun q => c6 ((lw_eq _ _).mp q))).2) (by decide) (by decide) k) ?_
              show own_Go p e below _ (s₁.setTop (mkF m 63 #[.val (.long q0), .second] []))
              refine own_by (fun _ k => XS.lloadN X0.here hx rfl (hb hby d1_63) rfl k) ?_
              show own_Go p e below _ (s₁.setTop (mkF m 64 #[.val (.long q0), .second] [(.long q0)]))
              refine own_by (fun _ k => XS.bipush X0.here hx rfl (hb hby d1_64) k) ?_
              show own_Go p e below _ (s₁.setTop (mkF m 66 #[.val (.long q0), .second] [(.int (48 : Int32)), (.long q0)]))
              refine own_by (fun _ k => XS.lushr X0.here hx rfl (hb hby d1_66) rfl k) ?_
              show own_Go p e below _ (s₁.setTop (mkF m 67 #[.val (.long q0), .second] [(.long ((q0.toUInt64 >>> ((48 : Int32) &&& 0x3f).toInt64.toUInt64).toInt64))]))
              refine own_by (fun _ k => XS.lconst X0.here hx rfl (hb hby d1_67) k) ?_
              show own_Go p e below _ (s₁.setTop (mkF m 68 #[.val (.long q0), .second] [(.long (0 : Int64)), (.long ((q0.toUInt64 >>> ((48 : Int32) &&& 0x3f).toInt64.toUInt64).toInt64))]))
              refine own_by (fun _ k => XS.lcmp X0.here hx rfl (hb hby d1_68) rfl k) ?_
              show own_Go p e below _ (s₁.setTop (mkF m 69 #[.val (.long q0), .second] [(.int (lcmpW ((q0.toUInt64 >>> ((48 : Int32) &&& 0x3f).toInt64.toUInt64).toInt64) (0 : Int64)))]))
              by_cases c7 : ((q0.toUInt64 >>> ((48 : Int32) &&& 0x3f).toInt64.toUInt64).toInt64) = (0 : Int64)
              · skip
                refine own_by (fun _ k => XS.ifNo X0.here hx rfl (hb hby d1_69) rfl ((if0 _ _).trans (teq ((lw_eq _ _).mpr c7)).2) k) ?_
                show own_Go p e below _ (s₁.setTop (mkF m 72 #[.val (.long q0), .second] []))
                refine own_by (fun _ k => XS.bipush X0.here hx rfl (hb hby d1_72) k) ?_
                show own_Go p e below _ (s₁.setTop (mkF m 74 #[.val (.long q0), .second] [(.int (6 : Int32))]))
                exact own_retI X0 hx Bd.returns (hb hby d1_74) hlk e0 ⟨_, rfl, N0, rfl, (ob_1_12 q0 c1 c2 c3 c4 c5 c6 c7)⟩ (by decide) (by decide)
              · skip
                refine own_by (fun _ k => XS.ifYes X0.here hx rfl (pc0 := 69) (pc' := 75) rfl (hb hby d1_69) rfl ((if0 _ _).trans (feq (fun q => c7 ((lw_eq _ _).mp q))).2) (by decide) (by decide) k) ?_
                show own_Go p e below _ (s₁.setTop (mkF m 75 #[.val (.long q0), .second] []))
                refine own_by (fun _ k => XS.lloadN X0.here hx rfl (hb hby d1_75) rfl k) ?_
                show own_Go p e below _ (s₁.setTop (mkF m 76 #[.val (.long q0), .second] [(.long q0)]))
                refine own_by (fun _ k => XS.bipush X0.here hx rfl (hb hby d1_76) k) ?_
                show own_Go p e below _ (s₁.setTop (mkF m 78 #[.val (.long q0), .second] [(.int (56 : Int32)), (.long q0)]))
                refine own_by (fun _ k => XS.lushr X0.here hx rfl (hb hby d1_78) rfl k) ?_
                show own_Go p e below _ (s₁.setTop (mkF m 79 #[.val (.long q0), .second] [(.long ((q0.toUInt64 >>> ((56 : Int32) &&& 0x3f).toInt64.toUInt64).toInt64))]))
                refine own_by (fun _ k => XS.lconst X0.here hx rfl (hb hby d1_79) k) ?_
                show own_Go p e below _ (s₁.setTop (mkF m 80 #[.val (.long q0), .second] [(.long (0 : Int64)), (.long ((q0.toUInt64 >>> ((56 : Int32) &&& 0x3f).toInt64.toUInt64).toInt64))]))
                refine own_by (fun _ k => XS.lcmp X0.here hx rfl (hb hby d1_80) rfl k) ?_
                show own_Go p e below _ (s₁.setTop (mkF m 81 #[.val (.long q0), .second] [(.int (lcmpW ((q0.toUInt64 >>> ((56 : Int32) &&& 0x3f).toInt64.toUInt64).toInt64) (0 : Int64)))]))
                by_cases c8 : ((q0.toUInt64 >>> ((56 : Int32) &&& 0x3f).toInt64.toUInt64).toInt64) = (0 : Int64)
                · skip
                  refine own_by (fun _ k => XS.ifNo X0.here hx rfl (hb hby d1_81) rfl ((if0 _ _).trans (teq ((lw_eq _ _).mpr c8)).2) k) ?_
                  show own_Go p e below _ (s₁.setTop (mkF m 84 #[.val (.long q0), .second] []))
                  refine own_by (fun _ k => XS.bipush X0.here hx rfl (hb hby d1_84) k) ?_
                  show own_Go p e below _ (s₁.setTop (mkF m 86 #[.val (.long q0), .second] [(.int (7 : Int32))]))
                  exact own_retI X0 hx Bd.returns (hb hby d1_86) hlk e0 ⟨_, rfl, N0, rfl, (ob_1_13 q0 c1 c2 c3 c4 c5 c6 c7 c8)⟩ (by decide) (by decide)
                · skip
                  refine own_by (fun _ k => XS.ifYes X0.here hx rfl (pc0 := 81) (pc' := 87) rfl (hb hby d1_81) rfl ((if0 _ _).trans (feq (fun q => c8 ((lw_eq _ _).mp q))).2) (by decide) (by decide) k) ?_
                  show own_Go p e below _ (s₁.setTop (mkF m 87 #[.val (.long q0), .second] []))
                  refine own_by (fun _ k => XS.bipush X0.here hx rfl (hb hby d1_87) k) ?_
                  show own_Go p e below _ (s₁.setTop (mkF m 89 #[.val (.long q0), .second] [(.int (8 : Int32))]))
                  exact own_retI X0 hx Bd.returns (hb hby d1_89) hlk e0 ⟨_, rfl, N0, rfl, (ob_1_14 q0 c1 c2 c3 c4 c5 c6 c7 c8)⟩ (by decide) (by decide)
theorem d6_0 : decode method_4_code 0 = .ok (.iload_n 1, 1) := by decide +kernel
theorem d6_1 : decode method_4_code 1 = .ok (.iload_n 2, 1) := by decide +kernel
theorem d6_2 : decode method_4_code 2 = .ok (.if_icmp .le 5, 3) := by decide +kernel
theorem d6_5 : decode method_4_code 5 = .ok (.iconst 1, 1) := by decide +kernel
theorem d6_6 : decode method_4_code 6 = .ok (.ireturn, 1) := by decide +kernel
theorem d6_7 : decode method_4_code 7 = .ok (.aload_n 0, 1) := by decide +kernel
theorem d6_8 : decode method_4_code 8 = .ok (.iload_n 1, 1) := by decide +kernel
theorem d6_9 : decode method_4_code 9 = .ok (.baload, 1) := by decide +kernel
theorem d6_10 : decode method_4_code 10 = .ok (.lload_n 3, 1) := by decide +kernel
theorem d6_11 : decode method_4_code 11 = .ok (.bipush 8, 2) := by decide +kernel
theorem d6_13 : decode method_4_code 13 = .ok (.iload_n 2, 1) := by decide +kernel
theorem d6_14 : decode method_4_code 14 = .ok (.iload_n 1, 1) := by decide +kernel
theorem d6_15 : decode method_4_code 15 = .ok (.isub, 1) := by decide +kernel
theorem d6_16 : decode method_4_code 16 = .ok (.imul, 1) := by decide +kernel
theorem d6_17 : decode method_4_code 17 = .ok (.lushr, 1) := by decide +kernel
theorem d6_18 : decode method_4_code 18 = .ok (.l2i, 1) := by decide +kernel
theorem d6_19 : decode method_4_code 19 = .ok (.i2b, 1) := by decide +kernel
theorem d6_20 : decode method_4_code 20 = .ok (.if_icmp .ne 7, 3) := by decide +kernel
theorem d6_23 : decode method_4_code 23 = .ok (.iconst 1, 1) := by decide +kernel
theorem d6_24 : decode method_4_code 24 = .ok (.goto 4, 3) := by decide +kernel
theorem d6_27 : decode method_4_code 27 = .ok (.iconst 0, 1) := by decide +kernel
theorem d6_28 : decode method_4_code 28 = .ok (.ireturn, 1) := by decide +kernel
theorem pn_6 : plainName "com/example/nested_keyspace/nestedkeyspace/TypedPartsEncodeSignedPinLaw" = true := by first | (simp [plainName, overriddenIn]; done) | decide +kernel
theorem ef_6 (m : MethodId) (a0 : Addr) (p1 : Int32) (p2 : Int32) (q3 : Int64) : entryFrame m #[(.ref a0), (.int p1), (.int p2), (.long q3)] 5 = mkF m 0 #[.val (.ref a0), .val (.int p1), .val (.int p2), .val (.long q3), .second] [] := by first | (simp [entryFrame, mkF, argsToLocals, Value.category]; done) | rfl
def Q6 (Z : State) (a0 : Addr) (p1 : Int32) (p2 : Int32) (q3 : Int64) (k_a0 : ClassId) (n_a0 : Int32) (fn_a0 : Nat → Int32) (h0 : Heap) (n0 : Nat) (v : Option Value) (h : Heap) (L : List Loc) : Prop := ∃ (zz : Int32), v = some (.int zz) ∧ Fr n0 L ∧ h = h0 ∧ (((p2 < p1) ∧ zz = (1 : Int32)) ∨ ((¬ (p2 < p1)) ∧ ((fn_a0 (p1).toNatClampNeg) = ((((q3.toUInt64 >>> (((8 : Int32) * (p2 - p1)) &&& 0x3f).toInt64.toUInt64).toInt64).toInt32).toInt8.toInt32)) ∧ zz = (1 : Int32)) ∨ ((¬ (p2 < p1)) ∧ (¬ ((fn_a0 (p1).toNatClampNeg) = ((((q3.toUInt64 >>> (((8 : Int32) * (p2 - p1)) &&& 0x3f).toInt64.toUInt64).toInt64).toInt32).toInt8.toInt32))) ∧ zz = (0 : Int32)))
set_option maxRecDepth 65536 in
set_option maxHeartbeats 40000000 in
theorem rm6 (l : Launch) (Z : State) (A0 : Array Value) (hw : ∀ d ∈ tables_1, d.before A0 Z = true) (ws : List Jvm.Cond) (a0 : Addr) (p1 : Int32) (p2 : Int32) (q3 : Int64) (k_a0 : ClassId) (n_a0 : Int32) (fn_a0 : Nat → Int32) (h0 : Heap) (n0 : Nat) (Z0 : n0 ≤ h0.size) (P_V_a0 : own_Arf Z h0 a0 k_a0 .byte n_a0 (fun i => .int (fn_a0 i))) (hi_9_1 : (¬ (p2 < p1)) → ((¬ p1 < 0) ∧ p1 < n_a0)) :
    MetFree l (⟨"com/example/nested_keyspace/nestedkeyspace/TypedPartsEncodeSignedPinLaw", "byteOk", "([BIIJ)Z"⟩ : MethodName) (head1 (Jvm.Cond.code (⟨"com/example/nested_keyspace/nestedkeyspace/TypedPartsEncodeSignedPinLaw", "byteOk", "([BIIJ)Z"⟩ : MethodName) method_4_code 5 (some .boolean) :: ws) ({ frames := 0, cells := 0, slots := 0, locals := 0 } : Room)) (fun a U => a = #[(.ref a0), (.int p1), (.int p2), (.long q3)] ∧ Z.Warmed39 U.vm ∧ U.heap = h0) (fun _ _ _ _ _ => True) (fun _ U o U' => ∃ v L, o = .returned v ∧ Q6 Z a0 p1 p2 q3 k_a0 n_a0 fn_a0 h0 n0 v U'.heap L ∧ FrameEnd U o U' L 0 0) := by
  refine MetFree.of_bodySF (plainFor_of_name pn_6) hisR ?_
  intro p e s m args below meth c s₁ Bd hml0 hP hK
  obtain ⟨rfl, hZ, hh⟩ := hP
  have hwd := fun i {d : Jvm.Cond} (h : tables_1[i]? = some d) => hw d (List.mem_of_getElem? h)
  have hx := Bd.exec
  have hby := Bd.bytes
  have hml : c.maxLocals = 5 := hml0
  have hlk : meth.locks = false := Bd.notSynchronized
  have hown : s.vm.findClass "com/example/nested_keyspace/nestedkeyspace/TypedPartsEncodeSignedPinLaw" = some m.cls := findClass_of_methodNamed Bd.named
  have hnm := (name_of_methodNamed Bd.named Bd.method).1
  have X0 : Stand p l e ({ frames := 0, cells := 0, slots := 0, locals := 0 } : Room) s m #[(.ref a0), (.int p1), (.int p2), (.long q3)] below meth c s₁ [] 0 0 := Stand.of_body Bd
  have e0 : s₁.heap = h0 := by rw [← hh, Bd.state]; rfl
  have N0 := Fr.nil n0
  show own_Go p e below (own_Fin s 0 0 (Q6 Z a0 p1 p2 q3 k_a0 n_a0 fn_a0 h0 n0)) _
  refine own_by (fun t k => castTop (ef_6 m a0 p1 p2 q3) k) ?_
  show own_Go p e below _ (s₁.setTop (mkF m 0 #[.val (.ref a0), .val (.int p1), .val (.int p2), .val (.long q3), .second] []))
  refine own_by (fun _ k => XS.iloadN X0.here hx rfl (hb hby d6_0) rfl k) ?_
  show own_Go p e below _ (s₁.setTop (mkF m 1 #[.val (.ref a0), .val (.int p1), .val (.int p2), .val (.long q3), .second] [(.int p1)]))
  refine own_by (fun _ k => XS.iloadN X0.here hx rfl (hb hby d6_1) rfl k) ?_
  show own_Go p e below _ (s₁.setTop (mkF m 2 #[.val (.ref a0), .val (.int p1), .val (.int p2), .val (.long q3), .second] [(.int p2), (.int p1)]))
  by_cases c1 : p2 < p1
  · skip
    refine own_by (fun _ k => XS.icmpNo X0.here hx rfl (hb hby d6_2) rfl (tlt c1).2.2.2 k) ?_
    show own_Go p e below _ (s₁.setTop (mkF m 5 #[.val (.ref a0), .val (.int p1), .val (.int p2), .val (.long q3), .second] []))
    refine own_by (fun _ k => XS.iconst X0.here hx rfl (hb hby d6_5) k) ?_
    show own_Go p e below _ (s₁.setTop (mkF m 6 #[.val (.ref a0), .val (.int p1), .val (.int p2), .val (.long q3), .second] [(.int (1 : Int32))]))
    exact own_retN X0 hx (t := .boolean) Bd.returns (by simp) (hb hby d6_6) hlk e0 ⟨_, rfl, N0, rfl, (Or.inl ⟨c1, rfl⟩)⟩ (by decide) (by decide)
  · skip
    refine own_by (fun _ k => XS.icmpYes X0.here hx rfl (pc0 := 2) (pc' := 7) rfl (hb hby d6_2) rfl (flt c1).2.2.2 (by decide) (by decide) k) ?_
    show own_Go p e below _ (s₁.setTop (mkF m 7 #[.val (.ref a0), .val (.int p1), .val (.int p2), .val (.long q3), .second] []))
    refine own_by (fun _ k => XS.aloadN X0.here hx rfl (hb hby d6_7) rfl rfl k) ?_
    show own_Go p e below _ (s₁.setTop (mkF m 8 #[.val (.ref a0), .val (.int p1), .val (.int p2), .val (.long q3), .second] [(.ref a0)]))
    refine own_by (fun _ k => XS.iloadN X0.here hx rfl (hb hby d6_8) rfl k) ?_
    show own_Go p e below _ (s₁.setTop (mkF m 9 #[.val (.ref a0), .val (.int p1), .val (.int p2), .val (.long q3), .second] [(.int p1), (.ref a0)]))
    obtain ⟨cl2, Ar2, qq2, S2, M2, H2, G2⟩ := id P_V_a0
    have hin2 : ¬ (p1 < 0 ∨ cl2.slots.size ≤ (p1).toNatClampNeg) := inb_of S2 (hi_9_1 c1)
    refine own_by (fun t k => X0.baloadBytes hx (j := p1) (v := (.int (fn_a0 (p1).toNatClampNeg))) (by rw [e0]; exact Ar2.1) (State.isArrayOf_alike hZ.alike Ar2.2.1) Ar2.2.2 hin2 (H2 _ (Nat.lt_of_not_le fun y => hin2 (Or.inr y))) (g := (mkF m 9 #[.val (.ref a0), .val (.int p1), .val (.int p2), .val (.long q3), .second] [(.int p1), (.ref a0)])) rfl rfl (hb hby d6_9) _ k) ?_
    show own_Go p e below _ (s₁.setTop (mkF m 10 #[.val (.ref a0), .val (.int p1), .val (.int p2), .val (.long q3), .second] [(.int (fn_a0 (p1).toNatClampNeg))]))
    refine own_by (fun _ k => XS.lloadN X0.here hx rfl (hb hby d6_10) rfl k) ?_
    show own_Go p e below _ (s₁.setTop (mkF m 11 #[.val (.ref a0), .val (.int p1), .val (.int p2), .val (.long q3), .second] [(.long q3), (.int (fn_a0 (p1).toNatClampNeg))]))
    refine own_by (fun _ k => XS.bipush X0.here hx rfl (hb hby d6_11) k) ?_
    show own_Go p e below _ (s₁.setTop (mkF m 13 #[.val (.ref a0), .val (.int p1), .val (.int p2), .val (.long q3), .second] [(.int (8 : Int32)), (.long q3), (.int (fn_a0 (p1).toNatClampNeg))]))
    refine own_by (fun _ k => XS.iloadN X0.here hx rfl (hb hby d6_13) rfl k) ?_
    show own_Go p e below _ (s₁.setTop (mkF m 14 #[.val (.ref a0), .val (.int p1), .val (.int p2), .val (.long q3), .second] [(.int p2), (.int (8 : Int32)), (.long q3), (.int (fn_a0 (p1).toNatClampNeg))]))
    refine own_by (fun _ k => XS.iloadN X0.here hx rfl (hb hby d6_14) rfl k) ?_
    show own_Go p e below _ (s₁.setTop (mkF m 15 #[.val (.ref a0), .val (.int p1), .val (.int p2), .val (.long q3), .second] [(.int p1), (.int p2), (.int (8 : Int32)), (.long q3), (.int (fn_a0 (p1).toNatClampNeg))]))
    refine own_by (fun _ k => XS.isub X0.here hx rfl (hb hby d6_15) rfl k) ?_
    show own_Go p e below _ (s₁.setTop (mkF m 16 #[.val (.ref a0), .val (.int p1), .val (.int p2), .val (.long q3), .second] [(.int (p2 - p1)), (.int (8 : Int32)), (.long q3), (.int (fn_a0 (p1).toNatClampNeg))]))
    refine own_by (fun _ k => XS.imul X0.here hx rfl (hb hby d6_16) rfl k) ?_
    show own_Go p e below _ (s₁.setTop (mkF m 17 #[.val (.ref a0), .val (.int p1), .val (.int p2), .val (.long q3), .second] [(.int ((8 : Int32) * (p2 - p1))), (.long q3), (.int (fn_a0 (p1).toNatClampNeg))]))
    refine own_by (fun _ k => XS.lushr X0.here hx rfl (hb hby d6_17) rfl k) ?_
    show own_Go p e below _ (s₁.setTop (mkF m 18 #[.val (.ref a0), .val (.int p1), .val (.int p2), .val (.long q3), .second] [(.long ((q3.toUInt64 >>> (((8 : Int32) * (p2 - p1)) &&& 0x3f).toInt64.toUInt64).toInt64)), (.int (fn_a0 (p1).toNatClampNeg))]))
    refine own_by (fun _ k => XS.l2i X0.here hx rfl (hb hby d6_18) rfl k) ?_
    show own_Go p e below _ (s₁.setTop (mkF m 19 #[.val (.ref a0), .val (.int p1), .val (.int p2), .val (.long q3), .second] [(.int (((q3.toUInt64 >>> (((8 : Int32) * (p2 - p1)) &&& 0x3f).toInt64.toUInt64).toInt64).toInt32)), (.int (fn_a0 (p1).toNatClampNeg))]))
    refine own_by (fun _ k => XS.i2b X0.here hx rfl (hb hby d6_19) rfl k) ?_
    show own_Go p e below _ (s₁.setTop (mkF m 20 #[.val (.ref a0), .val (.int p1), .val (.int p2), .val (.long q3), .second] [(.int ((((q3.toUInt64 >>> (((8 : Int32) * (p2 - p1)) &&& 0x3f).toInt64.toUInt64).toInt64).toInt32).toInt8.toInt32)), (.int (fn_a0 (p1).toNatClampNeg))]))
    by_cases c3 : (fn_a0 (p1).toNatClampNeg) = ((((q3.toUInt64 >>> (((8 : Int32) * (p2 - p1)) &&& 0x3f).toInt64.toUInt64).toInt64).toInt32).toInt8.toInt32)
    · skip
      refine own_by (fun _ k => XS.icmpNo X0.here hx rfl (hb hby d6_20) rfl (teq c3).2 k) ?_
      show own_Go p e below _ (s₁.setTop (mkF m 23 #[.val (.ref a0), .val (.int p1), .val (.int p2), .val (.long q3), .second] []))
      refine own_by (fun _ k => XS.iconst X0.here hx rfl (hb hby d6_23) k) ?_
      show own_Go p e below _ (s₁.setTop (mkF m 24 #[.val (.ref a0), .val (.int p1), .val (.int p2), .val (.long q3), .second] [(.int (1 : Int32))]))
      refine own_by (fun _ k => XS.goto X0.here hx rfl (pc0 := 24) (pc' := 28) rfl (hb hby d6_24) (by decide) (by decide) k) ?_
      show own_Go p e below _ (s₁.setTop (mkF m 28 #[.val (.ref a0), .val (.int p1), .val (.int p2), .val (.long q3), .second] [(.int (1 : Int32))]))
      exact own_retN X0 hx (t := .boolean) Bd.returns (by simp) (hb hby d6_28) hlk e0 ⟨_, rfl, N0, rfl, (Or.inr (Or.inl ⟨c1, c3, rfl⟩))⟩ (by decide) (by decide)
    · skip
      refine own_by (fun _ k => XS.icmpYes X0.here hx rfl (pc0 := 20) (pc' := 27) rfl (hb hby d6_20) rfl (feq c3).2 (by decide) (by decide) k) ?_
      show own_Go p e below _ (s₁.setTop (mkF m 27 #[.val (.ref a0), .val (.int p1), .val (.int p2), .val (.long q3), .second] []))
      refine own_by (fun _ k => XS.iconst X0.here hx rfl (hb hby d6_27) k) ?_
      show own_Go p e below _ (s₁.setTop (mkF m 28 #[.val (.ref a0), .val (.int p1), .val (.int p2), .val (.long q3), .second] [(.int (0 : Int32))]))
      exact own_retN X0 hx (t := .boolean) Bd.returns (by simp) (hb hby d6_28) hlk e0 ⟨_, rfl, N0, rfl, (Or.inr (Or.inr (⟨c1, c3, rfl⟩)))⟩ (by decide) (by decide)
theorem d5_0 : decode prog_20_method_14_code 0 = .ok (.lload_n 0, 1) := by decide +kernel
theorem d5_1 : decode prog_20_method_14_code 1 = .ok (.lstore 5, 2) := by decide +kernel
theorem d5_3 : decode prog_20_method_14_code 3 = .ok (.iload_n 3, 1) := by decide +kernel
theorem d5_4 : decode prog_20_method_14_code 4 = .ok (.iload 4, 2) := by decide +kernel
theorem d5_6 : decode prog_20_method_14_code 6 = .ok (.iadd, 1) := by decide +kernel
theorem d5_7 : decode prog_20_method_14_code 7 = .ok (.iconst 1, 1) := by decide +kernel
theorem d5_8 : decode prog_20_method_14_code 8 = .ok (.isub, 1) := by decide +kernel
theorem d5_9 : decode prog_20_method_14_code 9 = .ok (.istore 7, 2) := by decide +kernel
theorem d5_11 : decode prog_20_method_14_code 11 = .ok (.iload 7, 2) := by decide +kernel
theorem d5_13 : decode prog_20_method_14_code 13 = .ok (.iload_n 3, 1) := by decide +kernel
theorem d5_14 : decode prog_20_method_14_code 14 = .ok (.if_icmp .lt 24, 3) := by decide +kernel
theorem d5_38 : decode prog_20_method_14_code 38 = .ok (.return_, 1) := by decide +kernel
theorem pn_wb0 : plainName "com/example/nested_keyspace/nestedkeyspace/TypedParts" = true := by first | (simp [plainName, overriddenIn]; done) | decide +kernel
theorem ef_wb0 (m : MethodId) (q0 : Int64) (a1 : Addr) : entryFrame m #[(.long q0), (.ref a1), (.int (1 : Int32)), (.int (0 : Int32))] 8 = mkF m 0 #[.val (.long q0), .second, .val (.ref a1), .val (.int (1 : Int32)), .val (.int (0 : Int32)), .unset, .unset, .unset] [] := by first | (simp [entryFrame, mkF, argsToLocals, Value.category]; done) | rfl
def Qwb0 (Z : State) (k_a1 : ClassId) (fn_a1 : Nat → Int32) (q0 : Int64) (a1 : Addr) (h0 : Heap) (n0 : Nat) (v : Option Value) (h : Heap) (L : List Loc) : Prop := v = none ∧ Fr n0 L ∧ h = h0
set_option maxRecDepth 65536 in
set_option maxHeartbeats 40000000 in
theorem rmwb0 (l : Launch) (Z : State) (A0 : Array Value) (hw : ∀ d ∈ tables_1, d.before A0 Z = true) (ws : List Jvm.Cond) (k_a1 : ClassId) (fn_a1 : Nat → Int32) (q0 : Int64) (a1 : Addr) (h0 : Heap) (n0 : Nat) (Z0 : n0 ≤ h0.size) (P_V_a1 : own_Arf Z h0 a1 k_a1 .byte (1 : Int32) (fun i => .int (fn_a1 i))) :
    MetFree l (⟨"com/example/nested_keyspace/nestedkeyspace/TypedParts", "writeBigEndian", "(J[BII)V"⟩ : MethodName) (head1 (Jvm.Cond.code (⟨"com/example/nested_keyspace/nestedkeyspace/TypedParts", "writeBigEndian", "(J[BII)V"⟩ : MethodName) prog_20_method_14_code 8 none :: ws) ({ frames := 0, cells := 0, slots := 0, locals := 0 } : Room)) (fun a U => a = #[(.long q0), (.ref a1), (.int (1 : Int32)), (.int (0 : Int32))] ∧ Z.Warmed39 U.vm ∧ U.heap = h0) (fun _ _ _ _ _ => True) (fun _ U o U' => ∃ v L, o = .returned v ∧ Qwb0 Z k_a1 fn_a1 q0 a1 h0 n0 v U'.heap L ∧ FrameEnd U o U' L 0 0) := by
  refine MetFree.of_bodySF (plainFor_of_name pn_wb0) hisR ?_
  intro p e s m args below meth c s₁ Bd hml0 hP hK
  obtain ⟨rfl, hZ, hh⟩ := hP
  have hwd := fun i {d : Jvm.Cond} (h : tables_1[i]? = some d) => hw d (List.mem_of_getElem? h)
  have hx := Bd.exec
  have hby := Bd.bytes
  have hml : c.maxLocals = 8 := hml0
  have hlk : meth.locks = false := Bd.notSynchronized
  have hown : s.vm.findClass "com/example/nested_keyspace/nestedkeyspace/TypedParts" = some m.cls := findClass_of_methodNamed Bd.named
  have hnm := (name_of_methodNamed Bd.named Bd.method).1
  have X0 : Stand p l e ({ frames := 0, cells := 0, slots := 0, locals := 0 } : Room) s m #[(.long q0), (.ref a1), (.int (1 : Int32)), (.int (0 : Int32))] below meth c s₁ [] 0 0 := Stand.of_body Bd
  have e0 : s₁.heap = h0 := by rw [← hh, Bd.state]; rfl
  have N0 := Fr.nil n0
  show own_Go p e below (own_Fin s 0 0 (Qwb0 Z k_a1 fn_a1 q0 a1 h0 n0)) _
  refine own_by (fun t k => castTop (ef_wb0 m q0 a1) k) ?_
  show own_Go p e below _ (s₁.setTop (mkF m 0 #[.val (.long q0), .second, .val (.ref a1), .val (.int (1 : Int32)), .val (.int (0 : Int32)), .unset, .unset, .unset] []))
  refine own_by (fun _ k => XS.lloadN X0.here hx rfl (hb hby d5_0) rfl k) ?_
  show own_Go p e below _ (s₁.setTop (mkF m 1 #[.val (.long q0), .second, .val (.ref a1), .val (.int (1 : Int32)), .val (.int (0 : Int32)), .unset, .unset, .unset] [(.long q0)]))
  refine own_by (fun _ k => XS.lstore X0.here hx rfl (hb hby d5_1) rfl (l' := #[.val (.long q0), .second, .val (.ref a1), .val (.int (1 : Int32)), .val (.int (0 : Int32)), .val (.long q0), .second, .unset]) rfl k) ?_
  show own_Go p e below _ (s₁.setTop (mkF m 3 #[.val (.long q0), .second, .val (.ref a1), .val (.int (1 : Int32)), .val (.int (0 : Int32)), .val (.long q0), .second, .unset] []))
  refine own_by (fun _ k => XS.iloadN X0.here hx rfl (hb hby d5_3) rfl k) ?_
  show own_Go p e below _ (s₁.setTop (mkF m 4 #[.val (.long q0), .second, .val (.ref a1), .val (.int (1 : Int32)), .val (.int (0 : Int32)), .val (.long q0), .second, .unset] [(.int (1 : Int32))]))
  refine own_by (fun _ k => XS.iload X0.here hx rfl (hb hby d5_4) rfl k) ?_
  show own_Go p e below _ (s₁.setTop (mkF m 6 #[.val (.long q0), .second, .val (.ref a1), .val (.int (1 : Int32)), .val (.int (0 : Int32)), .val (.long q0), .second, .unset] [(.int (0 : Int32)), (.int (1 : Int32))]))
  refine own_by (fun _ k => XS.iadd X0.here hx rfl (hb hby d5_6) rfl k) ?_
  show own_Go p e below _ (s₁.setTop (mkF m 7 #[.val (.long q0), .second, .val (.ref a1), .val (.int (1 : Int32)), .val (.int (0 : Int32)), .val (.long q0), .second, .unset] [(.int (1 : Int32))]))
  refine own_by (fun _ k => XS.iconst X0.here hx rfl (hb hby d5_7) k) ?_
  show own_Go p e below _ (s₁.setTop (mkF m 8 #[.val (.long q0), .second, .val (.ref a1), .val (.int (1 : Int32)), .val (.int (0 : Int32)), .val (.long q0), .second, .unset] [(.int (1 : Int32)), (.int (1 : Int32))]))
  refine own_by (fun _ k => XS.isub X0.here hx rfl (hb hby d5_8) rfl k) ?_
  show own_Go p e below _ (s₁.setTop (mkF m 9 #[.val (.long q0), .second, .val (.ref a1), .val (.int (1 : Int32)), .val (.int (0 : Int32)), .val (.long q0), .second, .unset] [(.int (0 : Int32))]))
  refine own_by (fun _ k => XS.istore X0.here hx rfl (hb hby d5_9) rfl (l' := #[.val (.long q0), .second, .val (.ref a1), .val (.int (1 : Int32)), .val (.int (0 : Int32)), .val (.long q0), .second, .val (.int (0 : Int32))]) rfl k) ?_
  show own_Go p e below _ (s₁.setTop (mkF m 11 #[.val (.long q0), .second, .val (.ref a1), .val (.int (1 : Int32)), .val (.int (0 : Int32)), .val (.long q0), .second, .val (.int (0 : Int32))] []))
  show own_Go p e below _ (s₁.setTop (mkF m 11 #[.val (.long q0), .second, .val (.ref a1), .val (.int (1 : Int32)), .val (.int (0 : Int32)), .val (.long (own_sh q0 0)), .second, .val (.int (0 : Int32))] []))
  show own_Go p e below _ (s₁.setTop (mkF m 11 #[.val (.long q0), .second, .val (.ref a1), .val (.int (1 : Int32)), .val (.int (0 : Int32)), .val (.long (own_sh q0 0)), .second, .val (.int (0 : Int32))] []))
  have V1 : own_Arf Z h0 a1 k_a1 .byte (1 : Int32) (fun i => .int ((own_wr fn_a1 q0 0 0) i)) := P_V_a1
  refine own_by (fun _ k => XS.iload X0.here hx rfl (hb hby d5_11) rfl k) ?_
  show own_Go p e below _ (s₁.setTop (mkF m 13 #[.val (.long q0), .second, .val (.ref a1), .val (.int (1 : Int32)), .val (.int (0 : Int32)), .val (.long (own_sh q0 0)), .second, .val (.int (0 : Int32))] [(.int (0 : Int32))]))
  refine own_by (fun _ k => XS.iloadN X0.here hx rfl (hb hby d5_13) rfl k) ?_
  show own_Go p e below _ (s₁.setTop (mkF m 14 #[.val (.long q0), .second, .val (.ref a1), .val (.int (1 : Int32)), .val (.int (0 : Int32)), .val (.long (own_sh q0 0)), .second, .val (.int (0 : Int32))] [(.int (1 : Int32)), (.int (0 : Int32))]))
  refine own_by (fun _ k => XS.icmpYes X0.here hx rfl (pc0 := 14) (pc' := 38) rfl (hb hby d5_14) rfl (tlt (by decide : (0 : Int32) < (1 : Int32))).1 (by decide) (by decide) k) ?_
  show own_Go p e below _ (s₁.setTop (mkF m 38 #[.val (.long q0), .second, .val (.ref a1), .val (.int (1 : Int32)), .val (.int (0 : Int32)), .val (.long (own_sh q0 0)), .second, .val (.int (0 : Int32))] []))
  exact own_ret0 X0 hx Bd.returns (hb hby d5_38) hlk e0 ⟨rfl, N0, rfl⟩ (by decide) (by decide)
theorem d5_17 : decode prog_20_method_14_code 17 = .ok (.aload_n 2, 1) := by decide +kernel
theorem d5_18 : decode prog_20_method_14_code 18 = .ok (.iload 7, 2) := by decide +kernel
theorem d5_20 : decode prog_20_method_14_code 20 = .ok (.lload 5, 2) := by decide +kernel
theorem d5_22 : decode prog_20_method_14_code 22 = .ok (.l2i, 1) := by decide +kernel
theorem d5_23 : decode prog_20_method_14_code 23 = .ok (.i2b, 1) := by decide +kernel
theorem d5_24 : decode prog_20_method_14_code 24 = .ok (.bastore, 1) := by decide +kernel
theorem d5_25 : decode prog_20_method_14_code 25 = .ok (.lload 5, 2) := by decide +kernel
theorem d5_27 : decode prog_20_method_14_code 27 = .ok (.bipush 8, 2) := by decide +kernel
theorem d5_29 : decode prog_20_method_14_code 29 = .ok (.lushr, 1) := by decide +kernel
theorem d5_30 : decode prog_20_method_14_code 30 = .ok (.lstore 5, 2) := by decide +kernel
theorem d5_32 : decode prog_20_method_14_code 32 = .ok (.iinc 7 (-1), 3) := by decide +kernel
theorem d5_35 : decode prog_20_method_14_code 35 = .ok (.goto (-24), 3) := by decide +kernel
theorem pn_wb1 : plainName "com/example/nested_keyspace/nestedkeyspace/TypedParts" = true := by first | (simp [plainName, overriddenIn]; done) | decide +kernel
theorem ef_wb1 (m : MethodId) (q0 : Int64) (a1 : Addr) : entryFrame m #[(.long q0), (.ref a1), (.int (1 : Int32)), (.int (1 : Int32))] 8 = mkF m 0 #[.val (.long q0), .second, .val (.ref a1), .val (.int (1 : Int32)), .val (.int (1 : Int32)), .unset, .unset, .unset] [] := by first | (simp [entryFrame, mkF, argsToLocals, Value.category]; done) | rfl
def Qwb1 (Z : State) (k_a1 : ClassId) (fn_a1 : Nat → Int32) (q0 : Int64) (a1 : Addr) (h0 : Heap) (n0 : Nat) (v : Option Value) (h : Heap) (L : List Loc) : Prop := v = none ∧ Fr n0 L ∧ Keep h0 h [a1] ∧ own_Arf Z h a1 k_a1 .byte (2 : Int32) (fun i => .int ((own_wr fn_a1 q0 1 1) i))
set_option maxRecDepth 65536 in
set_option maxHeartbeats 40000000 in
theorem rmwb1 (l : Launch) (Z : State) (A0 : Array Value) (hw : ∀ d ∈ tables_1, d.before A0 Z = true) (ws : List Jvm.Cond) (k_a1 : ClassId) (fn_a1 : Nat → Int32) (q0 : Int64) (a1 : Addr) (h0 : Heap) (n0 : Nat) (Z0 : n0 ≤ h0.size) (P_V_a1 : own_Arf Z h0 a1 k_a1 .byte (2 : Int32) (fun i => .int (fn_a1 i))) (g_a1 : n0 ≤ a1) :
    MetFree l (⟨"com/example/nested_keyspace/nestedkeyspace/TypedParts", "writeBigEndian", "(J[BII)V"⟩ : MethodName) (head1 (Jvm.Cond.code (⟨"com/example/nested_keyspace/nestedkeyspace/TypedParts", "writeBigEndian", "(J[BII)V"⟩ : MethodName) prog_20_method_14_code 8 none :: ws) ({ frames := 0, cells := 0, slots := 0, locals := 0 } : Room)) (fun a U => a = #[(.long q0), (.ref a1), (.int (1 : Int32)), (.int (1 : Int32))] ∧ Z.Warmed39 U.vm ∧ U.heap = h0) (fun _ _ _ _ _ => True) (fun _ U o U' => ∃ v L, o = .returned v ∧ Qwb1 Z k_a1 fn_a1 q0 a1 h0 n0 v U'.heap L ∧ FrameEnd U o U' L 0 0) := by
  refine MetFree.of_bodySF (plainFor_of_name pn_wb1) hisR ?_
  intro p e s m args below meth c s₁ Bd hml0 hP hK
  obtain ⟨rfl, hZ, hh⟩ := hP
  have hwd := fun i {d : Jvm.Cond} (h : tables_1[i]? = some d) => hw d (List.mem_of_getElem? h)
  have hx := Bd.exec
  have hby := Bd.bytes
  have hml : c.maxLocals = 8 := hml0
  have hlk : meth.locks = false := Bd.notSynchronized
  have hown : s.vm.findClass "com/example/nested_keyspace/nestedkeyspace/TypedParts" = some m.cls := findClass_of_methodNamed Bd.named
  have hnm := (name_of_methodNamed Bd.named Bd.method).1
  have X0 : Stand p l e ({ frames := 0, cells := 0, slots := 0, locals := 0 } : Room) s m #[(.long q0), (.ref a1), (.int (1 : Int32)), (.int (1 : Int32))] below meth c s₁ [] 0 0 := Stand.of_body Bd
  have e0 : s₁.heap = h0 := by rw [← hh, Bd.state]; rfl
  have N0 := Fr.nil n0
  show own_Go p e below (own_Fin s 0 0 (Qwb1 Z k_a1 fn_a1 q0 a1 h0 n0)) _
  refine own_by (fun t k => castTop (ef_wb1 m q0 a1) k) ?_
  show own_Go p e below _ (s₁.setTop (mkF m 0 #[.val (.long q0), .second, .val (.ref a1), .val (.int (1 : Int32)), .val (.int (1 : Int32)), .unset, .unset, .unset] []))
  refine own_by (fun _ k => XS.lloadN X0.here hx rfl (hb hby d5_0) rfl k) ?_
  show own_Go p e below _ (s₁.setTop (mkF m 1 #[.val (.long q0), .second, .val (.ref a1), .val (.int (1 : Int32)), .val (.int (1 : Int32)), .unset, .unset, .unset] [(.long q0)]))
  refine own_by (fun _ k => XS.lstore X0.here hx rfl (hb hby d5_1) rfl (l' := #[.val (.long q0), .second, .val (.ref a1), .val (.int (1 : Int32)), .val (.int (1 : Int32)), .val (.long q0), .second, .unset]) rfl k) ?_
  show own_Go p e below _ (s₁.setTop (mkF m 3 #[.val (.long q0), .second, .val (.ref a1), .val (.int (1 : Int32)), .val (.int (1 : Int32)), .val (.long q0), .second, .unset] []))
  refine own_by (fun _ k => XS.iloadN X0.here hx rfl (hb hby d5_3) rfl k) ?_
  show own_Go p e below _ (s₁.setTop (mkF m 4 #[.val (.long q0), .second, .val (.ref a1), .val (.int (1 : Int32)), .val (.int (1 : Int32)), .val (.long q0), .second, .unset] [(.int (1 : Int32))]))
  refine own_by (fun _ k => XS.iload X0.here hx rfl (hb hby d5_4) rfl k) ?_
  show own_Go p e below _ (s₁.setTop (mkF m 6 #[.val (.long q0), .second, .val (.ref a1), .val (.int (1 : Int32)), .val (.int (1 : Int32)), .val (.long q0), .second, .unset] [(.int (1 : Int32)), (.int (1 : Int32))]))
  refine own_by (fun _ k => XS.iadd X0.here hx rfl (hb hby d5_6) rfl k) ?_
  show own_Go p e below _ (s₁.setTop (mkF m 7 #[.val (.long q0), .second, .val (.ref a1), .val (.int (1 : Int32)), .val (.int (1 : Int32)), .val (.long q0), .second, .unset] [(.int (2 : Int32))]))
  refine own_by (fun _ k => XS.iconst X0.here hx rfl (hb hby d5_7) k) ?_
  show own_Go p e below _ (s₁.setTop (mkF m 8 #[.val (.long q0), .second, .val (.ref a1), .val (.int (1 : Int32)), .val (.int (1 : Int32)), .val (.long q0), .second, .unset] [(.int (1 : Int32)), (.int (2 : Int32))]))
  refine own_by (fun _ k => XS.isub X0.here hx rfl (hb hby d5_8) rfl k) ?_
  show own_Go p e below _ (s₁.setTop (mkF m 9 #[.val (.long q0), .second, .val (.ref a1), .val (.int (1 : Int32)), .val (.int (1 : Int32)), .val (.long q0), .second, .unset] [(.int (1 : Int32))]))
  refine own_by (fun _ k => XS.istore X0.here hx rfl (hb hby d5_9) rfl (l' := #[.val (.long q0), .second, .val (.ref a1), .val (.int (1 : Int32)), .val (.int (1 : Int32)), .val (.long q0), .second, .val (.int (1 : Int32))]) rfl k) ?_
  show own_Go p e below _ (s₁.setTop (mkF m 11 #[.val (.long q0), .second, .val (.ref a1), .val (.int (1 : Int32)), .val (.int (1 : Int32)), .val (.long q0), .second, .val (.int (1 : Int32))] []))
  show own_Go p e below _ (s₁.setTop (mkF m 11 #[.val (.long q0), .second, .val (.ref a1), .val (.int (1 : Int32)), .val (.int (1 : Int32)), .val (.long (own_sh q0 0)), .second, .val (.int (1 : Int32))] []))
  show own_Go p e below _ (s₁.setTop (mkF m 11 #[.val (.long q0), .second, .val (.ref a1), .val (.int (1 : Int32)), .val (.int (1 : Int32)), .val (.long (own_sh q0 0)), .second, .val (.int (1 : Int32))] []))
  have V1 : own_Arf Z h0 a1 k_a1 .byte (2 : Int32) (fun i => .int ((own_wr fn_a1 q0 1 0) i)) := P_V_a1
  refine own_by (fun _ k => XS.iload X0.here hx rfl (hb hby d5_11) rfl k) ?_
  show own_Go p e below _ (s₁.setTop (mkF m 13 #[.val (.long q0), .second, .val (.ref a1), .val (.int (1 : Int32)), .val (.int (1 : Int32)), .val (.long (own_sh q0 0)), .second, .val (.int (1 : Int32))] [(.int (1 : Int32))]))
  refine own_by (fun _ k => XS.iloadN X0.here hx rfl (hb hby d5_13) rfl k) ?_
  show own_Go p e below _ (s₁.setTop (mkF m 14 #[.val (.long q0), .second, .val (.ref a1), .val (.int (1 : Int32)), .val (.int (1 : Int32)), .val (.long (own_sh q0 0)), .second, .val (.int (1 : Int32))] [(.int (1 : Int32)), (.int (1 : Int32))]))
  refine own_by (fun _ k => XS.icmpNo X0.here hx rfl (hb hby d5_14) rfl (flt (by decide : ¬ ((1 : Int32) < (1 : Int32)))).1 k) ?_
  show own_Go p e below _ (s₁.setTop (mkF m 17 #[.val (.long q0), .second, .val (.ref a1), .val (.int (1 : Int32)), .val (.int (1 : Int32)), .val (.long (own_sh q0 0)), .second, .val (.int (1 : Int32))] []))
  refine own_by (fun _ k => XS.aloadN X0.here hx rfl (hb hby d5_17) rfl rfl k) ?_
  show own_Go p e below _ (s₁.setTop (mkF m 18 #[.val (.long q0), .second, .val (.ref a1), .val (.int (1 : Int32)), .val (.int (1 : Int32)), .val (.long (own_sh q0 0)), .second, .val (.int (1 : Int32))] [(.ref a1)]))
  refine own_by (fun _ k => XS.iload X0.here hx rfl (hb hby d5_18) rfl k) ?_
  show own_Go p e below _ (s₁.setTop (mkF m 20 #[.val (.long q0), .second, .val (.ref a1), .val (.int (1 : Int32)), .val (.int (1 : Int32)), .val (.long (own_sh q0 0)), .second, .val (.int (1 : Int32))] [(.int (1 : Int32)), (.ref a1)]))
  refine own_by (fun _ k => XS.lload X0.here hx rfl (hb hby d5_20) rfl k) ?_
  show own_Go p e below _ (s₁.setTop (mkF m 22 #[.val (.long q0), .second, .val (.ref a1), .val (.int (1 : Int32)), .val (.int (1 : Int32)), .val (.long (own_sh q0 0)), .second, .val (.int (1 : Int32))] [(.long (own_sh q0 0)), (.int (1 : Int32)), (.ref a1)]))
  refine own_by (fun _ k => XS.l2i X0.here hx rfl (hb hby d5_22) rfl k) ?_
  show own_Go p e below _ (s₁.setTop (mkF m 23 #[.val (.long q0), .second, .val (.ref a1), .val (.int (1 : Int32)), .val (.int (1 : Int32)), .val (.long (own_sh q0 0)), .second, .val (.int (1 : Int32))] [(.int ((own_sh q0 0).toInt32)), (.int (1 : Int32)), (.ref a1)]))
  refine own_by (fun _ k => XS.i2b X0.here hx rfl (hb hby d5_23) rfl k) ?_
  show own_Go p e below _ (s₁.setTop (mkF m 24 #[.val (.long q0), .second, .val (.ref a1), .val (.int (1 : Int32)), .val (.int (1 : Int32)), .val (.long (own_sh q0 0)), .second, .val (.int (1 : Int32))] [(.int (((own_sh q0 0).toInt32).toInt8.toInt32)), (.int (1 : Int32)), (.ref a1)]))
  obtain ⟨cl2, Ar2, qq2, S2, M2, H2, G2⟩ := id V1
  have hin2 : ¬ ((1 : Int32) < 0 ∨ cl2.slots.size ≤ ((1 : Int32)).toNatClampNeg) := inb_of S2 ⟨by decide, by decide⟩
  obtain ⟨T3, h3, X3, e3, W3, st3⟩ := stB X0 hx hZ e0 Ar2 (j := (1 : Int32)) hin2 (g := (mkF m 24 #[.val (.long q0), .second, .val (.ref a1), .val (.int (1 : Int32)), .val (.int (1 : Int32)), .val (.long (own_sh q0 0)), .second, .val (.int (1 : Int32))] [(.int (((own_sh q0 0).toInt32).toInt8.toInt32)), (.int (1 : Int32)), (.ref a1)])) rfl rfl (hb hby d5_24)
  have V3 : own_Arf Z h3 a1 k_a1 .byte (2 : Int32) (fun i => .int ((own_upd (own_wr fn_a1 q0 1 0) 1 (nar .byte (((own_sh q0 0).toInt32).toInt8.toInt32))) i)) := own_arfSetI Ar2 qq2 S2 M2 H2 G2 (fits_nar_byte _) W3
  have K3 : Keep h0 h3 [a1] := (Keep.refl h0 [a1]).wr W3 (Or.inl (List.mem_of_getElem? (i := 0) rfl))
  have Z3 : n0 ≤ h3.size := Nat.le_trans Z0 (Keep.of_wr W3).1
  have N3 := Fr.snoc X3 N0 g_a1
  refine own_by st3 ?_
  show own_Go p e below _ (T3.setTop (mkF m 25 #[.val (.long q0), .second, .val (.ref a1), .val (.int (1 : Int32)), .val (.int (1 : Int32)), .val (.long (own_sh q0 0)), .second, .val (.int (1 : Int32))] []))
  refine own_by (fun _ k => XS.lload X3.here hx rfl (hb hby d5_25) rfl k) ?_
  show own_Go p e below _ (T3.setTop (mkF m 27 #[.val (.long q0), .second, .val (.ref a1), .val (.int (1 : Int32)), .val (.int (1 : Int32)), .val (.long (own_sh q0 0)), .second, .val (.int (1 : Int32))] [(.long (own_sh q0 0))]))
  refine own_by (fun _ k => XS.bipush X3.here hx rfl (hb hby d5_27) k) ?_
  show own_Go p e below _ (T3.setTop (mkF m 29 #[.val (.long q0), .second, .val (.ref a1), .val (.int (1 : Int32)), .val (.int (1 : Int32)), .val (.long (own_sh q0 0)), .second, .val (.int (1 : Int32))] [(.int (8 : Int32)), (.long (own_sh q0 0))]))
  refine own_by (fun _ k => XS.lushr X3.here hx rfl (hb hby d5_29) rfl k) ?_
  show own_Go p e below _ (T3.setTop (mkF m 30 #[.val (.long q0), .second, .val (.ref a1), .val (.int (1 : Int32)), .val (.int (1 : Int32)), .val (.long (own_sh q0 0)), .second, .val (.int (1 : Int32))] [(.long (((own_sh q0 0).toUInt64 >>> ((8 : Int32) &&& 0x3f).toInt64.toUInt64).toInt64))]))
  refine own_by (fun _ k => XS.lstore X3.here hx rfl (hb hby d5_30) rfl (l' := #[.val (.long q0), .second, .val (.ref a1), .val (.int (1 : Int32)), .val (.int (1 : Int32)), .val (.long (((own_sh q0 0).toUInt64 >>> ((8 : Int32) &&& 0x3f).toInt64.toUInt64).toInt64)), .second, .val (.int (1 : Int32))]) rfl k) ?_
  show own_Go p e below _ (T3.setTop (mkF m 32 #[.val (.long q0), .second, .val (.ref a1), .val (.int (1 : Int32)), .val (.int (1 : Int32)), .val (.long (((own_sh q0 0).toUInt64 >>> ((8 : Int32) &&& 0x3f).toInt64.toUInt64).toInt64)), .second, .val (.int (1 : Int32))] []))
  refine own_by (fun _ k => XS.iinc X3.here hx rfl (hb hby d5_32) rfl (l' := #[.val (.long q0), .second, .val (.ref a1), .val (.int (1 : Int32)), .val (.int (1 : Int32)), .val (.long (((own_sh q0 0).toUInt64 >>> ((8 : Int32) &&& 0x3f).toInt64.toUInt64).toInt64)), .second, .val (.int (0 : Int32))]) rfl k) ?_
  show own_Go p e below _ (T3.setTop (mkF m 35 #[.val (.long q0), .second, .val (.ref a1), .val (.int (1 : Int32)), .val (.int (1 : Int32)), .val (.long (((own_sh q0 0).toUInt64 >>> ((8 : Int32) &&& 0x3f).toInt64.toUInt64).toInt64)), .second, .val (.int (0 : Int32))] []))
  refine own_by (fun _ k => XS.goto X3.here hx rfl (pc0 := 35) (pc' := 11) rfl (hb hby d5_35) (by decide) (by decide) k) ?_
  show own_Go p e below _ (T3.setTop (mkF m 11 #[.val (.long q0), .second, .val (.ref a1), .val (.int (1 : Int32)), .val (.int (1 : Int32)), .val (.long (((own_sh q0 0).toUInt64 >>> ((8 : Int32) &&& 0x3f).toInt64.toUInt64).toInt64)), .second, .val (.int (0 : Int32))] []))
  show own_Go p e below _ (T3.setTop (mkF m 11 #[.val (.long q0), .second, .val (.ref a1), .val (.int (1 : Int32)), .val (.int (1 : Int32)), .val (.long (own_sh q0 1)), .second, .val (.int (0 : Int32))] []))
  have V4 : own_Arf Z h3 a1 k_a1 .byte (2 : Int32) (fun i => .int ((own_wr fn_a1 q0 1 1) i)) := V3
  refine own_by (fun _ k => XS.iload X3.here hx rfl (hb hby d5_11) rfl k) ?_
  show own_Go p e below _ (T3.setTop (mkF m 13 #[.val (.long q0), .second, .val (.ref a1), .val (.int (1 : Int32)), .val (.int (1 : Int32)), .val (.long (own_sh q0 1)), .second, .val (.int (0 : Int32))] [(.int (0 : Int32))]))
  refine own_by (fun _ k => XS.iloadN X3.here hx rfl (hb hby d5_13) rfl k) ?_
  show own_Go p e below _ (T3.setTop (mkF m 14 #[.val (.long q0), .second, .val (.ref a1), .val (.int (1 : Int32)), .val (.int (1 : Int32)), .val (.long (own_sh q0 1)), .second, .val (.int (0 : Int32))] [(.int (1 : Int32)), (.int (0 : Int32))]))
  refine own_by (fun _ k => XS.icmpYes X3.here hx rfl (pc0 := 14) (pc' := 38) rfl (hb hby d5_14) rfl (tlt (by decide : (0 : Int32) < (1 : Int32))).1 (by decide) (by decide) k) ?_
  show own_Go p e below _ (T3.setTop (mkF m 38 #[.val (.long q0), .second, .val (.ref a1), .val (.int (1 : Int32)), .val (.int (1 : Int32)), .val (.long (own_sh q0 1)), .second, .val (.int (0 : Int32))] []))
  exact own_ret0 X3 hx Bd.returns (hb hby d5_38) hlk e3 ⟨rfl, N3, K3, V4⟩ (by decide) (by decide)
theorem pn_wb2 : plainName "com/example/nested_keyspace/nestedkeyspace/TypedParts" = true := by first | (simp [plainName, overriddenIn]; done) | decide +kernel
theorem ef_wb2 (m : MethodId) (q0 : Int64) (a1 : Addr) : entryFrame m #[(.long q0), (.ref a1), (.int (1 : Int32)), (.int (2 : Int32))] 8 = mkF m 0 #[.val (.long q0), .second, .val (.ref a1), .val (.int (1 : Int32)), .val (.int (2 : Int32)), .unset, .unset, .unset] [] := by first | (simp [entryFrame, mkF, argsToLocals, Value.category]; done) | rfl
def Qwb2 (Z : State) (k_a1 : ClassId) (fn_a1 : Nat → Int32) (q0 : Int64) (a1 : Addr) (h0 : Heap) (n0 : Nat) (v : Option Value) (h : Heap) (L : List Loc) : Prop := v = none ∧ Fr n0 L ∧ Keep h0 h [a1] ∧ own_Arf Z h a1 k_a1 .byte (3 : Int32) (fun i => .int ((own_wr fn_a1 q0 2 2) i))
set_option maxRecDepth 65536 in
set_option maxHeartbeats 40000000 in
theorem rmwb2 (l : Launch) (Z : State) (A0 : Array Value) (hw : ∀ d ∈ tables_1, d.before A0 Z = true) (ws : List Jvm.Cond) (k_a1 : ClassId) (fn_a1 : Nat → Int32) (q0 : Int64) (a1 : Addr) (h0 : Heap) (n0 : Nat) (Z0 : n0 ≤ h0.size) (P_V_a1 : own_Arf Z h0 a1 k_a1 .byte (3 : Int32) (fun i => .int (fn_a1 i))) (g_a1 : n0 ≤ a1) :
    MetFree l (⟨"com/example/nested_keyspace/nestedkeyspace/TypedParts", "writeBigEndian", "(J[BII)V"⟩ : MethodName) (head1 (Jvm.Cond.code (⟨"com/example/nested_keyspace/nestedkeyspace/TypedParts", "writeBigEndian", "(J[BII)V"⟩ : MethodName) prog_20_method_14_code 8 none :: ws) ({ frames := 0, cells := 0, slots := 0, locals := 0 } : Room)) (fun a U => a = #[(.long q0), (.ref a1), (.int (1 : Int32)), (.int (2 : Int32))] ∧ Z.Warmed39 U.vm ∧ U.heap = h0) (fun _ _ _ _ _ => True) (fun _ U o U' => ∃ v L, o = .returned v ∧ Qwb2 Z k_a1 fn_a1 q0 a1 h0 n0 v U'.heap L ∧ FrameEnd U o U' L 0 0) := by
  refine MetFree.of_bodySF (plainFor_of_name pn_wb2) hisR ?_
  intro p e s m args below meth c s₁ Bd hml0 hP hK
  obtain ⟨rfl, hZ, hh⟩ := hP
  have hwd := fun i {d : Jvm.Cond} (h : tables_1[i]? = some d) => hw d (List.mem_of_getElem? h)
  have hx := Bd.exec
  have hby := Bd.bytes
  have hml : c.maxLocals = 8 := hml0
  have hlk : meth.locks = false := Bd.notSynchronized
  have hown : s.vm.findClass "com/example/nested_keyspace/nestedkeyspace/TypedParts" = some m.cls := findClass_of_methodNamed Bd.named
  have hnm := (name_of_methodNamed Bd.named Bd.method).1
  have X0 : Stand p l e ({ frames := 0, cells := 0, slots := 0, locals := 0 } : Room) s m #[(.long q0), (.ref a1), (.int (1 : Int32)), (.int (2 : Int32))] below meth c s₁ [] 0 0 := Stand.of_body Bd
  have e0 : s₁.heap = h0 := by rw [← hh, Bd.state]; rfl
  have N0 := Fr.nil n0
  show own_Go p e below (own_Fin s 0 0 (Qwb2 Z k_a1 fn_a1 q0 a1 h0 n0)) _
  refine own_by (fun t k => castTop (ef_wb2 m q0 a1) k) ?_
  show own_Go p e below _ (s₁.setTop (mkF m 0 #[.val (.long q0), .second, .val (.ref a1), .val (.int (1 : Int32)), .val (.int (2 : Int32)), .unset, .unset, .unset] []))
  refine own_by (fun _ k => XS.lloadN X0.here hx rfl (hb hby d5_0) rfl k) ?_
  show own_Go p e below _ (s₁.setTop (mkF m 1 #[.val (.long q0), .second, .val (.ref a1), .val (.int (1 : Int32)), .val (.int (2 : Int32)), .unset, .unset, .unset] [(.long q0)]))
  refine own_by (fun _ k => XS.lstore X0.here hx rfl (hb hby d5_1) rfl (l' := #[.val (.long q0), .second, .val (.ref a1), .val (.int (1 : Int32)), .val (.int (2 : Int32)), .val (.long q0), .second, .unset]) rfl k) ?_
  show own_Go p e below _ (s₁.setTop (mkF m 3 #[.val (.long q0), .second, .val (.ref a1), .val (.int (1 : Int32)), .val (.int (2 : Int32)), .val (.long q0), .second, .unset] []))
  refine own_by (fun _ k => XS.iloadN X0.here hx rfl (hb hby d5_3) rfl k) ?_
  show own_Go p e below _ (s₁.setTop (mkF m 4 #[.val (.long q0), .second, .val (.ref a1), .val (.int (1 : Int32)), .val (.int (2 : Int32)), .val (.long q0), .second, .unset] [(.int (1 : Int32))]))
  refine own_by (fun _ k => XS.iload X0.here hx rfl (hb hby d5_4) rfl k) ?_
  show own_Go p e below _ (s₁.setTop (mkF m 6 #[.val (.long q0), .second, .val (.ref a1), .val (.int (1 : Int32)), .val (.int (2 : Int32)), .val (.long q0), .second, .unset] [(.int (2 : Int32)), (.int (1 : Int32))]))
  refine own_by (fun _ k => XS.iadd X0.here hx rfl (hb hby d5_6) rfl k) ?_
  show own_Go p e below _ (s₁.setTop (mkF m 7 #[.val (.long q0), .second, .val (.ref a1), .val (.int (1 : Int32)), .val (.int (2 : Int32)), .val (.long q0), .second, .unset] [(.int (3 : Int32))]))
  refine own_by (fun _ k => XS.iconst X0.here hx rfl (hb hby d5_7) k) ?_
  show own_Go p e below _ (s₁.setTop (mkF m 8 #[.val (.long q0), .second, .val (.ref a1), .val (.int (1 : Int32)), .val (.int (2 : Int32)), .val (.long q0), .second, .unset] [(.int (1 : Int32)), (.int (3 : Int32))]))
  refine own_by (fun _ k => XS.isub X0.here hx rfl (hb hby d5_8) rfl k) ?_
  show own_Go p e below _ (s₁.setTop (mkF m 9 #[.val (.long q0), .second, .val (.ref a1), .val (.int (1 : Int32)), .val (.int (2 : Int32)), .val (.long q0), .second, .unset] [(.int (2 : Int32))]))
  refine own_by (fun _ k => XS.istore X0.here hx rfl (hb hby d5_9) rfl (l' := #[.val (.long q0), .second, .val (.ref a1), .val (.int (1 : Int32)), .val (.int (2 : Int32)), .val (.long q0), .second, .val (.int (2 : Int32))]) rfl k) ?_
  show own_Go p e below _ (s₁.setTop (mkF m 11 #[.val (.long q0), .second, .val (.ref a1), .val (.int (1 : Int32)), .val (.int (2 : Int32)), .val (.long q0), .second, .val (.int (2 : Int32))] []))
  show own_Go p e below _ (s₁.setTop (mkF m 11 #[.val (.long q0), .second, .val (.ref a1), .val (.int (1 : Int32)), .val (.int (2 : Int32)), .val (.long (own_sh q0 0)), .second, .val (.int (2 : Int32))] []))
  show own_Go p e below _ (s₁.setTop (mkF m 11 #[.val (.long q0), .second, .val (.ref a1), .val (.int (1 : Int32)), .val (.int (2 : Int32)), .val (.long (own_sh q0 0)), .second, .val (.int (2 : Int32))] []))
  have V1 : own_Arf Z h0 a1 k_a1 .byte (3 : Int32) (fun i => .int ((own_wr fn_a1 q0 2 0) i)) := P_V_a1
  refine own_by (fun _ k => XS.iload X0.here hx rfl (hb hby d5_11) rfl k) ?_
  show own_Go p e below _ (s₁.setTop (mkF m 13 #[.val (.long q0), .second, .val (.ref a1), .val (.int (1 : Int32)), .val (.int (2 : Int32)), .val (.long (own_sh q0 0)), .second, .val (.int (2 : Int32))] [(.int (2 : Int32))]))
  refine own_by (fun _ k => XS.iloadN X0.here hx rfl (hb hby d5_13) rfl k) ?_
  show own_Go p e below _ (s₁.setTop (mkF m 14 #[.val (.long q0), .second, .val (.ref a1), .val (.int (1 : Int32)), .val (.int (2 : Int32)), .val (.long (own_sh q0 0)), .second, .val (.int (2 : Int32))] [(.int (1 : Int32)), (.int (2 : Int32))]))
  refine own_by (fun _ k => XS.icmpNo X0.here hx rfl (hb hby d5_14) rfl (flt (by decide : ¬ ((2 : Int32) < (1 : Int32)))).1 k) ?_
  show own_Go p e below _ (s₁.setTop (mkF m 17 #[.val (.long q0), .second, .val (.ref a1), .val (.int (1 : Int32)), .val (.int (2 : Int32)), .val (.long (own_sh q0 0)), .second, .val (.int (2 : Int32))] []))
  refine own_by (fun _ k => XS.aloadN X0.here hx rfl (hb hby d5_17) rfl rfl k) ?_
  show own_Go p e below _ (s₁.setTop (mkF m 18 #[.val (.long q0), .second, .val (.ref a1), .val (.int (1 : Int32)), .val (.int (2 : Int32)), .val (.long (own_sh q0 0)), .second, .val (.int (2 : Int32))] [(.ref a1)]))
  refine own_by (fun _ k => XS.iload X0.here hx rfl (hb hby d5_18) rfl k) ?_
  show own_Go p e below _ (s₁.setTop (mkF m 20 #[.val (.long q0), .second, .val (.ref a1), .val (.int (1 : Int32)), .val (.int (2 : Int32)), .val (.long (own_sh q0 0)), .second, .val (.int (2 : Int32))] [(.int (2 : Int32)), (.ref a1)]))
  refine own_by (fun _ k => XS.lload X0.here hx rfl (hb hby d5_20) rfl k) ?_
  show own_Go p e below _ (s₁.setTop (mkF m 22 #[.val (.long q0), .second, .val (.ref a1), .val (.int (1 : Int32)), .val (.int (2 : Int32)), .val (.long (own_sh q0 0)), .second, .val (.int (2 : Int32))] [(.long (own_sh q0 0)), (.int (2 : Int32)), (.ref a1)]))
  refine own_by (fun _ k => XS.l2i X0.here hx rfl (hb hby d5_22) rfl k) ?_
  show own_Go p e below _ (s₁.setTop (mkF m 23 #[.val (.long q0), .second, .val (.ref a1), .val (.int (1 : Int32)), .val (.int (2 : Int32)), .val (.long (own_sh q0 0)), .second, .val (.int (2 : Int32))] [(.int ((own_sh q0 0).toInt32)), (.int (2 : Int32)), (.ref a1)]))
  refine own_by (fun _ k => XS.i2b X0.here hx rfl (hb hby d5_23) rfl k) ?_
  show own_Go p e below _ (s₁.setTop (mkF m 24 #[.val (.long q0), .second, .val (.ref a1), .val (.int (1 : Int32)), .val (.int (2 : Int32)), .val (.long (own_sh q0 0)), .second, .val (.int (2 : Int32))] [(.int (((own_sh q0 0).toInt32).toInt8.toInt32)), (.int (2 : Int32)), (.ref a1)]))
  obtain ⟨cl2, Ar2, qq2, S2, M2, H2, G2⟩ := id V1
  have hin2 : ¬ ((2 : Int32) < 0 ∨ cl2.slots.size ≤ ((2 : Int32)).toNatClampNeg) := inb_of S2 ⟨by decide, by decide⟩
  obtain ⟨T3, h3, X3, e3, W3, st3⟩ := stB X0 hx hZ e0 Ar2 (j := (2 : Int32)) hin2 (g := (mkF m 24 #[.val (.long q0), .second, .val (.ref a1), .val (.int (1 : Int32)), .val (.int (2 : Int32)), .val (.long (own_sh q0 0)), .second, .val (.int (2 : Int32))] [(.int (((own_sh q0 0).toInt32).toInt8.toInt32)), (.int (2 : Int32)), (.ref a1)])) rfl rfl (hb hby d5_24)
  have V3 : own_Arf Z h3 a1 k_a1 .byte (3 : Int32) (fun i => .int ((own_upd (own_wr fn_a1 q0 2 0) 2 (nar .byte (((own_sh q0 0).toInt32).toInt8.toInt32))) i)) := own_arfSetI Ar2 qq2 S2 M2 H2 G2 (fits_nar_byte _) W3
  have K3 : Keep h0 h3 [a1] := (Keep.refl h0 [a1]).wr W3 (Or.inl (List.mem_of_getElem? (i := 0) rfl))
  have Z3 : n0 ≤ h3.size := Nat.le_trans Z0 (Keep.of_wr W3).1
  have N3 := Fr.snoc X3 N0 g_a1
  refine own_by st3 ?_
  show own_Go p e below _ (T3.setTop (mkF m 25 #[.val (.long q0), .second, .val (.ref a1), .val (.int (1 : Int32)), .val (.int (2 : Int32)), .val (.long (own_sh q0 0)), .second, .val (.int (2 : Int32))] []))
  refine own_by (fun _ k => XS.lload X3.here hx rfl (hb hby d5_25) rfl k) ?_
  show own_Go p e below _ (T3.setTop (mkF m 27 #[.val (.long q0), .second, .val (.ref a1), .val (.int (1 : Int32)), .val (.int (2 : Int32)), .val (.long (own_sh q0 0)), .second, .val (.int (2 : Int32))] [(.long (own_sh q0 0))]))
  refine own_by (fun _ k => XS.bipush X3.here hx rfl (hb hby d5_27) k) ?_
  show own_Go p e below _ (T3.setTop (mkF m 29 #[.val (.long q0), .second, .val (.ref a1), .val (.int (1 : Int32)), .val (.int (2 : Int32)), .val (.long (own_sh q0 0)), .second, .val (.int (2 : Int32))] [(.int (8 : Int32)), (.long (own_sh q0 0))]))
  refine own_by (fun _ k => XS.lushr X3.here hx rfl (hb hby d5_29) rfl k) ?_
  show own_Go p e below _ (T3.setTop (mkF m 30 #[.val (.long q0), .second, .val (.ref a1), .val (.int (1 : Int32)), .val (.int (2 : Int32)), .val (.long (own_sh q0 0)), .second, .val (.int (2 : Int32))] [(.long (((own_sh q0 0).toUInt64 >>> ((8 : Int32) &&& 0x3f).toInt64.toUInt64).toInt64))]))
  refine own_by (fun _ k => XS.lstore X3.here hx rfl (hb hby d5_30) rfl (l' := #[.val (.long q0), .second, .val (.ref a1), .val (.int (1 : Int32)), .val (.int (2 : Int32)), .val (.long (((own_sh q0 0).toUInt64 >>> ((8 : Int32) &&& 0x3f).toInt64.toUInt64).toInt64)), .second, .val (.int (2 : Int32))]) rfl k) ?_
  show own_Go p e below _ (T3.setTop (mkF m 32 #[.val (.long q0), .second, .val (.ref a1), .val (.int (1 : Int32)), .val (.int (2 : Int32)), .val (.long (((own_sh q0 0).toUInt64 >>> ((8 : Int32) &&& 0x3f).toInt64.toUInt64).toInt64)), .second, .val (.int (2 : Int32))] []))
  refine own_by (fun _ k => XS.iinc X3.here hx rfl (hb hby d5_32) rfl (l' := #[.val (.long q0), .second, .val (.ref a1), .val (.int (1 : Int32)), .val (.int (2 : Int32)), .val (.long (((own_sh q0 0).toUInt64 >>> ((8 : Int32) &&& 0x3f).toInt64.toUInt64).toInt64)), .second, .val (.int (1 : Int32))]) rfl k) ?_
  show own_Go p e below _ (T3.setTop (mkF m 35 #[.val (.long q0), .second, .val (.ref a1), .val (.int (1 : Int32)), .val (.int (2 : Int32)), .val (.long (((own_sh q0 0).toUInt64 >>> ((8 : Int32) &&& 0x3f).toInt64.toUInt64).toInt64)), .second, .val (.int (1 : Int32))] []))
  refine own_by (fun _ k => XS.goto X3.here hx rfl (pc0 := 35) (pc' := 11) rfl (hb hby d5_35) (by decide) (by decide) k) ?_
  show own_Go p e below _ (T3.setTop (mkF m 11 #[.val (.long q0), .second, .val (.ref a1), .val (.int (1 : Int32)), .val (.int (2 : Int32)), .val (.long (((own_sh q0 0).toUInt64 >>> ((8 : Int32) &&& 0x3f).toInt64.toUInt64).toInt64)), .second, .val (.int (1 : Int32))] []))
  show own_Go p e below _ (T3.setTop (mkF m 11 #[.val (.long q0), .second, .val (.ref a1), .val (.int (1 : Int32)), .val (.int (2 : Int32)), .val (.long (own_sh q0 1)), .second, .val (.int (1 : Int32))] []))
  have V4 : own_Arf Z h3 a1 k_a1 .byte (3 : Int32) (fun i => .int ((own_wr fn_a1 q0 2 1) i)) := V3
  refine own_by (fun _ k => XS.iload X3.here hx rfl (hb hby d5_11) rfl k) ?_
  show own_Go p e below _ (T3.setTop (mkF m 13 #[.val (.long q0), .second, .val (.ref a1), .val (.int (1 : Int32)), .val (.int (2 : Int32)), .val (.long (own_sh q0 1)), .second, .val (.int (1 : Int32))] [(.int (1 : Int32))]))
  refine own_by (fun _ k => XS.iloadN X3.here hx rfl (hb hby d5_13) rfl k) ?_
  show own_Go p e below _ (T3.setTop (mkF m 14 #[.val (.long q0), .second, .val (.ref a1), .val (.int (1 : Int32)), .val (.int (2 : Int32)), .val (.long (own_sh q0 1)), .second, .val (.int (1 : Int32))] [(.int (1 : Int32)), (.int (1 : Int32))]))
  refine own_by (fun _ k => XS.icmpNo X3.here hx rfl (hb hby d5_14) rfl (flt (by decide : ¬ ((1 : Int32) < (1 : Int32)))).1 k) ?_
  show own_Go p e below _ (T3.setTop (mkF m 17 #[.val (.long q0), .second, .val (.ref a1), .val (.int (1 : Int32)), .val (.int (2 : Int32)), .val (.long (own_sh q0 1)), .second, .val (.int (1 : Int32))] []))
  refine own_by (fun _ k => XS.aloadN X3.here hx rfl (hb hby d5_17) rfl rfl k) ?_
  show own_Go p e below _ (T3.setTop (mkF m 18 #[.val (.long q0), .second, .val (.ref a1), .val (.int (1 : Int32)), .val (.int (2 : Int32)), .val (.long (own_sh q0 1)), .second, .val (.int (1 : Int32))] [(.ref a1)]))
  refine own_by (fun _ k => XS.iload X3.here hx rfl (hb hby d5_18) rfl k) ?_
  show own_Go p e below _ (T3.setTop (mkF m 20 #[.val (.long q0), .second, .val (.ref a1), .val (.int (1 : Int32)), .val (.int (2 : Int32)), .val (.long (own_sh q0 1)), .second, .val (.int (1 : Int32))] [(.int (1 : Int32)), (.ref a1)]))
  refine own_by (fun _ k => XS.lload X3.here hx rfl (hb hby d5_20) rfl k) ?_
  show own_Go p e below _ (T3.setTop (mkF m 22 #[.val (.long q0), .second, .val (.ref a1), .val (.int (1 : Int32)), .val (.int (2 : Int32)), .val (.long (own_sh q0 1)), .second, .val (.int (1 : Int32))] [(.long (own_sh q0 1)), (.int (1 : Int32)), (.ref a1)]))
  refine own_by (fun _ k => XS.l2i X3.here hx rfl (hb hby d5_22) rfl k) ?_
  show own_Go p e below _ (T3.setTop (mkF m 23 #[.val (.long q0), .second, .val (.ref a1), .val (.int (1 : Int32)), .val (.int (2 : Int32)), .val (.long (own_sh q0 1)), .second, .val (.int (1 : Int32))] [(.int ((own_sh q0 1).toInt32)), (.int (1 : Int32)), (.ref a1)]))
  refine own_by (fun _ k => XS.i2b X3.here hx rfl (hb hby d5_23) rfl k) ?_
  show own_Go p e below _ (T3.setTop (mkF m 24 #[.val (.long q0), .second, .val (.ref a1), .val (.int (1 : Int32)), .val (.int (2 : Int32)), .val (.long (own_sh q0 1)), .second, .val (.int (1 : Int32))] [(.int (((own_sh q0 1).toInt32).toInt8.toInt32)), (.int (1 : Int32)), (.ref a1)]))
  obtain ⟨cl5, Ar5, qq5, S5, M5, H5, G5⟩ := id V4
  have hin5 : ¬ ((1 : Int32) < 0 ∨ cl5.slots.size ≤ ((1 : Int32)).toNatClampNeg) := inb_of S5 ⟨by decide, by decide⟩
  obtain ⟨T6, h6, X6, e6, W6, st6⟩ := stB X3 hx hZ e3 Ar5 (j := (1 : Int32)) hin5 (g := (mkF m 24 #[.val (.long q0), .second, .val (.ref a1), .val (.int (1 : Int32)), .val (.int (2 : Int32)), .val (.long (own_sh q0 1)), .second, .val (.int (1 : Int32))] [(.int (((own_sh q0 1).toInt32).toInt8.toInt32)), (.int (1 : Int32)), (.ref a1)])) rfl rfl (hb hby d5_24)
  have V6 : own_Arf Z h6 a1 k_a1 .byte (3 : Int32) (fun i => .int ((own_upd (own_wr fn_a1 q0 2 1) 1 (nar .byte (((own_sh q0 1).toInt32).toInt8.toInt32))) i)) := own_arfSetI Ar5 qq5 S5 M5 H5 G5 (fits_nar_byte _) W6
  have K6 : Keep h0 h6 [a1] := K3.wr W6 (Or.inl (List.mem_of_getElem? (i := 0) rfl))
  have Z6 : n0 ≤ h6.size := Nat.le_trans Z3 (Keep.of_wr W6).1
  have N6 := Fr.snoc X6 N3 g_a1
  refine own_by st6 ?_
  show own_Go p e below _ (T6.setTop (mkF m 25 #[.val (.long q0), .second, .val (.ref a1), .val (.int (1 : Int32)), .val (.int (2 : Int32)), .val (.long (own_sh q0 1)), .second, .val (.int (1 : Int32))] []))
  refine own_by (fun _ k => XS.lload X6.here hx rfl (hb hby d5_25) rfl k) ?_
  show own_Go p e below _ (T6.setTop (mkF m 27 #[.val (.long q0), .second, .val (.ref a1), .val (.int (1 : Int32)), .val (.int (2 : Int32)), .val (.long (own_sh q0 1)), .second, .val (.int (1 : Int32))] [(.long (own_sh q0 1))]))
  refine own_by (fun _ k => XS.bipush X6.here hx rfl (hb hby d5_27) k) ?_
  show own_Go p e below _ (T6.setTop (mkF m 29 #[.val (.long q0), .second, .val (.ref a1), .val (.int (1 : Int32)), .val (.int (2 : Int32)), .val (.long (own_sh q0 1)), .second, .val (.int (1 : Int32))] [(.int (8 : Int32)), (.long (own_sh q0 1))]))
  refine own_by (fun _ k => XS.lushr X6.here hx rfl (hb hby d5_29) rfl k) ?_
  show own_Go p e below _ (T6.setTop (mkF m 30 #[.val (.long q0), .second, .val (.ref a1), .val (.int (1 : Int32)), .val (.int (2 : Int32)), .val (.long (own_sh q0 1)), .second, .val (.int (1 : Int32))] [(.long (((own_sh q0 1).toUInt64 >>> ((8 : Int32) &&& 0x3f).toInt64.toUInt64).toInt64))]))
  refine own_by (fun _ k => XS.lstore X6.here hx rfl (hb hby d5_30) rfl (l' := #[.val (.long q0), .second, .val (.ref a1), .val (.int (1 : Int32)), .val (.int (2 : Int32)), .val (.long (((own_sh q0 1).toUInt64 >>> ((8 : Int32) &&& 0x3f).toInt64.toUInt64).toInt64)), .second, .val (.int (1 : Int32))]) rfl k) ?_
  show own_Go p e below _ (T6.setTop (mkF m 32 #[.val (.long q0), .second, .val (.ref a1), .val (.int (1 : Int32)), .val (.int (2 : Int32)), .val (.long (((own_sh q0 1).toUInt64 >>> ((8 : Int32) &&& 0x3f).toInt64.toUInt64).toInt64)), .second, .val (.int (1 : Int32))] []))
  refine own_by (fun _ k => XS.iinc X6.here hx rfl (hb hby d5_32) rfl (l' := #[.val (.long q0), .second, .val (.ref a1), .val (.int (1 : Int32)), .val (.int (2 : Int32)), .val (.long (((own_sh q0 1).toUInt64 >>> ((8 : Int32) &&& 0x3f).toInt64.toUInt64).toInt64)), .second, .val (.int (0 : Int32))]) rfl k) ?_
  show own_Go p e below _ (T6.setTop (mkF m 35 #[.val (.long q0), .second, .val (.ref a1), .val (.int (1 : Int32)), .val (.int (2 : Int32)), .val (.long (((own_sh q0 1).toUInt64 >>> ((8 : Int32) &&& 0x3f).toInt64.toUInt64).toInt64)), .second, .val (.int (0 : Int32))] []))
  refine own_by (fun _ k => XS.goto X6.here hx rfl (pc0 := 35) (pc' := 11) rfl (hb hby d5_35) (by decide) (by decide) k) ?_
  show own_Go p e below _ (T6.setTop (mkF m 11 #[.val (.long q0), .second, .val (.ref a1), .val (.int (1 : Int32)), .val (.int (2 : Int32)), .val (.long (((own_sh q0 1).toUInt64 >>> ((8 : Int32) &&& 0x3f).toInt64.toUInt64).toInt64)), .second, .val (.int (0 : Int32))] []))
  show own_Go p e below _ (T6.setTop (mkF m 11 #[.val (.long q0), .second, .val (.ref a1), .val (.int (1 : Int32)), .val (.int (2 : Int32)), .val (.long (own_sh q0 2)), .second, .val (.int (0 : Int32))] []))
  have V7 : own_Arf Z h6 a1 k_a1 .byte (3 : Int32) (fun i => .int ((own_wr fn_a1 q0 2 2) i)) := V6
  refine own_by (fun _ k => XS.iload X6.here hx rfl (hb hby d5_11) rfl k) ?_
  show own_Go p e below _ (T6.setTop (mkF m 13 #[.val (.long q0), .second, .val (.ref a1), .val (.int (1 : Int32)), .val (.int (2 : Int32)), .val (.long (own_sh q0 2)), .second, .val (.int (0 : Int32))] [(.int (0 : Int32))]))
  refine own_by (fun _ k => XS.iloadN X6.here hx rfl (hb hby d5_13) rfl k) ?_
  show own_Go p e below _ (T6.setTop (mkF m 14 #[.val (.long q0), .second, .val (.ref a1), .val (.int (1 : Int32)), .val (.int (2 : Int32)), .val (.long (own_sh q0 2)), .second, .val (.int (0 : Int32))] [(.int (1 : Int32)), (.int (0 : Int32))]))
  refine own_by (fun _ k => XS.icmpYes X6.here hx rfl (pc0 := 14) (pc' := 38) rfl (hb hby d5_14) rfl (tlt (by decide : (0 : Int32) < (1 : Int32))).1 (by decide) (by decide) k) ?_
  show own_Go p e below _ (T6.setTop (mkF m 38 #[.val (.long q0), .second, .val (.ref a1), .val (.int (1 : Int32)), .val (.int (2 : Int32)), .val (.long (own_sh q0 2)), .second, .val (.int (0 : Int32))] []))
  exact own_ret0 X6 hx Bd.returns (hb hby d5_38) hlk e6 ⟨rfl, N6, K6, V7⟩ (by decide) (by decide)
theorem pn_wb3 : plainName "com/example/nested_keyspace/nestedkeyspace/TypedParts" = true := by first | (simp [plainName, overriddenIn]; done) | decide +kernel
theorem ef_wb3 (m : MethodId) (q0 : Int64) (a1 : Addr) : entryFrame m #[(.long q0), (.ref a1), (.int (1 : Int32)), (.int (3 : Int32))] 8 = mkF m 0 #[.val (.long q0), .second, .val (.ref a1), .val (.int (1 : Int32)), .val (.int (3 : Int32)), .unset, .unset, .unset] [] := by first | (simp [entryFrame, mkF, argsToLocals, Value.category]; done) | rfl
def Qwb3 (Z : State) (k_a1 : ClassId) (fn_a1 : Nat → Int32) (q0 : Int64) (a1 : Addr) (h0 : Heap) (n0 : Nat) (v : Option Value) (h : Heap) (L : List Loc) : Prop := v = none ∧ Fr n0 L ∧ Keep h0 h [a1] ∧ own_Arf Z h a1 k_a1 .byte (4 : Int32) (fun i => .int ((own_wr fn_a1 q0 3 3) i))
set_option maxRecDepth 65536 in
set_option maxHeartbeats 40000000 in
theorem rmwb3 (l : Launch) (Z : State) (A0 : Array Value) (hw : ∀ d ∈ tables_1, d.before A0 Z = true) (ws : List Jvm.Cond) (k_a1 : ClassId) (fn_a1 : Nat → Int32) (q0 : Int64) (a1 : Addr) (h0 : Heap) (n0 : Nat) (Z0 : n0 ≤ h0.size) (P_V_a1 : own_Arf Z h0 a1 k_a1 .byte (4 : Int32) (fun i => .int (fn_a1 i))) (g_a1 : n0 ≤ a1) :
    MetFree l (⟨"com/example/nested_keyspace/nestedkeyspace/TypedParts", "writeBigEndian", "(J[BII)V"⟩ : MethodName) (head1 (Jvm.Cond.code (⟨"com/example/nested_keyspace/nestedkeyspace/TypedParts", "writeBigEndian", "(J[BII)V"⟩ : MethodName) prog_20_method_14_code 8 none :: ws) ({ frames := 0, cells := 0, slots := 0, locals := 0 } : Room)) (fun a U => a = #[(.long q0), (.ref a1), (.int (1 : Int32)), (.int (3 : Int32))] ∧ Z.Warmed39 U.vm ∧ U.heap = h0) (fun _ _ _ _ _ => True) (fun _ U o U' => ∃ v L, o = .returned v ∧ Qwb3 Z k_a1 fn_a1 q0 a1 h0 n0 v U'.heap L ∧ FrameEnd U o U' L 0 0) := by
  refine MetFree.of_bodySF (plainFor_of_name pn_wb3) hisR ?_
  intro p e s m args below meth c s₁ Bd hml0 hP hK
  obtain ⟨rfl, hZ, hh⟩ := hP
  have hwd := fun i {d : Jvm.Cond} (h : tables_1[i]? = some d) => hw d (List.mem_of_getElem? h)
  have hx := Bd.exec
  have hby := Bd.bytes
  have hml : c.maxLocals = 8 := hml0
  have hlk : meth.locks = false := Bd.notSynchronized
  have hown : s.vm.findClass "com/example/nested_keyspace/nestedkeyspace/TypedParts" = some m.cls := findClass_of_methodNamed Bd.named
  have hnm := (name_of_methodNamed Bd.named Bd.method).1
  have X0 : Stand p l e ({ frames := 0, cells := 0, slots := 0, locals := 0 } : Room) s m #[(.long q0), (.ref a1), (.int (1 : Int32)), (.int (3 : Int32))] below meth c s₁ [] 0 0 := Stand.of_body Bd
  have e0 : s₁.heap = h0 := by rw [← hh, Bd.state]; rfl
  have N0 := Fr.nil n0
  show own_Go p e below (own_Fin s 0 0 (Qwb3 Z k_a1 fn_a1 q0 a1 h0 n0)) _
  refine own_by (fun t k => castTop (ef_wb3 m q0 a1) k) ?_
  show own_Go p e below _ (s₁.setTop (mkF m 0 #[.val (.long q0), .second, .val (.ref a1), .val (.int (1 : Int32)), .val (.int (3 : Int32)), .unset, .unset, .unset] []))
  refine own_by (fun _ k => XS.lloadN X0.here hx rfl (hb hby d5_0) rfl k) ?_
  show own_Go p e below _ (s₁.setTop (mkF m 1 #[.val (.long q0), .second, .val (.ref a1), .val (.int (1 : Int32)), .val (.int (3 : Int32)), .unset, .unset, .unset] [(.long q0)]))
  refine own_by (fun _ k => XS.lstore X0.here hx rfl (hb hby d5_1) rfl (l' := #[.val (.long q0), .second, .val (.ref a1), .val (.int (1 : Int32)), .val (.int (3 : Int32)), .val (.long q0), .second, .unset]) rfl k) ?_
  show own_Go p e below _ (s₁.setTop (mkF m 3 #[.val (.long q0), .second, .val (.ref a1), .val (.int (1 : Int32)), .val (.int (3 : Int32)), .val (.long q0), .second, .unset] []))
  refine own_by (fun _ k => XS.iloadN X0.here hx rfl (hb hby d5_3) rfl k) ?_
  show own_Go p e below _ (s₁.setTop (mkF m 4 #[.val (.long q0), .second, .val (.ref a1), .val (.int (1 : Int32)), .val (.int (3 : Int32)), .val (.long q0), .second, .unset] [(.int (1 : Int32))]))
  refine own_by (fun _ k => XS.iload X0.here hx rfl (hb hby d5_4) rfl k) ?_
  show own_Go p e below _ (s₁.setTop (mkF m 6 #[.val (.long q0), .second, .val (.ref a1), .val (.int (1 : Int32)), .val (.int (3 : Int32)), .val (.long q0), .second, .unset] [(.int (3 : Int32)), (.int (1 : Int32))]))
  refine own_by (fun _ k => XS.iadd X0.here hx rfl (hb hby d5_6) rfl k) ?_
  show own_Go p e below _ (s₁.setTop (mkF m 7 #[.val (.long q0), .second, .val (.ref a1), .val (.int (1 : Int32)), .val (.int (3 : Int32)), .val (.long q0), .second, .unset] [(.int (4 : Int32))]))
  refine own_by (fun _ k => XS.iconst X0.here hx rfl (hb hby d5_7) k) ?_
  show own_Go p e below _ (s₁.setTop (mkF m 8 #[.val (.long q0), .second, .val (.ref a1), .val (.int (1 : Int32)), .val (.int (3 : Int32)), .val (.long q0), .second, .unset] [(.int (1 : Int32)), (.int (4 : Int32))]))
  refine own_by (fun _ k => XS.isub X0.here hx rfl (hb hby d5_8) rfl k) ?_
  show own_Go p e below _ (s₁.setTop (mkF m 9 #[.val (.long q0), .second, .val (.ref a1), .val (.int (1 : Int32)), .val (.int (3 : Int32)), .val (.long q0), .second, .unset] [(.int (3 : Int32))]))
  refine own_by (fun _ k => XS.istore X0.here hx rfl (hb hby d5_9) rfl (l' := #[.val (.long q0), .second, .val (.ref a1), .val (.int (1 : Int32)), .val (.int (3 : Int32)), .val (.long q0), .second, .val (.int (3 : Int32))]) rfl k) ?_
  show own_Go p e below _ (s₁.setTop (mkF m 11 #[.val (.long q0), .second, .val (.ref a1), .val (.int (1 : Int32)), .val (.int (3 : Int32)), .val (.long q0), .second, .val (.int (3 : Int32))] []))
  show own_Go p e below _ (s₁.setTop (mkF m 11 #[.val (.long q0), .second, .val (.ref a1), .val (.int (1 : Int32)), .val (.int (3 : Int32)), .val (.long (own_sh q0 0)), .second, .val (.int (3 : Int32))] []))
  show own_Go p e below _ (s₁.setTop (mkF m 11 #[.val (.long q0), .second, .val (.ref a1), .val (.int (1 : Int32)), .val (.int (3 : Int32)), .val (.long (own_sh q0 0)), .second, .val (.int (3 : Int32))] []))
  have V1 : own_Arf Z h0 a1 k_a1 .byte (4 : Int32) (fun i => .int ((own_wr fn_a1 q0 3 0) i)) := P_V_a1
  refine own_by (fun _ k => XS.iload X0.here hx rfl (hb hby d5_11) rfl k) ?_
  show own_Go p e below _ (s₁.setTop (mkF m 13 #[.val (.long q0), .second, .val (.ref a1), .val (.int (1 : Int32)), .val (.int (3 : Int32)), .val (.long (own_sh q0 0)), .second, .val (.int (3 : Int32))] [(.int (3 : Int32))]))
  refine own_by (fun _ k => XS.iloadN X0.here hx rfl (hb hby d5_13) rfl k) ?_
  show own_Go p e below _ (s₁.setTop (mkF m 14 #[.val (.long q0), .second, .val (.ref a1), .val (.int (1 : Int32)), .val (.int (3 : Int32)), .val (.long (own_sh q0 0)), .second, .val (.int (3 : Int32))] [(.int (1 : Int32)), (.int (3 : Int32))]))
  refine own_by (fun _ k => XS.icmpNo X0.here hx rfl (hb hby d5_14) rfl (flt (by decide : ¬ ((3 : Int32) < (1 : Int32)))).1 k) ?_
  show own_Go p e below _ (s₁.setTop (mkF m 17 #[.val (.long q0), .second, .val (.ref a1), .val (.int (1 : Int32)), .val (.int (3 : Int32)), .val (.long (own_sh q0 0)), .second, .val (.int (3 : Int32))] []))
  refine own_by (fun _ k => XS.aloadN X0.here hx rfl (hb hby d5_17) rfl rfl k) ?_
  show own_Go p e below _ (s₁.setTop (mkF m 18 #[.val (.long q0), .second, .val (.ref a1), .val (.int (1 : Int32)), .val (.int (3 : Int32)), .val (.long (own_sh q0 0)), .second, .val (.int (3 : Int32))] [(.ref a1)]))
  refine own_by (fun _ k => XS.iload X0.here hx rfl (hb hby d5_18) rfl k) ?_
  show own_Go p e below _ (s₁.setTop (mkF m 20 #[.val (.long q0), .second, .val (.ref a1), .val (.int (1 : Int32)), .val (.int (3 : Int32)), .val (.long (own_sh q0 0)), .second, .val (.int (3 : Int32))] [(.int (3 : Int32)), (.ref a1)]))
  refine own_by (fun _ k => XS.lload X0.here hx rfl (hb hby d5_20) rfl k) ?_
  show own_Go p e below _ (s₁.setTop (mkF m 22 #[.val (.long q0), .second, .val (.ref a1), .val (.int (1 : Int32)), .val (.int (3 : Int32)), .val (.long (own_sh q0 0)), .second, .val (.int (3 : Int32))] [(.long (own_sh q0 0)), (.int (3 : Int32)), (.ref a1)]))
  refine own_by (fun _ k => XS.l2i X0.here hx rfl (hb hby d5_22) rfl k) ?_
  show own_Go p e below _ (s₁.setTop (mkF m 23 #[.val (.long q0), .second, .val (.ref a1), .val (.int (1 : Int32)), .val (.int (3 : Int32)), .val (.long (own_sh q0 0)), .second, .val (.int (3 : Int32))] [(.int ((own_sh q0 0).toInt32)), (.int (3 : Int32)), (.ref a1)]))
  refine own_by (fun _ k => XS.i2b X0.here hx rfl (hb hby d5_23) rfl k) ?_
  show own_Go p e below _ (s₁.setTop (mkF m 24 #[.val (.long q0), .second, .val (.ref a1), .val (.int (1 : Int32)), .val (.int (3 : Int32)), .val (.long (own_sh q0 0)), .second, .val (.int (3 : Int32))] [(.int (((own_sh q0 0).toInt32).toInt8.toInt32)), (.int (3 : Int32)), (.ref a1)]))
  obtain ⟨cl2, Ar2, qq2, S2, M2, H2, G2⟩ := id V1
  have hin2 : ¬ ((3 : Int32) < 0 ∨ cl2.slots.size ≤ ((3 : Int32)).toNatClampNeg) := inb_of S2 ⟨by decide, by decide⟩
  obtain ⟨T3, h3, X3, e3, W3, st3⟩ := stB X0 hx hZ e0 Ar2 (j := (3 : Int32)) hin2 (g := (mkF m 24 #[.val (.long q0), .second, .val (.ref a1), .val (.int (1 : Int32)), .val (.int (3 : Int32)), .val (.long (own_sh q0 0)), .second, .val (.int (3 : Int32))] [(.int (((own_sh q0 0).toInt32).toInt8.toInt32)), (.int (3 : Int32)), (.ref a1)])) rfl rfl (hb hby d5_24)
  have V3 : own_Arf Z h3 a1 k_a1 .byte (4 : Int32) (fun i => .int ((own_upd (own_wr fn_a1 q0 3 0) 3 (nar .byte (((own_sh q0 0).toInt32).toInt8.toInt32))) i)) := own_arfSetI Ar2 qq2 S2 M2 H2 G2 (fits_nar_byte _) W3
  have K3 : Keep h0 h3 [a1] := (Keep.refl h0 [a1]).wr W3 (Or.inl (List.mem_of_getElem? (i := 0) rfl))
  have Z3 : n0 ≤ h3.size := Nat.le_trans Z0 (Keep.of_wr W3).1
  have N3 := Fr.snoc X3 N0 g_a1
  refine own_by st3 ?_
  show own_Go p e below _ (T3.setTop (mkF m 25 #[.val (.long q0), .second, .val (.ref a1), .val (.int (1 : Int32)), .val (.int (3 : Int32)), .val (.long (own_sh q0 0)), .second, .val (.int (3 : Int32))] []))
  refine own_by (fun _ k => XS.lload X3.here hx rfl (hb hby d5_25) rfl k) ?_
  show own_Go p e below _ (T3.setTop (mkF m 27 #[.val (.long q0), .second, .val (.ref a1), .val (.int (1 : Int32)), .val (.int (3 : Int32)), .val (.long (own_sh q0 0)), .second, .val (.int (3 : Int32))] [(.long (own_sh q0 0))]))
  refine own_by (fun _ k => XS.bipush X3.here hx rfl (hb hby d5_27) k) ?_
  show own_Go p e below _ (T3.setTop (mkF m 29 #[.val (.long q0), .second, .val (.ref a1), .val (.int (1 : Int32)), .val (.int (3 : Int32)), .val (.long (own_sh q0 0)), .second, .val (.int (3 : Int32))] [(.int (8 : Int32)), (.long (own_sh q0 0))]))
  refine own_by (fun _ k => XS.lushr X3.here hx rfl (hb hby d5_29) rfl k) ?_
  show own_Go p e below _ (T3.setTop (mkF m 30 #[.val (.long q0), .second, .val (.ref a1), .val (.int (1 : Int32)), .val (.int (3 : Int32)), .val (.long (own_sh q0 0)), .second, .val (.int (3 : Int32))] [(.long (((own_sh q0 0).toUInt64 >>> ((8 : Int32) &&& 0x3f).toInt64.toUInt64).toInt64))]))
  refine own_by (fun _ k => XS.lstore X3.here hx rfl (hb hby d5_30) rfl (l' := #[.val (.long q0), .second, .val (.ref a1), .val (.int (1 : Int32)), .val (.int (3 : Int32)), .val (.long (((own_sh q0 0).toUInt64 >>> ((8 : Int32) &&& 0x3f).toInt64.toUInt64).toInt64)), .second, .val (.int (3 : Int32))]) rfl k) ?_
  show own_Go p e below _ (T3.setTop (mkF m 32 #[.val (.long q0), .second, .val (.ref a1), .val (.int (1 : Int32)), .val (.int (3 : Int32)), .val (.long (((own_sh q0 0).toUInt64 >>> ((8 : Int32) &&& 0x3f).toInt64.toUInt64).toInt64)), .second, .val (.int (3 : Int32))] []))
  refine own_by (fun _ k => XS.iinc X3.here hx rfl (hb hby d5_32) rfl (l' := #[.val (.long q0), .second, .val (.ref a1), .val (.int (1 : Int32)), .val (.int (3 : Int32)), .val (.long (((own_sh q0 0).toUInt64 >>> ((8 : Int32) &&& 0x3f).toInt64.toUInt64).toInt64)), .second, .val (.int (2 : Int32))]) rfl k) ?_
  show own_Go p e below _ (T3.setTop (mkF m 35 #[.val (.long q0), .second, .val (.ref a1), .val (.int (1 : Int32)), .val (.int (3 : Int32)), .val (.long (((own_sh q0 0).toUInt64 >>> ((8 : Int32) &&& 0x3f).toInt64.toUInt64).toInt64)), .second, .val (.int (2 : Int32))] []))
  refine own_by (fun _ k => XS.goto X3.here hx rfl (pc0 := 35) (pc' := 11) rfl (hb hby d5_35) (by decide) (by decide) k) ?_
  show own_Go p e below _ (T3.setTop (mkF m 11 #[.val (.long q0), .second, .val (.ref a1), .val (.int (1 : Int32)), .val (.int (3 : Int32)), .val (.long (((own_sh q0 0).toUInt64 >>> ((8 : Int32) &&& 0x3f).toInt64.toUInt64).toInt64)), .second, .val (.int (2 : Int32))] []))
  show own_Go p e below _ (T3.setTop (mkF m 11 #[.val (.long q0), .second, .val (.ref a1), .val (.int (1 : Int32)), .val (.int (3 : Int32)), .val (.long (own_sh q0 1)), .second, .val (.int (2 : Int32))] []))
  have V4 : own_Arf Z h3 a1 k_a1 .byte (4 : Int32) (fun i => .int ((own_wr fn_a1 q0 3 1) i)) := V3
  refine own_by (fun _ k => XS.iload X3.here hx rfl (hb hby d5_11) rfl k) ?_
  show own_Go p e below _ (T3.setTop (mkF m 13 #[.val (.long q0), .second, .val (.ref a1), .val (.int (1 : Int32)), .val (.int (3 : Int32)), .val (.long (own_sh q0 1)), .second, .val (.int (2 : Int32))] [(.int (2 : Int32))]))
  refine own_by (fun _ k => XS.iloadN X3.here hx rfl (hb hby d5_13) rfl k) ?_
  show own_Go p e below _ (T3.setTop (mkF m 14 #[.val (.long q0), .second, .val (.ref a1), .val (.int (1 : Int32)), .val (.int (3 : Int32)), .val (.long (own_sh q0 1)), .second, .val (.int (2 : Int32))] [(.int (1 : Int32)), (.int (2 : Int32))]))
  refine own_by (fun _ k => XS.icmpNo X3.here hx rfl (hb hby d5_14) rfl (flt (by decide : ¬ ((2 : Int32) < (1 : Int32)))).1 k) ?_
  show own_Go p e below _ (T3.setTop (mkF m 17 #[.val (.long q0), .second, .val (.ref a1), .val (.int (1 : Int32)), .val (.int (3 : Int32)), .val (.long (own_sh q0 1)), .second, .val (.int (2 : Int32))] []))
  refine own_by (fun _ k => XS.aloadN X3.here hx rfl (hb hby d5_17) rfl rfl k) ?_
  show own_Go p e below _ (T3.setTop (mkF m 18 #[.val (.long q0), .second, .val (.ref a1), .val (.int (1 : Int32)), .val (.int (3 : Int32)), .val (.long (own_sh q0 1)), .second, .val (.int (2 : Int32))] [(.ref a1)]))
  refine own_by (fun _ k => XS.iload X3.here hx rfl (hb hby d5_18) rfl k) ?_
  show own_Go p e below _ (T3.setTop (mkF m 20 #[.val (.long q0), .second, .val (.ref a1), .val (.int (1 : Int32)), .val (.int (3 : Int32)), .val (.long (own_sh q0 1)), .second, .val (.int (2 : Int32))] [(.int (2 : Int32)), (.ref a1)]))
  refine own_by (fun _ k => XS.lload X3.here hx rfl (hb hby d5_20) rfl k) ?_
  show own_Go p e below _ (T3.setTop (mkF m 22 #[.val (.long q0), .second, .val (.ref a1), .val (.int (1 : Int32)), .val (.int (3 : Int32)), .val (.long (own_sh q0 1)), .second, .val (.int (2 : Int32))] [(.long (own_sh q0 1)), (.int (2 : Int32)), (.ref a1)]))
  refine own_by (fun _ k => XS.l2i X3.here hx rfl (hb hby d5_22) rfl k) ?_
  show own_Go p e below _ (T3.setTop (mkF m 23 #[.val (.long q0), .second, .val (.ref a1), .val (.int (1 : Int32)), .val (.int (3 : Int32)), .val (.long (own_sh q0 1)), .second, .val (.int (2 : Int32))] [(.int ((own_sh q0 1).toInt32)), (.int (2 : Int32)), (.ref a1)]))
  refine own_by (fun _ k => XS.i2b X3.here hx rfl (hb hby d5_23) rfl k) ?_
  show own_Go p e below _ (T3.setTop (mkF m 24 #[.val (.long q0), .second, .val (.ref a1), .val (.int (1 : Int32)), .val (.int (3 : Int32)), .val (.long (own_sh q0 1)), .second, .val (.int (2 : Int32))] [(.int (((own_sh q0 1).toInt32).toInt8.toInt32)), (.int (2 : Int32)), (.ref a1)]))
  obtain ⟨cl5, Ar5, qq5, S5, M5, H5, G5⟩ := id V4
  have hin5 : ¬ ((2 : Int32) < 0 ∨ cl5.slots.size ≤ ((2 : Int32)).toNatClampNeg) := inb_of S5 ⟨by decide, by decide⟩
  obtain ⟨T6, h6, X6, e6, W6, st6⟩ := stB X3 hx hZ e3 Ar5 (j := (2 : Int32)) hin5 (g := (mkF m 24 #[.val (.long q0), .second, .val (.ref a1), .val (.int (1 : Int32)), .val (.int (3 : Int32)), .val (.long (own_sh q0 1)), .second, .val (.int (2 : Int32))] [(.int (((own_sh q0 1).toInt32).toInt8.toInt32)), (.int (2 : Int32)), (.ref a1)])) rfl rfl (hb hby d5_24)
  have V6 : own_Arf Z h6 a1 k_a1 .byte (4 : Int32) (fun i => .int ((own_upd (own_wr fn_a1 q0 3 1) 2 (nar .byte (((own_sh q0 1).toInt32).toInt8.toInt32))) i)) := own_arfSetI Ar5 qq5 S5 M5 H5 G5 (fits_nar_byte _) W6
  have K6 : Keep h0 h6 [a1] := K3.wr W6 (Or.inl (List.mem_of_getElem? (i := 0) rfl))
  have Z6 : n0 ≤ h6.size := Nat.le_trans Z3 (Keep.of_wr W6).1
  have N6 := Fr.snoc X6 N3 g_a1
  refine own_by st6 ?_
  show own_Go p e below _ (T6.setTop (mkF m 25 #[.val (.long q0), .second, .val (.ref a1), .val (.int (1 : Int32)), .val (.int (3 : Int32)), .val (.long (own_sh q0 1)), .second, .val (.int (2 : Int32))] []))
  refine own_by (fun _ k => XS.lload X6.here hx rfl (hb hby d5_25) rfl k) ?_
  show own_Go p e below _ (T6.setTop (mkF m 27 #[.val (.long q0), .second, .val (.ref a1), .val (.int (1 : Int32)), .val (.int (3 : Int32)), .val (.long (own_sh q0 1)), .second, .val (.int (2 : Int32))] [(.long (own_sh q0 1))]))
  refine own_by (fun _ k => XS.bipush X6.here hx rfl (hb hby d5_27) k) ?_
  show own_Go p e below _ (T6.setTop (mkF m 29 #[.val (.long q0), .second, .val (.ref a1), .val (.int (1 : Int32)), .val (.int (3 : Int32)), .val (.long (own_sh q0 1)), .second, .val (.int (2 : Int32))] [(.int (8 : Int32)), (.long (own_sh q0 1))]))
  refine own_by (fun _ k => XS.lushr X6.here hx rfl (hb hby d5_29) rfl k) ?_
  show own_Go p e below _ (T6.setTop (mkF m 30 #[.val (.long q0), .second, .val (.ref a1), .val (.int (1 : Int32)), .val (.int (3 : Int32)), .val (.long (own_sh q0 1)), .second, .val (.int (2 : Int32))] [(.long (((own_sh q0 1).toUInt64 >>> ((8 : Int32) &&& 0x3f).toInt64.toUInt64).toInt64))]))
  refine own_by (fun _ k => XS.lstore X6.here hx rfl (hb hby d5_30) rfl (l' := #[.val (.long q0), .second, .val (.ref a1), .val (.int (1 : Int32)), .val (.int (3 : Int32)), .val (.long (((own_sh q0 1).toUInt64 >>> ((8 : Int32) &&& 0x3f).toInt64.toUInt64).toInt64)), .second, .val (.int (2 : Int32))]) rfl k) ?_
  show own_Go p e below _ (T6.setTop (mkF m 32 #[.val (.long q0), .second, .val (.ref a1), .val (.int (1 : Int32)), .val (.int (3 : Int32)), .val (.long (((own_sh q0 1).toUInt64 >>> ((8 : Int32) &&& 0x3f).toInt64.toUInt64).toInt64)), .second, .val (.int (2 : Int32))] []))
  refine own_by (fun _ k => XS.iinc X6.here hx rfl (hb hby d5_32) rfl (l' := #[.val (.long q0), .second, .val (.ref a1), .val (.int (1 : Int32)), .val (.int (3 : Int32)), .val (.long (((own_sh q0 1).toUInt64 >>> ((8 : Int32) &&& 0x3f).toInt64.toUInt64).toInt64)), .second, .val (.int (1 : Int32))]) rfl k) ?_
  show own_Go p e below _ (T6.setTop (mkF m 35 #[.val (.long q0), .second, .val (.ref a1), .val (.int (1 : Int32)), .val (.int (3 : Int32)), .val (.long (((own_sh q0 1).toUInt64 >>> ((8 : Int32) &&& 0x3f).toInt64.toUInt64).toInt64)), .second, .val (.int (1 : Int32))] []))
  refine own_by (fun _ k => XS.goto X6.here hx rfl (pc0 := 35) (pc' := 11) rfl (hb hby d5_35) (by decide) (by decide) k) ?_
  show own_Go p e below _ (T6.setTop (mkF m 11 #[.val (.long q0), .second, .val (.ref a1), .val (.int (1 : Int32)), .val (.int (3 : Int32)), .val (.long (((own_sh q0 1).toUInt64 >>> ((8 : Int32) &&& 0x3f).toInt64.toUInt64).toInt64)), .second, .val (.int (1 : Int32))] []))
  show own_Go p e below _ (T6.setTop (mkF m 11 #[.val (.long q0), .second, .val (.ref a1), .val (.int (1 : Int32)), .val (.int (3 : Int32)), .val (.long (own_sh q0 2)), .second, .val (.int (1 : Int32))] []))
  have V7 : own_Arf Z h6 a1 k_a1 .byte (4 : Int32) (fun i => .int ((own_wr fn_a1 q0 3 2) i)) := V6
  refine own_by (fun _ k => XS.iload X6.here hx rfl (hb hby d5_11) rfl k) ?_
  show own_Go p e below _ (T6.setTop (mkF m 13 #[.val (.long q0), .second, .val (.ref a1), .val (.int (1 : Int32)), .val (.int (3 : Int32)), .val (.long (own_sh q0 2)), .second, .val (.int (1 : Int32))] [(.int (1 : Int32))]))
  refine own_by (fun _ k => XS.iloadN X6.here hx rfl (hb hby d5_13) rfl k) ?_
  show own_Go p e below _ (T6.setTop (mkF m 14 #[.val (.long q0), .second, .val (.ref a1), .val (.int (1 : Int32)), .val (.int (3 : Int32)), .val (.long (own_sh q0 2)), .second, .val (.int (1 : Int32))] [(.int (1 : Int32)), (.int (1 : Int32))]))
  refine own_by (fun _ k => XS.icmpNo X6.here hx rfl (hb hby d5_14) rfl (flt (by decide : ¬ ((1 : Int32) < (1 : Int32)))).1 k) ?_
  show own_Go p e below _ (T6.setTop (mkF m 17 #[.val (.long q0), .second, .val (.ref a1), .val (.int (1 : Int32)), .val (.int (3 : Int32)), .val (.long (own_sh q0 2)), .second, .val (.int (1 : Int32))] []))
  refine own_by (fun _ k => XS.aloadN X6.here hx rfl (hb hby d5_17) rfl rfl k) ?_
  show own_Go p e below _ (T6.setTop (mkF m 18 #[.val (.long q0), .second, .val (.ref a1), .val (.int (1 : Int32)), .val (.int (3 : Int32)), .val (.long (own_sh q0 2)), .second, .val (.int (1 : Int32))] [(.ref a1)]))
  refine own_by (fun _ k => XS.iload X6.here hx rfl (hb hby d5_18) rfl k) ?_
  show own_Go p e below _ (T6.setTop (mkF m 20 #[.val (.long q0), .second, .val (.ref a1), .val (.int (1 : Int32)), .val (.int (3 : Int32)), .val (.long (own_sh q0 2)), .second, .val (.int (1 : Int32))] [(.int (1 : Int32)), (.ref a1)]))
  refine own_by (fun _ k => XS.lload X6.here hx rfl (hb hby d5_20) rfl k) ?_
  show own_Go p e below _ (T6.setTop (mkF m 22 #[.val (.long q0), .second, .val (.ref a1), .val (.int (1 : Int32)), .val (.int (3 : Int32)), .val (.long (own_sh q0 2)), .second, .val (.int (1 : Int32))] [(.long (own_sh q0 2)), (.int (1 : Int32)), (.ref a1)]))
  refine own_by (fun _ k => XS.l2i X6.here hx rfl (hb hby d5_22) rfl k) ?_
  show own_Go p e below _ (T6.setTop (mkF m 23 #[.val (.long q0), .second, .val (.ref a1), .val (.int (1 : Int32)), .val (.int (3 : Int32)), .val (.long (own_sh q0 2)), .second, .val (.int (1 : Int32))] [(.int ((own_sh q0 2).toInt32)), (.int (1 : Int32)), (.ref a1)]))
  refine own_by (fun _ k => XS.i2b X6.here hx rfl (hb hby d5_23) rfl k) ?_
  show own_Go p e below _ (T6.setTop (mkF m 24 #[.val (.long q0), .second, .val (.ref a1), .val (.int (1 : Int32)), .val (.int (3 : Int32)), .val (.long (own_sh q0 2)), .second, .val (.int (1 : Int32))] [(.int (((own_sh q0 2).toInt32).toInt8.toInt32)), (.int (1 : Int32)), (.ref a1)]))
  obtain ⟨cl8, Ar8, qq8, S8, M8, H8, G8⟩ := id V7
  have hin8 : ¬ ((1 : Int32) < 0 ∨ cl8.slots.size ≤ ((1 : Int32)).toNatClampNeg) := inb_of S8 ⟨by decide, by decide⟩
  obtain ⟨T9, h9, X9, e9, W9, st9⟩ := stB X6 hx hZ e6 Ar8 (j := (1 : Int32)) hin8 (g := (mkF m 24 #[.val (.long q0), .second, .val (.ref a1), .val (.int (1 : Int32)), .val (.int (3 : Int32)), .val (.long (own_sh q0 2)), .second, .val (.int (1 : Int32))] [(.int (((own_sh q0 2).toInt32).toInt8.toInt32)), (.int (1 : Int32)), (.ref a1)])) rfl rfl (hb hby d5_24)
  have V9 : own_Arf Z h9 a1 k_a1 .byte (4 : Int32) (fun i => .int ((own_upd (own_wr fn_a1 q0 3 2) 1 (nar .byte (((own_sh q0 2).toInt32).toInt8.toInt32))) i)) := own_arfSetI Ar8 qq8 S8 M8 H8 G8 (fits_nar_byte _) W9
  have K9 : Keep h0 h9 [a1] := K6.wr W9 (Or.inl (List.mem_of_getElem? (i := 0) rfl))
  have Z9 : n0 ≤ h9.size := Nat.le_trans Z6 (Keep.of_wr W9).1
  have N9 := Fr.snoc X9 N6 g_a1
  refine own_by st9 ?_
  show own_Go p e below _ (T9.setTop (mkF m 25 #[.val (.long q0), .second, .val (.ref a1), .val (.int (1 : Int32)), .val (.int (3 : Int32)), .val (.long (own_sh q0 2)), .second, .val (.int (1 : Int32))] []))
  refine own_by (fun _ k => XS.lload X9.here hx rfl (hb hby d5_25) rfl k) ?_
  show own_Go p e below _ (T9.setTop (mkF m 27 #[.val (.long q0), .second, .val (.ref a1), .val (.int (1 : Int32)), .val (.int (3 : Int32)), .val (.long (own_sh q0 2)), .second, .val (.int (1 : Int32))] [(.long (own_sh q0 2))]))
  refine own_by (fun _ k => XS.bipush X9.here hx rfl (hb hby d5_27) k) ?_
  show own_Go p e below _ (T9.setTop (mkF m 29 #[.val (.long q0), .second, .val (.ref a1), .val (.int (1 : Int32)), .val (.int (3 : Int32)), .val (.long (own_sh q0 2)), .second, .val (.int (1 : Int32))] [(.int (8 : Int32)), (.long (own_sh q0 2))]))
  refine own_by (fun _ k => XS.lushr X9.here hx rfl (hb hby d5_29) rfl k) ?_
  show own_Go p e below _ (T9.setTop (mkF m 30 #[.val (.long q0), .second, .val (.ref a1), .val (.int (1 : Int32)), .val (.int (3 : Int32)), .val (.long (own_sh q0 2)), .second, .val (.int (1 : Int32))] [(.long (((own_sh q0 2).toUInt64 >>> ((8 : Int32) &&& 0x3f).toInt64.toUInt64).toInt64))]))
  refine own_by (fun _ k => XS.lstore X9.here hx rfl (hb hby d5_30) rfl (l' := #[.val (.long q0), .second, .val (.ref a1), .val (.int (1 : Int32)), .val (.int (3 : Int32)), .val (.long (((own_sh q0 2).toUInt64 >>> ((8 : Int32) &&& 0x3f).toInt64.toUInt64).toInt64)), .second, .val (.int (1 : Int32))]) rfl k) ?_
  show own_Go p e below _ (T9.setTop (mkF m 32 #[.val (.long q0), .second, .val (.ref a1), .val (.int (1 : Int32)), .val (.int (3 : Int32)), .val (.long (((own_sh q0 2).toUInt64 >>> ((8 : Int32) &&& 0x3f).toInt64.toUInt64).toInt64)), .second, .val (.int (1 : Int32))] []))
  refine own_by (fun _ k => XS.iinc X9.here hx rfl (hb hby d5_32) rfl (l' := #[.val (.long q0), .second, .val (.ref a1), .val (.int (1 : Int32)), .val (.int (3 : Int32)), .val (.long (((own_sh q0 2).toUInt64 >>> ((8 : Int32) &&& 0x3f).toInt64.toUInt64).toInt64)), .second, .val (.int (0 : Int32))]) rfl k) ?_
  show own_Go p e below _ (T9.setTop (mkF m 35 #[.val (.long q0), .second, .val (.ref a1), .val (.int (1 : Int32)), .val (.int (3 : Int32)), .val (.long (((own_sh q0 2).toUInt64 >>> ((8 : Int32) &&& 0x3f).toInt64.toUInt64).toInt64)), .second, .val (.int (0 : Int32))] []))
  refine own_by (fun _ k => XS.goto X9.here hx rfl (pc0 := 35) (pc' := 11) rfl (hb hby d5_35) (by decide) (by decide) k) ?_
  show own_Go p e below _ (T9.setTop (mkF m 11 #[.val (.long q0), .second, .val (.ref a1), .val (.int (1 : Int32)), .val (.int (3 : Int32)), .val (.long (((own_sh q0 2).toUInt64 >>> ((8 : Int32) &&& 0x3f).toInt64.toUInt64).toInt64)), .second, .val (.int (0 : Int32))] []))
  show own_Go p e below _ (T9.setTop (mkF m 11 #[.val (.long q0), .second, .val (.ref a1), .val (.int (1 : Int32)), .val (.int (3 : Int32)), .val (.long (own_sh q0 3)), .second, .val (.int (0 : Int32))] []))
  have V10 : own_Arf Z h9 a1 k_a1 .byte (4 : Int32) (fun i => .int ((own_wr fn_a1 q0 3 3) i)) := V9
  refine own_by (fun _ k => XS.iload X9.here hx rfl (hb hby d5_11) rfl k) ?_
  show own_Go p e below _ (T9.setTop (mkF m 13 #[.val (.long q0), .second, .val (.ref a1), .val (.int (1 : Int32)), .val (.int (3 : Int32)), .val (.long (own_sh q0 3)), .second, .val (.int (0 : Int32))] [(.int (0 : Int32))]))
  refine own_by (fun _ k => XS.iloadN X9.here hx rfl (hb hby d5_13) rfl k) ?_
  show own_Go p e below _ (T9.setTop (mkF m 14 #[.val (.long q0), .second, .val (.ref a1), .val (.int (1 : Int32)), .val (.int (3 : Int32)), .val (.long (own_sh q0 3)), .second, .val (.int (0 : Int32))] [(.int (1 : Int32)), (.int (0 : Int32))]))
  refine own_by (fun _ k => XS.icmpYes X9.here hx rfl (pc0 := 14) (pc' := 38) rfl (hb hby d5_14) rfl (tlt (by decide : (0 : Int32) < (1 : Int32))).1 (by decide) (by decide) k) ?_
  show own_Go p e below _ (T9.setTop (mkF m 38 #[.val (.long q0), .second, .val (.ref a1), .val (.int (1 : Int32)), .val (.int (3 : Int32)), .val (.long (own_sh q0 3)), .second, .val (.int (0 : Int32))] []))
  exact own_ret0 X9 hx Bd.returns (hb hby d5_38) hlk e9 ⟨rfl, N9, K9, V10⟩ (by decide) (by decide)
theorem pn_wb4 : plainName "com/example/nested_keyspace/nestedkeyspace/TypedParts" = true := by first | (simp [plainName, overriddenIn]; done) | decide +kernel
theorem ef_wb4 (m : MethodId) (q0 : Int64) (a1 : Addr) : entryFrame m #[(.long q0), (.ref a1), (.int (1 : Int32)), (.int (4 : Int32))] 8 = mkF m 0 #[.val (.long q0), .second, .val (.ref a1), .val (.int (1 : Int32)), .val (.int (4 : Int32)), .unset, .unset, .unset] [] := by first | (simp [entryFrame, mkF, argsToLocals, Value.category]; done) | rfl
def Qwb4 (Z : State) (k_a1 : ClassId) (fn_a1 : Nat → Int32) (q0 : Int64) (a1 : Addr) (h0 : Heap) (n0 : Nat) (v : Option Value) (h : Heap) (L : List Loc) : Prop := v = none ∧ Fr n0 L ∧ Keep h0 h [a1] ∧ own_Arf Z h a1 k_a1 .byte (5 : Int32) (fun i => .int ((own_wr fn_a1 q0 4 4) i))
set_option maxRecDepth 65536 in
set_option maxHeartbeats 40000000 in
theorem rmwb4 (l : Launch) (Z : State) (A0 : Array Value) (hw : ∀ d ∈ tables_1, d.before A0 Z = true) (ws : List Jvm.Cond) (k_a1 : ClassId) (fn_a1 : Nat → Int32) (q0 : Int64) (a1 : Addr) (h0 : Heap) (n0 : Nat) (Z0 : n0 ≤ h0.size) (P_V_a1 : own_Arf Z h0 a1 k_a1 .byte (5 : Int32) (fun i => .int (fn_a1 i))) (g_a1 : n0 ≤ a1) :
    MetFree l (⟨"com/example/nested_keyspace/nestedkeyspace/TypedParts", "writeBigEndian", "(J[BII)V"⟩ : MethodName) (head1 (Jvm.Cond.code (⟨"com/example/nested_keyspace/nestedkeyspace/TypedParts", "writeBigEndian", "(J[BII)V"⟩ : MethodName) prog_20_method_14_code 8 none :: ws) ({ frames := 0, cells := 0, slots := 0, locals := 0 } : Room)) (fun a U => a = #[(.long q0), (.ref a1), (.int (1 : Int32)), (.int (4 : Int32))] ∧ Z.Warmed39 U.vm ∧ U.heap = h0) (fun _ _ _ _ _ => True) (fun _ U o U' => ∃ v L, o = .returned v ∧ Qwb4 Z k_a1 fn_a1 q0 a1 h0 n0 v U'.heap L ∧ FrameEnd U o U' L 0 0) := by
  refine MetFree.of_bodySF (plainFor_of_name pn_wb4) hisR ?_
  intro p e s m args below meth c s₁ Bd hml0 hP hK
  obtain ⟨rfl, hZ, hh⟩ := hP
  have hwd := fun i {d : Jvm.Cond} (h : tables_1[i]? = some d) => hw d (List.mem_of_getElem? h)
  have hx := Bd.exec
  have hby := Bd.bytes
  have hml : c.maxLocals = 8 := hml0
  have hlk : meth.locks = false := Bd.notSynchronized
  have hown : s.vm.findClass "com/example/nested_keyspace/nestedkeyspace/TypedParts" = some m.cls := findClass_of_methodNamed Bd.named
  have hnm := (name_of_methodNamed Bd.named Bd.method).1
  have X0 : Stand p l e ({ frames := 0, cells := 0, slots := 0, locals := 0 } : Room) s m #[(.long q0), (.ref a1), (.int (1 : Int32)), (.int (4 : Int32))] below meth c s₁ [] 0 0 := Stand.of_body Bd
  have e0 : s₁.heap = h0 := by rw [← hh, Bd.state]; rfl
  have N0 := Fr.nil n0
  show own_Go p e below (own_Fin s 0 0 (Qwb4 Z k_a1 fn_a1 q0 a1 h0 n0)) _
  refine own_by (fun t k => castTop (ef_wb4 m q0 a1) k) ?_
  show own_Go p e below _ (s₁.setTop (mkF m 0 #[.val (.long q0), .second, .val (.ref a1), .val (.int (1 : Int32)), .val (.int (4 : Int32)), .unset, .unset, .unset] []))
  refine own_by (fun _ k => XS.lloadN X0.here hx rfl (hb hby d5_0) rfl k) ?_
  show own_Go p e below _ (s₁.setTop (mkF m 1 #[.val (.long q0), .second, .val (.ref a1), .val (.int (1 : Int32)), .val (.int (4 : Int32)), .unset, .unset, .unset] [(.long q0)]))
  refine own_by (fun _ k => XS.lstore X0.here hx rfl (hb hby d5_1) rfl (l' := #[.val (.long q0), .second, .val (.ref a1), .val (.int (1 : Int32)), .val (.int (4 : Int32)), .val (.long q0), .second, .unset]) rfl k) ?_
  show own_Go p e below _ (s₁.setTop (mkF m 3 #[.val (.long q0), .second, .val (.ref a1), .val (.int (1 : Int32)), .val (.int (4 : Int32)), .val (.long q0), .second, .unset] []))
  refine own_by (fun _ k => XS.iloadN X0.here hx rfl (hb hby d5_3) rfl k) ?_
  show own_Go p e below _ (s₁.setTop (mkF m 4 #[.val (.long q0), .second, .val (.ref a1), .val (.int (1 : Int32)), .val (.int (4 : Int32)), .val (.long q0), .second, .unset] [(.int (1 : Int32))]))
  refine own_by (fun _ k => XS.iload X0.here hx rfl (hb hby d5_4) rfl k) ?_
  show own_Go p e below _ (s₁.setTop (mkF m 6 #[.val (.long q0), .second, .val (.ref a1), .val (.int (1 : Int32)), .val (.int (4 : Int32)), .val (.long q0), .second, .unset] [(.int (4 : Int32)), (.int (1 : Int32))]))
  refine own_by (fun _ k => XS.iadd X0.here hx rfl (hb hby d5_6) rfl k) ?_
  show own_Go p e below _ (s₁.setTop (mkF m 7 #[.val (.long q0), .second, .val (.ref a1), .val (.int (1 : Int32)), .val (.int (4 : Int32)), .val (.long q0), .second, .unset] [(.int (5 : Int32))]))
  refine own_by (fun _ k => XS.iconst X0.here hx rfl (hb hby d5_7) k) ?_
  show own_Go p e below _ (s₁.setTop (mkF m 8 #[.val (.long q0), .second, .val (.ref a1), .val (.int (1 : Int32)), .val (.int (4 : Int32)), .val (.long q0), .second, .unset] [(.int (1 : Int32)), (.int (5 : Int32))]))
  refine own_by (fun _ k => XS.isub X0.here hx rfl (hb hby d5_8) rfl k) ?_
  show own_Go p e below _ (s₁.setTop (mkF m 9 #[.val (.long q0), .second, .val (.ref a1), .val (.int (1 : Int32)), .val (.int (4 : Int32)), .val (.long q0), .second, .unset] [(.int (4 : Int32))]))
  refine own_by (fun _ k => XS.istore X0.here hx rfl (hb hby d5_9) rfl (l' := #[.val (.long q0), .second, .val (.ref a1), .val (.int (1 : Int32)), .val (.int (4 : Int32)), .val (.long q0), .second, .val (.int (4 : Int32))]) rfl k) ?_
  show own_Go p e below _ (s₁.setTop (mkF m 11 #[.val (.long q0), .second, .val (.ref a1), .val (.int (1 : Int32)), .val (.int (4 : Int32)), .val (.long q0), .second, .val (.int (4 : Int32))] []))
  show own_Go p e below _ (s₁.setTop (mkF m 11 #[.val (.long q0), .second, .val (.ref a1), .val (.int (1 : Int32)), .val (.int (4 : Int32)), .val (.long (own_sh q0 0)), .second, .val (.int (4 : Int32))] []))
  show own_Go p e below _ (s₁.setTop (mkF m 11 #[.val (.long q0), .second, .val (.ref a1), .val (.int (1 : Int32)), .val (.int (4 : Int32)), .val (.long (own_sh q0 0)), .second, .val (.int (4 : Int32))] []))
  have V1 : own_Arf Z h0 a1 k_a1 .byte (5 : Int32) (fun i => .int ((own_wr fn_a1 q0 4 0) i)) := P_V_a1
  refine own_by (fun _ k => XS.iload X0.here hx rfl (hb hby d5_11) rfl k) ?_
  show own_Go p e below _ (s₁.setTop (mkF m 13 #[.val (.long q0), .second, .val (.ref a1), .val (.int (1 : Int32)), .val (.int (4 : Int32)), .val (.long (own_sh q0 0)), .second, .val (.int (4 : Int32))] [(.int (4 : Int32))]))
  refine own_by (fun _ k => XS.iloadN X0.here hx rfl (hb hby d5_13) rfl k) ?_
  show own_Go p e below _ (s₁.setTop (mkF m 14 #[.val (.long q0), .second, .val (.ref a1), .val (.int (1 : Int32)), .val (.int (4 : Int32)), .val (.long (own_sh q0 0)), .second, .val (.int (4 : Int32))] [(.int (1 : Int32)), (.int (4 : Int32))]))
  refine own_by (fun _ k => XS.icmpNo X0.here hx rfl (hb hby d5_14) rfl (flt (by decide : ¬ ((4 : Int32) < (1 : Int32)))).1 k) ?_
  show own_Go p e below _ (s₁.setTop (mkF m 17 #[.val (.long q0), .second, .val (.ref a1), .val (.int (1 : Int32)), .val (.int (4 : Int32)), .val (.long (own_sh q0 0)), .second, .val (.int (4 : Int32))] []))
  refine own_by (fun _ k => XS.aloadN X0.here hx rfl (hb hby d5_17) rfl rfl k) ?_
  show own_Go p e below _ (s₁.setTop (mkF m 18 #[.val (.long q0), .second, .val (.ref a1), .val (.int (1 : Int32)), .val (.int (4 : Int32)), .val (.long (own_sh q0 0)), .second, .val (.int (4 : Int32))] [(.ref a1)]))
  refine own_by (fun _ k => XS.iload X0.here hx rfl (hb hby d5_18) rfl k) ?_
  show own_Go p e below _ (s₁.setTop (mkF m 20 #[.val (.long q0), .second, .val (.ref a1), .val (.int (1 : Int32)), .val (.int (4 : Int32)), .val (.long (own_sh q0 0)), .second, .val (.int (4 : Int32))] [(.int (4 : Int32)), (.ref a1)]))
  refine own_by (fun _ k => XS.lload X0.here hx rfl (hb hby d5_20) rfl k) ?_
  show own_Go p e below _ (s₁.setTop (mkF m 22 #[.val (.long q0), .second, .val (.ref a1), .val (.int (1 : Int32)), .val (.int (4 : Int32)), .val (.long (own_sh q0 0)), .second, .val (.int (4 : Int32))] [(.long (own_sh q0 0)), (.int (4 : Int32)), (.ref a1)]))
  refine own_by (fun _ k => XS.l2i X0.here hx rfl (hb hby d5_22) rfl k) ?_
  show own_Go p e below _ (s₁.setTop (mkF m 23 #[.val (.long q0), .second, .val (.ref a1), .val (.int (1 : Int32)), .val (.int (4 : Int32)), .val (.long (own_sh q0 0)), .second, .val (.int (4 : Int32))] [(.int ((own_sh q0 0).toInt32)), (.int (4 : Int32)), (.ref a1)]))
  refine own_by (fun _ k => XS.i2b X0.here hx rfl (hb hby d5_23) rfl k) ?_
  show own_Go p e below _ (s₁.setTop (mkF m 24 #[.val (.long q0), .second, .val (.ref a1), .val (.int (1 : Int32)), .val (.int (4 : Int32)), .val (.long (own_sh q0 0)), .second, .val (.int (4 : Int32))] [(.int (((own_sh q0 0).toInt32).toInt8.toInt32)), (.int (4 : Int32)), (.ref a1)]))
  obtain ⟨cl2, Ar2, qq2, S2, M2, H2, G2⟩ := id V1
  have hin2 : ¬ ((4 : Int32) < 0 ∨ cl2.slots.size ≤ ((4 : Int32)).toNatClampNeg) := inb_of S2 ⟨by decide, by decide⟩
  obtain ⟨T3, h3, X3, e3, W3, st3⟩ := stB X0 hx hZ e0 Ar2 (j := (4 : Int32)) hin2 (g := (mkF m 24 #[.val (.long q0), .second, .val (.ref a1), .val (.int (1 : Int32)), .val (.int (4 : Int32)), .val (.long (own_sh q0 0)), .second, .val (.int (4 : Int32))] [(.int (((own_sh q0 0).toInt32).toInt8.toInt32)), (.int (4 : Int32)), (.ref a1)])) rfl rfl (hb hby d5_24)
  have V3 : own_Arf Z h3 a1 k_a1 .byte (5 : Int32) (fun i => .int ((own_upd (own_wr fn_a1 q0 4 0) 4 (nar .byte (((own_sh q0 0).toInt32).toInt8.toInt32))) i)) := own_arfSetI Ar2 qq2 S2 M2 H2 G2 (fits_nar_byte _) W3
  have K3 : Keep h0 h3 [a1] := (Keep.refl h0 [a1]).wr W3 (Or.inl (List.mem_of_getElem? (i := 0) rfl))
  have Z3 : n0 ≤ h3.size := Nat.le_trans Z0 (Keep.of_wr W3).1
  have N3 := Fr.snoc X3 N0 g_a1
  refine own_by st3 ?_
  show own_Go p e below _ (T3.setTop (mkF m 25 #[.val (.long q0), .second, .val (.ref a1), .val (.int (1 : Int32)), .val (.int (4 : Int32)), .val (.long (own_sh q0 0)), .second, .val (.int (4 : Int32))] []))
  refine own_by (fun _ k => XS.lload X3.here hx rfl (hb hby d5_25) rfl k) ?_
  show own_Go p e below _ (T3.setTop (mkF m 27 #[.val (.long q0), .second, .val (.ref a1), .val (.int (1 : Int32)), .val (.int (4 : Int32)), .val (.long (own_sh q0 0)), .second, .val (.int (4 : Int32))] [(.long (own_sh q0 0))]))
  refine own_by (fun _ k => XS.bipush X3.here hx rfl (hb hby d5_27) k) ?_
  show own_Go p e below _ (T3.setTop (mkF m 29 #[.val (.long q0), .second, .val (.ref a1), .val (.int (1 : Int32)), .val (.int (4 : Int32)), .val (.long (own_sh q0 0)), .second, .val (.int (4 : Int32))] [(.int (8 : Int32)), (.long (own_sh q0 0))]))
  refine own_by (fun _ k => XS.lushr X3.here hx rfl (hb hby d5_29) rfl k) ?_
  show own_Go p e below _ (T3.setTop (mkF m 30 #[.val (.long q0), .second, .val (.ref a1), .val (.int (1 : Int32)), .val (.int (4 : Int32)), .val (.long (own_sh q0 0)), .second, .val (.int (4 : Int32))] [(.long (((own_sh q0 0).toUInt64 >>> ((8 : Int32) &&& 0x3f).toInt64.toUInt64).toInt64))]))
  refine own_by (fun _ k => XS.lstore X3.here hx rfl (hb hby d5_30) rfl (l' := #[.val (.long q0), .second, .val (.ref a1), .val (.int (1 : Int32)), .val (.int (4 : Int32)), .val (.long (((own_sh q0 0).toUInt64 >>> ((8 : Int32) &&& 0x3f).toInt64.toUInt64).toInt64)), .second, .val (.int (4 : Int32))]) rfl k) ?_
  show own_Go p e below _ (T3.setTop (mkF m 32 #[.val (.long q0), .second, .val (.ref a1), .val (.int (1 : Int32)), .val (.int (4 : Int32)), .val (.long (((own_sh q0 0).toUInt64 >>> ((8 : Int32) &&& 0x3f).toInt64.toUInt64).toInt64)), .second, .val (.int (4 : Int32))] []))
  refine own_by (fun _ k => XS.iinc X3.here hx rfl (hb hby d5_32) rfl (l' := #[.val (.long q0), .second, .val (.ref a1), .val (.int (1 : Int32)), .val (.int (4 : Int32)), .val (.long (((own_sh q0 0).toUInt64 >>> ((8 : Int32) &&& 0x3f).toInt64.toUInt64).toInt64)), .second, .val (.int (3 : Int32))]) rfl k) ?_
  show own_Go p e below _ (T3.setTop (mkF m 35 #[.val (.long q0), .second, .val (.ref a1), .val (.int (1 : Int32)), .val (.int (4 : Int32)), .val (.long (((own_sh q0 0).toUInt64 >>> ((8 : Int32) &&& 0x3f).toInt64.toUInt64).toInt64)), .second, .val (.int (3 : Int32))] []))
  refine own_by (fun _ k => XS.goto X3.here hx rfl (pc0 := 35) (pc' := 11) rfl (hb hby d5_35) (by decide) (by decide) k) ?_
  show own_Go p e below _ (T3.setTop (mkF m 11 #[.val (.long q0), .second, .val (.ref a1), .val (.int (1 : Int32)), .val (.int (4 : Int32)), .val (.long (((own_sh q0 0).toUInt64 >>> ((8 : Int32) &&& 0x3f).toInt64.toUInt64).toInt64)), .second, .val (.int (3 : Int32))] []))
  show own_Go p e below _ (T3.setTop (mkF m 11 #[.val (.long q0), .second, .val (.ref a1), .val (.int (1 : Int32)), .val (.int (4 : Int32)), .val (.long (own_sh q0 1)), .second, .val (.int (3 : Int32))] []))
  have V4 : own_Arf Z h3 a1 k_a1 .byte (5 : Int32) (fun i => .int ((own_wr fn_a1 q0 4 1) i)) := V3
  refine own_by (fun _ k => XS.iload X3.here hx rfl (hb hby d5_11) rfl k) ?_
  show own_Go p e below _ (T3.setTop (mkF m 13 #[.val (.long q0), .second, .val (.ref a1), .val (.int (1 : Int32)), .val (.int (4 : Int32)), .val (.long (own_sh q0 1)), .second, .val (.int (3 : Int32))] [(.int (3 : Int32))]))
  refine own_by (fun _ k => XS.iloadN X3.here hx rfl (hb hby d5_13) rfl k) ?_
  show own_Go p e below _ (T3.setTop (mkF m 14 #[.val (.long q0), .second, .val (.ref a1), .val (.int (1 : Int32)), .val (.int (4 : Int32)), .val (.long (own_sh q0 1)), .second, .val (.int (3 : Int32))] [(.int (1 : Int32)), (.int (3 : Int32))]))
  refine own_by (fun _ k => XS.icmpNo X3.here hx rfl (hb hby d5_14) rfl (flt (by decide : ¬ ((3 : Int32) < (1 : Int32)))).1 k) ?_
  show own_Go p e below _ (T3.setTop (mkF m 17 #[.val (.long q0), .second, .val (.ref a1), .val (.int (1 : Int32)), .val (.int (4 : Int32)), .val (.long (own_sh q0 1)), .second, .val (.int (3 : Int32))] []))
  refine own_by (fun _ k => XS.aloadN X3.here hx rfl (hb hby d5_17) rfl rfl k) ?_
  show own_Go p e below _ (T3.setTop (mkF m 18 #[.val (.long q0), .second, .val (.ref a1), .val (.int (1 : Int32)), .val (.int (4 : Int32)), .val (.long (own_sh q0 1)), .second, .val (.int (3 : Int32))] [(.ref a1)]))
  refine own_by (fun _ k => XS.iload X3.here hx rfl (hb hby d5_18) rfl k) ?_
  show own_Go p e below _ (T3.setTop (mkF m 20 #[.val (.long q0), .second, .val (.ref a1), .val (.int (1 : Int32)), .val (.int (4 : Int32)), .val (.long (own_sh q0 1)), .second, .val (.int (3 : Int32))] [(.int (3 : Int32)), (.ref a1)]))
  refine own_by (fun _ k => XS.lload X3.here hx rfl (hb hby d5_20) rfl k) ?_
  show own_Go p e below _ (T3.setTop (mkF m 22 #[.val (.long q0), .second, .val (.ref a1), .val (.int (1 : Int32)), .val (.int (4 : Int32)), .val (.long (own_sh q0 1)), .second, .val (.int (3 : Int32))] [(.long (own_sh q0 1)), (.int (3 : Int32)), (.ref a1)]))
  refine own_by (fun _ k => XS.l2i X3.here hx rfl (hb hby d5_22) rfl k) ?_
  show own_Go p e below _ (T3.setTop (mkF m 23 #[.val (.long q0), .second, .val (.ref a1), .val (.int (1 : Int32)), .val (.int (4 : Int32)), .val (.long (own_sh q0 1)), .second, .val (.int (3 : Int32))] [(.int ((own_sh q0 1).toInt32)), (.int (3 : Int32)), (.ref a1)]))
  refine own_by (fun _ k => XS.i2b X3.here hx rfl (hb hby d5_23) rfl k) ?_
  show own_Go p e below _ (T3.setTop (mkF m 24 #[.val (.long q0), .second, .val (.ref a1), .val (.int (1 : Int32)), .val (.int (4 : Int32)), .val (.long (own_sh q0 1)), .second, .val (.int (3 : Int32))] [(.int (((own_sh q0 1).toInt32).toInt8.toInt32)), (.int (3 : Int32)), (.ref a1)]))
  obtain ⟨cl5, Ar5, qq5, S5, M5, H5, G5⟩ := id V4
  have hin5 : ¬ ((3 : Int32) < 0 ∨ cl5.slots.size ≤ ((3 : Int32)).toNatClampNeg) := inb_of S5 ⟨by decide, by decide⟩
  obtain ⟨T6, h6, X6, e6, W6, st6⟩ := stB X3 hx hZ e3 Ar5 (j := (3 : Int32)) hin5 (g := (mkF m 24 #[.val (.long q0), .second, .val (.ref a1), .val (.int (1 : Int32)), .val (.int (4 : Int32)), .val (.long (own_sh q0 1)), .second, .val (.int (3 : Int32))] [(.int (((own_sh q0 1).toInt32).toInt8.toInt32)), (.int (3 : Int32)), (.ref a1)])) rfl rfl (hb hby d5_24)
  have V6 : own_Arf Z h6 a1 k_a1 .byte (5 : Int32) (fun i => .int ((own_upd (own_wr fn_a1 q0 4 1) 3 (nar .byte (((own_sh q0 1).toInt32).toInt8.toInt32))) i)) := own_arfSetI Ar5 qq5 S5 M5 H5 G5 (fits_nar_byte _) W6
  have K6 : Keep h0 h6 [a1] := K3.wr W6 (Or.inl (List.mem_of_getElem? (i := 0) rfl))
  have Z6 : n0 ≤ h6.size := Nat.le_trans Z3 (Keep.of_wr W6).1
  have N6 := Fr.snoc X6 N3 g_a1
  refine own_by st6 ?_
  show own_Go p e below _ (T6.setTop (mkF m 25 #[.val (.long q0), .second, .val (.ref a1), .val (.int (1 : Int32)), .val (.int (4 : Int32)), .val (.long (own_sh q0 1)), .second, .val (.int (3 : Int32))] []))
  refine own_by (fun _ k => XS.lload X6.here hx rfl (hb hby d5_25) rfl k) ?_
  show own_Go p e below _ (T6.setTop (mkF m 27 #[.val (.long q0), .second, .val (.ref a1), .val (.int (1 : Int32)), .val (.int (4 : Int32)), .val (.long (own_sh q0 1)), .second, .val (.int (3 : Int32))] [(.long (own_sh q0 1))]))
  refine own_by (fun _ k => XS.bipush X6.here hx rfl (hb hby d5_27) k) ?_
  show own_Go p e below _ (T6.setTop (mkF m 29 #[.val (.long q0), .second, .val (.ref a1), .val (.int (1 : Int32)), .val (.int (4 : Int32)), .val (.long (own_sh q0 1)), .second, .val (.int (3 : Int32))] [(.int (8 : Int32)), (.long (own_sh q0 1))]))
  refine own_by (fun _ k => XS.lushr X6.here hx rfl (hb hby d5_29) rfl k) ?_
  show own_Go p e below _ (T6.setTop (mkF m 30 #[.val (.long q0), .second, .val (.ref a1), .val (.int (1 : Int32)), .val (.int (4 : Int32)), .val (.long (own_sh q0 1)), .second, .val (.int (3 : Int32))] [(.long (((own_sh q0 1).toUInt64 >>> ((8 : Int32) &&& 0x3f).toInt64.toUInt64).toInt64))]))
  refine own_by (fun _ k => XS.lstore X6.here hx rfl (hb hby d5_30) rfl (l' := #[.val (.long q0), .second, .val (.ref a1), .val (.int (1 : Int32)), .val (.int (4 : Int32)), .val (.long (((own_sh q0 1).toUInt64 >>> ((8 : Int32) &&& 0x3f).toInt64.toUInt64).toInt64)), .second, .val (.int (3 : Int32))]) rfl k) ?_
  show own_Go p e below _ (T6.setTop (mkF m 32 #[.val (.long q0), .second, .val (.ref a1), .val (.int (1 : Int32)), .val (.int (4 : Int32)), .val (.long (((own_sh q0 1).toUInt64 >>> ((8 : Int32) &&& 0x3f).toInt64.toUInt64).toInt64)), .second, .val (.int (3 : Int32))] []))
  refine own_by (fun _ k => XS.iinc X6.here hx rfl (hb hby d5_32) rfl (l' := #[.val (.long q0), .second, .val (.ref a1), .val (.int (1 : Int32)), .val (.int (4 : Int32)), .val (.long (((own_sh q0 1).toUInt64 >>> ((8 : Int32) &&& 0x3f).toInt64.toUInt64).toInt64)), .second, .val (.int (2 : Int32))]) rfl k) ?_
  show own_Go p e below _ (T6.setTop (mkF m 35 #[.val (.long q0), .second, .val (.ref a1), .val (.int (1 : Int32)), .val (.int (4 : Int32)), .val (.long (((own_sh q0 1).toUInt64 >>> ((8 : Int32) &&& 0x3f).toInt64.toUInt64).toInt64)), .second, .val (.int (2 : Int32))] []))
  refine own_by (fun _ k => XS.goto X6.here hx rfl (pc0 := 35) (pc' := 11) rfl (hb hby d5_35) (by decide) (by decide) k) ?_
  show own_Go p e below _ (T6.setTop (mkF m 11 #[.val (.long q0), .second, .val (.ref a1), .val (.int (1 : Int32)), .val (.int (4 : Int32)), .val (.long (((own_sh q0 1).toUInt64 >>> ((8 : Int32) &&& 0x3f).toInt64.toUInt64).toInt64)), .second, .val (.int (2 : Int32))] []))
  show own_Go p e below _ (T6.setTop (mkF m 11 #[.val (.long q0), .second, .val (.ref a1), .val (.int (1 : Int32)), .val (.int (4 : Int32)), .val (.long (own_sh q0 2)), .second, .val (.int (2 : Int32))] []))
  have V7 : own_Arf Z h6 a1 k_a1 .byte (5 : Int32) (fun i => .int ((own_wr fn_a1 q0 4 2) i)) := V6
  refine own_by (fun _ k => XS.iload X6.here hx rfl (hb hby d5_11) rfl k) ?_
  show own_Go p e below _ (T6.setTop (mkF m 13 #[.val (.long q0), .second, .val (.ref a1), .val (.int (1 : Int32)), .val (.int (4 : Int32)), .val (.long (own_sh q0 2)), .second, .val (.int (2 : Int32))] [(.int (2 : Int32))]))
  refine own_by (fun _ k => XS.iloadN X6.here hx rfl (hb hby d5_13) rfl k) ?_
  show own_Go p e below _ (T6.setTop (mkF m 14 #[.val (.long q0), .second, .val (.ref a1), .val (.int (1 : Int32)), .val (.int (4 : Int32)), .val (.long (own_sh q0 2)), .second, .val (.int (2 : Int32))] [(.int (1 : Int32)), (.int (2 : Int32))]))
  refine own_by (fun _ k => XS.icmpNo X6.here hx rfl (hb hby d5_14) rfl (flt (by decide : ¬ ((2 : Int32) < (1 : Int32)))).1 k) ?_
  show own_Go p e below _ (T6.setTop (mkF m 17 #[.val (.long q0), .second, .val (.ref a1), .val (.int (1 : Int32)), .val (.int (4 : Int32)), .val (.long (own_sh q0 2)), .second, .val (.int (2 : Int32))] []))
  refine own_by (fun _ k => XS.aloadN X6.here hx rfl (hb hby d5_17) rfl rfl k) ?_
  show own_Go p e below _ (T6.setTop (mkF m 18 #[.val (.long q0), .second, .val (.ref a1), .val (.int (1 : Int32)), .val (.int (4 : Int32)), .val (.long (own_sh q0 2)), .second, .val (.int (2 : Int32))] [(.ref a1)]))
  refine own_by (fun _ k => XS.iload X6.here hx rfl (hb hby d5_18) rfl k) ?_
  show own_Go p e below _ (T6.setTop (mkF m 20 #[.val (.long q0), .second, .val (.ref a1), .val (.int (1 : Int32)), .val (.int (4 : Int32)), .val (.long (own_sh q0 2)), .second, .val (.int (2 : Int32))] [(.int (2 : Int32)), (.ref a1)]))
  refine own_by (fun _ k => XS.lload X6.here hx rfl (hb hby d5_20) rfl k) ?_
  show own_Go p e below _ (T6.setTop (mkF m 22 #[.val (.long q0), .second, .val (.ref a1), .val (.int (1 : Int32)), .val (.int (4 : Int32)), .val (.long (own_sh q0 2)), .second, .val (.int (2 : Int32))] [(.long (own_sh q0 2)), (.int (2 : Int32)), (.ref a1)]))
  refine own_by (fun _ k => XS.l2i X6.here hx rfl (hb hby d5_22) rfl k) ?_
  show own_Go p e below _ (T6.setTop (mkF m 23 #[.val (.long q0), .second, .val (.ref a1), .val (.int (1 : Int32)), .val (.int (4 : Int32)), .val (.long (own_sh q0 2)), .second, .val (.int (2 : Int32))] [(.int ((own_sh q0 2).toInt32)), (.int (2 : Int32)), (.ref a1)]))
  refine own_by (fun _ k => XS.i2b X6.here hx rfl (hb hby d5_23) rfl k) ?_
  show own_Go p e below _ (T6.setTop (mkF m 24 #[.val (.long q0), .second, .val (.ref a1), .val (.int (1 : Int32)), .val (.int (4 : Int32)), .val (.long (own_sh q0 2)), .second, .val (.int (2 : Int32))] [(.int (((own_sh q0 2).toInt32).toInt8.toInt32)), (.int (2 : Int32)), (.ref a1)]))
  obtain ⟨cl8, Ar8, qq8, S8, M8, H8, G8⟩ := id V7
  have hin8 : ¬ ((2 : Int32) < 0 ∨ cl8.slots.size ≤ ((2 : Int32)).toNatClampNeg) := inb_of S8 ⟨by decide, by decide⟩
  obtain ⟨T9, h9, X9, e9, W9, st9⟩ := stB X6 hx hZ e6 Ar8 (j := (2 : Int32)) hin8 (g := (mkF m 24 #[.val (.long q0), .second, .val (.ref a1), .val (.int (1 : Int32)), .val (.int (4 : Int32)), .val (.long (own_sh q0 2)), .second, .val (.int (2 : Int32))] [(.int (((own_sh q0 2).toInt32).toInt8.toInt32)), (.int (2 : Int32)), (.ref a1)])) rfl rfl (hb hby d5_24)
  have V9 : own_Arf Z h9 a1 k_a1 .byte (5 : Int32) (fun i => .int ((own_upd (own_wr fn_a1 q0 4 2) 2 (nar .byte (((own_sh q0 2).toInt32).toInt8.toInt32))) i)) := own_arfSetI Ar8 qq8 S8 M8 H8 G8 (fits_nar_byte _) W9
  have K9 : Keep h0 h9 [a1] := K6.wr W9 (Or.inl (List.mem_of_getElem? (i := 0) rfl))
  have Z9 : n0 ≤ h9.size := Nat.le_trans Z6 (Keep.of_wr W9).1
  have N9 := Fr.snoc X9 N6 g_a1
  refine own_by st9 ?_
  show own_Go p e below _ (T9.setTop (mkF m 25 #[.val (.long q0), .second, .val (.ref a1), .val (.int (1 : Int32)), .val (.int (4 : Int32)), .val (.long (own_sh q0 2)), .second, .val (.int (2 : Int32))] []))
  refine own_by (fun _ k => XS.lload X9.here hx rfl (hb hby d5_25) rfl k) ?_
  show own_Go p e below _ (T9.setTop (mkF m 27 #[.val (.long q0), .second, .val (.ref a1), .val (.int (1 : Int32)), .val (.int (4 : Int32)), .val (.long (own_sh q0 2)), .second, .val (.int (2 : Int32))] [(.long (own_sh q0 2))]))
  refine own_by (fun _ k => XS.bipush X9.here hx rfl (hb hby d5_27) k) ?_
  show own_Go p e below _ (T9.setTop (mkF m 29 #[.val (.long q0), .second, .val (.ref a1), .val (.int (1 : Int32)), .val (.int (4 : Int32)), .val (.long (own_sh q0 2)), .second, .val (.int (2 : Int32))] [(.int (8 : Int32)), (.long (own_sh q0 2))]))
  refine own_by (fun _ k => XS.lushr X9.here hx rfl (hb hby d5_29) rfl k) ?_
  show own_Go p e below _ (T9.setTop (mkF m 30 #[.val (.long q0), .second, .val (.ref a1), .val (.int (1 : Int32)), .val (.int (4 : Int32)), .val (.long (own_sh q0 2)), .second, .val (.int (2 : Int32))] [(.long (((own_sh q0 2).toUInt64 >>> ((8 : Int32) &&& 0x3f).toInt64.toUInt64).toInt64))]))
  refine own_by (fun _ k => XS.lstore X9.here hx rfl (hb hby d5_30) rfl (l' := #[.val (.long q0), .second, .val (.ref a1), .val (.int (1 : Int32)), .val (.int (4 : Int32)), .val (.long (((own_sh q0 2).toUInt64 >>> ((8 : Int32) &&& 0x3f).toInt64.toUInt64).toInt64)), .second, .val (.int (2 : Int32))]) rfl k) ?_
  show own_Go p e below _ (T9.setTop (mkF m 32 #[.val (.long q0), .second, .val (.ref a1), .val (.int (1 : Int32)), .val (.int (4 : Int32)), .val (.long (((own_sh q0 2).toUInt64 >>> ((8 : Int32) &&& 0x3f).toInt64.toUInt64).toInt64)), .second, .val (.int (2 : Int32))] []))
  refine own_by (fun _ k => XS.iinc X9.here hx rfl (hb hby d5_32) rfl (l' := #[.val (.long q0), .second, .val (.ref a1), .val (.int (1 : Int32)), .val (.int (4 : Int32)), .val (.long (((own_sh q0 2).toUInt64 >>> ((8 : Int32) &&& 0x3f).toInt64.toUInt64).toInt64)), .second, .val (.int (1 : Int32))]) rfl k) ?_
  show own_Go p e below _ (T9.setTop (mkF m 35 #[.val (.long q0), .second, .val (.ref a1), .val (.int (1 : Int32)), .val (.int (4 : Int32)), .val (.long (((own_sh q0 2).toUInt64 >>> ((8 : Int32) &&& 0x3f).toInt64.toUInt64).toInt64)), .second, .val (.int (1 : Int32))] []))
  refine own_by (fun _ k => XS.goto X9.here hx rfl (pc0 := 35) (pc' := 11) rfl (hb hby d5_35) (by decide) (by decide) k) ?_
  show own_Go p e below _ (T9.setTop (mkF m 11 #[.val (.long q0), .second, .val (.ref a1), .val (.int (1 : Int32)), .val (.int (4 : Int32)), .val (.long (((own_sh q0 2).toUInt64 >>> ((8 : Int32) &&& 0x3f).toInt64.toUInt64).toInt64)), .second, .val (.int (1 : Int32))] []))
  show own_Go p e below _ (T9.setTop (mkF m 11 #[.val (.long q0), .second, .val (.ref a1), .val (.int (1 : Int32)), .val (.int (4 : Int32)), .val (.long (own_sh q0 3)), .second, .val (.int (1 : Int32))] []))
  have V10 : own_Arf Z h9 a1 k_a1 .byte (5 : Int32) (fun i => .int ((own_wr fn_a1 q0 4 3) i)) := V9
  refine own_by (fun _ k => XS.iload X9.here hx rfl (hb hby d5_11) rfl k) ?_
  show own_Go p e below _ (T9.setTop (mkF m 13 #[.val (.long q0), .second, .val (.ref a1), .val (.int (1 : Int32)), .val (.int (4 : Int32)), .val (.long (own_sh q0 3)), .second, .val (.int (1 : Int32))] [(.int (1 : Int32))]))
  refine own_by (fun _ k => XS.iloadN X9.here hx rfl (hb hby d5_13) rfl k) ?_
  show own_Go p e below _ (T9.setTop (mkF m 14 #[.val (.long q0), .second, .val (.ref a1), .val (.int (1 : Int32)), .val (.int (4 : Int32)), .val (.long (own_sh q0 3)), .second, .val (.int (1 : Int32))] [(.int (1 : Int32)), (.int (1 : Int32))]))
  refine own_by (fun _ k => XS.icmpNo X9.here hx rfl (hb hby d5_14) rfl (flt (by decide : ¬ ((1 : Int32) < (1 : Int32)))).1 k) ?_
  show own_Go p e below _ (T9.setTop (mkF m 17 #[.val (.long q0), .second, .val (.ref a1), .val (.int (1 : Int32)), .val (.int (4 : Int32)), .val (.long (own_sh q0 3)), .second, .val (.int (1 : Int32))] []))
  refine own_by (fun _ k => XS.aloadN X9.here hx rfl (hb hby d5_17) rfl rfl k) ?_
  show own_Go p e below _ (T9.setTop (mkF m 18 #[.val (.long q0), .second, .val (.ref a1), .val (.int (1 : Int32)), .val (.int (4 : Int32)), .val (.long (own_sh q0 3)), .second, .val (.int (1 : Int32))] [(.ref a1)]))
  refine own_by (fun _ k => XS.iload X9.here hx rfl (hb hby d5_18) rfl k) ?_
  show own_Go p e below _ (T9.setTop (mkF m 20 #[.val (.long q0), .second, .val (.ref a1), .val (.int (1 : Int32)), .val (.int (4 : Int32)), .val (.long (own_sh q0 3)), .second, .val (.int (1 : Int32))] [(.int (1 : Int32)), (.ref a1)]))
  refine own_by (fun _ k => XS.lload X9.here hx rfl (hb hby d5_20) rfl k) ?_
  show own_Go p e below _ (T9.setTop (mkF m 22 #[.val (.long q0), .second, .val (.ref a1), .val (.int (1 : Int32)), .val (.int (4 : Int32)), .val (.long (own_sh q0 3)), .second, .val (.int (1 : Int32))] [(.long (own_sh q0 3)), (.int (1 : Int32)), (.ref a1)]))
  refine own_by (fun _ k => XS.l2i X9.here hx rfl (hb hby d5_22) rfl k) ?_
  show own_Go p e below _ (T9.setTop (mkF m 23 #[.val (.long q0), .second, .val (.ref a1), .val (.int (1 : Int32)), .val (.int (4 : Int32)), .val (.long (own_sh q0 3)), .second, .val (.int (1 : Int32))] [(.int ((own_sh q0 3).toInt32)), (.int (1 : Int32)), (.ref a1)]))
  refine own_by (fun _ k => XS.i2b X9.here hx rfl (hb hby d5_23) rfl k) ?_
  show own_Go p e below _ (T9.setTop (mkF m 24 #[.val (.long q0), .second, .val (.ref a1), .val (.int (1 : Int32)), .val (.int (4 : Int32)), .val (.long (own_sh q0 3)), .second, .val (.int (1 : Int32))] [(.int (((own_sh q0 3).toInt32).toInt8.toInt32)), (.int (1 : Int32)), (.ref a1)]))
  obtain ⟨cl11, Ar11, qq11, S11, M11, H11, G11⟩ := id V10
  have hin11 : ¬ ((1 : Int32) < 0 ∨ cl11.slots.size ≤ ((1 : Int32)).toNatClampNeg) := inb_of S11 ⟨by decide, by decide⟩
  obtain ⟨T12, h12, X12, e12, W12, st12⟩ := stB X9 hx hZ e9 Ar11 (j := (1 : Int32)) hin11 (g := (mkF m 24 #[.val (.long q0), .second, .val (.ref a1), .val (.int (1 : Int32)), .val (.int (4 : Int32)), .val (.long (own_sh q0 3)), .second, .val (.int (1 : Int32))] [(.int (((own_sh q0 3).toInt32).toInt8.toInt32)), (.int (1 : Int32)), (.ref a1)])) rfl rfl (hb hby d5_24)
  have V12 : own_Arf Z h12 a1 k_a1 .byte (5 : Int32) (fun i => .int ((own_upd (own_wr fn_a1 q0 4 3) 1 (nar .byte (((own_sh q0 3).toInt32).toInt8.toInt32))) i)) := own_arfSetI Ar11 qq11 S11 M11 H11 G11 (fits_nar_byte _) W12
  have K12 : Keep h0 h12 [a1] := K9.wr W12 (Or.inl (List.mem_of_getElem? (i := 0) rfl))
  have Z12 : n0 ≤ h12.size := Nat.le_trans Z9 (Keep.of_wr W12).1
  have N12 := Fr.snoc X12 N9 g_a1
  refine own_by st12 ?_
  show own_Go p e below _ (T12.setTop (mkF m 25 #[.val (.long q0), .second, .val (.ref a1), .val (.int (1 : Int32)), .val (.int (4 : Int32)), .val (.long (own_sh q0 3)), .second, .val (.int (1 : Int32))] []))
  refine own_by (fun _ k => XS.lload X12.here hx rfl (hb hby d5_25) rfl k) ?_
  show own_Go p e below _ (T12.setTop (mkF m 27 #[.val (.long q0), .second, .val (.ref a1), .val (.int (1 : Int32)), .val (.int (4 : Int32)), .val (.long (own_sh q0 3)), .second, .val (.int (1 : Int32))] [(.long (own_sh q0 3))]))
  refine own_by (fun _ k => XS.bipush X12.here hx rfl (hb hby d5_27) k) ?_
  show own_Go p e below _ (T12.setTop (mkF m 29 #[.val (.long q0), .second, .val (.ref a1), .val (.int (1 : Int32)), .val (.int (4 : Int32)), .val (.long (own_sh q0 3)), .second, .val (.int (1 : Int32))] [(.int (8 : Int32)), (.long (own_sh q0 3))]))
  refine own_by (fun _ k => XS.lushr X12.here hx rfl (hb hby d5_29) rfl k) ?_
  show own_Go p e below _ (T12.setTop (mkF m 30 #[.val (.long q0), .second, .val (.ref a1), .val (.int (1 : Int32)), .val (.int (4 : Int32)), .val (.long (own_sh q0 3)), .second, .val (.int (1 : Int32))] [(.long (((own_sh q0 3).toUInt64 >>> ((8 : Int32) &&& 0x3f).toInt64.toUInt64).toInt64))]))
  refine own_by (fun _ k => XS.lstore X12.here hx rfl (hb hby d5_30) rfl (l' := #[.val (.long q0), .second, .val (.ref a1), .val (.int (1 : Int32)), .val (.int (4 : Int32)), .val (.long (((own_sh q0 3).toUInt64 >>> ((8 : Int32) &&& 0x3f).toInt64.toUInt64).toInt64)), .second, .val (.int (1 : Int32))]) rfl k) ?_
  show own_Go p e below _ (T12.setTop (mkF m 32 #[.val (.long q0), .second, .val (.ref a1), .val (.int (1 : Int32)), .val (.int (4 : Int32)), .val (.long (((own_sh q0 3).toUInt64 >>> ((8 : Int32) &&& 0x3f).toInt64.toUInt64).toInt64)), .second, .val (.int (1 : Int32))] []))
  refine own_by (fun _ k => XS.iinc X12.here hx rfl (hb hby d5_32) rfl (l' := #[.val (.long q0), .second, .val (.ref a1), .val (.int (1 : Int32)), .val (.int (4 : Int32)), .val (.long (((own_sh q0 3).toUInt64 >>> ((8 : Int32) &&& 0x3f).toInt64.toUInt64).toInt64)), .second, .val (.int (0 : Int32))]) rfl k) ?_
  show own_Go p e below _ (T12.setTop (mkF m 35 #[.val (.long q0), .second, .val (.ref a1), .val (.int (1 : Int32)), .val (.int (4 : Int32)), .val (.long (((own_sh q0 3).toUInt64 >>> ((8 : Int32) &&& 0x3f).toInt64.toUInt64).toInt64)), .second, .val (.int (0 : Int32))] []))
  refine own_by (fun _ k => XS.goto X12.here hx rfl (pc0 := 35) (pc' := 11) rfl (hb hby d5_35) (by decide) (by decide) k) ?_
  show own_Go p e below _ (T12.setTop (mkF m 11 #[.val (.long q0), .second, .val (.ref a1), .val (.int (1 : Int32)), .val (.int (4 : Int32)), .val (.long (((own_sh q0 3).toUInt64 >>> ((8 : Int32) &&& 0x3f).toInt64.toUInt64).toInt64)), .second, .val (.int (0 : Int32))] []))
  show own_Go p e below _ (T12.setTop (mkF m 11 #[.val (.long q0), .second, .val (.ref a1), .val (.int (1 : Int32)), .val (.int (4 : Int32)), .val (.long (own_sh q0 4)), .second, .val (.int (0 : Int32))] []))
  have V13 : own_Arf Z h12 a1 k_a1 .byte (5 : Int32) (fun i => .int ((own_wr fn_a1 q0 4 4) i)) := V12
  refine own_by (fun _ k => XS.iload X12.here hx rfl (hb hby d5_11) rfl k) ?_
  show own_Go p e below _ (T12.setTop (mkF m 13 #[.val (.long q0), .second, .val (.ref a1), .val (.int (1 : Int32)), .val (.int (4 : Int32)), .val (.long (own_sh q0 4)), .second, .val (.int (0 : Int32))] [(.int (0 : Int32))]))
  refine own_by (fun _ k => XS.iloadN X12.here hx rfl (hb hby d5_13) rfl k) ?_
  show own_Go p e below _ (T12.setTop (mkF m 14 #[.val (.long q0), .second, .val (.ref a1), .val (.int (1 : Int32)), .val (.int (4 : Int32)), .val (.long (own_sh q0 4)), .second, .val (.int (0 : Int32))] [(.int (1 : Int32)), (.int (0 : Int32))]))
  refine own_by (fun _ k => XS.icmpYes X12.here hx rfl (pc0 := 14) (pc' := 38) rfl (hb hby d5_14) rfl (tlt (by decide : (0 : Int32) < (1 : Int32))).1 (by decide) (by decide) k) ?_
  show own_Go p e below _ (T12.setTop (mkF m 38 #[.val (.long q0), .second, .val (.ref a1), .val (.int (1 : Int32)), .val (.int (4 : Int32)), .val (.long (own_sh q0 4)), .second, .val (.int (0 : Int32))] []))
  exact own_ret0 X12 hx Bd.returns (hb hby d5_38) hlk e12 ⟨rfl, N12, K12, V13⟩ (by decide) (by decide)
theorem pn_wb5 : plainName "com/example/nested_keyspace/nestedkeyspace/TypedParts" = true := by first | (simp [plainName, overriddenIn]; done) | decide +kernel
theorem ef_wb5 (m : MethodId) (q0 : Int64) (a1 : Addr) : entryFrame m #[(.long q0), (.ref a1), (.int (1 : Int32)), (.int (5 : Int32))] 8 = mkF m 0 #[.val (.long q0), .second, .val (.ref a1), .val (.int (1 : Int32)), .val (.int (5 : Int32)), .unset, .unset, .unset] [] := by first | (simp [entryFrame, mkF, argsToLocals, Value.category]; done) | rfl
def Qwb5 (Z : State) (k_a1 : ClassId) (fn_a1 : Nat → Int32) (q0 : Int64) (a1 : Addr) (h0 : Heap) (n0 : Nat) (v : Option Value) (h : Heap) (L : List Loc) : Prop := v = none ∧ Fr n0 L ∧ Keep h0 h [a1] ∧ own_Arf Z h a1 k_a1 .byte (6 : Int32) (fun i => .int ((own_wr fn_a1 q0 5 5) i))
set_option maxRecDepth 65536 in
set_option maxHeartbeats 40000000 in
theorem rmwb5 (l : Launch) (Z : State) (A0 : Array Value) (hw : ∀ d ∈ tables_1, d.before A0 Z = true) (ws : List Jvm.Cond) (k_a1 : ClassId) (fn_a1 : Nat → Int32) (q0 : Int64) (a1 : Addr) (h0 : Heap) (n0 : Nat) (Z0 : n0 ≤ h0.size) (P_V_a1 : own_Arf Z h0 a1 k_a1 .byte (6 : Int32) (fun i => .int (fn_a1 i))) (g_a1 : n0 ≤ a1) :
    MetFree l (⟨"com/example/nested_keyspace/nestedkeyspace/TypedParts", "writeBigEndian", "(J[BII)V"⟩ : MethodName) (head1 (Jvm.Cond.code (⟨"com/example/nested_keyspace/nestedkeyspace/TypedParts", "writeBigEndian", "(J[BII)V"⟩ : MethodName) prog_20_method_14_code 8 none :: ws) ({ frames := 0, cells := 0, slots := 0, locals := 0 } : Room)) (fun a U => a = #[(.long q0), (.ref a1), (.int (1 : Int32)), (.int (5 : Int32))] ∧ Z.Warmed39 U.vm ∧ U.heap = h0) (fun _ _ _ _ _ => True) (fun _ U o U' => ∃ v L, o = .returned v ∧ Qwb5 Z k_a1 fn_a1 q0 a1 h0 n0 v U'.heap L ∧ FrameEnd U o U' L 0 0) := by
  refine MetFree.of_bodySF (plainFor_of_name pn_wb5) hisR ?_
  intro p e s m args below meth c s₁ Bd hml0 hP hK
  obtain ⟨rfl, hZ, hh⟩ := hP
  have hwd := fun i {d : Jvm.Cond} (h : tables_1[i]? = some d) => hw d (List.mem_of_getElem? h)
  have hx := Bd.exec
  have hby := Bd.bytes
  have hml : c.maxLocals = 8 := hml0
  have hlk : meth.locks = false := Bd.notSynchronized
  have hown : s.vm.findClass "com/example/nested_keyspace/nestedkeyspace/TypedParts" = some m.cls := findClass_of_methodNamed Bd.named
  have hnm := (name_of_methodNamed Bd.named Bd.method).1
  have X0 : Stand p l e ({ frames := 0, cells := 0, slots := 0, locals := 0 } : Room) s m #[(.long q0), (.ref a1), (.int (1 : Int32)), (.int (5 : Int32))] below meth c s₁ [] 0 0 := Stand.of_body Bd
  have e0 : s₁.heap = h0 := by rw [← hh, Bd.state]; rfl
  have N0 := Fr.nil n0
  show own_Go p e below (own_Fin s 0 0 (Qwb5 Z k_a1 fn_a1 q0 a1 h0 n0)) _
  refine own_by (fun t k => castTop (ef_wb5 m q0 a1) k) ?_
  show own_Go p e below _ (s₁.setTop (mkF m 0 #[.val (.long q0), .second, .val (.ref a1), .val (.int (1 : Int32)), .val (.int (5 : Int32)), .unset, .unset, .unset] []))
  refine own_by (fun _ k => XS.lloadN X0.here hx rfl (hb hby d5_0) rfl k) ?_
  show own_Go p e below _ (s₁.setTop (mkF m 1 #[.val (.long q0), .second, .val (.ref a1), .val (.int (1 : Int32)), .val (.int (5 : Int32)), .unset, .unset, .unset] [(.long q0)]))
  refine own_by (fun _ k => XS.lstore X0.here hx rfl (hb hby d5_1) rfl (l' := #[.val (.long q0), .second, .val (.ref a1), .val (.int (1 : Int32)), .val (.int (5 : Int32)), .val (.long q0), .second, .unset]) rfl k) ?_
  show own_Go p e below _ (s₁.setTop (mkF m 3 #[.val (.long q0), .second, .val (.ref a1), .val (.int (1 : Int32)), .val (.int (5 : Int32)), .val (.long q0), .second, .unset] []))
  refine own_by (fun _ k => XS.iloadN X0.here hx rfl (hb hby d5_3) rfl k) ?_
  show own_Go p e below _ (s₁.setTop (mkF m 4 #[.val (.long q0), .second, .val (.ref a1), .val (.int (1 : Int32)), .val (.int (5 : Int32)), .val (.long q0), .second, .unset] [(.int (1 : Int32))]))
  refine own_by (fun _ k => XS.iload X0.here hx rfl (hb hby d5_4) rfl k) ?_
  show own_Go p e below _ (s₁.setTop (mkF m 6 #[.val (.long q0), .second, .val (.ref a1), .val (.int (1 : Int32)), .val (.int (5 : Int32)), .val (.long q0), .second, .unset] [(.int (5 : Int32)), (.int (1 : Int32))]))
  refine own_by (fun _ k => XS.iadd X0.here hx rfl (hb hby d5_6) rfl k) ?_
  show own_Go p e below _ (s₁.setTop (mkF m 7 #[.val (.long q0), .second, .val (.ref a1), .val (.int (1 : Int32)), .val (.int (5 : Int32)), .val (.long q0), .second, .unset] [(.int (6 : Int32))]))
  refine own_by (fun _ k => XS.iconst X0.here hx rfl (hb hby d5_7) k) ?_
  show own_Go p e below _ (s₁.setTop (mkF m 8 #[.val (.long q0), .second, .val (.ref a1), .val (.int (1 : Int32)), .val (.int (5 : Int32)), .val (.long q0), .second, .unset] [(.int (1 : Int32)), (.int (6 : Int32))]))
  refine own_by (fun _ k => XS.isub X0.here hx rfl (hb hby d5_8) rfl k) ?_
  show own_Go p e below _ (s₁.setTop (mkF m 9 #[.val (.long q0), .second, .val (.ref a1), .val (.int (1 : Int32)), .val (.int (5 : Int32)), .val (.long q0), .second, .unset] [(.int (5 : Int32))]))
  refine own_by (fun _ k => XS.istore X0.here hx rfl (hb hby d5_9) rfl (l' := #[.val (.long q0), .second, .val (.ref a1), .val (.int (1 : Int32)), .val (.int (5 : Int32)), .val (.long q0), .second, .val (.int (5 : Int32))]) rfl k) ?_
  show own_Go p e below _ (s₁.setTop (mkF m 11 #[.val (.long q0), .second, .val (.ref a1), .val (.int (1 : Int32)), .val (.int (5 : Int32)), .val (.long q0), .second, .val (.int (5 : Int32))] []))
  show own_Go p e below _ (s₁.setTop (mkF m 11 #[.val (.long q0), .second, .val (.ref a1), .val (.int (1 : Int32)), .val (.int (5 : Int32)), .val (.long (own_sh q0 0)), .second, .val (.int (5 : Int32))] []))
  show own_Go p e below _ (s₁.setTop (mkF m 11 #[.val (.long q0), .second, .val (.ref a1), .val (.int (1 : Int32)), .val (.int (5 : Int32)), .val (.long (own_sh q0 0)), .second, .val (.int (5 : Int32))] []))
  have V1 : own_Arf Z h0 a1 k_a1 .byte (6 : Int32) (fun i => .int ((own_wr fn_a1 q0 5 0) i)) := P_V_a1
  refine own_by (fun _ k => XS.iload X0.here hx rfl (hb hby d5_11) rfl k) ?_
  show own_Go p e below _ (s₁.setTop (mkF m 13 #[.val (.long q0), .second, .val (.ref a1), .val (.int (1 : Int32)), .val (.int (5 : Int32)), .val (.long (own_sh q0 0)), .second, .val (.int (5 : Int32))] [(.int (5 : Int32))]))
  refine own_by (fun _ k => XS.iloadN X0.here hx rfl (hb hby d5_13) rfl k) ?_
  show own_Go p e below _ (s₁.setTop (mkF m 14 #[.val (.long q0), .second, .val (.ref a1), .val (.int (1 : Int32)), .val (.int (5 : Int32)), .val (.long (own_sh q0 0)), .second, .val (.int (5 : Int32))] [(.int (1 : Int32)), (.int (5 : Int32))]))
  refine own_by (fun _ k => XS.icmpNo X0.here hx rfl (hb hby d5_14) rfl (flt (by decide : ¬ ((5 : Int32) < (1 : Int32)))).1 k) ?_
  show own_Go p e below _ (s₁.setTop (mkF m 17 #[.val (.long q0), .second, .val (.ref a1), .val (.int (1 : Int32)), .val (.int (5 : Int32)), .val (.long (own_sh q0 0)), .second, .val (.int (5 : Int32))] []))
  refine own_by (fun _ k => XS.aloadN X0.here hx rfl (hb hby d5_17) rfl rfl k) ?_
  show own_Go p e below _ (s₁.setTop (mkF m 18 #[.val (.long q0), .second, .val (.ref a1), .val (.int (1 : Int32)), .val (.int (5 : Int32)), .val (.long (own_sh q0 0)), .second, .val (.int (5 : Int32))] [(.ref a1)]))
  refine own_by (fun _ k => XS.iload X0.here hx rfl (hb hby d5_18) rfl k) ?_
  show own_Go p e below _ (s₁.setTop (mkF m 20 #[.val (.long q0), .second, .val (.ref a1), .val (.int (1 : Int32)), .val (.int (5 : Int32)), .val (.long (own_sh q0 0)), .second, .val (.int (5 : Int32))] [(.int (5 : Int32)), (.ref a1)]))
  refine own_by (fun _ k => XS.lload X0.here hx rfl (hb hby d5_20) rfl k) ?_
  show own_Go p e below _ (s₁.setTop (mkF m 22 #[.val (.long q0), .second, .val (.ref a1), .val (.int (1 : Int32)), .val (.int (5 : Int32)), .val (.long (own_sh q0 0)), .second, .val (.int (5 : Int32))] [(.long (own_sh q0 0)), (.int (5 : Int32)), (.ref a1)]))
  refine own_by (fun _ k => XS.l2i X0.here hx rfl (hb hby d5_22) rfl k) ?_
  show own_Go p e below _ (s₁.setTop (mkF m 23 #[.val (.long q0), .second, .val (.ref a1), .val (.int (1 : Int32)), .val (.int (5 : Int32)), .val (.long (own_sh q0 0)), .second, .val (.int (5 : Int32))] [(.int ((own_sh q0 0).toInt32)), (.int (5 : Int32)), (.ref a1)]))
  refine own_by (fun _ k => XS.i2b X0.here hx rfl (hb hby d5_23) rfl k) ?_
  show own_Go p e below _ (s₁.setTop (mkF m 24 #[.val (.long q0), .second, .val (.ref a1), .val (.int (1 : Int32)), .val (.int (5 : Int32)), .val (.long (own_sh q0 0)), .second, .val (.int (5 : Int32))] [(.int (((own_sh q0 0).toInt32).toInt8.toInt32)), (.int (5 : Int32)), (.ref a1)]))
  obtain ⟨cl2, Ar2, qq2, S2, M2, H2, G2⟩ := id V1
  have hin2 : ¬ ((5 : Int32) < 0 ∨ cl2.slots.size ≤ ((5 : Int32)).toNatClampNeg) := inb_of S2 ⟨by decide, by decide⟩
  obtain ⟨T3, h3, X3, e3, W3, st3⟩ := stB X0 hx hZ e0 Ar2 (j := (5 : Int32)) hin2 (g := (mkF m 24 #[.val (.long q0), .second, .val (.ref a1), .val (.int (1 : Int32)), .val (.int (5 : Int32)), .val (.long (own_sh q0 0)), .second, .val (.int (5 : Int32))] [(.int (((own_sh q0 0).toInt32).toInt8.toInt32)), (.int (5 : Int32)), (.ref a1)])) rfl rfl (hb hby d5_24)
  have V3 : own_Arf Z h3 a1 k_a1 .byte (6 : Int32) (fun i => .int ((own_upd (own_wr fn_a1 q0 5 0) 5 (nar .byte (((own_sh q0 0).toInt32).toInt8.toInt32))) i)) := own_arfSetI Ar2 qq2 S2 M2 H2 G2 (fits_nar_byte _) W3
  have K3 : Keep h0 h3 [a1] := (Keep.refl h0 [a1]).wr W3 (Or.inl (List.mem_of_getElem? (i := 0) rfl))
  have Z3 : n0 ≤ h3.size := Nat.le_trans Z0 (Keep.of_wr W3).1
  have N3 := Fr.snoc X3 N0 g_a1
  refine own_by st3 ?_
  show own_Go p e below _ (T3.setTop (mkF m 25 #[.val (.long q0), .second, .val (.ref a1), .val (.int (1 : Int32)), .val (.int (5 : Int32)), .val (.long (own_sh q0 0)), .second, .val (.int (5 : Int32))] []))
  refine own_by (fun _ k => XS.lload X3.here hx rfl (hb hby d5_25) rfl k) ?_
  show own_Go p e below _ (T3.setTop (mkF m 27 #[.val (.long q0), .second, .val (.ref a1), .val (.int (1 : Int32)), .val (.int (5 : Int32)), .val (.long (own_sh q0 0)), .second, .val (.int (5 : Int32))] [(.long (own_sh q0 0))]))
  refine own_by (fun _ k => XS.bipush X3.here hx rfl (hb hby d5_27) k) ?_
  show own_Go p e below _ (T3.setTop (mkF m 29 #[.val (.long q0), .second, .val (.ref a1), .val (.int (1 : Int32)), .val (.int (5 : Int32)), .val (.long (own_sh q0 0)), .second, .val (.int (5 : Int32))] [(.int (8 : Int32)), (.long (own_sh q0 0))]))
  refine own_by (fun _ k => XS.lushr X3.here hx rfl (hb hby d5_29) rfl k) ?_
  show own_Go p e below _ (T3.setTop (mkF m 30 #[.val (.long q0), .second, .val (.ref a1), .val (.int (1 : Int32)), .val (.int (5 : Int32)), .val (.long (own_sh q0 0)), .second, .val (.int (5 : Int32))] [(.long (((own_sh q0 0).toUInt64 >>> ((8 : Int32) &&& 0x3f).toInt64.toUInt64).toInt64))]))
  refine own_by (fun _ k => XS.lstore X3.here hx rfl (hb hby d5_30) rfl (l' := #[.val (.long q0), .second, .val (.ref a1), .val (.int (1 : Int32)), .val (.int (5 : Int32)), .val (.long (((own_sh q0 0).toUInt64 >>> ((8 : Int32) &&& 0x3f).toInt64.toUInt64).toInt64)), .second, .val (.int (5 : Int32))]) rfl k) ?_
  show own_Go p e below _ (T3.setTop (mkF m 32 #[.val (.long q0), .second, .val (.ref a1), .val (.int (1 : Int32)), .val (.int (5 : Int32)), .val (.long (((own_sh q0 0).toUInt64 >>> ((8 : Int32) &&& 0x3f).toInt64.toUInt64).toInt64)), .second, .val (.int (5 : Int32))] []))
  refine own_by (fun _ k => XS.iinc X3.here hx rfl (hb hby d5_32) rfl (l' := #[.val (.long q0), .second, .val (.ref a1), .val (.int (1 : Int32)), .val (.int (5 : Int32)), .val (.long (((own_sh q0 0).toUInt64 >>> ((8 : Int32) &&& 0x3f).toInt64.toUInt64).toInt64)), .second, .val (.int (4 : Int32))]) rfl k) ?_
  show own_Go p e below _ (T3.setTop (mkF m 35 #[.val (.long q0), .second, .val (.ref a1), .val (.int (1 : Int32)), .val (.int (5 : Int32)), .val (.long (((own_sh q0 0).toUInt64 >>> ((8 : Int32) &&& 0x3f).toInt64.toUInt64).toInt64)), .second, .val (.int (4 : Int32))] []))
  refine own_by (fun _ k => XS.goto X3.here hx rfl (pc0 := 35) (pc' := 11) rfl (hb hby d5_35) (by decide) (by decide) k) ?_
  show own_Go p e below _ (T3.setTop (mkF m 11 #[.val (.long q0), .second, .val (.ref a1), .val (.int (1 : Int32)), .val (.int (5 : Int32)), .val (.long (((own_sh q0 0).toUInt64 >>> ((8 : Int32) &&& 0x3f).toInt64.toUInt64).toInt64)), .second, .val (.int (4 : Int32))] []))
  show own_Go p e below _ (T3.setTop (mkF m 11 #[.val (.long q0), .second, .val (.ref a1), .val (.int (1 : Int32)), .val (.int (5 : Int32)), .val (.long (own_sh q0 1)), .second, .val (.int (4 : Int32))] []))
  have V4 : own_Arf Z h3 a1 k_a1 .byte (6 : Int32) (fun i => .int ((own_wr fn_a1 q0 5 1) i)) := V3
  refine own_by (fun _ k => XS.iload X3.here hx rfl (hb hby d5_11) rfl k) ?_
  show own_Go p e below _ (T3.setTop (mkF m 13 #[.val (.long q0), .second, .val (.ref a1), .val (.int (1 : Int32)), .val (.int (5 : Int32)), .val (.long (own_sh q0 1)), .second, .val (.int (4 : Int32))] [(.int (4 : Int32))]))
  refine own_by (fun _ k => XS.iloadN X3.here hx rfl (hb hby d5_13) rfl k) ?_
  show own_Go p e below _ (T3.setTop (mkF m 14 #[.val (.long q0), .second, .val (.ref a1), .val (.int (1 : Int32)), .val (.int (5 : Int32)), .val (.long (own_sh q0 1)), .second, .val (.int (4 : Int32))] [(.int (1 : Int32)), (.int (4 : Int32))]))
  refine own_by (fun _ k => XS.icmpNo X3.here hx rfl (hb hby d5_14) rfl (flt (by decide : ¬ ((4 : Int32) < (1 : Int32)))).1 k) ?_
  show own_Go p e below _ (T3.setTop (mkF m 17 #[.val (.long q0), .second, .val (.ref a1), .val (.int (1 : Int32)), .val (.int (5 : Int32)), .val (.long (own_sh q0 1)), .second, .val (.int (4 : Int32))] []))
  refine own_by (fun _ k => XS.aloadN X3.here hx rfl (hb hby d5_17) rfl rfl k) ?_
  show own_Go p e below _ (T3.setTop (mkF m 18 #[.val (.long q0), .second, .val (.ref a1), .val (.int (1 : Int32)), .val (.int (5 : Int32)), .val (.long (own_sh q0 1)), .second, .val (.int (4 : Int32))] [(.ref a1)]))
  refine own_by (fun _ k => XS.iload X3.here hx rfl (hb hby d5_18) rfl k) ?_
  show own_Go p e below _ (T3.setTop (mkF m 20 #[.val (.long q0), .second, .val (.ref a1), .val (.int (1 : Int32)), .val (.int (5 : Int32)), .val (.long (own_sh q0 1)), .second, .val (.int (4 : Int32))] [(.int (4 : Int32)), (.ref a1)]))
  refine own_by (fun _ k => XS.lload X3.here hx rfl (hb hby d5_20) rfl k) ?_
  show own_Go p e below _ (T3.setTop (mkF m 22 #[.val (.long q0), .second, .val (.ref a1), .val (.int (1 : Int32)), .val (.int (5 : Int32)), .val (.long (own_sh q0 1)), .second, .val (.int (4 : Int32))] [(.long (own_sh q0 1)), (.int (4 : Int32)), (.ref a1)]))
  refine own_by (fun _ k => XS.l2i X3.here hx rfl (hb hby d5_22) rfl k) ?_
  show own_Go p e below _ (T3.setTop (mkF m 23 #[.val (.long q0), .second, .val (.ref a1), .val (.int (1 : Int32)), .val (.int (5 : Int32)), .val (.long (own_sh q0 1)), .second, .val (.int (4 : Int32))] [(.int ((own_sh q0 1).toInt32)), (.int (4 : Int32)), (.ref a1)]))
  refine own_by (fun _ k => XS.i2b X3.here hx rfl (hb hby d5_23) rfl k) ?_
  show own_Go p e below _ (T3.setTop (mkF m 24 #[.val (.long q0), .second, .val (.ref a1), .val (.int (1 : Int32)), .val (.int (5 : Int32)), .val (.long (own_sh q0 1)), .second, .val (.int (4 : Int32))] [(.int (((own_sh q0 1).toInt32).toInt8.toInt32)), (.int (4 : Int32)), (.ref a1)]))
  obtain ⟨cl5, Ar5, qq5, S5, M5, H5, G5⟩ := id V4
  have hin5 : ¬ ((4 : Int32) < 0 ∨ cl5.slots.size ≤ ((4 : Int32)).toNatClampNeg) := inb_of S5 ⟨by decide, by decide⟩
  obtain ⟨T6, h6, X6, e6, W6, st6⟩ := stB X3 hx hZ e3 Ar5 (j := (4 : Int32)) hin5 (g := (mkF m 24 #[.val (.long q0), .second, .val (.ref a1), .val (.int (1 : Int32)), .val (.int (5 : Int32)), .val (.long (own_sh q0 1)), .second, .val (.int (4 : Int32))] [(.int (((own_sh q0 1).toInt32).toInt8.toInt32)), (.int (4 : Int32)), (.ref a1)])) rfl rfl (hb hby d5_24)
  have V6 : own_Arf Z h6 a1 k_a1 .byte (6 : Int32) (fun i => .int ((own_upd (own_wr fn_a1 q0 5 1) 4 (nar .byte (((own_sh q0 1).toInt32).toInt8.toInt32))) i)) := own_arfSetI Ar5 qq5 S5 M5 H5 G5 (fits_nar_byte _) W6
  have K6 : Keep h0 h6 [a1] := K3.wr W6 (Or.inl (List.mem_of_getElem? (i := 0) rfl))
  have Z6 : n0 ≤ h6.size := Nat.le_trans Z3 (Keep.of_wr W6).1
  have N6 := Fr.snoc X6 N3 g_a1
  refine own_by st6 ?_
  show own_Go p e below _ (T6.setTop (mkF m 25 #[.val (.long q0), .second, .val (.ref a1), .val (.int (1 : Int32)), .val (.int (5 : Int32)), .val (.long (own_sh q0 1)), .second, .val (.int (4 : Int32))] []))
  refine own_by (fun _ k => XS.lload X6.here hx rfl (hb hby d5_25) rfl k) ?_
  show own_Go p e below _ (T6.setTop (mkF m 27 #[.val (.long q0), .second, .val (.ref a1), .val (.int (1 : Int32)), .val (.int (5 : Int32)), .val (.long (own_sh q0 1)), .second, .val (.int (4 : Int32))] [(.long (own_sh q0 1))]))
  refine own_by (fun _ k => XS.bipush X6.here hx rfl (hb hby d5_27) k) ?_
  show own_Go p e below _ (T6.setTop (mkF m 29 #[.val (.long q0), .second, .val (.ref a1), .val (.int (1 : Int32)), .val (.int (5 : Int32)), .val (.long (own_sh q0 1)), .second, .val (.int (4 : Int32))] [(.int (8 : Int32)), (.long (own_sh q0 1))]))
  refine own_by (fun _ k => XS.lushr X6.here hx rfl (hb hby d5_29) rfl k) ?_
  show own_Go p e below _ (T6.setTop (mkF m 30 #[.val (.long q0), .second, .val (.ref a1), .val (.int (1 : Int32)), .val (.int (5 : Int32)), .val (.long (own_sh q0 1)), .second, .val (.int (4 : Int32))] [(.long (((own_sh q0 1).toUInt64 >>> ((8 : Int32) &&& 0x3f).toInt64.toUInt64).toInt64))]))
  refine own_by (fun _ k => XS.lstore X6.here hx rfl (hb hby d5_30) rfl (l' := #[.val (.long q0), .second, .val (.ref a1), .val (.int (1 : Int32)), .val (.int (5 : Int32)), .val (.long (((own_sh q0 1).toUInt64 >>> ((8 : Int32) &&& 0x3f).toInt64.toUInt64).toInt64)), .second, .val (.int (4 : Int32))]) rfl k) ?_
  show own_Go p e below _ (T6.setTop (mkF m 32 #[.val (.long q0), .second, .val (.ref a1), .val (.int (1 : Int32)), .val (.int (5 : Int32)), .val (.long (((own_sh q0 1).toUInt64 >>> ((8 : Int32) &&& 0x3f).toInt64.toUInt64).toInt64)), .second, .val (.int (4 : Int32))] []))
  refine own_by (fun _ k => XS.iinc X6.here hx rfl (hb hby d5_32) rfl (l' := #[.val (.long q0), .second, .val (.ref a1), .val (.int (1 : Int32)), .val (.int (5 : Int32)), .val (.long (((own_sh q0 1).toUInt64 >>> ((8 : Int32) &&& 0x3f).toInt64.toUInt64).toInt64)), .second, .val (.int (3 : Int32))]) rfl k) ?_
  show own_Go p e below _ (T6.setTop (mkF m 35 #[.val (.long q0), .second, .val (.ref a1), .val (.int (1 : Int32)), .val (.int (5 : Int32)), .val (.long (((own_sh q0 1).toUInt64 >>> ((8 : Int32) &&& 0x3f).toInt64.toUInt64).toInt64)), .second, .val (.int (3 : Int32))] []))
  refine own_by (fun _ k => XS.goto X6.here hx rfl (pc0 := 35) (pc' := 11) rfl (hb hby d5_35) (by decide) (by decide) k) ?_
  show own_Go p e below _ (T6.setTop (mkF m 11 #[.val (.long q0), .second, .val (.ref a1), .val (.int (1 : Int32)), .val (.int (5 : Int32)), .val (.long (((own_sh q0 1).toUInt64 >>> ((8 : Int32) &&& 0x3f).toInt64.toUInt64).toInt64)), .second, .val (.int (3 : Int32))] []))
  show own_Go p e below _ (T6.setTop (mkF m 11 #[.val (.long q0), .second, .val (.ref a1), .val (.int (1 : Int32)), .val (.int (5 : Int32)), .val (.long (own_sh q0 2)), .second, .val (.int (3 : Int32))] []))
  have V7 : own_Arf Z h6 a1 k_a1 .byte (6 : Int32) (fun i => .int ((own_wr fn_a1 q0 5 2) i)) := V6
  refine own_by (fun _ k => XS.iload X6.here hx rfl (hb hby d5_11) rfl k) ?_
  show own_Go p e below _ (T6.setTop (mkF m 13 #[.val (.long q0), .second, .val (.ref a1), .val (.int (1 : Int32)), .val (.int (5 : Int32)), .val (.long (own_sh q0 2)), .second, .val (.int (3 : Int32))] [(.int (3 : Int32))]))
  refine own_by (fun _ k => XS.iloadN X6.here hx rfl (hb hby d5_13) rfl k) ?_
  show own_Go p e below _ (T6.setTop (mkF m 14 #[.val (.long q0), .second, .val (.ref a1), .val (.int (1 : Int32)), .val (.int (5 : Int32)), .val (.long (own_sh q0 2)), .second, .val (.int (3 : Int32))] [(.int (1 : Int32)), (.int (3 : Int32))]))
  refine own_by (fun _ k => XS.icmpNo X6.here hx rfl (hb hby d5_14) rfl (flt (by decide : ¬ ((3 : Int32) < (1 : Int32)))).1 k) ?_
  show own_Go p e below _ (T6.setTop (mkF m 17 #[.val (.long q0), .second, .val (.ref a1), .val (.int (1 : Int32)), .val (.int (5 : Int32)), .val (.long (own_sh q0 2)), .second, .val (.int (3 : Int32))] []))
  refine own_by (fun _ k => XS.aloadN X6.here hx rfl (hb hby d5_17) rfl rfl k) ?_
  show own_Go p e below _ (T6.setTop (mkF m 18 #[.val (.long q0), .second, .val (.ref a1), .val (.int (1 : Int32)), .val (.int (5 : Int32)), .val (.long (own_sh q0 2)), .second, .val (.int (3 : Int32))] [(.ref a1)]))
  refine own_by (fun _ k => XS.iload X6.here hx rfl (hb hby d5_18) rfl k) ?_
  show own_Go p e below _ (T6.setTop (mkF m 20 #[.val (.long q0), .second, .val (.ref a1), .val (.int (1 : Int32)), .val (.int (5 : Int32)), .val (.long (own_sh q0 2)), .second, .val (.int (3 : Int32))] [(.int (3 : Int32)), (.ref a1)]))
  refine own_by (fun _ k => XS.lload X6.here hx rfl (hb hby d5_20) rfl k) ?_
  show own_Go p e below _ (T6.setTop (mkF m 22 #[.val (.long q0), .second, .val (.ref a1), .val (.int (1 : Int32)), .val (.int (5 : Int32)), .val (.long (own_sh q0 2)), .second, .val (.int (3 : Int32))] [(.long (own_sh q0 2)), (.int (3 : Int32)), (.ref a1)]))
  refine own_by (fun _ k => XS.l2i X6.here hx rfl (hb hby d5_22) rfl k) ?_
  show own_Go p e below _ (T6.setTop (mkF m 23 #[.val (.long q0), .second, .val (.ref a1), .val (.int (1 : Int32)), .val (.int (5 : Int32)), .val (.long (own_sh q0 2)), .second, .val (.int (3 : Int32))] [(.int ((own_sh q0 2).toInt32)), (.int (3 : Int32)), (.ref a1)]))
  refine own_by (fun _ k => XS.i2b X6.here hx rfl (hb hby d5_23) rfl k) ?_
  show own_Go p e below _ (T6.setTop (mkF m 24 #[.val (.long q0), .second, .val (.ref a1), .val (.int (1 : Int32)), .val (.int (5 : Int32)), .val (.long (own_sh q0 2)), .second, .val (.int (3 : Int32))] [(.int (((own_sh q0 2).toInt32).toInt8.toInt32)), (.int (3 : Int32)), (.ref a1)]))
  obtain ⟨cl8, Ar8, qq8, S8, M8, H8, G8⟩ := id V7
  have hin8 : ¬ ((3 : Int32) < 0 ∨ cl8.slots.size ≤ ((3 : Int32)).toNatClampNeg) := inb_of S8 ⟨by decide, by decide⟩
  obtain ⟨T9, h9, X9, e9, W9, st9⟩ := stB X6 hx hZ e6 Ar8 (j := (3 : Int32)) hin8 (g := (mkF m 24 #[.val (.long q0), .second, .val (.ref a1), .val (.int (1 : Int32)), .val (.int (5 : Int32)), .val (.long (own_sh q0 2)), .second, .val (.int (3 : Int32))] [(.int (((own_sh q0 2).toInt32).toInt8.toInt32)), (.int (3 : Int32)), (.ref a1)])) rfl rfl (hb hby d5_24)
  have V9 : own_Arf Z h9 a1 k_a1 .byte (6 : Int32) (fun i => .int ((own_upd (own_wr fn_a1 q0 5 2) 3 (nar .byte (((own_sh q0 2).toInt32).toInt8.toInt32))) i)) := own_arfSetI Ar8 qq8 S8 M8 H8 G8 (fits_nar_byte _) W9
  have K9 : Keep h0 h9 [a1] := K6.wr W9 (Or.inl (List.mem_of_getElem? (i := 0) rfl))
  have Z9 : n0 ≤ h9.size := Nat.le_trans Z6 (Keep.of_wr W9).1
  have N9 := Fr.snoc X9 N6 g_a1
  refine own_by st9 ?_
  show own_Go p e below _ (T9.setTop (mkF m 25 #[.val (.long q0), .second, .val (.ref a1), .val (.int (1 : Int32)), .val (.int (5 : Int32)), .val (.long (own_sh q0 2)), .second, .val (.int (3 : Int32))] []))
  refine own_by (fun _ k => XS.lload X9.here hx rfl (hb hby d5_25) rfl k) ?_
  show own_Go p e below _ (T9.setTop (mkF m 27 #[.val (.long q0), .second, .val (.ref a1), .val (.int (1 : Int32)), .val (.int (5 : Int32)), .val (.long (own_sh q0 2)), .second, .val (.int (3 : Int32))] [(.long (own_sh q0 2))]))
  refine own_by (fun _ k => XS.bipush X9.here hx rfl (hb hby d5_27) k) ?_
  show own_Go p e below _ (T9.setTop (mkF m 29 #[.val (.long q0), .second, .val (.ref a1), .val (.int (1 : Int32)), .val (.int (5 : Int32)), .val (.long (own_sh q0 2)), .second, .val (.int (3 : Int32))] [(.int (8 : Int32)), (.long (own_sh q0 2))]))
  refine own_by (fun _ k => XS.lushr X9.here hx rfl (hb hby d5_29) rfl k) ?_
  show own_Go p e below _ (T9.setTop (mkF m 30 #[.val (.long q0), .second, .val (.ref a1), .val (.int (1 : Int32)), .val (.int (5 : Int32)), .val (.long (own_sh q0 2)), .second, .val (.int (3 : Int32))] [(.long (((own_sh q0 2).toUInt64 >>> ((8 : Int32) &&& 0x3f).toInt64.toUInt64).toInt64))]))
  refine own_by (fun _ k => XS.lstore X9.here hx rfl (hb hby d5_30) rfl (l' := #[.val (.long q0), .second, .val (.ref a1), .val (.int (1 : Int32)), .val (.int (5 : Int32)), .val (.long (((own_sh q0 2).toUInt64 >>> ((8 : Int32) &&& 0x3f).toInt64.toUInt64).toInt64)), .second, .val (.int (3 : Int32))]) rfl k) ?_
  show own_Go p e below _ (T9.setTop (mkF m 32 #[.val (.long q0), .second, .val (.ref a1), .val (.int (1 : Int32)), .val (.int (5 : Int32)), .val (.long (((own_sh q0 2).toUInt64 >>> ((8 : Int32) &&& 0x3f).toInt64.toUInt64).toInt64)), .second, .val (.int (3 : Int32))] []))
  refine own_by (fun _ k => XS.iinc X9.here hx rfl (hb hby d5_32) rfl (l' := #[.val (.long q0), .second, .val (.ref a1), .val (.int (1 : Int32)), .val (.int (5 : Int32)), .val (.long (((own_sh q0 2).toUInt64 >>> ((8 : Int32) &&& 0x3f).toInt64.toUInt64).toInt64)), .second, .val (.int (2 : Int32))]) rfl k) ?_
  show own_Go p e below _ (T9.setTop (mkF m 35 #[.val (.long q0), .second, .val (.ref a1), .val (.int (1 : Int32)), .val (.int (5 : Int32)), .val (.long (((own_sh q0 2).toUInt64 >>> ((8 : Int32) &&& 0x3f).toInt64.toUInt64).toInt64)), .second, .val (.int (2 : Int32))] []))
  refine own_by (fun _ k => XS.goto X9.here hx rfl (pc0 := 35) (pc' := 11) rfl (hb hby d5_35) (by decide) (by decide) k) ?_
  show own_Go p e below _ (T9.setTop (mkF m 11 #[.val (.long q0), .second, .val (.ref a1), .val (.int (1 : Int32)), .val (.int (5 : Int32)), .val (.long (((own_sh q0 2).toUInt64 >>> ((8 : Int32) &&& 0x3f).toInt64.toUInt64).toInt64)), .second, .val (.int (2 : Int32))] []))
  show own_Go p e below _ (T9.setTop (mkF m 11 #[.val (.long q0), .second, .val (.ref a1), .val (.int (1 : Int32)), .val (.int (5 : Int32)), .val (.long (own_sh q0 3)), .second, .val (.int (2 : Int32))] []))
  have V10 : own_Arf Z h9 a1 k_a1 .byte (6 : Int32) (fun i => .int ((own_wr fn_a1 q0 5 3) i)) := V9
  refine own_by (fun _ k => XS.iload X9.here hx rfl (hb hby d5_11) rfl k) ?_
  show own_Go p e below _ (T9.setTop (mkF m 13 #[.val (.long q0), .second, .val (.ref a1), .val (.int (1 : Int32)), .val (.int (5 : Int32)), .val (.long (own_sh q0 3)), .second, .val (.int (2 : Int32))] [(.int (2 : Int32))]))
  refine own_by (fun _ k => XS.iloadN X9.here hx rfl (hb hby d5_13) rfl k) ?_
  show own_Go p e below _ (T9.setTop (mkF m 14 #[.val (.long q0), .second, .val (.ref a1), .val (.int (1 : Int32)), .val (.int (5 : Int32)), .val (.long (own_sh q0 3)), .second, .val (.int (2 : Int32))] [(.int (1 : Int32)), (.int (2 : Int32))]))
  refine own_by (fun _ k => XS.icmpNo X9.here hx rfl (hb hby d5_14) rfl (flt (by decide : ¬ ((2 : Int32) < (1 : Int32)))).1 k) ?_
  show own_Go p e below _ (T9.setTop (mkF m 17 #[.val (.long q0), .second, .val (.ref a1), .val (.int (1 : Int32)), .val (.int (5 : Int32)), .val (.long (own_sh q0 3)), .second, .val (.int (2 : Int32))] []))
  refine own_by (fun _ k => XS.aloadN X9.here hx rfl (hb hby d5_17) rfl rfl k) ?_
  show own_Go p e below _ (T9.setTop (mkF m 18 #[.val (.long q0), .second, .val (.ref a1), .val (.int (1 : Int32)), .val (.int (5 : Int32)), .val (.long (own_sh q0 3)), .second, .val (.int (2 : Int32))] [(.ref a1)]))
  refine own_by (fun _ k => XS.iload X9.here hx rfl (hb hby d5_18) rfl k) ?_
  show own_Go p e below _ (T9.setTop (mkF m 20 #[.val (.long q0), .second, .val (.ref a1), .val (.int (1 : Int32)), .val (.int (5 : Int32)), .val (.long (own_sh q0 3)), .second, .val (.int (2 : Int32))] [(.int (2 : Int32)), (.ref a1)]))
  refine own_by (fun _ k => XS.lload X9.here hx rfl (hb hby d5_20) rfl k) ?_
  show own_Go p e below _ (T9.setTop (mkF m 22 #[.val (.long q0), .second, .val (.ref a1), .val (.int (1 : Int32)), .val (.int (5 : Int32)), .val (.long (own_sh q0 3)), .second, .val (.int (2 : Int32))] [(.long (own_sh q0 3)), (.int (2 : Int32)), (.ref a1)]))
  refine own_by (fun _ k => XS.l2i X9.here hx rfl (hb hby d5_22) rfl k) ?_
  show own_Go p e below _ (T9.setTop (mkF m 23 #[.val (.long q0), .second, .val (.ref a1), .val (.int (1 : Int32)), .val (.int (5 : Int32)), .val (.long (own_sh q0 3)), .second, .val (.int (2 : Int32))] [(.int ((own_sh q0 3).toInt32)), (.int (2 : Int32)), (.ref a1)]))
  refine own_by (fun _ k => XS.i2b X9.here hx rfl (hb hby d5_23) rfl k) ?_
  show own_Go p e below _ (T9.setTop (mkF m 24 #[.val (.long q0), .second, .val (.ref a1), .val (.int (1 : Int32)), .val (.int (5 : Int32)), .val (.long (own_sh q0 3)), .second, .val (.int (2 : Int32))] [(.int (((own_sh q0 3).toInt32).toInt8.toInt32)), (.int (2 : Int32)), (.ref a1)]))
  obtain ⟨cl11, Ar11, qq11, S11, M11, H11, G11⟩ := id V10
  have hin11 : ¬ ((2 : Int32) < 0 ∨ cl11.slots.size ≤ ((2 : Int32)).toNatClampNeg) := inb_of S11 ⟨by decide, by decide⟩
  obtain ⟨T12, h12, X12, e12, W12, st12⟩ := stB X9 hx hZ e9 Ar11 (j := (2 : Int32)) hin11 (g := (mkF m 24 #[.val (.long q0), .second, .val (.ref a1), .val (.int (1 : Int32)), .val (.int (5 : Int32)), .val (.long (own_sh q0 3)), .second, .val (.int (2 : Int32))] [(.int (((own_sh q0 3).toInt32).toInt8.toInt32)), (.int (2 : Int32)), (.ref a1)])) rfl rfl (hb hby d5_24)
  have V12 : own_Arf Z h12 a1 k_a1 .byte (6 : Int32) (fun i => .int ((own_upd (own_wr fn_a1 q0 5 3) 2 (nar .byte (((own_sh q0 3).toInt32).toInt8.toInt32))) i)) := own_arfSetI Ar11 qq11 S11 M11 H11 G11 (fits_nar_byte _) W12
  have K12 : Keep h0 h12 [a1] := K9.wr W12 (Or.inl (List.mem_of_getElem? (i := 0) rfl))
  have Z12 : n0 ≤ h12.size := Nat.le_trans Z9 (Keep.of_wr W12).1
  have N12 := Fr.snoc X12 N9 g_a1
  refine own_by st12 ?_
  show own_Go p e below _ (T12.setTop (mkF m 25 #[.val (.long q0), .second, .val (.ref a1), .val (.int (1 : Int32)), .val (.int (5 : Int32)), .val (.long (own_sh q0 3)), .second, .val (.int (2 : Int32))] []))
  refine own_by (fun _ k => XS.lload X12.here hx rfl (hb hby d5_25) rfl k) ?_
  show own_Go p e below _ (T12.setTop (mkF m 27 #[.val (.long q0), .second, .val (.ref a1), .val (.int (1 : Int32)), .val (.int (5 : Int32)), .val (.long (own_sh q0 3)), .second, .val (.int (2 : Int32))] [(.long (own_sh q0 3))]))
  refine own_by (fun _ k => XS.bipush X12.here hx rfl (hb hby d5_27) k) ?_
  show own_Go p e below _ (T12.setTop (mkF m 29 #[.val (.long q0), .second, .val (.ref a1), .val (.int (1 : Int32)), .val (.int (5 : Int32)), .val (.long (own_sh q0 3)), .second, .val (.int (2 : Int32))] [(.int (8 : Int32)), (.long (own_sh q0 3))]))
  refine own_by (fun _ k => XS.lushr X12.here hx rfl (hb hby d5_29) rfl k) ?_
  show own_Go p e below _ (T12.setTop (mkF m 30 #[.val (.long q0), .second, .val (.ref a1), .val (.int (1 : Int32)), .val (.int (5 : Int32)), .val (.long (own_sh q0 3)), .second, .val (.int (2 : Int32))] [(.long (((own_sh q0 3).toUInt64 >>> ((8 : Int32) &&& 0x3f).toInt64.toUInt64).toInt64))]))
  refine own_by (fun _ k => XS.lstore X12.here hx rfl (hb hby d5_30) rfl (l' := #[.val (.long q0), .second, .val (.ref a1), .val (.int (1 : Int32)), .val (.int (5 : Int32)), .val (.long (((own_sh q0 3).toUInt64 >>> ((8 : Int32) &&& 0x3f).toInt64.toUInt64).toInt64)), .second, .val (.int (2 : Int32))]) rfl k) ?_
  show own_Go p e below _ (T12.setTop (mkF m 32 #[.val (.long q0), .second, .val (.ref a1), .val (.int (1 : Int32)), .val (.int (5 : Int32)), .val (.long (((own_sh q0 3).toUInt64 >>> ((8 : Int32) &&& 0x3f).toInt64.toUInt64).toInt64)), .second, .val (.int (2 : Int32))] []))
  refine own_by (fun _ k => XS.iinc X12.here hx rfl (hb hby d5_32) rfl (l' := #[.val (.long q0), .second, .val (.ref a1), .val (.int (1 : Int32)), .val (.int (5 : Int32)), .val (.long (((own_sh q0 3).toUInt64 >>> ((8 : Int32) &&& 0x3f).toInt64.toUInt64).toInt64)), .second, .val (.int (1 : Int32))]) rfl k) ?_
  show own_Go p e below _ (T12.setTop (mkF m 35 #[.val (.long q0), .second, .val (.ref a1), .val (.int (1 : Int32)), .val (.int (5 : Int32)), .val (.long (((own_sh q0 3).toUInt64 >>> ((8 : Int32) &&& 0x3f).toInt64.toUInt64).toInt64)), .second, .val (.int (1 : Int32))] []))
  refine own_by (fun _ k => XS.goto X12.here hx rfl (pc0 := 35) (pc' := 11) rfl (hb hby d5_35) (by decide) (by decide) k) ?_
  show own_Go p e below _ (T12.setTop (mkF m 11 #[.val (.long q0), .second, .val (.ref a1), .val (.int (1 : Int32)), .val (.int (5 : Int32)), .val (.long (((own_sh q0 3).toUInt64 >>> ((8 : Int32) &&& 0x3f).toInt64.toUInt64).toInt64)), .second, .val (.int (1 : Int32))] []))
  show own_Go p e below _ (T12.setTop (mkF m 11 #[.val (.long q0), .second, .val (.ref a1), .val (.int (1 : Int32)), .val (.int (5 : Int32)), .val (.long (own_sh q0 4)), .second, .val (.int (1 : Int32))] []))
  have V13 : own_Arf Z h12 a1 k_a1 .byte (6 : Int32) (fun i => .int ((own_wr fn_a1 q0 5 4) i)) := V12
  refine own_by (fun _ k => XS.iload X12.here hx rfl (hb hby d5_11) rfl k) ?_
  show own_Go p e below _ (T12.setTop (mkF m 13 #[.val (.long q0), .second, .val (.ref a1), .val (.int (1 : Int32)), .val (.int (5 : Int32)), .val (.long (own_sh q0 4)), .second, .val (.int (1 : Int32))] [(.int (1 : Int32))]))
  refine own_by (fun _ k => XS.iloadN X12.here hx rfl (hb hby d5_13) rfl k) ?_
  show own_Go p e below _ (T12.setTop (mkF m 14 #[.val (.long q0), .second, .val (.ref a1), .val (.int (1 : Int32)), .val (.int (5 : Int32)), .val (.long (own_sh q0 4)), .second, .val (.int (1 : Int32))] [(.int (1 : Int32)), (.int (1 : Int32))]))
  refine own_by (fun _ k => XS.icmpNo X12.here hx rfl (hb hby d5_14) rfl (flt (by decide : ¬ ((1 : Int32) < (1 : Int32)))).1 k) ?_
  show own_Go p e below _ (T12.setTop (mkF m 17 #[.val (.long q0), .second, .val (.ref a1), .val (.int (1 : Int32)), .val (.int (5 : Int32)), .val (.long (own_sh q0 4)), .second, .val (.int (1 : Int32))] []))
  refine own_by (fun _ k => XS.aloadN X12.here hx rfl (hb hby d5_17) rfl rfl k) ?_
  show own_Go p e below _ (T12.setTop (mkF m 18 #[.val (.long q0), .second, .val (.ref a1), .val (.int (1 : Int32)), .val (.int (5 : Int32)), .val (.long (own_sh q0 4)), .second, .val (.int (1 : Int32))] [(.ref a1)]))
  refine own_by (fun _ k => XS.iload X12.here hx rfl (hb hby d5_18) rfl k) ?_
  show own_Go p e below _ (T12.setTop (mkF m 20 #[.val (.long q0), .second, .val (.ref a1), .val (.int (1 : Int32)), .val (.int (5 : Int32)), .val (.long (own_sh q0 4)), .second, .val (.int (1 : Int32))] [(.int (1 : Int32)), (.ref a1)]))
  refine own_by (fun _ k => XS.lload X12.here hx rfl (hb hby d5_20) rfl k) ?_
  show own_Go p e below _ (T12.setTop (mkF m 22 #[.val (.long q0), .second, .val (.ref a1), .val (.int (1 : Int32)), .val (.int (5 : Int32)), .val (.long (own_sh q0 4)), .second, .val (.int (1 : Int32))] [(.long (own_sh q0 4)), (.int (1 : Int32)), (.ref a1)]))
  refine own_by (fun _ k => XS.l2i X12.here hx rfl (hb hby d5_22) rfl k) ?_
  show own_Go p e below _ (T12.setTop (mkF m 23 #[.val (.long q0), .second, .val (.ref a1), .val (.int (1 : Int32)), .val (.int (5 : Int32)), .val (.long (own_sh q0 4)), .second, .val (.int (1 : Int32))] [(.int ((own_sh q0 4).toInt32)), (.int (1 : Int32)), (.ref a1)]))
  refine own_by (fun _ k => XS.i2b X12.here hx rfl (hb hby d5_23) rfl k) ?_
  show own_Go p e below _ (T12.setTop (mkF m 24 #[.val (.long q0), .second, .val (.ref a1), .val (.int (1 : Int32)), .val (.int (5 : Int32)), .val (.long (own_sh q0 4)), .second, .val (.int (1 : Int32))] [(.int (((own_sh q0 4).toInt32).toInt8.toInt32)), (.int (1 : Int32)), (.ref a1)]))
  obtain ⟨cl14, Ar14, qq14, S14, M14, H14, G14⟩ := id V13
  have hin14 : ¬ ((1 : Int32) < 0 ∨ cl14.slots.size ≤ ((1 : Int32)).toNatClampNeg) := inb_of S14 ⟨by decide, by decide⟩
  obtain ⟨T15, h15, X15, e15, W15, st15⟩ := stB X12 hx hZ e12 Ar14 (j := (1 : Int32)) hin14 (g := (mkF m 24 #[.val (.long q0), .second, .val (.ref a1), .val (.int (1 : Int32)), .val (.int (5 : Int32)), .val (.long (own_sh q0 4)), .second, .val (.int (1 : Int32))] [(.int (((own_sh q0 4).toInt32).toInt8.toInt32)), (.int (1 : Int32)), (.ref a1)])) rfl rfl (hb hby d5_24)
  have V15 : own_Arf Z h15 a1 k_a1 .byte (6 : Int32) (fun i => .int ((own_upd (own_wr fn_a1 q0 5 4) 1 (nar .byte (((own_sh q0 4).toInt32).toInt8.toInt32))) i)) := own_arfSetI Ar14 qq14 S14 M14 H14 G14 (fits_nar_byte _) W15
  have K15 : Keep h0 h15 [a1] := K12.wr W15 (Or.inl (List.mem_of_getElem? (i := 0) rfl))
  have Z15 : n0 ≤ h15.size := Nat.le_trans Z12 (Keep.of_wr W15).1
  have N15 := Fr.snoc X15 N12 g_a1
  refine own_by st15 ?_
  show own_Go p e below _ (T15.setTop (mkF m 25 #[.val (.long q0), .second, .val (.ref a1), .val (.int (1 : Int32)), .val (.int (5 : Int32)), .val (.long (own_sh q0 4)), .second, .val (.int (1 : Int32))] []))
  refine own_by (fun _ k => XS.lload X15.here hx rfl (hb hby d5_25) rfl k) ?_
  show own_Go p e below _ (T15.setTop (mkF m 27 #[.val (.long q0), .second, .val (.ref a1), .val (.int (1 : Int32)), .val (.int (5 : Int32)), .val (.long (own_sh q0 4)), .second, .val (.int (1 : Int32))] [(.long (own_sh q0 4))]))
  refine own_by (fun _ k => XS.bipush X15.here hx rfl (hb hby d5_27) k) ?_
  show own_Go p e below _ (T15.setTop (mkF m 29 #[.val (.long q0), .second, .val (.ref a1), .val (.int (1 : Int32)), .val (.int (5 : Int32)), .val (.long (own_sh q0 4)), .second, .val (.int (1 : Int32))] [(.int (8 : Int32)), (.long (own_sh q0 4))]))
  refine own_by (fun _ k => XS.lushr X15.here hx rfl (hb hby d5_29) rfl k) ?_
  show own_Go p e below _ (T15.setTop (mkF m 30 #[.val (.long q0), .second, .val (.ref a1), .val (.int (1 : Int32)), .val (.int (5 : Int32)), .val (.long (own_sh q0 4)), .second, .val (.int (1 : Int32))] [(.long (((own_sh q0 4).toUInt64 >>> ((8 : Int32) &&& 0x3f).toInt64.toUInt64).toInt64))]))
  refine own_by (fun _ k => XS.lstore X15.here hx rfl (hb hby d5_30) rfl (l' := #[.val (.long q0), .second, .val (.ref a1), .val (.int (1 : Int32)), .val (.int (5 : Int32)), .val (.long (((own_sh q0 4).toUInt64 >>> ((8 : Int32) &&& 0x3f).toInt64.toUInt64).toInt64)), .second, .val (.int (1 : Int32))]) rfl k) ?_
  show own_Go p e below _ (T15.setTop (mkF m 32 #[.val (.long q0), .second, .val (.ref a1), .val (.int (1 : Int32)), .val (.int (5 : Int32)), .val (.long (((own_sh q0 4).toUInt64 >>> ((8 : Int32) &&& 0x3f).toInt64.toUInt64).toInt64)), .second, .val (.int (1 : Int32))] []))
  refine own_by (fun _ k => XS.iinc X15.here hx rfl (hb hby d5_32) rfl (l' := #[.val (.long q0), .second, .val (.ref a1), .val (.int (1 : Int32)), .val (.int (5 : Int32)), .val (.long (((own_sh q0 4).toUInt64 >>> ((8 : Int32) &&& 0x3f).toInt64.toUInt64).toInt64)), .second, .val (.int (0 : Int32))]) rfl k) ?_
  show own_Go p e below _ (T15.setTop (mkF m 35 #[.val (.long q0), .second, .val (.ref a1), .val (.int (1 : Int32)), .val (.int (5 : Int32)), .val (.long (((own_sh q0 4).toUInt64 >>> ((8 : Int32) &&& 0x3f).toInt64.toUInt64).toInt64)), .second, .val (.int (0 : Int32))] []))
  refine own_by (fun _ k => XS.goto X15.here hx rfl (pc0 := 35) (pc' := 11) rfl (hb hby d5_35) (by decide) (by decide) k) ?_
  show own_Go p e below _ (T15.setTop (mkF m 11 #[.val (.long q0), .second, .val (.ref a1), .val (.int (1 : Int32)), .val (.int (5 : Int32)), .val (.long (((own_sh q0 4).toUInt64 >>> ((8 : Int32) &&& 0x3f).toInt64.toUInt64).toInt64)), .second, .val (.int (0 : Int32))] []))
  show own_Go p e below _ (T15.setTop (mkF m 11 #[.val (.long q0), .second, .val (.ref a1), .val (.int (1 : Int32)), .val (.int (5 : Int32)), .val (.long (own_sh q0 5)), .second, .val (.int (0 : Int32))] []))
  have V16 : own_Arf Z h15 a1 k_a1 .byte (6 : Int32) (fun i => .int ((own_wr fn_a1 q0 5 5) i)) := V15
  refine own_by (fun _ k => XS.iload X15.here hx rfl (hb hby d5_11) rfl k) ?_
  show own_Go p e below _ (T15.setTop (mkF m 13 #[.val (.long q0), .second, .val (.ref a1), .val (.int (1 : Int32)), .val (.int (5 : Int32)), .val (.long (own_sh q0 5)), .second, .val (.int (0 : Int32))] [(.int (0 : Int32))]))
  refine own_by (fun _ k => XS.iloadN X15.here hx rfl (hb hby d5_13) rfl k) ?_
  show own_Go p e below _ (T15.setTop (mkF m 14 #[.val (.long q0), .second, .val (.ref a1), .val (.int (1 : Int32)), .val (.int (5 : Int32)), .val (.long (own_sh q0 5)), .second, .val (.int (0 : Int32))] [(.int (1 : Int32)), (.int (0 : Int32))]))
  refine own_by (fun _ k => XS.icmpYes X15.here hx rfl (pc0 := 14) (pc' := 38) rfl (hb hby d5_14) rfl (tlt (by decide : (0 : Int32) < (1 : Int32))).1 (by decide) (by decide) k) ?_
  show own_Go p e below _ (T15.setTop (mkF m 38 #[.val (.long q0), .second, .val (.ref a1), .val (.int (1 : Int32)), .val (.int (5 : Int32)), .val (.long (own_sh q0 5)), .second, .val (.int (0 : Int32))] []))
  exact own_ret0 X15 hx Bd.returns (hb hby d5_38) hlk e15 ⟨rfl, N15, K15, V16⟩ (by decide) (by decide)
theorem pn_wb6 : plainName "com/example/nested_keyspace/nestedkeyspace/TypedParts" = true := by first | (simp [plainName, overriddenIn]; done) | decide +kernel
theorem ef_wb6 (m : MethodId) (q0 : Int64) (a1 : Addr) : entryFrame m #[(.long q0), (.ref a1), (.int (1 : Int32)), (.int (6 : Int32))] 8 = mkF m 0 #[.val (.long q0), .second, .val (.ref a1), .val (.int (1 : Int32)), .val (.int (6 : Int32)), .unset, .unset, .unset] [] := by first | (simp [entryFrame, mkF, argsToLocals, Value.category]; done) | rfl
def Qwb6 (Z : State) (k_a1 : ClassId) (fn_a1 : Nat → Int32) (q0 : Int64) (a1 : Addr) (h0 : Heap) (n0 : Nat) (v : Option Value) (h : Heap) (L : List Loc) : Prop := v = none ∧ Fr n0 L ∧ Keep h0 h [a1] ∧ own_Arf Z h a1 k_a1 .byte (7 : Int32) (fun i => .int ((own_wr fn_a1 q0 6 6) i))
set_option maxRecDepth 65536 in
set_option maxHeartbeats 40000000 in
theorem rmwb6 (l : Launch) (Z : State) (A0 : Array Value) (hw : ∀ d ∈ tables_1, d.before A0 Z = true) (ws : List Jvm.Cond) (k_a1 : ClassId) (fn_a1 : Nat → Int32) (q0 : Int64) (a1 : Addr) (h0 : Heap) (n0 : Nat) (Z0 : n0 ≤ h0.size) (P_V_a1 : own_Arf Z h0 a1 k_a1 .byte (7 : Int32) (fun i => .int (fn_a1 i))) (g_a1 : n0 ≤ a1) :
    MetFree l (⟨"com/example/nested_keyspace/nestedkeyspace/TypedParts", "writeBigEndian", "(J[BII)V"⟩ : MethodName) (head1 (Jvm.Cond.code (⟨"com/example/nested_keyspace/nestedkeyspace/TypedParts", "writeBigEndian", "(J[BII)V"⟩ : MethodName) prog_20_method_14_code 8 none :: ws) ({ frames := 0, cells := 0, slots := 0, locals := 0 } : Room)) (fun a U => a = #[(.long q0), (.ref a1), (.int (1 : Int32)), (.int (6 : Int32))] ∧ Z.Warmed39 U.vm ∧ U.heap = h0) (fun _ _ _ _ _ => True) (fun _ U o U' => ∃ v L, o = .returned v ∧ Qwb6 Z k_a1 fn_a1 q0 a1 h0 n0 v U'.heap L ∧ FrameEnd U o U' L 0 0) := by
  refine MetFree.of_bodySF (plainFor_of_name pn_wb6) hisR ?_
  intro p e s m args below meth c s₁ Bd hml0 hP hK
  obtain ⟨rfl, hZ, hh⟩ := hP
  have hwd := fun i {d : Jvm.Cond} (h : tables_1[i]? = some d) => hw d (List.mem_of_getElem? h)
  have hx := Bd.exec
  have hby := Bd.bytes
  have hml : c.maxLocals = 8 := hml0
  have hlk : meth.locks = false := Bd.notSynchronized
  have hown : s.vm.findClass "com/example/nested_keyspace/nestedkeyspace/TypedParts" = some m.cls := findClass_of_methodNamed Bd.named
  have hnm := (name_of_methodNamed Bd.named Bd.method).1
  have X0 : Stand p l e ({ frames := 0, cells := 0, slots := 0, locals := 0 } : Room) s m #[(.long q0), (.ref a1), (.int (1 : Int32)), (.int (6 : Int32))] below meth c s₁ [] 0 0 := Stand.of_body Bd
  have e0 : s₁.heap = h0 := by rw [← hh, Bd.state]; rfl
  have N0 := Fr.nil n0
  show own_Go p e below (own_Fin s 0 0 (Qwb6 Z k_a1 fn_a1 q0 a1 h0 n0)) _
  refine own_by (fun t k => castTop (ef_wb6 m q0 a1) k) ?_
  show own_Go p e below _ (s₁.setTop (mkF m 0 #[.val (.long q0), .second, .val (.ref a1), .val (.int (1 : Int32)), .val (.int (6 : Int32)), .unset, .unset, .unset] []))
  refine own_by (fun _ k => XS.lloadN X0.here hx rfl (hb hby d5_0) rfl k) ?_
  show own_Go p e below _ (s₁.setTop (mkF m 1 #[.val (.long q0), .second, .val (.ref a1), .val (.int (1 : Int32)), .val (.int (6 : Int32)), .unset, .unset, .unset] [(.long q0)]))
  refine own_by (fun _ k => XS.lstore X0.here hx rfl (hb hby d5_1) rfl (l' := #[.val (.long q0), .second, .val (.ref a1), .val (.int (1 : Int32)), .val (.int (6 : Int32)), .val (.long q0), .second, .unset]) rfl k) ?_
  show own_Go p e below _ (s₁.setTop (mkF m 3 #[.val (.long q0), .second, .val (.ref a1), .val (.int (1 : Int32)), .val (.int (6 : Int32)), .val (.long q0), .second, .unset] []))
  refine own_by (fun _ k => XS.iloadN X0.here hx rfl (hb hby d5_3) rfl k) ?_
  show own_Go p e below _ (s₁.setTop (mkF m 4 #[.val (.long q0), .second, .val (.ref a1), .val (.int (1 : Int32)), .val (.int (6 : Int32)), .val (.long q0), .second, .unset] [(.int (1 : Int32))]))
  refine own_by (fun _ k => XS.iload X0.here hx rfl (hb hby d5_4) rfl k) ?_
  show own_Go p e below _ (s₁.setTop (mkF m 6 #[.val (.long q0), .second, .val (.ref a1), .val (.int (1 : Int32)), .val (.int (6 : Int32)), .val (.long q0), .second, .unset] [(.int (6 : Int32)), (.int (1 : Int32))]))
  refine own_by (fun _ k => XS.iadd X0.here hx rfl (hb hby d5_6) rfl k) ?_
  show own_Go p e below _ (s₁.setTop (mkF m 7 #[.val (.long q0), .second, .val (.ref a1), .val (.int (1 : Int32)), .val (.int (6 : Int32)), .val (.long q0), .second, .unset] [(.int (7 : Int32))]))
  refine own_by (fun _ k => XS.iconst X0.here hx rfl (hb hby d5_7) k) ?_
  show own_Go p e below _ (s₁.setTop (mkF m 8 #[.val (.long q0), .second, .val (.ref a1), .val (.int (1 : Int32)), .val (.int (6 : Int32)), .val (.long q0), .second, .unset] [(.int (1 : Int32)), (.int (7 : Int32))]))
  refine own_by (fun _ k => XS.isub X0.here hx rfl (hb hby d5_8) rfl k) ?_
  show own_Go p e below _ (s₁.setTop (mkF m 9 #[.val (.long q0), .second, .val (.ref a1), .val (.int (1 : Int32)), .val (.int (6 : Int32)), .val (.long q0), .second, .unset] [(.int (6 : Int32))]))
  refine own_by (fun _ k => XS.istore X0.here hx rfl (hb hby d5_9) rfl (l' := #[.val (.long q0), .second, .val (.ref a1), .val (.int (1 : Int32)), .val (.int (6 : Int32)), .val (.long q0), .second, .val (.int (6 : Int32))]) rfl k) ?_
  show own_Go p e below _ (s₁.setTop (mkF m 11 #[.val (.long q0), .second, .val (.ref a1), .val (.int (1 : Int32)), .val (.int (6 : Int32)), .val (.long q0), .second, .val (.int (6 : Int32))] []))
  show own_Go p e below _ (s₁.setTop (mkF m 11 #[.val (.long q0), .second, .val (.ref a1), .val (.int (1 : Int32)), .val (.int (6 : Int32)), .val (.long (own_sh q0 0)), .second, .val (.int (6 : Int32))] []))
  show own_Go p e below _ (s₁.setTop (mkF m 11 #[.val (.long q0), .second, .val (.ref a1), .val (.int (1 : Int32)), .val (.int (6 : Int32)), .val (.long (own_sh q0 0)), .second, .val (.int (6 : Int32))] []))
  have V1 : own_Arf Z h0 a1 k_a1 .byte (7 : Int32) (fun i => .int ((own_wr fn_a1 q0 6 0) i)) := P_V_a1
  refine own_by (fun _ k => XS.iload X0.here hx rfl (hb hby d5_11) rfl k) ?_
  show own_Go p e below _ (s₁.setTop (mkF m 13 #[.val (.long q0), .second, .val (.ref a1), .val (.int (1 : Int32)), .val (.int (6 : Int32)), .val (.long (own_sh q0 0)), .second, .val (.int (6 : Int32))] [(.int (6 : Int32))]))
  refine own_by (fun _ k => XS.iloadN X0.here hx rfl (hb hby d5_13) rfl k) ?_
  show own_Go p e below _ (s₁.setTop (mkF m 14 #[.val (.long q0), .second, .val (.ref a1), .val (.int (1 : Int32)), .val (.int (6 : Int32)), .val (.long (own_sh q0 0)), .second, .val (.int (6 : Int32))] [(.int (1 : Int32)), (.int (6 : Int32))]))
  refine own_by (fun _ k => XS.icmpNo X0.here hx rfl (hb hby d5_14) rfl (flt (by decide : ¬ ((6 : Int32) < (1 : Int32)))).1 k) ?_
  show own_Go p e below _ (s₁.setTop (mkF m 17 #[.val (.long q0), .second, .val (.ref a1), .val (.int (1 : Int32)), .val (.int (6 : Int32)), .val (.long (own_sh q0 0)), .second, .val (.int (6 : Int32))] []))
  refine own_by (fun _ k => XS.aloadN X0.here hx rfl (hb hby d5_17) rfl rfl k) ?_
  show own_Go p e below _ (s₁.setTop (mkF m 18 #[.val (.long q0), .second, .val (.ref a1), .val (.int (1 : Int32)), .val (.int (6 : Int32)), .val (.long (own_sh q0 0)), .second, .val (.int (6 : Int32))] [(.ref a1)]))
  refine own_by (fun _ k => XS.iload X0.here hx rfl (hb hby d5_18) rfl k) ?_
  show own_Go p e below _ (s₁.setTop (mkF m 20 #[.val (.long q0), .second, .val (.ref a1), .val (.int (1 : Int32)), .val (.int (6 : Int32)), .val (.long (own_sh q0 0)), .second, .val (.int (6 : Int32))] [(.int (6 : Int32)), (.ref a1)]))
  refine own_by (fun _ k => XS.lload X0.here hx rfl (hb hby d5_20) rfl k) ?_
  show own_Go p e below _ (s₁.setTop (mkF m 22 #[.val (.long q0), .second, .val (.ref a1), .val (.int (1 : Int32)), .val (.int (6 : Int32)), .val (.long (own_sh q0 0)), .second, .val (.int (6 : Int32))] [(.long (own_sh q0 0)), (.int (6 : Int32)), (.ref a1)]))
  refine own_by (fun _ k => XS.l2i X0.here hx rfl (hb hby d5_22) rfl k) ?_
  show own_Go p e below _ (s₁.setTop (mkF m 23 #[.val (.long q0), .second, .val (.ref a1), .val (.int (1 : Int32)), .val (.int (6 : Int32)), .val (.long (own_sh q0 0)), .second, .val (.int (6 : Int32))] [(.int ((own_sh q0 0).toInt32)), (.int (6 : Int32)), (.ref a1)]))
  refine own_by (fun _ k => XS.i2b X0.here hx rfl (hb hby d5_23) rfl k) ?_
  show own_Go p e below _ (s₁.setTop (mkF m 24 #[.val (.long q0), .second, .val (.ref a1), .val (.int (1 : Int32)), .val (.int (6 : Int32)), .val (.long (own_sh q0 0)), .second, .val (.int (6 : Int32))] [(.int (((own_sh q0 0).toInt32).toInt8.toInt32)), (.int (6 : Int32)), (.ref a1)]))
  obtain ⟨cl2, Ar2, qq2, S2, M2, H2, G2⟩ := id V1
  have hin2 : ¬ ((6 : Int32) < 0 ∨ cl2.slots.size ≤ ((6 : Int32)).toNatClampNeg) := inb_of S2 ⟨by decide, by decide⟩
  obtain ⟨T3, h3, X3, e3, W3, st3⟩ := stB X0 hx hZ e0 Ar2 (j := (6 : Int32)) hin2 (g := (mkF m 24 #[.val (.long q0), .second, .val (.ref a1), .val (.int (1 : Int32)), .val (.int (6 : Int32)), .val (.long (own_sh q0 0)), .second, .val (.int (6 : Int32))] [(.int (((own_sh q0 0).toInt32).toInt8.toInt32)), (.int (6 : Int32)), (.ref a1)])) rfl rfl (hb hby d5_24)
  have V3 : own_Arf Z h3 a1 k_a1 .byte (7 : Int32) (fun i => .int ((own_upd (own_wr fn_a1 q0 6 0) 6 (nar .byte (((own_sh q0 0).toInt32).toInt8.toInt32))) i)) := own_arfSetI Ar2 qq2 S2 M2 H2 G2 (fits_nar_byte _) W3
  have K3 : Keep h0 h3 [a1] := (Keep.refl h0 [a1]).wr W3 (Or.inl (List.mem_of_getElem? (i := 0) rfl))
  have Z3 : n0 ≤ h3.size := Nat.le_trans Z0 (Keep.of_wr W3).1
  have N3 := Fr.snoc X3 N0 g_a1
  refine own_by st3 ?_
  show own_Go p e below _ (T3.setTop (mkF m 25 #[.val (.long q0), .second, .val (.ref a1), .val (.int (1 : Int32)), .val (.int (6 : Int32)), .val (.long (own_sh q0 0)), .second, .val (.int (6 : Int32))] []))
  refine own_by (fun _ k => XS.lload X3.here hx rfl (hb hby d5_25) rfl k) ?_
  show own_Go p e below _ (T3.setTop (mkF m 27 #[.val (.long q0), .second, .val (.ref a1), .val (.int (1 : Int32)), .val (.int (6 : Int32)), .val (.long (own_sh q0 0)), .second, .val (.int (6 : Int32))] [(.long (own_sh q0 0))]))
  refine own_by (fun _ k => XS.bipush X3.here hx rfl (hb hby d5_27) k) ?_
  show own_Go p e below _ (T3.setTop (mkF m 29 #[.val (.long q0), .second, .val (.ref a1), .val (.int (1 : Int32)), .val (.int (6 : Int32)), .val (.long (own_sh q0 0)), .second, .val (.int (6 : Int32))] [(.int (8 : Int32)), (.long (own_sh q0 0))]))
  refine own_by (fun _ k => XS.lushr X3.here hx rfl (hb hby d5_29) rfl k) ?_
  show own_Go p e below _ (T3.setTop (mkF m 30 #[.val (.long q0), .second, .val (.ref a1), .val (.int (1 : Int32)), .val (.int (6 : Int32)), .val (.long (own_sh q0 0)), .second, .val (.int (6 : Int32))] [(.long (((own_sh q0 0).toUInt64 >>> ((8 : Int32) &&& 0x3f).toInt64.toUInt64).toInt64))]))
  refine own_by (fun _ k => XS.lstore X3.here hx rfl (hb hby d5_30) rfl (l' := #[.val (.long q0), .second, .val (.ref a1), .val (.int (1 : Int32)), .val (.int (6 : Int32)), .val (.long (((own_sh q0 0).toUInt64 >>> ((8 : Int32) &&& 0x3f).toInt64.toUInt64).toInt64)), .second, .val (.int (6 : Int32))]) rfl k) ?_
  show own_Go p e below _ (T3.setTop (mkF m 32 #[.val (.long q0), .second, .val (.ref a1), .val (.int (1 : Int32)), .val (.int (6 : Int32)), .val (.long (((own_sh q0 0).toUInt64 >>> ((8 : Int32) &&& 0x3f).toInt64.toUInt64).toInt64)), .second, .val (.int (6 : Int32))] []))
  refine own_by (fun _ k => XS.iinc X3.here hx rfl (hb hby d5_32) rfl (l' := #[.val (.long q0), .second, .val (.ref a1), .val (.int (1 : Int32)), .val (.int (6 : Int32)), .val (.long (((own_sh q0 0).toUInt64 >>> ((8 : Int32) &&& 0x3f).toInt64.toUInt64).toInt64)), .second, .val (.int (5 : Int32))]) rfl k) ?_
  show own_Go p e below _ (T3.setTop (mkF m 35 #[.val (.long q0), .second, .val (.ref a1), .val (.int (1 : Int32)), .val (.int (6 : Int32)), .val (.long (((own_sh q0 0).toUInt64 >>> ((8 : Int32) &&& 0x3f).toInt64.toUInt64).toInt64)), .second, .val (.int (5 : Int32))] []))
  refine own_by (fun _ k => XS.goto X3.here hx rfl (pc0 := 35) (pc' := 11) rfl (hb hby d5_35) (by decide) (by decide) k) ?_
  show own_Go p e below _ (T3.setTop (mkF m 11 #[.val (.long q0), .second, .val (.ref a1), .val (.int (1 : Int32)), .val (.int (6 : Int32)), .val (.long (((own_sh q0 0).toUInt64 >>> ((8 : Int32) &&& 0x3f).toInt64.toUInt64).toInt64)), .second, .val (.int (5 : Int32))] []))
  show own_Go p e below _ (T3.setTop (mkF m 11 #[.val (.long q0), .second, .val (.ref a1), .val (.int (1 : Int32)), .val (.int (6 : Int32)), .val (.long (own_sh q0 1)), .second, .val (.int (5 : Int32))] []))
  have V4 : own_Arf Z h3 a1 k_a1 .byte (7 : Int32) (fun i => .int ((own_wr fn_a1 q0 6 1) i)) := V3
  refine own_by (fun _ k => XS.iload X3.here hx rfl (hb hby d5_11) rfl k) ?_
  show own_Go p e below _ (T3.setTop (mkF m 13 #[.val (.long q0), .second, .val (.ref a1), .val (.int (1 : Int32)), .val (.int (6 : Int32)), .val (.long (own_sh q0 1)), .second, .val (.int (5 : Int32))] [(.int (5 : Int32))]))
  refine own_by (fun _ k => XS.iloadN X3.here hx rfl (hb hby d5_13) rfl k) ?_
  show own_Go p e below _ (T3.setTop (mkF m 14 #[.val (.long q0), .second, .val (.ref a1), .val (.int (1 : Int32)), .val (.int (6 : Int32)), .val (.long (own_sh q0 1)), .second, .val (.int (5 : Int32))] [(.int (1 : Int32)), (.int (5 : Int32))]))
  refine own_by (fun _ k => XS.icmpNo X3.here hx rfl (hb hby d5_14) rfl (flt (by decide : ¬ ((5 : Int32) < (1 : Int32)))).1 k) ?_
  show own_Go p e below _ (T3.setTop (mkF m 17 #[.val (.long q0), .second, .val (.ref a1), .val (.int (1 : Int32)), .val (.int (6 : Int32)), .val (.long (own_sh q0 1)), .second, .val (.int (5 : Int32))] []))
  refine own_by (fun _ k => XS.aloadN X3.here hx rfl (hb hby d5_17) rfl rfl k) ?_
  show own_Go p e below _ (T3.setTop (mkF m 18 #[.val (.long q0), .second, .val (.ref a1), .val (.int (1 : Int32)), .val (.int (6 : Int32)), .val (.long (own_sh q0 1)), .second, .val (.int (5 : Int32))] [(.ref a1)]))
  refine own_by (fun _ k => XS.iload X3.here hx rfl (hb hby d5_18) rfl k) ?_
  show own_Go p e below _ (T3.setTop (mkF m 20 #[.val (.long q0), .second, .val (.ref a1), .val (.int (1 : Int32)), .val (.int (6 : Int32)), .val (.long (own_sh q0 1)), .second, .val (.int (5 : Int32))] [(.int (5 : Int32)), (.ref a1)]))
  refine own_by (fun _ k => XS.lload X3.here hx rfl (hb hby d5_20) rfl k) ?_
  show own_Go p e below _ (T3.setTop (mkF m 22 #[.val (.long q0), .second, .val (.ref a1), .val (.int (1 : Int32)), .val (.int (6 : Int32)), .val (.long (own_sh q0 1)), .second, .val (.int (5 : Int32))] [(.long (own_sh q0 1)), (.int (5 : Int32)), (.ref a1)]))
  refine own_by (fun _ k => XS.l2i X3.here hx rfl (hb hby d5_22) rfl k) ?_
  show own_Go p e below _ (T3.setTop (mkF m 23 #[.val (.long q0), .second, .val (.ref a1), .val (.int (1 : Int32)), .val (.int (6 : Int32)), .val (.long (own_sh q0 1)), .second, .val (.int (5 : Int32))] [(.int ((own_sh q0 1).toInt32)), (.int (5 : Int32)), (.ref a1)]))
  refine own_by (fun _ k => XS.i2b X3.here hx rfl (hb hby d5_23) rfl k) ?_
  show own_Go p e below _ (T3.setTop (mkF m 24 #[.val (.long q0), .second, .val (.ref a1), .val (.int (1 : Int32)), .val (.int (6 : Int32)), .val (.long (own_sh q0 1)), .second, .val (.int (5 : Int32))] [(.int (((own_sh q0 1).toInt32).toInt8.toInt32)), (.int (5 : Int32)), (.ref a1)]))
  obtain ⟨cl5, Ar5, qq5, S5, M5, H5, G5⟩ := id V4
  have hin5 : ¬ ((5 : Int32) < 0 ∨ cl5.slots.size ≤ ((5 : Int32)).toNatClampNeg) := inb_of S5 ⟨by decide, by decide⟩
  obtain ⟨T6, h6, X6, e6, W6, st6⟩ := stB X3 hx hZ e3 Ar5 (j := (5 : Int32)) hin5 (g := (mkF m 24 #[.val (.long q0), .second, .val (.ref a1), .val (.int (1 : Int32)), .val (.int (6 : Int32)), .val (.long (own_sh q0 1)), .second, .val (.int (5 : Int32))] [(.int (((own_sh q0 1).toInt32).toInt8.toInt32)), (.int (5 : Int32)), (.ref a1)])) rfl rfl (hb hby d5_24)
  have V6 : own_Arf Z h6 a1 k_a1 .byte (7 : Int32) (fun i => .int ((own_upd (own_wr fn_a1 q0 6 1) 5 (nar .byte (((own_sh q0 1).toInt32).toInt8.toInt32))) i)) := own_arfSetI Ar5 qq5 S5 M5 H5 G5 (fits_nar_byte _) W6
  have K6 : Keep h0 h6 [a1] := K3.wr W6 (Or.inl (List.mem_of_getElem? (i := 0) rfl))
  have Z6 : n0 ≤ h6.size := Nat.le_trans Z3 (Keep.of_wr W6).1
  have N6 := Fr.snoc X6 N3 g_a1
  refine own_by st6 ?_
  show own_Go p e below _ (T6.setTop (mkF m 25 #[.val (.long q0), .second, .val (.ref a1), .val (.int (1 : Int32)), .val (.int (6 : Int32)), .val (.long (own_sh q0 1)), .second, .val (.int (5 : Int32))] []))
  refine own_by (fun _ k => XS.lload X6.here hx rfl (hb hby d5_25) rfl k) ?_
  show own_Go p e below _ (T6.setTop (mkF m 27 #[.val (.long q0), .second, .val (.ref a1), .val (.int (1 : Int32)), .val (.int (6 : Int32)), .val (.long (own_sh q0 1)), .second, .val (.int (5 : Int32))] [(.long (own_sh q0 1))]))
  refine own_by (fun _ k => XS.bipush X6.here hx rfl (hb hby d5_27) k) ?_
  show own_Go p e below _ (T6.setTop (mkF m 29 #[.val (.long q0), .second, .val (.ref a1), .val (.int (1 : Int32)), .val (.int (6 : Int32)), .val (.long (own_sh q0 1)), .second, .val (.int (5 : Int32))] [(.int (8 : Int32)), (.long (own_sh q0 1))]))
  refine own_by (fun _ k => XS.lushr X6.here hx rfl (hb hby d5_29) rfl k) ?_
  show own_Go p e below _ (T6.setTop (mkF m 30 #[.val (.long q0), .second, .val (.ref a1), .val (.int (1 : Int32)), .val (.int (6 : Int32)), .val (.long (own_sh q0 1)), .second, .val (.int (5 : Int32))] [(.long (((own_sh q0 1).toUInt64 >>> ((8 : Int32) &&& 0x3f).toInt64.toUInt64).toInt64))]))
  refine own_by (fun _ k => XS.lstore X6.here hx rfl (hb hby d5_30) rfl (l' := #[.val (.long q0), .second, .val (.ref a1), .val (.int (1 : Int32)), .val (.int (6 : Int32)), .val (.long (((own_sh q0 1).toUInt64 >>> ((8 : Int32) &&& 0x3f).toInt64.toUInt64).toInt64)), .second, .val (.int (5 : Int32))]) rfl k) ?_
  show own_Go p e below _ (T6.setTop (mkF m 32 #[.val (.long q0), .second, .val (.ref a1), .val (.int (1 : Int32)), .val (.int (6 : Int32)), .val (.long (((own_sh q0 1).toUInt64 >>> ((8 : Int32) &&& 0x3f).toInt64.toUInt64).toInt64)), .second, .val (.int (5 : Int32))] []))
  refine own_by (fun _ k => XS.iinc X6.here hx rfl (hb hby d5_32) rfl (l' := #[.val (.long q0), .second, .val (.ref a1), .val (.int (1 : Int32)), .val (.int (6 : Int32)), .val (.long (((own_sh q0 1).toUInt64 >>> ((8 : Int32) &&& 0x3f).toInt64.toUInt64).toInt64)), .second, .val (.int (4 : Int32))]) rfl k) ?_
  show own_Go p e below _ (T6.setTop (mkF m 35 #[.val (.long q0), .second, .val (.ref a1), .val (.int (1 : Int32)), .val (.int (6 : Int32)), .val (.long (((own_sh q0 1).toUInt64 >>> ((8 : Int32) &&& 0x3f).toInt64.toUInt64).toInt64)), .second, .val (.int (4 : Int32))] []))
  refine own_by (fun _ k => XS.goto X6.here hx rfl (pc0 := 35) (pc' := 11) rfl (hb hby d5_35) (by decide) (by decide) k) ?_
  show own_Go p e below _ (T6.setTop (mkF m 11 #[.val (.long q0), .second, .val (.ref a1), .val (.int (1 : Int32)), .val (.int (6 : Int32)), .val (.long (((own_sh q0 1).toUInt64 >>> ((8 : Int32) &&& 0x3f).toInt64.toUInt64).toInt64)), .second, .val (.int (4 : Int32))] []))
  show own_Go p e below _ (T6.setTop (mkF m 11 #[.val (.long q0), .second, .val (.ref a1), .val (.int (1 : Int32)), .val (.int (6 : Int32)), .val (.long (own_sh q0 2)), .second, .val (.int (4 : Int32))] []))
  have V7 : own_Arf Z h6 a1 k_a1 .byte (7 : Int32) (fun i => .int ((own_wr fn_a1 q0 6 2) i)) := V6
  refine own_by (fun _ k => XS.iload X6.here hx rfl (hb hby d5_11) rfl k) ?_
  show own_Go p e below _ (T6.setTop (mkF m 13 #[.val (.long q0), .second, .val (.ref a1), .val (.int (1 : Int32)), .val (.int (6 : Int32)), .val (.long (own_sh q0 2)), .second, .val (.int (4 : Int32))] [(.int (4 : Int32))]))
  refine own_by (fun _ k => XS.iloadN X6.here hx rfl (hb hby d5_13) rfl k) ?_
  show own_Go p e below _ (T6.setTop (mkF m 14 #[.val (.long q0), .second, .val (.ref a1), .val (.int (1 : Int32)), .val (.int (6 : Int32)), .val (.long (own_sh q0 2)), .second, .val (.int (4 : Int32))] [(.int (1 : Int32)), (.int (4 : Int32))]))
  refine own_by (fun _ k => XS.icmpNo X6.here hx rfl (hb hby d5_14) rfl (flt (by decide : ¬ ((4 : Int32) < (1 : Int32)))).1 k) ?_
  show own_Go p e below _ (T6.setTop (mkF m 17 #[.val (.long q0), .second, .val (.ref a1), .val (.int (1 : Int32)), .val (.int (6 : Int32)), .val (.long (own_sh q0 2)), .second, .val (.int (4 : Int32))] []))
  refine own_by (fun _ k => XS.aloadN X6.here hx rfl (hb hby d5_17) rfl rfl k) ?_
  show own_Go p e below _ (T6.setTop (mkF m 18 #[.val (.long q0), .second, .val (.ref a1), .val (.int (1 : Int32)), .val (.int (6 : Int32)), .val (.long (own_sh q0 2)), .second, .val (.int (4 : Int32))] [(.ref a1)]))
  refine own_by (fun _ k => XS.iload X6.here hx rfl (hb hby d5_18) rfl k) ?_
  show own_Go p e below _ (T6.setTop (mkF m 20 #[.val (.long q0), .second, .val (.ref a1), .val (.int (1 : Int32)), .val (.int (6 : Int32)), .val (.long (own_sh q0 2)), .second, .val (.int (4 : Int32))] [(.int (4 : Int32)), (.ref a1)]))
  refine own_by (fun _ k => XS.lload X6.here hx rfl (hb hby d5_20) rfl k) ?_
  show own_Go p e below _ (T6.setTop (mkF m 22 #[.val (.long q0), .second, .val (.ref a1), .val (.int (1 : Int32)), .val (.int (6 : Int32)), .val (.long (own_sh q0 2)), .second, .val (.int (4 : Int32))] [(.long (own_sh q0 2)), (.int (4 : Int32)), (.ref a1)]))
  refine own_by (fun _ k => XS.l2i X6.here hx rfl (hb hby d5_22) rfl k) ?_
  show own_Go p e below _ (T6.setTop (mkF m 23 #[.val (.long q0), .second, .val (.ref a1), .val (.int (1 : Int32)), .val (.int (6 : Int32)), .val (.long (own_sh q0 2)), .second, .val (.int (4 : Int32))] [(.int ((own_sh q0 2).toInt32)), (.int (4 : Int32)), (.ref a1)]))
  refine own_by (fun _ k => XS.i2b X6.here hx rfl (hb hby d5_23) rfl k) ?_
  show own_Go p e below _ (T6.setTop (mkF m 24 #[.val (.long q0), .second, .val (.ref a1), .val (.int (1 : Int32)), .val (.int (6 : Int32)), .val (.long (own_sh q0 2)), .second, .val (.int (4 : Int32))] [(.int (((own_sh q0 2).toInt32).toInt8.toInt32)), (.int (4 : Int32)), (.ref a1)]))
  obtain ⟨cl8, Ar8, qq8, S8, M8, H8, G8⟩ := id V7
  have hin8 : ¬ ((4 : Int32) < 0 ∨ cl8.slots.size ≤ ((4 : Int32)).toNatClampNeg) := inb_of S8 ⟨by decide, by decide⟩
  obtain ⟨T9, h9, X9, e9, W9, st9⟩ := stB X6 hx hZ e6 Ar8 (j := (4 : Int32)) hin8 (g := (mkF m 24 #[.val (.long q0), .second, .val (.ref a1), .val (.int (1 : Int32)), .val (.int (6 : Int32)), .val (.long (own_sh q0 2)), .second, .val (.int (4 : Int32))] [(.int (((own_sh q0 2).toInt32).toInt8.toInt32)), (.int (4 : Int32)), (.ref a1)])) rfl rfl (hb hby d5_24)
  have V9 : own_Arf Z h9 a1 k_a1 .byte (7 : Int32) (fun i => .int ((own_upd (own_wr fn_a1 q0 6 2) 4 (nar .byte (((own_sh q0 2).toInt32).toInt8.toInt32))) i)) := own_arfSetI Ar8 qq8 S8 M8 H8 G8 (fits_nar_byte _) W9
  have K9 : Keep h0 h9 [a1] := K6.wr W9 (Or.inl (List.mem_of_getElem? (i := 0) rfl))
  have Z9 : n0 ≤ h9.size := Nat.le_trans Z6 (Keep.of_wr W9).1
  have N9 := Fr.snoc X9 N6 g_a1
  refine own_by st9 ?_
  show own_Go p e below _ (T9.setTop (mkF m 25 #[.val (.long q0), .second, .val (.ref a1), .val (.int (1 : Int32)), .val (.int (6 : Int32)), .val (.long (own_sh q0 2)), .second, .val (.int (4 : Int32))] []))
  refine own_by (fun _ k => XS.lload X9.here hx rfl (hb hby d5_25) rfl k) ?_
  show own_Go p e below _ (T9.setTop (mkF m 27 #[.val (.long q0), .second, .val (.ref a1), .val (.int (1 : Int32)), .val (.int (6 : Int32)), .val (.long (own_sh q0 2)), .second, .val (.int (4 : Int32))] [(.long (own_sh q0 2))]))
  refine own_by (fun _ k => XS.bipush X9.here hx rfl (hb hby d5_27) k) ?_
  show own_Go p e below _ (T9.setTop (mkF m 29 #[.val (.long q0), .second, .val (.ref a1), .val (.int (1 : Int32)), .val (.int (6 : Int32)), .val (.long (own_sh q0 2)), .second, .val (.int (4 : Int32))] [(.int (8 : Int32)), (.long (own_sh q0 2))]))
  refine own_by (fun _ k => XS.lushr X9.here hx rfl (hb hby d5_29) rfl k) ?_
  show own_Go p e below _ (T9.setTop (mkF m 30 #[.val (.long q0), .second, .val (.ref a1), .val (.int (1 : Int32)), .val (.int (6 : Int32)), .val (.long (own_sh q0 2)), .second, .val (.int (4 : Int32))] [(.long (((own_sh q0 2).toUInt64 >>> ((8 : Int32) &&& 0x3f).toInt64.toUInt64).toInt64))]))
  refine own_by (fun _ k => XS.lstore X9.here hx rfl (hb hby d5_30) rfl (l' := #[.val (.long q0), .second, .val (.ref a1), .val (.int (1 : Int32)), .val (.int (6 : Int32)), .val (.long (((own_sh q0 2).toUInt64 >>> ((8 : Int32) &&& 0x3f).toInt64.toUInt64).toInt64)), .second, .val (.int (4 : Int32))]) rfl k) ?_
  show own_Go p e below _ (T9.setTop (mkF m 32 #[.val (.long q0), .second, .val (.ref a1), .val (.int (1 : Int32)), .val (.int (6 : Int32)), .val (.long (((own_sh q0 2).toUInt64 >>> ((8 : Int32) &&& 0x3f).toInt64.toUInt64).toInt64)), .second, .val (.int (4 : Int32))] []))
  refine own_by (fun _ k => XS.iinc X9.here hx rfl (hb hby d5_32) rfl (l' := #[.val (.long q0), .second, .val (.ref a1), .val (.int (1 : Int32)), .val (.int (6 : Int32)), .val (.long (((own_sh q0 2).toUInt64 >>> ((8 : Int32) &&& 0x3f).toInt64.toUInt64).toInt64)), .second, .val (.int (3 : Int32))]) rfl k) ?_
  show own_Go p e below _ (T9.setTop (mkF m 35 #[.val (.long q0), .second, .val (.ref a1), .val (.int (1 : Int32)), .val (.int (6 : Int32)), .val (.long (((own_sh q0 2).toUInt64 >>> ((8 : Int32) &&& 0x3f).toInt64.toUInt64).toInt64)), .second, .val (.int (3 : Int32))] []))
  refine own_by (fun _ k => XS.goto X9.here hx rfl (pc0 := 35) (pc' := 11) rfl (hb hby d5_35) (by decide) (by decide) k) ?_
  show own_Go p e below _ (T9.setTop (mkF m 11 #[.val (.long q0), .second, .val (.ref a1), .val (.int (1 : Int32)), .val (.int (6 : Int32)), .val (.long (((own_sh q0 2).toUInt64 >>> ((8 : Int32) &&& 0x3f).toInt64.toUInt64).toInt64)), .second, .val (.int (3 : Int32))] []))
  show own_Go p e below _ (T9.setTop (mkF m 11 #[.val (.long q0), .second, .val (.ref a1), .val (.int (1 : Int32)), .val (.int (6 : Int32)), .val (.long (own_sh q0 3)), .second, .val (.int (3 : Int32))] []))
  have V10 : own_Arf Z h9 a1 k_a1 .byte (7 : Int32) (fun i => .int ((own_wr fn_a1 q0 6 3) i)) := V9
  refine own_by (fun _ k => XS.iload X9.here hx rfl (hb hby d5_11) rfl k) ?_
  show own_Go p e below _ (T9.setTop (mkF m 13 #[.val (.long q0), .second, .val (.ref a1), .val (.int (1 : Int32)), .val (.int (6 : Int32)), .val (.long (own_sh q0 3)), .second, .val (.int (3 : Int32))] [(.int (3 : Int32))]))
  refine own_by (fun _ k => XS.iloadN X9.here hx rfl (hb hby d5_13) rfl k) ?_
  show own_Go p e below _ (T9.setTop (mkF m 14 #[.val (.long q0), .second, .val (.ref a1), .val (.int (1 : Int32)), .val (.int (6 : Int32)), .val (.long (own_sh q0 3)), .second, .val (.int (3 : Int32))] [(.int (1 : Int32)), (.int (3 : Int32))]))
  refine own_by (fun _ k => XS.icmpNo X9.here hx rfl (hb hby d5_14) rfl (flt (by decide : ¬ ((3 : Int32) < (1 : Int32)))).1 k) ?_
  show own_Go p e below _ (T9.setTop (mkF m 17 #[.val (.long q0), .second, .val (.ref a1), .val (.int (1 : Int32)), .val (.int (6 : Int32)), .val (.long (own_sh q0 3)), .second, .val (.int (3 : Int32))] []))
  refine own_by (fun _ k => XS.aloadN X9.here hx rfl (hb hby d5_17) rfl rfl k) ?_
  show own_Go p e below _ (T9.setTop (mkF m 18 #[.val (.long q0), .second, .val (.ref a1), .val (.int (1 : Int32)), .val (.int (6 : Int32)), .val (.long (own_sh q0 3)), .second, .val (.int (3 : Int32))] [(.ref a1)]))
  refine own_by (fun _ k => XS.iload X9.here hx rfl (hb hby d5_18) rfl k) ?_
  show own_Go p e below _ (T9.setTop (mkF m 20 #[.val (.long q0), .second, .val (.ref a1), .val (.int (1 : Int32)), .val (.int (6 : Int32)), .val (.long (own_sh q0 3)), .second, .val (.int (3 : Int32))] [(.int (3 : Int32)), (.ref a1)]))
  refine own_by (fun _ k => XS.lload X9.here hx rfl (hb hby d5_20) rfl k) ?_
  show own_Go p e below _ (T9.setTop (mkF m 22 #[.val (.long q0), .second, .val (.ref a1), .val (.int (1 : Int32)), .val (.int (6 : Int32)), .val (.long (own_sh q0 3)), .second, .val (.int (3 : Int32))] [(.long (own_sh q0 3)), (.int (3 : Int32)), (.ref a1)]))
  refine own_by (fun _ k => XS.l2i X9.here hx rfl (hb hby d5_22) rfl k) ?_
  show own_Go p e below _ (T9.setTop (mkF m 23 #[.val (.long q0), .second, .val (.ref a1), .val (.int (1 : Int32)), .val (.int (6 : Int32)), .val (.long (own_sh q0 3)), .second, .val (.int (3 : Int32))] [(.int ((own_sh q0 3).toInt32)), (.int (3 : Int32)), (.ref a1)]))
  refine own_by (fun _ k => XS.i2b X9.here hx rfl (hb hby d5_23) rfl k) ?_
  show own_Go p e below _ (T9.setTop (mkF m 24 #[.val (.long q0), .second, .val (.ref a1), .val (.int (1 : Int32)), .val (.int (6 : Int32)), .val (.long (own_sh q0 3)), .second, .val (.int (3 : Int32))] [(.int (((own_sh q0 3).toInt32).toInt8.toInt32)), (.int (3 : Int32)), (.ref a1)]))
  obtain ⟨cl11, Ar11, qq11, S11, M11, H11, G11⟩ := id V10
  have hin11 : ¬ ((3 : Int32) < 0 ∨ cl11.slots.size ≤ ((3 : Int32)).toNatClampNeg) := inb_of S11 ⟨by decide, by decide⟩
  obtain ⟨T12, h12, X12, e12, W12, st12⟩ := stB X9 hx hZ e9 Ar11 (j := (3 : Int32)) hin11 (g := (mkF m 24 #[.val (.long q0), .second, .val (.ref a1), .val (.int (1 : Int32)), .val (.int (6 : Int32)), .val (.long (own_sh q0 3)), .second, .val (.int (3 : Int32))] [(.int (((own_sh q0 3).toInt32).toInt8.toInt32)), (.int (3 : Int32)), (.ref a1)])) rfl rfl (hb hby d5_24)
  have V12 : own_Arf Z h12 a1 k_a1 .byte (7 : Int32) (fun i => .int ((own_upd (own_wr fn_a1 q0 6 3) 3 (nar .byte (((own_sh q0 3).toInt32).toInt8.toInt32))) i)) := own_arfSetI Ar11 qq11 S11 M11 H11 G11 (fits_nar_byte _) W12
  have K12 : Keep h0 h12 [a1] := K9.wr W12 (Or.inl (List.mem_of_getElem? (i := 0) rfl))
  have Z12 : n0 ≤ h12.size := Nat.le_trans Z9 (Keep.of_wr W12).1
  have N12 := Fr.snoc X12 N9 g_a1
  refine own_by st12 ?_
  show own_Go p e below _ (T12.setTop (mkF m 25 #[.val (.long q0), .second, .val (.ref a1), .val (.int (1 : Int32)), .val (.int (6 : Int32)), .val (.long (own_sh q0 3)), .second, .val (.int (3 : Int32))] []))
  refine own_by (fun _ k => XS.lload X12.here hx rfl (hb hby d5_25) rfl k) ?_
  show own_Go p e below _ (T12.setTop (mkF m 27 #[.val (.long q0), .second, .val (.ref a1), .val (.int (1 : Int32)), .val (.int (6 : Int32)), .val (.long (own_sh q0 3)), .second, .val (.int (3 : Int32))] [(.long (own_sh q0 3))]))
  refine own_by (fun _ k => XS.bipush X12.here hx rfl (hb hby d5_27) k) ?_
  show own_Go p e below _ (T12.setTop (mkF m 29 #[.val (.long q0), .second, .val (.ref a1), .val (.int (1 : Int32)), .val (.int (6 : Int32)), .val (.long (own_sh q0 3)), .second, .val (.int (3 : Int32))] [(.int (8 : Int32)), (.long (own_sh q0 3))]))
  refine own_by (fun _ k => XS.lushr X12.here hx rfl (hb hby d5_29) rfl k) ?_
  show own_Go p e below _ (T12.setTop (mkF m 30 #[.val (.long q0), .second, .val (.ref a1), .val (.int (1 : Int32)), .val (.int (6 : Int32)), .val (.long (own_sh q0 3)), .second, .val (.int (3 : Int32))] [(.long (((own_sh q0 3).toUInt64 >>> ((8 : Int32) &&& 0x3f).toInt64.toUInt64).toInt64))]))
  refine own_by (fun _ k => XS.lstore X12.here hx rfl (hb hby d5_30) rfl (l' := #[.val (.long q0), .second, .val (.ref a1), .val (.int (1 : Int32)), .val (.int (6 : Int32)), .val (.long (((own_sh q0 3).toUInt64 >>> ((8 : Int32) &&& 0x3f).toInt64.toUInt64).toInt64)), .second, .val (.int (3 : Int32))]) rfl k) ?_
  show own_Go p e below _ (T12.setTop (mkF m 32 #[.val (.long q0), .second, .val (.ref a1), .val (.int (1 : Int32)), .val (.int (6 : Int32)), .val (.long (((own_sh q0 3).toUInt64 >>> ((8 : Int32) &&& 0x3f).toInt64.toUInt64).toInt64)), .second, .val (.int (3 : Int32))] []))
  refine own_by (fun _ k => XS.iinc X12.here hx rfl (hb hby d5_32) rfl (l' := #[.val (.long q0), .second, .val (.ref a1), .val (.int (1 : Int32)), .val (.int (6 : Int32)), .val (.long (((own_sh q0 3).toUInt64 >>> ((8 : Int32) &&& 0x3f).toInt64.toUInt64).toInt64)), .second, .val (.int (2 : Int32))]) rfl k) ?_
  show own_Go p e below _ (T12.setTop (mkF m 35 #[.val (.long q0), .second, .val (.ref a1), .val (.int (1 : Int32)), .val (.int (6 : Int32)), .val (.long (((own_sh q0 3).toUInt64 >>> ((8 : Int32) &&& 0x3f).toInt64.toUInt64).toInt64)), .second, .val (.int (2 : Int32))] []))
  refine own_by (fun _ k => XS.goto X12.here hx rfl (pc0 := 35) (pc' := 11) rfl (hb hby d5_35) (by decide) (by decide) k) ?_
  show own_Go p e below _ (T12.setTop (mkF m 11 #[.val (.long q0), .second, .val (.ref a1), .val (.int (1 : Int32)), .val (.int (6 : Int32)), .val (.long (((own_sh q0 3).toUInt64 >>> ((8 : Int32) &&& 0x3f).toInt64.toUInt64).toInt64)), .second, .val (.int (2 : Int32))] []))
  show own_Go p e below _ (T12.setTop (mkF m 11 #[.val (.long q0), .second, .val (.ref a1), .val (.int (1 : Int32)), .val (.int (6 : Int32)), .val (.long (own_sh q0 4)), .second, .val (.int (2 : Int32))] []))
  have V13 : own_Arf Z h12 a1 k_a1 .byte (7 : Int32) (fun i => .int ((own_wr fn_a1 q0 6 4) i)) := V12
  refine own_by (fun _ k => XS.iload X12.here hx rfl (hb hby d5_11) rfl k) ?_
  show own_Go p e below _ (T12.setTop (mkF m 13 #[.val (.long q0), .second, .val (.ref a1), .val (.int (1 : Int32)), .val (.int (6 : Int32)), .val (.long (own_sh q0 4)), .second, .val (.int (2 : Int32))] [(.int (2 : Int32))]))
  refine own_by (fun _ k => XS.iloadN X12.here hx rfl (hb hby d5_13) rfl k) ?_
  show own_Go p e below _ (T12.setTop (mkF m 14 #[.val (.long q0), .second, .val (.ref a1), .val (.int (1 : Int32)), .val (.int (6 : Int32)), .val (.long (own_sh q0 4)), .second, .val (.int (2 : Int32))] [(.int (1 : Int32)), (.int (2 : Int32))]))
  refine own_by (fun _ k => XS.icmpNo X12.here hx rfl (hb hby d5_14) rfl (flt (by decide : ¬ ((2 : Int32) < (1 : Int32)))).1 k) ?_
  show own_Go p e below _ (T12.setTop (mkF m 17 #[.val (.long q0), .second, .val (.ref a1), .val (.int (1 : Int32)), .val (.int (6 : Int32)), .val (.long (own_sh q0 4)), .second, .val (.int (2 : Int32))] []))
  refine own_by (fun _ k => XS.aloadN X12.here hx rfl (hb hby d5_17) rfl rfl k) ?_
  show own_Go p e below _ (T12.setTop (mkF m 18 #[.val (.long q0), .second, .val (.ref a1), .val (.int (1 : Int32)), .val (.int (6 : Int32)), .val (.long (own_sh q0 4)), .second, .val (.int (2 : Int32))] [(.ref a1)]))
  refine own_by (fun _ k => XS.iload X12.here hx rfl (hb hby d5_18) rfl k) ?_
  show own_Go p e below _ (T12.setTop (mkF m 20 #[.val (.long q0), .second, .val (.ref a1), .val (.int (1 : Int32)), .val (.int (6 : Int32)), .val (.long (own_sh q0 4)), .second, .val (.int (2 : Int32))] [(.int (2 : Int32)), (.ref a1)]))
  refine own_by (fun _ k => XS.lload X12.here hx rfl (hb hby d5_20) rfl k) ?_
  show own_Go p e below _ (T12.setTop (mkF m 22 #[.val (.long q0), .second, .val (.ref a1), .val (.int (1 : Int32)), .val (.int (6 : Int32)), .val (.long (own_sh q0 4)), .second, .val (.int (2 : Int32))] [(.long (own_sh q0 4)), (.int (2 : Int32)), (.ref a1)]))
  refine own_by (fun _ k => XS.l2i X12.here hx rfl (hb hby d5_22) rfl k) ?_
  show own_Go p e below _ (T12.setTop (mkF m 23 #[.val (.long q0), .second, .val (.ref a1), .val (.int (1 : Int32)), .val (.int (6 : Int32)), .val (.long (own_sh q0 4)), .second, .val (.int (2 : Int32))] [(.int ((own_sh q0 4).toInt32)), (.int (2 : Int32)), (.ref a1)]))
  refine own_by (fun _ k => XS.i2b X12.here hx rfl (hb hby d5_23) rfl k) ?_
  show own_Go p e below _ (T12.setTop (mkF m 24 #[.val (.long q0), .second, .val (.ref a1), .val (.int (1 : Int32)), .val (.int (6 : Int32)), .val (.long (own_sh q0 4)), .second, .val (.int (2 : Int32))] [(.int (((own_sh q0 4).toInt32).toInt8.toInt32)), (.int (2 : Int32)), (.ref a1)]))
  obtain ⟨cl14, Ar14, qq14, S14, M14, H14, G14⟩ := id V13
  have hin14 : ¬ ((2 : Int32) < 0 ∨ cl14.slots.size ≤ ((2 : Int32)).toNatClampNeg) := inb_of S14 ⟨by decide, by decide⟩
  obtain ⟨T15, h15, X15, e15, W15, st15⟩ := stB X12 hx hZ e12 Ar14 (j := (2 : Int32)) hin14 (g := (mkF m 24 #[.val (.long q0), .second, .val (.ref a1), .val (.int (1 : Int32)), .val (.int (6 : Int32)), .val (.long (own_sh q0 4)), .second, .val (.int (2 : Int32))] [(.int (((own_sh q0 4).toInt32).toInt8.toInt32)), (.int (2 : Int32)), (.ref a1)])) rfl rfl (hb hby d5_24)
  have V15 : own_Arf Z h15 a1 k_a1 .byte (7 : Int32) (fun i => .int ((own_upd (own_wr fn_a1 q0 6 4) 2 (nar .byte (((own_sh q0 4).toInt32).toInt8.toInt32))) i)) := own_arfSetI Ar14 qq14 S14 M14 H14 G14 (fits_nar_byte _) W15
  have K15 : Keep h0 h15 [a1] := K12.wr W15 (Or.inl (List.mem_of_getElem? (i := 0) rfl))
  have Z15 : n0 ≤ h15.size := Nat.le_trans Z12 (Keep.of_wr W15).1
  have N15 := Fr.snoc X15 N12 g_a1
  refine own_by st15 ?_
  show own_Go p e below _ (T15.setTop (mkF m 25 #[.val (.long q0), .second, .val (.ref a1), .val (.int (1 : Int32)), .val (.int (6 : Int32)), .val (.long (own_sh q0 4)), .second, .val (.int (2 : Int32))] []))
  refine own_by (fun _ k => XS.lload X15.here hx rfl (hb hby d5_25) rfl k) ?_
  show own_Go p e below _ (T15.setTop (mkF m 27 #[.val (.long q0), .second, .val (.ref a1), .val (.int (1 : Int32)), .val (.int (6 : Int32)), .val (.long (own_sh q0 4)), .second, .val (.int (2 : Int32))] [(.long (own_sh q0 4))]))
  refine own_by (fun _ k => XS.bipush X15.here hx rfl (hb hby d5_27) k) ?_
  show own_Go p e below _ (T15.setTop (mkF m 29 #[.val (.long q0), .second, .val (.ref a1), .val (.int (1 : Int32)), .val (.int (6 : Int32)), .val (.long (own_sh q0 4)), .second, .val (.int (2 : Int32))] [(.int (8 : Int32)), (.long (own_sh q0 4))]))
  refine own_by (fun _ k => XS.lushr X15.here hx rfl (hb hby d5_29) rfl k) ?_
  show own_Go p e below _ (T15.setTop (mkF m 30 #[.val (.long q0), .second, .val (.ref a1), .val (.int (1 : Int32)), .val (.int (6 : Int32)), .val (.long (own_sh q0 4)), .second, .val (.int (2 : Int32))] [(.long (((own_sh q0 4).toUInt64 >>> ((8 : Int32) &&& 0x3f).toInt64.toUInt64).toInt64))]))
  refine own_by (fun _ k => XS.lstore X15.here hx rfl (hb hby d5_30) rfl (l' := #[.val (.long q0), .second, .val (.ref a1), .val (.int (1 : Int32)), .val (.int (6 : Int32)), .val (.long (((own_sh q0 4).toUInt64 >>> ((8 : Int32) &&& 0x3f).toInt64.toUInt64).toInt64)), .second, .val (.int (2 : Int32))]) rfl k) ?_
  show own_Go p e below _ (T15.setTop (mkF m 32 #[.val (.long q0), .second, .val (.ref a1), .val (.int (1 : Int32)), .val (.int (6 : Int32)), .val (.long (((own_sh q0 4).toUInt64 >>> ((8 : Int32) &&& 0x3f).toInt64.toUInt64).toInt64)), .second, .val (.int (2 : Int32))] []))
  refine own_by (fun _ k => XS.iinc X15.here hx rfl (hb hby d5_32) rfl (l' := #[.val (.long q0), .second, .val (.ref a1), .val (.int (1 : Int32)), .val (.int (6 : Int32)), .val (.long (((own_sh q0 4).toUInt64 >>> ((8 : Int32) &&& 0x3f).toInt64.toUInt64).toInt64)), .second, .val (.int (1 : Int32))]) rfl k) ?_
  show own_Go p e below _ (T15.setTop (mkF m 35 #[.val (.long q0), .second, .val (.ref a1), .val (.int (1 : Int32)), .val (.int (6 : Int32)), .val (.long (((own_sh q0 4).toUInt64 >>> ((8 : Int32) &&& 0x3f).toInt64.toUInt64).toInt64)), .second, .val (.int (1 : Int32))] []))
  refine own_by (fun _ k => XS.goto X15.here hx rfl (pc0 := 35) (pc' := 11) rfl (hb hby d5_35) (by decide) (by decide) k) ?_
  show own_Go p e below _ (T15.setTop (mkF m 11 #[.val (.long q0), .second, .val (.ref a1), .val (.int (1 : Int32)), .val (.int (6 : Int32)), .val (.long (((own_sh q0 4).toUInt64 >>> ((8 : Int32) &&& 0x3f).toInt64.toUInt64).toInt64)), .second, .val (.int (1 : Int32))] []))
  show own_Go p e below _ (T15.setTop (mkF m 11 #[.val (.long q0), .second, .val (.ref a1), .val (.int (1 : Int32)), .val (.int (6 : Int32)), .val (.long (own_sh q0 5)), .second, .val (.int (1 : Int32))] []))
  have V16 : own_Arf Z h15 a1 k_a1 .byte (7 : Int32) (fun i => .int ((own_wr fn_a1 q0 6 5) i)) := V15
  refine own_by (fun _ k => XS.iload X15.here hx rfl (hb hby d5_11) rfl k) ?_
  show own_Go p e below _ (T15.setTop (mkF m 13 #[.val (.long q0), .second, .val (.ref a1), .val (.int (1 : Int32)), .val (.int (6 : Int32)), .val (.long (own_sh q0 5)), .second, .val (.int (1 : Int32))] [(.int (1 : Int32))]))
  refine own_by (fun _ k => XS.iloadN X15.here hx rfl (hb hby d5_13) rfl k) ?_
  show own_Go p e below _ (T15.setTop (mkF m 14 #[.val (.long q0), .second, .val (.ref a1), .val (.int (1 : Int32)), .val (.int (6 : Int32)), .val (.long (own_sh q0 5)), .second, .val (.int (1 : Int32))] [(.int (1 : Int32)), (.int (1 : Int32))]))
  refine own_by (fun _ k => XS.icmpNo X15.here hx rfl (hb hby d5_14) rfl (flt (by decide : ¬ ((1 : Int32) < (1 : Int32)))).1 k) ?_
  show own_Go p e below _ (T15.setTop (mkF m 17 #[.val (.long q0), .second, .val (.ref a1), .val (.int (1 : Int32)), .val (.int (6 : Int32)), .val (.long (own_sh q0 5)), .second, .val (.int (1 : Int32))] []))
  refine own_by (fun _ k => XS.aloadN X15.here hx rfl (hb hby d5_17) rfl rfl k) ?_
  show own_Go p e below _ (T15.setTop (mkF m 18 #[.val (.long q0), .second, .val (.ref a1), .val (.int (1 : Int32)), .val (.int (6 : Int32)), .val (.long (own_sh q0 5)), .second, .val (.int (1 : Int32))] [(.ref a1)]))
  refine own_by (fun _ k => XS.iload X15.here hx rfl (hb hby d5_18) rfl k) ?_
  show own_Go p e below _ (T15.setTop (mkF m 20 #[.val (.long q0), .second, .val (.ref a1), .val (.int (1 : Int32)), .val (.int (6 : Int32)), .val (.long (own_sh q0 5)), .second, .val (.int (1 : Int32))] [(.int (1 : Int32)), (.ref a1)]))
  refine own_by (fun _ k => XS.lload X15.here hx rfl (hb hby d5_20) rfl k) ?_
  show own_Go p e below _ (T15.setTop (mkF m 22 #[.val (.long q0), .second, .val (.ref a1), .val (.int (1 : Int32)), .val (.int (6 : Int32)), .val (.long (own_sh q0 5)), .second, .val (.int (1 : Int32))] [(.long (own_sh q0 5)), (.int (1 : Int32)), (.ref a1)]))
  refine own_by (fun _ k => XS.l2i X15.here hx rfl (hb hby d5_22) rfl k) ?_
  show own_Go p e below _ (T15.setTop (mkF m 23 #[.val (.long q0), .second, .val (.ref a1), .val (.int (1 : Int32)), .val (.int (6 : Int32)), .val (.long (own_sh q0 5)), .second, .val (.int (1 : Int32))] [(.int ((own_sh q0 5).toInt32)), (.int (1 : Int32)), (.ref a1)]))
  refine own_by (fun _ k => XS.i2b X15.here hx rfl (hb hby d5_23) rfl k) ?_
  show own_Go p e below _ (T15.setTop (mkF m 24 #[.val (.long q0), .second, .val (.ref a1), .val (.int (1 : Int32)), .val (.int (6 : Int32)), .val (.long (own_sh q0 5)), .second, .val (.int (1 : Int32))] [(.int (((own_sh q0 5).toInt32).toInt8.toInt32)), (.int (1 : Int32)), (.ref a1)]))
  obtain ⟨cl17, Ar17, qq17, S17, M17, H17, G17⟩ := id V16
  have hin17 : ¬ ((1 : Int32) < 0 ∨ cl17.slots.size ≤ ((1 : Int32)).toNatClampNeg) := inb_of S17 ⟨by decide, by decide⟩
  obtain ⟨T18, h18, X18, e18, W18, st18⟩ := stB X15 hx hZ e15 Ar17 (j := (1 : Int32)) hin17 (g := (mkF m 24 #[.val (.long q0), .second, .val (.ref a1), .val (.int (1 : Int32)), .val (.int (6 : Int32)), .val (.long (own_sh q0 5)), .second, .val (.int (1 : Int32))] [(.int (((own_sh q0 5).toInt32).toInt8.toInt32)), (.int (1 : Int32)), (.ref a1)])) rfl rfl (hb hby d5_24)
  have V18 : own_Arf Z h18 a1 k_a1 .byte (7 : Int32) (fun i => .int ((own_upd (own_wr fn_a1 q0 6 5) 1 (nar .byte (((own_sh q0 5).toInt32).toInt8.toInt32))) i)) := own_arfSetI Ar17 qq17 S17 M17 H17 G17 (fits_nar_byte _) W18
  have K18 : Keep h0 h18 [a1] := K15.wr W18 (Or.inl (List.mem_of_getElem? (i := 0) rfl))
  have Z18 : n0 ≤ h18.size := Nat.le_trans Z15 (Keep.of_wr W18).1
  have N18 := Fr.snoc X18 N15 g_a1
  refine own_by st18 ?_
  show own_Go p e below _ (T18.setTop (mkF m 25 #[.val (.long q0), .second, .val (.ref a1), .val (.int (1 : Int32)), .val (.int (6 : Int32)), .val (.long (own_sh q0 5)), .second, .val (.int (1 : Int32))] []))
  refine own_by (fun _ k => XS.lload X18.here hx rfl (hb hby d5_25) rfl k) ?_
  show own_Go p e below _ (T18.setTop (mkF m 27 #[.val (.long q0), .second, .val (.ref a1), .val (.int (1 : Int32)), .val (.int (6 : Int32)), .val (.long (own_sh q0 5)), .second, .val (.int (1 : Int32))] [(.long (own_sh q0 5))]))
  refine own_by (fun _ k => XS.bipush X18.here hx rfl (hb hby d5_27) k) ?_
  show own_Go p e below _ (T18.setTop (mkF m 29 #[.val (.long q0), .second, .val (.ref a1), .val (.int (1 : Int32)), .val (.int (6 : Int32)), .val (.long (own_sh q0 5)), .second, .val (.int (1 : Int32))] [(.int (8 : Int32)), (.long (own_sh q0 5))]))
  refine own_by (fun _ k => XS.lushr X18.here hx rfl (hb hby d5_29) rfl k) ?_
  show own_Go p e below _ (T18.setTop (mkF m 30 #[.val (.long q0), .second, .val (.ref a1), .val (.int (1 : Int32)), .val (.int (6 : Int32)), .val (.long (own_sh q0 5)), .second, .val (.int (1 : Int32))] [(.long (((own_sh q0 5).toUInt64 >>> ((8 : Int32) &&& 0x3f).toInt64.toUInt64).toInt64))]))
  refine own_by (fun _ k => XS.lstore X18.here hx rfl (hb hby d5_30) rfl (l' := #[.val (.long q0), .second, .val (.ref a1), .val (.int (1 : Int32)), .val (.int (6 : Int32)), .val (.long (((own_sh q0 5).toUInt64 >>> ((8 : Int32) &&& 0x3f).toInt64.toUInt64).toInt64)), .second, .val (.int (1 : Int32))]) rfl k) ?_
  show own_Go p e below _ (T18.setTop (mkF m 32 #[.val (.long q0), .second, .val (.ref a1), .val (.int (1 : Int32)), .val (.int (6 : Int32)), .val (.long (((own_sh q0 5).toUInt64 >>> ((8 : Int32) &&& 0x3f).toInt64.toUInt64).toInt64)), .second, .val (.int (1 : Int32))] []))
  refine own_by (fun _ k => XS.iinc X18.here hx rfl (hb hby d5_32) rfl (l' := #[.val (.long q0), .second, .val (.ref a1), .val (.int (1 : Int32)), .val (.int (6 : Int32)), .val (.long (((own_sh q0 5).toUInt64 >>> ((8 : Int32) &&& 0x3f).toInt64.toUInt64).toInt64)), .second, .val (.int (0 : Int32))]) rfl k) ?_
  show own_Go p e below _ (T18.setTop (mkF m 35 #[.val (.long q0), .second, .val (.ref a1), .val (.int (1 : Int32)), .val (.int (6 : Int32)), .val (.long (((own_sh q0 5).toUInt64 >>> ((8 : Int32) &&& 0x3f).toInt64.toUInt64).toInt64)), .second, .val (.int (0 : Int32))] []))
  refine own_by (fun _ k => XS.goto X18.here hx rfl (pc0 := 35) (pc' := 11) rfl (hb hby d5_35) (by decide) (by decide) k) ?_
  show own_Go p e below _ (T18.setTop (mkF m 11 #[.val (.long q0), .second, .val (.ref a1), .val (.int (1 : Int32)), .val (.int (6 : Int32)), .val (.long (((own_sh q0 5).toUInt64 >>> ((8 : Int32) &&& 0x3f).toInt64.toUInt64).toInt64)), .second, .val (.int (0 : Int32))] []))
  show own_Go p e below _ (T18.setTop (mkF m 11 #[.val (.long q0), .second, .val (.ref a1), .val (.int (1 : Int32)), .val (.int (6 : Int32)), .val (.long (own_sh q0 6)), .second, .val (.int (0 : Int32))] []))
  have V19 : own_Arf Z h18 a1 k_a1 .byte (7 : Int32) (fun i => .int ((own_wr fn_a1 q0 6 6) i)) := V18
  refine own_by (fun _ k => XS.iload X18.here hx rfl (hb hby d5_11) rfl k) ?_
  show own_Go p e below _ (T18.setTop (mkF m 13 #[.val (.long q0), .second, .val (.ref a1), .val (.int (1 : Int32)), .val (.int (6 : Int32)), .val (.long (own_sh q0 6)), .second, .val (.int (0 : Int32))] [(.int (0 : Int32))]))
  refine own_by (fun _ k => XS.iloadN X18.here hx rfl (hb hby d5_13) rfl k) ?_
  show own_Go p e below _ (T18.setTop (mkF m 14 #[.val (.long q0), .second, .val (.ref a1), .val (.int (1 : Int32)), .val (.int (6 : Int32)), .val (.long (own_sh q0 6)), .second, .val (.int (0 : Int32))] [(.int (1 : Int32)), (.int (0 : Int32))]))
  refine own_by (fun _ k => XS.icmpYes X18.here hx rfl (pc0 := 14) (pc' := 38) rfl (hb hby d5_14) rfl (tlt (by decide : (0 : Int32) < (1 : Int32))).1 (by decide) (by decide) k) ?_
  show own_Go p e below _ (T18.setTop (mkF m 38 #[.val (.long q0), .second, .val (.ref a1), .val (.int (1 : Int32)), .val (.int (6 : Int32)), .val (.long (own_sh q0 6)), .second, .val (.int (0 : Int32))] []))
  exact own_ret0 X18 hx Bd.returns (hb hby d5_38) hlk e18 ⟨rfl, N18, K18, V19⟩ (by decide) (by decide)
theorem pn_wb7 : plainName "com/example/nested_keyspace/nestedkeyspace/TypedParts" = true := by first | (simp [plainName, overriddenIn]; done) | decide +kernel
theorem ef_wb7 (m : MethodId) (q0 : Int64) (a1 : Addr) : entryFrame m #[(.long q0), (.ref a1), (.int (1 : Int32)), (.int (7 : Int32))] 8 = mkF m 0 #[.val (.long q0), .second, .val (.ref a1), .val (.int (1 : Int32)), .val (.int (7 : Int32)), .unset, .unset, .unset] [] := by first | (simp [entryFrame, mkF, argsToLocals, Value.category]; done) | rfl
def Qwb7 (Z : State) (k_a1 : ClassId) (fn_a1 : Nat → Int32) (q0 : Int64) (a1 : Addr) (h0 : Heap) (n0 : Nat) (v : Option Value) (h : Heap) (L : List Loc) : Prop := v = none ∧ Fr n0 L ∧ Keep h0 h [a1] ∧ own_Arf Z h a1 k_a1 .byte (8 : Int32) (fun i => .int ((own_wr fn_a1 q0 7 7) i))
set_option maxRecDepth 65536 in
set_option maxHeartbeats 40000000 in
theorem rmwb7 (l : Launch) (Z : State) (A0 : Array Value) (hw : ∀ d ∈ tables_1, d.before A0 Z = true) (ws : List Jvm.Cond) (k_a1 : ClassId) (fn_a1 : Nat → Int32) (q0 : Int64) (a1 : Addr) (h0 : Heap) (n0 : Nat) (Z0 : n0 ≤ h0.size) (P_V_a1 : own_Arf Z h0 a1 k_a1 .byte (8 : Int32) (fun i => .int (fn_a1 i))) (g_a1 : n0 ≤ a1) :
    MetFree l (⟨"com/example/nested_keyspace/nestedkeyspace/TypedParts", "writeBigEndian", "(J[BII)V"⟩ : MethodName) (head1 (Jvm.Cond.code (⟨"com/example/nested_keyspace/nestedkeyspace/TypedParts", "writeBigEndian", "(J[BII)V"⟩ : MethodName) prog_20_method_14_code 8 none :: ws) ({ frames := 0, cells := 0, slots := 0, locals := 0 } : Room)) (fun a U => a = #[(.long q0), (.ref a1), (.int (1 : Int32)), (.int (7 : Int32))] ∧ Z.Warmed39 U.vm ∧ U.heap = h0) (fun _ _ _ _ _ => True) (fun _ U o U' => ∃ v L, o = .returned v ∧ Qwb7 Z k_a1 fn_a1 q0 a1 h0 n0 v U'.heap L ∧ FrameEnd U o U' L 0 0) := by
  refine MetFree.of_bodySF (plainFor_of_name pn_wb7) hisR ?_
  intro p e s m args below meth c s₁ Bd hml0 hP hK
  obtain ⟨rfl, hZ, hh⟩ := hP
  have hwd := fun i {d : Jvm.Cond} (h : tables_1[i]? = some d) => hw d (List.mem_of_getElem? h)
  have hx := Bd.exec
  have hby := Bd.bytes
  have hml : c.maxLocals = 8 := hml0
  have hlk : meth.locks = false := Bd.notSynchronized
  have hown : s.vm.findClass "com/example/nested_keyspace/nestedkeyspace/TypedParts" = some m.cls := findClass_of_methodNamed Bd.named
  have hnm := (name_of_methodNamed Bd.named Bd.method).1
  have X0 : Stand p l e ({ frames := 0, cells := 0, slots := 0, locals := 0 } : Room) s m #[(.long q0), (.ref a1), (.int (1 : Int32)), (.int (7 : Int32))] below meth c s₁ [] 0 0 := Stand.of_body Bd
  have e0 : s₁.heap = h0 := by rw [← hh, Bd.state]; rfl
  have N0 := Fr.nil n0
  show own_Go p e below (own_Fin s 0 0 (Qwb7 Z k_a1 fn_a1 q0 a1 h0 n0)) _
  refine own_by (fun t k => castTop (ef_wb7 m q0 a1) k) ?_
  show own_Go p e below _ (s₁.setTop (mkF m 0 #[.val (.long q0), .second, .val (.ref a1), .val (.int (1 : Int32)), .val (.int (7 : Int32)), .unset, .unset, .unset] []))
  refine own_by (fun _ k => XS.lloadN X0.here hx rfl (hb hby d5_0) rfl k) ?_
  show own_Go p e below _ (s₁.setTop (mkF m 1 #[.val (.long q0), .second, .val (.ref a1), .val (.int (1 : Int32)), .val (.int (7 : Int32)), .unset, .unset, .unset] [(.long q0)]))
  refine own_by (fun _ k => XS.lstore X0.here hx rfl (hb hby d5_1) rfl (l' := #[.val (.long q0), .second, .val (.ref a1), .val (.int (1 : Int32)), .val (.int (7 : Int32)), .val (.long q0), .second, .unset]) rfl k) ?_
  show own_Go p e below _ (s₁.setTop (mkF m 3 #[.val (.long q0), .second, .val (.ref a1), .val (.int (1 : Int32)), .val (.int (7 : Int32)), .val (.long q0), .second, .unset] []))
  refine own_by (fun _ k => XS.iloadN X0.here hx rfl (hb hby d5_3) rfl k) ?_
  show own_Go p e below _ (s₁.setTop (mkF m 4 #[.val (.long q0), .second, .val (.ref a1), .val (.int (1 : Int32)), .val (.int (7 : Int32)), .val (.long q0), .second, .unset] [(.int (1 : Int32))]))
  refine own_by (fun _ k => XS.iload X0.here hx rfl (hb hby d5_4) rfl k) ?_
  show own_Go p e below _ (s₁.setTop (mkF m 6 #[.val (.long q0), .second, .val (.ref a1), .val (.int (1 : Int32)), .val (.int (7 : Int32)), .val (.long q0), .second, .unset] [(.int (7 : Int32)), (.int (1 : Int32))]))
  refine own_by (fun _ k => XS.iadd X0.here hx rfl (hb hby d5_6) rfl k) ?_
  show own_Go p e below _ (s₁.setTop (mkF m 7 #[.val (.long q0), .second, .val (.ref a1), .val (.int (1 : Int32)), .val (.int (7 : Int32)), .val (.long q0), .second, .unset] [(.int (8 : Int32))]))
  refine own_by (fun _ k => XS.iconst X0.here hx rfl (hb hby d5_7) k) ?_
  show own_Go p e below _ (s₁.setTop (mkF m 8 #[.val (.long q0), .second, .val (.ref a1), .val (.int (1 : Int32)), .val (.int (7 : Int32)), .val (.long q0), .second, .unset] [(.int (1 : Int32)), (.int (8 : Int32))]))
  refine own_by (fun _ k => XS.isub X0.here hx rfl (hb hby d5_8) rfl k) ?_
  show own_Go p e below _ (s₁.setTop (mkF m 9 #[.val (.long q0), .second, .val (.ref a1), .val (.int (1 : Int32)), .val (.int (7 : Int32)), .val (.long q0), .second, .unset] [(.int (7 : Int32))]))
  refine own_by (fun _ k => XS.istore X0.here hx rfl (hb hby d5_9) rfl (l' := #[.val (.long q0), .second, .val (.ref a1), .val (.int (1 : Int32)), .val (.int (7 : Int32)), .val (.long q0), .second, .val (.int (7 : Int32))]) rfl k) ?_
  show own_Go p e below _ (s₁.setTop (mkF m 11 #[.val (.long q0), .second, .val (.ref a1), .val (.int (1 : Int32)), .val (.int (7 : Int32)), .val (.long q0), .second, .val (.int (7 : Int32))] []))
  show own_Go p e below _ (s₁.setTop (mkF m 11 #[.val (.long q0), .second, .val (.ref a1), .val (.int (1 : Int32)), .val (.int (7 : Int32)), .val (.long (own_sh q0 0)), .second, .val (.int (7 : Int32))] []))
  show own_Go p e below _ (s₁.setTop (mkF m 11 #[.val (.long q0), .second, .val (.ref a1), .val (.int (1 : Int32)), .val (.int (7 : Int32)), .val (.long (own_sh q0 0)), .second, .val (.int (7 : Int32))] []))
  have V1 : own_Arf Z h0 a1 k_a1 .byte (8 : Int32) (fun i => .int ((own_wr fn_a1 q0 7 0) i)) := P_V_a1
  refine own_by (fun _ k => XS.iload X0.here hx rfl (hb hby d5_11) rfl k) ?_
  show own_Go p e below _ (s₁.setTop (mkF m 13 #[.val (.long q0), .second, .val (.ref a1), .val (.int (1 : Int32)), .val (.int (7 : Int32)), .val (.long (own_sh q0 0)), .second, .val (.int (7 : Int32))] [(.int (7 : Int32))]))
  refine own_by (fun _ k => XS.iloadN X0.here hx rfl (hb hby d5_13) rfl k) ?_
  show own_Go p e below _ (s₁.setTop (mkF m 14 #[.val (.long q0), .second, .val (.ref a1), .val (.int (1 : Int32)), .val (.int (7 : Int32)), .val (.long (own_sh q0 0)), .second, .val (.int (7 : Int32))] [(.int (1 : Int32)), (.int (7 : Int32))]))
  refine own_by (fun _ k => XS.icmpNo X0.here hx rfl (hb hby d5_14) rfl (flt (by decide : ¬ ((7 : Int32) < (1 : Int32)))).1 k) ?_
  show own_Go p e below _ (s₁.setTop (mkF m 17 #[.val (.long q0), .second, .val (.ref a1), .val (.int (1 : Int32)), .val (.int (7 : Int32)), .val (.long (own_sh q0 0)), .second, .val (.int (7 : Int32))] []))
  refine own_by (fun _ k => XS.aloadN X0.here hx rfl (hb hby d5_17) rfl rfl k) ?_
  show own_Go p e below _ (s₁.setTop (mkF m 18 #[.val (.long q0), .second, .val (.ref a1), .val (.int (1 : Int32)), .val (.int (7 : Int32)), .val (.long (own_sh q0 0)), .second, .val (.int (7 : Int32))] [(.ref a1)]))
  refine own_by (fun _ k => XS.iload X0.here hx rfl (hb hby d5_18) rfl k) ?_
  show own_Go p e below _ (s₁.setTop (mkF m 20 #[.val (.long q0), .second, .val (.ref a1), .val (.int (1 : Int32)), .val (.int (7 : Int32)), .val (.long (own_sh q0 0)), .second, .val (.int (7 : Int32))] [(.int (7 : Int32)), (.ref a1)]))
  refine own_by (fun _ k => XS.lload X0.here hx rfl (hb hby d5_20) rfl k) ?_
  show own_Go p e below _ (s₁.setTop (mkF m 22 #[.val (.long q0), .second, .val (.ref a1), .val (.int (1 : Int32)), .val (.int (7 : Int32)), .val (.long (own_sh q0 0)), .second, .val (.int (7 : Int32))] [(.long (own_sh q0 0)), (.int (7 : Int32)), (.ref a1)]))
  refine own_by (fun _ k => XS.l2i X0.here hx rfl (hb hby d5_22) rfl k) ?_
  show own_Go p e below _ (s₁.setTop (mkF m 23 #[.val (.long q0), .second, .val (.ref a1), .val (.int (1 : Int32)), .val (.int (7 : Int32)), .val (.long (own_sh q0 0)), .second, .val (.int (7 : Int32))] [(.int ((own_sh q0 0).toInt32)), (.int (7 : Int32)), (.ref a1)]))
  refine own_by (fun _ k => XS.i2b X0.here hx rfl (hb hby d5_23) rfl k) ?_
  show own_Go p e below _ (s₁.setTop (mkF m 24 #[.val (.long q0), .second, .val (.ref a1), .val (.int (1 : Int32)), .val (.int (7 : Int32)), .val (.long (own_sh q0 0)), .second, .val (.int (7 : Int32))] [(.int (((own_sh q0 0).toInt32).toInt8.toInt32)), (.int (7 : Int32)), (.ref a1)]))
  obtain ⟨cl2, Ar2, qq2, S2, M2, H2, G2⟩ := id V1
  have hin2 : ¬ ((7 : Int32) < 0 ∨ cl2.slots.size ≤ ((7 : Int32)).toNatClampNeg) := inb_of S2 ⟨by decide, by decide⟩
  obtain ⟨T3, h3, X3, e3, W3, st3⟩ := stB X0 hx hZ e0 Ar2 (j := (7 : Int32)) hin2 (g := (mkF m 24 #[.val (.long q0), .second, .val (.ref a1), .val (.int (1 : Int32)), .val (.int (7 : Int32)), .val (.long (own_sh q0 0)), .second, .val (.int (7 : Int32))] [(.int (((own_sh q0 0).toInt32).toInt8.toInt32)), (.int (7 : Int32)), (.ref a1)])) rfl rfl (hb hby d5_24)
  have V3 : own_Arf Z h3 a1 k_a1 .byte (8 : Int32) (fun i => .int ((own_upd (own_wr fn_a1 q0 7 0) 7 (nar .byte (((own_sh q0 0).toInt32).toInt8.toInt32))) i)) := own_arfSetI Ar2 qq2 S2 M2 H2 G2 (fits_nar_byte _) W3
  have K3 : Keep h0 h3 [a1] := (Keep.refl h0 [a1]).wr W3 (Or.inl (List.mem_of_getElem? (i := 0) rfl))
  have Z3 : n0 ≤ h3.size := Nat.le_trans Z0 (Keep.of_wr W3).1
  have N3 := Fr.snoc X3 N0 g_a1
  refine own_by st3 ?_
  show own_Go p e below _ (T3.setTop (mkF m 25 #[.val (.long q0), .second, .val (.ref a1), .val (.int (1 : Int32)), .val (.int (7 : Int32)), .val (.long (own_sh q0 0)), .second, .val (.int (7 : Int32))] []))
  refine own_by (fun _ k => XS.lload X3.here hx rfl (hb hby d5_25) rfl k) ?_
  show own_Go p e below _ (T3.setTop (mkF m 27 #[.val (.long q0), .second, .val (.ref a1), .val (.int (1 : Int32)), .val (.int (7 : Int32)), .val (.long (own_sh q0 0)), .second, .val (.int (7 : Int32))] [(.long (own_sh q0 0))]))
  refine own_by (fun _ k => XS.bipush X3.here hx rfl (hb hby d5_27) k) ?_
  show own_Go p e below _ (T3.setTop (mkF m 29 #[.val (.long q0), .second, .val (.ref a1), .val (.int (1 : Int32)), .val (.int (7 : Int32)), .val (.long (own_sh q0 0)), .second, .val (.int (7 : Int32))] [(.int (8 : Int32)), (.long (own_sh q0 0))]))
  refine own_by (fun _ k => XS.lushr X3.here hx rfl (hb hby d5_29) rfl k) ?_
  show own_Go p e below _ (T3.setTop (mkF m 30 #[.val (.long q0), .second, .val (.ref a1), .val (.int (1 : Int32)), .val (.int (7 : Int32)), .val (.long (own_sh q0 0)), .second, .val (.int (7 : Int32))] [(.long (((own_sh q0 0).toUInt64 >>> ((8 : Int32) &&& 0x3f).toInt64.toUInt64).toInt64))]))
  refine own_by (fun _ k => XS.lstore X3.here hx rfl (hb hby d5_30) rfl (l' := #[.val (.long q0), .second, .val (.ref a1), .val (.int (1 : Int32)), .val (.int (7 : Int32)), .val (.long (((own_sh q0 0).toUInt64 >>> ((8 : Int32) &&& 0x3f).toInt64.toUInt64).toInt64)), .second, .val (.int (7 : Int32))]) rfl k) ?_
  show own_Go p e below _ (T3.setTop (mkF m 32 #[.val (.long q0), .second, .val (.ref a1), .val (.int (1 : Int32)), .val (.int (7 : Int32)), .val (.long (((own_sh q0 0).toUInt64 >>> ((8 : Int32) &&& 0x3f).toInt64.toUInt64).toInt64)), .second, .val (.int (7 : Int32))] []))
  refine own_by (fun _ k => XS.iinc X3.here hx rfl (hb hby d5_32) rfl (l' := #[.val (.long q0), .second, .val (.ref a1), .val (.int (1 : Int32)), .val (.int (7 : Int32)), .val (.long (((own_sh q0 0).toUInt64 >>> ((8 : Int32) &&& 0x3f).toInt64.toUInt64).toInt64)), .second, .val (.int (6 : Int32))]) rfl k) ?_
  show own_Go p e below _ (T3.setTop (mkF m 35 #[.val (.long q0), .second, .val (.ref a1), .val (.int (1 : Int32)), .val (.int (7 : Int32)), .val (.long (((own_sh q0 0).toUInt64 >>> ((8 : Int32) &&& 0x3f).toInt64.toUInt64).toInt64)), .second, .val (.int (6 : Int32))] []))
  refine own_by (fun _ k => XS.goto X3.here hx rfl (pc0 := 35) (pc' := 11) rfl (hb hby d5_35) (by decide) (by decide) k) ?_
  show own_Go p e below _ (T3.setTop (mkF m 11 #[.val (.long q0), .second, .val (.ref a1), .val (.int (1 : Int32)), .val (.int (7 : Int32)), .val (.long (((own_sh q0 0).toUInt64 >>> ((8 : Int32) &&& 0x3f).toInt64.toUInt64).toInt64)), .second, .val (.int (6 : Int32))] []))
  show own_Go p e below _ (T3.setTop (mkF m 11 #[.val (.long q0), .second, .val (.ref a1), .val (.int (1 : Int32)), .val (.int (7 : Int32)), .val (.long (own_sh q0 1)), .second, .val (.int (6 : Int32))] []))
  have V4 : own_Arf Z h3 a1 k_a1 .byte (8 : Int32) (fun i => .int ((own_wr fn_a1 q0 7 1) i)) := V3
  refine own_by (fun _ k => XS.iload X3.here hx rfl (hb hby d5_11) rfl k) ?_
  show own_Go p e below _ (T3.setTop (mkF m 13 #[.val (.long q0), .second, .val (.ref a1), .val (.int (1 : Int32)), .val (.int (7 : Int32)), .val (.long (own_sh q0 1)), .second, .val (.int (6 : Int32))] [(.int (6 : Int32))]))
  refine own_by (fun _ k => XS.iloadN X3.here hx rfl (hb hby d5_13) rfl k) ?_
  show own_Go p e below _ (T3.setTop (mkF m 14 #[.val (.long q0), .second, .val (.ref a1), .val (.int (1 : Int32)), .val (.int (7 : Int32)), .val (.long (own_sh q0 1)), .second, .val (.int (6 : Int32))] [(.int (1 : Int32)), (.int (6 : Int32))]))
  refine own_by (fun _ k => XS.icmpNo X3.here hx rfl (hb hby d5_14) rfl (flt (by decide : ¬ ((6 : Int32) < (1 : Int32)))).1 k) ?_
  show own_Go p e below _ (T3.setTop (mkF m 17 #[.val (.long q0), .second, .val (.ref a1), .val (.int (1 : Int32)), .val (.int (7 : Int32)), .val (.long (own_sh q0 1)), .second, .val (.int (6 : Int32))] []))
  refine own_by (fun _ k => XS.aloadN X3.here hx rfl (hb hby d5_17) rfl rfl k) ?_
  show own_Go p e below _ (T3.setTop (mkF m 18 #[.val (.long q0), .second, .val (.ref a1), .val (.int (1 : Int32)), .val (.int (7 : Int32)), .val (.long (own_sh q0 1)), .second, .val (.int (6 : Int32))] [(.ref a1)]))
  refine own_by (fun _ k => XS.iload X3.here hx rfl (hb hby d5_18) rfl k) ?_
  show own_Go p e below _ (T3.setTop (mkF m 20 #[.val (.long q0), .second, .val (.ref a1), .val (.int (1 : Int32)), .val (.int (7 : Int32)), .val (.long (own_sh q0 1)), .second, .val (.int (6 : Int32))] [(.int (6 : Int32)), (.ref a1)]))
  refine own_by (fun _ k => XS.lload X3.here hx rfl (hb hby d5_20) rfl k) ?_
  show own_Go p e below _ (T3.setTop (mkF m 22 #[.val (.long q0), .second, .val (.ref a1), .val (.int (1 : Int32)), .val (.int (7 : Int32)), .val (.long (own_sh q0 1)), .second, .val (.int (6 : Int32))] [(.long (own_sh q0 1)), (.int (6 : Int32)), (.ref a1)]))
  refine own_by (fun _ k => XS.l2i X3.here hx rfl (hb hby d5_22) rfl k) ?_
  show own_Go p e below _ (T3.setTop (mkF m 23 #[.val (.long q0), .second, .val (.ref a1), .val (.int (1 : Int32)), .val (.int (7 : Int32)), .val (.long (own_sh q0 1)), .second, .val (.int (6 : Int32))] [(.int ((own_sh q0 1).toInt32)), (.int (6 : Int32)), (.ref a1)]))
  refine own_by (fun _ k => XS.i2b X3.here hx rfl (hb hby d5_23) rfl k) ?_
  show own_Go p e below _ (T3.setTop (mkF m 24 #[.val (.long q0), .second, .val (.ref a1), .val (.int (1 : Int32)), .val (.int (7 : Int32)), .val (.long (own_sh q0 1)), .second, .val (.int (6 : Int32))] [(.int (((own_sh q0 1).toInt32).toInt8.toInt32)), (.int (6 : Int32)), (.ref a1)]))
  obtain ⟨cl5, Ar5, qq5, S5, M5, H5, G5⟩ := id V4
  have hin5 : ¬ ((6 : Int32) < 0 ∨ cl5.slots.size ≤ ((6 : Int32)).toNatClampNeg) := inb_of S5 ⟨by decide, by decide⟩
  obtain ⟨T6, h6, X6, e6, W6, st6⟩ := stB X3 hx hZ e3 Ar5 (j := (6 : Int32)) hin5 (g := (mkF m 24 #[.val (.long q0), .second, .val (.ref a1), .val (.int (1 : Int32)), .val (.int (7 : Int32)), .val (.long (own_sh q0 1)), .second, .val (.int (6 : Int32))] [(.int (((own_sh q0 1).toInt32).toInt8.toInt32)), (.int (6 : Int32)), (.ref a1)])) rfl rfl (hb hby d5_24)
  have V6 : own_Arf Z h6 a1 k_a1 .byte (8 : Int32) (fun i => .int ((own_upd (own_wr fn_a1 q0 7 1) 6 (nar .byte (((own_sh q0 1).toInt32).toInt8.toInt32))) i)) := own_arfSetI Ar5 qq5 S5 M5 H5 G5 (fits_nar_byte _) W6
  have K6 : Keep h0 h6 [a1] := K3.wr W6 (Or.inl (List.mem_of_getElem? (i := 0) rfl))
  have Z6 : n0 ≤ h6.size := Nat.le_trans Z3 (Keep.of_wr W6).1
  have N6 := Fr.snoc X6 N3 g_a1
  refine own_by st6 ?_
  show own_Go p e below _ (T6.setTop (mkF m 25 #[.val (.long q0), .second, .val (.ref a1), .val (.int (1 : Int32)), .val (.int (7 : Int32)), .val (.long (own_sh q0 1)), .second, .val (.int (6 : Int32))] []))
  refine own_by (fun _ k => XS.lload X6.here hx rfl (hb hby d5_25) rfl k) ?_
  show own_Go p e below _ (T6.setTop (mkF m 27 #[.val (.long q0), .second, .val (.ref a1), .val (.int (1 : Int32)), .val (.int (7 : Int32)), .val (.long (own_sh q0 1)), .second, .val (.int (6 : Int32))] [(.long (own_sh q0 1))]))
  refine own_by (fun _ k => XS.bipush X6.here hx rfl (hb hby d5_27) k) ?_
  show own_Go p e below _ (T6.setTop (mkF m 29 #[.val (.long q0), .second, .val (.ref a1), .val (.int (1 : Int32)), .val (.int (7 : Int32)), .val (.long (own_sh q0 1)), .second, .val (.int (6 : Int32))] [(.int (8 : Int32)), (.long (own_sh q0 1))]))
  refine own_by (fun _ k => XS.lushr X6.here hx rfl (hb hby d5_29) rfl k) ?_
  show own_Go p e below _ (T6.setTop (mkF m 30 #[.val (.long q0), .second, .val (.ref a1), .val (.int (1 : Int32)), .val (.int (7 : Int32)), .val (.long (own_sh q0 1)), .second, .val (.int (6 : Int32))] [(.long (((own_sh q0 1).toUInt64 >>> ((8 : Int32) &&& 0x3f).toInt64.toUInt64).toInt64))]))
  refine own_by (fun _ k => XS.lstore X6.here hx rfl (hb hby d5_30) rfl (l' := #[.val (.long q0), .second, .val (.ref a1), .val (.int (1 : Int32)), .val (.int (7 : Int32)), .val (.long (((own_sh q0 1).toUInt64 >>> ((8 : Int32) &&& 0x3f).toInt64.toUInt64).toInt64)), .second, .val (.int (6 : Int32))]) rfl k) ?_
  show own_Go p e below _ (T6.setTop (mkF m 32 #[.val (.long q0), .second, .val (.ref a1), .val (.int (1 : Int32)), .val (.int (7 : Int32)), .val (.long (((own_sh q0 1).toUInt64 >>> ((8 : Int32) &&& 0x3f).toInt64.toUInt64).toInt64)), .second, .val (.int (6 : Int32))] []))
  refine own_by (fun _ k => XS.iinc X6.here hx rfl (hb hby d5_32) rfl (l' := #[.val (.long q0), .second, .val (.ref a1), .val (.int (1 : Int32)), .val (.int (7 : Int32)), .val (.long (((own_sh q0 1).toUInt64 >>> ((8 : Int32) &&& 0x3f).toInt64.toUInt64).toInt64)), .second, .val (.int (5 : Int32))]) rfl k) ?_
  show own_Go p e below _ (T6.setTop (mkF m 35 #[.val (.long q0), .second, .val (.ref a1), .val (.int (1 : Int32)), .val (.int (7 : Int32)), .val (.long (((own_sh q0 1).toUInt64 >>> ((8 : Int32) &&& 0x3f).toInt64.toUInt64).toInt64)), .second, .val (.int (5 : Int32))] []))
  refine own_by (fun _ k => XS.goto X6.here hx rfl (pc0 := 35) (pc' := 11) rfl (hb hby d5_35) (by decide) (by decide) k) ?_
  show own_Go p e below _ (T6.setTop (mkF m 11 #[.val (.long q0), .second, .val (.ref a1), .val (.int (1 : Int32)), .val (.int (7 : Int32)), .val (.long (((own_sh q0 1).toUInt64 >>> ((8 : Int32) &&& 0x3f).toInt64.toUInt64).toInt64)), .second, .val (.int (5 : Int32))] []))
  show own_Go p e below _ (T6.setTop (mkF m 11 #[.val (.long q0), .second, .val (.ref a1), .val (.int (1 : Int32)), .val (.int (7 : Int32)), .val (.long (own_sh q0 2)), .second, .val (.int (5 : Int32))] []))
  have V7 : own_Arf Z h6 a1 k_a1 .byte (8 : Int32) (fun i => .int ((own_wr fn_a1 q0 7 2) i)) := V6
  refine own_by (fun _ k => XS.iload X6.here hx rfl (hb hby d5_11) rfl k) ?_
  show own_Go p e below _ (T6.setTop (mkF m 13 #[.val (.long q0), .second, .val (.ref a1), .val (.int (1 : Int32)), .val (.int (7 : Int32)), .val (.long (own_sh q0 2)), .second, .val (.int (5 : Int32))] [(.int (5 : Int32))]))
  refine own_by (fun _ k => XS.iloadN X6.here hx rfl (hb hby d5_13) rfl k) ?_
  show own_Go p e below _ (T6.setTop (mkF m 14 #[.val (.long q0), .second, .val (.ref a1), .val (.int (1 : Int32)), .val (.int (7 : Int32)), .val (.long (own_sh q0 2)), .second, .val (.int (5 : Int32))] [(.int (1 : Int32)), (.int (5 : Int32))]))
  refine own_by (fun _ k => XS.icmpNo X6.here hx rfl (hb hby d5_14) rfl (flt (by decide : ¬ ((5 : Int32) < (1 : Int32)))).1 k) ?_
  show own_Go p e below _ (T6.setTop (mkF m 17 #[.val (.long q0), .second, .val (.ref a1), .val (.int (1 : Int32)), .val (.int (7 : Int32)), .val (.long (own_sh q0 2)), .second, .val (.int (5 : Int32))] []))
  refine own_by (fun _ k => XS.aloadN X6.here hx rfl (hb hby d5_17) rfl rfl k) ?_
  show own_Go p e below _ (T6.setTop (mkF m 18 #[.val (.long q0), .second, .val (.ref a1), .val (.int (1 : Int32)), .val (.int (7 : Int32)), .val (.long (own_sh q0 2)), .second, .val (.int (5 : Int32))] [(.ref a1)]))
  refine own_by (fun _ k => XS.iload X6.here hx rfl (hb hby d5_18) rfl k) ?_
  show own_Go p e below _ (T6.setTop (mkF m 20 #[.val (.long q0), .second, .val (.ref a1), .val (.int (1 : Int32)), .val (.int (7 : Int32)), .val (.long (own_sh q0 2)), .second, .val (.int (5 : Int32))] [(.int (5 : Int32)), (.ref a1)]))
  refine own_by (fun _ k => XS.lload X6.here hx rfl (hb hby d5_20) rfl k) ?_
  show own_Go p e below _ (T6.setTop (mkF m 22 #[.val (.long q0), .second, .val (.ref a1), .val (.int (1 : Int32)), .val (.int (7 : Int32)), .val (.long (own_sh q0 2)), .second, .val (.int (5 : Int32))] [(.long (own_sh q0 2)), (.int (5 : Int32)), (.ref a1)]))
  refine own_by (fun _ k => XS.l2i X6.here hx rfl (hb hby d5_22) rfl k) ?_
  show own_Go p e below _ (T6.setTop (mkF m 23 #[.val (.long q0), .second, .val (.ref a1), .val (.int (1 : Int32)), .val (.int (7 : Int32)), .val (.long (own_sh q0 2)), .second, .val (.int (5 : Int32))] [(.int ((own_sh q0 2).toInt32)), (.int (5 : Int32)), (.ref a1)]))
  refine own_by (fun _ k => XS.i2b X6.here hx rfl (hb hby d5_23) rfl k) ?_
  show own_Go p e below _ (T6.setTop (mkF m 24 #[.val (.long q0), .second, .val (.ref a1), .val (.int (1 : Int32)), .val (.int (7 : Int32)), .val (.long (own_sh q0 2)), .second, .val (.int (5 : Int32))] [(.int (((own_sh q0 2).toInt32).toInt8.toInt32)), (.int (5 : Int32)), (.ref a1)]))
  obtain ⟨cl8, Ar8, qq8, S8, M8, H8, G8⟩ := id V7
  have hin8 : ¬ ((5 : Int32) < 0 ∨ cl8.slots.size ≤ ((5 : Int32)).toNatClampNeg) := inb_of S8 ⟨by decide, by decide⟩
  obtain ⟨T9, h9, X9, e9, W9, st9⟩ := stB X6 hx hZ e6 Ar8 (j := (5 : Int32)) hin8 (g := (mkF m 24 #[.val (.long q0), .second, .val (.ref a1), .val (.int (1 : Int32)), .val (.int (7 : Int32)), .val (.long (own_sh q0 2)), .second, .val (.int (5 : Int32))] [(.int (((own_sh q0 2).toInt32).toInt8.toInt32)), (.int (5 : Int32)), (.ref a1)])) rfl rfl (hb hby d5_24)
  have V9 : own_Arf Z h9 a1 k_a1 .byte (8 : Int32) (fun i => .int ((own_upd (own_wr fn_a1 q0 7 2) 5 (nar .byte (((own_sh q0 2).toInt32).toInt8.toInt32))) i)) := own_arfSetI Ar8 qq8 S8 M8 H8 G8 (fits_nar_byte _) W9
  have K9 : Keep h0 h9 [a1] := K6.wr W9 (Or.inl (List.mem_of_getElem? (i := 0) rfl))
  have Z9 : n0 ≤ h9.size := Nat.le_trans Z6 (Keep.of_wr W9).1
  have N9 := Fr.snoc X9 N6 g_a1
  refine own_by st9 ?_
  show own_Go p e below _ (T9.setTop (mkF m 25 #[.val (.long q0), .second, .val (.ref a1), .val (.int (1 : Int32)), .val (.int (7 : Int32)), .val (.long (own_sh q0 2)), .second, .val (.int (5 : Int32))] []))
  refine own_by (fun _ k => XS.lload X9.here hx rfl (hb hby d5_25) rfl k) ?_
  show own_Go p e below _ (T9.setTop (mkF m 27 #[.val (.long q0), .second, .val (.ref a1), .val (.int (1 : Int32)), .val (.int (7 : Int32)), .val (.long (own_sh q0 2)), .second, .val (.int (5 : Int32))] [(.long (own_sh q0 2))]))
  refine own_by (fun _ k => XS.bipush X9.here hx rfl (hb hby d5_27) k) ?_
  show own_Go p e below _ (T9.setTop (mkF m 29 #[.val (.long q0), .second, .val (.ref a1), .val (.int (1 : Int32)), .val (.int (7 : Int32)), .val (.long (own_sh q0 2)), .second, .val (.int (5 : Int32))] [(.int (8 : Int32)), (.long (own_sh q0 2))]))
  refine own_by (fun _ k => XS.lushr X9.here hx rfl (hb hby d5_29) rfl k) ?_
  show own_Go p e below _ (T9.setTop (mkF m 30 #[.val (.long q0), .second, .val (.ref a1), .val (.int (1 : Int32)), .val (.int (7 : Int32)), .val (.long (own_sh q0 2)), .second, .val (.int (5 : Int32))] [(.long (((own_sh q0 2).toUInt64 >>> ((8 : Int32) &&& 0x3f).toInt64.toUInt64).toInt64))]))
  refine own_by (fun _ k => XS.lstore X9.here hx rfl (hb hby d5_30) rfl (l' := #[.val (.long q0), .second, .val (.ref a1), .val (.int (1 : Int32)), .val (.int (7 : Int32)), .val (.long (((own_sh q0 2).toUInt64 >>> ((8 : Int32) &&& 0x3f).toInt64.toUInt64).toInt64)), .second, .val (.int (5 : Int32))]) rfl k) ?_
  show own_Go p e below _ (T9.setTop (mkF m 32 #[.val (.long q0), .second, .val (.ref a1), .val (.int (1 : Int32)), .val (.int (7 : Int32)), .val (.long (((own_sh q0 2).toUInt64 >>> ((8 : Int32) &&& 0x3f).toInt64.toUInt64).toInt64)), .second, .val (.int (5 : Int32))] []))
  refine own_by (fun _ k => XS.iinc X9.here hx rfl (hb hby d5_32) rfl (l' := #[.val (.long q0), .second, .val (.ref a1), .val (.int (1 : Int32)), .val (.int (7 : Int32)), .val (.long (((own_sh q0 2).toUInt64 >>> ((8 : Int32) &&& 0x3f).toInt64.toUInt64).toInt64)), .second, .val (.int (4 : Int32))]) rfl k) ?_
  show own_Go p e below _ (T9.setTop (mkF m 35 #[.val (.long q0), .second, .val (.ref a1), .val (.int (1 : Int32)), .val (.int (7 : Int32)), .val (.long (((own_sh q0 2).toUInt64 >>> ((8 : Int32) &&& 0x3f).toInt64.toUInt64).toInt64)), .second, .val (.int (4 : Int32))] []))
  refine own_by (fun _ k => XS.goto X9.here hx rfl (pc0 := 35) (pc' := 11) rfl (hb hby d5_35) (by decide) (by decide) k) ?_
  show own_Go p e below _ (T9.setTop (mkF m 11 #[.val (.long q0), .second, .val (.ref a1), .val (.int (1 : Int32)), .val (.int (7 : Int32)), .val (.long (((own_sh q0 2).toUInt64 >>> ((8 : Int32) &&& 0x3f).toInt64.toUInt64).toInt64)), .second, .val (.int (4 : Int32))] []))
  show own_Go p e below _ (T9.setTop (mkF m 11 #[.val (.long q0), .second, .val (.ref a1), .val (.int (1 : Int32)), .val (.int (7 : Int32)), .val (.long (own_sh q0 3)), .second, .val (.int (4 : Int32))] []))
  have V10 : own_Arf Z h9 a1 k_a1 .byte (8 : Int32) (fun i => .int ((own_wr fn_a1 q0 7 3) i)) := V9
  refine own_by (fun _ k => XS.iload X9.here hx rfl (hb hby d5_11) rfl k) ?_
  show own_Go p e below _ (T9.setTop (mkF m 13 #[.val (.long q0), .second, .val (.ref a1), .val (.int (1 : Int32)), .val (.int (7 : Int32)), .val (.long (own_sh q0 3)), .second, .val (.int (4 : Int32))] [(.int (4 : Int32))]))
  refine own_by (fun _ k => XS.iloadN X9.here hx rfl (hb hby d5_13) rfl k) ?_
  show own_Go p e below _ (T9.setTop (mkF m 14 #[.val (.long q0), .second, .val (.ref a1), .val (.int (1 : Int32)), .val (.int (7 : Int32)), .val (.long (own_sh q0 3)), .second, .val (.int (4 : Int32))] [(.int (1 : Int32)), (.int (4 : Int32))]))
  refine own_by (fun _ k => XS.icmpNo X9.here hx rfl (hb hby d5_14) rfl (flt (by decide : ¬ ((4 : Int32) < (1 : Int32)))).1 k) ?_
  show own_Go p e below _ (T9.setTop (mkF m 17 #[.val (.long q0), .second, .val (.ref a1), .val (.int (1 : Int32)), .val (.int (7 : Int32)), .val (.long (own_sh q0 3)), .second, .val (.int (4 : Int32))] []))
  refine own_by (fun _ k => XS.aloadN X9.here hx rfl (hb hby d5_17) rfl rfl k) ?_
  show own_Go p e below _ (T9.setTop (mkF m 18 #[.val (.long q0), .second, .val (.ref a1), .val (.int (1 : Int32)), .val (.int (7 : Int32)), .val (.long (own_sh q0 3)), .second, .val (.int (4 : Int32))] [(.ref a1)]))
  refine own_by (fun _ k => XS.iload X9.here hx rfl (hb hby d5_18) rfl k) ?_
  show own_Go p e below _ (T9.setTop (mkF m 20 #[.val (.long q0), .second, .val (.ref a1), .val (.int (1 : Int32)), .val (.int (7 : Int32)), .val (.long (own_sh q0 3)), .second, .val (.int (4 : Int32))] [(.int (4 : Int32)), (.ref a1)]))
  refine own_by (fun _ k => XS.lload X9.here hx rfl (hb hby d5_20) rfl k) ?_
  show own_Go p e below _ (T9.setTop (mkF m 22 #[.val (.long q0), .second, .val (.ref a1), .val (.int (1 : Int32)), .val (.int (7 : Int32)), .val (.long (own_sh q0 3)), .second, .val (.int (4 : Int32))] [(.long (own_sh q0 3)), (.int (4 : Int32)), (.ref a1)]))
  refine own_by (fun _ k => XS.l2i X9.here hx rfl (hb hby d5_22) rfl k) ?_
  show own_Go p e below _ (T9.setTop (mkF m 23 #[.val (.long q0), .second, .val (.ref a1), .val (.int (1 : Int32)), .val (.int (7 : Int32)), .val (.long (own_sh q0 3)), .second, .val (.int (4 : Int32))] [(.int ((own_sh q0 3).toInt32)), (.int (4 : Int32)), (.ref a1)]))
  refine own_by (fun _ k => XS.i2b X9.here hx rfl (hb hby d5_23) rfl k) ?_
  show own_Go p e below _ (T9.setTop (mkF m 24 #[.val (.long q0), .second, .val (.ref a1), .val (.int (1 : Int32)), .val (.int (7 : Int32)), .val (.long (own_sh q0 3)), .second, .val (.int (4 : Int32))] [(.int (((own_sh q0 3).toInt32).toInt8.toInt32)), (.int (4 : Int32)), (.ref a1)]))
  obtain ⟨cl11, Ar11, qq11, S11, M11, H11, G11⟩ := id V10
  have hin11 : ¬ ((4 : Int32) < 0 ∨ cl11.slots.size ≤ ((4 : Int32)).toNatClampNeg) := inb_of S11 ⟨by decide, by decide⟩
  obtain ⟨T12, h12, X12, e12, W12, st12⟩ := stB X9 hx hZ e9 Ar11 (j := (4 : Int32)) hin11 (g := (mkF m 24 #[.val (.long q0), .second, .val (.ref a1), .val (.int (1 : Int32)), .val (.int (7 : Int32)), .val (.long (own_sh q0 3)), .second, .val (.int (4 : Int32))] [(.int (((own_sh q0 3).toInt32).toInt8.toInt32)), (.int (4 : Int32)), (.ref a1)])) rfl rfl (hb hby d5_24)
  have V12 : own_Arf Z h12 a1 k_a1 .byte (8 : Int32) (fun i => .int ((own_upd (own_wr fn_a1 q0 7 3) 4 (nar .byte (((own_sh q0 3).toInt32).toInt8.toInt32))) i)) := own_arfSetI Ar11 qq11 S11 M11 H11 G11 (fits_nar_byte _) W12
  have K12 : Keep h0 h12 [a1] := K9.wr W12 (Or.inl (List.mem_of_getElem? (i := 0) rfl))
  have Z12 : n0 ≤ h12.size := Nat.le_trans Z9 (Keep.of_wr W12).1
  have N12 := Fr.snoc X12 N9 g_a1
  refine own_by st12 ?_
  show own_Go p e below _ (T12.setTop (mkF m 25 #[.val (.long q0), .second, .val (.ref a1), .val (.int (1 : Int32)), .val (.int (7 : Int32)), .val (.long (own_sh q0 3)), .second, .val (.int (4 : Int32))] []))
  refine own_by (fun _ k => XS.lload X12.here hx rfl (hb hby d5_25) rfl k) ?_
  show own_Go p e below _ (T12.setTop (mkF m 27 #[.val (.long q0), .second, .val (.ref a1), .val (.int (1 : Int32)), .val (.int (7 : Int32)), .val (.long (own_sh q0 3)), .second, .val (.int (4 : Int32))] [(.long (own_sh q0 3))]))
  refine own_by (fun _ k => XS.bipush X12.here hx rfl (hb hby d5_27) k) ?_
  show own_Go p e below _ (T12.setTop (mkF m 29 #[.val (.long q0), .second, .val (.ref a1), .val (.int (1 : Int32)), .val (.int (7 : Int32)), .val (.long (own_sh q0 3)), .second, .val (.int (4 : Int32))] [(.int (8 : Int32)), (.long (own_sh q0 3))]))
  refine own_by (fun _ k => XS.lushr X12.here hx rfl (hb hby d5_29) rfl k) ?_
  show own_Go p e below _ (T12.setTop (mkF m 30 #[.val (.long q0), .second, .val (.ref a1), .val (.int (1 : Int32)), .val (.int (7 : Int32)), .val (.long (own_sh q0 3)), .second, .val (.int (4 : Int32))] [(.long (((own_sh q0 3).toUInt64 >>> ((8 : Int32) &&& 0x3f).toInt64.toUInt64).toInt64))]))
  refine own_by (fun _ k => XS.lstore X12.here hx rfl (hb hby d5_30) rfl (l' := #[.val (.long q0), .second, .val (.ref a1), .val (.int (1 : Int32)), .val (.int (7 : Int32)), .val (.long (((own_sh q0 3).toUInt64 >>> ((8 : Int32) &&& 0x3f).toInt64.toUInt64).toInt64)), .second, .val (.int (4 : Int32))]) rfl k) ?_
  show own_Go p e below _ (T12.setTop (mkF m 32 #[.val (.long q0), .second, .val (.ref a1), .val (.int (1 : Int32)), .val (.int (7 : Int32)), .val (.long (((own_sh q0 3).toUInt64 >>> ((8 : Int32) &&& 0x3f).toInt64.toUInt64).toInt64)), .second, .val (.int (4 : Int32))] []))
  refine own_by (fun _ k => XS.iinc X12.here hx rfl (hb hby d5_32) rfl (l' := #[.val (.long q0), .second, .val (.ref a1), .val (.int (1 : Int32)), .val (.int (7 : Int32)), .val (.long (((own_sh q0 3).toUInt64 >>> ((8 : Int32) &&& 0x3f).toInt64.toUInt64).toInt64)), .second, .val (.int (3 : Int32))]) rfl k) ?_
  show own_Go p e below _ (T12.setTop (mkF m 35 #[.val (.long q0), .second, .val (.ref a1), .val (.int (1 : Int32)), .val (.int (7 : Int32)), .val (.long (((own_sh q0 3).toUInt64 >>> ((8 : Int32) &&& 0x3f).toInt64.toUInt64).toInt64)), .second, .val (.int (3 : Int32))] []))
  refine own_by (fun _ k => XS.goto X12.here hx rfl (pc0 := 35) (pc' := 11) rfl (hb hby d5_35) (by decide) (by decide) k) ?_
  show own_Go p e below _ (T12.setTop (mkF m 11 #[.val (.long q0), .second, .val (.ref a1), .val (.int (1 : Int32)), .val (.int (7 : Int32)), .val (.long (((own_sh q0 3).toUInt64 >>> ((8 : Int32) &&& 0x3f).toInt64.toUInt64).toInt64)), .second, .val (.int (3 : Int32))] []))
  show own_Go p e below _ (T12.setTop (mkF m 11 #[.val (.long q0), .second, .val (.ref a1), .val (.int (1 : Int32)), .val (.int (7 : Int32)), .val (.long (own_sh q0 4)), .second, .val (.int (3 : Int32))] []))
  have V13 : own_Arf Z h12 a1 k_a1 .byte (8 : Int32) (fun i => .int ((own_wr fn_a1 q0 7 4) i)) := V12
  refine own_by (fun _ k => XS.iload X12.here hx rfl (hb hby d5_11) rfl k) ?_
  show own_Go p e below _ (T12.setTop (mkF m 13 #[.val (.long q0), .second, .val (.ref a1), .val (.int (1 : Int32)), .val (.int (7 : Int32)), .val (.long (own_sh q0 4)), .second, .val (.int (3 : Int32))] [(.int (3 : Int32))]))
  refine own_by (fun _ k => XS.iloadN X12.here hx rfl (hb hby d5_13) rfl k) ?_
  show own_Go p e below _ (T12.setTop (mkF m 14 #[.val (.long q0), .second, .val (.ref a1), .val (.int (1 : Int32)), .val (.int (7 : Int32)), .val (.long (own_sh q0 4)), .second, .val (.int (3 : Int32))] [(.int (1 : Int32)), (.int (3 : Int32))]))
  refine own_by (fun _ k => XS.icmpNo X12.here hx rfl (hb hby d5_14) rfl (flt (by decide : ¬ ((3 : Int32) < (1 : Int32)))).1 k) ?_
  show own_Go p e below _ (T12.setTop (mkF m 17 #[.val (.long q0), .second, .val (.ref a1), .val (.int (1 : Int32)), .val (.int (7 : Int32)), .val (.long (own_sh q0 4)), .second, .val (.int (3 : Int32))] []))
  refine own_by (fun _ k => XS.aloadN X12.here hx rfl (hb hby d5_17) rfl rfl k) ?_
  show own_Go p e below _ (T12.setTop (mkF m 18 #[.val (.long q0), .second, .val (.ref a1), .val (.int (1 : Int32)), .val (.int (7 : Int32)), .val (.long (own_sh q0 4)), .second, .val (.int (3 : Int32))] [(.ref a1)]))
  refine own_by (fun _ k => XS.iload X12.here hx rfl (hb hby d5_18) rfl k) ?_
  show own_Go p e below _ (T12.setTop (mkF m 20 #[.val (.long q0), .second, .val (.ref a1), .val (.int (1 : Int32)), .val (.int (7 : Int32)), .val (.long (own_sh q0 4)), .second, .val (.int (3 : Int32))] [(.int (3 : Int32)), (.ref a1)]))
  refine own_by (fun _ k => XS.lload X12.here hx rfl (hb hby d5_20) rfl k) ?_
  show own_Go p e below _ (T12.setTop (mkF m 22 #[.val (.long q0), .second, .val (.ref a1), .val (.int (1 : Int32)), .val (.int (7 : Int32)), .val (.long (own_sh q0 4)), .second, .val (.int (3 : Int32))] [(.long (own_sh q0 4)), (.int (3 : Int32)), (.ref a1)]))
  refine own_by (fun _ k => XS.l2i X12.here hx rfl (hb hby d5_22) rfl k) ?_
  show own_Go p e below _ (T12.setTop (mkF m 23 #[.val (.long q0), .second, .val (.ref a1), .val (.int (1 : Int32)), .val (.int (7 : Int32)), .val (.long (own_sh q0 4)), .second, .val (.int (3 : Int32))] [(.int ((own_sh q0 4).toInt32)), (.int (3 : Int32)), (.ref a1)]))
  refine own_by (fun _ k => XS.i2b X12.here hx rfl (hb hby d5_23) rfl k) ?_
  show own_Go p e below _ (T12.setTop (mkF m 24 #[.val (.long q0), .second, .val (.ref a1), .val (.int (1 : Int32)), .val (.int (7 : Int32)), .val (.long (own_sh q0 4)), .second, .val (.int (3 : Int32))] [(.int (((own_sh q0 4).toInt32).toInt8.toInt32)), (.int (3 : Int32)), (.ref a1)]))
  obtain ⟨cl14, Ar14, qq14, S14, M14, H14, G14⟩ := id V13
  have hin14 : ¬ ((3 : Int32) < 0 ∨ cl14.slots.size ≤ ((3 : Int32)).toNatClampNeg) := inb_of S14 ⟨by decide, by decide⟩
  obtain ⟨T15, h15, X15, e15, W15, st15⟩ := stB X12 hx hZ e12 Ar14 (j := (3 : Int32)) hin14 (g := (mkF m 24 #[.val (.long q0), .second, .val (.ref a1), .val (.int (1 : Int32)), .val (.int (7 : Int32)), .val (.long (own_sh q0 4)), .second, .val (.int (3 : Int32))] [(.int (((own_sh q0 4).toInt32).toInt8.toInt32)), (.int (3 : Int32)), (.ref a1)])) rfl rfl (hb hby d5_24)
  have V15 : own_Arf Z h15 a1 k_a1 .byte (8 : Int32) (fun i => .int ((own_upd (own_wr fn_a1 q0 7 4) 3 (nar .byte (((own_sh q0 4).toInt32).toInt8.toInt32))) i)) := own_arfSetI Ar14 qq14 S14 M14 H14 G14 (fits_nar_byte _) W15
  have K15 : Keep h0 h15 [a1] := K12.wr W15 (Or.inl (List.mem_of_getElem? (i := 0) rfl))
  have Z15 : n0 ≤ h15.size := Nat.le_trans Z12 (Keep.of_wr W15).1
  have N15 := Fr.snoc X15 N12 g_a1
  refine own_by st15 ?_
  show own_Go p e below _ (T15.setTop (mkF m 25 #[.val (.long q0), .second, .val (.ref a1), .val (.int (1 : Int32)), .val (.int (7 : Int32)), .val (.long (own_sh q0 4)), .second, .val (.int (3 : Int32))] []))
  refine own_by (fun _ k => XS.lload X15.here hx rfl (hb hby d5_25) rfl k) ?_
  show own_Go p e below _ (T15.setTop (mkF m 27 #[.val (.long q0), .second, .val (.ref a1), .val (.int (1 : Int32)), .val (.int (7 : Int32)), .val (.long (own_sh q0 4)), .second, .val (.int (3 : Int32))] [(.long (own_sh q0 4))]))
  refine own_by (fun _ k => XS.bipush X15.here hx rfl (hb hby d5_27) k) ?_
  show own_Go p e below _ (T15.setTop (mkF m 29 #[.val (.long q0), .second, .val (.ref a1), .val (.int (1 : Int32)), .val (.int (7 : Int32)), .val (.long (own_sh q0 4)), .second, .val (.int (3 : Int32))] [(.int (8 : Int32)), (.long (own_sh q0 4))]))
  refine own_by (fun _ k => XS.lushr X15.here hx rfl (hb hby d5_29) rfl k) ?_
  show own_Go p e below _ (T15.setTop (mkF m 30 #[.val (.long q0), .second, .val (.ref a1), .val (.int (1 : Int32)), .val (.int (7 : Int32)), .val (.long (own_sh q0 4)), .second, .val (.int (3 : Int32))] [(.long (((own_sh q0 4).toUInt64 >>> ((8 : Int32) &&& 0x3f).toInt64.toUInt64).toInt64))]))
  refine own_by (fun _ k => XS.lstore X15.here hx rfl (hb hby d5_30) rfl (l' := #[.val (.long q0), .second, .val (.ref a1), .val (.int (1 : Int32)), .val (.int (7 : Int32)), .val (.long (((own_sh q0 4).toUInt64 >>> ((8 : Int32) &&& 0x3f).toInt64.toUInt64).toInt64)), .second, .val (.int (3 : Int32))]) rfl k) ?_
  show own_Go p e below _ (T15.setTop (mkF m 32 #[.val (.long q0), .second, .val (.ref a1), .val (.int (1 : Int32)), .val (.int (7 : Int32)), .val (.long (((own_sh q0 4).toUInt64 >>> ((8 : Int32) &&& 0x3f).toInt64.toUInt64).toInt64)), .second, .val (.int (3 : Int32))] []))
  refine own_by (fun _ k => XS.iinc X15.here hx rfl (hb hby d5_32) rfl (l' := #[.val (.long q0), .second, .val (.ref a1), .val (.int (1 : Int32)), .val (.int (7 : Int32)), .val (.long (((own_sh q0 4).toUInt64 >>> ((8 : Int32) &&& 0x3f).toInt64.toUInt64).toInt64)), .second, .val (.int (2 : Int32))]) rfl k) ?_
  show own_Go p e below _ (T15.setTop (mkF m 35 #[.val (.long q0), .second, .val (.ref a1), .val (.int (1 : Int32)), .val (.int (7 : Int32)), .val (.long (((own_sh q0 4).toUInt64 >>> ((8 : Int32) &&& 0x3f).toInt64.toUInt64).toInt64)), .second, .val (.int (2 : Int32))] []))
  refine own_by (fun _ k => XS.goto X15.here hx rfl (pc0 := 35) (pc' := 11) rfl (hb hby d5_35) (by decide) (by decide) k) ?_
  show own_Go p e below _ (T15.setTop (mkF m 11 #[.val (.long q0), .second, .val (.ref a1), .val (.int (1 : Int32)), .val (.int (7 : Int32)), .val (.long (((own_sh q0 4).toUInt64 >>> ((8 : Int32) &&& 0x3f).toInt64.toUInt64).toInt64)), .second, .val (.int (2 : Int32))] []))
  show own_Go p e below _ (T15.setTop (mkF m 11 #[.val (.long q0), .second, .val (.ref a1), .val (.int (1 : Int32)), .val (.int (7 : Int32)), .val (.long (own_sh q0 5)), .second, .val (.int (2 : Int32))] []))
  have V16 : own_Arf Z h15 a1 k_a1 .byte (8 : Int32) (fun i => .int ((own_wr fn_a1 q0 7 5) i)) := V15
  refine own_by (fun _ k => XS.iload X15.here hx rfl (hb hby d5_11) rfl k) ?_
  show own_Go p e below _ (T15.setTop (mkF m 13 #[.val (.long q0), .second, .val (.ref a1), .val (.int (1 : Int32)), .val (.int (7 : Int32)), .val (.long (own_sh q0 5)), .second, .val (.int (2 : Int32))] [(.int (2 : Int32))]))
  refine own_by (fun _ k => XS.iloadN X15.here hx rfl (hb hby d5_13) rfl k) ?_
  show own_Go p e below _ (T15.setTop (mkF m 14 #[.val (.long q0), .second, .val (.ref a1), .val (.int (1 : Int32)), .val (.int (7 : Int32)), .val (.long (own_sh q0 5)), .second, .val (.int (2 : Int32))] [(.int (1 : Int32)), (.int (2 : Int32))]))
  refine own_by (fun _ k => XS.icmpNo X15.here hx rfl (hb hby d5_14) rfl (flt (by decide : ¬ ((2 : Int32) < (1 : Int32)))).1 k) ?_
  show own_Go p e below _ (T15.setTop (mkF m 17 #[.val (.long q0), .second, .val (.ref a1), .val (.int (1 : Int32)), .val (.int (7 : Int32)), .val (.long (own_sh q0 5)), .second, .val (.int (2 : Int32))] []))
  refine own_by (fun _ k => XS.aloadN X15.here hx rfl (hb hby d5_17) rfl rfl k) ?_
  show own_Go p e below _ (T15.setTop (mkF m 18 #[.val (.long q0), .second, .val (.ref a1), .val (.int (1 : Int32)), .val (.int (7 : Int32)), .val (.long (own_sh q0 5)), .second, .val (.int (2 : Int32))] [(.ref a1)]))
  refine own_by (fun _ k => XS.iload X15.here hx rfl (hb hby d5_18) rfl k) ?_
  show own_Go p e below _ (T15.setTop (mkF m 20 #[.val (.long q0), .second, .val (.ref a1), .val (.int (1 : Int32)), .val (.int (7 : Int32)), .val (.long (own_sh q0 5)), .second, .val (.int (2 : Int32))] [(.int (2 : Int32)), (.ref a1)]))
  refine own_by (fun _ k => XS.lload X15.here hx rfl (hb hby d5_20) rfl k) ?_
  show own_Go p e below _ (T15.setTop (mkF m 22 #[.val (.long q0), .second, .val (.ref a1), .val (.int (1 : Int32)), .val (.int (7 : Int32)), .val (.long (own_sh q0 5)), .second, .val (.int (2 : Int32))] [(.long (own_sh q0 5)), (.int (2 : Int32)), (.ref a1)]))
  refine own_by (fun _ k => XS.l2i X15.here hx rfl (hb hby d5_22) rfl k) ?_
  show own_Go p e below _ (T15.setTop (mkF m 23 #[.val (.long q0), .second, .val (.ref a1), .val (.int (1 : Int32)), .val (.int (7 : Int32)), .val (.long (own_sh q0 5)), .second, .val (.int (2 : Int32))] [(.int ((own_sh q0 5).toInt32)), (.int (2 : Int32)), (.ref a1)]))
  refine own_by (fun _ k => XS.i2b X15.here hx rfl (hb hby d5_23) rfl k) ?_
  show own_Go p e below _ (T15.setTop (mkF m 24 #[.val (.long q0), .second, .val (.ref a1), .val (.int (1 : Int32)), .val (.int (7 : Int32)), .val (.long (own_sh q0 5)), .second, .val (.int (2 : Int32))] [(.int (((own_sh q0 5).toInt32).toInt8.toInt32)), (.int (2 : Int32)), (.ref a1)]))
  obtain ⟨cl17, Ar17, qq17, S17, M17, H17, G17⟩ := id V16
  have hin17 : ¬ ((2 : Int32) < 0 ∨ cl17.slots.size ≤ ((2 : Int32)).toNatClampNeg) := inb_of S17 ⟨by decide, by decide⟩
  obtain ⟨T18, h18, X18, e18, W18, st18⟩ := stB X15 hx hZ e15 Ar17 (j := (2 : Int32)) hin17 (g := (mkF m 24 #[.val (.long q0), .second, .val (.ref a1), .val (.int (1 : Int32)), .val (.int (7 : Int32)), .val (.long (own_sh q0 5)), .second, .val (.int (2 : Int32))] [(.int (((own_sh q0 5).toInt32).toInt8.toInt32)), (.int (2 : Int32)), (.ref a1)])) rfl rfl (hb hby d5_24)
  have V18 : own_Arf Z h18 a1 k_a1 .byte (8 : Int32) (fun i => .int ((own_upd (own_wr fn_a1 q0 7 5) 2 (nar .byte (((own_sh q0 5).toInt32).toInt8.toInt32))) i)) := own_arfSetI Ar17 qq17 S17 M17 H17 G17 (fits_nar_byte _) W18
  have K18 : Keep h0 h18 [a1] := K15.wr W18 (Or.inl (List.mem_of_getElem? (i := 0) rfl))
  have Z18 : n0 ≤ h18.size := Nat.le_trans Z15 (Keep.of_wr W18).1
  have N18 := Fr.snoc X18 N15 g_a1
  refine own_by st18 ?_
  show own_Go p e below _ (T18.setTop (mkF m 25 #[.val (.long q0), .second, .val (.ref a1), .val (.int (1 : Int32)), .val (.int (7 : Int32)), .val (.long (own_sh q0 5)), .second, .val (.int (2 : Int32))] []))
  refine own_by (fun _ k => XS.lload X18.here hx rfl (hb hby d5_25) rfl k) ?_
  show own_Go p e below _ (T18.setTop (mkF m 27 #[.val (.long q0), .second, .val (.ref a1), .val (.int (1 : Int32)), .val (.int (7 : Int32)), .val (.long (own_sh q0 5)), .second, .val (.int (2 : Int32))] [(.long (own_sh q0 5))]))
  refine own_by (fun _ k => XS.bipush X18.here hx rfl (hb hby d5_27) k) ?_
  show own_Go p e below _ (T18.setTop (mkF m 29 #[.val (.long q0), .second, .val (.ref a1), .val (.int (1 : Int32)), .val (.int (7 : Int32)), .val (.long (own_sh q0 5)), .second, .val (.int (2 : Int32))] [(.int (8 : Int32)), (.long (own_sh q0 5))]))
  refine own_by (fun _ k => XS.lushr X18.here hx rfl (hb hby d5_29) rfl k) ?_
  show own_Go p e below _ (T18.setTop (mkF m 30 #[.val (.long q0), .second, .val (.ref a1), .val (.int (1 : Int32)), .val (.int (7 : Int32)), .val (.long (own_sh q0 5)), .second, .val (.int (2 : Int32))] [(.long (((own_sh q0 5).toUInt64 >>> ((8 : Int32) &&& 0x3f).toInt64.toUInt64).toInt64))]))
  refine own_by (fun _ k => XS.lstore X18.here hx rfl (hb hby d5_30) rfl (l' := #[.val (.long q0), .second, .val (.ref a1), .val (.int (1 : Int32)), .val (.int (7 : Int32)), .val (.long (((own_sh q0 5).toUInt64 >>> ((8 : Int32) &&& 0x3f).toInt64.toUInt64).toInt64)), .second, .val (.int (2 : Int32))]) rfl k) ?_
  show own_Go p e below _ (T18.setTop (mkF m 32 #[.val (.long q0), .second, .val (.ref a1), .val (.int (1 : Int32)), .val (.int (7 : Int32)), .val (.long (((own_sh q0 5).toUInt64 >>> ((8 : Int32) &&& 0x3f).toInt64.toUInt64).toInt64)), .second, .val (.int (2 : Int32))] []))
  refine own_by (fun _ k => XS.iinc X18.here hx rfl (hb hby d5_32) rfl (l' := #[.val (.long q0), .second, .val (.ref a1), .val (.int (1 : Int32)), .val (.int (7 : Int32)), .val (.long (((own_sh q0 5).toUInt64 >>> ((8 : Int32) &&& 0x3f).toInt64.toUInt64).toInt64)), .second, .val (.int (1 : Int32))]) rfl k) ?_
  show own_Go p e below _ (T18.setTop (mkF m 35 #[.val (.long q0), .second, .val (.ref a1), .val (.int (1 : Int32)), .val (.int (7 : Int32)), .val (.long (((own_sh q0 5).toUInt64 >>> ((8 : Int32) &&& 0x3f).toInt64.toUInt64).toInt64)), .second, .val (.int (1 : Int32))] []))
  refine own_by (fun _ k => XS.goto X18.here hx rfl (pc0 := 35) (pc' := 11) rfl (hb hby d5_35) (by decide) (by decide) k) ?_
  show own_Go p e below _ (T18.setTop (mkF m 11 #[.val (.long q0), .second, .val (.ref a1), .val (.int (1 : Int32)), .val (.int (7 : Int32)), .val (.long (((own_sh q0 5).toUInt64 >>> ((8 : Int32) &&& 0x3f).toInt64.toUInt64).toInt64)), .second, .val (.int (1 : Int32))] []))
  show own_Go p e below _ (T18.setTop (mkF m 11 #[.val (.long q0), .second, .val (.ref a1), .val (.int (1 : Int32)), .val (.int (7 : Int32)), .val (.long (own_sh q0 6)), .second, .val (.int (1 : Int32))] []))
  have V19 : own_Arf Z h18 a1 k_a1 .byte (8 : Int32) (fun i => .int ((own_wr fn_a1 q0 7 6) i)) := V18
  refine own_by (fun _ k => XS.iload X18.here hx rfl (hb hby d5_11) rfl k) ?_
  show own_Go p e below _ (T18.setTop (mkF m 13 #[.val (.long q0), .second, .val (.ref a1), .val (.int (1 : Int32)), .val (.int (7 : Int32)), .val (.long (own_sh q0 6)), .second, .val (.int (1 : Int32))] [(.int (1 : Int32))]))
  refine own_by (fun _ k => XS.iloadN X18.here hx rfl (hb hby d5_13) rfl k) ?_
  show own_Go p e below _ (T18.setTop (mkF m 14 #[.val (.long q0), .second, .val (.ref a1), .val (.int (1 : Int32)), .val (.int (7 : Int32)), .val (.long (own_sh q0 6)), .second, .val (.int (1 : Int32))] [(.int (1 : Int32)), (.int (1 : Int32))]))
  refine own_by (fun _ k => XS.icmpNo X18.here hx rfl (hb hby d5_14) rfl (flt (by decide : ¬ ((1 : Int32) < (1 : Int32)))).1 k) ?_
  show own_Go p e below _ (T18.setTop (mkF m 17 #[.val (.long q0), .second, .val (.ref a1), .val (.int (1 : Int32)), .val (.int (7 : Int32)), .val (.long (own_sh q0 6)), .second, .val (.int (1 : Int32))] []))
  refine own_by (fun _ k => XS.aloadN X18.here hx rfl (hb hby d5_17) rfl rfl k) ?_
  show own_Go p e below _ (T18.setTop (mkF m 18 #[.val (.long q0), .second, .val (.ref a1), .val (.int (1 : Int32)), .val (.int (7 : Int32)), .val (.long (own_sh q0 6)), .second, .val (.int (1 : Int32))] [(.ref a1)]))
  refine own_by (fun _ k => XS.iload X18.here hx rfl (hb hby d5_18) rfl k) ?_
  show own_Go p e below _ (T18.setTop (mkF m 20 #[.val (.long q0), .second, .val (.ref a1), .val (.int (1 : Int32)), .val (.int (7 : Int32)), .val (.long (own_sh q0 6)), .second, .val (.int (1 : Int32))] [(.int (1 : Int32)), (.ref a1)]))
  refine own_by (fun _ k => XS.lload X18.here hx rfl (hb hby d5_20) rfl k) ?_
  show own_Go p e below _ (T18.setTop (mkF m 22 #[.val (.long q0), .second, .val (.ref a1), .val (.int (1 : Int32)), .val (.int (7 : Int32)), .val (.long (own_sh q0 6)), .second, .val (.int (1 : Int32))] [(.long (own_sh q0 6)), (.int (1 : Int32)), (.ref a1)]))
  refine own_by (fun _ k => XS.l2i X18.here hx rfl (hb hby d5_22) rfl k) ?_
  show own_Go p e below _ (T18.setTop (mkF m 23 #[.val (.long q0), .second, .val (.ref a1), .val (.int (1 : Int32)), .val (.int (7 : Int32)), .val (.long (own_sh q0 6)), .second, .val (.int (1 : Int32))] [(.int ((own_sh q0 6).toInt32)), (.int (1 : Int32)), (.ref a1)]))
  refine own_by (fun _ k => XS.i2b X18.here hx rfl (hb hby d5_23) rfl k) ?_
  show own_Go p e below _ (T18.setTop (mkF m 24 #[.val (.long q0), .second, .val (.ref a1), .val (.int (1 : Int32)), .val (.int (7 : Int32)), .val (.long (own_sh q0 6)), .second, .val (.int (1 : Int32))] [(.int (((own_sh q0 6).toInt32).toInt8.toInt32)), (.int (1 : Int32)), (.ref a1)]))
  obtain ⟨cl20, Ar20, qq20, S20, M20, H20, G20⟩ := id V19
  have hin20 : ¬ ((1 : Int32) < 0 ∨ cl20.slots.size ≤ ((1 : Int32)).toNatClampNeg) := inb_of S20 ⟨by decide, by decide⟩
  obtain ⟨T21, h21, X21, e21, W21, st21⟩ := stB X18 hx hZ e18 Ar20 (j := (1 : Int32)) hin20 (g := (mkF m 24 #[.val (.long q0), .second, .val (.ref a1), .val (.int (1 : Int32)), .val (.int (7 : Int32)), .val (.long (own_sh q0 6)), .second, .val (.int (1 : Int32))] [(.int (((own_sh q0 6).toInt32).toInt8.toInt32)), (.int (1 : Int32)), (.ref a1)])) rfl rfl (hb hby d5_24)
  have V21 : own_Arf Z h21 a1 k_a1 .byte (8 : Int32) (fun i => .int ((own_upd (own_wr fn_a1 q0 7 6) 1 (nar .byte (((own_sh q0 6).toInt32).toInt8.toInt32))) i)) := own_arfSetI Ar20 qq20 S20 M20 H20 G20 (fits_nar_byte _) W21
  have K21 : Keep h0 h21 [a1] := K18.wr W21 (Or.inl (List.mem_of_getElem? (i := 0) rfl))
  have Z21 : n0 ≤ h21.size := Nat.le_trans Z18 (Keep.of_wr W21).1
  have N21 := Fr.snoc X21 N18 g_a1
  refine own_by st21 ?_
  show own_Go p e below _ (T21.setTop (mkF m 25 #[.val (.long q0), .second, .val (.ref a1), .val (.int (1 : Int32)), .val (.int (7 : Int32)), .val (.long (own_sh q0 6)), .second, .val (.int (1 : Int32))] []))
  refine own_by (fun _ k => XS.lload X21.here hx rfl (hb hby d5_25) rfl k) ?_
  show own_Go p e below _ (T21.setTop (mkF m 27 #[.val (.long q0), .second, .val (.ref a1), .val (.int (1 : Int32)), .val (.int (7 : Int32)), .val (.long (own_sh q0 6)), .second, .val (.int (1 : Int32))] [(.long (own_sh q0 6))]))
  refine own_by (fun _ k => XS.bipush X21.here hx rfl (hb hby d5_27) k) ?_
  show own_Go p e below _ (T21.setTop (mkF m 29 #[.val (.long q0), .second, .val (.ref a1), .val (.int (1 : Int32)), .val (.int (7 : Int32)), .val (.long (own_sh q0 6)), .second, .val (.int (1 : Int32))] [(.int (8 : Int32)), (.long (own_sh q0 6))]))
  refine own_by (fun _ k => XS.lushr X21.here hx rfl (hb hby d5_29) rfl k) ?_
  show own_Go p e below _ (T21.setTop (mkF m 30 #[.val (.long q0), .second, .val (.ref a1), .val (.int (1 : Int32)), .val (.int (7 : Int32)), .val (.long (own_sh q0 6)), .second, .val (.int (1 : Int32))] [(.long (((own_sh q0 6).toUInt64 >>> ((8 : Int32) &&& 0x3f).toInt64.toUInt64).toInt64))]))
  refine own_by (fun _ k => XS.lstore X21.here hx rfl (hb hby d5_30) rfl (l' := #[.val (.long q0), .second, .val (.ref a1), .val (.int (1 : Int32)), .val (.int (7 : Int32)), .val (.long (((own_sh q0 6).toUInt64 >>> ((8 : Int32) &&& 0x3f).toInt64.toUInt64).toInt64)), .second, .val (.int (1 : Int32))]) rfl k) ?_
  show own_Go p e below _ (T21.setTop (mkF m 32 #[.val (.long q0), .second, .val (.ref a1), .val (.int (1 : Int32)), .val (.int (7 : Int32)), .val (.long (((own_sh q0 6).toUInt64 >>> ((8 : Int32) &&& 0x3f).toInt64.toUInt64).toInt64)), .second, .val (.int (1 : Int32))] []))
  refine own_by (fun _ k => XS.iinc X21.here hx rfl (hb hby d5_32) rfl (l' := #[.val (.long q0), .second, .val (.ref a1), .val (.int (1 : Int32)), .val (.int (7 : Int32)), .val (.long (((own_sh q0 6).toUInt64 >>> ((8 : Int32) &&& 0x3f).toInt64.toUInt64).toInt64)), .second, .val (.int (0 : Int32))]) rfl k) ?_
  show own_Go p e below _ (T21.setTop (mkF m 35 #[.val (.long q0), .second, .val (.ref a1), .val (.int (1 : Int32)), .val (.int (7 : Int32)), .val (.long (((own_sh q0 6).toUInt64 >>> ((8 : Int32) &&& 0x3f).toInt64.toUInt64).toInt64)), .second, .val (.int (0 : Int32))] []))
  refine own_by (fun _ k => XS.goto X21.here hx rfl (pc0 := 35) (pc' := 11) rfl (hb hby d5_35) (by decide) (by decide) k) ?_
  show own_Go p e below _ (T21.setTop (mkF m 11 #[.val (.long q0), .second, .val (.ref a1), .val (.int (1 : Int32)), .val (.int (7 : Int32)), .val (.long (((own_sh q0 6).toUInt64 >>> ((8 : Int32) &&& 0x3f).toInt64.toUInt64).toInt64)), .second, .val (.int (0 : Int32))] []))
  show own_Go p e below _ (T21.setTop (mkF m 11 #[.val (.long q0), .second, .val (.ref a1), .val (.int (1 : Int32)), .val (.int (7 : Int32)), .val (.long (own_sh q0 7)), .second, .val (.int (0 : Int32))] []))
  have V22 : own_Arf Z h21 a1 k_a1 .byte (8 : Int32) (fun i => .int ((own_wr fn_a1 q0 7 7) i)) := V21
  refine own_by (fun _ k => XS.iload X21.here hx rfl (hb hby d5_11) rfl k) ?_
  show own_Go p e below _ (T21.setTop (mkF m 13 #[.val (.long q0), .second, .val (.ref a1), .val (.int (1 : Int32)), .val (.int (7 : Int32)), .val (.long (own_sh q0 7)), .second, .val (.int (0 : Int32))] [(.int (0 : Int32))]))
  refine own_by (fun _ k => XS.iloadN X21.here hx rfl (hb hby d5_13) rfl k) ?_
  show own_Go p e below _ (T21.setTop (mkF m 14 #[.val (.long q0), .second, .val (.ref a1), .val (.int (1 : Int32)), .val (.int (7 : Int32)), .val (.long (own_sh q0 7)), .second, .val (.int (0 : Int32))] [(.int (1 : Int32)), (.int (0 : Int32))]))
  refine own_by (fun _ k => XS.icmpYes X21.here hx rfl (pc0 := 14) (pc' := 38) rfl (hb hby d5_14) rfl (tlt (by decide : (0 : Int32) < (1 : Int32))).1 (by decide) (by decide) k) ?_
  show own_Go p e below _ (T21.setTop (mkF m 38 #[.val (.long q0), .second, .val (.ref a1), .val (.int (1 : Int32)), .val (.int (7 : Int32)), .val (.long (own_sh q0 7)), .second, .val (.int (0 : Int32))] []))
  exact own_ret0 X21 hx Bd.returns (hb hby d5_38) hlk e21 ⟨rfl, N21, K21, V22⟩ (by decide) (by decide)
theorem pn_wb8 : plainName "com/example/nested_keyspace/nestedkeyspace/TypedParts" = true := by first | (simp [plainName, overriddenIn]; done) | decide +kernel
theorem ef_wb8 (m : MethodId) (q0 : Int64) (a1 : Addr) : entryFrame m #[(.long q0), (.ref a1), (.int (1 : Int32)), (.int (8 : Int32))] 8 = mkF m 0 #[.val (.long q0), .second, .val (.ref a1), .val (.int (1 : Int32)), .val (.int (8 : Int32)), .unset, .unset, .unset] [] := by first | (simp [entryFrame, mkF, argsToLocals, Value.category]; done) | rfl
def Qwb8 (Z : State) (k_a1 : ClassId) (fn_a1 : Nat → Int32) (q0 : Int64) (a1 : Addr) (h0 : Heap) (n0 : Nat) (v : Option Value) (h : Heap) (L : List Loc) : Prop := v = none ∧ Fr n0 L ∧ Keep h0 h [a1] ∧ own_Arf Z h a1 k_a1 .byte (9 : Int32) (fun i => .int ((own_wr fn_a1 q0 8 8) i))
set_option maxRecDepth 65536 in
set_option maxHeartbeats 40000000 in
theorem rmwb8 (l : Launch) (Z : State) (A0 : Array Value) (hw : ∀ d ∈ tables_1, d.before A0 Z = true) (ws : List Jvm.Cond) (k_a1 : ClassId) (fn_a1 : Nat → Int32) (q0 : Int64) (a1 : Addr) (h0 : Heap) (n0 : Nat) (Z0 : n0 ≤ h0.size) (P_V_a1 : own_Arf Z h0 a1 k_a1 .byte (9 : Int32) (fun i => .int (fn_a1 i))) (g_a1 : n0 ≤ a1) :
    MetFree l (⟨"com/example/nested_keyspace/nestedkeyspace/TypedParts", "writeBigEndian", "(J[BII)V"⟩ : MethodName) (head1 (Jvm.Cond.code (⟨"com/example/nested_keyspace/nestedkeyspace/TypedParts", "writeBigEndian", "(J[BII)V"⟩ : MethodName) prog_20_method_14_code 8 none :: ws) ({ frames := 0, cells := 0, slots := 0, locals := 0 } : Room)) (fun a U => a = #[(.long q0), (.ref a1), (.int (1 : Int32)), (.int (8 : Int32))] ∧ Z.Warmed39 U.vm ∧ U.heap = h0) (fun _ _ _ _ _ => True) (fun _ U o U' => ∃ v L, o = .returned v ∧ Qwb8 Z k_a1 fn_a1 q0 a1 h0 n0 v U'.heap L ∧ FrameEnd U o U' L 0 0) := by
  refine MetFree.of_bodySF (plainFor_of_name pn_wb8) hisR ?_
  intro p e s m args below meth c s₁ Bd hml0 hP hK
  obtain ⟨rfl, hZ, hh⟩ := hP
  have hwd := fun i {d : Jvm.Cond} (h : tables_1[i]? = some d) => hw d (List.mem_of_getElem? h)
  have hx := Bd.exec
  have hby := Bd.bytes
  have hml : c.maxLocals = 8 := hml0
  have hlk : meth.locks = false := Bd.notSynchronized
  have hown : s.vm.findClass "com/example/nested_keyspace/nestedkeyspace/TypedParts" = some m.cls := findClass_of_methodNamed Bd.named
  have hnm := (name_of_methodNamed Bd.named Bd.method).1
  have X0 : Stand p l e ({ frames := 0, cells := 0, slots := 0, locals := 0 } : Room) s m #[(.long q0), (.ref a1), (.int (1 : Int32)), (.int (8 : Int32))] below meth c s₁ [] 0 0 := Stand.of_body Bd
  have e0 : s₁.heap = h0 := by rw [← hh, Bd.state]; rfl
  have N0 := Fr.nil n0
  show own_Go p e below (own_Fin s 0 0 (Qwb8 Z k_a1 fn_a1 q0 a1 h0 n0)) _
  refine own_by (fun t k => castTop (ef_wb8 m q0 a1) k) ?_
  show own_Go p e below _ (s₁.setTop (mkF m 0 #[.val (.long q0), .second, .val (.ref a1), .val (.int (1 : Int32)), .val (.int (8 : Int32)), .unset, .unset, .unset] []))
  refine own_by (fun _ k => XS.lloadN X0.here hx rfl (hb hby d5_0) rfl k) ?_
  show own_Go p e below _ (s₁.setTop (mkF m 1 #[.val (.long q0), .second, .val (.ref a1), .val (.int (1 : Int32)), .val (.int (8 : Int32)), .unset, .unset, .unset] [(.long q0)]))
  refine own_by (fun _ k => XS.lstore X0.here hx rfl (hb hby d5_1) rfl (l' := #[.val (.long q0), .second, .val (.ref a1), .val (.int (1 : Int32)), .val (.int (8 : Int32)), .val (.long q0), .second, .unset]) rfl k) ?_
  show own_Go p e below _ (s₁.setTop (mkF m 3 #[.val (.long q0), .second, .val (.ref a1), .val (.int (1 : Int32)), .val (.int (8 : Int32)), .val (.long q0), .second, .unset] []))
  refine own_by (fun _ k => XS.iloadN X0.here hx rfl (hb hby d5_3) rfl k) ?_
  show own_Go p e below _ (s₁.setTop (mkF m 4 #[.val (.long q0), .second, .val (.ref a1), .val (.int (1 : Int32)), .val (.int (8 : Int32)), .val (.long q0), .second, .unset] [(.int (1 : Int32))]))
  refine own_by (fun _ k => XS.iload X0.here hx rfl (hb hby d5_4) rfl k) ?_
  show own_Go p e below _ (s₁.setTop (mkF m 6 #[.val (.long q0), .second, .val (.ref a1), .val (.int (1 : Int32)), .val (.int (8 : Int32)), .val (.long q0), .second, .unset] [(.int (8 : Int32)), (.int (1 : Int32))]))
  refine own_by (fun _ k => XS.iadd X0.here hx rfl (hb hby d5_6) rfl k) ?_
  show own_Go p e below _ (s₁.setTop (mkF m 7 #[.val (.long q0), .second, .val (.ref a1), .val (.int (1 : Int32)), .val (.int (8 : Int32)), .val (.long q0), .second, .unset] [(.int (9 : Int32))]))
  refine own_by (fun _ k => XS.iconst X0.here hx rfl (hb hby d5_7) k) ?_
  show own_Go p e below _ (s₁.setTop (mkF m 8 #[.val (.long q0), .second, .val (.ref a1), .val (.int (1 : Int32)), .val (.int (8 : Int32)), .val (.long q0), .second, .unset] [(.int (1 : Int32)), (.int (9 : Int32))]))
  refine own_by (fun _ k => XS.isub X0.here hx rfl (hb hby d5_8) rfl k) ?_
  show own_Go p e below _ (s₁.setTop (mkF m 9 #[.val (.long q0), .second, .val (.ref a1), .val (.int (1 : Int32)), .val (.int (8 : Int32)), .val (.long q0), .second, .unset] [(.int (8 : Int32))]))
  refine own_by (fun _ k => XS.istore X0.here hx rfl (hb hby d5_9) rfl (l' := #[.val (.long q0), .second, .val (.ref a1), .val (.int (1 : Int32)), .val (.int (8 : Int32)), .val (.long q0), .second, .val (.int (8 : Int32))]) rfl k) ?_
  show own_Go p e below _ (s₁.setTop (mkF m 11 #[.val (.long q0), .second, .val (.ref a1), .val (.int (1 : Int32)), .val (.int (8 : Int32)), .val (.long q0), .second, .val (.int (8 : Int32))] []))
  show own_Go p e below _ (s₁.setTop (mkF m 11 #[.val (.long q0), .second, .val (.ref a1), .val (.int (1 : Int32)), .val (.int (8 : Int32)), .val (.long (own_sh q0 0)), .second, .val (.int (8 : Int32))] []))
  show own_Go p e below _ (s₁.setTop (mkF m 11 #[.val (.long q0), .second, .val (.ref a1), .val (.int (1 : Int32)), .val (.int (8 : Int32)), .val (.long (own_sh q0 0)), .second, .val (.int (8 : Int32))] []))
  have V1 : own_Arf Z h0 a1 k_a1 .byte (9 : Int32) (fun i => .int ((own_wr fn_a1 q0 8 0) i)) := P_V_a1
  refine own_by (fun _ k => XS.iload X0.here hx rfl (hb hby d5_11) rfl k) ?_
  show own_Go p e below _ (s₁.setTop (mkF m 13 #[.val (.long q0), .second, .val (.ref a1), .val (.int (1 : Int32)), .val (.int (8 : Int32)), .val (.long (own_sh q0 0)), .second, .val (.int (8 : Int32))] [(.int (8 : Int32))]))
  refine own_by (fun _ k => XS.iloadN X0.here hx rfl (hb hby d5_13) rfl k) ?_
  show own_Go p e below _ (s₁.setTop (mkF m 14 #[.val (.long q0), .second, .val (.ref a1), .val (.int (1 : Int32)), .val (.int (8 : Int32)), .val (.long (own_sh q0 0)), .second, .val (.int (8 : Int32))] [(.int (1 : Int32)), (.int (8 : Int32))]))
  refine own_by (fun _ k => XS.icmpNo X0.here hx rfl (hb hby d5_14) rfl (flt (by decide : ¬ ((8 : Int32) < (1 : Int32)))).1 k) ?_
  show own_Go p e below _ (s₁.setTop (mkF m 17 #[.val (.long q0), .second, .val (.ref a1), .val (.int (1 : Int32)), .val (.int (8 : Int32)), .val (.long (own_sh q0 0)), .second, .val (.int (8 : Int32))] []))
  refine own_by (fun _ k => XS.aloadN X0.here hx rfl (hb hby d5_17) rfl rfl k) ?_
  show own_Go p e below _ (s₁.setTop (mkF m 18 #[.val (.long q0), .second, .val (.ref a1), .val (.int (1 : Int32)), .val (.int (8 : Int32)), .val (.long (own_sh q0 0)), .second, .val (.int (8 : Int32))] [(.ref a1)]))
  refine own_by (fun _ k => XS.iload X0.here hx rfl (hb hby d5_18) rfl k) ?_
  show own_Go p e below _ (s₁.setTop (mkF m 20 #[.val (.long q0), .second, .val (.ref a1), .val (.int (1 : Int32)), .val (.int (8 : Int32)), .val (.long (own_sh q0 0)), .second, .val (.int (8 : Int32))] [(.int (8 : Int32)), (.ref a1)]))
  refine own_by (fun _ k => XS.lload X0.here hx rfl (hb hby d5_20) rfl k) ?_
  show own_Go p e below _ (s₁.setTop (mkF m 22 #[.val (.long q0), .second, .val (.ref a1), .val (.int (1 : Int32)), .val (.int (8 : Int32)), .val (.long (own_sh q0 0)), .second, .val (.int (8 : Int32))] [(.long (own_sh q0 0)), (.int (8 : Int32)), (.ref a1)]))
  refine own_by (fun _ k => XS.l2i X0.here hx rfl (hb hby d5_22) rfl k) ?_
  show own_Go p e below _ (s₁.setTop (mkF m 23 #[.val (.long q0), .second, .val (.ref a1), .val (.int (1 : Int32)), .val (.int (8 : Int32)), .val (.long (own_sh q0 0)), .second, .val (.int (8 : Int32))] [(.int ((own_sh q0 0).toInt32)), (.int (8 : Int32)), (.ref a1)]))
  refine own_by (fun _ k => XS.i2b X0.here hx rfl (hb hby d5_23) rfl k) ?_
  show own_Go p e below _ (s₁.setTop (mkF m 24 #[.val (.long q0), .second, .val (.ref a1), .val (.int (1 : Int32)), .val (.int (8 : Int32)), .val (.long (own_sh q0 0)), .second, .val (.int (8 : Int32))] [(.int (((own_sh q0 0).toInt32).toInt8.toInt32)), (.int (8 : Int32)), (.ref a1)]))
  obtain ⟨cl2, Ar2, qq2, S2, M2, H2, G2⟩ := id V1
  have hin2 : ¬ ((8 : Int32) < 0 ∨ cl2.slots.size ≤ ((8 : Int32)).toNatClampNeg) := inb_of S2 ⟨by decide, by decide⟩
  obtain ⟨T3, h3, X3, e3, W3, st3⟩ := stB X0 hx hZ e0 Ar2 (j := (8 : Int32)) hin2 (g := (mkF m 24 #[.val (.long q0), .second, .val (.ref a1), .val (.int (1 : Int32)), .val (.int (8 : Int32)), .val (.long (own_sh q0 0)), .second, .val (.int (8 : Int32))] [(.int (((own_sh q0 0).toInt32).toInt8.toInt32)), (.int (8 : Int32)), (.ref a1)])) rfl rfl (hb hby d5_24)
  have V3 : own_Arf Z h3 a1 k_a1 .byte (9 : Int32) (fun i => .int ((own_upd (own_wr fn_a1 q0 8 0) 8 (nar .byte (((own_sh q0 0).toInt32).toInt8.toInt32))) i)) := own_arfSetI Ar2 qq2 S2 M2 H2 G2 (fits_nar_byte _) W3
  have K3 : Keep h0 h3 [a1] := (Keep.refl h0 [a1]).wr W3 (Or.inl (List.mem_of_getElem? (i := 0) rfl))
  have Z3 : n0 ≤ h3.size := Nat.le_trans Z0 (Keep.of_wr W3).1
  have N3 := Fr.snoc X3 N0 g_a1
  refine own_by st3 ?_
  show own_Go p e below _ (T3.setTop (mkF m 25 #[.val (.long q0), .second, .val (.ref a1), .val (.int (1 : Int32)), .val (.int (8 : Int32)), .val (.long (own_sh q0 0)), .second, .val (.int (8 : Int32))] []))
  refine own_by (fun _ k => XS.lload X3.here hx rfl (hb hby d5_25) rfl k) ?_
  show own_Go p e below _ (T3.setTop (mkF m 27 #[.val (.long q0), .second, .val (.ref a1), .val (.int (1 : Int32)), .val (.int (8 : Int32)), .val (.long (own_sh q0 0)), .second, .val (.int (8 : Int32))] [(.long (own_sh q0 0))]))
  refine own_by (fun _ k => XS.bipush X3.here hx rfl (hb hby d5_27) k) ?_
  show own_Go p e below _ (T3.setTop (mkF m 29 #[.val (.long q0), .second, .val (.ref a1), .val (.int (1 : Int32)), .val (.int (8 : Int32)), .val (.long (own_sh q0 0)), .second, .val (.int (8 : Int32))] [(.int (8 : Int32)), (.long (own_sh q0 0))]))
  refine own_by (fun _ k => XS.lushr X3.here hx rfl (hb hby d5_29) rfl k) ?_
  show own_Go p e below _ (T3.setTop (mkF m 30 #[.val (.long q0), .second, .val (.ref a1), .val (.int (1 : Int32)), .val (.int (8 : Int32)), .val (.long (own_sh q0 0)), .second, .val (.int (8 : Int32))] [(.long (((own_sh q0 0).toUInt64 >>> ((8 : Int32) &&& 0x3f).toInt64.toUInt64).toInt64))]))
  refine own_by (fun _ k => XS.lstore X3.here hx rfl (hb hby d5_30) rfl (l' := #[.val (.long q0), .second, .val (.ref a1), .val (.int (1 : Int32)), .val (.int (8 : Int32)), .val (.long (((own_sh q0 0).toUInt64 >>> ((8 : Int32) &&& 0x3f).toInt64.toUInt64).toInt64)), .second, .val (.int (8 : Int32))]) rfl k) ?_
  show own_Go p e below _ (T3.setTop (mkF m 32 #[.val (.long q0), .second, .val (.ref a1), .val (.int (1 : Int32)), .val (.int (8 : Int32)), .val (.long (((own_sh q0 0).toUInt64 >>> ((8 : Int32) &&& 0x3f).toInt64.toUInt64).toInt64)), .second, .val (.int (8 : Int32))] []))
  refine own_by (fun _ k => XS.iinc X3.here hx rfl (hb hby d5_32) rfl (l' := #[.val (.long q0), .second, .val (.ref a1), .val (.int (1 : Int32)), .val (.int (8 : Int32)), .val (.long (((own_sh q0 0).toUInt64 >>> ((8 : Int32) &&& 0x3f).toInt64.toUInt64).toInt64)), .second, .val (.int (7 : Int32))]) rfl k) ?_
  show own_Go p e below _ (T3.setTop (mkF m 35 #[.val (.long q0), .second, .val (.ref a1), .val (.int (1 : Int32)), .val (.int (8 : Int32)), .val (.long (((own_sh q0 0).toUInt64 >>> ((8 : Int32) &&& 0x3f).toInt64.toUInt64).toInt64)), .second, .val (.int (7 : Int32))] []))
  refine own_by (fun _ k => XS.goto X3.here hx rfl (pc0 := 35) (pc' := 11) rfl (hb hby d5_35) (by decide) (by decide) k) ?_
  show own_Go p e below _ (T3.setTop (mkF m 11 #[.val (.long q0), .second, .val (.ref a1), .val (.int (1 : Int32)), .val (.int (8 : Int32)), .val (.long (((own_sh q0 0).toUInt64 >>> ((8 : Int32) &&& 0x3f).toInt64.toUInt64).toInt64)), .second, .val (.int (7 : Int32))] []))
  show own_Go p e below _ (T3.setTop (mkF m 11 #[.val (.long q0), .second, .val (.ref a1), .val (.int (1 : Int32)), .val (.int (8 : Int32)), .val (.long (own_sh q0 1)), .second, .val (.int (7 : Int32))] []))
  have V4 : own_Arf Z h3 a1 k_a1 .byte (9 : Int32) (fun i => .int ((own_wr fn_a1 q0 8 1) i)) := V3
  refine own_by (fun _ k => XS.iload X3.here hx rfl (hb hby d5_11) rfl k) ?_
  show own_Go p e below _ (T3.setTop (mkF m 13 #[.val (.long q0), .second, .val (.ref a1), .val (.int (1 : Int32)), .val (.int (8 : Int32)), .val (.long (own_sh q0 1)), .second, .val (.int (7 : Int32))] [(.int (7 : Int32))]))
  refine own_by (fun _ k => XS.iloadN X3.here hx rfl (hb hby d5_13) rfl k) ?_
  show own_Go p e below _ (T3.setTop (mkF m 14 #[.val (.long q0), .second, .val (.ref a1), .val (.int (1 : Int32)), .val (.int (8 : Int32)), .val (.long (own_sh q0 1)), .second, .val (.int (7 : Int32))] [(.int (1 : Int32)), (.int (7 : Int32))]))
  refine own_by (fun _ k => XS.icmpNo X3.here hx rfl (hb hby d5_14) rfl (flt (by decide : ¬ ((7 : Int32) < (1 : Int32)))).1 k) ?_
  show own_Go p e below _ (T3.setTop (mkF m 17 #[.val (.long q0), .second, .val (.ref a1), .val (.int (1 : Int32)), .val (.int (8 : Int32)), .val (.long (own_sh q0 1)), .second, .val (.int (7 : Int32))] []))
  refine own_by (fun _ k => XS.aloadN X3.here hx rfl (hb hby d5_17) rfl rfl k) ?_
  show own_Go p e below _ (T3.setTop (mkF m 18 #[.val (.long q0), .second, .val (.ref a1), .val (.int (1 : Int32)), .val (.int (8 : Int32)), .val (.long (own_sh q0 1)), .second, .val (.int (7 : Int32))] [(.ref a1)]))
  refine own_by (fun _ k => XS.iload X3.here hx rfl (hb hby d5_18) rfl k) ?_
  show own_Go p e below _ (T3.setTop (mkF m 20 #[.val (.long q0), .second, .val (.ref a1), .val (.int (1 : Int32)), .val (.int (8 : Int32)), .val (.long (own_sh q0 1)), .second, .val (.int (7 : Int32))] [(.int (7 : Int32)), (.ref a1)]))
  refine own_by (fun _ k => XS.lload X3.here hx rfl (hb hby d5_20) rfl k) ?_
  show own_Go p e below _ (T3.setTop (mkF m 22 #[.val (.long q0), .second, .val (.ref a1), .val (.int (1 : Int32)), .val (.int (8 : Int32)), .val (.long (own_sh q0 1)), .second, .val (.int (7 : Int32))] [(.long (own_sh q0 1)), (.int (7 : Int32)), (.ref a1)]))
  refine own_by (fun _ k => XS.l2i X3.here hx rfl (hb hby d5_22) rfl k) ?_
  show own_Go p e below _ (T3.setTop (mkF m 23 #[.val (.long q0), .second, .val (.ref a1), .val (.int (1 : Int32)), .val (.int (8 : Int32)), .val (.long (own_sh q0 1)), .second, .val (.int (7 : Int32))] [(.int ((own_sh q0 1).toInt32)), (.int (7 : Int32)), (.ref a1)]))
  refine own_by (fun _ k => XS.i2b X3.here hx rfl (hb hby d5_23) rfl k) ?_
  show own_Go p e below _ (T3.setTop (mkF m 24 #[.val (.long q0), .second, .val (.ref a1), .val (.int (1 : Int32)), .val (.int (8 : Int32)), .val (.long (own_sh q0 1)), .second, .val (.int (7 : Int32))] [(.int (((own_sh q0 1).toInt32).toInt8.toInt32)), (.int (7 : Int32)), (.ref a1)]))
  obtain ⟨cl5, Ar5, qq5, S5, M5, H5, G5⟩ := id V4
  have hin5 : ¬ ((7 : Int32) < 0 ∨ cl5.slots.size ≤ ((7 : Int32)).toNatClampNeg) := inb_of S5 ⟨by decide, by decide⟩
  obtain ⟨T6, h6, X6, e6, W6, st6⟩ := stB X3 hx hZ e3 Ar5 (j := (7 : Int32)) hin5 (g := (mkF m 24 #[.val (.long q0), .second, .val (.ref a1), .val (.int (1 : Int32)), .val (.int (8 : Int32)), .val (.long (own_sh q0 1)), .second, .val (.int (7 : Int32))] [(.int (((own_sh q0 1).toInt32).toInt8.toInt32)), (.int (7 : Int32)), (.ref a1)])) rfl rfl (hb hby d5_24)
  have V6 : own_Arf Z h6 a1 k_a1 .byte (9 : Int32) (fun i => .int ((own_upd (own_wr fn_a1 q0 8 1) 7 (nar .byte (((own_sh q0 1).toInt32).toInt8.toInt32))) i)) := own_arfSetI Ar5 qq5 S5 M5 H5 G5 (fits_nar_byte _) W6
  have K6 : Keep h0 h6 [a1] := K3.wr W6 (Or.inl (List.mem_of_getElem? (i := 0) rfl))
  have Z6 : n0 ≤ h6.size := Nat.le_trans Z3 (Keep.of_wr W6).1
  have N6 := Fr.snoc X6 N3 g_a1
  refine own_by st6 ?_
  show own_Go p e below _ (T6.setTop (mkF m 25 #[.val (.long q0), .second, .val (.ref a1), .val (.int (1 : Int32)), .val (.int (8 : Int32)), .val (.long (own_sh q0 1)), .second, .val (.int (7 : Int32))] []))
  refine own_by (fun _ k => XS.lload X6.here hx rfl (hb hby d5_25) rfl k) ?_
  show own_Go p e below _ (T6.setTop (mkF m 27 #[.val (.long q0), .second, .val (.ref a1), .val (.int (1 : Int32)), .val (.int (8 : Int32)), .val (.long (own_sh q0 1)), .second, .val (.int (7 : Int32))] [(.long (own_sh q0 1))]))
  refine own_by (fun _ k => XS.bipush X6.here hx rfl (hb hby d5_27) k) ?_
  show own_Go p e below _ (T6.setTop (mkF m 29 #[.val (.long q0), .second, .val (.ref a1), .val (.int (1 : Int32)), .val (.int (8 : Int32)), .val (.long (own_sh q0 1)), .second, .val (.int (7 : Int32))] [(.int (8 : Int32)), (.long (own_sh q0 1))]))
  refine own_by (fun _ k => XS.lushr X6.here hx rfl (hb hby d5_29) rfl k) ?_
  show own_Go p e below _ (T6.setTop (mkF m 30 #[.val (.long q0), .second, .val (.ref a1), .val (.int (1 : Int32)), .val (.int (8 : Int32)), .val (.long (own_sh q0 1)), .second, .val (.int (7 : Int32))] [(.long (((own_sh q0 1).toUInt64 >>> ((8 : Int32) &&& 0x3f).toInt64.toUInt64).toInt64))]))
  refine own_by (fun _ k => XS.lstore X6.here hx rfl (hb hby d5_30) rfl (l' := #[.val (.long q0), .second, .val (.ref a1), .val (.int (1 : Int32)), .val (.int (8 : Int32)), .val (.long (((own_sh q0 1).toUInt64 >>> ((8 : Int32) &&& 0x3f).toInt64.toUInt64).toInt64)), .second, .val (.int (7 : Int32))]) rfl k) ?_
  show own_Go p e below _ (T6.setTop (mkF m 32 #[.val (.long q0), .second, .val (.ref a1), .val (.int (1 : Int32)), .val (.int (8 : Int32)), .val (.long (((own_sh q0 1).toUInt64 >>> ((8 : Int32) &&& 0x3f).toInt64.toUInt64).toInt64)), .second, .val (.int (7 : Int32))] []))
  refine own_by (fun _ k => XS.iinc X6.here hx rfl (hb hby d5_32) rfl (l' := #[.val (.long q0), .second, .val (.ref a1), .val (.int (1 : Int32)), .val (.int (8 : Int32)), .val (.long (((own_sh q0 1).toUInt64 >>> ((8 : Int32) &&& 0x3f).toInt64.toUInt64).toInt64)), .second, .val (.int (6 : Int32))]) rfl k) ?_
  show own_Go p e below _ (T6.setTop (mkF m 35 #[.val (.long q0), .second, .val (.ref a1), .val (.int (1 : Int32)), .val (.int (8 : Int32)), .val (.long (((own_sh q0 1).toUInt64 >>> ((8 : Int32) &&& 0x3f).toInt64.toUInt64).toInt64)), .second, .val (.int (6 : Int32))] []))
  refine own_by (fun _ k => XS.goto X6.here hx rfl (pc0 := 35) (pc' := 11) rfl (hb hby d5_35) (by decide) (by decide) k) ?_
  show own_Go p e below _ (T6.setTop (mkF m 11 #[.val (.long q0), .second, .val (.ref a1), .val (.int (1 : Int32)), .val (.int (8 : Int32)), .val (.long (((own_sh q0 1).toUInt64 >>> ((8 : Int32) &&& 0x3f).toInt64.toUInt64).toInt64)), .second, .val (.int (6 : Int32))] []))
  show own_Go p e below _ (T6.setTop (mkF m 11 #[.val (.long q0), .second, .val (.ref a1), .val (.int (1 : Int32)), .val (.int (8 : Int32)), .val (.long (own_sh q0 2)), .second, .val (.int (6 : Int32))] []))
  have V7 : own_Arf Z h6 a1 k_a1 .byte (9 : Int32) (fun i => .int ((own_wr fn_a1 q0 8 2) i)) := V6
  refine own_by (fun _ k => XS.iload X6.here hx rfl (hb hby d5_11) rfl k) ?_
  show own_Go p e below _ (T6.setTop (mkF m 13 #[.val (.long q0), .second, .val (.ref a1), .val (.int (1 : Int32)), .val (.int (8 : Int32)), .val (.long (own_sh q0 2)), .second, .val (.int (6 : Int32))] [(.int (6 : Int32))]))
  refine own_by (fun _ k => XS.iloadN X6.here hx rfl (hb hby d5_13) rfl k) ?_
  show own_Go p e below _ (T6.setTop (mkF m 14 #[.val (.long q0), .second, .val (.ref a1), .val (.int (1 : Int32)), .val (.int (8 : Int32)), .val (.long (own_sh q0 2)), .second, .val (.int (6 : Int32))] [(.int (1 : Int32)), (.int (6 : Int32))]))
  refine own_by (fun _ k => XS.icmpNo X6.here hx rfl (hb hby d5_14) rfl (flt (by decide : ¬ ((6 : Int32) < (1 : Int32)))).1 k) ?_
  show own_Go p e below _ (T6.setTop (mkF m 17 #[.val (.long q0), .second, .val (.ref a1), .val (.int (1 : Int32)), .val (.int (8 : Int32)), .val (.long (own_sh q0 2)), .second, .val (.int (6 : Int32))] []))
  refine own_by (fun _ k => XS.aloadN X6.here hx rfl (hb hby d5_17) rfl rfl k) ?_
  show own_Go p e below _ (T6.setTop (mkF m 18 #[.val (.long q0), .second, .val (.ref a1), .val (.int (1 : Int32)), .val (.int (8 : Int32)), .val (.long (own_sh q0 2)), .second, .val (.int (6 : Int32))] [(.ref a1)]))
  refine own_by (fun _ k => XS.iload X6.here hx rfl (hb hby d5_18) rfl k) ?_
  show own_Go p e below _ (T6.setTop (mkF m 20 #[.val (.long q0), .second, .val (.ref a1), .val (.int (1 : Int32)), .val (.int (8 : Int32)), .val (.long (own_sh q0 2)), .second, .val (.int (6 : Int32))] [(.int (6 : Int32)), (.ref a1)]))
  refine own_by (fun _ k => XS.lload X6.here hx rfl (hb hby d5_20) rfl k) ?_
  show own_Go p e below _ (T6.setTop (mkF m 22 #[.val (.long q0), .second, .val (.ref a1), .val (.int (1 : Int32)), .val (.int (8 : Int32)), .val (.long (own_sh q0 2)), .second, .val (.int (6 : Int32))] [(.long (own_sh q0 2)), (.int (6 : Int32)), (.ref a1)]))
  refine own_by (fun _ k => XS.l2i X6.here hx rfl (hb hby d5_22) rfl k) ?_
  show own_Go p e below _ (T6.setTop (mkF m 23 #[.val (.long q0), .second, .val (.ref a1), .val (.int (1 : Int32)), .val (.int (8 : Int32)), .val (.long (own_sh q0 2)), .second, .val (.int (6 : Int32))] [(.int ((own_sh q0 2).toInt32)), (.int (6 : Int32)), (.ref a1)]))
  refine own_by (fun _ k => XS.i2b X6.here hx rfl (hb hby d5_23) rfl k) ?_
  show own_Go p e below _ (T6.setTop (mkF m 24 #[.val (.long q0), .second, .val (.ref a1), .val (.int (1 : Int32)), .val (.int (8 : Int32)), .val (.long (own_sh q0 2)), .second, .val (.int (6 : Int32))] [(.int (((own_sh q0 2).toInt32).toInt8.toInt32)), (.int (6 : Int32)), (.ref a1)]))
  obtain ⟨cl8, Ar8, qq8, S8, M8, H8, G8⟩ := id V7
  have hin8 : ¬ ((6 : Int32) < 0 ∨ cl8.slots.size ≤ ((6 : Int32)).toNatClampNeg) := inb_of S8 ⟨by decide, by decide⟩
  obtain ⟨T9, h9, X9, e9, W9, st9⟩ := stB X6 hx hZ e6 Ar8 (j := (6 : Int32)) hin8 (g := (mkF m 24 #[.val (.long q0), .second, .val (.ref a1), .val (.int (1 : Int32)), .val (.int (8 : Int32)), .val (.long (own_sh q0 2)), .second, .val (.int (6 : Int32))] [(.int (((own_sh q0 2).toInt32).toInt8.toInt32)), (.int (6 : Int32)), (.ref a1)])) rfl rfl (hb hby d5_24)
  have V9 : own_Arf Z h9 a1 k_a1 .byte (9 : Int32) (fun i => .int ((own_upd (own_wr fn_a1 q0 8 2) 6 (nar .byte (((own_sh q0 2).toInt32).toInt8.toInt32))) i)) := own_arfSetI Ar8 qq8 S8 M8 H8 G8 (fits_nar_byte _) W9
  have K9 : Keep h0 h9 [a1] := K6.wr W9 (Or.inl (List.mem_of_getElem? (i := 0) rfl))
  have Z9 : n0 ≤ h9.size := Nat.le_trans Z6 (Keep.of_wr W9).1
  have N9 := Fr.snoc X9 N6 g_a1
  refine own_by st9 ?_
  show own_Go p e below _ (T9.setTop (mkF m 25 #[.val (.long q0), .second, .val (.ref a1), .val (.int (1 : Int32)), .val (.int (8 : Int32)), .val (.long (own_sh q0 2)), .second, .val (.int (6 : Int32))] []))
  refine own_by (fun _ k => XS.lload X9.here hx rfl (hb hby d5_25) rfl k) ?_
  show own_Go p e below _ (T9.setTop (mkF m 27 #[.val (.long q0), .second, .val (.ref a1), .val (.int (1 : Int32)), .val (.int (8 : Int32)), .val (.long (own_sh q0 2)), .second, .val (.int (6 : Int32))] [(.long (own_sh q0 2))]))
  refine own_by (fun _ k => XS.bipush X9.here hx rfl (hb hby d5_27) k) ?_
  show own_Go p e below _ (T9.setTop (mkF m 29 #[.val (.long q0), .second, .val (.ref a1), .val (.int (1 : Int32)), .val (.int (8 : Int32)), .val (.long (own_sh q0 2)), .second, .val (.int (6 : Int32))] [(.int (8 : Int32)), (.long (own_sh q0 2))]))
  refine own_by (fun _ k => XS.lushr X9.here hx rfl (hb hby d5_29) rfl k) ?_
  show own_Go p e below _ (T9.setTop (mkF m 30 #[.val (.long q0), .second, .val (.ref a1), .val (.int (1 : Int32)), .val (.int (8 : Int32)), .val (.long (own_sh q0 2)), .second, .val (.int (6 : Int32))] [(.long (((own_sh q0 2).toUInt64 >>> ((8 : Int32) &&& 0x3f).toInt64.toUInt64).toInt64))]))
  refine own_by (fun _ k => XS.lstore X9.here hx rfl (hb hby d5_30) rfl (l' := #[.val (.long q0), .second, .val (.ref a1), .val (.int (1 : Int32)), .val (.int (8 : Int32)), .val (.long (((own_sh q0 2).toUInt64 >>> ((8 : Int32) &&& 0x3f).toInt64.toUInt64).toInt64)), .second, .val (.int (6 : Int32))]) rfl k) ?_
  show own_Go p e below _ (T9.setTop (mkF m 32 #[.val (.long q0), .second, .val (.ref a1), .val (.int (1 : Int32)), .val (.int (8 : Int32)), .val (.long (((own_sh q0 2).toUInt64 >>> ((8 : Int32) &&& 0x3f).toInt64.toUInt64).toInt64)), .second, .val (.int (6 : Int32))] []))
  refine own_by (fun _ k => XS.iinc X9.here hx rfl (hb hby d5_32) rfl (l' := #[.val (.long q0), .second, .val (.ref a1), .val (.int (1 : Int32)), .val (.int (8 : Int32)), .val (.long (((own_sh q0 2).toUInt64 >>> ((8 : Int32) &&& 0x3f).toInt64.toUInt64).toInt64)), .second, .val (.int (5 : Int32))]) rfl k) ?_
  show own_Go p e below _ (T9.setTop (mkF m 35 #[.val (.long q0), .second, .val (.ref a1), .val (.int (1 : Int32)), .val (.int (8 : Int32)), .val (.long (((own_sh q0 2).toUInt64 >>> ((8 : Int32) &&& 0x3f).toInt64.toUInt64).toInt64)), .second, .val (.int (5 : Int32))] []))
  refine own_by (fun _ k => XS.goto X9.here hx rfl (pc0 := 35) (pc' := 11) rfl (hb hby d5_35) (by decide) (by decide) k) ?_
  show own_Go p e below _ (T9.setTop (mkF m 11 #[.val (.long q0), .second, .val (.ref a1), .val (.int (1 : Int32)), .val (.int (8 : Int32)), .val (.long (((own_sh q0 2).toUInt64 >>> ((8 : Int32) &&& 0x3f).toInt64.toUInt64).toInt64)), .second, .val (.int (5 : Int32))] []))
  show own_Go p e below _ (T9.setTop (mkF m 11 #[.val (.long q0), .second, .val (.ref a1), .val (.int (1 : Int32)), .val (.int (8 : Int32)), .val (.long (own_sh q0 3)), .second, .val (.int (5 : Int32))] []))
  have V10 : own_Arf Z h9 a1 k_a1 .byte (9 : Int32) (fun i => .int ((own_wr fn_a1 q0 8 3) i)) := V9
  refine own_by (fun _ k => XS.iload X9.here hx rfl (hb hby d5_11) rfl k) ?_
  show own_Go p e below _ (T9.setTop (mkF m 13 #[.val (.long q0), .second, .val (.ref a1), .val (.int (1 : Int32)), .val (.int (8 : Int32)), .val (.long (own_sh q0 3)), .second, .val (.int (5 : Int32))] [(.int (5 : Int32))]))
  refine own_by (fun _ k => XS.iloadN X9.here hx rfl (hb hby d5_13) rfl k) ?_
  show own_Go p e below _ (T9.setTop (mkF m 14 #[.val (.long q0), .second, .val (.ref a1), .val (.int (1 : Int32)), .val (.int (8 : Int32)), .val (.long (own_sh q0 3)), .second, .val (.int (5 : Int32))] [(.int (1 : Int32)), (.int (5 : Int32))]))
  refine own_by (fun _ k => XS.icmpNo X9.here hx rfl (hb hby d5_14) rfl (flt (by decide : ¬ ((5 : Int32) < (1 : Int32)))).1 k) ?_
  show own_Go p e below _ (T9.setTop (mkF m 17 #[.val (.long q0), .second, .val (.ref a1), .val (.int (1 : Int32)), .val (.int (8 : Int32)), .val (.long (own_sh q0 3)), .second, .val (.int (5 : Int32))] []))
  refine own_by (fun _ k => XS.aloadN X9.here hx rfl (hb hby d5_17) rfl rfl k) ?_
  show own_Go p e below _ (T9.setTop (mkF m 18 #[.val (.long q0), .second, .val (.ref a1), .val (.int (1 : Int32)), .val (.int (8 : Int32)), .val (.long (own_sh q0 3)), .second, .val (.int (5 : Int32))] [(.ref a1)]))
  refine own_by (fun _ k => XS.iload X9.here hx rfl (hb hby d5_18) rfl k) ?_
  show own_Go p e below _ (T9.setTop (mkF m 20 #[.val (.long q0), .second, .val (.ref a1), .val (.int (1 : Int32)), .val (.int (8 : Int32)), .val (.long (own_sh q0 3)), .second, .val (.int (5 : Int32))] [(.int (5 : Int32)), (.ref a1)]))
  refine own_by (fun _ k => XS.lload X9.here hx rfl (hb hby d5_20) rfl k) ?_
  show own_Go p e below _ (T9.setTop (mkF m 22 #[.val (.long q0), .second, .val (.ref a1), .val (.int (1 : Int32)), .val (.int (8 : Int32)), .val (.long (own_sh q0 3)), .second, .val (.int (5 : Int32))] [(.long (own_sh q0 3)), (.int (5 : Int32)), (.ref a1)]))
  refine own_by (fun _ k => XS.l2i X9.here hx rfl (hb hby d5_22) rfl k) ?_
  show own_Go p e below _ (T9.setTop (mkF m 23 #[.val (.long q0), .second, .val (.ref a1), .val (.int (1 : Int32)), .val (.int (8 : Int32)), .val (.long (own_sh q0 3)), .second, .val (.int (5 : Int32))] [(.int ((own_sh q0 3).toInt32)), (.int (5 : Int32)), (.ref a1)]))
  refine own_by (fun _ k => XS.i2b X9.here hx rfl (hb hby d5_23) rfl k) ?_
  show own_Go p e below _ (T9.setTop (mkF m 24 #[.val (.long q0), .second, .val (.ref a1), .val (.int (1 : Int32)), .val (.int (8 : Int32)), .val (.long (own_sh q0 3)), .second, .val (.int (5 : Int32))] [(.int (((own_sh q0 3).toInt32).toInt8.toInt32)), (.int (5 : Int32)), (.ref a1)]))
  obtain ⟨cl11, Ar11, qq11, S11, M11, H11, G11⟩ := id V10
  have hin11 : ¬ ((5 : Int32) < 0 ∨ cl11.slots.size ≤ ((5 : Int32)).toNatClampNeg) := inb_of S11 ⟨by decide, by decide⟩
  obtain ⟨T12, h12, X12, e12, W12, st12⟩ := stB X9 hx hZ e9 Ar11 (j := (5 : Int32)) hin11 (g := (mkF m 24 #[.val (.long q0), .second, .val (.ref a1), .val (.int (1 : Int32)), .val (.int (8 : Int32)), .val (.long (own_sh q0 3)), .second, .val (.int (5 : Int32))] [(.int (((own_sh q0 3).toInt32).toInt8.toInt32)), (.int (5 : Int32)), (.ref a1)])) rfl rfl (hb hby d5_24)
  have V12 : own_Arf Z h12 a1 k_a1 .byte (9 : Int32) (fun i => .int ((own_upd (own_wr fn_a1 q0 8 3) 5 (nar .byte (((own_sh q0 3).toInt32).toInt8.toInt32))) i)) := own_arfSetI Ar11 qq11 S11 M11 H11 G11 (fits_nar_byte _) W12
  have K12 : Keep h0 h12 [a1] := K9.wr W12 (Or.inl (List.mem_of_getElem? (i := 0) rfl))
  have Z12 : n0 ≤ h12.size := Nat.le_trans Z9 (Keep.of_wr W12).1
  have N12 := Fr.snoc X12 N9 g_a1
  refine own_by st12 ?_
  show own_Go p e below _ (T12.setTop (mkF m 25 #[.val (.long q0), .second, .val (.ref a1), .val (.int (1 : Int32)), .val (.int (8 : Int32)), .val (.long (own_sh q0 3)), .second, .val (.int (5 : Int32))] []))
  refine own_by (fun _ k => XS.lload X12.here hx rfl (hb hby d5_25) rfl k) ?_
  show own_Go p e below _ (T12.setTop (mkF m 27 #[.val (.long q0), .second, .val (.ref a1), .val (.int (1 : Int32)), .val (.int (8 : Int32)), .val (.long (own_sh q0 3)), .second, .val (.int (5 : Int32))] [(.long (own_sh q0 3))]))
  refine own_by (fun _ k => XS.bipush X12.here hx rfl (hb hby d5_27) k) ?_
  show own_Go p e below _ (T12.setTop (mkF m 29 #[.val (.long q0), .second, .val (.ref a1), .val (.int (1 : Int32)), .val (.int (8 : Int32)), .val (.long (own_sh q0 3)), .second, .val (.int (5 : Int32))] [(.int (8 : Int32)), (.long (own_sh q0 3))]))
  refine own_by (fun _ k => XS.lushr X12.here hx rfl (hb hby d5_29) rfl k) ?_
  show own_Go p e below _ (T12.setTop (mkF m 30 #[.val (.long q0), .second, .val (.ref a1), .val (.int (1 : Int32)), .val (.int (8 : Int32)), .val (.long (own_sh q0 3)), .second, .val (.int (5 : Int32))] [(.long (((own_sh q0 3).toUInt64 >>> ((8 : Int32) &&& 0x3f).toInt64.toUInt64).toInt64))]))
  refine own_by (fun _ k => XS.lstore X12.here hx rfl (hb hby d5_30) rfl (l' := #[.val (.long q0), .second, .val (.ref a1), .val (.int (1 : Int32)), .val (.int (8 : Int32)), .val (.long (((own_sh q0 3).toUInt64 >>> ((8 : Int32) &&& 0x3f).toInt64.toUInt64).toInt64)), .second, .val (.int (5 : Int32))]) rfl k) ?_
  show own_Go p e below _ (T12.setTop (mkF m 32 #[.val (.long q0), .second, .val (.ref a1), .val (.int (1 : Int32)), .val (.int (8 : Int32)), .val (.long (((own_sh q0 3).toUInt64 >>> ((8 : Int32) &&& 0x3f).toInt64.toUInt64).toInt64)), .second, .val (.int (5 : Int32))] []))
  refine own_by (fun _ k => XS.iinc X12.here hx rfl (hb hby d5_32) rfl (l' := #[.val (.long q0), .second, .val (.ref a1), .val (.int (1 : Int32)), .val (.int (8 : Int32)), .val (.long (((own_sh q0 3).toUInt64 >>> ((8 : Int32) &&& 0x3f).toInt64.toUInt64).toInt64)), .second, .val (.int (4 : Int32))]) rfl k) ?_
  show own_Go p e below _ (T12.setTop (mkF m 35 #[.val (.long q0), .second, .val (.ref a1), .val (.int (1 : Int32)), .val (.int (8 : Int32)), .val (.long (((own_sh q0 3).toUInt64 >>> ((8 : Int32) &&& 0x3f).toInt64.toUInt64).toInt64)), .second, .val (.int (4 : Int32))] []))
  refine own_by (fun _ k => XS.goto X12.here hx rfl (pc0 := 35) (pc' := 11) rfl (hb hby d5_35) (by decide) (by decide) k) ?_
  show own_Go p e below _ (T12.setTop (mkF m 11 #[.val (.long q0), .second, .val (.ref a1), .val (.int (1 : Int32)), .val (.int (8 : Int32)), .val (.long (((own_sh q0 3).toUInt64 >>> ((8 : Int32) &&& 0x3f).toInt64.toUInt64).toInt64)), .second, .val (.int (4 : Int32))] []))
  show own_Go p e below _ (T12.setTop (mkF m 11 #[.val (.long q0), .second, .val (.ref a1), .val (.int (1 : Int32)), .val (.int (8 : Int32)), .val (.long (own_sh q0 4)), .second, .val (.int (4 : Int32))] []))
  have V13 : own_Arf Z h12 a1 k_a1 .byte (9 : Int32) (fun i => .int ((own_wr fn_a1 q0 8 4) i)) := V12
  refine own_by (fun _ k => XS.iload X12.here hx rfl (hb hby d5_11) rfl k) ?_
  show own_Go p e below _ (T12.setTop (mkF m 13 #[.val (.long q0), .second, .val (.ref a1), .val (.int (1 : Int32)), .val (.int (8 : Int32)), .val (.long (own_sh q0 4)), .second, .val (.int (4 : Int32))] [(.int (4 : Int32))]))
  refine own_by (fun _ k => XS.iloadN X12.here hx rfl (hb hby d5_13) rfl k) ?_
  show own_Go p e below _ (T12.setTop (mkF m 14 #[.val (.long q0), .second, .val (.ref a1), .val (.int (1 : Int32)), .val (.int (8 : Int32)), .val (.long (own_sh q0 4)), .second, .val (.int (4 : Int32))] [(.int (1 : Int32)), (.int (4 : Int32))]))
  refine own_by (fun _ k => XS.icmpNo X12.here hx rfl (hb hby d5_14) rfl (flt (by decide : ¬ ((4 : Int32) < (1 : Int32)))).1 k) ?_
  show own_Go p e below _ (T12.setTop (mkF m 17 #[.val (.long q0), .second, .val (.ref a1), .val (.int (1 : Int32)), .val (.int (8 : Int32)), .val (.long (own_sh q0 4)), .second, .val (.int (4 : Int32))] []))
  refine own_by (fun _ k => XS.aloadN X12.here hx rfl (hb hby d5_17) rfl rfl k) ?_
  show own_Go p e below _ (T12.setTop (mkF m 18 #[.val (.long q0), .second, .val (.ref a1), .val (.int (1 : Int32)), .val (.int (8 : Int32)), .val (.long (own_sh q0 4)), .second, .val (.int (4 : Int32))] [(.ref a1)]))
  refine own_by (fun _ k => XS.iload X12.here hx rfl (hb hby d5_18) rfl k) ?_
  show own_Go p e below _ (T12.setTop (mkF m 20 #[.val (.long q0), .second, .val (.ref a1), .val (.int (1 : Int32)), .val (.int (8 : Int32)), .val (.long (own_sh q0 4)), .second, .val (.int (4 : Int32))] [(.int (4 : Int32)), (.ref a1)]))
  refine own_by (fun _ k => XS.lload X12.here hx rfl (hb hby d5_20) rfl k) ?_
  show own_Go p e below _ (T12.setTop (mkF m 22 #[.val (.long q0), .second, .val (.ref a1), .val (.int (1 : Int32)), .val (.int (8 : Int32)), .val (.long (own_sh q0 4)), .second, .val (.int (4 : Int32))] [(.long (own_sh q0 4)), (.int (4 : Int32)), (.ref a1)]))
  refine own_by (fun _ k => XS.l2i X12.here hx rfl (hb hby d5_22) rfl k) ?_
  show own_Go p e below _ (T12.setTop (mkF m 23 #[.val (.long q0), .second, .val (.ref a1), .val (.int (1 : Int32)), .val (.int (8 : Int32)), .val (.long (own_sh q0 4)), .second, .val (.int (4 : Int32))] [(.int ((own_sh q0 4).toInt32)), (.int (4 : Int32)), (.ref a1)]))
  refine own_by (fun _ k => XS.i2b X12.here hx rfl (hb hby d5_23) rfl k) ?_
  show own_Go p e below _ (T12.setTop (mkF m 24 #[.val (.long q0), .second, .val (.ref a1), .val (.int (1 : Int32)), .val (.int (8 : Int32)), .val (.long (own_sh q0 4)), .second, .val (.int (4 : Int32))] [(.int (((own_sh q0 4).toInt32).toInt8.toInt32)), (.int (4 : Int32)), (.ref a1)]))
  obtain ⟨cl14, Ar14, qq14, S14, M14, H14, G14⟩ := id V13
  have hin14 : ¬ ((4 : Int32) < 0 ∨ cl14.slots.size ≤ ((4 : Int32)).toNatClampNeg) := inb_of S14 ⟨by decide, by decide⟩
  obtain ⟨T15, h15, X15, e15, W15, st15⟩ := stB X12 hx hZ e12 Ar14 (j := (4 : Int32)) hin14 (g := (mkF m 24 #[.val (.long q0), .second, .val (.ref a1), .val (.int (1 : Int32)), .val (.int (8 : Int32)), .val (.long (own_sh q0 4)), .second, .val (.int (4 : Int32))] [(.int (((own_sh q0 4).toInt32).toInt8.toInt32)), (.int (4 : Int32)), (.ref a1)])) rfl rfl (hb hby d5_24)
  have V15 : own_Arf Z h15 a1 k_a1 .byte (9 : Int32) (fun i => .int ((own_upd (own_wr fn_a1 q0 8 4) 4 (nar .byte (((own_sh q0 4).toInt32).toInt8.toInt32))) i)) := own_arfSetI Ar14 qq14 S14 M14 H14 G14 (fits_nar_byte _) W15
  have K15 : Keep h0 h15 [a1] := K12.wr W15 (Or.inl (List.mem_of_getElem? (i := 0) rfl))
  have Z15 : n0 ≤ h15.size := Nat.le_trans Z12 (Keep.of_wr W15).1
  have N15 := Fr.snoc X15 N12 g_a1
  refine own_by st15 ?_
  show own_Go p e below _ (T15.setTop (mkF m 25 #[.val (.long q0), .second, .val (.ref a1), .val (.int (1 : Int32)), .val (.int (8 : Int32)), .val (.long (own_sh q0 4)), .second, .val (.int (4 : Int32))] []))
  refine own_by (fun _ k => XS.lload X15.here hx rfl (hb hby d5_25) rfl k) ?_
  show own_Go p e below _ (T15.setTop (mkF m 27 #[.val (.long q0), .second, .val (.ref a1), .val (.int (1 : Int32)), .val (.int (8 : Int32)), .val (.long (own_sh q0 4)), .second, .val (.int (4 : Int32))] [(.long (own_sh q0 4))]))
  refine own_by (fun _ k => XS.bipush X15.here hx rfl (hb hby d5_27) k) ?_
  show own_Go p e below _ (T15.setTop (mkF m 29 #[.val (.long q0), .second, .val (.ref a1), .val (.int (1 : Int32)), .val (.int (8 : Int32)), .val (.long (own_sh q0 4)), .second, .val (.int (4 : Int32))] [(.int (8 : Int32)), (.long (own_sh q0 4))]))
  refine own_by (fun _ k => XS.lushr X15.here hx rfl (hb hby d5_29) rfl k) ?_
  show own_Go p e below _ (T15.setTop (mkF m 30 #[.val (.long q0), .second, .val (.ref a1), .val (.int (1 : Int32)), .val (.int (8 : Int32)), .val (.long (own_sh q0 4)), .second, .val (.int (4 : Int32))] [(.long (((own_sh q0 4).toUInt64 >>> ((8 : Int32) &&& 0x3f).toInt64.toUInt64).toInt64))]))
  refine own_by (fun _ k => XS.lstore X15.here hx rfl (hb hby d5_30) rfl (l' := #[.val (.long q0), .second, .val (.ref a1), .val (.int (1 : Int32)), .val (.int (8 : Int32)), .val (.long (((own_sh q0 4).toUInt64 >>> ((8 : Int32) &&& 0x3f).toInt64.toUInt64).toInt64)), .second, .val (.int (4 : Int32))]) rfl k) ?_
  show own_Go p e below _ (T15.setTop (mkF m 32 #[.val (.long q0), .second, .val (.ref a1), .val (.int (1 : Int32)), .val (.int (8 : Int32)), .val (.long (((own_sh q0 4).toUInt64 >>> ((8 : Int32) &&& 0x3f).toInt64.toUInt64).toInt64)), .second, .val (.int (4 : Int32))] []))
  refine own_by (fun _ k => XS.iinc X15.here hx rfl (hb hby d5_32) rfl (l' := #[.val (.long q0), .second, .val (.ref a1), .val (.int (1 : Int32)), .val (.int (8 : Int32)), .val (.long (((own_sh q0 4).toUInt64 >>> ((8 : Int32) &&& 0x3f).toInt64.toUInt64).toInt64)), .second, .val (.int (3 : Int32))]) rfl k) ?_
  show own_Go p e below _ (T15.setTop (mkF m 35 #[.val (.long q0), .second, .val (.ref a1), .val (.int (1 : Int32)), .val (.int (8 : Int32)), .val (.long (((own_sh q0 4).toUInt64 >>> ((8 : Int32) &&& 0x3f).toInt64.toUInt64).toInt64)), .second, .val (.int (3 : Int32))] []))
  refine own_by (fun _ k => XS.goto X15.here hx rfl (pc0 := 35) (pc' := 11) rfl (hb hby d5_35) (by decide) (by decide) k) ?_
  show own_Go p e below _ (T15.setTop (mkF m 11 #[.val (.long q0), .second, .val (.ref a1), .val (.int (1 : Int32)), .val (.int (8 : Int32)), .val (.long (((own_sh q0 4).toUInt64 >>> ((8 : Int32) &&& 0x3f).toInt64.toUInt64).toInt64)), .second, .val (.int (3 : Int32))] []))
  show own_Go p e below _ (T15.setTop (mkF m 11 #[.val (.long q0), .second, .val (.ref a1), .val (.int (1 : Int32)), .val (.int (8 : Int32)), .val (.long (own_sh q0 5)), .second, .val (.int (3 : Int32))] []))
  have V16 : own_Arf Z h15 a1 k_a1 .byte (9 : Int32) (fun i => .int ((own_wr fn_a1 q0 8 5) i)) := V15
  refine own_by (fun _ k => XS.iload X15.here hx rfl (hb hby d5_11) rfl k) ?_
  show own_Go p e below _ (T15.setTop (mkF m 13 #[.val (.long q0), .second, .val (.ref a1), .val (.int (1 : Int32)), .val (.int (8 : Int32)), .val (.long (own_sh q0 5)), .second, .val (.int (3 : Int32))] [(.int (3 : Int32))]))
  refine own_by (fun _ k => XS.iloadN X15.here hx rfl (hb hby d5_13) rfl k) ?_
  show own_Go p e below _ (T15.setTop (mkF m 14 #[.val (.long q0), .second, .val (.ref a1), .val (.int (1 : Int32)), .val (.int (8 : Int32)), .val (.long (own_sh q0 5)), .second, .val (.int (3 : Int32))] [(.int (1 : Int32)), (.int (3 : Int32))]))
  refine own_by (fun _ k => XS.icmpNo X15.here hx rfl (hb hby d5_14) rfl (flt (by decide : ¬ ((3 : Int32) < (1 : Int32)))).1 k) ?_
  show own_Go p e below _ (T15.setTop (mkF m 17 #[.val (.long q0), .second, .val (.ref a1), .val (.int (1 : Int32)), .val (.int (8 : Int32)), .val (.long (own_sh q0 5)), .second, .val (.int (3 : Int32))] []))
  refine own_by (fun _ k => XS.aloadN X15.here hx rfl (hb hby d5_17) rfl rfl k) ?_
  show own_Go p e below _ (T15.setTop (mkF m 18 #[.val (.long q0), .second, .val (.ref a1), .val (.int (1 : Int32)), .val (.int (8 : Int32)), .val (.long (own_sh q0 5)), .second, .val (.int (3 : Int32))] [(.ref a1)]))
  refine own_by (fun _ k => XS.iload X15.here hx rfl (hb hby d5_18) rfl k) ?_
  show own_Go p e below _ (T15.setTop (mkF m 20 #[.val (.long q0), .second, .val (.ref a1), .val (.int (1 : Int32)), .val (.int (8 : Int32)), .val (.long (own_sh q0 5)), .second, .val (.int (3 : Int32))] [(.int (3 : Int32)), (.ref a1)]))
  refine own_by (fun _ k => XS.lload X15.here hx rfl (hb hby d5_20) rfl k) ?_
  show own_Go p e below _ (T15.setTop (mkF m 22 #[.val (.long q0), .second, .val (.ref a1), .val (.int (1 : Int32)), .val (.int (8 : Int32)), .val (.long (own_sh q0 5)), .second, .val (.int (3 : Int32))] [(.long (own_sh q0 5)), (.int (3 : Int32)), (.ref a1)]))
  refine own_by (fun _ k => XS.l2i X15.here hx rfl (hb hby d5_22) rfl k) ?_
  show own_Go p e below _ (T15.setTop (mkF m 23 #[.val (.long q0), .second, .val (.ref a1), .val (.int (1 : Int32)), .val (.int (8 : Int32)), .val (.long (own_sh q0 5)), .second, .val (.int (3 : Int32))] [(.int ((own_sh q0 5).toInt32)), (.int (3 : Int32)), (.ref a1)]))
  refine own_by (fun _ k => XS.i2b X15.here hx rfl (hb hby d5_23) rfl k) ?_
  show own_Go p e below _ (T15.setTop (mkF m 24 #[.val (.long q0), .second, .val (.ref a1), .val (.int (1 : Int32)), .val (.int (8 : Int32)), .val (.long (own_sh q0 5)), .second, .val (.int (3 : Int32))] [(.int (((own_sh q0 5).toInt32).toInt8.toInt32)), (.int (3 : Int32)), (.ref a1)]))
  obtain ⟨cl17, Ar17, qq17, S17, M17, H17, G17⟩ := id V16
  have hin17 : ¬ ((3 : Int32) < 0 ∨ cl17.slots.size ≤ ((3 : Int32)).toNatClampNeg) := inb_of S17 ⟨by decide, by decide⟩
  obtain ⟨T18, h18, X18, e18, W18, st18⟩ := stB X15 hx hZ e15 Ar17 (j := (3 : Int32)) hin17 (g := (mkF m 24 #[.val (.long q0), .second, .val (.ref a1), .val (.int (1 : Int32)), .val (.int (8 : Int32)), .val (.long (own_sh q0 5)), .second, .val (.int (3 : Int32))] [(.int (((own_sh q0 5).toInt32).toInt8.toInt32)), (.int (3 : Int32)), (.ref a1)])) rfl rfl (hb hby d5_24)
  have V18 : own_Arf Z h18 a1 k_a1 .byte (9 : Int32) (fun i => .int ((own_upd (own_wr fn_a1 q0 8 5) 3 (nar .byte (((own_sh q0 5).toInt32).toInt8.toInt32))) i)) := own_arfSetI Ar17 qq17 S17 M17 H17 G17 (fits_nar_byte _) W18
  have K18 : Keep h0 h18 [a1] := K15.wr W18 (Or.inl (List.mem_of_getElem? (i := 0) rfl))
  have Z18 : n0 ≤ h18.size := Nat.le_trans Z15 (Keep.of_wr W18).1
  have N18 := Fr.snoc X18 N15 g_a1
  refine own_by st18 ?_
  show own_Go p e below _ (T18.setTop (mkF m 25 #[.val (.long q0), .second, .val (.ref a1), .val (.int (1 : Int32)), .val (.int (8 : Int32)), .val (.long (own_sh q0 5)), .second, .val (.int (3 : Int32))] []))
  refine own_by (fun _ k => XS.lload X18.here hx rfl (hb hby d5_25) rfl k) ?_
  show own_Go p e below _ (T18.setTop (mkF m 27 #[.val (.long q0), .second, .val (.ref a1), .val (.int (1 : Int32)), .val (.int (8 : Int32)), .val (.long (own_sh q0 5)), .second, .val (.int (3 : Int32))] [(.long (own_sh q0 5))]))
  refine own_by (fun _ k => XS.bipush X18.here hx rfl (hb hby d5_27) k) ?_
  show own_Go p e below _ (T18.setTop (mkF m 29 #[.val (.long q0), .second, .val (.ref a1), .val (.int (1 : Int32)), .val (.int (8 : Int32)), .val (.long (own_sh q0 5)), .second, .val (.int (3 : Int32))] [(.int (8 : Int32)), (.long (own_sh q0 5))]))
  refine own_by (fun _ k => XS.lushr X18.here hx rfl (hb hby d5_29) rfl k) ?_
  show own_Go p e below _ (T18.setTop (mkF m 30 #[.val (.long q0), .second, .val (.ref a1), .val (.int (1 : Int32)), .val (.int (8 : Int32)), .val (.long (own_sh q0 5)), .second, .val (.int (3 : Int32))] [(.long (((own_sh q0 5).toUInt64 >>> ((8 : Int32) &&& 0x3f).toInt64.toUInt64).toInt64))]))
  refine own_by (fun _ k => XS.lstore X18.here hx rfl (hb hby d5_30) rfl (l' := #[.val (.long q0), .second, .val (.ref a1), .val (.int (1 : Int32)), .val (.int (8 : Int32)), .val (.long (((own_sh q0 5).toUInt64 >>> ((8 : Int32) &&& 0x3f).toInt64.toUInt64).toInt64)), .second, .val (.int (3 : Int32))]) rfl k) ?_
  show own_Go p e below _ (T18.setTop (mkF m 32 #[.val (.long q0), .second, .val (.ref a1), .val (.int (1 : Int32)), .val (.int (8 : Int32)), .val (.long (((own_sh q0 5).toUInt64 >>> ((8 : Int32) &&& 0x3f).toInt64.toUInt64).toInt64)), .second, .val (.int (3 : Int32))] []))
  refine own_by (fun _ k => XS.iinc X18.here hx rfl (hb hby d5_32) rfl (l' := #[.val (.long q0), .second, .val (.ref a1), .val (.int (1 : Int32)), .val (.int (8 : Int32)), .val (.long (((own_sh q0 5).toUInt64 >>> ((8 : Int32) &&& 0x3f).toInt64.toUInt64).toInt64)), .second, .val (.int (2 : Int32))]) rfl k) ?_
  show own_Go p e below _ (T18.setTop (mkF m 35 #[.val (.long q0), .second, .val (.ref a1), .val (.int (1 : Int32)), .val (.int (8 : Int32)), .val (.long (((own_sh q0 5).toUInt64 >>> ((8 : Int32) &&& 0x3f).toInt64.toUInt64).toInt64)), .second, .val (.int (2 : Int32))] []))
  refine own_by (fun _ k => XS.goto X18.here hx rfl (pc0 := 35) (pc' := 11) rfl (hb hby d5_35) (by decide) (by decide) k) ?_
  show own_Go p e below _ (T18.setTop (mkF m 11 #[.val (.long q0), .second, .val (.ref a1), .val (.int (1 : Int32)), .val (.int (8 : Int32)), .val (.long (((own_sh q0 5).toUInt64 >>> ((8 : Int32) &&& 0x3f).toInt64.toUInt64).toInt64)), .second, .val (.int (2 : Int32))] []))
  show own_Go p e below _ (T18.setTop (mkF m 11 #[.val (.long q0), .second, .val (.ref a1), .val (.int (1 : Int32)), .val (.int (8 : Int32)), .val (.long (own_sh q0 6)), .second, .val (.int (2 : Int32))] []))
  have V19 : own_Arf Z h18 a1 k_a1 .byte (9 : Int32) (fun i => .int ((own_wr fn_a1 q0 8 6) i)) := V18
  refine own_by (fun _ k => XS.iload X18.here hx rfl (hb hby d5_11) rfl k) ?_
  show own_Go p e below _ (T18.setTop (mkF m 13 #[.val (.long q0), .second, .val (.ref a1), .val (.int (1 : Int32)), .val (.int (8 : Int32)), .val (.long (own_sh q0 6)), .second, .val (.int (2 : Int32))] [(.int (2 : Int32))]))
  refine own_by (fun _ k => XS.iloadN X18.here hx rfl (hb hby d5_13) rfl k) ?_
  show own_Go p e below _ (T18.setTop (mkF m 14 #[.val (.long q0), .second, .val (.ref a1), .val (.int (1 : Int32)), .val (.int (8 : Int32)), .val (.long (own_sh q0 6)), .second, .val (.int (2 : Int32))] [(.int (1 : Int32)), (.int (2 : Int32))]))
  refine own_by (fun _ k => XS.icmpNo X18.here hx rfl (hb hby d5_14) rfl (flt (by decide : ¬ ((2 : Int32) < (1 : Int32)))).1 k) ?_
  show own_Go p e below _ (T18.setTop (mkF m 17 #[.val (.long q0), .second, .val (.ref a1), .val (.int (1 : Int32)), .val (.int (8 : Int32)), .val (.long (own_sh q0 6)), .second, .val (.int (2 : Int32))] []))
  refine own_by (fun _ k => XS.aloadN X18.here hx rfl (hb hby d5_17) rfl rfl k) ?_
  show own_Go p e below _ (T18.setTop (mkF m 18 #[.val (.long q0), .second, .val (.ref a1), .val (.int (1 : Int32)), .val (.int (8 : Int32)), .val (.long (own_sh q0 6)), .second, .val (.int (2 : Int32))] [(.ref a1)]))
  refine own_by (fun _ k => XS.iload X18.here hx rfl (hb hby d5_18) rfl k) ?_
  show own_Go p e below _ (T18.setTop (mkF m 20 #[.val (.long q0), .second, .val (.ref a1), .val (.int (1 : Int32)), .val (.int (8 : Int32)), .val (.long (own_sh q0 6)), .second, .val (.int (2 : Int32))] [(.int (2 : Int32)), (.ref a1)]))
  refine own_by (fun _ k => XS.lload X18.here hx rfl (hb hby d5_20) rfl k) ?_
  show own_Go p e below _ (T18.setTop (mkF m 22 #[.val (.long q0), .second, .val (.ref a1), .val (.int (1 : Int32)), .val (.int (8 : Int32)), .val (.long (own_sh q0 6)), .second, .val (.int (2 : Int32))] [(.long (own_sh q0 6)), (.int (2 : Int32)), (.ref a1)]))
  refine own_by (fun _ k => XS.l2i X18.here hx rfl (hb hby d5_22) rfl k) ?_
  show own_Go p e below _ (T18.setTop (mkF m 23 #[.val (.long q0), .second, .val (.ref a1), .val (.int (1 : Int32)), .val (.int (8 : Int32)), .val (.long (own_sh q0 6)), .second, .val (.int (2 : Int32))] [(.int ((own_sh q0 6).toInt32)), (.int (2 : Int32)), (.ref a1)]))
  refine own_by (fun _ k => XS.i2b X18.here hx rfl (hb hby d5_23) rfl k) ?_
  show own_Go p e below _ (T18.setTop (mkF m 24 #[.val (.long q0), .second, .val (.ref a1), .val (.int (1 : Int32)), .val (.int (8 : Int32)), .val (.long (own_sh q0 6)), .second, .val (.int (2 : Int32))] [(.int (((own_sh q0 6).toInt32).toInt8.toInt32)), (.int (2 : Int32)), (.ref a1)]))
  obtain ⟨cl20, Ar20, qq20, S20, M20, H20, G20⟩ := id V19
  have hin20 : ¬ ((2 : Int32) < 0 ∨ cl20.slots.size ≤ ((2 : Int32)).toNatClampNeg) := inb_of S20 ⟨by decide, by decide⟩
  obtain ⟨T21, h21, X21, e21, W21, st21⟩ := stB X18 hx hZ e18 Ar20 (j := (2 : Int32)) hin20 (g := (mkF m 24 #[.val (.long q0), .second, .val (.ref a1), .val (.int (1 : Int32)), .val (.int (8 : Int32)), .val (.long (own_sh q0 6)), .second, .val (.int (2 : Int32))] [(.int (((own_sh q0 6).toInt32).toInt8.toInt32)), (.int (2 : Int32)), (.ref a1)])) rfl rfl (hb hby d5_24)
  have V21 : own_Arf Z h21 a1 k_a1 .byte (9 : Int32) (fun i => .int ((own_upd (own_wr fn_a1 q0 8 6) 2 (nar .byte (((own_sh q0 6).toInt32).toInt8.toInt32))) i)) := own_arfSetI Ar20 qq20 S20 M20 H20 G20 (fits_nar_byte _) W21
  have K21 : Keep h0 h21 [a1] := K18.wr W21 (Or.inl (List.mem_of_getElem? (i := 0) rfl))
  have Z21 : n0 ≤ h21.size := Nat.le_trans Z18 (Keep.of_wr W21).1
  have N21 := Fr.snoc X21 N18 g_a1
  refine own_by st21 ?_
  show own_Go p e below _ (T21.setTop (mkF m 25 #[.val (.long q0), .second, .val (.ref a1), .val (.int (1 : Int32)), .val (.int (8 : Int32)), .val (.long (own_sh q0 6)), .second, .val (.int (2 : Int32))] []))
  refine own_by (fun _ k => XS.lload X21.here hx rfl (hb hby d5_25) rfl k) ?_
  show own_Go p e below _ (T21.setTop (mkF m 27 #[.val (.long q0), .second, .val (.ref a1), .val (.int (1 : Int32)), .val (.int (8 : Int32)), .val (.long (own_sh q0 6)), .second, .val (.int (2 : Int32))] [(.long (own_sh q0 6))]))
  refine own_by (fun _ k => XS.bipush X21.here hx rfl (hb hby d5_27) k) ?_
  show own_Go p e below _ (T21.setTop (mkF m 29 #[.val (.long q0), .second, .val (.ref a1), .val (.int (1 : Int32)), .val (.int (8 : Int32)), .val (.long (own_sh q0 6)), .second, .val (.int (2 : Int32))] [(.int (8 : Int32)), (.long (own_sh q0 6))]))
  refine own_by (fun _ k => XS.lushr X21.here hx rfl (hb hby d5_29) rfl k) ?_
  show own_Go p e below _ (T21.setTop (mkF m 30 #[.val (.long q0), .second, .val (.ref a1), .val (.int (1 : Int32)), .val (.int (8 : Int32)), .val (.long (own_sh q0 6)), .second, .val (.int (2 : Int32))] [(.long (((own_sh q0 6).toUInt64 >>> ((8 : Int32) &&& 0x3f).toInt64.toUInt64).toInt64))]))
  refine own_by (fun _ k => XS.lstore X21.here hx rfl (hb hby d5_30) rfl (l' := #[.val (.long q0), .second, .val (.ref a1), .val (.int (1 : Int32)), .val (.int (8 : Int32)), .val (.long (((own_sh q0 6).toUInt64 >>> ((8 : Int32) &&& 0x3f).toInt64.toUInt64).toInt64)), .second, .val (.int (2 : Int32))]) rfl k) ?_
  show own_Go p e below _ (T21.setTop (mkF m 32 #[.val (.long q0), .second, .val (.ref a1), .val (.int (1 : Int32)), .val (.int (8 : Int32)), .val (.long (((own_sh q0 6).toUInt64 >>> ((8 : Int32) &&& 0x3f).toInt64.toUInt64).toInt64)), .second, .val (.int (2 : Int32))] []))
  refine own_by (fun _ k => XS.iinc X21.here hx rfl (hb hby d5_32) rfl (l' := #[.val (.long q0), .second, .val (.ref a1), .val (.int (1 : Int32)), .val (.int (8 : Int32)), .val (.long (((own_sh q0 6).toUInt64 >>> ((8 : Int32) &&& 0x3f).toInt64.toUInt64).toInt64)), .second, .val (.int (1 : Int32))]) rfl k) ?_
  show own_Go p e below _ (T21.setTop (mkF m 35 #[.val (.long q0), .second, .val (.ref a1), .val (.int (1 : Int32)), .val (.int (8 : Int32)), .val (.long (((own_sh q0 6).toUInt64 >>> ((8 : Int32) &&& 0x3f).toInt64.toUInt64).toInt64)), .second, .val (.int (1 : Int32))] []))
  refine own_by (fun _ k => XS.goto X21.here hx rfl (pc0 := 35) (pc' := 11) rfl (hb hby d5_35) (by decide) (by decide) k) ?_
  show own_Go p e below _ (T21.setTop (mkF m 11 #[.val (.long q0), .second, .val (.ref a1), .val (.int (1 : Int32)), .val (.int (8 : Int32)), .val (.long (((own_sh q0 6).toUInt64 >>> ((8 : Int32) &&& 0x3f).toInt64.toUInt64).toInt64)), .second, .val (.int (1 : Int32))] []))
  show own_Go p e below _ (T21.setTop (mkF m 11 #[.val (.long q0), .second, .val (.ref a1), .val (.int (1 : Int32)), .val (.int (8 : Int32)), .val (.long (own_sh q0 7)), .second, .val (.int (1 : Int32))] []))
  have V22 : own_Arf Z h21 a1 k_a1 .byte (9 : Int32) (fun i => .int ((own_wr fn_a1 q0 8 7) i)) := V21
  refine own_by (fun _ k => XS.iload X21.here hx rfl (hb hby d5_11) rfl k) ?_
  show own_Go p e below _ (T21.setTop (mkF m 13 #[.val (.long q0), .second, .val (.ref a1), .val (.int (1 : Int32)), .val (.int (8 : Int32)), .val (.long (own_sh q0 7)), .second, .val (.int (1 : Int32))] [(.int (1 : Int32))]))
  refine own_by (fun _ k => XS.iloadN X21.here hx rfl (hb hby d5_13) rfl k) ?_
  show own_Go p e below _ (T21.setTop (mkF m 14 #[.val (.long q0), .second, .val (.ref a1), .val (.int (1 : Int32)), .val (.int (8 : Int32)), .val (.long (own_sh q0 7)), .second, .val (.int (1 : Int32))] [(.int (1 : Int32)), (.int (1 : Int32))]))
  refine own_by (fun _ k => XS.icmpNo X21.here hx rfl (hb hby d5_14) rfl (flt (by decide : ¬ ((1 : Int32) < (1 : Int32)))).1 k) ?_
  show own_Go p e below _ (T21.setTop (mkF m 17 #[.val (.long q0), .second, .val (.ref a1), .val (.int (1 : Int32)), .val (.int (8 : Int32)), .val (.long (own_sh q0 7)), .second, .val (.int (1 : Int32))] []))
  refine own_by (fun _ k => XS.aloadN X21.here hx rfl (hb hby d5_17) rfl rfl k) ?_
  show own_Go p e below _ (T21.setTop (mkF m 18 #[.val (.long q0), .second, .val (.ref a1), .val (.int (1 : Int32)), .val (.int (8 : Int32)), .val (.long (own_sh q0 7)), .second, .val (.int (1 : Int32))] [(.ref a1)]))
  refine own_by (fun _ k => XS.iload X21.here hx rfl (hb hby d5_18) rfl k) ?_
  show own_Go p e below _ (T21.setTop (mkF m 20 #[.val (.long q0), .second, .val (.ref a1), .val (.int (1 : Int32)), .val (.int (8 : Int32)), .val (.long (own_sh q0 7)), .second, .val (.int (1 : Int32))] [(.int (1 : Int32)), (.ref a1)]))
  refine own_by (fun _ k => XS.lload X21.here hx rfl (hb hby d5_20) rfl k) ?_
  show own_Go p e below _ (T21.setTop (mkF m 22 #[.val (.long q0), .second, .val (.ref a1), .val (.int (1 : Int32)), .val (.int (8 : Int32)), .val (.long (own_sh q0 7)), .second, .val (.int (1 : Int32))] [(.long (own_sh q0 7)), (.int (1 : Int32)), (.ref a1)]))
  refine own_by (fun _ k => XS.l2i X21.here hx rfl (hb hby d5_22) rfl k) ?_
  show own_Go p e below _ (T21.setTop (mkF m 23 #[.val (.long q0), .second, .val (.ref a1), .val (.int (1 : Int32)), .val (.int (8 : Int32)), .val (.long (own_sh q0 7)), .second, .val (.int (1 : Int32))] [(.int ((own_sh q0 7).toInt32)), (.int (1 : Int32)), (.ref a1)]))
  refine own_by (fun _ k => XS.i2b X21.here hx rfl (hb hby d5_23) rfl k) ?_
  show own_Go p e below _ (T21.setTop (mkF m 24 #[.val (.long q0), .second, .val (.ref a1), .val (.int (1 : Int32)), .val (.int (8 : Int32)), .val (.long (own_sh q0 7)), .second, .val (.int (1 : Int32))] [(.int (((own_sh q0 7).toInt32).toInt8.toInt32)), (.int (1 : Int32)), (.ref a1)]))
  obtain ⟨cl23, Ar23, qq23, S23, M23, H23, G23⟩ := id V22
  have hin23 : ¬ ((1 : Int32) < 0 ∨ cl23.slots.size ≤ ((1 : Int32)).toNatClampNeg) := inb_of S23 ⟨by decide, by decide⟩
  obtain ⟨T24, h24, X24, e24, W24, st24⟩ := stB X21 hx hZ e21 Ar23 (j := (1 : Int32)) hin23 (g := (mkF m 24 #[.val (.long q0), .second, .val (.ref a1), .val (.int (1 : Int32)), .val (.int (8 : Int32)), .val (.long (own_sh q0 7)), .second, .val (.int (1 : Int32))] [(.int (((own_sh q0 7).toInt32).toInt8.toInt32)), (.int (1 : Int32)), (.ref a1)])) rfl rfl (hb hby d5_24)
  have V24 : own_Arf Z h24 a1 k_a1 .byte (9 : Int32) (fun i => .int ((own_upd (own_wr fn_a1 q0 8 7) 1 (nar .byte (((own_sh q0 7).toInt32).toInt8.toInt32))) i)) := own_arfSetI Ar23 qq23 S23 M23 H23 G23 (fits_nar_byte _) W24
  have K24 : Keep h0 h24 [a1] := K21.wr W24 (Or.inl (List.mem_of_getElem? (i := 0) rfl))
  have Z24 : n0 ≤ h24.size := Nat.le_trans Z21 (Keep.of_wr W24).1
  have N24 := Fr.snoc X24 N21 g_a1
  refine own_by st24 ?_
  show own_Go p e below _ (T24.setTop (mkF m 25 #[.val (.long q0), .second, .val (.ref a1), .val (.int (1 : Int32)), .val (.int (8 : Int32)), .val (.long (own_sh q0 7)), .second, .val (.int (1 : Int32))] []))
  refine own_by (fun _ k => XS.lload X24.here hx rfl (hb hby d5_25) rfl k) ?_
  show own_Go p e below _ (T24.setTop (mkF m 27 #[.val (.long q0), .second, .val (.ref a1), .val (.int (1 : Int32)), .val (.int (8 : Int32)), .val (.long (own_sh q0 7)), .second, .val (.int (1 : Int32))] [(.long (own_sh q0 7))]))
  refine own_by (fun _ k => XS.bipush X24.here hx rfl (hb hby d5_27) k) ?_
  show own_Go p e below _ (T24.setTop (mkF m 29 #[.val (.long q0), .second, .val (.ref a1), .val (.int (1 : Int32)), .val (.int (8 : Int32)), .val (.long (own_sh q0 7)), .second, .val (.int (1 : Int32))] [(.int (8 : Int32)), (.long (own_sh q0 7))]))
  refine own_by (fun _ k => XS.lushr X24.here hx rfl (hb hby d5_29) rfl k) ?_
  show own_Go p e below _ (T24.setTop (mkF m 30 #[.val (.long q0), .second, .val (.ref a1), .val (.int (1 : Int32)), .val (.int (8 : Int32)), .val (.long (own_sh q0 7)), .second, .val (.int (1 : Int32))] [(.long (((own_sh q0 7).toUInt64 >>> ((8 : Int32) &&& 0x3f).toInt64.toUInt64).toInt64))]))
  refine own_by (fun _ k => XS.lstore X24.here hx rfl (hb hby d5_30) rfl (l' := #[.val (.long q0), .second, .val (.ref a1), .val (.int (1 : Int32)), .val (.int (8 : Int32)), .val (.long (((own_sh q0 7).toUInt64 >>> ((8 : Int32) &&& 0x3f).toInt64.toUInt64).toInt64)), .second, .val (.int (1 : Int32))]) rfl k) ?_
  show own_Go p e below _ (T24.setTop (mkF m 32 #[.val (.long q0), .second, .val (.ref a1), .val (.int (1 : Int32)), .val (.int (8 : Int32)), .val (.long (((own_sh q0 7).toUInt64 >>> ((8 : Int32) &&& 0x3f).toInt64.toUInt64).toInt64)), .second, .val (.int (1 : Int32))] []))
  refine own_by (fun _ k => XS.iinc X24.here hx rfl (hb hby d5_32) rfl (l' := #[.val (.long q0), .second, .val (.ref a1), .val (.int (1 : Int32)), .val (.int (8 : Int32)), .val (.long (((own_sh q0 7).toUInt64 >>> ((8 : Int32) &&& 0x3f).toInt64.toUInt64).toInt64)), .second, .val (.int (0 : Int32))]) rfl k) ?_
  show own_Go p e below _ (T24.setTop (mkF m 35 #[.val (.long q0), .second, .val (.ref a1), .val (.int (1 : Int32)), .val (.int (8 : Int32)), .val (.long (((own_sh q0 7).toUInt64 >>> ((8 : Int32) &&& 0x3f).toInt64.toUInt64).toInt64)), .second, .val (.int (0 : Int32))] []))
  refine own_by (fun _ k => XS.goto X24.here hx rfl (pc0 := 35) (pc' := 11) rfl (hb hby d5_35) (by decide) (by decide) k) ?_
  show own_Go p e below _ (T24.setTop (mkF m 11 #[.val (.long q0), .second, .val (.ref a1), .val (.int (1 : Int32)), .val (.int (8 : Int32)), .val (.long (((own_sh q0 7).toUInt64 >>> ((8 : Int32) &&& 0x3f).toInt64.toUInt64).toInt64)), .second, .val (.int (0 : Int32))] []))
  show own_Go p e below _ (T24.setTop (mkF m 11 #[.val (.long q0), .second, .val (.ref a1), .val (.int (1 : Int32)), .val (.int (8 : Int32)), .val (.long (own_sh q0 8)), .second, .val (.int (0 : Int32))] []))
  have V25 : own_Arf Z h24 a1 k_a1 .byte (9 : Int32) (fun i => .int ((own_wr fn_a1 q0 8 8) i)) := V24
  refine own_by (fun _ k => XS.iload X24.here hx rfl (hb hby d5_11) rfl k) ?_
  show own_Go p e below _ (T24.setTop (mkF m 13 #[.val (.long q0), .second, .val (.ref a1), .val (.int (1 : Int32)), .val (.int (8 : Int32)), .val (.long (own_sh q0 8)), .second, .val (.int (0 : Int32))] [(.int (0 : Int32))]))
  refine own_by (fun _ k => XS.iloadN X24.here hx rfl (hb hby d5_13) rfl k) ?_
  show own_Go p e below _ (T24.setTop (mkF m 14 #[.val (.long q0), .second, .val (.ref a1), .val (.int (1 : Int32)), .val (.int (8 : Int32)), .val (.long (own_sh q0 8)), .second, .val (.int (0 : Int32))] [(.int (1 : Int32)), (.int (0 : Int32))]))
  refine own_by (fun _ k => XS.icmpYes X24.here hx rfl (pc0 := 14) (pc' := 38) rfl (hb hby d5_14) rfl (tlt (by decide : (0 : Int32) < (1 : Int32))).1 (by decide) (by decide) k) ?_
  show own_Go p e below _ (T24.setTop (mkF m 38 #[.val (.long q0), .second, .val (.ref a1), .val (.int (1 : Int32)), .val (.int (8 : Int32)), .val (.long (own_sh q0 8)), .second, .val (.int (0 : Int32))] []))
  exact own_ret0 X24 hx Bd.returns (hb hby d5_38) hlk e24 ⟨rfl, N24, K24, V25⟩ (by decide) (by decide)
theorem pd_0 : parseMethodDescriptor "(J)I" = some ⟨[.long], some .int⟩ := by decide +kernel
theorem pd_17 : parseMethodDescriptor "(J[BII)V" = some ⟨[.long, (.array .byte), .int, .int], none⟩ := by decide +kernel
theorem d2_0 : decode prog_20_method_2_code 0 = .ok (.lload_n 0, 1) := by decide +kernel
theorem d2_1 : decode prog_20_method_2_code 1 = .ok (.lconst 0, 1) := by decide +kernel
theorem d2_2 : decode prog_20_method_2_code 2 = .ok (.lcmp, 1) := by decide +kernel
theorem d2_3 : decode prog_20_method_2_code 3 = .ok (.ifCond .ge 8, 3) := by decide +kernel
theorem d2_6 : decode prog_20_method_2_code 6 = .ok (.lload_n 0, 1) := by decide +kernel
theorem d2_7 : decode prog_20_method_2_code 7 = .ok (.lneg, 1) := by decide +kernel
theorem d2_8 : decode prog_20_method_2_code 8 = .ok (.goto 4, 3) := by decide +kernel
theorem d2_11 : decode prog_20_method_2_code 11 = .ok (.lload_n 0, 1) := by decide +kernel
theorem d2_12 : decode prog_20_method_2_code 12 = .ok (.lstore_n 2, 1) := by decide +kernel
theorem d2_13 : decode prog_20_method_2_code 13 = .ok (.bipush 64, 2) := by decide +kernel
theorem d2_15 : decode prog_20_method_2_code 15 = .ok (.lload_n 2, 1) := by decide +kernel
theorem d2_16 : decode prog_20_method_2_code 16 = .ok (.invokestatic 9, 3) := by decide +kernel
theorem d2_19 : decode prog_20_method_2_code 19 = .ok (.isub, 1) := by decide +kernel
theorem d2_20 : decode prog_20_method_2_code 20 = .ok (.bipush 7, 2) := by decide +kernel
theorem d2_22 : decode prog_20_method_2_code 22 = .ok (.iadd, 1) := by decide +kernel
theorem d2_23 : decode prog_20_method_2_code 23 = .ok (.bipush 8, 2) := by decide +kernel
theorem d2_25 : decode prog_20_method_2_code 25 = .ok (.idiv, 1) := by decide +kernel
theorem d2_26 : decode prog_20_method_2_code 26 = .ok (.istore 4, 2) := by decide +kernel
theorem d2_28 : decode prog_20_method_2_code 28 = .ok (.lload_n 0, 1) := by decide +kernel
theorem d2_29 : decode prog_20_method_2_code 29 = .ok (.lconst 0, 1) := by decide +kernel
theorem d2_30 : decode prog_20_method_2_code 30 = .ok (.lcmp, 1) := by decide +kernel
theorem d2_31 : decode prog_20_method_2_code 31 = .ok (.ifCond .ge 12, 3) := by decide +kernel
theorem d2_34 : decode prog_20_method_2_code 34 = .ok (.sipush 128, 3) := by decide +kernel
theorem d2_37 : decode prog_20_method_2_code 37 = .ok (.iload 4, 2) := by decide +kernel
theorem d2_39 : decode prog_20_method_2_code 39 = .ok (.isub, 1) := by decide +kernel
theorem d2_40 : decode prog_20_method_2_code 40 = .ok (.goto 9, 3) := by decide +kernel
theorem d2_43 : decode prog_20_method_2_code 43 = .ok (.sipush 128, 3) := by decide +kernel
theorem d2_46 : decode prog_20_method_2_code 46 = .ok (.iload 4, 2) := by decide +kernel
theorem d2_48 : decode prog_20_method_2_code 48 = .ok (.iadd, 1) := by decide +kernel
theorem d2_49 : decode prog_20_method_2_code 49 = .ok (.istore 5, 2) := by decide +kernel
theorem d2_51 : decode prog_20_method_2_code 51 = .ok (.iconst 1, 1) := by decide +kernel
theorem d2_52 : decode prog_20_method_2_code 52 = .ok (.iload 4, 2) := by decide +kernel
theorem d2_54 : decode prog_20_method_2_code 54 = .ok (.iadd, 1) := by decide +kernel
theorem d2_55 : decode prog_20_method_2_code 55 = .ok (.newarray .byte, 2) := by decide +kernel
theorem d2_57 : decode prog_20_method_2_code 57 = .ok (.astore 6, 2) := by decide +kernel
theorem d2_59 : decode prog_20_method_2_code 59 = .ok (.aload 6, 2) := by decide +kernel
theorem d2_61 : decode prog_20_method_2_code 61 = .ok (.iconst 0, 1) := by decide +kernel
theorem d2_62 : decode prog_20_method_2_code 62 = .ok (.iload 5, 2) := by decide +kernel
theorem d2_64 : decode prog_20_method_2_code 64 = .ok (.i2b, 1) := by decide +kernel
theorem d2_65 : decode prog_20_method_2_code 65 = .ok (.bastore, 1) := by decide +kernel
theorem d2_66 : decode prog_20_method_2_code 66 = .ok (.lload_n 0, 1) := by decide +kernel
theorem d2_67 : decode prog_20_method_2_code 67 = .ok (.lconst 0, 1) := by decide +kernel
theorem d2_68 : decode prog_20_method_2_code 68 = .ok (.lcmp, 1) := by decide +kernel
theorem d2_69 : decode prog_20_method_2_code 69 = .ok (.ifCond .ge 9, 3) := by decide +kernel
theorem d2_72 : decode prog_20_method_2_code 72 = .ok (.lload_n 0, 1) := by decide +kernel
theorem d2_73 : decode prog_20_method_2_code 73 = .ok (.lconst 1, 1) := by decide +kernel
theorem d2_74 : decode prog_20_method_2_code 74 = .ok (.lsub, 1) := by decide +kernel
theorem d2_75 : decode prog_20_method_2_code 75 = .ok (.goto 4, 3) := by decide +kernel
theorem d2_78 : decode prog_20_method_2_code 78 = .ok (.lload_n 0, 1) := by decide +kernel
theorem d2_79 : decode prog_20_method_2_code 79 = .ok (.aload 6, 2) := by decide +kernel
theorem d2_81 : decode prog_20_method_2_code 81 = .ok (.iconst 1, 1) := by decide +kernel
theorem d2_82 : decode prog_20_method_2_code 82 = .ok (.iload 4, 2) := by decide +kernel
theorem d2_84 : decode prog_20_method_2_code 84 = .ok (.invokestatic 15, 3) := by decide +kernel
theorem d2_87 : decode prog_20_method_2_code 87 = .ok (.aload 6, 2) := by decide +kernel
theorem d2_89 : decode prog_20_method_2_code 89 = .ok (.areturn, 1) := by decide +kernel
theorem pn_2 : plainName "com/example/nested_keyspace/nestedkeyspace/TypedParts" = true := by first | (simp [plainName, overriddenIn]; done) | decide +kernel
theorem ef_2 (m : MethodId) (q0 : Int64) : entryFrame m #[(.long q0)] 7 = mkF m 0 #[.val (.long q0), .second, .unset, .unset, .unset, .unset, .unset] [] := by first | (simp [entryFrame, mkF, argsToLocals, Value.category]; done) | rfl
theorem ob_2_15 (q0 : Int64) (y8 : Int64) (o11 : Int32) (v13 : Int32) (z21 : Int32) (hj9 : ((q0 < (0 : Int64)) ∧ y8 = (-q0)) ∨ ((¬ (q0 < (0 : Int64))) ∧ y8 = q0)) (hp12 : own_nlzL y8 o11) (hv13 : ((((64 : Int32) - o11) + (7 : Int32)) / (8 : Int32)) = v13) (hj22 : ((q0 < (0 : Int64)) ∧ z21 = ((128 : Int32) - v13)) ∨ ((¬ (q0 < (0 : Int64))) ∧ z21 = ((128 : Int32) + v13))) : ¬ ((1 : Int32) + v13) < 0 := by
  obtain ⟨-, b2, b3⟩ := own_len _ _ _ hp12 hv13
  have h := c_iadd 1 v13
  have r := rng32 ((1 : Int32) + v13)
  have e1 : (1 : Int32).toInt = 1 := rfl
  have e0 : (0 : Int32).toInt = 0 := rfl
  rw [Int32.lt_iff_toInt_lt]
  omega
theorem ob_2_16 (q0 : Int64) (y8 : Int64) (o11 : Int32) (v13 : Int32) (z21 : Int32) (hj9 : ((q0 < (0 : Int64)) ∧ y8 = (-q0)) ∨ ((¬ (q0 < (0 : Int64))) ∧ y8 = q0)) (hp12 : own_nlzL y8 o11) (hv13 : ((((64 : Int32) - o11) + (7 : Int32)) / (8 : Int32)) = v13) (hj22 : ((q0 < (0 : Int64)) ∧ z21 = ((128 : Int32) - v13)) ∨ ((¬ (q0 < (0 : Int64))) ∧ z21 = ((128 : Int32) + v13))) : (((1 : Int32) + v13)).toNatClampNeg ≤ 9 := by
  obtain ⟨-, b2, b3⟩ := own_len _ _ _ hp12 hv13
  have h := c_iadd 1 v13
  have r := rng32 ((1 : Int32) + v13)
  have e1 : (1 : Int32).toInt = 1 := rfl
  have e0 : (0 : Int32).toInt = 0 := rfl
  simp only [Int32.toNatClampNeg]
  omega
theorem ob_2_17 (q0 : Int64) (y8 : Int64) (o11 : Int32) (v13 : Int32) (z21 : Int32) (hj9 : ((q0 < (0 : Int64)) ∧ y8 = (-q0)) ∨ ((¬ (q0 < (0 : Int64))) ∧ y8 = q0)) (hp12 : own_nlzL y8 o11) (hv13 : ((((64 : Int32) - o11) + (7 : Int32)) / (8 : Int32)) = v13) (hj22 : ((q0 < (0 : Int64)) ∧ z21 = ((128 : Int32) - v13)) ∨ ((¬ (q0 < (0 : Int64))) ∧ z21 = ((128 : Int32) + v13))) : (¬ (0 : Int32) < 0) ∧ (0 : Int32) < ((1 : Int32) + v13) := by
  obtain ⟨-, b2, b3⟩ := own_len _ _ _ hp12 hv13
  have h := c_iadd 1 v13
  have r := rng32 ((1 : Int32) + v13)
  have e1 : (1 : Int32).toInt = 1 := rfl
  have e0 : (0 : Int32).toInt = 0 := rfl
  refine ⟨by decide, ?_⟩
  rw [Int32.lt_iff_toInt_lt]
  omega
theorem ob_2_18 (q0 : Int64) (y8 : Int64) (o11 : Int32) (v13 : Int32) (z21 : Int32) (y33 : Int64) (hj9 : ((q0 < (0 : Int64)) ∧ y8 = (-q0)) ∨ ((¬ (q0 < (0 : Int64))) ∧ y8 = q0)) (hp12 : own_nlzL y8 o11) (hv13 : ((((64 : Int32) - o11) + (7 : Int32)) / (8 : Int32)) = v13) (hj22 : ((q0 < (0 : Int64)) ∧ z21 = ((128 : Int32) - v13)) ∨ ((¬ (q0 < (0 : Int64))) ∧ z21 = ((128 : Int32) + v13))) (hj34 : ((q0 < (0 : Int64)) ∧ y33 = (q0 - (1 : Int64))) ∨ ((¬ (q0 < (0 : Int64))) ∧ y33 = q0)) : v13 = (0 : Int32) ∨ v13 = (1 : Int32) ∨ v13 = (2 : Int32) ∨ v13 = (3 : Int32) ∨ v13 = (4 : Int32) ∨ v13 = (5 : Int32) ∨ v13 = (6 : Int32) ∨ v13 = (7 : Int32) ∨ v13 = (8 : Int32) := by
  obtain ⟨-, b2, b3⟩ := own_len _ _ _ hp12 hv13
  by_cases h0 : v13.toInt = 0
  · have := Int32.toInt_inj.mp (h0.trans (show (0 : Int) = (0 : Int32).toInt from rfl)); subst this; simp
  by_cases h1 : v13.toInt = 1
  · have := Int32.toInt_inj.mp (h1.trans (show (1 : Int) = (1 : Int32).toInt from rfl)); subst this; simp
  by_cases h2 : v13.toInt = 2
  · have := Int32.toInt_inj.mp (h2.trans (show (2 : Int) = (2 : Int32).toInt from rfl)); subst this; simp
  by_cases h3 : v13.toInt = 3
  · have := Int32.toInt_inj.mp (h3.trans (show (3 : Int) = (3 : Int32).toInt from rfl)); subst this; simp
  by_cases h4 : v13.toInt = 4
  · have := Int32.toInt_inj.mp (h4.trans (show (4 : Int) = (4 : Int32).toInt from rfl)); subst this; simp
  by_cases h5 : v13.toInt = 5
  · have := Int32.toInt_inj.mp (h5.trans (show (5 : Int) = (5 : Int32).toInt from rfl)); subst this; simp
  by_cases h6 : v13.toInt = 6
  · have := Int32.toInt_inj.mp (h6.trans (show (6 : Int) = (6 : Int32).toInt from rfl)); subst this; simp
  by_cases h7 : v13.toInt = 7
  · have := Int32.toInt_inj.mp (h7.trans (show (7 : Int) = (7 : Int32).toInt from rfl)); subst this; simp
  by_cases h8 : v13.toInt = 8
  · have := Int32.toInt_inj.mp (h8.trans (show (8 : Int) = (8 : Int32).toInt from rfl)); subst this; simp
  omega
theorem ob_2_19 (q0 : Int64) (y8 : Int64) (o11 : Int32) (z21 : Int32) (y33 : Int64) (hj9 : ((q0 < (0 : Int64)) ∧ y8 = (-q0)) ∨ ((¬ (q0 < (0 : Int64))) ∧ y8 = q0)) (hp12 : own_nlzL y8 o11) (hv13 : ((((64 : Int32) - o11) + (7 : Int32)) / (8 : Int32)) = (0 : Int32)) (hj22 : ((q0 < (0 : Int64)) ∧ z21 = (128 : Int32)) ∨ ((¬ (q0 < (0 : Int64))) ∧ z21 = (128 : Int32))) (hj34 : ((q0 < (0 : Int64)) ∧ y33 = (q0 - (1 : Int64))) ∨ ((¬ (q0 < (0 : Int64))) ∧ y33 = q0)) : own_enc q0 (1 : Int32) (own_upd (fun _ => (0 : Int32)) 0 (nar .byte (z21.toInt8.toInt32))) := by
  exact own_encI q0 y8 y33 o11 0 z21 1 0 hj9 hp12 hv13 hj22 hj34 (by decide) (by decide)
theorem ob_2_20 (q0 : Int64) (y8 : Int64) (o11 : Int32) (z21 : Int32) (y33 : Int64) (hj9 : ((q0 < (0 : Int64)) ∧ y8 = (-q0)) ∨ ((¬ (q0 < (0 : Int64))) ∧ y8 = q0)) (hp12 : own_nlzL y8 o11) (hv13 : ((((64 : Int32) - o11) + (7 : Int32)) / (8 : Int32)) = (1 : Int32)) (hj22 : ((q0 < (0 : Int64)) ∧ z21 = (127 : Int32)) ∨ ((¬ (q0 < (0 : Int64))) ∧ z21 = (129 : Int32))) (hj34 : ((q0 < (0 : Int64)) ∧ y33 = (q0 - (1 : Int64))) ∨ ((¬ (q0 < (0 : Int64))) ∧ y33 = q0)) : own_enc q0 (2 : Int32) (own_wr (own_upd (fun _ => (0 : Int32)) 0 (nar .byte (z21.toInt8.toInt32))) y33 1 1) := by
  exact own_encI q0 y8 y33 o11 1 z21 2 1 hj9 hp12 hv13 hj22 hj34 (by decide) (by decide)
theorem ob_2_21 (q0 : Int64) (y8 : Int64) (o11 : Int32) (z21 : Int32) (y33 : Int64) (hj9 : ((q0 < (0 : Int64)) ∧ y8 = (-q0)) ∨ ((¬ (q0 < (0 : Int64))) ∧ y8 = q0)) (hp12 : own_nlzL y8 o11) (hv13 : ((((64 : Int32) - o11) + (7 : Int32)) / (8 : Int32)) = (2 : Int32)) (hj22 : ((q0 < (0 : Int64)) ∧ z21 = (126 : Int32)) ∨ ((¬ (q0 < (0 : Int64))) ∧ z21 = (130 : Int32))) (hj34 : ((q0 < (0 : Int64)) ∧ y33 = (q0 - (1 : Int64))) ∨ ((¬ (q0 < (0 : Int64))) ∧ y33 = q0)) : own_enc q0 (3 : Int32) (own_wr (own_upd (fun _ => (0 : Int32)) 0 (nar .byte (z21.toInt8.toInt32))) y33 2 2) := by
  exact own_encI q0 y8 y33 o11 2 z21 3 2 hj9 hp12 hv13 hj22 hj34 (by decide) (by decide)
theorem ob_2_22 (q0 : Int64) (y8 : Int64) (o11 : Int32) (z21 : Int32) (y33 : Int64) (hj9 : ((q0 < (0 : Int64)) ∧ y8 = (-q0)) ∨ ((¬ (q0 < (0 : Int64))) ∧ y8 = q0)) (hp12 : own_nlzL y8 o11) (hv13 : ((((64 : Int32) - o11) + (7 : Int32)) / (8 : Int32)) = (3 : Int32)) (hj22 : ((q0 < (0 : Int64)) ∧ z21 = (125 : Int32)) ∨ ((¬ (q0 < (0 : Int64))) ∧ z21 = (131 : Int32))) (hj34 : ((q0 < (0 : Int64)) ∧ y33 = (q0 - (1 : Int64))) ∨ ((¬ (q0 < (0 : Int64))) ∧ y33 = q0)) : own_enc q0 (4 : Int32) (own_wr (own_upd (fun _ => (0 : Int32)) 0 (nar .byte (z21.toInt8.toInt32))) y33 3 3) := by
  exact own_encI q0 y8 y33 o11 3 z21 4 3 hj9 hp12 hv13 hj22 hj34 (by decide) (by decide)
theorem ob_2_23 (q0 : Int64) (y8 : Int64) (o11 : Int32) (z21 : Int32) (y33 : Int64) (hj9 : ((q0 < (0 : Int64)) ∧ y8 = (-q0)) ∨ ((¬ (q0 < (0 : Int64))) ∧ y8 = q0)) (hp12 : own_nlzL y8 o11) (hv13 : ((((64 : Int32) - o11) + (7 : Int32)) / (8 : Int32)) = (4 : Int32)) (hj22 : ((q0 < (0 : Int64)) ∧ z21 = (124 : Int32)) ∨ ((¬ (q0 < (0 : Int64))) ∧ z21 = (132 : Int32))) (hj34 : ((q0 < (0 : Int64)) ∧ y33 = (q0 - (1 : Int64))) ∨ ((¬ (q0 < (0 : Int64))) ∧ y33 = q0)) : own_enc q0 (5 : Int32) (own_wr (own_upd (fun _ => (0 : Int32)) 0 (nar .byte (z21.toInt8.toInt32))) y33 4 4) := by
  exact own_encI q0 y8 y33 o11 4 z21 5 4 hj9 hp12 hv13 hj22 hj34 (by decide) (by decide)
theorem ob_2_24 (q0 : Int64) (y8 : Int64) (o11 : Int32) (z21 : Int32) (y33 : Int64) (hj9 : ((q0 < (0 : Int64)) ∧ y8 = (-q0)) ∨ ((¬ (q0 < (0 : Int64))) ∧ y8 = q0)) (hp12 : own_nlzL y8 o11) (hv13 : ((((64 : Int32) - o11) + (7 : Int32)) / (8 : Int32)) = (5 : Int32)) (hj22 : ((q0 < (0 : Int64)) ∧ z21 = (123 : Int32)) ∨ ((¬ (q0 < (0 : Int64))) ∧ z21 = (133 : Int32))) (hj34 : ((q0 < (0 : Int64)) ∧ y33 = (q0 - (1 : Int64))) ∨ ((¬ (q0 < (0 : Int64))) ∧ y33 = q0)) : own_enc q0 (6 : Int32) (own_wr (own_upd (fun _ => (0 : Int32)) 0 (nar .byte (z21.toInt8.toInt32))) y33 5 5) := by
  exact own_encI q0 y8 y33 o11 5 z21 6 5 hj9 hp12 hv13 hj22 hj34 (by decide) (by decide)
theorem ob_2_25 (q0 : Int64) (y8 : Int64) (o11 : Int32) (z21 : Int32) (y33 : Int64) (hj9 : ((q0 < (0 : Int64)) ∧ y8 = (-q0)) ∨ ((¬ (q0 < (0 : Int64))) ∧ y8 = q0)) (hp12 : own_nlzL y8 o11) (hv13 : ((((64 : Int32) - o11) + (7 : Int32)) / (8 : Int32)) = (6 : Int32)) (hj22 : ((q0 < (0 : Int64)) ∧ z21 = (122 : Int32)) ∨ ((¬ (q0 < (0 : Int64))) ∧ z21 = (134 : Int32))) (hj34 : ((q0 < (0 : Int64)) ∧ y33 = (q0 - (1 : Int64))) ∨ ((¬ (q0 < (0 : Int64))) ∧ y33 = q0)) : own_enc q0 (7 : Int32) (own_wr (own_upd (fun _ => (0 : Int32)) 0 (nar .byte (z21.toInt8.toInt32))) y33 6 6) := by
  exact own_encI q0 y8 y33 o11 6 z21 7 6 hj9 hp12 hv13 hj22 hj34 (by decide) (by decide)
theorem ob_2_26 (q0 : Int64) (y8 : Int64) (o11 : Int32) (z21 : Int32) (y33 : Int64) (hj9 : ((q0 < (0 : Int64)) ∧ y8 = (-q0)) ∨ ((¬ (q0 < (0 : Int64))) ∧ y8 = q0)) (hp12 : own_nlzL y8 o11) (hv13 : ((((64 : Int32) - o11) + (7 : Int32)) / (8 : Int32)) = (7 : Int32)) (hj22 : ((q0 < (0 : Int64)) ∧ z21 = (121 : Int32)) ∨ ((¬ (q0 < (0 : Int64))) ∧ z21 = (135 : Int32))) (hj34 : ((q0 < (0 : Int64)) ∧ y33 = (q0 - (1 : Int64))) ∨ ((¬ (q0 < (0 : Int64))) ∧ y33 = q0)) : own_enc q0 (8 : Int32) (own_wr (own_upd (fun _ => (0 : Int32)) 0 (nar .byte (z21.toInt8.toInt32))) y33 7 7) := by
  exact own_encI q0 y8 y33 o11 7 z21 8 7 hj9 hp12 hv13 hj22 hj34 (by decide) (by decide)
theorem ob_2_27 (q0 : Int64) (y8 : Int64) (o11 : Int32) (z21 : Int32) (y33 : Int64) (hj9 : ((q0 < (0 : Int64)) ∧ y8 = (-q0)) ∨ ((¬ (q0 < (0 : Int64))) ∧ y8 = q0)) (hp12 : own_nlzL y8 o11) (hv13 : ((((64 : Int32) - o11) + (7 : Int32)) / (8 : Int32)) = (8 : Int32)) (hj22 : ((q0 < (0 : Int64)) ∧ z21 = (120 : Int32)) ∨ ((¬ (q0 < (0 : Int64))) ∧ z21 = (136 : Int32))) (hj34 : ((q0 < (0 : Int64)) ∧ y33 = (q0 - (1 : Int64))) ∨ ((¬ (q0 < (0 : Int64))) ∧ y33 = q0)) : own_enc q0 (9 : Int32) (own_wr (own_upd (fun _ => (0 : Int32)) 0 (nar .byte (z21.toInt8.toInt32))) y33 8 8) := by
  exact own_encI q0 y8 y33 o11 8 z21 9 8 hj9 hp12 hv13 hj22 hj34 (by decide) (by decide)
def Q2 (Z : State) (q0 : Int64) (h0 : Heap) (n0 : Nat) (v : Option Value) (h : Heap) (L : List Loc) : Prop := ∃ (rr : Addr) (kk5001 : ClassId) (nn5002 : Int32) (gg5003 : Nat → Int32), v = some (.ref rr) ∧ Fr n0 L ∧ Keep h0 h [] ∧ (n0 ≤ rr) ∧ (h0.size ≤ rr) ∧ own_Arf Z h rr kk5001 .byte nn5002 (fun i => .int (gg5003 i)) ∧ (own_enc q0 nn5002 gg5003)
set_option maxRecDepth 65536 in
set_option maxHeartbeats 40000000 in
theorem rm2 (l : Launch) (Z : State) (A0 : Array Value) (hw : ∀ d ∈ tables_1, d.before A0 Z = true) (ws : List Jvm.Cond) (q0 : Int64) (h0 : Heap) (n0 : Nat) (Z0 : n0 ≤ h0.size) :
    MetFree l (⟨"com/example/nested_keyspace/nestedkeyspace/TypedParts", "encodeSigned", "(J)[B"⟩ : MethodName) (head1 (Jvm.Cond.code (⟨"com/example/nested_keyspace/nestedkeyspace/TypedParts", "encodeSigned", "(J)[B"⟩ : MethodName) prog_20_method_2_code 7 (some (.array .byte)) :: ws) ({ frames := 2, cells := 1, slots := 9, locals := 29 } : Room)) (fun a U => a = #[(.long q0)] ∧ Z.Warmed39 U.vm ∧ U.heap = h0) (fun _ _ _ _ _ => True) (fun _ U o U' => ∃ v L, o = .returned v ∧ Q2 Z q0 h0 n0 v U'.heap L ∧ FrameEnd U o U' L 1 9) := by
  refine MetFree.of_bodySF (plainFor_of_name pn_2) hisR ?_
  intro p e s m args below meth c s₁ Bd hml0 hP hK
  obtain ⟨rfl, hZ, hh⟩ := hP
  have hwd := fun i {d : Jvm.Cond} (h : tables_1[i]? = some d) => hw d (List.mem_of_getElem? h)
  have hx := Bd.exec
  have hby := Bd.bytes
  have hml : c.maxLocals = 7 := hml0
  have hlk : meth.locks = false := Bd.notSynchronized
  have hown : s.vm.findClass "com/example/nested_keyspace/nestedkeyspace/TypedParts" = some m.cls := findClass_of_methodNamed Bd.named
  have hnm := (name_of_methodNamed Bd.named Bd.method).1
  have X0 : Stand p l e ({ frames := 2, cells := 1, slots := 9, locals := 29 } : Room) s m #[(.long q0)] below meth c s₁ [] 0 0 := Stand.of_body Bd
  have e0 : s₁.heap = h0 := by rw [← hh, Bd.state]; rfl
  have N0 := Fr.nil n0
  show own_Go p e below (own_Fin s 1 9 (Q2 Z q0 h0 n0)) _
  refine own_by (fun t k => castTop (ef_2 m q0) k) ?_
  show own_Go p e below _ (s₁.setTop (mkF m 0 #[.val (.long q0), .second, .unset, .unset, .unset, .unset, .unset] []))
  refine own_by (fun _ k => XS.lloadN X0.here hx rfl (hb hby d2_0) rfl k) ?_
  show own_Go p e below _ (s₁.setTop (mkF m 1 #[.val (.long q0), .second, .unset, .unset, .unset, .unset, .unset] [(.long q0)]))
  refine own_by (fun _ k => XS.lconst X0.here hx rfl (hb hby d2_1) k) ?_
  show own_Go p e below _ (s₁.setTop (mkF m 2 #[.val (.long q0), .second, .unset, .unset, .unset, .unset, .unset] [(.long (0 : Int64)), (.long q0)]))
  refine own_by (fun _ k => XS.lcmp X0.here hx rfl (hb hby d2_2) rfl k) ?_
  show own_Go p e below _ (s₁.setTop (mkF m 3 #[.val (.long q0), .second, .unset, .unset, .unset, .unset, .unset] [(.int (lcmpW q0 (0 : Int64)))]))
  have J2 : ∀ (T3 : State) (L4 : List Loc) (y8 : Int64), Stand p l e ({ frames := 2, cells := 1, slots := 9, locals := 29 } : Room) s m #[(.long q0)] below meth c T3 L4 0 0 → T3.heap = h0 → Fr n0 L4 → (((q0 < (0 : Int64)) ∧ y8 = (-q0)) ∨ ((¬ (q0 < (0 : Int64))) ∧ y8 = q0)) → own_Go p e below (own_Fin s 1 9 (Q2 Z q0 h0 n0)) (T3.setTop (mkF m 12 #[.val (.long q0), .second, .unset, .unset, .unset, .unset, .unset] [(.long y8)])) := by
    intro T3 L4 y8 X5 e6 N7 hj9
    refine own_by (fun _ k => XS.lstoreN X5.here hx rfl (hb hby d2_12) rfl (l' := #[.val (.long q0), .second, .val (.long y8), .second, .unset, .unset, .unset]) rfl k) ?_
    show own_Go p e below _ (T3.setTop (mkF m 13 #[.val (.long q0), .second, .val (.long y8), .second, .unset, .unset, .unset] []))
    refine own_by (fun _ k => XS.bipush X5.here hx rfl (hb hby d2_13) k) ?_
    show own_Go p e below _ (T3.setTop (mkF m 15 #[.val (.long q0), .second, .val (.long y8), .second, .unset, .unset, .unset] [(.int (64 : Int32))]))
    refine own_by (fun _ k => XS.lloadN X5.here hx rfl (hb hby d2_15) rfl k) ?_
    show own_Go p e below _ (T3.setTop (mkF m 16 #[.val (.long q0), .second, .val (.long y8), .second, .unset, .unset, .unset] [(.long y8), (.int (64 : Int32))]))
    obtain ⟨_, _, ⟨T10, L10, k10, n10⟩, -, X10, ⟨Lc10, hQ10, l10, y10, z10⟩, st10⟩ := Jvm.LawKit.callS X5 hx (y := (⟨"java/lang/Long", "numberOfLeadingZeros", "(J)I"⟩ : MethodName)) hown (mvT hZ (hwd 8 rfl)) (mvT hZ (hwd 9 rfl)) (mvT hZ (hwd 10 rfl)) (mvT hZ (hwd 11 rfl)) (by decide) (backOf (W := 1) (rm3 l Z A0 hw [] y8 h0 n0 Z0 ) hZ (hwd 11 rfl) (hwd 10 rfl) (by decide) (by decide)) (g := (mkF m 16 #[.val (.long q0), .second, .val (.long y8), .second, .unset, .unset, .unset] [(.long y8), (.int (64 : Int32))])) rfl (by rw [hml]; rfl) (argsL := [(.long y8)]) (rest := [(.int (64 : Int32))]) (lenOf pd_0 rfl) rfl (by show 2 * 0 + _ ≤ _; exact Nat.le_of_eq rfl) (hb hby d2_16) (fun _ _ => ⟨rfl, e6, (by decide : 0 + 0 ≤ _), (by decide : 0 + 0 ≤ _)⟩)
    dsimp only [Pt.U, Pt.locs, Pt.cells, Pt.slots] at X10 l10 y10 z10 st10 hQ10
    subst l10 y10 z10
    obtain ⟨o11, rfl, Nq10, eq10, hp12⟩ := hQ10
    have N10 := Fr.app N7 Nq10
    refine own_by st10 ?_
    show own_Go p e below _ (T10.setTop (mkF m 19 #[.val (.long q0), .second, .val (.long y8), .second, .unset, .unset, .unset] [(.int o11), (.int (64 : Int32))]))
    refine own_by (fun _ k => XS.isub X10.here hx rfl (hb hby d2_19) rfl k) ?_
    show own_Go p e below _ (T10.setTop (mkF m 20 #[.val (.long q0), .second, .val (.long y8), .second, .unset, .unset, .unset] [(.int ((64 : Int32) - o11))]))
    refine own_by (fun _ k => XS.bipush X10.here hx rfl (hb hby d2_20) k) ?_
    show own_Go p e below _ (T10.setTop (mkF m 22 #[.val (.long q0), .second, .val (.long y8), .second, .unset, .unset, .unset] [(.int (7 : Int32)), (.int ((64 : Int32) - o11))]))
    refine own_by (fun _ k => XS.iadd X10.here hx rfl (hb hby d2_22) rfl k) ?_
    show own_Go p e below _ (T10.setTop (mkF m 23 #[.val (.long q0), .second, .val (.long y8), .second, .unset, .unset, .unset] [(.int (((64 : Int32) - o11) + (7 : Int32)))]))
    refine own_by (fun _ k => XS.bipush X10.here hx rfl (hb hby d2_23) k) ?_
    show own_Go p e below _ (T10.setTop (mkF m 25 #[.val (.long q0), .second, .val (.long y8), .second, .unset, .unset, .unset] [(.int (8 : Int32)), (.int (((64 : Int32) - o11) + (7 : Int32)))]))
    refine own_by (fun _ k => XS.idiv X10.here hx rfl (hb hby d2_25) rfl (by decide) k) ?_
    show own_Go p e below _ (T10.setTop (mkF m 26 #[.val (.long q0), .second, .val (.long y8), .second, .unset, .unset, .unset] [(.int ((((64 : Int32) - o11) + (7 : Int32)) / (8 : Int32)))]))
    refine own_by (fun _ k => XS.istore X10.here hx rfl (hb hby d2_26) rfl (l' := #[.val (.long q0), .second, .val (.long y8), .second, .val (.int ((((64 : Int32) - o11) + (7 : Int32)) / (8 : Int32))), .unset, .unset]) rfl k) ?_
    show own_Go p e below _ (T10.setTop (mkF m 28 #[.val (.long q0), .second, .val (.long y8), .second, .val (.int ((((64 : Int32) - o11) + (7 : Int32)) / (8 : Int32))), .unset, .unset] []))
    generalize hv13 : ((((64 : Int32) - o11) + (7 : Int32)) / (8 : Int32)) = v13
    show own_Go p e below _ (T10.setTop (mkF m 28 #[.val (.long q0), .second, .val (.long y8), .second, .val (.int v13), .unset, .unset] []))
    refine own_by (fun _ k => XS.lloadN X10.here hx rfl (hb hby d2_28) rfl k) ?_
    show own_Go p e below _ (T10.setTop (mkF m 29 #[.val (.long q0), .second, .val (.long y8), .second, .val (.int v13), .unset, .unset] [(.long q0)]))
    refine own_by (fun _ k => XS.lconst X10.here hx rfl (hb hby d2_29) k) ?_
    show own_Go p e below _ (T10.setTop (mkF m 30 #[.val (.long q0), .second, .val (.long y8), .second, .val (.int v13), .unset, .unset] [(.long (0 : Int64)), (.long q0)]))
    refine own_by (fun _ k => XS.lcmp X10.here hx rfl (hb hby d2_30) rfl k) ?_
    show own_Go p e below _ (T10.setTop (mkF m 31 #[.val (.long q0), .second, .val (.long y8), .second, .val (.int v13), .unset, .unset] [(.int (lcmpW q0 (0 : Int64)))]))
    have J15 : ∀ (T16 : State) (L17 : List Loc) (z21 : Int32), Stand p l e ({ frames := 2, cells := 1, slots := 9, locals := 29 } : Room) s m #[(.long q0)] below meth c T16 L17 0 0 → T16.heap = h0 → Fr n0 L17 → (((q0 < (0 : Int64)) ∧ z21 = ((128 : Int32) - v13)) ∨ ((¬ (q0 < (0 : Int64))) ∧ z21 = ((128 : Int32) + v13))) → own_Go p e below (own_Fin s 1 9 (Q2 Z q0 h0 n0)) (T16.setTop (mkF m 49 #[.val (.long q0), .second, .val (.long y8), .second, .val (.int v13), .unset, .unset] [(.int z21)])) := by
      intro T16 L17 z21 X18 e19 N20 hj22
      refine own_by (fun _ k => XS.istore X18.here hx rfl (hb hby d2_49) rfl (l' := #[.val (.long q0), .second, .val (.long y8), .second, .val (.int v13), .val (.int z21), .unset]) rfl k) ?_
      show own_Go p e below _ (T16.setTop (mkF m 51 #[.val (.long q0), .second, .val (.long y8), .second, .val (.int v13), .val (.int z21), .unset] []))
      refine own_by (fun _ k => XS.iconst X18.here hx rfl (hb hby d2_51) k) ?_
      show own_Go p e below _ (T16.setTop (mkF m 52 #[.val (.long q0), .second, .val (.long y8), .second, .val (.int v13), .val (.int z21), .unset] [(.int (1 : Int32))]))
      refine own_by (fun _ k => XS.iload X18.here hx rfl (hb hby d2_52) rfl k) ?_
      show own_Go p e below _ (T16.setTop (mkF m 54 #[.val (.long q0), .second, .val (.long y8), .second, .val (.int v13), .val (.int z21), .unset] [(.int v13), (.int (1 : Int32))]))
      refine own_by (fun _ k => XS.iadd X18.here hx rfl (hb hby d2_54) rfl k) ?_
      show own_Go p e below _ (T16.setTop (mkF m 55 #[.val (.long q0), .second, .val (.long y8), .second, .val (.int v13), .val (.int z21), .unset] [(.int ((1 : Int32) + v13))]))
      obtain ⟨T23, h23, k23, X23, e23, E23, A23, st23⟩ := newP X18 hx hZ (hwd 16 rfl) e19 (g := (mkF m 55 #[.val (.long q0), .second, .val (.long y8), .second, .val (.int v13), .val (.int z21), .unset] [(.int ((1 : Int32) + v13))])) rfl (hb hby d2_55) rfl (ob_2_15 q0 y8 o11 v13 z21 hj9 hp12 hv13 hj22) (cap := 9) (ob_2_16 q0 y8 o11 v13 z21 hj9 hp12 hv13 hj22) (by decide) (by decide) (by decide)
      obtain ⟨b23, g23⟩ : ∃ z, z = h0.size := ⟨_, rfl⟩
      have ge_b23 : n0 ≤ b23 := Nat.le_trans Z0 (Nat.le_of_eq g23.symm)
      have sz_b23 : h0.size ≤ b23 := Nat.le_trans (Keep.refl h0 []).1 (Nat.le_of_eq g23.symm)
      have K23 : Keep h0 h23 [] := (Keep.refl h0 []).ext E23
      have Z23 : n0 ≤ h23.size := Nat.le_trans Z0 E23.1
      rw [← g23] at A23 st23
      have V23 : own_Arf Z h23 b23 k23 .byte ((1 : Int32) + v13) (fun i => .int ((fun _ => (0 : Int32)) i)) := own_arfNew A23 (ob_2_15 q0 y8 o11 v13 z21 hj9 hp12 hv13 hj22)
      refine own_by st23 ?_
      show own_Go p e below _ (T23.setTop (mkF m 57 #[.val (.long q0), .second, .val (.long y8), .second, .val (.int v13), .val (.int z21), .unset] [(.ref b23)]))
      refine own_by (fun _ k => XS.astore X23.here hx rfl (hb hby d2_57) rfl rfl (l' := #[.val (.long q0), .second, .val (.long y8), .second, .val (.int v13), .val (.int z21), .val (.ref b23)]) rfl k) ?_
      show own_Go p e below _ (T23.setTop (mkF m 59 #[.val (.long q0), .second, .val (.long y8), .second, .val (.int v13), .val (.int z21), .val (.ref b23)] []))
      refine own_by (fun _ k => XS.aload X23.here hx rfl (hb hby d2_59) rfl rfl k) ?_
      show own_Go p e below _ (T23.setTop (mkF m 61 #[.val (.long q0), .second, .val (.long y8), .second, .val (.int v13), .val (.int z21), .val (.ref b23)] [(.ref b23)]))
      refine own_by (fun _ k => XS.iconst X23.here hx rfl (hb hby d2_61) k) ?_
      show own_Go p e below _ (T23.setTop (mkF m 62 #[.val (.long q0), .second, .val (.long y8), .second, .val (.int v13), .val (.int z21), .val (.ref b23)] [(.int (0 : Int32)), (.ref b23)]))
      refine own_by (fun _ k => XS.iload X23.here hx rfl (hb hby d2_62) rfl k) ?_
      show own_Go p e below _ (T23.setTop (mkF m 64 #[.val (.long q0), .second, .val (.long y8), .second, .val (.int v13), .val (.int z21), .val (.ref b23)] [(.int z21), (.int (0 : Int32)), (.ref b23)]))
      refine own_by (fun _ k => XS.i2b X23.here hx rfl (hb hby d2_64) rfl k) ?_
      show own_Go p e below _ (T23.setTop (mkF m 65 #[.val (.long q0), .second, .val (.long y8), .second, .val (.int v13), .val (.int z21), .val (.ref b23)] [(.int (z21.toInt8.toInt32)), (.int (0 : Int32)), (.ref b23)]))
      obtain ⟨cl24, Ar24, qq24, S24, M24, H24, G24⟩ := id V23
      have hin24 : ¬ ((0 : Int32) < 0 ∨ cl24.slots.size ≤ ((0 : Int32)).toNatClampNeg) := inb_of S24 (ob_2_17 q0 y8 o11 v13 z21 hj9 hp12 hv13 hj22)
      obtain ⟨T25, h25, X25, e25, W25, st25⟩ := stB X23 hx hZ e23 Ar24 (j := (0 : Int32)) hin24 (g := (mkF m 65 #[.val (.long q0), .second, .val (.long y8), .second, .val (.int v13), .val (.int z21), .val (.ref b23)] [(.int (z21.toInt8.toInt32)), (.int (0 : Int32)), (.ref b23)])) rfl rfl (hb hby d2_65)
      have V25 : own_Arf Z h25 b23 k23 .byte ((1 : Int32) + v13) (fun i => .int ((own_upd (fun _ => (0 : Int32)) 0 (nar .byte (z21.toInt8.toInt32))) i)) := own_arfSetI Ar24 qq24 S24 M24 H24 G24 (fits_nar_byte _) W25
      have K25 : Keep h0 h25 [] := K23.wr W25 (Or.inr sz_b23)
      have Z25 : n0 ≤ h25.size := Nat.le_trans Z23 (Keep.of_wr W25).1
      have N25 := Fr.snoc X25 N20 ge_b23
      refine own_by st25 ?_
      show own_Go p e below _ (T25.setTop (mkF m 66 #[.val (.long q0), .second, .val (.long y8), .second, .val (.int v13), .val (.int z21), .val (.ref b23)] []))
      refine own_by (fun _ k => XS.lloadN X25.here hx rfl (hb hby d2_66) rfl k) ?_
      show own_Go p e below _ (T25.setTop (mkF m 67 #[.val (.long q0), .second, .val (.long y8), .second, .val (.int v13), .val (.int z21), .val (.ref b23)] [(.long q0)]))
      refine own_by (fun _ k => XS.lconst X25.here hx rfl (hb hby d2_67) k) ?_
      show own_Go p e below _ (T25.setTop (mkF m 68 #[.val (.long q0), .second, .val (.long y8), .second, .val (.int v13), .val (.int z21), .val (.ref b23)] [(.long (0 : Int64)), (.long q0)]))
      refine own_by (fun _ k => XS.lcmp X25.here hx rfl (hb hby d2_68) rfl k) ?_
      show own_Go p e below _ (T25.setTop (mkF m 69 #[.val (.long q0), .second, .val (.long y8), .second, .val (.int v13), .val (.int z21), .val (.ref b23)] [(.int (lcmpW q0 (0 : Int64)))]))
      have J27 : ∀ (T28 : State) (L29 : List Loc) (y33 : Int64), Stand p l e ({ frames := 2, cells := 1, slots := 9, locals := 29 } : Room) s m #[(.long q0)] below meth c T28 L29 1 9 → T28.heap = h25 → Fr n0 L29 → (((q0 < (0 : Int64)) ∧ y33 = (q0 - (1 : Int64))) ∨ ((¬ (q0 < (0 : Int64))) ∧ y33 = q0)) → own_Go p e below (own_Fin s 1 9 (Q2 Z q0 h0 n0)) (T28.setTop (mkF m 79 #[.val (.long q0), .second, .val (.long y8), .second, .val (.int v13), .val (.int z21), .val (.ref b23)] [(.long y33)])) := by
        intro T28 L29 y33 X30 e31 N32 hj34
        have hs_v13 := (ob_2_18 q0 y8 o11 v13 z21 y33 hj9 hp12 hv13 hj22 hj34)
        rcases hs_v13 with rfl | rfl | rfl | rfl | rfl | rfl | rfl | rfl | rfl
        · skip
          show own_Go p e below _ (T28.setTop (mkF m 79 #[.val (.long q0), .second, .val (.long y8), .second, .val (.int (0 : Int32)), .val (.int z21), .val (.ref b23)] [(.long y33)]))
          refine own_by (fun _ k => XS.aload X30.here hx rfl (hb hby d2_79) rfl rfl k) ?_
          show own_Go p e below _ (T28.setTop (mkF m 81 #[.val (.long q0), .second, .val (.long y8), .second, .val (.int (0 : Int32)), .val (.int z21), .val (.ref b23)] [(.ref b23), (.long y33)]))
          refine own_by (fun _ k => XS.iconst X30.here hx rfl (hb hby d2_81) k) ?_
          show own_Go p e below _ (T28.setTop (mkF m 82 #[.val (.long q0), .second, .val (.long y8), .second, .val (.int (0 : Int32)), .val (.int z21), .val (.ref b23)] [(.int (1 : Int32)), (.ref b23), (.long y33)]))
          refine own_by (fun _ k => XS.iload X30.here hx rfl (hb hby d2_82) rfl k) ?_
          show own_Go p e below _ (T28.setTop (mkF m 84 #[.val (.long q0), .second, .val (.long y8), .second, .val (.int (0 : Int32)), .val (.int z21), .val (.ref b23)] [(.int (0 : Int32)), (.int (1 : Int32)), (.ref b23), (.long y33)]))
          obtain ⟨_, _, ⟨T35, L35, k35, n35⟩, -, X35, ⟨Lc35, hQ35, l35, y35, z35⟩, st35⟩ := Jvm.LawKit.callS X30 hx (y := (⟨"com/example/nested_keyspace/nestedkeyspace/TypedParts", "writeBigEndian", "(J[BII)V"⟩ : MethodName)) hown (mvT hZ (hwd 17 rfl)) (mvT hZ (hwd 18 rfl)) (mvT hZ (hwd 6 rfl)) (mvT hZ (hwd 19 rfl)) (by decide) (backOf (W := 0) (rmwb0 l Z A0 hw [] k23 (own_upd (fun _ => (0 : Int32)) 0 (nar .byte (z21.toInt8.toInt32))) y33 b23 h25 n0 Z25 V25) hZ (hwd 19 rfl) (hwd 6 rfl) (by decide) (by decide)) (g := (mkF m 84 #[.val (.long q0), .second, .val (.long y8), .second, .val (.int (0 : Int32)), .val (.int z21), .val (.ref b23)] [(.int (0 : Int32)), (.int (1 : Int32)), (.ref b23), (.long y33)])) rfl (by rw [hml]; rfl) (argsL := [(.long y33), (.ref b23), (.int (1 : Int32)), (.int (0 : Int32))]) (rest := []) (lenOf pd_17 rfl) rfl (by show 2 * 0 + _ ≤ _; exact Nat.le_of_eq rfl) (hb hby d2_84) (fun _ _ => ⟨rfl, e31, (by decide : 1 + 0 ≤ _), (by decide : 9 + 0 ≤ _)⟩)
          dsimp only [Pt.U, Pt.locs, Pt.cells, Pt.slots] at X35 l35 y35 z35 st35 hQ35
          subst l35 y35 z35
          obtain ⟨rfl, Nq35, eq35⟩ := hQ35
          have N35 := Fr.app N32 Nq35
          refine own_by st35 ?_
          show own_Go p e below _ (T35.setTop (mkF m 87 #[.val (.long q0), .second, .val (.long y8), .second, .val (.int (0 : Int32)), .val (.int z21), .val (.ref b23)] []))
          refine own_by (fun _ k => XS.aload X35.here hx rfl (hb hby d2_87) rfl rfl k) ?_
          show own_Go p e below _ (T35.setTop (mkF m 89 #[.val (.long q0), .second, .val (.long y8), .second, .val (.int (0 : Int32)), .val (.int z21), .val (.ref b23)] [(.ref b23)]))
          exact own_retR X35 hx Bd.returns (by decide) rfl (hb hby d2_89) hlk eq35 ⟨b23, k23, (1 : Int32), (own_upd (fun _ => (0 : Int32)) 0 (nar .byte (z21.toInt8.toInt32))), rfl, N35, K25, ge_b23, sz_b23, V25, (ob_2_19 q0 y8 o11 z21 y33 hj9 hp12 hv13 hj22 hj34)⟩ (by decide) (by decide)
        · skip
          show own_Go p e below _ (T28.setTop (mkF m 79 #[.val (.long q0), .second, .val (.long y8), .second, .val (.int (1 : Int32)), .val (.int z21), .val (.ref b23)] [(.long y33)]))
          refine own_by (fun _ k => XS.aload X30.here hx rfl (hb hby d2_79) rfl rfl k) ?_
          show own_Go p e below _ (T28.setTop (mkF m 81 #[.val (.long q0), .second, .val (.long y8), .second, .val (.int (1 : Int32)), .val (.int z21), .val (.ref b23)] [(.ref b23), (.long y33)]))
          refine own_by (fun _ k => XS.iconst X30.here hx rfl (hb hby d2_81) k) ?_
          show own_Go p e below _ (T28.setTop (mkF m 82 #[.val (.long q0), .second, .val (.long y8), .second, .val (.int (1 : Int32)), .val (.int z21), .val (.ref b23)] [(.int (1 : Int32)), (.ref b23), (.long y33)]))
          refine own_by (fun _ k => XS.iload X30.here hx rfl (hb hby d2_82) rfl k) ?_
          show own_Go p e below _ (T28.setTop (mkF m 84 #[.val (.long q0), .second, .val (.long y8), .second, .val (.int (1 : Int32)), .val (.int z21), .val (.ref b23)] [(.int (1 : Int32)), (.int (1 : Int32)), (.ref b23), (.long y33)]))
          obtain ⟨_, _, ⟨T36, L36, k36, n36⟩, -, X36, ⟨Lc36, hQ36, l36, y36, z36⟩, st36⟩ := Jvm.LawKit.callS X30 hx (y := (⟨"com/example/nested_keyspace/nestedkeyspace/TypedParts", "writeBigEndian", "(J[BII)V"⟩ : MethodName)) hown (mvT hZ (hwd 17 rfl)) (mvT hZ (hwd 18 rfl)) (mvT hZ (hwd 6 rfl)) (mvT hZ (hwd 19 rfl)) (by decide) (backOf (W := 0) (rmwb1 l Z A0 hw [] k23 (own_upd (fun _ => (0 : Int32)) 0 (nar .byte (z21.toInt8.toInt32))) y33 b23 h25 n0 Z25 V25 ge_b23) hZ (hwd 19 rfl) (hwd 6 rfl) (by decide) (by decide)) (g := (mkF m 84 #[.val (.long q0), .second, .val (.long y8), .second, .val (.int (1 : Int32)), .val (.int z21), .val (.ref b23)] [(.int (1 : Int32)), (.int (1 : Int32)), (.ref b23), (.long y33)])) rfl (by rw [hml]; rfl) (argsL := [(.long y33), (.ref b23), (.int (1 : Int32)), (.int (1 : Int32))]) (rest := []) (lenOf pd_17 rfl) rfl (by show 2 * 0 + _ ≤ _; exact Nat.le_of_eq rfl) (hb hby d2_84) (fun _ _ => ⟨rfl, e31, (by decide : 1 + 0 ≤ _), (by decide : 9 + 0 ≤ _)⟩)
          dsimp only [Pt.U, Pt.locs, Pt.cells, Pt.slots] at X36 l36 y36 z36 st36 hQ36
          subst l36 y36 z36
          obtain ⟨rfl, Nq36, Kq36, F37⟩ := hQ36
          have N36 := Fr.app N32 Nq36
          have K36 : Keep h0 T36.heap [] := K25.trans Kq36 ((allS (Or.inr sz_b23) all0))
          have Z36 : n0 ≤ T36.heap.size := Nat.le_trans Z25 Kq36.1
          refine own_by st36 ?_
          show own_Go p e below _ (T36.setTop (mkF m 87 #[.val (.long q0), .second, .val (.long y8), .second, .val (.int (1 : Int32)), .val (.int z21), .val (.ref b23)] []))
          refine own_by (fun _ k => XS.aload X36.here hx rfl (hb hby d2_87) rfl rfl k) ?_
          show own_Go p e below _ (T36.setTop (mkF m 89 #[.val (.long q0), .second, .val (.long y8), .second, .val (.int (1 : Int32)), .val (.int z21), .val (.ref b23)] [(.ref b23)]))
          exact own_retR X36 hx Bd.returns (by decide) rfl (hb hby d2_89) hlk rfl ⟨b23, k23, (2 : Int32), (own_wr (own_upd (fun _ => (0 : Int32)) 0 (nar .byte (z21.toInt8.toInt32))) y33 1 1), rfl, N36, K36, ge_b23, sz_b23, F37, (ob_2_20 q0 y8 o11 z21 y33 hj9 hp12 hv13 hj22 hj34)⟩ (by decide) (by decide)
        · skip
          show own_Go p e below _ (T28.setTop (mkF m 79 #[.val (.long q0), .second, .val (.long y8), .second, .val (.int (2 : Int32)), .val (.int z21), .val (.ref b23)] [(.long y33)]))
          refine own_by (fun _ k => XS.aload X30.here hx rfl (hb hby d2_79) rfl rfl k) ?_
          show own_Go p e below _ (T28.setTop (mkF m 81 #[.val (.long q0), .second, .val (.long y8), .second, .val (.int (2 : Int32)), .val (.int z21), .val (.ref b23)] [(.ref b23), (.long y33)]))
          refine own_by (fun _ k => XS.iconst X30.here hx rfl (hb hby d2_81) k) ?_
          show own_Go p e below _ (T28.setTop (mkF m 82 #[.val (.long q0), .second, .val (.long y8), .second, .val (.int (2 : Int32)), .val (.int z21), .val (.ref b23)] [(.int (1 : Int32)), (.ref b23), (.long y33)]))
          refine own_by (fun _ k => XS.iload X30.here hx rfl (hb hby d2_82) rfl k) ?_
          show own_Go p e below _ (T28.setTop (mkF m 84 #[.val (.long q0), .second, .val (.long y8), .second, .val (.int (2 : Int32)), .val (.int z21), .val (.ref b23)] [(.int (2 : Int32)), (.int (1 : Int32)), (.ref b23), (.long y33)]))
          obtain ⟨_, _, ⟨T38, L38, k38, n38⟩, -, X38, ⟨Lc38, hQ38, l38, y38, z38⟩, st38⟩ := Jvm.LawKit.callS X30 hx (y := (⟨"com/example/nested_keyspace/nestedkeyspace/TypedParts", "writeBigEndian", "(J[BII)V"⟩ : MethodName)) hown (mvT hZ (hwd 17 rfl)) (mvT hZ (hwd 18 rfl)) (mvT hZ (hwd 6 rfl)) (mvT hZ (hwd 19 rfl)) (by decide) (backOf (W := 0) (rmwb2 l Z A0 hw [] k23 (own_upd (fun _ => (0 : Int32)) 0 (nar .byte (z21.toInt8.toInt32))) y33 b23 h25 n0 Z25 V25 ge_b23) hZ (hwd 19 rfl) (hwd 6 rfl) (by decide) (by decide)) (g := (mkF m 84 #[.val (.long q0), .second, .val (.long y8), .second, .val (.int (2 : Int32)), .val (.int z21), .val (.ref b23)] [(.int (2 : Int32)), (.int (1 : Int32)), (.ref b23), (.long y33)])) rfl (by rw [hml]; rfl) (argsL := [(.long y33), (.ref b23), (.int (1 : Int32)), (.int (2 : Int32))]) (rest := []) (lenOf pd_17 rfl) rfl (by show 2 * 0 + _ ≤ _; exact Nat.le_of_eq rfl) (hb hby d2_84) (fun _ _ => ⟨rfl, e31, (by decide : 1 + 0 ≤ _), (by decide : 9 + 0 ≤ _)⟩)
          dsimp only [Pt.U, Pt.locs, Pt.cells, Pt.slots] at X38 l38 y38 z38 st38 hQ38
          subst l38 y38 z38
          obtain ⟨rfl, Nq38, Kq38, F39⟩ := hQ38
          have N38 := Fr.app N32 Nq38
          have K38 : Keep h0 T38.heap [] := K25.trans Kq38 ((allS (Or.inr sz_b23) all0))
          have Z38 : n0 ≤ T38.heap.size := Nat.le_trans Z25 Kq38.1
          refine own_by st38 ?_
          show own_Go p e below _ (T38.setTop (mkF m 87 #[.val (.long q0), .second, .val (.long y8), .second, .val (.int (2 : Int32)), .val (.int z21), .val (.ref b23)] []))
          refine own_by (fun _ k => XS.aload X38.here hx rfl (hb hby d2_87) rfl rfl k) ?_
          show own_Go p e below _ (T38.setTop (mkF m 89 #[.val (.long q0), .second, .val (.long y8), .second, .val (.int (2 : Int32)), .val (.int z21), .val (.ref b23)] [(.ref b23)]))
          exact own_retR X38 hx Bd.returns (by decide) rfl (hb hby d2_89) hlk rfl ⟨b23, k23, (3 : Int32), (own_wr (own_upd (fun _ => (0 : Int32)) 0 (nar .byte (z21.toInt8.toInt32))) y33 2 2), rfl, N38, K38, ge_b23, sz_b23, F39, (ob_2_21 q0 y8 o11 z21 y33 hj9 hp12 hv13 hj22 hj34)⟩ (by decide) (by decide)
        · skip
          show own_Go p e below _ (T28.setTop (mkF m 79 #[.val (.long q0), .second, .val (.long y8), .second, .val (.int (3 : Int32)), .val (.int z21), .val (.ref b23)] [(.long y33)]))
          refine own_by (fun _ k => XS.aload X30.here hx rfl (hb hby d2_79) rfl rfl k) ?_
          show own_Go p e below _ (T28.setTop (mkF m 81 #[.val (.long q0), .second, .val (.long y8), .second, .val (.int (3 : Int32)), .val (.int z21), .val (.ref b23)] [(.ref b23), (.long y33)]))
          refine own_by (fun _ k => XS.iconst X30.here hx rfl (hb hby d2_81) k) ?_
          show own_Go p e below _ (T28.setTop (mkF m 82 #[.val (.long q0), .second, .val (.long y8), .second, .val (.int (3 : Int32)), .val (.int z21), .val (.ref b23)] [(.int (1 : Int32)), (.ref b23), (.long y33)]))
          refine own_by (fun _ k => XS.iload X30.here hx rfl (hb hby d2_82) rfl k) ?_
          show own_Go p e below _ (T28.setTop (mkF m 84 #[.val (.long q0), .second, .val (.long y8), .second, .val (.int (3 : Int32)), .val (.int z21), .val (.ref b23)] [(.int (3 : Int32)), (.int (1 : Int32)), (.ref b23), (.long y33)]))
          obtain ⟨_, _, ⟨T40, L40, k40, n40⟩, -, X40, ⟨Lc40, hQ40, l40, y40, z40⟩, st40⟩ := Jvm.LawKit.callS X30 hx (y := (⟨"com/example/nested_keyspace/nestedkeyspace/TypedParts", "writeBigEndian", "(J[BII)V"⟩ : MethodName)) hown (mvT hZ (hwd 17 rfl)) (mvT hZ (hwd 18 rfl)) (mvT hZ (hwd 6 rfl)) (mvT hZ (hwd 19 rfl)) (by decide) (backOf (W := 0) (rmwb3 l Z A0 hw [] k23 (own_upd (fun _ => (0 : Int32)) 0 (nar .byte (z21.toInt8.toInt32))) y33 b23 h25 n0 Z25 V25 ge_b23) hZ (hwd 19 rfl) (hwd 6 rfl) (by decide) (by decide)) (g := (mkF m 84 #[.val (.long q0), .second, .val (.long y8), .second, .val (.int (3 : Int32)), .val (.int z21), .val (.ref b23)] [(.int (3 : Int32)), (.int (1 : Int32)), (.ref b23), (.long y33)])) rfl (by rw [hml]; rfl) (argsL := [(.long y33), (.ref b23), (.int (1 : Int32)), (.int (3 : Int32))]) (rest := []) (lenOf pd_17 rfl) rfl (by show 2 * 0 + _ ≤ _; exact Nat.le_of_eq rfl) (hb hby d2_84) (fun _ _ => ⟨rfl, e31, (by decide : 1 + 0 ≤ _), (by decide : 9 + 0 ≤ _)⟩)
          dsimp only [Pt.U, Pt.locs, Pt.cells, Pt.slots] at X40 l40 y40 z40 st40 hQ40
          subst l40 y40 z40
          obtain ⟨rfl, Nq40, Kq40, F41⟩ := hQ40
          have N40 := Fr.app N32 Nq40
          have K40 : Keep h0 T40.heap [] := K25.trans Kq40 ((allS (Or.inr sz_b23) all0))
          have Z40 : n0 ≤ T40.heap.size := Nat.le_trans Z25 Kq40.1
          refine own_by st40 ?_
          show own_Go p e below _ (T40.setTop (mkF m 87 #[.val (.long q0), .second, .val (.long y8), .second, .val (.int (3 : Int32)), .val (.int z21), .val (.ref b23)] []))
          refine own_by (fun _ k => XS.aload X40.here hx rfl (hb hby d2_87) rfl rfl k) ?_
          show own_Go p e below _ (T40.setTop (mkF m 89 #[.val (.long q0), .second, .val (.long y8), .second, .val (.int (3 : Int32)), .val (.int z21), .val (.ref b23)] [(.ref b23)]))
          exact own_retR X40 hx Bd.returns (by decide) rfl (hb hby d2_89) hlk rfl ⟨b23, k23, (4 : Int32), (own_wr (own_upd (fun _ => (0 : Int32)) 0 (nar .byte (z21.toInt8.toInt32))) y33 3 3), rfl, N40, K40, ge_b23, sz_b23, F41, (ob_2_22 q0 y8 o11 z21 y33 hj9 hp12 hv13 hj22 hj34)⟩ (by decide) (by decide)
        · skip
          show own_Go p e below _ (T28.setTop (mkF m 79 #[.val (.long q0), .second, .val (.long y8), .second, .val (.int (4 : Int32)), .val (.int z21), .val (.ref b23)] [(.long y33)]))
          refine own_by (fun _ k => XS.aload X30.here hx rfl (hb hby d2_79) rfl rfl k) ?_
          show own_Go p e below _ (T28.setTop (mkF m 81 #[.val (.long q0), .second, .val (.long y8), .second, .val (.int (4 : Int32)), .val (.int z21), .val (.ref b23)] [(.ref b23), (.long y33)]))
          refine own_by (fun _ k => XS.iconst X30.here hx rfl (hb hby d2_81) k) ?_
          show own_Go p e below _ (T28.setTop (mkF m 82 #[.val (.long q0), .second, .val (.long y8), .second, .val (.int (4 : Int32)), .val (.int z21), .val (.ref b23)] [(.int (1 : Int32)), (.ref b23), (.long y33)]))
          refine own_by (fun _ k => XS.iload X30.here hx rfl (hb hby d2_82) rfl k) ?_
          show own_Go p e below _ (T28.setTop (mkF m 84 #[.val (.long q0), .second, .val (.long y8), .second, .val (.int (4 : Int32)), .val (.int z21), .val (.ref b23)] [(.int (4 : Int32)), (.int (1 : Int32)), (.ref b23), (.long y33)]))
          obtain ⟨_, _, ⟨T42, L42, k42, n42⟩, -, X42, ⟨Lc42, hQ42, l42, y42, z42⟩, st42⟩ := Jvm.LawKit.callS X30 hx (y := (⟨"com/example/nested_keyspace/nestedkeyspace/TypedParts", "writeBigEndian", "(J[BII)V"⟩ : MethodName)) hown (mvT hZ (hwd 17 rfl)) (mvT hZ (hwd 18 rfl)) (mvT hZ (hwd 6 rfl)) (mvT hZ (hwd 19 rfl)) (by decide) (backOf (W := 0) (rmwb4 l Z A0 hw [] k23 (own_upd (fun _ => (0 : Int32)) 0 (nar .byte (z21.toInt8.toInt32))) y33 b23 h25 n0 Z25 V25 ge_b23) hZ (hwd 19 rfl) (hwd 6 rfl) (by decide) (by decide)) (g := (mkF m 84 #[.val (.long q0), .second, .val (.long y8), .second, .val (.int (4 : Int32)), .val (.int z21), .val (.ref b23)] [(.int (4 : Int32)), (.int (1 : Int32)), (.ref b23), (.long y33)])) rfl (by rw [hml]; rfl) (argsL := [(.long y33), (.ref b23), (.int (1 : Int32)), (.int (4 : Int32))]) (rest := []) (lenOf pd_17 rfl) rfl (by show 2 * 0 + _ ≤ _; exact Nat.le_of_eq rfl) (hb hby d2_84) (fun _ _ => ⟨rfl, e31, (by decide : 1 + 0 ≤ _), (by decide : 9 + 0 ≤ _)⟩)
          dsimp only [Pt.U, Pt.locs, Pt.cells, Pt.slots] at X42 l42 y42 z42 st42 hQ42
          subst l42 y42 z42
          obtain ⟨rfl, Nq42, Kq42, F43⟩ := hQ42
          have N42 := Fr.app N32 Nq42
          have K42 : Keep h0 T42.heap [] := K25.trans Kq42 ((allS (Or.inr sz_b23) all0))
          have Z42 : n0 ≤ T42.heap.size := Nat.le_trans Z25 Kq42.1
          refine own_by st42 ?_
          show own_Go p e below _ (T42.setTop (mkF m 87 #[.val (.long q0), .second, .val (.long y8), .second, .val (.int (4 : Int32)), .val (.int z21), .val (.ref b23)] []))
          refine own_by (fun _ k => XS.aload X42.here hx rfl (hb hby d2_87) rfl rfl k) ?_
          show own_Go p e below _ (T42.setTop (mkF m 89 #[.val (.long q0), .second, .val (.long y8), .second, .val (.int (4 : Int32)), .val (.int z21), .val (.ref b23)] [(.ref b23)]))
          exact own_retR X42 hx Bd.returns (by decide) rfl (hb hby d2_89) hlk rfl ⟨b23, k23, (5 : Int32), (own_wr (own_upd (fun _ => (0 : Int32)) 0 (nar .byte (z21.toInt8.toInt32))) y33 4 4), rfl, N42, K42, ge_b23, sz_b23, F43, (ob_2_23 q0 y8 o11 z21 y33 hj9 hp12 hv13 hj22 hj34)⟩ (by decide) (by decide)
        · skip
          show own_Go p e below _ (T28.setTop (mkF m 79 #[.val (.long q0), .second, .val (.long y8), .second, .val (.int (5 : Int32)), .val (.int z21), .val (.ref b23)] [(.long y33)]))
          refine own_by (fun _ k => XS.aload X30.here hx rfl (hb hby d2_79) rfl rfl k) ?_
          show own_Go p e below _ (T28.setTop (mkF m 81 #[.val (.long q0), .second, .val (.long y8), .second, .val (.int (5 : Int32)), .val (.int z21), .val (.ref b23)] [(.ref b23), (.long y33)]))
          refine own_by (fun _ k => XS.iconst X30.here hx rfl (hb hby d2_81) k) ?_
          show own_Go p e below _ (T28.setTop (mkF m 82 #[.val (.long q0), .second, .val (.long y8), .second, .val (.int (5 : Int32)), .val (.int z21), .val (.ref b23)] [(.int (1 : Int32)), (.ref b23), (.long y33)]))
          refine own_by (fun _ k => XS.iload X30.here hx rfl (hb hby d2_82) rfl k) ?_
          show own_Go p e below _ (T28.setTop (mkF m 84 #[.val (.long q0), .second, .val (.long y8), .second, .val (.int (5 : Int32)), .val (.int z21), .val (.ref b23)] [(.int (5 : Int32)), (.int (1 : Int32)), (.ref b23), (.long y33)]))
          obtain ⟨_, _, ⟨T44, L44, k44, n44⟩, -, X44, ⟨Lc44, hQ44, l44, y44, z44⟩, st44⟩ := Jvm.LawKit.callS X30 hx (y := (⟨"com/example/nested_keyspace/nestedkeyspace/TypedParts", "writeBigEndian", "(J[BII)V"⟩ : MethodName)) hown (mvT hZ (hwd 17 rfl)) (mvT hZ (hwd 18 rfl)) (mvT hZ (hwd 6 rfl)) (mvT hZ (hwd 19 rfl)) (by decide) (backOf (W := 0) (rmwb5 l Z A0 hw [] k23 (own_upd (fun _ => (0 : Int32)) 0 (nar .byte (z21.toInt8.toInt32))) y33 b23 h25 n0 Z25 V25 ge_b23) hZ (hwd 19 rfl) (hwd 6 rfl) (by decide) (by decide)) (g := (mkF m 84 #[.val (.long q0), .second, .val (.long y8), .second, .val (.int (5 : Int32)), .val (.int z21), .val (.ref b23)] [(.int (5 : Int32)), (.int (1 : Int32)), (.ref b23), (.long y33)])) rfl (by rw [hml]; rfl) (argsL := [(.long y33), (.ref b23), (.int (1 : Int32)), (.int (5 : Int32))]) (rest := []) (lenOf pd_17 rfl) rfl (by show 2 * 0 + _ ≤ _; exact Nat.le_of_eq rfl) (hb hby d2_84) (fun _ _ => ⟨rfl, e31, (by decide : 1 + 0 ≤ _), (by decide : 9 + 0 ≤ _)⟩)
          dsimp only [Pt.U, Pt.locs, Pt.cells, Pt.slots] at X44 l44 y44 z44 st44 hQ44
          subst l44 y44 z44
          obtain ⟨rfl, Nq44, Kq44, F45⟩ := hQ44
          have N44 := Fr.app N32 Nq44
          have K44 : Keep h0 T44.heap [] := K25.trans Kq44 ((allS (Or.inr sz_b23) all0))
          have Z44 : n0 ≤ T44.heap.size := Nat.le_trans Z25 Kq44.1
          refine own_by st44 ?_
          show own_Go p e below _ (T44.setTop (mkF m 87 #[.val (.long q0), .second, .val (.long y8), .second, .val (.int (5 : Int32)), .val (.int z21), .val (.ref b23)] []))
          refine own_by (fun _ k => XS.aload X44.here hx rfl (hb hby d2_87) rfl rfl k) ?_
          show own_Go p e below _ (T44.setTop (mkF m 89 #[.val (.long q0), .second, .val (.long y8), .second, .val (.int (5 : Int32)), .val (.int z21), .val (.ref b23)] [(.ref b23)]))
          exact own_retR X44 hx Bd.returns (by decide) rfl (hb hby d2_89) hlk rfl ⟨b23, k23, (6 : Int32), (own_wr (own_upd (fun _ => (0 : Int32)) 0 (nar .byte (z21.toInt8.toInt32))) y33 5 5), rfl, N44, K44, ge_b23, sz_b23, F45, (ob_2_24 q0 y8 o11 z21 y33 hj9 hp12 hv13 hj22 hj34)⟩ (by decide) (by decide)
        · skip
          show own_Go p e below _ (T28.setTop (mkF m 79 #[.val (.long q0), .second, .val (.long y8), .second, .val (.int (6 : Int32)), .val (.int z21), .val (.ref b23)] [(.long y33)]))
          refine own_by (fun _ k => XS.aload X30.here hx rfl (hb hby d2_79) rfl rfl k) ?_
          show own_Go p e below _ (T28.setTop (mkF m 81 #[.val (.long q0), .second, .val (.long y8), .second, .val (.int (6 : Int32)), .val (.int z21), .val (.ref b23)] [(.ref b23), (.long y33)]))
          refine own_by (fun _ k => XS.iconst X30.here hx rfl (hb hby d2_81) k) ?_
          show own_Go p e below _ (T28.setTop (mkF m 82 #[.val (.long q0), .second, .val (.long y8), .second, .val (.int (6 : Int32)), .val (.int z21), .val (.ref b23)] [(.int (1 : Int32)), (.ref b23), (.long y33)]))
          refine own_by (fun _ k => XS.iload X30.here hx rfl (hb hby d2_82) rfl k) ?_
          show own_Go p e below _ (T28.setTop (mkF m 84 #[.val (.long q0), .second, .val (.long y8), .second, .val (.int (6 : Int32)), .val (.int z21), .val (.ref b23)] [(.int (6 : Int32)), (.int (1 : Int32)), (.ref b23), (.long y33)]))
          obtain ⟨_, _, ⟨T46, L46, k46, n46⟩, -, X46, ⟨Lc46, hQ46, l46, y46, z46⟩, st46⟩ := Jvm.LawKit.callS X30 hx (y := (⟨"com/example/nested_keyspace/nestedkeyspace/TypedParts", "writeBigEndian", "(J[BII)V"⟩ : MethodName)) hown (mvT hZ (hwd 17 rfl)) (mvT hZ (hwd 18 rfl)) (mvT hZ (hwd 6 rfl)) (mvT hZ (hwd 19 rfl)) (by decide) (backOf (W := 0) (rmwb6 l Z A0 hw [] k23 (own_upd (fun _ => (0 : Int32)) 0 (nar .byte (z21.toInt8.toInt32))) y33 b23 h25 n0 Z25 V25 ge_b23) hZ (hwd 19 rfl) (hwd 6 rfl) (by decide) (by decide)) (g := (mkF m 84 #[.val (.long q0), .second, .val (.long y8), .second, .val (.int (6 : Int32)), .val (.int z21), .val (.ref b23)] [(.int (6 : Int32)), (.int (1 : Int32)), (.ref b23), (.long y33)])) rfl (by rw [hml]; rfl) (argsL := [(.long y33), (.ref b23), (.int (1 : Int32)), (.int (6 : Int32))]) (rest := []) (lenOf pd_17 rfl) rfl (by show 2 * 0 + _ ≤ _; exact Nat.le_of_eq rfl) (hb hby d2_84) (fun _ _ => ⟨rfl, e31, (by decide : 1 + 0 ≤ _), (by decide : 9 + 0 ≤ _)⟩)
          dsimp only [Pt.U, Pt.locs, Pt.cells, Pt.slots] at X46 l46 y46 z46 st46 hQ46
          subst l46 y46 z46
          obtain ⟨rfl, Nq46, Kq46, F47⟩ := hQ46
          have N46 := Fr.app N32 Nq46
          have K46 : Keep h0 T46.heap [] := K25.trans Kq46 ((allS (Or.inr sz_b23) all0))
          have Z46 : n0 ≤ T46.heap.size := Nat.le_trans Z25 Kq46.1
          refine own_by st46 ?_
          show own_Go p e below _ (T46.setTop (mkF m 87 #[.val (.long q0), .second, .val (.long y8), .second, .val (.int (6 : Int32)), .val (.int z21), .val (.ref b23)] []))
          refine own_by (fun _ k => XS.aload X46.here hx rfl (hb hby d2_87) rfl rfl k) ?_
          show own_Go p e below _ (T46.setTop (mkF m 89 #[.val (.long q0), .second, .val (.long y8), .second, .val (.int (6 : Int32)), .val (.int z21), .val (.ref b23)] [(.ref b23)]))
          exact own_retR X46 hx Bd.returns (by decide) rfl (hb hby d2_89) hlk rfl ⟨b23, k23, (7 : Int32), (own_wr (own_upd (fun _ => (0 : Int32)) 0 (nar .byte (z21.toInt8.toInt32))) y33 6 6), rfl, N46, K46, ge_b23, sz_b23, F47, (ob_2_25 q0 y8 o11 z21 y33 hj9 hp12 hv13 hj22 hj34)⟩ (by decide) (by decide)
        · skip
          show own_Go p e below _ (T28.setTop (mkF m 79 #[.val (.long q0), .second, .val (.long y8), .second, .val (.int (7 : Int32)), .val (.int z21), .val (.ref b23)] [(.long y33)]))
          refine own_by (fun _ k => XS.aload X30.here hx rfl (hb hby d2_79) rfl rfl k) ?_
          show own_Go p e below _ (T28.setTop (mkF m 81 #[.val (.long q0), .second, .val (.long y8), .second, .val (.int (7 : Int32)), .val (.int z21), .val (.ref b23)] [(.ref b23), (.long y33)]))
          refine own_by (fun _ k => XS.iconst X30.here hx rfl (hb hby d2_81) k) ?_
          show own_Go p e below _ (T28.setTop (mkF m 82 #[.val (.long q0), .second, .val (.long y8), .second, .val (.int (7 : Int32)), .val (.int z21), .val (.ref b23)] [(.int (1 : Int32)), (.ref b23), (.long y33)]))
          refine own_by (fun _ k => XS.iload X30.here hx rfl (hb hby d2_82) rfl k) ?_
          show own_Go p e below _ (T28.setTop (mkF m 84 #[.val (.long q0), .second, .val (.long y8), .second, .val (.int (7 : Int32)), .val (.int z21), .val (.ref b23)] [(.int (7 : Int32)), (.int (1 : Int32)), (.ref b23), (.long y33)]))
          obtain ⟨_, _, ⟨T48, L48, k48, n48⟩, -, X48, ⟨Lc48, hQ48, l48, y48, z48⟩, st48⟩ := Jvm.LawKit.callS X30 hx (y := (⟨"com/example/nested_keyspace/nestedkeyspace/TypedParts", "writeBigEndian", "(J[BII)V"⟩ : MethodName)) hown (mvT hZ (hwd 17 rfl)) (mvT hZ (hwd 18 rfl)) (mvT hZ (hwd 6 rfl)) (mvT hZ (hwd 19 rfl)) (by decide) (backOf (W := 0) (rmwb7 l Z A0 hw [] k23 (own_upd (fun _ => (0 : Int32)) 0 (nar .byte (z21.toInt8.toInt32))) y33 b23 h25 n0 Z25 V25 ge_b23) hZ (hwd 19 rfl) (hwd 6 rfl) (by decide) (by decide)) (g := (mkF m 84 #[.val (.long q0), .second, .val (.long y8), .second, .val (.int (7 : Int32)), .val (.int z21), .val (.ref b23)] [(.int (7 : Int32)), (.int (1 : Int32)), (.ref b23), (.long y33)])) rfl (by rw [hml]; rfl) (argsL := [(.long y33), (.ref b23), (.int (1 : Int32)), (.int (7 : Int32))]) (rest := []) (lenOf pd_17 rfl) rfl (by show 2 * 0 + _ ≤ _; exact Nat.le_of_eq rfl) (hb hby d2_84) (fun _ _ => ⟨rfl, e31, (by decide : 1 + 0 ≤ _), (by decide : 9 + 0 ≤ _)⟩)
          dsimp only [Pt.U, Pt.locs, Pt.cells, Pt.slots] at X48 l48 y48 z48 st48 hQ48
          subst l48 y48 z48
          obtain ⟨rfl, Nq48, Kq48, F49⟩ := hQ48
          have N48 := Fr.app N32 Nq48
          have K48 : Keep h0 T48.heap [] := K25.trans Kq48 ((allS (Or.inr sz_b23) all0))
          have Z48 : n0 ≤ T48.heap.size := Nat.le_trans Z25 Kq48.1
          refine own_by st48 ?_
          show own_Go p e below _ (T48.setTop (mkF m 87 #[.val (.long q0), .second, .val (.long y8), .second, .val (.int (7 : Int32)), .val (.int z21), .val (.ref b23)] []))
          refine own_by (fun _ k => XS.aload X48.here hx rfl (hb hby d2_87) rfl rfl k) ?_
          show own_Go p e below _ (T48.setTop (mkF m 89 #[.val (.long q0), .second, .val (.long y8), .second, .val (.int (7 : Int32)), .val (.int z21), .val (.ref b23)] [(.ref b23)]))
          exact own_retR X48 hx Bd.returns (by decide) rfl (hb hby d2_89) hlk rfl ⟨b23, k23, (8 : Int32), (own_wr (own_upd (fun _ => (0 : Int32)) 0 (nar .byte (z21.toInt8.toInt32))) y33 7 7), rfl, N48, K48, ge_b23, sz_b23, F49, (ob_2_26 q0 y8 o11 z21 y33 hj9 hp12 hv13 hj22 hj34)⟩ (by decide) (by decide)
        · skip
          show own_Go p e below _ (T28.setTop (mkF m 79 #[.val (.long q0), .second, .val (.long y8), .second, .val (.int (8 : Int32)), .val (.int z21), .val (.ref b23)] [(.long y33)]))
          refine own_by (fun _ k => XS.aload X30.here hx rfl (hb hby d2_79) rfl rfl k) ?_
          show own_Go p e below _ (T28.setTop (mkF m 81 #[.val (.long q0), .second, .val (.long y8), .second, .val (.int (8 : Int32)), .val (.int z21), .val (.ref b23)] [(.ref b23), (.long y33)]))
          refine own_by (fun _ k => XS.iconst X30.here hx rfl (hb hby d2_81) k) ?_
          show own_Go p e below _ (T28.setTop (mkF m 82 #[.val (.long q0), .second, .val (.long y8), .second, .val (.int (8 : Int32)), .val (.int z21), .val (.ref b23)] [(.int (1 : Int32)), (.ref b23), (.long y33)]))
          refine own_by (fun _ k => XS.iload X30.here hx rfl (hb hby d2_82) rfl k) ?_
          show own_Go p e below _ (T28.setTop (mkF m 84 #[.val (.long q0), .second, .val (.long y8), .second, .val (.int (8 : Int32)), .val (.int z21), .val (.ref b23)] [(.int (8 : Int32)), (.int (1 : Int32)), (.ref b23), (.long y33)]))
          obtain ⟨_, _, ⟨T50, L50, k50, n50⟩, -, X50, ⟨Lc50, hQ50, l50, y50, z50⟩, st50⟩ := Jvm.LawKit.callS X30 hx (y := (⟨"com/example/nested_keyspace/nestedkeyspace/TypedParts", "writeBigEndian", "(J[BII)V"⟩ : MethodName)) hown (mvT hZ (hwd 17 rfl)) (mvT hZ (hwd 18 rfl)) (mvT hZ (hwd 6 rfl)) (mvT hZ (hwd 19 rfl)) (by decide) (backOf (W := 0) (rmwb8 l Z A0 hw [] k23 (own_upd (fun _ => (0 : Int32)) 0 (nar .byte (z21.toInt8.toInt32))) y33 b23 h25 n0 Z25 V25 ge_b23) hZ (hwd 19 rfl) (hwd 6 rfl) (by decide) (by decide)) (g := (mkF m 84 #[.val (.long q0), .second, .val (.long y8), .second, .val (.int (8 : Int32)), .val (.int z21), .val (.ref b23)] [(.int (8 : Int32)), (.int (1 : Int32)), (.ref b23), (.long y33)])) rfl (by rw [hml]; rfl) (argsL := [(.long y33), (.ref b23), (.int (1 : Int32)), (.int (8 : Int32))]) (rest := []) (lenOf pd_17 rfl) rfl (by show 2 * 0 + _ ≤ _; exact Nat.le_of_eq rfl) (hb hby d2_84) (fun _ _ => ⟨rfl, e31, (by decide : 1 + 0 ≤ _), (by decide : 9 + 0 ≤ _)⟩)
          dsimp only [Pt.U, Pt.locs, Pt.cells, Pt.slots] at X50 l50 y50 z50 st50 hQ50
          subst l50 y50 z50
          obtain ⟨rfl, Nq50, Kq50, F51⟩ := hQ50
          have N50 := Fr.app N32 Nq50
          have K50 : Keep h0 T50.heap [] := K25.trans Kq50 ((allS (Or.inr sz_b23) all0))
          have Z50 : n0 ≤ T50.heap.size := Nat.le_trans Z25 Kq50.1
          refine own_by st50 ?_
          show own_Go p e below _ (T50.setTop (mkF m 87 #[.val (.long q0), .second, .val (.long y8), .second, .val (.int (8 : Int32)), .val (.int z21), .val (.ref b23)] []))
          refine own_by (fun _ k => XS.aload X50.here hx rfl (hb hby d2_87) rfl rfl k) ?_
          show own_Go p e below _ (T50.setTop (mkF m 89 #[.val (.long q0), .second, .val (.long y8), .second, .val (.int (8 : Int32)), .val (.int z21), .val (.ref b23)] [(.ref b23)]))
          exact own_retR X50 hx Bd.returns (by decide) rfl (hb hby d2_89) hlk rfl ⟨b23, k23, (9 : Int32), (own_wr (own_upd (fun _ => (0 : Int32)) 0 (nar .byte (z21.toInt8.toInt32))) y33 8 8), rfl, N50, K50, ge_b23, sz_b23, F51, (ob_2_27 q0 y8 o11 z21 y33 hj9 hp12 hv13 hj22 hj34)⟩ (by decide) (by decide)
      by_cases c26 : q0 < (0 : Int64)
      · skip
        refine own_by (fun _ k => XS.ifNo X25.here hx rfl (hb hby d2_69) rfl ((if0 _ _).trans (tlt ((lw_lt _ _).mpr c26)).2.1) k) ?_
        show own_Go p e below _ (T25.setTop (mkF m 72 #[.val (.long q0), .second, .val (.long y8), .second, .val (.int v13), .val (.int z21), .val (.ref b23)] []))
        refine own_by (fun _ k => XS.lloadN X25.here hx rfl (hb hby d2_72) rfl k) ?_
        show own_Go p e below _ (T25.setTop (mkF m 73 #[.val (.long q0), .second, .val (.long y8), .second, .val (.int v13), .val (.int z21), .val (.ref b23)] [(.long q0)]))
        refine own_by (fun _ k => XS.lconst X25.here hx rfl (hb hby d2_73) k) ?_
        show own_Go p e below _ (T25.setTop (mkF m 74 #[.val (.long q0), .second, .val (.long y8), .second, .val (.int v13), .val (.int z21), .val (.ref b23)] [(.long (1 : Int64)), (.long q0)]))
        refine own_by (fun _ k => XS.lsub X25.here hx rfl (hb hby d2_74) rfl k) ?_
        show own_Go p e below _ (T25.setTop (mkF m 75 #[.val (.long q0), .second, .val (.long y8), .second, .val (.int v13), .val (.int z21), .val (.ref b23)] [(.long (q0 - (1 : Int64)))]))
        refine own_by (fun _ k => XS.goto X25.here hx rfl (pc0 := 75) (pc' := 79) rfl (hb hby d2_75) (by decide) (by decide) k) ?_
        show own_Go p e below _ (T25.setTop (mkF m 79 #[.val (.long q0), .second, .val (.long y8), .second, .val (.int v13), .val (.int z21), .val (.ref b23)] [(.long (q0 - (1 : Int64)))]))
        exact J27 _ _ ((q0 - (1 : Int64))) X25 e25 N25 (Or.inl ⟨c26, rfl⟩)
      · skip
        refine own_by (fun _ k => XS.ifYes X25.here hx rfl (pc0 := 69) (pc' := 78) rfl (hb hby d2_69) rfl ((if0 _ _).trans (flt (fun q => c26 ((lw_lt _ _).mp q))).2.1) (by decide) (by decide) k) ?_
        show own_Go p e below _ (T25.setTop (mkF m 78 #[.val (.long q0), .second, .val (.long y8), .second, .val (.int v13), .val (.int z21), .val (.ref b23)] []))
        refine own_by (fun _ k => XS.lloadN X25.here hx rfl (hb hby d2_78) rfl k) ?_
        show own_Go p e below _ (T25.setTop (mkF m 79 #[.val (.long q0), .second, .val (.long y8), .second, .val (.int v13), .val (.int z21), .val (.ref b23)] [(.long q0)]))
        exact J27 _ _ q0 X25 e25 N25 (Or.inr (⟨c26, rfl⟩))
    by_cases c14 : q0 < (0 : Int64)
    · skip
      refine own_by (fun _ k => XS.ifNo X10.here hx rfl (hb hby d2_31) rfl ((if0 _ _).trans (tlt ((lw_lt _ _).mpr c14)).2.1) k) ?_
      show own_Go p e below _ (T10.setTop (mkF m 34 #[.val (.long q0), .second, .val (.long y8), .second, .val (.int v13), .unset, .unset] []))
      refine own_by (fun _ k => XS.sipush X10.here hx rfl (hb hby d2_34) k) ?_
      show own_Go p e below _ (T10.setTop (mkF m 37 #[.val (.long q0), .second, .val (.long y8), .second, .val (.int v13), .unset, .unset] [(.int (128 : Int32))]))
      refine own_by (fun _ k => XS.iload X10.here hx rfl (hb hby d2_37) rfl k) ?_
      show own_Go p e below _ (T10.setTop (mkF m 39 #[.val (.long q0), .second, .val (.long y8), .second, .val (.int v13), .unset, .unset] [(.int v13), (.int (128 : Int32))]))
      refine own_by (fun _ k => XS.isub X10.here hx rfl (hb hby d2_39) rfl k) ?_
      show own_Go p e below _ (T10.setTop (mkF m 40 #[.val (.long q0), .second, .val (.long y8), .second, .val (.int v13), .unset, .unset] [(.int ((128 : Int32) - v13))]))
      refine own_by (fun _ k => XS.goto X10.here hx rfl (pc0 := 40) (pc' := 49) rfl (hb hby d2_40) (by decide) (by decide) k) ?_
      show own_Go p e below _ (T10.setTop (mkF m 49 #[.val (.long q0), .second, .val (.long y8), .second, .val (.int v13), .unset, .unset] [(.int ((128 : Int32) - v13))]))
      exact J15 _ _ (((128 : Int32) - v13)) X10 eq10 N10 (Or.inl ⟨c14, rfl⟩)
    · skip
      refine own_by (fun _ k => XS.ifYes X10.here hx rfl (pc0 := 31) (pc' := 43) rfl (hb hby d2_31) rfl ((if0 _ _).trans (flt (fun q => c14 ((lw_lt _ _).mp q))).2.1) (by decide) (by decide) k) ?_
      show own_Go p e below _ (T10.setTop (mkF m 43 #[.val (.long q0), .second, .val (.long y8), .second, .val (.int v13), .unset, .unset] []))
      refine own_by (fun _ k => XS.sipush X10.here hx rfl (hb hby d2_43) k) ?_
      show own_Go p e below _ (T10.setTop (mkF m 46 #[.val (.long q0), .second, .val (.long y8), .second, .val (.int v13), .unset, .unset] [(.int (128 : Int32))]))
      refine own_by (fun _ k => XS.iload X10.here hx rfl (hb hby d2_46) rfl k) ?_
      show own_Go p e below _ (T10.setTop (mkF m 48 #[.val (.long q0), .second, .val (.long y8), .second, .val (.int v13), .unset, .unset] [(.int v13), (.int (128 : Int32))]))
      refine own_by (fun _ k => XS.iadd X10.here hx rfl (hb hby d2_48) rfl k) ?_
      show own_Go p e below _ (T10.setTop (mkF m 49 #[.val (.long q0), .second, .val (.long y8), .second, .val (.int v13), .unset, .unset] [(.int ((128 : Int32) + v13))]))
      exact J15 _ _ (((128 : Int32) + v13)) X10 eq10 N10 (Or.inr (⟨c14, rfl⟩))
  by_cases c1 : q0 < (0 : Int64)
  · skip
    refine own_by (fun _ k => XS.ifNo X0.here hx rfl (hb hby d2_3) rfl ((if0 _ _).trans (tlt ((lw_lt _ _).mpr c1)).2.1) k) ?_
    show own_Go p e below _ (s₁.setTop (mkF m 6 #[.val (.long q0), .second, .unset, .unset, .unset, .unset, .unset] []))
    refine own_by (fun _ k => XS.lloadN X0.here hx rfl (hb hby d2_6) rfl k) ?_
    show own_Go p e below _ (s₁.setTop (mkF m 7 #[.val (.long q0), .second, .unset, .unset, .unset, .unset, .unset] [(.long q0)]))
    refine own_by (fun _ k => XS.lneg X0.here hx rfl (hb hby d2_7) rfl k) ?_
    show own_Go p e below _ (s₁.setTop (mkF m 8 #[.val (.long q0), .second, .unset, .unset, .unset, .unset, .unset] [(.long (-q0))]))
    refine own_by (fun _ k => XS.goto X0.here hx rfl (pc0 := 8) (pc' := 12) rfl (hb hby d2_8) (by decide) (by decide) k) ?_
    show own_Go p e below _ (s₁.setTop (mkF m 12 #[.val (.long q0), .second, .unset, .unset, .unset, .unset, .unset] [(.long (-q0))]))
    exact J2 _ _ ((-q0)) X0 e0 N0 (Or.inl ⟨c1, rfl⟩)
  · skip
    refine own_by (fun _ k => XS.ifYes X0.here hx rfl (pc0 := 3) (pc' := 11) rfl (hb hby d2_3) rfl ((if0 _ _).trans (flt (fun q => c1 ((lw_lt _ _).mp q))).2.1) (by decide) (by decide) k) ?_
    show own_Go p e below _ (s₁.setTop (mkF m 11 #[.val (.long q0), .second, .unset, .unset, .unset, .unset, .unset] []))
    refine own_by (fun _ k => XS.lloadN X0.here hx rfl (hb hby d2_11) rfl k) ?_
    show own_Go p e below _ (s₁.setTop (mkF m 12 #[.val (.long q0), .second, .unset, .unset, .unset, .unset, .unset] [(.long q0)]))
    exact J2 _ _ q0 X0 e0 N0 (Or.inr (⟨c1, rfl⟩))
theorem pd_4 : parseMethodDescriptor "(J)[B" = some ⟨[.long], some (.array .byte)⟩ := by decide +kernel
theorem pd_20 : parseMethodDescriptor "([BIIJ)Z" = some ⟨[(.array .byte), .int, .int, .long], some .boolean⟩ := by decide +kernel
theorem pn_0 : plainName "com/example/nested_keyspace/nestedkeyspace/TypedPartsEncodeSignedPinLaw" = true := by first | (simp [plainName, overriddenIn]; done) | decide +kernel
theorem ef_0 (m : MethodId) (q0 : Int64) (p1 : Int32) : entryFrame m #[(.long q0), (.int p1)] maxLocals = mkF m 0 #[.val (.long q0), .second, .val (.int p1), .unset, .unset, .unset, .unset, .unset, .unset, .unset, .unset, .unset, .unset] [] := by first | (simp [entryFrame, mkF, argsToLocals, Value.category, maxLocals]; done) | rfl
theorem ob_0_28 (q0 : Int64) (p1 : Int32) (v1 : Int64) (z9 : Int32) (y18 : Int64) (o21 : Int32) (y30 : Int64) (o35 : Int32) (b36 : Nat → Int32) (z50 : Int32) (hv1 : (q0 >>> ((p1 &&& (63 : Int32)) &&& 0x3f).toInt64) = v1) (hj10 : ((v1 < (0 : Int64)) ∧ z9 = (1 : Int32)) ∨ ((¬ (v1 < (0 : Int64))) ∧ z9 = (0 : Int32))) (hj19 : ((z9 = (0 : Int32)) ∧ y18 = v1) ∨ ((¬ (z9 = (0 : Int32))) ∧ y18 = (-v1))) (hp22 : own_bc y18 o21) (hj31 : ((z9 = (0 : Int32)) ∧ y30 = y18) ∨ ((¬ (z9 = (0 : Int32))) ∧ y30 = (y18 ^^^ (-1 : Int64)))) (hp40 : own_enc v1 o35 b36) (c42 : o35 = ((1 : Int32) + o21)) (hj51 : ((z9 = (0 : Int32)) ∧ z50 = ((128 : Int32) + o21)) ∨ ((¬ (z9 = (0 : Int32))) ∧ z50 = ((128 : Int32) - o21))) : (¬ (0 : Int32) < 0) ∧ (0 : Int32) < o35 := by
  obtain ⟨p1, p2, p3, p4, p5⟩ := own_part v1 o35 b36 hp40 z9 y18 y30 o21 hj10 hj19 hp22 hj31
  have h := c_iadd 1 o21
  have r := rng32 ((1 : Int32) + o21)
  have e1 : (1 : Int32).toInt = 1 := rfl
  have e0 : (0 : Int32).toInt = 0 := rfl
  refine ⟨by decide, ?_⟩
  rw [p1, Int32.lt_iff_toInt_lt]
  omega
theorem ob_0_29 (q0 : Int64) (p1 : Int32) (v1 : Int64) (z9 : Int32) (y18 : Int64) (o21 : Int32) (y30 : Int64) (o35 : Int32) (b36 : Nat → Int32) (z50 : Int32) (hv1 : (q0 >>> ((p1 &&& (63 : Int32)) &&& 0x3f).toInt64) = v1) (hj10 : ((v1 < (0 : Int64)) ∧ z9 = (1 : Int32)) ∨ ((¬ (v1 < (0 : Int64))) ∧ z9 = (0 : Int32))) (hj19 : ((z9 = (0 : Int32)) ∧ y18 = v1) ∨ ((¬ (z9 = (0 : Int32))) ∧ y18 = (-v1))) (hp22 : own_bc y18 o21) (hj31 : ((z9 = (0 : Int32)) ∧ y30 = y18) ∨ ((¬ (z9 = (0 : Int32))) ∧ y30 = (y18 ^^^ (-1 : Int64)))) (hp40 : own_enc v1 o35 b36) (c42 : o35 = ((1 : Int32) + o21)) (hj51 : ((z9 = (0 : Int32)) ∧ z50 = ((128 : Int32) + o21)) ∨ ((¬ (z9 = (0 : Int32))) ∧ z50 = ((128 : Int32) - o21))) (c53 : ((b36 0) &&& (255 : Int32)) = z50) : (¬ (o21 < (1 : Int32))) → ((¬ (1 : Int32) < 0) ∧ (1 : Int32) < o35) := by
  obtain ⟨p1, p2, p3, p4, p5⟩ := own_part v1 o35 b36 hp40 z9 y18 y30 o21 hj10 hj19 hp22 hj31
  have h := c_iadd 1 o21
  have r := rng32 ((1 : Int32) + o21)
  have e1 : (1 : Int32).toInt = 1 := rfl
  have e0 : (0 : Int32).toInt = 0 := rfl
  intro hh
  refine ⟨by decide, ?_⟩
  rw [p1, Int32.lt_iff_toInt_lt]
  rw [Int32.lt_iff_toInt_lt] at hh
  have ei : (1 : Int32).toInt = 1 := rfl
  omega
theorem ob_0_30 (q0 : Int64) (p1 : Int32) (v1 : Int64) (z9 : Int32) (y18 : Int64) (o21 : Int32) (y30 : Int64) (o35 : Int32) (b36 : Nat → Int32) (z50 : Int32) (o55 : Int32) (hv1 : (q0 >>> ((p1 &&& (63 : Int32)) &&& 0x3f).toInt64) = v1) (hj10 : ((v1 < (0 : Int64)) ∧ z9 = (1 : Int32)) ∨ ((¬ (v1 < (0 : Int64))) ∧ z9 = (0 : Int32))) (hj19 : ((z9 = (0 : Int32)) ∧ y18 = v1) ∨ ((¬ (z9 = (0 : Int32))) ∧ y18 = (-v1))) (hp22 : own_bc y18 o21) (hj31 : ((z9 = (0 : Int32)) ∧ y30 = y18) ∨ ((¬ (z9 = (0 : Int32))) ∧ y30 = (y18 ^^^ (-1 : Int64)))) (hp40 : own_enc v1 o35 b36) (c42 : o35 = ((1 : Int32) + o21)) (hj51 : ((z9 = (0 : Int32)) ∧ z50 = ((128 : Int32) + o21)) ∨ ((¬ (z9 = (0 : Int32))) ∧ z50 = ((128 : Int32) - o21))) (c53 : ((b36 0) &&& (255 : Int32)) = z50) (hp56 : ((o21 < (1 : Int32)) ∧ o55 = (1 : Int32)) ∨ ((¬ (o21 < (1 : Int32))) ∧ ((b36 1) = ((((y30.toUInt64 >>> (((8 : Int32) * (o21 - (1 : Int32))) &&& 0x3f).toInt64.toUInt64).toInt64).toInt32).toInt8.toInt32)) ∧ o55 = (1 : Int32)) ∨ ((¬ (o21 < (1 : Int32))) ∧ (¬ ((b36 1) = ((((y30.toUInt64 >>> (((8 : Int32) * (o21 - (1 : Int32))) &&& 0x3f).toInt64.toUInt64).toInt64).toInt32).toInt8.toInt32))) ∧ o55 = (0 : Int32))) (c57 : o55 = (0 : Int32)) : False := by
  obtain ⟨p1, p2, p3, p4, p5⟩ := own_part v1 o35 b36 hp40 z9 y18 y30 o21 hj10 hj19 hp22 hj31
  have h := c_iadd 1 o21
  have r := rng32 ((1 : Int32) + o21)
  have e1 : (1 : Int32).toInt = 1 := rfl
  have e0 : (0 : Int32).toInt = 0 := rfl
  rcases hp56 with ⟨-, a⟩ | ⟨-, -, a⟩ | ⟨a, b, -⟩
  · rw [a] at c57; exact absurd c57 (by decide)
  · rw [a] at c57; exact absurd c57 (by decide)
  · rw [Int32.lt_iff_toInt_lt] at a
    have ei : (1 : Int32).toInt = 1 := rfl
    exact b (p5 1 _ _ (by decide) (by omega) rfl (own_amt o21 1 1 rfl (by omega) p4 (by decide)))
theorem ob_0_31 (q0 : Int64) (p1 : Int32) (v1 : Int64) (z9 : Int32) (y18 : Int64) (o21 : Int32) (y30 : Int64) (o35 : Int32) (b36 : Nat → Int32) (z50 : Int32) (o55 : Int32) (hv1 : (q0 >>> ((p1 &&& (63 : Int32)) &&& 0x3f).toInt64) = v1) (hj10 : ((v1 < (0 : Int64)) ∧ z9 = (1 : Int32)) ∨ ((¬ (v1 < (0 : Int64))) ∧ z9 = (0 : Int32))) (hj19 : ((z9 = (0 : Int32)) ∧ y18 = v1) ∨ ((¬ (z9 = (0 : Int32))) ∧ y18 = (-v1))) (hp22 : own_bc y18 o21) (hj31 : ((z9 = (0 : Int32)) ∧ y30 = y18) ∨ ((¬ (z9 = (0 : Int32))) ∧ y30 = (y18 ^^^ (-1 : Int64)))) (hp40 : own_enc v1 o35 b36) (c42 : o35 = ((1 : Int32) + o21)) (hj51 : ((z9 = (0 : Int32)) ∧ z50 = ((128 : Int32) + o21)) ∨ ((¬ (z9 = (0 : Int32))) ∧ z50 = ((128 : Int32) - o21))) (c53 : ((b36 0) &&& (255 : Int32)) = z50) (hp56 : ((o21 < (1 : Int32)) ∧ o55 = (1 : Int32)) ∨ ((¬ (o21 < (1 : Int32))) ∧ ((b36 1) = ((((y30.toUInt64 >>> (((8 : Int32) * (o21 - (1 : Int32))) &&& 0x3f).toInt64.toUInt64).toInt64).toInt32).toInt8.toInt32)) ∧ o55 = (1 : Int32)) ∨ ((¬ (o21 < (1 : Int32))) ∧ (¬ ((b36 1) = ((((y30.toUInt64 >>> (((8 : Int32) * (o21 - (1 : Int32))) &&& 0x3f).toInt64.toUInt64).toInt64).toInt32).toInt8.toInt32))) ∧ o55 = (0 : Int32))) (c57 : ¬ (o55 = (0 : Int32))) : (¬ (o21 < (2 : Int32))) → ((¬ (2 : Int32) < 0) ∧ (2 : Int32) < o35) := by
  obtain ⟨p1, p2, p3, p4, p5⟩ := own_part v1 o35 b36 hp40 z9 y18 y30 o21 hj10 hj19 hp22 hj31
  have h := c_iadd 1 o21
  have r := rng32 ((1 : Int32) + o21)
  have e1 : (1 : Int32).toInt = 1 := rfl
  have e0 : (0 : Int32).toInt = 0 := rfl
  intro hh
  refine ⟨by decide, ?_⟩
  rw [p1, Int32.lt_iff_toInt_lt]
  rw [Int32.lt_iff_toInt_lt] at hh
  have ei : (2 : Int32).toInt = 2 := rfl
  omega
theorem ob_0_32 (q0 : Int64) (p1 : Int32) (v1 : Int64) (z9 : Int32) (y18 : Int64) (o21 : Int32) (y30 : Int64) (o35 : Int32) (b36 : Nat → Int32) (z50 : Int32) (o55 : Int32) (o59 : Int32) (hv1 : (q0 >>> ((p1 &&& (63 : Int32)) &&& 0x3f).toInt64) = v1) (hj10 : ((v1 < (0 : Int64)) ∧ z9 = (1 : Int32)) ∨ ((¬ (v1 < (0 : Int64))) ∧ z9 = (0 : Int32))) (hj19 : ((z9 = (0 : Int32)) ∧ y18 = v1) ∨ ((¬ (z9 = (0 : Int32))) ∧ y18 = (-v1))) (hp22 : own_bc y18 o21) (hj31 : ((z9 = (0 : Int32)) ∧ y30 = y18) ∨ ((¬ (z9 = (0 : Int32))) ∧ y30 = (y18 ^^^ (-1 : Int64)))) (hp40 : own_enc v1 o35 b36) (c42 : o35 = ((1 : Int32) + o21)) (hj51 : ((z9 = (0 : Int32)) ∧ z50 = ((128 : Int32) + o21)) ∨ ((¬ (z9 = (0 : Int32))) ∧ z50 = ((128 : Int32) - o21))) (c53 : ((b36 0) &&& (255 : Int32)) = z50) (hp56 : ((o21 < (1 : Int32)) ∧ o55 = (1 : Int32)) ∨ ((¬ (o21 < (1 : Int32))) ∧ ((b36 1) = ((((y30.toUInt64 >>> (((8 : Int32) * (o21 - (1 : Int32))) &&& 0x3f).toInt64.toUInt64).toInt64).toInt32).toInt8.toInt32)) ∧ o55 = (1 : Int32)) ∨ ((¬ (o21 < (1 : Int32))) ∧ (¬ ((b36 1) = ((((y30.toUInt64 >>> (((8 : Int32) * (o21 - (1 : Int32))) &&& 0x3f).toInt64.toUInt64).toInt64).toInt32).toInt8.toInt32))) ∧ o55 = (0 : Int32))) (c57 : ¬ (o55 = (0 : Int32))) (hp60 : ((o21 < (2 : Int32)) ∧ o59 = (1 : Int32)) ∨ ((¬ (o21 < (2 : Int32))) ∧ ((b36 2) = ((((y30.toUInt64 >>> (((8 : Int32) * (o21 - (2 : Int32))) &&& 0x3f).toInt64.toUInt64).toInt64).toInt32).toInt8.toInt32)) ∧ o59 = (1 : Int32)) ∨ ((¬ (o21 < (2 : Int32))) ∧ (¬ ((b36 2) = ((((y30.toUInt64 >>> (((8 : Int32) * (o21 - (2 : Int32))) &&& 0x3f).toInt64.toUInt64).toInt64).toInt32).toInt8.toInt32))) ∧ o59 = (0 : Int32))) (c61 : o59 = (0 : Int32)) : False := by
  obtain ⟨p1, p2, p3, p4, p5⟩ := own_part v1 o35 b36 hp40 z9 y18 y30 o21 hj10 hj19 hp22 hj31
  have h := c_iadd 1 o21
  have r := rng32 ((1 : Int32) + o21)
  have e1 : (1 : Int32).toInt = 1 := rfl
  have e0 : (0 : Int32).toInt = 0 := rfl
  rcases hp60 with ⟨-, a⟩ | ⟨-, -, a⟩ | ⟨a, b, -⟩
  · rw [a] at c61; exact absurd c61 (by decide)
  · rw [a] at c61; exact absurd c61 (by decide)
  · rw [Int32.lt_iff_toInt_lt] at a
    have ei : (2 : Int32).toInt = 2 := rfl
    exact b (p5 2 _ _ (by decide) (by omega) rfl (own_amt o21 2 2 rfl (by omega) p4 (by decide)))
theorem ob_0_33 (q0 : Int64) (p1 : Int32) (v1 : Int64) (z9 : Int32) (y18 : Int64) (o21 : Int32) (y30 : Int64) (o35 : Int32) (b36 : Nat → Int32) (z50 : Int32) (o55 : Int32) (o59 : Int32) (hv1 : (q0 >>> ((p1 &&& (63 : Int32)) &&& 0x3f).toInt64) = v1) (hj10 : ((v1 < (0 : Int64)) ∧ z9 = (1 : Int32)) ∨ ((¬ (v1 < (0 : Int64))) ∧ z9 = (0 : Int32))) (hj19 : ((z9 = (0 : Int32)) ∧ y18 = v1) ∨ ((¬ (z9 = (0 : Int32))) ∧ y18 = (-v1))) (hp22 : own_bc y18 o21) (hj31 : ((z9 = (0 : Int32)) ∧ y30 = y18) ∨ ((¬ (z9 = (0 : Int32))) ∧ y30 = (y18 ^^^ (-1 : Int64)))) (hp40 : own_enc v1 o35 b36) (c42 : o35 = ((1 : Int32) + o21)) (hj51 : ((z9 = (0 : Int32)) ∧ z50 = ((128 : Int32) + o21)) ∨ ((¬ (z9 = (0 : Int32))) ∧ z50 = ((128 : Int32) - o21))) (c53 : ((b36 0) &&& (255 : Int32)) = z50) (hp56 : ((o21 < (1 : Int32)) ∧ o55 = (1 : Int32)) ∨ ((¬ (o21 < (1 : Int32))) ∧ ((b36 1) = ((((y30.toUInt64 >>> (((8 : Int32) * (o21 - (1 : Int32))) &&& 0x3f).toInt64.toUInt64).toInt64).toInt32).toInt8.toInt32)) ∧ o55 = (1 : Int32)) ∨ ((¬ (o21 < (1 : Int32))) ∧ (¬ ((b36 1) = ((((y30.toUInt64 >>> (((8 : Int32) * (o21 - (1 : Int32))) &&& 0x3f).toInt64.toUInt64).toInt64).toInt32).toInt8.toInt32))) ∧ o55 = (0 : Int32))) (c57 : ¬ (o55 = (0 : Int32))) (hp60 : ((o21 < (2 : Int32)) ∧ o59 = (1 : Int32)) ∨ ((¬ (o21 < (2 : Int32))) ∧ ((b36 2) = ((((y30.toUInt64 >>> (((8 : Int32) * (o21 - (2 : Int32))) &&& 0x3f).toInt64.toUInt64).toInt64).toInt32).toInt8.toInt32)) ∧ o59 = (1 : Int32)) ∨ ((¬ (o21 < (2 : Int32))) ∧ (¬ ((b36 2) = ((((y30.toUInt64 >>> (((8 : Int32) * (o21 - (2 : Int32))) &&& 0x3f).toInt64.toUInt64).toInt64).toInt32).toInt8.toInt32))) ∧ o59 = (0 : Int32))) (c61 : ¬ (o59 = (0 : Int32))) : (¬ (o21 < (3 : Int32))) → ((¬ (3 : Int32) < 0) ∧ (3 : Int32) < o35) := by
  obtain ⟨p1, p2, p3, p4, p5⟩ := own_part v1 o35 b36 hp40 z9 y18 y30 o21 hj10 hj19 hp22 hj31
  have h := c_iadd 1 o21
  have r := rng32 ((1 : Int32) + o21)
  have e1 : (1 : Int32).toInt = 1 := rfl
  have e0 : (0 : Int32).toInt = 0 := rfl
  intro hh
  refine ⟨by decide, ?_⟩
  rw [p1, Int32.lt_iff_toInt_lt]
  rw [Int32.lt_iff_toInt_lt] at hh
  have ei : (3 : Int32).toInt = 3 := rfl
  omega
theorem ob_0_34 (q0 : Int64) (p1 : Int32) (v1 : Int64) (z9 : Int32) (y18 : Int64) (o21 : Int32) (y30 : Int64) (o35 : Int32) (b36 : Nat → Int32) (z50 : Int32) (o55 : Int32) (o59 : Int32) (o63 : Int32) (hv1 : (q0 >>> ((p1 &&& (63 : Int32)) &&& 0x3f).toInt64) = v1) (hj10 : ((v1 < (0 : Int64)) ∧ z9 = (1 : Int32)) ∨ ((¬ (v1 < (0 : Int64))) ∧ z9 = (0 : Int32))) (hj19 : ((z9 = (0 : Int32)) ∧ y18 = v1) ∨ ((¬ (z9 = (0 : Int32))) ∧ y18 = (-v1))) (hp22 : own_bc y18 o21) (hj31 : ((z9 = (0 : Int32)) ∧ y30 = y18) ∨ ((¬ (z9 = (0 : Int32))) ∧ y30 = (y18 ^^^ (-1 : Int64)))) (hp40 : own_enc v1 o35 b36) (c42 : o35 = ((1 : Int32) + o21)) (hj51 : ((z9 = (0 : Int32)) ∧ z50 = ((128 : Int32) + o21)) ∨ ((¬ (z9 = (0 : Int32))) ∧ z50 = ((128 : Int32) - o21))) (c53 : ((b36 0) &&& (255 : Int32)) = z50) (hp56 : ((o21 < (1 : Int32)) ∧ o55 = (1 : Int32)) ∨ ((¬ (o21 < (1 : Int32))) ∧ ((b36 1) = ((((y30.toUInt64 >>> (((8 : Int32) * (o21 - (1 : Int32))) &&& 0x3f).toInt64.toUInt64).toInt64).toInt32).toInt8.toInt32)) ∧ o55 = (1 : Int32)) ∨ ((¬ (o21 < (1 : Int32))) ∧ (¬ ((b36 1) = ((((y30.toUInt64 >>> (((8 : Int32) * (o21 - (1 : Int32))) &&& 0x3f).toInt64.toUInt64).toInt64).toInt32).toInt8.toInt32))) ∧ o55 = (0 : Int32))) (c57 : ¬ (o55 = (0 : Int32))) (hp60 : ((o21 < (2 : Int32)) ∧ o59 = (1 : Int32)) ∨ ((¬ (o21 < (2 : Int32))) ∧ ((b36 2) = ((((y30.toUInt64 >>> (((8 : Int32) * (o21 - (2 : Int32))) &&& 0x3f).toInt64.toUInt64).toInt64).toInt32).toInt8.toInt32)) ∧ o59 = (1 : Int32)) ∨ ((¬ (o21 < (2 : Int32))) ∧ (¬ ((b36 2) = ((((y30.toUInt64 >>> (((8 : Int32) * (o21 - (2 : Int32))) &&& 0x3f).toInt64.toUInt64).toInt64).toInt32).toInt8.toInt32))) ∧ o59 = (0 : Int32))) (c61 : ¬ (o59 = (0 : Int32))) (hp64 : ((o21 < (3 : Int32)) ∧ o63 = (1 : Int32)) ∨ ((¬ (o21 < (3 : Int32))) ∧ ((b36 3) = ((((y30.toUInt64 >>> (((8 : Int32) * (o21 - (3 : Int32))) &&& 0x3f).toInt64.toUInt64).toInt64).toInt32).toInt8.toInt32)) ∧ o63 = (1 : Int32)) ∨ ((¬ (o21 < (3 : Int32))) ∧ (¬ ((b36 3) = ((((y30.toUInt64 >>> (((8 : Int32) * (o21 - (3 : Int32))) &&& 0x3f).toInt64.toUInt64).toInt64).toInt32).toInt8.toInt32))) ∧ o63 = (0 : Int32))) (c65 : o63 = (0 : Int32)) : False := by
  obtain ⟨p1, p2, p3, p4, p5⟩ := own_part v1 o35 b36 hp40 z9 y18 y30 o21 hj10 hj19 hp22 hj31
  have h := c_iadd 1 o21
  have r := rng32 ((1 : Int32) + o21)
  have e1 : (1 : Int32).toInt = 1 := rfl
  have e0 : (0 : Int32).toInt = 0 := rfl
  rcases hp64 with ⟨-, a⟩ | ⟨-, -, a⟩ | ⟨a, b, -⟩
  · rw [a] at c65; exact absurd c65 (by decide)
  · rw [a] at c65; exact absurd c65 (by decide)
  · rw [Int32.lt_iff_toInt_lt] at a
    have ei : (3 : Int32).toInt = 3 := rfl
    exact b (p5 3 _ _ (by decide) (by omega) rfl (own_amt o21 3 3 rfl (by omega) p4 (by decide)))
theorem ob_0_35 (q0 : Int64) (p1 : Int32) (v1 : Int64) (z9 : Int32) (y18 : Int64) (o21 : Int32) (y30 : Int64) (o35 : Int32) (b36 : Nat → Int32) (z50 : Int32) (o55 : Int32) (o59 : Int32) (o63 : Int32) (hv1 : (q0 >>> ((p1 &&& (63 : Int32)) &&& 0x3f).toInt64) = v1) (hj10 : ((v1 < (0 : Int64)) ∧ z9 = (1 : Int32)) ∨ ((¬ (v1 < (0 : Int64))) ∧ z9 = (0 : Int32))) (hj19 : ((z9 = (0 : Int32)) ∧ y18 = v1) ∨ ((¬ (z9 = (0 : Int32))) ∧ y18 = (-v1))) (hp22 : own_bc y18 o21) (hj31 : ((z9 = (0 : Int32)) ∧ y30 = y18) ∨ ((¬ (z9 = (0 : Int32))) ∧ y30 = (y18 ^^^ (-1 : Int64)))) (hp40 : own_enc v1 o35 b36) (c42 : o35 = ((1 : Int32) + o21)) (hj51 : ((z9 = (0 : Int32)) ∧ z50 = ((128 : Int32) + o21)) ∨ ((¬ (z9 = (0 : Int32))) ∧ z50 = ((128 : Int32) - o21))) (c53 : ((b36 0) &&& (255 : Int32)) = z50) (hp56 : ((o21 < (1 : Int32)) ∧ o55 = (1 : Int32)) ∨ ((¬ (o21 < (1 : Int32))) ∧ ((b36 1) = ((((y30.toUInt64 >>> (((8 : Int32) * (o21 - (1 : Int32))) &&& 0x3f).toInt64.toUInt64).toInt64).toInt32).toInt8.toInt32)) ∧ o55 = (1 : Int32)) ∨ ((¬ (o21 < (1 : Int32))) ∧ (¬ ((b36 1) = ((((y30.toUInt64 >>> (((8 : Int32) * (o21 - (1 : Int32))) &&& 0x3f).toInt64.toUInt64).toInt64).toInt32).toInt8.toInt32))) ∧ o55 = (0 : Int32))) (c57 : ¬ (o55 = (0 : Int32))) (hp60 : ((o21 < (2 : Int32)) ∧ o59 = (1 : Int32)) ∨ ((¬ (o21 < (2 : Int32))) ∧ ((b36 2) = ((((y30.toUInt64 >>> (((8 : Int32) * (o21 - (2 : Int32))) &&& 0x3f).toInt64.toUInt64).toInt64).toInt32).toInt8.toInt32)) ∧ o59 = (1 : Int32)) ∨ ((¬ (o21 < (2 : Int32))) ∧ (¬ ((b36 2) = ((((y30.toUInt64 >>> (((8 : Int32) * (o21 - (2 : Int32))) &&& 0x3f).toInt64.toUInt64).toInt64).toInt32).toInt8.toInt32))) ∧ o59 = (0 : Int32))) (c61 : ¬ (o59 = (0 : Int32))) (hp64 : ((o21 < (3 : Int32)) ∧ o63 = (1 : Int32)) ∨ ((¬ (o21 < (3 : Int32))) ∧ ((b36 3) = ((((y30.toUInt64 >>> (((8 : Int32) * (o21 - (3 : Int32))) &&& 0x3f).toInt64.toUInt64).toInt64).toInt32).toInt8.toInt32)) ∧ o63 = (1 : Int32)) ∨ ((¬ (o21 < (3 : Int32))) ∧ (¬ ((b36 3) = ((((y30.toUInt64 >>> (((8 : Int32) * (o21 - (3 : Int32))) &&& 0x3f).toInt64.toUInt64).toInt64).toInt32).toInt8.toInt32))) ∧ o63 = (0 : Int32))) (c65 : ¬ (o63 = (0 : Int32))) : (¬ (o21 < (4 : Int32))) → ((¬ (4 : Int32) < 0) ∧ (4 : Int32) < o35) := by
  obtain ⟨p1, p2, p3, p4, p5⟩ := own_part v1 o35 b36 hp40 z9 y18 y30 o21 hj10 hj19 hp22 hj31
  have h := c_iadd 1 o21
  have r := rng32 ((1 : Int32) + o21)
  have e1 : (1 : Int32).toInt = 1 := rfl
  have e0 : (0 : Int32).toInt = 0 := rfl
  intro hh
  refine ⟨by decide, ?_⟩
  rw [p1, Int32.lt_iff_toInt_lt]
  rw [Int32.lt_iff_toInt_lt] at hh
  have ei : (4 : Int32).toInt = 4 := rfl
  omega
theorem ob_0_36 (q0 : Int64) (p1 : Int32) (v1 : Int64) (z9 : Int32) (y18 : Int64) (o21 : Int32) (y30 : Int64) (o35 : Int32) (b36 : Nat → Int32) (z50 : Int32) (o55 : Int32) (o59 : Int32) (o63 : Int32) (o67 : Int32) (hv1 : (q0 >>> ((p1 &&& (63 : Int32)) &&& 0x3f).toInt64) = v1) (hj10 : ((v1 < (0 : Int64)) ∧ z9 = (1 : Int32)) ∨ ((¬ (v1 < (0 : Int64))) ∧ z9 = (0 : Int32))) (hj19 : ((z9 = (0 : Int32)) ∧ y18 = v1) ∨ ((¬ (z9 = (0 : Int32))) ∧ y18 = (-v1))) (hp22 : own_bc y18 o21) (hj31 : ((z9 = (0 : Int32)) ∧ y30 = y18) ∨ ((¬ (z9 = (0 : Int32))) ∧ y30 = (y18 ^^^ (-1 : Int64)))) (hp40 : own_enc v1 o35 b36) (c42 : o35 = ((1 : Int32) + o21)) (hj51 : ((z9 = (0 : Int32)) ∧ z50 = ((128 : Int32) + o21)) ∨ ((¬ (z9 = (0 : Int32))) ∧ z50 = ((128 : Int32) - o21))) (c53 : ((b36 0) &&& (255 : Int32)) = z50) (hp56 : ((o21 < (1 : Int32)) ∧ o55 = (1 : Int32)) ∨ ((¬ (o21 < (1 : Int32))) ∧ ((b36 1) = ((((y30.toUInt64 >>> (((8 : Int32) * (o21 - (1 : Int32))) &&& 0x3f).toInt64.toUInt64).toInt64).toInt32).toInt8.toInt32)) ∧ o55 = (1 : Int32)) ∨ ((¬ (o21 < (1 : Int32))) ∧ (¬ ((b36 1) = ((((y30.toUInt64 >>> (((8 : Int32) * (o21 - (1 : Int32))) &&& 0x3f).toInt64.toUInt64).toInt64).toInt32).toInt8.toInt32))) ∧ o55 = (0 : Int32))) (c57 : ¬ (o55 = (0 : Int32))) (hp60 : ((o21 < (2 : Int32)) ∧ o59 = (1 : Int32)) ∨ ((¬ (o21 < (2 : Int32))) ∧ ((b36 2) = ((((y30.toUInt64 >>> (((8 : Int32) * (o21 - (2 : Int32))) &&& 0x3f).toInt64.toUInt64).toInt64).toInt32).toInt8.toInt32)) ∧ o59 = (1 : Int32)) ∨ ((¬ (o21 < (2 : Int32))) ∧ (¬ ((b36 2) = ((((y30.toUInt64 >>> (((8 : Int32) * (o21 - (2 : Int32))) &&& 0x3f).toInt64.toUInt64).toInt64).toInt32).toInt8.toInt32))) ∧ o59 = (0 : Int32))) (c61 : ¬ (o59 = (0 : Int32))) (hp64 : ((o21 < (3 : Int32)) ∧ o63 = (1 : Int32)) ∨ ((¬ (o21 < (3 : Int32))) ∧ ((b36 3) = ((((y30.toUInt64 >>> (((8 : Int32) * (o21 - (3 : Int32))) &&& 0x3f).toInt64.toUInt64).toInt64).toInt32).toInt8.toInt32)) ∧ o63 = (1 : Int32)) ∨ ((¬ (o21 < (3 : Int32))) ∧ (¬ ((b36 3) = ((((y30.toUInt64 >>> (((8 : Int32) * (o21 - (3 : Int32))) &&& 0x3f).toInt64.toUInt64).toInt64).toInt32).toInt8.toInt32))) ∧ o63 = (0 : Int32))) (c65 : ¬ (o63 = (0 : Int32))) (hp68 : ((o21 < (4 : Int32)) ∧ o67 = (1 : Int32)) ∨ ((¬ (o21 < (4 : Int32))) ∧ ((b36 4) = ((((y30.toUInt64 >>> (((8 : Int32) * (o21 - (4 : Int32))) &&& 0x3f).toInt64.toUInt64).toInt64).toInt32).toInt8.toInt32)) ∧ o67 = (1 : Int32)) ∨ ((¬ (o21 < (4 : Int32))) ∧ (¬ ((b36 4) = ((((y30.toUInt64 >>> (((8 : Int32) * (o21 - (4 : Int32))) &&& 0x3f).toInt64.toUInt64).toInt64).toInt32).toInt8.toInt32))) ∧ o67 = (0 : Int32))) (c69 : o67 = (0 : Int32)) : False := by
  obtain ⟨p1, p2, p3, p4, p5⟩ := own_part v1 o35 b36 hp40 z9 y18 y30 o21 hj10 hj19 hp22 hj31
  have h := c_iadd 1 o21
  have r := rng32 ((1 : Int32) + o21)
  have e1 : (1 : Int32).toInt = 1 := rfl
  have e0 : (0 : Int32).toInt = 0 := rfl
  rcases hp68 with ⟨-, a⟩ | ⟨-, -, a⟩ | ⟨a, b, -⟩
  · rw [a] at c69; exact absurd c69 (by decide)
  · rw [a] at c69; exact absurd c69 (by decide)
  · rw [Int32.lt_iff_toInt_lt] at a
    have ei : (4 : Int32).toInt = 4 := rfl
    exact b (p5 4 _ _ (by decide) (by omega) rfl (own_amt o21 4 4 rfl (by omega) p4 (by decide)))
theorem ob_0_37 (q0 : Int64) (p1 : Int32) (v1 : Int64) (z9 : Int32) (y18 : Int64) (o21 : Int32) (y30 : Int64) (o35 : Int32) (b36 : Nat → Int32) (z50 : Int32) (o55 : Int32) (o59 : Int32) (o63 : Int32) (o67 : Int32) (hv1 : (q0 >>> ((p1 &&& (63 : Int32)) &&& 0x3f).toInt64) = v1) (hj10 : ((v1 < (0 : Int64)) ∧ z9 = (1 : Int32)) ∨ ((¬ (v1 < (0 : Int64))) ∧ z9 = (0 : Int32))) (hj19 : ((z9 = (0 : Int32)) ∧ y18 = v1) ∨ ((¬ (z9 = (0 : Int32))) ∧ y18 = (-v1))) (hp22 : own_bc y18 o21) (hj31 : ((z9 = (0 : Int32)) ∧ y30 = y18) ∨ ((¬ (z9 = (0 : Int32))) ∧ y30 = (y18 ^^^ (-1 : Int64)))) (hp40 : own_enc v1 o35 b36) (c42 : o35 = ((1 : Int32) + o21)) (hj51 : ((z9 = (0 : Int32)) ∧ z50 = ((128 : Int32) + o21)) ∨ ((¬ (z9 = (0 : Int32))) ∧ z50 = ((128 : Int32) - o21))) (c53 : ((b36 0) &&& (255 : Int32)) = z50) (hp56 : ((o21 < (1 : Int32)) ∧ o55 = (1 : Int32)) ∨ ((¬ (o21 < (1 : Int32))) ∧ ((b36 1) = ((((y30.toUInt64 >>> (((8 : Int32) * (o21 - (1 : Int32))) &&& 0x3f).toInt64.toUInt64).toInt64).toInt32).toInt8.toInt32)) ∧ o55 = (1 : Int32)) ∨ ((¬ (o21 < (1 : Int32))) ∧ (¬ ((b36 1) = ((((y30.toUInt64 >>> (((8 : Int32) * (o21 - (1 : Int32))) &&& 0x3f).toInt64.toUInt64).toInt64).toInt32).toInt8.toInt32))) ∧ o55 = (0 : Int32))) (c57 : ¬ (o55 = (0 : Int32))) (hp60 : ((o21 < (2 : Int32)) ∧ o59 = (1 : Int32)) ∨ ((¬ (o21 < (2 : Int32))) ∧ ((b36 2) = ((((y30.toUInt64 >>> (((8 : Int32) * (o21 - (2 : Int32))) &&& 0x3f).toInt64.toUInt64).toInt64).toInt32).toInt8.toInt32)) ∧ o59 = (1 : Int32)) ∨ ((¬ (o21 < (2 : Int32))) ∧ (¬ ((b36 2) = ((((y30.toUInt64 >>> (((8 : Int32) * (o21 - (2 : Int32))) &&& 0x3f).toInt64.toUInt64).toInt64).toInt32).toInt8.toInt32))) ∧ o59 = (0 : Int32))) (c61 : ¬ (o59 = (0 : Int32))) (hp64 : ((o21 < (3 : Int32)) ∧ o63 = (1 : Int32)) ∨ ((¬ (o21 < (3 : Int32))) ∧ ((b36 3) = ((((y30.toUInt64 >>> (((8 : Int32) * (o21 - (3 : Int32))) &&& 0x3f).toInt64.toUInt64).toInt64).toInt32).toInt8.toInt32)) ∧ o63 = (1 : Int32)) ∨ ((¬ (o21 < (3 : Int32))) ∧ (¬ ((b36 3) = ((((y30.toUInt64 >>> (((8 : Int32) * (o21 - (3 : Int32))) &&& 0x3f).toInt64.toUInt64).toInt64).toInt32).toInt8.toInt32))) ∧ o63 = (0 : Int32))) (c65 : ¬ (o63 = (0 : Int32))) (hp68 : ((o21 < (4 : Int32)) ∧ o67 = (1 : Int32)) ∨ ((¬ (o21 < (4 : Int32))) ∧ ((b36 4) = ((((y30.toUInt64 >>> (((8 : Int32) * (o21 - (4 : Int32))) &&& 0x3f).toInt64.toUInt64).toInt64).toInt32).toInt8.toInt32)) ∧ o67 = (1 : Int32)) ∨ ((¬ (o21 < (4 : Int32))) ∧ (¬ ((b36 4) = ((((y30.toUInt64 >>> (((8 : Int32) * (o21 - (4 : Int32))) &&& 0x3f).toInt64.toUInt64).toInt64).toInt32).toInt8.toInt32))) ∧ o67 = (0 : Int32))) (c69 : ¬ (o67 = (0 : Int32))) : (¬ (o21 < (5 : Int32))) → ((¬ (5 : Int32) < 0) ∧ (5 : Int32) < o35) := by
  obtain ⟨p1, p2, p3, p4, p5⟩ := own_part v1 o35 b36 hp40 z9 y18 y30 o21 hj10 hj19 hp22 hj31
  have h := c_iadd 1 o21
  have r := rng32 ((1 : Int32) + o21)
  have e1 : (1 : Int32).toInt = 1 := rfl
  have e0 : (0 : Int32).toInt = 0 := rfl
  intro hh
  refine ⟨by decide, ?_⟩
  rw [p1, Int32.lt_iff_toInt_lt]
  rw [Int32.lt_iff_toInt_lt] at hh
  have ei : (5 : Int32).toInt = 5 := rfl
  omega
theorem ob_0_38 (q0 : Int64) (p1 : Int32) (v1 : Int64) (z9 : Int32) (y18 : Int64) (o21 : Int32) (y30 : Int64) (o35 : Int32) (b36 : Nat → Int32) (z50 : Int32) (o55 : Int32) (o59 : Int32) (o63 : Int32) (o67 : Int32) (o71 : Int32) (hv1 : (q0 >>> ((p1 &&& (63 : Int32)) &&& 0x3f).toInt64) = v1) (hj10 : ((v1 < (0 : Int64)) ∧ z9 = (1 : Int32)) ∨ ((¬ (v1 < (0 : Int64))) ∧ z9 = (0 : Int32))) (hj19 : ((z9 = (0 : Int32)) ∧ y18 = v1) ∨ ((¬ (z9 = (0 : Int32))) ∧ y18 = (-v1))) (hp22 : own_bc y18 o21) (hj31 : ((z9 = (0 : Int32)) ∧ y30 = y18) ∨ ((¬ (z9 = (0 : Int32))) ∧ y30 = (y18 ^^^ (-1 : Int64)))) (hp40 : own_enc v1 o35 b36) (c42 : o35 = ((1 : Int32) + o21)) (hj51 : ((z9 = (0 : Int32)) ∧ z50 = ((128 : Int32) + o21)) ∨ ((¬ (z9 = (0 : Int32))) ∧ z50 = ((128 : Int32) - o21))) (c53 : ((b36 0) &&& (255 : Int32)) = z50) (hp56 : ((o21 < (1 : Int32)) ∧ o55 = (1 : Int32)) ∨ ((¬ (o21 < (1 : Int32))) ∧ ((b36 1) = ((((y30.toUInt64 >>> (((8 : Int32) * (o21 - (1 : Int32))) &&& 0x3f).toInt64.toUInt64).toInt64).toInt32).toInt8.toInt32)) ∧ o55 = (1 : Int32)) ∨ ((¬ (o21 < (1 : Int32))) ∧ (¬ ((b36 1) = ((((y30.toUInt64 >>> (((8 : Int32) * (o21 - (1 : Int32))) &&& 0x3f).toInt64.toUInt64).toInt64).toInt32).toInt8.toInt32))) ∧ o55 = (0 : Int32))) (c57 : ¬ (o55 = (0 : Int32))) (hp60 : ((o21 < (2 : Int32)) ∧ o59 = (1 : Int32)) ∨ ((¬ (o21 < (2 : Int32))) ∧ ((b36 2) = ((((y30.toUInt64 >>> (((8 : Int32) * (o21 - (2 : Int32))) &&& 0x3f).toInt64.toUInt64).toInt64).toInt32).toInt8.toInt32)) ∧ o59 = (1 : Int32)) ∨ ((¬ (o21 < (2 : Int32))) ∧ (¬ ((b36 2) = ((((y30.toUInt64 >>> (((8 : Int32) * (o21 - (2 : Int32))) &&& 0x3f).toInt64.toUInt64).toInt64).toInt32).toInt8.toInt32))) ∧ o59 = (0 : Int32))) (c61 : ¬ (o59 = (0 : Int32))) (hp64 : ((o21 < (3 : Int32)) ∧ o63 = (1 : Int32)) ∨ ((¬ (o21 < (3 : Int32))) ∧ ((b36 3) = ((((y30.toUInt64 >>> (((8 : Int32) * (o21 - (3 : Int32))) &&& 0x3f).toInt64.toUInt64).toInt64).toInt32).toInt8.toInt32)) ∧ o63 = (1 : Int32)) ∨ ((¬ (o21 < (3 : Int32))) ∧ (¬ ((b36 3) = ((((y30.toUInt64 >>> (((8 : Int32) * (o21 - (3 : Int32))) &&& 0x3f).toInt64.toUInt64).toInt64).toInt32).toInt8.toInt32))) ∧ o63 = (0 : Int32))) (c65 : ¬ (o63 = (0 : Int32))) (hp68 : ((o21 < (4 : Int32)) ∧ o67 = (1 : Int32)) ∨ ((¬ (o21 < (4 : Int32))) ∧ ((b36 4) = ((((y30.toUInt64 >>> (((8 : Int32) * (o21 - (4 : Int32))) &&& 0x3f).toInt64.toUInt64).toInt64).toInt32).toInt8.toInt32)) ∧ o67 = (1 : Int32)) ∨ ((¬ (o21 < (4 : Int32))) ∧ (¬ ((b36 4) = ((((y30.toUInt64 >>> (((8 : Int32) * (o21 - (4 : Int32))) &&& 0x3f).toInt64.toUInt64).toInt64).toInt32).toInt8.toInt32))) ∧ o67 = (0 : Int32))) (c69 : ¬ (o67 = (0 : Int32))) (hp72 : ((o21 < (5 : Int32)) ∧ o71 = (1 : Int32)) ∨ ((¬ (o21 < (5 : Int32))) ∧ ((b36 5) = ((((y30.toUInt64 >>> (((8 : Int32) * (o21 - (5 : Int32))) &&& 0x3f).toInt64.toUInt64).toInt64).toInt32).toInt8.toInt32)) ∧ o71 = (1 : Int32)) ∨ ((¬ (o21 < (5 : Int32))) ∧ (¬ ((b36 5) = ((((y30.toUInt64 >>> (((8 : Int32) * (o21 - (5 : Int32))) &&& 0x3f).toInt64.toUInt64).toInt64).toInt32).toInt8.toInt32))) ∧ o71 = (0 : Int32))) (c73 : o71 = (0 : Int32)) : False := by
  obtain ⟨p1, p2, p3, p4, p5⟩ := own_part v1 o35 b36 hp40 z9 y18 y30 o21 hj10 hj19 hp22 hj31
  have h := c_iadd 1 o21
  have r := rng32 ((1 : Int32) + o21)
  have e1 : (1 : Int32).toInt = 1 := rfl
  have e0 : (0 : Int32).toInt = 0 := rfl
  rcases hp72 with ⟨-, a⟩ | ⟨-, -, a⟩ | ⟨a, b, -⟩
  · rw [a] at c73; exact absurd c73 (by decide)
  · rw [a] at c73; exact absurd c73 (by decide)
  · rw [Int32.lt_iff_toInt_lt] at a
    have ei : (5 : Int32).toInt = 5 := rfl
    exact b (p5 5 _ _ (by decide) (by omega) rfl (own_amt o21 5 5 rfl (by omega) p4 (by decide)))
theorem ob_0_39 (q0 : Int64) (p1 : Int32) (v1 : Int64) (z9 : Int32) (y18 : Int64) (o21 : Int32) (y30 : Int64) (o35 : Int32) (b36 : Nat → Int32) (z50 : Int32) (o55 : Int32) (o59 : Int32) (o63 : Int32) (o67 : Int32) (o71 : Int32) (hv1 : (q0 >>> ((p1 &&& (63 : Int32)) &&& 0x3f).toInt64) = v1) (hj10 : ((v1 < (0 : Int64)) ∧ z9 = (1 : Int32)) ∨ ((¬ (v1 < (0 : Int64))) ∧ z9 = (0 : Int32))) (hj19 : ((z9 = (0 : Int32)) ∧ y18 = v1) ∨ ((¬ (z9 = (0 : Int32))) ∧ y18 = (-v1))) (hp22 : own_bc y18 o21) (hj31 : ((z9 = (0 : Int32)) ∧ y30 = y18) ∨ ((¬ (z9 = (0 : Int32))) ∧ y30 = (y18 ^^^ (-1 : Int64)))) (hp40 : own_enc v1 o35 b36) (c42 : o35 = ((1 : Int32) + o21)) (hj51 : ((z9 = (0 : Int32)) ∧ z50 = ((128 : Int32) + o21)) ∨ ((¬ (z9 = (0 : Int32))) ∧ z50 = ((128 : Int32) - o21))) (c53 : ((b36 0) &&& (255 : Int32)) = z50) (hp56 : ((o21 < (1 : Int32)) ∧ o55 = (1 : Int32)) ∨ ((¬ (o21 < (1 : Int32))) ∧ ((b36 1) = ((((y30.toUInt64 >>> (((8 : Int32) * (o21 - (1 : Int32))) &&& 0x3f).toInt64.toUInt64).toInt64).toInt32).toInt8.toInt32)) ∧ o55 = (1 : Int32)) ∨ ((¬ (o21 < (1 : Int32))) ∧ (¬ ((b36 1) = ((((y30.toUInt64 >>> (((8 : Int32) * (o21 - (1 : Int32))) &&& 0x3f).toInt64.toUInt64).toInt64).toInt32).toInt8.toInt32))) ∧ o55 = (0 : Int32))) (c57 : ¬ (o55 = (0 : Int32))) (hp60 : ((o21 < (2 : Int32)) ∧ o59 = (1 : Int32)) ∨ ((¬ (o21 < (2 : Int32))) ∧ ((b36 2) = ((((y30.toUInt64 >>> (((8 : Int32) * (o21 - (2 : Int32))) &&& 0x3f).toInt64.toUInt64).toInt64).toInt32).toInt8.toInt32)) ∧ o59 = (1 : Int32)) ∨ ((¬ (o21 < (2 : Int32))) ∧ (¬ ((b36 2) = ((((y30.toUInt64 >>> (((8 : Int32) * (o21 - (2 : Int32))) &&& 0x3f).toInt64.toUInt64).toInt64).toInt32).toInt8.toInt32))) ∧ o59 = (0 : Int32))) (c61 : ¬ (o59 = (0 : Int32))) (hp64 : ((o21 < (3 : Int32)) ∧ o63 = (1 : Int32)) ∨ ((¬ (o21 < (3 : Int32))) ∧ ((b36 3) = ((((y30.toUInt64 >>> (((8 : Int32) * (o21 - (3 : Int32))) &&& 0x3f).toInt64.toUInt64).toInt64).toInt32).toInt8.toInt32)) ∧ o63 = (1 : Int32)) ∨ ((¬ (o21 < (3 : Int32))) ∧ (¬ ((b36 3) = ((((y30.toUInt64 >>> (((8 : Int32) * (o21 - (3 : Int32))) &&& 0x3f).toInt64.toUInt64).toInt64).toInt32).toInt8.toInt32))) ∧ o63 = (0 : Int32))) (c65 : ¬ (o63 = (0 : Int32))) (hp68 : ((o21 < (4 : Int32)) ∧ o67 = (1 : Int32)) ∨ ((¬ (o21 < (4 : Int32))) ∧ ((b36 4) = ((((y30.toUInt64 >>> (((8 : Int32) * (o21 - (4 : Int32))) &&& 0x3f).toInt64.toUInt64).toInt64).toInt32).toInt8.toInt32)) ∧ o67 = (1 : Int32)) ∨ ((¬ (o21 < (4 : Int32))) ∧ (¬ ((b36 4) = ((((y30.toUInt64 >>> (((8 : Int32) * (o21 - (4 : Int32))) &&& 0x3f).toInt64.toUInt64).toInt64).toInt32).toInt8.toInt32))) ∧ o67 = (0 : Int32))) (c69 : ¬ (o67 = (0 : Int32))) (hp72 : ((o21 < (5 : Int32)) ∧ o71 = (1 : Int32)) ∨ ((¬ (o21 < (5 : Int32))) ∧ ((b36 5) = ((((y30.toUInt64 >>> (((8 : Int32) * (o21 - (5 : Int32))) &&& 0x3f).toInt64.toUInt64).toInt64).toInt32).toInt8.toInt32)) ∧ o71 = (1 : Int32)) ∨ ((¬ (o21 < (5 : Int32))) ∧ (¬ ((b36 5) = ((((y30.toUInt64 >>> (((8 : Int32) * (o21 - (5 : Int32))) &&& 0x3f).toInt64.toUInt64).toInt64).toInt32).toInt8.toInt32))) ∧ o71 = (0 : Int32))) (c73 : ¬ (o71 = (0 : Int32))) : (¬ (o21 < (6 : Int32))) → ((¬ (6 : Int32) < 0) ∧ (6 : Int32) < o35) := by
  obtain ⟨p1, p2, p3, p4, p5⟩ := own_part v1 o35 b36 hp40 z9 y18 y30 o21 hj10 hj19 hp22 hj31
  have h := c_iadd 1 o21
  have r := rng32 ((1 : Int32) + o21)
  have e1 : (1 : Int32).toInt = 1 := rfl
  have e0 : (0 : Int32).toInt = 0 := rfl
  intro hh
  refine ⟨by decide, ?_⟩
  rw [p1, Int32.lt_iff_toInt_lt]
  rw [Int32.lt_iff_toInt_lt] at hh
  have ei : (6 : Int32).toInt = 6 := rfl
  omega
theorem ob_0_40 (q0 : Int64) (p1 : Int32) (v1 : Int64) (z9 : Int32) (y18 : Int64) (o21 : Int32) (y30 : Int64) (o35 : Int32) (b36 : Nat → Int32) (z50 : Int32) (o55 : Int32) (o59 : Int32) (o63 : Int32) (o67 : Int32) (o71 : Int32) (o75 : Int32) (hv1 : (q0 >>> ((p1 &&& (63 : Int32)) &&& 0x3f).toInt64) = v1) (hj10 : ((v1 < (0 : Int64)) ∧ z9 = (1 : Int32)) ∨ ((¬ (v1 < (0 : Int64))) ∧ z9 = (0 : Int32))) (hj19 : ((z9 = (0 : Int32)) ∧ y18 = v1) ∨ ((¬ (z9 = (0 : Int32))) ∧ y18 = (-v1))) (hp22 : own_bc y18 o21) (hj31 : ((z9 = (0 : Int32)) ∧ y30 = y18) ∨ ((¬ (z9 = (0 : Int32))) ∧ y30 = (y18 ^^^ (-1 : Int64)))) (hp40 : own_enc v1 o35 b36) (c42 : o35 = ((1 : Int32) + o21)) (hj51 : ((z9 = (0 : Int32)) ∧ z50 = ((128 : Int32) + o21)) ∨ ((¬ (z9 = (0 : Int32))) ∧ z50 = ((128 : Int32) - o21))) (c53 : ((b36 0) &&& (255 : Int32)) = z50) (hp56 : ((o21 < (1 : Int32)) ∧ o55 = (1 : Int32)) ∨ ((¬ (o21 < (1 : Int32))) ∧ ((b36 1) = ((((y30.toUInt64 >>> (((8 : Int32) * (o21 - (1 : Int32))) &&& 0x3f).toInt64.toUInt64).toInt64).toInt32).toInt8.toInt32)) ∧ o55 = (1 : Int32)) ∨ ((¬ (o21 < (1 : Int32))) ∧ (¬ ((b36 1) = ((((y30.toUInt64 >>> (((8 : Int32) * (o21 - (1 : Int32))) &&& 0x3f).toInt64.toUInt64).toInt64).toInt32).toInt8.toInt32))) ∧ o55 = (0 : Int32))) (c57 : ¬ (o55 = (0 : Int32))) (hp60 : ((o21 < (2 : Int32)) ∧ o59 = (1 : Int32)) ∨ ((¬ (o21 < (2 : Int32))) ∧ ((b36 2) = ((((y30.toUInt64 >>> (((8 : Int32) * (o21 - (2 : Int32))) &&& 0x3f).toInt64.toUInt64).toInt64).toInt32).toInt8.toInt32)) ∧ o59 = (1 : Int32)) ∨ ((¬ (o21 < (2 : Int32))) ∧ (¬ ((b36 2) = ((((y30.toUInt64 >>> (((8 : Int32) * (o21 - (2 : Int32))) &&& 0x3f).toInt64.toUInt64).toInt64).toInt32).toInt8.toInt32))) ∧ o59 = (0 : Int32))) (c61 : ¬ (o59 = (0 : Int32))) (hp64 : ((o21 < (3 : Int32)) ∧ o63 = (1 : Int32)) ∨ ((¬ (o21 < (3 : Int32))) ∧ ((b36 3) = ((((y30.toUInt64 >>> (((8 : Int32) * (o21 - (3 : Int32))) &&& 0x3f).toInt64.toUInt64).toInt64).toInt32).toInt8.toInt32)) ∧ o63 = (1 : Int32)) ∨ ((¬ (o21 < (3 : Int32))) ∧ (¬ ((b36 3) = ((((y30.toUInt64 >>> (((8 : Int32) * (o21 - (3 : Int32))) &&& 0x3f).toInt64.toUInt64).toInt64).toInt32).toInt8.toInt32))) ∧ o63 = (0 : Int32))) (c65 : ¬ (o63 = (0 : Int32))) (hp68 : ((o21 < (4 : Int32)) ∧ o67 = (1 : Int32)) ∨ ((¬ (o21 < (4 : Int32))) ∧ ((b36 4) = ((((y30.toUInt64 >>> (((8 : Int32) * (o21 - (4 : Int32))) &&& 0x3f).toInt64.toUInt64).toInt64).toInt32).toInt8.toInt32)) ∧ o67 = (1 : Int32)) ∨ ((¬ (o21 < (4 : Int32))) ∧ (¬ ((b36 4) = ((((y30.toUInt64 >>> (((8 : Int32) * (o21 - (4 : Int32))) &&& 0x3f).toInt64.toUInt64).toInt64).toInt32).toInt8.toInt32))) ∧ o67 = (0 : Int32))) (c69 : ¬ (o67 = (0 : Int32))) (hp72 : ((o21 < (5 : Int32)) ∧ o71 = (1 : Int32)) ∨ ((¬ (o21 < (5 : Int32))) ∧ ((b36 5) = ((((y30.toUInt64 >>> (((8 : Int32) * (o21 - (5 : Int32))) &&& 0x3f).toInt64.toUInt64).toInt64).toInt32).toInt8.toInt32)) ∧ o71 = (1 : Int32)) ∨ ((¬ (o21 < (5 : Int32))) ∧ (¬ ((b36 5) = ((((y30.toUInt64 >>> (((8 : Int32) * (o21 - (5 : Int32))) &&& 0x3f).toInt64.toUInt64).toInt64).toInt32).toInt8.toInt32))) ∧ o71 = (0 : Int32))) (c73 : ¬ (o71 = (0 : Int32))) (hp76 : ((o21 < (6 : Int32)) ∧ o75 = (1 : Int32)) ∨ ((¬ (o21 < (6 : Int32))) ∧ ((b36 6) = ((((y30.toUInt64 >>> (((8 : Int32) * (o21 - (6 : Int32))) &&& 0x3f).toInt64.toUInt64).toInt64).toInt32).toInt8.toInt32)) ∧ o75 = (1 : Int32)) ∨ ((¬ (o21 < (6 : Int32))) ∧ (¬ ((b36 6) = ((((y30.toUInt64 >>> (((8 : Int32) * (o21 - (6 : Int32))) &&& 0x3f).toInt64.toUInt64).toInt64).toInt32).toInt8.toInt32))) ∧ o75 = (0 : Int32))) (c77 : o75 = (0 : Int32)) : False := by
  obtain ⟨p1, p2, p3, p4, p5⟩ := own_part v1 o35 b36 hp40 z9 y18 y30 o21 hj10 hj19 hp22 hj31
  have h := c_iadd 1 o21
  have r := rng32 ((1 : Int32) + o21)
  have e1 : (1 : Int32).toInt = 1 := rfl
  have e0 : (0 : Int32).toInt = 0 := rfl
  rcases hp76 with ⟨-, a⟩ | ⟨-, -, a⟩ | ⟨a, b, -⟩
  · rw [a] at c77; exact absurd c77 (by decide)
  · rw [a] at c77; exact absurd c77 (by decide)
  · rw [Int32.lt_iff_toInt_lt] at a
    have ei : (6 : Int32).toInt = 6 := rfl
    exact b (p5 6 _ _ (by decide) (by omega) rfl (own_amt o21 6 6 rfl (by omega) p4 (by decide)))
theorem ob_0_41 (q0 : Int64) (p1 : Int32) (v1 : Int64) (z9 : Int32) (y18 : Int64) (o21 : Int32) (y30 : Int64) (o35 : Int32) (b36 : Nat → Int32) (z50 : Int32) (o55 : Int32) (o59 : Int32) (o63 : Int32) (o67 : Int32) (o71 : Int32) (o75 : Int32) (hv1 : (q0 >>> ((p1 &&& (63 : Int32)) &&& 0x3f).toInt64) = v1) (hj10 : ((v1 < (0 : Int64)) ∧ z9 = (1 : Int32)) ∨ ((¬ (v1 < (0 : Int64))) ∧ z9 = (0 : Int32))) (hj19 : ((z9 = (0 : Int32)) ∧ y18 = v1) ∨ ((¬ (z9 = (0 : Int32))) ∧ y18 = (-v1))) (hp22 : own_bc y18 o21) (hj31 : ((z9 = (0 : Int32)) ∧ y30 = y18) ∨ ((¬ (z9 = (0 : Int32))) ∧ y30 = (y18 ^^^ (-1 : Int64)))) (hp40 : own_enc v1 o35 b36) (c42 : o35 = ((1 : Int32) + o21)) (hj51 : ((z9 = (0 : Int32)) ∧ z50 = ((128 : Int32) + o21)) ∨ ((¬ (z9 = (0 : Int32))) ∧ z50 = ((128 : Int32) - o21))) (c53 : ((b36 0) &&& (255 : Int32)) = z50) (hp56 : ((o21 < (1 : Int32)) ∧ o55 = (1 : Int32)) ∨ ((¬ (o21 < (1 : Int32))) ∧ ((b36 1) = ((((y30.toUInt64 >>> (((8 : Int32) * (o21 - (1 : Int32))) &&& 0x3f).toInt64.toUInt64).toInt64).toInt32).toInt8.toInt32)) ∧ o55 = (1 : Int32)) ∨ ((¬ (o21 < (1 : Int32))) ∧ (¬ ((b36 1) = ((((y30.toUInt64 >>> (((8 : Int32) * (o21 - (1 : Int32))) &&& 0x3f).toInt64.toUInt64).toInt64).toInt32).toInt8.toInt32))) ∧ o55 = (0 : Int32))) (c57 : ¬ (o55 = (0 : Int32))) (hp60 : ((o21 < (2 : Int32)) ∧ o59 = (1 : Int32)) ∨ ((¬ (o21 < (2 : Int32))) ∧ ((b36 2) = ((((y30.toUInt64 >>> (((8 : Int32) * (o21 - (2 : Int32))) &&& 0x3f).toInt64.toUInt64).toInt64).toInt32).toInt8.toInt32)) ∧ o59 = (1 : Int32)) ∨ ((¬ (o21 < (2 : Int32))) ∧ (¬ ((b36 2) = ((((y30.toUInt64 >>> (((8 : Int32) * (o21 - (2 : Int32))) &&& 0x3f).toInt64.toUInt64).toInt64).toInt32).toInt8.toInt32))) ∧ o59 = (0 : Int32))) (c61 : ¬ (o59 = (0 : Int32))) (hp64 : ((o21 < (3 : Int32)) ∧ o63 = (1 : Int32)) ∨ ((¬ (o21 < (3 : Int32))) ∧ ((b36 3) = ((((y30.toUInt64 >>> (((8 : Int32) * (o21 - (3 : Int32))) &&& 0x3f).toInt64.toUInt64).toInt64).toInt32).toInt8.toInt32)) ∧ o63 = (1 : Int32)) ∨ ((¬ (o21 < (3 : Int32))) ∧ (¬ ((b36 3) = ((((y30.toUInt64 >>> (((8 : Int32) * (o21 - (3 : Int32))) &&& 0x3f).toInt64.toUInt64).toInt64).toInt32).toInt8.toInt32))) ∧ o63 = (0 : Int32))) (c65 : ¬ (o63 = (0 : Int32))) (hp68 : ((o21 < (4 : Int32)) ∧ o67 = (1 : Int32)) ∨ ((¬ (o21 < (4 : Int32))) ∧ ((b36 4) = ((((y30.toUInt64 >>> (((8 : Int32) * (o21 - (4 : Int32))) &&& 0x3f).toInt64.toUInt64).toInt64).toInt32).toInt8.toInt32)) ∧ o67 = (1 : Int32)) ∨ ((¬ (o21 < (4 : Int32))) ∧ (¬ ((b36 4) = ((((y30.toUInt64 >>> (((8 : Int32) * (o21 - (4 : Int32))) &&& 0x3f).toInt64.toUInt64).toInt64).toInt32).toInt8.toInt32))) ∧ o67 = (0 : Int32))) (c69 : ¬ (o67 = (0 : Int32))) (hp72 : ((o21 < (5 : Int32)) ∧ o71 = (1 : Int32)) ∨ ((¬ (o21 < (5 : Int32))) ∧ ((b36 5) = ((((y30.toUInt64 >>> (((8 : Int32) * (o21 - (5 : Int32))) &&& 0x3f).toInt64.toUInt64).toInt64).toInt32).toInt8.toInt32)) ∧ o71 = (1 : Int32)) ∨ ((¬ (o21 < (5 : Int32))) ∧ (¬ ((b36 5) = ((((y30.toUInt64 >>> (((8 : Int32) * (o21 - (5 : Int32))) &&& 0x3f).toInt64.toUInt64).toInt64).toInt32).toInt8.toInt32))) ∧ o71 = (0 : Int32))) (c73 : ¬ (o71 = (0 : Int32))) (hp76 : ((o21 < (6 : Int32)) ∧ o75 = (1 : Int32)) ∨ ((¬ (o21 < (6 : Int32))) ∧ ((b36 6) = ((((y30.toUInt64 >>> (((8 : Int32) * (o21 - (6 : Int32))) &&& 0x3f).toInt64.toUInt64).toInt64).toInt32).toInt8.toInt32)) ∧ o75 = (1 : Int32)) ∨ ((¬ (o21 < (6 : Int32))) ∧ (¬ ((b36 6) = ((((y30.toUInt64 >>> (((8 : Int32) * (o21 - (6 : Int32))) &&& 0x3f).toInt64.toUInt64).toInt64).toInt32).toInt8.toInt32))) ∧ o75 = (0 : Int32))) (c77 : ¬ (o75 = (0 : Int32))) : (¬ (o21 < (7 : Int32))) → ((¬ (7 : Int32) < 0) ∧ (7 : Int32) < o35) := by
  obtain ⟨p1, p2, p3, p4, p5⟩ := own_part v1 o35 b36 hp40 z9 y18 y30 o21 hj10 hj19 hp22 hj31
  have h := c_iadd 1 o21
  have r := rng32 ((1 : Int32) + o21)
  have e1 : (1 : Int32).toInt = 1 := rfl
  have e0 : (0 : Int32).toInt = 0 := rfl
  intro hh
  refine ⟨by decide, ?_⟩
  rw [p1, Int32.lt_iff_toInt_lt]
  rw [Int32.lt_iff_toInt_lt] at hh
  have ei : (7 : Int32).toInt = 7 := rfl
  omega
theorem ob_0_42 (q0 : Int64) (p1 : Int32) (v1 : Int64) (z9 : Int32) (y18 : Int64) (o21 : Int32) (y30 : Int64) (o35 : Int32) (b36 : Nat → Int32) (z50 : Int32) (o55 : Int32) (o59 : Int32) (o63 : Int32) (o67 : Int32) (o71 : Int32) (o75 : Int32) (o79 : Int32) (hv1 : (q0 >>> ((p1 &&& (63 : Int32)) &&& 0x3f).toInt64) = v1) (hj10 : ((v1 < (0 : Int64)) ∧ z9 = (1 : Int32)) ∨ ((¬ (v1 < (0 : Int64))) ∧ z9 = (0 : Int32))) (hj19 : ((z9 = (0 : Int32)) ∧ y18 = v1) ∨ ((¬ (z9 = (0 : Int32))) ∧ y18 = (-v1))) (hp22 : own_bc y18 o21) (hj31 : ((z9 = (0 : Int32)) ∧ y30 = y18) ∨ ((¬ (z9 = (0 : Int32))) ∧ y30 = (y18 ^^^ (-1 : Int64)))) (hp40 : own_enc v1 o35 b36) (c42 : o35 = ((1 : Int32) + o21)) (hj51 : ((z9 = (0 : Int32)) ∧ z50 = ((128 : Int32) + o21)) ∨ ((¬ (z9 = (0 : Int32))) ∧ z50 = ((128 : Int32) - o21))) (c53 : ((b36 0) &&& (255 : Int32)) = z50) (hp56 : ((o21 < (1 : Int32)) ∧ o55 = (1 : Int32)) ∨ ((¬ (o21 < (1 : Int32))) ∧ ((b36 1) = ((((y30.toUInt64 >>> (((8 : Int32) * (o21 - (1 : Int32))) &&& 0x3f).toInt64.toUInt64).toInt64).toInt32).toInt8.toInt32)) ∧ o55 = (1 : Int32)) ∨ ((¬ (o21 < (1 : Int32))) ∧ (¬ ((b36 1) = ((((y30.toUInt64 >>> (((8 : Int32) * (o21 - (1 : Int32))) &&& 0x3f).toInt64.toUInt64).toInt64).toInt32).toInt8.toInt32))) ∧ o55 = (0 : Int32))) (c57 : ¬ (o55 = (0 : Int32))) (hp60 : ((o21 < (2 : Int32)) ∧ o59 = (1 : Int32)) ∨ ((¬ (o21 < (2 : Int32))) ∧ ((b36 2) = ((((y30.toUInt64 >>> (((8 : Int32) * (o21 - (2 : Int32))) &&& 0x3f).toInt64.toUInt64).toInt64).toInt32).toInt8.toInt32)) ∧ o59 = (1 : Int32)) ∨ ((¬ (o21 < (2 : Int32))) ∧ (¬ ((b36 2) = ((((y30.toUInt64 >>> (((8 : Int32) * (o21 - (2 : Int32))) &&& 0x3f).toInt64.toUInt64).toInt64).toInt32).toInt8.toInt32))) ∧ o59 = (0 : Int32))) (c61 : ¬ (o59 = (0 : Int32))) (hp64 : ((o21 < (3 : Int32)) ∧ o63 = (1 : Int32)) ∨ ((¬ (o21 < (3 : Int32))) ∧ ((b36 3) = ((((y30.toUInt64 >>> (((8 : Int32) * (o21 - (3 : Int32))) &&& 0x3f).toInt64.toUInt64).toInt64).toInt32).toInt8.toInt32)) ∧ o63 = (1 : Int32)) ∨ ((¬ (o21 < (3 : Int32))) ∧ (¬ ((b36 3) = ((((y30.toUInt64 >>> (((8 : Int32) * (o21 - (3 : Int32))) &&& 0x3f).toInt64.toUInt64).toInt64).toInt32).toInt8.toInt32))) ∧ o63 = (0 : Int32))) (c65 : ¬ (o63 = (0 : Int32))) (hp68 : ((o21 < (4 : Int32)) ∧ o67 = (1 : Int32)) ∨ ((¬ (o21 < (4 : Int32))) ∧ ((b36 4) = ((((y30.toUInt64 >>> (((8 : Int32) * (o21 - (4 : Int32))) &&& 0x3f).toInt64.toUInt64).toInt64).toInt32).toInt8.toInt32)) ∧ o67 = (1 : Int32)) ∨ ((¬ (o21 < (4 : Int32))) ∧ (¬ ((b36 4) = ((((y30.toUInt64 >>> (((8 : Int32) * (o21 - (4 : Int32))) &&& 0x3f).toInt64.toUInt64).toInt64).toInt32).toInt8.toInt32))) ∧ o67 = (0 : Int32))) (c69 : ¬ (o67 = (0 : Int32))) (hp72 : ((o21 < (5 : Int32)) ∧ o71 = (1 : Int32)) ∨ ((¬ (o21 < (5 : Int32))) ∧ ((b36 5) = ((((y30.toUInt64 >>> (((8 : Int32) * (o21 - (5 : Int32))) &&& 0x3f).toInt64.toUInt64).toInt64).toInt32).toInt8.toInt32)) ∧ o71 = (1 : Int32)) ∨ ((¬ (o21 < (5 : Int32))) ∧ (¬ ((b36 5) = ((((y30.toUInt64 >>> (((8 : Int32) * (o21 - (5 : Int32))) &&& 0x3f).toInt64.toUInt64).toInt64).toInt32).toInt8.toInt32))) ∧ o71 = (0 : Int32))) (c73 : ¬ (o71 = (0 : Int32))) (hp76 : ((o21 < (6 : Int32)) ∧ o75 = (1 : Int32)) ∨ ((¬ (o21 < (6 : Int32))) ∧ ((b36 6) = ((((y30.toUInt64 >>> (((8 : Int32) * (o21 - (6 : Int32))) &&& 0x3f).toInt64.toUInt64).toInt64).toInt32).toInt8.toInt32)) ∧ o75 = (1 : Int32)) ∨ ((¬ (o21 < (6 : Int32))) ∧ (¬ ((b36 6) = ((((y30.toUInt64 >>> (((8 : Int32) * (o21 - (6 : Int32))) &&& 0x3f).toInt64.toUInt64).toInt64).toInt32).toInt8.toInt32))) ∧ o75 = (0 : Int32))) (c77 : ¬ (o75 = (0 : Int32))) (hp80 : ((o21 < (7 : Int32)) ∧ o79 = (1 : Int32)) ∨ ((¬ (o21 < (7 : Int32))) ∧ ((b36 7) = ((((y30.toUInt64 >>> (((8 : Int32) * (o21 - (7 : Int32))) &&& 0x3f).toInt64.toUInt64).toInt64).toInt32).toInt8.toInt32)) ∧ o79 = (1 : Int32)) ∨ ((¬ (o21 < (7 : Int32))) ∧ (¬ ((b36 7) = ((((y30.toUInt64 >>> (((8 : Int32) * (o21 - (7 : Int32))) &&& 0x3f).toInt64.toUInt64).toInt64).toInt32).toInt8.toInt32))) ∧ o79 = (0 : Int32))) (c81 : o79 = (0 : Int32)) : False := by
  obtain ⟨p1, p2, p3, p4, p5⟩ := own_part v1 o35 b36 hp40 z9 y18 y30 o21 hj10 hj19 hp22 hj31
  have h := c_iadd 1 o21
  have r := rng32 ((1 : Int32) + o21)
  have e1 : (1 : Int32).toInt = 1 := rfl
  have e0 : (0 : Int32).toInt = 0 := rfl
  rcases hp80 with ⟨-, a⟩ | ⟨-, -, a⟩ | ⟨a, b, -⟩
  · rw [a] at c81; exact absurd c81 (by decide)
  · rw [a] at c81; exact absurd c81 (by decide)
  · rw [Int32.lt_iff_toInt_lt] at a
    have ei : (7 : Int32).toInt = 7 := rfl
    exact b (p5 7 _ _ (by decide) (by omega) rfl (own_amt o21 7 7 rfl (by omega) p4 (by decide)))
theorem ob_0_43 (q0 : Int64) (p1 : Int32) (v1 : Int64) (z9 : Int32) (y18 : Int64) (o21 : Int32) (y30 : Int64) (o35 : Int32) (b36 : Nat → Int32) (z50 : Int32) (o55 : Int32) (o59 : Int32) (o63 : Int32) (o67 : Int32) (o71 : Int32) (o75 : Int32) (o79 : Int32) (hv1 : (q0 >>> ((p1 &&& (63 : Int32)) &&& 0x3f).toInt64) = v1) (hj10 : ((v1 < (0 : Int64)) ∧ z9 = (1 : Int32)) ∨ ((¬ (v1 < (0 : Int64))) ∧ z9 = (0 : Int32))) (hj19 : ((z9 = (0 : Int32)) ∧ y18 = v1) ∨ ((¬ (z9 = (0 : Int32))) ∧ y18 = (-v1))) (hp22 : own_bc y18 o21) (hj31 : ((z9 = (0 : Int32)) ∧ y30 = y18) ∨ ((¬ (z9 = (0 : Int32))) ∧ y30 = (y18 ^^^ (-1 : Int64)))) (hp40 : own_enc v1 o35 b36) (c42 : o35 = ((1 : Int32) + o21)) (hj51 : ((z9 = (0 : Int32)) ∧ z50 = ((128 : Int32) + o21)) ∨ ((¬ (z9 = (0 : Int32))) ∧ z50 = ((128 : Int32) - o21))) (c53 : ((b36 0) &&& (255 : Int32)) = z50) (hp56 : ((o21 < (1 : Int32)) ∧ o55 = (1 : Int32)) ∨ ((¬ (o21 < (1 : Int32))) ∧ ((b36 1) = ((((y30.toUInt64 >>> (((8 : Int32) * (o21 - (1 : Int32))) &&& 0x3f).toInt64.toUInt64).toInt64).toInt32).toInt8.toInt32)) ∧ o55 = (1 : Int32)) ∨ ((¬ (o21 < (1 : Int32))) ∧ (¬ ((b36 1) = ((((y30.toUInt64 >>> (((8 : Int32) * (o21 - (1 : Int32))) &&& 0x3f).toInt64.toUInt64).toInt64).toInt32).toInt8.toInt32))) ∧ o55 = (0 : Int32))) (c57 : ¬ (o55 = (0 : Int32))) (hp60 : ((o21 < (2 : Int32)) ∧ o59 = (1 : Int32)) ∨ ((¬ (o21 < (2 : Int32))) ∧ ((b36 2) = ((((y30.toUInt64 >>> (((8 : Int32) * (o21 - (2 : Int32))) &&& 0x3f).toInt64.toUInt64).toInt64).toInt32).toInt8.toInt32)) ∧ o59 = (1 : Int32)) ∨ ((¬ (o21 < (2 : Int32))) ∧ (¬ ((b36 2) = ((((y30.toUInt64 >>> (((8 : Int32) * (o21 - (2 : Int32))) &&& 0x3f).toInt64.toUInt64).toInt64).toInt32).toInt8.toInt32))) ∧ o59 = (0 : Int32))) (c61 : ¬ (o59 = (0 : Int32))) (hp64 : ((o21 < (3 : Int32)) ∧ o63 = (1 : Int32)) ∨ ((¬ (o21 < (3 : Int32))) ∧ ((b36 3) = ((((y30.toUInt64 >>> (((8 : Int32) * (o21 - (3 : Int32))) &&& 0x3f).toInt64.toUInt64).toInt64).toInt32).toInt8.toInt32)) ∧ o63 = (1 : Int32)) ∨ ((¬ (o21 < (3 : Int32))) ∧ (¬ ((b36 3) = ((((y30.toUInt64 >>> (((8 : Int32) * (o21 - (3 : Int32))) &&& 0x3f).toInt64.toUInt64).toInt64).toInt32).toInt8.toInt32))) ∧ o63 = (0 : Int32))) (c65 : ¬ (o63 = (0 : Int32))) (hp68 : ((o21 < (4 : Int32)) ∧ o67 = (1 : Int32)) ∨ ((¬ (o21 < (4 : Int32))) ∧ ((b36 4) = ((((y30.toUInt64 >>> (((8 : Int32) * (o21 - (4 : Int32))) &&& 0x3f).toInt64.toUInt64).toInt64).toInt32).toInt8.toInt32)) ∧ o67 = (1 : Int32)) ∨ ((¬ (o21 < (4 : Int32))) ∧ (¬ ((b36 4) = ((((y30.toUInt64 >>> (((8 : Int32) * (o21 - (4 : Int32))) &&& 0x3f).toInt64.toUInt64).toInt64).toInt32).toInt8.toInt32))) ∧ o67 = (0 : Int32))) (c69 : ¬ (o67 = (0 : Int32))) (hp72 : ((o21 < (5 : Int32)) ∧ o71 = (1 : Int32)) ∨ ((¬ (o21 < (5 : Int32))) ∧ ((b36 5) = ((((y30.toUInt64 >>> (((8 : Int32) * (o21 - (5 : Int32))) &&& 0x3f).toInt64.toUInt64).toInt64).toInt32).toInt8.toInt32)) ∧ o71 = (1 : Int32)) ∨ ((¬ (o21 < (5 : Int32))) ∧ (¬ ((b36 5) = ((((y30.toUInt64 >>> (((8 : Int32) * (o21 - (5 : Int32))) &&& 0x3f).toInt64.toUInt64).toInt64).toInt32).toInt8.toInt32))) ∧ o71 = (0 : Int32))) (c73 : ¬ (o71 = (0 : Int32))) (hp76 : ((o21 < (6 : Int32)) ∧ o75 = (1 : Int32)) ∨ ((¬ (o21 < (6 : Int32))) ∧ ((b36 6) = ((((y30.toUInt64 >>> (((8 : Int32) * (o21 - (6 : Int32))) &&& 0x3f).toInt64.toUInt64).toInt64).toInt32).toInt8.toInt32)) ∧ o75 = (1 : Int32)) ∨ ((¬ (o21 < (6 : Int32))) ∧ (¬ ((b36 6) = ((((y30.toUInt64 >>> (((8 : Int32) * (o21 - (6 : Int32))) &&& 0x3f).toInt64.toUInt64).toInt64).toInt32).toInt8.toInt32))) ∧ o75 = (0 : Int32))) (c77 : ¬ (o75 = (0 : Int32))) (hp80 : ((o21 < (7 : Int32)) ∧ o79 = (1 : Int32)) ∨ ((¬ (o21 < (7 : Int32))) ∧ ((b36 7) = ((((y30.toUInt64 >>> (((8 : Int32) * (o21 - (7 : Int32))) &&& 0x3f).toInt64.toUInt64).toInt64).toInt32).toInt8.toInt32)) ∧ o79 = (1 : Int32)) ∨ ((¬ (o21 < (7 : Int32))) ∧ (¬ ((b36 7) = ((((y30.toUInt64 >>> (((8 : Int32) * (o21 - (7 : Int32))) &&& 0x3f).toInt64.toUInt64).toInt64).toInt32).toInt8.toInt32))) ∧ o79 = (0 : Int32))) (c81 : ¬ (o79 = (0 : Int32))) : (¬ (o21 < (8 : Int32))) → ((¬ (8 : Int32) < 0) ∧ (8 : Int32) < o35) := by
  obtain ⟨p1, p2, p3, p4, p5⟩ := own_part v1 o35 b36 hp40 z9 y18 y30 o21 hj10 hj19 hp22 hj31
  have h := c_iadd 1 o21
  have r := rng32 ((1 : Int32) + o21)
  have e1 : (1 : Int32).toInt = 1 := rfl
  have e0 : (0 : Int32).toInt = 0 := rfl
  intro hh
  refine ⟨by decide, ?_⟩
  rw [p1, Int32.lt_iff_toInt_lt]
  rw [Int32.lt_iff_toInt_lt] at hh
  have ei : (8 : Int32).toInt = 8 := rfl
  omega
theorem ob_0_44 (q0 : Int64) (p1 : Int32) (v1 : Int64) (z9 : Int32) (y18 : Int64) (o21 : Int32) (y30 : Int64) (o35 : Int32) (b36 : Nat → Int32) (z50 : Int32) (o55 : Int32) (o59 : Int32) (o63 : Int32) (o67 : Int32) (o71 : Int32) (o75 : Int32) (o79 : Int32) (o83 : Int32) (hv1 : (q0 >>> ((p1 &&& (63 : Int32)) &&& 0x3f).toInt64) = v1) (hj10 : ((v1 < (0 : Int64)) ∧ z9 = (1 : Int32)) ∨ ((¬ (v1 < (0 : Int64))) ∧ z9 = (0 : Int32))) (hj19 : ((z9 = (0 : Int32)) ∧ y18 = v1) ∨ ((¬ (z9 = (0 : Int32))) ∧ y18 = (-v1))) (hp22 : own_bc y18 o21) (hj31 : ((z9 = (0 : Int32)) ∧ y30 = y18) ∨ ((¬ (z9 = (0 : Int32))) ∧ y30 = (y18 ^^^ (-1 : Int64)))) (hp40 : own_enc v1 o35 b36) (c42 : o35 = ((1 : Int32) + o21)) (hj51 : ((z9 = (0 : Int32)) ∧ z50 = ((128 : Int32) + o21)) ∨ ((¬ (z9 = (0 : Int32))) ∧ z50 = ((128 : Int32) - o21))) (c53 : ((b36 0) &&& (255 : Int32)) = z50) (hp56 : ((o21 < (1 : Int32)) ∧ o55 = (1 : Int32)) ∨ ((¬ (o21 < (1 : Int32))) ∧ ((b36 1) = ((((y30.toUInt64 >>> (((8 : Int32) * (o21 - (1 : Int32))) &&& 0x3f).toInt64.toUInt64).toInt64).toInt32).toInt8.toInt32)) ∧ o55 = (1 : Int32)) ∨ ((¬ (o21 < (1 : Int32))) ∧ (¬ ((b36 1) = ((((y30.toUInt64 >>> (((8 : Int32) * (o21 - (1 : Int32))) &&& 0x3f).toInt64.toUInt64).toInt64).toInt32).toInt8.toInt32))) ∧ o55 = (0 : Int32))) (c57 : ¬ (o55 = (0 : Int32))) (hp60 : ((o21 < (2 : Int32)) ∧ o59 = (1 : Int32)) ∨ ((¬ (o21 < (2 : Int32))) ∧ ((b36 2) = ((((y30.toUInt64 >>> (((8 : Int32) * (o21 - (2 : Int32))) &&& 0x3f).toInt64.toUInt64).toInt64).toInt32).toInt8.toInt32)) ∧ o59 = (1 : Int32)) ∨ ((¬ (o21 < (2 : Int32))) ∧ (¬ ((b36 2) = ((((y30.toUInt64 >>> (((8 : Int32) * (o21 - (2 : Int32))) &&& 0x3f).toInt64.toUInt64).toInt64).toInt32).toInt8.toInt32))) ∧ o59 = (0 : Int32))) (c61 : ¬ (o59 = (0 : Int32))) (hp64 : ((o21 < (3 : Int32)) ∧ o63 = (1 : Int32)) ∨ ((¬ (o21 < (3 : Int32))) ∧ ((b36 3) = ((((y30.toUInt64 >>> (((8 : Int32) * (o21 - (3 : Int32))) &&& 0x3f).toInt64.toUInt64).toInt64).toInt32).toInt8.toInt32)) ∧ o63 = (1 : Int32)) ∨ ((¬ (o21 < (3 : Int32))) ∧ (¬ ((b36 3) = ((((y30.toUInt64 >>> (((8 : Int32) * (o21 - (3 : Int32))) &&& 0x3f).toInt64.toUInt64).toInt64).toInt32).toInt8.toInt32))) ∧ o63 = (0 : Int32))) (c65 : ¬ (o63 = (0 : Int32))) (hp68 : ((o21 < (4 : Int32)) ∧ o67 = (1 : Int32)) ∨ ((¬ (o21 < (4 : Int32))) ∧ ((b36 4) = ((((y30.toUInt64 >>> (((8 : Int32) * (o21 - (4 : Int32))) &&& 0x3f).toInt64.toUInt64).toInt64).toInt32).toInt8.toInt32)) ∧ o67 = (1 : Int32)) ∨ ((¬ (o21 < (4 : Int32))) ∧ (¬ ((b36 4) = ((((y30.toUInt64 >>> (((8 : Int32) * (o21 - (4 : Int32))) &&& 0x3f).toInt64.toUInt64).toInt64).toInt32).toInt8.toInt32))) ∧ o67 = (0 : Int32))) (c69 : ¬ (o67 = (0 : Int32))) (hp72 : ((o21 < (5 : Int32)) ∧ o71 = (1 : Int32)) ∨ ((¬ (o21 < (5 : Int32))) ∧ ((b36 5) = ((((y30.toUInt64 >>> (((8 : Int32) * (o21 - (5 : Int32))) &&& 0x3f).toInt64.toUInt64).toInt64).toInt32).toInt8.toInt32)) ∧ o71 = (1 : Int32)) ∨ ((¬ (o21 < (5 : Int32))) ∧ (¬ ((b36 5) = ((((y30.toUInt64 >>> (((8 : Int32) * (o21 - (5 : Int32))) &&& 0x3f).toInt64.toUInt64).toInt64).toInt32).toInt8.toInt32))) ∧ o71 = (0 : Int32))) (c73 : ¬ (o71 = (0 : Int32))) (hp76 : ((o21 < (6 : Int32)) ∧ o75 = (1 : Int32)) ∨ ((¬ (o21 < (6 : Int32))) ∧ ((b36 6) = ((((y30.toUInt64 >>> (((8 : Int32) * (o21 - (6 : Int32))) &&& 0x3f).toInt64.toUInt64).toInt64).toInt32).toInt8.toInt32)) ∧ o75 = (1 : Int32)) ∨ ((¬ (o21 < (6 : Int32))) ∧ (¬ ((b36 6) = ((((y30.toUInt64 >>> (((8 : Int32) * (o21 - (6 : Int32))) &&& 0x3f).toInt64.toUInt64).toInt64).toInt32).toInt8.toInt32))) ∧ o75 = (0 : Int32))) (c77 : ¬ (o75 = (0 : Int32))) (hp80 : ((o21 < (7 : Int32)) ∧ o79 = (1 : Int32)) ∨ ((¬ (o21 < (7 : Int32))) ∧ ((b36 7) = ((((y30.toUInt64 >>> (((8 : Int32) * (o21 - (7 : Int32))) &&& 0x3f).toInt64.toUInt64).toInt64).toInt32).toInt8.toInt32)) ∧ o79 = (1 : Int32)) ∨ ((¬ (o21 < (7 : Int32))) ∧ (¬ ((b36 7) = ((((y30.toUInt64 >>> (((8 : Int32) * (o21 - (7 : Int32))) &&& 0x3f).toInt64.toUInt64).toInt64).toInt32).toInt8.toInt32))) ∧ o79 = (0 : Int32))) (c81 : ¬ (o79 = (0 : Int32))) (hp84 : ((o21 < (8 : Int32)) ∧ o83 = (1 : Int32)) ∨ ((¬ (o21 < (8 : Int32))) ∧ ((b36 8) = ((((y30.toUInt64 >>> (((8 : Int32) * (o21 - (8 : Int32))) &&& 0x3f).toInt64.toUInt64).toInt64).toInt32).toInt8.toInt32)) ∧ o83 = (1 : Int32)) ∨ ((¬ (o21 < (8 : Int32))) ∧ (¬ ((b36 8) = ((((y30.toUInt64 >>> (((8 : Int32) * (o21 - (8 : Int32))) &&& 0x3f).toInt64.toUInt64).toInt64).toInt32).toInt8.toInt32))) ∧ o83 = (0 : Int32))) (c85 : o83 = (0 : Int32)) : False := by
  obtain ⟨p1, p2, p3, p4, p5⟩ := own_part v1 o35 b36 hp40 z9 y18 y30 o21 hj10 hj19 hp22 hj31
  have h := c_iadd 1 o21
  have r := rng32 ((1 : Int32) + o21)
  have e1 : (1 : Int32).toInt = 1 := rfl
  have e0 : (0 : Int32).toInt = 0 := rfl
  rcases hp84 with ⟨-, a⟩ | ⟨-, -, a⟩ | ⟨a, b, -⟩
  · rw [a] at c85; exact absurd c85 (by decide)
  · rw [a] at c85; exact absurd c85 (by decide)
  · rw [Int32.lt_iff_toInt_lt] at a
    have ei : (8 : Int32).toInt = 8 := rfl
    exact b (p5 8 _ _ (by decide) (by omega) rfl (own_amt o21 8 8 rfl (by omega) p4 (by decide)))
theorem ob_0_45 (q0 : Int64) (p1 : Int32) (v1 : Int64) (z9 : Int32) (y18 : Int64) (o21 : Int32) (y30 : Int64) (o35 : Int32) (b36 : Nat → Int32) (z50 : Int32) (hv1 : (q0 >>> ((p1 &&& (63 : Int32)) &&& 0x3f).toInt64) = v1) (hj10 : ((v1 < (0 : Int64)) ∧ z9 = (1 : Int32)) ∨ ((¬ (v1 < (0 : Int64))) ∧ z9 = (0 : Int32))) (hj19 : ((z9 = (0 : Int32)) ∧ y18 = v1) ∨ ((¬ (z9 = (0 : Int32))) ∧ y18 = (-v1))) (hp22 : own_bc y18 o21) (hj31 : ((z9 = (0 : Int32)) ∧ y30 = y18) ∨ ((¬ (z9 = (0 : Int32))) ∧ y30 = (y18 ^^^ (-1 : Int64)))) (hp40 : own_enc v1 o35 b36) (c42 : o35 = ((1 : Int32) + o21)) (hj51 : ((z9 = (0 : Int32)) ∧ z50 = ((128 : Int32) + o21)) ∨ ((¬ (z9 = (0 : Int32))) ∧ z50 = ((128 : Int32) - o21))) (c53 : ¬ (((b36 0) &&& (255 : Int32)) = z50)) : False := by
  obtain ⟨p1, p2, p3, p4, p5⟩ := own_part v1 o35 b36 hp40 z9 y18 y30 o21 hj10 hj19 hp22 hj31
  have h := c_iadd 1 o21
  have r := rng32 ((1 : Int32) + o21)
  have e1 : (1 : Int32).toInt = 1 := rfl
  have e0 : (0 : Int32).toInt = 0 := rfl
  rw [p2] at c53
  rcases hj51 with ⟨a, b⟩ | ⟨a, b⟩
  · rw [if_pos a] at c53; exact c53 b.symm
  · rw [if_neg a] at c53; exact c53 b.symm
theorem ob_0_46 (q0 : Int64) (p1 : Int32) (v1 : Int64) (z9 : Int32) (y18 : Int64) (o21 : Int32) (y30 : Int64) (o35 : Int32) (b36 : Nat → Int32) (hv1 : (q0 >>> ((p1 &&& (63 : Int32)) &&& 0x3f).toInt64) = v1) (hj10 : ((v1 < (0 : Int64)) ∧ z9 = (1 : Int32)) ∨ ((¬ (v1 < (0 : Int64))) ∧ z9 = (0 : Int32))) (hj19 : ((z9 = (0 : Int32)) ∧ y18 = v1) ∨ ((¬ (z9 = (0 : Int32))) ∧ y18 = (-v1))) (hp22 : own_bc y18 o21) (hj31 : ((z9 = (0 : Int32)) ∧ y30 = y18) ∨ ((¬ (z9 = (0 : Int32))) ∧ y30 = (y18 ^^^ (-1 : Int64)))) (hp40 : own_enc v1 o35 b36) (c42 : ¬ (o35 = ((1 : Int32) + o21))) : False := by
  obtain ⟨p1, p2, p3, p4, p5⟩ := own_part v1 o35 b36 hp40 z9 y18 y30 o21 hj10 hj19 hp22 hj31
  have h := c_iadd 1 o21
  have r := rng32 ((1 : Int32) + o21)
  have e1 : (1 : Int32).toInt = 1 := rfl
  have e0 : (0 : Int32).toInt = 0 := rfl
  exact c42 p1
def Q0 (Z : State) (q0 : Int64) (p1 : Int32) (h0 : Heap) (n0 : Nat) (v : Option Value) (h : Heap) (L : List Loc) : Prop := v = some (.int (1 : Int32)) ∧ Fr n0 L
set_option maxRecDepth 65536 in
set_option maxHeartbeats 40000000 in
theorem rm0 (l : Launch) (Z : State) (A0 : Array Value) (hw : ∀ d ∈ tables_1, d.before A0 Z = true) (ws : List Jvm.Cond) (q0 : Int64) (p1 : Int32) (h0 : Heap) (n0 : Nat) (Z0 : n0 ≤ h0.size) :
    MetFree l x (head1 (Jvm.Cond.code x code maxLocals ret :: ws) room_1) (fun a U => a = #[(.long q0), (.int p1)] ∧ Z.Warmed39 U.vm ∧ U.heap = h0) (fun _ _ _ _ _ => True) (fun _ U o U' => ∃ v L, o = .returned v ∧ Q0 Z q0 p1 h0 n0 v U'.heap L ∧ FrameEnd U o U' L 16 128) := by
  refine MetFree.of_bodySF (plainFor_of_name pn_0) hisR ?_
  intro p e s m args below meth c s₁ Bd hml0 hP hK
  obtain ⟨rfl, hZ, hh⟩ := hP
  have hwd := fun i {d : Jvm.Cond} (h : tables_1[i]? = some d) => hw d (List.mem_of_getElem? h)
  have hx := Bd.exec
  have hby := Bd.bytes
  have hml : c.maxLocals = 13 := hml0
  have hlk : meth.locks = false := Bd.notSynchronized
  have hown : s.vm.findClass "com/example/nested_keyspace/nestedkeyspace/TypedPartsEncodeSignedPinLaw" = some m.cls := findClass_of_methodNamed Bd.named
  have hnm := (name_of_methodNamed Bd.named Bd.method).1
  have X0 : Stand p l e room_1 s m #[(.long q0), (.int p1)] below meth c s₁ [] 0 0 := Stand.of_body Bd
  have e0 : s₁.heap = h0 := by rw [← hh, Bd.state]; rfl
  have N0 := Fr.nil n0
  show own_Go p e below (own_Fin s 16 128 (Q0 Z q0 p1 h0 n0)) _
  refine own_by (fun t k => castTop (ef_0 m q0 p1) k) ?_
  show own_Go p e below _ (s₁.setTop (mkF m 0 #[.val (.long q0), .second, .val (.int p1), .unset, .unset, .unset, .unset, .unset, .unset, .unset, .unset, .unset, .unset] []))
  refine own_by (fun _ k => XS.lloadN X0.here hx rfl (hb hby at_0) rfl k) ?_
  show own_Go p e below _ (s₁.setTop (mkF m 1 #[.val (.long q0), .second, .val (.int p1), .unset, .unset, .unset, .unset, .unset, .unset, .unset, .unset, .unset, .unset] [(.long q0)]))
  refine own_by (fun _ k => XS.iloadN X0.here hx rfl (hb hby at_1) rfl k) ?_
  show own_Go p e below _ (s₁.setTop (mkF m 2 #[.val (.long q0), .second, .val (.int p1), .unset, .unset, .unset, .unset, .unset, .unset, .unset, .unset, .unset, .unset] [(.int p1), (.long q0)]))
  refine own_by (fun _ k => XS.bipush X0.here hx rfl (hb hby at_2) k) ?_
  show own_Go p e below _ (s₁.setTop (mkF m 4 #[.val (.long q0), .second, .val (.int p1), .unset, .unset, .unset, .unset, .unset, .unset, .unset, .unset, .unset, .unset] [(.int (63 : Int32)), (.int p1), (.long q0)]))
  refine own_by (fun _ k => XS.iand X0.here hx rfl (hb hby at_4) rfl k) ?_
  show own_Go p e below _ (s₁.setTop (mkF m 5 #[.val (.long q0), .second, .val (.int p1), .unset, .unset, .unset, .unset, .unset, .unset, .unset, .unset, .unset, .unset] [(.int (p1 &&& (63 : Int32))), (.long q0)]))
  refine own_by (fun _ k => XS.lshr X0.here hx rfl (hb hby at_5) rfl k) ?_
  show own_Go p e below _ (s₁.setTop (mkF m 6 #[.val (.long q0), .second, .val (.int p1), .unset, .unset, .unset, .unset, .unset, .unset, .unset, .unset, .unset, .unset] [(.long (q0 >>> ((p1 &&& (63 : Int32)) &&& 0x3f).toInt64))]))
  refine own_by (fun _ k => XS.lstoreN X0.here hx rfl (hb hby at_6) rfl (l' := #[.val (.long q0), .second, .val (.int p1), .val (.long (q0 >>> ((p1 &&& (63 : Int32)) &&& 0x3f).toInt64)), .second, .unset, .unset, .unset, .unset, .unset, .unset, .unset, .unset]) rfl k) ?_
  show own_Go p e below _ (s₁.setTop (mkF m 7 #[.val (.long q0), .second, .val (.int p1), .val (.long (q0 >>> ((p1 &&& (63 : Int32)) &&& 0x3f).toInt64)), .second, .unset, .unset, .unset, .unset, .unset, .unset, .unset, .unset] []))
  generalize hv1 : (q0 >>> ((p1 &&& (63 : Int32)) &&& 0x3f).toInt64) = v1
  show own_Go p e below _ (s₁.setTop (mkF m 7 #[.val (.long q0), .second, .val (.int p1), .val (.long v1), .second, .unset, .unset, .unset, .unset, .unset, .unset, .unset, .unset] []))
  refine own_by (fun _ k => XS.lloadN X0.here hx rfl (hb hby at_7) rfl k) ?_
  show own_Go p e below _ (s₁.setTop (mkF m 8 #[.val (.long q0), .second, .val (.int p1), .val (.long v1), .second, .unset, .unset, .unset, .unset, .unset, .unset, .unset, .unset] [(.long v1)]))
  refine own_by (fun _ k => XS.lconst X0.here hx rfl (hb hby at_8) k) ?_
  show own_Go p e below _ (s₁.setTop (mkF m 9 #[.val (.long q0), .second, .val (.int p1), .val (.long v1), .second, .unset, .unset, .unset, .unset, .unset, .unset, .unset, .unset] [(.long (0 : Int64)), (.long v1)]))
  refine own_by (fun _ k => XS.lcmp X0.here hx rfl (hb hby at_9) rfl k) ?_
  show own_Go p e below _ (s₁.setTop (mkF m 10 #[.val (.long q0), .second, .val (.int p1), .val (.long v1), .second, .unset, .unset, .unset, .unset, .unset, .unset, .unset, .unset] [(.int (lcmpW v1 (0 : Int64)))]))
  have J3 : ∀ (T4 : State) (L5 : List Loc) (z9 : Int32), Stand p l e room_1 s m #[(.long q0), (.int p1)] below meth c T4 L5 0 0 → T4.heap = h0 → Fr n0 L5 → (((v1 < (0 : Int64)) ∧ z9 = (1 : Int32)) ∨ ((¬ (v1 < (0 : Int64))) ∧ z9 = (0 : Int32))) → own_Go p e below (own_Fin s 16 128 (Q0 Z q0 p1 h0 n0)) (T4.setTop (mkF m 18 #[.val (.long q0), .second, .val (.int p1), .val (.long v1), .second, .unset, .unset, .unset, .unset, .unset, .unset, .unset, .unset] [(.int z9)])) := by
    intro T4 L5 z9 X6 e7 N8 hj10
    refine own_by (fun _ k => XS.istore X6.here hx rfl (hb hby at_18) rfl (l' := #[.val (.long q0), .second, .val (.int p1), .val (.long v1), .second, .val (.int z9), .unset, .unset, .unset, .unset, .unset, .unset, .unset]) rfl k) ?_
    show own_Go p e below _ (T4.setTop (mkF m 20 #[.val (.long q0), .second, .val (.int p1), .val (.long v1), .second, .val (.int z9), .unset, .unset, .unset, .unset, .unset, .unset, .unset] []))
    refine own_by (fun _ k => XS.iload X6.here hx rfl (hb hby at_20) rfl k) ?_
    show own_Go p e below _ (T4.setTop (mkF m 22 #[.val (.long q0), .second, .val (.int p1), .val (.long v1), .second, .val (.int z9), .unset, .unset, .unset, .unset, .unset, .unset, .unset] [(.int z9)]))
    have J12 : ∀ (T13 : State) (L14 : List Loc) (y18 : Int64), Stand p l e room_1 s m #[(.long q0), (.int p1)] below meth c T13 L14 0 0 → T13.heap = h0 → Fr n0 L14 → (((z9 = (0 : Int32)) ∧ y18 = v1) ∨ ((¬ (z9 = (0 : Int32))) ∧ y18 = (-v1))) → own_Go p e below (own_Fin s 16 128 (Q0 Z q0 p1 h0 n0)) (T13.setTop (mkF m 31 #[.val (.long q0), .second, .val (.int p1), .val (.long v1), .second, .val (.int z9), .unset, .unset, .unset, .unset, .unset, .unset, .unset] [(.long y18)])) := by
      intro T13 L14 y18 X15 e16 N17 hj19
      refine own_by (fun _ k => XS.lstore X15.here hx rfl (hb hby at_31) rfl (l' := #[.val (.long q0), .second, .val (.int p1), .val (.long v1), .second, .val (.int z9), .val (.long y18), .second, .unset, .unset, .unset, .unset, .unset]) rfl k) ?_
      show own_Go p e below _ (T13.setTop (mkF m 33 #[.val (.long q0), .second, .val (.int p1), .val (.long v1), .second, .val (.int z9), .val (.long y18), .second, .unset, .unset, .unset, .unset, .unset] []))
      refine own_by (fun _ k => XS.lload X15.here hx rfl (hb hby at_33) rfl k) ?_
      show own_Go p e below _ (T13.setTop (mkF m 35 #[.val (.long q0), .second, .val (.int p1), .val (.long v1), .second, .val (.int z9), .val (.long y18), .second, .unset, .unset, .unset, .unset, .unset] [(.long y18)]))
      obtain ⟨_, _, ⟨T20, L20, k20, n20⟩, -, X20, ⟨Lc20, hQ20, l20, y20, z20⟩, st20⟩ := Jvm.LawKit.callS X15 hx (y := (⟨"com/example/nested_keyspace/nestedkeyspace/TypedPartsEncodeSignedPinLaw", "byteCount", "(J)I"⟩ : MethodName)) hown (mvT hZ (hwd 0 rfl)) (mvT hZ (hwd 1 rfl)) (mvT hZ (hwd 2 rfl)) (mvT hZ (hwd 3 rfl)) (by decide) (backOf (W := 0) (rm1 l Z A0 hw [] y18 h0 n0 Z0 ) hZ (hwd 3 rfl) (hwd 2 rfl) (by decide) (by decide)) (g := (mkF m 35 #[.val (.long q0), .second, .val (.int p1), .val (.long v1), .second, .val (.int z9), .val (.long y18), .second, .unset, .unset, .unset, .unset, .unset] [(.long y18)])) rfl (by rw [hml]; rfl) (argsL := [(.long y18)]) (rest := []) (lenOf pd_0 rfl) rfl (by show 2 * 0 + _ ≤ _; exact Nat.le_of_eq rfl) (hb hby at_35) (fun _ _ => ⟨rfl, e16, (by decide : 0 + 0 ≤ _), (by decide : 0 + 0 ≤ _)⟩)
      dsimp only [Pt.U, Pt.locs, Pt.cells, Pt.slots] at X20 l20 y20 z20 st20 hQ20
      subst l20 y20 z20
      obtain ⟨o21, rfl, Nq20, eq20, hp22⟩ := hQ20
      have N20 := Fr.app N17 Nq20
      refine own_by st20 ?_
      show own_Go p e below _ (T20.setTop (mkF m 38 #[.val (.long q0), .second, .val (.int p1), .val (.long v1), .second, .val (.int z9), .val (.long y18), .second, .unset, .unset, .unset, .unset, .unset] [(.int o21)]))
      refine own_by (fun _ k => XS.istore X20.here hx rfl (hb hby at_38) rfl (l' := #[.val (.long q0), .second, .val (.int p1), .val (.long v1), .second, .val (.int z9), .val (.long y18), .second, .val (.int o21), .unset, .unset, .unset, .unset]) rfl k) ?_
      show own_Go p e below _ (T20.setTop (mkF m 40 #[.val (.long q0), .second, .val (.int p1), .val (.long v1), .second, .val (.int z9), .val (.long y18), .second, .val (.int o21), .unset, .unset, .unset, .unset] []))
      refine own_by (fun _ k => XS.iload X20.here hx rfl (hb hby at_40) rfl k) ?_
      show own_Go p e below _ (T20.setTop (mkF m 42 #[.val (.long q0), .second, .val (.int p1), .val (.long v1), .second, .val (.int z9), .val (.long y18), .second, .val (.int o21), .unset, .unset, .unset, .unset] [(.int z9)]))
      have J24 : ∀ (T25 : State) (L26 : List Loc) (y30 : Int64), Stand p l e room_1 s m #[(.long q0), (.int p1)] below meth c T25 L26 0 0 → T25.heap = h0 → Fr n0 L26 → (((z9 = (0 : Int32)) ∧ y30 = y18) ∨ ((¬ (z9 = (0 : Int32))) ∧ y30 = (y18 ^^^ (-1 : Int64)))) → own_Go p e below (own_Fin s 16 128 (Q0 Z q0 p1 h0 n0)) (T25.setTop (mkF m 56 #[.val (.long q0), .second, .val (.int p1), .val (.long v1), .second, .val (.int z9), .val (.long y18), .second, .val (.int o21), .unset, .unset, .unset, .unset] [(.long y30)])) := by
        intro T25 L26 y30 X27 e28 N29 hj31
        refine own_by (fun _ k => XS.lstore X27.here hx rfl (hb hby at_56) rfl (l' := #[.val (.long q0), .second, .val (.int p1), .val (.long v1), .second, .val (.int z9), .val (.long y18), .second, .val (.int o21), .val (.long y30), .second, .unset, .unset]) rfl k) ?_
        show own_Go p e below _ (T25.setTop (mkF m 58 #[.val (.long q0), .second, .val (.int p1), .val (.long v1), .second, .val (.int z9), .val (.long y18), .second, .val (.int o21), .val (.long y30), .second, .unset, .unset] []))
        refine own_by (fun _ k => XS.lloadN X27.here hx rfl (hb hby at_58) rfl k) ?_
        show own_Go p e below _ (T25.setTop (mkF m 59 #[.val (.long q0), .second, .val (.int p1), .val (.long v1), .second, .val (.int z9), .val (.long y18), .second, .val (.int o21), .val (.long y30), .second, .unset, .unset] [(.long v1)]))
        obtain ⟨_, _, ⟨T32, L32, k32, n32⟩, -, X32, ⟨Lc32, hQ32, l32, y32, z32⟩, st32⟩ := Jvm.LawKit.callS X27 hx (y := (⟨"com/example/nested_keyspace/nestedkeyspace/TypedParts", "encodeSigned", "(J)[B"⟩ : MethodName)) hown (mvT hZ (hwd 4 rfl)) (mvT hZ (hwd 5 rfl)) (mvT hZ (hwd 6 rfl)) (mvT hZ (hwd 7 rfl)) (by decide) (backOf (W := 0) (rm2 l Z A0 hw [] v1 h0 n0 Z0 ) hZ (hwd 7 rfl) (hwd 6 rfl) (by decide) (by decide)) (g := (mkF m 59 #[.val (.long q0), .second, .val (.int p1), .val (.long v1), .second, .val (.int z9), .val (.long y18), .second, .val (.int o21), .val (.long y30), .second, .unset, .unset] [(.long v1)])) rfl (by rw [hml]; rfl) (argsL := [(.long v1)]) (rest := []) (lenOf pd_4 rfl) rfl (by show 2 * 0 + _ ≤ _; exact Nat.le_of_eq rfl) (hb hby at_59) (fun _ _ => ⟨rfl, e28, (by decide : 0 + 1 ≤ _), (by decide : 0 + 9 ≤ _)⟩)
        dsimp only [Pt.U, Pt.locs, Pt.cells, Pt.slots] at X32 l32 y32 z32 st32 hQ32
        subst l32 y32 z32
        obtain ⟨b33, b34, o35, b36, rfl, Nq32, Kq32, hp37, hp38, F39, hp40⟩ := hQ32
        have N32 := Fr.app N29 Nq32
        have K32 : Keep h0 T32.heap [] := (Keep.refl h0 []).trans Kq32 (all0)
        have Z32 : n0 ≤ T32.heap.size := Nat.le_trans Z0 Kq32.1
        have sz_b33 : h0.size ≤ b33 := Nat.le_trans (Keep.refl h0 []).1 hp38
        refine own_by st32 ?_
        show own_Go p e below _ (T32.setTop (mkF m 62 #[.val (.long q0), .second, .val (.int p1), .val (.long v1), .second, .val (.int z9), .val (.long y18), .second, .val (.int o21), .val (.long y30), .second, .unset, .unset] [(.ref b33)]))
        refine own_by (fun _ k => XS.astore X32.here hx rfl (hb hby at_62) rfl rfl (l' := #[.val (.long q0), .second, .val (.int p1), .val (.long v1), .second, .val (.int z9), .val (.long y18), .second, .val (.int o21), .val (.long y30), .second, .val (.ref b33), .unset]) rfl k) ?_
        show own_Go p e below _ (T32.setTop (mkF m 64 #[.val (.long q0), .second, .val (.int p1), .val (.long v1), .second, .val (.int z9), .val (.long y18), .second, .val (.int o21), .val (.long y30), .second, .val (.ref b33), .unset] []))
        refine own_by (fun _ k => XS.aload X32.here hx rfl (hb hby at_64) rfl rfl k) ?_
        show own_Go p e below _ (T32.setTop (mkF m 66 #[.val (.long q0), .second, .val (.int p1), .val (.long v1), .second, .val (.int z9), .val (.long y18), .second, .val (.int o21), .val (.long y30), .second, .val (.ref b33), .unset] [(.ref b33)]))
        obtain ⟨cl41, Ar41, qq41, S41, M41, H41, G41⟩ := id F39
        refine own_by (fun t k => X32.arraylength hx Ar41.1 (State.isArrayOf_alike hZ.alike Ar41.2.1) (g := (mkF m 66 #[.val (.long q0), .second, .val (.int p1), .val (.long v1), .second, .val (.int z9), .val (.long y18), .second, .val (.int o21), .val (.long y30), .second, .val (.ref b33), .unset] [(.ref b33)])) rfl rfl (hb hby at_66) _ k) ?_
        rw [len_of S41 M41]
        show own_Go p e below _ (T32.setTop (mkF m 67 #[.val (.long q0), .second, .val (.int p1), .val (.long v1), .second, .val (.int z9), .val (.long y18), .second, .val (.int o21), .val (.long y30), .second, .val (.ref b33), .unset] [(.int o35)]))
        refine own_by (fun _ k => XS.iconst X32.here hx rfl (hb hby at_67) k) ?_
        show own_Go p e below _ (T32.setTop (mkF m 68 #[.val (.long q0), .second, .val (.int p1), .val (.long v1), .second, .val (.int z9), .val (.long y18), .second, .val (.int o21), .val (.long y30), .second, .val (.ref b33), .unset] [(.int (1 : Int32)), (.int o35)]))
        refine own_by (fun _ k => XS.iload X32.here hx rfl (hb hby at_68) rfl k) ?_
        show own_Go p e below _ (T32.setTop (mkF m 70 #[.val (.long q0), .second, .val (.int p1), .val (.long v1), .second, .val (.int z9), .val (.long y18), .second, .val (.int o21), .val (.long y30), .second, .val (.ref b33), .unset] [(.int o21), (.int (1 : Int32)), (.int o35)]))
        refine own_by (fun _ k => XS.iadd X32.here hx rfl (hb hby at_70) rfl k) ?_
        show own_Go p e below _ (T32.setTop (mkF m 71 #[.val (.long q0), .second, .val (.int p1), .val (.long v1), .second, .val (.int z9), .val (.long y18), .second, .val (.int o21), .val (.long y30), .second, .val (.ref b33), .unset] [(.int ((1 : Int32) + o21)), (.int o35)]))
        by_cases c42 : o35 = ((1 : Int32) + o21)
        · skip
          refine own_by (fun _ k => XS.icmpYes X32.here hx rfl (pc0 := 71) (pc' := 76) rfl (hb hby at_71) rfl (teq c42).1 (by decide) (by decide) k) ?_
          show own_Go p e below _ (T32.setTop (mkF m 76 #[.val (.long q0), .second, .val (.int p1), .val (.long v1), .second, .val (.int z9), .val (.long y18), .second, .val (.int o21), .val (.long y30), .second, .val (.ref b33), .unset] []))
          refine own_by (fun _ k => XS.iload X32.here hx rfl (hb hby at_76) rfl k) ?_
          show own_Go p e below _ (T32.setTop (mkF m 78 #[.val (.long q0), .second, .val (.int p1), .val (.long v1), .second, .val (.int z9), .val (.long y18), .second, .val (.int o21), .val (.long y30), .second, .val (.ref b33), .unset] [(.int z9)]))
          have J44 : ∀ (T45 : State) (L46 : List Loc) (z50 : Int32), Stand p l e room_1 s m #[(.long q0), (.int p1)] below meth c T45 L46 1 9 → T45.heap = T32.heap → Fr n0 L46 → (((z9 = (0 : Int32)) ∧ z50 = ((128 : Int32) + o21)) ∨ ((¬ (z9 = (0 : Int32))) ∧ z50 = ((128 : Int32) - o21))) → own_Go p e below (own_Fin s 16 128 (Q0 Z q0 p1 h0 n0)) (T45.setTop (mkF m 96 #[.val (.long q0), .second, .val (.int p1), .val (.long v1), .second, .val (.int z9), .val (.long y18), .second, .val (.int o21), .val (.long y30), .second, .val (.ref b33), .unset] [(.int z50)])) := by
            intro T45 L46 z50 X47 e48 N49 hj51
            refine own_by (fun _ k => XS.istore X47.here hx rfl (hb hby at_96) rfl (l' := #[.val (.long q0), .second, .val (.int p1), .val (.long v1), .second, .val (.int z9), .val (.long y18), .second, .val (.int o21), .val (.long y30), .second, .val (.ref b33), .val (.int z50)]) rfl k) ?_
            show own_Go p e below _ (T45.setTop (mkF m 98 #[.val (.long q0), .second, .val (.int p1), .val (.long v1), .second, .val (.int z9), .val (.long y18), .second, .val (.int o21), .val (.long y30), .second, .val (.ref b33), .val (.int z50)] []))
            refine own_by (fun _ k => XS.aload X47.here hx rfl (hb hby at_98) rfl rfl k) ?_
            show own_Go p e below _ (T45.setTop (mkF m 100 #[.val (.long q0), .second, .val (.int p1), .val (.long v1), .second, .val (.int z9), .val (.long y18), .second, .val (.int o21), .val (.long y30), .second, .val (.ref b33), .val (.int z50)] [(.ref b33)]))
            refine own_by (fun _ k => XS.iconst X47.here hx rfl (hb hby at_100) k) ?_
            show own_Go p e below _ (T45.setTop (mkF m 101 #[.val (.long q0), .second, .val (.int p1), .val (.long v1), .second, .val (.int z9), .val (.long y18), .second, .val (.int o21), .val (.long y30), .second, .val (.ref b33), .val (.int z50)] [(.int (0 : Int32)), (.ref b33)]))
            obtain ⟨cl52, Ar52, qq52, S52, M52, H52, G52⟩ := id F39
            have hin52 : ¬ ((0 : Int32) < 0 ∨ cl52.slots.size ≤ ((0 : Int32)).toNatClampNeg) := inb_of S52 (ob_0_28 q0 p1 v1 z9 y18 o21 y30 o35 b36 z50 hv1 hj10 hj19 hp22 hj31 hp40 c42 hj51)
            refine own_by (fun t k => X47.baloadBytes hx (j := (0 : Int32)) (v := (.int (b36 0))) (by rw [e48]; exact Ar52.1) (State.isArrayOf_alike hZ.alike Ar52.2.1) Ar52.2.2 hin52 (H52 _ (Nat.lt_of_not_le fun y => hin52 (Or.inr y))) (g := (mkF m 101 #[.val (.long q0), .second, .val (.int p1), .val (.long v1), .second, .val (.int z9), .val (.long y18), .second, .val (.int o21), .val (.long y30), .second, .val (.ref b33), .val (.int z50)] [(.int (0 : Int32)), (.ref b33)])) rfl rfl (hb hby at_101) _ k) ?_
            show own_Go p e below _ (T45.setTop (mkF m 102 #[.val (.long q0), .second, .val (.int p1), .val (.long v1), .second, .val (.int z9), .val (.long y18), .second, .val (.int o21), .val (.long y30), .second, .val (.ref b33), .val (.int z50)] [(.int (b36 0))]))
            refine own_by (fun _ k => XS.sipush X47.here hx rfl (hb hby at_102) k) ?_
            show own_Go p e below _ (T45.setTop (mkF m 105 #[.val (.long q0), .second, .val (.int p1), .val (.long v1), .second, .val (.int z9), .val (.long y18), .second, .val (.int o21), .val (.long y30), .second, .val (.ref b33), .val (.int z50)] [(.int (255 : Int32)), (.int (b36 0))]))
            refine own_by (fun _ k => XS.iand X47.here hx rfl (hb hby at_105) rfl k) ?_
            show own_Go p e below _ (T45.setTop (mkF m 106 #[.val (.long q0), .second, .val (.int p1), .val (.long v1), .second, .val (.int z9), .val (.long y18), .second, .val (.int o21), .val (.long y30), .second, .val (.ref b33), .val (.int z50)] [(.int ((b36 0) &&& (255 : Int32)))]))
            refine own_by (fun _ k => XS.iload X47.here hx rfl (hb hby at_106) rfl k) ?_
            show own_Go p e below _ (T45.setTop (mkF m 108 #[.val (.long q0), .second, .val (.int p1), .val (.long v1), .second, .val (.int z9), .val (.long y18), .second, .val (.int o21), .val (.long y30), .second, .val (.ref b33), .val (.int z50)] [(.int z50), (.int ((b36 0) &&& (255 : Int32)))]))
            by_cases c53 : ((b36 0) &&& (255 : Int32)) = z50
            · skip
              refine own_by (fun _ k => XS.icmpYes X47.here hx rfl (pc0 := 108) (pc' := 113) rfl (hb hby at_108) rfl (teq c53).1 (by decide) (by decide) k) ?_
              show own_Go p e below _ (T45.setTop (mkF m 113 #[.val (.long q0), .second, .val (.int p1), .val (.long v1), .second, .val (.int z9), .val (.long y18), .second, .val (.int o21), .val (.long y30), .second, .val (.ref b33), .val (.int z50)] []))
              refine own_by (fun _ k => XS.aload X47.here hx rfl (hb hby at_113) rfl rfl k) ?_
              show own_Go p e below _ (T45.setTop (mkF m 115 #[.val (.long q0), .second, .val (.int p1), .val (.long v1), .second, .val (.int z9), .val (.long y18), .second, .val (.int o21), .val (.long y30), .second, .val (.ref b33), .val (.int z50)] [(.ref b33)]))
              refine own_by (fun _ k => XS.iconst X47.here hx rfl (hb hby at_115) k) ?_
              show own_Go p e below _ (T45.setTop (mkF m 116 #[.val (.long q0), .second, .val (.int p1), .val (.long v1), .second, .val (.int z9), .val (.long y18), .second, .val (.int o21), .val (.long y30), .second, .val (.ref b33), .val (.int z50)] [(.int (1 : Int32)), (.ref b33)]))
              refine own_by (fun _ k => XS.iload X47.here hx rfl (hb hby at_116) rfl k) ?_
              show own_Go p e below _ (T45.setTop (mkF m 118 #[.val (.long q0), .second, .val (.int p1), .val (.long v1), .second, .val (.int z9), .val (.long y18), .second, .val (.int o21), .val (.long y30), .second, .val (.ref b33), .val (.int z50)] [(.int o21), (.int (1 : Int32)), (.ref b33)]))
              refine own_by (fun _ k => XS.lload X47.here hx rfl (hb hby at_118) rfl k) ?_
              show own_Go p e below _ (T45.setTop (mkF m 120 #[.val (.long q0), .second, .val (.int p1), .val (.long v1), .second, .val (.int z9), .val (.long y18), .second, .val (.int o21), .val (.long y30), .second, .val (.ref b33), .val (.int z50)] [(.long y30), (.int o21), (.int (1 : Int32)), (.ref b33)]))
              obtain ⟨_, _, ⟨T54, L54, k54, n54⟩, -, X54, ⟨Lc54, hQ54, l54, y54, z54⟩, st54⟩ := Jvm.LawKit.callS X47 hx (y := (⟨"com/example/nested_keyspace/nestedkeyspace/TypedPartsEncodeSignedPinLaw", "byteOk", "([BIIJ)Z"⟩ : MethodName)) hown (mvT hZ (hwd 20 rfl)) (mvT hZ (hwd 21 rfl)) (mvT hZ (hwd 2 rfl)) (mvT hZ (hwd 22 rfl)) (by decide) (backOf (W := 0) (rm6 l Z A0 hw [] b33 (1 : Int32) o21 y30 b34 o35 b36 T32.heap n0 Z32 F39 (ob_0_29 q0 p1 v1 z9 y18 o21 y30 o35 b36 z50 hv1 hj10 hj19 hp22 hj31 hp40 c42 hj51 c53)) hZ (hwd 22 rfl) (hwd 2 rfl) (by decide) (by decide)) (g := (mkF m 120 #[.val (.long q0), .second, .val (.int p1), .val (.long v1), .second, .val (.int z9), .val (.long y18), .second, .val (.int o21), .val (.long y30), .second, .val (.ref b33), .val (.int z50)] [(.long y30), (.int o21), (.int (1 : Int32)), (.ref b33)])) rfl (by rw [hml]; rfl) (argsL := [(.ref b33), (.int (1 : Int32)), (.int o21), (.long y30)]) (rest := []) (lenOf pd_20 rfl) rfl (by show 2 * 0 + _ ≤ _; exact Nat.le_of_eq rfl) (hb hby at_120) (fun _ _ => ⟨rfl, e48, (by decide : 1 + 0 ≤ _), (by decide : 9 + 0 ≤ _)⟩)
              dsimp only [Pt.U, Pt.locs, Pt.cells, Pt.slots] at X54 l54 y54 z54 st54 hQ54
              subst l54 y54 z54
              obtain ⟨o55, rfl, Nq54, eq54, hp56⟩ := hQ54
              have N54 := Fr.app N49 Nq54
              refine own_by st54 ?_
              show own_Go p e below _ (T54.setTop (mkF m 123 #[.val (.long q0), .second, .val (.int p1), .val (.long v1), .second, .val (.int z9), .val (.long y18), .second, .val (.int o21), .val (.long y30), .second, .val (.ref b33), .val (.int z50)] [(.int o55)]))
              by_cases c57 : o55 = (0 : Int32)
              · skip
                refine own_by (fun _ k => XS.ifYes X54.here hx rfl (pc0 := 123) (pc' := 224) rfl (hb hby at_123) rfl ((if0 _ _).trans (teq c57).1) (by decide) (by decide) k) ?_
                show own_Go p e below _ (T54.setTop (mkF m 224 #[.val (.long q0), .second, .val (.int p1), .val (.long v1), .second, .val (.int z9), .val (.long y18), .second, .val (.int o21), .val (.long y30), .second, .val (.ref b33), .val (.int z50)] []))
                refine own_by (fun _ k => XS.iconst X54.here hx rfl (hb hby at_224) k) ?_
                show own_Go p e below _ (T54.setTop (mkF m 225 #[.val (.long q0), .second, .val (.int p1), .val (.long v1), .second, .val (.int z9), .val (.long y18), .second, .val (.int o21), .val (.long y30), .second, .val (.ref b33), .val (.int z50)] [(.int (0 : Int32))]))
                exact own_retN X54 hx (t := .boolean) Bd.returns (by simp) (hb hby at_225) hlk eq54 ⟨((ob_0_30 q0 p1 v1 z9 y18 o21 y30 o35 b36 z50 o55 hv1 hj10 hj19 hp22 hj31 hp40 c42 hj51 c53 hp56 c57)).elim, N54⟩ (by decide) (by decide)
              · skip
                refine own_by (fun _ k => XS.ifNo X54.here hx rfl (hb hby at_123) rfl ((if0 _ _).trans (feq c57).1) k) ?_
                show own_Go p e below _ (T54.setTop (mkF m 126 #[.val (.long q0), .second, .val (.int p1), .val (.long v1), .second, .val (.int z9), .val (.long y18), .second, .val (.int o21), .val (.long y30), .second, .val (.ref b33), .val (.int z50)] []))
                refine own_by (fun _ k => XS.aload X54.here hx rfl (hb hby at_126) rfl rfl k) ?_
                show own_Go p e below _ (T54.setTop (mkF m 128 #[.val (.long q0), .second, .val (.int p1), .val (.long v1), .second, .val (.int z9), .val (.long y18), .second, .val (.int o21), .val (.long y30), .second, .val (.ref b33), .val (.int z50)] [(.ref b33)]))
                refine own_by (fun _ k => XS.iconst X54.here hx rfl (hb hby at_128) k) ?_
                show own_Go p e below _ (T54.setTop (mkF m 129 #[.val (.long q0), .second, .val (.int p1), .val (.long v1), .second, .val (.int z9), .val (.long y18), .second, .val (.int o21), .val (.long y30), .second, .val (.ref b33), .val (.int z50)] [(.int (2 : Int32)), (.ref b33)]))
                refine own_by (fun _ k => XS.iload X54.here hx rfl (hb hby at_129) rfl k) ?_
                show own_Go p e below _ (T54.setTop (mkF m 131 #[.val (.long q0), .second, .val (.int p1), .val (.long v1), .second, .val (.int z9), .val (.long y18), .second, .val (.int o21), .val (.long y30), .second, .val (.ref b33), .val (.int z50)] [(.int o21), (.int (2 : Int32)), (.ref b33)]))
                refine own_by (fun _ k => XS.lload X54.here hx rfl (hb hby at_131) rfl k) ?_
                show own_Go p e below _ (T54.setTop (mkF m 133 #[.val (.long q0), .second, .val (.int p1), .val (.long v1), .second, .val (.int z9), .val (.long y18), .second, .val (.int o21), .val (.long y30), .second, .val (.ref b33), .val (.int z50)] [(.long y30), (.int o21), (.int (2 : Int32)), (.ref b33)]))
                obtain ⟨_, _, ⟨T58, L58, k58, n58⟩, -, X58, ⟨Lc58, hQ58, l58, y58, z58⟩, st58⟩ := Jvm.LawKit.callS X54 hx (y := (⟨"com/example/nested_keyspace/nestedkeyspace/TypedPartsEncodeSignedPinLaw", "byteOk", "([BIIJ)Z"⟩ : MethodName)) hown (mvT hZ (hwd 20 rfl)) (mvT hZ (hwd 21 rfl)) (mvT hZ (hwd 2 rfl)) (mvT hZ (hwd 22 rfl)) (by decide) (backOf (W := 0) (rm6 l Z A0 hw [] b33 (2 : Int32) o21 y30 b34 o35 b36 T32.heap n0 Z32 F39 (ob_0_31 q0 p1 v1 z9 y18 o21 y30 o35 b36 z50 o55 hv1 hj10 hj19 hp22 hj31 hp40 c42 hj51 c53 hp56 c57)) hZ (hwd 22 rfl) (hwd 2 rfl) (by decide) (by decide)) (g := (mkF m 133 #[.val (.long q0), .second, .val (.int p1), .val (.long v1), .second, .val (.int z9), .val (.long y18), .second, .val (.int o21), .val (.long y30), .second, .val (.ref b33), .val (.int z50)] [(.long y30), (.int o21), (.int (2 : Int32)), (.ref b33)])) rfl (by rw [hml]; rfl) (argsL := [(.ref b33), (.int (2 : Int32)), (.int o21), (.long y30)]) (rest := []) (lenOf pd_20 rfl) rfl (by show 2 * 0 + _ ≤ _; exact Nat.le_of_eq rfl) (hb hby at_133) (fun _ _ => ⟨rfl, eq54, (by decide : 1 + 0 ≤ _), (by decide : 9 + 0 ≤ _)⟩)
                dsimp only [Pt.U, Pt.locs, Pt.cells, Pt.slots] at X58 l58 y58 z58 st58 hQ58
                subst l58 y58 z58
                obtain ⟨o59, rfl, Nq58, eq58, hp60⟩ := hQ58
                have N58 := Fr.app N54 Nq58
                refine own_by st58 ?_
                show own_Go p e below _ (T58.setTop (mkF m 136 #[.val (.long q0), .second, .val (.int p1), .val (.long v1), .second, .val (.int z9), .val (.long y18), .second, .val (.int o21), .val (.long y30), .second, .val (.ref b33), .val (.int z50)] [(.int o59)]))
                by_cases c61 : o59 = (0 : Int32)
                · skip
                  refine own_by (fun _ k => XS.ifYes X58.here hx rfl (pc0 := 136) (pc' := 224) rfl (hb hby at_136) rfl ((if0 _ _).trans (teq c61).1) (by decide) (by decide) k) ?_
                  show own_Go p e below _ (T58.setTop (mkF m 224 #[.val (.long q0), .second, .val (.int p1), .val (.long v1), .second, .val (.int z9), .val (.long y18), .second, .val (.int o21), .val (.long y30), .second, .val (.ref b33), .val (.int z50)] []))
                  refine own_by (fun _ k => XS.iconst X58.here hx rfl (hb hby at_224) k) ?_
                  show own_Go p e below _ (T58.setTop (mkF m 225 #[.val (.long q0), .second, .val (.int p1), .val (.long v1), .second, .val (.int z9), .val (.long y18), .second, .val (.int o21), .val (.long y30), .second, .val (.ref b33), .val (.int z50)] [(.int (0 : Int32))]))
                  exact own_retN X58 hx (t := .boolean) Bd.returns (by simp) (hb hby at_225) hlk eq58 ⟨((ob_0_32 q0 p1 v1 z9 y18 o21 y30 o35 b36 z50 o55 o59 hv1 hj10 hj19 hp22 hj31 hp40 c42 hj51 c53 hp56 c57 hp60 c61)).elim, N58⟩ (by decide) (by decide)
                · skip
                  refine own_by (fun _ k => XS.ifNo X58.here hx rfl (hb hby at_136) rfl ((if0 _ _).trans (feq c61).1) k) ?_
                  show own_Go p e below _ (T58.setTop (mkF m 139 #[.val (.long q0), .second, .val (.int p1), .val (.long v1), .second, .val (.int z9), .val (.long y18), .second, .val (.int o21), .val (.long y30), .second, .val (.ref b33), .val (.int z50)] []))
                  refine own_by (fun _ k => XS.aload X58.here hx rfl (hb hby at_139) rfl rfl k) ?_
                  show own_Go p e below _ (T58.setTop (mkF m 141 #[.val (.long q0), .second, .val (.int p1), .val (.long v1), .second, .val (.int z9), .val (.long y18), .second, .val (.int o21), .val (.long y30), .second, .val (.ref b33), .val (.int z50)] [(.ref b33)]))
                  refine own_by (fun _ k => XS.iconst X58.here hx rfl (hb hby at_141) k) ?_
                  show own_Go p e below _ (T58.setTop (mkF m 142 #[.val (.long q0), .second, .val (.int p1), .val (.long v1), .second, .val (.int z9), .val (.long y18), .second, .val (.int o21), .val (.long y30), .second, .val (.ref b33), .val (.int z50)] [(.int (3 : Int32)), (.ref b33)]))
                  refine own_by (fun _ k => XS.iload X58.here hx rfl (hb hby at_142) rfl k) ?_
                  show own_Go p e below _ (T58.setTop (mkF m 144 #[.val (.long q0), .second, .val (.int p1), .val (.long v1), .second, .val (.int z9), .val (.long y18), .second, .val (.int o21), .val (.long y30), .second, .val (.ref b33), .val (.int z50)] [(.int o21), (.int (3 : Int32)), (.ref b33)]))
                  refine own_by (fun _ k => XS.lload X58.here hx rfl (hb hby at_144) rfl k) ?_
                  show own_Go p e below _ (T58.setTop (mkF m 146 #[.val (.long q0), .second, .val (.int p1), .val (.long v1), .second, .val (.int z9), .val (.long y18), .second, .val (.int o21), .val (.long y30), .second, .val (.ref b33), .val (.int z50)] [(.long y30), (.int o21), (.int (3 : Int32)), (.ref b33)]))
                  obtain ⟨_, _, ⟨T62, L62, k62, n62⟩, -, X62, ⟨Lc62, hQ62, l62, y62, z62⟩, st62⟩ := Jvm.LawKit.callS X58 hx (y := (⟨"com/example/nested_keyspace/nestedkeyspace/TypedPartsEncodeSignedPinLaw", "byteOk", "([BIIJ)Z"⟩ : MethodName)) hown (mvT hZ (hwd 20 rfl)) (mvT hZ (hwd 21 rfl)) (mvT hZ (hwd 2 rfl)) (mvT hZ (hwd 22 rfl)) (by decide) (backOf (W := 0) (rm6 l Z A0 hw [] b33 (3 : Int32) o21 y30 b34 o35 b36 T32.heap n0 Z32 F39 (ob_0_33 q0 p1 v1 z9 y18 o21 y30 o35 b36 z50 o55 o59 hv1 hj10 hj19 hp22 hj31 hp40 c42 hj51 c53 hp56 c57 hp60 c61)) hZ (hwd 22 rfl) (hwd 2 rfl) (by decide) (by decide)) (g := (mkF m 146 #[.val (.long q0), .second, .val (.int p1), .val (.long v1), .second, .val (.int z9), .val (.long y18), .second, .val (.int o21), .val (.long y30), .second, .val (.ref b33), .val (.int z50)] [(.long y30), (.int o21), (.int (3 : Int32)), (.ref b33)])) rfl (by rw [hml]; rfl) (argsL := [(.ref b33), (.int (3 : Int32)), (.int o21), (.long y30)]) (rest := []) (lenOf pd_20 rfl) rfl (by show 2 * 0 + _ ≤ _; exact Nat.le_of_eq rfl) (hb hby at_146) (fun _ _ => ⟨rfl, eq58, (by decide : 1 + 0 ≤ _), (by decide : 9 + 0 ≤ _)⟩)
                  dsimp only [Pt.U, Pt.locs, Pt.cells, Pt.slots] at X62 l62 y62 z62 st62 hQ62
                  subst l62 y62 z62
                  obtain ⟨o63, rfl, Nq62, eq62, hp64⟩ := hQ62
                  have N62 := Fr.app N58 Nq62
                  refine own_by st62 ?_
                  show own_Go p e below _ (T62.setTop (mkF m 149 #[.val (.long q0), .second, .val (.int p1), .val (.long v1), .second, .val (.int z9), .val (.long y18), .second, .val (.int o21), .val (.long y30), .second, .val (.ref b33), .val (.int z50)] [(.int o63)]))
                  by_cases c65 : o63 = (0 : Int32)
                  · skip
                    refine own_by (fun _ k => XS.ifYes X62.here hx rfl (pc0 := 149) (pc' := 224) rfl (hb hby at_149) rfl ((if0 _ _).trans (teq c65).1) (by decide) (by decide) k) ?_
                    show own_Go p e below _ (T62.setTop (mkF m 224 #[.val (.long q0), .second, .val (.int p1), .val (.long v1), .second, .val (.int z9), .val (.long y18), .second, .val (.int o21), .val (.long y30), .second, .val (.ref b33), .val (.int z50)] []))
                    refine own_by (fun _ k => XS.iconst X62.here hx rfl (hb hby at_224) k) ?_
                    show own_Go p e below _ (T62.setTop (mkF m 225 #[.val (.long q0), .second, .val (.int p1), .val (.long v1), .second, .val (.int z9), .val (.long y18), .second, .val (.int o21), .val (.long y30), .second, .val (.ref b33), .val (.int z50)] [(.int (0 : Int32))]))
                    exact own_retN X62 hx (t := .boolean) Bd.returns (by simp) (hb hby at_225) hlk eq62 ⟨((ob_0_34 q0 p1 v1 z9 y18 o21 y30 o35 b36 z50 o55 o59 o63 hv1 hj10 hj19 hp22 hj31 hp40 c42 hj51 c53 hp56 c57 hp60 c61 hp64 c65)).elim, N62⟩ (by decide) (by decide)
                  · skip
                    refine own_by (fun _ k => XS.ifNo X62.here hx rfl (hb hby at_149) rfl ((if0 _ _).trans (feq c65).1) k) ?_
                    show own_Go p e below _ (T62.setTop (mkF m 152 #[.val (.long q0), .second, .val (.int p1), .val (.long v1), .second, .val (.int z9), .val (.long y18), .second, .val (.int o21), .val (.long y30), .second, .val (.ref b33), .val (.int z50)] []))
                    refine own_by (fun _ k => XS.aload X62.here hx rfl (hb hby at_152) rfl rfl k) ?_
                    show own_Go p e below _ (T62.setTop (mkF m 154 #[.val (.long q0), .second, .val (.int p1), .val (.long v1), .second, .val (.int z9), .val (.long y18), .second, .val (.int o21), .val (.long y30), .second, .val (.ref b33), .val (.int z50)] [(.ref b33)]))
                    refine own_by (fun _ k => XS.iconst X62.here hx rfl (hb hby at_154) k) ?_
                    show own_Go p e below _ (T62.setTop (mkF m 155 #[.val (.long q0), .second, .val (.int p1), .val (.long v1), .second, .val (.int z9), .val (.long y18), .second, .val (.int o21), .val (.long y30), .second, .val (.ref b33), .val (.int z50)] [(.int (4 : Int32)), (.ref b33)]))
                    refine own_by (fun _ k => XS.iload X62.here hx rfl (hb hby at_155) rfl k) ?_
                    show own_Go p e below _ (T62.setTop (mkF m 157 #[.val (.long q0), .second, .val (.int p1), .val (.long v1), .second, .val (.int z9), .val (.long y18), .second, .val (.int o21), .val (.long y30), .second, .val (.ref b33), .val (.int z50)] [(.int o21), (.int (4 : Int32)), (.ref b33)]))
                    refine own_by (fun _ k => XS.lload X62.here hx rfl (hb hby at_157) rfl k) ?_
                    show own_Go p e below _ (T62.setTop (mkF m 159 #[.val (.long q0), .second, .val (.int p1), .val (.long v1), .second, .val (.int z9), .val (.long y18), .second, .val (.int o21), .val (.long y30), .second, .val (.ref b33), .val (.int z50)] [(.long y30), (.int o21), (.int (4 : Int32)), (.ref b33)]))
                    obtain ⟨_, _, ⟨T66, L66, k66, n66⟩, -, X66, ⟨Lc66, hQ66, l66, y66, z66⟩, st66⟩ := Jvm.LawKit.callS X62 hx (y := (⟨"com/example/nested_keyspace/nestedkeyspace/TypedPartsEncodeSignedPinLaw", "byteOk", "([BIIJ)Z"⟩ : MethodName)) hown (mvT hZ (hwd 20 rfl)) (mvT hZ (hwd 21 rfl)) (mvT hZ (hwd 2 rfl)) (mvT hZ (hwd 22 rfl)) (by decide) (backOf (W := 0) (rm6 l Z A0 hw [] b33 (4 : Int32) o21 y30 b34 o35 b36 T32.heap n0 Z32 F39 (ob_0_35 q0 p1 v1 z9 y18 o21 y30 o35 b36 z50 o55 o59 o63 hv1 hj10 hj19 hp22 hj31 hp40 c42 hj51 c53 hp56 c57 hp60 c61 hp64 c65)) hZ (hwd 22 rfl) (hwd 2 rfl) (by decide) (by decide)) (g := (mkF m 159 #[.val (.long q0), .second, .val (.int p1), .val (.long v1), .second, .val (.int z9), .val (.long y18), .second, .val (.int o21), .val (.long y30), .second, .val (.ref b33), .val (.int z50)] [(.long y30), (.int o21), (.int (4 : Int32)), (.ref b33)])) rfl (by rw [hml]; rfl) (argsL := [(.ref b33), (.int (4 : Int32)), (.int o21), (.long y30)]) (rest := []) (lenOf pd_20 rfl) rfl (by show 2 * 0 + _ ≤ _; exact Nat.le_of_eq rfl) (hb hby at_159) (fun _ _ => ⟨rfl, eq62, (by decide : 1 + 0 ≤ _), (by decide : 9 + 0 ≤ _)⟩)
                    dsimp only [Pt.U, Pt.locs, Pt.cells, Pt.slots] at X66 l66 y66 z66 st66 hQ66
                    subst l66 y66 z66
                    obtain ⟨o67, rfl, Nq66, eq66, hp68⟩ := hQ66
                    have N66 := Fr.app N62 Nq66
                    refine own_by st66 ?_
                    show own_Go p e below _ (T66.setTop (mkF m 162 #[.val (.long q0), .second, .val (.int p1), .val (.long v1), .second, .val (.int z9), .val (.long y18), .second, .val (.int o21), .val (.long y30), .second, .val (.ref b33), .val (.int z50)] [(.int o67)]))
                    by_cases c69 : o67 = (0 : Int32)
                    · skip
                      refine own_by (fun _ k => XS.ifYes X66.here hx rfl (pc0 := 162) (pc' := 224) rfl (hb hby at_162) rfl ((if0 _ _).trans (teq c69).1) (by decide) (by decide) k) ?_
                      show own_Go p e below _ (T66.setTop (mkF m 224 #[.val (.long q0), .second, .val (.int p1), .val (.long v1), .second, .val (.int z9), .val (.long y18), .second, .val (.int o21), .val (.long y30), .second, .val (.ref b33), .val (.int z50)] []))
                      refine own_by (fun _ k => XS.iconst X66.here hx rfl (hb hby at_224) k) ?_
                      show own_Go p e below _ (T66.setTop (mkF m 225 #[.val (.long q0), .second, .val (.int p1), .val (.long v1), .second, .val (.int z9), .val (.long y18), .second, .val (.int o21), .val (.long y30), .second, .val (.ref b33), .val (.int z50)] [(.int (0 : Int32))]))
                      exact own_retN X66 hx (t := .boolean) Bd.returns (by simp) (hb hby at_225) hlk eq66 ⟨((ob_0_36 q0 p1 v1 z9 y18 o21 y30 o35 b36 z50 o55 o59 o63 o67 hv1 hj10 hj19 hp22 hj31 hp40 c42 hj51 c53 hp56 c57 hp60 c61 hp64 c65 hp68 c69)).elim, N66⟩ (by decide) (by decide)
                    · skip
                      refine own_by (fun _ k => XS.ifNo X66.here hx rfl (hb hby at_162) rfl ((if0 _ _).trans (feq c69).1) k) ?_
                      show own_Go p e below _ (T66.setTop (mkF m 165 #[.val (.long q0), .second, .val (.int p1), .val (.long v1), .second, .val (.int z9), .val (.long y18), .second, .val (.int o21), .val (.long y30), .second, .val (.ref b33), .val (.int z50)] []))
                      refine own_by (fun _ k => XS.aload X66.here hx rfl (hb hby at_165) rfl rfl k) ?_
                      show own_Go p e below _ (T66.setTop (mkF m 167 #[.val (.long q0), .second, .val (.int p1), .val (.long v1), .second, .val (.int z9), .val (.long y18), .second, .val (.int o21), .val (.long y30), .second, .val (.ref b33), .val (.int z50)] [(.ref b33)]))
                      refine own_by (fun _ k => XS.iconst X66.here hx rfl (hb hby at_167) k) ?_
                      show own_Go p e below _ (T66.setTop (mkF m 168 #[.val (.long q0), .second, .val (.int p1), .val (.long v1), .second, .val (.int z9), .val (.long y18), .second, .val (.int o21), .val (.long y30), .second, .val (.ref b33), .val (.int z50)] [(.int (5 : Int32)), (.ref b33)]))
                      refine own_by (fun _ k => XS.iload X66.here hx rfl (hb hby at_168) rfl k) ?_
                      show own_Go p e below _ (T66.setTop (mkF m 170 #[.val (.long q0), .second, .val (.int p1), .val (.long v1), .second, .val (.int z9), .val (.long y18), .second, .val (.int o21), .val (.long y30), .second, .val (.ref b33), .val (.int z50)] [(.int o21), (.int (5 : Int32)), (.ref b33)]))
                      refine own_by (fun _ k => XS.lload X66.here hx rfl (hb hby at_170) rfl k) ?_
                      show own_Go p e below _ (T66.setTop (mkF m 172 #[.val (.long q0), .second, .val (.int p1), .val (.long v1), .second, .val (.int z9), .val (.long y18), .second, .val (.int o21), .val (.long y30), .second, .val (.ref b33), .val (.int z50)] [(.long y30), (.int o21), (.int (5 : Int32)), (.ref b33)]))
                      obtain ⟨_, _, ⟨T70, L70, k70, n70⟩, -, X70, ⟨Lc70, hQ70, l70, y70, z70⟩, st70⟩ := Jvm.LawKit.callS X66 hx (y := (⟨"com/example/nested_keyspace/nestedkeyspace/TypedPartsEncodeSignedPinLaw", "byteOk", "([BIIJ)Z"⟩ : MethodName)) hown (mvT hZ (hwd 20 rfl)) (mvT hZ (hwd 21 rfl)) (mvT hZ (hwd 2 rfl)) (mvT hZ (hwd 22 rfl)) (by decide) (backOf (W := 0) (rm6 l Z A0 hw [] b33 (5 : Int32) o21 y30 b34 o35 b36 T32.heap n0 Z32 F39 (ob_0_37 q0 p1 v1 z9 y18 o21 y30 o35 b36 z50 o55 o59 o63 o67 hv1 hj10 hj19 hp22 hj31 hp40 c42 hj51 c53 hp56 c57 hp60 c61 hp64 c65 hp68 c69)) hZ (hwd 22 rfl) (hwd 2 rfl) (by decide) (by decide)) (g := (mkF m 172 #[.val (.long q0), .second, .val (.int p1), .val (.long v1), .second, .val (.int z9), .val (.long y18), .second, .val (.int o21), .val (.long y30), .second, .val (.ref b33), .val (.int z50)] [(.long y30), (.int o21), (.int (5 : Int32)), (.ref b33)])) rfl (by rw [hml]; rfl) (argsL := [(.ref b33), (.int (5 : Int32)), (.int o21), (.long y30)]) (rest := []) (lenOf pd_20 rfl) rfl (by show 2 * 0 + _ ≤ _; exact Nat.le_of_eq rfl) (hb hby at_172) (fun _ _ => ⟨rfl, eq66, (by decide : 1 + 0 ≤ _), (by decide : 9 + 0 ≤ _)⟩)
                      dsimp only [Pt.U, Pt.locs, Pt.cells, Pt.slots] at X70 l70 y70 z70 st70 hQ70
                      subst l70 y70 z70
                      obtain ⟨o71, rfl, Nq70, eq70, hp72⟩ := hQ70
                      have N70 := Fr.app N66 Nq70
                      refine own_by st70 ?_
                      show own_Go p e below _ (T70.setTop (mkF m 175 #[.val (.long q0), .second, .val (.int p1), .val (.long v1), .second, .val (.int z9), .val (.long y18), .second, .val (.int o21), .val (.long y30), .second, .val (.ref b33), .val (.int z50)] [(.int o71)]))
                      by_cases c73 : o71 = (0 : Int32)
                      · skip
                        refine own_by (fun _ k => XS.ifYes X70.here hx rfl (pc0 := 175) (pc' := 224) rfl (hb hby at_175) rfl ((if0 _ _).trans (teq c73).1) (by decide) (by decide) k) ?_
                        show own_Go p e below _ (T70.setTop (mkF m 224 #[.val (.long q0), .second, .val (.int p1), .val (.long v1), .second, .val (.int z9), .val (.long y18), .second, .val (.int o21), .val (.long y30), .second, .val (.ref b33), .val (.int z50)] []))
                        refine own_by (fun _ k => XS.iconst X70.here hx rfl (hb hby at_224) k) ?_
                        show own_Go p e below _ (T70.setTop (mkF m 225 #[.val (.long q0), .second, .val (.int p1), .val (.long v1), .second, .val (.int z9), .val (.long y18), .second, .val (.int o21), .val (.long y30), .second, .val (.ref b33), .val (.int z50)] [(.int (0 : Int32))]))
                        exact own_retN X70 hx (t := .boolean) Bd.returns (by simp) (hb hby at_225) hlk eq70 ⟨((ob_0_38 q0 p1 v1 z9 y18 o21 y30 o35 b36 z50 o55 o59 o63 o67 o71 hv1 hj10 hj19 hp22 hj31 hp40 c42 hj51 c53 hp56 c57 hp60 c61 hp64 c65 hp68 c69 hp72 c73)).elim, N70⟩ (by decide) (by decide)
                      · skip
                        refine own_by (fun _ k => XS.ifNo X70.here hx rfl (hb hby at_175) rfl ((if0 _ _).trans (feq c73).1) k) ?_
                        show own_Go p e below _ (T70.setTop (mkF m 178 #[.val (.long q0), .second, .val (.int p1), .val (.long v1), .second, .val (.int z9), .val (.long y18), .second, .val (.int o21), .val (.long y30), .second, .val (.ref b33), .val (.int z50)] []))
                        refine own_by (fun _ k => XS.aload X70.here hx rfl (hb hby at_178) rfl rfl k) ?_
                        show own_Go p e below _ (T70.setTop (mkF m 180 #[.val (.long q0), .second, .val (.int p1), .val (.long v1), .second, .val (.int z9), .val (.long y18), .second, .val (.int o21), .val (.long y30), .second, .val (.ref b33), .val (.int z50)] [(.ref b33)]))
                        refine own_by (fun _ k => XS.bipush X70.here hx rfl (hb hby at_180) k) ?_
                        show own_Go p e below _ (T70.setTop (mkF m 182 #[.val (.long q0), .second, .val (.int p1), .val (.long v1), .second, .val (.int z9), .val (.long y18), .second, .val (.int o21), .val (.long y30), .second, .val (.ref b33), .val (.int z50)] [(.int (6 : Int32)), (.ref b33)]))
                        refine own_by (fun _ k => XS.iload X70.here hx rfl (hb hby at_182) rfl k) ?_
                        show own_Go p e below _ (T70.setTop (mkF m 184 #[.val (.long q0), .second, .val (.int p1), .val (.long v1), .second, .val (.int z9), .val (.long y18), .second, .val (.int o21), .val (.long y30), .second, .val (.ref b33), .val (.int z50)] [(.int o21), (.int (6 : Int32)), (.ref b33)]))
                        refine own_by (fun _ k => XS.lload X70.here hx rfl (hb hby at_184) rfl k) ?_
                        show own_Go p e below _ (T70.setTop (mkF m 186 #[.val (.long q0), .second, .val (.int p1), .val (.long v1), .second, .val (.int z9), .val (.long y18), .second, .val (.int o21), .val (.long y30), .second, .val (.ref b33), .val (.int z50)] [(.long y30), (.int o21), (.int (6 : Int32)), (.ref b33)]))
                        obtain ⟨_, _, ⟨T74, L74, k74, n74⟩, -, X74, ⟨Lc74, hQ74, l74, y74, z74⟩, st74⟩ := Jvm.LawKit.callS X70 hx (y := (⟨"com/example/nested_keyspace/nestedkeyspace/TypedPartsEncodeSignedPinLaw", "byteOk", "([BIIJ)Z"⟩ : MethodName)) hown (mvT hZ (hwd 20 rfl)) (mvT hZ (hwd 21 rfl)) (mvT hZ (hwd 2 rfl)) (mvT hZ (hwd 22 rfl)) (by decide) (backOf (W := 0) (rm6 l Z A0 hw [] b33 (6 : Int32) o21 y30 b34 o35 b36 T32.heap n0 Z32 F39 (ob_0_39 q0 p1 v1 z9 y18 o21 y30 o35 b36 z50 o55 o59 o63 o67 o71 hv1 hj10 hj19 hp22 hj31 hp40 c42 hj51 c53 hp56 c57 hp60 c61 hp64 c65 hp68 c69 hp72 c73)) hZ (hwd 22 rfl) (hwd 2 rfl) (by decide) (by decide)) (g := (mkF m 186 #[.val (.long q0), .second, .val (.int p1), .val (.long v1), .second, .val (.int z9), .val (.long y18), .second, .val (.int o21), .val (.long y30), .second, .val (.ref b33), .val (.int z50)] [(.long y30), (.int o21), (.int (6 : Int32)), (.ref b33)])) rfl (by rw [hml]; rfl) (argsL := [(.ref b33), (.int (6 : Int32)), (.int o21), (.long y30)]) (rest := []) (lenOf pd_20 rfl) rfl (by show 2 * 0 + _ ≤ _; exact Nat.le_of_eq rfl) (hb hby at_186) (fun _ _ => ⟨rfl, eq70, (by decide : 1 + 0 ≤ _), (by decide : 9 + 0 ≤ _)⟩)
                        dsimp only [Pt.U, Pt.locs, Pt.cells, Pt.slots] at X74 l74 y74 z74 st74 hQ74
                        subst l74 y74 z74
                        obtain ⟨o75, rfl, Nq74, eq74, hp76⟩ := hQ74
                        have N74 := Fr.app N70 Nq74
                        refine own_by st74 ?_
                        show own_Go p e below _ (T74.setTop (mkF m 189 #[.val (.long q0), .second, .val (.int p1), .val (.long v1), .second, .val (.int z9), .val (.long y18), .second, .val (.int o21), .val (.long y30), .second, .val (.ref b33), .val (.int z50)] [(.int o75)]))
                        by_cases c77 : o75 = (0 : Int32)
                        · skip
                          refine own_by (fun _ k => XS.ifYes X74.here hx rfl (pc0 := 189) (pc' := 224) rfl (hb hby at_189) rfl ((if0 _ _).trans (teq c77).1) (by decide) (by decide) k) ?_
                          show own_Go p e below _ (T74.setTop (mkF m 224 #[.val (.long q0), .second, .val (.int p1), .val (.long v1), .second, .val (.int z9), .val (.long y18), .second, .val (.int o21), .val (.long y30), .second, .val (.ref b33), .val (.int z50)] []))
                          refine own_by (fun _ k => XS.iconst X74.here hx rfl (hb hby at_224) k) ?_
                          show own_Go p e below _ (T74.setTop (mkF m 225 #[.val (.long q0), .second, .val (.int p1), .val (.long v1), .second, .val (.int z9), .val (.long y18), .second, .val (.int o21), .val (.long y30), .second, .val (.ref b33), .val (.int z50)] [(.int (0 : Int32))]))
                          exact own_retN X74 hx (t := .boolean) Bd.returns (by simp) (hb hby at_225) hlk eq74 ⟨((ob_0_40 q0 p1 v1 z9 y18 o21 y30 o35 b36 z50 o55 o59 o63 o67 o71 o75 hv1 hj10 hj19 hp22 hj31 hp40 c42 hj51 c53 hp56 c57 hp60 c61 hp64 c65 hp68 c69 hp72 c73 hp76 c77)).elim, N74⟩ (by decide) (by decide)
                        · skip
                          refine own_by (fun _ k => XS.ifNo X74.here hx rfl (hb hby at_189) rfl ((if0 _ _).trans (feq c77).1) k) ?_
                          show own_Go p e below _ (T74.setTop (mkF m 192 #[.val (.long q0), .second, .val (.int p1), .val (.long v1), .second, .val (.int z9), .val (.long y18), .second, .val (.int o21), .val (.long y30), .second, .val (.ref b33), .val (.int z50)] []))
                          refine own_by (fun _ k => XS.aload X74.here hx rfl (hb hby at_192) rfl rfl k) ?_
                          show own_Go p e below _ (T74.setTop (mkF m 194 #[.val (.long q0), .second, .val (.int p1), .val (.long v1), .second, .val (.int z9), .val (.long y18), .second, .val (.int o21), .val (.long y30), .second, .val (.ref b33), .val (.int z50)] [(.ref b33)]))
                          refine own_by (fun _ k => XS.bipush X74.here hx rfl (hb hby at_194) k) ?_
                          show own_Go p e below _ (T74.setTop (mkF m 196 #[.val (.long q0), .second, .val (.int p1), .val (.long v1), .second, .val (.int z9), .val (.long y18), .second, .val (.int o21), .val (.long y30), .second, .val (.ref b33), .val (.int z50)] [(.int (7 : Int32)), (.ref b33)]))
                          refine own_by (fun _ k => XS.iload X74.here hx rfl (hb hby at_196) rfl k) ?_
                          show own_Go p e below _ (T74.setTop (mkF m 198 #[.val (.long q0), .second, .val (.int p1), .val (.long v1), .second, .val (.int z9), .val (.long y18), .second, .val (.int o21), .val (.long y30), .second, .val (.ref b33), .val (.int z50)] [(.int o21), (.int (7 : Int32)), (.ref b33)]))
                          refine own_by (fun _ k => XS.lload X74.here hx rfl (hb hby at_198) rfl k) ?_
                          show own_Go p e below _ (T74.setTop (mkF m 200 #[.val (.long q0), .second, .val (.int p1), .val (.long v1), .second, .val (.int z9), .val (.long y18), .second, .val (.int o21), .val (.long y30), .second, .val (.ref b33), .val (.int z50)] [(.long y30), (.int o21), (.int (7 : Int32)), (.ref b33)]))
                          obtain ⟨_, _, ⟨T78, L78, k78, n78⟩, -, X78, ⟨Lc78, hQ78, l78, y78, z78⟩, st78⟩ := Jvm.LawKit.callS X74 hx (y := (⟨"com/example/nested_keyspace/nestedkeyspace/TypedPartsEncodeSignedPinLaw", "byteOk", "([BIIJ)Z"⟩ : MethodName)) hown (mvT hZ (hwd 20 rfl)) (mvT hZ (hwd 21 rfl)) (mvT hZ (hwd 2 rfl)) (mvT hZ (hwd 22 rfl)) (by decide) (backOf (W := 0) (rm6 l Z A0 hw [] b33 (7 : Int32) o21 y30 b34 o35 b36 T32.heap n0 Z32 F39 (ob_0_41 q0 p1 v1 z9 y18 o21 y30 o35 b36 z50 o55 o59 o63 o67 o71 o75 hv1 hj10 hj19 hp22 hj31 hp40 c42 hj51 c53 hp56 c57 hp60 c61 hp64 c65 hp68 c69 hp72 c73 hp76 c77)) hZ (hwd 22 rfl) (hwd 2 rfl) (by decide) (by decide)) (g := (mkF m 200 #[.val (.long q0), .second, .val (.int p1), .val (.long v1), .second, .val (.int z9), .val (.long y18), .second, .val (.int o21), .val (.long y30), .second, .val (.ref b33), .val (.int z50)] [(.long y30), (.int o21), (.int (7 : Int32)), (.ref b33)])) rfl (by rw [hml]; rfl) (argsL := [(.ref b33), (.int (7 : Int32)), (.int o21), (.long y30)]) (rest := []) (lenOf pd_20 rfl) rfl (by show 2 * 0 + _ ≤ _; exact Nat.le_of_eq rfl) (hb hby at_200) (fun _ _ => ⟨rfl, eq74, (by decide : 1 + 0 ≤ _), (by decide : 9 + 0 ≤ _)⟩)
                          dsimp only [Pt.U, Pt.locs, Pt.cells, Pt.slots] at X78 l78 y78 z78 st78 hQ78
                          subst l78 y78 z78
                          obtain ⟨o79, rfl, Nq78, eq78, hp80⟩ := hQ78
                          have N78 := Fr.app N74 Nq78
                          refine own_by st78 ?_
                          show own_Go p e below _ (T78.setTop (mkF m 203 #[.val (.long q0), .second, .val (.int p1), .val (.long v1), .second, .val (.int z9), .val (.long y18), .second, .val (.int o21), .val (.long y30), .second, .val (.ref b33), .val (.int z50)] [(.int o79)]))
                          by_cases c81 : o79 = (0 : Int32)
                          · skip
                            refine own_by (fun _ k => XS.ifYes X78.here hx rfl (pc0 := 203) (pc' := 224) rfl (hb hby at_203) rfl ((if0 _ _).trans (teq c81).1) (by decide) (by decide) k) ?_
                            show own_Go p e below _ (T78.setTop (mkF m 224 #[.val (.long q0), .second, .val (.int p1), .val (.long v1), .second, .val (.int z9), .val (.long y18), .second, .val (.int o21), .val (.long y30), .second, .val (.ref b33), .val (.int z50)] []))
                            refine own_by (fun _ k => XS.iconst X78.here hx rfl (hb hby at_224) k) ?_
                            show own_Go p e below _ (T78.setTop (mkF m 225 #[.val (.long q0), .second, .val (.int p1), .val (.long v1), .second, .val (.int z9), .val (.long y18), .second, .val (.int o21), .val (.long y30), .second, .val (.ref b33), .val (.int z50)] [(.int (0 : Int32))]))
                            exact own_retN X78 hx (t := .boolean) Bd.returns (by simp) (hb hby at_225) hlk eq78 ⟨((ob_0_42 q0 p1 v1 z9 y18 o21 y30 o35 b36 z50 o55 o59 o63 o67 o71 o75 o79 hv1 hj10 hj19 hp22 hj31 hp40 c42 hj51 c53 hp56 c57 hp60 c61 hp64 c65 hp68 c69 hp72 c73 hp76 c77 hp80 c81)).elim, N78⟩ (by decide) (by decide)
                          · skip
                            refine own_by (fun _ k => XS.ifNo X78.here hx rfl (hb hby at_203) rfl ((if0 _ _).trans (feq c81).1) k) ?_
                            show own_Go p e below _ (T78.setTop (mkF m 206 #[.val (.long q0), .second, .val (.int p1), .val (.long v1), .second, .val (.int z9), .val (.long y18), .second, .val (.int o21), .val (.long y30), .second, .val (.ref b33), .val (.int z50)] []))
                            refine own_by (fun _ k => XS.aload X78.here hx rfl (hb hby at_206) rfl rfl k) ?_
                            show own_Go p e below _ (T78.setTop (mkF m 208 #[.val (.long q0), .second, .val (.int p1), .val (.long v1), .second, .val (.int z9), .val (.long y18), .second, .val (.int o21), .val (.long y30), .second, .val (.ref b33), .val (.int z50)] [(.ref b33)]))
                            refine own_by (fun _ k => XS.bipush X78.here hx rfl (hb hby at_208) k) ?_
                            show own_Go p e below _ (T78.setTop (mkF m 210 #[.val (.long q0), .second, .val (.int p1), .val (.long v1), .second, .val (.int z9), .val (.long y18), .second, .val (.int o21), .val (.long y30), .second, .val (.ref b33), .val (.int z50)] [(.int (8 : Int32)), (.ref b33)]))
                            refine own_by (fun _ k => XS.iload X78.here hx rfl (hb hby at_210) rfl k) ?_
                            show own_Go p e below _ (T78.setTop (mkF m 212 #[.val (.long q0), .second, .val (.int p1), .val (.long v1), .second, .val (.int z9), .val (.long y18), .second, .val (.int o21), .val (.long y30), .second, .val (.ref b33), .val (.int z50)] [(.int o21), (.int (8 : Int32)), (.ref b33)]))
                            refine own_by (fun _ k => XS.lload X78.here hx rfl (hb hby at_212) rfl k) ?_
                            show own_Go p e below _ (T78.setTop (mkF m 214 #[.val (.long q0), .second, .val (.int p1), .val (.long v1), .second, .val (.int z9), .val (.long y18), .second, .val (.int o21), .val (.long y30), .second, .val (.ref b33), .val (.int z50)] [(.long y30), (.int o21), (.int (8 : Int32)), (.ref b33)]))
                            obtain ⟨_, _, ⟨T82, L82, k82, n82⟩, -, X82, ⟨Lc82, hQ82, l82, y82, z82⟩, st82⟩ := Jvm.LawKit.callS X78 hx (y := (⟨"com/example/nested_keyspace/nestedkeyspace/TypedPartsEncodeSignedPinLaw", "byteOk", "([BIIJ)Z"⟩ : MethodName)) hown (mvT hZ (hwd 20 rfl)) (mvT hZ (hwd 21 rfl)) (mvT hZ (hwd 2 rfl)) (mvT hZ (hwd 22 rfl)) (by decide) (backOf (W := 0) (rm6 l Z A0 hw [] b33 (8 : Int32) o21 y30 b34 o35 b36 T32.heap n0 Z32 F39 (ob_0_43 q0 p1 v1 z9 y18 o21 y30 o35 b36 z50 o55 o59 o63 o67 o71 o75 o79 hv1 hj10 hj19 hp22 hj31 hp40 c42 hj51 c53 hp56 c57 hp60 c61 hp64 c65 hp68 c69 hp72 c73 hp76 c77 hp80 c81)) hZ (hwd 22 rfl) (hwd 2 rfl) (by decide) (by decide)) (g := (mkF m 214 #[.val (.long q0), .second, .val (.int p1), .val (.long v1), .second, .val (.int z9), .val (.long y18), .second, .val (.int o21), .val (.long y30), .second, .val (.ref b33), .val (.int z50)] [(.long y30), (.int o21), (.int (8 : Int32)), (.ref b33)])) rfl (by rw [hml]; rfl) (argsL := [(.ref b33), (.int (8 : Int32)), (.int o21), (.long y30)]) (rest := []) (lenOf pd_20 rfl) rfl (by show 2 * 0 + _ ≤ _; exact Nat.le_of_eq rfl) (hb hby at_214) (fun _ _ => ⟨rfl, eq78, (by decide : 1 + 0 ≤ _), (by decide : 9 + 0 ≤ _)⟩)
                            dsimp only [Pt.U, Pt.locs, Pt.cells, Pt.slots] at X82 l82 y82 z82 st82 hQ82
                            subst l82 y82 z82
                            obtain ⟨o83, rfl, Nq82, eq82, hp84⟩ := hQ82
                            have N82 := Fr.app N78 Nq82
                            refine own_by st82 ?_
                            show own_Go p e below _ (T82.setTop (mkF m 217 #[.val (.long q0), .second, .val (.int p1), .val (.long v1), .second, .val (.int z9), .val (.long y18), .second, .val (.int o21), .val (.long y30), .second, .val (.ref b33), .val (.int z50)] [(.int o83)]))
                            by_cases c85 : o83 = (0 : Int32)
                            · skip
                              refine own_by (fun _ k => XS.ifYes X82.here hx rfl (pc0 := 217) (pc' := 224) rfl (hb hby at_217) rfl ((if0 _ _).trans (teq c85).1) (by decide) (by decide) k) ?_
                              show own_Go p e below _ (T82.setTop (mkF m 224 #[.val (.long q0), .second, .val (.int p1), .val (.long v1), .second, .val (.int z9), .val (.long y18), .second, .val (.int o21), .val (.long y30), .second, .val (.ref b33), .val (.int z50)] []))
                              refine own_by (fun _ k => XS.iconst X82.here hx rfl (hb hby at_224) k) ?_
                              show own_Go p e below _ (T82.setTop (mkF m 225 #[.val (.long q0), .second, .val (.int p1), .val (.long v1), .second, .val (.int z9), .val (.long y18), .second, .val (.int o21), .val (.long y30), .second, .val (.ref b33), .val (.int z50)] [(.int (0 : Int32))]))
                              exact own_retN X82 hx (t := .boolean) Bd.returns (by simp) (hb hby at_225) hlk eq82 ⟨((ob_0_44 q0 p1 v1 z9 y18 o21 y30 o35 b36 z50 o55 o59 o63 o67 o71 o75 o79 o83 hv1 hj10 hj19 hp22 hj31 hp40 c42 hj51 c53 hp56 c57 hp60 c61 hp64 c65 hp68 c69 hp72 c73 hp76 c77 hp80 c81 hp84 c85)).elim, N82⟩ (by decide) (by decide)
                            · skip
                              refine own_by (fun _ k => XS.ifNo X82.here hx rfl (hb hby at_217) rfl ((if0 _ _).trans (feq c85).1) k) ?_
                              show own_Go p e below _ (T82.setTop (mkF m 220 #[.val (.long q0), .second, .val (.int p1), .val (.long v1), .second, .val (.int z9), .val (.long y18), .second, .val (.int o21), .val (.long y30), .second, .val (.ref b33), .val (.int z50)] []))
                              refine own_by (fun _ k => XS.iconst X82.here hx rfl (hb hby at_220) k) ?_
                              show own_Go p e below _ (T82.setTop (mkF m 221 #[.val (.long q0), .second, .val (.int p1), .val (.long v1), .second, .val (.int z9), .val (.long y18), .second, .val (.int o21), .val (.long y30), .second, .val (.ref b33), .val (.int z50)] [(.int (1 : Int32))]))
                              refine own_by (fun _ k => XS.goto X82.here hx rfl (pc0 := 221) (pc' := 225) rfl (hb hby at_221) (by decide) (by decide) k) ?_
                              show own_Go p e below _ (T82.setTop (mkF m 225 #[.val (.long q0), .second, .val (.int p1), .val (.long v1), .second, .val (.int z9), .val (.long y18), .second, .val (.int o21), .val (.long y30), .second, .val (.ref b33), .val (.int z50)] [(.int (1 : Int32))]))
                              exact own_retN X82 hx (t := .boolean) Bd.returns (by simp) (hb hby at_225) hlk eq82 ⟨rfl, N82⟩ (by decide) (by decide)
            · skip
              refine own_by (fun _ k => XS.icmpNo X47.here hx rfl (hb hby at_108) rfl (feq c53).1 k) ?_
              show own_Go p e below _ (T45.setTop (mkF m 111 #[.val (.long q0), .second, .val (.int p1), .val (.long v1), .second, .val (.int z9), .val (.long y18), .second, .val (.int o21), .val (.long y30), .second, .val (.ref b33), .val (.int z50)] []))
              refine own_by (fun _ k => XS.iconst X47.here hx rfl (hb hby at_111) k) ?_
              show own_Go p e below _ (T45.setTop (mkF m 112 #[.val (.long q0), .second, .val (.int p1), .val (.long v1), .second, .val (.int z9), .val (.long y18), .second, .val (.int o21), .val (.long y30), .second, .val (.ref b33), .val (.int z50)] [(.int (0 : Int32))]))
              exact own_retN X47 hx (t := .boolean) Bd.returns (by simp) (hb hby at_112) hlk e48 ⟨((ob_0_45 q0 p1 v1 z9 y18 o21 y30 o35 b36 z50 hv1 hj10 hj19 hp22 hj31 hp40 c42 hj51 c53)).elim, N49⟩ (by decide) (by decide)
          by_cases c43 : z9 = (0 : Int32)
          · skip
            refine own_by (fun _ k => XS.ifYes X32.here hx rfl (pc0 := 78) (pc' := 90) rfl (hb hby at_78) rfl ((if0 _ _).trans (teq c43).1) (by decide) (by decide) k) ?_
            show own_Go p e below _ (T32.setTop (mkF m 90 #[.val (.long q0), .second, .val (.int p1), .val (.long v1), .second, .val (.int z9), .val (.long y18), .second, .val (.int o21), .val (.long y30), .second, .val (.ref b33), .unset] []))
            refine own_by (fun _ k => XS.sipush X32.here hx rfl (hb hby at_90) k) ?_
            show own_Go p e below _ (T32.setTop (mkF m 93 #[.val (.long q0), .second, .val (.int p1), .val (.long v1), .second, .val (.int z9), .val (.long y18), .second, .val (.int o21), .val (.long y30), .second, .val (.ref b33), .unset] [(.int (128 : Int32))]))
            refine own_by (fun _ k => XS.iload X32.here hx rfl (hb hby at_93) rfl k) ?_
            show own_Go p e below _ (T32.setTop (mkF m 95 #[.val (.long q0), .second, .val (.int p1), .val (.long v1), .second, .val (.int z9), .val (.long y18), .second, .val (.int o21), .val (.long y30), .second, .val (.ref b33), .unset] [(.int o21), (.int (128 : Int32))]))
            refine own_by (fun _ k => XS.iadd X32.here hx rfl (hb hby at_95) rfl k) ?_
            show own_Go p e below _ (T32.setTop (mkF m 96 #[.val (.long q0), .second, .val (.int p1), .val (.long v1), .second, .val (.int z9), .val (.long y18), .second, .val (.int o21), .val (.long y30), .second, .val (.ref b33), .unset] [(.int ((128 : Int32) + o21))]))
            exact J44 _ _ (((128 : Int32) + o21)) X32 rfl N32 (Or.inl ⟨c43, rfl⟩)
          · skip
            refine own_by (fun _ k => XS.ifNo X32.here hx rfl (hb hby at_78) rfl ((if0 _ _).trans (feq c43).1) k) ?_
            show own_Go p e below _ (T32.setTop (mkF m 81 #[.val (.long q0), .second, .val (.int p1), .val (.long v1), .second, .val (.int z9), .val (.long y18), .second, .val (.int o21), .val (.long y30), .second, .val (.ref b33), .unset] []))
            refine own_by (fun _ k => XS.sipush X32.here hx rfl (hb hby at_81) k) ?_
            show own_Go p e below _ (T32.setTop (mkF m 84 #[.val (.long q0), .second, .val (.int p1), .val (.long v1), .second, .val (.int z9), .val (.long y18), .second, .val (.int o21), .val (.long y30), .second, .val (.ref b33), .unset] [(.int (128 : Int32))]))
            refine own_by (fun _ k => XS.iload X32.here hx rfl (hb hby at_84) rfl k) ?_
            show own_Go p e below _ (T32.setTop (mkF m 86 #[.val (.long q0), .second, .val (.int p1), .val (.long v1), .second, .val (.int z9), .val (.long y18), .second, .val (.int o21), .val (.long y30), .second, .val (.ref b33), .unset] [(.int o21), (.int (128 : Int32))]))
            refine own_by (fun _ k => XS.isub X32.here hx rfl (hb hby at_86) rfl k) ?_
            show own_Go p e below _ (T32.setTop (mkF m 87 #[.val (.long q0), .second, .val (.int p1), .val (.long v1), .second, .val (.int z9), .val (.long y18), .second, .val (.int o21), .val (.long y30), .second, .val (.ref b33), .unset] [(.int ((128 : Int32) - o21))]))
            refine own_by (fun _ k => XS.goto X32.here hx rfl (pc0 := 87) (pc' := 96) rfl (hb hby at_87) (by decide) (by decide) k) ?_
            show own_Go p e below _ (T32.setTop (mkF m 96 #[.val (.long q0), .second, .val (.int p1), .val (.long v1), .second, .val (.int z9), .val (.long y18), .second, .val (.int o21), .val (.long y30), .second, .val (.ref b33), .unset] [(.int ((128 : Int32) - o21))]))
            exact J44 _ _ (((128 : Int32) - o21)) X32 rfl N32 (Or.inr (⟨c43, rfl⟩))
        · skip
          refine own_by (fun _ k => XS.icmpNo X32.here hx rfl (hb hby at_71) rfl (feq c42).1 k) ?_
          show own_Go p e below _ (T32.setTop (mkF m 74 #[.val (.long q0), .second, .val (.int p1), .val (.long v1), .second, .val (.int z9), .val (.long y18), .second, .val (.int o21), .val (.long y30), .second, .val (.ref b33), .unset] []))
          refine own_by (fun _ k => XS.iconst X32.here hx rfl (hb hby at_74) k) ?_
          show own_Go p e below _ (T32.setTop (mkF m 75 #[.val (.long q0), .second, .val (.int p1), .val (.long v1), .second, .val (.int z9), .val (.long y18), .second, .val (.int o21), .val (.long y30), .second, .val (.ref b33), .unset] [(.int (0 : Int32))]))
          exact own_retN X32 hx (t := .boolean) Bd.returns (by simp) (hb hby at_75) hlk rfl ⟨((ob_0_46 q0 p1 v1 z9 y18 o21 y30 o35 b36 hv1 hj10 hj19 hp22 hj31 hp40 c42)).elim, N32⟩ (by decide) (by decide)
      by_cases c23 : z9 = (0 : Int32)
      · skip
        refine own_by (fun _ k => XS.ifYes X20.here hx rfl (pc0 := 42) (pc' := 54) rfl (hb hby at_42) rfl ((if0 _ _).trans (teq c23).1) (by decide) (by decide) k) ?_
        show own_Go p e below _ (T20.setTop (mkF m 54 #[.val (.long q0), .second, .val (.int p1), .val (.long v1), .second, .val (.int z9), .val (.long y18), .second, .val (.int o21), .unset, .unset, .unset, .unset] []))
        refine own_by (fun _ k => XS.lload X20.here hx rfl (hb hby at_54) rfl k) ?_
        show own_Go p e below _ (T20.setTop (mkF m 56 #[.val (.long q0), .second, .val (.int p1), .val (.long v1), .second, .val (.int z9), .val (.long y18), .second, .val (.int o21), .unset, .unset, .unset, .unset] [(.long y18)]))
        exact J24 _ _ y18 X20 eq20 N20 (Or.inl ⟨c23, rfl⟩)
      · skip
        refine own_by (fun _ k => XS.ifNo X20.here hx rfl (hb hby at_42) rfl ((if0 _ _).trans (feq c23).1) k) ?_
        show own_Go p e below _ (T20.setTop (mkF m 45 #[.val (.long q0), .second, .val (.int p1), .val (.long v1), .second, .val (.int z9), .val (.long y18), .second, .val (.int o21), .unset, .unset, .unset, .unset] []))
        refine own_by (fun _ k => XS.lload X20.here hx rfl (hb hby at_45) rfl k) ?_
        show own_Go p e below _ (T20.setTop (mkF m 47 #[.val (.long q0), .second, .val (.int p1), .val (.long v1), .second, .val (.int z9), .val (.long y18), .second, .val (.int o21), .unset, .unset, .unset, .unset] [(.long y18)]))
        refine own_by (fun t k => X20.ldc2Long hx hown (mvT hZ (hwd 23 rfl)) (g := (mkF m 47 #[.val (.long q0), .second, .val (.int p1), .val (.long v1), .second, .val (.int z9), .val (.long y18), .second, .val (.int o21), .unset, .unset, .unset, .unset] [(.long y18)])) rfl (hb hby at_47) _ k) ?_
        show own_Go p e below _ (T20.setTop (mkF m 50 #[.val (.long q0), .second, .val (.int p1), .val (.long v1), .second, .val (.int z9), .val (.long y18), .second, .val (.int o21), .unset, .unset, .unset, .unset] [(.long (-1 : Int64)), (.long y18)]))
        refine own_by (fun _ k => XS.lxor X20.here hx rfl (hb hby at_50) rfl k) ?_
        show own_Go p e below _ (T20.setTop (mkF m 51 #[.val (.long q0), .second, .val (.int p1), .val (.long v1), .second, .val (.int z9), .val (.long y18), .second, .val (.int o21), .unset, .unset, .unset, .unset] [(.long (y18 ^^^ (-1 : Int64)))]))
        refine own_by (fun _ k => XS.goto X20.here hx rfl (pc0 := 51) (pc' := 56) rfl (hb hby at_51) (by decide) (by decide) k) ?_
        show own_Go p e below _ (T20.setTop (mkF m 56 #[.val (.long q0), .second, .val (.int p1), .val (.long v1), .second, .val (.int z9), .val (.long y18), .second, .val (.int o21), .unset, .unset, .unset, .unset] [(.long (y18 ^^^ (-1 : Int64)))]))
        exact J24 _ _ ((y18 ^^^ (-1 : Int64))) X20 eq20 N20 (Or.inr (⟨c23, rfl⟩))
    by_cases c11 : z9 = (0 : Int32)
    · skip
      refine own_by (fun _ k => XS.ifYes X6.here hx rfl (pc0 := 22) (pc' := 30) rfl (hb hby at_22) rfl ((if0 _ _).trans (teq c11).1) (by decide) (by decide) k) ?_
      show own_Go p e below _ (T4.setTop (mkF m 30 #[.val (.long q0), .second, .val (.int p1), .val (.long v1), .second, .val (.int z9), .unset, .unset, .unset, .unset, .unset, .unset, .unset] []))
      refine own_by (fun _ k => XS.lloadN X6.here hx rfl (hb hby at_30) rfl k) ?_
      show own_Go p e below _ (T4.setTop (mkF m 31 #[.val (.long q0), .second, .val (.int p1), .val (.long v1), .second, .val (.int z9), .unset, .unset, .unset, .unset, .unset, .unset, .unset] [(.long v1)]))
      exact J12 _ _ v1 X6 e7 N8 (Or.inl ⟨c11, rfl⟩)
    · skip
      refine own_by (fun _ k => XS.ifNo X6.here hx rfl (hb hby at_22) rfl ((if0 _ _).trans (feq c11).1) k) ?_
      show own_Go p e below _ (T4.setTop (mkF m 25 #[.val (.long q0), .second, .val (.int p1), .val (.long v1), .second, .val (.int z9), .unset, .unset, .unset, .unset, .unset, .unset, .unset] []))
      refine own_by (fun _ k => XS.lloadN X6.here hx rfl (hb hby at_25) rfl k) ?_
      show own_Go p e below _ (T4.setTop (mkF m 26 #[.val (.long q0), .second, .val (.int p1), .val (.long v1), .second, .val (.int z9), .unset, .unset, .unset, .unset, .unset, .unset, .unset] [(.long v1)]))
      refine own_by (fun _ k => XS.lneg X6.here hx rfl (hb hby at_26) rfl k) ?_
      show own_Go p e below _ (T4.setTop (mkF m 27 #[.val (.long q0), .second, .val (.int p1), .val (.long v1), .second, .val (.int z9), .unset, .unset, .unset, .unset, .unset, .unset, .unset] [(.long (-v1))]))
      refine own_by (fun _ k => XS.goto X6.here hx rfl (pc0 := 27) (pc' := 31) rfl (hb hby at_27) (by decide) (by decide) k) ?_
      show own_Go p e below _ (T4.setTop (mkF m 31 #[.val (.long q0), .second, .val (.int p1), .val (.long v1), .second, .val (.int z9), .unset, .unset, .unset, .unset, .unset, .unset, .unset] [(.long (-v1))]))
      exact J12 _ _ ((-v1)) X6 e7 N8 (Or.inr (⟨c11, rfl⟩))
  by_cases c2 : v1 < (0 : Int64)
  · skip
    refine own_by (fun _ k => XS.ifNo X0.here hx rfl (hb hby at_10) rfl ((if0 _ _).trans (tlt ((lw_lt _ _).mpr c2)).2.1) k) ?_
    show own_Go p e below _ (s₁.setTop (mkF m 13 #[.val (.long q0), .second, .val (.int p1), .val (.long v1), .second, .unset, .unset, .unset, .unset, .unset, .unset, .unset, .unset] []))
    refine own_by (fun _ k => XS.iconst X0.here hx rfl (hb hby at_13) k) ?_
    show own_Go p e below _ (s₁.setTop (mkF m 14 #[.val (.long q0), .second, .val (.int p1), .val (.long v1), .second, .unset, .unset, .unset, .unset, .unset, .unset, .unset, .unset] [(.int (1 : Int32))]))
    refine own_by (fun _ k => XS.goto X0.here hx rfl (pc0 := 14) (pc' := 18) rfl (hb hby at_14) (by decide) (by decide) k) ?_
    show own_Go p e below _ (s₁.setTop (mkF m 18 #[.val (.long q0), .second, .val (.int p1), .val (.long v1), .second, .unset, .unset, .unset, .unset, .unset, .unset, .unset, .unset] [(.int (1 : Int32))]))
    exact J3 _ _ (1 : Int32) X0 e0 N0 (Or.inl ⟨c2, rfl⟩)
  · skip
    refine own_by (fun _ k => XS.ifYes X0.here hx rfl (pc0 := 10) (pc' := 17) rfl (hb hby at_10) rfl ((if0 _ _).trans (flt (fun q => c2 ((lw_lt _ _).mp q))).2.1) (by decide) (by decide) k) ?_
    show own_Go p e below _ (s₁.setTop (mkF m 17 #[.val (.long q0), .second, .val (.int p1), .val (.long v1), .second, .unset, .unset, .unset, .unset, .unset, .unset, .unset, .unset] []))
    refine own_by (fun _ k => XS.iconst X0.here hx rfl (hb hby at_17) k) ?_
    show own_Go p e below _ (s₁.setTop (mkF m 18 #[.val (.long q0), .second, .val (.int p1), .val (.long v1), .second, .unset, .unset, .unset, .unset, .unset, .unset, .unset, .unset] [(.int (0 : Int32))]))
    exact J3 _ _ (0 : Int32) X0 e0 N0 (Or.inr (⟨c2, rfl⟩))
set_option maxRecDepth 65536 in
set_option maxHeartbeats 40000000 in
theorem comes_1 {Post : Tables → Env → Array Value → State → Outcome → State → Prop} (hpost : ∀ tb e args s v u, (limb_1_1.after args s (.returned v) u = true ∧ limb_1_2.after args s (.returned v) u = true ∧ True) → FrameEnd s (.returned v) u (Jvm.fieldLocs frame_1_writes args s ++ Jvm.arrayLocs frame_1_arrays args s ++ Jvm.staticLocs frame_1_statics s) 16 128 → Post tb e args s (.returned v) u) :
    ArmFor flags0 classFile x code maxLocals ret World_1 tables_1 room_1 Calls_1 rest_1 Pre_1 Post := by
  intro l hfl _ _ p e ha hc hk s m args below hf hA hF happ hP
  obtain ⟨hcalls, hrest, hpre⟩ := hP
  obtain ⟨-, -, -, hnamed, -, -, -, hat⟩ := (Spec.applies_iff hf).mp happ
  obtain ⟨hg, hn⟩ := and_e (Cond.before_iff.mp (show (Jvm.Cond.and given_1 narrow_1).before args s = true from hpre))
  obtain ⟨g0, r0⟩ := and_e hg
  obtain ⟨ga0, r1⟩ := and_e r0
  obtain ⟨w0, w1, rfl⟩ : ∃ w0 w1 : Value, args = #[w0, w1] := by
    have hs : args.size = 2 := by simpa [Cond.value, given_1] using g0
    obtain ⟨L⟩ := args
    match L, hs with
    | [w0, w1], _ => exact ⟨w0, w1, rfl⟩
  have hw := fun d (hd : d ∈ tables_1) => atoms_spec (ws := Jvm.Cond.code x code maxLocals ret :: tables_1) hat d (List.mem_cons_of_mem _ hd)
  have hwd := fun i {d : Jvm.Cond} (h : tables_1[i]? = some d) => hw d (List.mem_of_getElem? h)
  have hfit : Fit s := fun {y c} hc i hi => by
    obtain ⟨ha, rfl⟩ := Array.getElem?_eq_some_iff.mp hc
    have q := List.all_eq_true.mp ((Array.all_eq_true_iff_forall_mem.mp hF) _ (Array.getElem_mem ha)) i (List.mem_range.mpr hi)
    simpa [Array.getElem?_eq_getElem hi] using q
  obtain ⟨i0, ei0⟩ := isL_v ga0
  obtain rfl : w0 = (.long i0) := Option.some.inj ei0
  obtain ⟨i1, ei1⟩ := is_v r1
  obtain rfl : w1 = (.int i1) := Option.some.inj ei1
  obtain ⟨n, o, h1, h2, h3, _, L, rfl, ⟨rfl, N⟩, hq⟩ := rm0 l s _ hw tables_1 i0 i1 s.heap s.heap.size (Nat.le_refl _)  p e ha hc hk s m _ below hf ((Spec.applies_iff_loose hf).mp happ).1 ⟨rfl, State.Warmed39.refl s, rfl⟩ trivial
  refine ⟨n, _, h1, h2, h3, hpost _ _ _ _ _ _ ⟨Cond.after_iff.mpr rfl, Cond.after_iff.mpr (eq_i res_at (Term.int_eval (1)) rfl), trivial⟩ ⟨hq.1, hq.2.1, (hq.2.2.sift fun y hy => Or.inr (N y hy)).mono (by decide) (by decide)⟩⟩
theorem main_1_1 : Claimed_1_1 := comes_1 fun _ _ _ _ _ _ h hF => ⟨h.1, hF⟩
theorem main_1_2 : Claimed_1_2 := comes_1 fun _ _ _ _ _ _ h hF => ⟨h.2.1, hF⟩
end Jvm.Pilot.@@N@@
namespace Jvm.Pilot.@@N@@
open Jvm Jvm.ClassFile Sem Op Lib Jvm.Free Jvm.Stand Jvm.Pilot.@@N@@.Jvm.D
/-! MADE BY PROGRAM (witnessworld.py) out of the Statement's table words and the real class files: 15 classes; the members and pool entries that the words name. The judged class is class 1, her method 1. -/
namespace start1
open Jvm.ClassFile
def u (s : String) : CpInfo := .utf8 (stringToUtf16 s)
/-- a pool by its gaps: so many unusable entries, then the entry; so many at the end -/
def gap : Nat → List CpInfo → List CpInfo
  | 0, r => r
  | n + 1, r => .unusable :: gap n r
def poolList (es : List (Nat × CpInfo)) (last : Nat) : List CpInfo := es.foldr (fun e r => gap e.1 (e.2 :: r)) (gap last [])
def pool (es : List (Nat × CpInfo)) (last : Nat) : Array CpInfo := ⟨poolList es last⟩
def fileOf (pool : Array CpInfo) (this : Nat) (attrs : Array Attribute := #[]) (ms : Array MethodInfo := #[]) (fl : Nat := 33) (sup : Nat := 0) (ifs : Array Nat := #[]) (fds : Array FieldInfo := #[]) : ClassFile where
  minorVersion := 0
  majorVersion := 65
  constantPool := pool
  accessFlags := fl
  thisClass := this
  superClass := sup
  interfaces := ifs
  fields := fds
  methods := ms
  attributes := attrs
def plain (name : String) (sup : Option ClassId) : Class where
  name := name
  kind := .ordinary
  loader := none
  accessFlags := 33
  super := sup
  interfaces := #[]
  cf := none
  fields := #[]
  methods := #[]
  instanceTypes := #[]
  staticTypes := #[]
  resolved := #[]
  callSites := []
  init := .initialized
  statics := none
  mirror := none

def pool0 : Array CpInfo := pool [(5, u "<init>"), (0, u "()V"), (1, .class_ 10), (1, u "java/lang/Object")] 113

def k0m0 : Method := { name := "<init>", desc := "()V", sig := { parameters := [], returnType := none }, accessFlags := 1, code := none }
/-- java/lang/Object -/
def k0 : Class := { plain "java/lang/Object" none with
  accessFlags := 33
  interfaces := #[]
  cf := some (fileOf pool0 8 #[] #[{ accessFlags := 1, nameIndex := 5, descriptorIndex := 6, attributes := #[] }] 33 0 #[] #[])
  fields := #[]
  methods := #[k0m0]
  instanceTypes := #[]
  staticTypes := #[]
  resolved := Array.replicate 124 none
  statics := none }

def pool1 : Array CpInfo := pool [(2, .class_ 4), (1, u "java/lang/Object"), (0, u "<init>"), (0, u "()V"), (0, .methodref 8 9), (0, .class_ 10), (0, .nameAndType 11 12), (0, u "com/example/nested_keyspace/nestedkeyspace/TypedPartsEncodeSignedPinLaw"), (0, u "byteCount"), (0, u "(J)I"), (0, .long 18446744073709551615), (1, .methodref 16 17), (0, .class_ 18), (0, .nameAndType 19 20), (0, u "com/example/nested_keyspace/nestedkeyspace/TypedParts"), (0, u "encodeSigned"), (0, u "(J)[B"), (0, .methodref 8 22), (0, .nameAndType 23 24), (0, u "byteOk"), (0, u "([BIIJ)Z"), (2, u "law"), (0, u "(JI)Z")] 5

def k1m0 : Method := { name := "<init>", desc := "()V", sig := { parameters := [], returnType := none }, accessFlags := 1, code := none }
def k1c1 : Code := { maxStack := 5, maxLocals := 13, code := code, exceptionTable := #[], attributes := #[] }
def k1m1 : Method := { name := "law", desc := "(JI)Z", sig := { parameters := [.long, .int], returnType := some .boolean }, accessFlags := 9, code := some k1c1 }
def k1c2 : Code := { maxStack := 4, maxLocals := 2, code := method_3_code, exceptionTable := #[], attributes := #[] }
def k1m2 : Method := { name := "byteCount", desc := "(J)I", sig := { parameters := [.long], returnType := some .int }, accessFlags := 10, code := some k1c2 }
def k1c3 : Code := { maxStack := 6, maxLocals := 5, code := method_4_code, exceptionTable := #[], attributes := #[] }
def k1m3 : Method := { name := "byteOk", desc := "([BIIJ)Z", sig := { parameters := [(.array .byte), .int, .int, .long], returnType := some .boolean }, accessFlags := 10, code := some k1c3 }
/-- com/example/nested_keyspace/nestedkeyspace/TypedPartsEncodeSignedPinLaw -/
def k1 : Class := { plain "com/example/nested_keyspace/nestedkeyspace/TypedPartsEncodeSignedPinLaw" (some 0) with
  accessFlags := 49
  interfaces := #[]
  cf := some (fileOf pool1 8 #[] #[{ accessFlags := 1, nameIndex := 5, descriptorIndex := 6, attributes := #[] }, { accessFlags := 9, nameIndex := 27, descriptorIndex := 28, attributes := #[] }, { accessFlags := 10, nameIndex := 11, descriptorIndex := 12, attributes := #[] }, { accessFlags := 10, nameIndex := 23, descriptorIndex := 24, attributes := #[] }] 49 2 #[] #[])
  fields := #[]
  methods := #[k1m0, k1m1, k1m2, k1m3]
  instanceTypes := #[]
  staticTypes := #[]
  resolved := Array.replicate 34 none
  statics := none }

def pool2 : Array CpInfo := pool [(1, .class_ 2), (0, u "java/lang/Long"), (1, .class_ 6), (1, u "java/lang/Object"), (0, u "<init>"), (0, u "()V"), (0, .methodref 1 10), (0, .nameAndType 11 12), (0, u "numberOfLeadingZeros"), (0, u "(J)I"), (0, .class_ 14), (0, u "com/example/nested_keyspace/nestedkeyspace/TypedParts"), (0, .methodref 13 16), (0, .nameAndType 17 18), (0, u "writeBigEndian"), (0, u "(J[BII)V"), (152, u "ZERO_HEADER"), (0, u "I"), (2, u "MAX_SIGNED_BODY"), (3, u "encodeSigned"), (0, u "(J)[B")] 48

def k2m0 : Method := { name := "<init>", desc := "()V", sig := { parameters := [], returnType := none }, accessFlags := 2, code := none }
def k2c1 : Code := { maxStack := 5, maxLocals := 7, code := prog_20_method_2_code, exceptionTable := #[], attributes := #[] }
def k2m1 : Method := { name := "encodeSigned", desc := "(J)[B", sig := { parameters := [.long], returnType := some (.array .byte) }, accessFlags := 9, code := some k2c1 }
def k2c2 : Code := { maxStack := 4, maxLocals := 8, code := prog_20_method_14_code, exceptionTable := #[], attributes := #[] }
def k2m2 : Method := { name := "writeBigEndian", desc := "(J[BII)V", sig := { parameters := [.long, (.array .byte), .int, .int], returnType := none }, accessFlags := 10, code := some k2c2 }
/-- com/example/nested_keyspace/nestedkeyspace/TypedParts -/
def k2 : Class := { plain "com/example/nested_keyspace/nestedkeyspace/TypedParts" (some 0) with
  accessFlags := 33
  interfaces := #[]
  cf := some (fileOf pool2 13 #[] #[{ accessFlags := 2, nameIndex := 7, descriptorIndex := 8, attributes := #[] }, { accessFlags := 9, nameIndex := 179, descriptorIndex := 180, attributes := #[] }, { accessFlags := 10, nameIndex := 17, descriptorIndex := 18, attributes := #[] }] 33 4 #[] #[{ accessFlags := 26, nameIndex := 171, descriptorIndex := 172, attributes := #[] }, { accessFlags := 26, nameIndex := 175, descriptorIndex := 172, attributes := #[] }])
  fields := #[{ name := "ZERO_HEADER", type := .int, accessFlags := 26, slot := 0, constantValue := 0 }, { name := "MAX_SIGNED_BODY", type := .int, accessFlags := 26, slot := 1, constantValue := 0 }]
  methods := #[k2m0, k2m1, k2m2]
  instanceTypes := #[]
  staticTypes := #[.int, .int]
  resolved := Array.replicate 229 none
  statics := none }

def pool3 : Array CpInfo := pool [(1, .class_ 2), (0, u "java/io/Serializable"), (0, .class_ 4), (0, u "java/lang/Object")] 2

/-- java/io/Serializable -/
def k3 : Class := { plain "java/io/Serializable" (some 0) with
  accessFlags := 1537
  interfaces := #[]
  cf := some (fileOf pool3 1 #[] #[] 1537 3 #[] #[])
  fields := #[]
  methods := #[]
  instanceTypes := #[]
  staticTypes := #[]
  resolved := Array.replicate 7 none
  statics := none }

def pool4 : Array CpInfo := pool [(2, .class_ 4), (1, u "java/lang/Object"), (0, u "<init>"), (0, u "()V"), (1, .class_ 10), (1, u "java/lang/Number"), (2, .class_ 14), (0, u "java/io/Serializable"), (0, u "serialVersionUID"), (0, u "J")] 20

def k4m0 : Method := { name := "<init>", desc := "()V", sig := { parameters := [], returnType := none }, accessFlags := 1, code := none }
/-- java/lang/Number -/
def k4 : Class := { plain "java/lang/Number" (some 0) with
  accessFlags := 1057
  interfaces := #[3]
  cf := some (fileOf pool4 8 #[] #[{ accessFlags := 1, nameIndex := 5, descriptorIndex := 6, attributes := #[] }] 1057 2 #[13] #[{ accessFlags := 26, nameIndex := 15, descriptorIndex := 16, attributes := #[] }])
  fields := #[{ name := "serialVersionUID", type := .long, accessFlags := 26, slot := 0, constantValue := 0 }]
  methods := #[k4m0]
  instanceTypes := #[]
  staticTypes := #[.long]
  resolved := Array.replicate 37 none
  statics := none }

def pool5 : Array CpInfo := pool [(1, .class_ 2), (0, u "java/lang/Comparable"), (0, .class_ 4), (0, u "java/lang/Object")] 7

/-- java/lang/Comparable -/
def k5 : Class := { plain "java/lang/Comparable" (some 0) with
  accessFlags := 1537
  interfaces := #[]
  cf := some (fileOf pool5 1 #[] #[] 1537 3 #[] #[])
  fields := #[]
  methods := #[]
  instanceTypes := #[]
  staticTypes := #[]
  resolved := Array.replicate 12 none
  statics := none }

def pool6 : Array CpInfo := pool [(1, .class_ 2), (0, u "java/lang/constant/Constable"), (0, .class_ 4), (0, u "java/lang/Object")] 6

/-- java/lang/constant/Constable -/
def k6 : Class := { plain "java/lang/constant/Constable" (some 0) with
  accessFlags := 1537
  interfaces := #[]
  cf := some (fileOf pool6 1 #[] #[] 1537 3 #[] #[])
  fields := #[]
  methods := #[]
  instanceTypes := #[]
  staticTypes := #[]
  resolved := Array.replicate 11 none
  statics := none }

def pool7 : Array CpInfo := pool [(1, .class_ 2), (0, u "java/lang/constant/ConstantDesc"), (0, .class_ 4), (0, u "java/lang/Object")] 32

/-- java/lang/constant/ConstantDesc -/
def k7 : Class := { plain "java/lang/constant/ConstantDesc" (some 0) with
  accessFlags := 1537
  interfaces := #[]
  cf := some (fileOf pool7 1 #[] #[] 1537 3 #[] #[])
  fields := #[]
  methods := #[]
  instanceTypes := #[]
  staticTypes := #[]
  resolved := Array.replicate 37 none
  statics := none }

def pool8 : Array CpInfo := pool [(1, .class_ 2), (0, u "java/lang/Long"), (15, .class_ 20), (1, u "java/lang/Integer"), (79, u "numberOfLeadingZeros"), (0, u "(J)I"), (133, .class_ 237), (1, u "java/lang/Long$LongCache"), (33, .class_ 272), (0, u "java/lang/Number"), (2, u "value"), (0, u "J"), (31, .methodref 18 309), (0, .nameAndType 100 310), (0, u "(I)I"), (50, u "TYPE"), (0, u "Ljava/lang/Class;"), (0, .class_ 364), (0, u "java/lang/Comparable"), (0, .class_ 366), (0, u "java/lang/constant/Constable"), (0, .class_ 368), (0, u "java/lang/constant/ConstantDesc"), (0, u "MIN_VALUE"), (1, u "MAX_VALUE"), (4, u "SIZE"), (0, u "I"), (1, u "BYTES"), (1, u "serialVersionUID")] 142

def k8c0 : Code := { maxStack := 3, maxLocals := 3, code := jdk_35_method_48_code, exceptionTable := #[], attributes := #[] }
def k8m0 : Method := { name := "numberOfLeadingZeros", desc := "(J)I", sig := { parameters := [.long], returnType := some .int }, accessFlags := 9, code := some k8c0 }
/-- java/lang/Long -/
def k8 : Class := { plain "java/lang/Long" (some 4) with
  accessFlags := 49
  interfaces := #[5, 6, 7]
  cf := some (fileOf pool8 1 #[.nestMembers #[235]] #[{ accessFlags := 9, nameIndex := 100, descriptorIndex := 101, attributes := #[] }] 49 271 #[363, 365, 367] #[{ accessFlags := 25, nameIndex := 369, descriptorIndex := 276, attributes := #[] }, { accessFlags := 25, nameIndex := 371, descriptorIndex := 276, attributes := #[] }, { accessFlags := 25, nameIndex := 361, descriptorIndex := 362, attributes := #[] }, { accessFlags := 18, nameIndex := 275, descriptorIndex := 276, attributes := #[] }, { accessFlags := 25, nameIndex := 376, descriptorIndex := 377, attributes := #[] }, { accessFlags := 25, nameIndex := 379, descriptorIndex := 377, attributes := #[] }, { accessFlags := 26, nameIndex := 381, descriptorIndex := 276, attributes := #[] }])
  fields := #[{ name := "MIN_VALUE", type := .long, accessFlags := 25, slot := 0, constantValue := 0 }, { name := "MAX_VALUE", type := .long, accessFlags := 25, slot := 1, constantValue := 0 }, { name := "TYPE", type := (.object "java/lang/Class"), accessFlags := 25, slot := 2, constantValue := 0 }, { name := "value", type := .long, accessFlags := 18, slot := 0, constantValue := 0 }, { name := "SIZE", type := .int, accessFlags := 25, slot := 3, constantValue := 0 }, { name := "BYTES", type := .int, accessFlags := 25, slot := 4, constantValue := 0 }, { name := "serialVersionUID", type := .long, accessFlags := 26, slot := 5, constantValue := 0 }]
  methods := #[k8m0]
  instanceTypes := #[.long]
  staticTypes := #[.long, .long, (.object "java/lang/Class"), .int, .int, .long]
  resolved := Array.replicate 524 none
  statics := none }

def pool9 : Array CpInfo := pool [(1, .class_ 2), (0, u "java/lang/Integer"), (16, u "digits"), (0, u "[C"), (32, u "numberOfLeadingZeros"), (0, u "(I)I"), (30, u "DigitOnes"), (0, u "[B"), (2, u "DigitTens"), (99, .class_ 190), (0, u "java/lang/Integer$IntegerCache"), (3, u "I"), (8, .class_ 204), (0, u "java/lang/Number"), (2, u "value"), (56, .integer 65536), (37, u "TYPE"), (0, u "Ljava/lang/Class;"), (0, .class_ 305), (0, u "java/lang/Comparable"), (0, .class_ 307), (0, u "java/lang/constant/Constable"), (0, .class_ 309), (0, u "java/lang/constant/ConstantDesc"), (0, u "MIN_VALUE"), (1, u "MAX_VALUE"), (3, u "SIZE"), (1, u "BYTES"), (1, u "serialVersionUID"), (0, u "J")] 131

def k9c0 : Code := { maxStack := 3, maxLocals := 2, code := jdk_33_method_47_code, exceptionTable := #[], attributes := #[] }
def k9m0 : Method := { name := "numberOfLeadingZeros", desc := "(I)I", sig := { parameters := [.int], returnType := some .int }, accessFlags := 9, code := some k9c0 }
/-- java/lang/Integer -/
def k9 : Class := { plain "java/lang/Integer" (some 4) with
  accessFlags := 49
  interfaces := #[5, 6, 7]
  cf := some (fileOf pool9 1 #[.nestMembers #[189]] #[{ accessFlags := 9, nameIndex := 53, descriptorIndex := 54, attributes := #[] }] 49 203 #[304, 306, 308] #[{ accessFlags := 25, nameIndex := 310, descriptorIndex := 194, attributes := #[] }, { accessFlags := 25, nameIndex := 312, descriptorIndex := 194, attributes := #[] }, { accessFlags := 25, nameIndex := 302, descriptorIndex := 303, attributes := #[] }, { accessFlags := 24, nameIndex := 19, descriptorIndex := 20, attributes := #[] }, { accessFlags := 24, nameIndex := 89, descriptorIndex := 86, attributes := #[] }, { accessFlags := 24, nameIndex := 85, descriptorIndex := 86, attributes := #[] }, { accessFlags := 18, nameIndex := 207, descriptorIndex := 194, attributes := #[] }, { accessFlags := 25, nameIndex := 316, descriptorIndex := 194, attributes := #[] }, { accessFlags := 25, nameIndex := 318, descriptorIndex := 194, attributes := #[] }, { accessFlags := 26, nameIndex := 320, descriptorIndex := 321, attributes := #[] }])
  fields := #[{ name := "MIN_VALUE", type := .int, accessFlags := 25, slot := 0, constantValue := 0 }, { name := "MAX_VALUE", type := .int, accessFlags := 25, slot := 1, constantValue := 0 }, { name := "TYPE", type := (.object "java/lang/Class"), accessFlags := 25, slot := 2, constantValue := 0 }, { name := "digits", type := (.array .char), accessFlags := 24, slot := 3, constantValue := 0 }, { name := "DigitTens", type := (.array .byte), accessFlags := 24, slot := 4, constantValue := 0 }, { name := "DigitOnes", type := (.array .byte), accessFlags := 24, slot := 5, constantValue := 0 }, { name := "value", type := .int, accessFlags := 18, slot := 0, constantValue := 0 }, { name := "SIZE", type := .int, accessFlags := 25, slot := 6, constantValue := 0 }, { name := "BYTES", type := .int, accessFlags := 25, slot := 7, constantValue := 0 }, { name := "serialVersionUID", type := .long, accessFlags := 26, slot := 8, constantValue := 0 }]
  methods := #[k9m0]
  instanceTypes := #[.int]
  staticTypes := #[.int, .int, (.object "java/lang/Class"), (.array .char), (.array .byte), (.array .byte), .int, .int, .long]
  resolved := Array.replicate 453 none
  statics := none }

def pool10 : Array CpInfo := pool [(1, u "java/lang/Cloneable"), (0, .class_ 1), (0, u "java/lang/Object"), (0, .class_ 3)] 3

/-- java/lang/Cloneable -/
def k10 : Class := { plain "java/lang/Cloneable" (some 0) with
  accessFlags := 1537
  interfaces := #[]
  cf := some (fileOf pool10 2 #[] #[] 1537 4 #[] #[])
  fields := #[]
  methods := #[]
  instanceTypes := #[]
  staticTypes := #[]
  resolved := Array.replicate 8 none
  statics := none }

/-- the primitive byte -/
def k11 : Class := { plain "byte" none with kind := .primitive 'B', accessFlags := 0x411 }
/-- [B -/
def k12 : Class := { plain "[B" (some 0) with kind := .array 11 .byte, interfaces := #[10, 3], accessFlags := 1041 }

/-- the primitive int -/
def k13 : Class := { plain "int" none with kind := .primitive 'I', accessFlags := 0x411 }
/-- [I -/
def k14 : Class := { plain "[I" (some 0) with kind := .array 13 .int, interfaces := #[10, 3], accessFlags := 1041 }

def heap : Heap := #[]
def classes : Array Class := #[k0, k1, k2, k3, k4, k5, k6, k7, k8, k9, k10, k11, k12, k13, k14]
def interned : List (Array UInt16 × Addr) := []
def slotsUsed : Nat := 0
def theMethod : MethodId := ⟨1, 1⟩
def args0 : Array Value := #[.long 5, .int 3]
def aboutOver (below : List Frame) : State where
  vm := { classes := classes, interned := interned.toArray }
  heap := heap
  slotsUsed := slotsUsed
  threads := #[{ frames := .invoking theMethod args0 :: below }]
def below0 : List Frame := [.native { method := ⟨0, 0⟩, args := #[] }]
def about1 : State := aboutOver below0
def p0 : Program := .bare "" "" ""
def e0 : Env := launch0.env 0 0 0
theorem w_frames : about1.frames = Frame.invoking theMethod args0 :: below0 := rfl
set_option maxRecDepth 65536 in
theorem w_args : argsFit about1.vm theMethod args0 = true := by decide +kernel
set_option maxRecDepth 65536 in
theorem w_heap : heapFits about1 = true := by decide +kernel
set_option maxRecDepth 65536 in
theorem w_runnable : about1.curStatus? = some .runnable := by decide +kernel
set_option maxRecDepth 65536 in
theorem w_alone : about1.alone = true := by decide +kernel
set_option maxRecDepth 65536 in
theorem w_named : about1.methodNamed? x = some theMethod := by decide +kernel
set_option maxRecDepth 65536 in
theorem w_hears : about1.hears theMethod below0 = true := by decide +kernel
set_option maxRecDepth 65536 in
theorem w_ripe : about1.ripe theMethod args0 below0 = true := by decide +kernel
theorem w_running : about1.status = .running := rfl
set_option maxRecDepth 65536 in
theorem w_room : about1.hasRoom e0.platform room_1 = true :=
  launch0.hasRoom_least _ room_1 (by decide +kernel) (by decide +kernel) (by decide +kernel) (by decide +kernel) (by decide +kernel) (by decide +kernel)
theorem allAtoms_all (ts : List Jvm.Cond) (a : Array Jvm.Value) (st : Jvm.State) : (allAtoms ts).before a st = ts.all (fun c => c.before a st) := by
  induction ts with
  | nil => rfl
  | cons c t ih =>
    show (Jvm.Cond.and c (allAtoms t)).before a st = _
    rw [Jvm.Cond.before_and, ih, List.all_cons]
def words1 : List Jvm.Cond := Jvm.Cond.code x code maxLocals ret :: tables_1
/-- a 'code' word, met by the world's own term for the bytes: nothing is compared byte by byte -/
theorem code_word {y : MethodName} {bytes : ByteArray} {mx : Nat} {rt : Option FieldType} {a : Array Value} {s : State} {m : MethodId} {meth : Method} {c : Code} (h1 : s.methodNamed? y = some m) (h2 : s.vm.method? m = some meth) (h3 : meth.code = some c) (h4 : c.code = bytes)
    (h5 : (c.maxLocals == mx && c.exceptionTable.isEmpty && decide (c.maxStack ≤ mostOperands) && decide (meth.sig.returnType = rt) && !meth.locks && decide (parseMethodDescriptor y.desc = some meth.sig)) = true) : (Jvm.Cond.code y bytes mx rt).before a s = true := by
  simp only [Bool.and_eq_true, beq_iff_eq, Bool.not_eq_true', decide_eq_true_eq] at h5
  obtain ⟨⟨⟨⟨⟨g1, g2⟩, g3⟩, g4⟩, g5⟩, g6⟩ := h5
  simp [Cond.before, Cond.holds, Cond.value, h1, h2, h3, h4, g1, g2, g3, g4, g5, g6]
def isCode : Jvm.Cond → Bool
  | .code _ _ _ _ => true
  | _ => false
theorem all_split {L : List Jvm.Cond} {P : Jvm.Cond → Bool} (h1 : L.all (fun c => isCode c || P c) = true) (h2 : ∀ c ∈ L.filter isCode, P c = true) : L.all P = true := by
  refine List.all_eq_true.mpr fun c hc => ?_
  have h := List.all_eq_true.mp h1 c hc
  rcases Bool.eq_false_or_eq_true (isCode c) with hi | hi
  · exact h2 c (List.mem_filter.mpr ⟨hc, hi⟩)
  · simpa [hi] using h
set_option maxRecDepth 65536 in
theorem w_c0 : (Jvm.Cond.code x code maxLocals ret).before args0 about1 = true := code_word (m := ⟨1, 1⟩) (meth := k1m1) (c := k1c1) (by decide +kernel) rfl rfl rfl (by decide +kernel)
set_option maxRecDepth 65536 in
theorem w_c1 : (Jvm.Cond.code ({ cls := "com/example/nested_keyspace/nestedkeyspace/TypedPartsEncodeSignedPinLaw", name := "byteCount", desc := "(J)I" } : Jvm.MethodName) method_3_code (2 : Nat) (Option.some Jvm.ClassFile.FieldType.int)).before args0 about1 = true := code_word (m := ⟨1, 2⟩) (meth := k1m2) (c := k1c2) (by decide +kernel) rfl rfl rfl (by decide +kernel)
set_option maxRecDepth 65536 in
theorem w_c2 : (Jvm.Cond.code ({ cls := "com/example/nested_keyspace/nestedkeyspace/TypedParts", name := "encodeSigned", desc := "(J)[B" } : Jvm.MethodName) prog_20_method_2_code (7 : Nat) (Option.some (Jvm.ClassFile.FieldType.array Jvm.ClassFile.FieldType.byte))).before args0 about1 = true := code_word (m := ⟨2, 1⟩) (meth := k2m1) (c := k2c1) (by decide +kernel) rfl rfl rfl (by decide +kernel)
set_option maxRecDepth 65536 in
theorem w_c3 : (Jvm.Cond.code ({ cls := "java/lang/Long", name := "numberOfLeadingZeros", desc := "(J)I" } : Jvm.MethodName) jdk_35_method_48_code (3 : Nat) (Option.some Jvm.ClassFile.FieldType.int)).before args0 about1 = true := code_word (m := ⟨8, 0⟩) (meth := k8m0) (c := k8c0) (by decide +kernel) rfl rfl rfl (by decide +kernel)
set_option maxRecDepth 65536 in
theorem w_c4 : (Jvm.Cond.code ({ cls := "java/lang/Integer", name := "numberOfLeadingZeros", desc := "(I)I" } : Jvm.MethodName) jdk_33_method_47_code (2 : Nat) (Option.some Jvm.ClassFile.FieldType.int)).before args0 about1 = true := code_word (m := ⟨9, 0⟩) (meth := k9m0) (c := k9c0) (by decide +kernel) rfl rfl rfl (by decide +kernel)
set_option maxRecDepth 65536 in
theorem w_c5 : (Jvm.Cond.code ({ cls := "com/example/nested_keyspace/nestedkeyspace/TypedParts", name := "writeBigEndian", desc := "(J[BII)V" } : Jvm.MethodName) prog_20_method_14_code (8 : Nat) (Option.none : Option Jvm.ClassFile.FieldType)).before args0 about1 = true := code_word (m := ⟨2, 2⟩) (meth := k2m2) (c := k2c2) (by decide +kernel) rfl rfl rfl (by decide +kernel)
set_option maxRecDepth 65536 in
theorem w_c6 : (Jvm.Cond.code ({ cls := "com/example/nested_keyspace/nestedkeyspace/TypedPartsEncodeSignedPinLaw", name := "byteOk", desc := "([BIIJ)Z" } : Jvm.MethodName) method_4_code (5 : Nat) (Option.some Jvm.ClassFile.FieldType.boolean)).before args0 about1 = true := code_word (m := ⟨1, 3⟩) (meth := k1m3) (c := k1c3) (by decide +kernel) rfl rfl rfl (by decide +kernel)
def codes1 : List Jvm.Cond := [Jvm.Cond.code x code maxLocals ret, Jvm.Cond.code ({ cls := "com/example/nested_keyspace/nestedkeyspace/TypedPartsEncodeSignedPinLaw", name := "byteCount", desc := "(J)I" } : Jvm.MethodName) method_3_code (2 : Nat) (Option.some Jvm.ClassFile.FieldType.int), Jvm.Cond.code ({ cls := "com/example/nested_keyspace/nestedkeyspace/TypedParts", name := "encodeSigned", desc := "(J)[B" } : Jvm.MethodName) prog_20_method_2_code (7 : Nat) (Option.some (Jvm.ClassFile.FieldType.array Jvm.ClassFile.FieldType.byte)), Jvm.Cond.code ({ cls := "java/lang/Long", name := "numberOfLeadingZeros", desc := "(J)I" } : Jvm.MethodName) jdk_35_method_48_code (3 : Nat) (Option.some Jvm.ClassFile.FieldType.int), Jvm.Cond.code ({ cls := "java/lang/Integer", name := "numberOfLeadingZeros", desc := "(I)I" } : Jvm.MethodName) jdk_33_method_47_code (2 : Nat) (Option.some Jvm.ClassFile.FieldType.int), Jvm.Cond.code ({ cls := "com/example/nested_keyspace/nestedkeyspace/TypedParts", name := "writeBigEndian", desc := "(J[BII)V" } : Jvm.MethodName) prog_20_method_14_code (8 : Nat) (Option.none : Option Jvm.ClassFile.FieldType), Jvm.Cond.code ({ cls := "com/example/nested_keyspace/nestedkeyspace/TypedPartsEncodeSignedPinLaw", name := "byteOk", desc := "([BIIJ)Z" } : Jvm.MethodName) method_4_code (5 : Nat) (Option.some Jvm.ClassFile.FieldType.boolean)]
set_option maxRecDepth 65536 in
theorem codes_eq : words1.filter isCode = codes1 := rfl
theorem w_codes : ∀ c ∈ words1.filter isCode, c.before args0 about1 = true := by
  rw [codes_eq]
  intro c hc
  simp only [codes1, List.mem_cons, List.not_mem_nil, or_false] at hc
  rcases hc with rfl | rfl | rfl | rfl | rfl | rfl | rfl
  · exact w_c0
  · exact w_c1
  · exact w_c2
  · exact w_c3
  · exact w_c4
  · exact w_c5
  · exact w_c6
set_option maxRecDepth 65536 in
theorem w_t1 : (words1.take 24).all (fun c => isCode c || c.before args0 about1) = true := by decide +kernel
set_option maxRecDepth 65536 in
theorem w_t2 : (words1.drop 24).all (fun c => isCode c || c.before args0 about1) = true := by decide +kernel
theorem w_tables : (allAtoms (Jvm.Cond.code x code maxLocals ret :: tables_1)).before args0 about1 = true := by
  rw [allAtoms_all]
  show words1.all (fun c => c.before args0 about1) = true
  refine all_split ?_ w_codes
  rw [← List.take_append_drop 24 words1, List.all_append, w_t1, w_t2]
  rfl
set_option maxRecDepth 65536 in
theorem w_case : (Jvm.Cond.and given_1 narrow_1).before args0 about1 = true := by decide +kernel
theorem w_applies : (headSpec (Jvm.Cond.code x code maxLocals ret :: tables_1) room_1).applies x e0.platform about1 = true :=
  (Spec.applies_iff w_frames).mpr ⟨w_running, w_runnable, w_alone, w_named, w_hears, w_ripe, w_room, w_tables⟩
theorem atStart : AtStart classFile x code maxLocals ret World_1 tables_1 room_1 Calls_1 rest_1 Pre_1 launch0 p0 e0 about1 theMethod args0 below0 :=
  ⟨lists_1, trivial, launch0.admits_env _ _ _, launch0.least_env, fairChoices_fair.cas, fairChoices_fair.clock, w_frames, w_args, w_heap, w_applies, trivial, trivial, w_case⟩
end start1
theorem witness_1 : WitnessClaimed_1 := ⟨start1.p0, start1.e0, start1.about1, start1.theMethod, start1.args0, start1.below0, start1.atStart⟩
end Jvm.Pilot.@@N@@
