import JvmDerived
import JvmDerived.Pilot.@@N@@Statement
import JvmDerived.Pilot.@@N@@Code
set_option linter.unusedVariables false
set_option linter.unusedSimpArgs false
namespace Jvm.Pilot.@@N@@
open Jvm Jvm.ClassFile Sem Op Lib Jvm.Free Jvm.Stand Jvm.LawKit Jvm.RoadKit Bundle Jvm.Pilot.@@N@@.Jvm.D
def own_Go (p : Program) (e : Env) (below : List Frame) (P : Outcome → State → Prop) (st : State) : Prop :=
  ∃ s₂ o, Steps p.tables e below st s₂ ∧ s₂.status = .running ∧ Ended s₂ below o ∧ P o s₂
def own_Fin (s : State) (C S : Nat) (Q : Option Value → Heap → List Loc → Prop) (o : Outcome) (U : State) : Prop := ∃ v L, o = .returned v ∧ Q v U.heap L ∧ FrameEnd s o U L C S
def own_upd {α : Type} (f : Nat → α) (j : Nat) (v : α) : Nat → α := fun i => if i = j then v else f i
def own_Arf (Z : State) (h : Heap) (a : Addr) (k : ClassId) (ty : FieldType) (n : Int32) (f : Nat → Value) : Prop := ∃ c : Cell, Arr Z h a c ty ∧ c.cls = k ∧ c.slots.size = n.toNatClampNeg ∧ ¬ n < 0 ∧ (∀ i, i < c.slots.size → c.slots[i]? = some (f i)) ∧ ∀ i, i < c.slots.size → fits ty (f i) = true
section OwnKit
variable {p : Program} {l : Launch} {e : Env} {R : Room} {s : State} {m : MethodId} {args : Array Value} {below : List Frame} {meth : Method} {c : Code} {T : State} {locs : List Loc} {cells slots C S : Nat} {P : Outcome → State → Prop} {Q : Option Value → Heap → List Loc → Prop} {Z : State} {h h' : Heap} {a b : Addr} {k : ClassId} {ty : FieldType} {n : Int32} {ws : List Addr}
theorem own_by {st st' : State} (f : ∀ t, Steps p.tables e below st' t → Steps p.tables e below st t) (g : own_Go p e below P st') : own_Go p e below P st := by
  obtain ⟨s₂, o, h1, h2⟩ := g
  exact ⟨s₂, o, f _ h1, h2⟩
theorem own_mono (X : Stand p l e R s m args below meth c T locs cells slots) {c' s' : Nat} (hc : cells ≤ c') (hs : slots ≤ s') : Stand p l e R s m args below meth c T locs c' s' := { X with same := X.same.mono hc hs }
theorem own_end (X : Stand p l e R s m args below meth c T locs cells slots) {v : Option Value} (hv : meth.sig.returnType = none → v = none) (hlk : meth.locks = false) (eT : T.heap = h) (hQ : Q v h locs) (hc : cells ≤ C) (hs : slots ≤ S)
    {g : JFrame} (st : ∀ fs, (∀ (f : JFrame) (acts : List Action), f.method = m → f.locked = none → f.entered = [] → (doReturn e (T.setTop f) acts v).1 = T.setFrames fs) → Steps p.tables e below (T.setTop g) (T.setFrames fs)) : own_Go p e below (own_Fin s C S Q) (T.setTop g) := by
  obtain ⟨fs, hr, hrun, hended, hW, hsame⟩ := X.leave (v := v) hv hlk
  refine ⟨_, _, st fs hr, hrun, hended, v, locs, rfl, ?_, ⟨_, rfl⟩, hW, hsame.mono hc hs⟩
  show Q v T.heap locs
  rw [eT]; exact hQ
theorem own_retN (X : Stand p l e R s m args below meth c T locs cells slots) (hx : p.tables.exec = Jvm.exec) {pc : Nat} {Ls : Array Slot} {z : Int32} {t : FieldType} {rest : List Value} (hret : meth.sig.returnType = some t) (ht : t = .boolean ∨ t = .byte ∨ t = .char ∨ t = .short) (hd : decode c.code pc = .ok (.ireturn, 1)) (hlk : meth.locks = false) (eT : T.heap = h) (hQ : Q (some (.int (nar t z))) h locs) (hc : cells ≤ C) (hs : slots ≤ S) : own_Go p e below (own_Fin s C S Q) (T.setTop (mkF m pc Ls (.int z :: rest))) :=
  own_end X (fun h => by rw [hret] at h; cases h) hlk eT hQ hc hs fun fs hr => retN X hx hret ht hd hr
theorem own_retI (X : Stand p l e R s m args below meth c T locs cells slots) (hx : p.tables.exec = Jvm.exec) {pc : Nat} {Ls : Array Slot} {z : Int32} {rest : List Value} (hret : meth.sig.returnType = some .int) (hd : decode c.code pc = .ok (.ireturn, 1)) (hlk : meth.locks = false) (eT : T.heap = h) (hQ : Q (some (.int z)) h locs) (hc : cells ≤ C) (hs : slots ≤ S) : own_Go p e below (own_Fin s C S Q) (T.setTop (mkF m pc Ls (.int z :: rest))) :=
  own_end X (fun h => by rw [hret] at h; cases h) hlk eT hQ hc hs fun fs hr => retOut X hx hret rfl (Or.inl ⟨rfl, Or.inl rfl, _, rfl⟩) hd hr
theorem own_retJ (X : Stand p l e R s m args below meth c T locs cells slots) (hx : p.tables.exec = Jvm.exec) {pc : Nat} {Ls : Array Slot} {z : Int64} {rest : List Value} (hret : meth.sig.returnType = some .long) (hd : decode c.code pc = .ok (.lreturn, 1)) (hlk : meth.locks = false) (eT : T.heap = h) (hQ : Q (some (.long z)) h locs) (hc : cells ≤ C) (hs : slots ≤ S) : own_Go p e below (own_Fin s C S Q) (T.setTop (mkF m pc Ls (.long z :: rest))) :=
  own_end X (fun h => by rw [hret] at h; cases h) hlk eT hQ hc hs fun fs hr => retOut X hx hret rfl (Or.inr (Or.inl ⟨rfl, rfl, _, rfl⟩)) hd hr
theorem own_retD (X : Stand p l e R s m args below meth c T locs cells slots) (hx : p.tables.exec = Jvm.exec) {pc : Nat} {Ls : Array Slot} {z : UInt64} {rest : List Value} (hret : meth.sig.returnType = some .double) (hd : decode c.code pc = .ok (.dreturn, 1)) (hlk : meth.locks = false) (eT : T.heap = h) (hQ : Q (some (.double z)) h locs) (hc : cells ≤ C) (hs : slots ≤ S) : own_Go p e below (own_Fin s C S Q) (T.setTop (mkF m pc Ls (.double z :: rest))) :=
  own_end X (fun h => by rw [hret] at h; cases h) hlk eT hQ hc hs fun fs hr => retOut X hx hret rfl (Or.inr (Or.inr (Or.inl ⟨rfl, rfl, _, rfl⟩))) hd hr
theorem own_retR (X : Stand p l e R s m args below meth c T locs cells slots) (hx : p.tables.exec = Jvm.exec) {pc : Nat} {Ls : Array Slot} {w : Value} {t : FieldType} {rest : List Value} (hret : meth.sig.returnType = some t) (ht : t.isReference = true) (hw : w.isRef = true) (hd : decode c.code pc = .ok (.areturn, 1)) (hlk : meth.locks = false) (eT : T.heap = h) (hQ : Q (some w) h locs) (hc : cells ≤ C) (hs : slots ≤ S) : own_Go p e below (own_Fin s C S Q) (T.setTop (mkF m pc Ls (w :: rest))) :=
  own_end X (fun h => by rw [hret] at h; cases h) hlk eT hQ hc hs fun fs hr => retOut X hx hret (by cases t <;> first | rfl | (cases w <;> first | rfl | cases hw) | (cases ht)) (Or.inr (Or.inr (Or.inr (Or.inr ⟨rfl, ht, hw⟩)))) hd hr
theorem own_ret0 (X : Stand p l e R s m args below meth c T locs cells slots) (hx : p.tables.exec = Jvm.exec) {pc : Nat} {Ls : Array Slot} (hret : meth.sig.returnType = none) (hd : decode c.code pc = .ok (.return_, 1)) (hlk : meth.locks = false) (eT : T.heap = h) (hQ : Q none h locs) (hc : cells ≤ C) (hs : slots ≤ S) : own_Go p e below (own_Fin s C S Q) (T.setTop (mkF m pc Ls [])) :=
  own_end X (fun _ => rfl) hlk eT hQ hc hs fun fs hr => X.returnOut hx hret hd hr
theorem own_one {z : Int32} (q : z = 1) : (some (.int (nar .boolean z)) : Option Value) = some (.int 1) := by subst q; rfl
theorem own_lrem {g : JFrame} {target : State} (hh : At T m c below) (hx : p.tables.exec = Jvm.exec) (hg : g.method = m) {x y : Int64} {rest : List Value} (hd : decode c.code g.pc = .ok (.lrem, 1)) (hs : g.stack = .long y :: .long x :: rest) (hy : y ≠ 0)
    (hr : Steps p.tables e below (T.setTop { g with pc := g.pc + 1, stack := .long (x % y) :: rest }) target) : Steps p.tables e below (T.setTop g) target :=
  XS.lrem hh hx hg hd hs hy (by rw [lrem_mod]; exact hr)
theorem own_Arf.lt {f : Nat → Value} (F : own_Arf Z h a k ty n f) : a < h.size := by obtain ⟨c, A, -⟩ := F; exact A.lt
theorem own_Arf.ext {f : Nat → Value} (F : own_Arf Z h a k ty n f) (E : Ext h h') : own_Arf Z h' a k ty n f := by obtain ⟨c, A, r⟩ := F; exact ⟨c, A.ext E, r⟩
theorem own_Arf.other {f : Nat → Value} {sl : Nat} {v : Value} (F : own_Arf Z h b k ty n f) (W : Wr h h' a sl v) (q : b ≠ a) : own_Arf Z h' b k ty n f := by obtain ⟨c, A, r⟩ := F; exact ⟨c, A.other W q, r⟩
theorem own_Arf.keep {f : Nat → Value} (F : own_Arf Z h a k ty n f) (K : Keep h h' ws) (q : a ∉ ws) : own_Arf Z h' a k ty n f := by obtain ⟨c, A, r⟩ := F; exact ⟨c, ⟨K.2.1 a c A.1 q, A.2⟩, r⟩
theorem own_arfNew (A : Arr Z h a (newA k ty n) ty) (q : ¬ n < 0) : own_Arf Z h a k ty n (fun _ => defaultValue ty) := ⟨_, A, rfl, sz_new _ _ _, q, fun i hi => by
  rw [sz_new] at hi; simp [newA, hi], fun i _ => by cases ty <;> rfl⟩
theorem own_arfSet {cl : Cell} {f : Nat → Value} {j : Nat} {v : Value} (A : Arr Z h a cl ty) (q1 : cl.cls = k) (S : cl.slots.size = n.toNatClampNeg) (q3 : ¬ n < 0) (H : ∀ i, i < cl.slots.size → cl.slots[i]? = some (f i)) (G : ∀ i, i < cl.slots.size → fits ty (f i) = true) (hv : fits ty v = true) (W : Wr h h' a j v) : own_Arf Z h' a k ty n (own_upd f j v) := by
  refine ⟨_, A.same W, q1, by rw [sz_set]; exact S, q3, fun i hi => ?_, fun i hi => ?_⟩
  · rw [sz_set] at hi
    by_cases u : j = i
    · subst u; simp [Cell.setSlot, hi, own_upd]
    · have := H i hi; simp only [Cell.setSlot] at this ⊢
      rw [Array.getElem?_setIfInBounds_ne u, this]; simp [own_upd, Ne.symm u]
  · rw [sz_set] at hi
    by_cases u : j = i
    · subst u; simpa [own_upd] using hv
    · have := G i hi; simpa [own_upd, Ne.symm u] using this
theorem own_arfSetI {cl : Cell} {f : Nat → Int32} {j : Nat} {v : Int32} (A : Arr Z h a cl ty) (q1 : cl.cls = k) (S : cl.slots.size = n.toNatClampNeg) (q3 : ¬ n < 0) (H : ∀ i, i < cl.slots.size → cl.slots[i]? = some (.int (f i))) (G : ∀ i, i < cl.slots.size → fits ty (.int (f i)) = true) (hv : fits ty (.int v) = true) (W : Wr h h' a j (.int v)) : own_Arf Z h' a k ty n (fun i => .int (own_upd f j v i)) := by
  have q := own_arfSet (f := fun i => .int (f i)) A q1 S q3 H G hv W
  have e : (own_upd (fun i => Value.int (f i)) j (.int v)) = (fun i => .int (own_upd f j v i)) := by funext i; simp only [own_upd]; split <;> rfl
  rw [← e]; exact q
theorem own_arfSetJ {cl : Cell} {f : Nat → Int64} {j : Nat} {v : Int64} (A : Arr Z h a cl ty) (q1 : cl.cls = k) (S : cl.slots.size = n.toNatClampNeg) (q3 : ¬ n < 0) (H : ∀ i, i < cl.slots.size → cl.slots[i]? = some (.long (f i))) (G : ∀ i, i < cl.slots.size → fits ty (.long (f i)) = true) (hv : fits ty (.long v) = true) (W : Wr h h' a j (.long v)) : own_Arf Z h' a k ty n (fun i => .long (own_upd f j v i)) := by
  have q := own_arfSet (f := fun i => .long (f i)) A q1 S q3 H G hv W
  have e : (own_upd (fun i => Value.long (f i)) j (.long v)) = (fun i => .long (own_upd f j v i)) := by funext i; simp only [own_upd]; split <;> rfl
  rw [← e]; exact q
theorem own_arfSetD {cl : Cell} {f : Nat → UInt64} {j : Nat} {v : UInt64} (A : Arr Z h a cl ty) (q1 : cl.cls = k) (S : cl.slots.size = n.toNatClampNeg) (q3 : ¬ n < 0) (H : ∀ i, i < cl.slots.size → cl.slots[i]? = some (.double (f i))) (G : ∀ i, i < cl.slots.size → fits ty (.double (f i)) = true) (hv : fits ty (.double v) = true) (W : Wr h h' a j (.double v)) : own_Arf Z h' a k ty n (fun i => .double (own_upd f j v i)) := by
  have q := own_arfSet (f := fun i => .double (f i)) A q1 S q3 H G hv W
  have e : (own_upd (fun i => Value.double (f i)) j (.double v)) = (fun i => .double (own_upd f j v i)) := by funext i; simp only [own_upd]; split <;> rfl
  rw [← e]; exact q
theorem own_neArr {A0 : Array Value} {C : String} {kk : Nat} {f : Nat → Value} (F : Exa Z h a C) (wi : (Cond.instantiable C kk).before A0 Z = true) (G : own_Arf Z h b k ty n f) : a ≠ b := by
  obtain ⟨c, A, -⟩ := G
  exact ne_arr F wi A
theorem own_selPriv {Z s : State} {A0 args : Array Value} {y : MethodName} {n : Nat} (hZ : Z.Warmed39 s.vm) (wi : (Cond.instantiable y.cls n).before A0 Z = true) (wp : (Cond.privateMethod y).before A0 Z = true) (wm : (Cond.instanceMethod y).before A0 Z = true) (hy : y.cls ≠ "java/lang/invoke/MethodHandle" ∧ y.cls ≠ "java/lang/invoke/VarHandle") : (Cond.selects y.cls y y).before args s = true := by
  have wi' : (Cond.instantiable y.cls n).before args s = true := mvT hZ wi
  obtain ⟨c, k, h1, h2, h3, h4, -⟩ := Cond.instantiable_spec wi'
  refine selects_self_of_private h1 h2 ?_ (Cond.privateMethod_at (mvP hZ wp (args := args))) (mvT hZ wm) hy
  cases hi : k.isInterface <;> simp_all
end OwnKit

theorem own_landNN (x : Int64) : ¬ ((x &&& (9223372036854775807 : Int64)) < (0 : Int64)) := by
  have h := (c_andSL x 9223372036854775807).2.2 (by decide)
  rw [Int64.lt_iff_toInt_lt]
  have e : (0 : Int64).toInt = 0 := rfl
  omega
theorem own_rem (x : Int32) (d : Int) (y : Int32) (hy : y.toInt = d) (h0 : 0 < d) : 0 ≤ ((x &&& 2147483647) % y).toInt ∧ ((x &&& 2147483647) % y).toInt < d := by
  have h1 := c_and x 2147483647 (by decide)
  have h2 := (c_irem (x &&& 2147483647) y d hy).1 h1.1
  rw [h2]; exact ⟨Int.emod_nonneg _ (by omega), Int.emod_lt_of_pos _ h0⟩
theorem own_fldEq {args : Array Value} {s : State} {t : Term} {a : Addr} {C n d : String} {k : Int32} (h : (Jvm.Cond.eq (Term.field t C n d) (Term.int k)).value args s none s [] = some true) (ev : t.eval args s none [] s = some (.ref a)) : Fld s s.heap a C n d (.int k) := by
  refine Fld.start ?_
  have e1 := fld_at (C := C) (n := n) (dd := d) ev
  have e2 : (Term.int k).eval args s none [] s = some (.int k) := rfl
  simp only [Cond.value, e1, e2] at h
  cases hf : s.fieldOf? a C n d with
  | none => rw [hf] at h; simp at h
  | some v =>
    rw [hf] at h
    cases v <;> simp_all
theorem own_s16 (x : Int32) (h1 : -32768 ≤ x.toInt) (h2 : x.toInt < 32768) : x.toInt16.toInt32 = x := by
  have h := c_i2s x
  apply Int32.toInt_inj.mp
  omega
def own_cp {α : Type} (f : Nat → α) (sp : Nat) (g : Nat → α) (dp n : Nat) : Nat → α := fun i => if dp ≤ i ∧ i < dp + n then f (sp + (i - dp)) else g i
section OwnNat
variable {p : Program} {l : Launch} {e : Env} {R : Room} {s : State} {m : MethodId} {args : Array Value} {below : List Frame} {meth : Method} {c : Code} {T : State} {locs : List Loc} {cells slots : Nat} {Z : State} {h h' : Heap} {a b : Addr} {A0 : Array Value}
theorem own_d2bits (X : Stand p l e R s m args below meth c T locs cells slots) (hx : p.tables.exec = Jvm.exec) (hZ : Z.Warmed39 s.vm) {own : String} {index : Nat} (hown : s.vm.findClass own = some m.cls)
    (w1 : (Cond.methodLink own index NT.doubleBitsN).before A0 Z = true) (w2 : (Cond.native NT.doubleBitsN).before A0 Z = true) (w3 : (Cond.static NT.doubleBitsN).before A0 Z = true) (w4 : (Cond.initialized "java/lang/Double").before A0 Z = true) (eT : T.heap = h)
    {g : JFrame} (hg : g.method = m) (hsize : g.locals.size = c.maxLocals) {x : UInt64} {rest : List Value} (hs : g.stack = .double x :: rest) (hd : decode c.code g.pc = .ok (.invokestatic index, 3))
    (hf : 1 ≤ R.frames) {W : Nat} (hW : 2 * g.monitorRoom + (rest.map fun v => v.category).sum ≤ W) (hlo : W + 15 ≤ R.locals) :
    ∃ T', Stand p l e R s m args below meth c T' locs cells slots ∧ T'.heap = h ∧ ∀ target, Steps p.tables e below (T'.setTop { g with pc := g.pc + 3, stack := .long x.toInt64 :: rest }) target → Steps p.tables e below (T.setTop g) target := by
  have c2 : (Cond.native NT.doubleBitsN).before args s = true := mvT hZ w2
  obtain ⟨mk, mm, hn, hm, -, -, -, hsig⟩ := Cond.native_spec c2
  obtain ⟨v, vm1, B, hW1, X', ⟨hB, hv⟩, st⟩ := Stand.staticBack (args := args) X hx hown (mvT hZ w1) (mvT hZ w3) (mvT hZ w4) hn hm hsig (by decide) (NT.DoubleBits.pays (len := 3) (W := W) c2 (mvT hZ w3) hf hlo) hg hsize (Steps.refl _) (argsL := [.double x]) (rest := rest) (lenOf NT.descDJ rfl) hs hW hd (fun _ _ => ⟨x, rfl⟩)
  obtain rfl := hv x rfl
  subst hB
  exact ⟨_, X', eT, fun target k => st.trans k⟩
theorem own_bits2d (X : Stand p l e R s m args below meth c T locs cells slots) (hx : p.tables.exec = Jvm.exec) (hZ : Z.Warmed39 s.vm) {own : String} {index : Nat} (hown : s.vm.findClass own = some m.cls)
    (w1 : (Cond.methodLink own index NT.longBitsN).before A0 Z = true) (w2 : (Cond.native NT.longBitsN).before A0 Z = true) (w3 : (Cond.static NT.longBitsN).before A0 Z = true) (w4 : (Cond.initialized "java/lang/Double").before A0 Z = true) (eT : T.heap = h)
    {g : JFrame} (hg : g.method = m) (hsize : g.locals.size = c.maxLocals) {x : Int64} {rest : List Value} (hq : (decide (x.toUInt64 &&& 9223372036854775807 > 9218868437227405312) && x.toUInt64 &&& 2251799813685248 == 0) = false) (hs : g.stack = .long x :: rest) (hd : decode c.code g.pc = .ok (.invokestatic index, 3))
    (hf : 1 ≤ R.frames) {W : Nat} (hW : 2 * g.monitorRoom + (rest.map fun v => v.category).sum ≤ W) (hlo : W + 15 ≤ R.locals) :
    ∃ T', Stand p l e R s m args below meth c T' locs cells slots ∧ T'.heap = h ∧ ∀ target, Steps p.tables e below (T'.setTop { g with pc := g.pc + 3, stack := .double x.toUInt64 :: rest }) target → Steps p.tables e below (T.setTop g) target := by
  have c2 : (Cond.native NT.longBitsN).before args s = true := mvT hZ w2
  obtain ⟨mk, mm, hn, hm, -, -, -, hsig⟩ := Cond.native_spec c2
  obtain ⟨v, vm1, B, hW1, X', ⟨hB, hv⟩, st⟩ := Stand.staticBack (args := args) X hx hown (mvT hZ w1) (mvT hZ w3) (mvT hZ w4) hn hm hsig (by decide) (NT.LongBits.pays (len := 3) (W := W) c2 (mvT hZ w3) hf hlo) hg hsize (Steps.refl _) (argsL := [.long x]) (rest := rest) (lenOf NT.descJD rfl) hs hW hd (fun _ _ => ⟨x, rfl, hq⟩)
  obtain rfl := hv x ⟨rfl, hq⟩
  subst hB
  exact ⟨_, X', eT, fun target k => st.trans k⟩
theorem own_arfArv {k : ClassId} {ty : FieldType} {n : Int32} {f : Nat → Value} (F : own_Arf Z h a k ty n f) (dv : Value) : Arv Z h a k ty n ((List.range n.toNatClampNeg).map f) dv := by
  obtain ⟨cl, A, q, S, M, H, G⟩ := F
  have key : ∀ i, i < cl.slots.size → ((List.range n.toNatClampNeg).map f).getD i dv = f i := fun i hi => by
    rw [S] at hi
    simp [List.getD_eq_getElem?_getD, hi]
  exact ⟨cl, A, q, S, M, fun i hi => by rw [key i hi]; exact H i hi, fun i hi => by rw [key i hi]; exact G i hi⟩
theorem own_arvArf {k : ClassId} {ty : FieldType} {n : Int32} {vs : List Value} {dv : Value} {f : Nat → Value} (F : Arv Z h a k ty n vs dv) (hf : ∀ i, i < n.toNatClampNeg → vs.getD i dv = f i) : own_Arf Z h a k ty n f := by
  obtain ⟨cl, A, q, S, M, H, G⟩ := F
  exact ⟨cl, A, q, S, M, fun i hi => by rw [← hf i (S ▸ hi)]; exact H i hi, fun i hi => by rw [← hf i (S ▸ hi)]; exact G i hi⟩
theorem own_cpA (X : Stand p l e R s m args below meth c T locs cells slots) (hx : p.tables.exec = Jvm.exec) (hZ : Z.Warmed39 s.vm) {own : String} {index : Nat} (hown : s.vm.findClass own = some m.cls)
    (w1 : (Cond.methodLink own index Jvm.Stand.acN).before A0 Z = true) (w2 : (Cond.native Jvm.Stand.acN).before A0 Z = true) (w3 : (Cond.static Jvm.Stand.acN).before A0 Z = true) (w4 : (Cond.initialized "java/lang/System").before A0 Z = true) (eT : T.heap = h)
    {k k' : ClassId} {ty : FieldType} {z z' sp dp nn : Int32} {f f' : Nat → Value} (A : own_Arf Z h a k ty z f) (B : own_Arf Z h b k' ty z' f') (hty : refKind ty = false)
    (h1 : ¬ sp < 0) (h2 : ¬ dp < 0) (h3 : ¬ nn < 0) (h4 : sp.toNatClampNeg + nn.toNatClampNeg ≤ z.toNatClampNeg) (h5 : dp.toNatClampNeg + nn.toNatClampNeg ≤ z'.toNatClampNeg) {n0 : Nat} (N : Fr n0 locs) (ge : n0 ≤ b)
    {g : JFrame} (hg : g.method = m) (hsize : g.locals.size = c.maxLocals) {rest : List Value} (hs : g.stack = .int nn :: .int dp :: .ref b :: .int sp :: .ref a :: rest) (hd : decode c.code g.pc = .ok (.invokestatic index, 3))
    (hf : 1 ≤ R.frames) {W : Nat} (hW : 2 * g.monitorRoom + (rest.map fun v => v.category).sum ≤ W) (hlo : W + (nativeFrameWords "java/lang/System" "arraycopy" 5 + 11) ≤ R.locals) :
    ∃ T' h' L, Stand p l e R s m args below meth c T' L cells slots ∧ T'.heap = h' ∧ Fr n0 L ∧ Keep h h' [b] ∧ own_Arf Z h' b k' ty z' (own_cp f sp.toNatClampNeg f' dp.toNatClampNeg nn.toNatClampNeg) ∧
      ∀ target, Steps p.tables e below (T'.setTop { g with pc := g.pc + 3, stack := rest }) target → Steps p.tables e below (T.setTop g) target := by
  obtain ⟨T', h', L, X', e', N', K, V, st⟩ := cpA X hx hZ hown w1 w2 w3 w4 eT (own_arfArv A .null) (own_arfArv B .null) (Or.inl ⟨rfl, hty⟩) h1 h2 h3 h4 h5 rfl (by simp; exact h5) N ge hg hsize hs hd hf hW hlo
  refine ⟨T', h', L, X', e', N', K, own_arvArf V fun i hi => ?_, st⟩
  simp only [own_cp, List.getD_eq_getElem?_getD]
  by_cases c1 : i < dp.toNatClampNeg
  · rw [List.append_assoc, List.getElem?_append_left (by simp; omega)]
    simp [c1, hi, show ¬ dp.toNatClampNeg ≤ i by omega]
  · by_cases c2 : i < dp.toNatClampNeg + nn.toNatClampNeg
    · rw [List.append_assoc, List.getElem?_append_right (by simp; omega), List.getElem?_append_left (by simp; omega)]
      have hm : min dp.toNatClampNeg z'.toNatClampNeg = dp.toNatClampNeg := by omega
      simp only [List.length_take, List.length_map, List.length_range, hm]
      have e1 : i - dp.toNatClampNeg < nn.toNatClampNeg := by omega
      have e2 : sp.toNatClampNeg + (i - dp.toNatClampNeg) < z.toNatClampNeg := by omega
      simp [e1, e2, c2, show dp.toNatClampNeg ≤ i by omega]
    · rw [List.getElem?_append_right (by simp; omega)]
      have hm : min dp.toNatClampNeg z'.toNatClampNeg = dp.toNatClampNeg := by omega
      simp only [List.length_append, List.length_take, List.length_map, List.length_range, hm]
      rw [List.getElem?_drop]
      have e1 : dp.toNatClampNeg + nn.toNatClampNeg + (i - (dp.toNatClampNeg + nn.toNatClampNeg)) = i := by omega
      rw [e1]
      simp [hi, c2]
theorem own_cpJ (f : Nat → Int64) (sp : Nat) (g : Nat → Int64) (dp n : Nat) : own_cp (fun i => Value.long (f i)) sp (fun i => .long (g i)) dp n = (fun i => .long (own_cp f sp g dp n i)) := by funext i; simp only [own_cp]; split <;> rfl
theorem own_cpI (f : Nat → Int32) (sp : Nat) (g : Nat → Int32) (dp n : Nat) : own_cp (fun i => Value.int (f i)) sp (fun i => .int (g i)) dp n = (fun i => .int (own_cp f sp g dp n i)) := by funext i; simp only [own_cp]; split <;> rfl
end OwnNat
def own_holds (w : Int64) (d : Int32) (gen ss : Int64) : Prop := ((w &&& (2147483647 : Int64)) = gen ∧ (((w.toUInt64 >>> ((32 : Int32) &&& 0x3f).toInt64.toUInt64).toInt64).toInt32) = d) ∨ (¬ (w &&& (2147483648 : Int64)) = (0 : Int64) ∧ ¬ (w &&& (2147483647 : Int64)) < ss ∧ ¬ d < (((w.toUInt64 >>> ((32 : Int32) &&& 0x3f).toInt64.toUInt64).toInt64).toInt32))
def own_find (f : Nat → Int64) (q : Int64) (d : Int32) (gen ss : Int64) (z : Int32) : Prop := (z = (0 : Int32) ∧ f 0 = q ∧ own_holds (f 3) d gen ss) ∨ (z = (4 : Int32) ∧ ¬ (f 0 = q ∧ own_holds (f 3) d gen ss) ∧ f 4 = q ∧ own_holds (f 7) d gen ss) ∨ (z = (-1 : Int32) ∧ ¬ (f 0 = q ∧ own_holds (f 3) d gen ss) ∧ ¬ (f 4 = q ∧ own_holds (f 7) d gen ss))
def own_early (w : Int64) (gen ss : Int64) : Prop := ¬ (w &&& (2147483647 : Int64)) < ss ∧ (w &&& (2147483647 : Int64)) < gen
def own_earlier (f : Nat → Int64) (q : Int64) (gen ss : Int64) (z : Int32) : Prop := (z = (0 : Int32) ∧ f 0 = q ∧ own_early (f 3) gen ss) ∨ (z = (4 : Int32) ∧ ¬ (f 0 = q ∧ own_early (f 3) gen ss) ∧ f 4 = q ∧ own_early (f 7) gen ss) ∨ (z = (-1 : Int32) ∧ ¬ (f 0 = q ∧ own_early (f 3) gen ss) ∧ ¬ (f 4 = q ∧ own_early (f 7) gen ss))
theorem own_bucket (x : Int64) : ((((x.toUInt64 >>> ((63 : Int32) &&& 0x3f).toInt64.toUInt64).toInt64).toInt32 &&& (-2 : Int32)) * (4 : Int32)) = (0 : Int32) := by
  have h : (x.toUInt64 >>> ((63 : Int32) &&& 0x3f).toInt64.toUInt64) = 0 ∨ (x.toUInt64 >>> ((63 : Int32) &&& 0x3f).toInt64.toUInt64) = 1 := by
    have e : ((63 : Int32) &&& 0x3f).toInt64.toUInt64 = 63 := by decide
    rw [e]
    have h1 : (x.toUInt64 >>> 63).toNat < 2 := by
      rw [UInt64.toNat_shiftRight, Nat.shiftRight_eq_div_pow]
      have := x.toUInt64.toNat_lt
      have e : (63 : UInt64).toNat % 64 = 63 := rfl
      rw [e]; omega
    generalize x.toUInt64 >>> 63 = u at *
    rcases (show u.toNat = 0 ∨ u.toNat = 1 by omega) with q | q
    · exact Or.inl (UInt64.toNat_inj.mp q)
    · exact Or.inr (UInt64.toNat_inj.mp q)
  rcases h with h | h <;> rw [h] <;> decide
theorem own_bit31 (w : Int64) (a : Int) (h0 : 0 ≤ w.toInt) (h : w.toInt / 2147483648 % 2 = a) (ha : a = 0 ∨ a = 1) : (w &&& (2147483648 : Int64) = (0 : Int64)) ↔ a = 0 := by
  have e1 : (2147483648 : Int64).toBitVec = BitVec.twoPow 64 31 := by decide
  have e2 : (w &&& (2147483648 : Int64)).toBitVec = if w.toBitVec.getLsbD 31 then BitVec.twoPow 64 31 else 0#64 := by
    rw [Int64.toBitVec_and, e1, BitVec.and_twoPow]
  have e3 : w.toBitVec.getLsbD 31 = decide (w.toBitVec.toNat / 2147483648 % 2 = 1) := by
    rw [BitVec.getLsbD, Nat.testBit_eq_decide_div_mod_eq]
  have e4 : (w.toBitVec.toNat : Int) = w.toInt := by
    have hh : w.toInt = w.toBitVec.toInt := rfl
    have b1 := BitVec.toInt_eq_toNat_cond w.toBitVec
    have l1 := w.toBitVec.isLt
    rw [hh] at h0 ⊢
    rw [b1] at h0 ⊢
    split at h0 <;> split <;> omega
  have e5 : w.toBitVec.toNat / 2147483648 % 2 = 1 ↔ a = 1 := by omega
  constructor
  · intro q
    rw [q, e3] at e2
    by_cases c : w.toBitVec.toNat / 2147483648 % 2 = 1
    · rw [decide_eq_true c] at e2; exact absurd e2 (by decide)
    · omega
  · intro q
    have c : ¬ w.toBitVec.toNat / 2147483648 % 2 = 1 := by omega
    rw [e3, decide_eq_false c] at e2
    exact Int64.toBitVec_inj.mp e2
theorem own_word (d : Int32) (s gen : Int64) (hd : ¬ d < (0 : Int32)) (hs : s = (0 : Int64) ∨ s = (2147483648 : Int64)) (hg : gen = (1 : Int64) ∨ gen = (2 : Int64) ∨ gen = (3 : Int64)) (w : Int64) (hw : (((d.toInt64 <<< ((32 : Int32) &&& 0x3f).toInt64) ||| s) ||| gen) = w) :
    (w &&& (2147483647 : Int64)) = gen ∧ (((w.toUInt64 >>> ((32 : Int32) &&& 0x3f).toInt64.toUInt64).toInt64).toInt32) = d ∧ ((w &&& (2147483648 : Int64) = (0 : Int64)) ↔ s = (0 : Int64)) := by
  rw [Int32.lt_iff_toInt_lt] at hd
  have z0 : (0 : Int32).toInt = 0 := rfl
  have rd := rng32 d
  have h1 := c_lshl d.toInt64 32 32 (by decide)
  rw [c_i2l] at h1
  have r1 := rng64 (d.toInt64 <<< ((32 : Int32) &&& 0x3f).toInt64)
  have h2 : (d.toInt64 <<< ((32 : Int32) &&& 0x3f).toInt64).toInt = d.toInt * 4294967296 := by omega
  have hs' : s.toInt = 0 ∨ s.toInt = 2147483648 := by rcases hs with rfl | rfl <;> decide
  have hg' : gen.toInt = 1 ∨ gen.toInt = 2 ∨ gen.toInt = 3 := by rcases hg with rfl | rfl | rfl <;> decide
  have h3 := c_orL (d.toInt64 <<< ((32 : Int32) &&& 0x3f).toInt64) s 32 (by decide) 4294967296 (by decide) (by omega) (by omega) (by omega)
  have r3 := rng64 ((d.toInt64 <<< ((32 : Int32) &&& 0x3f).toInt64) ||| s)
  have h4 : ((d.toInt64 <<< ((32 : Int32) &&& 0x3f).toInt64) ||| s).toInt = d.toInt * 4294967296 + s.toInt := by omega
  have h5 := c_orL ((d.toInt64 <<< ((32 : Int32) &&& 0x3f).toInt64) ||| s) gen 31 (by decide) 2147483648 (by decide) (by omega) (by omega) (by omega)
  rw [hw] at h5
  have r5 := rng64 w
  have h6 : w.toInt = d.toInt * 4294967296 + s.toInt + gen.toInt := by omega
  clear h1 r1 h2 h3 r3 h4 h5 hw
  refine ⟨?_, ?_, ?_⟩
  · apply Int64.toInt_inj.mp
    rw [c_maskL w 2147483647 31 (by decide) (by decide)]
    omega
  · apply Int32.toInt_inj.mp
    have h7 := c_lushr w 32 32 (by decide) (by decide)
    have h8 := c_l2i ((w.toUInt64 >>> ((32 : Int32) &&& 0x3f).toInt64.toUInt64).toInt64)
    have r8 := rng32 ((w.toUInt64 >>> ((32 : Int32) &&& 0x3f).toInt64.toUInt64).toInt64).toInt32
    omega
  · rcases hs with rfl | rfl
    · have : (0 : Int64).toInt = 0 := rfl
      simp only [iff_true]
      exact (own_bit31 w 0 (by omega) (by omega) (Or.inl rfl)).mpr rfl
    · have : (2147483648 : Int64).toInt = 2147483648 := by decide
      have q := (own_bit31 w 1 (by omega) (by omega) (Or.inr rfl))
      constructor
      · intro z; have := q.mp z; omega
      · intro z; exact absurd z (by decide)
theorem own_mask31 (x : Int32) : ¬ (x &&& (2147483647 : Int32)) < (0 : Int32) := by
  have h := c_and x 2147483647 (by decide)
  rw [Int32.lt_iff_toInt_lt]
  have e : (0 : Int32).toInt = 0 := rfl
  omega
theorem own_holds0 (d : Int32) (g s : Int64) (hg : ¬ g = (0 : Int64)) : ¬ own_holds (0 : Int64) d g s := by
  rintro (⟨h, -⟩ | ⟨h, -⟩)
  · exact hg (h.symm.trans (by decide))
  · exact h (by decide)
theorem own_holdsW (w : Int64) (d d' : Int32) (g g' s : Int64) (h1 : (w &&& (2147483647 : Int64)) = g') (h2 : (((w.toUInt64 >>> ((32 : Int32) &&& 0x3f).toInt64.toUInt64).toInt64).toInt32) = d') (z : Int32) (h3 : (w &&& (2147483648 : Int64) = (0 : Int64)) ↔ z = (0 : Int32)) : own_holds w d g s ↔ (g' = g ∧ d' = d) ∨ (¬ z = (0 : Int32) ∧ ¬ g' < s ∧ ¬ d < d') := by
  simp only [own_holds, h1, h2, h3]
theorem own_first (f : Nat → Int64) (q : Int64) (d z : Int32) (lo hi : Int64) (hd : ¬ d < (0 : Int32)) (g : Int64) (hg : g = (1 : Int64) ∨ g = (2 : Int64) ∨ g = (3 : Int64)) (b : Nat → Int64) (P : Int32 → Prop)
    (h : (∃ (y9 : Int64) (v12 : Int64), (((z = (0 : Int32)) ∧ y9 = (0 : Int64)) ∨ ((¬ (z = (0 : Int32))) ∧ y9 = (2147483648 : Int64))) ∧ (((((d.toInt64) <<< ((32 : Int32) &&& 0x3f).toInt64) ||| y9) ||| g) = v12) ∧ P (-1 : Int32) ∧ b = (own_upd (own_upd (own_upd (own_upd (own_cp f 0 f 4 4) 0 q) 1 lo) 2 hi) 3 v12)) ∨ (∃ (y9 : Int64) (v12 : Int64), (((z = (0 : Int32)) ∧ y9 = (0 : Int64)) ∨ ((¬ (z = (0 : Int32))) ∧ y9 = (2147483648 : Int64))) ∧ (((((d.toInt64) <<< ((32 : Int32) &&& 0x3f).toInt64) ||| y9) ||| g) = v12) ∧ P (0 : Int32) ∧ b = (own_upd (own_upd (own_upd (own_upd (own_cp f 0 f 4 0) 0 q) 1 lo) 2 hi) 3 v12)) ∨ (∃ (y9 : Int64) (v12 : Int64), (((z = (0 : Int32)) ∧ y9 = (0 : Int64)) ∨ ((¬ (z = (0 : Int32))) ∧ y9 = (2147483648 : Int64))) ∧ (((((d.toInt64) <<< ((32 : Int32) &&& 0x3f).toInt64) ||| y9) ||| g) = v12) ∧ P (4 : Int32) ∧ b = (own_upd (own_upd (own_upd (own_upd (own_cp f 0 f 4 4) 0 q) 1 lo) 2 hi) 3 v12))) :
    b 0 = q ∧ b 1 = lo ∧ ((b 3 &&& (2147483647 : Int64)) = g) ∧ ((((b 3).toUInt64 >>> ((32 : Int32) &&& 0x3f).toInt64.toUInt64).toInt64).toInt32) = d ∧ ((b 3 &&& (2147483648 : Int64) = (0 : Int64)) ↔ z = (0 : Int32)) ∧ ((P (0 : Int32) ∧ b 4 = f 4 ∧ b 5 = f 5 ∧ b 7 = f 7) ∨ ((P (-1 : Int32) ∨ P (4 : Int32)) ∧ b 4 = f 0 ∧ b 5 = f 1 ∧ b 7 = f 3)) := by
  have key : ∀ (y v : Int64), ((z = (0 : Int32)) ∧ y = (0 : Int64)) ∨ ((¬ (z = (0 : Int32))) ∧ y = (2147483648 : Int64)) → ((((d.toInt64) <<< ((32 : Int32) &&& 0x3f).toInt64) ||| y) ||| g) = v → ((v &&& (2147483647 : Int64)) = g) ∧ (((v.toUInt64 >>> ((32 : Int32) &&& 0x3f).toInt64.toUInt64).toInt64).toInt32) = d ∧ ((v &&& (2147483648 : Int64) = (0 : Int64)) ↔ z = (0 : Int32)) := by
    intro y v hy hv
    obtain ⟨a1, a2, a3⟩ := own_word d y g hd (by rcases hy with h | h <;> simp [h.2]) hg v hv
    refine ⟨a1, a2, a3.trans ?_⟩
    rcases hy with ⟨h1, h2⟩ | ⟨h1, h2⟩
    · simp [h1, h2]
    · subst h2; constructor
      · intro q; exact absurd q (by decide)
      · intro q; exact absurd q h1
  rcases h with ⟨y, v, hy, hv, hp, hb⟩ | ⟨y, v, hy, hv, hp, hb⟩ | ⟨y, v, hy, hv, hp, hb⟩
  · obtain ⟨k1, k2, k3⟩ := key y v hy hv
    have e3 : b 3 = v := by rw [hb]; rfl
    rw [e3]
    exact ⟨by rw [hb]; rfl, by rw [hb]; rfl, k1, k2, k3, Or.inr ⟨Or.inl hp, by rw [hb]; rfl, by rw [hb]; rfl, by rw [hb]; rfl⟩⟩
  · obtain ⟨k1, k2, k3⟩ := key y v hy hv
    have e3 : b 3 = v := by rw [hb]; rfl
    rw [e3]
    exact ⟨by rw [hb]; rfl, by rw [hb]; rfl, k1, k2, k3, Or.inl ⟨hp, by rw [hb]; rfl, by rw [hb]; rfl, by rw [hb]; rfl⟩⟩
  · obtain ⟨k1, k2, k3⟩ := key y v hy hv
    have e3 : b 3 = v := by rw [hb]; rfl
    rw [e3]
    exact ⟨by rw [hb]; rfl, by rw [hb]; rfl, k1, k2, k3, Or.inr ⟨Or.inr hp, by rw [hb]; rfl, by rw [hb]; rfl, by rw [hb]; rfl⟩⟩
theorem d1_0 : decode prog_71_method_1_code 0 = .ok (.aload_n 0, 1) := by decide +kernel
theorem d1_1 : decode prog_71_method_1_code 1 = .ok (.invokespecial 5, 3) := by decide +kernel
theorem d1_4 : decode prog_71_method_1_code 4 = .ok (.aload_n 0, 1) := by decide +kernel
theorem d1_5 : decode prog_71_method_1_code 5 = .ok (.lconst 1, 1) := by decide +kernel
theorem d1_6 : decode prog_71_method_1_code 6 = .ok (.putfield 11, 3) := by decide +kernel
theorem d1_9 : decode prog_71_method_1_code 9 = .ok (.aload_n 0, 1) := by decide +kernel
theorem d1_10 : decode prog_71_method_1_code 10 = .ok (.lconst 1, 1) := by decide +kernel
theorem d1_11 : decode prog_71_method_1_code 11 = .ok (.putfield 15, 3) := by decide +kernel
theorem d1_14 : decode prog_71_method_1_code 14 = .ok (.iload_n 1, 1) := by decide +kernel
theorem d1_15 : decode prog_71_method_1_code 15 = .ok (.iconst 1, 1) := by decide +kernel
theorem d1_16 : decode prog_71_method_1_code 16 = .ok (.if_icmp .lt 9, 3) := by decide +kernel
theorem d1_19 : decode prog_71_method_1_code 19 = .ok (.iload_n 1, 1) := by decide +kernel
theorem d1_20 : decode prog_71_method_1_code 20 = .ok (.bipush 25, 2) := by decide +kernel
theorem d1_22 : decode prog_71_method_1_code 22 = .ok (.if_icmp .le 17, 3) := by decide +kernel
theorem d1_39 : decode prog_71_method_1_code 39 = .ok (.aload_n 0, 1) := by decide +kernel
theorem d1_40 : decode prog_71_method_1_code 40 = .ok (.iconst 4, 1) := by decide +kernel
theorem d1_41 : decode prog_71_method_1_code 41 = .ok (.iload_n 1, 1) := by decide +kernel
theorem d1_42 : decode prog_71_method_1_code 42 = .ok (.ishl, 1) := by decide +kernel
theorem d1_43 : decode prog_71_method_1_code 43 = .ok (.newarray .long, 2) := by decide +kernel
theorem d1_45 : decode prog_71_method_1_code 45 = .ok (.putfield 27, 3) := by decide +kernel
theorem d1_48 : decode prog_71_method_1_code 48 = .ok (.aload_n 0, 1) := by decide +kernel
theorem d1_49 : decode prog_71_method_1_code 49 = .ok (.bipush 64, 2) := by decide +kernel
theorem d1_51 : decode prog_71_method_1_code 51 = .ok (.iload_n 1, 1) := by decide +kernel
theorem d1_52 : decode prog_71_method_1_code 52 = .ok (.isub, 1) := by decide +kernel
theorem d1_53 : decode prog_71_method_1_code 53 = .ok (.putfield 33, 3) := by decide +kernel
theorem d1_56 : decode prog_71_method_1_code 56 = .ok (.return_, 1) := by decide +kernel
theorem pn_1 : plainName "com/example/plyward/plyward/search/TranspositionTable" = true := by first | (simp [plainName, overriddenIn]; done) | decide +kernel
theorem ef_1 (m : MethodId) (a0 : Addr) : entryFrame m #[(.ref a0), (.int (1 : Int32))] 2 = mkF m 0 #[.val (.ref a0), .val (.int (1 : Int32))] [] := by first | (simp [entryFrame, mkF, argsToLocals, Value.category]; done) | rfl
def Q1 (Z : State) (a0 : Addr) (f_a0_generation : Int64) (f_a0_settledSince : Int64) (f_a0_entries : Value) (f_a0_shift : Int32) (h0 : Heap) (n0 : Nat) (v : Option Value) (h : Heap) (L : List Loc) : Prop := ∃ (b6 : Addr) (k6 : ClassId), v = none ∧ Fr n0 L ∧ Keep h0 h [a0] ∧ Exa Z h a0 "com/example/plyward/plyward/search/TranspositionTable" ∧ Fld Z h a0 "com/example/plyward/plyward/search/TranspositionTable" "generation" "J" (.long (1 : Int64)) ∧ Fld Z h a0 "com/example/plyward/plyward/search/TranspositionTable" "settledSince" "J" (.long (1 : Int64)) ∧ Fld Z h a0 "com/example/plyward/plyward/search/TranspositionTable" "entries" "[J" (.ref b6) ∧ Fld Z h a0 "com/example/plyward/plyward/search/TranspositionTable" "shift" "I" (.int (63 : Int32)) ∧ (n0 ≤ b6) ∧ (h0.size ≤ b6) ∧ own_Arf Z h b6 k6 .long (8 : Int32) (fun i => .long ((fun _ => (0 : Int64)) i))
set_option maxRecDepth 65536 in
set_option maxHeartbeats 40000000 in
theorem rm1 (l : Launch) (Z : State) (A0 : Array Value) (hw : ∀ d ∈ tables_1, d.before A0 Z = true) (ws : List Jvm.Cond) (a0 : Addr) (f_a0_generation : Int64) (f_a0_settledSince : Int64) (f_a0_entries : Value) (f_a0_shift : Int32) (h0 : Heap) (n0 : Nat) (Z0 : n0 ≤ h0.size) (P_E_a0 : Exa Z h0 a0 "com/example/plyward/plyward/search/TranspositionTable") (P_F_a0_generation : Fld Z h0 a0 "com/example/plyward/plyward/search/TranspositionTable" "generation" "J" (.long f_a0_generation)) (g_a0 : n0 ≤ a0) (P_F_a0_settledSince : Fld Z h0 a0 "com/example/plyward/plyward/search/TranspositionTable" "settledSince" "J" (.long f_a0_settledSince)) (P_F_a0_entries : Fld Z h0 a0 "com/example/plyward/plyward/search/TranspositionTable" "entries" "[J" f_a0_entries) (P_F_a0_shift : Fld Z h0 a0 "com/example/plyward/plyward/search/TranspositionTable" "shift" "I" (.int f_a0_shift)) :
    MetFree l (⟨"com/example/plyward/plyward/search/TranspositionTable", "<init>", "(I)V"⟩ : MethodName) (head1 (Jvm.Cond.code (⟨"com/example/plyward/plyward/search/TranspositionTable", "<init>", "(I)V"⟩ : MethodName) prog_71_method_1_code 2 none :: ws) ({ frames := 1, cells := 1, slots := 8, locals := 12 } : Room)) (fun a U => a = #[(.ref a0), (.int (1 : Int32))] ∧ Z.Warmed39 U.vm ∧ U.heap = h0) (fun _ _ _ _ _ => True) (fun _ U o U' => ∃ v L, o = .returned v ∧ Q1 Z a0 f_a0_generation f_a0_settledSince f_a0_entries f_a0_shift h0 n0 v U'.heap L ∧ FrameEnd U o U' L 1 8) := by
  refine MetFree.of_bodySF (plainFor_of_name pn_1) hisR ?_
  intro p e s m args below meth c s₁ Bd hml0 hP hK
  obtain ⟨rfl, hZ, hh⟩ := hP
  have hx := Bd.exec
  have hby := Bd.bytes
  have hml : c.maxLocals = 2 := hml0
  have hlk : meth.locks = false := Bd.notSynchronized
  have hown : s.vm.findClass "com/example/plyward/plyward/search/TranspositionTable" = some m.cls := findClass_of_methodNamed Bd.named
  have hnm := (name_of_methodNamed Bd.named Bd.method).1
  have X0 : Stand p l e ({ frames := 1, cells := 1, slots := 8, locals := 12 } : Room) s m #[(.ref a0), (.int (1 : Int32))] below meth c s₁ [] 0 0 := Stand.of_body Bd
  have e0 : s₁.heap = h0 := by rw [← hh, Bd.state]; rfl
  have N0 := Fr.nil n0
  show own_Go p e below (own_Fin s 1 8 (Q1 Z a0 f_a0_generation f_a0_settledSince f_a0_entries f_a0_shift h0 n0)) _
  refine own_by (fun t k => castTop (ef_1 m a0) k) ?_
  show own_Go p e below _ (s₁.setTop (mkF m 0 #[.val (.ref a0), .val (.int (1 : Int32))] []))
  refine own_by (fun _ k => XS.aloadN X0.here hx rfl (hb hby d1_0) rfl rfl k) ?_
  show own_Go p e below _ (s₁.setTop (mkF m 1 #[.val (.ref a0), .val (.int (1 : Int32))] [(.ref a0)]))
  obtain ⟨T1, X1, e1, st1⟩ := initO X0 hx hZ hown (hw _ (List.mem_of_getElem? (i := 7) rfl)) (hw _ (List.mem_of_getElem? (i := 8) rfl)) (hw _ (List.mem_of_getElem? (i := 9) rfl)) e0 (g := (mkF m 1 #[.val (.ref a0), .val (.int (1 : Int32))] [(.ref a0)])) rfl (by rw [hml]; rfl) rfl (hb hby d1_1) (by decide) (W := 0) (by show 2 * 0 + _ ≤ _; exact Nat.le_of_eq rfl) (by decide)
  refine own_by st1 ?_
  show own_Go p e below _ (T1.setTop (mkF m 4 #[.val (.ref a0), .val (.int (1 : Int32))] []))
  refine own_by (fun _ k => XS.aloadN X1.here hx rfl (hb hby d1_4) rfl rfl k) ?_
  show own_Go p e below _ (T1.setTop (mkF m 5 #[.val (.ref a0), .val (.int (1 : Int32))] [(.ref a0)]))
  refine own_by (fun _ k => XS.lconst X1.here hx rfl (hb hby d1_5) k) ?_
  show own_Go p e below _ (T1.setTop (mkF m 6 #[.val (.ref a0), .val (.int (1 : Int32))] [(.long (1 : Int64)), (.ref a0)]))
  obtain ⟨T2, h2, X2, e2, W2, st2⟩ := putF X1 hx hZ hown (host := "") (Or.inl (hw _ (List.mem_of_getElem? (i := 10) rfl))) Via.refl e1 P_F_a0_generation P_E_a0 (Or.inl (hw _ (List.mem_of_getElem? (i := 11) rfl))) (hw _ (List.mem_of_getElem? (i := 2) rfl)) (ty := .long) (by decide) rfl rfl (g := (mkF m 6 #[.val (.ref a0), .val (.int (1 : Int32))] [(.long (1 : Int64)), (.ref a0)])) rfl rfl (hb hby d1_6)
  have Fw2 : Fld Z h2 a0 "com/example/plyward/plyward/search/TranspositionTable" "generation" "J" (.long (1 : Int64)) := P_F_a0_generation.same W2
  have K2 : Keep h0 h2 [a0] := (Keep.refl h0 [a0]).wr W2 (Or.inl (List.mem_of_getElem? (i := 0) rfl))
  have Z2 : n0 ≤ h2.size := Nat.le_trans Z0 (Keep.of_wr W2).1
  have N2 := Fr.snoc X2 N0 g_a0
  refine own_by st2 ?_
  show own_Go p e below _ (T2.setTop (mkF m 9 #[.val (.ref a0), .val (.int (1 : Int32))] []))
  refine own_by (fun _ k => XS.aloadN X2.here hx rfl (hb hby d1_9) rfl rfl k) ?_
  show own_Go p e below _ (T2.setTop (mkF m 10 #[.val (.ref a0), .val (.int (1 : Int32))] [(.ref a0)]))
  refine own_by (fun _ k => XS.lconst X2.here hx rfl (hb hby d1_10) k) ?_
  show own_Go p e below _ (T2.setTop (mkF m 11 #[.val (.ref a0), .val (.int (1 : Int32))] [(.long (1 : Int64)), (.ref a0)]))
  have F3 : Exa Z h2 a0 "com/example/plyward/plyward/search/TranspositionTable" := (P_E_a0.wr W2)
  have F4 : Fld Z h2 a0 "com/example/plyward/plyward/search/TranspositionTable" "settledSince" "J" (.long f_a0_settledSince) := (P_F_a0_settledSince.other W2 (Or.inr (slot_ne (Or.inl (hw _ (List.mem_of_getElem? (i := 13) rfl))) (Or.inl (hw _ (List.mem_of_getElem? (i := 11) rfl))) (by decide) (t := .long) (t' := .long) (by decide) (by decide))))
  obtain ⟨T5, h5, X5, e5, W5, st5⟩ := putF X2 hx hZ hown (host := "") (Or.inl (hw _ (List.mem_of_getElem? (i := 12) rfl))) Via.refl e2 F4 F3 (Or.inl (hw _ (List.mem_of_getElem? (i := 13) rfl))) (hw _ (List.mem_of_getElem? (i := 2) rfl)) (ty := .long) (by decide) rfl rfl (g := (mkF m 11 #[.val (.ref a0), .val (.int (1 : Int32))] [(.long (1 : Int64)), (.ref a0)])) rfl rfl (hb hby d1_11)
  have Fw5 : Fld Z h5 a0 "com/example/plyward/plyward/search/TranspositionTable" "settledSince" "J" (.long (1 : Int64)) := F4.same W5
  have K5 : Keep h0 h5 [a0] := K2.wr W5 (Or.inl (List.mem_of_getElem? (i := 0) rfl))
  have Z5 : n0 ≤ h5.size := Nat.le_trans Z2 (Keep.of_wr W5).1
  have N5 := Fr.snoc X5 N2 g_a0
  refine own_by st5 ?_
  show own_Go p e below _ (T5.setTop (mkF m 14 #[.val (.ref a0), .val (.int (1 : Int32))] []))
  refine own_by (fun _ k => XS.iloadN X5.here hx rfl (hb hby d1_14) rfl k) ?_
  show own_Go p e below _ (T5.setTop (mkF m 15 #[.val (.ref a0), .val (.int (1 : Int32))] [(.int (1 : Int32))]))
  refine own_by (fun _ k => XS.iconst X5.here hx rfl (hb hby d1_15) k) ?_
  show own_Go p e below _ (T5.setTop (mkF m 16 #[.val (.ref a0), .val (.int (1 : Int32))] [(.int (1 : Int32)), (.int (1 : Int32))]))
  refine own_by (fun _ k => XS.icmpNo X5.here hx rfl (hb hby d1_16) rfl (flt (by decide : ¬ ((1 : Int32) < (1 : Int32)))).1 k) ?_
  show own_Go p e below _ (T5.setTop (mkF m 19 #[.val (.ref a0), .val (.int (1 : Int32))] []))
  refine own_by (fun _ k => XS.iloadN X5.here hx rfl (hb hby d1_19) rfl k) ?_
  show own_Go p e below _ (T5.setTop (mkF m 20 #[.val (.ref a0), .val (.int (1 : Int32))] [(.int (1 : Int32))]))
  refine own_by (fun _ k => XS.bipush X5.here hx rfl (hb hby d1_20) k) ?_
  show own_Go p e below _ (T5.setTop (mkF m 22 #[.val (.ref a0), .val (.int (1 : Int32))] [(.int (25 : Int32)), (.int (1 : Int32))]))
  refine own_by (fun _ k => XS.icmpYes X5.here hx rfl (pc0 := 22) (pc' := 39) rfl (hb hby d1_22) rfl (flt (by decide : ¬ ((25 : Int32) < (1 : Int32)))).2.2.2 (by decide) (by decide) k) ?_
  show own_Go p e below _ (T5.setTop (mkF m 39 #[.val (.ref a0), .val (.int (1 : Int32))] []))
  refine own_by (fun _ k => XS.aloadN X5.here hx rfl (hb hby d1_39) rfl rfl k) ?_
  show own_Go p e below _ (T5.setTop (mkF m 40 #[.val (.ref a0), .val (.int (1 : Int32))] [(.ref a0)]))
  refine own_by (fun _ k => XS.iconst X5.here hx rfl (hb hby d1_40) k) ?_
  show own_Go p e below _ (T5.setTop (mkF m 41 #[.val (.ref a0), .val (.int (1 : Int32))] [(.int (4 : Int32)), (.ref a0)]))
  refine own_by (fun _ k => XS.iloadN X5.here hx rfl (hb hby d1_41) rfl k) ?_
  show own_Go p e below _ (T5.setTop (mkF m 42 #[.val (.ref a0), .val (.int (1 : Int32))] [(.int (1 : Int32)), (.int (4 : Int32)), (.ref a0)]))
  refine own_by (fun _ k => XS.ishl X5.here hx rfl (hb hby d1_42) rfl k) ?_
  show own_Go p e below _ (T5.setTop (mkF m 43 #[.val (.ref a0), .val (.int (1 : Int32))] [(.int (8 : Int32)), (.ref a0)]))
  obtain ⟨T6, h6, k6, X6, e6, E6, A6, st6⟩ := newP X5 hx hZ (hw _ (List.mem_of_getElem? (i := 14) rfl)) e5 (g := (mkF m 43 #[.val (.ref a0), .val (.int (1 : Int32))] [(.int (8 : Int32)), (.ref a0)])) rfl (hb hby d1_43) rfl (by decide) (cap := 8) (by decide) (by decide) (by decide) (by decide)
  obtain ⟨b6, g6⟩ : ∃ z, z = h5.size := ⟨_, rfl⟩
  have ge_b6 : n0 ≤ b6 := Nat.le_trans Z5 (Nat.le_of_eq g6.symm)
  have sz_b6 : h0.size ≤ b6 := Nat.le_trans K5.1 (Nat.le_of_eq g6.symm)
  have K6 : Keep h0 h6 [a0] := K5.ext E6
  have Z6 : n0 ≤ h6.size := Nat.le_trans Z5 E6.1
  rw [← g6] at A6 st6
  have V6 : own_Arf Z h6 b6 k6 .long (8 : Int32) (fun i => .long ((fun _ => (0 : Int64)) i)) := own_arfNew A6 (by decide)
  refine own_by st6 ?_
  show own_Go p e below _ (T6.setTop (mkF m 45 #[.val (.ref a0), .val (.int (1 : Int32))] [(.ref b6), (.ref a0)]))
  have F7 : Exa Z h6 a0 "com/example/plyward/plyward/search/TranspositionTable" := ((F3.wr W5).ext E6)
  have F8 : Fld Z h6 a0 "com/example/plyward/plyward/search/TranspositionTable" "entries" "[J" f_a0_entries := (((P_F_a0_entries.other W2 (Or.inr (slot_ne (Or.inr (hw _ (List.mem_of_getElem? (i := 16) rfl))) (Or.inl (hw _ (List.mem_of_getElem? (i := 11) rfl))) (by decide) (t := (.array .long)) (t' := .long) (by decide) (by decide)))).other W5 (Or.inr (slot_ne (Or.inr (hw _ (List.mem_of_getElem? (i := 16) rfl))) (Or.inl (hw _ (List.mem_of_getElem? (i := 13) rfl))) (by decide) (t := (.array .long)) (t' := .long) (by decide) (by decide)))).ext E6)
  obtain ⟨T9, h9, X9, e9, W9, st9⟩ := putF X6 hx hZ hown (host := "") (Or.inl (hw _ (List.mem_of_getElem? (i := 15) rfl))) Via.refl e6 F8 F7 (Or.inr ⟨(hw _ (List.mem_of_getElem? (i := 16) rfl)), rfl, hnm⟩) (hw _ (List.mem_of_getElem? (i := 2) rfl)) (ty := (.array .long)) (by decide) rfl rfl (g := (mkF m 45 #[.val (.ref a0), .val (.int (1 : Int32))] [(.ref b6), (.ref a0)])) rfl rfl (hb hby d1_45)
  have Fw9 : Fld Z h9 a0 "com/example/plyward/plyward/search/TranspositionTable" "entries" "[J" (.ref b6) := F8.same W9
  have K9 : Keep h0 h9 [a0] := K6.wr W9 (Or.inl (List.mem_of_getElem? (i := 0) rfl))
  have Z9 : n0 ≤ h9.size := Nat.le_trans Z6 (Keep.of_wr W9).1
  have N9 := Fr.snoc X9 N5 g_a0
  refine own_by st9 ?_
  show own_Go p e below _ (T9.setTop (mkF m 48 #[.val (.ref a0), .val (.int (1 : Int32))] []))
  refine own_by (fun _ k => XS.aloadN X9.here hx rfl (hb hby d1_48) rfl rfl k) ?_
  show own_Go p e below _ (T9.setTop (mkF m 49 #[.val (.ref a0), .val (.int (1 : Int32))] [(.ref a0)]))
  refine own_by (fun _ k => XS.bipush X9.here hx rfl (hb hby d1_49) k) ?_
  show own_Go p e below _ (T9.setTop (mkF m 51 #[.val (.ref a0), .val (.int (1 : Int32))] [(.int (64 : Int32)), (.ref a0)]))
  refine own_by (fun _ k => XS.iloadN X9.here hx rfl (hb hby d1_51) rfl k) ?_
  show own_Go p e below _ (T9.setTop (mkF m 52 #[.val (.ref a0), .val (.int (1 : Int32))] [(.int (1 : Int32)), (.int (64 : Int32)), (.ref a0)]))
  refine own_by (fun _ k => XS.isub X9.here hx rfl (hb hby d1_52) rfl k) ?_
  show own_Go p e below _ (T9.setTop (mkF m 53 #[.val (.ref a0), .val (.int (1 : Int32))] [(.int (63 : Int32)), (.ref a0)]))
  have F10 : Exa Z h9 a0 "com/example/plyward/plyward/search/TranspositionTable" := (F7.wr W9)
  have F11 : Fld Z h9 a0 "com/example/plyward/plyward/search/TranspositionTable" "shift" "I" (.int f_a0_shift) := ((((P_F_a0_shift.other W2 (Or.inr (slot_ne (Or.inr (hw _ (List.mem_of_getElem? (i := 18) rfl))) (Or.inl (hw _ (List.mem_of_getElem? (i := 11) rfl))) (by decide) (t := .int) (t' := .long) (by decide) (by decide)))).other W5 (Or.inr (slot_ne (Or.inr (hw _ (List.mem_of_getElem? (i := 18) rfl))) (Or.inl (hw _ (List.mem_of_getElem? (i := 13) rfl))) (by decide) (t := .int) (t' := .long) (by decide) (by decide)))).ext E6).other W9 (Or.inr (slot_ne (Or.inr (hw _ (List.mem_of_getElem? (i := 18) rfl))) (Or.inr (hw _ (List.mem_of_getElem? (i := 16) rfl))) (by decide) (t := .int) (t' := (.array .long)) (by decide) (by decide))))
  obtain ⟨T12, h12, X12, e12, W12, st12⟩ := putF X9 hx hZ hown (host := "") (Or.inl (hw _ (List.mem_of_getElem? (i := 17) rfl))) Via.refl e9 F11 F10 (Or.inr ⟨(hw _ (List.mem_of_getElem? (i := 18) rfl)), rfl, hnm⟩) (hw _ (List.mem_of_getElem? (i := 2) rfl)) (ty := .int) (by decide) rfl rfl (g := (mkF m 53 #[.val (.ref a0), .val (.int (1 : Int32))] [(.int (63 : Int32)), (.ref a0)])) rfl rfl (hb hby d1_53)
  have Fw12 : Fld Z h12 a0 "com/example/plyward/plyward/search/TranspositionTable" "shift" "I" (.int (63 : Int32)) := F11.same W12
  have K12 : Keep h0 h12 [a0] := K9.wr W12 (Or.inl (List.mem_of_getElem? (i := 0) rfl))
  have Z12 : n0 ≤ h12.size := Nat.le_trans Z9 (Keep.of_wr W12).1
  have N12 := Fr.snoc X12 N9 g_a0
  refine own_by st12 ?_
  show own_Go p e below _ (T12.setTop (mkF m 56 #[.val (.ref a0), .val (.int (1 : Int32))] []))
  have F13 : Exa Z h12 a0 "com/example/plyward/plyward/search/TranspositionTable" := (F10.wr W12)
  have F14 : Fld Z h12 a0 "com/example/plyward/plyward/search/TranspositionTable" "generation" "J" (.long (1 : Int64)) := ((((Fw2.other W5 (Or.inr (slot_ne (Or.inl (hw _ (List.mem_of_getElem? (i := 11) rfl))) (Or.inl (hw _ (List.mem_of_getElem? (i := 13) rfl))) (by decide) (t := .long) (t' := .long) (by decide) (by decide)))).ext E6).other W9 (Or.inr (slot_ne (Or.inl (hw _ (List.mem_of_getElem? (i := 11) rfl))) (Or.inr (hw _ (List.mem_of_getElem? (i := 16) rfl))) (by decide) (t := .long) (t' := (.array .long)) (by decide) (by decide)))).other W12 (Or.inr (slot_ne (Or.inl (hw _ (List.mem_of_getElem? (i := 11) rfl))) (Or.inr (hw _ (List.mem_of_getElem? (i := 18) rfl))) (by decide) (t := .long) (t' := .int) (by decide) (by decide))))
  have F15 : Fld Z h12 a0 "com/example/plyward/plyward/search/TranspositionTable" "settledSince" "J" (.long (1 : Int64)) := (((Fw5.ext E6).other W9 (Or.inr (slot_ne (Or.inl (hw _ (List.mem_of_getElem? (i := 13) rfl))) (Or.inr (hw _ (List.mem_of_getElem? (i := 16) rfl))) (by decide) (t := .long) (t' := (.array .long)) (by decide) (by decide)))).other W12 (Or.inr (slot_ne (Or.inl (hw _ (List.mem_of_getElem? (i := 13) rfl))) (Or.inr (hw _ (List.mem_of_getElem? (i := 18) rfl))) (by decide) (t := .long) (t' := .int) (by decide) (by decide))))
  have F16 : Fld Z h12 a0 "com/example/plyward/plyward/search/TranspositionTable" "entries" "[J" (.ref b6) := (Fw9.other W12 (Or.inr (slot_ne (Or.inr (hw _ (List.mem_of_getElem? (i := 16) rfl))) (Or.inr (hw _ (List.mem_of_getElem? (i := 18) rfl))) (by decide) (t := (.array .long)) (t' := .int) (by decide) (by decide))))
  have F17 : own_Arf Z h12 b6 k6 .long (8 : Int32) (fun i => .long ((fun _ => (0 : Int64)) i)) := ((V6.other W9 (Ne.symm (Nat.ne_of_lt (Nat.lt_of_lt_of_le ((F3.wr W5)).lt (Nat.le_of_eq g6.symm))))).other W12 (Ne.symm (Nat.ne_of_lt (Nat.lt_of_lt_of_le ((F3.wr W5)).lt (Nat.le_of_eq g6.symm)))))
  exact own_ret0 X12 hx Bd.returns (hb hby d1_56) hlk e12 ⟨_, _, rfl, N12, K12, F13, F14, F15, F16, Fw12, ge_b6, sz_b6, F17⟩ (by decide) (by decide)
theorem d5_0 : decode prog_71_method_12_code 0 = .ok (.lload_n 1, 1) := by decide +kernel
theorem d5_1 : decode prog_71_method_12_code 1 = .ok (.ldc2_w 78, 3) := by decide +kernel
theorem d5_4 : decode prog_71_method_12_code 4 = .ok (.lmul, 1) := by decide +kernel
theorem d5_5 : decode prog_71_method_12_code 5 = .ok (.aload_n 0, 1) := by decide +kernel
theorem d5_6 : decode prog_71_method_12_code 6 = .ok (.getfield 33, 3) := by decide +kernel
theorem d5_9 : decode prog_71_method_12_code 9 = .ok (.lushr, 1) := by decide +kernel
theorem d5_10 : decode prog_71_method_12_code 10 = .ok (.l2i, 1) := by decide +kernel
theorem d5_11 : decode prog_71_method_12_code 11 = .ok (.istore_n 3, 1) := by decide +kernel
theorem d5_12 : decode prog_71_method_12_code 12 = .ok (.iload_n 3, 1) := by decide +kernel
theorem d5_13 : decode prog_71_method_12_code 13 = .ok (.bipush (-2), 2) := by decide +kernel
theorem d5_15 : decode prog_71_method_12_code 15 = .ok (.iand, 1) := by decide +kernel
theorem d5_16 : decode prog_71_method_12_code 16 = .ok (.iconst 4, 1) := by decide +kernel
theorem d5_17 : decode prog_71_method_12_code 17 = .ok (.imul, 1) := by decide +kernel
theorem d5_18 : decode prog_71_method_12_code 18 = .ok (.ireturn, 1) := by decide +kernel
theorem pn_5 : plainName "com/example/plyward/plyward/search/TranspositionTable" = true := by first | (simp [plainName, overriddenIn]; done) | decide +kernel
theorem ef_5 (m : MethodId) (a0 : Addr) (q1 : Int64) : entryFrame m #[(.ref a0), (.long q1)] 4 = mkF m 0 #[.val (.ref a0), .val (.long q1), .second, .unset] [] := by first | (simp [entryFrame, mkF, argsToLocals, Value.category]; done) | rfl
def Q5 (Z : State) (a0 : Addr) (q1 : Int64) (h0 : Heap) (n0 : Nat) (v : Option Value) (h : Heap) (L : List Loc) : Prop := v = some (.int (0 : Int32)) ∧ Fr n0 L ∧ h = h0
set_option maxRecDepth 65536 in
set_option maxHeartbeats 40000000 in
theorem rm5 (l : Launch) (Z : State) (A0 : Array Value) (hw : ∀ d ∈ tables_1, d.before A0 Z = true) (ws : List Jvm.Cond) (a0 : Addr) (q1 : Int64) (h0 : Heap) (n0 : Nat) (Z0 : n0 ≤ h0.size) (P_F_a0_shift : Fld Z h0 a0 "com/example/plyward/plyward/search/TranspositionTable" "shift" "I" (.int (63 : Int32))) :
    MetFree l (⟨"com/example/plyward/plyward/search/TranspositionTable", "bucket", "(J)I"⟩ : MethodName) (head1 (Jvm.Cond.code (⟨"com/example/plyward/plyward/search/TranspositionTable", "bucket", "(J)I"⟩ : MethodName) prog_71_method_12_code 4 (some .int) :: ws) ({ frames := 0, cells := 0, slots := 0, locals := 0 } : Room)) (fun a U => a = #[(.ref a0), (.long q1)] ∧ Z.Warmed39 U.vm ∧ U.heap = h0) (fun _ _ _ _ _ => True) (fun _ U o U' => ∃ v L, o = .returned v ∧ Q5 Z a0 q1 h0 n0 v U'.heap L ∧ FrameEnd U o U' L 0 0) := by
  refine MetFree.of_bodySF (plainFor_of_name pn_5) hisR ?_
  intro p e s m args below meth c s₁ Bd hml0 hP hK
  obtain ⟨rfl, hZ, hh⟩ := hP
  have hx := Bd.exec
  have hby := Bd.bytes
  have hml : c.maxLocals = 4 := hml0
  have hlk : meth.locks = false := Bd.notSynchronized
  have hown : s.vm.findClass "com/example/plyward/plyward/search/TranspositionTable" = some m.cls := findClass_of_methodNamed Bd.named
  have hnm := (name_of_methodNamed Bd.named Bd.method).1
  have X0 : Stand p l e ({ frames := 0, cells := 0, slots := 0, locals := 0 } : Room) s m #[(.ref a0), (.long q1)] below meth c s₁ [] 0 0 := Stand.of_body Bd
  have e0 : s₁.heap = h0 := by rw [← hh, Bd.state]; rfl
  have N0 := Fr.nil n0
  show own_Go p e below (own_Fin s 0 0 (Q5 Z a0 q1 h0 n0)) _
  refine own_by (fun t k => castTop (ef_5 m a0 q1) k) ?_
  show own_Go p e below _ (s₁.setTop (mkF m 0 #[.val (.ref a0), .val (.long q1), .second, .unset] []))
  refine own_by (fun _ k => XS.lloadN X0.here hx rfl (hb hby d5_0) rfl k) ?_
  show own_Go p e below _ (s₁.setTop (mkF m 1 #[.val (.ref a0), .val (.long q1), .second, .unset] [(.long q1)]))
  refine own_by (fun t k => X0.ldc2Long hx hown (mvT hZ (hw _ (List.mem_of_getElem? (i := 34) rfl))) (g := (mkF m 1 #[.val (.ref a0), .val (.long q1), .second, .unset] [(.long q1)])) rfl (hb hby d5_1) _ k) ?_
  show own_Go p e below _ (s₁.setTop (mkF m 4 #[.val (.ref a0), .val (.long q1), .second, .unset] [(.long (-7046029254386353131 : Int64)), (.long q1)]))
  refine own_by (fun _ k => XS.lmul X0.here hx rfl (hb hby d5_4) rfl k) ?_
  show own_Go p e below _ (s₁.setTop (mkF m 5 #[.val (.ref a0), .val (.long q1), .second, .unset] [(.long (q1 * (-7046029254386353131 : Int64)))]))
  refine own_by (fun _ k => XS.aloadN X0.here hx rfl (hb hby d5_5) rfl rfl k) ?_
  show own_Go p e below _ (s₁.setTop (mkF m 6 #[.val (.ref a0), .val (.long q1), .second, .unset] [(.ref a0), (.long (q1 * (-7046029254386353131 : Int64)))]))
  obtain ⟨T1, X1, e1, st1⟩ := getF X0 hx hZ hown (host := "") (Or.inl (hw _ (List.mem_of_getElem? (i := 17) rfl))) Via.refl e0 P_F_a0_shift (g := (mkF m 6 #[.val (.ref a0), .val (.long q1), .second, .unset] [(.ref a0), (.long (q1 * (-7046029254386353131 : Int64)))])) rfl rfl (hb hby d5_6)
  refine own_by st1 ?_
  show own_Go p e below _ (T1.setTop (mkF m 9 #[.val (.ref a0), .val (.long q1), .second, .unset] [(.int (63 : Int32)), (.long (q1 * (-7046029254386353131 : Int64)))]))
  refine own_by (fun _ k => XS.lushr X1.here hx rfl (hb hby d5_9) rfl k) ?_
  show own_Go p e below _ (T1.setTop (mkF m 10 #[.val (.ref a0), .val (.long q1), .second, .unset] [(.long (((q1 * (-7046029254386353131 : Int64)).toUInt64 >>> ((63 : Int32) &&& 0x3f).toInt64.toUInt64).toInt64))]))
  refine own_by (fun _ k => XS.l2i X1.here hx rfl (hb hby d5_10) rfl k) ?_
  show own_Go p e below _ (T1.setTop (mkF m 11 #[.val (.ref a0), .val (.long q1), .second, .unset] [(.int ((((q1 * (-7046029254386353131 : Int64)).toUInt64 >>> ((63 : Int32) &&& 0x3f).toInt64.toUInt64).toInt64).toInt32))]))
  refine own_by (fun _ k => XS.istoreN X1.here hx rfl (hb hby d5_11) rfl (l' := #[.val (.ref a0), .val (.long q1), .second, .val (.int ((((q1 * (-7046029254386353131 : Int64)).toUInt64 >>> ((63 : Int32) &&& 0x3f).toInt64.toUInt64).toInt64).toInt32))]) rfl k) ?_
  show own_Go p e below _ (T1.setTop (mkF m 12 #[.val (.ref a0), .val (.long q1), .second, .val (.int ((((q1 * (-7046029254386353131 : Int64)).toUInt64 >>> ((63 : Int32) &&& 0x3f).toInt64.toUInt64).toInt64).toInt32))] []))
  refine own_by (fun _ k => XS.iloadN X1.here hx rfl (hb hby d5_12) rfl k) ?_
  show own_Go p e below _ (T1.setTop (mkF m 13 #[.val (.ref a0), .val (.long q1), .second, .val (.int ((((q1 * (-7046029254386353131 : Int64)).toUInt64 >>> ((63 : Int32) &&& 0x3f).toInt64.toUInt64).toInt64).toInt32))] [(.int ((((q1 * (-7046029254386353131 : Int64)).toUInt64 >>> ((63 : Int32) &&& 0x3f).toInt64.toUInt64).toInt64).toInt32))]))
  refine own_by (fun _ k => XS.bipush X1.here hx rfl (hb hby d5_13) k) ?_
  show own_Go p e below _ (T1.setTop (mkF m 15 #[.val (.ref a0), .val (.long q1), .second, .val (.int ((((q1 * (-7046029254386353131 : Int64)).toUInt64 >>> ((63 : Int32) &&& 0x3f).toInt64.toUInt64).toInt64).toInt32))] [(.int (-2 : Int32)), (.int ((((q1 * (-7046029254386353131 : Int64)).toUInt64 >>> ((63 : Int32) &&& 0x3f).toInt64.toUInt64).toInt64).toInt32))]))
  refine own_by (fun _ k => XS.iand X1.here hx rfl (hb hby d5_15) rfl k) ?_
  show own_Go p e below _ (T1.setTop (mkF m 16 #[.val (.ref a0), .val (.long q1), .second, .val (.int ((((q1 * (-7046029254386353131 : Int64)).toUInt64 >>> ((63 : Int32) &&& 0x3f).toInt64.toUInt64).toInt64).toInt32))] [(.int (((((q1 * (-7046029254386353131 : Int64)).toUInt64 >>> ((63 : Int32) &&& 0x3f).toInt64.toUInt64).toInt64).toInt32) &&& (-2 : Int32)))]))
  refine own_by (fun _ k => XS.iconst X1.here hx rfl (hb hby d5_16) k) ?_
  show own_Go p e below _ (T1.setTop (mkF m 17 #[.val (.ref a0), .val (.long q1), .second, .val (.int ((((q1 * (-7046029254386353131 : Int64)).toUInt64 >>> ((63 : Int32) &&& 0x3f).toInt64.toUInt64).toInt64).toInt32))] [(.int (4 : Int32)), (.int (((((q1 * (-7046029254386353131 : Int64)).toUInt64 >>> ((63 : Int32) &&& 0x3f).toInt64.toUInt64).toInt64).toInt32) &&& (-2 : Int32)))]))
  refine own_by (fun _ k => XS.imul X1.here hx rfl (hb hby d5_17) rfl k) ?_
  show own_Go p e below _ (T1.setTop (mkF m 18 #[.val (.ref a0), .val (.long q1), .second, .val (.int ((((q1 * (-7046029254386353131 : Int64)).toUInt64 >>> ((63 : Int32) &&& 0x3f).toInt64.toUInt64).toInt64).toInt32))] [(.int ((((((q1 * (-7046029254386353131 : Int64)).toUInt64 >>> ((63 : Int32) &&& 0x3f).toInt64.toUInt64).toInt64).toInt32) &&& (-2 : Int32)) * (4 : Int32)))]))
  exact own_retI X1 hx Bd.returns (hb hby d5_18) hlk e1 ⟨congrArg (fun z => some (Value.int z)) (own_bucket _), N0, rfl⟩ (by decide) (by decide)
theorem d7_0 : decode prog_71_method_11_code 0 = .ok (.lload_n 1, 1) := by decide +kernel
theorem d7_1 : decode prog_71_method_11_code 1 = .ok (.ldc2_w 40, 3) := by decide +kernel
theorem d7_4 : decode prog_71_method_11_code 4 = .ok (.land, 1) := by decide +kernel
theorem d7_5 : decode prog_71_method_11_code 5 = .ok (.lstore 4, 2) := by decide +kernel
theorem d7_7 : decode prog_71_method_11_code 7 = .ok (.lload_n 1, 1) := by decide +kernel
theorem d7_8 : decode prog_71_method_11_code 8 = .ok (.bipush 32, 2) := by decide +kernel
theorem d7_10 : decode prog_71_method_11_code 10 = .ok (.lushr, 1) := by decide +kernel
theorem d7_11 : decode prog_71_method_11_code 11 = .ok (.l2i, 1) := by decide +kernel
theorem d7_12 : decode prog_71_method_11_code 12 = .ok (.istore 6, 2) := by decide +kernel
theorem d7_14 : decode prog_71_method_11_code 14 = .ok (.lload_n 1, 1) := by decide +kernel
theorem d7_15 : decode prog_71_method_11_code 15 = .ok (.ldc2_w 62, 3) := by decide +kernel
theorem d7_18 : decode prog_71_method_11_code 18 = .ok (.land, 1) := by decide +kernel
theorem d7_19 : decode prog_71_method_11_code 19 = .ok (.lconst 0, 1) := by decide +kernel
theorem d7_20 : decode prog_71_method_11_code 20 = .ok (.lcmp, 1) := by decide +kernel
theorem d7_21 : decode prog_71_method_11_code 21 = .ok (.ifCond .eq 7, 3) := by decide +kernel
theorem d7_24 : decode prog_71_method_11_code 24 = .ok (.iconst 1, 1) := by decide +kernel
theorem d7_25 : decode prog_71_method_11_code 25 = .ok (.goto 4, 3) := by decide +kernel
theorem d7_28 : decode prog_71_method_11_code 28 = .ok (.iconst 0, 1) := by decide +kernel
theorem d7_29 : decode prog_71_method_11_code 29 = .ok (.istore 7, 2) := by decide +kernel
theorem d7_31 : decode prog_71_method_11_code 31 = .ok (.lload 4, 2) := by decide +kernel
theorem d7_33 : decode prog_71_method_11_code 33 = .ok (.aload_n 0, 1) := by decide +kernel
theorem d7_34 : decode prog_71_method_11_code 34 = .ok (.getfield 11, 3) := by decide +kernel
theorem d7_37 : decode prog_71_method_11_code 37 = .ok (.lcmp, 1) := by decide +kernel
theorem d7_38 : decode prog_71_method_11_code 38 = .ok (.ifCond .ne 9, 3) := by decide +kernel
theorem d7_41 : decode prog_71_method_11_code 41 = .ok (.iload 6, 2) := by decide +kernel
theorem d7_43 : decode prog_71_method_11_code 43 = .ok (.iload_n 3, 1) := by decide +kernel
theorem d7_44 : decode prog_71_method_11_code 44 = .ok (.if_icmp .eq 24, 3) := by decide +kernel
theorem d7_47 : decode prog_71_method_11_code 47 = .ok (.iload 7, 2) := by decide +kernel
theorem d7_49 : decode prog_71_method_11_code 49 = .ok (.ifCond .eq 23, 3) := by decide +kernel
theorem d7_52 : decode prog_71_method_11_code 52 = .ok (.lload 4, 2) := by decide +kernel
theorem d7_54 : decode prog_71_method_11_code 54 = .ok (.aload_n 0, 1) := by decide +kernel
theorem d7_55 : decode prog_71_method_11_code 55 = .ok (.getfield 15, 3) := by decide +kernel
theorem d7_58 : decode prog_71_method_11_code 58 = .ok (.lcmp, 1) := by decide +kernel
theorem d7_59 : decode prog_71_method_11_code 59 = .ok (.ifCond .lt 13, 3) := by decide +kernel
theorem d7_62 : decode prog_71_method_11_code 62 = .ok (.iload 6, 2) := by decide +kernel
theorem d7_64 : decode prog_71_method_11_code 64 = .ok (.iload_n 3, 1) := by decide +kernel
theorem d7_65 : decode prog_71_method_11_code 65 = .ok (.if_icmp .gt 7, 3) := by decide +kernel
theorem d7_68 : decode prog_71_method_11_code 68 = .ok (.iconst 1, 1) := by decide +kernel
theorem d7_69 : decode prog_71_method_11_code 69 = .ok (.goto 4, 3) := by decide +kernel
theorem d7_72 : decode prog_71_method_11_code 72 = .ok (.iconst 0, 1) := by decide +kernel
theorem d7_73 : decode prog_71_method_11_code 73 = .ok (.ireturn, 1) := by decide +kernel
theorem pn_7 : plainName "com/example/plyward/plyward/search/TranspositionTable" = true := by first | (simp [plainName, overriddenIn]; done) | decide +kernel
theorem ef_7 (m : MethodId) (a0 : Addr) (q1 : Int64) (p2 : Int32) : entryFrame m #[(.ref a0), (.long q1), (.int p2)] 8 = mkF m 0 #[.val (.ref a0), .val (.long q1), .second, .val (.int p2), .unset, .unset, .unset, .unset] [] := by first | (simp [entryFrame, mkF, argsToLocals, Value.category]; done) | rfl
theorem ob_7_1 (q1 : Int64) (p2 : Int32) (f_a0_generation : Int64) (f_a0_settledSince : Int64) (v1 : Int64) (v2 : Int32) (z10 : Int32) (hv1 : (q1 &&& (2147483647 : Int64)) = v1) (hv2 : (((q1.toUInt64 >>> ((32 : Int32) &&& 0x3f).toInt64.toUInt64).toInt64).toInt32) = v2) (hj11 : (((q1 &&& (2147483648 : Int64)) = (0 : Int64)) ∧ z10 = (0 : Int32)) ∨ ((¬ ((q1 &&& (2147483648 : Int64)) = (0 : Int64))) ∧ z10 = (1 : Int32))) (c13 : v1 = f_a0_generation) (c14 : v2 = p2) : ((1 : Int32) = (1 : Int32) ∧ own_holds q1 p2 f_a0_generation f_a0_settledSince) ∨ ((1 : Int32) = (0 : Int32) ∧ ¬ own_holds q1 p2 f_a0_generation f_a0_settledSince) := by
  simp only [own_holds]
  grind
theorem ob_7_2 (q1 : Int64) (p2 : Int32) (f_a0_generation : Int64) (f_a0_settledSince : Int64) (v1 : Int64) (v2 : Int32) (z10 : Int32) (hv1 : (q1 &&& (2147483647 : Int64)) = v1) (hv2 : (((q1.toUInt64 >>> ((32 : Int32) &&& 0x3f).toInt64.toUInt64).toInt64).toInt32) = v2) (hj11 : (((q1 &&& (2147483648 : Int64)) = (0 : Int64)) ∧ z10 = (0 : Int32)) ∨ ((¬ ((q1 &&& (2147483648 : Int64)) = (0 : Int64))) ∧ z10 = (1 : Int32))) (c13 : v1 = f_a0_generation) (c14 : ¬ (v2 = p2)) (c15 : z10 = (0 : Int32)) : ((0 : Int32) = (1 : Int32) ∧ own_holds q1 p2 f_a0_generation f_a0_settledSince) ∨ ((0 : Int32) = (0 : Int32) ∧ ¬ own_holds q1 p2 f_a0_generation f_a0_settledSince) := by
  simp only [own_holds]
  grind
theorem ob_7_3 (q1 : Int64) (p2 : Int32) (f_a0_generation : Int64) (f_a0_settledSince : Int64) (v1 : Int64) (v2 : Int32) (z10 : Int32) (hv1 : (q1 &&& (2147483647 : Int64)) = v1) (hv2 : (((q1.toUInt64 >>> ((32 : Int32) &&& 0x3f).toInt64.toUInt64).toInt64).toInt32) = v2) (hj11 : (((q1 &&& (2147483648 : Int64)) = (0 : Int64)) ∧ z10 = (0 : Int32)) ∨ ((¬ ((q1 &&& (2147483648 : Int64)) = (0 : Int64))) ∧ z10 = (1 : Int32))) (c13 : v1 = f_a0_generation) (c14 : ¬ (v2 = p2)) (c15 : ¬ (z10 = (0 : Int32))) (c17 : v1 < f_a0_settledSince) : ((0 : Int32) = (1 : Int32) ∧ own_holds q1 p2 f_a0_generation f_a0_settledSince) ∨ ((0 : Int32) = (0 : Int32) ∧ ¬ own_holds q1 p2 f_a0_generation f_a0_settledSince) := by
  simp only [own_holds]
  grind
theorem ob_7_4 (q1 : Int64) (p2 : Int32) (f_a0_generation : Int64) (f_a0_settledSince : Int64) (v1 : Int64) (v2 : Int32) (z10 : Int32) (hv1 : (q1 &&& (2147483647 : Int64)) = v1) (hv2 : (((q1.toUInt64 >>> ((32 : Int32) &&& 0x3f).toInt64.toUInt64).toInt64).toInt32) = v2) (hj11 : (((q1 &&& (2147483648 : Int64)) = (0 : Int64)) ∧ z10 = (0 : Int32)) ∨ ((¬ ((q1 &&& (2147483648 : Int64)) = (0 : Int64))) ∧ z10 = (1 : Int32))) (c13 : v1 = f_a0_generation) (c14 : ¬ (v2 = p2)) (c15 : ¬ (z10 = (0 : Int32))) (c17 : ¬ (v1 < f_a0_settledSince)) (c18 : p2 < v2) : ((0 : Int32) = (1 : Int32) ∧ own_holds q1 p2 f_a0_generation f_a0_settledSince) ∨ ((0 : Int32) = (0 : Int32) ∧ ¬ own_holds q1 p2 f_a0_generation f_a0_settledSince) := by
  simp only [own_holds]
  grind
theorem ob_7_5 (q1 : Int64) (p2 : Int32) (f_a0_generation : Int64) (f_a0_settledSince : Int64) (v1 : Int64) (v2 : Int32) (z10 : Int32) (hv1 : (q1 &&& (2147483647 : Int64)) = v1) (hv2 : (((q1.toUInt64 >>> ((32 : Int32) &&& 0x3f).toInt64.toUInt64).toInt64).toInt32) = v2) (hj11 : (((q1 &&& (2147483648 : Int64)) = (0 : Int64)) ∧ z10 = (0 : Int32)) ∨ ((¬ ((q1 &&& (2147483648 : Int64)) = (0 : Int64))) ∧ z10 = (1 : Int32))) (c13 : v1 = f_a0_generation) (c14 : ¬ (v2 = p2)) (c15 : ¬ (z10 = (0 : Int32))) (c17 : ¬ (v1 < f_a0_settledSince)) (c18 : ¬ (p2 < v2)) : ((1 : Int32) = (1 : Int32) ∧ own_holds q1 p2 f_a0_generation f_a0_settledSince) ∨ ((1 : Int32) = (0 : Int32) ∧ ¬ own_holds q1 p2 f_a0_generation f_a0_settledSince) := by
  simp only [own_holds]
  grind
theorem ob_7_6 (q1 : Int64) (p2 : Int32) (f_a0_generation : Int64) (f_a0_settledSince : Int64) (v1 : Int64) (v2 : Int32) (z10 : Int32) (hv1 : (q1 &&& (2147483647 : Int64)) = v1) (hv2 : (((q1.toUInt64 >>> ((32 : Int32) &&& 0x3f).toInt64.toUInt64).toInt64).toInt32) = v2) (hj11 : (((q1 &&& (2147483648 : Int64)) = (0 : Int64)) ∧ z10 = (0 : Int32)) ∨ ((¬ ((q1 &&& (2147483648 : Int64)) = (0 : Int64))) ∧ z10 = (1 : Int32))) (c13 : ¬ (v1 = f_a0_generation)) (c19 : z10 = (0 : Int32)) : ((0 : Int32) = (1 : Int32) ∧ own_holds q1 p2 f_a0_generation f_a0_settledSince) ∨ ((0 : Int32) = (0 : Int32) ∧ ¬ own_holds q1 p2 f_a0_generation f_a0_settledSince) := by
  simp only [own_holds]
  grind
theorem ob_7_7 (q1 : Int64) (p2 : Int32) (f_a0_generation : Int64) (f_a0_settledSince : Int64) (v1 : Int64) (v2 : Int32) (z10 : Int32) (hv1 : (q1 &&& (2147483647 : Int64)) = v1) (hv2 : (((q1.toUInt64 >>> ((32 : Int32) &&& 0x3f).toInt64.toUInt64).toInt64).toInt32) = v2) (hj11 : (((q1 &&& (2147483648 : Int64)) = (0 : Int64)) ∧ z10 = (0 : Int32)) ∨ ((¬ ((q1 &&& (2147483648 : Int64)) = (0 : Int64))) ∧ z10 = (1 : Int32))) (c13 : ¬ (v1 = f_a0_generation)) (c19 : ¬ (z10 = (0 : Int32))) (c21 : v1 < f_a0_settledSince) : ((0 : Int32) = (1 : Int32) ∧ own_holds q1 p2 f_a0_generation f_a0_settledSince) ∨ ((0 : Int32) = (0 : Int32) ∧ ¬ own_holds q1 p2 f_a0_generation f_a0_settledSince) := by
  simp only [own_holds]
  grind
theorem ob_7_8 (q1 : Int64) (p2 : Int32) (f_a0_generation : Int64) (f_a0_settledSince : Int64) (v1 : Int64) (v2 : Int32) (z10 : Int32) (hv1 : (q1 &&& (2147483647 : Int64)) = v1) (hv2 : (((q1.toUInt64 >>> ((32 : Int32) &&& 0x3f).toInt64.toUInt64).toInt64).toInt32) = v2) (hj11 : (((q1 &&& (2147483648 : Int64)) = (0 : Int64)) ∧ z10 = (0 : Int32)) ∨ ((¬ ((q1 &&& (2147483648 : Int64)) = (0 : Int64))) ∧ z10 = (1 : Int32))) (c13 : ¬ (v1 = f_a0_generation)) (c19 : ¬ (z10 = (0 : Int32))) (c21 : ¬ (v1 < f_a0_settledSince)) (c22 : p2 < v2) : ((0 : Int32) = (1 : Int32) ∧ own_holds q1 p2 f_a0_generation f_a0_settledSince) ∨ ((0 : Int32) = (0 : Int32) ∧ ¬ own_holds q1 p2 f_a0_generation f_a0_settledSince) := by
  simp only [own_holds]
  grind
theorem ob_7_9 (q1 : Int64) (p2 : Int32) (f_a0_generation : Int64) (f_a0_settledSince : Int64) (v1 : Int64) (v2 : Int32) (z10 : Int32) (hv1 : (q1 &&& (2147483647 : Int64)) = v1) (hv2 : (((q1.toUInt64 >>> ((32 : Int32) &&& 0x3f).toInt64.toUInt64).toInt64).toInt32) = v2) (hj11 : (((q1 &&& (2147483648 : Int64)) = (0 : Int64)) ∧ z10 = (0 : Int32)) ∨ ((¬ ((q1 &&& (2147483648 : Int64)) = (0 : Int64))) ∧ z10 = (1 : Int32))) (c13 : ¬ (v1 = f_a0_generation)) (c19 : ¬ (z10 = (0 : Int32))) (c21 : ¬ (v1 < f_a0_settledSince)) (c22 : ¬ (p2 < v2)) : ((1 : Int32) = (1 : Int32) ∧ own_holds q1 p2 f_a0_generation f_a0_settledSince) ∨ ((1 : Int32) = (0 : Int32) ∧ ¬ own_holds q1 p2 f_a0_generation f_a0_settledSince) := by
  simp only [own_holds]
  grind
def Q7 (Z : State) (a0 : Addr) (q1 : Int64) (p2 : Int32) (f_a0_generation : Int64) (f_a0_settledSince : Int64) (h0 : Heap) (n0 : Nat) (v : Option Value) (h : Heap) (L : List Loc) : Prop := ∃ (zz : Int32), v = some (.int zz) ∧ Fr n0 L ∧ h = h0 ∧ ((zz = (1 : Int32) ∧ own_holds q1 p2 f_a0_generation f_a0_settledSince) ∨ (zz = (0 : Int32) ∧ ¬ own_holds q1 p2 f_a0_generation f_a0_settledSince))
set_option maxRecDepth 65536 in
set_option maxHeartbeats 40000000 in
theorem rm7 (l : Launch) (Z : State) (A0 : Array Value) (hw : ∀ d ∈ tables_1, d.before A0 Z = true) (ws : List Jvm.Cond) (a0 : Addr) (q1 : Int64) (p2 : Int32) (f_a0_generation : Int64) (f_a0_settledSince : Int64) (h0 : Heap) (n0 : Nat) (Z0 : n0 ≤ h0.size) (P_F_a0_generation : Fld Z h0 a0 "com/example/plyward/plyward/search/TranspositionTable" "generation" "J" (.long f_a0_generation)) (P_F_a0_settledSince : Fld Z h0 a0 "com/example/plyward/plyward/search/TranspositionTable" "settledSince" "J" (.long f_a0_settledSince)) :
    MetFree l (⟨"com/example/plyward/plyward/search/TranspositionTable", "holdsAt", "(JI)Z"⟩ : MethodName) (head1 (Jvm.Cond.code (⟨"com/example/plyward/plyward/search/TranspositionTable", "holdsAt", "(JI)Z"⟩ : MethodName) prog_71_method_11_code 8 (some .boolean) :: ws) ({ frames := 0, cells := 0, slots := 0, locals := 0 } : Room)) (fun a U => a = #[(.ref a0), (.long q1), (.int p2)] ∧ Z.Warmed39 U.vm ∧ U.heap = h0) (fun _ _ _ _ _ => True) (fun _ U o U' => ∃ v L, o = .returned v ∧ Q7 Z a0 q1 p2 f_a0_generation f_a0_settledSince h0 n0 v U'.heap L ∧ FrameEnd U o U' L 0 0) := by
  refine MetFree.of_bodySF (plainFor_of_name pn_7) hisR ?_
  intro p e s m args below meth c s₁ Bd hml0 hP hK
  obtain ⟨rfl, hZ, hh⟩ := hP
  have hx := Bd.exec
  have hby := Bd.bytes
  have hml : c.maxLocals = 8 := hml0
  have hlk : meth.locks = false := Bd.notSynchronized
  have hown : s.vm.findClass "com/example/plyward/plyward/search/TranspositionTable" = some m.cls := findClass_of_methodNamed Bd.named
  have hnm := (name_of_methodNamed Bd.named Bd.method).1
  have X0 : Stand p l e ({ frames := 0, cells := 0, slots := 0, locals := 0 } : Room) s m #[(.ref a0), (.long q1), (.int p2)] below meth c s₁ [] 0 0 := Stand.of_body Bd
  have e0 : s₁.heap = h0 := by rw [← hh, Bd.state]; rfl
  have N0 := Fr.nil n0
  show own_Go p e below (own_Fin s 0 0 (Q7 Z a0 q1 p2 f_a0_generation f_a0_settledSince h0 n0)) _
  refine own_by (fun t k => castTop (ef_7 m a0 q1 p2) k) ?_
  show own_Go p e below _ (s₁.setTop (mkF m 0 #[.val (.ref a0), .val (.long q1), .second, .val (.int p2), .unset, .unset, .unset, .unset] []))
  refine own_by (fun _ k => XS.lloadN X0.here hx rfl (hb hby d7_0) rfl k) ?_
  show own_Go p e below _ (s₁.setTop (mkF m 1 #[.val (.ref a0), .val (.long q1), .second, .val (.int p2), .unset, .unset, .unset, .unset] [(.long q1)]))
  refine own_by (fun t k => X0.ldc2Long hx hown (mvT hZ (hw _ (List.mem_of_getElem? (i := 52) rfl))) (g := (mkF m 1 #[.val (.ref a0), .val (.long q1), .second, .val (.int p2), .unset, .unset, .unset, .unset] [(.long q1)])) rfl (hb hby d7_1) _ k) ?_
  show own_Go p e below _ (s₁.setTop (mkF m 4 #[.val (.ref a0), .val (.long q1), .second, .val (.int p2), .unset, .unset, .unset, .unset] [(.long (2147483647 : Int64)), (.long q1)]))
  refine own_by (fun _ k => XS.land X0.here hx rfl (hb hby d7_4) rfl k) ?_
  show own_Go p e below _ (s₁.setTop (mkF m 5 #[.val (.ref a0), .val (.long q1), .second, .val (.int p2), .unset, .unset, .unset, .unset] [(.long (q1 &&& (2147483647 : Int64)))]))
  refine own_by (fun _ k => XS.lstore X0.here hx rfl (hb hby d7_5) rfl (l' := #[.val (.ref a0), .val (.long q1), .second, .val (.int p2), .val (.long (q1 &&& (2147483647 : Int64))), .second, .unset, .unset]) rfl k) ?_
  show own_Go p e below _ (s₁.setTop (mkF m 7 #[.val (.ref a0), .val (.long q1), .second, .val (.int p2), .val (.long (q1 &&& (2147483647 : Int64))), .second, .unset, .unset] []))
  generalize hv1 : (q1 &&& (2147483647 : Int64)) = v1
  show own_Go p e below _ (s₁.setTop (mkF m 7 #[.val (.ref a0), .val (.long q1), .second, .val (.int p2), .val (.long v1), .second, .unset, .unset] []))
  refine own_by (fun _ k => XS.lloadN X0.here hx rfl (hb hby d7_7) rfl k) ?_
  show own_Go p e below _ (s₁.setTop (mkF m 8 #[.val (.ref a0), .val (.long q1), .second, .val (.int p2), .val (.long v1), .second, .unset, .unset] [(.long q1)]))
  refine own_by (fun _ k => XS.bipush X0.here hx rfl (hb hby d7_8) k) ?_
  show own_Go p e below _ (s₁.setTop (mkF m 10 #[.val (.ref a0), .val (.long q1), .second, .val (.int p2), .val (.long v1), .second, .unset, .unset] [(.int (32 : Int32)), (.long q1)]))
  refine own_by (fun _ k => XS.lushr X0.here hx rfl (hb hby d7_10) rfl k) ?_
  show own_Go p e below _ (s₁.setTop (mkF m 11 #[.val (.ref a0), .val (.long q1), .second, .val (.int p2), .val (.long v1), .second, .unset, .unset] [(.long ((q1.toUInt64 >>> ((32 : Int32) &&& 0x3f).toInt64.toUInt64).toInt64))]))
  refine own_by (fun _ k => XS.l2i X0.here hx rfl (hb hby d7_11) rfl k) ?_
  show own_Go p e below _ (s₁.setTop (mkF m 12 #[.val (.ref a0), .val (.long q1), .second, .val (.int p2), .val (.long v1), .second, .unset, .unset] [(.int (((q1.toUInt64 >>> ((32 : Int32) &&& 0x3f).toInt64.toUInt64).toInt64).toInt32))]))
  refine own_by (fun _ k => XS.istore X0.here hx rfl (hb hby d7_12) rfl (l' := #[.val (.ref a0), .val (.long q1), .second, .val (.int p2), .val (.long v1), .second, .val (.int (((q1.toUInt64 >>> ((32 : Int32) &&& 0x3f).toInt64.toUInt64).toInt64).toInt32)), .unset]) rfl k) ?_
  show own_Go p e below _ (s₁.setTop (mkF m 14 #[.val (.ref a0), .val (.long q1), .second, .val (.int p2), .val (.long v1), .second, .val (.int (((q1.toUInt64 >>> ((32 : Int32) &&& 0x3f).toInt64.toUInt64).toInt64).toInt32)), .unset] []))
  generalize hv2 : (((q1.toUInt64 >>> ((32 : Int32) &&& 0x3f).toInt64.toUInt64).toInt64).toInt32) = v2
  show own_Go p e below _ (s₁.setTop (mkF m 14 #[.val (.ref a0), .val (.long q1), .second, .val (.int p2), .val (.long v1), .second, .val (.int v2), .unset] []))
  refine own_by (fun _ k => XS.lloadN X0.here hx rfl (hb hby d7_14) rfl k) ?_
  show own_Go p e below _ (s₁.setTop (mkF m 15 #[.val (.ref a0), .val (.long q1), .second, .val (.int p2), .val (.long v1), .second, .val (.int v2), .unset] [(.long q1)]))
  refine own_by (fun t k => X0.ldc2Long hx hown (mvT hZ (hw _ (List.mem_of_getElem? (i := 24) rfl))) (g := (mkF m 15 #[.val (.ref a0), .val (.long q1), .second, .val (.int p2), .val (.long v1), .second, .val (.int v2), .unset] [(.long q1)])) rfl (hb hby d7_15) _ k) ?_
  show own_Go p e below _ (s₁.setTop (mkF m 18 #[.val (.ref a0), .val (.long q1), .second, .val (.int p2), .val (.long v1), .second, .val (.int v2), .unset] [(.long (2147483648 : Int64)), (.long q1)]))
  refine own_by (fun _ k => XS.land X0.here hx rfl (hb hby d7_18) rfl k) ?_
  show own_Go p e below _ (s₁.setTop (mkF m 19 #[.val (.ref a0), .val (.long q1), .second, .val (.int p2), .val (.long v1), .second, .val (.int v2), .unset] [(.long (q1 &&& (2147483648 : Int64)))]))
  refine own_by (fun _ k => XS.lconst X0.here hx rfl (hb hby d7_19) k) ?_
  show own_Go p e below _ (s₁.setTop (mkF m 20 #[.val (.ref a0), .val (.long q1), .second, .val (.int p2), .val (.long v1), .second, .val (.int v2), .unset] [(.long (0 : Int64)), (.long (q1 &&& (2147483648 : Int64)))]))
  refine own_by (fun _ k => XS.lcmp X0.here hx rfl (hb hby d7_20) rfl k) ?_
  show own_Go p e below _ (s₁.setTop (mkF m 21 #[.val (.ref a0), .val (.long q1), .second, .val (.int p2), .val (.long v1), .second, .val (.int v2), .unset] [(.int (lcmpW (q1 &&& (2147483648 : Int64)) (0 : Int64)))]))
  have J4 : ∀ (T5 : State) (L6 : List Loc) (z10 : Int32), Stand p l e ({ frames := 0, cells := 0, slots := 0, locals := 0 } : Room) s m #[(.ref a0), (.long q1), (.int p2)] below meth c T5 L6 0 0 → T5.heap = h0 → Fr n0 L6 → ((((q1 &&& (2147483648 : Int64)) = (0 : Int64)) ∧ z10 = (0 : Int32)) ∨ ((¬ ((q1 &&& (2147483648 : Int64)) = (0 : Int64))) ∧ z10 = (1 : Int32))) → own_Go p e below (own_Fin s 0 0 (Q7 Z a0 q1 p2 f_a0_generation f_a0_settledSince h0 n0)) (T5.setTop (mkF m 29 #[.val (.ref a0), .val (.long q1), .second, .val (.int p2), .val (.long v1), .second, .val (.int v2), .unset] [(.int z10)])) := by
    intro T5 L6 z10 X7 e8 N9 hj11
    refine own_by (fun _ k => XS.istore X7.here hx rfl (hb hby d7_29) rfl (l' := #[.val (.ref a0), .val (.long q1), .second, .val (.int p2), .val (.long v1), .second, .val (.int v2), .val (.int z10)]) rfl k) ?_
    show own_Go p e below _ (T5.setTop (mkF m 31 #[.val (.ref a0), .val (.long q1), .second, .val (.int p2), .val (.long v1), .second, .val (.int v2), .val (.int z10)] []))
    refine own_by (fun _ k => XS.lload X7.here hx rfl (hb hby d7_31) rfl k) ?_
    show own_Go p e below _ (T5.setTop (mkF m 33 #[.val (.ref a0), .val (.long q1), .second, .val (.int p2), .val (.long v1), .second, .val (.int v2), .val (.int z10)] [(.long v1)]))
    refine own_by (fun _ k => XS.aloadN X7.here hx rfl (hb hby d7_33) rfl rfl k) ?_
    show own_Go p e below _ (T5.setTop (mkF m 34 #[.val (.ref a0), .val (.long q1), .second, .val (.int p2), .val (.long v1), .second, .val (.int v2), .val (.int z10)] [(.ref a0), (.long v1)]))
    obtain ⟨T12, X12, e12, st12⟩ := getF X7 hx hZ hown (host := "") (Or.inl (hw _ (List.mem_of_getElem? (i := 10) rfl))) Via.refl e8 P_F_a0_generation (g := (mkF m 34 #[.val (.ref a0), .val (.long q1), .second, .val (.int p2), .val (.long v1), .second, .val (.int v2), .val (.int z10)] [(.ref a0), (.long v1)])) rfl rfl (hb hby d7_34)
    refine own_by st12 ?_
    show own_Go p e below _ (T12.setTop (mkF m 37 #[.val (.ref a0), .val (.long q1), .second, .val (.int p2), .val (.long v1), .second, .val (.int v2), .val (.int z10)] [(.long f_a0_generation), (.long v1)]))
    refine own_by (fun _ k => XS.lcmp X12.here hx rfl (hb hby d7_37) rfl k) ?_
    show own_Go p e below _ (T12.setTop (mkF m 38 #[.val (.ref a0), .val (.long q1), .second, .val (.int p2), .val (.long v1), .second, .val (.int v2), .val (.int z10)] [(.int (lcmpW v1 f_a0_generation))]))
    by_cases c13 : v1 = f_a0_generation
    · skip
      refine own_by (fun _ k => XS.ifNo X12.here hx rfl (hb hby d7_38) rfl ((if0 _ _).trans (teq ((lw_eq _ _).mpr c13)).2) k) ?_
      show own_Go p e below _ (T12.setTop (mkF m 41 #[.val (.ref a0), .val (.long q1), .second, .val (.int p2), .val (.long v1), .second, .val (.int v2), .val (.int z10)] []))
      refine own_by (fun _ k => XS.iload X12.here hx rfl (hb hby d7_41) rfl k) ?_
      show own_Go p e below _ (T12.setTop (mkF m 43 #[.val (.ref a0), .val (.long q1), .second, .val (.int p2), .val (.long v1), .second, .val (.int v2), .val (.int z10)] [(.int v2)]))
      refine own_by (fun _ k => XS.iloadN X12.here hx rfl (hb hby d7_43) rfl k) ?_
      show own_Go p e below _ (T12.setTop (mkF m 44 #[.val (.ref a0), .val (.long q1), .second, .val (.int p2), .val (.long v1), .second, .val (.int v2), .val (.int z10)] [(.int p2), (.int v2)]))
      by_cases c14 : v2 = p2
      · skip
        refine own_by (fun _ k => XS.icmpYes X12.here hx rfl (pc0 := 44) (pc' := 68) rfl (hb hby d7_44) rfl (teq c14).1 (by decide) (by decide) k) ?_
        show own_Go p e below _ (T12.setTop (mkF m 68 #[.val (.ref a0), .val (.long q1), .second, .val (.int p2), .val (.long v1), .second, .val (.int v2), .val (.int z10)] []))
        refine own_by (fun _ k => XS.iconst X12.here hx rfl (hb hby d7_68) k) ?_
        show own_Go p e below _ (T12.setTop (mkF m 69 #[.val (.ref a0), .val (.long q1), .second, .val (.int p2), .val (.long v1), .second, .val (.int v2), .val (.int z10)] [(.int (1 : Int32))]))
        refine own_by (fun _ k => XS.goto X12.here hx rfl (pc0 := 69) (pc' := 73) rfl (hb hby d7_69) (by decide) (by decide) k) ?_
        show own_Go p e below _ (T12.setTop (mkF m 73 #[.val (.ref a0), .val (.long q1), .second, .val (.int p2), .val (.long v1), .second, .val (.int v2), .val (.int z10)] [(.int (1 : Int32))]))
        exact own_retN X12 hx (t := .boolean) Bd.returns (by simp) (hb hby d7_73) hlk e12 ⟨_, rfl, N9, rfl, (ob_7_1 q1 p2 f_a0_generation f_a0_settledSince v1 v2 z10 hv1 hv2 hj11 c13 c14)⟩ (by decide) (by decide)
      · skip
        refine own_by (fun _ k => XS.icmpNo X12.here hx rfl (hb hby d7_44) rfl (feq c14).1 k) ?_
        show own_Go p e below _ (T12.setTop (mkF m 47 #[.val (.ref a0), .val (.long q1), .second, .val (.int p2), .val (.long v1), .second, .val (.int v2), .val (.int z10)] []))
        refine own_by (fun _ k => XS.iload X12.here hx rfl (hb hby d7_47) rfl k) ?_
        show own_Go p e below _ (T12.setTop (mkF m 49 #[.val (.ref a0), .val (.long q1), .second, .val (.int p2), .val (.long v1), .second, .val (.int v2), .val (.int z10)] [(.int z10)]))
        by_cases c15 : z10 = (0 : Int32)
        · skip
          refine own_by (fun _ k => XS.ifYes X12.here hx rfl (pc0 := 49) (pc' := 72) rfl (hb hby d7_49) rfl ((if0 _ _).trans (teq c15).1) (by decide) (by decide) k) ?_
          show own_Go p e below _ (T12.setTop (mkF m 72 #[.val (.ref a0), .val (.long q1), .second, .val (.int p2), .val (.long v1), .second, .val (.int v2), .val (.int z10)] []))
          refine own_by (fun _ k => XS.iconst X12.here hx rfl (hb hby d7_72) k) ?_
          show own_Go p e below _ (T12.setTop (mkF m 73 #[.val (.ref a0), .val (.long q1), .second, .val (.int p2), .val (.long v1), .second, .val (.int v2), .val (.int z10)] [(.int (0 : Int32))]))
          exact own_retN X12 hx (t := .boolean) Bd.returns (by simp) (hb hby d7_73) hlk e12 ⟨_, rfl, N9, rfl, (ob_7_2 q1 p2 f_a0_generation f_a0_settledSince v1 v2 z10 hv1 hv2 hj11 c13 c14 c15)⟩ (by decide) (by decide)
        · skip
          refine own_by (fun _ k => XS.ifNo X12.here hx rfl (hb hby d7_49) rfl ((if0 _ _).trans (feq c15).1) k) ?_
          show own_Go p e below _ (T12.setTop (mkF m 52 #[.val (.ref a0), .val (.long q1), .second, .val (.int p2), .val (.long v1), .second, .val (.int v2), .val (.int z10)] []))
          refine own_by (fun _ k => XS.lload X12.here hx rfl (hb hby d7_52) rfl k) ?_
          show own_Go p e below _ (T12.setTop (mkF m 54 #[.val (.ref a0), .val (.long q1), .second, .val (.int p2), .val (.long v1), .second, .val (.int v2), .val (.int z10)] [(.long v1)]))
          refine own_by (fun _ k => XS.aloadN X12.here hx rfl (hb hby d7_54) rfl rfl k) ?_
          show own_Go p e below _ (T12.setTop (mkF m 55 #[.val (.ref a0), .val (.long q1), .second, .val (.int p2), .val (.long v1), .second, .val (.int v2), .val (.int z10)] [(.ref a0), (.long v1)]))
          obtain ⟨T16, X16, e16, st16⟩ := getF X12 hx hZ hown (host := "") (Or.inl (hw _ (List.mem_of_getElem? (i := 12) rfl))) Via.refl e12 P_F_a0_settledSince (g := (mkF m 55 #[.val (.ref a0), .val (.long q1), .second, .val (.int p2), .val (.long v1), .second, .val (.int v2), .val (.int z10)] [(.ref a0), (.long v1)])) rfl rfl (hb hby d7_55)
          refine own_by st16 ?_
          show own_Go p e below _ (T16.setTop (mkF m 58 #[.val (.ref a0), .val (.long q1), .second, .val (.int p2), .val (.long v1), .second, .val (.int v2), .val (.int z10)] [(.long f_a0_settledSince), (.long v1)]))
          refine own_by (fun _ k => XS.lcmp X16.here hx rfl (hb hby d7_58) rfl k) ?_
          show own_Go p e below _ (T16.setTop (mkF m 59 #[.val (.ref a0), .val (.long q1), .second, .val (.int p2), .val (.long v1), .second, .val (.int v2), .val (.int z10)] [(.int (lcmpW v1 f_a0_settledSince))]))
          by_cases c17 : v1 < f_a0_settledSince
          · skip
            refine own_by (fun _ k => XS.ifYes X16.here hx rfl (pc0 := 59) (pc' := 72) rfl (hb hby d7_59) rfl ((if0 _ _).trans (tlt ((lw_lt _ _).mpr c17)).1) (by decide) (by decide) k) ?_
            show own_Go p e below _ (T16.setTop (mkF m 72 #[.val (.ref a0), .val (.long q1), .second, .val (.int p2), .val (.long v1), .second, .val (.int v2), .val (.int z10)] []))
            refine own_by (fun _ k => XS.iconst X16.here hx rfl (hb hby d7_72) k) ?_
            show own_Go p e below _ (T16.setTop (mkF m 73 #[.val (.ref a0), .val (.long q1), .second, .val (.int p2), .val (.long v1), .second, .val (.int v2), .val (.int z10)] [(.int (0 : Int32))]))
            exact own_retN X16 hx (t := .boolean) Bd.returns (by simp) (hb hby d7_73) hlk e16 ⟨_, rfl, N9, rfl, (ob_7_3 q1 p2 f_a0_generation f_a0_settledSince v1 v2 z10 hv1 hv2 hj11 c13 c14 c15 c17)⟩ (by decide) (by decide)
          · skip
            refine own_by (fun _ k => XS.ifNo X16.here hx rfl (hb hby d7_59) rfl ((if0 _ _).trans (flt (fun q => c17 ((lw_lt _ _).mp q))).1) k) ?_
            show own_Go p e below _ (T16.setTop (mkF m 62 #[.val (.ref a0), .val (.long q1), .second, .val (.int p2), .val (.long v1), .second, .val (.int v2), .val (.int z10)] []))
            refine own_by (fun _ k => XS.iload X16.here hx rfl (hb hby d7_62) rfl k) ?_
            show own_Go p e below _ (T16.setTop (mkF m 64 #[.val (.ref a0), .val (.long q1), .second, .val (.int p2), .val (.long v1), .second, .val (.int v2), .val (.int z10)] [(.int v2)]))
            refine own_by (fun _ k => XS.iloadN X16.here hx rfl (hb hby d7_64) rfl k) ?_
            show own_Go p e below _ (T16.setTop (mkF m 65 #[.val (.ref a0), .val (.long q1), .second, .val (.int p2), .val (.long v1), .second, .val (.int v2), .val (.int z10)] [(.int p2), (.int v2)]))
            by_cases c18 : p2 < v2
            · skip
              refine own_by (fun _ k => XS.icmpYes X16.here hx rfl (pc0 := 65) (pc' := 72) rfl (hb hby d7_65) rfl (tlt c18).2.2.1 (by decide) (by decide) k) ?_
              show own_Go p e below _ (T16.setTop (mkF m 72 #[.val (.ref a0), .val (.long q1), .second, .val (.int p2), .val (.long v1), .second, .val (.int v2), .val (.int z10)] []))
              refine own_by (fun _ k => XS.iconst X16.here hx rfl (hb hby d7_72) k) ?_
              show own_Go p e below _ (T16.setTop (mkF m 73 #[.val (.ref a0), .val (.long q1), .second, .val (.int p2), .val (.long v1), .second, .val (.int v2), .val (.int z10)] [(.int (0 : Int32))]))
              exact own_retN X16 hx (t := .boolean) Bd.returns (by simp) (hb hby d7_73) hlk e16 ⟨_, rfl, N9, rfl, (ob_7_4 q1 p2 f_a0_generation f_a0_settledSince v1 v2 z10 hv1 hv2 hj11 c13 c14 c15 c17 c18)⟩ (by decide) (by decide)
            · skip
              refine own_by (fun _ k => XS.icmpNo X16.here hx rfl (hb hby d7_65) rfl (flt c18).2.2.1 k) ?_
              show own_Go p e below _ (T16.setTop (mkF m 68 #[.val (.ref a0), .val (.long q1), .second, .val (.int p2), .val (.long v1), .second, .val (.int v2), .val (.int z10)] []))
              refine own_by (fun _ k => XS.iconst X16.here hx rfl (hb hby d7_68) k) ?_
              show own_Go p e below _ (T16.setTop (mkF m 69 #[.val (.ref a0), .val (.long q1), .second, .val (.int p2), .val (.long v1), .second, .val (.int v2), .val (.int z10)] [(.int (1 : Int32))]))
              refine own_by (fun _ k => XS.goto X16.here hx rfl (pc0 := 69) (pc' := 73) rfl (hb hby d7_69) (by decide) (by decide) k) ?_
              show own_Go p e below _ (T16.setTop (mkF m 73 #[.val (.ref a0), .val (.long q1), .second, .val (.int p2), .val (.long v1), .second, .val (.int v2), .val (.int z10)] [(.int (1 : Int32))]))
              exact own_retN X16 hx (t := .boolean) Bd.returns (by simp) (hb hby d7_73) hlk e16 ⟨_, rfl, N9, rfl, (ob_7_5 q1 p2 f_a0_generation f_a0_settledSince v1 v2 z10 hv1 hv2 hj11 c13 c14 c15 c17 c18)⟩ (by decide) (by decide)
    · skip
      refine own_by (fun _ k => XS.ifYes X12.here hx rfl (pc0 := 38) (pc' := 47) rfl (hb hby d7_38) rfl ((if0 _ _).trans (feq (fun q => c13 ((lw_eq _ _).mp q))).2) (by decide) (by decide) k) ?_
      show own_Go p e below _ (T12.setTop (mkF m 47 #[.val (.ref a0), .val (.long q1), .second, .val (.int p2), .val (.long v1), .second, .val (.int v2), .val (.int z10)] []))
      refine own_by (fun _ k => XS.iload X12.here hx rfl (hb hby d7_47) rfl k) ?_
      show own_Go p e below _ (T12.setTop (mkF m 49 #[.val (.ref a0), .val (.long q1), .second, .val (.int p2), .val (.long v1), .second, .val (.int v2), .val (.int z10)] [(.int z10)]))
      by_cases c19 : z10 = (0 : Int32)
      · skip
        refine own_by (fun _ k => XS.ifYes X12.here hx rfl (pc0 := 49) (pc' := 72) rfl (hb hby d7_49) rfl ((if0 _ _).trans (teq c19).1) (by decide) (by decide) k) ?_
        show own_Go p e below _ (T12.setTop (mkF m 72 #[.val (.ref a0), .val (.long q1), .second, .val (.int p2), .val (.long v1), .second, .val (.int v2), .val (.int z10)] []))
        refine own_by (fun _ k => XS.iconst X12.here hx rfl (hb hby d7_72) k) ?_
        show own_Go p e below _ (T12.setTop (mkF m 73 #[.val (.ref a0), .val (.long q1), .second, .val (.int p2), .val (.long v1), .second, .val (.int v2), .val (.int z10)] [(.int (0 : Int32))]))
        exact own_retN X12 hx (t := .boolean) Bd.returns (by simp) (hb hby d7_73) hlk e12 ⟨_, rfl, N9, rfl, (ob_7_6 q1 p2 f_a0_generation f_a0_settledSince v1 v2 z10 hv1 hv2 hj11 c13 c19)⟩ (by decide) (by decide)
      · skip
        refine own_by (fun _ k => XS.ifNo X12.here hx rfl (hb hby d7_49) rfl ((if0 _ _).trans (feq c19).1) k) ?_
        show own_Go p e below _ (T12.setTop (mkF m 52 #[.val (.ref a0), .val (.long q1), .second, .val (.int p2), .val (.long v1), .second, .val (.int v2), .val (.int z10)] []))
        refine own_by (fun _ k => XS.lload X12.here hx rfl (hb hby d7_52) rfl k) ?_
        show own_Go p e below _ (T12.setTop (mkF m 54 #[.val (.ref a0), .val (.long q1), .second, .val (.int p2), .val (.long v1), .second, .val (.int v2), .val (.int z10)] [(.long v1)]))
        refine own_by (fun _ k => XS.aloadN X12.here hx rfl (hb hby d7_54) rfl rfl k) ?_
        show own_Go p e below _ (T12.setTop (mkF m 55 #[.val (.ref a0), .val (.long q1), .second, .val (.int p2), .val (.long v1), .second, .val (.int v2), .val (.int z10)] [(.ref a0), (.long v1)]))
        obtain ⟨T20, X20, e20, st20⟩ := getF X12 hx hZ hown (host := "") (Or.inl (hw _ (List.mem_of_getElem? (i := 12) rfl))) Via.refl e12 P_F_a0_settledSince (g := (mkF m 55 #[.val (.ref a0), .val (.long q1), .second, .val (.int p2), .val (.long v1), .second, .val (.int v2), .val (.int z10)] [(.ref a0), (.long v1)])) rfl rfl (hb hby d7_55)
        refine own_by st20 ?_
        show own_Go p e below _ (T20.setTop (mkF m 58 #[.val (.ref a0), .val (.long q1), .second, .val (.int p2), .val (.long v1), .second, .val (.int v2), .val (.int z10)] [(.long f_a0_settledSince), (.long v1)]))
        refine own_by (fun _ k => XS.lcmp X20.here hx rfl (hb hby d7_58) rfl k) ?_
        show own_Go p e below _ (T20.setTop (mkF m 59 #[.val (.ref a0), .val (.long q1), .second, .val (.int p2), .val (.long v1), .second, .val (.int v2), .val (.int z10)] [(.int (lcmpW v1 f_a0_settledSince))]))
        by_cases c21 : v1 < f_a0_settledSince
        · skip
          refine own_by (fun _ k => XS.ifYes X20.here hx rfl (pc0 := 59) (pc' := 72) rfl (hb hby d7_59) rfl ((if0 _ _).trans (tlt ((lw_lt _ _).mpr c21)).1) (by decide) (by decide) k) ?_
          show own_Go p e below _ (T20.setTop (mkF m 72 #[.val (.ref a0), .val (.long q1), .second, .val (.int p2), .val (.long v1), .second, .val (.int v2), .val (.int z10)] []))
          refine own_by (fun _ k => XS.iconst X20.here hx rfl (hb hby d7_72) k) ?_
          show own_Go p e below _ (T20.setTop (mkF m 73 #[.val (.ref a0), .val (.long q1), .second, .val (.int p2), .val (.long v1), .second, .val (.int v2), .val (.int z10)] [(.int (0 : Int32))]))
          exact own_retN X20 hx (t := .boolean) Bd.returns (by simp) (hb hby d7_73) hlk e20 ⟨_, rfl, N9, rfl, (ob_7_7 q1 p2 f_a0_generation f_a0_settledSince v1 v2 z10 hv1 hv2 hj11 c13 c19 c21)⟩ (by decide) (by decide)
        · skip
          refine own_by (fun _ k => XS.ifNo X20.here hx rfl (hb hby d7_59) rfl ((if0 _ _).trans (flt (fun q => c21 ((lw_lt _ _).mp q))).1) k) ?_
          show own_Go p e below _ (T20.setTop (mkF m 62 #[.val (.ref a0), .val (.long q1), .second, .val (.int p2), .val (.long v1), .second, .val (.int v2), .val (.int z10)] []))
          refine own_by (fun _ k => XS.iload X20.here hx rfl (hb hby d7_62) rfl k) ?_
          show own_Go p e below _ (T20.setTop (mkF m 64 #[.val (.ref a0), .val (.long q1), .second, .val (.int p2), .val (.long v1), .second, .val (.int v2), .val (.int z10)] [(.int v2)]))
          refine own_by (fun _ k => XS.iloadN X20.here hx rfl (hb hby d7_64) rfl k) ?_
          show own_Go p e below _ (T20.setTop (mkF m 65 #[.val (.ref a0), .val (.long q1), .second, .val (.int p2), .val (.long v1), .second, .val (.int v2), .val (.int z10)] [(.int p2), (.int v2)]))
          by_cases c22 : p2 < v2
          · skip
            refine own_by (fun _ k => XS.icmpYes X20.here hx rfl (pc0 := 65) (pc' := 72) rfl (hb hby d7_65) rfl (tlt c22).2.2.1 (by decide) (by decide) k) ?_
            show own_Go p e below _ (T20.setTop (mkF m 72 #[.val (.ref a0), .val (.long q1), .second, .val (.int p2), .val (.long v1), .second, .val (.int v2), .val (.int z10)] []))
            refine own_by (fun _ k => XS.iconst X20.here hx rfl (hb hby d7_72) k) ?_
            show own_Go p e below _ (T20.setTop (mkF m 73 #[.val (.ref a0), .val (.long q1), .second, .val (.int p2), .val (.long v1), .second, .val (.int v2), .val (.int z10)] [(.int (0 : Int32))]))
            exact own_retN X20 hx (t := .boolean) Bd.returns (by simp) (hb hby d7_73) hlk e20 ⟨_, rfl, N9, rfl, (ob_7_8 q1 p2 f_a0_generation f_a0_settledSince v1 v2 z10 hv1 hv2 hj11 c13 c19 c21 c22)⟩ (by decide) (by decide)
          · skip
            refine own_by (fun _ k => XS.icmpNo X20.here hx rfl (hb hby d7_65) rfl (flt c22).2.2.1 k) ?_
            show own_Go p e below _ (T20.setTop (mkF m 68 #[.val (.ref a0), .val (.long q1), .second, .val (.int p2), .val (.long v1), .second, .val (.int v2), .val (.int z10)] []))
            refine own_by (fun _ k => XS.iconst X20.here hx rfl (hb hby d7_68) k) ?_
            show own_Go p e below _ (T20.setTop (mkF m 69 #[.val (.ref a0), .val (.long q1), .second, .val (.int p2), .val (.long v1), .second, .val (.int v2), .val (.int z10)] [(.int (1 : Int32))]))
            refine own_by (fun _ k => XS.goto X20.here hx rfl (pc0 := 69) (pc' := 73) rfl (hb hby d7_69) (by decide) (by decide) k) ?_
            show own_Go p e below _ (T20.setTop (mkF m 73 #[.val (.ref a0), .val (.long q1), .second, .val (.int p2), .val (.long v1), .second, .val (.int v2), .val (.int z10)] [(.int (1 : Int32))]))
            exact own_retN X20 hx (t := .boolean) Bd.returns (by simp) (hb hby d7_73) hlk e20 ⟨_, rfl, N9, rfl, (ob_7_9 q1 p2 f_a0_generation f_a0_settledSince v1 v2 z10 hv1 hv2 hj11 c13 c19 c21 c22)⟩ (by decide) (by decide)
  by_cases c3 : (q1 &&& (2147483648 : Int64)) = (0 : Int64)
  · skip
    refine own_by (fun _ k => XS.ifYes X0.here hx rfl (pc0 := 21) (pc' := 28) rfl (hb hby d7_21) rfl ((if0 _ _).trans (teq ((lw_eq _ _).mpr c3)).1) (by decide) (by decide) k) ?_
    show own_Go p e below _ (s₁.setTop (mkF m 28 #[.val (.ref a0), .val (.long q1), .second, .val (.int p2), .val (.long v1), .second, .val (.int v2), .unset] []))
    refine own_by (fun _ k => XS.iconst X0.here hx rfl (hb hby d7_28) k) ?_
    show own_Go p e below _ (s₁.setTop (mkF m 29 #[.val (.ref a0), .val (.long q1), .second, .val (.int p2), .val (.long v1), .second, .val (.int v2), .unset] [(.int (0 : Int32))]))
    exact J4 _ _ (0 : Int32) X0 e0 N0 (Or.inl ⟨c3, rfl⟩)
  · skip
    refine own_by (fun _ k => XS.ifNo X0.here hx rfl (hb hby d7_21) rfl ((if0 _ _).trans (feq (fun q => c3 ((lw_eq _ _).mp q))).1) k) ?_
    show own_Go p e below _ (s₁.setTop (mkF m 24 #[.val (.ref a0), .val (.long q1), .second, .val (.int p2), .val (.long v1), .second, .val (.int v2), .unset] []))
    refine own_by (fun _ k => XS.iconst X0.here hx rfl (hb hby d7_24) k) ?_
    show own_Go p e below _ (s₁.setTop (mkF m 25 #[.val (.ref a0), .val (.long q1), .second, .val (.int p2), .val (.long v1), .second, .val (.int v2), .unset] [(.int (1 : Int32))]))
    refine own_by (fun _ k => XS.goto X0.here hx rfl (pc0 := 25) (pc' := 29) rfl (hb hby d7_25) (by decide) (by decide) k) ?_
    show own_Go p e below _ (s₁.setTop (mkF m 29 #[.val (.ref a0), .val (.long q1), .second, .val (.int p2), .val (.long v1), .second, .val (.int v2), .unset] [(.int (1 : Int32))]))
    exact J4 _ _ (1 : Int32) X0 e0 N0 (Or.inr (⟨c3, rfl⟩))
theorem pd_30 : parseMethodDescriptor "(J)I" = some ⟨[.long], some .int⟩ := by decide +kernel
theorem pd_48 : parseMethodDescriptor "(JI)Z" = some ⟨[.long, .int], some .boolean⟩ := by decide +kernel
theorem d6_0 : decode prog_71_method_5_code 0 = .ok (.aload_n 0, 1) := by decide +kernel
theorem d6_1 : decode prog_71_method_5_code 1 = .ok (.lload_n 1, 1) := by decide +kernel
theorem d6_2 : decode prog_71_method_5_code 2 = .ok (.invokevirtual 48, 3) := by decide +kernel
theorem d6_5 : decode prog_71_method_5_code 5 = .ok (.istore 4, 2) := by decide +kernel
theorem d6_7 : decode prog_71_method_5_code 7 = .ok (.iconst (-1), 1) := by decide +kernel
theorem d6_8 : decode prog_71_method_5_code 8 = .ok (.istore 5, 2) := by decide +kernel
theorem d6_10 : decode prog_71_method_5_code 10 = .ok (.iload 4, 2) := by decide +kernel
theorem d6_12 : decode prog_71_method_5_code 12 = .ok (.istore 6, 2) := by decide +kernel
theorem d6_14 : decode prog_71_method_5_code 14 = .ok (.iload 6, 2) := by decide +kernel
theorem d6_16 : decode prog_71_method_5_code 16 = .ok (.iload 4, 2) := by decide +kernel
theorem d6_18 : decode prog_71_method_5_code 18 = .ok (.bipush 8, 2) := by decide +kernel
theorem d6_20 : decode prog_71_method_5_code 20 = .ok (.iadd, 1) := by decide +kernel
theorem d6_21 : decode prog_71_method_5_code 21 = .ok (.if_icmp .ge 45, 3) := by decide +kernel
theorem d6_24 : decode prog_71_method_5_code 24 = .ok (.aload_n 0, 1) := by decide +kernel
theorem d6_25 : decode prog_71_method_5_code 25 = .ok (.getfield 27, 3) := by decide +kernel
theorem d6_28 : decode prog_71_method_5_code 28 = .ok (.iload 6, 2) := by decide +kernel
theorem d6_30 : decode prog_71_method_5_code 30 = .ok (.laload, 1) := by decide +kernel
theorem d6_31 : decode prog_71_method_5_code 31 = .ok (.lload_n 1, 1) := by decide +kernel
theorem d6_32 : decode prog_71_method_5_code 32 = .ok (.lcmp, 1) := by decide +kernel
theorem d6_33 : decode prog_71_method_5_code 33 = .ok (.ifCond .ne 27, 3) := by decide +kernel
theorem d6_36 : decode prog_71_method_5_code 36 = .ok (.aload_n 0, 1) := by decide +kernel
theorem d6_37 : decode prog_71_method_5_code 37 = .ok (.aload_n 0, 1) := by decide +kernel
theorem d6_38 : decode prog_71_method_5_code 38 = .ok (.getfield 27, 3) := by decide +kernel
theorem d6_41 : decode prog_71_method_5_code 41 = .ok (.iload 6, 2) := by decide +kernel
theorem d6_43 : decode prog_71_method_5_code 43 = .ok (.iconst 3, 1) := by decide +kernel
theorem d6_44 : decode prog_71_method_5_code 44 = .ok (.iadd, 1) := by decide +kernel
theorem d6_45 : decode prog_71_method_5_code 45 = .ok (.laload, 1) := by decide +kernel
theorem d6_46 : decode prog_71_method_5_code 46 = .ok (.iload_n 3, 1) := by decide +kernel
theorem d6_47 : decode prog_71_method_5_code 47 = .ok (.invokevirtual 52, 3) := by decide +kernel
theorem d6_50 : decode prog_71_method_5_code 50 = .ok (.ifCond .eq 10, 3) := by decide +kernel
theorem d6_53 : decode prog_71_method_5_code 53 = .ok (.iload 6, 2) := by decide +kernel
theorem d6_55 : decode prog_71_method_5_code 55 = .ok (.istore 5, 2) := by decide +kernel
theorem d6_57 : decode prog_71_method_5_code 57 = .ok (.goto 9, 3) := by decide +kernel
theorem d6_60 : decode prog_71_method_5_code 60 = .ok (.iinc 6 4, 3) := by decide +kernel
theorem d6_63 : decode prog_71_method_5_code 63 = .ok (.goto (-49), 3) := by decide +kernel
theorem d6_66 : decode prog_71_method_5_code 66 = .ok (.iload 5, 2) := by decide +kernel
theorem d6_68 : decode prog_71_method_5_code 68 = .ok (.ireturn, 1) := by decide +kernel
theorem pn_6 : plainName "com/example/plyward/plyward/search/TranspositionTable" = true := by first | (simp [plainName, overriddenIn]; done) | decide +kernel
theorem ef_6 (m : MethodId) (a0 : Addr) (q1 : Int64) (p2 : Int32) : entryFrame m #[(.ref a0), (.long q1), (.int p2)] 7 = mkF m 0 #[.val (.ref a0), .val (.long q1), .second, .val (.int p2), .unset, .unset, .unset] [] := by first | (simp [entryFrame, mkF, argsToLocals, Value.category]; done) | rfl
theorem ob_6_10 (fn_f_a0_entries : Nat → Int64) (q1 : Int64) (p2 : Int32) (f_a0_generation : Int64) (f_a0_settledSince : Int64) (o8 : Int32) (o17 : Int32) (c4 : (fn_f_a0_entries 0) = q1) (hp9 : (o8 = (1 : Int32) ∧ own_holds (fn_f_a0_entries 3) p2 f_a0_generation f_a0_settledSince) ∨ (o8 = (0 : Int32) ∧ ¬ own_holds (fn_f_a0_entries 3) p2 f_a0_generation f_a0_settledSince)) (c10 : o8 = (0 : Int32)) (c13 : (fn_f_a0_entries 4) = q1) (hp18 : (o17 = (1 : Int32) ∧ own_holds (fn_f_a0_entries 7) p2 f_a0_generation f_a0_settledSince) ∨ (o17 = (0 : Int32) ∧ ¬ own_holds (fn_f_a0_entries 7) p2 f_a0_generation f_a0_settledSince)) (c19 : o17 = (0 : Int32)) : own_find fn_f_a0_entries q1 p2 f_a0_generation f_a0_settledSince (-1 : Int32) := by
  simp only [own_find]
  grind
theorem ob_6_11 (fn_f_a0_entries : Nat → Int64) (q1 : Int64) (p2 : Int32) (f_a0_generation : Int64) (f_a0_settledSince : Int64) (o8 : Int32) (o17 : Int32) (c4 : (fn_f_a0_entries 0) = q1) (hp9 : (o8 = (1 : Int32) ∧ own_holds (fn_f_a0_entries 3) p2 f_a0_generation f_a0_settledSince) ∨ (o8 = (0 : Int32) ∧ ¬ own_holds (fn_f_a0_entries 3) p2 f_a0_generation f_a0_settledSince)) (c10 : o8 = (0 : Int32)) (c13 : (fn_f_a0_entries 4) = q1) (hp18 : (o17 = (1 : Int32) ∧ own_holds (fn_f_a0_entries 7) p2 f_a0_generation f_a0_settledSince) ∨ (o17 = (0 : Int32) ∧ ¬ own_holds (fn_f_a0_entries 7) p2 f_a0_generation f_a0_settledSince)) (c19 : ¬ (o17 = (0 : Int32))) : own_find fn_f_a0_entries q1 p2 f_a0_generation f_a0_settledSince (4 : Int32) := by
  simp only [own_find]
  grind
theorem ob_6_12 (fn_f_a0_entries : Nat → Int64) (q1 : Int64) (p2 : Int32) (f_a0_generation : Int64) (f_a0_settledSince : Int64) (o8 : Int32) (c4 : (fn_f_a0_entries 0) = q1) (hp9 : (o8 = (1 : Int32) ∧ own_holds (fn_f_a0_entries 3) p2 f_a0_generation f_a0_settledSince) ∨ (o8 = (0 : Int32) ∧ ¬ own_holds (fn_f_a0_entries 3) p2 f_a0_generation f_a0_settledSince)) (c10 : o8 = (0 : Int32)) (c13 : ¬ ((fn_f_a0_entries 4) = q1)) : own_find fn_f_a0_entries q1 p2 f_a0_generation f_a0_settledSince (-1 : Int32) := by
  simp only [own_find]
  grind
theorem ob_6_13 (fn_f_a0_entries : Nat → Int64) (q1 : Int64) (p2 : Int32) (f_a0_generation : Int64) (f_a0_settledSince : Int64) (o8 : Int32) (c4 : (fn_f_a0_entries 0) = q1) (hp9 : (o8 = (1 : Int32) ∧ own_holds (fn_f_a0_entries 3) p2 f_a0_generation f_a0_settledSince) ∨ (o8 = (0 : Int32) ∧ ¬ own_holds (fn_f_a0_entries 3) p2 f_a0_generation f_a0_settledSince)) (c10 : ¬ (o8 = (0 : Int32))) : own_find fn_f_a0_entries q1 p2 f_a0_generation f_a0_settledSince (0 : Int32) := by
  simp only [own_find]
  grind
theorem ob_6_14 (fn_f_a0_entries : Nat → Int64) (q1 : Int64) (p2 : Int32) (f_a0_generation : Int64) (f_a0_settledSince : Int64) (o26 : Int32) (c4 : ¬ ((fn_f_a0_entries 0) = q1)) (c22 : (fn_f_a0_entries 4) = q1) (hp27 : (o26 = (1 : Int32) ∧ own_holds (fn_f_a0_entries 7) p2 f_a0_generation f_a0_settledSince) ∨ (o26 = (0 : Int32) ∧ ¬ own_holds (fn_f_a0_entries 7) p2 f_a0_generation f_a0_settledSince)) (c28 : o26 = (0 : Int32)) : own_find fn_f_a0_entries q1 p2 f_a0_generation f_a0_settledSince (-1 : Int32) := by
  simp only [own_find]
  grind
theorem ob_6_15 (fn_f_a0_entries : Nat → Int64) (q1 : Int64) (p2 : Int32) (f_a0_generation : Int64) (f_a0_settledSince : Int64) (o26 : Int32) (c4 : ¬ ((fn_f_a0_entries 0) = q1)) (c22 : (fn_f_a0_entries 4) = q1) (hp27 : (o26 = (1 : Int32) ∧ own_holds (fn_f_a0_entries 7) p2 f_a0_generation f_a0_settledSince) ∨ (o26 = (0 : Int32) ∧ ¬ own_holds (fn_f_a0_entries 7) p2 f_a0_generation f_a0_settledSince)) (c28 : ¬ (o26 = (0 : Int32))) : own_find fn_f_a0_entries q1 p2 f_a0_generation f_a0_settledSince (4 : Int32) := by
  simp only [own_find]
  grind
theorem ob_6_16 (fn_f_a0_entries : Nat → Int64) (q1 : Int64) (p2 : Int32) (f_a0_generation : Int64) (f_a0_settledSince : Int64) (c4 : ¬ ((fn_f_a0_entries 0) = q1)) (c22 : ¬ ((fn_f_a0_entries 4) = q1)) : own_find fn_f_a0_entries q1 p2 f_a0_generation f_a0_settledSince (-1 : Int32) := by
  simp only [own_find]
  grind
def Q6 (Z : State) (f_a0_entries : Addr) (k_f_a0_entries : ClassId) (fn_f_a0_entries : Nat → Int64) (a0 : Addr) (q1 : Int64) (p2 : Int32) (f_a0_generation : Int64) (f_a0_settledSince : Int64) (h0 : Heap) (n0 : Nat) (v : Option Value) (h : Heap) (L : List Loc) : Prop := ∃ (zz : Int32), v = some (.int zz) ∧ Fr n0 L ∧ h = h0 ∧ (own_find fn_f_a0_entries q1 p2 f_a0_generation f_a0_settledSince zz)
set_option maxRecDepth 65536 in
set_option maxHeartbeats 40000000 in
theorem rm6 (l : Launch) (Z : State) (A0 : Array Value) (hw : ∀ d ∈ tables_1, d.before A0 Z = true) (ws : List Jvm.Cond) (f_a0_entries : Addr) (k_f_a0_entries : ClassId) (fn_f_a0_entries : Nat → Int64) (a0 : Addr) (q1 : Int64) (p2 : Int32) (f_a0_generation : Int64) (f_a0_settledSince : Int64) (h0 : Heap) (n0 : Nat) (Z0 : n0 ≤ h0.size) (P_F_a0_entries : Fld Z h0 a0 "com/example/plyward/plyward/search/TranspositionTable" "entries" "[J" (.ref f_a0_entries)) (P_V_f_a0_entries : own_Arf Z h0 f_a0_entries k_f_a0_entries .long (8 : Int32) (fun i => .long (fn_f_a0_entries i))) (P_F_a0_shift : Fld Z h0 a0 "com/example/plyward/plyward/search/TranspositionTable" "shift" "I" (.int (63 : Int32))) (P_E_a0 : Exa Z h0 a0 "com/example/plyward/plyward/search/TranspositionTable") (P_F_a0_generation : Fld Z h0 a0 "com/example/plyward/plyward/search/TranspositionTable" "generation" "J" (.long f_a0_generation)) (P_F_a0_settledSince : Fld Z h0 a0 "com/example/plyward/plyward/search/TranspositionTable" "settledSince" "J" (.long f_a0_settledSince)) :
    MetFree l (⟨"com/example/plyward/plyward/search/TranspositionTable", "find", "(JI)I"⟩ : MethodName) (head1 (Jvm.Cond.code (⟨"com/example/plyward/plyward/search/TranspositionTable", "find", "(JI)I"⟩ : MethodName) prog_71_method_5_code 7 (some .int) :: ws) ({ frames := 1, cells := 0, slots := 0, locals := 19 } : Room)) (fun a U => a = #[(.ref a0), (.long q1), (.int p2)] ∧ Z.Warmed39 U.vm ∧ U.heap = h0) (fun _ _ _ _ _ => True) (fun _ U o U' => ∃ v L, o = .returned v ∧ Q6 Z f_a0_entries k_f_a0_entries fn_f_a0_entries a0 q1 p2 f_a0_generation f_a0_settledSince h0 n0 v U'.heap L ∧ FrameEnd U o U' L 0 0) := by
  refine MetFree.of_bodySF (plainFor_of_name pn_6) hisR ?_
  intro p e s m args below meth c s₁ Bd hml0 hP hK
  obtain ⟨rfl, hZ, hh⟩ := hP
  have hx := Bd.exec
  have hby := Bd.bytes
  have hml : c.maxLocals = 7 := hml0
  have hlk : meth.locks = false := Bd.notSynchronized
  have hown : s.vm.findClass "com/example/plyward/plyward/search/TranspositionTable" = some m.cls := findClass_of_methodNamed Bd.named
  have hnm := (name_of_methodNamed Bd.named Bd.method).1
  have X0 : Stand p l e ({ frames := 1, cells := 0, slots := 0, locals := 19 } : Room) s m #[(.ref a0), (.long q1), (.int p2)] below meth c s₁ [] 0 0 := Stand.of_body Bd
  have e0 : s₁.heap = h0 := by rw [← hh, Bd.state]; rfl
  have N0 := Fr.nil n0
  show own_Go p e below (own_Fin s 0 0 (Q6 Z f_a0_entries k_f_a0_entries fn_f_a0_entries a0 q1 p2 f_a0_generation f_a0_settledSince h0 n0)) _
  refine own_by (fun t k => castTop (ef_6 m a0 q1 p2) k) ?_
  show own_Go p e below _ (s₁.setTop (mkF m 0 #[.val (.ref a0), .val (.long q1), .second, .val (.int p2), .unset, .unset, .unset] []))
  refine own_by (fun _ k => XS.aloadN X0.here hx rfl (hb hby d6_0) rfl rfl k) ?_
  show own_Go p e below _ (s₁.setTop (mkF m 1 #[.val (.ref a0), .val (.long q1), .second, .val (.int p2), .unset, .unset, .unset] [(.ref a0)]))
  refine own_by (fun _ k => XS.lloadN X0.here hx rfl (hb hby d6_1) rfl k) ?_
  show own_Go p e below _ (s₁.setTop (mkF m 2 #[.val (.ref a0), .val (.long q1), .second, .val (.int p2), .unset, .unset, .unset] [(.long q1), (.ref a0)]))
  obtain ⟨cq1, qq1, qq1'⟩ := P_E_a0.cell
  obtain ⟨_, _, ⟨T1, L1, k1, n1⟩, -, X1, ⟨Lc1, hQ1, l1, y1, z1⟩, st1⟩ := X0.privateBack hx (y := (⟨"com/example/plyward/plyward/search/TranspositionTable", "bucket", "(J)I"⟩ : MethodName)) hown (mvT hZ (hw _ (List.mem_of_getElem? (i := 30) rfl))) (mvT hZ (hw _ (List.mem_of_getElem? (i := 31) rfl))) (own_selPriv hZ (hw _ (List.mem_of_getElem? (i := 2) rfl)) (hw _ (List.mem_of_getElem? (i := 32) rfl)) (hw _ (List.mem_of_getElem? (i := 31) rfl)) (by decide)) (Cond.privateMethod_at (mvP hZ (hw _ (List.mem_of_getElem? (i := 32) rfl)) (args := #[]))) (mvT hZ (hw _ (List.mem_of_getElem? (i := 33) rfl))) (by decide) (backOf (W := 0) (rm5 l Z A0 hw [] a0 q1 h0 n0 Z0 P_F_a0_shift) hZ (hw _ (List.mem_of_getElem? (i := 33) rfl)) (hw _ (List.mem_of_getElem? (i := 3) rfl)) (by decide) (by decide)) (g := (mkF m 2 #[.val (.ref a0), .val (.long q1), .second, .val (.int p2), .unset, .unset, .unset] [(.long q1), (.ref a0)])) rfl (by rw [hml]; rfl) (Steps.refl _) (a := a0) (by rw [e0]; exact qq1) qq1' (argsL := [(.long q1)]) (rest := []) (lenOf pd_30 rfl) rfl (by show 2 * 0 + _ ≤ _; exact Nat.le_of_eq rfl) (hb hby d6_2) (fun _ _ => ⟨rfl, e0, (by decide : 0 + 0 ≤ _), (by decide : 0 + 0 ≤ _)⟩)
  dsimp only [Pt.U, Pt.locs, Pt.cells, Pt.slots] at X1 l1 y1 z1 st1 hQ1
  subst l1 y1 z1
  obtain ⟨rfl, Nq1, eq1⟩ := hQ1
  have N1 := Fr.app N0 Nq1
  refine own_by (fun _ k => st1.trans k) ?_
  show own_Go p e below _ (T1.setTop (mkF m 5 #[.val (.ref a0), .val (.long q1), .second, .val (.int p2), .unset, .unset, .unset] [(.int (0 : Int32))]))
  refine own_by (fun _ k => XS.istore X1.here hx rfl (hb hby d6_5) rfl (l' := #[.val (.ref a0), .val (.long q1), .second, .val (.int p2), .val (.int (0 : Int32)), .unset, .unset]) rfl k) ?_
  show own_Go p e below _ (T1.setTop (mkF m 7 #[.val (.ref a0), .val (.long q1), .second, .val (.int p2), .val (.int (0 : Int32)), .unset, .unset] []))
  refine own_by (fun _ k => XS.iconst X1.here hx rfl (hb hby d6_7) k) ?_
  show own_Go p e below _ (T1.setTop (mkF m 8 #[.val (.ref a0), .val (.long q1), .second, .val (.int p2), .val (.int (0 : Int32)), .unset, .unset] [(.int (-1 : Int32))]))
  refine own_by (fun _ k => XS.istore X1.here hx rfl (hb hby d6_8) rfl (l' := #[.val (.ref a0), .val (.long q1), .second, .val (.int p2), .val (.int (0 : Int32)), .val (.int (-1 : Int32)), .unset]) rfl k) ?_
  show own_Go p e below _ (T1.setTop (mkF m 10 #[.val (.ref a0), .val (.long q1), .second, .val (.int p2), .val (.int (0 : Int32)), .val (.int (-1 : Int32)), .unset] []))
  refine own_by (fun _ k => XS.iload X1.here hx rfl (hb hby d6_10) rfl k) ?_
  show own_Go p e below _ (T1.setTop (mkF m 12 #[.val (.ref a0), .val (.long q1), .second, .val (.int p2), .val (.int (0 : Int32)), .val (.int (-1 : Int32)), .unset] [(.int (0 : Int32))]))
  refine own_by (fun _ k => XS.istore X1.here hx rfl (hb hby d6_12) rfl (l' := #[.val (.ref a0), .val (.long q1), .second, .val (.int p2), .val (.int (0 : Int32)), .val (.int (-1 : Int32)), .val (.int (0 : Int32))]) rfl k) ?_
  show own_Go p e below _ (T1.setTop (mkF m 14 #[.val (.ref a0), .val (.long q1), .second, .val (.int p2), .val (.int (0 : Int32)), .val (.int (-1 : Int32)), .val (.int (0 : Int32))] []))
  refine own_by (fun _ k => XS.iload X1.here hx rfl (hb hby d6_14) rfl k) ?_
  show own_Go p e below _ (T1.setTop (mkF m 16 #[.val (.ref a0), .val (.long q1), .second, .val (.int p2), .val (.int (0 : Int32)), .val (.int (-1 : Int32)), .val (.int (0 : Int32))] [(.int (0 : Int32))]))
  refine own_by (fun _ k => XS.iload X1.here hx rfl (hb hby d6_16) rfl k) ?_
  show own_Go p e below _ (T1.setTop (mkF m 18 #[.val (.ref a0), .val (.long q1), .second, .val (.int p2), .val (.int (0 : Int32)), .val (.int (-1 : Int32)), .val (.int (0 : Int32))] [(.int (0 : Int32)), (.int (0 : Int32))]))
  refine own_by (fun _ k => XS.bipush X1.here hx rfl (hb hby d6_18) k) ?_
  show own_Go p e below _ (T1.setTop (mkF m 20 #[.val (.ref a0), .val (.long q1), .second, .val (.int p2), .val (.int (0 : Int32)), .val (.int (-1 : Int32)), .val (.int (0 : Int32))] [(.int (8 : Int32)), (.int (0 : Int32)), (.int (0 : Int32))]))
  refine own_by (fun _ k => XS.iadd X1.here hx rfl (hb hby d6_20) rfl k) ?_
  show own_Go p e below _ (T1.setTop (mkF m 21 #[.val (.ref a0), .val (.long q1), .second, .val (.int p2), .val (.int (0 : Int32)), .val (.int (-1 : Int32)), .val (.int (0 : Int32))] [(.int (8 : Int32)), (.int (0 : Int32))]))
  refine own_by (fun _ k => XS.icmpNo X1.here hx rfl (hb hby d6_21) rfl (tlt (by decide : (0 : Int32) < (8 : Int32))).2.1 k) ?_
  show own_Go p e below _ (T1.setTop (mkF m 24 #[.val (.ref a0), .val (.long q1), .second, .val (.int p2), .val (.int (0 : Int32)), .val (.int (-1 : Int32)), .val (.int (0 : Int32))] []))
  refine own_by (fun _ k => XS.aloadN X1.here hx rfl (hb hby d6_24) rfl rfl k) ?_
  show own_Go p e below _ (T1.setTop (mkF m 25 #[.val (.ref a0), .val (.long q1), .second, .val (.int p2), .val (.int (0 : Int32)), .val (.int (-1 : Int32)), .val (.int (0 : Int32))] [(.ref a0)]))
  obtain ⟨T2, X2, e2, st2⟩ := getF X1 hx hZ hown (host := "") (Or.inl (hw _ (List.mem_of_getElem? (i := 15) rfl))) Via.refl eq1 P_F_a0_entries (g := (mkF m 25 #[.val (.ref a0), .val (.long q1), .second, .val (.int p2), .val (.int (0 : Int32)), .val (.int (-1 : Int32)), .val (.int (0 : Int32))] [(.ref a0)])) rfl rfl (hb hby d6_25)
  refine own_by st2 ?_
  show own_Go p e below _ (T2.setTop (mkF m 28 #[.val (.ref a0), .val (.long q1), .second, .val (.int p2), .val (.int (0 : Int32)), .val (.int (-1 : Int32)), .val (.int (0 : Int32))] [(.ref f_a0_entries)]))
  refine own_by (fun _ k => XS.iload X2.here hx rfl (hb hby d6_28) rfl k) ?_
  show own_Go p e below _ (T2.setTop (mkF m 30 #[.val (.ref a0), .val (.long q1), .second, .val (.int p2), .val (.int (0 : Int32)), .val (.int (-1 : Int32)), .val (.int (0 : Int32))] [(.int (0 : Int32)), (.ref f_a0_entries)]))
  obtain ⟨cl3, Ar3, qq3, S3, M3, H3, G3⟩ := id P_V_f_a0_entries
  have hin3 : ¬ ((0 : Int32) < 0 ∨ cl3.slots.size ≤ ((0 : Int32)).toNatClampNeg) := inb_of S3 ⟨by decide, by decide⟩
  refine own_by (fun t k => X2.laload hx (j := (0 : Int32)) (v := (.long (fn_f_a0_entries 0))) (by rw [e2]; exact Ar3.1) (State.isArrayOf_alike hZ.alike Ar3.2.1) Ar3.2.2 hin3 (H3 _ (Nat.lt_of_not_le fun y => hin3 (Or.inr y))) (g := (mkF m 30 #[.val (.ref a0), .val (.long q1), .second, .val (.int p2), .val (.int (0 : Int32)), .val (.int (-1 : Int32)), .val (.int (0 : Int32))] [(.int (0 : Int32)), (.ref f_a0_entries)])) rfl rfl (hb hby d6_30) _ k) ?_
  show own_Go p e below _ (T2.setTop (mkF m 31 #[.val (.ref a0), .val (.long q1), .second, .val (.int p2), .val (.int (0 : Int32)), .val (.int (-1 : Int32)), .val (.int (0 : Int32))] [(.long (fn_f_a0_entries 0))]))
  refine own_by (fun _ k => XS.lloadN X2.here hx rfl (hb hby d6_31) rfl k) ?_
  show own_Go p e below _ (T2.setTop (mkF m 32 #[.val (.ref a0), .val (.long q1), .second, .val (.int p2), .val (.int (0 : Int32)), .val (.int (-1 : Int32)), .val (.int (0 : Int32))] [(.long q1), (.long (fn_f_a0_entries 0))]))
  refine own_by (fun _ k => XS.lcmp X2.here hx rfl (hb hby d6_32) rfl k) ?_
  show own_Go p e below _ (T2.setTop (mkF m 33 #[.val (.ref a0), .val (.long q1), .second, .val (.int p2), .val (.int (0 : Int32)), .val (.int (-1 : Int32)), .val (.int (0 : Int32))] [(.int (lcmpW (fn_f_a0_entries 0) q1))]))
  by_cases c4 : (fn_f_a0_entries 0) = q1
  · skip
    refine own_by (fun _ k => XS.ifNo X2.here hx rfl (hb hby d6_33) rfl ((if0 _ _).trans (teq ((lw_eq _ _).mpr c4)).2) k) ?_
    show own_Go p e below _ (T2.setTop (mkF m 36 #[.val (.ref a0), .val (.long q1), .second, .val (.int p2), .val (.int (0 : Int32)), .val (.int (-1 : Int32)), .val (.int (0 : Int32))] []))
    refine own_by (fun _ k => XS.aloadN X2.here hx rfl (hb hby d6_36) rfl rfl k) ?_
    show own_Go p e below _ (T2.setTop (mkF m 37 #[.val (.ref a0), .val (.long q1), .second, .val (.int p2), .val (.int (0 : Int32)), .val (.int (-1 : Int32)), .val (.int (0 : Int32))] [(.ref a0)]))
    refine own_by (fun _ k => XS.aloadN X2.here hx rfl (hb hby d6_37) rfl rfl k) ?_
    show own_Go p e below _ (T2.setTop (mkF m 38 #[.val (.ref a0), .val (.long q1), .second, .val (.int p2), .val (.int (0 : Int32)), .val (.int (-1 : Int32)), .val (.int (0 : Int32))] [(.ref a0), (.ref a0)]))
    obtain ⟨T5, X5, e5, st5⟩ := getF X2 hx hZ hown (host := "") (Or.inl (hw _ (List.mem_of_getElem? (i := 15) rfl))) Via.refl e2 P_F_a0_entries (g := (mkF m 38 #[.val (.ref a0), .val (.long q1), .second, .val (.int p2), .val (.int (0 : Int32)), .val (.int (-1 : Int32)), .val (.int (0 : Int32))] [(.ref a0), (.ref a0)])) rfl rfl (hb hby d6_38)
    refine own_by st5 ?_
    show own_Go p e below _ (T5.setTop (mkF m 41 #[.val (.ref a0), .val (.long q1), .second, .val (.int p2), .val (.int (0 : Int32)), .val (.int (-1 : Int32)), .val (.int (0 : Int32))] [(.ref f_a0_entries), (.ref a0)]))
    refine own_by (fun _ k => XS.iload X5.here hx rfl (hb hby d6_41) rfl k) ?_
    show own_Go p e below _ (T5.setTop (mkF m 43 #[.val (.ref a0), .val (.long q1), .second, .val (.int p2), .val (.int (0 : Int32)), .val (.int (-1 : Int32)), .val (.int (0 : Int32))] [(.int (0 : Int32)), (.ref f_a0_entries), (.ref a0)]))
    refine own_by (fun _ k => XS.iconst X5.here hx rfl (hb hby d6_43) k) ?_
    show own_Go p e below _ (T5.setTop (mkF m 44 #[.val (.ref a0), .val (.long q1), .second, .val (.int p2), .val (.int (0 : Int32)), .val (.int (-1 : Int32)), .val (.int (0 : Int32))] [(.int (3 : Int32)), (.int (0 : Int32)), (.ref f_a0_entries), (.ref a0)]))
    refine own_by (fun _ k => XS.iadd X5.here hx rfl (hb hby d6_44) rfl k) ?_
    show own_Go p e below _ (T5.setTop (mkF m 45 #[.val (.ref a0), .val (.long q1), .second, .val (.int p2), .val (.int (0 : Int32)), .val (.int (-1 : Int32)), .val (.int (0 : Int32))] [(.int (3 : Int32)), (.ref f_a0_entries), (.ref a0)]))
    obtain ⟨cl6, Ar6, qq6, S6, M6, H6, G6⟩ := id P_V_f_a0_entries
    have hin6 : ¬ ((3 : Int32) < 0 ∨ cl6.slots.size ≤ ((3 : Int32)).toNatClampNeg) := inb_of S6 ⟨by decide, by decide⟩
    refine own_by (fun t k => X5.laload hx (j := (3 : Int32)) (v := (.long (fn_f_a0_entries 3))) (by rw [e5]; exact Ar6.1) (State.isArrayOf_alike hZ.alike Ar6.2.1) Ar6.2.2 hin6 (H6 _ (Nat.lt_of_not_le fun y => hin6 (Or.inr y))) (g := (mkF m 45 #[.val (.ref a0), .val (.long q1), .second, .val (.int p2), .val (.int (0 : Int32)), .val (.int (-1 : Int32)), .val (.int (0 : Int32))] [(.int (3 : Int32)), (.ref f_a0_entries), (.ref a0)])) rfl rfl (hb hby d6_45) _ k) ?_
    show own_Go p e below _ (T5.setTop (mkF m 46 #[.val (.ref a0), .val (.long q1), .second, .val (.int p2), .val (.int (0 : Int32)), .val (.int (-1 : Int32)), .val (.int (0 : Int32))] [(.long (fn_f_a0_entries 3)), (.ref a0)]))
    refine own_by (fun _ k => XS.iloadN X5.here hx rfl (hb hby d6_46) rfl k) ?_
    show own_Go p e below _ (T5.setTop (mkF m 47 #[.val (.ref a0), .val (.long q1), .second, .val (.int p2), .val (.int (0 : Int32)), .val (.int (-1 : Int32)), .val (.int (0 : Int32))] [(.int p2), (.long (fn_f_a0_entries 3)), (.ref a0)]))
    obtain ⟨cq7, qq7, qq7'⟩ := P_E_a0.cell
    obtain ⟨_, _, ⟨T7, L7, k7, n7⟩, -, X7, ⟨Lc7, hQ7, l7, y7, z7⟩, st7⟩ := X5.privateBack hx (y := (⟨"com/example/plyward/plyward/search/TranspositionTable", "holdsAt", "(JI)Z"⟩ : MethodName)) hown (mvT hZ (hw _ (List.mem_of_getElem? (i := 48) rfl))) (mvT hZ (hw _ (List.mem_of_getElem? (i := 49) rfl))) (own_selPriv hZ (hw _ (List.mem_of_getElem? (i := 2) rfl)) (hw _ (List.mem_of_getElem? (i := 50) rfl)) (hw _ (List.mem_of_getElem? (i := 49) rfl)) (by decide)) (Cond.privateMethod_at (mvP hZ (hw _ (List.mem_of_getElem? (i := 50) rfl)) (args := #[]))) (mvT hZ (hw _ (List.mem_of_getElem? (i := 51) rfl))) (by decide) (backOf (W := 0) (rm7 l Z A0 hw [] a0 (fn_f_a0_entries 3) p2 f_a0_generation f_a0_settledSince h0 n0 Z0 P_F_a0_generation P_F_a0_settledSince) hZ (hw _ (List.mem_of_getElem? (i := 51) rfl)) (hw _ (List.mem_of_getElem? (i := 3) rfl)) (by decide) (by decide)) (g := (mkF m 47 #[.val (.ref a0), .val (.long q1), .second, .val (.int p2), .val (.int (0 : Int32)), .val (.int (-1 : Int32)), .val (.int (0 : Int32))] [(.int p2), (.long (fn_f_a0_entries 3)), (.ref a0)])) rfl (by rw [hml]; rfl) (Steps.refl _) (a := a0) (by rw [e5]; exact qq7) qq7' (argsL := [(.long (fn_f_a0_entries 3)), (.int p2)]) (rest := []) (lenOf pd_48 rfl) rfl (by show 2 * 0 + _ ≤ _; exact Nat.le_of_eq rfl) (hb hby d6_47) (fun _ _ => ⟨rfl, e5, (by decide : 0 + 0 ≤ _), (by decide : 0 + 0 ≤ _)⟩)
    dsimp only [Pt.U, Pt.locs, Pt.cells, Pt.slots] at X7 l7 y7 z7 st7 hQ7
    subst l7 y7 z7
    obtain ⟨o8, rfl, Nq7, eq7, hp9⟩ := hQ7
    have N7 := Fr.app N1 Nq7
    refine own_by (fun _ k => st7.trans k) ?_
    show own_Go p e below _ (T7.setTop (mkF m 50 #[.val (.ref a0), .val (.long q1), .second, .val (.int p2), .val (.int (0 : Int32)), .val (.int (-1 : Int32)), .val (.int (0 : Int32))] [(.int o8)]))
    by_cases c10 : o8 = (0 : Int32)
    · skip
      refine own_by (fun _ k => XS.ifYes X7.here hx rfl (pc0 := 50) (pc' := 60) rfl (hb hby d6_50) rfl ((if0 _ _).trans (teq c10).1) (by decide) (by decide) k) ?_
      show own_Go p e below _ (T7.setTop (mkF m 60 #[.val (.ref a0), .val (.long q1), .second, .val (.int p2), .val (.int (0 : Int32)), .val (.int (-1 : Int32)), .val (.int (0 : Int32))] []))
      refine own_by (fun _ k => XS.iinc X7.here hx rfl (hb hby d6_60) rfl (l' := #[.val (.ref a0), .val (.long q1), .second, .val (.int p2), .val (.int (0 : Int32)), .val (.int (-1 : Int32)), .val (.int (4 : Int32))]) rfl k) ?_
      show own_Go p e below _ (T7.setTop (mkF m 63 #[.val (.ref a0), .val (.long q1), .second, .val (.int p2), .val (.int (0 : Int32)), .val (.int (-1 : Int32)), .val (.int (4 : Int32))] []))
      refine own_by (fun _ k => XS.goto X7.here hx rfl (pc0 := 63) (pc' := 14) rfl (hb hby d6_63) (by decide) (by decide) k) ?_
      show own_Go p e below _ (T7.setTop (mkF m 14 #[.val (.ref a0), .val (.long q1), .second, .val (.int p2), .val (.int (0 : Int32)), .val (.int (-1 : Int32)), .val (.int (4 : Int32))] []))
      refine own_by (fun _ k => XS.iload X7.here hx rfl (hb hby d6_14) rfl k) ?_
      show own_Go p e below _ (T7.setTop (mkF m 16 #[.val (.ref a0), .val (.long q1), .second, .val (.int p2), .val (.int (0 : Int32)), .val (.int (-1 : Int32)), .val (.int (4 : Int32))] [(.int (4 : Int32))]))
      refine own_by (fun _ k => XS.iload X7.here hx rfl (hb hby d6_16) rfl k) ?_
      show own_Go p e below _ (T7.setTop (mkF m 18 #[.val (.ref a0), .val (.long q1), .second, .val (.int p2), .val (.int (0 : Int32)), .val (.int (-1 : Int32)), .val (.int (4 : Int32))] [(.int (0 : Int32)), (.int (4 : Int32))]))
      refine own_by (fun _ k => XS.bipush X7.here hx rfl (hb hby d6_18) k) ?_
      show own_Go p e below _ (T7.setTop (mkF m 20 #[.val (.ref a0), .val (.long q1), .second, .val (.int p2), .val (.int (0 : Int32)), .val (.int (-1 : Int32)), .val (.int (4 : Int32))] [(.int (8 : Int32)), (.int (0 : Int32)), (.int (4 : Int32))]))
      refine own_by (fun _ k => XS.iadd X7.here hx rfl (hb hby d6_20) rfl k) ?_
      show own_Go p e below _ (T7.setTop (mkF m 21 #[.val (.ref a0), .val (.long q1), .second, .val (.int p2), .val (.int (0 : Int32)), .val (.int (-1 : Int32)), .val (.int (4 : Int32))] [(.int (8 : Int32)), (.int (4 : Int32))]))
      refine own_by (fun _ k => XS.icmpNo X7.here hx rfl (hb hby d6_21) rfl (tlt (by decide : (4 : Int32) < (8 : Int32))).2.1 k) ?_
      show own_Go p e below _ (T7.setTop (mkF m 24 #[.val (.ref a0), .val (.long q1), .second, .val (.int p2), .val (.int (0 : Int32)), .val (.int (-1 : Int32)), .val (.int (4 : Int32))] []))
      refine own_by (fun _ k => XS.aloadN X7.here hx rfl (hb hby d6_24) rfl rfl k) ?_
      show own_Go p e below _ (T7.setTop (mkF m 25 #[.val (.ref a0), .val (.long q1), .second, .val (.int p2), .val (.int (0 : Int32)), .val (.int (-1 : Int32)), .val (.int (4 : Int32))] [(.ref a0)]))
      obtain ⟨T11, X11, e11, st11⟩ := getF X7 hx hZ hown (host := "") (Or.inl (hw _ (List.mem_of_getElem? (i := 15) rfl))) Via.refl eq7 P_F_a0_entries (g := (mkF m 25 #[.val (.ref a0), .val (.long q1), .second, .val (.int p2), .val (.int (0 : Int32)), .val (.int (-1 : Int32)), .val (.int (4 : Int32))] [(.ref a0)])) rfl rfl (hb hby d6_25)
      refine own_by st11 ?_
      show own_Go p e below _ (T11.setTop (mkF m 28 #[.val (.ref a0), .val (.long q1), .second, .val (.int p2), .val (.int (0 : Int32)), .val (.int (-1 : Int32)), .val (.int (4 : Int32))] [(.ref f_a0_entries)]))
      refine own_by (fun _ k => XS.iload X11.here hx rfl (hb hby d6_28) rfl k) ?_
      show own_Go p e below _ (T11.setTop (mkF m 30 #[.val (.ref a0), .val (.long q1), .second, .val (.int p2), .val (.int (0 : Int32)), .val (.int (-1 : Int32)), .val (.int (4 : Int32))] [(.int (4 : Int32)), (.ref f_a0_entries)]))
      obtain ⟨cl12, Ar12, qq12, S12, M12, H12, G12⟩ := id P_V_f_a0_entries
      have hin12 : ¬ ((4 : Int32) < 0 ∨ cl12.slots.size ≤ ((4 : Int32)).toNatClampNeg) := inb_of S12 ⟨by decide, by decide⟩
      refine own_by (fun t k => X11.laload hx (j := (4 : Int32)) (v := (.long (fn_f_a0_entries 4))) (by rw [e11]; exact Ar12.1) (State.isArrayOf_alike hZ.alike Ar12.2.1) Ar12.2.2 hin12 (H12 _ (Nat.lt_of_not_le fun y => hin12 (Or.inr y))) (g := (mkF m 30 #[.val (.ref a0), .val (.long q1), .second, .val (.int p2), .val (.int (0 : Int32)), .val (.int (-1 : Int32)), .val (.int (4 : Int32))] [(.int (4 : Int32)), (.ref f_a0_entries)])) rfl rfl (hb hby d6_30) _ k) ?_
      show own_Go p e below _ (T11.setTop (mkF m 31 #[.val (.ref a0), .val (.long q1), .second, .val (.int p2), .val (.int (0 : Int32)), .val (.int (-1 : Int32)), .val (.int (4 : Int32))] [(.long (fn_f_a0_entries 4))]))
      refine own_by (fun _ k => XS.lloadN X11.here hx rfl (hb hby d6_31) rfl k) ?_
      show own_Go p e below _ (T11.setTop (mkF m 32 #[.val (.ref a0), .val (.long q1), .second, .val (.int p2), .val (.int (0 : Int32)), .val (.int (-1 : Int32)), .val (.int (4 : Int32))] [(.long q1), (.long (fn_f_a0_entries 4))]))
      refine own_by (fun _ k => XS.lcmp X11.here hx rfl (hb hby d6_32) rfl k) ?_
      show own_Go p e below _ (T11.setTop (mkF m 33 #[.val (.ref a0), .val (.long q1), .second, .val (.int p2), .val (.int (0 : Int32)), .val (.int (-1 : Int32)), .val (.int (4 : Int32))] [(.int (lcmpW (fn_f_a0_entries 4) q1))]))
      by_cases c13 : (fn_f_a0_entries 4) = q1
      · skip
        refine own_by (fun _ k => XS.ifNo X11.here hx rfl (hb hby d6_33) rfl ((if0 _ _).trans (teq ((lw_eq _ _).mpr c13)).2) k) ?_
        show own_Go p e below _ (T11.setTop (mkF m 36 #[.val (.ref a0), .val (.long q1), .second, .val (.int p2), .val (.int (0 : Int32)), .val (.int (-1 : Int32)), .val (.int (4 : Int32))] []))
        refine own_by (fun _ k => XS.aloadN X11.here hx rfl (hb hby d6_36) rfl rfl k) ?_
        show own_Go p e below _ (T11.setTop (mkF m 37 #[.val (.ref a0), .val (.long q1), .second, .val (.int p2), .val (.int (0 : Int32)), .val (.int (-1 : Int32)), .val (.int (4 : Int32))] [(.ref a0)]))
        refine own_by (fun _ k => XS.aloadN X11.here hx rfl (hb hby d6_37) rfl rfl k) ?_
        show own_Go p e below _ (T11.setTop (mkF m 38 #[.val (.ref a0), .val (.long q1), .second, .val (.int p2), .val (.int (0 : Int32)), .val (.int (-1 : Int32)), .val (.int (4 : Int32))] [(.ref a0), (.ref a0)]))
        obtain ⟨T14, X14, e14, st14⟩ := getF X11 hx hZ hown (host := "") (Or.inl (hw _ (List.mem_of_getElem? (i := 15) rfl))) Via.refl e11 P_F_a0_entries (g := (mkF m 38 #[.val (.ref a0), .val (.long q1), .second, .val (.int p2), .val (.int (0 : Int32)), .val (.int (-1 : Int32)), .val (.int (4 : Int32))] [(.ref a0), (.ref a0)])) rfl rfl (hb hby d6_38)
        refine own_by st14 ?_
        show own_Go p e below _ (T14.setTop (mkF m 41 #[.val (.ref a0), .val (.long q1), .second, .val (.int p2), .val (.int (0 : Int32)), .val (.int (-1 : Int32)), .val (.int (4 : Int32))] [(.ref f_a0_entries), (.ref a0)]))
        refine own_by (fun _ k => XS.iload X14.here hx rfl (hb hby d6_41) rfl k) ?_
        show own_Go p e below _ (T14.setTop (mkF m 43 #[.val (.ref a0), .val (.long q1), .second, .val (.int p2), .val (.int (0 : Int32)), .val (.int (-1 : Int32)), .val (.int (4 : Int32))] [(.int (4 : Int32)), (.ref f_a0_entries), (.ref a0)]))
        refine own_by (fun _ k => XS.iconst X14.here hx rfl (hb hby d6_43) k) ?_
        show own_Go p e below _ (T14.setTop (mkF m 44 #[.val (.ref a0), .val (.long q1), .second, .val (.int p2), .val (.int (0 : Int32)), .val (.int (-1 : Int32)), .val (.int (4 : Int32))] [(.int (3 : Int32)), (.int (4 : Int32)), (.ref f_a0_entries), (.ref a0)]))
        refine own_by (fun _ k => XS.iadd X14.here hx rfl (hb hby d6_44) rfl k) ?_
        show own_Go p e below _ (T14.setTop (mkF m 45 #[.val (.ref a0), .val (.long q1), .second, .val (.int p2), .val (.int (0 : Int32)), .val (.int (-1 : Int32)), .val (.int (4 : Int32))] [(.int (7 : Int32)), (.ref f_a0_entries), (.ref a0)]))
        obtain ⟨cl15, Ar15, qq15, S15, M15, H15, G15⟩ := id P_V_f_a0_entries
        have hin15 : ¬ ((7 : Int32) < 0 ∨ cl15.slots.size ≤ ((7 : Int32)).toNatClampNeg) := inb_of S15 ⟨by decide, by decide⟩
        refine own_by (fun t k => X14.laload hx (j := (7 : Int32)) (v := (.long (fn_f_a0_entries 7))) (by rw [e14]; exact Ar15.1) (State.isArrayOf_alike hZ.alike Ar15.2.1) Ar15.2.2 hin15 (H15 _ (Nat.lt_of_not_le fun y => hin15 (Or.inr y))) (g := (mkF m 45 #[.val (.ref a0), .val (.long q1), .second, .val (.int p2), .val (.int (0 : Int32)), .val (.int (-1 : Int32)), .val (.int (4 : Int32))] [(.int (7 : Int32)), (.ref f_a0_entries), (.ref a0)])) rfl rfl (hb hby d6_45) _ k) ?_
        show own_Go p e below _ (T14.setTop (mkF m 46 #[.val (.ref a0), .val (.long q1), .second, .val (.int p2), .val (.int (0 : Int32)), .val (.int (-1 : Int32)), .val (.int (4 : Int32))] [(.long (fn_f_a0_entries 7)), (.ref a0)]))
        refine own_by (fun _ k => XS.iloadN X14.here hx rfl (hb hby d6_46) rfl k) ?_
        show own_Go p e below _ (T14.setTop (mkF m 47 #[.val (.ref a0), .val (.long q1), .second, .val (.int p2), .val (.int (0 : Int32)), .val (.int (-1 : Int32)), .val (.int (4 : Int32))] [(.int p2), (.long (fn_f_a0_entries 7)), (.ref a0)]))
        obtain ⟨cq16, qq16, qq16'⟩ := P_E_a0.cell
        obtain ⟨_, _, ⟨T16, L16, k16, n16⟩, -, X16, ⟨Lc16, hQ16, l16, y16, z16⟩, st16⟩ := X14.privateBack hx (y := (⟨"com/example/plyward/plyward/search/TranspositionTable", "holdsAt", "(JI)Z"⟩ : MethodName)) hown (mvT hZ (hw _ (List.mem_of_getElem? (i := 48) rfl))) (mvT hZ (hw _ (List.mem_of_getElem? (i := 49) rfl))) (own_selPriv hZ (hw _ (List.mem_of_getElem? (i := 2) rfl)) (hw _ (List.mem_of_getElem? (i := 50) rfl)) (hw _ (List.mem_of_getElem? (i := 49) rfl)) (by decide)) (Cond.privateMethod_at (mvP hZ (hw _ (List.mem_of_getElem? (i := 50) rfl)) (args := #[]))) (mvT hZ (hw _ (List.mem_of_getElem? (i := 51) rfl))) (by decide) (backOf (W := 0) (rm7 l Z A0 hw [] a0 (fn_f_a0_entries 7) p2 f_a0_generation f_a0_settledSince h0 n0 Z0 P_F_a0_generation P_F_a0_settledSince) hZ (hw _ (List.mem_of_getElem? (i := 51) rfl)) (hw _ (List.mem_of_getElem? (i := 3) rfl)) (by decide) (by decide)) (g := (mkF m 47 #[.val (.ref a0), .val (.long q1), .second, .val (.int p2), .val (.int (0 : Int32)), .val (.int (-1 : Int32)), .val (.int (4 : Int32))] [(.int p2), (.long (fn_f_a0_entries 7)), (.ref a0)])) rfl (by rw [hml]; rfl) (Steps.refl _) (a := a0) (by rw [e14]; exact qq16) qq16' (argsL := [(.long (fn_f_a0_entries 7)), (.int p2)]) (rest := []) (lenOf pd_48 rfl) rfl (by show 2 * 0 + _ ≤ _; exact Nat.le_of_eq rfl) (hb hby d6_47) (fun _ _ => ⟨rfl, e14, (by decide : 0 + 0 ≤ _), (by decide : 0 + 0 ≤ _)⟩)
        dsimp only [Pt.U, Pt.locs, Pt.cells, Pt.slots] at X16 l16 y16 z16 st16 hQ16
        subst l16 y16 z16
        obtain ⟨o17, rfl, Nq16, eq16, hp18⟩ := hQ16
        have N16 := Fr.app N7 Nq16
        refine own_by (fun _ k => st16.trans k) ?_
        show own_Go p e below _ (T16.setTop (mkF m 50 #[.val (.ref a0), .val (.long q1), .second, .val (.int p2), .val (.int (0 : Int32)), .val (.int (-1 : Int32)), .val (.int (4 : Int32))] [(.int o17)]))
        by_cases c19 : o17 = (0 : Int32)
        · skip
          refine own_by (fun _ k => XS.ifYes X16.here hx rfl (pc0 := 50) (pc' := 60) rfl (hb hby d6_50) rfl ((if0 _ _).trans (teq c19).1) (by decide) (by decide) k) ?_
          show own_Go p e below _ (T16.setTop (mkF m 60 #[.val (.ref a0), .val (.long q1), .second, .val (.int p2), .val (.int (0 : Int32)), .val (.int (-1 : Int32)), .val (.int (4 : Int32))] []))
          refine own_by (fun _ k => XS.iinc X16.here hx rfl (hb hby d6_60) rfl (l' := #[.val (.ref a0), .val (.long q1), .second, .val (.int p2), .val (.int (0 : Int32)), .val (.int (-1 : Int32)), .val (.int (8 : Int32))]) rfl k) ?_
          show own_Go p e below _ (T16.setTop (mkF m 63 #[.val (.ref a0), .val (.long q1), .second, .val (.int p2), .val (.int (0 : Int32)), .val (.int (-1 : Int32)), .val (.int (8 : Int32))] []))
          refine own_by (fun _ k => XS.goto X16.here hx rfl (pc0 := 63) (pc' := 14) rfl (hb hby d6_63) (by decide) (by decide) k) ?_
          show own_Go p e below _ (T16.setTop (mkF m 14 #[.val (.ref a0), .val (.long q1), .second, .val (.int p2), .val (.int (0 : Int32)), .val (.int (-1 : Int32)), .val (.int (8 : Int32))] []))
          refine own_by (fun _ k => XS.iload X16.here hx rfl (hb hby d6_14) rfl k) ?_
          show own_Go p e below _ (T16.setTop (mkF m 16 #[.val (.ref a0), .val (.long q1), .second, .val (.int p2), .val (.int (0 : Int32)), .val (.int (-1 : Int32)), .val (.int (8 : Int32))] [(.int (8 : Int32))]))
          refine own_by (fun _ k => XS.iload X16.here hx rfl (hb hby d6_16) rfl k) ?_
          show own_Go p e below _ (T16.setTop (mkF m 18 #[.val (.ref a0), .val (.long q1), .second, .val (.int p2), .val (.int (0 : Int32)), .val (.int (-1 : Int32)), .val (.int (8 : Int32))] [(.int (0 : Int32)), (.int (8 : Int32))]))
          refine own_by (fun _ k => XS.bipush X16.here hx rfl (hb hby d6_18) k) ?_
          show own_Go p e below _ (T16.setTop (mkF m 20 #[.val (.ref a0), .val (.long q1), .second, .val (.int p2), .val (.int (0 : Int32)), .val (.int (-1 : Int32)), .val (.int (8 : Int32))] [(.int (8 : Int32)), (.int (0 : Int32)), (.int (8 : Int32))]))
          refine own_by (fun _ k => XS.iadd X16.here hx rfl (hb hby d6_20) rfl k) ?_
          show own_Go p e below _ (T16.setTop (mkF m 21 #[.val (.ref a0), .val (.long q1), .second, .val (.int p2), .val (.int (0 : Int32)), .val (.int (-1 : Int32)), .val (.int (8 : Int32))] [(.int (8 : Int32)), (.int (8 : Int32))]))
          refine own_by (fun _ k => XS.icmpYes X16.here hx rfl (pc0 := 21) (pc' := 66) rfl (hb hby d6_21) rfl (flt (by decide : ¬ ((8 : Int32) < (8 : Int32)))).2.1 (by decide) (by decide) k) ?_
          show own_Go p e below _ (T16.setTop (mkF m 66 #[.val (.ref a0), .val (.long q1), .second, .val (.int p2), .val (.int (0 : Int32)), .val (.int (-1 : Int32)), .val (.int (8 : Int32))] []))
          refine own_by (fun _ k => XS.iload X16.here hx rfl (hb hby d6_66) rfl k) ?_
          show own_Go p e below _ (T16.setTop (mkF m 68 #[.val (.ref a0), .val (.long q1), .second, .val (.int p2), .val (.int (0 : Int32)), .val (.int (-1 : Int32)), .val (.int (8 : Int32))] [(.int (-1 : Int32))]))
          exact own_retI X16 hx Bd.returns (hb hby d6_68) hlk eq16 ⟨_, rfl, N16, rfl, (ob_6_10 fn_f_a0_entries q1 p2 f_a0_generation f_a0_settledSince o8 o17 c4 hp9 c10 c13 hp18 c19)⟩ (by decide) (by decide)
        · skip
          refine own_by (fun _ k => XS.ifNo X16.here hx rfl (hb hby d6_50) rfl ((if0 _ _).trans (feq c19).1) k) ?_
          show own_Go p e below _ (T16.setTop (mkF m 53 #[.val (.ref a0), .val (.long q1), .second, .val (.int p2), .val (.int (0 : Int32)), .val (.int (-1 : Int32)), .val (.int (4 : Int32))] []))
          refine own_by (fun _ k => XS.iload X16.here hx rfl (hb hby d6_53) rfl k) ?_
          show own_Go p e below _ (T16.setTop (mkF m 55 #[.val (.ref a0), .val (.long q1), .second, .val (.int p2), .val (.int (0 : Int32)), .val (.int (-1 : Int32)), .val (.int (4 : Int32))] [(.int (4 : Int32))]))
          refine own_by (fun _ k => XS.istore X16.here hx rfl (hb hby d6_55) rfl (l' := #[.val (.ref a0), .val (.long q1), .second, .val (.int p2), .val (.int (0 : Int32)), .val (.int (4 : Int32)), .val (.int (4 : Int32))]) rfl k) ?_
          show own_Go p e below _ (T16.setTop (mkF m 57 #[.val (.ref a0), .val (.long q1), .second, .val (.int p2), .val (.int (0 : Int32)), .val (.int (4 : Int32)), .val (.int (4 : Int32))] []))
          refine own_by (fun _ k => XS.goto X16.here hx rfl (pc0 := 57) (pc' := 66) rfl (hb hby d6_57) (by decide) (by decide) k) ?_
          show own_Go p e below _ (T16.setTop (mkF m 66 #[.val (.ref a0), .val (.long q1), .second, .val (.int p2), .val (.int (0 : Int32)), .val (.int (4 : Int32)), .val (.int (4 : Int32))] []))
          refine own_by (fun _ k => XS.iload X16.here hx rfl (hb hby d6_66) rfl k) ?_
          show own_Go p e below _ (T16.setTop (mkF m 68 #[.val (.ref a0), .val (.long q1), .second, .val (.int p2), .val (.int (0 : Int32)), .val (.int (4 : Int32)), .val (.int (4 : Int32))] [(.int (4 : Int32))]))
          exact own_retI X16 hx Bd.returns (hb hby d6_68) hlk eq16 ⟨_, rfl, N16, rfl, (ob_6_11 fn_f_a0_entries q1 p2 f_a0_generation f_a0_settledSince o8 o17 c4 hp9 c10 c13 hp18 c19)⟩ (by decide) (by decide)
      · skip
        refine own_by (fun _ k => XS.ifYes X11.here hx rfl (pc0 := 33) (pc' := 60) rfl (hb hby d6_33) rfl ((if0 _ _).trans (feq (fun q => c13 ((lw_eq _ _).mp q))).2) (by decide) (by decide) k) ?_
        show own_Go p e below _ (T11.setTop (mkF m 60 #[.val (.ref a0), .val (.long q1), .second, .val (.int p2), .val (.int (0 : Int32)), .val (.int (-1 : Int32)), .val (.int (4 : Int32))] []))
        refine own_by (fun _ k => XS.iinc X11.here hx rfl (hb hby d6_60) rfl (l' := #[.val (.ref a0), .val (.long q1), .second, .val (.int p2), .val (.int (0 : Int32)), .val (.int (-1 : Int32)), .val (.int (8 : Int32))]) rfl k) ?_
        show own_Go p e below _ (T11.setTop (mkF m 63 #[.val (.ref a0), .val (.long q1), .second, .val (.int p2), .val (.int (0 : Int32)), .val (.int (-1 : Int32)), .val (.int (8 : Int32))] []))
        refine own_by (fun _ k => XS.goto X11.here hx rfl (pc0 := 63) (pc' := 14) rfl (hb hby d6_63) (by decide) (by decide) k) ?_
        show own_Go p e below _ (T11.setTop (mkF m 14 #[.val (.ref a0), .val (.long q1), .second, .val (.int p2), .val (.int (0 : Int32)), .val (.int (-1 : Int32)), .val (.int (8 : Int32))] []))
        refine own_by (fun _ k => XS.iload X11.here hx rfl (hb hby d6_14) rfl k) ?_
        show own_Go p e below _ (T11.setTop (mkF m 16 #[.val (.ref a0), .val (.long q1), .second, .val (.int p2), .val (.int (0 : Int32)), .val (.int (-1 : Int32)), .val (.int (8 : Int32))] [(.int (8 : Int32))]))
        refine own_by (fun _ k => XS.iload X11.here hx rfl (hb hby d6_16) rfl k) ?_
        show own_Go p e below _ (T11.setTop (mkF m 18 #[.val (.ref a0), .val (.long q1), .second, .val (.int p2), .val (.int (0 : Int32)), .val (.int (-1 : Int32)), .val (.int (8 : Int32))] [(.int (0 : Int32)), (.int (8 : Int32))]))
        refine own_by (fun _ k => XS.bipush X11.here hx rfl (hb hby d6_18) k) ?_
        show own_Go p e below _ (T11.setTop (mkF m 20 #[.val (.ref a0), .val (.long q1), .second, .val (.int p2), .val (.int (0 : Int32)), .val (.int (-1 : Int32)), .val (.int (8 : Int32))] [(.int (8 : Int32)), (.int (0 : Int32)), (.int (8 : Int32))]))
        refine own_by (fun _ k => XS.iadd X11.here hx rfl (hb hby d6_20) rfl k) ?_
        show own_Go p e below _ (T11.setTop (mkF m 21 #[.val (.ref a0), .val (.long q1), .second, .val (.int p2), .val (.int (0 : Int32)), .val (.int (-1 : Int32)), .val (.int (8 : Int32))] [(.int (8 : Int32)), (.int (8 : Int32))]))
        refine own_by (fun _ k => XS.icmpYes X11.here hx rfl (pc0 := 21) (pc' := 66) rfl (hb hby d6_21) rfl (flt (by decide : ¬ ((8 : Int32) < (8 : Int32)))).2.1 (by decide) (by decide) k) ?_
        show own_Go p e below _ (T11.setTop (mkF m 66 #[.val (.ref a0), .val (.long q1), .second, .val (.int p2), .val (.int (0 : Int32)), .val (.int (-1 : Int32)), .val (.int (8 : Int32))] []))
        refine own_by (fun _ k => XS.iload X11.here hx rfl (hb hby d6_66) rfl k) ?_
        show own_Go p e below _ (T11.setTop (mkF m 68 #[.val (.ref a0), .val (.long q1), .second, .val (.int p2), .val (.int (0 : Int32)), .val (.int (-1 : Int32)), .val (.int (8 : Int32))] [(.int (-1 : Int32))]))
        exact own_retI X11 hx Bd.returns (hb hby d6_68) hlk e11 ⟨_, rfl, N7, rfl, (ob_6_12 fn_f_a0_entries q1 p2 f_a0_generation f_a0_settledSince o8 c4 hp9 c10 c13)⟩ (by decide) (by decide)
    · skip
      refine own_by (fun _ k => XS.ifNo X7.here hx rfl (hb hby d6_50) rfl ((if0 _ _).trans (feq c10).1) k) ?_
      show own_Go p e below _ (T7.setTop (mkF m 53 #[.val (.ref a0), .val (.long q1), .second, .val (.int p2), .val (.int (0 : Int32)), .val (.int (-1 : Int32)), .val (.int (0 : Int32))] []))
      refine own_by (fun _ k => XS.iload X7.here hx rfl (hb hby d6_53) rfl k) ?_
      show own_Go p e below _ (T7.setTop (mkF m 55 #[.val (.ref a0), .val (.long q1), .second, .val (.int p2), .val (.int (0 : Int32)), .val (.int (-1 : Int32)), .val (.int (0 : Int32))] [(.int (0 : Int32))]))
      refine own_by (fun _ k => XS.istore X7.here hx rfl (hb hby d6_55) rfl (l' := #[.val (.ref a0), .val (.long q1), .second, .val (.int p2), .val (.int (0 : Int32)), .val (.int (0 : Int32)), .val (.int (0 : Int32))]) rfl k) ?_
      show own_Go p e below _ (T7.setTop (mkF m 57 #[.val (.ref a0), .val (.long q1), .second, .val (.int p2), .val (.int (0 : Int32)), .val (.int (0 : Int32)), .val (.int (0 : Int32))] []))
      refine own_by (fun _ k => XS.goto X7.here hx rfl (pc0 := 57) (pc' := 66) rfl (hb hby d6_57) (by decide) (by decide) k) ?_
      show own_Go p e below _ (T7.setTop (mkF m 66 #[.val (.ref a0), .val (.long q1), .second, .val (.int p2), .val (.int (0 : Int32)), .val (.int (0 : Int32)), .val (.int (0 : Int32))] []))
      refine own_by (fun _ k => XS.iload X7.here hx rfl (hb hby d6_66) rfl k) ?_
      show own_Go p e below _ (T7.setTop (mkF m 68 #[.val (.ref a0), .val (.long q1), .second, .val (.int p2), .val (.int (0 : Int32)), .val (.int (0 : Int32)), .val (.int (0 : Int32))] [(.int (0 : Int32))]))
      exact own_retI X7 hx Bd.returns (hb hby d6_68) hlk eq7 ⟨_, rfl, N7, rfl, (ob_6_13 fn_f_a0_entries q1 p2 f_a0_generation f_a0_settledSince o8 c4 hp9 c10)⟩ (by decide) (by decide)
  · skip
    refine own_by (fun _ k => XS.ifYes X2.here hx rfl (pc0 := 33) (pc' := 60) rfl (hb hby d6_33) rfl ((if0 _ _).trans (feq (fun q => c4 ((lw_eq _ _).mp q))).2) (by decide) (by decide) k) ?_
    show own_Go p e below _ (T2.setTop (mkF m 60 #[.val (.ref a0), .val (.long q1), .second, .val (.int p2), .val (.int (0 : Int32)), .val (.int (-1 : Int32)), .val (.int (0 : Int32))] []))
    refine own_by (fun _ k => XS.iinc X2.here hx rfl (hb hby d6_60) rfl (l' := #[.val (.ref a0), .val (.long q1), .second, .val (.int p2), .val (.int (0 : Int32)), .val (.int (-1 : Int32)), .val (.int (4 : Int32))]) rfl k) ?_
    show own_Go p e below _ (T2.setTop (mkF m 63 #[.val (.ref a0), .val (.long q1), .second, .val (.int p2), .val (.int (0 : Int32)), .val (.int (-1 : Int32)), .val (.int (4 : Int32))] []))
    refine own_by (fun _ k => XS.goto X2.here hx rfl (pc0 := 63) (pc' := 14) rfl (hb hby d6_63) (by decide) (by decide) k) ?_
    show own_Go p e below _ (T2.setTop (mkF m 14 #[.val (.ref a0), .val (.long q1), .second, .val (.int p2), .val (.int (0 : Int32)), .val (.int (-1 : Int32)), .val (.int (4 : Int32))] []))
    refine own_by (fun _ k => XS.iload X2.here hx rfl (hb hby d6_14) rfl k) ?_
    show own_Go p e below _ (T2.setTop (mkF m 16 #[.val (.ref a0), .val (.long q1), .second, .val (.int p2), .val (.int (0 : Int32)), .val (.int (-1 : Int32)), .val (.int (4 : Int32))] [(.int (4 : Int32))]))
    refine own_by (fun _ k => XS.iload X2.here hx rfl (hb hby d6_16) rfl k) ?_
    show own_Go p e below _ (T2.setTop (mkF m 18 #[.val (.ref a0), .val (.long q1), .second, .val (.int p2), .val (.int (0 : Int32)), .val (.int (-1 : Int32)), .val (.int (4 : Int32))] [(.int (0 : Int32)), (.int (4 : Int32))]))
    refine own_by (fun _ k => XS.bipush X2.here hx rfl (hb hby d6_18) k) ?_
    show own_Go p e below _ (T2.setTop (mkF m 20 #[.val (.ref a0), .val (.long q1), .second, .val (.int p2), .val (.int (0 : Int32)), .val (.int (-1 : Int32)), .val (.int (4 : Int32))] [(.int (8 : Int32)), (.int (0 : Int32)), (.int (4 : Int32))]))
    refine own_by (fun _ k => XS.iadd X2.here hx rfl (hb hby d6_20) rfl k) ?_
    show own_Go p e below _ (T2.setTop (mkF m 21 #[.val (.ref a0), .val (.long q1), .second, .val (.int p2), .val (.int (0 : Int32)), .val (.int (-1 : Int32)), .val (.int (4 : Int32))] [(.int (8 : Int32)), (.int (4 : Int32))]))
    refine own_by (fun _ k => XS.icmpNo X2.here hx rfl (hb hby d6_21) rfl (tlt (by decide : (4 : Int32) < (8 : Int32))).2.1 k) ?_
    show own_Go p e below _ (T2.setTop (mkF m 24 #[.val (.ref a0), .val (.long q1), .second, .val (.int p2), .val (.int (0 : Int32)), .val (.int (-1 : Int32)), .val (.int (4 : Int32))] []))
    refine own_by (fun _ k => XS.aloadN X2.here hx rfl (hb hby d6_24) rfl rfl k) ?_
    show own_Go p e below _ (T2.setTop (mkF m 25 #[.val (.ref a0), .val (.long q1), .second, .val (.int p2), .val (.int (0 : Int32)), .val (.int (-1 : Int32)), .val (.int (4 : Int32))] [(.ref a0)]))
    obtain ⟨T20, X20, e20, st20⟩ := getF X2 hx hZ hown (host := "") (Or.inl (hw _ (List.mem_of_getElem? (i := 15) rfl))) Via.refl e2 P_F_a0_entries (g := (mkF m 25 #[.val (.ref a0), .val (.long q1), .second, .val (.int p2), .val (.int (0 : Int32)), .val (.int (-1 : Int32)), .val (.int (4 : Int32))] [(.ref a0)])) rfl rfl (hb hby d6_25)
    refine own_by st20 ?_
    show own_Go p e below _ (T20.setTop (mkF m 28 #[.val (.ref a0), .val (.long q1), .second, .val (.int p2), .val (.int (0 : Int32)), .val (.int (-1 : Int32)), .val (.int (4 : Int32))] [(.ref f_a0_entries)]))
    refine own_by (fun _ k => XS.iload X20.here hx rfl (hb hby d6_28) rfl k) ?_
    show own_Go p e below _ (T20.setTop (mkF m 30 #[.val (.ref a0), .val (.long q1), .second, .val (.int p2), .val (.int (0 : Int32)), .val (.int (-1 : Int32)), .val (.int (4 : Int32))] [(.int (4 : Int32)), (.ref f_a0_entries)]))
    obtain ⟨cl21, Ar21, qq21, S21, M21, H21, G21⟩ := id P_V_f_a0_entries
    have hin21 : ¬ ((4 : Int32) < 0 ∨ cl21.slots.size ≤ ((4 : Int32)).toNatClampNeg) := inb_of S21 ⟨by decide, by decide⟩
    refine own_by (fun t k => X20.laload hx (j := (4 : Int32)) (v := (.long (fn_f_a0_entries 4))) (by rw [e20]; exact Ar21.1) (State.isArrayOf_alike hZ.alike Ar21.2.1) Ar21.2.2 hin21 (H21 _ (Nat.lt_of_not_le fun y => hin21 (Or.inr y))) (g := (mkF m 30 #[.val (.ref a0), .val (.long q1), .second, .val (.int p2), .val (.int (0 : Int32)), .val (.int (-1 : Int32)), .val (.int (4 : Int32))] [(.int (4 : Int32)), (.ref f_a0_entries)])) rfl rfl (hb hby d6_30) _ k) ?_
    show own_Go p e below _ (T20.setTop (mkF m 31 #[.val (.ref a0), .val (.long q1), .second, .val (.int p2), .val (.int (0 : Int32)), .val (.int (-1 : Int32)), .val (.int (4 : Int32))] [(.long (fn_f_a0_entries 4))]))
    refine own_by (fun _ k => XS.lloadN X20.here hx rfl (hb hby d6_31) rfl k) ?_
    show own_Go p e below _ (T20.setTop (mkF m 32 #[.val (.ref a0), .val (.long q1), .second, .val (.int p2), .val (.int (0 : Int32)), .val (.int (-1 : Int32)), .val (.int (4 : Int32))] [(.long q1), (.long (fn_f_a0_entries 4))]))
    refine own_by (fun _ k => XS.lcmp X20.here hx rfl (hb hby d6_32) rfl k) ?_
    show own_Go p e below _ (T20.setTop (mkF m 33 #[.val (.ref a0), .val (.long q1), .second, .val (.int p2), .val (.int (0 : Int32)), .val (.int (-1 : Int32)), .val (.int (4 : Int32))] [(.int (lcmpW (fn_f_a0_entries 4) q1))]))
    by_cases c22 : (fn_f_a0_entries 4) = q1
    · skip
      refine own_by (fun _ k => XS.ifNo X20.here hx rfl (hb hby d6_33) rfl ((if0 _ _).trans (teq ((lw_eq _ _).mpr c22)).2) k) ?_
      show own_Go p e below _ (T20.setTop (mkF m 36 #[.val (.ref a0), .val (.long q1), .second, .val (.int p2), .val (.int (0 : Int32)), .val (.int (-1 : Int32)), .val (.int (4 : Int32))] []))
      refine own_by (fun _ k => XS.aloadN X20.here hx rfl (hb hby d6_36) rfl rfl k) ?_
      show own_Go p e below _ (T20.setTop (mkF m 37 #[.val (.ref a0), .val (.long q1), .second, .val (.int p2), .val (.int (0 : Int32)), .val (.int (-1 : Int32)), .val (.int (4 : Int32))] [(.ref a0)]))
      refine own_by (fun _ k => XS.aloadN X20.here hx rfl (hb hby d6_37) rfl rfl k) ?_
      show own_Go p e below _ (T20.setTop (mkF m 38 #[.val (.ref a0), .val (.long q1), .second, .val (.int p2), .val (.int (0 : Int32)), .val (.int (-1 : Int32)), .val (.int (4 : Int32))] [(.ref a0), (.ref a0)]))
      obtain ⟨T23, X23, e23, st23⟩ := getF X20 hx hZ hown (host := "") (Or.inl (hw _ (List.mem_of_getElem? (i := 15) rfl))) Via.refl e20 P_F_a0_entries (g := (mkF m 38 #[.val (.ref a0), .val (.long q1), .second, .val (.int p2), .val (.int (0 : Int32)), .val (.int (-1 : Int32)), .val (.int (4 : Int32))] [(.ref a0), (.ref a0)])) rfl rfl (hb hby d6_38)
      refine own_by st23 ?_
      show own_Go p e below _ (T23.setTop (mkF m 41 #[.val (.ref a0), .val (.long q1), .second, .val (.int p2), .val (.int (0 : Int32)), .val (.int (-1 : Int32)), .val (.int (4 : Int32))] [(.ref f_a0_entries), (.ref a0)]))
      refine own_by (fun _ k => XS.iload X23.here hx rfl (hb hby d6_41) rfl k) ?_
      show own_Go p e below _ (T23.setTop (mkF m 43 #[.val (.ref a0), .val (.long q1), .second, .val (.int p2), .val (.int (0 : Int32)), .val (.int (-1 : Int32)), .val (.int (4 : Int32))] [(.int (4 : Int32)), (.ref f_a0_entries), (.ref a0)]))
      refine own_by (fun _ k => XS.iconst X23.here hx rfl (hb hby d6_43) k) ?_
      show own_Go p e below _ (T23.setTop (mkF m 44 #[.val (.ref a0), .val (.long q1), .second, .val (.int p2), .val (.int (0 : Int32)), .val (.int (-1 : Int32)), .val (.int (4 : Int32))] [(.int (3 : Int32)), (.int (4 : Int32)), (.ref f_a0_entries), (.ref a0)]))
      refine own_by (fun _ k => XS.iadd X23.here hx rfl (hb hby d6_44) rfl k) ?_
      show own_Go p e below _ (T23.setTop (mkF m 45 #[.val (.ref a0), .val (.long q1), .second, .val (.int p2), .val (.int (0 : Int32)), .val (.int (-1 : Int32)), .val (.int (4 : Int32))] [(.int (7 : Int32)), (.ref f_a0_entries), (.ref a0)]))
      obtain ⟨cl24, Ar24, qq24, S24, M24, H24, G24⟩ := id P_V_f_a0_entries
      have hin24 : ¬ ((7 : Int32) < 0 ∨ cl24.slots.size ≤ ((7 : Int32)).toNatClampNeg) := inb_of S24 ⟨by decide, by decide⟩
      refine own_by (fun t k => X23.laload hx (j := (7 : Int32)) (v := (.long (fn_f_a0_entries 7))) (by rw [e23]; exact Ar24.1) (State.isArrayOf_alike hZ.alike Ar24.2.1) Ar24.2.2 hin24 (H24 _ (Nat.lt_of_not_le fun y => hin24 (Or.inr y))) (g := (mkF m 45 #[.val (.ref a0), .val (.long q1), .second, .val (.int p2), .val (.int (0 : Int32)), .val (.int (-1 : Int32)), .val (.int (4 : Int32))] [(.int (7 : Int32)), (.ref f_a0_entries), (.ref a0)])) rfl rfl (hb hby d6_45) _ k) ?_
      show own_Go p e below _ (T23.setTop (mkF m 46 #[.val (.ref a0), .val (.long q1), .second, .val (.int p2), .val (.int (0 : Int32)), .val (.int (-1 : Int32)), .val (.int (4 : Int32))] [(.long (fn_f_a0_entries 7)), (.ref a0)]))
      refine own_by (fun _ k => XS.iloadN X23.here hx rfl (hb hby d6_46) rfl k) ?_
      show own_Go p e below _ (T23.setTop (mkF m 47 #[.val (.ref a0), .val (.long q1), .second, .val (.int p2), .val (.int (0 : Int32)), .val (.int (-1 : Int32)), .val (.int (4 : Int32))] [(.int p2), (.long (fn_f_a0_entries 7)), (.ref a0)]))
      obtain ⟨cq25, qq25, qq25'⟩ := P_E_a0.cell
      obtain ⟨_, _, ⟨T25, L25, k25, n25⟩, -, X25, ⟨Lc25, hQ25, l25, y25, z25⟩, st25⟩ := X23.privateBack hx (y := (⟨"com/example/plyward/plyward/search/TranspositionTable", "holdsAt", "(JI)Z"⟩ : MethodName)) hown (mvT hZ (hw _ (List.mem_of_getElem? (i := 48) rfl))) (mvT hZ (hw _ (List.mem_of_getElem? (i := 49) rfl))) (own_selPriv hZ (hw _ (List.mem_of_getElem? (i := 2) rfl)) (hw _ (List.mem_of_getElem? (i := 50) rfl)) (hw _ (List.mem_of_getElem? (i := 49) rfl)) (by decide)) (Cond.privateMethod_at (mvP hZ (hw _ (List.mem_of_getElem? (i := 50) rfl)) (args := #[]))) (mvT hZ (hw _ (List.mem_of_getElem? (i := 51) rfl))) (by decide) (backOf (W := 0) (rm7 l Z A0 hw [] a0 (fn_f_a0_entries 7) p2 f_a0_generation f_a0_settledSince h0 n0 Z0 P_F_a0_generation P_F_a0_settledSince) hZ (hw _ (List.mem_of_getElem? (i := 51) rfl)) (hw _ (List.mem_of_getElem? (i := 3) rfl)) (by decide) (by decide)) (g := (mkF m 47 #[.val (.ref a0), .val (.long q1), .second, .val (.int p2), .val (.int (0 : Int32)), .val (.int (-1 : Int32)), .val (.int (4 : Int32))] [(.int p2), (.long (fn_f_a0_entries 7)), (.ref a0)])) rfl (by rw [hml]; rfl) (Steps.refl _) (a := a0) (by rw [e23]; exact qq25) qq25' (argsL := [(.long (fn_f_a0_entries 7)), (.int p2)]) (rest := []) (lenOf pd_48 rfl) rfl (by show 2 * 0 + _ ≤ _; exact Nat.le_of_eq rfl) (hb hby d6_47) (fun _ _ => ⟨rfl, e23, (by decide : 0 + 0 ≤ _), (by decide : 0 + 0 ≤ _)⟩)
      dsimp only [Pt.U, Pt.locs, Pt.cells, Pt.slots] at X25 l25 y25 z25 st25 hQ25
      subst l25 y25 z25
      obtain ⟨o26, rfl, Nq25, eq25, hp27⟩ := hQ25
      have N25 := Fr.app N1 Nq25
      refine own_by (fun _ k => st25.trans k) ?_
      show own_Go p e below _ (T25.setTop (mkF m 50 #[.val (.ref a0), .val (.long q1), .second, .val (.int p2), .val (.int (0 : Int32)), .val (.int (-1 : Int32)), .val (.int (4 : Int32))] [(.int o26)]))
      by_cases c28 : o26 = (0 : Int32)
      · skip
        refine own_by (fun _ k => XS.ifYes X25.here hx rfl (pc0 := 50) (pc' := 60) rfl (hb hby d6_50) rfl ((if0 _ _).trans (teq c28).1) (by decide) (by decide) k) ?_
        show own_Go p e below _ (T25.setTop (mkF m 60 #[.val (.ref a0), .val (.long q1), .second, .val (.int p2), .val (.int (0 : Int32)), .val (.int (-1 : Int32)), .val (.int (4 : Int32))] []))
        refine own_by (fun _ k => XS.iinc X25.here hx rfl (hb hby d6_60) rfl (l' := #[.val (.ref a0), .val (.long q1), .second, .val (.int p2), .val (.int (0 : Int32)), .val (.int (-1 : Int32)), .val (.int (8 : Int32))]) rfl k) ?_
        show own_Go p e below _ (T25.setTop (mkF m 63 #[.val (.ref a0), .val (.long q1), .second, .val (.int p2), .val (.int (0 : Int32)), .val (.int (-1 : Int32)), .val (.int (8 : Int32))] []))
        refine own_by (fun _ k => XS.goto X25.here hx rfl (pc0 := 63) (pc' := 14) rfl (hb hby d6_63) (by decide) (by decide) k) ?_
        show own_Go p e below _ (T25.setTop (mkF m 14 #[.val (.ref a0), .val (.long q1), .second, .val (.int p2), .val (.int (0 : Int32)), .val (.int (-1 : Int32)), .val (.int (8 : Int32))] []))
        refine own_by (fun _ k => XS.iload X25.here hx rfl (hb hby d6_14) rfl k) ?_
        show own_Go p e below _ (T25.setTop (mkF m 16 #[.val (.ref a0), .val (.long q1), .second, .val (.int p2), .val (.int (0 : Int32)), .val (.int (-1 : Int32)), .val (.int (8 : Int32))] [(.int (8 : Int32))]))
        refine own_by (fun _ k => XS.iload X25.here hx rfl (hb hby d6_16) rfl k) ?_
        show own_Go p e below _ (T25.setTop (mkF m 18 #[.val (.ref a0), .val (.long q1), .second, .val (.int p2), .val (.int (0 : Int32)), .val (.int (-1 : Int32)), .val (.int (8 : Int32))] [(.int (0 : Int32)), (.int (8 : Int32))]))
        refine own_by (fun _ k => XS.bipush X25.here hx rfl (hb hby d6_18) k) ?_
        show own_Go p e below _ (T25.setTop (mkF m 20 #[.val (.ref a0), .val (.long q1), .second, .val (.int p2), .val (.int (0 : Int32)), .val (.int (-1 : Int32)), .val (.int (8 : Int32))] [(.int (8 : Int32)), (.int (0 : Int32)), (.int (8 : Int32))]))
        refine own_by (fun _ k => XS.iadd X25.here hx rfl (hb hby d6_20) rfl k) ?_
        show own_Go p e below _ (T25.setTop (mkF m 21 #[.val (.ref a0), .val (.long q1), .second, .val (.int p2), .val (.int (0 : Int32)), .val (.int (-1 : Int32)), .val (.int (8 : Int32))] [(.int (8 : Int32)), (.int (8 : Int32))]))
        refine own_by (fun _ k => XS.icmpYes X25.here hx rfl (pc0 := 21) (pc' := 66) rfl (hb hby d6_21) rfl (flt (by decide : ¬ ((8 : Int32) < (8 : Int32)))).2.1 (by decide) (by decide) k) ?_
        show own_Go p e below _ (T25.setTop (mkF m 66 #[.val (.ref a0), .val (.long q1), .second, .val (.int p2), .val (.int (0 : Int32)), .val (.int (-1 : Int32)), .val (.int (8 : Int32))] []))
        refine own_by (fun _ k => XS.iload X25.here hx rfl (hb hby d6_66) rfl k) ?_
        show own_Go p e below _ (T25.setTop (mkF m 68 #[.val (.ref a0), .val (.long q1), .second, .val (.int p2), .val (.int (0 : Int32)), .val (.int (-1 : Int32)), .val (.int (8 : Int32))] [(.int (-1 : Int32))]))
        exact own_retI X25 hx Bd.returns (hb hby d6_68) hlk eq25 ⟨_, rfl, N25, rfl, (ob_6_14 fn_f_a0_entries q1 p2 f_a0_generation f_a0_settledSince o26 c4 c22 hp27 c28)⟩ (by decide) (by decide)
      · skip
        refine own_by (fun _ k => XS.ifNo X25.here hx rfl (hb hby d6_50) rfl ((if0 _ _).trans (feq c28).1) k) ?_
        show own_Go p e below _ (T25.setTop (mkF m 53 #[.val (.ref a0), .val (.long q1), .second, .val (.int p2), .val (.int (0 : Int32)), .val (.int (-1 : Int32)), .val (.int (4 : Int32))] []))
        refine own_by (fun _ k => XS.iload X25.here hx rfl (hb hby d6_53) rfl k) ?_
        show own_Go p e below _ (T25.setTop (mkF m 55 #[.val (.ref a0), .val (.long q1), .second, .val (.int p2), .val (.int (0 : Int32)), .val (.int (-1 : Int32)), .val (.int (4 : Int32))] [(.int (4 : Int32))]))
        refine own_by (fun _ k => XS.istore X25.here hx rfl (hb hby d6_55) rfl (l' := #[.val (.ref a0), .val (.long q1), .second, .val (.int p2), .val (.int (0 : Int32)), .val (.int (4 : Int32)), .val (.int (4 : Int32))]) rfl k) ?_
        show own_Go p e below _ (T25.setTop (mkF m 57 #[.val (.ref a0), .val (.long q1), .second, .val (.int p2), .val (.int (0 : Int32)), .val (.int (4 : Int32)), .val (.int (4 : Int32))] []))
        refine own_by (fun _ k => XS.goto X25.here hx rfl (pc0 := 57) (pc' := 66) rfl (hb hby d6_57) (by decide) (by decide) k) ?_
        show own_Go p e below _ (T25.setTop (mkF m 66 #[.val (.ref a0), .val (.long q1), .second, .val (.int p2), .val (.int (0 : Int32)), .val (.int (4 : Int32)), .val (.int (4 : Int32))] []))
        refine own_by (fun _ k => XS.iload X25.here hx rfl (hb hby d6_66) rfl k) ?_
        show own_Go p e below _ (T25.setTop (mkF m 68 #[.val (.ref a0), .val (.long q1), .second, .val (.int p2), .val (.int (0 : Int32)), .val (.int (4 : Int32)), .val (.int (4 : Int32))] [(.int (4 : Int32))]))
        exact own_retI X25 hx Bd.returns (hb hby d6_68) hlk eq25 ⟨_, rfl, N25, rfl, (ob_6_15 fn_f_a0_entries q1 p2 f_a0_generation f_a0_settledSince o26 c4 c22 hp27 c28)⟩ (by decide) (by decide)
    · skip
      refine own_by (fun _ k => XS.ifYes X20.here hx rfl (pc0 := 33) (pc' := 60) rfl (hb hby d6_33) rfl ((if0 _ _).trans (feq (fun q => c22 ((lw_eq _ _).mp q))).2) (by decide) (by decide) k) ?_
      show own_Go p e below _ (T20.setTop (mkF m 60 #[.val (.ref a0), .val (.long q1), .second, .val (.int p2), .val (.int (0 : Int32)), .val (.int (-1 : Int32)), .val (.int (4 : Int32))] []))
      refine own_by (fun _ k => XS.iinc X20.here hx rfl (hb hby d6_60) rfl (l' := #[.val (.ref a0), .val (.long q1), .second, .val (.int p2), .val (.int (0 : Int32)), .val (.int (-1 : Int32)), .val (.int (8 : Int32))]) rfl k) ?_
      show own_Go p e below _ (T20.setTop (mkF m 63 #[.val (.ref a0), .val (.long q1), .second, .val (.int p2), .val (.int (0 : Int32)), .val (.int (-1 : Int32)), .val (.int (8 : Int32))] []))
      refine own_by (fun _ k => XS.goto X20.here hx rfl (pc0 := 63) (pc' := 14) rfl (hb hby d6_63) (by decide) (by decide) k) ?_
      show own_Go p e below _ (T20.setTop (mkF m 14 #[.val (.ref a0), .val (.long q1), .second, .val (.int p2), .val (.int (0 : Int32)), .val (.int (-1 : Int32)), .val (.int (8 : Int32))] []))
      refine own_by (fun _ k => XS.iload X20.here hx rfl (hb hby d6_14) rfl k) ?_
      show own_Go p e below _ (T20.setTop (mkF m 16 #[.val (.ref a0), .val (.long q1), .second, .val (.int p2), .val (.int (0 : Int32)), .val (.int (-1 : Int32)), .val (.int (8 : Int32))] [(.int (8 : Int32))]))
      refine own_by (fun _ k => XS.iload X20.here hx rfl (hb hby d6_16) rfl k) ?_
      show own_Go p e below _ (T20.setTop (mkF m 18 #[.val (.ref a0), .val (.long q1), .second, .val (.int p2), .val (.int (0 : Int32)), .val (.int (-1 : Int32)), .val (.int (8 : Int32))] [(.int (0 : Int32)), (.int (8 : Int32))]))
      refine own_by (fun _ k => XS.bipush X20.here hx rfl (hb hby d6_18) k) ?_
      show own_Go p e below _ (T20.setTop (mkF m 20 #[.val (.ref a0), .val (.long q1), .second, .val (.int p2), .val (.int (0 : Int32)), .val (.int (-1 : Int32)), .val (.int (8 : Int32))] [(.int (8 : Int32)), (.int (0 : Int32)), (.int (8 : Int32))]))
      refine own_by (fun _ k => XS.iadd X20.here hx rfl (hb hby d6_20) rfl k) ?_
      show own_Go p e below _ (T20.setTop (mkF m 21 #[.val (.ref a0), .val (.long q1), .second, .val (.int p2), .val (.int (0 : Int32)), .val (.int (-1 : Int32)), .val (.int (8 : Int32))] [(.int (8 : Int32)), (.int (8 : Int32))]))
      refine own_by (fun _ k => XS.icmpYes X20.here hx rfl (pc0 := 21) (pc' := 66) rfl (hb hby d6_21) rfl (flt (by decide : ¬ ((8 : Int32) < (8 : Int32)))).2.1 (by decide) (by decide) k) ?_
      show own_Go p e below _ (T20.setTop (mkF m 66 #[.val (.ref a0), .val (.long q1), .second, .val (.int p2), .val (.int (0 : Int32)), .val (.int (-1 : Int32)), .val (.int (8 : Int32))] []))
      refine own_by (fun _ k => XS.iload X20.here hx rfl (hb hby d6_66) rfl k) ?_
      show own_Go p e below _ (T20.setTop (mkF m 68 #[.val (.ref a0), .val (.long q1), .second, .val (.int p2), .val (.int (0 : Int32)), .val (.int (-1 : Int32)), .val (.int (8 : Int32))] [(.int (-1 : Int32))]))
      exact own_retI X20 hx Bd.returns (hb hby d6_68) hlk e20 ⟨_, rfl, N1, rfl, (ob_6_16 fn_f_a0_entries q1 p2 f_a0_generation f_a0_settledSince c4 c22)⟩ (by decide) (by decide)
theorem pd_35 : parseMethodDescriptor "(JI)I" = some ⟨[.long, .int], some .int⟩ := by decide +kernel
theorem d4_0 : decode prog_71_method_10_code 0 = .ok (.aload_n 0, 1) := by decide +kernel
theorem d4_1 : decode prog_71_method_10_code 1 = .ok (.lload_n 1, 1) := by decide +kernel
theorem d4_2 : decode prog_71_method_10_code 2 = .ok (.invokevirtual 48, 3) := by decide +kernel
theorem d4_5 : decode prog_71_method_10_code 5 = .ok (.istore 9, 2) := by decide +kernel
theorem d4_7 : decode prog_71_method_10_code 7 = .ok (.iload_n 3, 1) := by decide +kernel
theorem d4_8 : decode prog_71_method_10_code 8 = .ok (.i2l, 1) := by decide +kernel
theorem d4_9 : decode prog_71_method_10_code 9 = .ok (.bipush 32, 2) := by decide +kernel
theorem d4_11 : decode prog_71_method_10_code 11 = .ok (.lshl, 1) := by decide +kernel
theorem d4_12 : decode prog_71_method_10_code 12 = .ok (.iload 8, 2) := by decide +kernel
theorem d4_14 : decode prog_71_method_10_code 14 = .ok (.ifCond .eq 9, 3) := by decide +kernel
theorem d4_17 : decode prog_71_method_10_code 17 = .ok (.ldc2_w 62, 3) := by decide +kernel
theorem d4_20 : decode prog_71_method_10_code 20 = .ok (.goto 4, 3) := by decide +kernel
theorem d4_23 : decode prog_71_method_10_code 23 = .ok (.lconst 0, 1) := by decide +kernel
theorem d4_24 : decode prog_71_method_10_code 24 = .ok (.lor, 1) := by decide +kernel
theorem d4_25 : decode prog_71_method_10_code 25 = .ok (.aload_n 0, 1) := by decide +kernel
theorem d4_26 : decode prog_71_method_10_code 26 = .ok (.getfield 11, 3) := by decide +kernel
theorem d4_29 : decode prog_71_method_10_code 29 = .ok (.lor, 1) := by decide +kernel
theorem d4_30 : decode prog_71_method_10_code 30 = .ok (.lstore 10, 2) := by decide +kernel
theorem d4_32 : decode prog_71_method_10_code 32 = .ok (.aload_n 0, 1) := by decide +kernel
theorem d4_33 : decode prog_71_method_10_code 33 = .ok (.lload_n 1, 1) := by decide +kernel
theorem d4_34 : decode prog_71_method_10_code 34 = .ok (.iload_n 3, 1) := by decide +kernel
theorem d4_35 : decode prog_71_method_10_code 35 = .ok (.invokevirtual 64, 3) := by decide +kernel
theorem d4_38 : decode prog_71_method_10_code 38 = .ok (.istore 12, 2) := by decide +kernel
theorem d4_40 : decode prog_71_method_10_code 40 = .ok (.iload 12, 2) := by decide +kernel
theorem d4_42 : decode prog_71_method_10_code 42 = .ok (.ifCond .lt 8, 3) := by decide +kernel
theorem d4_45 : decode prog_71_method_10_code 45 = .ok (.iload 12, 2) := by decide +kernel
theorem d4_47 : decode prog_71_method_10_code 47 = .ok (.goto 10, 3) := by decide +kernel
theorem d4_50 : decode prog_71_method_10_code 50 = .ok (.iload 9, 2) := by decide +kernel
theorem d4_52 : decode prog_71_method_10_code 52 = .ok (.bipush 8, 2) := by decide +kernel
theorem d4_54 : decode prog_71_method_10_code 54 = .ok (.iadd, 1) := by decide +kernel
theorem d4_55 : decode prog_71_method_10_code 55 = .ok (.iconst 4, 1) := by decide +kernel
theorem d4_56 : decode prog_71_method_10_code 56 = .ok (.isub, 1) := by decide +kernel
theorem d4_57 : decode prog_71_method_10_code 57 = .ok (.istore 13, 2) := by decide +kernel
theorem d4_59 : decode prog_71_method_10_code 59 = .ok (.aload_n 0, 1) := by decide +kernel
theorem d4_60 : decode prog_71_method_10_code 60 = .ok (.getfield 27, 3) := by decide +kernel
theorem d4_63 : decode prog_71_method_10_code 63 = .ok (.iload 9, 2) := by decide +kernel
theorem d4_65 : decode prog_71_method_10_code 65 = .ok (.aload_n 0, 1) := by decide +kernel
theorem d4_66 : decode prog_71_method_10_code 66 = .ok (.getfield 27, 3) := by decide +kernel
theorem d4_69 : decode prog_71_method_10_code 69 = .ok (.iload 9, 2) := by decide +kernel
theorem d4_71 : decode prog_71_method_10_code 71 = .ok (.iconst 4, 1) := by decide +kernel
theorem d4_72 : decode prog_71_method_10_code 72 = .ok (.iadd, 1) := by decide +kernel
theorem d4_73 : decode prog_71_method_10_code 73 = .ok (.iload 13, 2) := by decide +kernel
theorem d4_75 : decode prog_71_method_10_code 75 = .ok (.iload 9, 2) := by decide +kernel
theorem d4_77 : decode prog_71_method_10_code 77 = .ok (.isub, 1) := by decide +kernel
theorem d4_78 : decode prog_71_method_10_code 78 = .ok (.invokestatic 68, 3) := by decide +kernel
theorem d4_81 : decode prog_71_method_10_code 81 = .ok (.aload_n 0, 1) := by decide +kernel
theorem d4_82 : decode prog_71_method_10_code 82 = .ok (.getfield 27, 3) := by decide +kernel
theorem d4_85 : decode prog_71_method_10_code 85 = .ok (.iload 9, 2) := by decide +kernel
theorem d4_87 : decode prog_71_method_10_code 87 = .ok (.lload_n 1, 1) := by decide +kernel
theorem d4_88 : decode prog_71_method_10_code 88 = .ok (.lastore, 1) := by decide +kernel
theorem d4_89 : decode prog_71_method_10_code 89 = .ok (.aload_n 0, 1) := by decide +kernel
theorem d4_90 : decode prog_71_method_10_code 90 = .ok (.getfield 27, 3) := by decide +kernel
theorem d4_93 : decode prog_71_method_10_code 93 = .ok (.iload 9, 2) := by decide +kernel
theorem d4_95 : decode prog_71_method_10_code 95 = .ok (.iconst 1, 1) := by decide +kernel
theorem d4_96 : decode prog_71_method_10_code 96 = .ok (.iadd, 1) := by decide +kernel
theorem d4_97 : decode prog_71_method_10_code 97 = .ok (.dload 4, 2) := by decide +kernel
theorem d4_99 : decode prog_71_method_10_code 99 = .ok (.invokestatic 74, 3) := by decide +kernel
theorem d4_102 : decode prog_71_method_10_code 102 = .ok (.lastore, 1) := by decide +kernel
theorem d4_103 : decode prog_71_method_10_code 103 = .ok (.aload_n 0, 1) := by decide +kernel
theorem d4_104 : decode prog_71_method_10_code 104 = .ok (.getfield 27, 3) := by decide +kernel
theorem d4_107 : decode prog_71_method_10_code 107 = .ok (.iload 9, 2) := by decide +kernel
theorem d4_109 : decode prog_71_method_10_code 109 = .ok (.iconst 2, 1) := by decide +kernel
theorem d4_110 : decode prog_71_method_10_code 110 = .ok (.iadd, 1) := by decide +kernel
theorem d4_111 : decode prog_71_method_10_code 111 = .ok (.dload 6, 2) := by decide +kernel
theorem d4_113 : decode prog_71_method_10_code 113 = .ok (.invokestatic 74, 3) := by decide +kernel
theorem d4_116 : decode prog_71_method_10_code 116 = .ok (.lastore, 1) := by decide +kernel
theorem d4_117 : decode prog_71_method_10_code 117 = .ok (.aload_n 0, 1) := by decide +kernel
theorem d4_118 : decode prog_71_method_10_code 118 = .ok (.getfield 27, 3) := by decide +kernel
theorem d4_121 : decode prog_71_method_10_code 121 = .ok (.iload 9, 2) := by decide +kernel
theorem d4_123 : decode prog_71_method_10_code 123 = .ok (.iconst 3, 1) := by decide +kernel
theorem d4_124 : decode prog_71_method_10_code 124 = .ok (.iadd, 1) := by decide +kernel
theorem d4_125 : decode prog_71_method_10_code 125 = .ok (.lload 10, 2) := by decide +kernel
theorem d4_127 : decode prog_71_method_10_code 127 = .ok (.lastore, 1) := by decide +kernel
theorem d4_128 : decode prog_71_method_10_code 128 = .ok (.return_, 1) := by decide +kernel
theorem pn_4 : plainName "com/example/plyward/plyward/search/TranspositionTable" = true := by first | (simp [plainName, overriddenIn]; done) | decide +kernel
theorem ef_4 (m : MethodId) (a0 : Addr) (q1 : Int64) (p2 : Int32) (d3 : UInt64) (d4 : UInt64) (p5 : Int32) : entryFrame m #[(.ref a0), (.long q1), (.int p2), (.double d3), (.double d4), (.int p5)] 14 = mkF m 0 #[.val (.ref a0), .val (.long q1), .second, .val (.int p2), .val (.double d3), .second, .val (.double d4), .second, .val (.int p5), .unset, .unset, .unset, .unset, .unset] [] := by first | (simp [entryFrame, mkF, argsToLocals, Value.category]; done) | rfl
theorem ob_4_17 (fn_f_a0_entries : Nat → Int64) (q1 : Int64) (p2 : Int32) (p5 : Int32) (f_a0_generation : Int64) (f_a0_settledSince : Int64) (y9 : Int64) (v12 : Int64) (o14 : Int32) (hj10 : ((p5 = (0 : Int32)) ∧ y9 = (0 : Int64)) ∨ ((¬ (p5 = (0 : Int32))) ∧ y9 = (2147483648 : Int64))) (hv12 : ((((p2.toInt64) <<< ((32 : Int32) &&& 0x3f).toInt64) ||| y9) ||| f_a0_generation) = v12) (hp15 : own_find fn_f_a0_entries q1 p2 f_a0_generation f_a0_settledSince o14) : o14 = (-1 : Int32) ∨ o14 = (0 : Int32) ∨ o14 = (4 : Int32) := by
  simp only [own_find] at *
  grind
def Q4 (Z : State) (f_a0_entries : Addr) (k_f_a0_entries : ClassId) (fn_f_a0_entries : Nat → Int64) (a0 : Addr) (q1 : Int64) (p2 : Int32) (d3 : UInt64) (d4 : UInt64) (p5 : Int32) (f_a0_generation : Int64) (f_a0_settledSince : Int64) (h0 : Heap) (n0 : Nat) (v : Option Value) (h : Heap) (L : List Loc) : Prop := ∃ (gg5001 : Nat → Int64), v = none ∧ Fr n0 L ∧ Keep h0 h [f_a0_entries] ∧ own_Arf Z h f_a0_entries k_f_a0_entries .long (8 : Int32) (fun i => .long (gg5001 i)) ∧ ((∃ (y9 : Int64) (v12 : Int64), (((p5 = (0 : Int32)) ∧ y9 = (0 : Int64)) ∨ ((¬ (p5 = (0 : Int32))) ∧ y9 = (2147483648 : Int64))) ∧ (((((p2.toInt64) <<< ((32 : Int32) &&& 0x3f).toInt64) ||| y9) ||| f_a0_generation) = v12) ∧ (own_find fn_f_a0_entries q1 p2 f_a0_generation f_a0_settledSince (-1 : Int32)) ∧ gg5001 = (own_upd (own_upd (own_upd (own_upd (own_cp fn_f_a0_entries 0 fn_f_a0_entries 4 4) 0 q1) 1 (d3.toInt64)) 2 (d4.toInt64)) 3 v12)) ∨ (∃ (y9 : Int64) (v12 : Int64), (((p5 = (0 : Int32)) ∧ y9 = (0 : Int64)) ∨ ((¬ (p5 = (0 : Int32))) ∧ y9 = (2147483648 : Int64))) ∧ (((((p2.toInt64) <<< ((32 : Int32) &&& 0x3f).toInt64) ||| y9) ||| f_a0_generation) = v12) ∧ (own_find fn_f_a0_entries q1 p2 f_a0_generation f_a0_settledSince (0 : Int32)) ∧ gg5001 = (own_upd (own_upd (own_upd (own_upd (own_cp fn_f_a0_entries 0 fn_f_a0_entries 4 0) 0 q1) 1 (d3.toInt64)) 2 (d4.toInt64)) 3 v12)) ∨ (∃ (y9 : Int64) (v12 : Int64), (((p5 = (0 : Int32)) ∧ y9 = (0 : Int64)) ∨ ((¬ (p5 = (0 : Int32))) ∧ y9 = (2147483648 : Int64))) ∧ (((((p2.toInt64) <<< ((32 : Int32) &&& 0x3f).toInt64) ||| y9) ||| f_a0_generation) = v12) ∧ (own_find fn_f_a0_entries q1 p2 f_a0_generation f_a0_settledSince (4 : Int32)) ∧ gg5001 = (own_upd (own_upd (own_upd (own_upd (own_cp fn_f_a0_entries 0 fn_f_a0_entries 4 4) 0 q1) 1 (d3.toInt64)) 2 (d4.toInt64)) 3 v12)))
set_option maxRecDepth 65536 in
set_option maxHeartbeats 40000000 in
theorem rm4 (l : Launch) (Z : State) (A0 : Array Value) (hw : ∀ d ∈ tables_1, d.before A0 Z = true) (ws : List Jvm.Cond) (f_a0_entries : Addr) (k_f_a0_entries : ClassId) (fn_f_a0_entries : Nat → Int64) (a0 : Addr) (q1 : Int64) (p2 : Int32) (d3 : UInt64) (d4 : UInt64) (p5 : Int32) (f_a0_generation : Int64) (f_a0_settledSince : Int64) (h0 : Heap) (n0 : Nat) (Z0 : n0 ≤ h0.size) (P_F_a0_entries : Fld Z h0 a0 "com/example/plyward/plyward/search/TranspositionTable" "entries" "[J" (.ref f_a0_entries)) (P_V_f_a0_entries : own_Arf Z h0 f_a0_entries k_f_a0_entries .long (8 : Int32) (fun i => .long (fn_f_a0_entries i))) (P_F_a0_shift : Fld Z h0 a0 "com/example/plyward/plyward/search/TranspositionTable" "shift" "I" (.int (63 : Int32))) (P_E_a0 : Exa Z h0 a0 "com/example/plyward/plyward/search/TranspositionTable") (P_F_a0_generation : Fld Z h0 a0 "com/example/plyward/plyward/search/TranspositionTable" "generation" "J" (.long f_a0_generation)) (P_F_a0_settledSince : Fld Z h0 a0 "com/example/plyward/plyward/search/TranspositionTable" "settledSince" "J" (.long f_a0_settledSince)) (g_f_a0_entries : n0 ≤ f_a0_entries) :
    MetFree l (⟨"com/example/plyward/plyward/search/TranspositionTable", "store", "(JIDDZ)V"⟩ : MethodName) (head1 (Jvm.Cond.code (⟨"com/example/plyward/plyward/search/TranspositionTable", "store", "(JIDDZ)V"⟩ : MethodName) prog_71_method_10_code 14 none :: ws) ({ frames := 2, cells := 0, slots := 0, locals := 37 } : Room)) (fun a U => a = #[(.ref a0), (.long q1), (.int p2), (.double d3), (.double d4), (.int p5)] ∧ Z.Warmed39 U.vm ∧ U.heap = h0) (fun _ _ _ _ _ => True) (fun _ U o U' => ∃ v L, o = .returned v ∧ Q4 Z f_a0_entries k_f_a0_entries fn_f_a0_entries a0 q1 p2 d3 d4 p5 f_a0_generation f_a0_settledSince h0 n0 v U'.heap L ∧ FrameEnd U o U' L 0 0) := by
  refine MetFree.of_bodySF (plainFor_of_name pn_4) hisR ?_
  intro p e s m args below meth c s₁ Bd hml0 hP hK
  obtain ⟨rfl, hZ, hh⟩ := hP
  have hx := Bd.exec
  have hby := Bd.bytes
  have hml : c.maxLocals = 14 := hml0
  have hlk : meth.locks = false := Bd.notSynchronized
  have hown : s.vm.findClass "com/example/plyward/plyward/search/TranspositionTable" = some m.cls := findClass_of_methodNamed Bd.named
  have hnm := (name_of_methodNamed Bd.named Bd.method).1
  have X0 : Stand p l e ({ frames := 2, cells := 0, slots := 0, locals := 37 } : Room) s m #[(.ref a0), (.long q1), (.int p2), (.double d3), (.double d4), (.int p5)] below meth c s₁ [] 0 0 := Stand.of_body Bd
  have e0 : s₁.heap = h0 := by rw [← hh, Bd.state]; rfl
  have N0 := Fr.nil n0
  show own_Go p e below (own_Fin s 0 0 (Q4 Z f_a0_entries k_f_a0_entries fn_f_a0_entries a0 q1 p2 d3 d4 p5 f_a0_generation f_a0_settledSince h0 n0)) _
  refine own_by (fun t k => castTop (ef_4 m a0 q1 p2 d3 d4 p5) k) ?_
  show own_Go p e below _ (s₁.setTop (mkF m 0 #[.val (.ref a0), .val (.long q1), .second, .val (.int p2), .val (.double d3), .second, .val (.double d4), .second, .val (.int p5), .unset, .unset, .unset, .unset, .unset] []))
  refine own_by (fun _ k => XS.aloadN X0.here hx rfl (hb hby d4_0) rfl rfl k) ?_
  show own_Go p e below _ (s₁.setTop (mkF m 1 #[.val (.ref a0), .val (.long q1), .second, .val (.int p2), .val (.double d3), .second, .val (.double d4), .second, .val (.int p5), .unset, .unset, .unset, .unset, .unset] [(.ref a0)]))
  refine own_by (fun _ k => XS.lloadN X0.here hx rfl (hb hby d4_1) rfl k) ?_
  show own_Go p e below _ (s₁.setTop (mkF m 2 #[.val (.ref a0), .val (.long q1), .second, .val (.int p2), .val (.double d3), .second, .val (.double d4), .second, .val (.int p5), .unset, .unset, .unset, .unset, .unset] [(.long q1), (.ref a0)]))
  obtain ⟨cq1, qq1, qq1'⟩ := P_E_a0.cell
  obtain ⟨_, _, ⟨T1, L1, k1, n1⟩, -, X1, ⟨Lc1, hQ1, l1, y1, z1⟩, st1⟩ := X0.privateBack hx (y := (⟨"com/example/plyward/plyward/search/TranspositionTable", "bucket", "(J)I"⟩ : MethodName)) hown (mvT hZ (hw _ (List.mem_of_getElem? (i := 30) rfl))) (mvT hZ (hw _ (List.mem_of_getElem? (i := 31) rfl))) (own_selPriv hZ (hw _ (List.mem_of_getElem? (i := 2) rfl)) (hw _ (List.mem_of_getElem? (i := 32) rfl)) (hw _ (List.mem_of_getElem? (i := 31) rfl)) (by decide)) (Cond.privateMethod_at (mvP hZ (hw _ (List.mem_of_getElem? (i := 32) rfl)) (args := #[]))) (mvT hZ (hw _ (List.mem_of_getElem? (i := 33) rfl))) (by decide) (backOf (W := 0) (rm5 l Z A0 hw [] a0 q1 h0 n0 Z0 P_F_a0_shift) hZ (hw _ (List.mem_of_getElem? (i := 33) rfl)) (hw _ (List.mem_of_getElem? (i := 3) rfl)) (by decide) (by decide)) (g := (mkF m 2 #[.val (.ref a0), .val (.long q1), .second, .val (.int p2), .val (.double d3), .second, .val (.double d4), .second, .val (.int p5), .unset, .unset, .unset, .unset, .unset] [(.long q1), (.ref a0)])) rfl (by rw [hml]; rfl) (Steps.refl _) (a := a0) (by rw [e0]; exact qq1) qq1' (argsL := [(.long q1)]) (rest := []) (lenOf pd_30 rfl) rfl (by show 2 * 0 + _ ≤ _; exact Nat.le_of_eq rfl) (hb hby d4_2) (fun _ _ => ⟨rfl, e0, (by decide : 0 + 0 ≤ _), (by decide : 0 + 0 ≤ _)⟩)
  dsimp only [Pt.U, Pt.locs, Pt.cells, Pt.slots] at X1 l1 y1 z1 st1 hQ1
  subst l1 y1 z1
  obtain ⟨rfl, Nq1, eq1⟩ := hQ1
  have N1 := Fr.app N0 Nq1
  refine own_by (fun _ k => st1.trans k) ?_
  show own_Go p e below _ (T1.setTop (mkF m 5 #[.val (.ref a0), .val (.long q1), .second, .val (.int p2), .val (.double d3), .second, .val (.double d4), .second, .val (.int p5), .unset, .unset, .unset, .unset, .unset] [(.int (0 : Int32))]))
  refine own_by (fun _ k => XS.istore X1.here hx rfl (hb hby d4_5) rfl (l' := #[.val (.ref a0), .val (.long q1), .second, .val (.int p2), .val (.double d3), .second, .val (.double d4), .second, .val (.int p5), .val (.int (0 : Int32)), .unset, .unset, .unset, .unset]) rfl k) ?_
  show own_Go p e below _ (T1.setTop (mkF m 7 #[.val (.ref a0), .val (.long q1), .second, .val (.int p2), .val (.double d3), .second, .val (.double d4), .second, .val (.int p5), .val (.int (0 : Int32)), .unset, .unset, .unset, .unset] []))
  refine own_by (fun _ k => XS.iloadN X1.here hx rfl (hb hby d4_7) rfl k) ?_
  show own_Go p e below _ (T1.setTop (mkF m 8 #[.val (.ref a0), .val (.long q1), .second, .val (.int p2), .val (.double d3), .second, .val (.double d4), .second, .val (.int p5), .val (.int (0 : Int32)), .unset, .unset, .unset, .unset] [(.int p2)]))
  refine own_by (fun _ k => XS.i2l X1.here hx rfl (hb hby d4_8) rfl k) ?_
  show own_Go p e below _ (T1.setTop (mkF m 9 #[.val (.ref a0), .val (.long q1), .second, .val (.int p2), .val (.double d3), .second, .val (.double d4), .second, .val (.int p5), .val (.int (0 : Int32)), .unset, .unset, .unset, .unset] [(.long (p2.toInt64))]))
  refine own_by (fun _ k => XS.bipush X1.here hx rfl (hb hby d4_9) k) ?_
  show own_Go p e below _ (T1.setTop (mkF m 11 #[.val (.ref a0), .val (.long q1), .second, .val (.int p2), .val (.double d3), .second, .val (.double d4), .second, .val (.int p5), .val (.int (0 : Int32)), .unset, .unset, .unset, .unset] [(.int (32 : Int32)), (.long (p2.toInt64))]))
  refine own_by (fun _ k => XS.lshl X1.here hx rfl (hb hby d4_11) rfl k) ?_
  show own_Go p e below _ (T1.setTop (mkF m 12 #[.val (.ref a0), .val (.long q1), .second, .val (.int p2), .val (.double d3), .second, .val (.double d4), .second, .val (.int p5), .val (.int (0 : Int32)), .unset, .unset, .unset, .unset] [(.long ((p2.toInt64) <<< ((32 : Int32) &&& 0x3f).toInt64))]))
  refine own_by (fun _ k => XS.iload X1.here hx rfl (hb hby d4_12) rfl k) ?_
  show own_Go p e below _ (T1.setTop (mkF m 14 #[.val (.ref a0), .val (.long q1), .second, .val (.int p2), .val (.double d3), .second, .val (.double d4), .second, .val (.int p5), .val (.int (0 : Int32)), .unset, .unset, .unset, .unset] [(.int p5), (.long ((p2.toInt64) <<< ((32 : Int32) &&& 0x3f).toInt64))]))
  have J3 : ∀ (T4 : State) (L5 : List Loc) (y9 : Int64), Stand p l e ({ frames := 2, cells := 0, slots := 0, locals := 37 } : Room) s m #[(.ref a0), (.long q1), (.int p2), (.double d3), (.double d4), (.int p5)] below meth c T4 L5 0 0 → T4.heap = h0 → Fr n0 L5 → (((p5 = (0 : Int32)) ∧ y9 = (0 : Int64)) ∨ ((¬ (p5 = (0 : Int32))) ∧ y9 = (2147483648 : Int64))) → own_Go p e below (own_Fin s 0 0 (Q4 Z f_a0_entries k_f_a0_entries fn_f_a0_entries a0 q1 p2 d3 d4 p5 f_a0_generation f_a0_settledSince h0 n0)) (T4.setTop (mkF m 24 #[.val (.ref a0), .val (.long q1), .second, .val (.int p2), .val (.double d3), .second, .val (.double d4), .second, .val (.int p5), .val (.int (0 : Int32)), .unset, .unset, .unset, .unset] [(.long y9), (.long ((p2.toInt64) <<< ((32 : Int32) &&& 0x3f).toInt64))])) := by
    intro T4 L5 y9 X6 e7 N8 hj10
    refine own_by (fun _ k => XS.lor X6.here hx rfl (hb hby d4_24) rfl k) ?_
    show own_Go p e below _ (T4.setTop (mkF m 25 #[.val (.ref a0), .val (.long q1), .second, .val (.int p2), .val (.double d3), .second, .val (.double d4), .second, .val (.int p5), .val (.int (0 : Int32)), .unset, .unset, .unset, .unset] [(.long (((p2.toInt64) <<< ((32 : Int32) &&& 0x3f).toInt64) ||| y9))]))
    refine own_by (fun _ k => XS.aloadN X6.here hx rfl (hb hby d4_25) rfl rfl k) ?_
    show own_Go p e below _ (T4.setTop (mkF m 26 #[.val (.ref a0), .val (.long q1), .second, .val (.int p2), .val (.double d3), .second, .val (.double d4), .second, .val (.int p5), .val (.int (0 : Int32)), .unset, .unset, .unset, .unset] [(.ref a0), (.long (((p2.toInt64) <<< ((32 : Int32) &&& 0x3f).toInt64) ||| y9))]))
    obtain ⟨T11, X11, e11, st11⟩ := getF X6 hx hZ hown (host := "") (Or.inl (hw _ (List.mem_of_getElem? (i := 10) rfl))) Via.refl e7 P_F_a0_generation (g := (mkF m 26 #[.val (.ref a0), .val (.long q1), .second, .val (.int p2), .val (.double d3), .second, .val (.double d4), .second, .val (.int p5), .val (.int (0 : Int32)), .unset, .unset, .unset, .unset] [(.ref a0), (.long (((p2.toInt64) <<< ((32 : Int32) &&& 0x3f).toInt64) ||| y9))])) rfl rfl (hb hby d4_26)
    refine own_by st11 ?_
    show own_Go p e below _ (T11.setTop (mkF m 29 #[.val (.ref a0), .val (.long q1), .second, .val (.int p2), .val (.double d3), .second, .val (.double d4), .second, .val (.int p5), .val (.int (0 : Int32)), .unset, .unset, .unset, .unset] [(.long f_a0_generation), (.long (((p2.toInt64) <<< ((32 : Int32) &&& 0x3f).toInt64) ||| y9))]))
    refine own_by (fun _ k => XS.lor X11.here hx rfl (hb hby d4_29) rfl k) ?_
    show own_Go p e below _ (T11.setTop (mkF m 30 #[.val (.ref a0), .val (.long q1), .second, .val (.int p2), .val (.double d3), .second, .val (.double d4), .second, .val (.int p5), .val (.int (0 : Int32)), .unset, .unset, .unset, .unset] [(.long ((((p2.toInt64) <<< ((32 : Int32) &&& 0x3f).toInt64) ||| y9) ||| f_a0_generation))]))
    refine own_by (fun _ k => XS.lstore X11.here hx rfl (hb hby d4_30) rfl (l' := #[.val (.ref a0), .val (.long q1), .second, .val (.int p2), .val (.double d3), .second, .val (.double d4), .second, .val (.int p5), .val (.int (0 : Int32)), .val (.long ((((p2.toInt64) <<< ((32 : Int32) &&& 0x3f).toInt64) ||| y9) ||| f_a0_generation)), .second, .unset, .unset]) rfl k) ?_
    show own_Go p e below _ (T11.setTop (mkF m 32 #[.val (.ref a0), .val (.long q1), .second, .val (.int p2), .val (.double d3), .second, .val (.double d4), .second, .val (.int p5), .val (.int (0 : Int32)), .val (.long ((((p2.toInt64) <<< ((32 : Int32) &&& 0x3f).toInt64) ||| y9) ||| f_a0_generation)), .second, .unset, .unset] []))
    generalize hv12 : ((((p2.toInt64) <<< ((32 : Int32) &&& 0x3f).toInt64) ||| y9) ||| f_a0_generation) = v12
    show own_Go p e below _ (T11.setTop (mkF m 32 #[.val (.ref a0), .val (.long q1), .second, .val (.int p2), .val (.double d3), .second, .val (.double d4), .second, .val (.int p5), .val (.int (0 : Int32)), .val (.long v12), .second, .unset, .unset] []))
    refine own_by (fun _ k => XS.aloadN X11.here hx rfl (hb hby d4_32) rfl rfl k) ?_
    show own_Go p e below _ (T11.setTop (mkF m 33 #[.val (.ref a0), .val (.long q1), .second, .val (.int p2), .val (.double d3), .second, .val (.double d4), .second, .val (.int p5), .val (.int (0 : Int32)), .val (.long v12), .second, .unset, .unset] [(.ref a0)]))
    refine own_by (fun _ k => XS.lloadN X11.here hx rfl (hb hby d4_33) rfl k) ?_
    show own_Go p e below _ (T11.setTop (mkF m 34 #[.val (.ref a0), .val (.long q1), .second, .val (.int p2), .val (.double d3), .second, .val (.double d4), .second, .val (.int p5), .val (.int (0 : Int32)), .val (.long v12), .second, .unset, .unset] [(.long q1), (.ref a0)]))
    refine own_by (fun _ k => XS.iloadN X11.here hx rfl (hb hby d4_34) rfl k) ?_
    show own_Go p e below _ (T11.setTop (mkF m 35 #[.val (.ref a0), .val (.long q1), .second, .val (.int p2), .val (.double d3), .second, .val (.double d4), .second, .val (.int p5), .val (.int (0 : Int32)), .val (.long v12), .second, .unset, .unset] [(.int p2), (.long q1), (.ref a0)]))
    obtain ⟨cq13, kq13, qq13a, qq13b, qq13c⟩ := isOf hZ e11 P_E_a0
    obtain ⟨_, _, ⟨T13, L13, k13, n13⟩, -, X13, ⟨Lc13, hQ13, l13, y13, z13⟩, st13⟩ := X11.virtualBack hx (y := (⟨"com/example/plyward/plyward/search/TranspositionTable", "find", "(JI)I"⟩ : MethodName)) (z := (⟨"com/example/plyward/plyward/search/TranspositionTable", "find", "(JI)I"⟩ : MethodName)) hown (mvT hZ (hw _ (List.mem_of_getElem? (i := 35) rfl))) (mvT hZ (hw _ (List.mem_of_getElem? (i := 36) rfl))) (notFace_of_selects (args := #[]) (mvT hZ (hw _ (List.mem_of_getElem? (i := 38) rfl)))) (mvT hZ (hw _ (List.mem_of_getElem? (i := 38) rfl))) (mvT hZ (hw _ (List.mem_of_getElem? (i := 37) rfl))) (by decide) (backOf (W := 0) (rm6 l Z A0 hw [] f_a0_entries k_f_a0_entries fn_f_a0_entries a0 q1 p2 f_a0_generation f_a0_settledSince h0 n0 Z0 P_F_a0_entries P_V_f_a0_entries P_F_a0_shift P_E_a0 P_F_a0_generation P_F_a0_settledSince) hZ (hw _ (List.mem_of_getElem? (i := 39) rfl)) (hw _ (List.mem_of_getElem? (i := 3) rfl)) (by decide) (by decide)) qq13a qq13c (g := (mkF m 35 #[.val (.ref a0), .val (.long q1), .second, .val (.int p2), .val (.double d3), .second, .val (.double d4), .second, .val (.int p5), .val (.int (0 : Int32)), .val (.long v12), .second, .unset, .unset] [(.int p2), (.long q1), (.ref a0)])) rfl (by rw [hml]; rfl) (Steps.refl _) (argsL := [(.long q1), (.int p2)]) (rest := []) (lenOf pd_35 rfl) rfl (by show 2 * 0 + _ ≤ _; exact Nat.le_of_eq rfl) (hb hby d4_35) (fun _ _ => ⟨rfl, e11, (by decide : 0 + 0 ≤ _), (by decide : 0 + 0 ≤ _)⟩)
    dsimp only [Pt.U, Pt.locs, Pt.cells, Pt.slots] at X13 l13 y13 z13 st13 hQ13
    subst l13 y13 z13
    obtain ⟨o14, rfl, Nq13, eq13, hp15⟩ := hQ13
    have N13 := Fr.app N8 Nq13
    refine own_by (fun _ k => st13.trans k) ?_
    show own_Go p e below _ (T13.setTop (mkF m 38 #[.val (.ref a0), .val (.long q1), .second, .val (.int p2), .val (.double d3), .second, .val (.double d4), .second, .val (.int p5), .val (.int (0 : Int32)), .val (.long v12), .second, .unset, .unset] [(.int o14)]))
    refine own_by (fun _ k => XS.istore X13.here hx rfl (hb hby d4_38) rfl (l' := #[.val (.ref a0), .val (.long q1), .second, .val (.int p2), .val (.double d3), .second, .val (.double d4), .second, .val (.int p5), .val (.int (0 : Int32)), .val (.long v12), .second, .val (.int o14), .unset]) rfl k) ?_
    show own_Go p e below _ (T13.setTop (mkF m 40 #[.val (.ref a0), .val (.long q1), .second, .val (.int p2), .val (.double d3), .second, .val (.double d4), .second, .val (.int p5), .val (.int (0 : Int32)), .val (.long v12), .second, .val (.int o14), .unset] []))
    have hs_o14 := (ob_4_17 fn_f_a0_entries q1 p2 p5 f_a0_generation f_a0_settledSince y9 v12 o14 hj10 hv12 hp15)
    rcases hs_o14 with rfl | rfl | rfl
    · skip
      show own_Go p e below _ (T13.setTop (mkF m 40 #[.val (.ref a0), .val (.long q1), .second, .val (.int p2), .val (.double d3), .second, .val (.double d4), .second, .val (.int p5), .val (.int (0 : Int32)), .val (.long v12), .second, .val (.int (-1 : Int32)), .unset] []))
      refine own_by (fun _ k => XS.iload X13.here hx rfl (hb hby d4_40) rfl k) ?_
      show own_Go p e below _ (T13.setTop (mkF m 42 #[.val (.ref a0), .val (.long q1), .second, .val (.int p2), .val (.double d3), .second, .val (.double d4), .second, .val (.int p5), .val (.int (0 : Int32)), .val (.long v12), .second, .val (.int (-1 : Int32)), .unset] [(.int (-1 : Int32))]))
      refine own_by (fun _ k => XS.ifYes X13.here hx rfl (pc0 := 42) (pc' := 50) rfl (hb hby d4_42) rfl ((if0 _ _).trans (tlt (by decide : (-1 : Int32) < (0 : Int32))).1) (by decide) (by decide) k) ?_
      show own_Go p e below _ (T13.setTop (mkF m 50 #[.val (.ref a0), .val (.long q1), .second, .val (.int p2), .val (.double d3), .second, .val (.double d4), .second, .val (.int p5), .val (.int (0 : Int32)), .val (.long v12), .second, .val (.int (-1 : Int32)), .unset] []))
      refine own_by (fun _ k => XS.iload X13.here hx rfl (hb hby d4_50) rfl k) ?_
      show own_Go p e below _ (T13.setTop (mkF m 52 #[.val (.ref a0), .val (.long q1), .second, .val (.int p2), .val (.double d3), .second, .val (.double d4), .second, .val (.int p5), .val (.int (0 : Int32)), .val (.long v12), .second, .val (.int (-1 : Int32)), .unset] [(.int (0 : Int32))]))
      refine own_by (fun _ k => XS.bipush X13.here hx rfl (hb hby d4_52) k) ?_
      show own_Go p e below _ (T13.setTop (mkF m 54 #[.val (.ref a0), .val (.long q1), .second, .val (.int p2), .val (.double d3), .second, .val (.double d4), .second, .val (.int p5), .val (.int (0 : Int32)), .val (.long v12), .second, .val (.int (-1 : Int32)), .unset] [(.int (8 : Int32)), (.int (0 : Int32))]))
      refine own_by (fun _ k => XS.iadd X13.here hx rfl (hb hby d4_54) rfl k) ?_
      show own_Go p e below _ (T13.setTop (mkF m 55 #[.val (.ref a0), .val (.long q1), .second, .val (.int p2), .val (.double d3), .second, .val (.double d4), .second, .val (.int p5), .val (.int (0 : Int32)), .val (.long v12), .second, .val (.int (-1 : Int32)), .unset] [(.int (8 : Int32))]))
      refine own_by (fun _ k => XS.iconst X13.here hx rfl (hb hby d4_55) k) ?_
      show own_Go p e below _ (T13.setTop (mkF m 56 #[.val (.ref a0), .val (.long q1), .second, .val (.int p2), .val (.double d3), .second, .val (.double d4), .second, .val (.int p5), .val (.int (0 : Int32)), .val (.long v12), .second, .val (.int (-1 : Int32)), .unset] [(.int (4 : Int32)), (.int (8 : Int32))]))
      refine own_by (fun _ k => XS.isub X13.here hx rfl (hb hby d4_56) rfl k) ?_
      show own_Go p e below _ (T13.setTop (mkF m 57 #[.val (.ref a0), .val (.long q1), .second, .val (.int p2), .val (.double d3), .second, .val (.double d4), .second, .val (.int p5), .val (.int (0 : Int32)), .val (.long v12), .second, .val (.int (-1 : Int32)), .unset] [(.int (4 : Int32))]))
      refine own_by (fun _ k => XS.istore X13.here hx rfl (hb hby d4_57) rfl (l' := #[.val (.ref a0), .val (.long q1), .second, .val (.int p2), .val (.double d3), .second, .val (.double d4), .second, .val (.int p5), .val (.int (0 : Int32)), .val (.long v12), .second, .val (.int (-1 : Int32)), .val (.int (4 : Int32))]) rfl k) ?_
      show own_Go p e below _ (T13.setTop (mkF m 59 #[.val (.ref a0), .val (.long q1), .second, .val (.int p2), .val (.double d3), .second, .val (.double d4), .second, .val (.int p5), .val (.int (0 : Int32)), .val (.long v12), .second, .val (.int (-1 : Int32)), .val (.int (4 : Int32))] []))
      refine own_by (fun _ k => XS.aloadN X13.here hx rfl (hb hby d4_59) rfl rfl k) ?_
      show own_Go p e below _ (T13.setTop (mkF m 60 #[.val (.ref a0), .val (.long q1), .second, .val (.int p2), .val (.double d3), .second, .val (.double d4), .second, .val (.int p5), .val (.int (0 : Int32)), .val (.long v12), .second, .val (.int (-1 : Int32)), .val (.int (4 : Int32))] [(.ref a0)]))
      obtain ⟨T16, X16, e16, st16⟩ := getF X13 hx hZ hown (host := "") (Or.inl (hw _ (List.mem_of_getElem? (i := 15) rfl))) Via.refl eq13 P_F_a0_entries (g := (mkF m 60 #[.val (.ref a0), .val (.long q1), .second, .val (.int p2), .val (.double d3), .second, .val (.double d4), .second, .val (.int p5), .val (.int (0 : Int32)), .val (.long v12), .second, .val (.int (-1 : Int32)), .val (.int (4 : Int32))] [(.ref a0)])) rfl rfl (hb hby d4_60)
      refine own_by st16 ?_
      show own_Go p e below _ (T16.setTop (mkF m 63 #[.val (.ref a0), .val (.long q1), .second, .val (.int p2), .val (.double d3), .second, .val (.double d4), .second, .val (.int p5), .val (.int (0 : Int32)), .val (.long v12), .second, .val (.int (-1 : Int32)), .val (.int (4 : Int32))] [(.ref f_a0_entries)]))
      refine own_by (fun _ k => XS.iload X16.here hx rfl (hb hby d4_63) rfl k) ?_
      show own_Go p e below _ (T16.setTop (mkF m 65 #[.val (.ref a0), .val (.long q1), .second, .val (.int p2), .val (.double d3), .second, .val (.double d4), .second, .val (.int p5), .val (.int (0 : Int32)), .val (.long v12), .second, .val (.int (-1 : Int32)), .val (.int (4 : Int32))] [(.int (0 : Int32)), (.ref f_a0_entries)]))
      refine own_by (fun _ k => XS.aloadN X16.here hx rfl (hb hby d4_65) rfl rfl k) ?_
      show own_Go p e below _ (T16.setTop (mkF m 66 #[.val (.ref a0), .val (.long q1), .second, .val (.int p2), .val (.double d3), .second, .val (.double d4), .second, .val (.int p5), .val (.int (0 : Int32)), .val (.long v12), .second, .val (.int (-1 : Int32)), .val (.int (4 : Int32))] [(.ref a0), (.int (0 : Int32)), (.ref f_a0_entries)]))
      obtain ⟨T17, X17, e17, st17⟩ := getF X16 hx hZ hown (host := "") (Or.inl (hw _ (List.mem_of_getElem? (i := 15) rfl))) Via.refl e16 P_F_a0_entries (g := (mkF m 66 #[.val (.ref a0), .val (.long q1), .second, .val (.int p2), .val (.double d3), .second, .val (.double d4), .second, .val (.int p5), .val (.int (0 : Int32)), .val (.long v12), .second, .val (.int (-1 : Int32)), .val (.int (4 : Int32))] [(.ref a0), (.int (0 : Int32)), (.ref f_a0_entries)])) rfl rfl (hb hby d4_66)
      refine own_by st17 ?_
      show own_Go p e below _ (T17.setTop (mkF m 69 #[.val (.ref a0), .val (.long q1), .second, .val (.int p2), .val (.double d3), .second, .val (.double d4), .second, .val (.int p5), .val (.int (0 : Int32)), .val (.long v12), .second, .val (.int (-1 : Int32)), .val (.int (4 : Int32))] [(.ref f_a0_entries), (.int (0 : Int32)), (.ref f_a0_entries)]))
      refine own_by (fun _ k => XS.iload X17.here hx rfl (hb hby d4_69) rfl k) ?_
      show own_Go p e below _ (T17.setTop (mkF m 71 #[.val (.ref a0), .val (.long q1), .second, .val (.int p2), .val (.double d3), .second, .val (.double d4), .second, .val (.int p5), .val (.int (0 : Int32)), .val (.long v12), .second, .val (.int (-1 : Int32)), .val (.int (4 : Int32))] [(.int (0 : Int32)), (.ref f_a0_entries), (.int (0 : Int32)), (.ref f_a0_entries)]))
      refine own_by (fun _ k => XS.iconst X17.here hx rfl (hb hby d4_71) k) ?_
      show own_Go p e below _ (T17.setTop (mkF m 72 #[.val (.ref a0), .val (.long q1), .second, .val (.int p2), .val (.double d3), .second, .val (.double d4), .second, .val (.int p5), .val (.int (0 : Int32)), .val (.long v12), .second, .val (.int (-1 : Int32)), .val (.int (4 : Int32))] [(.int (4 : Int32)), (.int (0 : Int32)), (.ref f_a0_entries), (.int (0 : Int32)), (.ref f_a0_entries)]))
      refine own_by (fun _ k => XS.iadd X17.here hx rfl (hb hby d4_72) rfl k) ?_
      show own_Go p e below _ (T17.setTop (mkF m 73 #[.val (.ref a0), .val (.long q1), .second, .val (.int p2), .val (.double d3), .second, .val (.double d4), .second, .val (.int p5), .val (.int (0 : Int32)), .val (.long v12), .second, .val (.int (-1 : Int32)), .val (.int (4 : Int32))] [(.int (4 : Int32)), (.ref f_a0_entries), (.int (0 : Int32)), (.ref f_a0_entries)]))
      refine own_by (fun _ k => XS.iload X17.here hx rfl (hb hby d4_73) rfl k) ?_
      show own_Go p e below _ (T17.setTop (mkF m 75 #[.val (.ref a0), .val (.long q1), .second, .val (.int p2), .val (.double d3), .second, .val (.double d4), .second, .val (.int p5), .val (.int (0 : Int32)), .val (.long v12), .second, .val (.int (-1 : Int32)), .val (.int (4 : Int32))] [(.int (4 : Int32)), (.int (4 : Int32)), (.ref f_a0_entries), (.int (0 : Int32)), (.ref f_a0_entries)]))
      refine own_by (fun _ k => XS.iload X17.here hx rfl (hb hby d4_75) rfl k) ?_
      show own_Go p e below _ (T17.setTop (mkF m 77 #[.val (.ref a0), .val (.long q1), .second, .val (.int p2), .val (.double d3), .second, .val (.double d4), .second, .val (.int p5), .val (.int (0 : Int32)), .val (.long v12), .second, .val (.int (-1 : Int32)), .val (.int (4 : Int32))] [(.int (0 : Int32)), (.int (4 : Int32)), (.int (4 : Int32)), (.ref f_a0_entries), (.int (0 : Int32)), (.ref f_a0_entries)]))
      refine own_by (fun _ k => XS.isub X17.here hx rfl (hb hby d4_77) rfl k) ?_
      show own_Go p e below _ (T17.setTop (mkF m 78 #[.val (.ref a0), .val (.long q1), .second, .val (.int p2), .val (.double d3), .second, .val (.double d4), .second, .val (.int p5), .val (.int (0 : Int32)), .val (.long v12), .second, .val (.int (-1 : Int32)), .val (.int (4 : Int32))] [(.int (4 : Int32)), (.int (4 : Int32)), (.ref f_a0_entries), (.int (0 : Int32)), (.ref f_a0_entries)]))
      obtain ⟨T18, h18, L18, X18, e18, N18, Kq18, V18, st18⟩ := own_cpA X17 hx hZ hown (hw _ (List.mem_of_getElem? (i := 40) rfl)) (hw _ (List.mem_of_getElem? (i := 43) rfl)) (hw _ (List.mem_of_getElem? (i := 41) rfl)) (hw _ (List.mem_of_getElem? (i := 42) rfl)) e17 P_V_f_a0_entries P_V_f_a0_entries (by decide) (by decide) (by decide) (by decide) (by decide) (by decide) N13 g_f_a0_entries (g := (mkF m 78 #[.val (.ref a0), .val (.long q1), .second, .val (.int p2), .val (.double d3), .second, .val (.double d4), .second, .val (.int p5), .val (.int (0 : Int32)), .val (.long v12), .second, .val (.int (-1 : Int32)), .val (.int (4 : Int32))] [(.int (4 : Int32)), (.int (4 : Int32)), (.ref f_a0_entries), (.int (0 : Int32)), (.ref f_a0_entries)])) rfl (by rw [hml]; rfl) rfl (hb hby d4_78) (by decide) (W := 0) (by show 2 * 0 + _ ≤ _; exact Nat.le_of_eq rfl) (by decide)
      have V18' : own_Arf Z h18 f_a0_entries k_f_a0_entries .long (8 : Int32) (fun i => .long ((own_cp fn_f_a0_entries 0 fn_f_a0_entries 4 4) i)) := by rw [← own_cpJ]; exact V18
      have K18 : Keep h0 h18 [f_a0_entries] := (Keep.refl h0 [f_a0_entries]).trans Kq18 ((allS (Or.inl (List.mem_of_getElem? (i := 0) rfl)) all0))
      have Z18 : n0 ≤ h18.size := Nat.le_trans Z0 Kq18.1
      refine own_by st18 ?_
      show own_Go p e below _ (T18.setTop (mkF m 81 #[.val (.ref a0), .val (.long q1), .second, .val (.int p2), .val (.double d3), .second, .val (.double d4), .second, .val (.int p5), .val (.int (0 : Int32)), .val (.long v12), .second, .val (.int (-1 : Int32)), .val (.int (4 : Int32))] []))
      refine own_by (fun _ k => XS.aloadN X18.here hx rfl (hb hby d4_81) rfl rfl k) ?_
      show own_Go p e below _ (T18.setTop (mkF m 82 #[.val (.ref a0), .val (.long q1), .second, .val (.int p2), .val (.double d3), .second, .val (.double d4), .second, .val (.int p5), .val (.int (0 : Int32)), .val (.long v12), .second, .val (.int (-1 : Int32)), .val (.int (4 : Int32))] [(.ref a0)]))
      have F19 : Fld Z h18 a0 "com/example/plyward/plyward/search/TranspositionTable" "entries" "[J" (.ref f_a0_entries) := (P_F_a0_entries.keep Kq18 (ninS (own_neArr (P_E_a0.keep Kq18) (hw _ (List.mem_of_getElem? (i := 2) rfl)) V18') nin0))
      obtain ⟨T20, X20, e20, st20⟩ := getF X18 hx hZ hown (host := "") (Or.inl (hw _ (List.mem_of_getElem? (i := 15) rfl))) Via.refl e18 F19 (g := (mkF m 82 #[.val (.ref a0), .val (.long q1), .second, .val (.int p2), .val (.double d3), .second, .val (.double d4), .second, .val (.int p5), .val (.int (0 : Int32)), .val (.long v12), .second, .val (.int (-1 : Int32)), .val (.int (4 : Int32))] [(.ref a0)])) rfl rfl (hb hby d4_82)
      refine own_by st20 ?_
      show own_Go p e below _ (T20.setTop (mkF m 85 #[.val (.ref a0), .val (.long q1), .second, .val (.int p2), .val (.double d3), .second, .val (.double d4), .second, .val (.int p5), .val (.int (0 : Int32)), .val (.long v12), .second, .val (.int (-1 : Int32)), .val (.int (4 : Int32))] [(.ref f_a0_entries)]))
      refine own_by (fun _ k => XS.iload X20.here hx rfl (hb hby d4_85) rfl k) ?_
      show own_Go p e below _ (T20.setTop (mkF m 87 #[.val (.ref a0), .val (.long q1), .second, .val (.int p2), .val (.double d3), .second, .val (.double d4), .second, .val (.int p5), .val (.int (0 : Int32)), .val (.long v12), .second, .val (.int (-1 : Int32)), .val (.int (4 : Int32))] [(.int (0 : Int32)), (.ref f_a0_entries)]))
      refine own_by (fun _ k => XS.lloadN X20.here hx rfl (hb hby d4_87) rfl k) ?_
      show own_Go p e below _ (T20.setTop (mkF m 88 #[.val (.ref a0), .val (.long q1), .second, .val (.int p2), .val (.double d3), .second, .val (.double d4), .second, .val (.int p5), .val (.int (0 : Int32)), .val (.long v12), .second, .val (.int (-1 : Int32)), .val (.int (4 : Int32))] [(.long q1), (.int (0 : Int32)), (.ref f_a0_entries)]))
      obtain ⟨cl21, Ar21, qq21, S21, M21, H21, G21⟩ := id V18'
      have hin21 : ¬ ((0 : Int32) < 0 ∨ cl21.slots.size ≤ ((0 : Int32)).toNatClampNeg) := inb_of S21 ⟨by decide, by decide⟩
      obtain ⟨T22, h22, X22, e22, W22, st22⟩ := stJ X20 hx hZ e20 Ar21 (j := (0 : Int32)) hin21 (g := (mkF m 88 #[.val (.ref a0), .val (.long q1), .second, .val (.int p2), .val (.double d3), .second, .val (.double d4), .second, .val (.int p5), .val (.int (0 : Int32)), .val (.long v12), .second, .val (.int (-1 : Int32)), .val (.int (4 : Int32))] [(.long q1), (.int (0 : Int32)), (.ref f_a0_entries)])) rfl rfl (hb hby d4_88)
      have V22 : own_Arf Z h22 f_a0_entries k_f_a0_entries .long (8 : Int32) (fun i => .long ((own_upd (own_cp fn_f_a0_entries 0 fn_f_a0_entries 4 4) 0 q1) i)) := own_arfSetJ Ar21 qq21 S21 M21 H21 G21 rfl W22
      have K22 : Keep h0 h22 [f_a0_entries] := K18.wr W22 (Or.inl (List.mem_of_getElem? (i := 0) rfl))
      have Z22 : n0 ≤ h22.size := Nat.le_trans Z18 (Keep.of_wr W22).1
      have N22 := Fr.snoc X22 N18 g_f_a0_entries
      refine own_by st22 ?_
      show own_Go p e below _ (T22.setTop (mkF m 89 #[.val (.ref a0), .val (.long q1), .second, .val (.int p2), .val (.double d3), .second, .val (.double d4), .second, .val (.int p5), .val (.int (0 : Int32)), .val (.long v12), .second, .val (.int (-1 : Int32)), .val (.int (4 : Int32))] []))
      refine own_by (fun _ k => XS.aloadN X22.here hx rfl (hb hby d4_89) rfl rfl k) ?_
      show own_Go p e below _ (T22.setTop (mkF m 90 #[.val (.ref a0), .val (.long q1), .second, .val (.int p2), .val (.double d3), .second, .val (.double d4), .second, .val (.int p5), .val (.int (0 : Int32)), .val (.long v12), .second, .val (.int (-1 : Int32)), .val (.int (4 : Int32))] [(.ref a0)]))
      have F23 : Fld Z h22 a0 "com/example/plyward/plyward/search/TranspositionTable" "entries" "[J" (.ref f_a0_entries) := (F19.other W22 (Or.inl (own_neArr ((P_E_a0.keep Kq18).wr W22) (hw _ (List.mem_of_getElem? (i := 2) rfl)) V22)))
      obtain ⟨T24, X24, e24, st24⟩ := getF X22 hx hZ hown (host := "") (Or.inl (hw _ (List.mem_of_getElem? (i := 15) rfl))) Via.refl e22 F23 (g := (mkF m 90 #[.val (.ref a0), .val (.long q1), .second, .val (.int p2), .val (.double d3), .second, .val (.double d4), .second, .val (.int p5), .val (.int (0 : Int32)), .val (.long v12), .second, .val (.int (-1 : Int32)), .val (.int (4 : Int32))] [(.ref a0)])) rfl rfl (hb hby d4_90)
      refine own_by st24 ?_
      show own_Go p e below _ (T24.setTop (mkF m 93 #[.val (.ref a0), .val (.long q1), .second, .val (.int p2), .val (.double d3), .second, .val (.double d4), .second, .val (.int p5), .val (.int (0 : Int32)), .val (.long v12), .second, .val (.int (-1 : Int32)), .val (.int (4 : Int32))] [(.ref f_a0_entries)]))
      refine own_by (fun _ k => XS.iload X24.here hx rfl (hb hby d4_93) rfl k) ?_
      show own_Go p e below _ (T24.setTop (mkF m 95 #[.val (.ref a0), .val (.long q1), .second, .val (.int p2), .val (.double d3), .second, .val (.double d4), .second, .val (.int p5), .val (.int (0 : Int32)), .val (.long v12), .second, .val (.int (-1 : Int32)), .val (.int (4 : Int32))] [(.int (0 : Int32)), (.ref f_a0_entries)]))
      refine own_by (fun _ k => XS.iconst X24.here hx rfl (hb hby d4_95) k) ?_
      show own_Go p e below _ (T24.setTop (mkF m 96 #[.val (.ref a0), .val (.long q1), .second, .val (.int p2), .val (.double d3), .second, .val (.double d4), .second, .val (.int p5), .val (.int (0 : Int32)), .val (.long v12), .second, .val (.int (-1 : Int32)), .val (.int (4 : Int32))] [(.int (1 : Int32)), (.int (0 : Int32)), (.ref f_a0_entries)]))
      refine own_by (fun _ k => XS.iadd X24.here hx rfl (hb hby d4_96) rfl k) ?_
      show own_Go p e below _ (T24.setTop (mkF m 97 #[.val (.ref a0), .val (.long q1), .second, .val (.int p2), .val (.double d3), .second, .val (.double d4), .second, .val (.int p5), .val (.int (0 : Int32)), .val (.long v12), .second, .val (.int (-1 : Int32)), .val (.int (4 : Int32))] [(.int (1 : Int32)), (.ref f_a0_entries)]))
      refine own_by (fun _ k => XS.dload X24.here hx rfl (hb hby d4_97) rfl k) ?_
      show own_Go p e below _ (T24.setTop (mkF m 99 #[.val (.ref a0), .val (.long q1), .second, .val (.int p2), .val (.double d3), .second, .val (.double d4), .second, .val (.int p5), .val (.int (0 : Int32)), .val (.long v12), .second, .val (.int (-1 : Int32)), .val (.int (4 : Int32))] [(.double d3), (.int (1 : Int32)), (.ref f_a0_entries)]))
      obtain ⟨T25, X25, e25, st25⟩ := own_d2bits X24 hx hZ hown (hw _ (List.mem_of_getElem? (i := 44) rfl)) (hw _ (List.mem_of_getElem? (i := 47) rfl)) (hw _ (List.mem_of_getElem? (i := 45) rfl)) (hw _ (List.mem_of_getElem? (i := 46) rfl)) e24 (g := (mkF m 99 #[.val (.ref a0), .val (.long q1), .second, .val (.int p2), .val (.double d3), .second, .val (.double d4), .second, .val (.int p5), .val (.int (0 : Int32)), .val (.long v12), .second, .val (.int (-1 : Int32)), .val (.int (4 : Int32))] [(.double d3), (.int (1 : Int32)), (.ref f_a0_entries)])) rfl (by rw [hml]; rfl) rfl (hb hby d4_99) (by decide) (W := 2) (by show 2 * 0 + _ ≤ _; exact Nat.le_of_eq rfl) (by decide)
      refine own_by st25 ?_
      show own_Go p e below _ (T25.setTop (mkF m 102 #[.val (.ref a0), .val (.long q1), .second, .val (.int p2), .val (.double d3), .second, .val (.double d4), .second, .val (.int p5), .val (.int (0 : Int32)), .val (.long v12), .second, .val (.int (-1 : Int32)), .val (.int (4 : Int32))] [(.long (d3.toInt64)), (.int (1 : Int32)), (.ref f_a0_entries)]))
      obtain ⟨cl26, Ar26, qq26, S26, M26, H26, G26⟩ := id V22
      have hin26 : ¬ ((1 : Int32) < 0 ∨ cl26.slots.size ≤ ((1 : Int32)).toNatClampNeg) := inb_of S26 ⟨by decide, by decide⟩
      obtain ⟨T27, h27, X27, e27, W27, st27⟩ := stJ X25 hx hZ e25 Ar26 (j := (1 : Int32)) hin26 (g := (mkF m 102 #[.val (.ref a0), .val (.long q1), .second, .val (.int p2), .val (.double d3), .second, .val (.double d4), .second, .val (.int p5), .val (.int (0 : Int32)), .val (.long v12), .second, .val (.int (-1 : Int32)), .val (.int (4 : Int32))] [(.long (d3.toInt64)), (.int (1 : Int32)), (.ref f_a0_entries)])) rfl rfl (hb hby d4_102)
      have V27 : own_Arf Z h27 f_a0_entries k_f_a0_entries .long (8 : Int32) (fun i => .long ((own_upd (own_upd (own_cp fn_f_a0_entries 0 fn_f_a0_entries 4 4) 0 q1) 1 (d3.toInt64)) i)) := own_arfSetJ Ar26 qq26 S26 M26 H26 G26 rfl W27
      have K27 : Keep h0 h27 [f_a0_entries] := K22.wr W27 (Or.inl (List.mem_of_getElem? (i := 0) rfl))
      have Z27 : n0 ≤ h27.size := Nat.le_trans Z22 (Keep.of_wr W27).1
      have N27 := Fr.snoc X27 N22 g_f_a0_entries
      refine own_by st27 ?_
      show own_Go p e below _ (T27.setTop (mkF m 103 #[.val (.ref a0), .val (.long q1), .second, .val (.int p2), .val (.double d3), .second, .val (.double d4), .second, .val (.int p5), .val (.int (0 : Int32)), .val (.long v12), .second, .val (.int (-1 : Int32)), .val (.int (4 : Int32))] []))
      refine own_by (fun _ k => XS.aloadN X27.here hx rfl (hb hby d4_103) rfl rfl k) ?_
      show own_Go p e below _ (T27.setTop (mkF m 104 #[.val (.ref a0), .val (.long q1), .second, .val (.int p2), .val (.double d3), .second, .val (.double d4), .second, .val (.int p5), .val (.int (0 : Int32)), .val (.long v12), .second, .val (.int (-1 : Int32)), .val (.int (4 : Int32))] [(.ref a0)]))
      have F28 : Fld Z h27 a0 "com/example/plyward/plyward/search/TranspositionTable" "entries" "[J" (.ref f_a0_entries) := (F23.other W27 (Or.inl (own_neArr (((P_E_a0.keep Kq18).wr W22).wr W27) (hw _ (List.mem_of_getElem? (i := 2) rfl)) V27)))
      obtain ⟨T29, X29, e29, st29⟩ := getF X27 hx hZ hown (host := "") (Or.inl (hw _ (List.mem_of_getElem? (i := 15) rfl))) Via.refl e27 F28 (g := (mkF m 104 #[.val (.ref a0), .val (.long q1), .second, .val (.int p2), .val (.double d3), .second, .val (.double d4), .second, .val (.int p5), .val (.int (0 : Int32)), .val (.long v12), .second, .val (.int (-1 : Int32)), .val (.int (4 : Int32))] [(.ref a0)])) rfl rfl (hb hby d4_104)
      refine own_by st29 ?_
      show own_Go p e below _ (T29.setTop (mkF m 107 #[.val (.ref a0), .val (.long q1), .second, .val (.int p2), .val (.double d3), .second, .val (.double d4), .second, .val (.int p5), .val (.int (0 : Int32)), .val (.long v12), .second, .val (.int (-1 : Int32)), .val (.int (4 : Int32))] [(.ref f_a0_entries)]))
      refine own_by (fun _ k => XS.iload X29.here hx rfl (hb hby d4_107) rfl k) ?_
      show own_Go p e below _ (T29.setTop (mkF m 109 #[.val (.ref a0), .val (.long q1), .second, .val (.int p2), .val (.double d3), .second, .val (.double d4), .second, .val (.int p5), .val (.int (0 : Int32)), .val (.long v12), .second, .val (.int (-1 : Int32)), .val (.int (4 : Int32))] [(.int (0 : Int32)), (.ref f_a0_entries)]))
      refine own_by (fun _ k => XS.iconst X29.here hx rfl (hb hby d4_109) k) ?_
      show own_Go p e below _ (T29.setTop (mkF m 110 #[.val (.ref a0), .val (.long q1), .second, .val (.int p2), .val (.double d3), .second, .val (.double d4), .second, .val (.int p5), .val (.int (0 : Int32)), .val (.long v12), .second, .val (.int (-1 : Int32)), .val (.int (4 : Int32))] [(.int (2 : Int32)), (.int (0 : Int32)), (.ref f_a0_entries)]))
      refine own_by (fun _ k => XS.iadd X29.here hx rfl (hb hby d4_110) rfl k) ?_
      show own_Go p e below _ (T29.setTop (mkF m 111 #[.val (.ref a0), .val (.long q1), .second, .val (.int p2), .val (.double d3), .second, .val (.double d4), .second, .val (.int p5), .val (.int (0 : Int32)), .val (.long v12), .second, .val (.int (-1 : Int32)), .val (.int (4 : Int32))] [(.int (2 : Int32)), (.ref f_a0_entries)]))
      refine own_by (fun _ k => XS.dload X29.here hx rfl (hb hby d4_111) rfl k) ?_
      show own_Go p e below _ (T29.setTop (mkF m 113 #[.val (.ref a0), .val (.long q1), .second, .val (.int p2), .val (.double d3), .second, .val (.double d4), .second, .val (.int p5), .val (.int (0 : Int32)), .val (.long v12), .second, .val (.int (-1 : Int32)), .val (.int (4 : Int32))] [(.double d4), (.int (2 : Int32)), (.ref f_a0_entries)]))
      obtain ⟨T30, X30, e30, st30⟩ := own_d2bits X29 hx hZ hown (hw _ (List.mem_of_getElem? (i := 44) rfl)) (hw _ (List.mem_of_getElem? (i := 47) rfl)) (hw _ (List.mem_of_getElem? (i := 45) rfl)) (hw _ (List.mem_of_getElem? (i := 46) rfl)) e29 (g := (mkF m 113 #[.val (.ref a0), .val (.long q1), .second, .val (.int p2), .val (.double d3), .second, .val (.double d4), .second, .val (.int p5), .val (.int (0 : Int32)), .val (.long v12), .second, .val (.int (-1 : Int32)), .val (.int (4 : Int32))] [(.double d4), (.int (2 : Int32)), (.ref f_a0_entries)])) rfl (by rw [hml]; rfl) rfl (hb hby d4_113) (by decide) (W := 2) (by show 2 * 0 + _ ≤ _; exact Nat.le_of_eq rfl) (by decide)
      refine own_by st30 ?_
      show own_Go p e below _ (T30.setTop (mkF m 116 #[.val (.ref a0), .val (.long q1), .second, .val (.int p2), .val (.double d3), .second, .val (.double d4), .second, .val (.int p5), .val (.int (0 : Int32)), .val (.long v12), .second, .val (.int (-1 : Int32)), .val (.int (4 : Int32))] [(.long (d4.toInt64)), (.int (2 : Int32)), (.ref f_a0_entries)]))
      obtain ⟨cl31, Ar31, qq31, S31, M31, H31, G31⟩ := id V27
      have hin31 : ¬ ((2 : Int32) < 0 ∨ cl31.slots.size ≤ ((2 : Int32)).toNatClampNeg) := inb_of S31 ⟨by decide, by decide⟩
      obtain ⟨T32, h32, X32, e32, W32, st32⟩ := stJ X30 hx hZ e30 Ar31 (j := (2 : Int32)) hin31 (g := (mkF m 116 #[.val (.ref a0), .val (.long q1), .second, .val (.int p2), .val (.double d3), .second, .val (.double d4), .second, .val (.int p5), .val (.int (0 : Int32)), .val (.long v12), .second, .val (.int (-1 : Int32)), .val (.int (4 : Int32))] [(.long (d4.toInt64)), (.int (2 : Int32)), (.ref f_a0_entries)])) rfl rfl (hb hby d4_116)
      have V32 : own_Arf Z h32 f_a0_entries k_f_a0_entries .long (8 : Int32) (fun i => .long ((own_upd (own_upd (own_upd (own_cp fn_f_a0_entries 0 fn_f_a0_entries 4 4) 0 q1) 1 (d3.toInt64)) 2 (d4.toInt64)) i)) := own_arfSetJ Ar31 qq31 S31 M31 H31 G31 rfl W32
      have K32 : Keep h0 h32 [f_a0_entries] := K27.wr W32 (Or.inl (List.mem_of_getElem? (i := 0) rfl))
      have Z32 : n0 ≤ h32.size := Nat.le_trans Z27 (Keep.of_wr W32).1
      have N32 := Fr.snoc X32 N27 g_f_a0_entries
      refine own_by st32 ?_
      show own_Go p e below _ (T32.setTop (mkF m 117 #[.val (.ref a0), .val (.long q1), .second, .val (.int p2), .val (.double d3), .second, .val (.double d4), .second, .val (.int p5), .val (.int (0 : Int32)), .val (.long v12), .second, .val (.int (-1 : Int32)), .val (.int (4 : Int32))] []))
      refine own_by (fun _ k => XS.aloadN X32.here hx rfl (hb hby d4_117) rfl rfl k) ?_
      show own_Go p e below _ (T32.setTop (mkF m 118 #[.val (.ref a0), .val (.long q1), .second, .val (.int p2), .val (.double d3), .second, .val (.double d4), .second, .val (.int p5), .val (.int (0 : Int32)), .val (.long v12), .second, .val (.int (-1 : Int32)), .val (.int (4 : Int32))] [(.ref a0)]))
      have F33 : Fld Z h32 a0 "com/example/plyward/plyward/search/TranspositionTable" "entries" "[J" (.ref f_a0_entries) := (F28.other W32 (Or.inl (own_neArr ((((P_E_a0.keep Kq18).wr W22).wr W27).wr W32) (hw _ (List.mem_of_getElem? (i := 2) rfl)) V32)))
      obtain ⟨T34, X34, e34, st34⟩ := getF X32 hx hZ hown (host := "") (Or.inl (hw _ (List.mem_of_getElem? (i := 15) rfl))) Via.refl e32 F33 (g := (mkF m 118 #[.val (.ref a0), .val (.long q1), .second, .val (.int p2), .val (.double d3), .second, .val (.double d4), .second, .val (.int p5), .val (.int (0 : Int32)), .val (.long v12), .second, .val (.int (-1 : Int32)), .val (.int (4 : Int32))] [(.ref a0)])) rfl rfl (hb hby d4_118)
      refine own_by st34 ?_
      show own_Go p e below _ (T34.setTop (mkF m 121 #[.val (.ref a0), .val (.long q1), .second, .val (.int p2), .val (.double d3), .second, .val (.double d4), .second, .val (.int p5), .val (.int (0 : Int32)), .val (.long v12), .second, .val (.int (-1 : Int32)), .val (.int (4 : Int32))] [(.ref f_a0_entries)]))
      refine own_by (fun _ k => XS.iload X34.here hx rfl (hb hby d4_121) rfl k) ?_
      show own_Go p e below _ (T34.setTop (mkF m 123 #[.val (.ref a0), .val (.long q1), .second, .val (.int p2), .val (.double d3), .second, .val (.double d4), .second, .val (.int p5), .val (.int (0 : Int32)), .val (.long v12), .second, .val (.int (-1 : Int32)), .val (.int (4 : Int32))] [(.int (0 : Int32)), (.ref f_a0_entries)]))
      refine own_by (fun _ k => XS.iconst X34.here hx rfl (hb hby d4_123) k) ?_
      show own_Go p e below _ (T34.setTop (mkF m 124 #[.val (.ref a0), .val (.long q1), .second, .val (.int p2), .val (.double d3), .second, .val (.double d4), .second, .val (.int p5), .val (.int (0 : Int32)), .val (.long v12), .second, .val (.int (-1 : Int32)), .val (.int (4 : Int32))] [(.int (3 : Int32)), (.int (0 : Int32)), (.ref f_a0_entries)]))
      refine own_by (fun _ k => XS.iadd X34.here hx rfl (hb hby d4_124) rfl k) ?_
      show own_Go p e below _ (T34.setTop (mkF m 125 #[.val (.ref a0), .val (.long q1), .second, .val (.int p2), .val (.double d3), .second, .val (.double d4), .second, .val (.int p5), .val (.int (0 : Int32)), .val (.long v12), .second, .val (.int (-1 : Int32)), .val (.int (4 : Int32))] [(.int (3 : Int32)), (.ref f_a0_entries)]))
      refine own_by (fun _ k => XS.lload X34.here hx rfl (hb hby d4_125) rfl k) ?_
      show own_Go p e below _ (T34.setTop (mkF m 127 #[.val (.ref a0), .val (.long q1), .second, .val (.int p2), .val (.double d3), .second, .val (.double d4), .second, .val (.int p5), .val (.int (0 : Int32)), .val (.long v12), .second, .val (.int (-1 : Int32)), .val (.int (4 : Int32))] [(.long v12), (.int (3 : Int32)), (.ref f_a0_entries)]))
      obtain ⟨cl35, Ar35, qq35, S35, M35, H35, G35⟩ := id V32
      have hin35 : ¬ ((3 : Int32) < 0 ∨ cl35.slots.size ≤ ((3 : Int32)).toNatClampNeg) := inb_of S35 ⟨by decide, by decide⟩
      obtain ⟨T36, h36, X36, e36, W36, st36⟩ := stJ X34 hx hZ e34 Ar35 (j := (3 : Int32)) hin35 (g := (mkF m 127 #[.val (.ref a0), .val (.long q1), .second, .val (.int p2), .val (.double d3), .second, .val (.double d4), .second, .val (.int p5), .val (.int (0 : Int32)), .val (.long v12), .second, .val (.int (-1 : Int32)), .val (.int (4 : Int32))] [(.long v12), (.int (3 : Int32)), (.ref f_a0_entries)])) rfl rfl (hb hby d4_127)
      have V36 : own_Arf Z h36 f_a0_entries k_f_a0_entries .long (8 : Int32) (fun i => .long ((own_upd (own_upd (own_upd (own_upd (own_cp fn_f_a0_entries 0 fn_f_a0_entries 4 4) 0 q1) 1 (d3.toInt64)) 2 (d4.toInt64)) 3 v12) i)) := own_arfSetJ Ar35 qq35 S35 M35 H35 G35 rfl W36
      have K36 : Keep h0 h36 [f_a0_entries] := K32.wr W36 (Or.inl (List.mem_of_getElem? (i := 0) rfl))
      have Z36 : n0 ≤ h36.size := Nat.le_trans Z32 (Keep.of_wr W36).1
      have N36 := Fr.snoc X36 N32 g_f_a0_entries
      refine own_by st36 ?_
      show own_Go p e below _ (T36.setTop (mkF m 128 #[.val (.ref a0), .val (.long q1), .second, .val (.int p2), .val (.double d3), .second, .val (.double d4), .second, .val (.int p5), .val (.int (0 : Int32)), .val (.long v12), .second, .val (.int (-1 : Int32)), .val (.int (4 : Int32))] []))
      exact own_ret0 X36 hx Bd.returns (hb hby d4_128) hlk e36 ⟨(own_upd (own_upd (own_upd (own_upd (own_cp fn_f_a0_entries 0 fn_f_a0_entries 4 4) 0 q1) 1 (d3.toInt64)) 2 (d4.toInt64)) 3 v12), rfl, N36, K36, V36, (Or.inl ⟨y9, v12, hj10, hv12, hp15, rfl⟩)⟩ (by decide) (by decide)
    · skip
      show own_Go p e below _ (T13.setTop (mkF m 40 #[.val (.ref a0), .val (.long q1), .second, .val (.int p2), .val (.double d3), .second, .val (.double d4), .second, .val (.int p5), .val (.int (0 : Int32)), .val (.long v12), .second, .val (.int (0 : Int32)), .unset] []))
      refine own_by (fun _ k => XS.iload X13.here hx rfl (hb hby d4_40) rfl k) ?_
      show own_Go p e below _ (T13.setTop (mkF m 42 #[.val (.ref a0), .val (.long q1), .second, .val (.int p2), .val (.double d3), .second, .val (.double d4), .second, .val (.int p5), .val (.int (0 : Int32)), .val (.long v12), .second, .val (.int (0 : Int32)), .unset] [(.int (0 : Int32))]))
      refine own_by (fun _ k => XS.ifNo X13.here hx rfl (hb hby d4_42) rfl ((if0 _ _).trans (flt (by decide : ¬ ((0 : Int32) < (0 : Int32)))).1) k) ?_
      show own_Go p e below _ (T13.setTop (mkF m 45 #[.val (.ref a0), .val (.long q1), .second, .val (.int p2), .val (.double d3), .second, .val (.double d4), .second, .val (.int p5), .val (.int (0 : Int32)), .val (.long v12), .second, .val (.int (0 : Int32)), .unset] []))
      refine own_by (fun _ k => XS.iload X13.here hx rfl (hb hby d4_45) rfl k) ?_
      show own_Go p e below _ (T13.setTop (mkF m 47 #[.val (.ref a0), .val (.long q1), .second, .val (.int p2), .val (.double d3), .second, .val (.double d4), .second, .val (.int p5), .val (.int (0 : Int32)), .val (.long v12), .second, .val (.int (0 : Int32)), .unset] [(.int (0 : Int32))]))
      refine own_by (fun _ k => XS.goto X13.here hx rfl (pc0 := 47) (pc' := 57) rfl (hb hby d4_47) (by decide) (by decide) k) ?_
      show own_Go p e below _ (T13.setTop (mkF m 57 #[.val (.ref a0), .val (.long q1), .second, .val (.int p2), .val (.double d3), .second, .val (.double d4), .second, .val (.int p5), .val (.int (0 : Int32)), .val (.long v12), .second, .val (.int (0 : Int32)), .unset] [(.int (0 : Int32))]))
      refine own_by (fun _ k => XS.istore X13.here hx rfl (hb hby d4_57) rfl (l' := #[.val (.ref a0), .val (.long q1), .second, .val (.int p2), .val (.double d3), .second, .val (.double d4), .second, .val (.int p5), .val (.int (0 : Int32)), .val (.long v12), .second, .val (.int (0 : Int32)), .val (.int (0 : Int32))]) rfl k) ?_
      show own_Go p e below _ (T13.setTop (mkF m 59 #[.val (.ref a0), .val (.long q1), .second, .val (.int p2), .val (.double d3), .second, .val (.double d4), .second, .val (.int p5), .val (.int (0 : Int32)), .val (.long v12), .second, .val (.int (0 : Int32)), .val (.int (0 : Int32))] []))
      refine own_by (fun _ k => XS.aloadN X13.here hx rfl (hb hby d4_59) rfl rfl k) ?_
      show own_Go p e below _ (T13.setTop (mkF m 60 #[.val (.ref a0), .val (.long q1), .second, .val (.int p2), .val (.double d3), .second, .val (.double d4), .second, .val (.int p5), .val (.int (0 : Int32)), .val (.long v12), .second, .val (.int (0 : Int32)), .val (.int (0 : Int32))] [(.ref a0)]))
      obtain ⟨T37, X37, e37, st37⟩ := getF X13 hx hZ hown (host := "") (Or.inl (hw _ (List.mem_of_getElem? (i := 15) rfl))) Via.refl eq13 P_F_a0_entries (g := (mkF m 60 #[.val (.ref a0), .val (.long q1), .second, .val (.int p2), .val (.double d3), .second, .val (.double d4), .second, .val (.int p5), .val (.int (0 : Int32)), .val (.long v12), .second, .val (.int (0 : Int32)), .val (.int (0 : Int32))] [(.ref a0)])) rfl rfl (hb hby d4_60)
      refine own_by st37 ?_
      show own_Go p e below _ (T37.setTop (mkF m 63 #[.val (.ref a0), .val (.long q1), .second, .val (.int p2), .val (.double d3), .second, .val (.double d4), .second, .val (.int p5), .val (.int (0 : Int32)), .val (.long v12), .second, .val (.int (0 : Int32)), .val (.int (0 : Int32))] [(.ref f_a0_entries)]))
      refine own_by (fun _ k => XS.iload X37.here hx rfl (hb hby d4_63) rfl k) ?_
      show own_Go p e below _ (T37.setTop (mkF m 65 #[.val (.ref a0), .val (.long q1), .second, .val (.int p2), .val (.double d3), .second, .val (.double d4), .second, .val (.int p5), .val (.int (0 : Int32)), .val (.long v12), .second, .val (.int (0 : Int32)), .val (.int (0 : Int32))] [(.int (0 : Int32)), (.ref f_a0_entries)]))
      refine own_by (fun _ k => XS.aloadN X37.here hx rfl (hb hby d4_65) rfl rfl k) ?_
      show own_Go p e below _ (T37.setTop (mkF m 66 #[.val (.ref a0), .val (.long q1), .second, .val (.int p2), .val (.double d3), .second, .val (.double d4), .second, .val (.int p5), .val (.int (0 : Int32)), .val (.long v12), .second, .val (.int (0 : Int32)), .val (.int (0 : Int32))] [(.ref a0), (.int (0 : Int32)), (.ref f_a0_entries)]))
      obtain ⟨T38, X38, e38, st38⟩ := getF X37 hx hZ hown (host := "") (Or.inl (hw _ (List.mem_of_getElem? (i := 15) rfl))) Via.refl e37 P_F_a0_entries (g := (mkF m 66 #[.val (.ref a0), .val (.long q1), .second, .val (.int p2), .val (.double d3), .second, .val (.double d4), .second, .val (.int p5), .val (.int (0 : Int32)), .val (.long v12), .second, .val (.int (0 : Int32)), .val (.int (0 : Int32))] [(.ref a0), (.int (0 : Int32)), (.ref f_a0_entries)])) rfl rfl (hb hby d4_66)
      refine own_by st38 ?_
      show own_Go p e below _ (T38.setTop (mkF m 69 #[.val (.ref a0), .val (.long q1), .second, .val (.int p2), .val (.double d3), .second, .val (.double d4), .second, .val (.int p5), .val (.int (0 : Int32)), .val (.long v12), .second, .val (.int (0 : Int32)), .val (.int (0 : Int32))] [(.ref f_a0_entries), (.int (0 : Int32)), (.ref f_a0_entries)]))
      refine own_by (fun _ k => XS.iload X38.here hx rfl (hb hby d4_69) rfl k) ?_
      show own_Go p e below _ (T38.setTop (mkF m 71 #[.val (.ref a0), .val (.long q1), .second, .val (.int p2), .val (.double d3), .second, .val (.double d4), .second, .val (.int p5), .val (.int (0 : Int32)), .val (.long v12), .second, .val (.int (0 : Int32)), .val (.int (0 : Int32))] [(.int (0 : Int32)), (.ref f_a0_entries), (.int (0 : Int32)), (.ref f_a0_entries)]))
      refine own_by (fun _ k => XS.iconst X38.here hx rfl (hb hby d4_71) k) ?_
      show own_Go p e below _ (T38.setTop (mkF m 72 #[.val (.ref a0), .val (.long q1), .second, .val (.int p2), .val (.double d3), .second, .val (.double d4), .second, .val (.int p5), .val (.int (0 : Int32)), .val (.long v12), .second, .val (.int (0 : Int32)), .val (.int (0 : Int32))] [(.int (4 : Int32)), (.int (0 : Int32)), (.ref f_a0_entries), (.int (0 : Int32)), (.ref f_a0_entries)]))
      refine own_by (fun _ k => XS.iadd X38.here hx rfl (hb hby d4_72) rfl k) ?_
      show own_Go p e below _ (T38.setTop (mkF m 73 #[.val (.ref a0), .val (.long q1), .second, .val (.int p2), .val (.double d3), .second, .val (.double d4), .second, .val (.int p5), .val (.int (0 : Int32)), .val (.long v12), .second, .val (.int (0 : Int32)), .val (.int (0 : Int32))] [(.int (4 : Int32)), (.ref f_a0_entries), (.int (0 : Int32)), (.ref f_a0_entries)]))
      refine own_by (fun _ k => XS.iload X38.here hx rfl (hb hby d4_73) rfl k) ?_
      show own_Go p e below _ (T38.setTop (mkF m 75 #[.val (.ref a0), .val (.long q1), .second, .val (.int p2), .val (.double d3), .second, .val (.double d4), .second, .val (.int p5), .val (.int (0 : Int32)), .val (.long v12), .second, .val (.int (0 : Int32)), .val (.int (0 : Int32))] [(.int (0 : Int32)), (.int (4 : Int32)), (.ref f_a0_entries), (.int (0 : Int32)), (.ref f_a0_entries)]))
      refine own_by (fun _ k => XS.iload X38.here hx rfl (hb hby d4_75) rfl k) ?_
      show own_Go p e below _ (T38.setTop (mkF m 77 #[.val (.ref a0), .val (.long q1), .second, .val (.int p2), .val (.double d3), .second, .val (.double d4), .second, .val (.int p5), .val (.int (0 : Int32)), .val (.long v12), .second, .val (.int (0 : Int32)), .val (.int (0 : Int32))] [(.int (0 : Int32)), (.int (0 : Int32)), (.int (4 : Int32)), (.ref f_a0_entries), (.int (0 : Int32)), (.ref f_a0_entries)]))
      refine own_by (fun _ k => XS.isub X38.here hx rfl (hb hby d4_77) rfl k) ?_
      show own_Go p e below _ (T38.setTop (mkF m 78 #[.val (.ref a0), .val (.long q1), .second, .val (.int p2), .val (.double d3), .second, .val (.double d4), .second, .val (.int p5), .val (.int (0 : Int32)), .val (.long v12), .second, .val (.int (0 : Int32)), .val (.int (0 : Int32))] [(.int (0 : Int32)), (.int (4 : Int32)), (.ref f_a0_entries), (.int (0 : Int32)), (.ref f_a0_entries)]))
      obtain ⟨T39, h39, L39, X39, e39, N39, Kq39, V39, st39⟩ := own_cpA X38 hx hZ hown (hw _ (List.mem_of_getElem? (i := 40) rfl)) (hw _ (List.mem_of_getElem? (i := 43) rfl)) (hw _ (List.mem_of_getElem? (i := 41) rfl)) (hw _ (List.mem_of_getElem? (i := 42) rfl)) e38 P_V_f_a0_entries P_V_f_a0_entries (by decide) (by decide) (by decide) (by decide) (by decide) (by decide) N13 g_f_a0_entries (g := (mkF m 78 #[.val (.ref a0), .val (.long q1), .second, .val (.int p2), .val (.double d3), .second, .val (.double d4), .second, .val (.int p5), .val (.int (0 : Int32)), .val (.long v12), .second, .val (.int (0 : Int32)), .val (.int (0 : Int32))] [(.int (0 : Int32)), (.int (4 : Int32)), (.ref f_a0_entries), (.int (0 : Int32)), (.ref f_a0_entries)])) rfl (by rw [hml]; rfl) rfl (hb hby d4_78) (by decide) (W := 0) (by show 2 * 0 + _ ≤ _; exact Nat.le_of_eq rfl) (by decide)
      have V39' : own_Arf Z h39 f_a0_entries k_f_a0_entries .long (8 : Int32) (fun i => .long ((own_cp fn_f_a0_entries 0 fn_f_a0_entries 4 0) i)) := by rw [← own_cpJ]; exact V39
      have K39 : Keep h0 h39 [f_a0_entries] := (Keep.refl h0 [f_a0_entries]).trans Kq39 ((allS (Or.inl (List.mem_of_getElem? (i := 0) rfl)) all0))
      have Z39 : n0 ≤ h39.size := Nat.le_trans Z0 Kq39.1
      refine own_by st39 ?_
      show own_Go p e below _ (T39.setTop (mkF m 81 #[.val (.ref a0), .val (.long q1), .second, .val (.int p2), .val (.double d3), .second, .val (.double d4), .second, .val (.int p5), .val (.int (0 : Int32)), .val (.long v12), .second, .val (.int (0 : Int32)), .val (.int (0 : Int32))] []))
      refine own_by (fun _ k => XS.aloadN X39.here hx rfl (hb hby d4_81) rfl rfl k) ?_
      show own_Go p e below _ (T39.setTop (mkF m 82 #[.val (.ref a0), .val (.long q1), .second, .val (.int p2), .val (.double d3), .second, .val (.double d4), .second, .val (.int p5), .val (.int (0 : Int32)), .val (.long v12), .second, .val (.int (0 : Int32)), .val (.int (0 : Int32))] [(.ref a0)]))
      have F40 : Fld Z h39 a0 "com/example/plyward/plyward/search/TranspositionTable" "entries" "[J" (.ref f_a0_entries) := (P_F_a0_entries.keep Kq39 (ninS (own_neArr (P_E_a0.keep Kq39) (hw _ (List.mem_of_getElem? (i := 2) rfl)) V39') nin0))
      obtain ⟨T41, X41, e41, st41⟩ := getF X39 hx hZ hown (host := "") (Or.inl (hw _ (List.mem_of_getElem? (i := 15) rfl))) Via.refl e39 F40 (g := (mkF m 82 #[.val (.ref a0), .val (.long q1), .second, .val (.int p2), .val (.double d3), .second, .val (.double d4), .second, .val (.int p5), .val (.int (0 : Int32)), .val (.long v12), .second, .val (.int (0 : Int32)), .val (.int (0 : Int32))] [(.ref a0)])) rfl rfl (hb hby d4_82)
      refine own_by st41 ?_
      show own_Go p e below _ (T41.setTop (mkF m 85 #[.val (.ref a0), .val (.long q1), .second, .val (.int p2), .val (.double d3), .second, .val (.double d4), .second, .val (.int p5), .val (.int (0 : Int32)), .val (.long v12), .second, .val (.int (0 : Int32)), .val (.int (0 : Int32))] [(.ref f_a0_entries)]))
      refine own_by (fun _ k => XS.iload X41.here hx rfl (hb hby d4_85) rfl k) ?_
      show own_Go p e below _ (T41.setTop (mkF m 87 #[.val (.ref a0), .val (.long q1), .second, .val (.int p2), .val (.double d3), .second, .val (.double d4), .second, .val (.int p5), .val (.int (0 : Int32)), .val (.long v12), .second, .val (.int (0 : Int32)), .val (.int (0 : Int32))] [(.int (0 : Int32)), (.ref f_a0_entries)]))
      refine own_by (fun _ k => XS.lloadN X41.here hx rfl (hb hby d4_87) rfl k) ?_
      show own_Go p e below _ (T41.setTop (mkF m 88 #[.val (.ref a0), .val (.long q1), .second, .val (.int p2), .val (.double d3), .second, .val (.double d4), .second, .val (.int p5), .val (.int (0 : Int32)), .val (.long v12), .second, .val (.int (0 : Int32)), .val (.int (0 : Int32))] [(.long q1), (.int (0 : Int32)), (.ref f_a0_entries)]))
      obtain ⟨cl42, Ar42, qq42, S42, M42, H42, G42⟩ := id V39'
      have hin42 : ¬ ((0 : Int32) < 0 ∨ cl42.slots.size ≤ ((0 : Int32)).toNatClampNeg) := inb_of S42 ⟨by decide, by decide⟩
      obtain ⟨T43, h43, X43, e43, W43, st43⟩ := stJ X41 hx hZ e41 Ar42 (j := (0 : Int32)) hin42 (g := (mkF m 88 #[.val (.ref a0), .val (.long q1), .second, .val (.int p2), .val (.double d3), .second, .val (.double d4), .second, .val (.int p5), .val (.int (0 : Int32)), .val (.long v12), .second, .val (.int (0 : Int32)), .val (.int (0 : Int32))] [(.long q1), (.int (0 : Int32)), (.ref f_a0_entries)])) rfl rfl (hb hby d4_88)
      have V43 : own_Arf Z h43 f_a0_entries k_f_a0_entries .long (8 : Int32) (fun i => .long ((own_upd (own_cp fn_f_a0_entries 0 fn_f_a0_entries 4 0) 0 q1) i)) := own_arfSetJ Ar42 qq42 S42 M42 H42 G42 rfl W43
      have K43 : Keep h0 h43 [f_a0_entries] := K39.wr W43 (Or.inl (List.mem_of_getElem? (i := 0) rfl))
      have Z43 : n0 ≤ h43.size := Nat.le_trans Z39 (Keep.of_wr W43).1
      have N43 := Fr.snoc X43 N39 g_f_a0_entries
      refine own_by st43 ?_
      show own_Go p e below _ (T43.setTop (mkF m 89 #[.val (.ref a0), .val (.long q1), .second, .val (.int p2), .val (.double d3), .second, .val (.double d4), .second, .val (.int p5), .val (.int (0 : Int32)), .val (.long v12), .second, .val (.int (0 : Int32)), .val (.int (0 : Int32))] []))
      refine own_by (fun _ k => XS.aloadN X43.here hx rfl (hb hby d4_89) rfl rfl k) ?_
      show own_Go p e below _ (T43.setTop (mkF m 90 #[.val (.ref a0), .val (.long q1), .second, .val (.int p2), .val (.double d3), .second, .val (.double d4), .second, .val (.int p5), .val (.int (0 : Int32)), .val (.long v12), .second, .val (.int (0 : Int32)), .val (.int (0 : Int32))] [(.ref a0)]))
      have F44 : Fld Z h43 a0 "com/example/plyward/plyward/search/TranspositionTable" "entries" "[J" (.ref f_a0_entries) := (F40.other W43 (Or.inl (own_neArr ((P_E_a0.keep Kq39).wr W43) (hw _ (List.mem_of_getElem? (i := 2) rfl)) V43)))
      obtain ⟨T45, X45, e45, st45⟩ := getF X43 hx hZ hown (host := "") (Or.inl (hw _ (List.mem_of_getElem? (i := 15) rfl))) Via.refl e43 F44 (g := (mkF m 90 #[.val (.ref a0), .val (.long q1), .second, .val (.int p2), .val (.double d3), .second, .val (.double d4), .second, .val (.int p5), .val (.int (0 : Int32)), .val (.long v12), .second, .val (.int (0 : Int32)), .val (.int (0 : Int32))] [(.ref a0)])) rfl rfl (hb hby d4_90)
      refine own_by st45 ?_
      show own_Go p e below _ (T45.setTop (mkF m 93 #[.val (.ref a0), .val (.long q1), .second, .val (.int p2), .val (.double d3), .second, .val (.double d4), .second, .val (.int p5), .val (.int (0 : Int32)), .val (.long v12), .second, .val (.int (0 : Int32)), .val (.int (0 : Int32))] [(.ref f_a0_entries)]))
      refine own_by (fun _ k => XS.iload X45.here hx rfl (hb hby d4_93) rfl k) ?_
      show own_Go p e below _ (T45.setTop (mkF m 95 #[.val (.ref a0), .val (.long q1), .second, .val (.int p2), .val (.double d3), .second, .val (.double d4), .second, .val (.int p5), .val (.int (0 : Int32)), .val (.long v12), .second, .val (.int (0 : Int32)), .val (.int (0 : Int32))] [(.int (0 : Int32)), (.ref f_a0_entries)]))
      refine own_by (fun _ k => XS.iconst X45.here hx rfl (hb hby d4_95) k) ?_
      show own_Go p e below _ (T45.setTop (mkF m 96 #[.val (.ref a0), .val (.long q1), .second, .val (.int p2), .val (.double d3), .second, .val (.double d4), .second, .val (.int p5), .val (.int (0 : Int32)), .val (.long v12), .second, .val (.int (0 : Int32)), .val (.int (0 : Int32))] [(.int (1 : Int32)), (.int (0 : Int32)), (.ref f_a0_entries)]))
      refine own_by (fun _ k => XS.iadd X45.here hx rfl (hb hby d4_96) rfl k) ?_
      show own_Go p e below _ (T45.setTop (mkF m 97 #[.val (.ref a0), .val (.long q1), .second, .val (.int p2), .val (.double d3), .second, .val (.double d4), .second, .val (.int p5), .val (.int (0 : Int32)), .val (.long v12), .second, .val (.int (0 : Int32)), .val (.int (0 : Int32))] [(.int (1 : Int32)), (.ref f_a0_entries)]))
      refine own_by (fun _ k => XS.dload X45.here hx rfl (hb hby d4_97) rfl k) ?_
      show own_Go p e below _ (T45.setTop (mkF m 99 #[.val (.ref a0), .val (.long q1), .second, .val (.int p2), .val (.double d3), .second, .val (.double d4), .second, .val (.int p5), .val (.int (0 : Int32)), .val (.long v12), .second, .val (.int (0 : Int32)), .val (.int (0 : Int32))] [(.double d3), (.int (1 : Int32)), (.ref f_a0_entries)]))
      obtain ⟨T46, X46, e46, st46⟩ := own_d2bits X45 hx hZ hown (hw _ (List.mem_of_getElem? (i := 44) rfl)) (hw _ (List.mem_of_getElem? (i := 47) rfl)) (hw _ (List.mem_of_getElem? (i := 45) rfl)) (hw _ (List.mem_of_getElem? (i := 46) rfl)) e45 (g := (mkF m 99 #[.val (.ref a0), .val (.long q1), .second, .val (.int p2), .val (.double d3), .second, .val (.double d4), .second, .val (.int p5), .val (.int (0 : Int32)), .val (.long v12), .second, .val (.int (0 : Int32)), .val (.int (0 : Int32))] [(.double d3), (.int (1 : Int32)), (.ref f_a0_entries)])) rfl (by rw [hml]; rfl) rfl (hb hby d4_99) (by decide) (W := 2) (by show 2 * 0 + _ ≤ _; exact Nat.le_of_eq rfl) (by decide)
      refine own_by st46 ?_
      show own_Go p e below _ (T46.setTop (mkF m 102 #[.val (.ref a0), .val (.long q1), .second, .val (.int p2), .val (.double d3), .second, .val (.double d4), .second, .val (.int p5), .val (.int (0 : Int32)), .val (.long v12), .second, .val (.int (0 : Int32)), .val (.int (0 : Int32))] [(.long (d3.toInt64)), (.int (1 : Int32)), (.ref f_a0_entries)]))
      obtain ⟨cl47, Ar47, qq47, S47, M47, H47, G47⟩ := id V43
      have hin47 : ¬ ((1 : Int32) < 0 ∨ cl47.slots.size ≤ ((1 : Int32)).toNatClampNeg) := inb_of S47 ⟨by decide, by decide⟩
      obtain ⟨T48, h48, X48, e48, W48, st48⟩ := stJ X46 hx hZ e46 Ar47 (j := (1 : Int32)) hin47 (g := (mkF m 102 #[.val (.ref a0), .val (.long q1), .second, .val (.int p2), .val (.double d3), .second, .val (.double d4), .second, .val (.int p5), .val (.int (0 : Int32)), .val (.long v12), .second, .val (.int (0 : Int32)), .val (.int (0 : Int32))] [(.long (d3.toInt64)), (.int (1 : Int32)), (.ref f_a0_entries)])) rfl rfl (hb hby d4_102)
      have V48 : own_Arf Z h48 f_a0_entries k_f_a0_entries .long (8 : Int32) (fun i => .long ((own_upd (own_upd (own_cp fn_f_a0_entries 0 fn_f_a0_entries 4 0) 0 q1) 1 (d3.toInt64)) i)) := own_arfSetJ Ar47 qq47 S47 M47 H47 G47 rfl W48
      have K48 : Keep h0 h48 [f_a0_entries] := K43.wr W48 (Or.inl (List.mem_of_getElem? (i := 0) rfl))
      have Z48 : n0 ≤ h48.size := Nat.le_trans Z43 (Keep.of_wr W48).1
      have N48 := Fr.snoc X48 N43 g_f_a0_entries
      refine own_by st48 ?_
      show own_Go p e below _ (T48.setTop (mkF m 103 #[.val (.ref a0), .val (.long q1), .second, .val (.int p2), .val (.double d3), .second, .val (.double d4), .second, .val (.int p5), .val (.int (0 : Int32)), .val (.long v12), .second, .val (.int (0 : Int32)), .val (.int (0 : Int32))] []))
      refine own_by (fun _ k => XS.aloadN X48.here hx rfl (hb hby d4_103) rfl rfl k) ?_
      show own_Go p e below _ (T48.setTop (mkF m 104 #[.val (.ref a0), .val (.long q1), .second, .val (.int p2), .val (.double d3), .second, .val (.double d4), .second, .val (.int p5), .val (.int (0 : Int32)), .val (.long v12), .second, .val (.int (0 : Int32)), .val (.int (0 : Int32))] [(.ref a0)]))
      have F49 : Fld Z h48 a0 "com/example/plyward/plyward/search/TranspositionTable" "entries" "[J" (.ref f_a0_entries) := (F44.other W48 (Or.inl (own_neArr (((P_E_a0.keep Kq39).wr W43).wr W48) (hw _ (List.mem_of_getElem? (i := 2) rfl)) V48)))
      obtain ⟨T50, X50, e50, st50⟩ := getF X48 hx hZ hown (host := "") (Or.inl (hw _ (List.mem_of_getElem? (i := 15) rfl))) Via.refl e48 F49 (g := (mkF m 104 #[.val (.ref a0), .val (.long q1), .second, .val (.int p2), .val (.double d3), .second, .val (.double d4), .second, .val (.int p5), .val (.int (0 : Int32)), .val (.long v12), .second, .val (.int (0 : Int32)), .val (.int (0 : Int32))] [(.ref a0)])) rfl rfl (hb hby d4_104)
      refine own_by st50 ?_
      show own_Go p e below _ (T50.setTop (mkF m 107 #[.val (.ref a0), .val (.long q1), .second, .val (.int p2), .val (.double d3), .second, .val (.double d4), .second, .val (.int p5), .val (.int (0 : Int32)), .val (.long v12), .second, .val (.int (0 : Int32)), .val (.int (0 : Int32))] [(.ref f_a0_entries)]))
      refine own_by (fun _ k => XS.iload X50.here hx rfl (hb hby d4_107) rfl k) ?_
      show own_Go p e below _ (T50.setTop (mkF m 109 #[.val (.ref a0), .val (.long q1), .second, .val (.int p2), .val (.double d3), .second, .val (.double d4), .second, .val (.int p5), .val (.int (0 : Int32)), .val (.long v12), .second, .val (.int (0 : Int32)), .val (.int (0 : Int32))] [(.int (0 : Int32)), (.ref f_a0_entries)]))
      refine own_by (fun _ k => XS.iconst X50.here hx rfl (hb hby d4_109) k) ?_
      show own_Go p e below _ (T50.setTop (mkF m 110 #[.val (.ref a0), .val (.long q1), .second, .val (.int p2), .val (.double d3), .second, .val (.double d4), .second, .val (.int p5), .val (.int (0 : Int32)), .val (.long v12), .second, .val (.int (0 : Int32)), .val (.int (0 : Int32))] [(.int (2 : Int32)), (.int (0 : Int32)), (.ref f_a0_entries)]))
      refine own_by (fun _ k => XS.iadd X50.here hx rfl (hb hby d4_110) rfl k) ?_
      show own_Go p e below _ (T50.setTop (mkF m 111 #[.val (.ref a0), .val (.long q1), .second, .val (.int p2), .val (.double d3), .second, .val (.double d4), .second, .val (.int p5), .val (.int (0 : Int32)), .val (.long v12), .second, .val (.int (0 : Int32)), .val (.int (0 : Int32))] [(.int (2 : Int32)), (.ref f_a0_entries)]))
      refine own_by (fun _ k => XS.dload X50.here hx rfl (hb hby d4_111) rfl k) ?_
      show own_Go p e below _ (T50.setTop (mkF m 113 #[.val (.ref a0), .val (.long q1), .second, .val (.int p2), .val (.double d3), .second, .val (.double d4), .second, .val (.int p5), .val (.int (0 : Int32)), .val (.long v12), .second, .val (.int (0 : Int32)), .val (.int (0 : Int32))] [(.double d4), (.int (2 : Int32)), (.ref f_a0_entries)]))
      obtain ⟨T51, X51, e51, st51⟩ := own_d2bits X50 hx hZ hown (hw _ (List.mem_of_getElem? (i := 44) rfl)) (hw _ (List.mem_of_getElem? (i := 47) rfl)) (hw _ (List.mem_of_getElem? (i := 45) rfl)) (hw _ (List.mem_of_getElem? (i := 46) rfl)) e50 (g := (mkF m 113 #[.val (.ref a0), .val (.long q1), .second, .val (.int p2), .val (.double d3), .second, .val (.double d4), .second, .val (.int p5), .val (.int (0 : Int32)), .val (.long v12), .second, .val (.int (0 : Int32)), .val (.int (0 : Int32))] [(.double d4), (.int (2 : Int32)), (.ref f_a0_entries)])) rfl (by rw [hml]; rfl) rfl (hb hby d4_113) (by decide) (W := 2) (by show 2 * 0 + _ ≤ _; exact Nat.le_of_eq rfl) (by decide)
      refine own_by st51 ?_
      show own_Go p e below _ (T51.setTop (mkF m 116 #[.val (.ref a0), .val (.long q1), .second, .val (.int p2), .val (.double d3), .second, .val (.double d4), .second, .val (.int p5), .val (.int (0 : Int32)), .val (.long v12), .second, .val (.int (0 : Int32)), .val (.int (0 : Int32))] [(.long (d4.toInt64)), (.int (2 : Int32)), (.ref f_a0_entries)]))
      obtain ⟨cl52, Ar52, qq52, S52, M52, H52, G52⟩ := id V48
      have hin52 : ¬ ((2 : Int32) < 0 ∨ cl52.slots.size ≤ ((2 : Int32)).toNatClampNeg) := inb_of S52 ⟨by decide, by decide⟩
      obtain ⟨T53, h53, X53, e53, W53, st53⟩ := stJ X51 hx hZ e51 Ar52 (j := (2 : Int32)) hin52 (g := (mkF m 116 #[.val (.ref a0), .val (.long q1), .second, .val (.int p2), .val (.double d3), .second, .val (.double d4), .second, .val (.int p5), .val (.int (0 : Int32)), .val (.long v12), .second, .val (.int (0 : Int32)), .val (.int (0 : Int32))] [(.long (d4.toInt64)), (.int (2 : Int32)), (.ref f_a0_entries)])) rfl rfl (hb hby d4_116)
      have V53 : own_Arf Z h53 f_a0_entries k_f_a0_entries .long (8 : Int32) (fun i => .long ((own_upd (own_upd (own_upd (own_cp fn_f_a0_entries 0 fn_f_a0_entries 4 0) 0 q1) 1 (d3.toInt64)) 2 (d4.toInt64)) i)) := own_arfSetJ Ar52 qq52 S52 M52 H52 G52 rfl W53
      have K53 : Keep h0 h53 [f_a0_entries] := K48.wr W53 (Or.inl (List.mem_of_getElem? (i := 0) rfl))
      have Z53 : n0 ≤ h53.size := Nat.le_trans Z48 (Keep.of_wr W53).1
      have N53 := Fr.snoc X53 N48 g_f_a0_entries
      refine own_by st53 ?_
      show own_Go p e below _ (T53.setTop (mkF m 117 #[.val (.ref a0), .val (.long q1), .second, .val (.int p2), .val (.double d3), .second, .val (.double d4), .second, .val (.int p5), .val (.int (0 : Int32)), .val (.long v12), .second, .val (.int (0 : Int32)), .val (.int (0 : Int32))] []))
      refine own_by (fun _ k => XS.aloadN X53.here hx rfl (hb hby d4_117) rfl rfl k) ?_
      show own_Go p e below _ (T53.setTop (mkF m 118 #[.val (.ref a0), .val (.long q1), .second, .val (.int p2), .val (.double d3), .second, .val (.double d4), .second, .val (.int p5), .val (.int (0 : Int32)), .val (.long v12), .second, .val (.int (0 : Int32)), .val (.int (0 : Int32))] [(.ref a0)]))
      have F54 : Fld Z h53 a0 "com/example/plyward/plyward/search/TranspositionTable" "entries" "[J" (.ref f_a0_entries) := (F49.other W53 (Or.inl (own_neArr ((((P_E_a0.keep Kq39).wr W43).wr W48).wr W53) (hw _ (List.mem_of_getElem? (i := 2) rfl)) V53)))
      obtain ⟨T55, X55, e55, st55⟩ := getF X53 hx hZ hown (host := "") (Or.inl (hw _ (List.mem_of_getElem? (i := 15) rfl))) Via.refl e53 F54 (g := (mkF m 118 #[.val (.ref a0), .val (.long q1), .second, .val (.int p2), .val (.double d3), .second, .val (.double d4), .second, .val (.int p5), .val (.int (0 : Int32)), .val (.long v12), .second, .val (.int (0 : Int32)), .val (.int (0 : Int32))] [(.ref a0)])) rfl rfl (hb hby d4_118)
      refine own_by st55 ?_
      show own_Go p e below _ (T55.setTop (mkF m 121 #[.val (.ref a0), .val (.long q1), .second, .val (.int p2), .val (.double d3), .second, .val (.double d4), .second, .val (.int p5), .val (.int (0 : Int32)), .val (.long v12), .second, .val (.int (0 : Int32)), .val (.int (0 : Int32))] [(.ref f_a0_entries)]))
      refine own_by (fun _ k => XS.iload X55.here hx rfl (hb hby d4_121) rfl k) ?_
      show own_Go p e below _ (T55.setTop (mkF m 123 #[.val (.ref a0), .val (.long q1), .second, .val (.int p2), .val (.double d3), .second, .val (.double d4), .second, .val (.int p5), .val (.int (0 : Int32)), .val (.long v12), .second, .val (.int (0 : Int32)), .val (.int (0 : Int32))] [(.int (0 : Int32)), (.ref f_a0_entries)]))
      refine own_by (fun _ k => XS.iconst X55.here hx rfl (hb hby d4_123) k) ?_
      show own_Go p e below _ (T55.setTop (mkF m 124 #[.val (.ref a0), .val (.long q1), .second, .val (.int p2), .val (.double d3), .second, .val (.double d4), .second, .val (.int p5), .val (.int (0 : Int32)), .val (.long v12), .second, .val (.int (0 : Int32)), .val (.int (0 : Int32))] [(.int (3 : Int32)), (.int (0 : Int32)), (.ref f_a0_entries)]))
      refine own_by (fun _ k => XS.iadd X55.here hx rfl (hb hby d4_124) rfl k) ?_
      show own_Go p e below _ (T55.setTop (mkF m 125 #[.val (.ref a0), .val (.long q1), .second, .val (.int p2), .val (.double d3), .second, .val (.double d4), .second, .val (.int p5), .val (.int (0 : Int32)), .val (.long v12), .second, .val (.int (0 : Int32)), .val (.int (0 : Int32))] [(.int (3 : Int32)), (.ref f_a0_entries)]))
      refine own_by (fun _ k => XS.lload X55.here hx rfl (hb hby d4_125) rfl k) ?_
      show own_Go p e below _ (T55.setTop (mkF m 127 #[.val (.ref a0), .val (.long q1), .second, .val (.int p2), .val (.double d3), .second, .val (.double d4), .second, .val (.int p5), .val (.int (0 : Int32)), .val (.long v12), .second, .val (.int (0 : Int32)), .val (.int (0 : Int32))] [(.long v12), (.int (3 : Int32)), (.ref f_a0_entries)]))
      obtain ⟨cl56, Ar56, qq56, S56, M56, H56, G56⟩ := id V53
      have hin56 : ¬ ((3 : Int32) < 0 ∨ cl56.slots.size ≤ ((3 : Int32)).toNatClampNeg) := inb_of S56 ⟨by decide, by decide⟩
      obtain ⟨T57, h57, X57, e57, W57, st57⟩ := stJ X55 hx hZ e55 Ar56 (j := (3 : Int32)) hin56 (g := (mkF m 127 #[.val (.ref a0), .val (.long q1), .second, .val (.int p2), .val (.double d3), .second, .val (.double d4), .second, .val (.int p5), .val (.int (0 : Int32)), .val (.long v12), .second, .val (.int (0 : Int32)), .val (.int (0 : Int32))] [(.long v12), (.int (3 : Int32)), (.ref f_a0_entries)])) rfl rfl (hb hby d4_127)
      have V57 : own_Arf Z h57 f_a0_entries k_f_a0_entries .long (8 : Int32) (fun i => .long ((own_upd (own_upd (own_upd (own_upd (own_cp fn_f_a0_entries 0 fn_f_a0_entries 4 0) 0 q1) 1 (d3.toInt64)) 2 (d4.toInt64)) 3 v12) i)) := own_arfSetJ Ar56 qq56 S56 M56 H56 G56 rfl W57
      have K57 : Keep h0 h57 [f_a0_entries] := K53.wr W57 (Or.inl (List.mem_of_getElem? (i := 0) rfl))
      have Z57 : n0 ≤ h57.size := Nat.le_trans Z53 (Keep.of_wr W57).1
      have N57 := Fr.snoc X57 N53 g_f_a0_entries
      refine own_by st57 ?_
      show own_Go p e below _ (T57.setTop (mkF m 128 #[.val (.ref a0), .val (.long q1), .second, .val (.int p2), .val (.double d3), .second, .val (.double d4), .second, .val (.int p5), .val (.int (0 : Int32)), .val (.long v12), .second, .val (.int (0 : Int32)), .val (.int (0 : Int32))] []))
      exact own_ret0 X57 hx Bd.returns (hb hby d4_128) hlk e57 ⟨(own_upd (own_upd (own_upd (own_upd (own_cp fn_f_a0_entries 0 fn_f_a0_entries 4 0) 0 q1) 1 (d3.toInt64)) 2 (d4.toInt64)) 3 v12), rfl, N57, K57, V57, (Or.inr (Or.inl ⟨y9, v12, hj10, hv12, hp15, rfl⟩))⟩ (by decide) (by decide)
    · skip
      show own_Go p e below _ (T13.setTop (mkF m 40 #[.val (.ref a0), .val (.long q1), .second, .val (.int p2), .val (.double d3), .second, .val (.double d4), .second, .val (.int p5), .val (.int (0 : Int32)), .val (.long v12), .second, .val (.int (4 : Int32)), .unset] []))
      refine own_by (fun _ k => XS.iload X13.here hx rfl (hb hby d4_40) rfl k) ?_
      show own_Go p e below _ (T13.setTop (mkF m 42 #[.val (.ref a0), .val (.long q1), .second, .val (.int p2), .val (.double d3), .second, .val (.double d4), .second, .val (.int p5), .val (.int (0 : Int32)), .val (.long v12), .second, .val (.int (4 : Int32)), .unset] [(.int (4 : Int32))]))
      refine own_by (fun _ k => XS.ifNo X13.here hx rfl (hb hby d4_42) rfl ((if0 _ _).trans (flt (by decide : ¬ ((4 : Int32) < (0 : Int32)))).1) k) ?_
      show own_Go p e below _ (T13.setTop (mkF m 45 #[.val (.ref a0), .val (.long q1), .second, .val (.int p2), .val (.double d3), .second, .val (.double d4), .second, .val (.int p5), .val (.int (0 : Int32)), .val (.long v12), .second, .val (.int (4 : Int32)), .unset] []))
      refine own_by (fun _ k => XS.iload X13.here hx rfl (hb hby d4_45) rfl k) ?_
      show own_Go p e below _ (T13.setTop (mkF m 47 #[.val (.ref a0), .val (.long q1), .second, .val (.int p2), .val (.double d3), .second, .val (.double d4), .second, .val (.int p5), .val (.int (0 : Int32)), .val (.long v12), .second, .val (.int (4 : Int32)), .unset] [(.int (4 : Int32))]))
      refine own_by (fun _ k => XS.goto X13.here hx rfl (pc0 := 47) (pc' := 57) rfl (hb hby d4_47) (by decide) (by decide) k) ?_
      show own_Go p e below _ (T13.setTop (mkF m 57 #[.val (.ref a0), .val (.long q1), .second, .val (.int p2), .val (.double d3), .second, .val (.double d4), .second, .val (.int p5), .val (.int (0 : Int32)), .val (.long v12), .second, .val (.int (4 : Int32)), .unset] [(.int (4 : Int32))]))
      refine own_by (fun _ k => XS.istore X13.here hx rfl (hb hby d4_57) rfl (l' := #[.val (.ref a0), .val (.long q1), .second, .val (.int p2), .val (.double d3), .second, .val (.double d4), .second, .val (.int p5), .val (.int (0 : Int32)), .val (.long v12), .second, .val (.int (4 : Int32)), .val (.int (4 : Int32))]) rfl k) ?_
      show own_Go p e below _ (T13.setTop (mkF m 59 #[.val (.ref a0), .val (.long q1), .second, .val (.int p2), .val (.double d3), .second, .val (.double d4), .second, .val (.int p5), .val (.int (0 : Int32)), .val (.long v12), .second, .val (.int (4 : Int32)), .val (.int (4 : Int32))] []))
      refine own_by (fun _ k => XS.aloadN X13.here hx rfl (hb hby d4_59) rfl rfl k) ?_
      show own_Go p e below _ (T13.setTop (mkF m 60 #[.val (.ref a0), .val (.long q1), .second, .val (.int p2), .val (.double d3), .second, .val (.double d4), .second, .val (.int p5), .val (.int (0 : Int32)), .val (.long v12), .second, .val (.int (4 : Int32)), .val (.int (4 : Int32))] [(.ref a0)]))
      obtain ⟨T58, X58, e58, st58⟩ := getF X13 hx hZ hown (host := "") (Or.inl (hw _ (List.mem_of_getElem? (i := 15) rfl))) Via.refl eq13 P_F_a0_entries (g := (mkF m 60 #[.val (.ref a0), .val (.long q1), .second, .val (.int p2), .val (.double d3), .second, .val (.double d4), .second, .val (.int p5), .val (.int (0 : Int32)), .val (.long v12), .second, .val (.int (4 : Int32)), .val (.int (4 : Int32))] [(.ref a0)])) rfl rfl (hb hby d4_60)
      refine own_by st58 ?_
      show own_Go p e below _ (T58.setTop (mkF m 63 #[.val (.ref a0), .val (.long q1), .second, .val (.int p2), .val (.double d3), .second, .val (.double d4), .second, .val (.int p5), .val (.int (0 : Int32)), .val (.long v12), .second, .val (.int (4 : Int32)), .val (.int (4 : Int32))] [(.ref f_a0_entries)]))
      refine own_by (fun _ k => XS.iload X58.here hx rfl (hb hby d4_63) rfl k) ?_
      show own_Go p e below _ (T58.setTop (mkF m 65 #[.val (.ref a0), .val (.long q1), .second, .val (.int p2), .val (.double d3), .second, .val (.double d4), .second, .val (.int p5), .val (.int (0 : Int32)), .val (.long v12), .second, .val (.int (4 : Int32)), .val (.int (4 : Int32))] [(.int (0 : Int32)), (.ref f_a0_entries)]))
      refine own_by (fun _ k => XS.aloadN X58.here hx rfl (hb hby d4_65) rfl rfl k) ?_
      show own_Go p e below _ (T58.setTop (mkF m 66 #[.val (.ref a0), .val (.long q1), .second, .val (.int p2), .val (.double d3), .second, .val (.double d4), .second, .val (.int p5), .val (.int (0 : Int32)), .val (.long v12), .second, .val (.int (4 : Int32)), .val (.int (4 : Int32))] [(.ref a0), (.int (0 : Int32)), (.ref f_a0_entries)]))
      obtain ⟨T59, X59, e59, st59⟩ := getF X58 hx hZ hown (host := "") (Or.inl (hw _ (List.mem_of_getElem? (i := 15) rfl))) Via.refl e58 P_F_a0_entries (g := (mkF m 66 #[.val (.ref a0), .val (.long q1), .second, .val (.int p2), .val (.double d3), .second, .val (.double d4), .second, .val (.int p5), .val (.int (0 : Int32)), .val (.long v12), .second, .val (.int (4 : Int32)), .val (.int (4 : Int32))] [(.ref a0), (.int (0 : Int32)), (.ref f_a0_entries)])) rfl rfl (hb hby d4_66)
      refine own_by st59 ?_
      show own_Go p e below _ (T59.setTop (mkF m 69 #[.val (.ref a0), .val (.long q1), .second, .val (.int p2), .val (.double d3), .second, .val (.double d4), .second, .val (.int p5), .val (.int (0 : Int32)), .val (.long v12), .second, .val (.int (4 : Int32)), .val (.int (4 : Int32))] [(.ref f_a0_entries), (.int (0 : Int32)), (.ref f_a0_entries)]))
      refine own_by (fun _ k => XS.iload X59.here hx rfl (hb hby d4_69) rfl k) ?_
      show own_Go p e below _ (T59.setTop (mkF m 71 #[.val (.ref a0), .val (.long q1), .second, .val (.int p2), .val (.double d3), .second, .val (.double d4), .second, .val (.int p5), .val (.int (0 : Int32)), .val (.long v12), .second, .val (.int (4 : Int32)), .val (.int (4 : Int32))] [(.int (0 : Int32)), (.ref f_a0_entries), (.int (0 : Int32)), (.ref f_a0_entries)]))
      refine own_by (fun _ k => XS.iconst X59.here hx rfl (hb hby d4_71) k) ?_
      show own_Go p e below _ (T59.setTop (mkF m 72 #[.val (.ref a0), .val (.long q1), .second, .val (.int p2), .val (.double d3), .second, .val (.double d4), .second, .val (.int p5), .val (.int (0 : Int32)), .val (.long v12), .second, .val (.int (4 : Int32)), .val (.int (4 : Int32))] [(.int (4 : Int32)), (.int (0 : Int32)), (.ref f_a0_entries), (.int (0 : Int32)), (.ref f_a0_entries)]))
      refine own_by (fun _ k => XS.iadd X59.here hx rfl (hb hby d4_72) rfl k) ?_
      show own_Go p e below _ (T59.setTop (mkF m 73 #[.val (.ref a0), .val (.long q1), .second, .val (.int p2), .val (.double d3), .second, .val (.double d4), .second, .val (.int p5), .val (.int (0 : Int32)), .val (.long v12), .second, .val (.int (4 : Int32)), .val (.int (4 : Int32))] [(.int (4 : Int32)), (.ref f_a0_entries), (.int (0 : Int32)), (.ref f_a0_entries)]))
      refine own_by (fun _ k => XS.iload X59.here hx rfl (hb hby d4_73) rfl k) ?_
      show own_Go p e below _ (T59.setTop (mkF m 75 #[.val (.ref a0), .val (.long q1), .second, .val (.int p2), .val (.double d3), .second, .val (.double d4), .second, .val (.int p5), .val (.int (0 : Int32)), .val (.long v12), .second, .val (.int (4 : Int32)), .val (.int (4 : Int32))] [(.int (4 : Int32)), (.int (4 : Int32)), (.ref f_a0_entries), (.int (0 : Int32)), (.ref f_a0_entries)]))
      refine own_by (fun _ k => XS.iload X59.here hx rfl (hb hby d4_75) rfl k) ?_
      show own_Go p e below _ (T59.setTop (mkF m 77 #[.val (.ref a0), .val (.long q1), .second, .val (.int p2), .val (.double d3), .second, .val (.double d4), .second, .val (.int p5), .val (.int (0 : Int32)), .val (.long v12), .second, .val (.int (4 : Int32)), .val (.int (4 : Int32))] [(.int (0 : Int32)), (.int (4 : Int32)), (.int (4 : Int32)), (.ref f_a0_entries), (.int (0 : Int32)), (.ref f_a0_entries)]))
      refine own_by (fun _ k => XS.isub X59.here hx rfl (hb hby d4_77) rfl k) ?_
      show own_Go p e below _ (T59.setTop (mkF m 78 #[.val (.ref a0), .val (.long q1), .second, .val (.int p2), .val (.double d3), .second, .val (.double d4), .second, .val (.int p5), .val (.int (0 : Int32)), .val (.long v12), .second, .val (.int (4 : Int32)), .val (.int (4 : Int32))] [(.int (4 : Int32)), (.int (4 : Int32)), (.ref f_a0_entries), (.int (0 : Int32)), (.ref f_a0_entries)]))
      obtain ⟨T60, h60, L60, X60, e60, N60, Kq60, V60, st60⟩ := own_cpA X59 hx hZ hown (hw _ (List.mem_of_getElem? (i := 40) rfl)) (hw _ (List.mem_of_getElem? (i := 43) rfl)) (hw _ (List.mem_of_getElem? (i := 41) rfl)) (hw _ (List.mem_of_getElem? (i := 42) rfl)) e59 P_V_f_a0_entries P_V_f_a0_entries (by decide) (by decide) (by decide) (by decide) (by decide) (by decide) N13 g_f_a0_entries (g := (mkF m 78 #[.val (.ref a0), .val (.long q1), .second, .val (.int p2), .val (.double d3), .second, .val (.double d4), .second, .val (.int p5), .val (.int (0 : Int32)), .val (.long v12), .second, .val (.int (4 : Int32)), .val (.int (4 : Int32))] [(.int (4 : Int32)), (.int (4 : Int32)), (.ref f_a0_entries), (.int (0 : Int32)), (.ref f_a0_entries)])) rfl (by rw [hml]; rfl) rfl (hb hby d4_78) (by decide) (W := 0) (by show 2 * 0 + _ ≤ _; exact Nat.le_of_eq rfl) (by decide)
      have V60' : own_Arf Z h60 f_a0_entries k_f_a0_entries .long (8 : Int32) (fun i => .long ((own_cp fn_f_a0_entries 0 fn_f_a0_entries 4 4) i)) := by rw [← own_cpJ]; exact V60
      have K60 : Keep h0 h60 [f_a0_entries] := (Keep.refl h0 [f_a0_entries]).trans Kq60 ((allS (Or.inl (List.mem_of_getElem? (i := 0) rfl)) all0))
      have Z60 : n0 ≤ h60.size := Nat.le_trans Z0 Kq60.1
      refine own_by st60 ?_
      show own_Go p e below _ (T60.setTop (mkF m 81 #[.val (.ref a0), .val (.long q1), .second, .val (.int p2), .val (.double d3), .second, .val (.double d4), .second, .val (.int p5), .val (.int (0 : Int32)), .val (.long v12), .second, .val (.int (4 : Int32)), .val (.int (4 : Int32))] []))
      refine own_by (fun _ k => XS.aloadN X60.here hx rfl (hb hby d4_81) rfl rfl k) ?_
      show own_Go p e below _ (T60.setTop (mkF m 82 #[.val (.ref a0), .val (.long q1), .second, .val (.int p2), .val (.double d3), .second, .val (.double d4), .second, .val (.int p5), .val (.int (0 : Int32)), .val (.long v12), .second, .val (.int (4 : Int32)), .val (.int (4 : Int32))] [(.ref a0)]))
      have F61 : Fld Z h60 a0 "com/example/plyward/plyward/search/TranspositionTable" "entries" "[J" (.ref f_a0_entries) := (P_F_a0_entries.keep Kq60 (ninS (own_neArr (P_E_a0.keep Kq60) (hw _ (List.mem_of_getElem? (i := 2) rfl)) V60') nin0))
      obtain ⟨T62, X62, e62, st62⟩ := getF X60 hx hZ hown (host := "") (Or.inl (hw _ (List.mem_of_getElem? (i := 15) rfl))) Via.refl e60 F61 (g := (mkF m 82 #[.val (.ref a0), .val (.long q1), .second, .val (.int p2), .val (.double d3), .second, .val (.double d4), .second, .val (.int p5), .val (.int (0 : Int32)), .val (.long v12), .second, .val (.int (4 : Int32)), .val (.int (4 : Int32))] [(.ref a0)])) rfl rfl (hb hby d4_82)
      refine own_by st62 ?_
      show own_Go p e below _ (T62.setTop (mkF m 85 #[.val (.ref a0), .val (.long q1), .second, .val (.int p2), .val (.double d3), .second, .val (.double d4), .second, .val (.int p5), .val (.int (0 : Int32)), .val (.long v12), .second, .val (.int (4 : Int32)), .val (.int (4 : Int32))] [(.ref f_a0_entries)]))
      refine own_by (fun _ k => XS.iload X62.here hx rfl (hb hby d4_85) rfl k) ?_
      show own_Go p e below _ (T62.setTop (mkF m 87 #[.val (.ref a0), .val (.long q1), .second, .val (.int p2), .val (.double d3), .second, .val (.double d4), .second, .val (.int p5), .val (.int (0 : Int32)), .val (.long v12), .second, .val (.int (4 : Int32)), .val (.int (4 : Int32))] [(.int (0 : Int32)), (.ref f_a0_entries)]))
      refine own_by (fun _ k => XS.lloadN X62.here hx rfl (hb hby d4_87) rfl k) ?_
      show own_Go p e below _ (T62.setTop (mkF m 88 #[.val (.ref a0), .val (.long q1), .second, .val (.int p2), .val (.double d3), .second, .val (.double d4), .second, .val (.int p5), .val (.int (0 : Int32)), .val (.long v12), .second, .val (.int (4 : Int32)), .val (.int (4 : Int32))] [(.long q1), (.int (0 : Int32)), (.ref f_a0_entries)]))
      obtain ⟨cl63, Ar63, qq63, S63, M63, H63, G63⟩ := id V60'
      have hin63 : ¬ ((0 : Int32) < 0 ∨ cl63.slots.size ≤ ((0 : Int32)).toNatClampNeg) := inb_of S63 ⟨by decide, by decide⟩
      obtain ⟨T64, h64, X64, e64, W64, st64⟩ := stJ X62 hx hZ e62 Ar63 (j := (0 : Int32)) hin63 (g := (mkF m 88 #[.val (.ref a0), .val (.long q1), .second, .val (.int p2), .val (.double d3), .second, .val (.double d4), .second, .val (.int p5), .val (.int (0 : Int32)), .val (.long v12), .second, .val (.int (4 : Int32)), .val (.int (4 : Int32))] [(.long q1), (.int (0 : Int32)), (.ref f_a0_entries)])) rfl rfl (hb hby d4_88)
      have V64 : own_Arf Z h64 f_a0_entries k_f_a0_entries .long (8 : Int32) (fun i => .long ((own_upd (own_cp fn_f_a0_entries 0 fn_f_a0_entries 4 4) 0 q1) i)) := own_arfSetJ Ar63 qq63 S63 M63 H63 G63 rfl W64
      have K64 : Keep h0 h64 [f_a0_entries] := K60.wr W64 (Or.inl (List.mem_of_getElem? (i := 0) rfl))
      have Z64 : n0 ≤ h64.size := Nat.le_trans Z60 (Keep.of_wr W64).1
      have N64 := Fr.snoc X64 N60 g_f_a0_entries
      refine own_by st64 ?_
      show own_Go p e below _ (T64.setTop (mkF m 89 #[.val (.ref a0), .val (.long q1), .second, .val (.int p2), .val (.double d3), .second, .val (.double d4), .second, .val (.int p5), .val (.int (0 : Int32)), .val (.long v12), .second, .val (.int (4 : Int32)), .val (.int (4 : Int32))] []))
      refine own_by (fun _ k => XS.aloadN X64.here hx rfl (hb hby d4_89) rfl rfl k) ?_
      show own_Go p e below _ (T64.setTop (mkF m 90 #[.val (.ref a0), .val (.long q1), .second, .val (.int p2), .val (.double d3), .second, .val (.double d4), .second, .val (.int p5), .val (.int (0 : Int32)), .val (.long v12), .second, .val (.int (4 : Int32)), .val (.int (4 : Int32))] [(.ref a0)]))
      have F65 : Fld Z h64 a0 "com/example/plyward/plyward/search/TranspositionTable" "entries" "[J" (.ref f_a0_entries) := (F61.other W64 (Or.inl (own_neArr ((P_E_a0.keep Kq60).wr W64) (hw _ (List.mem_of_getElem? (i := 2) rfl)) V64)))
      obtain ⟨T66, X66, e66, st66⟩ := getF X64 hx hZ hown (host := "") (Or.inl (hw _ (List.mem_of_getElem? (i := 15) rfl))) Via.refl e64 F65 (g := (mkF m 90 #[.val (.ref a0), .val (.long q1), .second, .val (.int p2), .val (.double d3), .second, .val (.double d4), .second, .val (.int p5), .val (.int (0 : Int32)), .val (.long v12), .second, .val (.int (4 : Int32)), .val (.int (4 : Int32))] [(.ref a0)])) rfl rfl (hb hby d4_90)
      refine own_by st66 ?_
      show own_Go p e below _ (T66.setTop (mkF m 93 #[.val (.ref a0), .val (.long q1), .second, .val (.int p2), .val (.double d3), .second, .val (.double d4), .second, .val (.int p5), .val (.int (0 : Int32)), .val (.long v12), .second, .val (.int (4 : Int32)), .val (.int (4 : Int32))] [(.ref f_a0_entries)]))
      refine own_by (fun _ k => XS.iload X66.here hx rfl (hb hby d4_93) rfl k) ?_
      show own_Go p e below _ (T66.setTop (mkF m 95 #[.val (.ref a0), .val (.long q1), .second, .val (.int p2), .val (.double d3), .second, .val (.double d4), .second, .val (.int p5), .val (.int (0 : Int32)), .val (.long v12), .second, .val (.int (4 : Int32)), .val (.int (4 : Int32))] [(.int (0 : Int32)), (.ref f_a0_entries)]))
      refine own_by (fun _ k => XS.iconst X66.here hx rfl (hb hby d4_95) k) ?_
      show own_Go p e below _ (T66.setTop (mkF m 96 #[.val (.ref a0), .val (.long q1), .second, .val (.int p2), .val (.double d3), .second, .val (.double d4), .second, .val (.int p5), .val (.int (0 : Int32)), .val (.long v12), .second, .val (.int (4 : Int32)), .val (.int (4 : Int32))] [(.int (1 : Int32)), (.int (0 : Int32)), (.ref f_a0_entries)]))
      refine own_by (fun _ k => XS.iadd X66.here hx rfl (hb hby d4_96) rfl k) ?_
      show own_Go p e below _ (T66.setTop (mkF m 97 #[.val (.ref a0), .val (.long q1), .second, .val (.int p2), .val (.double d3), .second, .val (.double d4), .second, .val (.int p5), .val (.int (0 : Int32)), .val (.long v12), .second, .val (.int (4 : Int32)), .val (.int (4 : Int32))] [(.int (1 : Int32)), (.ref f_a0_entries)]))
      refine own_by (fun _ k => XS.dload X66.here hx rfl (hb hby d4_97) rfl k) ?_
      show own_Go p e below _ (T66.setTop (mkF m 99 #[.val (.ref a0), .val (.long q1), .second, .val (.int p2), .val (.double d3), .second, .val (.double d4), .second, .val (.int p5), .val (.int (0 : Int32)), .val (.long v12), .second, .val (.int (4 : Int32)), .val (.int (4 : Int32))] [(.double d3), (.int (1 : Int32)), (.ref f_a0_entries)]))
      obtain ⟨T67, X67, e67, st67⟩ := own_d2bits X66 hx hZ hown (hw _ (List.mem_of_getElem? (i := 44) rfl)) (hw _ (List.mem_of_getElem? (i := 47) rfl)) (hw _ (List.mem_of_getElem? (i := 45) rfl)) (hw _ (List.mem_of_getElem? (i := 46) rfl)) e66 (g := (mkF m 99 #[.val (.ref a0), .val (.long q1), .second, .val (.int p2), .val (.double d3), .second, .val (.double d4), .second, .val (.int p5), .val (.int (0 : Int32)), .val (.long v12), .second, .val (.int (4 : Int32)), .val (.int (4 : Int32))] [(.double d3), (.int (1 : Int32)), (.ref f_a0_entries)])) rfl (by rw [hml]; rfl) rfl (hb hby d4_99) (by decide) (W := 2) (by show 2 * 0 + _ ≤ _; exact Nat.le_of_eq rfl) (by decide)
      refine own_by st67 ?_
      show own_Go p e below _ (T67.setTop (mkF m 102 #[.val (.ref a0), .val (.long q1), .second, .val (.int p2), .val (.double d3), .second, .val (.double d4), .second, .val (.int p5), .val (.int (0 : Int32)), .val (.long v12), .second, .val (.int (4 : Int32)), .val (.int (4 : Int32))] [(.long (d3.toInt64)), (.int (1 : Int32)), (.ref f_a0_entries)]))
      obtain ⟨cl68, Ar68, qq68, S68, M68, H68, G68⟩ := id V64
      have hin68 : ¬ ((1 : Int32) < 0 ∨ cl68.slots.size ≤ ((1 : Int32)).toNatClampNeg) := inb_of S68 ⟨by decide, by decide⟩
      obtain ⟨T69, h69, X69, e69, W69, st69⟩ := stJ X67 hx hZ e67 Ar68 (j := (1 : Int32)) hin68 (g := (mkF m 102 #[.val (.ref a0), .val (.long q1), .second, .val (.int p2), .val (.double d3), .second, .val (.double d4), .second, .val (.int p5), .val (.int (0 : Int32)), .val (.long v12), .second, .val (.int (4 : Int32)), .val (.int (4 : Int32))] [(.long (d3.toInt64)), (.int (1 : Int32)), (.ref f_a0_entries)])) rfl rfl (hb hby d4_102)
      have V69 : own_Arf Z h69 f_a0_entries k_f_a0_entries .long (8 : Int32) (fun i => .long ((own_upd (own_upd (own_cp fn_f_a0_entries 0 fn_f_a0_entries 4 4) 0 q1) 1 (d3.toInt64)) i)) := own_arfSetJ Ar68 qq68 S68 M68 H68 G68 rfl W69
      have K69 : Keep h0 h69 [f_a0_entries] := K64.wr W69 (Or.inl (List.mem_of_getElem? (i := 0) rfl))
      have Z69 : n0 ≤ h69.size := Nat.le_trans Z64 (Keep.of_wr W69).1
      have N69 := Fr.snoc X69 N64 g_f_a0_entries
      refine own_by st69 ?_
      show own_Go p e below _ (T69.setTop (mkF m 103 #[.val (.ref a0), .val (.long q1), .second, .val (.int p2), .val (.double d3), .second, .val (.double d4), .second, .val (.int p5), .val (.int (0 : Int32)), .val (.long v12), .second, .val (.int (4 : Int32)), .val (.int (4 : Int32))] []))
      refine own_by (fun _ k => XS.aloadN X69.here hx rfl (hb hby d4_103) rfl rfl k) ?_
      show own_Go p e below _ (T69.setTop (mkF m 104 #[.val (.ref a0), .val (.long q1), .second, .val (.int p2), .val (.double d3), .second, .val (.double d4), .second, .val (.int p5), .val (.int (0 : Int32)), .val (.long v12), .second, .val (.int (4 : Int32)), .val (.int (4 : Int32))] [(.ref a0)]))
      have F70 : Fld Z h69 a0 "com/example/plyward/plyward/search/TranspositionTable" "entries" "[J" (.ref f_a0_entries) := (F65.other W69 (Or.inl (own_neArr (((P_E_a0.keep Kq60).wr W64).wr W69) (hw _ (List.mem_of_getElem? (i := 2) rfl)) V69)))
      obtain ⟨T71, X71, e71, st71⟩ := getF X69 hx hZ hown (host := "") (Or.inl (hw _ (List.mem_of_getElem? (i := 15) rfl))) Via.refl e69 F70 (g := (mkF m 104 #[.val (.ref a0), .val (.long q1), .second, .val (.int p2), .val (.double d3), .second, .val (.double d4), .second, .val (.int p5), .val (.int (0 : Int32)), .val (.long v12), .second, .val (.int (4 : Int32)), .val (.int (4 : Int32))] [(.ref a0)])) rfl rfl (hb hby d4_104)
      refine own_by st71 ?_
      show own_Go p e below _ (T71.setTop (mkF m 107 #[.val (.ref a0), .val (.long q1), .second, .val (.int p2), .val (.double d3), .second, .val (.double d4), .second, .val (.int p5), .val (.int (0 : Int32)), .val (.long v12), .second, .val (.int (4 : Int32)), .val (.int (4 : Int32))] [(.ref f_a0_entries)]))
      refine own_by (fun _ k => XS.iload X71.here hx rfl (hb hby d4_107) rfl k) ?_
      show own_Go p e below _ (T71.setTop (mkF m 109 #[.val (.ref a0), .val (.long q1), .second, .val (.int p2), .val (.double d3), .second, .val (.double d4), .second, .val (.int p5), .val (.int (0 : Int32)), .val (.long v12), .second, .val (.int (4 : Int32)), .val (.int (4 : Int32))] [(.int (0 : Int32)), (.ref f_a0_entries)]))
      refine own_by (fun _ k => XS.iconst X71.here hx rfl (hb hby d4_109) k) ?_
      show own_Go p e below _ (T71.setTop (mkF m 110 #[.val (.ref a0), .val (.long q1), .second, .val (.int p2), .val (.double d3), .second, .val (.double d4), .second, .val (.int p5), .val (.int (0 : Int32)), .val (.long v12), .second, .val (.int (4 : Int32)), .val (.int (4 : Int32))] [(.int (2 : Int32)), (.int (0 : Int32)), (.ref f_a0_entries)]))
      refine own_by (fun _ k => XS.iadd X71.here hx rfl (hb hby d4_110) rfl k) ?_
      show own_Go p e below _ (T71.setTop (mkF m 111 #[.val (.ref a0), .val (.long q1), .second, .val (.int p2), .val (.double d3), .second, .val (.double d4), .second, .val (.int p5), .val (.int (0 : Int32)), .val (.long v12), .second, .val (.int (4 : Int32)), .val (.int (4 : Int32))] [(.int (2 : Int32)), (.ref f_a0_entries)]))
      refine own_by (fun _ k => XS.dload X71.here hx rfl (hb hby d4_111) rfl k) ?_
      show own_Go p e below _ (T71.setTop (mkF m 113 #[.val (.ref a0), .val (.long q1), .second, .val (.int p2), .val (.double d3), .second, .val (.double d4), .second, .val (.int p5), .val (.int (0 : Int32)), .val (.long v12), .second, .val (.int (4 : Int32)), .val (.int (4 : Int32))] [(.double d4), (.int (2 : Int32)), (.ref f_a0_entries)]))
      obtain ⟨T72, X72, e72, st72⟩ := own_d2bits X71 hx hZ hown (hw _ (List.mem_of_getElem? (i := 44) rfl)) (hw _ (List.mem_of_getElem? (i := 47) rfl)) (hw _ (List.mem_of_getElem? (i := 45) rfl)) (hw _ (List.mem_of_getElem? (i := 46) rfl)) e71 (g := (mkF m 113 #[.val (.ref a0), .val (.long q1), .second, .val (.int p2), .val (.double d3), .second, .val (.double d4), .second, .val (.int p5), .val (.int (0 : Int32)), .val (.long v12), .second, .val (.int (4 : Int32)), .val (.int (4 : Int32))] [(.double d4), (.int (2 : Int32)), (.ref f_a0_entries)])) rfl (by rw [hml]; rfl) rfl (hb hby d4_113) (by decide) (W := 2) (by show 2 * 0 + _ ≤ _; exact Nat.le_of_eq rfl) (by decide)
      refine own_by st72 ?_
      show own_Go p e below _ (T72.setTop (mkF m 116 #[.val (.ref a0), .val (.long q1), .second, .val (.int p2), .val (.double d3), .second, .val (.double d4), .second, .val (.int p5), .val (.int (0 : Int32)), .val (.long v12), .second, .val (.int (4 : Int32)), .val (.int (4 : Int32))] [(.long (d4.toInt64)), (.int (2 : Int32)), (.ref f_a0_entries)]))
      obtain ⟨cl73, Ar73, qq73, S73, M73, H73, G73⟩ := id V69
      have hin73 : ¬ ((2 : Int32) < 0 ∨ cl73.slots.size ≤ ((2 : Int32)).toNatClampNeg) := inb_of S73 ⟨by decide, by decide⟩
      obtain ⟨T74, h74, X74, e74, W74, st74⟩ := stJ X72 hx hZ e72 Ar73 (j := (2 : Int32)) hin73 (g := (mkF m 116 #[.val (.ref a0), .val (.long q1), .second, .val (.int p2), .val (.double d3), .second, .val (.double d4), .second, .val (.int p5), .val (.int (0 : Int32)), .val (.long v12), .second, .val (.int (4 : Int32)), .val (.int (4 : Int32))] [(.long (d4.toInt64)), (.int (2 : Int32)), (.ref f_a0_entries)])) rfl rfl (hb hby d4_116)
      have V74 : own_Arf Z h74 f_a0_entries k_f_a0_entries .long (8 : Int32) (fun i => .long ((own_upd (own_upd (own_upd (own_cp fn_f_a0_entries 0 fn_f_a0_entries 4 4) 0 q1) 1 (d3.toInt64)) 2 (d4.toInt64)) i)) := own_arfSetJ Ar73 qq73 S73 M73 H73 G73 rfl W74
      have K74 : Keep h0 h74 [f_a0_entries] := K69.wr W74 (Or.inl (List.mem_of_getElem? (i := 0) rfl))
      have Z74 : n0 ≤ h74.size := Nat.le_trans Z69 (Keep.of_wr W74).1
      have N74 := Fr.snoc X74 N69 g_f_a0_entries
      refine own_by st74 ?_
      show own_Go p e below _ (T74.setTop (mkF m 117 #[.val (.ref a0), .val (.long q1), .second, .val (.int p2), .val (.double d3), .second, .val (.double d4), .second, .val (.int p5), .val (.int (0 : Int32)), .val (.long v12), .second, .val (.int (4 : Int32)), .val (.int (4 : Int32))] []))
      refine own_by (fun _ k => XS.aloadN X74.here hx rfl (hb hby d4_117) rfl rfl k) ?_
      show own_Go p e below _ (T74.setTop (mkF m 118 #[.val (.ref a0), .val (.long q1), .second, .val (.int p2), .val (.double d3), .second, .val (.double d4), .second, .val (.int p5), .val (.int (0 : Int32)), .val (.long v12), .second, .val (.int (4 : Int32)), .val (.int (4 : Int32))] [(.ref a0)]))
      have F75 : Fld Z h74 a0 "com/example/plyward/plyward/search/TranspositionTable" "entries" "[J" (.ref f_a0_entries) := (F70.other W74 (Or.inl (own_neArr ((((P_E_a0.keep Kq60).wr W64).wr W69).wr W74) (hw _ (List.mem_of_getElem? (i := 2) rfl)) V74)))
      obtain ⟨T76, X76, e76, st76⟩ := getF X74 hx hZ hown (host := "") (Or.inl (hw _ (List.mem_of_getElem? (i := 15) rfl))) Via.refl e74 F75 (g := (mkF m 118 #[.val (.ref a0), .val (.long q1), .second, .val (.int p2), .val (.double d3), .second, .val (.double d4), .second, .val (.int p5), .val (.int (0 : Int32)), .val (.long v12), .second, .val (.int (4 : Int32)), .val (.int (4 : Int32))] [(.ref a0)])) rfl rfl (hb hby d4_118)
      refine own_by st76 ?_
      show own_Go p e below _ (T76.setTop (mkF m 121 #[.val (.ref a0), .val (.long q1), .second, .val (.int p2), .val (.double d3), .second, .val (.double d4), .second, .val (.int p5), .val (.int (0 : Int32)), .val (.long v12), .second, .val (.int (4 : Int32)), .val (.int (4 : Int32))] [(.ref f_a0_entries)]))
      refine own_by (fun _ k => XS.iload X76.here hx rfl (hb hby d4_121) rfl k) ?_
      show own_Go p e below _ (T76.setTop (mkF m 123 #[.val (.ref a0), .val (.long q1), .second, .val (.int p2), .val (.double d3), .second, .val (.double d4), .second, .val (.int p5), .val (.int (0 : Int32)), .val (.long v12), .second, .val (.int (4 : Int32)), .val (.int (4 : Int32))] [(.int (0 : Int32)), (.ref f_a0_entries)]))
      refine own_by (fun _ k => XS.iconst X76.here hx rfl (hb hby d4_123) k) ?_
      show own_Go p e below _ (T76.setTop (mkF m 124 #[.val (.ref a0), .val (.long q1), .second, .val (.int p2), .val (.double d3), .second, .val (.double d4), .second, .val (.int p5), .val (.int (0 : Int32)), .val (.long v12), .second, .val (.int (4 : Int32)), .val (.int (4 : Int32))] [(.int (3 : Int32)), (.int (0 : Int32)), (.ref f_a0_entries)]))
      refine own_by (fun _ k => XS.iadd X76.here hx rfl (hb hby d4_124) rfl k) ?_
      show own_Go p e below _ (T76.setTop (mkF m 125 #[.val (.ref a0), .val (.long q1), .second, .val (.int p2), .val (.double d3), .second, .val (.double d4), .second, .val (.int p5), .val (.int (0 : Int32)), .val (.long v12), .second, .val (.int (4 : Int32)), .val (.int (4 : Int32))] [(.int (3 : Int32)), (.ref f_a0_entries)]))
      refine own_by (fun _ k => XS.lload X76.here hx rfl (hb hby d4_125) rfl k) ?_
      show own_Go p e below _ (T76.setTop (mkF m 127 #[.val (.ref a0), .val (.long q1), .second, .val (.int p2), .val (.double d3), .second, .val (.double d4), .second, .val (.int p5), .val (.int (0 : Int32)), .val (.long v12), .second, .val (.int (4 : Int32)), .val (.int (4 : Int32))] [(.long v12), (.int (3 : Int32)), (.ref f_a0_entries)]))
      obtain ⟨cl77, Ar77, qq77, S77, M77, H77, G77⟩ := id V74
      have hin77 : ¬ ((3 : Int32) < 0 ∨ cl77.slots.size ≤ ((3 : Int32)).toNatClampNeg) := inb_of S77 ⟨by decide, by decide⟩
      obtain ⟨T78, h78, X78, e78, W78, st78⟩ := stJ X76 hx hZ e76 Ar77 (j := (3 : Int32)) hin77 (g := (mkF m 127 #[.val (.ref a0), .val (.long q1), .second, .val (.int p2), .val (.double d3), .second, .val (.double d4), .second, .val (.int p5), .val (.int (0 : Int32)), .val (.long v12), .second, .val (.int (4 : Int32)), .val (.int (4 : Int32))] [(.long v12), (.int (3 : Int32)), (.ref f_a0_entries)])) rfl rfl (hb hby d4_127)
      have V78 : own_Arf Z h78 f_a0_entries k_f_a0_entries .long (8 : Int32) (fun i => .long ((own_upd (own_upd (own_upd (own_upd (own_cp fn_f_a0_entries 0 fn_f_a0_entries 4 4) 0 q1) 1 (d3.toInt64)) 2 (d4.toInt64)) 3 v12) i)) := own_arfSetJ Ar77 qq77 S77 M77 H77 G77 rfl W78
      have K78 : Keep h0 h78 [f_a0_entries] := K74.wr W78 (Or.inl (List.mem_of_getElem? (i := 0) rfl))
      have Z78 : n0 ≤ h78.size := Nat.le_trans Z74 (Keep.of_wr W78).1
      have N78 := Fr.snoc X78 N74 g_f_a0_entries
      refine own_by st78 ?_
      show own_Go p e below _ (T78.setTop (mkF m 128 #[.val (.ref a0), .val (.long q1), .second, .val (.int p2), .val (.double d3), .second, .val (.double d4), .second, .val (.int p5), .val (.int (0 : Int32)), .val (.long v12), .second, .val (.int (4 : Int32)), .val (.int (4 : Int32))] []))
      exact own_ret0 X78 hx Bd.returns (hb hby d4_128) hlk e78 ⟨(own_upd (own_upd (own_upd (own_upd (own_cp fn_f_a0_entries 0 fn_f_a0_entries 4 4) 0 q1) 1 (d3.toInt64)) 2 (d4.toInt64)) 3 v12), rfl, N78, K78, V78, (Or.inr (Or.inr (⟨y9, v12, hj10, hv12, hp15, rfl⟩)))⟩ (by decide) (by decide)
  by_cases c2 : p5 = (0 : Int32)
  · skip
    refine own_by (fun _ k => XS.ifYes X1.here hx rfl (pc0 := 14) (pc' := 23) rfl (hb hby d4_14) rfl ((if0 _ _).trans (teq c2).1) (by decide) (by decide) k) ?_
    show own_Go p e below _ (T1.setTop (mkF m 23 #[.val (.ref a0), .val (.long q1), .second, .val (.int p2), .val (.double d3), .second, .val (.double d4), .second, .val (.int p5), .val (.int (0 : Int32)), .unset, .unset, .unset, .unset] [(.long ((p2.toInt64) <<< ((32 : Int32) &&& 0x3f).toInt64))]))
    refine own_by (fun _ k => XS.lconst X1.here hx rfl (hb hby d4_23) k) ?_
    show own_Go p e below _ (T1.setTop (mkF m 24 #[.val (.ref a0), .val (.long q1), .second, .val (.int p2), .val (.double d3), .second, .val (.double d4), .second, .val (.int p5), .val (.int (0 : Int32)), .unset, .unset, .unset, .unset] [(.long (0 : Int64)), (.long ((p2.toInt64) <<< ((32 : Int32) &&& 0x3f).toInt64))]))
    exact J3 _ _ (0 : Int64) X1 eq1 N1 (Or.inl ⟨c2, rfl⟩)
  · skip
    refine own_by (fun _ k => XS.ifNo X1.here hx rfl (hb hby d4_14) rfl ((if0 _ _).trans (feq c2).1) k) ?_
    show own_Go p e below _ (T1.setTop (mkF m 17 #[.val (.ref a0), .val (.long q1), .second, .val (.int p2), .val (.double d3), .second, .val (.double d4), .second, .val (.int p5), .val (.int (0 : Int32)), .unset, .unset, .unset, .unset] [(.long ((p2.toInt64) <<< ((32 : Int32) &&& 0x3f).toInt64))]))
    refine own_by (fun t k => X1.ldc2Long hx hown (mvT hZ (hw _ (List.mem_of_getElem? (i := 24) rfl))) (g := (mkF m 17 #[.val (.ref a0), .val (.long q1), .second, .val (.int p2), .val (.double d3), .second, .val (.double d4), .second, .val (.int p5), .val (.int (0 : Int32)), .unset, .unset, .unset, .unset] [(.long ((p2.toInt64) <<< ((32 : Int32) &&& 0x3f).toInt64))])) rfl (hb hby d4_17) _ k) ?_
    show own_Go p e below _ (T1.setTop (mkF m 20 #[.val (.ref a0), .val (.long q1), .second, .val (.int p2), .val (.double d3), .second, .val (.double d4), .second, .val (.int p5), .val (.int (0 : Int32)), .unset, .unset, .unset, .unset] [(.long (2147483648 : Int64)), (.long ((p2.toInt64) <<< ((32 : Int32) &&& 0x3f).toInt64))]))
    refine own_by (fun _ k => XS.goto X1.here hx rfl (pc0 := 20) (pc' := 24) rfl (hb hby d4_20) (by decide) (by decide) k) ?_
    show own_Go p e below _ (T1.setTop (mkF m 24 #[.val (.ref a0), .val (.long q1), .second, .val (.int p2), .val (.double d3), .second, .val (.double d4), .second, .val (.int p5), .val (.int (0 : Int32)), .unset, .unset, .unset, .unset] [(.long (2147483648 : Int64)), (.long ((p2.toInt64) <<< ((32 : Int32) &&& 0x3f).toInt64))]))
    exact J3 _ _ (2147483648 : Int64) X1 eq1 N1 (Or.inr (⟨c2, rfl⟩))
theorem d3_0 : decode prog_71_method_9_code 0 = .ok (.aload_n 0, 1) := by decide +kernel
theorem d3_1 : decode prog_71_method_9_code 1 = .ok (.getfield 27, 3) := by decide +kernel
theorem d3_4 : decode prog_71_method_9_code 4 = .ok (.iload_n 1, 1) := by decide +kernel
theorem d3_5 : decode prog_71_method_9_code 5 = .ok (.iconst 3, 1) := by decide +kernel
theorem d3_6 : decode prog_71_method_9_code 6 = .ok (.iadd, 1) := by decide +kernel
theorem d3_7 : decode prog_71_method_9_code 7 = .ok (.laload, 1) := by decide +kernel
theorem d3_8 : decode prog_71_method_9_code 8 = .ok (.ldc2_w 62, 3) := by decide +kernel
theorem d3_11 : decode prog_71_method_9_code 11 = .ok (.land, 1) := by decide +kernel
theorem d3_12 : decode prog_71_method_9_code 12 = .ok (.lconst 0, 1) := by decide +kernel
theorem d3_13 : decode prog_71_method_9_code 13 = .ok (.lcmp, 1) := by decide +kernel
theorem d3_14 : decode prog_71_method_9_code 14 = .ok (.ifCond .eq 7, 3) := by decide +kernel
theorem d3_17 : decode prog_71_method_9_code 17 = .ok (.iconst 1, 1) := by decide +kernel
theorem d3_18 : decode prog_71_method_9_code 18 = .ok (.goto 4, 3) := by decide +kernel
theorem d3_21 : decode prog_71_method_9_code 21 = .ok (.iconst 0, 1) := by decide +kernel
theorem d3_22 : decode prog_71_method_9_code 22 = .ok (.ireturn, 1) := by decide +kernel
theorem pn_s0 : plainName "com/example/plyward/plyward/search/TranspositionTable" = true := by first | (simp [plainName, overriddenIn]; done) | decide +kernel
theorem ef_s0 (m : MethodId) (a0 : Addr) : entryFrame m #[(.ref a0), (.int (0 : Int32))] 2 = mkF m 0 #[.val (.ref a0), .val (.int (0 : Int32))] [] := by first | (simp [entryFrame, mkF, argsToLocals, Value.category]; done) | rfl
def Qs0 (Z : State) (f_a0_entries : Addr) (k_f_a0_entries : ClassId) (fn_f_a0_entries : Nat → Int64) (a0 : Addr) (h0 : Heap) (n0 : Nat) (v : Option Value) (h : Heap) (L : List Loc) : Prop := ∃ (zz : Int32), v = some (.int zz) ∧ Fr n0 L ∧ h = h0 ∧ (((((fn_f_a0_entries 3) &&& (2147483648 : Int64)) = (0 : Int64)) ∧ zz = (0 : Int32)) ∨ ((¬ (((fn_f_a0_entries 3) &&& (2147483648 : Int64)) = (0 : Int64))) ∧ zz = (1 : Int32)))
set_option maxRecDepth 65536 in
set_option maxHeartbeats 40000000 in
theorem rms0 (l : Launch) (Z : State) (A0 : Array Value) (hw : ∀ d ∈ tables_1, d.before A0 Z = true) (ws : List Jvm.Cond) (f_a0_entries : Addr) (k_f_a0_entries : ClassId) (fn_f_a0_entries : Nat → Int64) (a0 : Addr) (h0 : Heap) (n0 : Nat) (Z0 : n0 ≤ h0.size) (P_F_a0_entries : Fld Z h0 a0 "com/example/plyward/plyward/search/TranspositionTable" "entries" "[J" (.ref f_a0_entries)) (P_V_f_a0_entries : own_Arf Z h0 f_a0_entries k_f_a0_entries .long (8 : Int32) (fun i => .long (fn_f_a0_entries i))) :
    MetFree l (⟨"com/example/plyward/plyward/search/TranspositionTable", "settled", "(I)Z"⟩ : MethodName) (head1 (Jvm.Cond.code (⟨"com/example/plyward/plyward/search/TranspositionTable", "settled", "(I)Z"⟩ : MethodName) prog_71_method_9_code 2 (some .boolean) :: ws) ({ frames := 0, cells := 0, slots := 0, locals := 0 } : Room)) (fun a U => a = #[(.ref a0), (.int (0 : Int32))] ∧ Z.Warmed39 U.vm ∧ U.heap = h0) (fun _ _ _ _ _ => True) (fun _ U o U' => ∃ v L, o = .returned v ∧ Qs0 Z f_a0_entries k_f_a0_entries fn_f_a0_entries a0 h0 n0 v U'.heap L ∧ FrameEnd U o U' L 0 0) := by
  refine MetFree.of_bodySF (plainFor_of_name pn_s0) hisR ?_
  intro p e s m args below meth c s₁ Bd hml0 hP hK
  obtain ⟨rfl, hZ, hh⟩ := hP
  have hx := Bd.exec
  have hby := Bd.bytes
  have hml : c.maxLocals = 2 := hml0
  have hlk : meth.locks = false := Bd.notSynchronized
  have hown : s.vm.findClass "com/example/plyward/plyward/search/TranspositionTable" = some m.cls := findClass_of_methodNamed Bd.named
  have hnm := (name_of_methodNamed Bd.named Bd.method).1
  have X0 : Stand p l e ({ frames := 0, cells := 0, slots := 0, locals := 0 } : Room) s m #[(.ref a0), (.int (0 : Int32))] below meth c s₁ [] 0 0 := Stand.of_body Bd
  have e0 : s₁.heap = h0 := by rw [← hh, Bd.state]; rfl
  have N0 := Fr.nil n0
  show own_Go p e below (own_Fin s 0 0 (Qs0 Z f_a0_entries k_f_a0_entries fn_f_a0_entries a0 h0 n0)) _
  refine own_by (fun t k => castTop (ef_s0 m a0) k) ?_
  show own_Go p e below _ (s₁.setTop (mkF m 0 #[.val (.ref a0), .val (.int (0 : Int32))] []))
  refine own_by (fun _ k => XS.aloadN X0.here hx rfl (hb hby d3_0) rfl rfl k) ?_
  show own_Go p e below _ (s₁.setTop (mkF m 1 #[.val (.ref a0), .val (.int (0 : Int32))] [(.ref a0)]))
  obtain ⟨T1, X1, e1, st1⟩ := getF X0 hx hZ hown (host := "") (Or.inl (hw _ (List.mem_of_getElem? (i := 15) rfl))) Via.refl e0 P_F_a0_entries (g := (mkF m 1 #[.val (.ref a0), .val (.int (0 : Int32))] [(.ref a0)])) rfl rfl (hb hby d3_1)
  refine own_by st1 ?_
  show own_Go p e below _ (T1.setTop (mkF m 4 #[.val (.ref a0), .val (.int (0 : Int32))] [(.ref f_a0_entries)]))
  refine own_by (fun _ k => XS.iloadN X1.here hx rfl (hb hby d3_4) rfl k) ?_
  show own_Go p e below _ (T1.setTop (mkF m 5 #[.val (.ref a0), .val (.int (0 : Int32))] [(.int (0 : Int32)), (.ref f_a0_entries)]))
  refine own_by (fun _ k => XS.iconst X1.here hx rfl (hb hby d3_5) k) ?_
  show own_Go p e below _ (T1.setTop (mkF m 6 #[.val (.ref a0), .val (.int (0 : Int32))] [(.int (3 : Int32)), (.int (0 : Int32)), (.ref f_a0_entries)]))
  refine own_by (fun _ k => XS.iadd X1.here hx rfl (hb hby d3_6) rfl k) ?_
  show own_Go p e below _ (T1.setTop (mkF m 7 #[.val (.ref a0), .val (.int (0 : Int32))] [(.int (3 : Int32)), (.ref f_a0_entries)]))
  obtain ⟨cl2, Ar2, qq2, S2, M2, H2, G2⟩ := id P_V_f_a0_entries
  have hin2 : ¬ ((3 : Int32) < 0 ∨ cl2.slots.size ≤ ((3 : Int32)).toNatClampNeg) := inb_of S2 ⟨by decide, by decide⟩
  refine own_by (fun t k => X1.laload hx (j := (3 : Int32)) (v := (.long (fn_f_a0_entries 3))) (by rw [e1]; exact Ar2.1) (State.isArrayOf_alike hZ.alike Ar2.2.1) Ar2.2.2 hin2 (H2 _ (Nat.lt_of_not_le fun y => hin2 (Or.inr y))) (g := (mkF m 7 #[.val (.ref a0), .val (.int (0 : Int32))] [(.int (3 : Int32)), (.ref f_a0_entries)])) rfl rfl (hb hby d3_7) _ k) ?_
  show own_Go p e below _ (T1.setTop (mkF m 8 #[.val (.ref a0), .val (.int (0 : Int32))] [(.long (fn_f_a0_entries 3))]))
  refine own_by (fun t k => X1.ldc2Long hx hown (mvT hZ (hw _ (List.mem_of_getElem? (i := 24) rfl))) (g := (mkF m 8 #[.val (.ref a0), .val (.int (0 : Int32))] [(.long (fn_f_a0_entries 3))])) rfl (hb hby d3_8) _ k) ?_
  show own_Go p e below _ (T1.setTop (mkF m 11 #[.val (.ref a0), .val (.int (0 : Int32))] [(.long (2147483648 : Int64)), (.long (fn_f_a0_entries 3))]))
  refine own_by (fun _ k => XS.land X1.here hx rfl (hb hby d3_11) rfl k) ?_
  show own_Go p e below _ (T1.setTop (mkF m 12 #[.val (.ref a0), .val (.int (0 : Int32))] [(.long ((fn_f_a0_entries 3) &&& (2147483648 : Int64)))]))
  refine own_by (fun _ k => XS.lconst X1.here hx rfl (hb hby d3_12) k) ?_
  show own_Go p e below _ (T1.setTop (mkF m 13 #[.val (.ref a0), .val (.int (0 : Int32))] [(.long (0 : Int64)), (.long ((fn_f_a0_entries 3) &&& (2147483648 : Int64)))]))
  refine own_by (fun _ k => XS.lcmp X1.here hx rfl (hb hby d3_13) rfl k) ?_
  show own_Go p e below _ (T1.setTop (mkF m 14 #[.val (.ref a0), .val (.int (0 : Int32))] [(.int (lcmpW ((fn_f_a0_entries 3) &&& (2147483648 : Int64)) (0 : Int64)))]))
  by_cases c3 : ((fn_f_a0_entries 3) &&& (2147483648 : Int64)) = (0 : Int64)
  · skip
    refine own_by (fun _ k => XS.ifYes X1.here hx rfl (pc0 := 14) (pc' := 21) rfl (hb hby d3_14) rfl ((if0 _ _).trans (teq ((lw_eq _ _).mpr c3)).1) (by decide) (by decide) k) ?_
    show own_Go p e below _ (T1.setTop (mkF m 21 #[.val (.ref a0), .val (.int (0 : Int32))] []))
    refine own_by (fun _ k => XS.iconst X1.here hx rfl (hb hby d3_21) k) ?_
    show own_Go p e below _ (T1.setTop (mkF m 22 #[.val (.ref a0), .val (.int (0 : Int32))] [(.int (0 : Int32))]))
    exact own_retN X1 hx (t := .boolean) Bd.returns (by simp) (hb hby d3_22) hlk e1 ⟨_, rfl, N0, rfl, (Or.inl ⟨c3, rfl⟩)⟩ (by decide) (by decide)
  · skip
    refine own_by (fun _ k => XS.ifNo X1.here hx rfl (hb hby d3_14) rfl ((if0 _ _).trans (feq (fun q => c3 ((lw_eq _ _).mp q))).1) k) ?_
    show own_Go p e below _ (T1.setTop (mkF m 17 #[.val (.ref a0), .val (.int (0 : Int32))] []))
    refine own_by (fun _ k => XS.iconst X1.here hx rfl (hb hby d3_17) k) ?_
    show own_Go p e below _ (T1.setTop (mkF m 18 #[.val (.ref a0), .val (.int (0 : Int32))] [(.int (1 : Int32))]))
    refine own_by (fun _ k => XS.goto X1.here hx rfl (pc0 := 18) (pc' := 22) rfl (hb hby d3_18) (by decide) (by decide) k) ?_
    show own_Go p e below _ (T1.setTop (mkF m 22 #[.val (.ref a0), .val (.int (0 : Int32))] [(.int (1 : Int32))]))
    exact own_retN X1 hx (t := .boolean) Bd.returns (by simp) (hb hby d3_22) hlk e1 ⟨_, rfl, N0, rfl, (Or.inr (⟨c3, rfl⟩))⟩ (by decide) (by decide)
theorem pn_s4 : plainName "com/example/plyward/plyward/search/TranspositionTable" = true := by first | (simp [plainName, overriddenIn]; done) | decide +kernel
theorem ef_s4 (m : MethodId) (a0 : Addr) : entryFrame m #[(.ref a0), (.int (4 : Int32))] 2 = mkF m 0 #[.val (.ref a0), .val (.int (4 : Int32))] [] := by first | (simp [entryFrame, mkF, argsToLocals, Value.category]; done) | rfl
def Qs4 (Z : State) (f_a0_entries : Addr) (k_f_a0_entries : ClassId) (fn_f_a0_entries : Nat → Int64) (a0 : Addr) (h0 : Heap) (n0 : Nat) (v : Option Value) (h : Heap) (L : List Loc) : Prop := ∃ (zz : Int32), v = some (.int zz) ∧ Fr n0 L ∧ h = h0 ∧ (((((fn_f_a0_entries 7) &&& (2147483648 : Int64)) = (0 : Int64)) ∧ zz = (0 : Int32)) ∨ ((¬ (((fn_f_a0_entries 7) &&& (2147483648 : Int64)) = (0 : Int64))) ∧ zz = (1 : Int32)))
set_option maxRecDepth 65536 in
set_option maxHeartbeats 40000000 in
theorem rms4 (l : Launch) (Z : State) (A0 : Array Value) (hw : ∀ d ∈ tables_1, d.before A0 Z = true) (ws : List Jvm.Cond) (f_a0_entries : Addr) (k_f_a0_entries : ClassId) (fn_f_a0_entries : Nat → Int64) (a0 : Addr) (h0 : Heap) (n0 : Nat) (Z0 : n0 ≤ h0.size) (P_F_a0_entries : Fld Z h0 a0 "com/example/plyward/plyward/search/TranspositionTable" "entries" "[J" (.ref f_a0_entries)) (P_V_f_a0_entries : own_Arf Z h0 f_a0_entries k_f_a0_entries .long (8 : Int32) (fun i => .long (fn_f_a0_entries i))) :
    MetFree l (⟨"com/example/plyward/plyward/search/TranspositionTable", "settled", "(I)Z"⟩ : MethodName) (head1 (Jvm.Cond.code (⟨"com/example/plyward/plyward/search/TranspositionTable", "settled", "(I)Z"⟩ : MethodName) prog_71_method_9_code 2 (some .boolean) :: ws) ({ frames := 0, cells := 0, slots := 0, locals := 0 } : Room)) (fun a U => a = #[(.ref a0), (.int (4 : Int32))] ∧ Z.Warmed39 U.vm ∧ U.heap = h0) (fun _ _ _ _ _ => True) (fun _ U o U' => ∃ v L, o = .returned v ∧ Qs4 Z f_a0_entries k_f_a0_entries fn_f_a0_entries a0 h0 n0 v U'.heap L ∧ FrameEnd U o U' L 0 0) := by
  refine MetFree.of_bodySF (plainFor_of_name pn_s4) hisR ?_
  intro p e s m args below meth c s₁ Bd hml0 hP hK
  obtain ⟨rfl, hZ, hh⟩ := hP
  have hx := Bd.exec
  have hby := Bd.bytes
  have hml : c.maxLocals = 2 := hml0
  have hlk : meth.locks = false := Bd.notSynchronized
  have hown : s.vm.findClass "com/example/plyward/plyward/search/TranspositionTable" = some m.cls := findClass_of_methodNamed Bd.named
  have hnm := (name_of_methodNamed Bd.named Bd.method).1
  have X0 : Stand p l e ({ frames := 0, cells := 0, slots := 0, locals := 0 } : Room) s m #[(.ref a0), (.int (4 : Int32))] below meth c s₁ [] 0 0 := Stand.of_body Bd
  have e0 : s₁.heap = h0 := by rw [← hh, Bd.state]; rfl
  have N0 := Fr.nil n0
  show own_Go p e below (own_Fin s 0 0 (Qs4 Z f_a0_entries k_f_a0_entries fn_f_a0_entries a0 h0 n0)) _
  refine own_by (fun t k => castTop (ef_s4 m a0) k) ?_
  show own_Go p e below _ (s₁.setTop (mkF m 0 #[.val (.ref a0), .val (.int (4 : Int32))] []))
  refine own_by (fun _ k => XS.aloadN X0.here hx rfl (hb hby d3_0) rfl rfl k) ?_
  show own_Go p e below _ (s₁.setTop (mkF m 1 #[.val (.ref a0), .val (.int (4 : Int32))] [(.ref a0)]))
  obtain ⟨T1, X1, e1, st1⟩ := getF X0 hx hZ hown (host := "") (Or.inl (hw _ (List.mem_of_getElem? (i := 15) rfl))) Via.refl e0 P_F_a0_entries (g := (mkF m 1 #[.val (.ref a0), .val (.int (4 : Int32))] [(.ref a0)])) rfl rfl (hb hby d3_1)
  refine own_by st1 ?_
  show own_Go p e below _ (T1.setTop (mkF m 4 #[.val (.ref a0), .val (.int (4 : Int32))] [(.ref f_a0_entries)]))
  refine own_by (fun _ k => XS.iloadN X1.here hx rfl (hb hby d3_4) rfl k) ?_
  show own_Go p e below _ (T1.setTop (mkF m 5 #[.val (.ref a0), .val (.int (4 : Int32))] [(.int (4 : Int32)), (.ref f_a0_entries)]))
  refine own_by (fun _ k => XS.iconst X1.here hx rfl (hb hby d3_5) k) ?_
  show own_Go p e below _ (T1.setTop (mkF m 6 #[.val (.ref a0), .val (.int (4 : Int32))] [(.int (3 : Int32)), (.int (4 : Int32)), (.ref f_a0_entries)]))
  refine own_by (fun _ k => XS.iadd X1.here hx rfl (hb hby d3_6) rfl k) ?_
  show own_Go p e below _ (T1.setTop (mkF m 7 #[.val (.ref a0), .val (.int (4 : Int32))] [(.int (7 : Int32)), (.ref f_a0_entries)]))
  obtain ⟨cl2, Ar2, qq2, S2, M2, H2, G2⟩ := id P_V_f_a0_entries
  have hin2 : ¬ ((7 : Int32) < 0 ∨ cl2.slots.size ≤ ((7 : Int32)).toNatClampNeg) := inb_of S2 ⟨by decide, by decide⟩
  refine own_by (fun t k => X1.laload hx (j := (7 : Int32)) (v := (.long (fn_f_a0_entries 7))) (by rw [e1]; exact Ar2.1) (State.isArrayOf_alike hZ.alike Ar2.2.1) Ar2.2.2 hin2 (H2 _ (Nat.lt_of_not_le fun y => hin2 (Or.inr y))) (g := (mkF m 7 #[.val (.ref a0), .val (.int (4 : Int32))] [(.int (7 : Int32)), (.ref f_a0_entries)])) rfl rfl (hb hby d3_7) _ k) ?_
  show own_Go p e below _ (T1.setTop (mkF m 8 #[.val (.ref a0), .val (.int (4 : Int32))] [(.long (fn_f_a0_entries 7))]))
  refine own_by (fun t k => X1.ldc2Long hx hown (mvT hZ (hw _ (List.mem_of_getElem? (i := 24) rfl))) (g := (mkF m 8 #[.val (.ref a0), .val (.int (4 : Int32))] [(.long (fn_f_a0_entries 7))])) rfl (hb hby d3_8) _ k) ?_
  show own_Go p e below _ (T1.setTop (mkF m 11 #[.val (.ref a0), .val (.int (4 : Int32))] [(.long (2147483648 : Int64)), (.long (fn_f_a0_entries 7))]))
  refine own_by (fun _ k => XS.land X1.here hx rfl (hb hby d3_11) rfl k) ?_
  show own_Go p e below _ (T1.setTop (mkF m 12 #[.val (.ref a0), .val (.int (4 : Int32))] [(.long ((fn_f_a0_entries 7) &&& (2147483648 : Int64)))]))
  refine own_by (fun _ k => XS.lconst X1.here hx rfl (hb hby d3_12) k) ?_
  show own_Go p e below _ (T1.setTop (mkF m 13 #[.val (.ref a0), .val (.int (4 : Int32))] [(.long (0 : Int64)), (.long ((fn_f_a0_entries 7) &&& (2147483648 : Int64)))]))
  refine own_by (fun _ k => XS.lcmp X1.here hx rfl (hb hby d3_13) rfl k) ?_
  show own_Go p e below _ (T1.setTop (mkF m 14 #[.val (.ref a0), .val (.int (4 : Int32))] [(.int (lcmpW ((fn_f_a0_entries 7) &&& (2147483648 : Int64)) (0 : Int64)))]))
  by_cases c3 : ((fn_f_a0_entries 7) &&& (2147483648 : Int64)) = (0 : Int64)
  · skip
    refine own_by (fun _ k => XS.ifYes X1.here hx rfl (pc0 := 14) (pc' := 21) rfl (hb hby d3_14) rfl ((if0 _ _).trans (teq ((lw_eq _ _).mpr c3)).1) (by decide) (by decide) k) ?_
    show own_Go p e below _ (T1.setTop (mkF m 21 #[.val (.ref a0), .val (.int (4 : Int32))] []))
    refine own_by (fun _ k => XS.iconst X1.here hx rfl (hb hby d3_21) k) ?_
    show own_Go p e below _ (T1.setTop (mkF m 22 #[.val (.ref a0), .val (.int (4 : Int32))] [(.int (0 : Int32))]))
    exact own_retN X1 hx (t := .boolean) Bd.returns (by simp) (hb hby d3_22) hlk e1 ⟨_, rfl, N0, rfl, (Or.inl ⟨c3, rfl⟩)⟩ (by decide) (by decide)
  · skip
    refine own_by (fun _ k => XS.ifNo X1.here hx rfl (hb hby d3_14) rfl ((if0 _ _).trans (feq (fun q => c3 ((lw_eq _ _).mp q))).1) k) ?_
    show own_Go p e below _ (T1.setTop (mkF m 17 #[.val (.ref a0), .val (.int (4 : Int32))] []))
    refine own_by (fun _ k => XS.iconst X1.here hx rfl (hb hby d3_17) k) ?_
    show own_Go p e below _ (T1.setTop (mkF m 18 #[.val (.ref a0), .val (.int (4 : Int32))] [(.int (1 : Int32))]))
    refine own_by (fun _ k => XS.goto X1.here hx rfl (pc0 := 18) (pc' := 22) rfl (hb hby d3_18) (by decide) (by decide) k) ?_
    show own_Go p e below _ (T1.setTop (mkF m 22 #[.val (.ref a0), .val (.int (4 : Int32))] [(.int (1 : Int32))]))
    exact own_retN X1 hx (t := .boolean) Bd.returns (by simp) (hb hby d3_22) hlk e1 ⟨_, rfl, N0, rfl, (Or.inr (⟨c3, rfl⟩))⟩ (by decide) (by decide)
theorem pd_4 : parseMethodDescriptor "(I)V" = some ⟨[.int], none⟩ := by decide +kernel
theorem pd_19 : parseMethodDescriptor "(I)Z" = some ⟨[.int], some .boolean⟩ := by decide +kernel
theorem pd_25 : parseMethodDescriptor "(JIDDZ)V" = some ⟨[.long, .int, .double, .double, .boolean], none⟩ := by decide +kernel
theorem pn_0 : plainName "com/example/plyward/plyward/search/TranspositionTableSettledPinLaw" = true := by first | (simp [plainName, overriddenIn]; done) | decide +kernel
theorem ef_0 (m : MethodId) (q0 : Int64) (p1 : Int32) (p2 : Int32) (p3 : Int32) (p4 : Int32) : entryFrame m #[(.long q0), (.int p1), (.int p2), (.int p3), (.int p4)] maxLocals = mkF m 0 #[.val (.long q0), .second, .val (.int p1), .val (.int p2), .val (.int p3), .val (.int p4), .unset, .unset, .unset, .unset, .unset, .unset, .unset, .unset, .unset, .unset, .unset, .unset, .unset, .unset, .unset, .unset] [] := by first | (simp [entryFrame, mkF, argsToLocals, Value.category, maxLocals]; done) | rfl
theorem ob_0_18 (q0 : Int64) (p1 : Int32) (p2 : Int32) (p3 : Int32) (p4 : Int32) (z8 : Int32) (z17 : Int32) (v19 : Int32) (v20 : Int32) (v21 : Int64) (v22 : UInt64) (v23 : UInt64) (o37 : Int32) (z50 : Int32) (b53 : Nat → Int64) (o59 : Int32) (z72 : Int32) (b78 : Nat → Int64) (o84 : Int32) (z97 : Int32) (hj9 : (((p3 &&& (1 : Int32)) = (0 : Int32)) ∧ z8 = (0 : Int32)) ∨ ((¬ ((p3 &&& (1 : Int32)) = (0 : Int32))) ∧ z8 = (1 : Int32))) (hj18 : (((p3 &&& (2 : Int32)) = (0 : Int32)) ∧ z17 = (0 : Int32)) ∨ ((¬ ((p3 &&& (2 : Int32)) = (0 : Int32))) ∧ z17 = (1 : Int32))) (hv19 : (p1 &&& (2147483647 : Int32)) = v19) (hv20 : (p2 &&& (2147483647 : Int32)) = v20) (hv21 : (q0 ^^^ (1 : Int64)) = v21) (hv22 : (FP.dneg (FP.i2d (p4 &&& (1023 : Int32)))) = v22) (hv23 : (FP.i2d (((p4.toUInt32 >>> ((10 : Int32) &&& 31).toUInt32).toInt32) &&& (1023 : Int32))) = v23) (hp38 : (((((fun _ => (0 : Int64)) 3) &&& (2147483648 : Int64)) = (0 : Int64)) ∧ o37 = (0 : Int32)) ∨ ((¬ ((((fun _ => (0 : Int64)) 3) &&& (2147483648 : Int64)) = (0 : Int64))) ∧ o37 = (1 : Int32))) (hj51 : (∃ (o41 : Int32), (o37 = (0 : Int32)) ∧ ((((((fun _ => (0 : Int64)) 7) &&& (2147483648 : Int64)) = (0 : Int64)) ∧ o41 = (0 : Int32)) ∨ ((¬ ((((fun _ => (0 : Int64)) 7) &&& (2147483648 : Int64)) = (0 : Int64))) ∧ o41 = (1 : Int32))) ∧ (o41 = (0 : Int32)) ∧ z50 = (1 : Int32)) ∨ (∃ (o41 : Int32), (o37 = (0 : Int32)) ∧ ((((((fun _ => (0 : Int64)) 7) &&& (2147483648 : Int64)) = (0 : Int64)) ∧ o41 = (0 : Int32)) ∨ ((¬ ((((fun _ => (0 : Int64)) 7) &&& (2147483648 : Int64)) = (0 : Int64))) ∧ o41 = (1 : Int32))) ∧ (¬ (o41 = (0 : Int32))) ∧ z50 = (0 : Int32)) ∨ ((¬ (o37 = (0 : Int32))) ∧ z50 = (0 : Int32))) (hp55 : (∃ (y9 : Int64) (v12 : Int64), (((z8 = (0 : Int32)) ∧ y9 = (0 : Int64)) ∨ ((¬ (z8 = (0 : Int32))) ∧ y9 = (2147483648 : Int64))) ∧ (((((v19.toInt64) <<< ((32 : Int32) &&& 0x3f).toInt64) ||| y9) ||| (1 : Int64)) = v12) ∧ (own_find (fun _ => (0 : Int64)) q0 v19 (1 : Int64) (1 : Int64) (-1 : Int32)) ∧ b53 = (own_upd (own_upd (own_upd (own_upd (own_cp (fun _ => (0 : Int64)) 0 (fun _ => (0 : Int64)) 4 4) 0 q0) 1 (v22.toInt64)) 2 (v23.toInt64)) 3 v12)) ∨ (∃ (y9 : Int64) (v12 : Int64), (((z8 = (0 : Int32)) ∧ y9 = (0 : Int64)) ∨ ((¬ (z8 = (0 : Int32))) ∧ y9 = (2147483648 : Int64))) ∧ (((((v19.toInt64) <<< ((32 : Int32) &&& 0x3f).toInt64) ||| y9) ||| (1 : Int64)) = v12) ∧ (own_find (fun _ => (0 : Int64)) q0 v19 (1 : Int64) (1 : Int64) (0 : Int32)) ∧ b53 = (own_upd (own_upd (own_upd (own_upd (own_cp (fun _ => (0 : Int64)) 0 (fun _ => (0 : Int64)) 4 0) 0 q0) 1 (v22.toInt64)) 2 (v23.toInt64)) 3 v12)) ∨ (∃ (y9 : Int64) (v12 : Int64), (((z8 = (0 : Int32)) ∧ y9 = (0 : Int64)) ∨ ((¬ (z8 = (0 : Int32))) ∧ y9 = (2147483648 : Int64))) ∧ (((((v19.toInt64) <<< ((32 : Int32) &&& 0x3f).toInt64) ||| y9) ||| (1 : Int64)) = v12) ∧ (own_find (fun _ => (0 : Int64)) q0 v19 (1 : Int64) (1 : Int64) (4 : Int32)) ∧ b53 = (own_upd (own_upd (own_upd (own_upd (own_cp (fun _ => (0 : Int64)) 0 (fun _ => (0 : Int64)) 4 4) 0 q0) 1 (v22.toInt64)) 2 (v23.toInt64)) 3 v12))) (hp60 : ((((b53 3) &&& (2147483648 : Int64)) = (0 : Int64)) ∧ o59 = (0 : Int32)) ∨ ((¬ (((b53 3) &&& (2147483648 : Int64)) = (0 : Int64))) ∧ o59 = (1 : Int32))) (hj73 : (∃ (o63 : Int32), (o59 = z8) ∧ (((((b53 7) &&& (2147483648 : Int64)) = (0 : Int64)) ∧ o63 = (0 : Int32)) ∨ ((¬ (((b53 7) &&& (2147483648 : Int64)) = (0 : Int64))) ∧ o63 = (1 : Int32))) ∧ (o63 = (0 : Int32)) ∧ z72 = (1 : Int32)) ∨ (∃ (o63 : Int32), (o59 = z8) ∧ (((((b53 7) &&& (2147483648 : Int64)) = (0 : Int64)) ∧ o63 = (0 : Int32)) ∨ ((¬ (((b53 7) &&& (2147483648 : Int64)) = (0 : Int64))) ∧ o63 = (1 : Int32))) ∧ (¬ (o63 = (0 : Int32))) ∧ z72 = (0 : Int32)) ∨ ((¬ (o59 = z8)) ∧ z72 = (0 : Int32))) (hp80 : (∃ (y9 : Int64) (v12 : Int64), (((z17 = (0 : Int32)) ∧ y9 = (0 : Int64)) ∨ ((¬ (z17 = (0 : Int32))) ∧ y9 = (2147483648 : Int64))) ∧ (((((v20.toInt64) <<< ((32 : Int32) &&& 0x3f).toInt64) ||| y9) ||| (1 : Int64)) = v12) ∧ (own_find b53 v21 v20 (1 : Int64) (1 : Int64) (-1 : Int32)) ∧ b78 = (own_upd (own_upd (own_upd (own_upd (own_cp b53 0 b53 4 4) 0 v21) 1 (v22.toInt64)) 2 (v23.toInt64)) 3 v12)) ∨ (∃ (y9 : Int64) (v12 : Int64), (((z17 = (0 : Int32)) ∧ y9 = (0 : Int64)) ∨ ((¬ (z17 = (0 : Int32))) ∧ y9 = (2147483648 : Int64))) ∧ (((((v20.toInt64) <<< ((32 : Int32) &&& 0x3f).toInt64) ||| y9) ||| (1 : Int64)) = v12) ∧ (own_find b53 v21 v20 (1 : Int64) (1 : Int64) (0 : Int32)) ∧ b78 = (own_upd (own_upd (own_upd (own_upd (own_cp b53 0 b53 4 0) 0 v21) 1 (v22.toInt64)) 2 (v23.toInt64)) 3 v12)) ∨ (∃ (y9 : Int64) (v12 : Int64), (((z17 = (0 : Int32)) ∧ y9 = (0 : Int64)) ∨ ((¬ (z17 = (0 : Int32))) ∧ y9 = (2147483648 : Int64))) ∧ (((((v20.toInt64) <<< ((32 : Int32) &&& 0x3f).toInt64) ||| y9) ||| (1 : Int64)) = v12) ∧ (own_find b53 v21 v20 (1 : Int64) (1 : Int64) (4 : Int32)) ∧ b78 = (own_upd (own_upd (own_upd (own_upd (own_cp b53 0 b53 4 4) 0 v21) 1 (v22.toInt64)) 2 (v23.toInt64)) 3 v12))) (hp85 : ((((b78 3) &&& (2147483648 : Int64)) = (0 : Int64)) ∧ o84 = (0 : Int32)) ∨ ((¬ (((b78 3) &&& (2147483648 : Int64)) = (0 : Int64))) ∧ o84 = (1 : Int32))) (hj98 : (∃ (o88 : Int32), (o84 = z17) ∧ (((((b78 7) &&& (2147483648 : Int64)) = (0 : Int64)) ∧ o88 = (0 : Int32)) ∨ ((¬ (((b78 7) &&& (2147483648 : Int64)) = (0 : Int64))) ∧ o88 = (1 : Int32))) ∧ (o88 = z8) ∧ z97 = (1 : Int32)) ∨ (∃ (o88 : Int32), (o84 = z17) ∧ (((((b78 7) &&& (2147483648 : Int64)) = (0 : Int64)) ∧ o88 = (0 : Int32)) ∨ ((¬ (((b78 7) &&& (2147483648 : Int64)) = (0 : Int64))) ∧ o88 = (1 : Int32))) ∧ (¬ (o88 = z8)) ∧ z97 = (0 : Int32)) ∨ ((¬ (o84 = z17)) ∧ z97 = (0 : Int32))) (c99 : z50 = (0 : Int32)) : False := by
  have n1 : ¬ v19 < (0 : Int32) := hv19 ▸ own_mask31 p1
  have n2 : ¬ v20 < (0 : Int32) := hv20 ▸ own_mask31 p2
  obtain ⟨a0, -, -, -, a3s, ac⟩ := own_first (fun _ => (0 : Int64)) q0 v19 z8 _ _ n1 1 (Or.inl rfl) b53 (own_find (fun _ => (0 : Int64)) q0 v19 (1 : Int64) (1 : Int64)) hp55
  obtain ⟨b0, -, -, -, b3s, bc⟩ := own_first b53 v21 v20 z17 _ _ n2 1 (Or.inl rfl) b78 (own_find b53 v21 v20 (1 : Int64) (1 : Int64)) hp80
  have a7 : b53 7 = (0 : Int64) := by
    rcases ac with ⟨-, h⟩ | ⟨-, h⟩
    · exact h.2.2
    · exact h.2.2
  have ne : ¬ q0 = v21 := fun q => by
    have h := c_xor2L q0 1
    rw [hv21, ← q] at h
    have e : (1 : Int64).toInt = 1 := rfl
    omega
  have b7 : b78 7 = b53 3 := by
    rcases bc with ⟨h, -⟩ | ⟨-, h⟩
    · rcases h with ⟨-, h, -⟩ | ⟨h, -⟩ | ⟨h, -⟩
      · exact absurd (a0.symm.trans h) ne
      · exact absurd h (by decide)
      · exact absurd h (by decide)
    · exact h.2.2
  have z0 : ((0 : Int64) &&& (2147483648 : Int64)) = (0 : Int64) := by decide
  have k8 : z8 = (0 : Int32) ∨ z8 = (1 : Int32) := by rcases hj9 with h | h <;> simp [h.2]
  have k17 : z17 = (0 : Int32) ∨ z17 = (1 : Int32) := by rcases hj18 with h | h <;> simp [h.2]
  rw [a7, z0] at hj73
  rw [b7] at hj98
  simp only [a3s, b3s, z0] at hp38 hj51 hp60 hj73 hp85 hj98
  clear hp55 hp80 ac bc hj9 hj18 hv19 hv20 hv21 hv22 hv23 a3s b3s
  grind
theorem ob_0_19 (q0 : Int64) (p1 : Int32) (p2 : Int32) (p3 : Int32) (p4 : Int32) (z8 : Int32) (z17 : Int32) (v19 : Int32) (v20 : Int32) (v21 : Int64) (v22 : UInt64) (v23 : UInt64) (o37 : Int32) (z50 : Int32) (b53 : Nat → Int64) (o59 : Int32) (z72 : Int32) (b78 : Nat → Int64) (o84 : Int32) (z97 : Int32) (hj9 : (((p3 &&& (1 : Int32)) = (0 : Int32)) ∧ z8 = (0 : Int32)) ∨ ((¬ ((p3 &&& (1 : Int32)) = (0 : Int32))) ∧ z8 = (1 : Int32))) (hj18 : (((p3 &&& (2 : Int32)) = (0 : Int32)) ∧ z17 = (0 : Int32)) ∨ ((¬ ((p3 &&& (2 : Int32)) = (0 : Int32))) ∧ z17 = (1 : Int32))) (hv19 : (p1 &&& (2147483647 : Int32)) = v19) (hv20 : (p2 &&& (2147483647 : Int32)) = v20) (hv21 : (q0 ^^^ (1 : Int64)) = v21) (hv22 : (FP.dneg (FP.i2d (p4 &&& (1023 : Int32)))) = v22) (hv23 : (FP.i2d (((p4.toUInt32 >>> ((10 : Int32) &&& 31).toUInt32).toInt32) &&& (1023 : Int32))) = v23) (hp38 : (((((fun _ => (0 : Int64)) 3) &&& (2147483648 : Int64)) = (0 : Int64)) ∧ o37 = (0 : Int32)) ∨ ((¬ ((((fun _ => (0 : Int64)) 3) &&& (2147483648 : Int64)) = (0 : Int64))) ∧ o37 = (1 : Int32))) (hj51 : (∃ (o41 : Int32), (o37 = (0 : Int32)) ∧ ((((((fun _ => (0 : Int64)) 7) &&& (2147483648 : Int64)) = (0 : Int64)) ∧ o41 = (0 : Int32)) ∨ ((¬ ((((fun _ => (0 : Int64)) 7) &&& (2147483648 : Int64)) = (0 : Int64))) ∧ o41 = (1 : Int32))) ∧ (o41 = (0 : Int32)) ∧ z50 = (1 : Int32)) ∨ (∃ (o41 : Int32), (o37 = (0 : Int32)) ∧ ((((((fun _ => (0 : Int64)) 7) &&& (2147483648 : Int64)) = (0 : Int64)) ∧ o41 = (0 : Int32)) ∨ ((¬ ((((fun _ => (0 : Int64)) 7) &&& (2147483648 : Int64)) = (0 : Int64))) ∧ o41 = (1 : Int32))) ∧ (¬ (o41 = (0 : Int32))) ∧ z50 = (0 : Int32)) ∨ ((¬ (o37 = (0 : Int32))) ∧ z50 = (0 : Int32))) (hp55 : (∃ (y9 : Int64) (v12 : Int64), (((z8 = (0 : Int32)) ∧ y9 = (0 : Int64)) ∨ ((¬ (z8 = (0 : Int32))) ∧ y9 = (2147483648 : Int64))) ∧ (((((v19.toInt64) <<< ((32 : Int32) &&& 0x3f).toInt64) ||| y9) ||| (1 : Int64)) = v12) ∧ (own_find (fun _ => (0 : Int64)) q0 v19 (1 : Int64) (1 : Int64) (-1 : Int32)) ∧ b53 = (own_upd (own_upd (own_upd (own_upd (own_cp (fun _ => (0 : Int64)) 0 (fun _ => (0 : Int64)) 4 4) 0 q0) 1 (v22.toInt64)) 2 (v23.toInt64)) 3 v12)) ∨ (∃ (y9 : Int64) (v12 : Int64), (((z8 = (0 : Int32)) ∧ y9 = (0 : Int64)) ∨ ((¬ (z8 = (0 : Int32))) ∧ y9 = (2147483648 : Int64))) ∧ (((((v19.toInt64) <<< ((32 : Int32) &&& 0x3f).toInt64) ||| y9) ||| (1 : Int64)) = v12) ∧ (own_find (fun _ => (0 : Int64)) q0 v19 (1 : Int64) (1 : Int64) (0 : Int32)) ∧ b53 = (own_upd (own_upd (own_upd (own_upd (own_cp (fun _ => (0 : Int64)) 0 (fun _ => (0 : Int64)) 4 0) 0 q0) 1 (v22.toInt64)) 2 (v23.toInt64)) 3 v12)) ∨ (∃ (y9 : Int64) (v12 : Int64), (((z8 = (0 : Int32)) ∧ y9 = (0 : Int64)) ∨ ((¬ (z8 = (0 : Int32))) ∧ y9 = (2147483648 : Int64))) ∧ (((((v19.toInt64) <<< ((32 : Int32) &&& 0x3f).toInt64) ||| y9) ||| (1 : Int64)) = v12) ∧ (own_find (fun _ => (0 : Int64)) q0 v19 (1 : Int64) (1 : Int64) (4 : Int32)) ∧ b53 = (own_upd (own_upd (own_upd (own_upd (own_cp (fun _ => (0 : Int64)) 0 (fun _ => (0 : Int64)) 4 4) 0 q0) 1 (v22.toInt64)) 2 (v23.toInt64)) 3 v12))) (hp60 : ((((b53 3) &&& (2147483648 : Int64)) = (0 : Int64)) ∧ o59 = (0 : Int32)) ∨ ((¬ (((b53 3) &&& (2147483648 : Int64)) = (0 : Int64))) ∧ o59 = (1 : Int32))) (hj73 : (∃ (o63 : Int32), (o59 = z8) ∧ (((((b53 7) &&& (2147483648 : Int64)) = (0 : Int64)) ∧ o63 = (0 : Int32)) ∨ ((¬ (((b53 7) &&& (2147483648 : Int64)) = (0 : Int64))) ∧ o63 = (1 : Int32))) ∧ (o63 = (0 : Int32)) ∧ z72 = (1 : Int32)) ∨ (∃ (o63 : Int32), (o59 = z8) ∧ (((((b53 7) &&& (2147483648 : Int64)) = (0 : Int64)) ∧ o63 = (0 : Int32)) ∨ ((¬ (((b53 7) &&& (2147483648 : Int64)) = (0 : Int64))) ∧ o63 = (1 : Int32))) ∧ (¬ (o63 = (0 : Int32))) ∧ z72 = (0 : Int32)) ∨ ((¬ (o59 = z8)) ∧ z72 = (0 : Int32))) (hp80 : (∃ (y9 : Int64) (v12 : Int64), (((z17 = (0 : Int32)) ∧ y9 = (0 : Int64)) ∨ ((¬ (z17 = (0 : Int32))) ∧ y9 = (2147483648 : Int64))) ∧ (((((v20.toInt64) <<< ((32 : Int32) &&& 0x3f).toInt64) ||| y9) ||| (1 : Int64)) = v12) ∧ (own_find b53 v21 v20 (1 : Int64) (1 : Int64) (-1 : Int32)) ∧ b78 = (own_upd (own_upd (own_upd (own_upd (own_cp b53 0 b53 4 4) 0 v21) 1 (v22.toInt64)) 2 (v23.toInt64)) 3 v12)) ∨ (∃ (y9 : Int64) (v12 : Int64), (((z17 = (0 : Int32)) ∧ y9 = (0 : Int64)) ∨ ((¬ (z17 = (0 : Int32))) ∧ y9 = (2147483648 : Int64))) ∧ (((((v20.toInt64) <<< ((32 : Int32) &&& 0x3f).toInt64) ||| y9) ||| (1 : Int64)) = v12) ∧ (own_find b53 v21 v20 (1 : Int64) (1 : Int64) (0 : Int32)) ∧ b78 = (own_upd (own_upd (own_upd (own_upd (own_cp b53 0 b53 4 0) 0 v21) 1 (v22.toInt64)) 2 (v23.toInt64)) 3 v12)) ∨ (∃ (y9 : Int64) (v12 : Int64), (((z17 = (0 : Int32)) ∧ y9 = (0 : Int64)) ∨ ((¬ (z17 = (0 : Int32))) ∧ y9 = (2147483648 : Int64))) ∧ (((((v20.toInt64) <<< ((32 : Int32) &&& 0x3f).toInt64) ||| y9) ||| (1 : Int64)) = v12) ∧ (own_find b53 v21 v20 (1 : Int64) (1 : Int64) (4 : Int32)) ∧ b78 = (own_upd (own_upd (own_upd (own_upd (own_cp b53 0 b53 4 4) 0 v21) 1 (v22.toInt64)) 2 (v23.toInt64)) 3 v12))) (hp85 : ((((b78 3) &&& (2147483648 : Int64)) = (0 : Int64)) ∧ o84 = (0 : Int32)) ∨ ((¬ (((b78 3) &&& (2147483648 : Int64)) = (0 : Int64))) ∧ o84 = (1 : Int32))) (hj98 : (∃ (o88 : Int32), (o84 = z17) ∧ (((((b78 7) &&& (2147483648 : Int64)) = (0 : Int64)) ∧ o88 = (0 : Int32)) ∨ ((¬ (((b78 7) &&& (2147483648 : Int64)) = (0 : Int64))) ∧ o88 = (1 : Int32))) ∧ (o88 = z8) ∧ z97 = (1 : Int32)) ∨ (∃ (o88 : Int32), (o84 = z17) ∧ (((((b78 7) &&& (2147483648 : Int64)) = (0 : Int64)) ∧ o88 = (0 : Int32)) ∨ ((¬ (((b78 7) &&& (2147483648 : Int64)) = (0 : Int64))) ∧ o88 = (1 : Int32))) ∧ (¬ (o88 = z8)) ∧ z97 = (0 : Int32)) ∨ ((¬ (o84 = z17)) ∧ z97 = (0 : Int32))) (c99 : ¬ (z50 = (0 : Int32))) (c100 : z72 = (0 : Int32)) : False := by
  have n1 : ¬ v19 < (0 : Int32) := hv19 ▸ own_mask31 p1
  have n2 : ¬ v20 < (0 : Int32) := hv20 ▸ own_mask31 p2
  obtain ⟨a0, -, -, -, a3s, ac⟩ := own_first (fun _ => (0 : Int64)) q0 v19 z8 _ _ n1 1 (Or.inl rfl) b53 (own_find (fun _ => (0 : Int64)) q0 v19 (1 : Int64) (1 : Int64)) hp55
  obtain ⟨b0, -, -, -, b3s, bc⟩ := own_first b53 v21 v20 z17 _ _ n2 1 (Or.inl rfl) b78 (own_find b53 v21 v20 (1 : Int64) (1 : Int64)) hp80
  have a7 : b53 7 = (0 : Int64) := by
    rcases ac with ⟨-, h⟩ | ⟨-, h⟩
    · exact h.2.2
    · exact h.2.2
  have ne : ¬ q0 = v21 := fun q => by
    have h := c_xor2L q0 1
    rw [hv21, ← q] at h
    have e : (1 : Int64).toInt = 1 := rfl
    omega
  have b7 : b78 7 = b53 3 := by
    rcases bc with ⟨h, -⟩ | ⟨-, h⟩
    · rcases h with ⟨-, h, -⟩ | ⟨h, -⟩ | ⟨h, -⟩
      · exact absurd (a0.symm.trans h) ne
      · exact absurd h (by decide)
      · exact absurd h (by decide)
    · exact h.2.2
  have z0 : ((0 : Int64) &&& (2147483648 : Int64)) = (0 : Int64) := by decide
  have k8 : z8 = (0 : Int32) ∨ z8 = (1 : Int32) := by rcases hj9 with h | h <;> simp [h.2]
  have k17 : z17 = (0 : Int32) ∨ z17 = (1 : Int32) := by rcases hj18 with h | h <;> simp [h.2]
  rw [a7, z0] at hj73
  rw [b7] at hj98
  simp only [a3s, b3s, z0] at hp38 hj51 hp60 hj73 hp85 hj98
  clear hp55 hp80 ac bc hj9 hj18 hv19 hv20 hv21 hv22 hv23 a3s b3s
  grind
theorem ob_0_20 (q0 : Int64) (p1 : Int32) (p2 : Int32) (p3 : Int32) (p4 : Int32) (z8 : Int32) (z17 : Int32) (v19 : Int32) (v20 : Int32) (v21 : Int64) (v22 : UInt64) (v23 : UInt64) (o37 : Int32) (z50 : Int32) (b53 : Nat → Int64) (o59 : Int32) (z72 : Int32) (b78 : Nat → Int64) (o84 : Int32) (z97 : Int32) (hj9 : (((p3 &&& (1 : Int32)) = (0 : Int32)) ∧ z8 = (0 : Int32)) ∨ ((¬ ((p3 &&& (1 : Int32)) = (0 : Int32))) ∧ z8 = (1 : Int32))) (hj18 : (((p3 &&& (2 : Int32)) = (0 : Int32)) ∧ z17 = (0 : Int32)) ∨ ((¬ ((p3 &&& (2 : Int32)) = (0 : Int32))) ∧ z17 = (1 : Int32))) (hv19 : (p1 &&& (2147483647 : Int32)) = v19) (hv20 : (p2 &&& (2147483647 : Int32)) = v20) (hv21 : (q0 ^^^ (1 : Int64)) = v21) (hv22 : (FP.dneg (FP.i2d (p4 &&& (1023 : Int32)))) = v22) (hv23 : (FP.i2d (((p4.toUInt32 >>> ((10 : Int32) &&& 31).toUInt32).toInt32) &&& (1023 : Int32))) = v23) (hp38 : (((((fun _ => (0 : Int64)) 3) &&& (2147483648 : Int64)) = (0 : Int64)) ∧ o37 = (0 : Int32)) ∨ ((¬ ((((fun _ => (0 : Int64)) 3) &&& (2147483648 : Int64)) = (0 : Int64))) ∧ o37 = (1 : Int32))) (hj51 : (∃ (o41 : Int32), (o37 = (0 : Int32)) ∧ ((((((fun _ => (0 : Int64)) 7) &&& (2147483648 : Int64)) = (0 : Int64)) ∧ o41 = (0 : Int32)) ∨ ((¬ ((((fun _ => (0 : Int64)) 7) &&& (2147483648 : Int64)) = (0 : Int64))) ∧ o41 = (1 : Int32))) ∧ (o41 = (0 : Int32)) ∧ z50 = (1 : Int32)) ∨ (∃ (o41 : Int32), (o37 = (0 : Int32)) ∧ ((((((fun _ => (0 : Int64)) 7) &&& (2147483648 : Int64)) = (0 : Int64)) ∧ o41 = (0 : Int32)) ∨ ((¬ ((((fun _ => (0 : Int64)) 7) &&& (2147483648 : Int64)) = (0 : Int64))) ∧ o41 = (1 : Int32))) ∧ (¬ (o41 = (0 : Int32))) ∧ z50 = (0 : Int32)) ∨ ((¬ (o37 = (0 : Int32))) ∧ z50 = (0 : Int32))) (hp55 : (∃ (y9 : Int64) (v12 : Int64), (((z8 = (0 : Int32)) ∧ y9 = (0 : Int64)) ∨ ((¬ (z8 = (0 : Int32))) ∧ y9 = (2147483648 : Int64))) ∧ (((((v19.toInt64) <<< ((32 : Int32) &&& 0x3f).toInt64) ||| y9) ||| (1 : Int64)) = v12) ∧ (own_find (fun _ => (0 : Int64)) q0 v19 (1 : Int64) (1 : Int64) (-1 : Int32)) ∧ b53 = (own_upd (own_upd (own_upd (own_upd (own_cp (fun _ => (0 : Int64)) 0 (fun _ => (0 : Int64)) 4 4) 0 q0) 1 (v22.toInt64)) 2 (v23.toInt64)) 3 v12)) ∨ (∃ (y9 : Int64) (v12 : Int64), (((z8 = (0 : Int32)) ∧ y9 = (0 : Int64)) ∨ ((¬ (z8 = (0 : Int32))) ∧ y9 = (2147483648 : Int64))) ∧ (((((v19.toInt64) <<< ((32 : Int32) &&& 0x3f).toInt64) ||| y9) ||| (1 : Int64)) = v12) ∧ (own_find (fun _ => (0 : Int64)) q0 v19 (1 : Int64) (1 : Int64) (0 : Int32)) ∧ b53 = (own_upd (own_upd (own_upd (own_upd (own_cp (fun _ => (0 : Int64)) 0 (fun _ => (0 : Int64)) 4 0) 0 q0) 1 (v22.toInt64)) 2 (v23.toInt64)) 3 v12)) ∨ (∃ (y9 : Int64) (v12 : Int64), (((z8 = (0 : Int32)) ∧ y9 = (0 : Int64)) ∨ ((¬ (z8 = (0 : Int32))) ∧ y9 = (2147483648 : Int64))) ∧ (((((v19.toInt64) <<< ((32 : Int32) &&& 0x3f).toInt64) ||| y9) ||| (1 : Int64)) = v12) ∧ (own_find (fun _ => (0 : Int64)) q0 v19 (1 : Int64) (1 : Int64) (4 : Int32)) ∧ b53 = (own_upd (own_upd (own_upd (own_upd (own_cp (fun _ => (0 : Int64)) 0 (fun _ => (0 : Int64)) 4 4) 0 q0) 1 (v22.toInt64)) 2 (v23.toInt64)) 3 v12))) (hp60 : ((((b53 3) &&& (2147483648 : Int64)) = (0 : Int64)) ∧ o59 = (0 : Int32)) ∨ ((¬ (((b53 3) &&& (2147483648 : Int64)) = (0 : Int64))) ∧ o59 = (1 : Int32))) (hj73 : (∃ (o63 : Int32), (o59 = z8) ∧ (((((b53 7) &&& (2147483648 : Int64)) = (0 : Int64)) ∧ o63 = (0 : Int32)) ∨ ((¬ (((b53 7) &&& (2147483648 : Int64)) = (0 : Int64))) ∧ o63 = (1 : Int32))) ∧ (o63 = (0 : Int32)) ∧ z72 = (1 : Int32)) ∨ (∃ (o63 : Int32), (o59 = z8) ∧ (((((b53 7) &&& (2147483648 : Int64)) = (0 : Int64)) ∧ o63 = (0 : Int32)) ∨ ((¬ (((b53 7) &&& (2147483648 : Int64)) = (0 : Int64))) ∧ o63 = (1 : Int32))) ∧ (¬ (o63 = (0 : Int32))) ∧ z72 = (0 : Int32)) ∨ ((¬ (o59 = z8)) ∧ z72 = (0 : Int32))) (hp80 : (∃ (y9 : Int64) (v12 : Int64), (((z17 = (0 : Int32)) ∧ y9 = (0 : Int64)) ∨ ((¬ (z17 = (0 : Int32))) ∧ y9 = (2147483648 : Int64))) ∧ (((((v20.toInt64) <<< ((32 : Int32) &&& 0x3f).toInt64) ||| y9) ||| (1 : Int64)) = v12) ∧ (own_find b53 v21 v20 (1 : Int64) (1 : Int64) (-1 : Int32)) ∧ b78 = (own_upd (own_upd (own_upd (own_upd (own_cp b53 0 b53 4 4) 0 v21) 1 (v22.toInt64)) 2 (v23.toInt64)) 3 v12)) ∨ (∃ (y9 : Int64) (v12 : Int64), (((z17 = (0 : Int32)) ∧ y9 = (0 : Int64)) ∨ ((¬ (z17 = (0 : Int32))) ∧ y9 = (2147483648 : Int64))) ∧ (((((v20.toInt64) <<< ((32 : Int32) &&& 0x3f).toInt64) ||| y9) ||| (1 : Int64)) = v12) ∧ (own_find b53 v21 v20 (1 : Int64) (1 : Int64) (0 : Int32)) ∧ b78 = (own_upd (own_upd (own_upd (own_upd (own_cp b53 0 b53 4 0) 0 v21) 1 (v22.toInt64)) 2 (v23.toInt64)) 3 v12)) ∨ (∃ (y9 : Int64) (v12 : Int64), (((z17 = (0 : Int32)) ∧ y9 = (0 : Int64)) ∨ ((¬ (z17 = (0 : Int32))) ∧ y9 = (2147483648 : Int64))) ∧ (((((v20.toInt64) <<< ((32 : Int32) &&& 0x3f).toInt64) ||| y9) ||| (1 : Int64)) = v12) ∧ (own_find b53 v21 v20 (1 : Int64) (1 : Int64) (4 : Int32)) ∧ b78 = (own_upd (own_upd (own_upd (own_upd (own_cp b53 0 b53 4 4) 0 v21) 1 (v22.toInt64)) 2 (v23.toInt64)) 3 v12))) (hp85 : ((((b78 3) &&& (2147483648 : Int64)) = (0 : Int64)) ∧ o84 = (0 : Int32)) ∨ ((¬ (((b78 3) &&& (2147483648 : Int64)) = (0 : Int64))) ∧ o84 = (1 : Int32))) (hj98 : (∃ (o88 : Int32), (o84 = z17) ∧ (((((b78 7) &&& (2147483648 : Int64)) = (0 : Int64)) ∧ o88 = (0 : Int32)) ∨ ((¬ (((b78 7) &&& (2147483648 : Int64)) = (0 : Int64))) ∧ o88 = (1 : Int32))) ∧ (o88 = z8) ∧ z97 = (1 : Int32)) ∨ (∃ (o88 : Int32), (o84 = z17) ∧ (((((b78 7) &&& (2147483648 : Int64)) = (0 : Int64)) ∧ o88 = (0 : Int32)) ∨ ((¬ (((b78 7) &&& (2147483648 : Int64)) = (0 : Int64))) ∧ o88 = (1 : Int32))) ∧ (¬ (o88 = z8)) ∧ z97 = (0 : Int32)) ∨ ((¬ (o84 = z17)) ∧ z97 = (0 : Int32))) (c99 : ¬ (z50 = (0 : Int32))) (c100 : ¬ (z72 = (0 : Int32))) (c101 : z97 = (0 : Int32)) : False := by
  have n1 : ¬ v19 < (0 : Int32) := hv19 ▸ own_mask31 p1
  have n2 : ¬ v20 < (0 : Int32) := hv20 ▸ own_mask31 p2
  obtain ⟨a0, -, -, -, a3s, ac⟩ := own_first (fun _ => (0 : Int64)) q0 v19 z8 _ _ n1 1 (Or.inl rfl) b53 (own_find (fun _ => (0 : Int64)) q0 v19 (1 : Int64) (1 : Int64)) hp55
  obtain ⟨b0, -, -, -, b3s, bc⟩ := own_first b53 v21 v20 z17 _ _ n2 1 (Or.inl rfl) b78 (own_find b53 v21 v20 (1 : Int64) (1 : Int64)) hp80
  have a7 : b53 7 = (0 : Int64) := by
    rcases ac with ⟨-, h⟩ | ⟨-, h⟩
    · exact h.2.2
    · exact h.2.2
  have ne : ¬ q0 = v21 := fun q => by
    have h := c_xor2L q0 1
    rw [hv21, ← q] at h
    have e : (1 : Int64).toInt = 1 := rfl
    omega
  have b7 : b78 7 = b53 3 := by
    rcases bc with ⟨h, -⟩ | ⟨-, h⟩
    · rcases h with ⟨-, h, -⟩ | ⟨h, -⟩ | ⟨h, -⟩
      · exact absurd (a0.symm.trans h) ne
      · exact absurd h (by decide)
      · exact absurd h (by decide)
    · exact h.2.2
  have z0 : ((0 : Int64) &&& (2147483648 : Int64)) = (0 : Int64) := by decide
  have k8 : z8 = (0 : Int32) ∨ z8 = (1 : Int32) := by rcases hj9 with h | h <;> simp [h.2]
  have k17 : z17 = (0 : Int32) ∨ z17 = (1 : Int32) := by rcases hj18 with h | h <;> simp [h.2]
  rw [a7, z0] at hj73
  rw [b7] at hj98
  simp only [a3s, b3s, z0] at hp38 hj51 hp60 hj73 hp85 hj98
  clear hp55 hp80 ac bc hj9 hj18 hv19 hv20 hv21 hv22 hv23 a3s b3s
  grind
def Q0 (Z : State) (q0 : Int64) (p1 : Int32) (p2 : Int32) (p3 : Int32) (p4 : Int32) (h0 : Heap) (n0 : Nat) (v : Option Value) (h : Heap) (L : List Loc) : Prop := v = some (.int (1 : Int32)) ∧ Fr n0 L
set_option maxRecDepth 65536 in
set_option maxHeartbeats 40000000 in
theorem rm0 (l : Launch) (Z : State) (A0 : Array Value) (hw : ∀ d ∈ tables_1, d.before A0 Z = true) (ws : List Jvm.Cond) (q0 : Int64) (p1 : Int32) (p2 : Int32) (p3 : Int32) (p4 : Int32) (h0 : Heap) (n0 : Nat) (Z0 : n0 ≤ h0.size) :
    MetFree l x (head1 (Jvm.Cond.code x code maxLocals ret :: ws) room_1) (fun a U => a = #[(.long q0), (.int p1), (.int p2), (.int p3), (.int p4)] ∧ Z.Warmed39 U.vm ∧ U.heap = h0) (fun _ _ _ _ _ => True) (fun _ U o U' => ∃ v L, o = .returned v ∧ Q0 Z q0 p1 p2 p3 p4 h0 n0 v U'.heap L ∧ FrameEnd U o U' L 16 128) := by
  refine MetFree.of_bodySF (plainFor_of_name pn_0) hisR ?_
  intro p e s m args below meth c s₁ Bd hml0 hP hK
  obtain ⟨rfl, hZ, hh⟩ := hP
  have hx := Bd.exec
  have hby := Bd.bytes
  have hml : c.maxLocals = 22 := hml0
  have hlk : meth.locks = false := Bd.notSynchronized
  have hown : s.vm.findClass "com/example/plyward/plyward/search/TranspositionTableSettledPinLaw" = some m.cls := findClass_of_methodNamed Bd.named
  have hnm := (name_of_methodNamed Bd.named Bd.method).1
  have X0 : Stand p l e room_1 s m #[(.long q0), (.int p1), (.int p2), (.int p3), (.int p4)] below meth c s₁ [] 0 0 := Stand.of_body Bd
  have e0 : s₁.heap = h0 := by rw [← hh, Bd.state]; rfl
  have N0 := Fr.nil n0
  show own_Go p e below (own_Fin s 16 128 (Q0 Z q0 p1 p2 p3 p4 h0 n0)) _
  refine own_by (fun t k => castTop (ef_0 m q0 p1 p2 p3 p4) k) ?_
  show own_Go p e below _ (s₁.setTop (mkF m 0 #[.val (.long q0), .second, .val (.int p1), .val (.int p2), .val (.int p3), .val (.int p4), .unset, .unset, .unset, .unset, .unset, .unset, .unset, .unset, .unset, .unset, .unset, .unset, .unset, .unset, .unset, .unset] []))
  refine own_by (fun _ k => XS.iload X0.here hx rfl (hb hby at_0) rfl k) ?_
  show own_Go p e below _ (s₁.setTop (mkF m 2 #[.val (.long q0), .second, .val (.int p1), .val (.int p2), .val (.int p3), .val (.int p4), .unset, .unset, .unset, .unset, .unset, .unset, .unset, .unset, .unset, .unset, .unset, .unset, .unset, .unset, .unset, .unset] [(.int p3)]))
  refine own_by (fun _ k => XS.iconst X0.here hx rfl (hb hby at_2) k) ?_
  show own_Go p e below _ (s₁.setTop (mkF m 3 #[.val (.long q0), .second, .val (.int p1), .val (.int p2), .val (.int p3), .val (.int p4), .unset, .unset, .unset, .unset, .unset, .unset, .unset, .unset, .unset, .unset, .unset, .unset, .unset, .unset, .unset, .unset] [(.int (1 : Int32)), (.int p3)]))
  refine own_by (fun _ k => XS.iand X0.here hx rfl (hb hby at_3) rfl k) ?_
  show own_Go p e below _ (s₁.setTop (mkF m 4 #[.val (.long q0), .second, .val (.int p1), .val (.int p2), .val (.int p3), .val (.int p4), .unset, .unset, .unset, .unset, .unset, .unset, .unset, .unset, .unset, .unset, .unset, .unset, .unset, .unset, .unset, .unset] [(.int (p3 &&& (1 : Int32)))]))
  have J2 : ∀ (T3 : State) (L4 : List Loc) (z8 : Int32), Stand p l e room_1 s m #[(.long q0), (.int p1), (.int p2), (.int p3), (.int p4)] below meth c T3 L4 0 0 → T3.heap = h0 → Fr n0 L4 → ((((p3 &&& (1 : Int32)) = (0 : Int32)) ∧ z8 = (0 : Int32)) ∨ ((¬ ((p3 &&& (1 : Int32)) = (0 : Int32))) ∧ z8 = (1 : Int32))) → own_Go p e below (own_Fin s 16 128 (Q0 Z q0 p1 p2 p3 p4 h0 n0)) (T3.setTop (mkF m 12 #[.val (.long q0), .second, .val (.int p1), .val (.int p2), .val (.int p3), .val (.int p4), .unset, .unset, .unset, .unset, .unset, .unset, .unset, .unset, .unset, .unset, .unset, .unset, .unset, .unset, .unset, .unset] [(.int z8)])) := by
    intro T3 L4 z8 X5 e6 N7 hj9
    refine own_by (fun _ k => XS.istore X5.here hx rfl (hb hby at_12) rfl (l' := #[.val (.long q0), .second, .val (.int p1), .val (.int p2), .val (.int p3), .val (.int p4), .val (.int z8), .unset, .unset, .unset, .unset, .unset, .unset, .unset, .unset, .unset, .unset, .unset, .unset, .unset, .unset, .unset]) rfl k) ?_
    show own_Go p e below _ (T3.setTop (mkF m 14 #[.val (.long q0), .second, .val (.int p1), .val (.int p2), .val (.int p3), .val (.int p4), .val (.int z8), .unset, .unset, .unset, .unset, .unset, .unset, .unset, .unset, .unset, .unset, .unset, .unset, .unset, .unset, .unset] []))
    refine own_by (fun _ k => XS.iload X5.here hx rfl (hb hby at_14) rfl k) ?_
    show own_Go p e below _ (T3.setTop (mkF m 16 #[.val (.long q0), .second, .val (.int p1), .val (.int p2), .val (.int p3), .val (.int p4), .val (.int z8), .unset, .unset, .unset, .unset, .unset, .unset, .unset, .unset, .unset, .unset, .unset, .unset, .unset, .unset, .unset] [(.int p3)]))
    refine own_by (fun _ k => XS.iconst X5.here hx rfl (hb hby at_16) k) ?_
    show own_Go p e below _ (T3.setTop (mkF m 17 #[.val (.long q0), .second, .val (.int p1), .val (.int p2), .val (.int p3), .val (.int p4), .val (.int z8), .unset, .unset, .unset, .unset, .unset, .unset, .unset, .unset, .unset, .unset, .unset, .unset, .unset, .unset, .unset] [(.int (2 : Int32)), (.int p3)]))
    refine own_by (fun _ k => XS.iand X5.here hx rfl (hb hby at_17) rfl k) ?_
    show own_Go p e below _ (T3.setTop (mkF m 18 #[.val (.long q0), .second, .val (.int p1), .val (.int p2), .val (.int p3), .val (.int p4), .val (.int z8), .unset, .unset, .unset, .unset, .unset, .unset, .unset, .unset, .unset, .unset, .unset, .unset, .unset, .unset, .unset] [(.int (p3 &&& (2 : Int32)))]))
    have J11 : ∀ (T12 : State) (L13 : List Loc) (z17 : Int32), Stand p l e room_1 s m #[(.long q0), (.int p1), (.int p2), (.int p3), (.int p4)] below meth c T12 L13 0 0 → T12.heap = h0 → Fr n0 L13 → ((((p3 &&& (2 : Int32)) = (0 : Int32)) ∧ z17 = (0 : Int32)) ∨ ((¬ ((p3 &&& (2 : Int32)) = (0 : Int32))) ∧ z17 = (1 : Int32))) → own_Go p e below (own_Fin s 16 128 (Q0 Z q0 p1 p2 p3 p4 h0 n0)) (T12.setTop (mkF m 26 #[.val (.long q0), .second, .val (.int p1), .val (.int p2), .val (.int p3), .val (.int p4), .val (.int z8), .unset, .unset, .unset, .unset, .unset, .unset, .unset, .unset, .unset, .unset, .unset, .unset, .unset, .unset, .unset] [(.int z17)])) := by
      intro T12 L13 z17 X14 e15 N16 hj18
      refine own_by (fun _ k => XS.istore X14.here hx rfl (hb hby at_26) rfl (l' := #[.val (.long q0), .second, .val (.int p1), .val (.int p2), .val (.int p3), .val (.int p4), .val (.int z8), .val (.int z17), .unset, .unset, .unset, .unset, .unset, .unset, .unset, .unset, .unset, .unset, .unset, .unset, .unset, .unset]) rfl k) ?_
      show own_Go p e below _ (T12.setTop (mkF m 28 #[.val (.long q0), .second, .val (.int p1), .val (.int p2), .val (.int p3), .val (.int p4), .val (.int z8), .val (.int z17), .unset, .unset, .unset, .unset, .unset, .unset, .unset, .unset, .unset, .unset, .unset, .unset, .unset, .unset] []))
      refine own_by (fun _ k => XS.iloadN X14.here hx rfl (hb hby at_28) rfl k) ?_
      show own_Go p e below _ (T12.setTop (mkF m 29 #[.val (.long q0), .second, .val (.int p1), .val (.int p2), .val (.int p3), .val (.int p4), .val (.int z8), .val (.int z17), .unset, .unset, .unset, .unset, .unset, .unset, .unset, .unset, .unset, .unset, .unset, .unset, .unset, .unset] [(.int p1)]))
      refine own_by (fun t k => X14.ldcInt hx hown (mvT hZ (hw _ (List.mem_of_getElem? (i := 0) rfl))) (g := (mkF m 29 #[.val (.long q0), .second, .val (.int p1), .val (.int p2), .val (.int p3), .val (.int p4), .val (.int z8), .val (.int z17), .unset, .unset, .unset, .unset, .unset, .unset, .unset, .unset, .unset, .unset, .unset, .unset, .unset, .unset] [(.int p1)])) rfl (hb hby at_29) _ k) ?_
      show own_Go p e below _ (T12.setTop (mkF m 31 #[.val (.long q0), .second, .val (.int p1), .val (.int p2), .val (.int p3), .val (.int p4), .val (.int z8), .val (.int z17), .unset, .unset, .unset, .unset, .unset, .unset, .unset, .unset, .unset, .unset, .unset, .unset, .unset, .unset] [(.int (2147483647 : Int32)), (.int p1)]))
      refine own_by (fun _ k => XS.iand X14.here hx rfl (hb hby at_31) rfl k) ?_
      show own_Go p e below _ (T12.setTop (mkF m 32 #[.val (.long q0), .second, .val (.int p1), .val (.int p2), .val (.int p3), .val (.int p4), .val (.int z8), .val (.int z17), .unset, .unset, .unset, .unset, .unset, .unset, .unset, .unset, .unset, .unset, .unset, .unset, .unset, .unset] [(.int (p1 &&& (2147483647 : Int32)))]))
      refine own_by (fun _ k => XS.istore X14.here hx rfl (hb hby at_32) rfl (l' := #[.val (.long q0), .second, .val (.int p1), .val (.int p2), .val (.int p3), .val (.int p4), .val (.int z8), .val (.int z17), .val (.int (p1 &&& (2147483647 : Int32))), .unset, .unset, .unset, .unset, .unset, .unset, .unset, .unset, .unset, .unset, .unset, .unset, .unset]) rfl k) ?_
      show own_Go p e below _ (T12.setTop (mkF m 34 #[.val (.long q0), .second, .val (.int p1), .val (.int p2), .val (.int p3), .val (.int p4), .val (.int z8), .val (.int z17), .val (.int (p1 &&& (2147483647 : Int32))), .unset, .unset, .unset, .unset, .unset, .unset, .unset, .unset, .unset, .unset, .unset, .unset, .unset] []))
      generalize hv19 : (p1 &&& (2147483647 : Int32)) = v19
      show own_Go p e below _ (T12.setTop (mkF m 34 #[.val (.long q0), .second, .val (.int p1), .val (.int p2), .val (.int p3), .val (.int p4), .val (.int z8), .val (.int z17), .val (.int v19), .unset, .unset, .unset, .unset, .unset, .unset, .unset, .unset, .unset, .unset, .unset, .unset, .unset] []))
      refine own_by (fun _ k => XS.iloadN X14.here hx rfl (hb hby at_34) rfl k) ?_
      show own_Go p e below _ (T12.setTop (mkF m 35 #[.val (.long q0), .second, .val (.int p1), .val (.int p2), .val (.int p3), .val (.int p4), .val (.int z8), .val (.int z17), .val (.int v19), .unset, .unset, .unset, .unset, .unset, .unset, .unset, .unset, .unset, .unset, .unset, .unset, .unset] [(.int p2)]))
      refine own_by (fun t k => X14.ldcInt hx hown (mvT hZ (hw _ (List.mem_of_getElem? (i := 0) rfl))) (g := (mkF m 35 #[.val (.long q0), .second, .val (.int p1), .val (.int p2), .val (.int p3), .val (.int p4), .val (.int z8), .val (.int z17), .val (.int v19), .unset, .unset, .unset, .unset, .unset, .unset, .unset, .unset, .unset, .unset, .unset, .unset, .unset] [(.int p2)])) rfl (hb hby at_35) _ k) ?_
      show own_Go p e below _ (T12.setTop (mkF m 37 #[.val (.long q0), .second, .val (.int p1), .val (.int p2), .val (.int p3), .val (.int p4), .val (.int z8), .val (.int z17), .val (.int v19), .unset, .unset, .unset, .unset, .unset, .unset, .unset, .unset, .unset, .unset, .unset, .unset, .unset] [(.int (2147483647 : Int32)), (.int p2)]))
      refine own_by (fun _ k => XS.iand X14.here hx rfl (hb hby at_37) rfl k) ?_
      show own_Go p e below _ (T12.setTop (mkF m 38 #[.val (.long q0), .second, .val (.int p1), .val (.int p2), .val (.int p3), .val (.int p4), .val (.int z8), .val (.int z17), .val (.int v19), .unset, .unset, .unset, .unset, .unset, .unset, .unset, .unset, .unset, .unset, .unset, .unset, .unset] [(.int (p2 &&& (2147483647 : Int32)))]))
      refine own_by (fun _ k => XS.istore X14.here hx rfl (hb hby at_38) rfl (l' := #[.val (.long q0), .second, .val (.int p1), .val (.int p2), .val (.int p3), .val (.int p4), .val (.int z8), .val (.int z17), .val (.int v19), .val (.int (p2 &&& (2147483647 : Int32))), .unset, .unset, .unset, .unset, .unset, .unset, .unset, .unset, .unset, .unset, .unset, .unset]) rfl k) ?_
      show own_Go p e below _ (T12.setTop (mkF m 40 #[.val (.long q0), .second, .val (.int p1), .val (.int p2), .val (.int p3), .val (.int p4), .val (.int z8), .val (.int z17), .val (.int v19), .val (.int (p2 &&& (2147483647 : Int32))), .unset, .unset, .unset, .unset, .unset, .unset, .unset, .unset, .unset, .unset, .unset, .unset] []))
      generalize hv20 : (p2 &&& (2147483647 : Int32)) = v20
      show own_Go p e below _ (T12.setTop (mkF m 40 #[.val (.long q0), .second, .val (.int p1), .val (.int p2), .val (.int p3), .val (.int p4), .val (.int z8), .val (.int z17), .val (.int v19), .val (.int v20), .unset, .unset, .unset, .unset, .unset, .unset, .unset, .unset, .unset, .unset, .unset, .unset] []))
      refine own_by (fun _ k => XS.lloadN X14.here hx rfl (hb hby at_40) rfl k) ?_
      show own_Go p e below _ (T12.setTop (mkF m 41 #[.val (.long q0), .second, .val (.int p1), .val (.int p2), .val (.int p3), .val (.int p4), .val (.int z8), .val (.int z17), .val (.int v19), .val (.int v20), .unset, .unset, .unset, .unset, .unset, .unset, .unset, .unset, .unset, .unset, .unset, .unset] [(.long q0)]))
      refine own_by (fun _ k => XS.lstore X14.here hx rfl (hb hby at_41) rfl (l' := #[.val (.long q0), .second, .val (.int p1), .val (.int p2), .val (.int p3), .val (.int p4), .val (.int z8), .val (.int z17), .val (.int v19), .val (.int v20), .val (.long q0), .second, .unset, .unset, .unset, .unset, .unset, .unset, .unset, .unset, .unset, .unset]) rfl k) ?_
      show own_Go p e below _ (T12.setTop (mkF m 43 #[.val (.long q0), .second, .val (.int p1), .val (.int p2), .val (.int p3), .val (.int p4), .val (.int z8), .val (.int z17), .val (.int v19), .val (.int v20), .val (.long q0), .second, .unset, .unset, .unset, .unset, .unset, .unset, .unset, .unset, .unset, .unset] []))
      refine own_by (fun _ k => XS.lloadN X14.here hx rfl (hb hby at_43) rfl k) ?_
      show own_Go p e below _ (T12.setTop (mkF m 44 #[.val (.long q0), .second, .val (.int p1), .val (.int p2), .val (.int p3), .val (.int p4), .val (.int z8), .val (.int z17), .val (.int v19), .val (.int v20), .val (.long q0), .second, .unset, .unset, .unset, .unset, .unset, .unset, .unset, .unset, .unset, .unset] [(.long q0)]))
      refine own_by (fun _ k => XS.lconst X14.here hx rfl (hb hby at_44) k) ?_
      show own_Go p e below _ (T12.setTop (mkF m 45 #[.val (.long q0), .second, .val (.int p1), .val (.int p2), .val (.int p3), .val (.int p4), .val (.int z8), .val (.int z17), .val (.int v19), .val (.int v20), .val (.long q0), .second, .unset, .unset, .unset, .unset, .unset, .unset, .unset, .unset, .unset, .unset] [(.long (1 : Int64)), (.long q0)]))
      refine own_by (fun _ k => XS.lxor X14.here hx rfl (hb hby at_45) rfl k) ?_
      show own_Go p e below _ (T12.setTop (mkF m 46 #[.val (.long q0), .second, .val (.int p1), .val (.int p2), .val (.int p3), .val (.int p4), .val (.int z8), .val (.int z17), .val (.int v19), .val (.int v20), .val (.long q0), .second, .unset, .unset, .unset, .unset, .unset, .unset, .unset, .unset, .unset, .unset] [(.long (q0 ^^^ (1 : Int64)))]))
      refine own_by (fun _ k => XS.lstore X14.here hx rfl (hb hby at_46) rfl (l' := #[.val (.long q0), .second, .val (.int p1), .val (.int p2), .val (.int p3), .val (.int p4), .val (.int z8), .val (.int z17), .val (.int v19), .val (.int v20), .val (.long q0), .second, .val (.long (q0 ^^^ (1 : Int64))), .second, .unset, .unset, .unset, .unset, .unset, .unset, .unset, .unset]) rfl k) ?_
      show own_Go p e below _ (T12.setTop (mkF m 48 #[.val (.long q0), .second, .val (.int p1), .val (.int p2), .val (.int p3), .val (.int p4), .val (.int z8), .val (.int z17), .val (.int v19), .val (.int v20), .val (.long q0), .second, .val (.long (q0 ^^^ (1 : Int64))), .second, .unset, .unset, .unset, .unset, .unset, .unset, .unset, .unset] []))
      generalize hv21 : (q0 ^^^ (1 : Int64)) = v21
      show own_Go p e below _ (T12.setTop (mkF m 48 #[.val (.long q0), .second, .val (.int p1), .val (.int p2), .val (.int p3), .val (.int p4), .val (.int z8), .val (.int z17), .val (.int v19), .val (.int v20), .val (.long q0), .second, .val (.long v21), .second, .unset, .unset, .unset, .unset, .unset, .unset, .unset, .unset] []))
      refine own_by (fun _ k => XS.iload X14.here hx rfl (hb hby at_48) rfl k) ?_
      show own_Go p e below _ (T12.setTop (mkF m 50 #[.val (.long q0), .second, .val (.int p1), .val (.int p2), .val (.int p3), .val (.int p4), .val (.int z8), .val (.int z17), .val (.int v19), .val (.int v20), .val (.long q0), .second, .val (.long v21), .second, .unset, .unset, .unset, .unset, .unset, .unset, .unset, .unset] [(.int p4)]))
      refine own_by (fun _ k => XS.sipush X14.here hx rfl (hb hby at_50) k) ?_
      show own_Go p e below _ (T12.setTop (mkF m 53 #[.val (.long q0), .second, .val (.int p1), .val (.int p2), .val (.int p3), .val (.int p4), .val (.int z8), .val (.int z17), .val (.int v19), .val (.int v20), .val (.long q0), .second, .val (.long v21), .second, .unset, .unset, .unset, .unset, .unset, .unset, .unset, .unset] [(.int (1023 : Int32)), (.int p4)]))
      refine own_by (fun _ k => XS.iand X14.here hx rfl (hb hby at_53) rfl k) ?_
      show own_Go p e below _ (T12.setTop (mkF m 54 #[.val (.long q0), .second, .val (.int p1), .val (.int p2), .val (.int p3), .val (.int p4), .val (.int z8), .val (.int z17), .val (.int v19), .val (.int v20), .val (.long q0), .second, .val (.long v21), .second, .unset, .unset, .unset, .unset, .unset, .unset, .unset, .unset] [(.int (p4 &&& (1023 : Int32)))]))
      refine own_by (fun _ k => XS.i2dS X14.here hx rfl (hb hby at_54) rfl rfl k) ?_
      show own_Go p e below _ (T12.setTop (mkF m 55 #[.val (.long q0), .second, .val (.int p1), .val (.int p2), .val (.int p3), .val (.int p4), .val (.int z8), .val (.int z17), .val (.int v19), .val (.int v20), .val (.long q0), .second, .val (.long v21), .second, .unset, .unset, .unset, .unset, .unset, .unset, .unset, .unset] [(.double (FP.i2d (p4 &&& (1023 : Int32))))]))
      refine own_by (fun _ k => XS.dnegS X14.here hx rfl (hb hby at_55) rfl rfl k) ?_
      show own_Go p e below _ (T12.setTop (mkF m 56 #[.val (.long q0), .second, .val (.int p1), .val (.int p2), .val (.int p3), .val (.int p4), .val (.int z8), .val (.int z17), .val (.int v19), .val (.int v20), .val (.long q0), .second, .val (.long v21), .second, .unset, .unset, .unset, .unset, .unset, .unset, .unset, .unset] [(.double (FP.dneg (FP.i2d (p4 &&& (1023 : Int32)))))]))
      refine own_by (fun _ k => XS.dstore X14.here hx rfl (hb hby at_56) rfl (l' := #[.val (.long q0), .second, .val (.int p1), .val (.int p2), .val (.int p3), .val (.int p4), .val (.int z8), .val (.int z17), .val (.int v19), .val (.int v20), .val (.long q0), .second, .val (.long v21), .second, .val (.double (FP.dneg (FP.i2d (p4 &&& (1023 : Int32))))), .second, .unset, .unset, .unset, .unset, .unset, .unset]) rfl k) ?_
      show own_Go p e below _ (T12.setTop (mkF m 58 #[.val (.long q0), .second, .val (.int p1), .val (.int p2), .val (.int p3), .val (.int p4), .val (.int z8), .val (.int z17), .val (.int v19), .val (.int v20), .val (.long q0), .second, .val (.long v21), .second, .val (.double (FP.dneg (FP.i2d (p4 &&& (1023 : Int32))))), .second, .unset, .unset, .unset, .unset, .unset, .unset] []))
      generalize hv22 : (FP.dneg (FP.i2d (p4 &&& (1023 : Int32)))) = v22
      show own_Go p e below _ (T12.setTop (mkF m 58 #[.val (.long q0), .second, .val (.int p1), .val (.int p2), .val (.int p3), .val (.int p4), .val (.int z8), .val (.int z17), .val (.int v19), .val (.int v20), .val (.long q0), .second, .val (.long v21), .second, .val (.double v22), .second, .unset, .unset, .unset, .unset, .unset, .unset] []))
      refine own_by (fun _ k => XS.iload X14.here hx rfl (hb hby at_58) rfl k) ?_
      show own_Go p e below _ (T12.setTop (mkF m 60 #[.val (.long q0), .second, .val (.int p1), .val (.int p2), .val (.int p3), .val (.int p4), .val (.int z8), .val (.int z17), .val (.int v19), .val (.int v20), .val (.long q0), .second, .val (.long v21), .second, .val (.double v22), .second, .unset, .unset, .unset, .unset, .unset, .unset] [(.int p4)]))
      refine own_by (fun _ k => XS.bipush X14.here hx rfl (hb hby at_60) k) ?_
      show own_Go p e below _ (T12.setTop (mkF m 62 #[.val (.long q0), .second, .val (.int p1), .val (.int p2), .val (.int p3), .val (.int p4), .val (.int z8), .val (.int z17), .val (.int v19), .val (.int v20), .val (.long q0), .second, .val (.long v21), .second, .val (.double v22), .second, .unset, .unset, .unset, .unset, .unset, .unset] [(.int (10 : Int32)), (.int p4)]))
      refine own_by (fun _ k => XS.iushr X14.here hx rfl (hb hby at_62) rfl k) ?_
      show own_Go p e below _ (T12.setTop (mkF m 63 #[.val (.long q0), .second, .val (.int p1), .val (.int p2), .val (.int p3), .val (.int p4), .val (.int z8), .val (.int z17), .val (.int v19), .val (.int v20), .val (.long q0), .second, .val (.long v21), .second, .val (.double v22), .second, .unset, .unset, .unset, .unset, .unset, .unset] [(.int ((p4.toUInt32 >>> ((10 : Int32) &&& 31).toUInt32).toInt32))]))
      refine own_by (fun _ k => XS.sipush X14.here hx rfl (hb hby at_63) k) ?_
      show own_Go p e below _ (T12.setTop (mkF m 66 #[.val (.long q0), .second, .val (.int p1), .val (.int p2), .val (.int p3), .val (.int p4), .val (.int z8), .val (.int z17), .val (.int v19), .val (.int v20), .val (.long q0), .second, .val (.long v21), .second, .val (.double v22), .second, .unset, .unset, .unset, .unset, .unset, .unset] [(.int (1023 : Int32)), (.int ((p4.toUInt32 >>> ((10 : Int32) &&& 31).toUInt32).toInt32))]))
      refine own_by (fun _ k => XS.iand X14.here hx rfl (hb hby at_66) rfl k) ?_
      show own_Go p e below _ (T12.setTop (mkF m 67 #[.val (.long q0), .second, .val (.int p1), .val (.int p2), .val (.int p3), .val (.int p4), .val (.int z8), .val (.int z17), .val (.int v19), .val (.int v20), .val (.long q0), .second, .val (.long v21), .second, .val (.double v22), .second, .unset, .unset, .unset, .unset, .unset, .unset] [(.int (((p4.toUInt32 >>> ((10 : Int32) &&& 31).toUInt32).toInt32) &&& (1023 : Int32)))]))
      refine own_by (fun _ k => XS.i2dS X14.here hx rfl (hb hby at_67) rfl rfl k) ?_
      show own_Go p e below _ (T12.setTop (mkF m 68 #[.val (.long q0), .second, .val (.int p1), .val (.int p2), .val (.int p3), .val (.int p4), .val (.int z8), .val (.int z17), .val (.int v19), .val (.int v20), .val (.long q0), .second, .val (.long v21), .second, .val (.double v22), .second, .unset, .unset, .unset, .unset, .unset, .unset] [(.double (FP.i2d (((p4.toUInt32 >>> ((10 : Int32) &&& 31).toUInt32).toInt32) &&& (1023 : Int32))))]))
      refine own_by (fun _ k => XS.dstore X14.here hx rfl (hb hby at_68) rfl (l' := #[.val (.long q0), .second, .val (.int p1), .val (.int p2), .val (.int p3), .val (.int p4), .val (.int z8), .val (.int z17), .val (.int v19), .val (.int v20), .val (.long q0), .second, .val (.long v21), .second, .val (.double v22), .second, .val (.double (FP.i2d (((p4.toUInt32 >>> ((10 : Int32) &&& 31).toUInt32).toInt32) &&& (1023 : Int32)))), .second, .unset, .unset, .unset, .unset]) rfl k) ?_
      show own_Go p e below _ (T12.setTop (mkF m 70 #[.val (.long q0), .second, .val (.int p1), .val (.int p2), .val (.int p3), .val (.int p4), .val (.int z8), .val (.int z17), .val (.int v19), .val (.int v20), .val (.long q0), .second, .val (.long v21), .second, .val (.double v22), .second, .val (.double (FP.i2d (((p4.toUInt32 >>> ((10 : Int32) &&& 31).toUInt32).toInt32) &&& (1023 : Int32)))), .second, .unset, .unset, .unset, .unset] []))
      generalize hv23 : (FP.i2d (((p4.toUInt32 >>> ((10 : Int32) &&& 31).toUInt32).toInt32) &&& (1023 : Int32))) = v23
      show own_Go p e below _ (T12.setTop (mkF m 70 #[.val (.long q0), .second, .val (.int p1), .val (.int p2), .val (.int p3), .val (.int p4), .val (.int z8), .val (.int z17), .val (.int v19), .val (.int v20), .val (.long q0), .second, .val (.long v21), .second, .val (.double v22), .second, .val (.double v23), .second, .unset, .unset, .unset, .unset] []))
      obtain ⟨T24, h24, X24, e24, E24, A24, D24, -, st24⟩ := newO X14 hx hZ hown (hw _ (List.mem_of_getElem? (i := 1) rfl)) (hw _ (List.mem_of_getElem? (i := 2) rfl)) (hw _ (List.mem_of_getElem? (i := 3) rfl)) e15 (g := (mkF m 70 #[.val (.long q0), .second, .val (.int p1), .val (.int p2), .val (.int p3), .val (.int p4), .val (.int z8), .val (.int z17), .val (.int v19), .val (.int v20), .val (.long q0), .second, .val (.long v21), .second, .val (.double v22), .second, .val (.double v23), .second, .unset, .unset, .unset, .unset] [])) rfl (hb hby at_70) (by decide) (by decide)
      obtain ⟨b24, g24⟩ : ∃ z, z = h0.size := ⟨_, rfl⟩
      have ge_b24 : n0 ≤ b24 := Nat.le_trans Z0 (Nat.le_of_eq g24.symm)
      have sz_b24 : h0.size ≤ b24 := Nat.le_trans (Keep.refl h0 []).1 (Nat.le_of_eq g24.symm)
      have K24 : Keep h0 h24 [] := (Keep.refl h0 []).ext E24
      have Z24 : n0 ≤ h24.size := Nat.le_trans Z0 E24.1
      rw [← g24] at A24 D24 st24
      have F_generation_b24 : Fld Z h24 b24 "com/example/plyward/plyward/search/TranspositionTable" "generation" "J" (.long (0 : Int64)) := D24 (Or.inl (hw _ (List.mem_of_getElem? (i := 11) rfl))) (ty := .long) (by decide)
      have F_settledSince_b24 : Fld Z h24 b24 "com/example/plyward/plyward/search/TranspositionTable" "settledSince" "J" (.long (0 : Int64)) := D24 (Or.inl (hw _ (List.mem_of_getElem? (i := 13) rfl))) (ty := .long) (by decide)
      have F_entries_b24 : Fld Z h24 b24 "com/example/plyward/plyward/search/TranspositionTable" "entries" "[J" .null := D24 (Or.inr (hw _ (List.mem_of_getElem? (i := 16) rfl))) (ty := (.array .long)) (by decide)
      have F_shift_b24 : Fld Z h24 b24 "com/example/plyward/plyward/search/TranspositionTable" "shift" "I" (.int (0 : Int32)) := D24 (Or.inr (hw _ (List.mem_of_getElem? (i := 18) rfl))) (ty := .int) (by decide)
      refine own_by st24 ?_
      show own_Go p e below _ (T24.setTop (mkF m 73 #[.val (.long q0), .second, .val (.int p1), .val (.int p2), .val (.int p3), .val (.int p4), .val (.int z8), .val (.int z17), .val (.int v19), .val (.int v20), .val (.long q0), .second, .val (.long v21), .second, .val (.double v22), .second, .val (.double v23), .second, .unset, .unset, .unset, .unset] [(.ref b24)]))
      refine own_by (fun _ k => XS.dup X24.here hx rfl (hb hby at_73) rfl rfl k) ?_
      show own_Go p e below _ (T24.setTop (mkF m 74 #[.val (.long q0), .second, .val (.int p1), .val (.int p2), .val (.int p3), .val (.int p4), .val (.int z8), .val (.int z17), .val (.int v19), .val (.int v20), .val (.long q0), .second, .val (.long v21), .second, .val (.double v22), .second, .val (.double v23), .second, .unset, .unset, .unset, .unset] [(.ref b24), (.ref b24)]))
      refine own_by (fun _ k => XS.iconst X24.here hx rfl (hb hby at_74) k) ?_
      show own_Go p e below _ (T24.setTop (mkF m 75 #[.val (.long q0), .second, .val (.int p1), .val (.int p2), .val (.int p3), .val (.int p4), .val (.int z8), .val (.int z17), .val (.int v19), .val (.int v20), .val (.long q0), .second, .val (.long v21), .second, .val (.double v22), .second, .val (.double v23), .second, .unset, .unset, .unset, .unset] [(.int (1 : Int32)), (.ref b24), (.ref b24)]))
      obtain ⟨_, _, ⟨T25, L25, k25, n25⟩, -, X25, ⟨Lc25, hQ25, l25, y25, z25⟩, st25⟩ := X24.specialBack hx (y := (⟨"com/example/plyward/plyward/search/TranspositionTable", "<init>", "(I)V"⟩ : MethodName)) rfl hown (mvT hZ (hw _ (List.mem_of_getElem? (i := 4) rfl))) (mvT hZ (hw _ (List.mem_of_getElem? (i := 5) rfl))) (mvT hZ (hw _ (List.mem_of_getElem? (i := 6) rfl))) (by decide) (backOf (W := 1) (rm1 l Z A0 hw [] b24 (0 : Int64) (0 : Int64) (.null) (0 : Int32) h24 n0 Z24 A24 F_generation_b24 ge_b24 F_settledSince_b24 F_entries_b24 F_shift_b24) hZ (hw _ (List.mem_of_getElem? (i := 6) rfl)) (hw _ (List.mem_of_getElem? (i := 3) rfl)) (by decide) (by decide)) (g := (mkF m 75 #[.val (.long q0), .second, .val (.int p1), .val (.int p2), .val (.int p3), .val (.int p4), .val (.int z8), .val (.int z17), .val (.int v19), .val (.int v20), .val (.long q0), .second, .val (.long v21), .second, .val (.double v22), .second, .val (.double v23), .second, .unset, .unset, .unset, .unset] [(.int (1 : Int32)), (.ref b24), (.ref b24)])) rfl (by rw [hml]; rfl) (Steps.refl _) (a := b24) (argsL := [(.int (1 : Int32))]) (rest := [(.ref b24)]) (lenOf pd_4 rfl) rfl (by show 2 * 0 + _ ≤ _; exact Nat.le_of_eq rfl) (hb hby at_75) (fun _ _ => ⟨rfl, e24, (by decide : 1 + 1 ≤ _), (by decide : 4 + 8 ≤ _)⟩)
      dsimp only [Pt.U, Pt.locs, Pt.cells, Pt.slots] at X25 l25 y25 z25 st25 hQ25
      subst l25 y25 z25
      obtain ⟨b26, b27, rfl, Nq25, Kq25, F28, F29, F30, F31, F32, hp33, hp34, F35⟩ := hQ25
      have N25 := Fr.app N16 Nq25
      have K25 : Keep h0 T25.heap [] := K24.trans Kq25 ((allS (Or.inr sz_b24) all0))
      have Z25 : n0 ≤ T25.heap.size := Nat.le_trans Z24 Kq25.1
      have sz_b26 : h0.size ≤ b26 := Nat.le_trans K24.1 hp34
      refine own_by (fun _ k => st25.trans k) ?_
      show own_Go p e below _ (T25.setTop (mkF m 78 #[.val (.long q0), .second, .val (.int p1), .val (.int p2), .val (.int p3), .val (.int p4), .val (.int z8), .val (.int z17), .val (.int v19), .val (.int v20), .val (.long q0), .second, .val (.long v21), .second, .val (.double v22), .second, .val (.double v23), .second, .unset, .unset, .unset, .unset] [(.ref b24)]))
      refine own_by (fun _ k => XS.astore X25.here hx rfl (hb hby at_78) rfl rfl (l' := #[.val (.long q0), .second, .val (.int p1), .val (.int p2), .val (.int p3), .val (.int p4), .val (.int z8), .val (.int z17), .val (.int v19), .val (.int v20), .val (.long q0), .second, .val (.long v21), .second, .val (.double v22), .second, .val (.double v23), .second, .val (.ref b24), .unset, .unset, .unset]) rfl k) ?_
      show own_Go p e below _ (T25.setTop (mkF m 80 #[.val (.long q0), .second, .val (.int p1), .val (.int p2), .val (.int p3), .val (.int p4), .val (.int z8), .val (.int z17), .val (.int v19), .val (.int v20), .val (.long q0), .second, .val (.long v21), .second, .val (.double v22), .second, .val (.double v23), .second, .val (.ref b24), .unset, .unset, .unset] []))
      refine own_by (fun _ k => XS.aload X25.here hx rfl (hb hby at_80) rfl rfl k) ?_
      show own_Go p e below _ (T25.setTop (mkF m 82 #[.val (.long q0), .second, .val (.int p1), .val (.int p2), .val (.int p3), .val (.int p4), .val (.int z8), .val (.int z17), .val (.int v19), .val (.int v20), .val (.long q0), .second, .val (.long v21), .second, .val (.double v22), .second, .val (.double v23), .second, .val (.ref b24), .unset, .unset, .unset] [(.ref b24)]))
      refine own_by (fun _ k => XS.iconst X25.here hx rfl (hb hby at_82) k) ?_
      show own_Go p e below _ (T25.setTop (mkF m 83 #[.val (.long q0), .second, .val (.int p1), .val (.int p2), .val (.int p3), .val (.int p4), .val (.int z8), .val (.int z17), .val (.int v19), .val (.int v20), .val (.long q0), .second, .val (.long v21), .second, .val (.double v22), .second, .val (.double v23), .second, .val (.ref b24), .unset, .unset, .unset] [(.int (0 : Int32)), (.ref b24)]))
      obtain ⟨cq36, kq36, qq36a, qq36b, qq36c⟩ := isOf hZ rfl F28
      obtain ⟨_, _, ⟨T36, L36, k36, n36⟩, -, X36, ⟨Lc36, hQ36, l36, y36, z36⟩, st36⟩ := X25.virtualBack hx (y := (⟨"com/example/plyward/plyward/search/TranspositionTable", "settled", "(I)Z"⟩ : MethodName)) (z := (⟨"com/example/plyward/plyward/search/TranspositionTable", "settled", "(I)Z"⟩ : MethodName)) hown (mvT hZ (hw _ (List.mem_of_getElem? (i := 19) rfl))) (mvT hZ (hw _ (List.mem_of_getElem? (i := 20) rfl))) (notFace_of_selects (args := #[]) (mvT hZ (hw _ (List.mem_of_getElem? (i := 22) rfl)))) (mvT hZ (hw _ (List.mem_of_getElem? (i := 22) rfl))) (mvT hZ (hw _ (List.mem_of_getElem? (i := 21) rfl))) (by decide) (backOf (W := 0) (rms0 l Z A0 hw [] b26 b27 (fun _ => (0 : Int64)) b24 T25.heap n0 Z25 F31 F35) hZ (hw _ (List.mem_of_getElem? (i := 23) rfl)) (hw _ (List.mem_of_getElem? (i := 3) rfl)) (by decide) (by decide)) qq36a qq36c (g := (mkF m 83 #[.val (.long q0), .second, .val (.int p1), .val (.int p2), .val (.int p3), .val (.int p4), .val (.int z8), .val (.int z17), .val (.int v19), .val (.int v20), .val (.long q0), .second, .val (.long v21), .second, .val (.double v22), .second, .val (.double v23), .second, .val (.ref b24), .unset, .unset, .unset] [(.int (0 : Int32)), (.ref b24)])) rfl (by rw [hml]; rfl) (Steps.refl _) (argsL := [(.int (0 : Int32))]) (rest := []) (lenOf pd_19 rfl) rfl (by show 2 * 0 + _ ≤ _; exact Nat.le_of_eq rfl) (hb hby at_83) (fun _ _ => ⟨rfl, rfl, (by decide : 2 + 0 ≤ _), (by decide : 12 + 0 ≤ _)⟩)
      dsimp only [Pt.U, Pt.locs, Pt.cells, Pt.slots] at X36 l36 y36 z36 st36 hQ36
      subst l36 y36 z36
      obtain ⟨o37, rfl, Nq36, eq36, hp38⟩ := hQ36
      have N36 := Fr.app N25 Nq36
      refine own_by (fun _ k => st36.trans k) ?_
      show own_Go p e below _ (T36.setTop (mkF m 86 #[.val (.long q0), .second, .val (.int p1), .val (.int p2), .val (.int p3), .val (.int p4), .val (.int z8), .val (.int z17), .val (.int v19), .val (.int v20), .val (.long q0), .second, .val (.long v21), .second, .val (.double v22), .second, .val (.double v23), .second, .val (.ref b24), .unset, .unset, .unset] [(.int o37)]))
      have J44 : ∀ (T45 : State) (L46 : List Loc) (z50 : Int32), Stand p l e room_1 s m #[(.long q0), (.int p1), (.int p2), (.int p3), (.int p4)] below meth c T45 L46 2 12 → T45.heap = T25.heap → Fr n0 L46 → ((∃ (o41 : Int32), (o37 = (0 : Int32)) ∧ ((((((fun _ => (0 : Int64)) 7) &&& (2147483648 : Int64)) = (0 : Int64)) ∧ o41 = (0 : Int32)) ∨ ((¬ ((((fun _ => (0 : Int64)) 7) &&& (2147483648 : Int64)) = (0 : Int64))) ∧ o41 = (1 : Int32))) ∧ (o41 = (0 : Int32)) ∧ z50 = (1 : Int32)) ∨ (∃ (o41 : Int32), (o37 = (0 : Int32)) ∧ ((((((fun _ => (0 : Int64)) 7) &&& (2147483648 : Int64)) = (0 : Int64)) ∧ o41 = (0 : Int32)) ∨ ((¬ ((((fun _ => (0 : Int64)) 7) &&& (2147483648 : Int64)) = (0 : Int64))) ∧ o41 = (1 : Int32))) ∧ (¬ (o41 = (0 : Int32))) ∧ z50 = (0 : Int32)) ∨ ((¬ (o37 = (0 : Int32))) ∧ z50 = (0 : Int32))) → own_Go p e below (own_Fin s 16 128 (Q0 Z q0 p1 p2 p3 p4 h0 n0)) (T45.setTop (mkF m 103 #[.val (.long q0), .second, .val (.int p1), .val (.int p2), .val (.int p3), .val (.int p4), .val (.int z8), .val (.int z17), .val (.int v19), .val (.int v20), .val (.long q0), .second, .val (.long v21), .second, .val (.double v22), .second, .val (.double v23), .second, .val (.ref b24), .unset, .unset, .unset] [(.int z50)])) := by
        intro T45 L46 z50 X47 e48 N49 hj51
        refine own_by (fun _ k => XS.istore X47.here hx rfl (hb hby at_103) rfl (l' := #[.val (.long q0), .second, .val (.int p1), .val (.int p2), .val (.int p3), .val (.int p4), .val (.int z8), .val (.int z17), .val (.int v19), .val (.int v20), .val (.long q0), .second, .val (.long v21), .second, .val (.double v22), .second, .val (.double v23), .second, .val (.ref b24), .val (.int z50), .unset, .unset]) rfl k) ?_
        show own_Go p e below _ (T45.setTop (mkF m 105 #[.val (.long q0), .second, .val (.int p1), .val (.int p2), .val (.int p3), .val (.int p4), .val (.int z8), .val (.int z17), .val (.int v19), .val (.int v20), .val (.long q0), .second, .val (.long v21), .second, .val (.double v22), .second, .val (.double v23), .second, .val (.ref b24), .val (.int z50), .unset, .unset] []))
        refine own_by (fun _ k => XS.aload X47.here hx rfl (hb hby at_105) rfl rfl k) ?_
        show own_Go p e below _ (T45.setTop (mkF m 107 #[.val (.long q0), .second, .val (.int p1), .val (.int p2), .val (.int p3), .val (.int p4), .val (.int z8), .val (.int z17), .val (.int v19), .val (.int v20), .val (.long q0), .second, .val (.long v21), .second, .val (.double v22), .second, .val (.double v23), .second, .val (.ref b24), .val (.int z50), .unset, .unset] [(.ref b24)]))
        refine own_by (fun _ k => XS.lload X47.here hx rfl (hb hby at_107) rfl k) ?_
        show own_Go p e below _ (T45.setTop (mkF m 109 #[.val (.long q0), .second, .val (.int p1), .val (.int p2), .val (.int p3), .val (.int p4), .val (.int z8), .val (.int z17), .val (.int v19), .val (.int v20), .val (.long q0), .second, .val (.long v21), .second, .val (.double v22), .second, .val (.double v23), .second, .val (.ref b24), .val (.int z50), .unset, .unset] [(.long q0), (.ref b24)]))
        refine own_by (fun _ k => XS.iload X47.here hx rfl (hb hby at_109) rfl k) ?_
        show own_Go p e below _ (T45.setTop (mkF m 111 #[.val (.long q0), .second, .val (.int p1), .val (.int p2), .val (.int p3), .val (.int p4), .val (.int z8), .val (.int z17), .val (.int v19), .val (.int v20), .val (.long q0), .second, .val (.long v21), .second, .val (.double v22), .second, .val (.double v23), .second, .val (.ref b24), .val (.int z50), .unset, .unset] [(.int v19), (.long q0), (.ref b24)]))
        refine own_by (fun _ k => XS.dload X47.here hx rfl (hb hby at_111) rfl k) ?_
        show own_Go p e below _ (T45.setTop (mkF m 113 #[.val (.long q0), .second, .val (.int p1), .val (.int p2), .val (.int p3), .val (.int p4), .val (.int z8), .val (.int z17), .val (.int v19), .val (.int v20), .val (.long q0), .second, .val (.long v21), .second, .val (.double v22), .second, .val (.double v23), .second, .val (.ref b24), .val (.int z50), .unset, .unset] [(.double v22), (.int v19), (.long q0), (.ref b24)]))
        refine own_by (fun _ k => XS.dload X47.here hx rfl (hb hby at_113) rfl k) ?_
        show own_Go p e below _ (T45.setTop (mkF m 115 #[.val (.long q0), .second, .val (.int p1), .val (.int p2), .val (.int p3), .val (.int p4), .val (.int z8), .val (.int z17), .val (.int v19), .val (.int v20), .val (.long q0), .second, .val (.long v21), .second, .val (.double v22), .second, .val (.double v23), .second, .val (.ref b24), .val (.int z50), .unset, .unset] [(.double v23), (.double v22), (.int v19), (.long q0), (.ref b24)]))
        refine own_by (fun _ k => XS.iload X47.here hx rfl (hb hby at_115) rfl k) ?_
        show own_Go p e below _ (T45.setTop (mkF m 117 #[.val (.long q0), .second, .val (.int p1), .val (.int p2), .val (.int p3), .val (.int p4), .val (.int z8), .val (.int z17), .val (.int v19), .val (.int v20), .val (.long q0), .second, .val (.long v21), .second, .val (.double v22), .second, .val (.double v23), .second, .val (.ref b24), .val (.int z50), .unset, .unset] [(.int z8), (.double v23), (.double v22), (.int v19), (.long q0), (.ref b24)]))
        obtain ⟨cq52, kq52, qq52a, qq52b, qq52c⟩ := isOf hZ e48 F28
        obtain ⟨_, _, ⟨T52, L52, k52, n52⟩, -, X52, ⟨Lc52, hQ52, l52, y52, z52⟩, st52⟩ := X47.virtualBack hx (y := (⟨"com/example/plyward/plyward/search/TranspositionTable", "store", "(JIDDZ)V"⟩ : MethodName)) (z := (⟨"com/example/plyward/plyward/search/TranspositionTable", "store", "(JIDDZ)V"⟩ : MethodName)) hown (mvT hZ (hw _ (List.mem_of_getElem? (i := 25) rfl))) (mvT hZ (hw _ (List.mem_of_getElem? (i := 26) rfl))) (notFace_of_selects (args := #[]) (mvT hZ (hw _ (List.mem_of_getElem? (i := 28) rfl)))) (mvT hZ (hw _ (List.mem_of_getElem? (i := 28) rfl))) (mvT hZ (hw _ (List.mem_of_getElem? (i := 27) rfl))) (by decide) (backOf (W := 0) (rm4 l Z A0 hw [] b26 b27 (fun _ => (0 : Int64)) b24 q0 v19 v22 v23 z8 (1 : Int64) (1 : Int64) T25.heap n0 Z25 F31 F35 F32 F28 F29 F30 hp33) hZ (hw _ (List.mem_of_getElem? (i := 29) rfl)) (hw _ (List.mem_of_getElem? (i := 3) rfl)) (by decide) (by decide)) qq52a qq52c (g := (mkF m 117 #[.val (.long q0), .second, .val (.int p1), .val (.int p2), .val (.int p3), .val (.int p4), .val (.int z8), .val (.int z17), .val (.int v19), .val (.int v20), .val (.long q0), .second, .val (.long v21), .second, .val (.double v22), .second, .val (.double v23), .second, .val (.ref b24), .val (.int z50), .unset, .unset] [(.int z8), (.double v23), (.double v22), (.int v19), (.long q0), (.ref b24)])) rfl (by rw [hml]; rfl) (Steps.refl _) (argsL := [(.long q0), (.int v19), (.double v22), (.double v23), (.int z8)]) (rest := []) (lenOf pd_25 rfl) rfl (by show 2 * 0 + _ ≤ _; exact Nat.le_of_eq rfl) (hb hby at_117) (fun _ _ => ⟨rfl, e48, (by decide : 2 + 0 ≤ _), (by decide : 12 + 0 ≤ _)⟩)
        dsimp only [Pt.U, Pt.locs, Pt.cells, Pt.slots] at X52 l52 y52 z52 st52 hQ52
        subst l52 y52 z52
        obtain ⟨b53, rfl, Nq52, Kq52, F54, hp55⟩ := hQ52
        have N52 := Fr.app N49 Nq52
        have K52 : Keep h0 T52.heap [] := K25.trans Kq52 ((allS (Or.inr sz_b26) all0))
        have Z52 : n0 ≤ T52.heap.size := Nat.le_trans Z25 Kq52.1
        refine own_by (fun _ k => st52.trans k) ?_
        show own_Go p e below _ (T52.setTop (mkF m 120 #[.val (.long q0), .second, .val (.int p1), .val (.int p2), .val (.int p3), .val (.int p4), .val (.int z8), .val (.int z17), .val (.int v19), .val (.int v20), .val (.long q0), .second, .val (.long v21), .second, .val (.double v22), .second, .val (.double v23), .second, .val (.ref b24), .val (.int z50), .unset, .unset] []))
        refine own_by (fun _ k => XS.aload X52.here hx rfl (hb hby at_120) rfl rfl k) ?_
        show own_Go p e below _ (T52.setTop (mkF m 122 #[.val (.long q0), .second, .val (.int p1), .val (.int p2), .val (.int p3), .val (.int p4), .val (.int z8), .val (.int z17), .val (.int v19), .val (.int v20), .val (.long q0), .second, .val (.long v21), .second, .val (.double v22), .second, .val (.double v23), .second, .val (.ref b24), .val (.int z50), .unset, .unset] [(.ref b24)]))
        refine own_by (fun _ k => XS.iconst X52.here hx rfl (hb hby at_122) k) ?_
        show own_Go p e below _ (T52.setTop (mkF m 123 #[.val (.long q0), .second, .val (.int p1), .val (.int p2), .val (.int p3), .val (.int p4), .val (.int z8), .val (.int z17), .val (.int v19), .val (.int v20), .val (.long q0), .second, .val (.long v21), .second, .val (.double v22), .second, .val (.double v23), .second, .val (.ref b24), .val (.int z50), .unset, .unset] [(.int (0 : Int32)), (.ref b24)]))
        have F56 : Fld Z T52.heap b24 "com/example/plyward/plyward/search/TranspositionTable" "entries" "[J" (.ref b26) := (F31.keep Kq52 (ninS (Nat.ne_of_lt (Nat.lt_of_lt_of_le (A24).lt hp34)) nin0))
        have F58 : Exa Z T52.heap b24 "com/example/plyward/plyward/search/TranspositionTable" := (F28.keep Kq52)
        obtain ⟨cq57, kq57, qq57a, qq57b, qq57c⟩ := isOf hZ rfl F58
        obtain ⟨_, _, ⟨T57, L57, k57, n57⟩, -, X57, ⟨Lc57, hQ57, l57, y57, z57⟩, st57⟩ := X52.virtualBack hx (y := (⟨"com/example/plyward/plyward/search/TranspositionTable", "settled", "(I)Z"⟩ : MethodName)) (z := (⟨"com/example/plyward/plyward/search/TranspositionTable", "settled", "(I)Z"⟩ : MethodName)) hown (mvT hZ (hw _ (List.mem_of_getElem? (i := 19) rfl))) (mvT hZ (hw _ (List.mem_of_getElem? (i := 20) rfl))) (notFace_of_selects (args := #[]) (mvT hZ (hw _ (List.mem_of_getElem? (i := 22) rfl)))) (mvT hZ (hw _ (List.mem_of_getElem? (i := 22) rfl))) (mvT hZ (hw _ (List.mem_of_getElem? (i := 21) rfl))) (by decide) (backOf (W := 0) (rms0 l Z A0 hw [] b26 b27 b53 b24 T52.heap n0 Z52 F56 F54) hZ (hw _ (List.mem_of_getElem? (i := 23) rfl)) (hw _ (List.mem_of_getElem? (i := 3) rfl)) (by decide) (by decide)) qq57a qq57c (g := (mkF m 123 #[.val (.long q0), .second, .val (.int p1), .val (.int p2), .val (.int p3), .val (.int p4), .val (.int z8), .val (.int z17), .val (.int v19), .val (.int v20), .val (.long q0), .second, .val (.long v21), .second, .val (.double v22), .second, .val (.double v23), .second, .val (.ref b24), .val (.int z50), .unset, .unset] [(.int (0 : Int32)), (.ref b24)])) rfl (by rw [hml]; rfl) (Steps.refl _) (argsL := [(.int (0 : Int32))]) (rest := []) (lenOf pd_19 rfl) rfl (by show 2 * 0 + _ ≤ _; exact Nat.le_of_eq rfl) (hb hby at_123) (fun _ _ => ⟨rfl, rfl, (by decide : 2 + 0 ≤ _), (by decide : 12 + 0 ≤ _)⟩)
        dsimp only [Pt.U, Pt.locs, Pt.cells, Pt.slots] at X57 l57 y57 z57 st57 hQ57
        subst l57 y57 z57
        obtain ⟨o59, rfl, Nq57, eq57, hp60⟩ := hQ57
        have N57 := Fr.app N52 Nq57
        refine own_by (fun _ k => st57.trans k) ?_
        show own_Go p e below _ (T57.setTop (mkF m 126 #[.val (.long q0), .second, .val (.int p1), .val (.int p2), .val (.int p3), .val (.int p4), .val (.int z8), .val (.int z17), .val (.int v19), .val (.int v20), .val (.long q0), .second, .val (.long v21), .second, .val (.double v22), .second, .val (.double v23), .second, .val (.ref b24), .val (.int z50), .unset, .unset] [(.int o59)]))
        refine own_by (fun _ k => XS.iload X57.here hx rfl (hb hby at_126) rfl k) ?_
        show own_Go p e below _ (T57.setTop (mkF m 128 #[.val (.long q0), .second, .val (.int p1), .val (.int p2), .val (.int p3), .val (.int p4), .val (.int z8), .val (.int z17), .val (.int v19), .val (.int v20), .val (.long q0), .second, .val (.long v21), .second, .val (.double v22), .second, .val (.double v23), .second, .val (.ref b24), .val (.int z50), .unset, .unset] [(.int z8), (.int o59)]))
        have J66 : ∀ (T67 : State) (L68 : List Loc) (z72 : Int32), Stand p l e room_1 s m #[(.long q0), (.int p1), (.int p2), (.int p3), (.int p4)] below meth c T67 L68 2 12 → T67.heap = T52.heap → Fr n0 L68 → ((∃ (o63 : Int32), (o59 = z8) ∧ (((((b53 7) &&& (2147483648 : Int64)) = (0 : Int64)) ∧ o63 = (0 : Int32)) ∨ ((¬ (((b53 7) &&& (2147483648 : Int64)) = (0 : Int64))) ∧ o63 = (1 : Int32))) ∧ (o63 = (0 : Int32)) ∧ z72 = (1 : Int32)) ∨ (∃ (o63 : Int32), (o59 = z8) ∧ (((((b53 7) &&& (2147483648 : Int64)) = (0 : Int64)) ∧ o63 = (0 : Int32)) ∨ ((¬ (((b53 7) &&& (2147483648 : Int64)) = (0 : Int64))) ∧ o63 = (1 : Int32))) ∧ (¬ (o63 = (0 : Int32))) ∧ z72 = (0 : Int32)) ∨ ((¬ (o59 = z8)) ∧ z72 = (0 : Int32))) → own_Go p e below (own_Fin s 16 128 (Q0 Z q0 p1 p2 p3 p4 h0 n0)) (T67.setTop (mkF m 145 #[.val (.long q0), .second, .val (.int p1), .val (.int p2), .val (.int p3), .val (.int p4), .val (.int z8), .val (.int z17), .val (.int v19), .val (.int v20), .val (.long q0), .second, .val (.long v21), .second, .val (.double v22), .second, .val (.double v23), .second, .val (.ref b24), .val (.int z50), .unset, .unset] [(.int z72)])) := by
          intro T67 L68 z72 X69 e70 N71 hj73
          refine own_by (fun _ k => XS.istore X69.here hx rfl (hb hby at_145) rfl (l' := #[.val (.long q0), .second, .val (.int p1), .val (.int p2), .val (.int p3), .val (.int p4), .val (.int z8), .val (.int z17), .val (.int v19), .val (.int v20), .val (.long q0), .second, .val (.long v21), .second, .val (.double v22), .second, .val (.double v23), .second, .val (.ref b24), .val (.int z50), .val (.int z72), .unset]) rfl k) ?_
          show own_Go p e below _ (T67.setTop (mkF m 147 #[.val (.long q0), .second, .val (.int p1), .val (.int p2), .val (.int p3), .val (.int p4), .val (.int z8), .val (.int z17), .val (.int v19), .val (.int v20), .val (.long q0), .second, .val (.long v21), .second, .val (.double v22), .second, .val (.double v23), .second, .val (.ref b24), .val (.int z50), .val (.int z72), .unset] []))
          refine own_by (fun _ k => XS.aload X69.here hx rfl (hb hby at_147) rfl rfl k) ?_
          show own_Go p e below _ (T67.setTop (mkF m 149 #[.val (.long q0), .second, .val (.int p1), .val (.int p2), .val (.int p3), .val (.int p4), .val (.int z8), .val (.int z17), .val (.int v19), .val (.int v20), .val (.long q0), .second, .val (.long v21), .second, .val (.double v22), .second, .val (.double v23), .second, .val (.ref b24), .val (.int z50), .val (.int z72), .unset] [(.ref b24)]))
          refine own_by (fun _ k => XS.lload X69.here hx rfl (hb hby at_149) rfl k) ?_
          show own_Go p e below _ (T67.setTop (mkF m 151 #[.val (.long q0), .second, .val (.int p1), .val (.int p2), .val (.int p3), .val (.int p4), .val (.int z8), .val (.int z17), .val (.int v19), .val (.int v20), .val (.long q0), .second, .val (.long v21), .second, .val (.double v22), .second, .val (.double v23), .second, .val (.ref b24), .val (.int z50), .val (.int z72), .unset] [(.long v21), (.ref b24)]))
          refine own_by (fun _ k => XS.iload X69.here hx rfl (hb hby at_151) rfl k) ?_
          show own_Go p e below _ (T67.setTop (mkF m 153 #[.val (.long q0), .second, .val (.int p1), .val (.int p2), .val (.int p3), .val (.int p4), .val (.int z8), .val (.int z17), .val (.int v19), .val (.int v20), .val (.long q0), .second, .val (.long v21), .second, .val (.double v22), .second, .val (.double v23), .second, .val (.ref b24), .val (.int z50), .val (.int z72), .unset] [(.int v20), (.long v21), (.ref b24)]))
          refine own_by (fun _ k => XS.dload X69.here hx rfl (hb hby at_153) rfl k) ?_
          show own_Go p e below _ (T67.setTop (mkF m 155 #[.val (.long q0), .second, .val (.int p1), .val (.int p2), .val (.int p3), .val (.int p4), .val (.int z8), .val (.int z17), .val (.int v19), .val (.int v20), .val (.long q0), .second, .val (.long v21), .second, .val (.double v22), .second, .val (.double v23), .second, .val (.ref b24), .val (.int z50), .val (.int z72), .unset] [(.double v22), (.int v20), (.long v21), (.ref b24)]))
          refine own_by (fun _ k => XS.dload X69.here hx rfl (hb hby at_155) rfl k) ?_
          show own_Go p e below _ (T67.setTop (mkF m 157 #[.val (.long q0), .second, .val (.int p1), .val (.int p2), .val (.int p3), .val (.int p4), .val (.int z8), .val (.int z17), .val (.int v19), .val (.int v20), .val (.long q0), .second, .val (.long v21), .second, .val (.double v22), .second, .val (.double v23), .second, .val (.ref b24), .val (.int z50), .val (.int z72), .unset] [(.double v23), (.double v22), (.int v20), (.long v21), (.ref b24)]))
          refine own_by (fun _ k => XS.iload X69.here hx rfl (hb hby at_157) rfl k) ?_
          show own_Go p e below _ (T67.setTop (mkF m 159 #[.val (.long q0), .second, .val (.int p1), .val (.int p2), .val (.int p3), .val (.int p4), .val (.int z8), .val (.int z17), .val (.int v19), .val (.int v20), .val (.long q0), .second, .val (.long v21), .second, .val (.double v22), .second, .val (.double v23), .second, .val (.ref b24), .val (.int z50), .val (.int z72), .unset] [(.int z17), (.double v23), (.double v22), (.int v20), (.long v21), (.ref b24)]))
          have F74 : Fld Z T52.heap b24 "com/example/plyward/plyward/search/TranspositionTable" "shift" "I" (.int (63 : Int32)) := (F32.keep Kq52 (ninS (Nat.ne_of_lt (Nat.lt_of_lt_of_le (A24).lt hp34)) nin0))
          have F75 : Fld Z T52.heap b24 "com/example/plyward/plyward/search/TranspositionTable" "generation" "J" (.long (1 : Int64)) := (F29.keep Kq52 (ninS (Nat.ne_of_lt (Nat.lt_of_lt_of_le (A24).lt hp34)) nin0))
          have F76 : Fld Z T52.heap b24 "com/example/plyward/plyward/search/TranspositionTable" "settledSince" "J" (.long (1 : Int64)) := (F30.keep Kq52 (ninS (Nat.ne_of_lt (Nat.lt_of_lt_of_le (A24).lt hp34)) nin0))
          obtain ⟨cq77, kq77, qq77a, qq77b, qq77c⟩ := isOf hZ e70 F58
          obtain ⟨_, _, ⟨T77, L77, k77, n77⟩, -, X77, ⟨Lc77, hQ77, l77, y77, z77⟩, st77⟩ := X69.virtualBack hx (y := (⟨"com/example/plyward/plyward/search/TranspositionTable", "store", "(JIDDZ)V"⟩ : MethodName)) (z := (⟨"com/example/plyward/plyward/search/TranspositionTable", "store", "(JIDDZ)V"⟩ : MethodName)) hown (mvT hZ (hw _ (List.mem_of_getElem? (i := 25) rfl))) (mvT hZ (hw _ (List.mem_of_getElem? (i := 26) rfl))) (notFace_of_selects (args := #[]) (mvT hZ (hw _ (List.mem_of_getElem? (i := 28) rfl)))) (mvT hZ (hw _ (List.mem_of_getElem? (i := 28) rfl))) (mvT hZ (hw _ (List.mem_of_getElem? (i := 27) rfl))) (by decide) (backOf (W := 0) (rm4 l Z A0 hw [] b26 b27 b53 b24 v21 v20 v22 v23 z17 (1 : Int64) (1 : Int64) T52.heap n0 Z52 F56 F54 F74 F58 F75 F76 hp33) hZ (hw _ (List.mem_of_getElem? (i := 29) rfl)) (hw _ (List.mem_of_getElem? (i := 3) rfl)) (by decide) (by decide)) qq77a qq77c (g := (mkF m 159 #[.val (.long q0), .second, .val (.int p1), .val (.int p2), .val (.int p3), .val (.int p4), .val (.int z8), .val (.int z17), .val (.int v19), .val (.int v20), .val (.long q0), .second, .val (.long v21), .second, .val (.double v22), .second, .val (.double v23), .second, .val (.ref b24), .val (.int z50), .val (.int z72), .unset] [(.int z17), (.double v23), (.double v22), (.int v20), (.long v21), (.ref b24)])) rfl (by rw [hml]; rfl) (Steps.refl _) (argsL := [(.long v21), (.int v20), (.double v22), (.double v23), (.int z17)]) (rest := []) (lenOf pd_25 rfl) rfl (by show 2 * 0 + _ ≤ _; exact Nat.le_of_eq rfl) (hb hby at_159) (fun _ _ => ⟨rfl, e70, (by decide : 2 + 0 ≤ _), (by decide : 12 + 0 ≤ _)⟩)
          dsimp only [Pt.U, Pt.locs, Pt.cells, Pt.slots] at X77 l77 y77 z77 st77 hQ77
          subst l77 y77 z77
          obtain ⟨b78, rfl, Nq77, Kq77, F79, hp80⟩ := hQ77
          have N77 := Fr.app N71 Nq77
          have K77 : Keep h0 T77.heap [] := K52.trans Kq77 ((allS (Or.inr sz_b26) all0))
          have Z77 : n0 ≤ T77.heap.size := Nat.le_trans Z52 Kq77.1
          refine own_by (fun _ k => st77.trans k) ?_
          show own_Go p e below _ (T77.setTop (mkF m 162 #[.val (.long q0), .second, .val (.int p1), .val (.int p2), .val (.int p3), .val (.int p4), .val (.int z8), .val (.int z17), .val (.int v19), .val (.int v20), .val (.long q0), .second, .val (.long v21), .second, .val (.double v22), .second, .val (.double v23), .second, .val (.ref b24), .val (.int z50), .val (.int z72), .unset] []))
          refine own_by (fun _ k => XS.aload X77.here hx rfl (hb hby at_162) rfl rfl k) ?_
          show own_Go p e below _ (T77.setTop (mkF m 164 #[.val (.long q0), .second, .val (.int p1), .val (.int p2), .val (.int p3), .val (.int p4), .val (.int z8), .val (.int z17), .val (.int v19), .val (.int v20), .val (.long q0), .second, .val (.long v21), .second, .val (.double v22), .second, .val (.double v23), .second, .val (.ref b24), .val (.int z50), .val (.int z72), .unset] [(.ref b24)]))
          refine own_by (fun _ k => XS.iconst X77.here hx rfl (hb hby at_164) k) ?_
          show own_Go p e below _ (T77.setTop (mkF m 165 #[.val (.long q0), .second, .val (.int p1), .val (.int p2), .val (.int p3), .val (.int p4), .val (.int z8), .val (.int z17), .val (.int v19), .val (.int v20), .val (.long q0), .second, .val (.long v21), .second, .val (.double v22), .second, .val (.double v23), .second, .val (.ref b24), .val (.int z50), .val (.int z72), .unset] [(.int (0 : Int32)), (.ref b24)]))
          have F81 : Fld Z T77.heap b24 "com/example/plyward/plyward/search/TranspositionTable" "entries" "[J" (.ref b26) := (F56.keep Kq77 (ninS (Nat.ne_of_lt (Nat.lt_of_lt_of_le (A24).lt hp34)) nin0))
          have F83 : Exa Z T77.heap b24 "com/example/plyward/plyward/search/TranspositionTable" := (F58.keep Kq77)
          obtain ⟨cq82, kq82, qq82a, qq82b, qq82c⟩ := isOf hZ rfl F83
          obtain ⟨_, _, ⟨T82, L82, k82, n82⟩, -, X82, ⟨Lc82, hQ82, l82, y82, z82⟩, st82⟩ := X77.virtualBack hx (y := (⟨"com/example/plyward/plyward/search/TranspositionTable", "settled", "(I)Z"⟩ : MethodName)) (z := (⟨"com/example/plyward/plyward/search/TranspositionTable", "settled", "(I)Z"⟩ : MethodName)) hown (mvT hZ (hw _ (List.mem_of_getElem? (i := 19) rfl))) (mvT hZ (hw _ (List.mem_of_getElem? (i := 20) rfl))) (notFace_of_selects (args := #[]) (mvT hZ (hw _ (List.mem_of_getElem? (i := 22) rfl)))) (mvT hZ (hw _ (List.mem_of_getElem? (i := 22) rfl))) (mvT hZ (hw _ (List.mem_of_getElem? (i := 21) rfl))) (by decide) (backOf (W := 0) (rms0 l Z A0 hw [] b26 b27 b78 b24 T77.heap n0 Z77 F81 F79) hZ (hw _ (List.mem_of_getElem? (i := 23) rfl)) (hw _ (List.mem_of_getElem? (i := 3) rfl)) (by decide) (by decide)) qq82a qq82c (g := (mkF m 165 #[.val (.long q0), .second, .val (.int p1), .val (.int p2), .val (.int p3), .val (.int p4), .val (.int z8), .val (.int z17), .val (.int v19), .val (.int v20), .val (.long q0), .second, .val (.long v21), .second, .val (.double v22), .second, .val (.double v23), .second, .val (.ref b24), .val (.int z50), .val (.int z72), .unset] [(.int (0 : Int32)), (.ref b24)])) rfl (by rw [hml]; rfl) (Steps.refl _) (argsL := [(.int (0 : Int32))]) (rest := []) (lenOf pd_19 rfl) rfl (by show 2 * 0 + _ ≤ _; exact Nat.le_of_eq rfl) (hb hby at_165) (fun _ _ => ⟨rfl, rfl, (by decide : 2 + 0 ≤ _), (by decide : 12 + 0 ≤ _)⟩)
          dsimp only [Pt.U, Pt.locs, Pt.cells, Pt.slots] at X82 l82 y82 z82 st82 hQ82
          subst l82 y82 z82
          obtain ⟨o84, rfl, Nq82, eq82, hp85⟩ := hQ82
          have N82 := Fr.app N77 Nq82
          refine own_by (fun _ k => st82.trans k) ?_
          show own_Go p e below _ (T82.setTop (mkF m 168 #[.val (.long q0), .second, .val (.int p1), .val (.int p2), .val (.int p3), .val (.int p4), .val (.int z8), .val (.int z17), .val (.int v19), .val (.int v20), .val (.long q0), .second, .val (.long v21), .second, .val (.double v22), .second, .val (.double v23), .second, .val (.ref b24), .val (.int z50), .val (.int z72), .unset] [(.int o84)]))
          refine own_by (fun _ k => XS.iload X82.here hx rfl (hb hby at_168) rfl k) ?_
          show own_Go p e below _ (T82.setTop (mkF m 170 #[.val (.long q0), .second, .val (.int p1), .val (.int p2), .val (.int p3), .val (.int p4), .val (.int z8), .val (.int z17), .val (.int v19), .val (.int v20), .val (.long q0), .second, .val (.long v21), .second, .val (.double v22), .second, .val (.double v23), .second, .val (.ref b24), .val (.int z50), .val (.int z72), .unset] [(.int z17), (.int o84)]))
          have J91 : ∀ (T92 : State) (L93 : List Loc) (z97 : Int32), Stand p l e room_1 s m #[(.long q0), (.int p1), (.int p2), (.int p3), (.int p4)] below meth c T92 L93 2 12 → T92.heap = T77.heap → Fr n0 L93 → ((∃ (o88 : Int32), (o84 = z17) ∧ (((((b78 7) &&& (2147483648 : Int64)) = (0 : Int64)) ∧ o88 = (0 : Int32)) ∨ ((¬ (((b78 7) &&& (2147483648 : Int64)) = (0 : Int64))) ∧ o88 = (1 : Int32))) ∧ (o88 = z8) ∧ z97 = (1 : Int32)) ∨ (∃ (o88 : Int32), (o84 = z17) ∧ (((((b78 7) &&& (2147483648 : Int64)) = (0 : Int64)) ∧ o88 = (0 : Int32)) ∨ ((¬ (((b78 7) &&& (2147483648 : Int64)) = (0 : Int64))) ∧ o88 = (1 : Int32))) ∧ (¬ (o88 = z8)) ∧ z97 = (0 : Int32)) ∨ ((¬ (o84 = z17)) ∧ z97 = (0 : Int32))) → own_Go p e below (own_Fin s 16 128 (Q0 Z q0 p1 p2 p3 p4 h0 n0)) (T92.setTop (mkF m 189 #[.val (.long q0), .second, .val (.int p1), .val (.int p2), .val (.int p3), .val (.int p4), .val (.int z8), .val (.int z17), .val (.int v19), .val (.int v20), .val (.long q0), .second, .val (.long v21), .second, .val (.double v22), .second, .val (.double v23), .second, .val (.ref b24), .val (.int z50), .val (.int z72), .unset] [(.int z97)])) := by
            intro T92 L93 z97 X94 e95 N96 hj98
            refine own_by (fun _ k => XS.istore X94.here hx rfl (hb hby at_189) rfl (l' := #[.val (.long q0), .second, .val (.int p1), .val (.int p2), .val (.int p3), .val (.int p4), .val (.int z8), .val (.int z17), .val (.int v19), .val (.int v20), .val (.long q0), .second, .val (.long v21), .second, .val (.double v22), .second, .val (.double v23), .second, .val (.ref b24), .val (.int z50), .val (.int z72), .val (.int z97)]) rfl k) ?_
            show own_Go p e below _ (T92.setTop (mkF m 191 #[.val (.long q0), .second, .val (.int p1), .val (.int p2), .val (.int p3), .val (.int p4), .val (.int z8), .val (.int z17), .val (.int v19), .val (.int v20), .val (.long q0), .second, .val (.long v21), .second, .val (.double v22), .second, .val (.double v23), .second, .val (.ref b24), .val (.int z50), .val (.int z72), .val (.int z97)] []))
            refine own_by (fun _ k => XS.iload X94.here hx rfl (hb hby at_191) rfl k) ?_
            show own_Go p e below _ (T92.setTop (mkF m 193 #[.val (.long q0), .second, .val (.int p1), .val (.int p2), .val (.int p3), .val (.int p4), .val (.int z8), .val (.int z17), .val (.int v19), .val (.int v20), .val (.long q0), .second, .val (.long v21), .second, .val (.double v22), .second, .val (.double v23), .second, .val (.ref b24), .val (.int z50), .val (.int z72), .val (.int z97)] [(.int z50)]))
            by_cases c99 : z50 = (0 : Int32)
            · skip
              refine own_by (fun _ k => XS.ifYes X94.here hx rfl (pc0 := 193) (pc' := 210) rfl (hb hby at_193) rfl ((if0 _ _).trans (teq c99).1) (by decide) (by decide) k) ?_
              show own_Go p e below _ (T92.setTop (mkF m 210 #[.val (.long q0), .second, .val (.int p1), .val (.int p2), .val (.int p3), .val (.int p4), .val (.int z8), .val (.int z17), .val (.int v19), .val (.int v20), .val (.long q0), .second, .val (.long v21), .second, .val (.double v22), .second, .val (.double v23), .second, .val (.ref b24), .val (.int z50), .val (.int z72), .val (.int z97)] []))
              refine own_by (fun _ k => XS.iconst X94.here hx rfl (hb hby at_210) k) ?_
              show own_Go p e below _ (T92.setTop (mkF m 211 #[.val (.long q0), .second, .val (.int p1), .val (.int p2), .val (.int p3), .val (.int p4), .val (.int z8), .val (.int z17), .val (.int v19), .val (.int v20), .val (.long q0), .second, .val (.long v21), .second, .val (.double v22), .second, .val (.double v23), .second, .val (.ref b24), .val (.int z50), .val (.int z72), .val (.int z97)] [(.int (0 : Int32))]))
              exact own_retN X94 hx (t := .boolean) Bd.returns (by simp) (hb hby at_211) hlk e95 ⟨((ob_0_18 q0 p1 p2 p3 p4 z8 z17 v19 v20 v21 v22 v23 o37 z50 b53 o59 z72 b78 o84 z97 hj9 hj18 hv19 hv20 hv21 hv22 hv23 hp38 hj51 hp55 hp60 hj73 hp80 hp85 hj98 c99)).elim, N96⟩ (by decide) (by decide)
            · skip
              refine own_by (fun _ k => XS.ifNo X94.here hx rfl (hb hby at_193) rfl ((if0 _ _).trans (feq c99).1) k) ?_
              show own_Go p e below _ (T92.setTop (mkF m 196 #[.val (.long q0), .second, .val (.int p1), .val (.int p2), .val (.int p3), .val (.int p4), .val (.int z8), .val (.int z17), .val (.int v19), .val (.int v20), .val (.long q0), .second, .val (.long v21), .second, .val (.double v22), .second, .val (.double v23), .second, .val (.ref b24), .val (.int z50), .val (.int z72), .val (.int z97)] []))
              refine own_by (fun _ k => XS.iload X94.here hx rfl (hb hby at_196) rfl k) ?_
              show own_Go p e below _ (T92.setTop (mkF m 198 #[.val (.long q0), .second, .val (.int p1), .val (.int p2), .val (.int p3), .val (.int p4), .val (.int z8), .val (.int z17), .val (.int v19), .val (.int v20), .val (.long q0), .second, .val (.long v21), .second, .val (.double v22), .second, .val (.double v23), .second, .val (.ref b24), .val (.int z50), .val (.int z72), .val (.int z97)] [(.int z72)]))
              by_cases c100 : z72 = (0 : Int32)
              · skip
                refine own_by (fun _ k => XS.ifYes X94.here hx rfl (pc0 := 198) (pc' := 210) rfl (hb hby at_198) rfl ((if0 _ _).trans (teq c100).1) (by decide) (by decide) k) ?_
                show own_Go p e below _ (T92.setTop (mkF m 210 #[.val (.long q0), .second, .val (.int p1), .val (.int p2), .val (.int p3), .val (.int p4), .val (.int z8), .val (.int z17), .val (.int v19), .val (.int v20), .val (.long q0), .second, .val (.long v21), .second, .val (.double v22), .second, .val (.double v23), .second, .val (.ref b24), .val (.int z50), .val (.int z72), .val (.int z97)] []))
                refine own_by (fun _ k => XS.iconst X94.here hx rfl (hb hby at_210) k) ?_
                show own_Go p e below _ (T92.setTop (mkF m 211 #[.val (.long q0), .second, .val (.int p1), .val (.int p2), .val (.int p3), .val (.int p4), .val (.int z8), .val (.int z17), .val (.int v19), .val (.int v20), .val (.long q0), .second, .val (.long v21), .second, .val (.double v22), .second, .val (.double v23), .second, .val (.ref b24), .val (.int z50), .val (.int z72), .val (.int z97)] [(.int (0 : Int32))]))
                exact own_retN X94 hx (t := .boolean) Bd.returns (by simp) (hb hby at_211) hlk e95 ⟨((ob_0_19 q0 p1 p2 p3 p4 z8 z17 v19 v20 v21 v22 v23 o37 z50 b53 o59 z72 b78 o84 z97 hj9 hj18 hv19 hv20 hv21 hv22 hv23 hp38 hj51 hp55 hp60 hj73 hp80 hp85 hj98 c99 c100)).elim, N96⟩ (by decide) (by decide)
              · skip
                refine own_by (fun _ k => XS.ifNo X94.here hx rfl (hb hby at_198) rfl ((if0 _ _).trans (feq c100).1) k) ?_
                show own_Go p e below _ (T92.setTop (mkF m 201 #[.val (.long q0), .second, .val (.int p1), .val (.int p2), .val (.int p3), .val (.int p4), .val (.int z8), .val (.int z17), .val (.int v19), .val (.int v20), .val (.long q0), .second, .val (.long v21), .second, .val (.double v22), .second, .val (.double v23), .second, .val (.ref b24), .val (.int z50), .val (.int z72), .val (.int z97)] []))
                refine own_by (fun _ k => XS.iload X94.here hx rfl (hb hby at_201) rfl k) ?_
                show own_Go p e below _ (T92.setTop (mkF m 203 #[.val (.long q0), .second, .val (.int p1), .val (.int p2), .val (.int p3), .val (.int p4), .val (.int z8), .val (.int z17), .val (.int v19), .val (.int v20), .val (.long q0), .second, .val (.long v21), .second, .val (.double v22), .second, .val (.double v23), .second, .val (.ref b24), .val (.int z50), .val (.int z72), .val (.int z97)] [(.int z97)]))
                by_cases c101 : z97 = (0 : Int32)
                · skip
                  refine own_by (fun _ k => XS.ifYes X94.here hx rfl (pc0 := 203) (pc' := 210) rfl (hb hby at_203) rfl ((if0 _ _).trans (teq c101).1) (by decide) (by decide) k) ?_
                  show own_Go p e below _ (T92.setTop (mkF m 210 #[.val (.long q0), .second, .val (.int p1), .val (.int p2), .val (.int p3), .val (.int p4), .val (.int z8), .val (.int z17), .val (.int v19), .val (.int v20), .val (.long q0), .second, .val (.long v21), .second, .val (.double v22), .second, .val (.double v23), .second, .val (.ref b24), .val (.int z50), .val (.int z72), .val (.int z97)] []))
                  refine own_by (fun _ k => XS.iconst X94.here hx rfl (hb hby at_210) k) ?_
                  show own_Go p e below _ (T92.setTop (mkF m 211 #[.val (.long q0), .second, .val (.int p1), .val (.int p2), .val (.int p3), .val (.int p4), .val (.int z8), .val (.int z17), .val (.int v19), .val (.int v20), .val (.long q0), .second, .val (.long v21), .second, .val (.double v22), .second, .val (.double v23), .second, .val (.ref b24), .val (.int z50), .val (.int z72), .val (.int z97)] [(.int (0 : Int32))]))
                  exact own_retN X94 hx (t := .boolean) Bd.returns (by simp) (hb hby at_211) hlk e95 ⟨((ob_0_20 q0 p1 p2 p3 p4 z8 z17 v19 v20 v21 v22 v23 o37 z50 b53 o59 z72 b78 o84 z97 hj9 hj18 hv19 hv20 hv21 hv22 hv23 hp38 hj51 hp55 hp60 hj73 hp80 hp85 hj98 c99 c100 c101)).elim, N96⟩ (by decide) (by decide)
                · skip
                  refine own_by (fun _ k => XS.ifNo X94.here hx rfl (hb hby at_203) rfl ((if0 _ _).trans (feq c101).1) k) ?_
                  show own_Go p e below _ (T92.setTop (mkF m 206 #[.val (.long q0), .second, .val (.int p1), .val (.int p2), .val (.int p3), .val (.int p4), .val (.int z8), .val (.int z17), .val (.int v19), .val (.int v20), .val (.long q0), .second, .val (.long v21), .second, .val (.double v22), .second, .val (.double v23), .second, .val (.ref b24), .val (.int z50), .val (.int z72), .val (.int z97)] []))
                  refine own_by (fun _ k => XS.iconst X94.here hx rfl (hb hby at_206) k) ?_
                  show own_Go p e below _ (T92.setTop (mkF m 207 #[.val (.long q0), .second, .val (.int p1), .val (.int p2), .val (.int p3), .val (.int p4), .val (.int z8), .val (.int z17), .val (.int v19), .val (.int v20), .val (.long q0), .second, .val (.long v21), .second, .val (.double v22), .second, .val (.double v23), .second, .val (.ref b24), .val (.int z50), .val (.int z72), .val (.int z97)] [(.int (1 : Int32))]))
                  refine own_by (fun _ k => XS.goto X94.here hx rfl (pc0 := 207) (pc' := 211) rfl (hb hby at_207) (by decide) (by decide) k) ?_
                  show own_Go p e below _ (T92.setTop (mkF m 211 #[.val (.long q0), .second, .val (.int p1), .val (.int p2), .val (.int p3), .val (.int p4), .val (.int z8), .val (.int z17), .val (.int v19), .val (.int v20), .val (.long q0), .second, .val (.long v21), .second, .val (.double v22), .second, .val (.double v23), .second, .val (.ref b24), .val (.int z50), .val (.int z72), .val (.int z97)] [(.int (1 : Int32))]))
                  exact own_retN X94 hx (t := .boolean) Bd.returns (by simp) (hb hby at_211) hlk e95 ⟨rfl, N96⟩ (by decide) (by decide)
          by_cases c86 : o84 = z17
          · skip
            refine own_by (fun _ k => XS.icmpNo X82.here hx rfl (hb hby at_170) rfl (teq c86).2 k) ?_
            show own_Go p e below _ (T82.setTop (mkF m 173 #[.val (.long q0), .second, .val (.int p1), .val (.int p2), .val (.int p3), .val (.int p4), .val (.int z8), .val (.int z17), .val (.int v19), .val (.int v20), .val (.long q0), .second, .val (.long v21), .second, .val (.double v22), .second, .val (.double v23), .second, .val (.ref b24), .val (.int z50), .val (.int z72), .unset] []))
            refine own_by (fun _ k => XS.aload X82.here hx rfl (hb hby at_173) rfl rfl k) ?_
            show own_Go p e below _ (T82.setTop (mkF m 175 #[.val (.long q0), .second, .val (.int p1), .val (.int p2), .val (.int p3), .val (.int p4), .val (.int z8), .val (.int z17), .val (.int v19), .val (.int v20), .val (.long q0), .second, .val (.long v21), .second, .val (.double v22), .second, .val (.double v23), .second, .val (.ref b24), .val (.int z50), .val (.int z72), .unset] [(.ref b24)]))
            refine own_by (fun _ k => XS.iconst X82.here hx rfl (hb hby at_175) k) ?_
            show own_Go p e below _ (T82.setTop (mkF m 176 #[.val (.long q0), .second, .val (.int p1), .val (.int p2), .val (.int p3), .val (.int p4), .val (.int z8), .val (.int z17), .val (.int v19), .val (.int v20), .val (.long q0), .second, .val (.long v21), .second, .val (.double v22), .second, .val (.double v23), .second, .val (.ref b24), .val (.int z50), .val (.int z72), .unset] [(.int (4 : Int32)), (.ref b24)]))
            obtain ⟨cq87, kq87, qq87a, qq87b, qq87c⟩ := isOf hZ eq82 F83
            obtain ⟨_, _, ⟨T87, L87, k87, n87⟩, -, X87, ⟨Lc87, hQ87, l87, y87, z87⟩, st87⟩ := X82.virtualBack hx (y := (⟨"com/example/plyward/plyward/search/TranspositionTable", "settled", "(I)Z"⟩ : MethodName)) (z := (⟨"com/example/plyward/plyward/search/TranspositionTable", "settled", "(I)Z"⟩ : MethodName)) hown (mvT hZ (hw _ (List.mem_of_getElem? (i := 19) rfl))) (mvT hZ (hw _ (List.mem_of_getElem? (i := 20) rfl))) (notFace_of_selects (args := #[]) (mvT hZ (hw _ (List.mem_of_getElem? (i := 22) rfl)))) (mvT hZ (hw _ (List.mem_of_getElem? (i := 22) rfl))) (mvT hZ (hw _ (List.mem_of_getElem? (i := 21) rfl))) (by decide) (backOf (W := 0) (rms4 l Z A0 hw [] b26 b27 b78 b24 T77.heap n0 Z77 F81 F79) hZ (hw _ (List.mem_of_getElem? (i := 23) rfl)) (hw _ (List.mem_of_getElem? (i := 3) rfl)) (by decide) (by decide)) qq87a qq87c (g := (mkF m 176 #[.val (.long q0), .second, .val (.int p1), .val (.int p2), .val (.int p3), .val (.int p4), .val (.int z8), .val (.int z17), .val (.int v19), .val (.int v20), .val (.long q0), .second, .val (.long v21), .second, .val (.double v22), .second, .val (.double v23), .second, .val (.ref b24), .val (.int z50), .val (.int z72), .unset] [(.int (4 : Int32)), (.ref b24)])) rfl (by rw [hml]; rfl) (Steps.refl _) (argsL := [(.int (4 : Int32))]) (rest := []) (lenOf pd_19 rfl) rfl (by show 2 * 0 + _ ≤ _; exact Nat.le_of_eq rfl) (hb hby at_176) (fun _ _ => ⟨rfl, eq82, (by decide : 2 + 0 ≤ _), (by decide : 12 + 0 ≤ _)⟩)
            dsimp only [Pt.U, Pt.locs, Pt.cells, Pt.slots] at X87 l87 y87 z87 st87 hQ87
            subst l87 y87 z87
            obtain ⟨o88, rfl, Nq87, eq87, hp89⟩ := hQ87
            have N87 := Fr.app N82 Nq87
            refine own_by (fun _ k => st87.trans k) ?_
            show own_Go p e below _ (T87.setTop (mkF m 179 #[.val (.long q0), .second, .val (.int p1), .val (.int p2), .val (.int p3), .val (.int p4), .val (.int z8), .val (.int z17), .val (.int v19), .val (.int v20), .val (.long q0), .second, .val (.long v21), .second, .val (.double v22), .second, .val (.double v23), .second, .val (.ref b24), .val (.int z50), .val (.int z72), .unset] [(.int o88)]))
            refine own_by (fun _ k => XS.iload X87.here hx rfl (hb hby at_179) rfl k) ?_
            show own_Go p e below _ (T87.setTop (mkF m 181 #[.val (.long q0), .second, .val (.int p1), .val (.int p2), .val (.int p3), .val (.int p4), .val (.int z8), .val (.int z17), .val (.int v19), .val (.int v20), .val (.long q0), .second, .val (.long v21), .second, .val (.double v22), .second, .val (.double v23), .second, .val (.ref b24), .val (.int z50), .val (.int z72), .unset] [(.int z8), (.int o88)]))
            by_cases c90 : o88 = z8
            · skip
              refine own_by (fun _ k => XS.icmpNo X87.here hx rfl (hb hby at_181) rfl (teq c90).2 k) ?_
              show own_Go p e below _ (T87.setTop (mkF m 184 #[.val (.long q0), .second, .val (.int p1), .val (.int p2), .val (.int p3), .val (.int p4), .val (.int z8), .val (.int z17), .val (.int v19), .val (.int v20), .val (.long q0), .second, .val (.long v21), .second, .val (.double v22), .second, .val (.double v23), .second, .val (.ref b24), .val (.int z50), .val (.int z72), .unset] []))
              refine own_by (fun _ k => XS.iconst X87.here hx rfl (hb hby at_184) k) ?_
              show own_Go p e below _ (T87.setTop (mkF m 185 #[.val (.long q0), .second, .val (.int p1), .val (.int p2), .val (.int p3), .val (.int p4), .val (.int z8), .val (.int z17), .val (.int v19), .val (.int v20), .val (.long q0), .second, .val (.long v21), .second, .val (.double v22), .second, .val (.double v23), .second, .val (.ref b24), .val (.int z50), .val (.int z72), .unset] [(.int (1 : Int32))]))
              refine own_by (fun _ k => XS.goto X87.here hx rfl (pc0 := 185) (pc' := 189) rfl (hb hby at_185) (by decide) (by decide) k) ?_
              show own_Go p e below _ (T87.setTop (mkF m 189 #[.val (.long q0), .second, .val (.int p1), .val (.int p2), .val (.int p3), .val (.int p4), .val (.int z8), .val (.int z17), .val (.int v19), .val (.int v20), .val (.long q0), .second, .val (.long v21), .second, .val (.double v22), .second, .val (.double v23), .second, .val (.ref b24), .val (.int z50), .val (.int z72), .unset] [(.int (1 : Int32))]))
              exact J91 _ _ (1 : Int32) X87 eq87 N87 (Or.inl ⟨o88, c86, hp89, c90, rfl⟩)
            · skip
              refine own_by (fun _ k => XS.icmpYes X87.here hx rfl (pc0 := 181) (pc' := 188) rfl (hb hby at_181) rfl (feq c90).2 (by decide) (by decide) k) ?_
              show own_Go p e below _ (T87.setTop (mkF m 188 #[.val (.long q0), .second, .val (.int p1), .val (.int p2), .val (.int p3), .val (.int p4), .val (.int z8), .val (.int z17), .val (.int v19), .val (.int v20), .val (.long q0), .second, .val (.long v21), .second, .val (.double v22), .second, .val (.double v23), .second, .val (.ref b24), .val (.int z50), .val (.int z72), .unset] []))
              refine own_by (fun _ k => XS.iconst X87.here hx rfl (hb hby at_188) k) ?_
              show own_Go p e below _ (T87.setTop (mkF m 189 #[.val (.long q0), .second, .val (.int p1), .val (.int p2), .val (.int p3), .val (.int p4), .val (.int z8), .val (.int z17), .val (.int v19), .val (.int v20), .val (.long q0), .second, .val (.long v21), .second, .val (.double v22), .second, .val (.double v23), .second, .val (.ref b24), .val (.int z50), .val (.int z72), .unset] [(.int (0 : Int32))]))
              exact J91 _ _ (0 : Int32) X87 eq87 N87 (Or.inr (Or.inl ⟨o88, c86, hp89, c90, rfl⟩))
          · skip
            refine own_by (fun _ k => XS.icmpYes X82.here hx rfl (pc0 := 170) (pc' := 188) rfl (hb hby at_170) rfl (feq c86).2 (by decide) (by decide) k) ?_
            show own_Go p e below _ (T82.setTop (mkF m 188 #[.val (.long q0), .second, .val (.int p1), .val (.int p2), .val (.int p3), .val (.int p4), .val (.int z8), .val (.int z17), .val (.int v19), .val (.int v20), .val (.long q0), .second, .val (.long v21), .second, .val (.double v22), .second, .val (.double v23), .second, .val (.ref b24), .val (.int z50), .val (.int z72), .unset] []))
            refine own_by (fun _ k => XS.iconst X82.here hx rfl (hb hby at_188) k) ?_
            show own_Go p e below _ (T82.setTop (mkF m 189 #[.val (.long q0), .second, .val (.int p1), .val (.int p2), .val (.int p3), .val (.int p4), .val (.int z8), .val (.int z17), .val (.int v19), .val (.int v20), .val (.long q0), .second, .val (.long v21), .second, .val (.double v22), .second, .val (.double v23), .second, .val (.ref b24), .val (.int z50), .val (.int z72), .unset] [(.int (0 : Int32))]))
            exact J91 _ _ (0 : Int32) X82 eq82 N82 (Or.inr (Or.inr (⟨c86, rfl⟩)))
        by_cases c61 : o59 = z8
        · skip
          refine own_by (fun _ k => XS.icmpNo X57.here hx rfl (hb hby at_128) rfl (teq c61).2 k) ?_
          show own_Go p e below _ (T57.setTop (mkF m 131 #[.val (.long q0), .second, .val (.int p1), .val (.int p2), .val (.int p3), .val (.int p4), .val (.int z8), .val (.int z17), .val (.int v19), .val (.int v20), .val (.long q0), .second, .val (.long v21), .second, .val (.double v22), .second, .val (.double v23), .second, .val (.ref b24), .val (.int z50), .unset, .unset] []))
          refine own_by (fun _ k => XS.aload X57.here hx rfl (hb hby at_131) rfl rfl k) ?_
          show own_Go p e below _ (T57.setTop (mkF m 133 #[.val (.long q0), .second, .val (.int p1), .val (.int p2), .val (.int p3), .val (.int p4), .val (.int z8), .val (.int z17), .val (.int v19), .val (.int v20), .val (.long q0), .second, .val (.long v21), .second, .val (.double v22), .second, .val (.double v23), .second, .val (.ref b24), .val (.int z50), .unset, .unset] [(.ref b24)]))
          refine own_by (fun _ k => XS.iconst X57.here hx rfl (hb hby at_133) k) ?_
          show own_Go p e below _ (T57.setTop (mkF m 134 #[.val (.long q0), .second, .val (.int p1), .val (.int p2), .val (.int p3), .val (.int p4), .val (.int z8), .val (.int z17), .val (.int v19), .val (.int v20), .val (.long q0), .second, .val (.long v21), .second, .val (.double v22), .second, .val (.double v23), .second, .val (.ref b24), .val (.int z50), .unset, .unset] [(.int (4 : Int32)), (.ref b24)]))
          obtain ⟨cq62, kq62, qq62a, qq62b, qq62c⟩ := isOf hZ eq57 F58
          obtain ⟨_, _, ⟨T62, L62, k62, n62⟩, -, X62, ⟨Lc62, hQ62, l62, y62, z62⟩, st62⟩ := X57.virtualBack hx (y := (⟨"com/example/plyward/plyward/search/TranspositionTable", "settled", "(I)Z"⟩ : MethodName)) (z := (⟨"com/example/plyward/plyward/search/TranspositionTable", "settled", "(I)Z"⟩ : MethodName)) hown (mvT hZ (hw _ (List.mem_of_getElem? (i := 19) rfl))) (mvT hZ (hw _ (List.mem_of_getElem? (i := 20) rfl))) (notFace_of_selects (args := #[]) (mvT hZ (hw _ (List.mem_of_getElem? (i := 22) rfl)))) (mvT hZ (hw _ (List.mem_of_getElem? (i := 22) rfl))) (mvT hZ (hw _ (List.mem_of_getElem? (i := 21) rfl))) (by decide) (backOf (W := 0) (rms4 l Z A0 hw [] b26 b27 b53 b24 T52.heap n0 Z52 F56 F54) hZ (hw _ (List.mem_of_getElem? (i := 23) rfl)) (hw _ (List.mem_of_getElem? (i := 3) rfl)) (by decide) (by decide)) qq62a qq62c (g := (mkF m 134 #[.val (.long q0), .second, .val (.int p1), .val (.int p2), .val (.int p3), .val (.int p4), .val (.int z8), .val (.int z17), .val (.int v19), .val (.int v20), .val (.long q0), .second, .val (.long v21), .second, .val (.double v22), .second, .val (.double v23), .second, .val (.ref b24), .val (.int z50), .unset, .unset] [(.int (4 : Int32)), (.ref b24)])) rfl (by rw [hml]; rfl) (Steps.refl _) (argsL := [(.int (4 : Int32))]) (rest := []) (lenOf pd_19 rfl) rfl (by show 2 * 0 + _ ≤ _; exact Nat.le_of_eq rfl) (hb hby at_134) (fun _ _ => ⟨rfl, eq57, (by decide : 2 + 0 ≤ _), (by decide : 12 + 0 ≤ _)⟩)
          dsimp only [Pt.U, Pt.locs, Pt.cells, Pt.slots] at X62 l62 y62 z62 st62 hQ62
          subst l62 y62 z62
          obtain ⟨o63, rfl, Nq62, eq62, hp64⟩ := hQ62
          have N62 := Fr.app N57 Nq62
          refine own_by (fun _ k => st62.trans k) ?_
          show own_Go p e below _ (T62.setTop (mkF m 137 #[.val (.long q0), .second, .val (.int p1), .val (.int p2), .val (.int p3), .val (.int p4), .val (.int z8), .val (.int z17), .val (.int v19), .val (.int v20), .val (.long q0), .second, .val (.long v21), .second, .val (.double v22), .second, .val (.double v23), .second, .val (.ref b24), .val (.int z50), .unset, .unset] [(.int o63)]))
          by_cases c65 : o63 = (0 : Int32)
          · skip
            refine own_by (fun _ k => XS.ifNo X62.here hx rfl (hb hby at_137) rfl ((if0 _ _).trans (teq c65).2) k) ?_
            show own_Go p e below _ (T62.setTop (mkF m 140 #[.val (.long q0), .second, .val (.int p1), .val (.int p2), .val (.int p3), .val (.int p4), .val (.int z8), .val (.int z17), .val (.int v19), .val (.int v20), .val (.long q0), .second, .val (.long v21), .second, .val (.double v22), .second, .val (.double v23), .second, .val (.ref b24), .val (.int z50), .unset, .unset] []))
            refine own_by (fun _ k => XS.iconst X62.here hx rfl (hb hby at_140) k) ?_
            show own_Go p e below _ (T62.setTop (mkF m 141 #[.val (.long q0), .second, .val (.int p1), .val (.int p2), .val (.int p3), .val (.int p4), .val (.int z8), .val (.int z17), .val (.int v19), .val (.int v20), .val (.long q0), .second, .val (.long v21), .second, .val (.double v22), .second, .val (.double v23), .second, .val (.ref b24), .val (.int z50), .unset, .unset] [(.int (1 : Int32))]))
            refine own_by (fun _ k => XS.goto X62.here hx rfl (pc0 := 141) (pc' := 145) rfl (hb hby at_141) (by decide) (by decide) k) ?_
            show own_Go p e below _ (T62.setTop (mkF m 145 #[.val (.long q0), .second, .val (.int p1), .val (.int p2), .val (.int p3), .val (.int p4), .val (.int z8), .val (.int z17), .val (.int v19), .val (.int v20), .val (.long q0), .second, .val (.long v21), .second, .val (.double v22), .second, .val (.double v23), .second, .val (.ref b24), .val (.int z50), .unset, .unset] [(.int (1 : Int32))]))
            exact J66 _ _ (1 : Int32) X62 eq62 N62 (Or.inl ⟨o63, c61, hp64, c65, rfl⟩)
          · skip
            refine own_by (fun _ k => XS.ifYes X62.here hx rfl (pc0 := 137) (pc' := 144) rfl (hb hby at_137) rfl ((if0 _ _).trans (feq c65).2) (by decide) (by decide) k) ?_
            show own_Go p e below _ (T62.setTop (mkF m 144 #[.val (.long q0), .second, .val (.int p1), .val (.int p2), .val (.int p3), .val (.int p4), .val (.int z8), .val (.int z17), .val (.int v19), .val (.int v20), .val (.long q0), .second, .val (.long v21), .second, .val (.double v22), .second, .val (.double v23), .second, .val (.ref b24), .val (.int z50), .unset, .unset] []))
            refine own_by (fun _ k => XS.iconst X62.here hx rfl (hb hby at_144) k) ?_
            show own_Go p e below _ (T62.setTop (mkF m 145 #[.val (.long q0), .second, .val (.int p1), .val (.int p2), .val (.int p3), .val (.int p4), .val (.int z8), .val (.int z17), .val (.int v19), .val (.int v20), .val (.long q0), .second, .val (.long v21), .second, .val (.double v22), .second, .val (.double v23), .second, .val (.ref b24), .val (.int z50), .unset, .unset] [(.int (0 : Int32))]))
            exact J66 _ _ (0 : Int32) X62 eq62 N62 (Or.inr (Or.inl ⟨o63, c61, hp64, c65, rfl⟩))
        · skip
          refine own_by (fun _ k => XS.icmpYes X57.here hx rfl (pc0 := 128) (pc' := 144) rfl (hb hby at_128) rfl (feq c61).2 (by decide) (by decide) k) ?_
          show own_Go p e below _ (T57.setTop (mkF m 144 #[.val (.long q0), .second, .val (.int p1), .val (.int p2), .val (.int p3), .val (.int p4), .val (.int z8), .val (.int z17), .val (.int v19), .val (.int v20), .val (.long q0), .second, .val (.long v21), .second, .val (.double v22), .second, .val (.double v23), .second, .val (.ref b24), .val (.int z50), .unset, .unset] []))
          refine own_by (fun _ k => XS.iconst X57.here hx rfl (hb hby at_144) k) ?_
          show own_Go p e below _ (T57.setTop (mkF m 145 #[.val (.long q0), .second, .val (.int p1), .val (.int p2), .val (.int p3), .val (.int p4), .val (.int z8), .val (.int z17), .val (.int v19), .val (.int v20), .val (.long q0), .second, .val (.long v21), .second, .val (.double v22), .second, .val (.double v23), .second, .val (.ref b24), .val (.int z50), .unset, .unset] [(.int (0 : Int32))]))
          exact J66 _ _ (0 : Int32) X57 eq57 N57 (Or.inr (Or.inr (⟨c61, rfl⟩)))
      by_cases c39 : o37 = (0 : Int32)
      · skip
        refine own_by (fun _ k => XS.ifNo X36.here hx rfl (hb hby at_86) rfl ((if0 _ _).trans (teq c39).2) k) ?_
        show own_Go p e below _ (T36.setTop (mkF m 89 #[.val (.long q0), .second, .val (.int p1), .val (.int p2), .val (.int p3), .val (.int p4), .val (.int z8), .val (.int z17), .val (.int v19), .val (.int v20), .val (.long q0), .second, .val (.long v21), .second, .val (.double v22), .second, .val (.double v23), .second, .val (.ref b24), .unset, .unset, .unset] []))
        refine own_by (fun _ k => XS.aload X36.here hx rfl (hb hby at_89) rfl rfl k) ?_
        show own_Go p e below _ (T36.setTop (mkF m 91 #[.val (.long q0), .second, .val (.int p1), .val (.int p2), .val (.int p3), .val (.int p4), .val (.int z8), .val (.int z17), .val (.int v19), .val (.int v20), .val (.long q0), .second, .val (.long v21), .second, .val (.double v22), .second, .val (.double v23), .second, .val (.ref b24), .unset, .unset, .unset] [(.ref b24)]))
        refine own_by (fun _ k => XS.iconst X36.here hx rfl (hb hby at_91) k) ?_
        show own_Go p e below _ (T36.setTop (mkF m 92 #[.val (.long q0), .second, .val (.int p1), .val (.int p2), .val (.int p3), .val (.int p4), .val (.int z8), .val (.int z17), .val (.int v19), .val (.int v20), .val (.long q0), .second, .val (.long v21), .second, .val (.double v22), .second, .val (.double v23), .second, .val (.ref b24), .unset, .unset, .unset] [(.int (4 : Int32)), (.ref b24)]))
        obtain ⟨cq40, kq40, qq40a, qq40b, qq40c⟩ := isOf hZ eq36 F28
        obtain ⟨_, _, ⟨T40, L40, k40, n40⟩, -, X40, ⟨Lc40, hQ40, l40, y40, z40⟩, st40⟩ := X36.virtualBack hx (y := (⟨"com/example/plyward/plyward/search/TranspositionTable", "settled", "(I)Z"⟩ : MethodName)) (z := (⟨"com/example/plyward/plyward/search/TranspositionTable", "settled", "(I)Z"⟩ : MethodName)) hown (mvT hZ (hw _ (List.mem_of_getElem? (i := 19) rfl))) (mvT hZ (hw _ (List.mem_of_getElem? (i := 20) rfl))) (notFace_of_selects (args := #[]) (mvT hZ (hw _ (List.mem_of_getElem? (i := 22) rfl)))) (mvT hZ (hw _ (List.mem_of_getElem? (i := 22) rfl))) (mvT hZ (hw _ (List.mem_of_getElem? (i := 21) rfl))) (by decide) (backOf (W := 0) (rms4 l Z A0 hw [] b26 b27 (fun _ => (0 : Int64)) b24 T25.heap n0 Z25 F31 F35) hZ (hw _ (List.mem_of_getElem? (i := 23) rfl)) (hw _ (List.mem_of_getElem? (i := 3) rfl)) (by decide) (by decide)) qq40a qq40c (g := (mkF m 92 #[.val (.long q0), .second, .val (.int p1), .val (.int p2), .val (.int p3), .val (.int p4), .val (.int z8), .val (.int z17), .val (.int v19), .val (.int v20), .val (.long q0), .second, .val (.long v21), .second, .val (.double v22), .second, .val (.double v23), .second, .val (.ref b24), .unset, .unset, .unset] [(.int (4 : Int32)), (.ref b24)])) rfl (by rw [hml]; rfl) (Steps.refl _) (argsL := [(.int (4 : Int32))]) (rest := []) (lenOf pd_19 rfl) rfl (by show 2 * 0 + _ ≤ _; exact Nat.le_of_eq rfl) (hb hby at_92) (fun _ _ => ⟨rfl, eq36, (by decide : 2 + 0 ≤ _), (by decide : 12 + 0 ≤ _)⟩)
        dsimp only [Pt.U, Pt.locs, Pt.cells, Pt.slots] at X40 l40 y40 z40 st40 hQ40
        subst l40 y40 z40
        obtain ⟨o41, rfl, Nq40, eq40, hp42⟩ := hQ40
        have N40 := Fr.app N36 Nq40
        refine own_by (fun _ k => st40.trans k) ?_
        show own_Go p e below _ (T40.setTop (mkF m 95 #[.val (.long q0), .second, .val (.int p1), .val (.int p2), .val (.int p3), .val (.int p4), .val (.int z8), .val (.int z17), .val (.int v19), .val (.int v20), .val (.long q0), .second, .val (.long v21), .second, .val (.double v22), .second, .val (.double v23), .second, .val (.ref b24), .unset, .unset, .unset] [(.int o41)]))
        by_cases c43 : o41 = (0 : Int32)
        · skip
          refine own_by (fun _ k => XS.ifNo X40.here hx rfl (hb hby at_95) rfl ((if0 _ _).trans (teq c43).2) k) ?_
          show own_Go p e below _ (T40.setTop (mkF m 98 #[.val (.long q0), .second, .val (.int p1), .val (.int p2), .val (.int p3), .val (.int p4), .val (.int z8), .val (.int z17), .val (.int v19), .val (.int v20), .val (.long q0), .second, .val (.long v21), .second, .val (.double v22), .second, .val (.double v23), .second, .val (.ref b24), .unset, .unset, .unset] []))
          refine own_by (fun _ k => XS.iconst X40.here hx rfl (hb hby at_98) k) ?_
          show own_Go p e below _ (T40.setTop (mkF m 99 #[.val (.long q0), .second, .val (.int p1), .val (.int p2), .val (.int p3), .val (.int p4), .val (.int z8), .val (.int z17), .val (.int v19), .val (.int v20), .val (.long q0), .second, .val (.long v21), .second, .val (.double v22), .second, .val (.double v23), .second, .val (.ref b24), .unset, .unset, .unset] [(.int (1 : Int32))]))
          refine own_by (fun _ k => XS.goto X40.here hx rfl (pc0 := 99) (pc' := 103) rfl (hb hby at_99) (by decide) (by decide) k) ?_
          show own_Go p e below _ (T40.setTop (mkF m 103 #[.val (.long q0), .second, .val (.int p1), .val (.int p2), .val (.int p3), .val (.int p4), .val (.int z8), .val (.int z17), .val (.int v19), .val (.int v20), .val (.long q0), .second, .val (.long v21), .second, .val (.double v22), .second, .val (.double v23), .second, .val (.ref b24), .unset, .unset, .unset] [(.int (1 : Int32))]))
          exact J44 _ _ (1 : Int32) X40 eq40 N40 (Or.inl ⟨o41, c39, hp42, c43, rfl⟩)
        · skip
          refine own_by (fun _ k => XS.ifYes X40.here hx rfl (pc0 := 95) (pc' := 102) rfl (hb hby at_95) rfl ((if0 _ _).trans (feq c43).2) (by decide) (by decide) k) ?_
          show own_Go p e below _ (T40.setTop (mkF m 102 #[.val (.long q0), .second, .val (.int p1), .val (.int p2), .val (.int p3), .val (.int p4), .val (.int z8), .val (.int z17), .val (.int v19), .val (.int v20), .val (.long q0), .second, .val (.long v21), .second, .val (.double v22), .second, .val (.double v23), .second, .val (.ref b24), .unset, .unset, .unset] []))
          refine own_by (fun _ k => XS.iconst X40.here hx rfl (hb hby at_102) k) ?_
          show own_Go p e below _ (T40.setTop (mkF m 103 #[.val (.long q0), .second, .val (.int p1), .val (.int p2), .val (.int p3), .val (.int p4), .val (.int z8), .val (.int z17), .val (.int v19), .val (.int v20), .val (.long q0), .second, .val (.long v21), .second, .val (.double v22), .second, .val (.double v23), .second, .val (.ref b24), .unset, .unset, .unset] [(.int (0 : Int32))]))
          exact J44 _ _ (0 : Int32) X40 eq40 N40 (Or.inr (Or.inl ⟨o41, c39, hp42, c43, rfl⟩))
      · skip
        refine own_by (fun _ k => XS.ifYes X36.here hx rfl (pc0 := 86) (pc' := 102) rfl (hb hby at_86) rfl ((if0 _ _).trans (feq c39).2) (by decide) (by decide) k) ?_
        show own_Go p e below _ (T36.setTop (mkF m 102 #[.val (.long q0), .second, .val (.int p1), .val (.int p2), .val (.int p3), .val (.int p4), .val (.int z8), .val (.int z17), .val (.int v19), .val (.int v20), .val (.long q0), .second, .val (.long v21), .second, .val (.double v22), .second, .val (.double v23), .second, .val (.ref b24), .unset, .unset, .unset] []))
        refine own_by (fun _ k => XS.iconst X36.here hx rfl (hb hby at_102) k) ?_
        show own_Go p e below _ (T36.setTop (mkF m 103 #[.val (.long q0), .second, .val (.int p1), .val (.int p2), .val (.int p3), .val (.int p4), .val (.int z8), .val (.int z17), .val (.int v19), .val (.int v20), .val (.long q0), .second, .val (.long v21), .second, .val (.double v22), .second, .val (.double v23), .second, .val (.ref b24), .unset, .unset, .unset] [(.int (0 : Int32))]))
        exact J44 _ _ (0 : Int32) X36 eq36 N36 (Or.inr (Or.inr (⟨c39, rfl⟩)))
    by_cases c10 : (p3 &&& (2 : Int32)) = (0 : Int32)
    · skip
      refine own_by (fun _ k => XS.ifYes X5.here hx rfl (pc0 := 18) (pc' := 25) rfl (hb hby at_18) rfl ((if0 _ _).trans (teq c10).1) (by decide) (by decide) k) ?_
      show own_Go p e below _ (T3.setTop (mkF m 25 #[.val (.long q0), .second, .val (.int p1), .val (.int p2), .val (.int p3), .val (.int p4), .val (.int z8), .unset, .unset, .unset, .unset, .unset, .unset, .unset, .unset, .unset, .unset, .unset, .unset, .unset, .unset, .unset] []))
      refine own_by (fun _ k => XS.iconst X5.here hx rfl (hb hby at_25) k) ?_
      show own_Go p e below _ (T3.setTop (mkF m 26 #[.val (.long q0), .second, .val (.int p1), .val (.int p2), .val (.int p3), .val (.int p4), .val (.int z8), .unset, .unset, .unset, .unset, .unset, .unset, .unset, .unset, .unset, .unset, .unset, .unset, .unset, .unset, .unset] [(.int (0 : Int32))]))
      exact J11 _ _ (0 : Int32) X5 e6 N7 (Or.inl ⟨c10, rfl⟩)
    · skip
      refine own_by (fun _ k => XS.ifNo X5.here hx rfl (hb hby at_18) rfl ((if0 _ _).trans (feq c10).1) k) ?_
      show own_Go p e below _ (T3.setTop (mkF m 21 #[.val (.long q0), .second, .val (.int p1), .val (.int p2), .val (.int p3), .val (.int p4), .val (.int z8), .unset, .unset, .unset, .unset, .unset, .unset, .unset, .unset, .unset, .unset, .unset, .unset, .unset, .unset, .unset] []))
      refine own_by (fun _ k => XS.iconst X5.here hx rfl (hb hby at_21) k) ?_
      show own_Go p e below _ (T3.setTop (mkF m 22 #[.val (.long q0), .second, .val (.int p1), .val (.int p2), .val (.int p3), .val (.int p4), .val (.int z8), .unset, .unset, .unset, .unset, .unset, .unset, .unset, .unset, .unset, .unset, .unset, .unset, .unset, .unset, .unset] [(.int (1 : Int32))]))
      refine own_by (fun _ k => XS.goto X5.here hx rfl (pc0 := 22) (pc' := 26) rfl (hb hby at_22) (by decide) (by decide) k) ?_
      show own_Go p e below _ (T3.setTop (mkF m 26 #[.val (.long q0), .second, .val (.int p1), .val (.int p2), .val (.int p3), .val (.int p4), .val (.int z8), .unset, .unset, .unset, .unset, .unset, .unset, .unset, .unset, .unset, .unset, .unset, .unset, .unset, .unset, .unset] [(.int (1 : Int32))]))
      exact J11 _ _ (1 : Int32) X5 e6 N7 (Or.inr (⟨c10, rfl⟩))
  by_cases c1 : (p3 &&& (1 : Int32)) = (0 : Int32)
  · skip
    refine own_by (fun _ k => XS.ifYes X0.here hx rfl (pc0 := 4) (pc' := 11) rfl (hb hby at_4) rfl ((if0 _ _).trans (teq c1).1) (by decide) (by decide) k) ?_
    show own_Go p e below _ (s₁.setTop (mkF m 11 #[.val (.long q0), .second, .val (.int p1), .val (.int p2), .val (.int p3), .val (.int p4), .unset, .unset, .unset, .unset, .unset, .unset, .unset, .unset, .unset, .unset, .unset, .unset, .unset, .unset, .unset, .unset] []))
    refine own_by (fun _ k => XS.iconst X0.here hx rfl (hb hby at_11) k) ?_
    show own_Go p e below _ (s₁.setTop (mkF m 12 #[.val (.long q0), .second, .val (.int p1), .val (.int p2), .val (.int p3), .val (.int p4), .unset, .unset, .unset, .unset, .unset, .unset, .unset, .unset, .unset, .unset, .unset, .unset, .unset, .unset, .unset, .unset] [(.int (0 : Int32))]))
    exact J2 _ _ (0 : Int32) X0 e0 N0 (Or.inl ⟨c1, rfl⟩)
  · skip
    refine own_by (fun _ k => XS.ifNo X0.here hx rfl (hb hby at_4) rfl ((if0 _ _).trans (feq c1).1) k) ?_
    show own_Go p e below _ (s₁.setTop (mkF m 7 #[.val (.long q0), .second, .val (.int p1), .val (.int p2), .val (.int p3), .val (.int p4), .unset, .unset, .unset, .unset, .unset, .unset, .unset, .unset, .unset, .unset, .unset, .unset, .unset, .unset, .unset, .unset] []))
    refine own_by (fun _ k => XS.iconst X0.here hx rfl (hb hby at_7) k) ?_
    show own_Go p e below _ (s₁.setTop (mkF m 8 #[.val (.long q0), .second, .val (.int p1), .val (.int p2), .val (.int p3), .val (.int p4), .unset, .unset, .unset, .unset, .unset, .unset, .unset, .unset, .unset, .unset, .unset, .unset, .unset, .unset, .unset, .unset] [(.int (1 : Int32))]))
    refine own_by (fun _ k => XS.goto X0.here hx rfl (pc0 := 8) (pc' := 12) rfl (hb hby at_8) (by decide) (by decide) k) ?_
    show own_Go p e below _ (s₁.setTop (mkF m 12 #[.val (.long q0), .second, .val (.int p1), .val (.int p2), .val (.int p3), .val (.int p4), .unset, .unset, .unset, .unset, .unset, .unset, .unset, .unset, .unset, .unset, .unset, .unset, .unset, .unset, .unset, .unset] [(.int (1 : Int32))]))
    exact J2 _ _ (1 : Int32) X0 e0 N0 (Or.inr (⟨c1, rfl⟩))
set_option maxRecDepth 65536 in
set_option maxHeartbeats 40000000 in
theorem comes_1 {Post : Tables → Env → Array Value → State → Outcome → State → Prop} (hpost : ∀ tb e args s v u, (limb_1_1.after args s (.returned v) u = true ∧ limb_1_2.after args s (.returned v) u = true ∧ True) → FrameEnd s (.returned v) u (Jvm.fieldLocs frame_1_writes args s ++ Jvm.arrayLocs frame_1_arrays args s ++ Jvm.staticLocs frame_1_statics s) 16 128 → Post tb e args s (.returned v) u) :
    ArmFor flags0 classFile x code maxLocals ret World_1 tables_1 room_1 Calls_1 rest_1 Pre_1 Post := by
  intro l hfl _ _ p e ha hc hk s m args below hf hA hF happ hP
  obtain ⟨hcalls, hrest, hpre⟩ := hP
  obtain ⟨-, -, -, hnamed, -, -, -, hat⟩ := (Spec.applies_iff hf).mp happ
  obtain ⟨hg, hn⟩ := and_e (Cond.before_iff.mp (show (Jvm.Cond.and given_1 narrow_1).before args s = true from hpre))
  obtain ⟨g0, r0⟩ := and_e hg
  obtain ⟨ga0, r1⟩ := and_e r0
  obtain ⟨ga1, r2⟩ := and_e r1
  obtain ⟨ga2, r3⟩ := and_e r2
  obtain ⟨ga3, r4⟩ := and_e r3
  obtain ⟨w0, w1, w2, w3, w4, rfl⟩ : ∃ w0 w1 w2 w3 w4 : Value, args = #[w0, w1, w2, w3, w4] := by
    have hs : args.size = 5 := by simpa [Cond.value, given_1] using g0
    obtain ⟨L⟩ := args
    match L, hs with
    | [w0, w1, w2, w3, w4], _ => exact ⟨w0, w1, w2, w3, w4, rfl⟩
  have hw := fun d (hd : d ∈ tables_1) => atoms_spec (ws := Jvm.Cond.code x code maxLocals ret :: tables_1) hat d (List.mem_cons_of_mem _ hd)
  have hfit : Fit s := fun {y c} hc i hi => by
    obtain ⟨ha, rfl⟩ := Array.getElem?_eq_some_iff.mp hc
    have q := List.all_eq_true.mp ((Array.all_eq_true_iff_forall_mem.mp hF) _ (Array.getElem_mem ha)) i (List.mem_range.mpr hi)
    simpa [Array.getElem?_eq_getElem hi] using q
  obtain ⟨i0, ei0⟩ := isL_v ga0
  obtain rfl : w0 = (.long i0) := Option.some.inj ei0
  obtain ⟨i1, ei1⟩ := is_v ga1
  obtain rfl : w1 = (.int i1) := Option.some.inj ei1
  obtain ⟨i2, ei2⟩ := is_v ga2
  obtain rfl : w2 = (.int i2) := Option.some.inj ei2
  obtain ⟨i3, ei3⟩ := is_v ga3
  obtain rfl : w3 = (.int i3) := Option.some.inj ei3
  obtain ⟨i4, ei4⟩ := is_v r4
  obtain rfl : w4 = (.int i4) := Option.some.inj ei4
  obtain ⟨n, o, h1, h2, h3, _, L, rfl, ⟨rfl, N⟩, hq⟩ := rm0 l s _ hw tables_1 i0 i1 i2 i3 i4 s.heap s.heap.size (Nat.le_refl _)  p e ha hc hk s m _ below hf ((Spec.applies_iff_loose hf).mp happ).1 ⟨rfl, State.Warmed39.refl s, rfl⟩ trivial
  refine ⟨n, _, h1, h2, h3, hpost _ _ _ _ _ _ ⟨Cond.after_iff.mpr rfl, Cond.after_iff.mpr (eq_i res_at (Term.int_eval (1)) rfl), trivial⟩ ⟨hq.1, hq.2.1, (hq.2.2.sift fun y hy => Or.inr (N y hy)).mono (by decide) (by decide)⟩⟩
theorem main_1_1 : Claimed_1_1 := comes_1 fun _ _ _ _ _ _ h hF => ⟨h.1, hF⟩
theorem main_1_2 : Claimed_1_2 := comes_1 fun _ _ _ _ _ _ h hF => ⟨h.2.1, hF⟩
end Jvm.Pilot.@@N@@
namespace Jvm.Pilot.@@N@@
open Jvm Jvm.ClassFile Sem Op Lib Jvm.Free Jvm.Stand Jvm.Pilot.@@N@@.Jvm.D
/-! MADE BY PROGRAM (witnessworld.py) out of the Statement's table words and the real class files: 17 classes; the members and pool entries that the words name. The judged class is class 1, her method 1. -/
namespace start1
open Jvm.ClassFile
def u (s : String) : CpInfo := .utf8 (stringToUtf16 s)
/-- a pool by its gaps: so many unusable entries, then the entry; so many at the end -/
def gap : Nat → List CpInfo → List CpInfo
  | 0, r => r
  | n + 1, r => .unusable :: gap n r
def poolList (es : List (Nat × CpInfo)) (last : Nat) : List CpInfo := es.foldr (fun e r => gap e.1 (e.2 :: r)) (gap last [])
def pool (es : List (Nat × CpInfo)) (last : Nat) : Array CpInfo := ⟨poolList es last⟩
def fileOf (pool : Array CpInfo) (this : Nat) (attrs : Array Attribute := #[]) (ms : Array MethodInfo := #[]) (fl : Nat := 33) (sup : Nat := 0) (ifs : Array Nat := #[]) (fds : Array FieldInfo := #[]) : ClassFile where
  minorVersion := 0
  majorVersion := 65
  constantPool := pool
  accessFlags := fl
  thisClass := this
  superClass := sup
  interfaces := ifs
  fields := fds
  methods := ms
  attributes := attrs
def plain (name : String) (sup : Option ClassId) : Class where
  name := name
  kind := .ordinary
  loader := none
  accessFlags := 33
  super := sup
  interfaces := #[]
  cf := none
  fields := #[]
  methods := #[]
  instanceTypes := #[]
  staticTypes := #[]
  resolved := #[]
  callSites := []
  init := .initialized
  statics := none
  mirror := none

def pool0 : Array CpInfo := pool [(5, u "<init>"), (0, u "()V"), (1, .class_ 10), (1, u "java/lang/Object")] 113

def k0c0 : Code := { maxStack := 0, maxLocals := 1, code := object_method_1_code, exceptionTable := #[], attributes := #[] }
def k0m0 : Method := { name := "<init>", desc := "()V", sig := { parameters := [], returnType := none }, accessFlags := 1, code := some k0c0 }
/-- java/lang/Object -/
def k0 : Class := { plain "java/lang/Object" none with
  accessFlags := 33
  interfaces := #[]
  cf := some (fileOf pool0 8 #[] #[{ accessFlags := 1, nameIndex := 5, descriptorIndex := 6, attributes := #[] }] 33 0 #[] #[])
  fields := #[]
  methods := #[k0m0]
  instanceTypes := #[]
  staticTypes := #[]
  resolved := Array.replicate 124 none
  statics := none }

def pool1 : Array CpInfo := pool [(2, .class_ 4), (1, u "java/lang/Object"), (0, u "<init>"), (0, u "()V"), (0, .integer 2147483647), (0, .class_ 9), (0, u "com/example/plyward/plyward/search/TranspositionTable"), (0, .methodref 8 11), (0, .nameAndType 5 12), (0, u "(I)V"), (0, .methodref 8 14), (0, .nameAndType 15 16), (0, u "settled"), (0, u "(I)Z"), (0, .methodref 8 18), (0, .nameAndType 19 20), (0, u "store"), (0, u "(JIDDZ)V"), (0, .class_ 22), (0, u "com/example/plyward/plyward/search/TranspositionTableSettledPinLaw"), (2, u "law"), (0, u "(JIIII)Z")] 3

def k1m0 : Method := { name := "<init>", desc := "()V", sig := { parameters := [], returnType := none }, accessFlags := 1, code := none }
def k1c1 : Code := { maxStack := 9, maxLocals := 22, code := code, exceptionTable := #[], attributes := #[] }
def k1m1 : Method := { name := "law", desc := "(JIIII)Z", sig := { parameters := [.long, .int, .int, .int, .int], returnType := some .boolean }, accessFlags := 9, code := some k1c1 }
/-- com/example/plyward/plyward/search/TranspositionTableSettledPinLaw -/
def k1 : Class := { plain "com/example/plyward/plyward/search/TranspositionTableSettledPinLaw" (some 0) with
  accessFlags := 49
  interfaces := #[]
  cf := some (fileOf pool1 21 #[] #[{ accessFlags := 1, nameIndex := 5, descriptorIndex := 6, attributes := #[] }, { accessFlags := 9, nameIndex := 25, descriptorIndex := 26, attributes := #[] }] 49 2 #[] #[])
  fields := #[]
  methods := #[k1m0, k1m1]
  instanceTypes := #[]
  staticTypes := #[]
  resolved := Array.replicate 30 none
  statics := none }

def pool2 : Array CpInfo := pool [(1, .class_ 2), (0, u "com/example/plyward/plyward/search/TranspositionTable"), (2, .methodref 6 7), (0, .class_ 8), (0, .nameAndType 9 10), (0, u "java/lang/Object"), (0, u "<init>"), (0, u "()V"), (0, .fieldref 1 12), (0, .nameAndType 13 14), (0, u "generation"), (0, u "J"), (0, .fieldref 1 16), (0, .nameAndType 17 14), (0, u "settledSince"), (9, .fieldref 1 28), (0, .nameAndType 29 30), (0, u "entries"), (0, u "[J"), (2, .fieldref 1 34), (0, .nameAndType 35 36), (0, u "shift"), (0, u "I"), (3, .long 2147483647), (7, .methodref 1 49), (0, .nameAndType 50 51), (0, u "bucket"), (0, u "(J)I"), (0, .methodref 1 53), (0, .nameAndType 54 55), (0, u "holdsAt"), (0, u "(JI)Z"), (1, .class_ 59), (1, u "java/lang/Double"), (2, .long 2147483648), (1, .methodref 1 65), (0, .nameAndType 66 67), (0, u "find"), (0, u "(JI)I"), (0, .methodref 69 70), (0, .class_ 71), (0, .nameAndType 72 73), (0, u "java/lang/System"), (0, u "arraycopy"), (0, u "(Ljava/lang/Object;ILjava/lang/Object;II)V"), (0, .methodref 57 75), (0, .nameAndType 76 77), (0, u "doubleToRawLongBits"), (0, u "(D)J"), (0, .long 11400714819323198485), (1, u "LONGS_PER_ENTRY"), (2, u "ENTRIES_PER_BUCKET"), (1, u "BUCKET_LONGS"), (1, u "GENERATION_BITS"), (1, u "GENERATION_MASK"), (0, u "SETTLED"), (0, u "DEPTH_SHIFT"), (1, u "MAX_INDEX_BITS"), (1, u "SPREAD"), (0, u "(I)V"), (9, u "settled"), (0, u "(I)Z"), (0, u "store"), (0, u "(JIDDZ)V")] 17

def k2c0 : Code := { maxStack := 3, maxLocals := 2, code := prog_71_method_1_code, exceptionTable := #[], attributes := #[] }
def k2m0 : Method := { name := "<init>", desc := "(I)V", sig := { parameters := [.int], returnType := none }, accessFlags := 0, code := some k2c0 }
def k2c1 : Code := { maxStack := 4, maxLocals := 7, code := prog_71_method_5_code, exceptionTable := #[], attributes := #[] }
def k2m1 : Method := { name := "find", desc := "(JI)I", sig := { parameters := [.long, .int], returnType := some .int }, accessFlags := 0, code := some k2c1 }
def k2c2 : Code := { maxStack := 4, maxLocals := 2, code := prog_71_method_9_code, exceptionTable := #[], attributes := #[] }
def k2m2 : Method := { name := "settled", desc := "(I)Z", sig := { parameters := [.int], returnType := some .boolean }, accessFlags := 0, code := some k2c2 }
def k2c3 : Code := { maxStack := 6, maxLocals := 14, code := prog_71_method_10_code, exceptionTable := #[], attributes := #[] }
def k2m3 : Method := { name := "store", desc := "(JIDDZ)V", sig := { parameters := [.long, .int, .double, .double, .boolean], returnType := none }, accessFlags := 0, code := some k2c3 }
def k2c4 : Code := { maxStack := 4, maxLocals := 8, code := prog_71_method_11_code, exceptionTable := #[], attributes := #[] }
def k2m4 : Method := { name := "holdsAt", desc := "(JI)Z", sig := { parameters := [.long, .int], returnType := some .boolean }, accessFlags := 2, code := some k2c4 }
def k2c5 : Code := { maxStack := 4, maxLocals := 4, code := prog_71_method_12_code, exceptionTable := #[], attributes := #[] }
def k2m5 : Method := { name := "bucket", desc := "(J)I", sig := { parameters := [.long], returnType := some .int }, accessFlags := 2, code := some k2c5 }
/-- com/example/plyward/plyward/search/TranspositionTable -/
def k2 : Class := { plain "com/example/plyward/plyward/search/TranspositionTable" (some 0) with
  accessFlags := 48
  interfaces := #[]
  cf := some (fileOf pool2 1 #[] #[{ accessFlags := 0, nameIndex := 9, descriptorIndex := 96, attributes := #[] }, { accessFlags := 0, nameIndex := 66, descriptorIndex := 67, attributes := #[] }, { accessFlags := 0, nameIndex := 106, descriptorIndex := 107, attributes := #[] }, { accessFlags := 0, nameIndex := 108, descriptorIndex := 109, attributes := #[] }, { accessFlags := 2, nameIndex := 54, descriptorIndex := 55, attributes := #[] }, { accessFlags := 2, nameIndex := 50, descriptorIndex := 51, attributes := #[] }] 48 6 #[] #[{ accessFlags := 26, nameIndex := 80, descriptorIndex := 36, attributes := #[] }, { accessFlags := 26, nameIndex := 83, descriptorIndex := 36, attributes := #[] }, { accessFlags := 26, nameIndex := 85, descriptorIndex := 36, attributes := #[] }, { accessFlags := 26, nameIndex := 87, descriptorIndex := 36, attributes := #[] }, { accessFlags := 26, nameIndex := 89, descriptorIndex := 14, attributes := #[] }, { accessFlags := 26, nameIndex := 90, descriptorIndex := 14, attributes := #[] }, { accessFlags := 26, nameIndex := 91, descriptorIndex := 36, attributes := #[] }, { accessFlags := 26, nameIndex := 93, descriptorIndex := 36, attributes := #[] }, { accessFlags := 26, nameIndex := 95, descriptorIndex := 14, attributes := #[] }, { accessFlags := 18, nameIndex := 29, descriptorIndex := 30, attributes := #[] }, { accessFlags := 18, nameIndex := 35, descriptorIndex := 36, attributes := #[] }, { accessFlags := 2, nameIndex := 13, descriptorIndex := 14, attributes := #[] }, { accessFlags := 2, nameIndex := 17, descriptorIndex := 14, attributes := #[] }])
  fields := #[{ name := "LONGS_PER_ENTRY", type := .int, accessFlags := 26, slot := 0, constantValue := 0 }, { name := "ENTRIES_PER_BUCKET", type := .int, accessFlags := 26, slot := 1, constantValue := 0 }, { name := "BUCKET_LONGS", type := .int, accessFlags := 26, slot := 2, constantValue := 0 }, { name := "GENERATION_BITS", type := .int, accessFlags := 26, slot := 3, constantValue := 0 }, { name := "GENERATION_MASK", type := .long, accessFlags := 26, slot := 4, constantValue := 0 }, { name := "SETTLED", type := .long, accessFlags := 26, slot := 5, constantValue := 0 }, { name := "DEPTH_SHIFT", type := .int, accessFlags := 26, slot := 6, constantValue := 0 }, { name := "MAX_INDEX_BITS", type := .int, accessFlags := 26, slot := 7, constantValue := 0 }, { name := "SPREAD", type := .long, accessFlags := 26, slot := 8, constantValue := 0 }, { name := "entries", type := (.array .long), accessFlags := 18, slot := 0, constantValue := 0 }, { name := "shift", type := .int, accessFlags := 18, slot := 1, constantValue := 0 }, { name := "generation", type := .long, accessFlags := 2, slot := 2, constantValue := 0 }, { name := "settledSince", type := .long, accessFlags := 2, slot := 3, constantValue := 0 }]
  methods := #[k2m0, k2m1, k2m2, k2m3, k2m4, k2m5]
  instanceTypes := #[(.array .long), .int, .long, .long]
  staticTypes := #[.int, .int, .int, .int, .long, .long, .int, .int, .long]
  resolved := Array.replicate 127 none
  statics := none }

def pool3 : Array CpInfo := pool [(2, .class_ 4), (1, u "java/lang/Object"), (0, u "<init>"), (0, u "()V"), (1, .class_ 10), (1, u "java/lang/System"), (0, u "allowSecurityManager"), (0, u "I"), (16, u "cons"), (0, u "Ljava/io/Console;"), (77, .class_ 110), (1, u "java/lang/System$CallersHolder"), (43, u "initialErrStream"), (0, u "Ljava/io/PrintStream;"), (19, u "security"), (0, u "Ljava/lang/SecurityManager;"), (31, .class_ 209), (0, u "java/lang/System$1"), (7, u "props"), (0, u "Ljava/util/Properties;"), (2, u "lineSeparator"), (0, u "Ljava/lang/String;"), (96, .class_ 321), (1, u "java/lang/System$LoggerFinder"), (5, .class_ 328), (0, u "java/lang/System$Logger"), (67, u "err"), (2, u "out"), (91, u "notSupportedJnuEncoding"), (15, u "in"), (17, u "initialIn"), (0, u "Ljava/io/InputStream;"), (35, u "bootLayer"), (0, u "Ljava/lang/ModuleLayer;"), (99, .class_ 664), (0, u "java/lang/System$2"), (9, u "NEVER"), (2, u "MAYBE"), (49, u "arraycopy"), (0, u "(Ljava/lang/Object;ILjava/lang/Object;II)V"), (72, .class_ 802), (0, u "java/lang/System$Logger$Level")] 31

def k3m0 : Method := { name := "<init>", desc := "()V", sig := { parameters := [], returnType := none }, accessFlags := 2, code := none }
def k3m1 : Method := { name := "arraycopy", desc := "(Ljava/lang/Object;ILjava/lang/Object;II)V", sig := { parameters := [(.object "java/lang/Object"), .int, (.object "java/lang/Object"), .int, .int], returnType := none }, accessFlags := 265, code := none }
/-- java/lang/System -/
def k3 : Class := { plain "java/lang/System" (some 0) with
  accessFlags := 49
  interfaces := #[]
  cf := some (fileOf pool3 8 #[.nestMembers #[319, 327, 801, 108, 663, 208]] #[{ accessFlags := 2, nameIndex := 5, descriptorIndex := 6, attributes := #[] }, { accessFlags := 265, nameIndex := 727, descriptorIndex := 728, attributes := #[] }] 49 2 #[] #[{ accessFlags := 25, nameIndex := 507, descriptorIndex := 526, attributes := #[] }, { accessFlags := 25, nameIndex := 399, descriptorIndex := 155, attributes := #[] }, { accessFlags := 25, nameIndex := 396, descriptorIndex := 155, attributes := #[] }, { accessFlags := 10, nameIndex := 525, descriptorIndex := 526, attributes := #[] }, { accessFlags := 26, nameIndex := 674, descriptorIndex := 12, attributes := #[] }, { accessFlags := 26, nameIndex := 677, descriptorIndex := 12, attributes := #[] }, { accessFlags := 10, nameIndex := 11, descriptorIndex := 12, attributes := #[] }, { accessFlags := 74, nameIndex := 175, descriptorIndex := 176, attributes := #[] }, { accessFlags := 10, nameIndex := 491, descriptorIndex := 222, attributes := #[] }, { accessFlags := 74, nameIndex := 29, descriptorIndex := 30, attributes := #[] }, { accessFlags := 74, nameIndex := 154, descriptorIndex := 155, attributes := #[] }, { accessFlags := 10, nameIndex := 217, descriptorIndex := 218, attributes := #[] }, { accessFlags := 10, nameIndex := 221, descriptorIndex := 222, attributes := #[] }, { accessFlags := 8, nameIndex := 562, descriptorIndex := 563, attributes := #[] }])
  fields := #[{ name := "in", type := (.object "java/io/InputStream"), accessFlags := 25, slot := 0, constantValue := 0 }, { name := "out", type := (.object "java/io/PrintStream"), accessFlags := 25, slot := 1, constantValue := 0 }, { name := "err", type := (.object "java/io/PrintStream"), accessFlags := 25, slot := 2, constantValue := 0 }, { name := "initialIn", type := (.object "java/io/InputStream"), accessFlags := 10, slot := 3, constantValue := 0 }, { name := "NEVER", type := .int, accessFlags := 26, slot := 4, constantValue := 0 }, { name := "MAYBE", type := .int, accessFlags := 26, slot := 5, constantValue := 0 }, { name := "allowSecurityManager", type := .int, accessFlags := 10, slot := 6, constantValue := 0 }, { name := "security", type := (.object "java/lang/SecurityManager"), accessFlags := 74, slot := 7, constantValue := 0 }, { name := "notSupportedJnuEncoding", type := (.object "java/lang/String"), accessFlags := 10, slot := 8, constantValue := 0 }, { name := "cons", type := (.object "java/io/Console"), accessFlags := 74, slot := 9, constantValue := 0 }, { name := "initialErrStream", type := (.object "java/io/PrintStream"), accessFlags := 74, slot := 10, constantValue := 0 }, { name := "props", type := (.object "java/util/Properties"), accessFlags := 10, slot := 11, constantValue := 0 }, { name := "lineSeparator", type := (.object "java/lang/String"), accessFlags := 10, slot := 12, constantValue := 0 }, { name := "bootLayer", type := (.object "java/lang/ModuleLayer"), accessFlags := 8, slot := 13, constantValue := 0 }]
  methods := #[k3m0, k3m1]
  instanceTypes := #[]
  staticTypes := #[(.object "java/io/InputStream"), (.object "java/io/PrintStream"), (.object "java/io/PrintStream"), (.object "java/io/InputStream"), .int, .int, .int, (.object "java/lang/SecurityManager"), (.object "java/lang/String"), (.object "java/io/Console"), (.object "java/io/PrintStream"), (.object "java/util/Properties"), (.object "java/lang/String"), (.object "java/lang/ModuleLayer")]
  resolved := Array.replicate 834 none
  statics := none }

def pool4 : Array CpInfo := pool [(1, .class_ 2), (0, u "java/io/Serializable"), (0, .class_ 4), (0, u "java/lang/Object")] 2

/-- java/io/Serializable -/
def k4 : Class := { plain "java/io/Serializable" (some 0) with
  accessFlags := 1537
  interfaces := #[]
  cf := some (fileOf pool4 1 #[] #[] 1537 3 #[] #[])
  fields := #[]
  methods := #[]
  instanceTypes := #[]
  staticTypes := #[]
  resolved := Array.replicate 7 none
  statics := none }

def pool5 : Array CpInfo := pool [(2, .class_ 4), (1, u "java/lang/Object"), (0, u "<init>"), (0, u "()V"), (1, .class_ 10), (1, u "java/lang/Number"), (2, .class_ 14), (0, u "java/io/Serializable"), (0, u "serialVersionUID"), (0, u "J")] 20

def k5m0 : Method := { name := "<init>", desc := "()V", sig := { parameters := [], returnType := none }, accessFlags := 1, code := none }
/-- java/lang/Number -/
def k5 : Class := { plain "java/lang/Number" (some 0) with
  accessFlags := 1057
  interfaces := #[4]
  cf := some (fileOf pool5 8 #[] #[{ accessFlags := 1, nameIndex := 5, descriptorIndex := 6, attributes := #[] }] 1057 2 #[13] #[{ accessFlags := 26, nameIndex := 15, descriptorIndex := 16, attributes := #[] }])
  fields := #[{ name := "serialVersionUID", type := .long, accessFlags := 26, slot := 0, constantValue := 0 }]
  methods := #[k5m0]
  instanceTypes := #[]
  staticTypes := #[.long]
  resolved := Array.replicate 37 none
  statics := none }

def pool6 : Array CpInfo := pool [(1, .class_ 2), (0, u "java/lang/Comparable"), (0, .class_ 4), (0, u "java/lang/Object")] 7

/-- java/lang/Comparable -/
def k6 : Class := { plain "java/lang/Comparable" (some 0) with
  accessFlags := 1537
  interfaces := #[]
  cf := some (fileOf pool6 1 #[] #[] 1537 3 #[] #[])
  fields := #[]
  methods := #[]
  instanceTypes := #[]
  staticTypes := #[]
  resolved := Array.replicate 12 none
  statics := none }

def pool7 : Array CpInfo := pool [(1, .class_ 2), (0, u "java/lang/constant/Constable"), (0, .class_ 4), (0, u "java/lang/Object")] 6

/-- java/lang/constant/Constable -/
def k7 : Class := { plain "java/lang/constant/Constable" (some 0) with
  accessFlags := 1537
  interfaces := #[]
  cf := some (fileOf pool7 1 #[] #[] 1537 3 #[] #[])
  fields := #[]
  methods := #[]
  instanceTypes := #[]
  staticTypes := #[]
  resolved := Array.replicate 11 none
  statics := none }

def pool8 : Array CpInfo := pool [(1, .class_ 2), (0, u "java/lang/constant/ConstantDesc"), (0, .class_ 4), (0, u "java/lang/Object")] 32

/-- java/lang/constant/ConstantDesc -/
def k8 : Class := { plain "java/lang/constant/ConstantDesc" (some 0) with
  accessFlags := 1537
  interfaces := #[]
  cf := some (fileOf pool8 1 #[] #[] 1537 3 #[] #[])
  fields := #[]
  methods := #[]
  instanceTypes := #[]
  staticTypes := #[]
  resolved := Array.replicate 37 none
  statics := none }

def pool9 : Array CpInfo := pool [(1, .class_ 2), (0, u "java/lang/Double"), (46, u "(D)J"), (64, .class_ 116), (1, u "java/lang/Number"), (3, u "value"), (0, u "D"), (14, u "doubleToRawLongBits"), (36, u "TYPE"), (0, u "Ljava/lang/Class;"), (0, .class_ 176), (0, u "java/lang/Comparable"), (0, .class_ 178), (0, u "java/lang/constant/Constable"), (0, .class_ 180), (0, u "java/lang/constant/ConstantDesc"), (0, u "POSITIVE_INFINITY"), (3, u "NEGATIVE_INFINITY"), (2, u "NaN"), (2, u "MAX_VALUE"), (0, u "MIN_NORMAL"), (0, u "MIN_VALUE"), (2, u "SIZE"), (0, u "I"), (1, u "PRECISION"), (1, u "MAX_EXPONENT"), (1, u "MIN_EXPONENT"), (1, u "BYTES"), (3, u "serialVersionUID"), (0, u "J")] 79

def k9m0 : Method := { name := "doubleToRawLongBits", desc := "(D)J", sig := { parameters := [.double], returnType := some .long }, accessFlags := 265, code := none }
/-- java/lang/Double -/
def k9 : Class := { plain "java/lang/Double" (some 5) with
  accessFlags := 49
  interfaces := #[6, 7, 8]
  cf := some (fileOf pool9 1 #[] #[{ accessFlags := 265, nameIndex := 136, descriptorIndex := 49, attributes := #[] }] 49 114 #[175, 177, 179] #[{ accessFlags := 25, nameIndex := 181, descriptorIndex := 121, attributes := #[] }, { accessFlags := 25, nameIndex := 185, descriptorIndex := 121, attributes := #[] }, { accessFlags := 25, nameIndex := 188, descriptorIndex := 121, attributes := #[] }, { accessFlags := 25, nameIndex := 191, descriptorIndex := 121, attributes := #[] }, { accessFlags := 25, nameIndex := 192, descriptorIndex := 121, attributes := #[] }, { accessFlags := 25, nameIndex := 193, descriptorIndex := 121, attributes := #[] }, { accessFlags := 25, nameIndex := 196, descriptorIndex := 197, attributes := #[] }, { accessFlags := 25, nameIndex := 199, descriptorIndex := 197, attributes := #[] }, { accessFlags := 25, nameIndex := 201, descriptorIndex := 197, attributes := #[] }, { accessFlags := 25, nameIndex := 203, descriptorIndex := 197, attributes := #[] }, { accessFlags := 25, nameIndex := 205, descriptorIndex := 197, attributes := #[] }, { accessFlags := 25, nameIndex := 173, descriptorIndex := 174, attributes := #[] }, { accessFlags := 18, nameIndex := 120, descriptorIndex := 121, attributes := #[] }, { accessFlags := 26, nameIndex := 209, descriptorIndex := 210, attributes := #[] }])
  fields := #[{ name := "POSITIVE_INFINITY", type := .double, accessFlags := 25, slot := 0, constantValue := 0 }, { name := "NEGATIVE_INFINITY", type := .double, accessFlags := 25, slot := 1, constantValue := 0 }, { name := "NaN", type := .double, accessFlags := 25, slot := 2, constantValue := 0 }, { name := "MAX_VALUE", type := .double, accessFlags := 25, slot := 3, constantValue := 0 }, { name := "MIN_NORMAL", type := .double, accessFlags := 25, slot := 4, constantValue := 0 }, { name := "MIN_VALUE", type := .double, accessFlags := 25, slot := 5, constantValue := 0 }, { name := "SIZE", type := .int, accessFlags := 25, slot := 6, constantValue := 0 }, { name := "PRECISION", type := .int, accessFlags := 25, slot := 7, constantValue := 0 }, { name := "MAX_EXPONENT", type := .int, accessFlags := 25, slot := 8, constantValue := 0 }, { name := "MIN_EXPONENT", type := .int, accessFlags := 25, slot := 9, constantValue := 0 }, { name := "BYTES", type := .int, accessFlags := 25, slot := 10, constantValue := 0 }, { name := "TYPE", type := (.object "java/lang/Class"), accessFlags := 25, slot := 11, constantValue := 0 }, { name := "value", type := .double, accessFlags := 18, slot := 0, constantValue := 0 }, { name := "serialVersionUID", type := .long, accessFlags := 26, slot := 12, constantValue := 0 }]
  methods := #[k9m0]
  instanceTypes := #[.double]
  staticTypes := #[.double, .double, .double, .double, .double, .double, .int, .int, .int, .int, .int, (.object "java/lang/Class"), .long]
  resolved := Array.replicate 290 none
  statics := none }

def pool10 : Array CpInfo := pool [(1, u "java/lang/Cloneable"), (0, .class_ 1), (0, u "java/lang/Object"), (0, .class_ 3)] 3

/-- java/lang/Cloneable -/
def k10 : Class := { plain "java/lang/Cloneable" (some 0) with
  accessFlags := 1537
  interfaces := #[]
  cf := some (fileOf pool10 2 #[] #[] 1537 4 #[] #[])
  fields := #[]
  methods := #[]
  instanceTypes := #[]
  staticTypes := #[]
  resolved := Array.replicate 8 none
  statics := none }

/-- the primitive byte -/
def k11 : Class := { plain "byte" none with kind := .primitive 'B', accessFlags := 0x411 }
/-- [B -/
def k12 : Class := { plain "[B" (some 0) with kind := .array 11 .byte, interfaces := #[10, 4], accessFlags := 1041 }

/-- the primitive int -/
def k13 : Class := { plain "int" none with kind := .primitive 'I', accessFlags := 0x411 }
/-- [I -/
def k14 : Class := { plain "[I" (some 0) with kind := .array 13 .int, interfaces := #[10, 4], accessFlags := 1041 }

/-- the primitive long -/
def k15 : Class := { plain "long" none with kind := .primitive 'J', accessFlags := 0x411 }
/-- [J -/
def k16 : Class := { plain "[J" (some 0) with kind := .array 15 .long, interfaces := #[10, 4], accessFlags := 1041 }

def heap : Heap := #[]
def classes : Array Class := #[k0, k1, k2, k3, k4, k5, k6, k7, k8, k9, k10, k11, k12, k13, k14, k15, k16]
def interned : List (Array UInt16 × Addr) := []
def slotsUsed : Nat := 0
def theMethod : MethodId := ⟨1, 1⟩
def args0 : Array Value := #[.long 5, .int 3, .int 2, .int 3, .int 4]
def aboutOver (below : List Frame) : State where
  vm := { classes := classes, interned := interned.toArray }
  heap := heap
  slotsUsed := slotsUsed
  threads := #[{ frames := .invoking theMethod args0 :: below }]
def below0 : List Frame := [.native { method := ⟨0, 0⟩, args := #[] }]
def about1 : State := aboutOver below0
def p0 : Program := .bare "" "" ""
def e0 : Env := launch0.env 0 0 0
theorem w_frames : about1.frames = Frame.invoking theMethod args0 :: below0 := rfl
set_option maxRecDepth 65536 in
theorem w_args : argsFit about1.vm theMethod args0 = true := by decide +kernel
set_option maxRecDepth 65536 in
theorem w_heap : heapFits about1 = true := by decide +kernel
set_option maxRecDepth 65536 in
theorem w_runnable : about1.curStatus? = some .runnable := by decide +kernel
set_option maxRecDepth 65536 in
theorem w_alone : about1.alone = true := by decide +kernel
set_option maxRecDepth 65536 in
theorem w_named : about1.methodNamed? x = some theMethod := by decide +kernel
set_option maxRecDepth 65536 in
theorem w_hears : about1.hears theMethod below0 = true := by decide +kernel
set_option maxRecDepth 65536 in
theorem w_ripe : about1.ripe theMethod args0 below0 = true := by decide +kernel
theorem w_running : about1.status = .running := rfl
set_option maxRecDepth 65536 in
theorem w_room : about1.hasRoom e0.platform room_1 = true :=
  launch0.hasRoom_least _ room_1 (by decide +kernel) (by decide +kernel) (by decide +kernel) (by decide +kernel) (by decide +kernel) (by decide +kernel)
theorem allAtoms_all (ts : List Jvm.Cond) (a : Array Jvm.Value) (st : Jvm.State) : (allAtoms ts).before a st = ts.all (fun c => c.before a st) := by
  induction ts with
  | nil => rfl
  | cons c t ih =>
    show (Jvm.Cond.and c (allAtoms t)).before a st = _
    rw [Jvm.Cond.before_and, ih, List.all_cons]
def words1 : List Jvm.Cond := Jvm.Cond.code x code maxLocals ret :: tables_1
/-- a 'code' word, met by the world's own term for the bytes: nothing is compared byte by byte -/
theorem code_word {y : MethodName} {bytes : ByteArray} {mx : Nat} {rt : Option FieldType} {a : Array Value} {s : State} {m : MethodId} {meth : Method} {c : Code} (h1 : s.methodNamed? y = some m) (h2 : s.vm.method? m = some meth) (h3 : meth.code = some c) (h4 : c.code = bytes)
    (h5 : (c.maxLocals == mx && c.exceptionTable.isEmpty && decide (c.maxStack ≤ mostOperands) && decide (meth.sig.returnType = rt) && !meth.locks && decide (parseMethodDescriptor y.desc = some meth.sig)) = true) : (Jvm.Cond.code y bytes mx rt).before a s = true := by
  simp only [Bool.and_eq_true, beq_iff_eq, Bool.not_eq_true', decide_eq_true_eq] at h5
  obtain ⟨⟨⟨⟨⟨g1, g2⟩, g3⟩, g4⟩, g5⟩, g6⟩ := h5
  simp [Cond.before, Cond.holds, Cond.value, h1, h2, h3, h4, g1, g2, g3, g4, g5, g6]
def isCode : Jvm.Cond → Bool
  | .code _ _ _ _ => true
  | _ => false
theorem all_split {L : List Jvm.Cond} {P : Jvm.Cond → Bool} (h1 : L.all (fun c => isCode c || P c) = true) (h2 : ∀ c ∈ L.filter isCode, P c = true) : L.all P = true := by
  refine List.all_eq_true.mpr fun c hc => ?_
  have h := List.all_eq_true.mp h1 c hc
  rcases Bool.eq_false_or_eq_true (isCode c) with hi | hi
  · exact h2 c (List.mem_filter.mpr ⟨hc, hi⟩)
  · simpa [hi] using h
set_option maxRecDepth 65536 in
theorem w_c0 : (Jvm.Cond.code x code maxLocals ret).before args0 about1 = true := code_word (m := ⟨1, 1⟩) (meth := k1m1) (c := k1c1) (by decide +kernel) rfl rfl rfl (by decide +kernel)
set_option maxRecDepth 65536 in
theorem w_c1 : (Jvm.Cond.code ({ cls := "com/example/plyward/plyward/search/TranspositionTable", name := "<init>", desc := "(I)V" } : Jvm.MethodName) prog_71_method_1_code (2 : Nat) (Option.none : Option Jvm.ClassFile.FieldType)).before args0 about1 = true := code_word (m := ⟨2, 0⟩) (meth := k2m0) (c := k2c0) (by decide +kernel) rfl rfl rfl (by decide +kernel)
set_option maxRecDepth 65536 in
theorem w_c2 : (Jvm.Cond.code ({ cls := "java/lang/Object", name := "<init>", desc := "()V" } : Jvm.MethodName) object_method_1_code (1 : Nat) (Option.none : Option Jvm.ClassFile.FieldType)).before args0 about1 = true := code_word (m := ⟨0, 0⟩) (meth := k0m0) (c := k0c0) (by decide +kernel) rfl rfl rfl (by decide +kernel)
set_option maxRecDepth 65536 in
theorem w_c3 : (Jvm.Cond.code ({ cls := "com/example/plyward/plyward/search/TranspositionTable", name := "settled", desc := "(I)Z" } : Jvm.MethodName) prog_71_method_9_code (2 : Nat) (Option.some Jvm.ClassFile.FieldType.boolean)).before args0 about1 = true := code_word (m := ⟨2, 2⟩) (meth := k2m2) (c := k2c2) (by decide +kernel) rfl rfl rfl (by decide +kernel)
set_option maxRecDepth 65536 in
theorem w_c4 : (Jvm.Cond.code ({ cls := "com/example/plyward/plyward/search/TranspositionTable", name := "store", desc := "(JIDDZ)V" } : Jvm.MethodName) prog_71_method_10_code (14 : Nat) (Option.none : Option Jvm.ClassFile.FieldType)).before args0 about1 = true := code_word (m := ⟨2, 3⟩) (meth := k2m3) (c := k2c3) (by decide +kernel) rfl rfl rfl (by decide +kernel)
set_option maxRecDepth 65536 in
theorem w_c5 : (Jvm.Cond.code ({ cls := "com/example/plyward/plyward/search/TranspositionTable", name := "bucket", desc := "(J)I" } : Jvm.MethodName) prog_71_method_12_code (4 : Nat) (Option.some Jvm.ClassFile.FieldType.int)).before args0 about1 = true := code_word (m := ⟨2, 5⟩) (meth := k2m5) (c := k2c5) (by decide +kernel) rfl rfl rfl (by decide +kernel)
set_option maxRecDepth 65536 in
theorem w_c6 : (Jvm.Cond.code ({ cls := "com/example/plyward/plyward/search/TranspositionTable", name := "find", desc := "(JI)I" } : Jvm.MethodName) prog_71_method_5_code (7 : Nat) (Option.some Jvm.ClassFile.FieldType.int)).before args0 about1 = true := code_word (m := ⟨2, 1⟩) (meth := k2m1) (c := k2c1) (by decide +kernel) rfl rfl rfl (by decide +kernel)
set_option maxRecDepth 65536 in
theorem w_c7 : (Jvm.Cond.code ({ cls := "com/example/plyward/plyward/search/TranspositionTable", name := "holdsAt", desc := "(JI)Z" } : Jvm.MethodName) prog_71_method_11_code (8 : Nat) (Option.some Jvm.ClassFile.FieldType.boolean)).before args0 about1 = true := code_word (m := ⟨2, 4⟩) (meth := k2m4) (c := k2c4) (by decide +kernel) rfl rfl rfl (by decide +kernel)
def codes1 : List Jvm.Cond := [Jvm.Cond.code x code maxLocals ret, Jvm.Cond.code ({ cls := "com/example/plyward/plyward/search/TranspositionTable", name := "<init>", desc := "(I)V" } : Jvm.MethodName) prog_71_method_1_code (2 : Nat) (Option.none : Option Jvm.ClassFile.FieldType), Jvm.Cond.code ({ cls := "java/lang/Object", name := "<init>", desc := "()V" } : Jvm.MethodName) object_method_1_code (1 : Nat) (Option.none : Option Jvm.ClassFile.FieldType), Jvm.Cond.code ({ cls := "com/example/plyward/plyward/search/TranspositionTable", name := "settled", desc := "(I)Z" } : Jvm.MethodName) prog_71_method_9_code (2 : Nat) (Option.some Jvm.ClassFile.FieldType.boolean), Jvm.Cond.code ({ cls := "com/example/plyward/plyward/search/TranspositionTable", name := "store", desc := "(JIDDZ)V" } : Jvm.MethodName) prog_71_method_10_code (14 : Nat) (Option.none : Option Jvm.ClassFile.FieldType), Jvm.Cond.code ({ cls := "com/example/plyward/plyward/search/TranspositionTable", name := "bucket", desc := "(J)I" } : Jvm.MethodName) prog_71_method_12_code (4 : Nat) (Option.some Jvm.ClassFile.FieldType.int), Jvm.Cond.code ({ cls := "com/example/plyward/plyward/search/TranspositionTable", name := "find", desc := "(JI)I" } : Jvm.MethodName) prog_71_method_5_code (7 : Nat) (Option.some Jvm.ClassFile.FieldType.int), Jvm.Cond.code ({ cls := "com/example/plyward/plyward/search/TranspositionTable", name := "holdsAt", desc := "(JI)Z" } : Jvm.MethodName) prog_71_method_11_code (8 : Nat) (Option.some Jvm.ClassFile.FieldType.boolean)]
set_option maxRecDepth 65536 in
theorem codes_eq : words1.filter isCode = codes1 := rfl
theorem w_codes : ∀ c ∈ words1.filter isCode, c.before args0 about1 = true := by
  rw [codes_eq]
  intro c hc
  simp only [codes1, List.mem_cons, List.not_mem_nil, or_false] at hc
  rcases hc with rfl | rfl | rfl | rfl | rfl | rfl | rfl | rfl
  · exact w_c0
  · exact w_c1
  · exact w_c2
  · exact w_c3
  · exact w_c4
  · exact w_c5
  · exact w_c6
  · exact w_c7
set_option maxRecDepth 65536 in
theorem w_t1 : (words1.take 24).all (fun c => isCode c || c.before args0 about1) = true := by decide +kernel
set_option maxRecDepth 65536 in
theorem w_t2 : ((words1.drop 24).take 24).all (fun c => isCode c || c.before args0 about1) = true := by decide +kernel
set_option maxRecDepth 65536 in
theorem w_t3 : ((words1.drop 24).drop 24).all (fun c => isCode c || c.before args0 about1) = true := by decide +kernel
theorem w_tables : (allAtoms (Jvm.Cond.code x code maxLocals ret :: tables_1)).before args0 about1 = true := by
  rw [allAtoms_all]
  show words1.all (fun c => c.before args0 about1) = true
  refine all_split ?_ w_codes
  rw [← List.take_append_drop 24 words1, List.all_append, w_t1, ← List.take_append_drop 24 (words1.drop 24), List.all_append, w_t2, w_t3]
  rfl
set_option maxRecDepth 65536 in
theorem w_case : (Jvm.Cond.and given_1 narrow_1).before args0 about1 = true := by decide +kernel
theorem w_applies : (headSpec (Jvm.Cond.code x code maxLocals ret :: tables_1) room_1).applies x e0.platform about1 = true :=
  (Spec.applies_iff w_frames).mpr ⟨w_running, w_runnable, w_alone, w_named, w_hears, w_ripe, w_room, w_tables⟩
theorem atStart : AtStart classFile x code maxLocals ret World_1 tables_1 room_1 Calls_1 rest_1 Pre_1 launch0 p0 e0 about1 theMethod args0 below0 :=
  ⟨lists_1, trivial, launch0.admits_env _ _ _, launch0.least_env, fairChoices_fair.cas, fairChoices_fair.clock, w_frames, w_args, w_heap, w_applies, trivial, trivial, w_case⟩
end start1
theorem witness_1 : WitnessClaimed_1 := ⟨start1.p0, start1.e0, start1.about1, start1.theMethod, start1.args0, start1.below0, start1.atStart⟩
end Jvm.Pilot.@@N@@
