import JvmDerived
import JvmDerived.Pilot.@@N@@Statement
import JvmDerived.Pilot.@@N@@Code
set_option linter.unusedVariables false
set_option linter.unusedSimpArgs false
namespace Jvm.Pilot.@@N@@
open Jvm Jvm.ClassFile Sem Op Lib Jvm.Free Jvm.Stand Jvm.LawKit Jvm.RoadKit Bundle Jvm.Pilot.@@N@@.Jvm.D
def own_Go (p : Program) (e : Env) (below : List Frame) (P : Outcome → State → Prop) (st : State) : Prop :=
  ∃ s₂ o, Steps p.tables e below st s₂ ∧ s₂.status = .running ∧ Ended s₂ below o ∧ P o s₂
def own_Fin (s : State) (C S : Nat) (Q : Option Value → Heap → List Loc → Prop) (o : Outcome) (U : State) : Prop := ∃ v L, o = .returned v ∧ Q v U.heap L ∧ FrameEnd s o U L C S
def own_upd {α : Type} (f : Nat → α) (j : Nat) (v : α) : Nat → α := fun i => if i = j then v else f i
def own_Arf (Z : State) (h : Heap) (a : Addr) (k : ClassId) (ty : FieldType) (n : Int32) (f : Nat → Value) : Prop := ∃ c : Cell, Arr Z h a c ty ∧ c.cls = k ∧ c.slots.size = n.toNatClampNeg ∧ ¬ n < 0 ∧ (∀ i, i < c.slots.size → c.slots[i]? = some (f i)) ∧ ∀ i, i < c.slots.size → fits ty (f i) = true
section OwnKit
variable {p : Program} {l : Launch} {e : Env} {R : Room} {s : State} {m : MethodId} {args : Array Value} {below : List Frame} {meth : Method} {c : Code} {T : State} {locs : List Loc} {cells slots C S : Nat} {P : Outcome → State → Prop} {Q : Option Value → Heap → List Loc → Prop} {Z : State} {h h' : Heap} {a b : Addr} {k : ClassId} {ty : FieldType} {n : Int32} {ws : List Addr}
theorem own_by {st st' : State} (f : ∀ t, Steps p.tables e below st' t → Steps p.tables e below st t) (g : own_Go p e below P st') : own_Go p e below P st := by
  obtain ⟨s₂, o, h1, h2⟩ := g
  exact ⟨s₂, o, f _ h1, h2⟩
theorem own_mono (X : Stand p l e R s m args below meth c T locs cells slots) {c' s' : Nat} (hc : cells ≤ c') (hs : slots ≤ s') : Stand p l e R s m args below meth c T locs c' s' := { X with same := X.same.mono hc hs }
theorem own_end (X : Stand p l e R s m args below meth c T locs cells slots) {v : Option Value} (hv : meth.sig.returnType = none → v = none) (hlk : meth.locks = false) (eT : T.heap = h) (hQ : Q v h locs) (hc : cells ≤ C) (hs : slots ≤ S)
    {g : JFrame} (st : ∀ fs, (∀ (f : JFrame) (acts : List Action), f.method = m → f.locked = none → f.entered = [] → (doReturn e (T.setTop f) acts v).1 = T.setFrames fs) → Steps p.tables e below (T.setTop g) (T.setFrames fs)) : own_Go p e below (own_Fin s C S Q) (T.setTop g) := by
  obtain ⟨fs, hr, hrun, hended, hW, hsame⟩ := X.leave (v := v) hv hlk
  refine ⟨_, _, st fs hr, hrun, hended, v, locs, rfl, ?_, ⟨_, rfl⟩, hW, hsame.mono hc hs⟩
  show Q v T.heap locs
  rw [eT]; exact hQ
theorem own_retN (X : Stand p l e R s m args below meth c T locs cells slots) (hx : p.tables.exec = Jvm.exec) {pc : Nat} {Ls : Array Slot} {z : Int32} {t : FieldType} {rest : List Value} (hret : meth.sig.returnType = some t) (ht : t = .boolean ∨ t = .byte ∨ t = .char ∨ t = .short) (hd : decode c.code pc = .ok (.ireturn, 1)) (hlk : meth.locks = false) (eT : T.heap = h) (hQ : Q (some (.int (nar t z))) h locs) (hc : cells ≤ C) (hs : slots ≤ S) : own_Go p e below (own_Fin s C S Q) (T.setTop (mkF m pc Ls (.int z :: rest))) :=
  own_end X (fun h => by rw [hret] at h; cases h) hlk eT hQ hc hs fun fs hr => retN X hx hret ht hd hr
theorem own_retI (X : Stand p l e R s m args below meth c T locs cells slots) (hx : p.tables.exec = Jvm.exec) {pc : Nat} {Ls : Array Slot} {z : Int32} {rest : List Value} (hret : meth.sig.returnType = some .int) (hd : decode c.code pc = .ok (.ireturn, 1)) (hlk : meth.locks = false) (eT : T.heap = h) (hQ : Q (some (.int z)) h locs) (hc : cells ≤ C) (hs : slots ≤ S) : own_Go p e below (own_Fin s C S Q) (T.setTop (mkF m pc Ls (.int z :: rest))) :=
  own_end X (fun h => by rw [hret] at h; cases h) hlk eT hQ hc hs fun fs hr => retOut X hx hret rfl (Or.inl ⟨rfl, Or.inl rfl, _, rfl⟩) hd hr
theorem own_retJ (X : Stand p l e R s m args below meth c T locs cells slots) (hx : p.tables.exec = Jvm.exec) {pc : Nat} {Ls : Array Slot} {z : Int64} {rest : List Value} (hret : meth.sig.returnType = some .long) (hd : decode c.code pc = .ok (.lreturn, 1)) (hlk : meth.locks = false) (eT : T.heap = h) (hQ : Q (some (.long z)) h locs) (hc : cells ≤ C) (hs : slots ≤ S) : own_Go p e below (own_Fin s C S Q) (T.setTop (mkF m pc Ls (.long z :: rest))) :=
  own_end X (fun h => by rw [hret] at h; cases h) hlk eT hQ hc hs fun fs hr => retOut X hx hret rfl (Or.inr (Or.inl ⟨rfl, rfl, _, rfl⟩)) hd hr
theorem own_retD (X : Stand p l e R s m args below meth c T locs cells slots) (hx : p.tables.exec = Jvm.exec) {pc : Nat} {Ls : Array Slot} {z : UInt64} {rest : List Value} (hret : meth.sig.returnType = some .double) (hd : decode c.code pc = .ok (.dreturn, 1)) (hlk : meth.locks = false) (eT : T.heap = h) (hQ : Q (some (.double z)) h locs) (hc : cells ≤ C) (hs : slots ≤ S) : own_Go p e below (own_Fin s C S Q) (T.setTop (mkF m pc Ls (.double z :: rest))) :=
  own_end X (fun h => by rw [hret] at h; cases h) hlk eT hQ hc hs fun fs hr => retOut X hx hret rfl (Or.inr (Or.inr (Or.inl ⟨rfl, rfl, _, rfl⟩))) hd hr
theorem own_retR (X : Stand p l e R s m args below meth c T locs cells slots) (hx : p.tables.exec = Jvm.exec) {pc : Nat} {Ls : Array Slot} {w : Value} {t : FieldType} {rest : List Value} (hret : meth.sig.returnType = some t) (ht : t.isReference = true) (hw : w.isRef = true) (hd : decode c.code pc = .ok (.areturn, 1)) (hlk : meth.locks = false) (eT : T.heap = h) (hQ : Q (some w) h locs) (hc : cells ≤ C) (hs : slots ≤ S) : own_Go p e below (own_Fin s C S Q) (T.setTop (mkF m pc Ls (w :: rest))) :=
  own_end X (fun h => by rw [hret] at h; cases h) hlk eT hQ hc hs fun fs hr => retOut X hx hret (by cases t <;> first | rfl | (cases w <;> first | rfl | cases hw) | (cases ht)) (Or.inr (Or.inr (Or.inr (Or.inr ⟨rfl, ht, hw⟩)))) hd hr
theorem own_ret0 (X : Stand p l e R s m args below meth c T locs cells slots) (hx : p.tables.exec = Jvm.exec) {pc : Nat} {Ls : Array Slot} (hret : meth.sig.returnType = none) (hd : decode c.code pc = .ok (.return_, 1)) (hlk : meth.locks = false) (eT : T.heap = h) (hQ : Q none h locs) (hc : cells ≤ C) (hs : slots ≤ S) : own_Go p e below (own_Fin s C S Q) (T.setTop (mkF m pc Ls [])) :=
  own_end X (fun _ => rfl) hlk eT hQ hc hs fun fs hr => X.returnOut hx hret hd hr
theorem own_one {z : Int32} (q : z = 1) : (some (.int (nar .boolean z)) : Option Value) = some (.int 1) := by subst q; rfl
theorem own_lrem {g : JFrame} {target : State} (hh : At T m c below) (hx : p.tables.exec = Jvm.exec) (hg : g.method = m) {x y : Int64} {rest : List Value} (hd : decode c.code g.pc = .ok (.lrem, 1)) (hs : g.stack = .long y :: .long x :: rest) (hy : y ≠ 0)
    (hr : Steps p.tables e below (T.setTop { g with pc := g.pc + 1, stack := .long (x % y) :: rest }) target) : Steps p.tables e below (T.setTop g) target :=
  XS.lrem hh hx hg hd hs hy (by rw [lrem_mod]; exact hr)
theorem own_Arf.lt {f : Nat → Value} (F : own_Arf Z h a k ty n f) : a < h.size := by obtain ⟨c, A, -⟩ := F; exact A.lt
theorem own_Arf.ext {f : Nat → Value} (F : own_Arf Z h a k ty n f) (E : Ext h h') : own_Arf Z h' a k ty n f := by obtain ⟨c, A, r⟩ := F; exact ⟨c, A.ext E, r⟩
theorem own_Arf.other {f : Nat → Value} {sl : Nat} {v : Value} (F : own_Arf Z h b k ty n f) (W : Wr h h' a sl v) (q : b ≠ a) : own_Arf Z h' b k ty n f := by obtain ⟨c, A, r⟩ := F; exact ⟨c, A.other W q, r⟩
theorem own_Arf.keep {f : Nat → Value} (F : own_Arf Z h a k ty n f) (K : Keep h h' ws) (q : a ∉ ws) : own_Arf Z h' a k ty n f := by obtain ⟨c, A, r⟩ := F; exact ⟨c, ⟨K.2.1 a c A.1 q, A.2⟩, r⟩
theorem own_arfNew (A : Arr Z h a (newA k ty n) ty) (q : ¬ n < 0) : own_Arf Z h a k ty n (fun _ => defaultValue ty) := ⟨_, A, rfl, sz_new _ _ _, q, fun i hi => by
  rw [sz_new] at hi; simp [newA, hi], fun i _ => by cases ty <;> rfl⟩
theorem own_arfSet {cl : Cell} {f : Nat → Value} {j : Nat} {v : Value} (A : Arr Z h a cl ty) (q1 : cl.cls = k) (S : cl.slots.size = n.toNatClampNeg) (q3 : ¬ n < 0) (H : ∀ i, i < cl.slots.size → cl.slots[i]? = some (f i)) (G : ∀ i, i < cl.slots.size → fits ty (f i) = true) (hv : fits ty v = true) (W : Wr h h' a j v) : own_Arf Z h' a k ty n (own_upd f j v) := by
  refine ⟨_, A.same W, q1, by rw [sz_set]; exact S, q3, fun i hi => ?_, fun i hi => ?_⟩
  · rw [sz_set] at hi
    by_cases u : j = i
    · subst u; simp [Cell.setSlot, hi, own_upd]
    · have := H i hi; simp only [Cell.setSlot] at this ⊢
      rw [Array.getElem?_setIfInBounds_ne u, this]; simp [own_upd, Ne.symm u]
  · rw [sz_set] at hi
    by_cases u : j = i
    · subst u; simpa [own_upd] using hv
    · have := G i hi; simpa [own_upd, Ne.symm u] using this
theorem own_arfSetI {cl : Cell} {f : Nat → Int32} {j : Nat} {v : Int32} (A : Arr Z h a cl ty) (q1 : cl.cls = k) (S : cl.slots.size = n.toNatClampNeg) (q3 : ¬ n < 0) (H : ∀ i, i < cl.slots.size → cl.slots[i]? = some (.int (f i))) (G : ∀ i, i < cl.slots.size → fits ty (.int (f i)) = true) (hv : fits ty (.int v) = true) (W : Wr h h' a j (.int v)) : own_Arf Z h' a k ty n (fun i => .int (own_upd f j v i)) := by
  have q := own_arfSet (f := fun i => .int (f i)) A q1 S q3 H G hv W
  have e : (own_upd (fun i => Value.int (f i)) j (.int v)) = (fun i => .int (own_upd f j v i)) := by funext i; simp only [own_upd]; split <;> rfl
  rw [← e]; exact q
theorem own_arfSetJ {cl : Cell} {f : Nat → Int64} {j : Nat} {v : Int64} (A : Arr Z h a cl ty) (q1 : cl.cls = k) (S : cl.slots.size = n.toNatClampNeg) (q3 : ¬ n < 0) (H : ∀ i, i < cl.slots.size → cl.slots[i]? = some (.long (f i))) (G : ∀ i, i < cl.slots.size → fits ty (.long (f i)) = true) (hv : fits ty (.long v) = true) (W : Wr h h' a j (.long v)) : own_Arf Z h' a k ty n (fun i => .long (own_upd f j v i)) := by
  have q := own_arfSet (f := fun i => .long (f i)) A q1 S q3 H G hv W
  have e : (own_upd (fun i => Value.long (f i)) j (.long v)) = (fun i => .long (own_upd f j v i)) := by funext i; simp only [own_upd]; split <;> rfl
  rw [← e]; exact q
theorem own_arfSetD {cl : Cell} {f : Nat → UInt64} {j : Nat} {v : UInt64} (A : Arr Z h a cl ty) (q1 : cl.cls = k) (S : cl.slots.size = n.toNatClampNeg) (q3 : ¬ n < 0) (H : ∀ i, i < cl.slots.size → cl.slots[i]? = some (.double (f i))) (G : ∀ i, i < cl.slots.size → fits ty (.double (f i)) = true) (hv : fits ty (.double v) = true) (W : Wr h h' a j (.double v)) : own_Arf Z h' a k ty n (fun i => .double (own_upd f j v i)) := by
  have q := own_arfSet (f := fun i => .double (f i)) A q1 S q3 H G hv W
  have e : (own_upd (fun i => Value.double (f i)) j (.double v)) = (fun i => .double (own_upd f j v i)) := by funext i; simp only [own_upd]; split <;> rfl
  rw [← e]; exact q
theorem own_neArr {A0 : Array Value} {C : String} {kk : Nat} {f : Nat → Value} (F : Exa Z h a C) (wi : (Cond.instantiable C kk).before A0 Z = true) (G : own_Arf Z h b k ty n f) : a ≠ b := by
  obtain ⟨c, A, -⟩ := G
  exact ne_arr F wi A
theorem own_selPriv {Z s : State} {A0 args : Array Value} {y : MethodName} {n : Nat} (hZ : Z.Warmed39 s.vm) (wi : (Cond.instantiable y.cls n).before A0 Z = true) (wp : (Cond.privateMethod y).before A0 Z = true) (wm : (Cond.instanceMethod y).before A0 Z = true) (hy : y.cls ≠ "java/lang/invoke/MethodHandle" ∧ y.cls ≠ "java/lang/invoke/VarHandle") : (Cond.selects y.cls y y).before args s = true := by
  have wi' : (Cond.instantiable y.cls n).before args s = true := mvT hZ wi
  obtain ⟨c, k, h1, h2, h3, h4, -⟩ := Cond.instantiable_spec wi'
  refine selects_self_of_private h1 h2 ?_ (Cond.privateMethod_at (mvP hZ wp (args := args))) (mvT hZ wm) hy
  cases hi : k.isInterface <;> simp_all
end OwnKit

theorem own_landNN (x : Int64) : ¬ ((x &&& (9223372036854775807 : Int64)) < (0 : Int64)) := by
  have h := (c_andSL x 9223372036854775807).2.2 (by decide)
  rw [Int64.lt_iff_toInt_lt]
  have e : (0 : Int64).toInt = 0 := rfl
  omega
theorem own_rem (x : Int32) (d : Int) (y : Int32) (hy : y.toInt = d) (h0 : 0 < d) : 0 ≤ ((x &&& 2147483647) % y).toInt ∧ ((x &&& 2147483647) % y).toInt < d := by
  have h1 := c_and x 2147483647 (by decide)
  have h2 := (c_irem (x &&& 2147483647) y d hy).1 h1.1
  rw [h2]; exact ⟨Int.emod_nonneg _ (by omega), Int.emod_lt_of_pos _ h0⟩
theorem own_fldEq {args : Array Value} {s : State} {t : Term} {a : Addr} {C n d : String} {k : Int32} (h : (Jvm.Cond.eq (Term.field t C n d) (Term.int k)).value args s none s [] = some true) (ev : t.eval args s none [] s = some (.ref a)) : Fld s s.heap a C n d (.int k) := by
  refine Fld.start ?_
  have e1 := fld_at (C := C) (n := n) (dd := d) ev
  have e2 : (Term.int k).eval args s none [] s = some (.int k) := rfl
  simp only [Cond.value, e1, e2] at h
  cases hf : s.fieldOf? a C n d with
  | none => rw [hf] at h; simp at h
  | some v =>
    rw [hf] at h
    cases v <;> simp_all
theorem own_s16 (x : Int32) (h1 : -32768 ≤ x.toInt) (h2 : x.toInt < 32768) : x.toInt16.toInt32 = x := by
  have h := c_i2s x
  apply Int32.toInt_inj.mp
  omega
def own_cp {α : Type} (f : Nat → α) (sp : Nat) (g : Nat → α) (dp n : Nat) : Nat → α := fun i => if dp ≤ i ∧ i < dp + n then f (sp + (i - dp)) else g i
section OwnNat
variable {p : Program} {l : Launch} {e : Env} {R : Room} {s : State} {m : MethodId} {args : Array Value} {below : List Frame} {meth : Method} {c : Code} {T : State} {locs : List Loc} {cells slots : Nat} {Z : State} {h h' : Heap} {a b : Addr} {A0 : Array Value}
theorem own_d2bits (X : Stand p l e R s m args below meth c T locs cells slots) (hx : p.tables.exec = Jvm.exec) (hZ : Z.Warmed39 s.vm) {own : String} {index : Nat} (hown : s.vm.findClass own = some m.cls)
    (w1 : (Cond.methodLink own index NT.doubleBitsN).before A0 Z = true) (w2 : (Cond.native NT.doubleBitsN).before A0 Z = true) (w3 : (Cond.static NT.doubleBitsN).before A0 Z = true) (w4 : (Cond.initialized "java/lang/Double").before A0 Z = true) (eT : T.heap = h)
    {g : JFrame} (hg : g.method = m) (hsize : g.locals.size = c.maxLocals) {x : UInt64} {rest : List Value} (hs : g.stack = .double x :: rest) (hd : decode c.code g.pc = .ok (.invokestatic index, 3))
    (hf : 1 ≤ R.frames) {W : Nat} (hW : 2 * g.monitorRoom + (rest.map fun v => v.category).sum ≤ W) (hlo : W + 15 ≤ R.locals) :
    ∃ T', Stand p l e R s m args below meth c T' locs cells slots ∧ T'.heap = h ∧ ∀ target, Steps p.tables e below (T'.setTop { g with pc := g.pc + 3, stack := .long x.toInt64 :: rest }) target → Steps p.tables e below (T.setTop g) target := by
  have c2 : (Cond.native NT.doubleBitsN).before args s = true := mvT hZ w2
  obtain ⟨mk, mm, hn, hm, -, -, -, hsig⟩ := Cond.native_spec c2
  obtain ⟨v, vm1, B, hW1, X', ⟨hB, hv⟩, st⟩ := Stand.staticBack (args := args) X hx hown (mvT hZ w1) (mvT hZ w3) (mvT hZ w4) hn hm hsig (by decide) (NT.DoubleBits.pays (len := 3) (W := W) c2 (mvT hZ w3) hf hlo) hg hsize (Steps.refl _) (argsL := [.double x]) (rest := rest) (lenOf NT.descDJ rfl) hs hW hd (fun _ _ => ⟨x, rfl⟩)
  obtain rfl := hv x rfl
  subst hB
  exact ⟨_, X', eT, fun target k => st.trans k⟩
theorem own_bits2d (X : Stand p l e R s m args below meth c T locs cells slots) (hx : p.tables.exec = Jvm.exec) (hZ : Z.Warmed39 s.vm) {own : String} {index : Nat} (hown : s.vm.findClass own = some m.cls)
    (w1 : (Cond.methodLink own index NT.longBitsN).before A0 Z = true) (w2 : (Cond.native NT.longBitsN).before A0 Z = true) (w3 : (Cond.static NT.longBitsN).before A0 Z = true) (w4 : (Cond.initialized "java/lang/Double").before A0 Z = true) (eT : T.heap = h)
    {g : JFrame} (hg : g.method = m) (hsize : g.locals.size = c.maxLocals) {x : Int64} {rest : List Value} (hq : (decide (x.toUInt64 &&& 9223372036854775807 > 9218868437227405312) && x.toUInt64 &&& 2251799813685248 == 0) = false) (hs : g.stack = .long x :: rest) (hd : decode c.code g.pc = .ok (.invokestatic index, 3))
    (hf : 1 ≤ R.frames) {W : Nat} (hW : 2 * g.monitorRoom + (rest.map fun v => v.category).sum ≤ W) (hlo : W + 15 ≤ R.locals) :
    ∃ T', Stand p l e R s m args below meth c T' locs cells slots ∧ T'.heap = h ∧ ∀ target, Steps p.tables e below (T'.setTop { g with pc := g.pc + 3, stack := .double x.toUInt64 :: rest }) target → Steps p.tables e below (T.setTop g) target := by
  have c2 : (Cond.native NT.longBitsN).before args s = true := mvT hZ w2
  obtain ⟨mk, mm, hn, hm, -, -, -, hsig⟩ := Cond.native_spec c2
  obtain ⟨v, vm1, B, hW1, X', ⟨hB, hv⟩, st⟩ := Stand.staticBack (args := args) X hx hown (mvT hZ w1) (mvT hZ w3) (mvT hZ w4) hn hm hsig (by decide) (NT.LongBits.pays (len := 3) (W := W) c2 (mvT hZ w3) hf hlo) hg hsize (Steps.refl _) (argsL := [.long x]) (rest := rest) (lenOf NT.descJD rfl) hs hW hd (fun _ _ => ⟨x, rfl, hq⟩)
  obtain rfl := hv x ⟨rfl, hq⟩
  subst hB
  exact ⟨_, X', eT, fun target k => st.trans k⟩
theorem own_arfArv {k : ClassId} {ty : FieldType} {n : Int32} {f : Nat → Value} (F : own_Arf Z h a k ty n f) (dv : Value) : Arv Z h a k ty n ((List.range n.toNatClampNeg).map f) dv := by
  obtain ⟨cl, A, q, S, M, H, G⟩ := F
  have key : ∀ i, i < cl.slots.size → ((List.range n.toNatClampNeg).map f).getD i dv = f i := fun i hi => by
    rw [S] at hi
    simp [List.getD_eq_getElem?_getD, hi]
  exact ⟨cl, A, q, S, M, fun i hi => by rw [key i hi]; exact H i hi, fun i hi => by rw [key i hi]; exact G i hi⟩
theorem own_arvArf {k : ClassId} {ty : FieldType} {n : Int32} {vs : List Value} {dv : Value} {f : Nat → Value} (F : Arv Z h a k ty n vs dv) (hf : ∀ i, i < n.toNatClampNeg → vs.getD i dv = f i) : own_Arf Z h a k ty n f := by
  obtain ⟨cl, A, q, S, M, H, G⟩ := F
  exact ⟨cl, A, q, S, M, fun i hi => by rw [← hf i (S ▸ hi)]; exact H i hi, fun i hi => by rw [← hf i (S ▸ hi)]; exact G i hi⟩
theorem own_cpA (X : Stand p l e R s m args below meth c T locs cells slots) (hx : p.tables.exec = Jvm.exec) (hZ : Z.Warmed39 s.vm) {own : String} {index : Nat} (hown : s.vm.findClass own = some m.cls)
    (w1 : (Cond.methodLink own index Jvm.Stand.acN).before A0 Z = true) (w2 : (Cond.native Jvm.Stand.acN).before A0 Z = true) (w3 : (Cond.static Jvm.Stand.acN).before A0 Z = true) (w4 : (Cond.initialized "java/lang/System").before A0 Z = true) (eT : T.heap = h)
    {k k' : ClassId} {ty : FieldType} {z z' sp dp nn : Int32} {f f' : Nat → Value} (A : own_Arf Z h a k ty z f) (B : own_Arf Z h b k' ty z' f') (hty : refKind ty = false)
    (h1 : ¬ sp < 0) (h2 : ¬ dp < 0) (h3 : ¬ nn < 0) (h4 : sp.toNatClampNeg + nn.toNatClampNeg ≤ z.toNatClampNeg) (h5 : dp.toNatClampNeg + nn.toNatClampNeg ≤ z'.toNatClampNeg) {n0 : Nat} (N : Fr n0 locs) (ge : n0 ≤ b)
    {g : JFrame} (hg : g.method = m) (hsize : g.locals.size = c.maxLocals) {rest : List Value} (hs : g.stack = .int nn :: .int dp :: .ref b :: .int sp :: .ref a :: rest) (hd : decode c.code g.pc = .ok (.invokestatic index, 3))
    (hf : 1 ≤ R.frames) {W : Nat} (hW : 2 * g.monitorRoom + (rest.map fun v => v.category).sum ≤ W) (hlo : W + (nativeFrameWords "java/lang/System" "arraycopy" 5 + 11) ≤ R.locals) :
    ∃ T' h' L, Stand p l e R s m args below meth c T' L cells slots ∧ T'.heap = h' ∧ Fr n0 L ∧ Keep h h' [b] ∧ own_Arf Z h' b k' ty z' (own_cp f sp.toNatClampNeg f' dp.toNatClampNeg nn.toNatClampNeg) ∧
      ∀ target, Steps p.tables e below (T'.setTop { g with pc := g.pc + 3, stack := rest }) target → Steps p.tables e below (T.setTop g) target := by
  obtain ⟨T', h', L, X', e', N', K, V, st⟩ := cpA X hx hZ hown w1 w2 w3 w4 eT (own_arfArv A .null) (own_arfArv B .null) (Or.inl ⟨rfl, hty⟩) h1 h2 h3 h4 h5 rfl (by simp; exact h5) N ge hg hsize hs hd hf hW hlo
  refine ⟨T', h', L, X', e', N', K, own_arvArf V fun i hi => ?_, st⟩
  simp only [own_cp, List.getD_eq_getElem?_getD]
  by_cases c1 : i < dp.toNatClampNeg
  · rw [List.append_assoc, List.getElem?_append_left (by simp; omega)]
    simp [c1, hi, show ¬ dp.toNatClampNeg ≤ i by omega]
  · by_cases c2 : i < dp.toNatClampNeg + nn.toNatClampNeg
    · rw [List.append_assoc, List.getElem?_append_right (by simp; omega), List.getElem?_append_left (by simp; omega)]
      have hm : min dp.toNatClampNeg z'.toNatClampNeg = dp.toNatClampNeg := by omega
      simp only [List.length_take, List.length_map, List.length_range, hm]
      have e1 : i - dp.toNatClampNeg < nn.toNatClampNeg := by omega
      have e2 : sp.toNatClampNeg + (i - dp.toNatClampNeg) < z.toNatClampNeg := by omega
      simp [e1, e2, c2, show dp.toNatClampNeg ≤ i by omega]
    · rw [List.getElem?_append_right (by simp; omega)]
      have hm : min dp.toNatClampNeg z'.toNatClampNeg = dp.toNatClampNeg := by omega
      simp only [List.length_append, List.length_take, List.length_map, List.length_range, hm]
      rw [List.getElem?_drop]
      have e1 : dp.toNatClampNeg + nn.toNatClampNeg + (i - (dp.toNatClampNeg + nn.toNatClampNeg)) = i := by omega
      rw [e1]
      simp [hi, c2]
theorem own_cpJ (f : Nat → Int64) (sp : Nat) (g : Nat → Int64) (dp n : Nat) : own_cp (fun i => Value.long (f i)) sp (fun i => .long (g i)) dp n = (fun i => .long (own_cp f sp g dp n i)) := by funext i; simp only [own_cp]; split <;> rfl
theorem own_cpI (f : Nat → Int32) (sp : Nat) (g : Nat → Int32) (dp n : Nat) : own_cp (fun i => Value.int (f i)) sp (fun i => .int (g i)) dp n = (fun i => .int (own_cp f sp g dp n i)) := by funext i; simp only [own_cp]; split <;> rfl
end OwnNat
def own_holds (w : Int64) (d : Int32) (gen ss : Int64) : Prop := ((w &&& (2147483647 : Int64)) = gen ∧ (((w.toUInt64 >>> ((32 : Int32) &&& 0x3f).toInt64.toUInt64).toInt64).toInt32) = d) ∨ (¬ (w &&& (2147483648 : Int64)) = (0 : Int64) ∧ ¬ (w &&& (2147483647 : Int64)) < ss ∧ ¬ d < (((w.toUInt64 >>> ((32 : Int32) &&& 0x3f).toInt64.toUInt64).toInt64).toInt32))
def own_find (f : Nat → Int64) (q : Int64) (d : Int32) (gen ss : Int64) (z : Int32) : Prop := (z = (0 : Int32) ∧ f 0 = q ∧ own_holds (f 3) d gen ss) ∨ (z = (4 : Int32) ∧ ¬ (f 0 = q ∧ own_holds (f 3) d gen ss) ∧ f 4 = q ∧ own_holds (f 7) d gen ss) ∨ (z = (-1 : Int32) ∧ ¬ (f 0 = q ∧ own_holds (f 3) d gen ss) ∧ ¬ (f 4 = q ∧ own_holds (f 7) d gen ss))
def own_early (w : Int64) (gen ss : Int64) : Prop := ¬ (w &&& (2147483647 : Int64)) < ss ∧ (w &&& (2147483647 : Int64)) < gen
def own_earlier (f : Nat → Int64) (q : Int64) (gen ss : Int64) (z : Int32) : Prop := (z = (0 : Int32) ∧ f 0 = q ∧ own_early (f 3) gen ss) ∨ (z = (4 : Int32) ∧ ¬ (f 0 = q ∧ own_early (f 3) gen ss) ∧ f 4 = q ∧ own_early (f 7) gen ss) ∨ (z = (-1 : Int32) ∧ ¬ (f 0 = q ∧ own_early (f 3) gen ss) ∧ ¬ (f 4 = q ∧ own_early (f 7) gen ss))
theorem own_bucket (x : Int64) : ((((x.toUInt64 >>> ((63 : Int32) &&& 0x3f).toInt64.toUInt64).toInt64).toInt32 &&& (-2 : Int32)) * (4 : Int32)) = (0 : Int32) := by
  have h : (x.toUInt64 >>> ((63 : Int32) &&& 0x3f).toInt64.toUInt64) = 0 ∨ (x.toUInt64 >>> ((63 : Int32) &&& 0x3f).toInt64.toUInt64) = 1 := by
    have e : ((63 : Int32) &&& 0x3f).toInt64.toUInt64 = 63 := by decide
    rw [e]
    have h1 : (x.toUInt64 >>> 63).toNat < 2 := by
      rw [UInt64.toNat_shiftRight, Nat.shiftRight_eq_div_pow]
      have := x.toUInt64.toNat_lt
      have e : (63 : UInt64).toNat % 64 = 63 := rfl
      rw [e]; omega
    generalize x.toUInt64 >>> 63 = u at *
    rcases (show u.toNat = 0 ∨ u.toNat = 1 by omega) with q | q
    · exact Or.inl (UInt64.toNat_inj.mp q)
    · exact Or.inr (UInt64.toNat_inj.mp q)
  rcases h with h | h <;> rw [h] <;> decide
theorem own_bit31 (w : Int64) (a : Int) (h0 : 0 ≤ w.toInt) (h : w.toInt / 2147483648 % 2 = a) (ha : a = 0 ∨ a = 1) : (w &&& (2147483648 : Int64) = (0 : Int64)) ↔ a = 0 := by
  have e1 : (2147483648 : Int64).toBitVec = BitVec.twoPow 64 31 := by decide
  have e2 : (w &&& (2147483648 : Int64)).toBitVec = if w.toBitVec.getLsbD 31 then BitVec.twoPow 64 31 else 0#64 := by
    rw [Int64.toBitVec_and, e1, BitVec.and_twoPow]
  have e3 : w.toBitVec.getLsbD 31 = decide (w.toBitVec.toNat / 2147483648 % 2 = 1) := by
    rw [BitVec.getLsbD, Nat.testBit_eq_decide_div_mod_eq]
  have e4 : (w.toBitVec.toNat : Int) = w.toInt := by
    have hh : w.toInt = w.toBitVec.toInt := rfl
    have b1 := BitVec.toInt_eq_toNat_cond w.toBitVec
    have l1 := w.toBitVec.isLt
    rw [hh] at h0 ⊢
    rw [b1] at h0 ⊢
    split at h0 <;> split <;> omega
  have e5 : w.toBitVec.toNat / 2147483648 % 2 = 1 ↔ a = 1 := by omega
  constructor
  · intro q
    rw [q, e3] at e2
    by_cases c : w.toBitVec.toNat / 2147483648 % 2 = 1
    · rw [decide_eq_true c] at e2; exact absurd e2 (by decide)
    · omega
  · intro q
    have c : ¬ w.toBitVec.toNat / 2147483648 % 2 = 1 := by omega
    rw [e3, decide_eq_false c] at e2
    exact Int64.toBitVec_inj.mp e2
theorem own_word (d : Int32) (s gen : Int64) (hd : ¬ d < (0 : Int32)) (hs : s = (0 : Int64) ∨ s = (2147483648 : Int64)) (hg : gen = (1 : Int64) ∨ gen = (2 : Int64) ∨ gen = (3 : Int64)) (w : Int64) (hw : (((d.toInt64 <<< ((32 : Int32) &&& 0x3f).toInt64) ||| s) ||| gen) = w) :
    (w &&& (2147483647 : Int64)) = gen ∧ (((w.toUInt64 >>> ((32 : Int32) &&& 0x3f).toInt64.toUInt64).toInt64).toInt32) = d ∧ ((w &&& (2147483648 : Int64) = (0 : Int64)) ↔ s = (0 : Int64)) := by
  rw [Int32.lt_iff_toInt_lt] at hd
  have z0 : (0 : Int32).toInt = 0 := rfl
  have rd := rng32 d
  have h1 := c_lshl d.toInt64 32 32 (by decide)
  rw [c_i2l] at h1
  have r1 := rng64 (d.toInt64 <<< ((32 : Int32) &&& 0x3f).toInt64)
  have h2 : (d.toInt64 <<< ((32 : Int32) &&& 0x3f).toInt64).toInt = d.toInt * 4294967296 := by omega
  have hs' : s.toInt = 0 ∨ s.toInt = 2147483648 := by rcases hs with rfl | rfl <;> decide
  have hg' : gen.toInt = 1 ∨ gen.toInt = 2 ∨ gen.toInt = 3 := by rcases hg with rfl | rfl | rfl <;> decide
  have h3 := c_orL (d.toInt64 <<< ((32 : Int32) &&& 0x3f).toInt64) s 32 (by decide) 4294967296 (by decide) (by omega) (by omega) (by omega)
  have r3 := rng64 ((d.toInt64 <<< ((32 : Int32) &&& 0x3f).toInt64) ||| s)
  have h4 : ((d.toInt64 <<< ((32 : Int32) &&& 0x3f).toInt64) ||| s).toInt = d.toInt * 4294967296 + s.toInt := by omega
  have h5 := c_orL ((d.toInt64 <<< ((32 : Int32) &&& 0x3f).toInt64) ||| s) gen 31 (by decide) 2147483648 (by decide) (by omega) (by omega) (by omega)
  rw [hw] at h5
  have r5 := rng64 w
  have h6 : w.toInt = d.toInt * 4294967296 + s.toInt + gen.toInt := by omega
  clear h1 r1 h2 h3 r3 h4 h5 hw
  refine ⟨?_, ?_, ?_⟩
  · apply Int64.toInt_inj.mp
    rw [c_maskL w 2147483647 31 (by decide) (by decide)]
    omega
  · apply Int32.toInt_inj.mp
    have h7 := c_lushr w 32 32 (by decide) (by decide)
    have h8 := c_l2i ((w.toUInt64 >>> ((32 : Int32) &&& 0x3f).toInt64.toUInt64).toInt64)
    have r8 := rng32 ((w.toUInt64 >>> ((32 : Int32) &&& 0x3f).toInt64.toUInt64).toInt64).toInt32
    omega
  · rcases hs with rfl | rfl
    · have : (0 : Int64).toInt = 0 := rfl
      simp only [iff_true]
      exact (own_bit31 w 0 (by omega) (by omega) (Or.inl rfl)).mpr rfl
    · have : (2147483648 : Int64).toInt = 2147483648 := by decide
      have q := (own_bit31 w 1 (by omega) (by omega) (Or.inr rfl))
      constructor
      · intro z; have := q.mp z; omega
      · intro z; exact absurd z (by decide)
theorem own_mask31 (x : Int32) : ¬ (x &&& (2147483647 : Int32)) < (0 : Int32) := by
  have h := c_and x 2147483647 (by decide)
  rw [Int32.lt_iff_toInt_lt]
  have e : (0 : Int32).toInt = 0 := rfl
  omega
theorem own_holds0 (d : Int32) (g s : Int64) (hg : ¬ g = (0 : Int64)) : ¬ own_holds (0 : Int64) d g s := by
  rintro (⟨h, -⟩ | ⟨h, -⟩)
  · exact hg (h.symm.trans (by decide))
  · exact h (by decide)
theorem own_holdsW (w : Int64) (d d' : Int32) (g g' s : Int64) (h1 : (w &&& (2147483647 : Int64)) = g') (h2 : (((w.toUInt64 >>> ((32 : Int32) &&& 0x3f).toInt64.toUInt64).toInt64).toInt32) = d') (z : Int32) (h3 : (w &&& (2147483648 : Int64) = (0 : Int64)) ↔ z = (0 : Int32)) : own_holds w d g s ↔ (g' = g ∧ d' = d) ∨ (¬ z = (0 : Int32) ∧ ¬ g' < s ∧ ¬ d < d') := by
  simp only [own_holds, h1, h2, h3]
theorem own_y (z : Int32) (y y' : Int64) (h : ((z = (0 : Int32)) ∧ y = (2 : Int64)) ∨ ((¬ (z = (0 : Int32))) ∧ y = (1 : Int64))) (h' : ((z = (0 : Int32)) ∧ y' = (2 : Int64)) ∨ ((¬ (z = (0 : Int32))) ∧ y' = (1 : Int64))) : y' = y ∧ (y = (2 : Int64) ∨ y = (1 : Int64)) ∧ (z = (0 : Int32) ↔ y = (2 : Int64)) := by grind
theorem own_g (v : Int32) (y y' a b c d : Int64) (k : y' = y ∧ (y = (2 : Int64) ∨ y = (1 : Int64))) (h : ((v = (1 : Int32)) ∧ a = (3 : Int64) ∧ b = y) ∨ ((¬ (v = (1 : Int32))) ∧ (v = (2 : Int32)) ∧ a = (3 : Int64) ∧ b = (3 : Int64)) ∨ ((¬ (v = (1 : Int32))) ∧ (¬ (v = (2 : Int32))) ∧ a = (2 : Int64) ∧ b = y)) (h' : ((v = (1 : Int32)) ∧ c = y' ∧ d = (3 : Int64)) ∨ ((¬ (v = (1 : Int32))) ∧ (v = (2 : Int32)) ∧ c = (3 : Int64) ∧ d = (3 : Int64)) ∨ ((¬ (v = (1 : Int32))) ∧ (¬ (v = (2 : Int32))) ∧ c = y' ∧ d = (2 : Int64))) : c = b ∧ d = a ∧ (a = (2 : Int64) ∨ a = (3 : Int64)) ∧ (b = (1 : Int64) ∨ b = (2 : Int64) ∨ b = (3 : Int64)) := by grind
theorem own_first (f : Nat → Int64) (q : Int64) (d z : Int32) (lo hi : Int64) (hd : ¬ d < (0 : Int32)) (g : Int64) (hg : g = (1 : Int64) ∨ g = (2 : Int64) ∨ g = (3 : Int64)) (b : Nat → Int64) (P : Int32 → Prop)
    (h : (∃ (y9 : Int64) (v12 : Int64), (((z = (0 : Int32)) ∧ y9 = (0 : Int64)) ∨ ((¬ (z = (0 : Int32))) ∧ y9 = (2147483648 : Int64))) ∧ (((((d.toInt64) <<< ((32 : Int32) &&& 0x3f).toInt64) ||| y9) ||| g) = v12) ∧ P (-1 : Int32) ∧ b = (own_upd (own_upd (own_upd (own_upd (own_cp f 0 f 4 4) 0 q) 1 lo) 2 hi) 3 v12)) ∨ (∃ (y9 : Int64) (v12 : Int64), (((z = (0 : Int32)) ∧ y9 = (0 : Int64)) ∨ ((¬ (z = (0 : Int32))) ∧ y9 = (2147483648 : Int64))) ∧ (((((d.toInt64) <<< ((32 : Int32) &&& 0x3f).toInt64) ||| y9) ||| g) = v12) ∧ P (0 : Int32) ∧ b = (own_upd (own_upd (own_upd (own_upd (own_cp f 0 f 4 0) 0 q) 1 lo) 2 hi) 3 v12)) ∨ (∃ (y9 : Int64) (v12 : Int64), (((z = (0 : Int32)) ∧ y9 = (0 : Int64)) ∨ ((¬ (z = (0 : Int32))) ∧ y9 = (2147483648 : Int64))) ∧ (((((d.toInt64) <<< ((32 : Int32) &&& 0x3f).toInt64) ||| y9) ||| g) = v12) ∧ P (4 : Int32) ∧ b = (own_upd (own_upd (own_upd (own_upd (own_cp f 0 f 4 4) 0 q) 1 lo) 2 hi) 3 v12))) :
    b 0 = q ∧ b 1 = lo ∧ ((b 3 &&& (2147483647 : Int64)) = g) ∧ ((((b 3).toUInt64 >>> ((32 : Int32) &&& 0x3f).toInt64.toUInt64).toInt64).toInt32) = d ∧ ((b 3 &&& (2147483648 : Int64) = (0 : Int64)) ↔ z = (0 : Int32)) ∧ ((P (0 : Int32) ∧ b 4 = f 4 ∧ b 5 = f 5 ∧ b 7 = f 7) ∨ ((P (-1 : Int32) ∨ P (4 : Int32)) ∧ b 4 = f 0 ∧ b 5 = f 1 ∧ b 7 = f 3)) := by
  have key : ∀ (y v : Int64), ((z = (0 : Int32)) ∧ y = (0 : Int64)) ∨ ((¬ (z = (0 : Int32))) ∧ y = (2147483648 : Int64)) → ((((d.toInt64) <<< ((32 : Int32) &&& 0x3f).toInt64) ||| y) ||| g) = v → ((v &&& (2147483647 : Int64)) = g) ∧ (((v.toUInt64 >>> ((32 : Int32) &&& 0x3f).toInt64.toUInt64).toInt64).toInt32) = d ∧ ((v &&& (2147483648 : Int64) = (0 : Int64)) ↔ z = (0 : Int32)) := by
    intro y v hy hv
    obtain ⟨a1, a2, a3⟩ := own_word d y g hd (by rcases hy with h | h <;> simp [h.2]) hg v hv
    refine ⟨a1, a2, a3.trans ?_⟩
    rcases hy with ⟨h1, h2⟩ | ⟨h1, h2⟩
    · simp [h1, h2]
    · subst h2; constructor
      · intro q; exact absurd q (by decide)
      · intro q; exact absurd q h1
  rcases h with ⟨y, v, hy, hv, hp, hb⟩ | ⟨y, v, hy, hv, hp, hb⟩ | ⟨y, v, hy, hv, hp, hb⟩
  · obtain ⟨k1, k2, k3⟩ := key y v hy hv
    have e3 : b 3 = v := by rw [hb]; rfl
    rw [e3]
    exact ⟨by rw [hb]; rfl, by rw [hb]; rfl, k1, k2, k3, Or.inr ⟨Or.inl hp, by rw [hb]; rfl, by rw [hb]; rfl, by rw [hb]; rfl⟩⟩
  · obtain ⟨k1, k2, k3⟩ := key y v hy hv
    have e3 : b 3 = v := by rw [hb]; rfl
    rw [e3]
    exact ⟨by rw [hb]; rfl, by rw [hb]; rfl, k1, k2, k3, Or.inl ⟨hp, by rw [hb]; rfl, by rw [hb]; rfl, by rw [hb]; rfl⟩⟩
  · obtain ⟨k1, k2, k3⟩ := key y v hy hv
    have e3 : b 3 = v := by rw [hb]; rfl
    rw [e3]
    exact ⟨by rw [hb]; rfl, by rw [hb]; rfl, k1, k2, k3, Or.inr ⟨Or.inr hp, by rw [hb]; rfl, by rw [hb]; rfl, by rw [hb]; rfl⟩⟩
theorem d1_0 : decode prog_71_method_1_code 0 = .ok (.aload_n 0, 1) := by decide +kernel
theorem d1_1 : decode prog_71_method_1_code 1 = .ok (.invokespecial 5, 3) := by decide +kernel
theorem d1_4 : decode prog_71_method_1_code 4 = .ok (.aload_n 0, 1) := by decide +kernel
theorem d1_5 : decode prog_71_method_1_code 5 = .ok (.lconst 1, 1) := by decide +kernel
theorem d1_6 : decode prog_71_method_1_code 6 = .ok (.putfield 11, 3) := by decide +kernel
theorem d1_9 : decode prog_71_method_1_code 9 = .ok (.aload_n 0, 1) := by decide +kernel
theorem d1_10 : decode prog_71_method_1_code 10 = .ok (.lconst 1, 1) := by decide +kernel
theorem d1_11 : decode prog_71_method_1_code 11 = .ok (.putfield 15, 3) := by decide +kernel
theorem d1_14 : decode prog_71_method_1_code 14 = .ok (.iload_n 1, 1) := by decide +kernel
theorem d1_15 : decode prog_71_method_1_code 15 = .ok (.iconst 1, 1) := by decide +kernel
theorem d1_16 : decode prog_71_method_1_code 16 = .ok (.if_icmp .lt 9, 3) := by decide +kernel
theorem d1_19 : decode prog_71_method_1_code 19 = .ok (.iload_n 1, 1) := by decide +kernel
theorem d1_20 : decode prog_71_method_1_code 20 = .ok (.bipush 25, 2) := by decide +kernel
theorem d1_22 : decode prog_71_method_1_code 22 = .ok (.if_icmp .le 17, 3) := by decide +kernel
theorem d1_39 : decode prog_71_method_1_code 39 = .ok (.aload_n 0, 1) := by decide +kernel
theorem d1_40 : decode prog_71_method_1_code 40 = .ok (.iconst 4, 1) := by decide +kernel
theorem d1_41 : decode prog_71_method_1_code 41 = .ok (.iload_n 1, 1) := by decide +kernel
theorem d1_42 : decode prog_71_method_1_code 42 = .ok (.ishl, 1) := by decide +kernel
theorem d1_43 : decode prog_71_method_1_code 43 = .ok (.newarray .long, 2) := by decide +kernel
theorem d1_45 : decode prog_71_method_1_code 45 = .ok (.putfield 27, 3) := by decide +kernel
theorem d1_48 : decode prog_71_method_1_code 48 = .ok (.aload_n 0, 1) := by decide +kernel
theorem d1_49 : decode prog_71_method_1_code 49 = .ok (.bipush 64, 2) := by decide +kernel
theorem d1_51 : decode prog_71_method_1_code 51 = .ok (.iload_n 1, 1) := by decide +kernel
theorem d1_52 : decode prog_71_method_1_code 52 = .ok (.isub, 1) := by decide +kernel
theorem d1_53 : decode prog_71_method_1_code 53 = .ok (.putfield 33, 3) := by decide +kernel
theorem d1_56 : decode prog_71_method_1_code 56 = .ok (.return_, 1) := by decide +kernel
theorem pn_1 : plainName "com/example/plyward/plyward/search/TranspositionTable" = true := by first | (simp [plainName, overriddenIn]; done) | decide +kernel
theorem ef_1 (m : MethodId) (a0 : Addr) : entryFrame m #[(.ref a0), (.int (1 : Int32))] 2 = mkF m 0 #[.val (.ref a0), .val (.int (1 : Int32))] [] := by first | (simp [entryFrame, mkF, argsToLocals, Value.category]; done) | rfl
def Q1 (Z : State) (a0 : Addr) (f_a0_generation : Int64) (f_a0_settledSince : Int64) (f_a0_entries : Value) (f_a0_shift : Int32) (h0 : Heap) (n0 : Nat) (v : Option Value) (h : Heap) (L : List Loc) : Prop := ∃ (b6 : Addr) (k6 : ClassId), v = none ∧ Fr n0 L ∧ Keep h0 h [a0] ∧ Exa Z h a0 "com/example/plyward/plyward/search/TranspositionTable" ∧ Fld Z h a0 "com/example/plyward/plyward/search/TranspositionTable" "generation" "J" (.long (1 : Int64)) ∧ Fld Z h a0 "com/example/plyward/plyward/search/TranspositionTable" "settledSince" "J" (.long (1 : Int64)) ∧ Fld Z h a0 "com/example/plyward/plyward/search/TranspositionTable" "entries" "[J" (.ref b6) ∧ Fld Z h a0 "com/example/plyward/plyward/search/TranspositionTable" "shift" "I" (.int (63 : Int32)) ∧ (n0 ≤ b6) ∧ (h0.size ≤ b6) ∧ own_Arf Z h b6 k6 .long (8 : Int32) (fun i => .long ((fun _ => (0 : Int64)) i))
set_option maxRecDepth 65536 in
set_option maxHeartbeats 40000000 in
theorem rm1 (l : Launch) (Z : State) (A0 : Array Value) (hw : ∀ d ∈ tables_1, d.before A0 Z = true) (ws : List Jvm.Cond) (a0 : Addr) (f_a0_generation : Int64) (f_a0_settledSince : Int64) (f_a0_entries : Value) (f_a0_shift : Int32) (h0 : Heap) (n0 : Nat) (Z0 : n0 ≤ h0.size) (P_E_a0 : Exa Z h0 a0 "com/example/plyward/plyward/search/TranspositionTable") (P_F_a0_generation : Fld Z h0 a0 "com/example/plyward/plyward/search/TranspositionTable" "generation" "J" (.long f_a0_generation)) (g_a0 : n0 ≤ a0) (P_F_a0_settledSince : Fld Z h0 a0 "com/example/plyward/plyward/search/TranspositionTable" "settledSince" "J" (.long f_a0_settledSince)) (P_F_a0_entries : Fld Z h0 a0 "com/example/plyward/plyward/search/TranspositionTable" "entries" "[J" f_a0_entries) (P_F_a0_shift : Fld Z h0 a0 "com/example/plyward/plyward/search/TranspositionTable" "shift" "I" (.int f_a0_shift)) :
    MetFree l (⟨"com/example/plyward/plyward/search/TranspositionTable", "<init>", "(I)V"⟩ : MethodName) (head1 (Jvm.Cond.code (⟨"com/example/plyward/plyward/search/TranspositionTable", "<init>", "(I)V"⟩ : MethodName) prog_71_method_1_code 2 none :: ws) ({ frames := 1, cells := 1, slots := 8, locals := 12 } : Room)) (fun a U => a = #[(.ref a0), (.int (1 : Int32))] ∧ Z.Warmed39 U.vm ∧ U.heap = h0) (fun _ _ _ _ _ => True) (fun _ U o U' => ∃ v L, o = .returned v ∧ Q1 Z a0 f_a0_generation f_a0_settledSince f_a0_entries f_a0_shift h0 n0 v U'.heap L ∧ FrameEnd U o U' L 1 8) := by
  refine MetFree.of_bodySF (plainFor_of_name pn_1) hisR ?_
  intro p e s m args below meth c s₁ Bd hml0 hP hK
  obtain ⟨rfl, hZ, hh⟩ := hP
  have hx := Bd.exec
  have hby := Bd.bytes
  have hml : c.maxLocals = 2 := hml0
  have hlk : meth.locks = false := Bd.notSynchronized
  have hown : s.vm.findClass "com/example/plyward/plyward/search/TranspositionTable" = some m.cls := findClass_of_methodNamed Bd.named
  have hnm := (name_of_methodNamed Bd.named Bd.method).1
  have X0 : Stand p l e ({ frames := 1, cells := 1, slots := 8, locals := 12 } : Room) s m #[(.ref a0), (.int (1 : Int32))] below meth c s₁ [] 0 0 := Stand.of_body Bd
  have e0 : s₁.heap = h0 := by rw [← hh, Bd.state]; rfl
  have N0 := Fr.nil n0
  show own_Go p e below (own_Fin s 1 8 (Q1 Z a0 f_a0_generation f_a0_settledSince f_a0_entries f_a0_shift h0 n0)) _
  refine own_by (fun t k => castTop (ef_1 m a0) k) ?_
  show own_Go p e below _ (s₁.setTop (mkF m 0 #[.val (.ref a0), .val (.int (1 : Int32))] []))
  refine own_by (fun _ k => XS.aloadN X0.here hx rfl (hb hby d1_0) rfl rfl k) ?_
  show own_Go p e below _ (s₁.setTop (mkF m 1 #[.val (.ref a0), .val (.int (1 : Int32))] [(.ref a0)]))
  obtain ⟨T1, X1, e1, st1⟩ := initO X0 hx hZ hown (hw _ (List.mem_of_getElem? (i := 7) rfl)) (hw _ (List.mem_of_getElem? (i := 8) rfl)) (hw _ (List.mem_of_getElem? (i := 9) rfl)) e0 (g := (mkF m 1 #[.val (.ref a0), .val (.int (1 : Int32))] [(.ref a0)])) rfl (by rw [hml]; rfl) rfl (hb hby d1_1) (by decide) (W := 0) (by show 2 * 0 + _ ≤ _; exact Nat.le_of_eq rfl) (by decide)
  refine own_by st1 ?_
  show own_Go p e below _ (T1.setTop (mkF m 4 #[.val (.ref a0), .val (.int (1 : Int32))] []))
  refine own_by (fun _ k => XS.aloadN X1.here hx rfl (hb hby d1_4) rfl rfl k) ?_
  show own_Go p e below _ (T1.setTop (mkF m 5 #[.val (.ref a0), .val (.int (1 : Int32))] [(.ref a0)]))
  refine own_by (fun _ k => XS.lconst X1.here hx rfl (hb hby d1_5) k) ?_
  show own_Go p e below _ (T1.setTop (mkF m 6 #[.val (.ref a0), .val (.int (1 : Int32))] [(.long (1 : Int64)), (.ref a0)]))
  obtain ⟨T2, h2, X2, e2, W2, st2⟩ := putF X1 hx hZ hown (host := "") (Or.inl (hw _ (List.mem_of_getElem? (i := 10) rfl))) Via.refl e1 P_F_a0_generation P_E_a0 (Or.inl (hw _ (List.mem_of_getElem? (i := 11) rfl))) (hw _ (List.mem_of_getElem? (i := 2) rfl)) (ty := .long) (by decide) rfl rfl (g := (mkF m 6 #[.val (.ref a0), .val (.int (1 : Int32))] [(.long (1 : Int64)), (.ref a0)])) rfl rfl (hb hby d1_6)
  have Fw2 : Fld Z h2 a0 "com/example/plyward/plyward/search/TranspositionTable" "generation" "J" (.long (1 : Int64)) := P_F_a0_generation.same W2
  have K2 : Keep h0 h2 [a0] := (Keep.refl h0 [a0]).wr W2 (Or.inl (List.mem_of_getElem? (i := 0) rfl))
  have Z2 : n0 ≤ h2.size := Nat.le_trans Z0 (Keep.of_wr W2).1
  have N2 := Fr.snoc X2 N0 g_a0
  refine own_by st2 ?_
  show own_Go p e below _ (T2.setTop (mkF m 9 #[.val (.ref a0), .val (.int (1 : Int32))] []))
  refine own_by (fun _ k => XS.aloadN X2.here hx rfl (hb hby d1_9) rfl rfl k) ?_
  show own_Go p e below _ (T2.setTop (mkF m 10 #[.val (.ref a0), .val (.int (1 : Int32))] [(.ref a0)]))
  refine own_by (fun _ k => XS.lconst X2.here hx rfl (hb hby d1_10) k) ?_
  show own_Go p e below _ (T2.setTop (mkF m 11 #[.val (.ref a0), .val (.int (1 : Int32))] [(.long (1 : Int64)), (.ref a0)]))
  have F3 : Exa Z h2 a0 "com/example/plyward/plyward/search/TranspositionTable" := (P_E_a0.wr W2)
  have F4 : Fld Z h2 a0 "com/example/plyward/plyward/search/TranspositionTable" "settledSince" "J" (.long f_a0_settledSince) := (P_F_a0_settledSince.other W2 (Or.inr (slot_ne (Or.inl (hw _ (List.mem_of_getElem? (i := 13) rfl))) (Or.inl (hw _ (List.mem_of_getElem? (i := 11) rfl))) (by decide) (t := .long) (t' := .long) (by decide) (by decide))))
  obtain ⟨T5, h5, X5, e5, W5, st5⟩ := putF X2 hx hZ hown (host := "") (Or.inl (hw _ (List.mem_of_getElem? (i := 12) rfl))) Via.refl e2 F4 F3 (Or.inl (hw _ (List.mem_of_getElem? (i := 13) rfl))) (hw _ (List.mem_of_getElem? (i := 2) rfl)) (ty := .long) (by decide) rfl rfl (g := (mkF m 11 #[.val (.ref a0), .val (.int (1 : Int32))] [(.long (1 : Int64)), (.ref a0)])) rfl rfl (hb hby d1_11)
  have Fw5 : Fld Z h5 a0 "com/example/plyward/plyward/search/TranspositionTable" "settledSince" "J" (.long (1 : Int64)) := F4.same W5
  have K5 : Keep h0 h5 [a0] := K2.wr W5 (Or.inl (List.mem_of_getElem? (i := 0) rfl))
  have Z5 : n0 ≤ h5.size := Nat.le_trans Z2 (Keep.of_wr W5).1
  have N5 := Fr.snoc X5 N2 g_a0
  refine own_by st5 ?_
  show own_Go p e below _ (T5.setTop (mkF m 14 #[.val (.ref a0), .val (.int (1 : Int32))] []))
  refine own_by (fun _ k => XS.iloadN X5.here hx rfl (hb hby d1_14) rfl k) ?_
  show own_Go p e below _ (T5.setTop (mkF m 15 #[.val (.ref a0), .val (.int (1 : Int32))] [(.int (1 : Int32))]))
  refine own_by (fun _ k => XS.iconst X5.here hx rfl (hb hby d1_15) k) ?_
  show own_Go p e below _ (T5.setTop (mkF m 16 #[.val (.ref a0), .val (.int (1 : Int32))] [(.int (1 : Int32)), (.int (1 : Int32))]))
  refine own_by (fun _ k => XS.icmpNo X5.here hx rfl (hb hby d1_16) rfl (flt (by decide : ¬ ((1 : Int32) < (1 : Int32)))).1 k) ?_
  show own_Go p e below _ (T5.setTop (mkF m 19 #[.val (.ref a0), .val (.int (1 : Int32))] []))
  refine own_by (fun _ k => XS.iloadN X5.here hx rfl (hb hby d1_19) rfl k) ?_
  show own_Go p e below _ (T5.setTop (mkF m 20 #[.val (.ref a0), .val (.int (1 : Int32))] [(.int (1 : Int32))]))
  refine own_by (fun _ k => XS.bipush X5.here hx rfl (hb hby d1_20) k) ?_
  show own_Go p e below _ (T5.setTop (mkF m 22 #[.val (.ref a0), .val (.int (1 : Int32))] [(.int (25 : Int32)), (.int (1 : Int32))]))
  refine own_by (fun _ k => XS.icmpYes X5.here hx rfl (pc0 := 22) (pc' := 39) rfl (hb hby d1_22) rfl (flt (by decide : ¬ ((25 : Int32) < (1 : Int32)))).2.2.2 (by decide) (by decide) k) ?_
  show own_Go p e below _ (T5.setTop (mkF m 39 #[.val (.ref a0), .val (.int (1 : Int32))] []))
  refine own_by (fun _ k => XS.aloadN X5.here hx rfl (hb hby d1_39) rfl rfl k) ?_
  show own_Go p e below _ (T5.setTop (mkF m 40 #[.val (.ref a0), .val (.int (1 : Int32))] [(.ref a0)]))
  refine own_by (fun _ k => XS.iconst X5.here hx rfl (hb hby d1_40) k) ?_
  show own_Go p e below _ (T5.setTop (mkF m 41 #[.val (.ref a0), .val (.int (1 : Int32))] [(.int (4 : Int32)), (.ref a0)]))
  refine own_by (fun _ k => XS.iloadN X5.here hx rfl (hb hby d1_41) rfl k) ?_
  show own_Go p e below _ (T5.setTop (mkF m 42 #[.val (.ref a0), .val (.int (1 : Int32))] [(.int (1 : Int32)), (.int (4 : Int32)), (.ref a0)]))
  refine own_by (fun _ k => XS.ishl X5.here hx rfl (hb hby d1_42) rfl k) ?_
  show own_Go p e below _ (T5.setTop (mkF m 43 #[.val (.ref a0), .val (.int (1 : Int32))] [(.int (8 : Int32)), (.ref a0)]))
  obtain ⟨T6, h6, k6, X6, e6, E6, A6, st6⟩ := newP X5 hx hZ (hw _ (List.mem_of_getElem? (i := 14) rfl)) e5 (g := (mkF m 43 #[.val (.ref a0), .val (.int (1 : Int32))] [(.int (8 : Int32)), (.ref a0)])) rfl (hb hby d1_43) rfl (by decide) (cap := 8) (by decide) (by decide) (by decide) (by decide)
  obtain ⟨b6, g6⟩ : ∃ z, z = h5.size := ⟨_, rfl⟩
  have ge_b6 : n0 ≤ b6 := Nat.le_trans Z5 (Nat.le_of_eq g6.symm)
  have sz_b6 : h0.size ≤ b6 := Nat.le_trans K5.1 (Nat.le_of_eq g6.symm)
  have K6 : Keep h0 h6 [a0] := K5.ext E6
  have Z6 : n0 ≤ h6.size := Nat.le_trans Z5 E6.1
  rw [← g6] at A6 st6
  have V6 : own_Arf Z h6 b6 k6 .long (8 : Int32) (fun i => .long ((fun _ => (0 : Int64)) i)) := own_arfNew A6 (by decide)
  refine own_by st6 ?_
  show own_Go p e below _ (T6.setTop (mkF m 45 #[.val (.ref a0), .val (.int (1 : Int32))] [(.ref b6), (.ref a0)]))
  have F7 : Exa Z h6 a0 "com/example/plyward/plyward/search/TranspositionTable" := ((F3.wr W5).ext E6)
  have F8 : Fld Z h6 a0 "com/example/plyward/plyward/search/TranspositionTable" "entries" "[J" f_a0_entries := (((P_F_a0_entries.other W2 (Or.inr (slot_ne (Or.inr (hw _ (List.mem_of_getElem? (i := 16) rfl))) (Or.inl (hw _ (List.mem_of_getElem? (i := 11) rfl))) (by decide) (t := (.array .long)) (t' := .long) (by decide) (by decide)))).other W5 (Or.inr (slot_ne (Or.inr (hw _ (List.mem_of_getElem? (i := 16) rfl))) (Or.inl (hw _ (List.mem_of_getElem? (i := 13) rfl))) (by decide) (t := (.array .long)) (t' := .long) (by decide) (by decide)))).ext E6)
  obtain ⟨T9, h9, X9, e9, W9, st9⟩ := putF X6 hx hZ hown (host := "") (Or.inl (hw _ (List.mem_of_getElem? (i := 15) rfl))) Via.refl e6 F8 F7 (Or.inr ⟨(hw _ (List.mem_of_getElem? (i := 16) rfl)), rfl, hnm⟩) (hw _ (List.mem_of_getElem? (i := 2) rfl)) (ty := (.array .long)) (by decide) rfl rfl (g := (mkF m 45 #[.val (.ref a0), .val (.int (1 : Int32))] [(.ref b6), (.ref a0)])) rfl rfl (hb hby d1_45)
  have Fw9 : Fld Z h9 a0 "com/example/plyward/plyward/search/TranspositionTable" "entries" "[J" (.ref b6) := F8.same W9
  have K9 : Keep h0 h9 [a0] := K6.wr W9 (Or.inl (List.mem_of_getElem? (i := 0) rfl))
  have Z9 : n0 ≤ h9.size := Nat.le_trans Z6 (Keep.of_wr W9).1
  have N9 := Fr.snoc X9 N5 g_a0
  refine own_by st9 ?_
  show own_Go p e below _ (T9.setTop (mkF m 48 #[.val (.ref a0), .val (.int (1 : Int32))] []))
  refine own_by (fun _ k => XS.aloadN X9.here hx rfl (hb hby d1_48) rfl rfl k) ?_
  show own_Go p e below _ (T9.setTop (mkF m 49 #[.val (.ref a0), .val (.int (1 : Int32))] [(.ref a0)]))
  refine own_by (fun _ k => XS.bipush X9.here hx rfl (hb hby d1_49) k) ?_
  show own_Go p e below _ (T9.setTop (mkF m 51 #[.val (.ref a0), .val (.int (1 : Int32))] [(.int (64 : Int32)), (.ref a0)]))
  refine own_by (fun _ k => XS.iloadN X9.here hx rfl (hb hby d1_51) rfl k) ?_
  show own_Go p e below _ (T9.setTop (mkF m 52 #[.val (.ref a0), .val (.int (1 : Int32))] [(.int (1 : Int32)), (.int (64 : Int32)), (.ref a0)]))
  refine own_by (fun _ k => XS.isub X9.here hx rfl (hb hby d1_52) rfl k) ?_
  show own_Go p e below _ (T9.setTop (mkF m 53 #[.val (.ref a0), .val (.int (1 : Int32))] [(.int (63 : Int32)), (.ref a0)]))
  have F10 : Exa Z h9 a0 "com/example/plyward/plyward/search/TranspositionTable" := (F7.wr W9)
  have F11 : Fld Z h9 a0 "com/example/plyward/plyward/search/TranspositionTable" "shift" "I" (.int f_a0_shift) := ((((P_F_a0_shift.other W2 (Or.inr (slot_ne (Or.inr (hw _ (List.mem_of_getElem? (i := 18) rfl))) (Or.inl (hw _ (List.mem_of_getElem? (i := 11) rfl))) (by decide) (t := .int) (t' := .long) (by decide) (by decide)))).other W5 (Or.inr (slot_ne (Or.inr (hw _ (List.mem_of_getElem? (i := 18) rfl))) (Or.inl (hw _ (List.mem_of_getElem? (i := 13) rfl))) (by decide) (t := .int) (t' := .long) (by decide) (by decide)))).ext E6).other W9 (Or.inr (slot_ne (Or.inr (hw _ (List.mem_of_getElem? (i := 18) rfl))) (Or.inr (hw _ (List.mem_of_getElem? (i := 16) rfl))) (by decide) (t := .int) (t' := (.array .long)) (by decide) (by decide))))
  obtain ⟨T12, h12, X12, e12, W12, st12⟩ := putF X9 hx hZ hown (host := "") (Or.inl (hw _ (List.mem_of_getElem? (i := 17) rfl))) Via.refl e9 F11 F10 (Or.inr ⟨(hw _ (List.mem_of_getElem? (i := 18) rfl)), rfl, hnm⟩) (hw _ (List.mem_of_getElem? (i := 2) rfl)) (ty := .int) (by decide) rfl rfl (g := (mkF m 53 #[.val (.ref a0), .val (.int (1 : Int32))] [(.int (63 : Int32)), (.ref a0)])) rfl rfl (hb hby d1_53)
  have Fw12 : Fld Z h12 a0 "com/example/plyward/plyward/search/TranspositionTable" "shift" "I" (.int (63 : Int32)) := F11.same W12
  have K12 : Keep h0 h12 [a0] := K9.wr W12 (Or.inl (List.mem_of_getElem? (i := 0) rfl))
  have Z12 : n0 ≤ h12.size := Nat.le_trans Z9 (Keep.of_wr W12).1
  have N12 := Fr.snoc X12 N9 g_a0
  refine own_by st12 ?_
  show own_Go p e below _ (T12.setTop (mkF m 56 #[.val (.ref a0), .val (.int (1 : Int32))] []))
  have F13 : Exa Z h12 a0 "com/example/plyward/plyward/search/TranspositionTable" := (F10.wr W12)
  have F14 : Fld Z h12 a0 "com/example/plyward/plyward/search/TranspositionTable" "generation" "J" (.long (1 : Int64)) := ((((Fw2.other W5 (Or.inr (slot_ne (Or.inl (hw _ (List.mem_of_getElem? (i := 11) rfl))) (Or.inl (hw _ (List.mem_of_getElem? (i := 13) rfl))) (by decide) (t := .long) (t' := .long) (by decide) (by decide)))).ext E6).other W9 (Or.inr (slot_ne (Or.inl (hw _ (List.mem_of_getElem? (i := 11) rfl))) (Or.inr (hw _ (List.mem_of_getElem? (i := 16) rfl))) (by decide) (t := .long) (t' := (.array .long)) (by decide) (by decide)))).other W12 (Or.inr (slot_ne (Or.inl (hw _ (List.mem_of_getElem? (i := 11) rfl))) (Or.inr (hw _ (List.mem_of_getElem? (i := 18) rfl))) (by decide) (t := .long) (t' := .int) (by decide) (by decide))))
  have F15 : Fld Z h12 a0 "com/example/plyward/plyward/search/TranspositionTable" "settledSince" "J" (.long (1 : Int64)) := (((Fw5.ext E6).other W9 (Or.inr (slot_ne (Or.inl (hw _ (List.mem_of_getElem? (i := 13) rfl))) (Or.inr (hw _ (List.mem_of_getElem? (i := 16) rfl))) (by decide) (t := .long) (t' := (.array .long)) (by decide) (by decide)))).other W12 (Or.inr (slot_ne (Or.inl (hw _ (List.mem_of_getElem? (i := 13) rfl))) (Or.inr (hw _ (List.mem_of_getElem? (i := 18) rfl))) (by decide) (t := .long) (t' := .int) (by decide) (by decide))))
  have F16 : Fld Z h12 a0 "com/example/plyward/plyward/search/TranspositionTable" "entries" "[J" (.ref b6) := (Fw9.other W12 (Or.inr (slot_ne (Or.inr (hw _ (List.mem_of_getElem? (i := 16) rfl))) (Or.inr (hw _ (List.mem_of_getElem? (i := 18) rfl))) (by decide) (t := (.array .long)) (t' := .int) (by decide) (by decide))))
  have F17 : own_Arf Z h12 b6 k6 .long (8 : Int32) (fun i => .long ((fun _ => (0 : Int64)) i)) := ((V6.other W9 (Ne.symm (Nat.ne_of_lt (Nat.lt_of_lt_of_le ((F3.wr W5)).lt (Nat.le_of_eq g6.symm))))).other W12 (Ne.symm (Nat.ne_of_lt (Nat.lt_of_lt_of_le ((F3.wr W5)).lt (Nat.le_of_eq g6.symm)))))
  exact own_ret0 X12 hx Bd.returns (hb hby d1_56) hlk e12 ⟨_, _, rfl, N12, K12, F13, F14, F15, F16, Fw12, ge_b6, sz_b6, F17⟩ (by decide) (by decide)
theorem d4_0 : decode prog_71_method_12_code 0 = .ok (.lload_n 1, 1) := by decide +kernel
theorem d4_1 : decode prog_71_method_12_code 1 = .ok (.ldc2_w 78, 3) := by decide +kernel
theorem d4_4 : decode prog_71_method_12_code 4 = .ok (.lmul, 1) := by decide +kernel
theorem d4_5 : decode prog_71_method_12_code 5 = .ok (.aload_n 0, 1) := by decide +kernel
theorem d4_6 : decode prog_71_method_12_code 6 = .ok (.getfield 33, 3) := by decide +kernel
theorem d4_9 : decode prog_71_method_12_code 9 = .ok (.lushr, 1) := by decide +kernel
theorem d4_10 : decode prog_71_method_12_code 10 = .ok (.l2i, 1) := by decide +kernel
theorem d4_11 : decode prog_71_method_12_code 11 = .ok (.istore_n 3, 1) := by decide +kernel
theorem d4_12 : decode prog_71_method_12_code 12 = .ok (.iload_n 3, 1) := by decide +kernel
theorem d4_13 : decode prog_71_method_12_code 13 = .ok (.bipush (-2), 2) := by decide +kernel
theorem d4_15 : decode prog_71_method_12_code 15 = .ok (.iand, 1) := by decide +kernel
theorem d4_16 : decode prog_71_method_12_code 16 = .ok (.iconst 4, 1) := by decide +kernel
theorem d4_17 : decode prog_71_method_12_code 17 = .ok (.imul, 1) := by decide +kernel
theorem d4_18 : decode prog_71_method_12_code 18 = .ok (.ireturn, 1) := by decide +kernel
theorem pn_4 : plainName "com/example/plyward/plyward/search/TranspositionTable" = true := by first | (simp [plainName, overriddenIn]; done) | decide +kernel
theorem ef_4 (m : MethodId) (a0 : Addr) (q1 : Int64) : entryFrame m #[(.ref a0), (.long q1)] 4 = mkF m 0 #[.val (.ref a0), .val (.long q1), .second, .unset] [] := by first | (simp [entryFrame, mkF, argsToLocals, Value.category]; done) | rfl
def Q4 (Z : State) (a0 : Addr) (q1 : Int64) (h0 : Heap) (n0 : Nat) (v : Option Value) (h : Heap) (L : List Loc) : Prop := v = some (.int (0 : Int32)) ∧ Fr n0 L ∧ h = h0
set_option maxRecDepth 65536 in
set_option maxHeartbeats 40000000 in
theorem rm4 (l : Launch) (Z : State) (A0 : Array Value) (hw : ∀ d ∈ tables_1, d.before A0 Z = true) (ws : List Jvm.Cond) (a0 : Addr) (q1 : Int64) (h0 : Heap) (n0 : Nat) (Z0 : n0 ≤ h0.size) (P_F_a0_shift : Fld Z h0 a0 "com/example/plyward/plyward/search/TranspositionTable" "shift" "I" (.int (63 : Int32))) :
    MetFree l (⟨"com/example/plyward/plyward/search/TranspositionTable", "bucket", "(J)I"⟩ : MethodName) (head1 (Jvm.Cond.code (⟨"com/example/plyward/plyward/search/TranspositionTable", "bucket", "(J)I"⟩ : MethodName) prog_71_method_12_code 4 (some .int) :: ws) ({ frames := 0, cells := 0, slots := 0, locals := 0 } : Room)) (fun a U => a = #[(.ref a0), (.long q1)] ∧ Z.Warmed39 U.vm ∧ U.heap = h0) (fun _ _ _ _ _ => True) (fun _ U o U' => ∃ v L, o = .returned v ∧ Q4 Z a0 q1 h0 n0 v U'.heap L ∧ FrameEnd U o U' L 0 0) := by
  refine MetFree.of_bodySF (plainFor_of_name pn_4) hisR ?_
  intro p e s m args below meth c s₁ Bd hml0 hP hK
  obtain ⟨rfl, hZ, hh⟩ := hP
  have hx := Bd.exec
  have hby := Bd.bytes
  have hml : c.maxLocals = 4 := hml0
  have hlk : meth.locks = false := Bd.notSynchronized
  have hown : s.vm.findClass "com/example/plyward/plyward/search/TranspositionTable" = some m.cls := findClass_of_methodNamed Bd.named
  have hnm := (name_of_methodNamed Bd.named Bd.method).1
  have X0 : Stand p l e ({ frames := 0, cells := 0, slots := 0, locals := 0 } : Room) s m #[(.ref a0), (.long q1)] below meth c s₁ [] 0 0 := Stand.of_body Bd
  have e0 : s₁.heap = h0 := by rw [← hh, Bd.state]; rfl
  have N0 := Fr.nil n0
  show own_Go p e below (own_Fin s 0 0 (Q4 Z a0 q1 h0 n0)) _
  refine own_by (fun t k => castTop (ef_4 m a0 q1) k) ?_
  show own_Go p e below _ (s₁.setTop (mkF m 0 #[.val (.ref a0), .val (.long q1), .second, .unset] []))
  refine own_by (fun _ k => XS.lloadN X0.here hx rfl (hb hby d4_0) rfl k) ?_
  show own_Go p e below _ (s₁.setTop (mkF m 1 #[.val (.ref a0), .val (.long q1), .second, .unset] [(.long q1)]))
  refine own_by (fun t k => X0.ldc2Long hx hown (mvT hZ (hw _ (List.mem_of_getElem? (i := 29) rfl))) (g := (mkF m 1 #[.val (.ref a0), .val (.long q1), .second, .unset] [(.long q1)])) rfl (hb hby d4_1) _ k) ?_
  show own_Go p e below _ (s₁.setTop (mkF m 4 #[.val (.ref a0), .val (.long q1), .second, .unset] [(.long (-7046029254386353131 : Int64)), (.long q1)]))
  refine own_by (fun _ k => XS.lmul X0.here hx rfl (hb hby d4_4) rfl k) ?_
  show own_Go p e below _ (s₁.setTop (mkF m 5 #[.val (.ref a0), .val (.long q1), .second, .unset] [(.long (q1 * (-7046029254386353131 : Int64)))]))
  refine own_by (fun _ k => XS.aloadN X0.here hx rfl (hb hby d4_5) rfl rfl k) ?_
  show own_Go p e below _ (s₁.setTop (mkF m 6 #[.val (.ref a0), .val (.long q1), .second, .unset] [(.ref a0), (.long (q1 * (-7046029254386353131 : Int64)))]))
  obtain ⟨T1, X1, e1, st1⟩ := getF X0 hx hZ hown (host := "") (Or.inl (hw _ (List.mem_of_getElem? (i := 17) rfl))) Via.refl e0 P_F_a0_shift (g := (mkF m 6 #[.val (.ref a0), .val (.long q1), .second, .unset] [(.ref a0), (.long (q1 * (-7046029254386353131 : Int64)))])) rfl rfl (hb hby d4_6)
  refine own_by st1 ?_
  show own_Go p e below _ (T1.setTop (mkF m 9 #[.val (.ref a0), .val (.long q1), .second, .unset] [(.int (63 : Int32)), (.long (q1 * (-7046029254386353131 : Int64)))]))
  refine own_by (fun _ k => XS.lushr X1.here hx rfl (hb hby d4_9) rfl k) ?_
  show own_Go p e below _ (T1.setTop (mkF m 10 #[.val (.ref a0), .val (.long q1), .second, .unset] [(.long (((q1 * (-7046029254386353131 : Int64)).toUInt64 >>> ((63 : Int32) &&& 0x3f).toInt64.toUInt64).toInt64))]))
  refine own_by (fun _ k => XS.l2i X1.here hx rfl (hb hby d4_10) rfl k) ?_
  show own_Go p e below _ (T1.setTop (mkF m 11 #[.val (.ref a0), .val (.long q1), .second, .unset] [(.int ((((q1 * (-7046029254386353131 : Int64)).toUInt64 >>> ((63 : Int32) &&& 0x3f).toInt64.toUInt64).toInt64).toInt32))]))
  refine own_by (fun _ k => XS.istoreN X1.here hx rfl (hb hby d4_11) rfl (l' := #[.val (.ref a0), .val (.long q1), .second, .val (.int ((((q1 * (-7046029254386353131 : Int64)).toUInt64 >>> ((63 : Int32) &&& 0x3f).toInt64.toUInt64).toInt64).toInt32))]) rfl k) ?_
  show own_Go p e below _ (T1.setTop (mkF m 12 #[.val (.ref a0), .val (.long q1), .second, .val (.int ((((q1 * (-7046029254386353131 : Int64)).toUInt64 >>> ((63 : Int32) &&& 0x3f).toInt64.toUInt64).toInt64).toInt32))] []))
  refine own_by (fun _ k => XS.iloadN X1.here hx rfl (hb hby d4_12) rfl k) ?_
  show own_Go p e below _ (T1.setTop (mkF m 13 #[.val (.ref a0), .val (.long q1), .second, .val (.int ((((q1 * (-7046029254386353131 : Int64)).toUInt64 >>> ((63 : Int32) &&& 0x3f).toInt64.toUInt64).toInt64).toInt32))] [(.int ((((q1 * (-7046029254386353131 : Int64)).toUInt64 >>> ((63 : Int32) &&& 0x3f).toInt64.toUInt64).toInt64).toInt32))]))
  refine own_by (fun _ k => XS.bipush X1.here hx rfl (hb hby d4_13) k) ?_
  show own_Go p e below _ (T1.setTop (mkF m 15 #[.val (.ref a0), .val (.long q1), .second, .val (.int ((((q1 * (-7046029254386353131 : Int64)).toUInt64 >>> ((63 : Int32) &&& 0x3f).toInt64.toUInt64).toInt64).toInt32))] [(.int (-2 : Int32)), (.int ((((q1 * (-7046029254386353131 : Int64)).toUInt64 >>> ((63 : Int32) &&& 0x3f).toInt64.toUInt64).toInt64).toInt32))]))
  refine own_by (fun _ k => XS.iand X1.here hx rfl (hb hby d4_15) rfl k) ?_
  show own_Go p e below _ (T1.setTop (mkF m 16 #[.val (.ref a0), .val (.long q1), .second, .val (.int ((((q1 * (-7046029254386353131 : Int64)).toUInt64 >>> ((63 : Int32) &&& 0x3f).toInt64.toUInt64).toInt64).toInt32))] [(.int (((((q1 * (-7046029254386353131 : Int64)).toUInt64 >>> ((63 : Int32) &&& 0x3f).toInt64.toUInt64).toInt64).toInt32) &&& (-2 : Int32)))]))
  refine own_by (fun _ k => XS.iconst X1.here hx rfl (hb hby d4_16) k) ?_
  show own_Go p e below _ (T1.setTop (mkF m 17 #[.val (.ref a0), .val (.long q1), .second, .val (.int ((((q1 * (-7046029254386353131 : Int64)).toUInt64 >>> ((63 : Int32) &&& 0x3f).toInt64.toUInt64).toInt64).toInt32))] [(.int (4 : Int32)), (.int (((((q1 * (-7046029254386353131 : Int64)).toUInt64 >>> ((63 : Int32) &&& 0x3f).toInt64.toUInt64).toInt64).toInt32) &&& (-2 : Int32)))]))
  refine own_by (fun _ k => XS.imul X1.here hx rfl (hb hby d4_17) rfl k) ?_
  show own_Go p e below _ (T1.setTop (mkF m 18 #[.val (.ref a0), .val (.long q1), .second, .val (.int ((((q1 * (-7046029254386353131 : Int64)).toUInt64 >>> ((63 : Int32) &&& 0x3f).toInt64.toUInt64).toInt64).toInt32))] [(.int ((((((q1 * (-7046029254386353131 : Int64)).toUInt64 >>> ((63 : Int32) &&& 0x3f).toInt64.toUInt64).toInt64).toInt32) &&& (-2 : Int32)) * (4 : Int32)))]))
  exact own_retI X1 hx Bd.returns (hb hby d4_18) hlk e1 ⟨congrArg (fun z => some (Value.int z)) (own_bucket _), N0, rfl⟩ (by decide) (by decide)
theorem d10_0 : decode prog_71_method_11_code 0 = .ok (.lload_n 1, 1) := by decide +kernel
theorem d10_1 : decode prog_71_method_11_code 1 = .ok (.ldc2_w 40, 3) := by decide +kernel
theorem d10_4 : decode prog_71_method_11_code 4 = .ok (.land, 1) := by decide +kernel
theorem d10_5 : decode prog_71_method_11_code 5 = .ok (.lstore 4, 2) := by decide +kernel
theorem d10_7 : decode prog_71_method_11_code 7 = .ok (.lload_n 1, 1) := by decide +kernel
theorem d10_8 : decode prog_71_method_11_code 8 = .ok (.bipush 32, 2) := by decide +kernel
theorem d10_10 : decode prog_71_method_11_code 10 = .ok (.lushr, 1) := by decide +kernel
theorem d10_11 : decode prog_71_method_11_code 11 = .ok (.l2i, 1) := by decide +kernel
theorem d10_12 : decode prog_71_method_11_code 12 = .ok (.istore 6, 2) := by decide +kernel
theorem d10_14 : decode prog_71_method_11_code 14 = .ok (.lload_n 1, 1) := by decide +kernel
theorem d10_15 : decode prog_71_method_11_code 15 = .ok (.ldc2_w 62, 3) := by decide +kernel
theorem d10_18 : decode prog_71_method_11_code 18 = .ok (.land, 1) := by decide +kernel
theorem d10_19 : decode prog_71_method_11_code 19 = .ok (.lconst 0, 1) := by decide +kernel
theorem d10_20 : decode prog_71_method_11_code 20 = .ok (.lcmp, 1) := by decide +kernel
theorem d10_21 : decode prog_71_method_11_code 21 = .ok (.ifCond .eq 7, 3) := by decide +kernel
theorem d10_24 : decode prog_71_method_11_code 24 = .ok (.iconst 1, 1) := by decide +kernel
theorem d10_25 : decode prog_71_method_11_code 25 = .ok (.goto 4, 3) := by decide +kernel
theorem d10_28 : decode prog_71_method_11_code 28 = .ok (.iconst 0, 1) := by decide +kernel
theorem d10_29 : decode prog_71_method_11_code 29 = .ok (.istore 7, 2) := by decide +kernel
theorem d10_31 : decode prog_71_method_11_code 31 = .ok (.lload 4, 2) := by decide +kernel
theorem d10_33 : decode prog_71_method_11_code 33 = .ok (.aload_n 0, 1) := by decide +kernel
theorem d10_34 : decode prog_71_method_11_code 34 = .ok (.getfield 11, 3) := by decide +kernel
theorem d10_37 : decode prog_71_method_11_code 37 = .ok (.lcmp, 1) := by decide +kernel
theorem d10_38 : decode prog_71_method_11_code 38 = .ok (.ifCond .ne 9, 3) := by decide +kernel
theorem d10_41 : decode prog_71_method_11_code 41 = .ok (.iload 6, 2) := by decide +kernel
theorem d10_43 : decode prog_71_method_11_code 43 = .ok (.iload_n 3, 1) := by decide +kernel
theorem d10_44 : decode prog_71_method_11_code 44 = .ok (.if_icmp .eq 24, 3) := by decide +kernel
theorem d10_47 : decode prog_71_method_11_code 47 = .ok (.iload 7, 2) := by decide +kernel
theorem d10_49 : decode prog_71_method_11_code 49 = .ok (.ifCond .eq 23, 3) := by decide +kernel
theorem d10_52 : decode prog_71_method_11_code 52 = .ok (.lload 4, 2) := by decide +kernel
theorem d10_54 : decode prog_71_method_11_code 54 = .ok (.aload_n 0, 1) := by decide +kernel
theorem d10_55 : decode prog_71_method_11_code 55 = .ok (.getfield 15, 3) := by decide +kernel
theorem d10_58 : decode prog_71_method_11_code 58 = .ok (.lcmp, 1) := by decide +kernel
theorem d10_59 : decode prog_71_method_11_code 59 = .ok (.ifCond .lt 13, 3) := by decide +kernel
theorem d10_62 : decode prog_71_method_11_code 62 = .ok (.iload 6, 2) := by decide +kernel
theorem d10_64 : decode prog_71_method_11_code 64 = .ok (.iload_n 3, 1) := by decide +kernel
theorem d10_65 : decode prog_71_method_11_code 65 = .ok (.if_icmp .gt 7, 3) := by decide +kernel
theorem d10_68 : decode prog_71_method_11_code 68 = .ok (.iconst 1, 1) := by decide +kernel
theorem d10_69 : decode prog_71_method_11_code 69 = .ok (.goto 4, 3) := by decide +kernel
theorem d10_72 : decode prog_71_method_11_code 72 = .ok (.iconst 0, 1) := by decide +kernel
theorem d10_73 : decode prog_71_method_11_code 73 = .ok (.ireturn, 1) := by decide +kernel
theorem pn_10 : plainName "com/example/plyward/plyward/search/TranspositionTable" = true := by first | (simp [plainName, overriddenIn]; done) | decide +kernel
theorem ef_10 (m : MethodId) (a0 : Addr) (q1 : Int64) (p2 : Int32) : entryFrame m #[(.ref a0), (.long q1), (.int p2)] 8 = mkF m 0 #[.val (.ref a0), .val (.long q1), .second, .val (.int p2), .unset, .unset, .unset, .unset] [] := by first | (simp [entryFrame, mkF, argsToLocals, Value.category]; done) | rfl
theorem ob_10_1 (q1 : Int64) (p2 : Int32) (f_a0_generation : Int64) (f_a0_settledSince : Int64) (v1 : Int64) (v2 : Int32) (z10 : Int32) (hv1 : (q1 &&& (2147483647 : Int64)) = v1) (hv2 : (((q1.toUInt64 >>> ((32 : Int32) &&& 0x3f).toInt64.toUInt64).toInt64).toInt32) = v2) (hj11 : (((q1 &&& (2147483648 : Int64)) = (0 : Int64)) ∧ z10 = (0 : Int32)) ∨ ((¬ ((q1 &&& (2147483648 : Int64)) = (0 : Int64))) ∧ z10 = (1 : Int32))) (c13 : v1 = f_a0_generation) (c14 : v2 = p2) : ((1 : Int32) = (1 : Int32) ∧ own_holds q1 p2 f_a0_generation f_a0_settledSince) ∨ ((1 : Int32) = (0 : Int32) ∧ ¬ own_holds q1 p2 f_a0_generation f_a0_settledSince) := by
  simp only [own_holds]
  grind
theorem ob_10_2 (q1 : Int64) (p2 : Int32) (f_a0_generation : Int64) (f_a0_settledSince : Int64) (v1 : Int64) (v2 : Int32) (z10 : Int32) (hv1 : (q1 &&& (2147483647 : Int64)) = v1) (hv2 : (((q1.toUInt64 >>> ((32 : Int32) &&& 0x3f).toInt64.toUInt64).toInt64).toInt32) = v2) (hj11 : (((q1 &&& (2147483648 : Int64)) = (0 : Int64)) ∧ z10 = (0 : Int32)) ∨ ((¬ ((q1 &&& (2147483648 : Int64)) = (0 : Int64))) ∧ z10 = (1 : Int32))) (c13 : v1 = f_a0_generation) (c14 : ¬ (v2 = p2)) (c15 : z10 = (0 : Int32)) : ((0 : Int32) = (1 : Int32) ∧ own_holds q1 p2 f_a0_generation f_a0_settledSince) ∨ ((0 : Int32) = (0 : Int32) ∧ ¬ own_holds q1 p2 f_a0_generation f_a0_settledSince) := by
  simp only [own_holds]
  grind
theorem ob_10_3 (q1 : Int64) (p2 : Int32) (f_a0_generation : Int64) (f_a0_settledSince : Int64) (v1 : Int64) (v2 : Int32) (z10 : Int32) (hv1 : (q1 &&& (2147483647 : Int64)) = v1) (hv2 : (((q1.toUInt64 >>> ((32 : Int32) &&& 0x3f).toInt64.toUInt64).toInt64).toInt32) = v2) (hj11 : (((q1 &&& (2147483648 : Int64)) = (0 : Int64)) ∧ z10 = (0 : Int32)) ∨ ((¬ ((q1 &&& (2147483648 : Int64)) = (0 : Int64))) ∧ z10 = (1 : Int32))) (c13 : v1 = f_a0_generation) (c14 : ¬ (v2 = p2)) (c15 : ¬ (z10 = (0 : Int32))) (c17 : v1 < f_a0_settledSince) : ((0 : Int32) = (1 : Int32) ∧ own_holds q1 p2 f_a0_generation f_a0_settledSince) ∨ ((0 : Int32) = (0 : Int32) ∧ ¬ own_holds q1 p2 f_a0_generation f_a0_settledSince) := by
  simp only [own_holds]
  grind
theorem ob_10_4 (q1 : Int64) (p2 : Int32) (f_a0_generation : Int64) (f_a0_settledSince : Int64) (v1 : Int64) (v2 : Int32) (z10 : Int32) (hv1 : (q1 &&& (2147483647 : Int64)) = v1) (hv2 : (((q1.toUInt64 >>> ((32 : Int32) &&& 0x3f).toInt64.toUInt64).toInt64).toInt32) = v2) (hj11 : (((q1 &&& (2147483648 : Int64)) = (0 : Int64)) ∧ z10 = (0 : Int32)) ∨ ((¬ ((q1 &&& (2147483648 : Int64)) = (0 : Int64))) ∧ z10 = (1 : Int32))) (c13 : v1 = f_a0_generation) (c14 : ¬ (v2 = p2)) (c15 : ¬ (z10 = (0 : Int32))) (c17 : ¬ (v1 < f_a0_settledSince)) (c18 : p2 < v2) : ((0 : Int32) = (1 : Int32) ∧ own_holds q1 p2 f_a0_generation f_a0_settledSince) ∨ ((0 : Int32) = (0 : Int32) ∧ ¬ own_holds q1 p2 f_a0_generation f_a0_settledSince) := by
  simp only [own_holds]
  grind
theorem ob_10_5 (q1 : Int64) (p2 : Int32) (f_a0_generation : Int64) (f_a0_settledSince : Int64) (v1 : Int64) (v2 : Int32) (z10 : Int32) (hv1 : (q1 &&& (2147483647 : Int64)) = v1) (hv2 : (((q1.toUInt64 >>> ((32 : Int32) &&& 0x3f).toInt64.toUInt64).toInt64).toInt32) = v2) (hj11 : (((q1 &&& (2147483648 : Int64)) = (0 : Int64)) ∧ z10 = (0 : Int32)) ∨ ((¬ ((q1 &&& (2147483648 : Int64)) = (0 : Int64))) ∧ z10 = (1 : Int32))) (c13 : v1 = f_a0_generation) (c14 : ¬ (v2 = p2)) (c15 : ¬ (z10 = (0 : Int32))) (c17 : ¬ (v1 < f_a0_settledSince)) (c18 : ¬ (p2 < v2)) : ((1 : Int32) = (1 : Int32) ∧ own_holds q1 p2 f_a0_generation f_a0_settledSince) ∨ ((1 : Int32) = (0 : Int32) ∧ ¬ own_holds q1 p2 f_a0_generation f_a0_settledSince) := by
  simp only [own_holds]
  grind
theorem ob_10_6 (q1 : Int64) (p2 : Int32) (f_a0_generation : Int64) (f_a0_settledSince : Int64) (v1 : Int64) (v2 : Int32) (z10 : Int32) (hv1 : (q1 &&& (2147483647 : Int64)) = v1) (hv2 : (((q1.toUInt64 >>> ((32 : Int32) &&& 0x3f).toInt64.toUInt64).toInt64).toInt32) = v2) (hj11 : (((q1 &&& (2147483648 : Int64)) = (0 : Int64)) ∧ z10 = (0 : Int32)) ∨ ((¬ ((q1 &&& (2147483648 : Int64)) = (0 : Int64))) ∧ z10 = (1 : Int32))) (c13 : ¬ (v1 = f_a0_generation)) (c19 : z10 = (0 : Int32)) : ((0 : Int32) = (1 : Int32) ∧ own_holds q1 p2 f_a0_generation f_a0_settledSince) ∨ ((0 : Int32) = (0 : Int32) ∧ ¬ own_holds q1 p2 f_a0_generation f_a0_settledSince) := by
  simp only [own_holds]
  grind
theorem ob_10_7 (q1 : Int64) (p2 : Int32) (f_a0_generation : Int64) (f_a0_settledSince : Int64) (v1 : Int64) (v2 : Int32) (z10 : Int32) (hv1 : (q1 &&& (2147483647 : Int64)) = v1) (hv2 : (((q1.toUInt64 >>> ((32 : Int32) &&& 0x3f).toInt64.toUInt64).toInt64).toInt32) = v2) (hj11 : (((q1 &&& (2147483648 : Int64)) = (0 : Int64)) ∧ z10 = (0 : Int32)) ∨ ((¬ ((q1 &&& (2147483648 : Int64)) = (0 : Int64))) ∧ z10 = (1 : Int32))) (c13 : ¬ (v1 = f_a0_generation)) (c19 : ¬ (z10 = (0 : Int32))) (c21 : v1 < f_a0_settledSince) : ((0 : Int32) = (1 : Int32) ∧ own_holds q1 p2 f_a0_generation f_a0_settledSince) ∨ ((0 : Int32) = (0 : Int32) ∧ ¬ own_holds q1 p2 f_a0_generation f_a0_settledSince) := by
  simp only [own_holds]
  grind
theorem ob_10_8 (q1 : Int64) (p2 : Int32) (f_a0_generation : Int64) (f_a0_settledSince : Int64) (v1 : Int64) (v2 : Int32) (z10 : Int32) (hv1 : (q1 &&& (2147483647 : Int64)) = v1) (hv2 : (((q1.toUInt64 >>> ((32 : Int32) &&& 0x3f).toInt64.toUInt64).toInt64).toInt32) = v2) (hj11 : (((q1 &&& (2147483648 : Int64)) = (0 : Int64)) ∧ z10 = (0 : Int32)) ∨ ((¬ ((q1 &&& (2147483648 : Int64)) = (0 : Int64))) ∧ z10 = (1 : Int32))) (c13 : ¬ (v1 = f_a0_generation)) (c19 : ¬ (z10 = (0 : Int32))) (c21 : ¬ (v1 < f_a0_settledSince)) (c22 : p2 < v2) : ((0 : Int32) = (1 : Int32) ∧ own_holds q1 p2 f_a0_generation f_a0_settledSince) ∨ ((0 : Int32) = (0 : Int32) ∧ ¬ own_holds q1 p2 f_a0_generation f_a0_settledSince) := by
  simp only [own_holds]
  grind
theorem ob_10_9 (q1 : Int64) (p2 : Int32) (f_a0_generation : Int64) (f_a0_settledSince : Int64) (v1 : Int64) (v2 : Int32) (z10 : Int32) (hv1 : (q1 &&& (2147483647 : Int64)) = v1) (hv2 : (((q1.toUInt64 >>> ((32 : Int32) &&& 0x3f).toInt64.toUInt64).toInt64).toInt32) = v2) (hj11 : (((q1 &&& (2147483648 : Int64)) = (0 : Int64)) ∧ z10 = (0 : Int32)) ∨ ((¬ ((q1 &&& (2147483648 : Int64)) = (0 : Int64))) ∧ z10 = (1 : Int32))) (c13 : ¬ (v1 = f_a0_generation)) (c19 : ¬ (z10 = (0 : Int32))) (c21 : ¬ (v1 < f_a0_settledSince)) (c22 : ¬ (p2 < v2)) : ((1 : Int32) = (1 : Int32) ∧ own_holds q1 p2 f_a0_generation f_a0_settledSince) ∨ ((1 : Int32) = (0 : Int32) ∧ ¬ own_holds q1 p2 f_a0_generation f_a0_settledSince) := by
  simp only [own_holds]
  grind
def Q10 (Z : State) (a0 : Addr) (q1 : Int64) (p2 : Int32) (f_a0_generation : Int64) (f_a0_settledSince : Int64) (h0 : Heap) (n0 : Nat) (v : Option Value) (h : Heap) (L : List Loc) : Prop := ∃ (zz : Int32), v = some (.int zz) ∧ Fr n0 L ∧ h = h0 ∧ ((zz = (1 : Int32) ∧ own_holds q1 p2 f_a0_generation f_a0_settledSince) ∨ (zz = (0 : Int32) ∧ ¬ own_holds q1 p2 f_a0_generation f_a0_settledSince))
set_option maxRecDepth 65536 in
set_option maxHeartbeats 40000000 in
theorem rm10 (l : Launch) (Z : State) (A0 : Array Value) (hw : ∀ d ∈ tables_1, d.before A0 Z = true) (ws : List Jvm.Cond) (a0 : Addr) (q1 : Int64) (p2 : Int32) (f_a0_generation : Int64) (f_a0_settledSince : Int64) (h0 : Heap) (n0 : Nat) (Z0 : n0 ≤ h0.size) (P_F_a0_generation : Fld Z h0 a0 "com/example/plyward/plyward/search/TranspositionTable" "generation" "J" (.long f_a0_generation)) (P_F_a0_settledSince : Fld Z h0 a0 "com/example/plyward/plyward/search/TranspositionTable" "settledSince" "J" (.long f_a0_settledSince)) :
    MetFree l (⟨"com/example/plyward/plyward/search/TranspositionTable", "holdsAt", "(JI)Z"⟩ : MethodName) (head1 (Jvm.Cond.code (⟨"com/example/plyward/plyward/search/TranspositionTable", "holdsAt", "(JI)Z"⟩ : MethodName) prog_71_method_11_code 8 (some .boolean) :: ws) ({ frames := 0, cells := 0, slots := 0, locals := 0 } : Room)) (fun a U => a = #[(.ref a0), (.long q1), (.int p2)] ∧ Z.Warmed39 U.vm ∧ U.heap = h0) (fun _ _ _ _ _ => True) (fun _ U o U' => ∃ v L, o = .returned v ∧ Q10 Z a0 q1 p2 f_a0_generation f_a0_settledSince h0 n0 v U'.heap L ∧ FrameEnd U o U' L 0 0) := by
  refine MetFree.of_bodySF (plainFor_of_name pn_10) hisR ?_
  intro p e s m args below meth c s₁ Bd hml0 hP hK
  obtain ⟨rfl, hZ, hh⟩ := hP
  have hx := Bd.exec
  have hby := Bd.bytes
  have hml : c.maxLocals = 8 := hml0
  have hlk : meth.locks = false := Bd.notSynchronized
  have hown : s.vm.findClass "com/example/plyward/plyward/search/TranspositionTable" = some m.cls := findClass_of_methodNamed Bd.named
  have hnm := (name_of_methodNamed Bd.named Bd.method).1
  have X0 : Stand p l e ({ frames := 0, cells := 0, slots := 0, locals := 0 } : Room) s m #[(.ref a0), (.long q1), (.int p2)] below meth c s₁ [] 0 0 := Stand.of_body Bd
  have e0 : s₁.heap = h0 := by rw [← hh, Bd.state]; rfl
  have N0 := Fr.nil n0
  show own_Go p e below (own_Fin s 0 0 (Q10 Z a0 q1 p2 f_a0_generation f_a0_settledSince h0 n0)) _
  refine own_by (fun t k => castTop (ef_10 m a0 q1 p2) k) ?_
  show own_Go p e below _ (s₁.setTop (mkF m 0 #[.val (.ref a0), .val (.long q1), .second, .val (.int p2), .unset, .unset, .unset, .unset] []))
  refine own_by (fun _ k => XS.lloadN X0.here hx rfl (hb hby d10_0) rfl k) ?_
  show own_Go p e below _ (s₁.setTop (mkF m 1 #[.val (.ref a0), .val (.long q1), .second, .val (.int p2), .unset, .unset, .unset, .unset] [(.long q1)]))
  refine own_by (fun t k => X0.ldc2Long hx hown (mvT hZ (hw _ (List.mem_of_getElem? (i := 52) rfl))) (g := (mkF m 1 #[.val (.ref a0), .val (.long q1), .second, .val (.int p2), .unset, .unset, .unset, .unset] [(.long q1)])) rfl (hb hby d10_1) _ k) ?_
  show own_Go p e below _ (s₁.setTop (mkF m 4 #[.val (.ref a0), .val (.long q1), .second, .val (.int p2), .unset, .unset, .unset, .unset] [(.long (2147483647 : Int64)), (.long q1)]))
  refine own_by (fun _ k => XS.land X0.here hx rfl (hb hby d10_4) rfl k) ?_
  show own_Go p e below _ (s₁.setTop (mkF m 5 #[.val (.ref a0), .val (.long q1), .second, .val (.int p2), .unset, .unset, .unset, .unset] [(.long (q1 &&& (2147483647 : Int64)))]))
  refine own_by (fun _ k => XS.lstore X0.here hx rfl (hb hby d10_5) rfl (l' := #[.val (.ref a0), .val (.long q1), .second, .val (.int p2), .val (.long (q1 &&& (2147483647 : Int64))), .second, .unset, .unset]) rfl k) ?_
  show own_Go p e below _ (s₁.setTop (mkF m 7 #[.val (.ref a0), .val (.long q1), .second, .val (.int p2), .val (.long (q1 &&& (2147483647 : Int64))), .second, .unset, .unset] []))
  generalize hv1 : (q1 &&& (2147483647 : Int64)) = v1
  show own_Go p e below _ (s₁.setTop (mkF m 7 #[.val (.ref a0), .val (.long q1), .second, .val (.int p2), .val (.long v1), .second, .unset, .unset] []))
  refine own_by (fun _ k => XS.lloadN X0.here hx rfl (hb hby d10_7) rfl k) ?_
  show own_Go p e below _ (s₁.setTop (mkF m 8 #[.val (.ref a0), .val (.long q1), .second, .val (.int p2), .val (.long v1), .second, .unset, .unset] [(.long q1)]))
  refine own_by (fun _ k => XS.bipush X0.here hx rfl (hb hby d10_8) k) ?_
  show own_Go p e below _ (s₁.setTop (mkF m 10 #[.val (.ref a0), .val (.long q1), .second, .val (.int p2), .val (.long v1), .second, .unset, .unset] [(.int (32 : Int32)), (.long q1)]))
  refine own_by (fun _ k => XS.lushr X0.here hx rfl (hb hby d10_10) rfl k) ?_
  show own_Go p e below _ (s₁.setTop (mkF m 11 #[.val (.ref a0), .val (.long q1), .second, .val (.int p2), .val (.long v1), .second, .unset, .unset] [(.long ((q1.toUInt64 >>> ((32 : Int32) &&& 0x3f).toInt64.toUInt64).toInt64))]))
  refine own_by (fun _ k => XS.l2i X0.here hx rfl (hb hby d10_11) rfl k) ?_
  show own_Go p e below _ (s₁.setTop (mkF m 12 #[.val (.ref a0), .val (.long q1), .second, .val (.int p2), .val (.long v1), .second, .unset, .unset] [(.int (((q1.toUInt64 >>> ((32 : Int32) &&& 0x3f).toInt64.toUInt64).toInt64).toInt32))]))
  refine own_by (fun _ k => XS.istore X0.here hx rfl (hb hby d10_12) rfl (l' := #[.val (.ref a0), .val (.long q1), .second, .val (.int p2), .val (.long v1), .second, .val (.int (((q1.toUInt64 >>> ((32 : Int32) &&& 0x3f).toInt64.toUInt64).toInt64).toInt32)), .unset]) rfl k) ?_
  show own_Go p e below _ (s₁.setTop (mkF m 14 #[.val (.ref a0), .val (.long q1), .second, .val (.int p2), .val (.long v1), .second, .val (.int (((q1.toUInt64 >>> ((32 : Int32) &&& 0x3f).toInt64.toUInt64).toInt64).toInt32)), .unset] []))
  generalize hv2 : (((q1.toUInt64 >>> ((32 : Int32) &&& 0x3f).toInt64.toUInt64).toInt64).toInt32) = v2
  show own_Go p e below _ (s₁.setTop (mkF m 14 #[.val (.ref a0), .val (.long q1), .second, .val (.int p2), .val (.long v1), .second, .val (.int v2), .unset] []))
  refine own_by (fun _ k => XS.lloadN X0.here hx rfl (hb hby d10_14) rfl k) ?_
  show own_Go p e below _ (s₁.setTop (mkF m 15 #[.val (.ref a0), .val (.long q1), .second, .val (.int p2), .val (.long v1), .second, .val (.int v2), .unset] [(.long q1)]))
  refine own_by (fun t k => X0.ldc2Long hx hown (mvT hZ (hw _ (List.mem_of_getElem? (i := 60) rfl))) (g := (mkF m 15 #[.val (.ref a0), .val (.long q1), .second, .val (.int p2), .val (.long v1), .second, .val (.int v2), .unset] [(.long q1)])) rfl (hb hby d10_15) _ k) ?_
  show own_Go p e below _ (s₁.setTop (mkF m 18 #[.val (.ref a0), .val (.long q1), .second, .val (.int p2), .val (.long v1), .second, .val (.int v2), .unset] [(.long (2147483648 : Int64)), (.long q1)]))
  refine own_by (fun _ k => XS.land X0.here hx rfl (hb hby d10_18) rfl k) ?_
  show own_Go p e below _ (s₁.setTop (mkF m 19 #[.val (.ref a0), .val (.long q1), .second, .val (.int p2), .val (.long v1), .second, .val (.int v2), .unset] [(.long (q1 &&& (2147483648 : Int64)))]))
  refine own_by (fun _ k => XS.lconst X0.here hx rfl (hb hby d10_19) k) ?_
  show own_Go p e below _ (s₁.setTop (mkF m 20 #[.val (.ref a0), .val (.long q1), .second, .val (.int p2), .val (.long v1), .second, .val (.int v2), .unset] [(.long (0 : Int64)), (.long (q1 &&& (2147483648 : Int64)))]))
  refine own_by (fun _ k => XS.lcmp X0.here hx rfl (hb hby d10_20) rfl k) ?_
  show own_Go p e below _ (s₁.setTop (mkF m 21 #[.val (.ref a0), .val (.long q1), .second, .val (.int p2), .val (.long v1), .second, .val (.int v2), .unset] [(.int (lcmpW (q1 &&& (2147483648 : Int64)) (0 : Int64)))]))
  have J4 : ∀ (T5 : State) (L6 : List Loc) (z10 : Int32), Stand p l e ({ frames := 0, cells := 0, slots := 0, locals := 0 } : Room) s m #[(.ref a0), (.long q1), (.int p2)] below meth c T5 L6 0 0 → T5.heap = h0 → Fr n0 L6 → ((((q1 &&& (2147483648 : Int64)) = (0 : Int64)) ∧ z10 = (0 : Int32)) ∨ ((¬ ((q1 &&& (2147483648 : Int64)) = (0 : Int64))) ∧ z10 = (1 : Int32))) → own_Go p e below (own_Fin s 0 0 (Q10 Z a0 q1 p2 f_a0_generation f_a0_settledSince h0 n0)) (T5.setTop (mkF m 29 #[.val (.ref a0), .val (.long q1), .second, .val (.int p2), .val (.long v1), .second, .val (.int v2), .unset] [(.int z10)])) := by
    intro T5 L6 z10 X7 e8 N9 hj11
    refine own_by (fun _ k => XS.istore X7.here hx rfl (hb hby d10_29) rfl (l' := #[.val (.ref a0), .val (.long q1), .second, .val (.int p2), .val (.long v1), .second, .val (.int v2), .val (.int z10)]) rfl k) ?_
    show own_Go p e below _ (T5.setTop (mkF m 31 #[.val (.ref a0), .val (.long q1), .second, .val (.int p2), .val (.long v1), .second, .val (.int v2), .val (.int z10)] []))
    refine own_by (fun _ k => XS.lload X7.here hx rfl (hb hby d10_31) rfl k) ?_
    show own_Go p e below _ (T5.setTop (mkF m 33 #[.val (.ref a0), .val (.long q1), .second, .val (.int p2), .val (.long v1), .second, .val (.int v2), .val (.int z10)] [(.long v1)]))
    refine own_by (fun _ k => XS.aloadN X7.here hx rfl (hb hby d10_33) rfl rfl k) ?_
    show own_Go p e below _ (T5.setTop (mkF m 34 #[.val (.ref a0), .val (.long q1), .second, .val (.int p2), .val (.long v1), .second, .val (.int v2), .val (.int z10)] [(.ref a0), (.long v1)]))
    obtain ⟨T12, X12, e12, st12⟩ := getF X7 hx hZ hown (host := "") (Or.inl (hw _ (List.mem_of_getElem? (i := 10) rfl))) Via.refl e8 P_F_a0_generation (g := (mkF m 34 #[.val (.ref a0), .val (.long q1), .second, .val (.int p2), .val (.long v1), .second, .val (.int v2), .val (.int z10)] [(.ref a0), (.long v1)])) rfl rfl (hb hby d10_34)
    refine own_by st12 ?_
    show own_Go p e below _ (T12.setTop (mkF m 37 #[.val (.ref a0), .val (.long q1), .second, .val (.int p2), .val (.long v1), .second, .val (.int v2), .val (.int z10)] [(.long f_a0_generation), (.long v1)]))
    refine own_by (fun _ k => XS.lcmp X12.here hx rfl (hb hby d10_37) rfl k) ?_
    show own_Go p e below _ (T12.setTop (mkF m 38 #[.val (.ref a0), .val (.long q1), .second, .val (.int p2), .val (.long v1), .second, .val (.int v2), .val (.int z10)] [(.int (lcmpW v1 f_a0_generation))]))
    by_cases c13 : v1 = f_a0_generation
    · skip
      refine own_by (fun _ k => XS.ifNo X12.here hx rfl (hb hby d10_38) rfl ((if0 _ _).trans (teq ((lw_eq _ _).mpr c13)).2) k) ?_
      show own_Go p e below _ (T12.setTop (mkF m 41 #[.val (.ref a0), .val (.long q1), .second, .val (.int p2), .val (.long v1), .second, .val (.int v2), .val (.int z10)] []))
      refine own_by (fun _ k => XS.iload X12.here hx rfl (hb hby d10_41) rfl k) ?_
      show own_Go p e below _ (T12.setTop (mkF m 43 #[.val (.ref a0), .val (.long q1), .second, .val (.int p2), .val (.long v1), .second, .val (.int v2), .val (.int z10)] [(.int v2)]))
      refine own_by (fun _ k => XS.iloadN X12.here hx rfl (hb hby d10_43) rfl k) ?_
      show own_Go p e below _ (T12.setTop (mkF m 44 #[.val (.ref a0), .val (.long q1), .second, .val (.int p2), .val (.long v1), .second, .val (.int v2), .val (.int z10)] [(.int p2), (.int v2)]))
      by_cases c14 : v2 = p2
      · skip
        refine own_by (fun _ k => XS.icmpYes X12.here hx rfl (pc0 := 44) (pc' := 68) rfl (hb hby d10_44) rfl (teq c14).1 (by decide) (by decide) k) ?_
        show own_Go p e below _ (T12.setTop (mkF m 68 #[.val (.ref a0), .val (.long q1), .second, .val (.int p2), .val (.long v1), .second, .val (.int v2), .val (.int z10)] []))
        refine own_by (fun _ k => XS.iconst X12.here hx rfl (hb hby d10_68) k) ?_
        show own_Go p e below _ (T12.setTop (mkF m 69 #[.val (.ref a0), .val (.long q1), .second, .val (.int p2), .val (.long v1), .second, .val (.int v2), .val (.int z10)] [(.int (1 : Int32))]))
        refine own_by (fun _ k => XS.goto X12.here hx rfl (pc0 := 69) (pc' := 73) rfl (hb hby d10_69) (by decide) (by decide) k) ?_
        show own_Go p e below _ (T12.setTop (mkF m 73 #[.val (.ref a0), .val (.long q1), .second, .val (.int p2), .val (.long v1), .second, .val (.int v2), .val (.int z10)] [(.int (1 : Int32))]))
        exact own_retN X12 hx (t := .boolean) Bd.returns (by simp) (hb hby d10_73) hlk e12 ⟨_, rfl, N9, rfl, (ob_10_1 q1 p2 f_a0_generation f_a0_settledSince v1 v2 z10 hv1 hv2 hj11 c13 c14)⟩ (by decide) (by decide)
      · skip
        refine own_by (fun _ k => XS.icmpNo X12.here hx rfl (hb hby d10_44) rfl (feq c14).1 k) ?_
        show own_Go p e below _ (T12.setTop (mkF m 47 #[.val (.ref a0), .val (.long q1), .second, .val (.int p2), .val (.long v1), .second, .val (.int v2), .val (.int z10)] []))
        refine own_by (fun _ k => XS.iload X12.here hx rfl (hb hby d10_47) rfl k) ?_
        show own_Go p e below _ (T12.setTop (mkF m 49 #[.val (.ref a0), .val (.long q1), .second, .val (.int p2), .val (.long v1), .second, .val (.int v2), .val (.int z10)] [(.int z10)]))
        by_cases c15 : z10 = (0 : Int32)
        · skip
          refine own_by (fun _ k => XS.ifYes X12.here hx rfl (pc0 := 49) (pc' := 72) rfl (hb hby d10_49) rfl ((if0 _ _).trans (teq c15).1) (by decide) (by decide) k) ?_
          show own_Go p e below _ (T12.setTop (mkF m 72 #[.val (.ref a0), .val (.long q1), .second, .val (.int p2), .val (.long v1), .second, .val (.int v2), .val (.int z10)] []))
          refine own_by (fun _ k => XS.iconst X12.here hx rfl (hb hby d10_72) k) ?_
          show own_Go p e below _ (T12.setTop (mkF m 73 #[.val (.ref a0), .val (.long q1), .second, .val (.int p2), .val (.long v1), .second, .val (.int v2), .val (.int z10)] [(.int (0 : Int32))]))
          exact own_retN X12 hx (t := .boolean) Bd.returns (by simp) (hb hby d10_73) hlk e12 ⟨_, rfl, N9, rfl, (ob_10_2 q1 p2 f_a0_generation f_a0_settledSince v1 v2 z10 hv1 hv2 hj11 c13 c14 c15)⟩ (by decide) (by decide)
        · skip
          refine own_by (fun _ k => XS.ifNo X12.here hx rfl (hb hby d10_49) rfl ((if0 _ _).trans (feq c15).1) k) ?_
          show own_Go p e below _ (T12.setTop (mkF m 52 #[.val (.ref a0), .val (.long q1), .second, .val (.int p2), .val (.long v1), .second, .val (.int v2), .val (.int z10)] []))
          refine own_by (fun _ k => XS.lload X12.here hx rfl (hb hby d10_52) rfl k) ?_
          show own_Go p e below _ (T12.setTop (mkF m 54 #[.val (.ref a0), .val (.long q1), .second, .val (.int p2), .val (.long v1), .second, .val (.int v2), .val (.int z10)] [(.long v1)]))
          refine own_by (fun _ k => XS.aloadN X12.here hx rfl (hb hby d10_54) rfl rfl k) ?_
          show own_Go p e below _ (T12.setTop (mkF m 55 #[.val (.ref a0), .val (.long q1), .second, .val (.int p2), .val (.long v1), .second, .val (.int v2), .val (.int z10)] [(.ref a0), (.long v1)]))
          obtain ⟨T16, X16, e16, st16⟩ := getF X12 hx hZ hown (host := "") (Or.inl (hw _ (List.mem_of_getElem? (i := 12) rfl))) Via.refl e12 P_F_a0_settledSince (g := (mkF m 55 #[.val (.ref a0), .val (.long q1), .second, .val (.int p2), .val (.long v1), .second, .val (.int v2), .val (.int z10)] [(.ref a0), (.long v1)])) rfl rfl (hb hby d10_55)
          refine own_by st16 ?_
          show own_Go p e below _ (T16.setTop (mkF m 58 #[.val (.ref a0), .val (.long q1), .second, .val (.int p2), .val (.long v1), .second, .val (.int v2), .val (.int z10)] [(.long f_a0_settledSince), (.long v1)]))
          refine own_by (fun _ k => XS.lcmp X16.here hx rfl (hb hby d10_58) rfl k) ?_
          show own_Go p e below _ (T16.setTop (mkF m 59 #[.val (.ref a0), .val (.long q1), .second, .val (.int p2), .val (.long v1), .second, .val (.int v2), .val (.int z10)] [(.int (lcmpW v1 f_a0_settledSince))]))
          by_cases c17 : v1 < f_a0_settledSince
          · skip
            refine own_by (fun _ k => XS.ifYes X16.here hx rfl (pc0 := 59) (pc' := 72) rfl (hb hby d10_59) rfl ((if0 _ _).trans (tlt ((lw_lt _ _).mpr c17)).1) (by decide) (by decide) k) ?_
            show own_Go p e below _ (T16.setTop (mkF m 72 #[.val (.ref a0), .val (.long q1), .second, .val (.int p2), .val (.long v1), .second, .val (.int v2), .val (.int z10)] []))
            refine own_by (fun _ k => XS.iconst X16.here hx rfl (hb hby d10_72) k) ?_
            show own_Go p e below _ (T16.setTop (mkF m 73 #[.val (.ref a0), .val (.long q1), .second, .val (.int p2), .val (.long v1), .second, .val (.int v2), .val (.int z10)] [(.int (0 : Int32))]))
            exact own_retN X16 hx (t := .boolean) Bd.returns (by simp) (hb hby d10_73) hlk e16 ⟨_, rfl, N9, rfl, (ob_10_3 q1 p2 f_a0_generation f_a0_settledSince v1 v2 z10 hv1 hv2 hj11 c13 c14 c15 c17)⟩ (by decide) (by decide)
          · skip
            refine own_by (fun _ k => XS.ifNo X16.here hx rfl (hb hby d10_59) rfl ((if0 _ _).trans (flt (fun q => c17 ((lw_lt _ _).mp q))).1) k) ?_
            show own_Go p e below _ (T16.setTop (mkF m 62 #[.val (.ref a0), .val (.long q1), .second, .val (.int p2), .val (.long v1), .second, .val (.int v2), .val (.int z10)] []))
            refine own_by (fun _ k => XS.iload X16.here hx rfl (hb hby d10_62) rfl k) ?_
            show own_Go p e below _ (T16.setTop (mkF m 64 #[.val (.ref a0), .val (.long q1), .second, .val (.int p2), .val (.long v1), .second, .val (.int v2), .val (.int z10)] [(.int v2)]))
            refine own_by (fun _ k => XS.iloadN X16.here hx rfl (hb hby d10_64) rfl k) ?_
            show own_Go p e below _ (T16.setTop (mkF m 65 #[.val (.ref a0), .val (.long q1), .second, .val (.int p2), .val (.long v1), .second, .val (.int v2), .val (.int z10)] [(.int p2), (.int v2)]))
            by_cases c18 : p2 < v2
            · skip
              refine own_by (fun _ k => XS.icmpYes X16.here hx rfl (pc0 := 65) (pc' := 72) rfl (hb hby d10_65) rfl (tlt c18).2.2.1 (by decide) (by decide) k) ?_
              show own_Go p e below _ (T16.setTop (mkF m 72 #[.val (.ref a0), .val (.long q1), .second, .val (.int p2), .val (.long v1), .second, .val (.int v2), .val (.int z10)] []))
              refine own_by (fun _ k => XS.iconst X16.here hx rfl (hb hby d10_72) k) ?_
              show own_Go p e below _ (T16.setTop (mkF m 73 #[.val (.ref a0), .val (.long q1), .second, .val (.int p2), .val (.long v1), .second, .val (.int v2), .val (.int z10)] [(.int (0 : Int32))]))
              exact own_retN X16 hx (t := .boolean) Bd.returns (by simp) (hb hby d10_73) hlk e16 ⟨_, rfl, N9, rfl, (ob_10_4 q1 p2 f_a0_generation f_a0_settledSince v1 v2 z10 hv1 hv2 hj11 c13 c14 c15 c17 c18)⟩ (by decide) (by decide)
            · skip
              refine own_by (fun _ k => XS.icmpNo X16.here hx rfl (hb hby d10_65) rfl (flt c18).2.2.1 k) ?_
              show own_Go p e below _ (T16.setTop (mkF m 68 #[.val (.ref a0), .val (.long q1), .second, .val (.int p2), .val (.long v1), .second, .val (.int v2), .val (.int z10)] []))
              refine own_by (fun _ k => XS.iconst X16.here hx rfl (hb hby d10_68) k) ?_
              show own_Go p e below _ (T16.setTop (mkF m 69 #[.val (.ref a0), .val (.long q1), .second, .val (.int p2), .val (.long v1), .second, .val (.int v2), .val (.int z10)] [(.int (1 : Int32))]))
              refine own_by (fun _ k => XS.goto X16.here hx rfl (pc0 := 69) (pc' := 73) rfl (hb hby d10_69) (by decide) (by decide) k) ?_
              show own_Go p e below _ (T16.setTop (mkF m 73 #[.val (.ref a0), .val (.long q1), .second, .val (.int p2), .val (.long v1), .second, .val (.int v2), .val (.int z10)] [(.int (1 : Int32))]))
              exact own_retN X16 hx (t := .boolean) Bd.returns (by simp) (hb hby d10_73) hlk e16 ⟨_, rfl, N9, rfl, (ob_10_5 q1 p2 f_a0_generation f_a0_settledSince v1 v2 z10 hv1 hv2 hj11 c13 c14 c15 c17 c18)⟩ (by decide) (by decide)
    · skip
      refine own_by (fun _ k => XS.ifYes X12.here hx rfl (pc0 := 38) (pc' := 47) rfl (hb hby d10_38) rfl ((if0 _ _).trans (feq (fun q => c13 ((lw_eq _ _).mp q))).2) (by decide) (by decide) k) ?_
      show own_Go p e below _ (T12.setTop (mkF m 47 #[.val (.ref a0), .val (.long q1), .second, .val (.int p2), .val (.long v1), .second, .val (.int v2), .val (.int z10)] []))
      refine own_by (fun _ k => XS.iload X12.here hx rfl (hb hby d10_47) rfl k) ?_
      show own_Go p e below _ (T12.setTop (mkF m 49 #[.val (.ref a0), .val (.long q1), .second, .val (.int p2), .val (.long v1), .second, .val (.int v2), .val (.int z10)] [(.int z10)]))
      by_cases c19 : z10 = (0 : Int32)
      · skip
        refine own_by (fun _ k => XS.ifYes X12.here hx rfl (pc0 := 49) (pc' := 72) rfl (hb hby d10_49) rfl ((if0 _ _).trans (teq c19).1) (by decide) (by decide) k) ?_
        show own_Go p e below _ (T12.setTop (mkF m 72 #[.val (.ref a0), .val (.long q1), .second, .val (.int p2), .val (.long v1), .second, .val (.int v2), .val (.int z10)] []))
        refine own_by (fun _ k => XS.iconst X12.here hx rfl (hb hby d10_72) k) ?_
        show own_Go p e below _ (T12.setTop (mkF m 73 #[.val (.ref a0), .val (.long q1), .second, .val (.int p2), .val (.long v1), .second, .val (.int v2), .val (.int z10)] [(.int (0 : Int32))]))
        exact own_retN X12 hx (t := .boolean) Bd.returns (by simp) (hb hby d10_73) hlk e12 ⟨_, rfl, N9, rfl, (ob_10_6 q1 p2 f_a0_generation f_a0_settledSince v1 v2 z10 hv1 hv2 hj11 c13 c19)⟩ (by decide) (by decide)
      · skip
        refine own_by (fun _ k => XS.ifNo X12.here hx rfl (hb hby d10_49) rfl ((if0 _ _).trans (feq c19).1) k) ?_
        show own_Go p e below _ (T12.setTop (mkF m 52 #[.val (.ref a0), .val (.long q1), .second, .val (.int p2), .val (.long v1), .second, .val (.int v2), .val (.int z10)] []))
        refine own_by (fun _ k => XS.lload X12.here hx rfl (hb hby d10_52) rfl k) ?_
        show own_Go p e below _ (T12.setTop (mkF m 54 #[.val (.ref a0), .val (.long q1), .second, .val (.int p2), .val (.long v1), .second, .val (.int v2), .val (.int z10)] [(.long v1)]))
        refine own_by (fun _ k => XS.aloadN X12.here hx rfl (hb hby d10_54) rfl rfl k) ?_
        show own_Go p e below _ (T12.setTop (mkF m 55 #[.val (.ref a0), .val (.long q1), .second, .val (.int p2), .val (.long v1), .second, .val (.int v2), .val (.int z10)] [(.ref a0), (.long v1)]))
        obtain ⟨T20, X20, e20, st20⟩ := getF X12 hx hZ hown (host := "") (Or.inl (hw _ (List.mem_of_getElem? (i := 12) rfl))) Via.refl e12 P_F_a0_settledSince (g := (mkF m 55 #[.val (.ref a0), .val (.long q1), .second, .val (.int p2), .val (.long v1), .second, .val (.int v2), .val (.int z10)] [(.ref a0), (.long v1)])) rfl rfl (hb hby d10_55)
        refine own_by st20 ?_
        show own_Go p e below _ (T20.setTop (mkF m 58 #[.val (.ref a0), .val (.long q1), .second, .val (.int p2), .val (.long v1), .second, .val (.int v2), .val (.int z10)] [(.long f_a0_settledSince), (.long v1)]))
        refine own_by (fun _ k => XS.lcmp X20.here hx rfl (hb hby d10_58) rfl k) ?_
        show own_Go p e below _ (T20.setTop (mkF m 59 #[.val (.ref a0), .val (.long q1), .second, .val (.int p2), .val (.long v1), .second, .val (.int v2), .val (.int z10)] [(.int (lcmpW v1 f_a0_settledSince))]))
        by_cases c21 : v1 < f_a0_settledSince
        · skip
          refine own_by (fun _ k => XS.ifYes X20.here hx rfl (pc0 := 59) (pc' := 72) rfl (hb hby d10_59) rfl ((if0 _ _).trans (tlt ((lw_lt _ _).mpr c21)).1) (by decide) (by decide) k) ?_
          show own_Go p e below _ (T20.setTop (mkF m 72 #[.val (.ref a0), .val (.long q1), .second, .val (.int p2), .val (.long v1), .second, .val (.int v2), .val (.int z10)] []))
          refine own_by (fun _ k => XS.iconst X20.here hx rfl (hb hby d10_72) k) ?_
          show own_Go p e below _ (T20.setTop (mkF m 73 #[.val (.ref a0), .val (.long q1), .second, .val (.int p2), .val (.long v1), .second, .val (.int v2), .val (.int z10)] [(.int (0 : Int32))]))
          exact own_retN X20 hx (t := .boolean) Bd.returns (by simp) (hb hby d10_73) hlk e20 ⟨_, rfl, N9, rfl, (ob_10_7 q1 p2 f_a0_generation f_a0_settledSince v1 v2 z10 hv1 hv2 hj11 c13 c19 c21)⟩ (by decide) (by decide)
        · skip
          refine own_by (fun _ k => XS.ifNo X20.here hx rfl (hb hby d10_59) rfl ((if0 _ _).trans (flt (fun q => c21 ((lw_lt _ _).mp q))).1) k) ?_
          show own_Go p e below _ (T20.setTop (mkF m 62 #[.val (.ref a0), .val (.long q1), .second, .val (.int p2), .val (.long v1), .second, .val (.int v2), .val (.int z10)] []))
          refine own_by (fun _ k => XS.iload X20.here hx rfl (hb hby d10_62) rfl k) ?_
          show own_Go p e below _ (T20.setTop (mkF m 64 #[.val (.ref a0), .val (.long q1), .second, .val (.int p2), .val (.long v1), .second, .val (.int v2), .val (.int z10)] [(.int v2)]))
          refine own_by (fun _ k => XS.iloadN X20.here hx rfl (hb hby d10_64) rfl k) ?_
          show own_Go p e below _ (T20.setTop (mkF m 65 #[.val (.ref a0), .val (.long q1), .second, .val (.int p2), .val (.long v1), .second, .val (.int v2), .val (.int z10)] [(.int p2), (.int v2)]))
          by_cases c22 : p2 < v2
          · skip
            refine own_by (fun _ k => XS.icmpYes X20.here hx rfl (pc0 := 65) (pc' := 72) rfl (hb hby d10_65) rfl (tlt c22).2.2.1 (by decide) (by decide) k) ?_
            show own_Go p e below _ (T20.setTop (mkF m 72 #[.val (.ref a0), .val (.long q1), .second, .val (.int p2), .val (.long v1), .second, .val (.int v2), .val (.int z10)] []))
            refine own_by (fun _ k => XS.iconst X20.here hx rfl (hb hby d10_72) k) ?_
            show own_Go p e below _ (T20.setTop (mkF m 73 #[.val (.ref a0), .val (.long q1), .second, .val (.int p2), .val (.long v1), .second, .val (.int v2), .val (.int z10)] [(.int (0 : Int32))]))
            exact own_retN X20 hx (t := .boolean) Bd.returns (by simp) (hb hby d10_73) hlk e20 ⟨_, rfl, N9, rfl, (ob_10_8 q1 p2 f_a0_generation f_a0_settledSince v1 v2 z10 hv1 hv2 hj11 c13 c19 c21 c22)⟩ (by decide) (by decide)
          · skip
            refine own_by (fun _ k => XS.icmpNo X20.here hx rfl (hb hby d10_65) rfl (flt c22).2.2.1 k) ?_
            show own_Go p e below _ (T20.setTop (mkF m 68 #[.val (.ref a0), .val (.long q1), .second, .val (.int p2), .val (.long v1), .second, .val (.int v2), .val (.int z10)] []))
            refine own_by (fun _ k => XS.iconst X20.here hx rfl (hb hby d10_68) k) ?_
            show own_Go p e below _ (T20.setTop (mkF m 69 #[.val (.ref a0), .val (.long q1), .second, .val (.int p2), .val (.long v1), .second, .val (.int v2), .val (.int z10)] [(.int (1 : Int32))]))
            refine own_by (fun _ k => XS.goto X20.here hx rfl (pc0 := 69) (pc' := 73) rfl (hb hby d10_69) (by decide) (by decide) k) ?_
            show own_Go p e below _ (T20.setTop (mkF m 73 #[.val (.ref a0), .val (.long q1), .second, .val (.int p2), .val (.long v1), .second, .val (.int v2), .val (.int z10)] [(.int (1 : Int32))]))
            exact own_retN X20 hx (t := .boolean) Bd.returns (by simp) (hb hby d10_73) hlk e20 ⟨_, rfl, N9, rfl, (ob_10_9 q1 p2 f_a0_generation f_a0_settledSince v1 v2 z10 hv1 hv2 hj11 c13 c19 c21 c22)⟩ (by decide) (by decide)
  by_cases c3 : (q1 &&& (2147483648 : Int64)) = (0 : Int64)
  · skip
    refine own_by (fun _ k => XS.ifYes X0.here hx rfl (pc0 := 21) (pc' := 28) rfl (hb hby d10_21) rfl ((if0 _ _).trans (teq ((lw_eq _ _).mpr c3)).1) (by decide) (by decide) k) ?_
    show own_Go p e below _ (s₁.setTop (mkF m 28 #[.val (.ref a0), .val (.long q1), .second, .val (.int p2), .val (.long v1), .second, .val (.int v2), .unset] []))
    refine own_by (fun _ k => XS.iconst X0.here hx rfl (hb hby d10_28) k) ?_
    show own_Go p e below _ (s₁.setTop (mkF m 29 #[.val (.ref a0), .val (.long q1), .second, .val (.int p2), .val (.long v1), .second, .val (.int v2), .unset] [(.int (0 : Int32))]))
    exact J4 _ _ (0 : Int32) X0 e0 N0 (Or.inl ⟨c3, rfl⟩)
  · skip
    refine own_by (fun _ k => XS.ifNo X0.here hx rfl (hb hby d10_21) rfl ((if0 _ _).trans (feq (fun q => c3 ((lw_eq _ _).mp q))).1) k) ?_
    show own_Go p e below _ (s₁.setTop (mkF m 24 #[.val (.ref a0), .val (.long q1), .second, .val (.int p2), .val (.long v1), .second, .val (.int v2), .unset] []))
    refine own_by (fun _ k => XS.iconst X0.here hx rfl (hb hby d10_24) k) ?_
    show own_Go p e below _ (s₁.setTop (mkF m 25 #[.val (.ref a0), .val (.long q1), .second, .val (.int p2), .val (.long v1), .second, .val (.int v2), .unset] [(.int (1 : Int32))]))
    refine own_by (fun _ k => XS.goto X0.here hx rfl (pc0 := 25) (pc' := 29) rfl (hb hby d10_25) (by decide) (by decide) k) ?_
    show own_Go p e below _ (s₁.setTop (mkF m 29 #[.val (.ref a0), .val (.long q1), .second, .val (.int p2), .val (.long v1), .second, .val (.int v2), .unset] [(.int (1 : Int32))]))
    exact J4 _ _ (1 : Int32) X0 e0 N0 (Or.inr (⟨c3, rfl⟩))
theorem pd_25 : parseMethodDescriptor "(J)I" = some ⟨[.long], some .int⟩ := by decide +kernel
theorem pd_67 : parseMethodDescriptor "(JI)Z" = some ⟨[.long, .int], some .boolean⟩ := by decide +kernel
theorem d5_0 : decode prog_71_method_5_code 0 = .ok (.aload_n 0, 1) := by decide +kernel
theorem d5_1 : decode prog_71_method_5_code 1 = .ok (.lload_n 1, 1) := by decide +kernel
theorem d5_2 : decode prog_71_method_5_code 2 = .ok (.invokevirtual 48, 3) := by decide +kernel
theorem d5_5 : decode prog_71_method_5_code 5 = .ok (.istore 4, 2) := by decide +kernel
theorem d5_7 : decode prog_71_method_5_code 7 = .ok (.iconst (-1), 1) := by decide +kernel
theorem d5_8 : decode prog_71_method_5_code 8 = .ok (.istore 5, 2) := by decide +kernel
theorem d5_10 : decode prog_71_method_5_code 10 = .ok (.iload 4, 2) := by decide +kernel
theorem d5_12 : decode prog_71_method_5_code 12 = .ok (.istore 6, 2) := by decide +kernel
theorem d5_14 : decode prog_71_method_5_code 14 = .ok (.iload 6, 2) := by decide +kernel
theorem d5_16 : decode prog_71_method_5_code 16 = .ok (.iload 4, 2) := by decide +kernel
theorem d5_18 : decode prog_71_method_5_code 18 = .ok (.bipush 8, 2) := by decide +kernel
theorem d5_20 : decode prog_71_method_5_code 20 = .ok (.iadd, 1) := by decide +kernel
theorem d5_21 : decode prog_71_method_5_code 21 = .ok (.if_icmp .ge 45, 3) := by decide +kernel
theorem d5_24 : decode prog_71_method_5_code 24 = .ok (.aload_n 0, 1) := by decide +kernel
theorem d5_25 : decode prog_71_method_5_code 25 = .ok (.getfield 27, 3) := by decide +kernel
theorem d5_28 : decode prog_71_method_5_code 28 = .ok (.iload 6, 2) := by decide +kernel
theorem d5_30 : decode prog_71_method_5_code 30 = .ok (.laload, 1) := by decide +kernel
theorem d5_31 : decode prog_71_method_5_code 31 = .ok (.lload_n 1, 1) := by decide +kernel
theorem d5_32 : decode prog_71_method_5_code 32 = .ok (.lcmp, 1) := by decide +kernel
theorem d5_33 : decode prog_71_method_5_code 33 = .ok (.ifCond .ne 27, 3) := by decide +kernel
theorem d5_36 : decode prog_71_method_5_code 36 = .ok (.aload_n 0, 1) := by decide +kernel
theorem d5_37 : decode prog_71_method_5_code 37 = .ok (.aload_n 0, 1) := by decide +kernel
theorem d5_38 : decode prog_71_method_5_code 38 = .ok (.getfield 27, 3) := by decide +kernel
theorem d5_41 : decode prog_71_method_5_code 41 = .ok (.iload 6, 2) := by decide +kernel
theorem d5_43 : decode prog_71_method_5_code 43 = .ok (.iconst 3, 1) := by decide +kernel
theorem d5_44 : decode prog_71_method_5_code 44 = .ok (.iadd, 1) := by decide +kernel
theorem d5_45 : decode prog_71_method_5_code 45 = .ok (.laload, 1) := by decide +kernel
theorem d5_46 : decode prog_71_method_5_code 46 = .ok (.iload_n 3, 1) := by decide +kernel
theorem d5_47 : decode prog_71_method_5_code 47 = .ok (.invokevirtual 52, 3) := by decide +kernel
theorem d5_50 : decode prog_71_method_5_code 50 = .ok (.ifCond .eq 10, 3) := by decide +kernel
theorem d5_53 : decode prog_71_method_5_code 53 = .ok (.iload 6, 2) := by decide +kernel
theorem d5_55 : decode prog_71_method_5_code 55 = .ok (.istore 5, 2) := by decide +kernel
theorem d5_57 : decode prog_71_method_5_code 57 = .ok (.goto 9, 3) := by decide +kernel
theorem d5_60 : decode prog_71_method_5_code 60 = .ok (.iinc 6 4, 3) := by decide +kernel
theorem d5_63 : decode prog_71_method_5_code 63 = .ok (.goto (-49), 3) := by decide +kernel
theorem d5_66 : decode prog_71_method_5_code 66 = .ok (.iload 5, 2) := by decide +kernel
theorem d5_68 : decode prog_71_method_5_code 68 = .ok (.ireturn, 1) := by decide +kernel
theorem pn_5 : plainName "com/example/plyward/plyward/search/TranspositionTable" = true := by first | (simp [plainName, overriddenIn]; done) | decide +kernel
theorem ef_5 (m : MethodId) (a0 : Addr) (q1 : Int64) (p2 : Int32) : entryFrame m #[(.ref a0), (.long q1), (.int p2)] 7 = mkF m 0 #[.val (.ref a0), .val (.long q1), .second, .val (.int p2), .unset, .unset, .unset] [] := by first | (simp [entryFrame, mkF, argsToLocals, Value.category]; done) | rfl
theorem ob_5_10 (fn_f_a0_entries : Nat → Int64) (q1 : Int64) (p2 : Int32) (f_a0_generation : Int64) (f_a0_settledSince : Int64) (o8 : Int32) (o17 : Int32) (c4 : (fn_f_a0_entries 0) = q1) (hp9 : (o8 = (1 : Int32) ∧ own_holds (fn_f_a0_entries 3) p2 f_a0_generation f_a0_settledSince) ∨ (o8 = (0 : Int32) ∧ ¬ own_holds (fn_f_a0_entries 3) p2 f_a0_generation f_a0_settledSince)) (c10 : o8 = (0 : Int32)) (c13 : (fn_f_a0_entries 4) = q1) (hp18 : (o17 = (1 : Int32) ∧ own_holds (fn_f_a0_entries 7) p2 f_a0_generation f_a0_settledSince) ∨ (o17 = (0 : Int32) ∧ ¬ own_holds (fn_f_a0_entries 7) p2 f_a0_generation f_a0_settledSince)) (c19 : o17 = (0 : Int32)) : own_find fn_f_a0_entries q1 p2 f_a0_generation f_a0_settledSince (-1 : Int32) := by
  simp only [own_find]
  grind
theorem ob_5_11 (fn_f_a0_entries : Nat → Int64) (q1 : Int64) (p2 : Int32) (f_a0_generation : Int64) (f_a0_settledSince : Int64) (o8 : Int32) (o17 : Int32) (c4 : (fn_f_a0_entries 0) = q1) (hp9 : (o8 = (1 : Int32) ∧ own_holds (fn_f_a0_entries 3) p2 f_a0_generation f_a0_settledSince) ∨ (o8 = (0 : Int32) ∧ ¬ own_holds (fn_f_a0_entries 3) p2 f_a0_generation f_a0_settledSince)) (c10 : o8 = (0 : Int32)) (c13 : (fn_f_a0_entries 4) = q1) (hp18 : (o17 = (1 : Int32) ∧ own_holds (fn_f_a0_entries 7) p2 f_a0_generation f_a0_settledSince) ∨ (o17 = (0 : Int32) ∧ ¬ own_holds (fn_f_a0_entries 7) p2 f_a0_generation f_a0_settledSince)) (c19 : ¬ (o17 = (0 : Int32))) : own_find fn_f_a0_entries q1 p2 f_a0_generation f_a0_settledSince (4 : Int32) := by
  simp only [own_find]
  grind
theorem ob_5_12 (fn_f_a0_entries : Nat → Int64) (q1 : Int64) (p2 : Int32) (f_a0_generation : Int64) (f_a0_settledSince : Int64) (o8 : Int32) (c4 : (fn_f_a0_entries 0) = q1) (hp9 : (o8 = (1 : Int32) ∧ own_holds (fn_f_a0_entries 3) p2 f_a0_generation f_a0_settledSince) ∨ (o8 = (0 : Int32) ∧ ¬ own_holds (fn_f_a0_entries 3) p2 f_a0_generation f_a0_settledSince)) (c10 : o8 = (0 : Int32)) (c13 : ¬ ((fn_f_a0_entries 4) = q1)) : own_find fn_f_a0_entries q1 p2 f_a0_generation f_a0_settledSince (-1 : Int32) := by
  simp only [own_find]
  grind
theorem ob_5_13 (fn_f_a0_entries : Nat → Int64) (q1 : Int64) (p2 : Int32) (f_a0_generation : Int64) (f_a0_settledSince : Int64) (o8 : Int32) (c4 : (fn_f_a0_entries 0) = q1) (hp9 : (o8 = (1 : Int32) ∧ own_holds (fn_f_a0_entries 3) p2 f_a0_generation f_a0_settledSince) ∨ (o8 = (0 : Int32) ∧ ¬ own_holds (fn_f_a0_entries 3) p2 f_a0_generation f_a0_settledSince)) (c10 : ¬ (o8 = (0 : Int32))) : own_find fn_f_a0_entries q1 p2 f_a0_generation f_a0_settledSince (0 : Int32) := by
  simp only [own_find]
  grind
theorem ob_5_14 (fn_f_a0_entries : Nat → Int64) (q1 : Int64) (p2 : Int32) (f_a0_generation : Int64) (f_a0_settledSince : Int64) (o26 : Int32) (c4 : ¬ ((fn_f_a0_entries 0) = q1)) (c22 : (fn_f_a0_entries 4) = q1) (hp27 : (o26 = (1 : Int32) ∧ own_holds (fn_f_a0_entries 7) p2 f_a0_generation f_a0_settledSince) ∨ (o26 = (0 : Int32) ∧ ¬ own_holds (fn_f_a0_entries 7) p2 f_a0_generation f_a0_settledSince)) (c28 : o26 = (0 : Int32)) : own_find fn_f_a0_entries q1 p2 f_a0_generation f_a0_settledSince (-1 : Int32) := by
  simp only [own_find]
  grind
theorem ob_5_15 (fn_f_a0_entries : Nat → Int64) (q1 : Int64) (p2 : Int32) (f_a0_generation : Int64) (f_a0_settledSince : Int64) (o26 : Int32) (c4 : ¬ ((fn_f_a0_entries 0) = q1)) (c22 : (fn_f_a0_entries 4) = q1) (hp27 : (o26 = (1 : Int32) ∧ own_holds (fn_f_a0_entries 7) p2 f_a0_generation f_a0_settledSince) ∨ (o26 = (0 : Int32) ∧ ¬ own_holds (fn_f_a0_entries 7) p2 f_a0_generation f_a0_settledSince)) (c28 : ¬ (o26 = (0 : Int32))) : own_find fn_f_a0_entries q1 p2 f_a0_generation f_a0_settledSince (4 : Int32) := by
  simp only [own_find]
  grind
theorem ob_5_16 (fn_f_a0_entries : Nat → Int64) (q1 : Int64) (p2 : Int32) (f_a0_generation : Int64) (f_a0_settledSince : Int64) (c4 : ¬ ((fn_f_a0_entries 0) = q1)) (c22 : ¬ ((fn_f_a0_entries 4) = q1)) : own_find fn_f_a0_entries q1 p2 f_a0_generation f_a0_settledSince (-1 : Int32) := by
  simp only [own_find]
  grind
def Q5 (Z : State) (f_a0_entries : Addr) (k_f_a0_entries : ClassId) (fn_f_a0_entries : Nat → Int64) (a0 : Addr) (q1 : Int64) (p2 : Int32) (f_a0_generation : Int64) (f_a0_settledSince : Int64) (h0 : Heap) (n0 : Nat) (v : Option Value) (h : Heap) (L : List Loc) : Prop := ∃ (zz : Int32), v = some (.int zz) ∧ Fr n0 L ∧ h = h0 ∧ (own_find fn_f_a0_entries q1 p2 f_a0_generation f_a0_settledSince zz)
set_option maxRecDepth 65536 in
set_option maxHeartbeats 40000000 in
theorem rm5 (l : Launch) (Z : State) (A0 : Array Value) (hw : ∀ d ∈ tables_1, d.before A0 Z = true) (ws : List Jvm.Cond) (f_a0_entries : Addr) (k_f_a0_entries : ClassId) (fn_f_a0_entries : Nat → Int64) (a0 : Addr) (q1 : Int64) (p2 : Int32) (f_a0_generation : Int64) (f_a0_settledSince : Int64) (h0 : Heap) (n0 : Nat) (Z0 : n0 ≤ h0.size) (P_F_a0_entries : Fld Z h0 a0 "com/example/plyward/plyward/search/TranspositionTable" "entries" "[J" (.ref f_a0_entries)) (P_V_f_a0_entries : own_Arf Z h0 f_a0_entries k_f_a0_entries .long (8 : Int32) (fun i => .long (fn_f_a0_entries i))) (P_F_a0_shift : Fld Z h0 a0 "com/example/plyward/plyward/search/TranspositionTable" "shift" "I" (.int (63 : Int32))) (P_E_a0 : Exa Z h0 a0 "com/example/plyward/plyward/search/TranspositionTable") (P_F_a0_generation : Fld Z h0 a0 "com/example/plyward/plyward/search/TranspositionTable" "generation" "J" (.long f_a0_generation)) (P_F_a0_settledSince : Fld Z h0 a0 "com/example/plyward/plyward/search/TranspositionTable" "settledSince" "J" (.long f_a0_settledSince)) :
    MetFree l (⟨"com/example/plyward/plyward/search/TranspositionTable", "find", "(JI)I"⟩ : MethodName) (head1 (Jvm.Cond.code (⟨"com/example/plyward/plyward/search/TranspositionTable", "find", "(JI)I"⟩ : MethodName) prog_71_method_5_code 7 (some .int) :: ws) ({ frames := 1, cells := 0, slots := 0, locals := 19 } : Room)) (fun a U => a = #[(.ref a0), (.long q1), (.int p2)] ∧ Z.Warmed39 U.vm ∧ U.heap = h0) (fun _ _ _ _ _ => True) (fun _ U o U' => ∃ v L, o = .returned v ∧ Q5 Z f_a0_entries k_f_a0_entries fn_f_a0_entries a0 q1 p2 f_a0_generation f_a0_settledSince h0 n0 v U'.heap L ∧ FrameEnd U o U' L 0 0) := by
  refine MetFree.of_bodySF (plainFor_of_name pn_5) hisR ?_
  intro p e s m args below meth c s₁ Bd hml0 hP hK
  obtain ⟨rfl, hZ, hh⟩ := hP
  have hx := Bd.exec
  have hby := Bd.bytes
  have hml : c.maxLocals = 7 := hml0
  have hlk : meth.locks = false := Bd.notSynchronized
  have hown : s.vm.findClass "com/example/plyward/plyward/search/TranspositionTable" = some m.cls := findClass_of_methodNamed Bd.named
  have hnm := (name_of_methodNamed Bd.named Bd.method).1
  have X0 : Stand p l e ({ frames := 1, cells := 0, slots := 0, locals := 19 } : Room) s m #[(.ref a0), (.long q1), (.int p2)] below meth c s₁ [] 0 0 := Stand.of_body Bd
  have e0 : s₁.heap = h0 := by rw [← hh, Bd.state]; rfl
  have N0 := Fr.nil n0
  show own_Go p e below (own_Fin s 0 0 (Q5 Z f_a0_entries k_f_a0_entries fn_f_a0_entries a0 q1 p2 f_a0_generation f_a0_settledSince h0 n0)) _
  refine own_by (fun t k => castTop (ef_5 m a0 q1 p2) k) ?_
  show own_Go p e below _ (s₁.setTop (mkF m 0 #[.val (.ref a0), .val (.long q1), .second, .val (.int p2), .unset, .unset, .unset] []))
  refine own_by (fun _ k => XS.aloadN X0.here hx rfl (hb hby d5_0) rfl rfl k) ?_
  show own_Go p e below _ (s₁.setTop (mkF m 1 #[.val (.ref a0), .val (.long q1), .second, .val (.int p2), .unset, .unset, .unset] [(.ref a0)]))
  refine own_by (fun _ k => XS.lloadN X0.here hx rfl (hb hby d5_1) rfl k) ?_
  show own_Go p e below _ (s₁.setTop (mkF m 2 #[.val (.ref a0), .val (.long q1), .second, .val (.int p2), .unset, .unset, .unset] [(.long q1), (.ref a0)]))
  obtain ⟨cq1, qq1, qq1'⟩ := P_E_a0.cell
  obtain ⟨_, _, ⟨T1, L1, k1, n1⟩, -, X1, ⟨Lc1, hQ1, l1, y1, z1⟩, st1⟩ := X0.privateBack hx (y := (⟨"com/example/plyward/plyward/search/TranspositionTable", "bucket", "(J)I"⟩ : MethodName)) hown (mvT hZ (hw _ (List.mem_of_getElem? (i := 25) rfl))) (mvT hZ (hw _ (List.mem_of_getElem? (i := 26) rfl))) (own_selPriv hZ (hw _ (List.mem_of_getElem? (i := 2) rfl)) (hw _ (List.mem_of_getElem? (i := 27) rfl)) (hw _ (List.mem_of_getElem? (i := 26) rfl)) (by decide)) (Cond.privateMethod_at (mvP hZ (hw _ (List.mem_of_getElem? (i := 27) rfl)) (args := #[]))) (mvT hZ (hw _ (List.mem_of_getElem? (i := 28) rfl))) (by decide) (backOf (W := 0) (rm4 l Z A0 hw [] a0 q1 h0 n0 Z0 P_F_a0_shift) hZ (hw _ (List.mem_of_getElem? (i := 28) rfl)) (hw _ (List.mem_of_getElem? (i := 3) rfl)) (by decide) (by decide)) (g := (mkF m 2 #[.val (.ref a0), .val (.long q1), .second, .val (.int p2), .unset, .unset, .unset] [(.long q1), (.ref a0)])) rfl (by rw [hml]; rfl) (Steps.refl _) (a := a0) (by rw [e0]; exact qq1) qq1' (argsL := [(.long q1)]) (rest := []) (lenOf pd_25 rfl) rfl (by show 2 * 0 + _ ≤ _; exact Nat.le_of_eq rfl) (hb hby d5_2) (fun _ _ => ⟨rfl, e0, (by decide : 0 + 0 ≤ _), (by decide : 0 + 0 ≤ _)⟩)
  dsimp only [Pt.U, Pt.locs, Pt.cells, Pt.slots] at X1 l1 y1 z1 st1 hQ1
  subst l1 y1 z1
  obtain ⟨rfl, Nq1, eq1⟩ := hQ1
  have N1 := Fr.app N0 Nq1
  refine own_by (fun _ k => st1.trans k) ?_
  show own_Go p e below _ (T1.setTop (mkF m 5 #[.val (.ref a0), .val (.long q1), .second, .val (.int p2), .unset, .unset, .unset] [(.int (0 : Int32))]))
  refine own_by (fun _ k => XS.istore X1.here hx rfl (hb hby d5_5) rfl (l' := #[.val (.ref a0), .val (.long q1), .second, .val (.int p2), .val (.int (0 : Int32)), .unset, .unset]) rfl k) ?_
  show own_Go p e below _ (T1.setTop (mkF m 7 #[.val (.ref a0), .val (.long q1), .second, .val (.int p2), .val (.int (0 : Int32)), .unset, .unset] []))
  refine own_by (fun _ k => XS.iconst X1.here hx rfl (hb hby d5_7) k) ?_
  show own_Go p e below _ (T1.setTop (mkF m 8 #[.val (.ref a0), .val (.long q1), .second, .val (.int p2), .val (.int (0 : Int32)), .unset, .unset] [(.int (-1 : Int32))]))
  refine own_by (fun _ k => XS.istore X1.here hx rfl (hb hby d5_8) rfl (l' := #[.val (.ref a0), .val (.long q1), .second, .val (.int p2), .val (.int (0 : Int32)), .val (.int (-1 : Int32)), .unset]) rfl k) ?_
  show own_Go p e below _ (T1.setTop (mkF m 10 #[.val (.ref a0), .val (.long q1), .second, .val (.int p2), .val (.int (0 : Int32)), .val (.int (-1 : Int32)), .unset] []))
  refine own_by (fun _ k => XS.iload X1.here hx rfl (hb hby d5_10) rfl k) ?_
  show own_Go p e below _ (T1.setTop (mkF m 12 #[.val (.ref a0), .val (.long q1), .second, .val (.int p2), .val (.int (0 : Int32)), .val (.int (-1 : Int32)), .unset] [(.int (0 : Int32))]))
  refine own_by (fun _ k => XS.istore X1.here hx rfl (hb hby d5_12) rfl (l' := #[.val (.ref a0), .val (.long q1), .second, .val (.int p2), .val (.int (0 : Int32)), .val (.int (-1 : Int32)), .val (.int (0 : Int32))]) rfl k) ?_
  show own_Go p e below _ (T1.setTop (mkF m 14 #[.val (.ref a0), .val (.long q1), .second, .val (.int p2), .val (.int (0 : Int32)), .val (.int (-1 : Int32)), .val (.int (0 : Int32))] []))
  refine own_by (fun _ k => XS.iload X1.here hx rfl (hb hby d5_14) rfl k) ?_
  show own_Go p e below _ (T1.setTop (mkF m 16 #[.val (.ref a0), .val (.long q1), .second, .val (.int p2), .val (.int (0 : Int32)), .val (.int (-1 : Int32)), .val (.int (0 : Int32))] [(.int (0 : Int32))]))
  refine own_by (fun _ k => XS.iload X1.here hx rfl (hb hby d5_16) rfl k) ?_
  show own_Go p e below _ (T1.setTop (mkF m 18 #[.val (.ref a0), .val (.long q1), .second, .val (.int p2), .val (.int (0 : Int32)), .val (.int (-1 : Int32)), .val (.int (0 : Int32))] [(.int (0 : Int32)), (.int (0 : Int32))]))
  refine own_by (fun _ k => XS.bipush X1.here hx rfl (hb hby d5_18) k) ?_
  show own_Go p e below _ (T1.setTop (mkF m 20 #[.val (.ref a0), .val (.long q1), .second, .val (.int p2), .val (.int (0 : Int32)), .val (.int (-1 : Int32)), .val (.int (0 : Int32))] [(.int (8 : Int32)), (.int (0 : Int32)), (.int (0 : Int32))]))
  refine own_by (fun _ k => XS.iadd X1.here hx rfl (hb hby d5_20) rfl k) ?_
  show own_Go p e below _ (T1.setTop (mkF m 21 #[.val (.ref a0), .val (.long q1), .second, .val (.int p2), .val (.int (0 : Int32)), .val (.int (-1 : Int32)), .val (.int (0 : Int32))] [(.int (8 : Int32)), (.int (0 : Int32))]))
  refine own_by (fun _ k => XS.icmpNo X1.here hx rfl (hb hby d5_21) rfl (tlt (by decide : (0 : Int32) < (8 : Int32))).2.1 k) ?_
  show own_Go p e below _ (T1.setTop (mkF m 24 #[.val (.ref a0), .val (.long q1), .second, .val (.int p2), .val (.int (0 : Int32)), .val (.int (-1 : Int32)), .val (.int (0 : Int32))] []))
  refine own_by (fun _ k => XS.aloadN X1.here hx rfl (hb hby d5_24) rfl rfl k) ?_
  show own_Go p e below _ (T1.setTop (mkF m 25 #[.val (.ref a0), .val (.long q1), .second, .val (.int p2), .val (.int (0 : Int32)), .val (.int (-1 : Int32)), .val (.int (0 : Int32))] [(.ref a0)]))
  obtain ⟨T2, X2, e2, st2⟩ := getF X1 hx hZ hown (host := "") (Or.inl (hw _ (List.mem_of_getElem? (i := 15) rfl))) Via.refl eq1 P_F_a0_entries (g := (mkF m 25 #[.val (.ref a0), .val (.long q1), .second, .val (.int p2), .val (.int (0 : Int32)), .val (.int (-1 : Int32)), .val (.int (0 : Int32))] [(.ref a0)])) rfl rfl (hb hby d5_25)
  refine own_by st2 ?_
  show own_Go p e below _ (T2.setTop (mkF m 28 #[.val (.ref a0), .val (.long q1), .second, .val (.int p2), .val (.int (0 : Int32)), .val (.int (-1 : Int32)), .val (.int (0 : Int32))] [(.ref f_a0_entries)]))
  refine own_by (fun _ k => XS.iload X2.here hx rfl (hb hby d5_28) rfl k) ?_
  show own_Go p e below _ (T2.setTop (mkF m 30 #[.val (.ref a0), .val (.long q1), .second, .val (.int p2), .val (.int (0 : Int32)), .val (.int (-1 : Int32)), .val (.int (0 : Int32))] [(.int (0 : Int32)), (.ref f_a0_entries)]))
  obtain ⟨cl3, Ar3, qq3, S3, M3, H3, G3⟩ := id P_V_f_a0_entries
  have hin3 : ¬ ((0 : Int32) < 0 ∨ cl3.slots.size ≤ ((0 : Int32)).toNatClampNeg) := inb_of S3 ⟨by decide, by decide⟩
  refine own_by (fun t k => X2.laload hx (j := (0 : Int32)) (v := (.long (fn_f_a0_entries 0))) (by rw [e2]; exact Ar3.1) (State.isArrayOf_alike hZ.alike Ar3.2.1) Ar3.2.2 hin3 (H3 _ (Nat.lt_of_not_le fun y => hin3 (Or.inr y))) (g := (mkF m 30 #[.val (.ref a0), .val (.long q1), .second, .val (.int p2), .val (.int (0 : Int32)), .val (.int (-1 : Int32)), .val (.int (0 : Int32))] [(.int (0 : Int32)), (.ref f_a0_entries)])) rfl rfl (hb hby d5_30) _ k) ?_
  show own_Go p e below _ (T2.setTop (mkF m 31 #[.val (.ref a0), .val (.long q1), .second, .val (.int p2), .val (.int (0 : Int32)), .val (.int (-1 : Int32)), .val (.int (0 : Int32))] [(.long (fn_f_a0_entries 0))]))
  refine own_by (fun _ k => XS.lloadN X2.here hx rfl (hb hby d5_31) rfl k) ?_
  show own_Go p e below _ (T2.setTop (mkF m 32 #[.val (.ref a0), .val (.long q1), .second, .val (.int p2), .val (.int (0 : Int32)), .val (.int (-1 : Int32)), .val (.int (0 : Int32))] [(.long q1), (.long (fn_f_a0_entries 0))]))
  refine own_by (fun _ k => XS.lcmp X2.here hx rfl (hb hby d5_32) rfl k) ?_
  show own_Go p e below _ (T2.setTop (mkF m 33 #[.val (.ref a0), .val (.long q1), .second, .val (.int p2), .val (.int (0 : Int32)), .val (.int (-1 : Int32)), .val (.int (0 : Int32))] [(.int (lcmpW (fn_f_a0_entries 0) q1))]))
  by_cases c4 : (fn_f_a0_entries 0) = q1
  · skip
    refine own_by (fun _ k => XS.ifNo X2.here hx rfl (hb hby d5_33) rfl ((if0 _ _).trans (teq ((lw_eq _ _).mpr c4)).2) k) ?_
    show own_Go p e below _ (T2.setTop (mkF m 36 #[.val (.ref a0), .val (.long q1), .second, .val (.int p2), .val (.int (0 : Int32)), .val (.int (-1 : Int32)), .val (.int (0 : Int32))] []))
    refine own_by (fun _ k => XS.aloadN X2.here hx rfl (hb hby d5_36) rfl rfl k) ?_
    show own_Go p e below _ (T2.setTop (mkF m 37 #[.val (.ref a0), .val (.long q1), .second, .val (.int p2), .val (.int (0 : Int32)), .val (.int (-1 : Int32)), .val (.int (0 : Int32))] [(.ref a0)]))
    refine own_by (fun _ k => XS.aloadN X2.here hx rfl (hb hby d5_37) rfl rfl k) ?_
    show own_Go p e below _ (T2.setTop (mkF m 38 #[.val (.ref a0), .val (.long q1), .second, .val (.int p2), .val (.int (0 : Int32)), .val (.int (-1 : Int32)), .val (.int (0 : Int32))] [(.ref a0), (.ref a0)]))
    obtain ⟨T5, X5, e5, st5⟩ := getF X2 hx hZ hown (host := "") (Or.inl (hw _ (List.mem_of_getElem? (i := 15) rfl))) Via.refl e2 P_F_a0_entries (g := (mkF m 38 #[.val (.ref a0), .val (.long q1), .second, .val (.int p2), .val (.int (0 : Int32)), .val (.int (-1 : Int32)), .val (.int (0 : Int32))] [(.ref a0), (.ref a0)])) rfl rfl (hb hby d5_38)
    refine own_by st5 ?_
    show own_Go p e below _ (T5.setTop (mkF m 41 #[.val (.ref a0), .val (.long q1), .second, .val (.int p2), .val (.int (0 : Int32)), .val (.int (-1 : Int32)), .val (.int (0 : Int32))] [(.ref f_a0_entries), (.ref a0)]))
    refine own_by (fun _ k => XS.iload X5.here hx rfl (hb hby d5_41) rfl k) ?_
    show own_Go p e below _ (T5.setTop (mkF m 43 #[.val (.ref a0), .val (.long q1), .second, .val (.int p2), .val (.int (0 : Int32)), .val (.int (-1 : Int32)), .val (.int (0 : Int32))] [(.int (0 : Int32)), (.ref f_a0_entries), (.ref a0)]))
    refine own_by (fun _ k => XS.iconst X5.here hx rfl (hb hby d5_43) k) ?_
    show own_Go p e below _ (T5.setTop (mkF m 44 #[.val (.ref a0), .val (.long q1), .second, .val (.int p2), .val (.int (0 : Int32)), .val (.int (-1 : Int32)), .val (.int (0 : Int32))] [(.int (3 : Int32)), (.int (0 : Int32)), (.ref f_a0_entries), (.ref a0)]))
    refine own_by (fun _ k => XS.iadd X5.here hx rfl (hb hby d5_44) rfl k) ?_
    show own_Go p e below _ (T5.setTop (mkF m 45 #[.val (.ref a0), .val (.long q1), .second, .val (.int p2), .val (.int (0 : Int32)), .val (.int (-1 : Int32)), .val (.int (0 : Int32))] [(.int (3 : Int32)), (.ref f_a0_entries), (.ref a0)]))
    obtain ⟨cl6, Ar6, qq6, S6, M6, H6, G6⟩ := id P_V_f_a0_entries
    have hin6 : ¬ ((3 : Int32) < 0 ∨ cl6.slots.size ≤ ((3 : Int32)).toNatClampNeg) := inb_of S6 ⟨by decide, by decide⟩
    refine own_by (fun t k => X5.laload hx (j := (3 : Int32)) (v := (.long (fn_f_a0_entries 3))) (by rw [e5]; exact Ar6.1) (State.isArrayOf_alike hZ.alike Ar6.2.1) Ar6.2.2 hin6 (H6 _ (Nat.lt_of_not_le fun y => hin6 (Or.inr y))) (g := (mkF m 45 #[.val (.ref a0), .val (.long q1), .second, .val (.int p2), .val (.int (0 : Int32)), .val (.int (-1 : Int32)), .val (.int (0 : Int32))] [(.int (3 : Int32)), (.ref f_a0_entries), (.ref a0)])) rfl rfl (hb hby d5_45) _ k) ?_
    show own_Go p e below _ (T5.setTop (mkF m 46 #[.val (.ref a0), .val (.long q1), .second, .val (.int p2), .val (.int (0 : Int32)), .val (.int (-1 : Int32)), .val (.int (0 : Int32))] [(.long (fn_f_a0_entries 3)), (.ref a0)]))
    refine own_by (fun _ k => XS.iloadN X5.here hx rfl (hb hby d5_46) rfl k) ?_
    show own_Go p e below _ (T5.setTop (mkF m 47 #[.val (.ref a0), .val (.long q1), .second, .val (.int p2), .val (.int (0 : Int32)), .val (.int (-1 : Int32)), .val (.int (0 : Int32))] [(.int p2), (.long (fn_f_a0_entries 3)), (.ref a0)]))
    obtain ⟨cq7, qq7, qq7'⟩ := P_E_a0.cell
    obtain ⟨_, _, ⟨T7, L7, k7, n7⟩, -, X7, ⟨Lc7, hQ7, l7, y7, z7⟩, st7⟩ := X5.privateBack hx (y := (⟨"com/example/plyward/plyward/search/TranspositionTable", "holdsAt", "(JI)Z"⟩ : MethodName)) hown (mvT hZ (hw _ (List.mem_of_getElem? (i := 67) rfl))) (mvT hZ (hw _ (List.mem_of_getElem? (i := 68) rfl))) (own_selPriv hZ (hw _ (List.mem_of_getElem? (i := 2) rfl)) (hw _ (List.mem_of_getElem? (i := 69) rfl)) (hw _ (List.mem_of_getElem? (i := 68) rfl)) (by decide)) (Cond.privateMethod_at (mvP hZ (hw _ (List.mem_of_getElem? (i := 69) rfl)) (args := #[]))) (mvT hZ (hw _ (List.mem_of_getElem? (i := 70) rfl))) (by decide) (backOf (W := 0) (rm10 l Z A0 hw [] a0 (fn_f_a0_entries 3) p2 f_a0_generation f_a0_settledSince h0 n0 Z0 P_F_a0_generation P_F_a0_settledSince) hZ (hw _ (List.mem_of_getElem? (i := 70) rfl)) (hw _ (List.mem_of_getElem? (i := 3) rfl)) (by decide) (by decide)) (g := (mkF m 47 #[.val (.ref a0), .val (.long q1), .second, .val (.int p2), .val (.int (0 : Int32)), .val (.int (-1 : Int32)), .val (.int (0 : Int32))] [(.int p2), (.long (fn_f_a0_entries 3)), (.ref a0)])) rfl (by rw [hml]; rfl) (Steps.refl _) (a := a0) (by rw [e5]; exact qq7) qq7' (argsL := [(.long (fn_f_a0_entries 3)), (.int p2)]) (rest := []) (lenOf pd_67 rfl) rfl (by show 2 * 0 + _ ≤ _; exact Nat.le_of_eq rfl) (hb hby d5_47) (fun _ _ => ⟨rfl, e5, (by decide : 0 + 0 ≤ _), (by decide : 0 + 0 ≤ _)⟩)
    dsimp only [Pt.U, Pt.locs, Pt.cells, Pt.slots] at X7 l7 y7 z7 st7 hQ7
    subst l7 y7 z7
    obtain ⟨o8, rfl, Nq7, eq7, hp9⟩ := hQ7
    have N7 := Fr.app N1 Nq7
    refine own_by (fun _ k => st7.trans k) ?_
    show own_Go p e below _ (T7.setTop (mkF m 50 #[.val (.ref a0), .val (.long q1), .second, .val (.int p2), .val (.int (0 : Int32)), .val (.int (-1 : Int32)), .val (.int (0 : Int32))] [(.int o8)]))
    by_cases c10 : o8 = (0 : Int32)
    · skip
      refine own_by (fun _ k => XS.ifYes X7.here hx rfl (pc0 := 50) (pc' := 60) rfl (hb hby d5_50) rfl ((if0 _ _).trans (teq c10).1) (by decide) (by decide) k) ?_
      show own_Go p e below _ (T7.setTop (mkF m 60 #[.val (.ref a0), .val (.long q1), .second, .val (.int p2), .val (.int (0 : Int32)), .val (.int (-1 : Int32)), .val (.int (0 : Int32))] []))
      refine own_by (fun _ k => XS.iinc X7.here hx rfl (hb hby d5_60) rfl (l' := #[.val (.ref a0), .val (.long q1), .second, .val (.int p2), .val (.int (0 : Int32)), .val (.int (-1 : Int32)), .val (.int (4 : Int32))]) rfl k) ?_
      show own_Go p e below _ (T7.setTop (mkF m 63 #[.val (.ref a0), .val (.long q1), .second, .val (.int p2), .val (.int (0 : Int32)), .val (.int (-1 : Int32)), .val (.int (4 : Int32))] []))
      refine own_by (fun _ k => XS.goto X7.here hx rfl (pc0 := 63) (pc' := 14) rfl (hb hby d5_63) (by decide) (by decide) k) ?_
      show own_Go p e below _ (T7.setTop (mkF m 14 #[.val (.ref a0), .val (.long q1), .second, .val (.int p2), .val (.int (0 : Int32)), .val (.int (-1 : Int32)), .val (.int (4 : Int32))] []))
      refine own_by (fun _ k => XS.iload X7.here hx rfl (hb hby d5_14) rfl k) ?_
      show own_Go p e below _ (T7.setTop (mkF m 16 #[.val (.ref a0), .val (.long q1), .second, .val (.int p2), .val (.int (0 : Int32)), .val (.int (-1 : Int32)), .val (.int (4 : Int32))] [(.int (4 : Int32))]))
      refine own_by (fun _ k => XS.iload X7.here hx rfl (hb hby d5_16) rfl k) ?_
      show own_Go p e below _ (T7.setTop (mkF m 18 #[.val (.ref a0), .val (.long q1), .second, .val (.int p2), .val (.int (0 : Int32)), .val (.int (-1 : Int32)), .val (.int (4 : Int32))] [(.int (0 : Int32)), (.int (4 : Int32))]))
      refine own_by (fun _ k => XS.bipush X7.here hx rfl (hb hby d5_18) k) ?_
      show own_Go p e below _ (T7.setTop (mkF m 20 #[.val (.ref a0), .val (.long q1), .second, .val (.int p2), .val (.int (0 : Int32)), .val (.int (-1 : Int32)), .val (.int (4 : Int32))] [(.int (8 : Int32)), (.int (0 : Int32)), (.int (4 : Int32))]))
      refine own_by (fun _ k => XS.iadd X7.here hx rfl (hb hby d5_20) rfl k) ?_
      show own_Go p e below _ (T7.setTop (mkF m 21 #[.val (.ref a0), .val (.long q1), .second, .val (.int p2), .val (.int (0 : Int32)), .val (.int (-1 : Int32)), .val (.int (4 : Int32))] [(.int (8 : Int32)), (.int (4 : Int32))]))
      refine own_by (fun _ k => XS.icmpNo X7.here hx rfl (hb hby d5_21) rfl (tlt (by decide : (4 : Int32) < (8 : Int32))).2.1 k) ?_
      show own_Go p e below _ (T7.setTop (mkF m 24 #[.val (.ref a0), .val (.long q1), .second, .val (.int p2), .val (.int (0 : Int32)), .val (.int (-1 : Int32)), .val (.int (4 : Int32))] []))
      refine own_by (fun _ k => XS.aloadN X7.here hx rfl (hb hby d5_24) rfl rfl k) ?_
      show own_Go p e below _ (T7.setTop (mkF m 25 #[.val (.ref a0), .val (.long q1), .second, .val (.int p2), .val (.int (0 : Int32)), .val (.int (-1 : Int32)), .val (.int (4 : Int32))] [(.ref a0)]))
      obtain ⟨T11, X11, e11, st11⟩ := getF X7 hx hZ hown (host := "") (Or.inl (hw _ (List.mem_of_getElem? (i := 15) rfl))) Via.refl eq7 P_F_a0_entries (g := (mkF m 25 #[.val (.ref a0), .val (.long q1), .second, .val (.int p2), .val (.int (0 : Int32)), .val (.int (-1 : Int32)), .val (.int (4 : Int32))] [(.ref a0)])) rfl rfl (hb hby d5_25)
      refine own_by st11 ?_
      show own_Go p e below _ (T11.setTop (mkF m 28 #[.val (.ref a0), .val (.long q1), .second, .val (.int p2), .val (.int (0 : Int32)), .val (.int (-1 : Int32)), .val (.int (4 : Int32))] [(.ref f_a0_entries)]))
      refine own_by (fun _ k => XS.iload X11.here hx rfl (hb hby d5_28) rfl k) ?_
      show own_Go p e below _ (T11.setTop (mkF m 30 #[.val (.ref a0), .val (.long q1), .second, .val (.int p2), .val (.int (0 : Int32)), .val (.int (-1 : Int32)), .val (.int (4 : Int32))] [(.int (4 : Int32)), (.ref f_a0_entries)]))
      obtain ⟨cl12, Ar12, qq12, S12, M12, H12, G12⟩ := id P_V_f_a0_entries
      have hin12 : ¬ ((4 : Int32) < 0 ∨ cl12.slots.size ≤ ((4 : Int32)).toNatClampNeg) := inb_of S12 ⟨by decide, by decide⟩
      refine own_by (fun t k => X11.laload hx (j := (4 : Int32)) (v := (.long (fn_f_a0_entries 4))) (by rw [e11]; exact Ar12.1) (State.isArrayOf_alike hZ.alike Ar12.2.1) Ar12.2.2 hin12 (H12 _ (Nat.lt_of_not_le fun y => hin12 (Or.inr y))) (g := (mkF m 30 #[.val (.ref a0), .val (.long q1), .second, .val (.int p2), .val (.int (0 : Int32)), .val (.int (-1 : Int32)), .val (.int (4 : Int32))] [(.int (4 : Int32)), (.ref f_a0_entries)])) rfl rfl (hb hby d5_30) _ k) ?_
      show own_Go p e below _ (T11.setTop (mkF m 31 #[.val (.ref a0), .val (.long q1), .second, .val (.int p2), .val (.int (0 : Int32)), .val (.int (-1 : Int32)), .val (.int (4 : Int32))] [(.long (fn_f_a0_entries 4))]))
      refine own_by (fun _ k => XS.lloadN X11.here hx rfl (hb hby d5_31) rfl k) ?_
      show own_Go p e below _ (T11.setTop (mkF m 32 #[.val (.ref a0), .val (.long q1), .second, .val (.int p2), .val (.int (0 : Int32)), .val (.int (-1 : Int32)), .val (.int (4 : Int32))] [(.long q1), (.long (fn_f_a0_entries 4))]))
      refine own_by (fun _ k => XS.lcmp X11.here hx rfl (hb hby d5_32) rfl k) ?_
      show own_Go p e below _ (T11.setTop (mkF m 33 #[.val (.ref a0), .val (.long q1), .second, .val (.int p2), .val (.int (0 : Int32)), .val (.int (-1 : Int32)), .val (.int (4 : Int32))] [(.int (lcmpW (fn_f_a0_entries 4) q1))]))
      by_cases c13 : (fn_f_a0_entries 4) = q1
      · skip
        refine own_by (fun _ k => XS.ifNo X11.here hx rfl (hb hby d5_33) rfl ((if0 _ _).trans (teq ((lw_eq _ _).mpr c13)).2) k) ?_
        show own_Go p e below _ (T11.setTop (mkF m 36 #[.val (.ref a0), .val (.long q1), .second, .val (.int p2), .val (.int (0 : Int32)), .val (.int (-1 : Int32)), .val (.int (4 : Int32))] []))
        refine own_by (fun _ k => XS.aloadN X11.here hx rfl (hb hby d5_36) rfl rfl k) ?_
        show own_Go p e below _ (T11.setTop (mkF m 37 #[.val (.ref a0), .val (.long q1), .second, .val (.int p2), .val (.int (0 : Int32)), .val (.int (-1 : Int32)), .val (.int (4 : Int32))] [(.ref a0)]))
        refine own_by (fun _ k => XS.aloadN X11.here hx rfl (hb hby d5_37) rfl rfl k) ?_
        show own_Go p e below _ (T11.setTop (mkF m 38 #[.val (.ref a0), .val (.long q1), .second, .val (.int p2), .val (.int (0 : Int32)), .val (.int (-1 : Int32)), .val (.int (4 : Int32))] [(.ref a0), (.ref a0)]))
        obtain ⟨T14, X14, e14, st14⟩ := getF X11 hx hZ hown (host := "") (Or.inl (hw _ (List.mem_of_getElem? (i := 15) rfl))) Via.refl e11 P_F_a0_entries (g := (mkF m 38 #[.val (.ref a0), .val (.long q1), .second, .val (.int p2), .val (.int (0 : Int32)), .val (.int (-1 : Int32)), .val (.int (4 : Int32))] [(.ref a0), (.ref a0)])) rfl rfl (hb hby d5_38)
        refine own_by st14 ?_
        show own_Go p e below _ (T14.setTop (mkF m 41 #[.val (.ref a0), .val (.long q1), .second, .val (.int p2), .val (.int (0 : Int32)), .val (.int (-1 : Int32)), .val (.int (4 : Int32))] [(.ref f_a0_entries), (.ref a0)]))
        refine own_by (fun _ k => XS.iload X14.here hx rfl (hb hby d5_41) rfl k) ?_
        show own_Go p e below _ (T14.setTop (mkF m 43 #[.val (.ref a0), .val (.long q1), .second, .val (.int p2), .val (.int (0 : Int32)), .val (.int (-1 : Int32)), .val (.int (4 : Int32))] [(.int (4 : Int32)), (.ref f_a0_entries), (.ref a0)]))
        refine own_by (fun _ k => XS.iconst X14.here hx rfl (hb hby d5_43) k) ?_
        show own_Go p e below _ (T14.setTop (mkF m 44 #[.val (.ref a0), .val (.long q1), .second, .val (.int p2), .val (.int (0 : Int32)), .val (.int (-1 : Int32)), .val (.int (4 : Int32))] [(.int (3 : Int32)), (.int (4 : Int32)), (.ref f_a0_entries), (.ref a0)]))
        refine own_by (fun _ k => XS.iadd X14.here hx rfl (hb hby d5_44) rfl k) ?_
        show own_Go p e below _ (T14.setTop (mkF m 45 #[.val (.ref a0), .val (.long q1), .second, .val (.int p2), .val (.int (0 : Int32)), .val (.int (-1 : Int32)), .val (.int (4 : Int32))] [(.int (7 : Int32)), (.ref f_a0_entries), (.ref a0)]))
        obtain ⟨cl15, Ar15, qq15, S15, M15, H15, G15⟩ := id P_V_f_a0_entries
        have hin15 : ¬ ((7 : Int32) < 0 ∨ cl15.slots.size ≤ ((7 : Int32)).toNatClampNeg) := inb_of S15 ⟨by decide, by decide⟩
        refine own_by (fun t k => X14.laload hx (j := (7 : Int32)) (v := (.long (fn_f_a0_entries 7))) (by rw [e14]; exact Ar15.1) (State.isArrayOf_alike hZ.alike Ar15.2.1) Ar15.2.2 hin15 (H15 _ (Nat.lt_of_not_le fun y => hin15 (Or.inr y))) (g := (mkF m 45 #[.val (.ref a0), .val (.long q1), .second, .val (.int p2), .val (.int (0 : Int32)), .val (.int (-1 : Int32)), .val (.int (4 : Int32))] [(.int (7 : Int32)), (.ref f_a0_entries), (.ref a0)])) rfl rfl (hb hby d5_45) _ k) ?_
        show own_Go p e below _ (T14.setTop (mkF m 46 #[.val (.ref a0), .val (.long q1), .second, .val (.int p2), .val (.int (0 : Int32)), .val (.int (-1 : Int32)), .val (.int (4 : Int32))] [(.long (fn_f_a0_entries 7)), (.ref a0)]))
        refine own_by (fun _ k => XS.iloadN X14.here hx rfl (hb hby d5_46) rfl k) ?_
        show own_Go p e below _ (T14.setTop (mkF m 47 #[.val (.ref a0), .val (.long q1), .second, .val (.int p2), .val (.int (0 : Int32)), .val (.int (-1 : Int32)), .val (.int (4 : Int32))] [(.int p2), (.long (fn_f_a0_entries 7)), (.ref a0)]))
        obtain ⟨cq16, qq16, qq16'⟩ := P_E_a0.cell
        obtain ⟨_, _, ⟨T16, L16, k16, n16⟩, -, X16, ⟨Lc16, hQ16, l16, y16, z16⟩, st16⟩ := X14.privateBack hx (y := (⟨"com/example/plyward/plyward/search/TranspositionTable", "holdsAt", "(JI)Z"⟩ : MethodName)) hown (mvT hZ (hw _ (List.mem_of_getElem? (i := 67) rfl))) (mvT hZ (hw _ (List.mem_of_getElem? (i := 68) rfl))) (own_selPriv hZ (hw _ (List.mem_of_getElem? (i := 2) rfl)) (hw _ (List.mem_of_getElem? (i := 69) rfl)) (hw _ (List.mem_of_getElem? (i := 68) rfl)) (by decide)) (Cond.privateMethod_at (mvP hZ (hw _ (List.mem_of_getElem? (i := 69) rfl)) (args := #[]))) (mvT hZ (hw _ (List.mem_of_getElem? (i := 70) rfl))) (by decide) (backOf (W := 0) (rm10 l Z A0 hw [] a0 (fn_f_a0_entries 7) p2 f_a0_generation f_a0_settledSince h0 n0 Z0 P_F_a0_generation P_F_a0_settledSince) hZ (hw _ (List.mem_of_getElem? (i := 70) rfl)) (hw _ (List.mem_of_getElem? (i := 3) rfl)) (by decide) (by decide)) (g := (mkF m 47 #[.val (.ref a0), .val (.long q1), .second, .val (.int p2), .val (.int (0 : Int32)), .val (.int (-1 : Int32)), .val (.int (4 : Int32))] [(.int p2), (.long (fn_f_a0_entries 7)), (.ref a0)])) rfl (by rw [hml]; rfl) (Steps.refl _) (a := a0) (by rw [e14]; exact qq16) qq16' (argsL := [(.long (fn_f_a0_entries 7)), (.int p2)]) (rest := []) (lenOf pd_67 rfl) rfl (by show 2 * 0 + _ ≤ _; exact Nat.le_of_eq rfl) (hb hby d5_47) (fun _ _ => ⟨rfl, e14, (by decide : 0 + 0 ≤ _), (by decide : 0 + 0 ≤ _)⟩)
        dsimp only [Pt.U, Pt.locs, Pt.cells, Pt.slots] at X16 l16 y16 z16 st16 hQ16
        subst l16 y16 z16
        obtain ⟨o17, rfl, Nq16, eq16, hp18⟩ := hQ16
        have N16 := Fr.app N7 Nq16
        refine own_by (fun _ k => st16.trans k) ?_
        show own_Go p e below _ (T16.setTop (mkF m 50 #[.val (.ref a0), .val (.long q1), .second, .val (.int p2), .val (.int (0 : Int32)), .val (.int (-1 : Int32)), .val (.int (4 : Int32))] [(.int o17)]))
        by_cases c19 : o17 = (0 : Int32)
        · skip
          refine own_by (fun _ k => XS.ifYes X16.here hx rfl (pc0 := 50) (pc' := 60) rfl (hb hby d5_50) rfl ((if0 _ _).trans (teq c19).1) (by decide) (by decide) k) ?_
          show own_Go p e below _ (T16.setTop (mkF m 60 #[.val (.ref a0), .val (.long q1), .second, .val (.int p2), .val (.int (0 : Int32)), .val (.int (-1 : Int32)), .val (.int (4 : Int32))] []))
          refine own_by (fun _ k => XS.iinc X16.here hx rfl (hb hby d5_60) rfl (l' := #[.val (.ref a0), .val (.long q1), .second, .val (.int p2), .val (.int (0 : Int32)), .val (.int (-1 : Int32)), .val (.int (8 : Int32))]) rfl k) ?_
          show own_Go p e below _ (T16.setTop (mkF m 63 #[.val (.ref a0), .val (.long q1), .second, .val (.int p2), .val (.int (0 : Int32)), .val (.int (-1 : Int32)), .val (.int (8 : Int32))] []))
          refine own_by (fun _ k => XS.goto X16.here hx rfl (pc0 := 63) (pc' := 14) rfl (hb hby d5_63) (by decide) (by decide) k) ?_
          show own_Go p e below _ (T16.setTop (mkF m 14 #[.val (.ref a0), .val (.long q1), .second, .val (.int p2), .val (.int (0 : Int32)), .val (.int (-1 : Int32)), .val (.int (8 : Int32))] []))
          refine own_by (fun _ k => XS.iload X16.here hx rfl (hb hby d5_14) rfl k) ?_
          show own_Go p e below _ (T16.setTop (mkF m 16 #[.val (.ref a0), .val (.long q1), .second, .val (.int p2), .val (.int (0 : Int32)), .val (.int (-1 : Int32)), .val (.int (8 : Int32))] [(.int (8 : Int32))]))
          refine own_by (fun _ k => XS.iload X16.here hx rfl (hb hby d5_16) rfl k) ?_
          show own_Go p e below _ (T16.setTop (mkF m 18 #[.val (.ref a0), .val (.long q1), .second, .val (.int p2), .val (.int (0 : Int32)), .val (.int (-1 : Int32)), .val (.int (8 : Int32))] [(.int (0 : Int32)), (.int (8 : Int32))]))
          refine own_by (fun _ k => XS.bipush X16.here hx rfl (hb hby d5_18) k) ?_
          show own_Go p e below _ (T16.setTop (mkF m 20 #[.val (.ref a0), .val (.long q1), .second, .val (.int p2), .val (.int (0 : Int32)), .val (.int (-1 : Int32)), .val (.int (8 : Int32))] [(.int (8 : Int32)), (.int (0 : Int32)), (.int (8 : Int32))]))
          refine own_by (fun _ k => XS.iadd X16.here hx rfl (hb hby d5_20) rfl k) ?_
          show own_Go p e below _ (T16.setTop (mkF m 21 #[.val (.ref a0), .val (.long q1), .second, .val (.int p2), .val (.int (0 : Int32)), .val (.int (-1 : Int32)), .val (.int (8 : Int32))] [(.int (8 : Int32)), (.int (8 : Int32))]))
          refine own_by (fun _ k => XS.icmpYes X16.here hx rfl (pc0 := 21) (pc' := 66) rfl (hb hby d5_21) rfl (flt (by decide : ¬ ((8 : Int32) < (8 : Int32)))).2.1 (by decide) (by decide) k) ?_
          show own_Go p e below _ (T16.setTop (mkF m 66 #[.val (.ref a0), .val (.long q1), .second, .val (.int p2), .val (.int (0 : Int32)), .val (.int (-1 : Int32)), .val (.int (8 : Int32))] []))
          refine own_by (fun _ k => XS.iload X16.here hx rfl (hb hby d5_66) rfl k) ?_
          show own_Go p e below _ (T16.setTop (mkF m 68 #[.val (.ref a0), .val (.long q1), .second, .val (.int p2), .val (.int (0 : Int32)), .val (.int (-1 : Int32)), .val (.int (8 : Int32))] [(.int (-1 : Int32))]))
          exact own_retI X16 hx Bd.returns (hb hby d5_68) hlk eq16 ⟨_, rfl, N16, rfl, (ob_5_10 fn_f_a0_entries q1 p2 f_a0_generation f_a0_settledSince o8 o17 c4 hp9 c10 c13 hp18 c19)⟩ (by decide) (by decide)
        · skip
          refine own_by (fun _ k => XS.ifNo X16.here hx rfl (hb hby d5_50) rfl ((if0 _ _).trans (feq c19).1) k) ?_
          show own_Go p e below _ (T16.setTop (mkF m 53 #[.val (.ref a0), .val (.long q1), .second, .val (.int p2), .val (.int (0 : Int32)), .val (.int (-1 : Int32)), .val (.int (4 : Int32))] []))
          refine own_by (fun _ k => XS.iload X16.here hx rfl (hb hby d5_53) rfl k) ?_
          show own_Go p e below _ (T16.setTop (mkF m 55 #[.val (.ref a0), .val (.long q1), .second, .val (.int p2), .val (.int (0 : Int32)), .val (.int (-1 : Int32)), .val (.int (4 : Int32))] [(.int (4 : Int32))]))
          refine own_by (fun _ k => XS.istore X16.here hx rfl (hb hby d5_55) rfl (l' := #[.val (.ref a0), .val (.long q1), .second, .val (.int p2), .val (.int (0 : Int32)), .val (.int (4 : Int32)), .val (.int (4 : Int32))]) rfl k) ?_
          show own_Go p e below _ (T16.setTop (mkF m 57 #[.val (.ref a0), .val (.long q1), .second, .val (.int p2), .val (.int (0 : Int32)), .val (.int (4 : Int32)), .val (.int (4 : Int32))] []))
          refine own_by (fun _ k => XS.goto X16.here hx rfl (pc0 := 57) (pc' := 66) rfl (hb hby d5_57) (by decide) (by decide) k) ?_
          show own_Go p e below _ (T16.setTop (mkF m 66 #[.val (.ref a0), .val (.long q1), .second, .val (.int p2), .val (.int (0 : Int32)), .val (.int (4 : Int32)), .val (.int (4 : Int32))] []))
          refine own_by (fun _ k => XS.iload X16.here hx rfl (hb hby d5_66) rfl k) ?_
          show own_Go p e below _ (T16.setTop (mkF m 68 #[.val (.ref a0), .val (.long q1), .second, .val (.int p2), .val (.int (0 : Int32)), .val (.int (4 : Int32)), .val (.int (4 : Int32))] [(.int (4 : Int32))]))
          exact own_retI X16 hx Bd.returns (hb hby d5_68) hlk eq16 ⟨_, rfl, N16, rfl, (ob_5_11 fn_f_a0_entries q1 p2 f_a0_generation f_a0_settledSince o8 o17 c4 hp9 c10 c13 hp18 c19)⟩ (by decide) (by decide)
      · skip
        refine own_by (fun _ k => XS.ifYes X11.here hx rfl (pc0 := 33) (pc' := 60) rfl (hb hby d5_33) rfl ((if0 _ _).trans (feq (fun q => c13 ((lw_eq _ _).mp q))).2) (by decide) (by decide) k) ?_
        show own_Go p e below _ (T11.setTop (mkF m 60 #[.val (.ref a0), .val (.long q1), .second, .val (.int p2), .val (.int (0 : Int32)), .val (.int (-1 : Int32)), .val (.int (4 : Int32))] []))
        refine own_by (fun _ k => XS.iinc X11.here hx rfl (hb hby d5_60) rfl (l' := #[.val (.ref a0), .val (.long q1), .second, .val (.int p2), .val (.int (0 : Int32)), .val (.int (-1 : Int32)), .val (.int (8 : Int32))]) rfl k) ?_
        show own_Go p e below _ (T11.setTop (mkF m 63 #[.val (.ref a0), .val (.long q1), .second, .val (.int p2), .val (.int (0 : Int32)), .val (.int (-1 : Int32)), .val (.int (8 : Int32))] []))
        refine own_by (fun _ k => XS.goto X11.here hx rfl (pc0 := 63) (pc' := 14) rfl (hb hby d5_63) (by decide) (by decide) k) ?_
        show own_Go p e below _ (T11.setTop (mkF m 14 #[.val (.ref a0), .val (.long q1), .second, .val (.int p2), .val (.int (0 : Int32)), .val (.int (-1 : Int32)), .val (.int (8 : Int32))] []))
        refine own_by (fun _ k => XS.iload X11.here hx rfl (hb hby d5_14) rfl k) ?_
        show own_Go p e below _ (T11.setTop (mkF m 16 #[.val (.ref a0), .val (.long q1), .second, .val (.int p2), .val (.int (0 : Int32)), .val (.int (-1 : Int32)), .val (.int (8 : Int32))] [(.int (8 : Int32))]))
        refine own_by (fun _ k => XS.iload X11.here hx rfl (hb hby d5_16) rfl k) ?_
        show own_Go p e below _ (T11.setTop (mkF m 18 #[.val (.ref a0), .val (.long q1), .second, .val (.int p2), .val (.int (0 : Int32)), .val (.int (-1 : Int32)), .val (.int (8 : Int32))] [(.int (0 : Int32)), (.int (8 : Int32))]))
        refine own_by (fun _ k => XS.bipush X11.here hx rfl (hb hby d5_18) k) ?_
        show own_Go p e below _ (T11.setTop (mkF m 20 #[.val (.ref a0), .val (.long q1), .second, .val (.int p2), .val (.int (0 : Int32)), .val (.int (-1 : Int32)), .val (.int (8 : Int32))] [(.int (8 : Int32)), (.int (0 : Int32)), (.int (8 : Int32))]))
        refine own_by (fun _ k => XS.iadd X11.here hx rfl (hb hby d5_20) rfl k) ?_
        show own_Go p e below _ (T11.setTop (mkF m 21 #[.val (.ref a0), .val (.long q1), .second, .val (.int p2), .val (.int (0 : Int32)), .val (.int (-1 : Int32)), .val (.int (8 : Int32))] [(.int (8 : Int32)), (.int (8 : Int32))]))
        refine own_by (fun _ k => XS.icmpYes X11.here hx rfl (pc0 := 21) (pc' := 66) rfl (hb hby d5_21) rfl (flt (by decide : ¬ ((8 : Int32) < (8 : Int32)))).2.1 (by decide) (by decide) k) ?_
        show own_Go p e below _ (T11.setTop (mkF m 66 #[.val (.ref a0), .val (.long q1), .second, .val (.int p2), .val (.int (0 : Int32)), .val (.int (-1 : Int32)), .val (.int (8 : Int32))] []))
        refine own_by (fun _ k => XS.iload X11.here hx rfl (hb hby d5_66) rfl k) ?_
        show own_Go p e below _ (T11.setTop (mkF m 68 #[.val (.ref a0), .val (.long q1), .second, .val (.int p2), .val (.int (0 : Int32)), .val (.int (-1 : Int32)), .val (.int (8 : Int32))] [(.int (-1 : Int32))]))
        exact own_retI X11 hx Bd.returns (hb hby d5_68) hlk e11 ⟨_, rfl, N7, rfl, (ob_5_12 fn_f_a0_entries q1 p2 f_a0_generation f_a0_settledSince o8 c4 hp9 c10 c13)⟩ (by decide) (by decide)
    · skip
      refine own_by (fun _ k => XS.ifNo X7.here hx rfl (hb hby d5_50) rfl ((if0 _ _).trans (feq c10).1) k) ?_
      show own_Go p e below _ (T7.setTop (mkF m 53 #[.val (.ref a0), .val (.long q1), .second, .val (.int p2), .val (.int (0 : Int32)), .val (.int (-1 : Int32)), .val (.int (0 : Int32))] []))
      refine own_by (fun _ k => XS.iload X7.here hx rfl (hb hby d5_53) rfl k) ?_
      show own_Go p e below _ (T7.setTop (mkF m 55 #[.val (.ref a0), .val (.long q1), .second, .val (.int p2), .val (.int (0 : Int32)), .val (.int (-1 : Int32)), .val (.int (0 : Int32))] [(.int (0 : Int32))]))
      refine own_by (fun _ k => XS.istore X7.here hx rfl (hb hby d5_55) rfl (l' := #[.val (.ref a0), .val (.long q1), .second, .val (.int p2), .val (.int (0 : Int32)), .val (.int (0 : Int32)), .val (.int (0 : Int32))]) rfl k) ?_
      show own_Go p e below _ (T7.setTop (mkF m 57 #[.val (.ref a0), .val (.long q1), .second, .val (.int p2), .val (.int (0 : Int32)), .val (.int (0 : Int32)), .val (.int (0 : Int32))] []))
      refine own_by (fun _ k => XS.goto X7.here hx rfl (pc0 := 57) (pc' := 66) rfl (hb hby d5_57) (by decide) (by decide) k) ?_
      show own_Go p e below _ (T7.setTop (mkF m 66 #[.val (.ref a0), .val (.long q1), .second, .val (.int p2), .val (.int (0 : Int32)), .val (.int (0 : Int32)), .val (.int (0 : Int32))] []))
      refine own_by (fun _ k => XS.iload X7.here hx rfl (hb hby d5_66) rfl k) ?_
      show own_Go p e below _ (T7.setTop (mkF m 68 #[.val (.ref a0), .val (.long q1), .second, .val (.int p2), .val (.int (0 : Int32)), .val (.int (0 : Int32)), .val (.int (0 : Int32))] [(.int (0 : Int32))]))
      exact own_retI X7 hx Bd.returns (hb hby d5_68) hlk eq7 ⟨_, rfl, N7, rfl, (ob_5_13 fn_f_a0_entries q1 p2 f_a0_generation f_a0_settledSince o8 c4 hp9 c10)⟩ (by decide) (by decide)
  · skip
    refine own_by (fun _ k => XS.ifYes X2.here hx rfl (pc0 := 33) (pc' := 60) rfl (hb hby d5_33) rfl ((if0 _ _).trans (feq (fun q => c4 ((lw_eq _ _).mp q))).2) (by decide) (by decide) k) ?_
    show own_Go p e below _ (T2.setTop (mkF m 60 #[.val (.ref a0), .val (.long q1), .second, .val (.int p2), .val (.int (0 : Int32)), .val (.int (-1 : Int32)), .val (.int (0 : Int32))] []))
    refine own_by (fun _ k => XS.iinc X2.here hx rfl (hb hby d5_60) rfl (l' := #[.val (.ref a0), .val (.long q1), .second, .val (.int p2), .val (.int (0 : Int32)), .val (.int (-1 : Int32)), .val (.int (4 : Int32))]) rfl k) ?_
    show own_Go p e below _ (T2.setTop (mkF m 63 #[.val (.ref a0), .val (.long q1), .second, .val (.int p2), .val (.int (0 : Int32)), .val (.int (-1 : Int32)), .val (.int (4 : Int32))] []))
    refine own_by (fun _ k => XS.goto X2.here hx rfl (pc0 := 63) (pc' := 14) rfl (hb hby d5_63) (by decide) (by decide) k) ?_
    show own_Go p e below _ (T2.setTop (mkF m 14 #[.val (.ref a0), .val (.long q1), .second, .val (.int p2), .val (.int (0 : Int32)), .val (.int (-1 : Int32)), .val (.int (4 : Int32))] []))
    refine own_by (fun _ k => XS.iload X2.here hx rfl (hb hby d5_14) rfl k) ?_
    show own_Go p e below _ (T2.setTop (mkF m 16 #[.val (.ref a0), .val (.long q1), .second, .val (.int p2), .val (.int (0 : Int32)), .val (.int (-1 : Int32)), .val (.int (4 : Int32))] [(.int (4 : Int32))]))
    refine own_by (fun _ k => XS.iload X2.here hx rfl (hb hby d5_16) rfl k) ?_
    show own_Go p e below _ (T2.setTop (mkF m 18 #[.val (.ref a0), .val (.long q1), .second, .val (.int p2), .val (.int (0 : Int32)), .val (.int (-1 : Int32)), .val (.int (4 : Int32))] [(.int (0 : Int32)), (.int (4 : Int32))]))
    refine own_by (fun _ k => XS.bipush X2.here hx rfl (hb hby d5_18) k) ?_
    show own_Go p e below _ (T2.setTop (mkF m 20 #[.val (.ref a0), .val (.long q1), .second, .val (.int p2), .val (.int (0 : Int32)), .val (.int (-1 : Int32)), .val (.int (4 : Int32))] [(.int (8 : Int32)), (.int (0 : Int32)), (.int (4 : Int32))]))
    refine own_by (fun _ k => XS.iadd X2.here hx rfl (hb hby d5_20) rfl k) ?_
    show own_Go p e below _ (T2.setTop (mkF m 21 #[.val (.ref a0), .val (.long q1), .second, .val (.int p2), .val (.int (0 : Int32)), .val (.int (-1 : Int32)), .val (.int (4 : Int32))] [(.int (8 : Int32)), (.int (4 : Int32))]))
    refine own_by (fun _ k => XS.icmpNo X2.here hx rfl (hb hby d5_21) rfl (tlt (by decide : (4 : Int32) < (8 : Int32))).2.1 k) ?_
    show own_Go p e below _ (T2.setTop (mkF m 24 #[.val (.ref a0), .val (.long q1), .second, .val (.int p2), .val (.int (0 : Int32)), .val (.int (-1 : Int32)), .val (.int (4 : Int32))] []))
    refine own_by (fun _ k => XS.aloadN X2.here hx rfl (hb hby d5_24) rfl rfl k) ?_
    show own_Go p e below _ (T2.setTop (mkF m 25 #[.val (.ref a0), .val (.long q1), .second, .val (.int p2), .val (.int (0 : Int32)), .val (.int (-1 : Int32)), .val (.int (4 : Int32))] [(.ref a0)]))
    obtain ⟨T20, X20, e20, st20⟩ := getF X2 hx hZ hown (host := "") (Or.inl (hw _ (List.mem_of_getElem? (i := 15) rfl))) Via.refl e2 P_F_a0_entries (g := (mkF m 25 #[.val (.ref a0), .val (.long q1), .second, .val (.int p2), .val (.int (0 : Int32)), .val (.int (-1 : Int32)), .val (.int (4 : Int32))] [(.ref a0)])) rfl rfl (hb hby d5_25)
    refine own_by st20 ?_
    show own_Go p e below _ (T20.setTop (mkF m 28 #[.val (.ref a0), .val (.long q1), .second, .val (.int p2), .val (.int (0 : Int32)), .val (.int (-1 : Int32)), .val (.int (4 : Int32))] [(.ref f_a0_entries)]))
    refine own_by (fun _ k => XS.iload X20.here hx rfl (hb hby d5_28) rfl k) ?_
    show own_Go p e below _ (T20.setTop (mkF m 30 #[.val (.ref a0), .val (.long q1), .second, .val (.int p2), .val (.int (0 : Int32)), .val (.int (-1 : Int32)), .val (.int (4 : Int32))] [(.int (4 : Int32)), (.ref f_a0_entries)]))
    obtain ⟨cl21, Ar21, qq21, S21, M21, H21, G21⟩ := id P_V_f_a0_entries
    have hin21 : ¬ ((4 : Int32) < 0 ∨ cl21.slots.size ≤ ((4 : Int32)).toNatClampNeg) := inb_of S21 ⟨by decide, by decide⟩
    refine own_by (fun t k => X20.laload hx (j := (4 : Int32)) (v := (.long (fn_f_a0_entries 4))) (by rw [e20]; exact Ar21.1) (State.isArrayOf_alike hZ.alike Ar21.2.1) Ar21.2.2 hin21 (H21 _ (Nat.lt_of_not_le fun y => hin21 (Or.inr y))) (g := (mkF m 30 #[.val (.ref a0), .val (.long q1), .second, .val (.int p2), .val (.int (0 : Int32)), .val (.int (-1 : Int32)), .val (.int (4 : Int32))] [(.int (4 : Int32)), (.ref f_a0_entries)])) rfl rfl (hb hby d5_30) _ k) ?_
    show own_Go p e below _ (T20.setTop (mkF m 31 #[.val (.ref a0), .val (.long q1), .second, .val (.int p2), .val (.int (0 : Int32)), .val (.int (-1 : Int32)), .val (.int (4 : Int32))] [(.long (fn_f_a0_entries 4))]))
    refine own_by (fun _ k => XS.lloadN X20.here hx rfl (hb hby d5_31) rfl k) ?_
    show own_Go p e below _ (T20.setTop (mkF m 32 #[.val (.ref a0), .val (.long q1), .second, .val (.int p2), .val (.int (0 : Int32)), .val (.int (-1 : Int32)), .val (.int (4 : Int32))] [(.long q1), (.long (fn_f_a0_entries 4))]))
    refine own_by (fun _ k => XS.lcmp X20.here hx rfl (hb hby d5_32) rfl k) ?_
    show own_Go p e below _ (T20.setTop (mkF m 33 #[.val (.ref a0), .val (.long q1), .second, .val (.int p2), .val (.int (0 : Int32)), .val (.int (-1 : Int32)), .val (.int (4 : Int32))] [(.int (lcmpW (fn_f_a0_entries 4) q1))]))
    by_cases c22 : (fn_f_a0_entries 4) = q1
    · skip
      refine own_by (fun _ k => XS.ifNo X20.here hx rfl (hb hby d5_33) rfl ((if0 _ _).trans (teq ((lw_eq _ _).mpr c22)).2) k) ?_
      show own_Go p e below _ (T20.setTop (mkF m 36 #[.val (.ref a0), .val (.long q1), .second, .val (.int p2), .val (.int (0 : Int32)), .val (.int (-1 : Int32)), .val (.int (4 : Int32))] []))
      refine own_by (fun _ k => XS.aloadN X20.here hx rfl (hb hby d5_36) rfl rfl k) ?_
      show own_Go p e below _ (T20.setTop (mkF m 37 #[.val (.ref a0), .val (.long q1), .second, .val (.int p2), .val (.int (0 : Int32)), .val (.int (-1 : Int32)), .val (.int (4 : Int32))] [(.ref a0)]))
      refine own_by (fun _ k => XS.aloadN X20.here hx rfl (hb hby d5_37) rfl rfl k) ?_
      show own_Go p e below _ (T20.setTop (mkF m 38 #[.val (.ref a0), .val (.long q1), .second, .val (.int p2), .val (.int (0 : Int32)), .val (.int (-1 : Int32)), .val (.int (4 : Int32))] [(.ref a0), (.ref a0)]))
      obtain ⟨T23, X23, e23, st23⟩ := getF X20 hx hZ hown (host := "") (Or.inl (hw _ (List.mem_of_getElem? (i := 15) rfl))) Via.refl e20 P_F_a0_entries (g := (mkF m 38 #[.val (.ref a0), .val (.long q1), .second, .val (.int p2), .val (.int (0 : Int32)), .val (.int (-1 : Int32)), .val (.int (4 : Int32))] [(.ref a0), (.ref a0)])) rfl rfl (hb hby d5_38)
      refine own_by st23 ?_
      show own_Go p e below _ (T23.setTop (mkF m 41 #[.val (.ref a0), .val (.long q1), .second, .val (.int p2), .val (.int (0 : Int32)), .val (.int (-1 : Int32)), .val (.int (4 : Int32))] [(.ref f_a0_entries), (.ref a0)]))
      refine own_by (fun _ k => XS.iload X23.here hx rfl (hb hby d5_41) rfl k) ?_
      show own_Go p e below _ (T23.setTop (mkF m 43 #[.val (.ref a0), .val (.long q1), .second, .val (.int p2), .val (.int (0 : Int32)), .val (.int (-1 : Int32)), .val (.int (4 : Int32))] [(.int (4 : Int32)), (.ref f_a0_entries), (.ref a0)]))
      refine own_by (fun _ k => XS.iconst X23.here hx rfl (hb hby d5_43) k) ?_
      show own_Go p e below _ (T23.setTop (mkF m 44 #[.val (.ref a0), .val (.long q1), .second, .val (.int p2), .val (.int (0 : Int32)), .val (.int (-1 : Int32)), .val (.int (4 : Int32))] [(.int (3 : Int32)), (.int (4 : Int32)), (.ref f_a0_entries), (.ref a0)]))
      refine own_by (fun _ k => XS.iadd X23.here hx rfl (hb hby d5_44) rfl k) ?_
      show own_Go p e below _ (T23.setTop (mkF m 45 #[.val (.ref a0), .val (.long q1), .second, .val (.int p2), .val (.int (0 : Int32)), .val (.int (-1 : Int32)), .val (.int (4 : Int32))] [(.int (7 : Int32)), (.ref f_a0_entries), (.ref a0)]))
      obtain ⟨cl24, Ar24, qq24, S24, M24, H24, G24⟩ := id P_V_f_a0_entries
      have hin24 : ¬ ((7 : Int32) < 0 ∨ cl24.slots.size ≤ ((7 : Int32)).toNatClampNeg) := inb_of S24 ⟨by decide, by decide⟩
      refine own_by (fun t k => X23.laload hx (j := (7 : Int32)) (v := (.long (fn_f_a0_entries 7))) (by rw [e23]; exact Ar24.1) (State.isArrayOf_alike hZ.alike Ar24.2.1) Ar24.2.2 hin24 (H24 _ (Nat.lt_of_not_le fun y => hin24 (Or.inr y))) (g := (mkF m 45 #[.val (.ref a0), .val (.long q1), .second, .val (.int p2), .val (.int (0 : Int32)), .val (.int (-1 : Int32)), .val (.int (4 : Int32))] [(.int (7 : Int32)), (.ref f_a0_entries), (.ref a0)])) rfl rfl (hb hby d5_45) _ k) ?_
      show own_Go p e below _ (T23.setTop (mkF m 46 #[.val (.ref a0), .val (.long q1), .second, .val (.int p2), .val (.int (0 : Int32)), .val (.int (-1 : Int32)), .val (.int (4 : Int32))] [(.long (fn_f_a0_entries 7)), (.ref a0)]))
      refine own_by (fun _ k => XS.iloadN X23.here hx rfl (hb hby d5_46) rfl k) ?_
      show own_Go p e below _ (T23.setTop (mkF m 47 #[.val (.ref a0), .val (.long q1), .second, .val (.int p2), .val (.int (0 : Int32)), .val (.int (-1 : Int32)), .val (.int (4 : Int32))] [(.int p2), (.long (fn_f_a0_entries 7)), (.ref a0)]))
      obtain ⟨cq25, qq25, qq25'⟩ := P_E_a0.cell
      obtain ⟨_, _, ⟨T25, L25, k25, n25⟩, -, X25, ⟨Lc25, hQ25, l25, y25, z25⟩, st25⟩ := X23.privateBack hx (y := (⟨"com/example/plyward/plyward/search/TranspositionTable", "holdsAt", "(JI)Z"⟩ : MethodName)) hown (mvT hZ (hw _ (List.mem_of_getElem? (i := 67) rfl))) (mvT hZ (hw _ (List.mem_of_getElem? (i := 68) rfl))) (own_selPriv hZ (hw _ (List.mem_of_getElem? (i := 2) rfl)) (hw _ (List.mem_of_getElem? (i := 69) rfl)) (hw _ (List.mem_of_getElem? (i := 68) rfl)) (by decide)) (Cond.privateMethod_at (mvP hZ (hw _ (List.mem_of_getElem? (i := 69) rfl)) (args := #[]))) (mvT hZ (hw _ (List.mem_of_getElem? (i := 70) rfl))) (by decide) (backOf (W := 0) (rm10 l Z A0 hw [] a0 (fn_f_a0_entries 7) p2 f_a0_generation f_a0_settledSince h0 n0 Z0 P_F_a0_generation P_F_a0_settledSince) hZ (hw _ (List.mem_of_getElem? (i := 70) rfl)) (hw _ (List.mem_of_getElem? (i := 3) rfl)) (by decide) (by decide)) (g := (mkF m 47 #[.val (.ref a0), .val (.long q1), .second, .val (.int p2), .val (.int (0 : Int32)), .val (.int (-1 : Int32)), .val (.int (4 : Int32))] [(.int p2), (.long (fn_f_a0_entries 7)), (.ref a0)])) rfl (by rw [hml]; rfl) (Steps.refl _) (a := a0) (by rw [e23]; exact qq25) qq25' (argsL := [(.long (fn_f_a0_entries 7)), (.int p2)]) (rest := []) (lenOf pd_67 rfl) rfl (by show 2 * 0 + _ ≤ _; exact Nat.le_of_eq rfl) (hb hby d5_47) (fun _ _ => ⟨rfl, e23, (by decide : 0 + 0 ≤ _), (by decide : 0 + 0 ≤ _)⟩)
      dsimp only [Pt.U, Pt.locs, Pt.cells, Pt.slots] at X25 l25 y25 z25 st25 hQ25
      subst l25 y25 z25
      obtain ⟨o26, rfl, Nq25, eq25, hp27⟩ := hQ25
      have N25 := Fr.app N1 Nq25
      refine own_by (fun _ k => st25.trans k) ?_
      show own_Go p e below _ (T25.setTop (mkF m 50 #[.val (.ref a0), .val (.long q1), .second, .val (.int p2), .val (.int (0 : Int32)), .val (.int (-1 : Int32)), .val (.int (4 : Int32))] [(.int o26)]))
      by_cases c28 : o26 = (0 : Int32)
      · skip
        refine own_by (fun _ k => XS.ifYes X25.here hx rfl (pc0 := 50) (pc' := 60) rfl (hb hby d5_50) rfl ((if0 _ _).trans (teq c28).1) (by decide) (by decide) k) ?_
        show own_Go p e below _ (T25.setTop (mkF m 60 #[.val (.ref a0), .val (.long q1), .second, .val (.int p2), .val (.int (0 : Int32)), .val (.int (-1 : Int32)), .val (.int (4 : Int32))] []))
        refine own_by (fun _ k => XS.iinc X25.here hx rfl (hb hby d5_60) rfl (l' := #[.val (.ref a0), .val (.long q1), .second, .val (.int p2), .val (.int (0 : Int32)), .val (.int (-1 : Int32)), .val (.int (8 : Int32))]) rfl k) ?_
        show own_Go p e below _ (T25.setTop (mkF m 63 #[.val (.ref a0), .val (.long q1), .second, .val (.int p2), .val (.int (0 : Int32)), .val (.int (-1 : Int32)), .val (.int (8 : Int32))] []))
        refine own_by (fun _ k => XS.goto X25.here hx rfl (pc0 := 63) (pc' := 14) rfl (hb hby d5_63) (by decide) (by decide) k) ?_
        show own_Go p e below _ (T25.setTop (mkF m 14 #[.val (.ref a0), .val (.long q1), .second, .val (.int p2), .val (.int (0 : Int32)), .val (.int (-1 : Int32)), .val (.int (8 : Int32))] []))
        refine own_by (fun _ k => XS.iload X25.here hx rfl (hb hby d5_14) rfl k) ?_
        show own_Go p e below _ (T25.setTop (mkF m 16 #[.val (.ref a0), .val (.long q1), .second, .val (.int p2), .val (.int (0 : Int32)), .val (.int (-1 : Int32)), .val (.int (8 : Int32))] [(.int (8 : Int32))]))
        refine own_by (fun _ k => XS.iload X25.here hx rfl (hb hby d5_16) rfl k) ?_
        show own_Go p e below _ (T25.setTop (mkF m 18 #[.val (.ref a0), .val (.long q1), .second, .val (.int p2), .val (.int (0 : Int32)), .val (.int (-1 : Int32)), .val (.int (8 : Int32))] [(.int (0 : Int32)), (.int (8 : Int32))]))
        refine own_by (fun _ k => XS.bipush X25.here hx rfl (hb hby d5_18) k) ?_
        show own_Go p e below _ (T25.setTop (mkF m 20 #[.val (.ref a0), .val (.long q1), .second, .val (.int p2), .val (.int (0 : Int32)), .val (.int (-1 : Int32)), .val (.int (8 : Int32))] [(.int (8 : Int32)), (.int (0 : Int32)), (.int (8 : Int32))]))
        refine own_by (fun _ k => XS.iadd X25.here hx rfl (hb hby d5_20) rfl k) ?_
        show own_Go p e below _ (T25.setTop (mkF m 21 #[.val (.ref a0), .val (.long q1), .second, .val (.int p2), .val (.int (0 : Int32)), .val (.int (-1 : Int32)), .val (.int (8 : Int32))] [(.int (8 : Int32)), (.int (8 : Int32))]))
        refine own_by (fun _ k => XS.icmpYes X25.here hx rfl (pc0 := 21) (pc' := 66) rfl (hb hby d5_21) rfl (flt (by decide : ¬ ((8 : Int32) < (8 : Int32)))).2.1 (by decide) (by decide) k) ?_
        show own_Go p e below _ (T25.setTop (mkF m 66 #[.val (.ref a0), .val (.long q1), .second, .val (.int p2), .val (.int (0 : Int32)), .val (.int (-1 : Int32)), .val (.int (8 : Int32))] []))
        refine own_by (fun _ k => XS.iload X25.here hx rfl (hb hby d5_66) rfl k) ?_
        show own_Go p e below _ (T25.setTop (mkF m 68 #[.val (.ref a0), .val (.long q1), .second, .val (.int p2), .val (.int (0 : Int32)), .val (.int (-1 : Int32)), .val (.int (8 : Int32))] [(.int (-1 : Int32))]))
        exact own_retI X25 hx Bd.returns (hb hby d5_68) hlk eq25 ⟨_, rfl, N25, rfl, (ob_5_14 fn_f_a0_entries q1 p2 f_a0_generation f_a0_settledSince o26 c4 c22 hp27 c28)⟩ (by decide) (by decide)
      · skip
        refine own_by (fun _ k => XS.ifNo X25.here hx rfl (hb hby d5_50) rfl ((if0 _ _).trans (feq c28).1) k) ?_
        show own_Go p e below _ (T25.setTop (mkF m 53 #[.val (.ref a0), .val (.long q1), .second, .val (.int p2), .val (.int (0 : Int32)), .val (.int (-1 : Int32)), .val (.int (4 : Int32))] []))
        refine own_by (fun _ k => XS.iload X25.here hx rfl (hb hby d5_53) rfl k) ?_
        show own_Go p e below _ (T25.setTop (mkF m 55 #[.val (.ref a0), .val (.long q1), .second, .val (.int p2), .val (.int (0 : Int32)), .val (.int (-1 : Int32)), .val (.int (4 : Int32))] [(.int (4 : Int32))]))
        refine own_by (fun _ k => XS.istore X25.here hx rfl (hb hby d5_55) rfl (l' := #[.val (.ref a0), .val (.long q1), .second, .val (.int p2), .val (.int (0 : Int32)), .val (.int (4 : Int32)), .val (.int (4 : Int32))]) rfl k) ?_
        show own_Go p e below _ (T25.setTop (mkF m 57 #[.val (.ref a0), .val (.long q1), .second, .val (.int p2), .val (.int (0 : Int32)), .val (.int (4 : Int32)), .val (.int (4 : Int32))] []))
        refine own_by (fun _ k => XS.goto X25.here hx rfl (pc0 := 57) (pc' := 66) rfl (hb hby d5_57) (by decide) (by decide) k) ?_
        show own_Go p e below _ (T25.setTop (mkF m 66 #[.val (.ref a0), .val (.long q1), .second, .val (.int p2), .val (.int (0 : Int32)), .val (.int (4 : Int32)), .val (.int (4 : Int32))] []))
        refine own_by (fun _ k => XS.iload X25.here hx rfl (hb hby d5_66) rfl k) ?_
        show own_Go p e below _ (T25.setTop (mkF m 68 #[.val (.ref a0), .val (.long q1), .second, .val (.int p2), .val (.int (0 : Int32)), .val (.int (4 : Int32)), .val (.int (4 : Int32))] [(.int (4 : Int32))]))
        exact own_retI X25 hx Bd.returns (hb hby d5_68) hlk eq25 ⟨_, rfl, N25, rfl, (ob_5_15 fn_f_a0_entries q1 p2 f_a0_generation f_a0_settledSince o26 c4 c22 hp27 c28)⟩ (by decide) (by decide)
    · skip
      refine own_by (fun _ k => XS.ifYes X20.here hx rfl (pc0 := 33) (pc' := 60) rfl (hb hby d5_33) rfl ((if0 _ _).trans (feq (fun q => c22 ((lw_eq _ _).mp q))).2) (by decide) (by decide) k) ?_
      show own_Go p e below _ (T20.setTop (mkF m 60 #[.val (.ref a0), .val (.long q1), .second, .val (.int p2), .val (.int (0 : Int32)), .val (.int (-1 : Int32)), .val (.int (4 : Int32))] []))
      refine own_by (fun _ k => XS.iinc X20.here hx rfl (hb hby d5_60) rfl (l' := #[.val (.ref a0), .val (.long q1), .second, .val (.int p2), .val (.int (0 : Int32)), .val (.int (-1 : Int32)), .val (.int (8 : Int32))]) rfl k) ?_
      show own_Go p e below _ (T20.setTop (mkF m 63 #[.val (.ref a0), .val (.long q1), .second, .val (.int p2), .val (.int (0 : Int32)), .val (.int (-1 : Int32)), .val (.int (8 : Int32))] []))
      refine own_by (fun _ k => XS.goto X20.here hx rfl (pc0 := 63) (pc' := 14) rfl (hb hby d5_63) (by decide) (by decide) k) ?_
      show own_Go p e below _ (T20.setTop (mkF m 14 #[.val (.ref a0), .val (.long q1), .second, .val (.int p2), .val (.int (0 : Int32)), .val (.int (-1 : Int32)), .val (.int (8 : Int32))] []))
      refine own_by (fun _ k => XS.iload X20.here hx rfl (hb hby d5_14) rfl k) ?_
      show own_Go p e below _ (T20.setTop (mkF m 16 #[.val (.ref a0), .val (.long q1), .second, .val (.int p2), .val (.int (0 : Int32)), .val (.int (-1 : Int32)), .val (.int (8 : Int32))] [(.int (8 : Int32))]))
      refine own_by (fun _ k => XS.iload X20.here hx rfl (hb hby d5_16) rfl k) ?_
      show own_Go p e below _ (T20.setTop (mkF m 18 #[.val (.ref a0), .val (.long q1), .second, .val (.int p2), .val (.int (0 : Int32)), .val (.int (-1 : Int32)), .val (.int (8 : Int32))] [(.int (0 : Int32)), (.int (8 : Int32))]))
      refine own_by (fun _ k => XS.bipush X20.here hx rfl (hb hby d5_18) k) ?_
      show own_Go p e below _ (T20.setTop (mkF m 20 #[.val (.ref a0), .val (.long q1), .second, .val (.int p2), .val (.int (0 : Int32)), .val (.int (-1 : Int32)), .val (.int (8 : Int32))] [(.int (8 : Int32)), (.int (0 : Int32)), (.int (8 : Int32))]))
      refine own_by (fun _ k => XS.iadd X20.here hx rfl (hb hby d5_20) rfl k) ?_
      show own_Go p e below _ (T20.setTop (mkF m 21 #[.val (.ref a0), .val (.long q1), .second, .val (.int p2), .val (.int (0 : Int32)), .val (.int (-1 : Int32)), .val (.int (8 : Int32))] [(.int (8 : Int32)), (.int (8 : Int32))]))
      refine own_by (fun _ k => XS.icmpYes X20.here hx rfl (pc0 := 21) (pc' := 66) rfl (hb hby d5_21) rfl (flt (by decide : ¬ ((8 : Int32) < (8 : Int32)))).2.1 (by decide) (by decide) k) ?_
      show own_Go p e below _ (T20.setTop (mkF m 66 #[.val (.ref a0), .val (.long q1), .second, .val (.int p2), .val (.int (0 : Int32)), .val (.int (-1 : Int32)), .val (.int (8 : Int32))] []))
      refine own_by (fun _ k => XS.iload X20.here hx rfl (hb hby d5_66) rfl k) ?_
      show own_Go p e below _ (T20.setTop (mkF m 68 #[.val (.ref a0), .val (.long q1), .second, .val (.int p2), .val (.int (0 : Int32)), .val (.int (-1 : Int32)), .val (.int (8 : Int32))] [(.int (-1 : Int32))]))
      exact own_retI X20 hx Bd.returns (hb hby d5_68) hlk e20 ⟨_, rfl, N1, rfl, (ob_5_16 fn_f_a0_entries q1 p2 f_a0_generation f_a0_settledSince c4 c22)⟩ (by decide) (by decide)
theorem pd_30 : parseMethodDescriptor "(JI)I" = some ⟨[.long, .int], some .int⟩ := by decide +kernel
theorem d3_0 : decode prog_71_method_10_code 0 = .ok (.aload_n 0, 1) := by decide +kernel
theorem d3_1 : decode prog_71_method_10_code 1 = .ok (.lload_n 1, 1) := by decide +kernel
theorem d3_2 : decode prog_71_method_10_code 2 = .ok (.invokevirtual 48, 3) := by decide +kernel
theorem d3_5 : decode prog_71_method_10_code 5 = .ok (.istore 9, 2) := by decide +kernel
theorem d3_7 : decode prog_71_method_10_code 7 = .ok (.iload_n 3, 1) := by decide +kernel
theorem d3_8 : decode prog_71_method_10_code 8 = .ok (.i2l, 1) := by decide +kernel
theorem d3_9 : decode prog_71_method_10_code 9 = .ok (.bipush 32, 2) := by decide +kernel
theorem d3_11 : decode prog_71_method_10_code 11 = .ok (.lshl, 1) := by decide +kernel
theorem d3_12 : decode prog_71_method_10_code 12 = .ok (.iload 8, 2) := by decide +kernel
theorem d3_14 : decode prog_71_method_10_code 14 = .ok (.ifCond .eq 9, 3) := by decide +kernel
theorem d3_17 : decode prog_71_method_10_code 17 = .ok (.ldc2_w 62, 3) := by decide +kernel
theorem d3_20 : decode prog_71_method_10_code 20 = .ok (.goto 4, 3) := by decide +kernel
theorem d3_23 : decode prog_71_method_10_code 23 = .ok (.lconst 0, 1) := by decide +kernel
theorem d3_24 : decode prog_71_method_10_code 24 = .ok (.lor, 1) := by decide +kernel
theorem d3_25 : decode prog_71_method_10_code 25 = .ok (.aload_n 0, 1) := by decide +kernel
theorem d3_26 : decode prog_71_method_10_code 26 = .ok (.getfield 11, 3) := by decide +kernel
theorem d3_29 : decode prog_71_method_10_code 29 = .ok (.lor, 1) := by decide +kernel
theorem d3_30 : decode prog_71_method_10_code 30 = .ok (.lstore 10, 2) := by decide +kernel
theorem d3_32 : decode prog_71_method_10_code 32 = .ok (.aload_n 0, 1) := by decide +kernel
theorem d3_33 : decode prog_71_method_10_code 33 = .ok (.lload_n 1, 1) := by decide +kernel
theorem d3_34 : decode prog_71_method_10_code 34 = .ok (.iload_n 3, 1) := by decide +kernel
theorem d3_35 : decode prog_71_method_10_code 35 = .ok (.invokevirtual 64, 3) := by decide +kernel
theorem d3_38 : decode prog_71_method_10_code 38 = .ok (.istore 12, 2) := by decide +kernel
theorem d3_40 : decode prog_71_method_10_code 40 = .ok (.iload 12, 2) := by decide +kernel
theorem d3_42 : decode prog_71_method_10_code 42 = .ok (.ifCond .lt 8, 3) := by decide +kernel
theorem d3_45 : decode prog_71_method_10_code 45 = .ok (.iload 12, 2) := by decide +kernel
theorem d3_47 : decode prog_71_method_10_code 47 = .ok (.goto 10, 3) := by decide +kernel
theorem d3_50 : decode prog_71_method_10_code 50 = .ok (.iload 9, 2) := by decide +kernel
theorem d3_52 : decode prog_71_method_10_code 52 = .ok (.bipush 8, 2) := by decide +kernel
theorem d3_54 : decode prog_71_method_10_code 54 = .ok (.iadd, 1) := by decide +kernel
theorem d3_55 : decode prog_71_method_10_code 55 = .ok (.iconst 4, 1) := by decide +kernel
theorem d3_56 : decode prog_71_method_10_code 56 = .ok (.isub, 1) := by decide +kernel
theorem d3_57 : decode prog_71_method_10_code 57 = .ok (.istore 13, 2) := by decide +kernel
theorem d3_59 : decode prog_71_method_10_code 59 = .ok (.aload_n 0, 1) := by decide +kernel
theorem d3_60 : decode prog_71_method_10_code 60 = .ok (.getfield 27, 3) := by decide +kernel
theorem d3_63 : decode prog_71_method_10_code 63 = .ok (.iload 9, 2) := by decide +kernel
theorem d3_65 : decode prog_71_method_10_code 65 = .ok (.aload_n 0, 1) := by decide +kernel
theorem d3_66 : decode prog_71_method_10_code 66 = .ok (.getfield 27, 3) := by decide +kernel
theorem d3_69 : decode prog_71_method_10_code 69 = .ok (.iload 9, 2) := by decide +kernel
theorem d3_71 : decode prog_71_method_10_code 71 = .ok (.iconst 4, 1) := by decide +kernel
theorem d3_72 : decode prog_71_method_10_code 72 = .ok (.iadd, 1) := by decide +kernel
theorem d3_73 : decode prog_71_method_10_code 73 = .ok (.iload 13, 2) := by decide +kernel
theorem d3_75 : decode prog_71_method_10_code 75 = .ok (.iload 9, 2) := by decide +kernel
theorem d3_77 : decode prog_71_method_10_code 77 = .ok (.isub, 1) := by decide +kernel
theorem d3_78 : decode prog_71_method_10_code 78 = .ok (.invokestatic 68, 3) := by decide +kernel
theorem d3_81 : decode prog_71_method_10_code 81 = .ok (.aload_n 0, 1) := by decide +kernel
theorem d3_82 : decode prog_71_method_10_code 82 = .ok (.getfield 27, 3) := by decide +kernel
theorem d3_85 : decode prog_71_method_10_code 85 = .ok (.iload 9, 2) := by decide +kernel
theorem d3_87 : decode prog_71_method_10_code 87 = .ok (.lload_n 1, 1) := by decide +kernel
theorem d3_88 : decode prog_71_method_10_code 88 = .ok (.lastore, 1) := by decide +kernel
theorem d3_89 : decode prog_71_method_10_code 89 = .ok (.aload_n 0, 1) := by decide +kernel
theorem d3_90 : decode prog_71_method_10_code 90 = .ok (.getfield 27, 3) := by decide +kernel
theorem d3_93 : decode prog_71_method_10_code 93 = .ok (.iload 9, 2) := by decide +kernel
theorem d3_95 : decode prog_71_method_10_code 95 = .ok (.iconst 1, 1) := by decide +kernel
theorem d3_96 : decode prog_71_method_10_code 96 = .ok (.iadd, 1) := by decide +kernel
theorem d3_97 : decode prog_71_method_10_code 97 = .ok (.dload 4, 2) := by decide +kernel
theorem d3_99 : decode prog_71_method_10_code 99 = .ok (.invokestatic 74, 3) := by decide +kernel
theorem d3_102 : decode prog_71_method_10_code 102 = .ok (.lastore, 1) := by decide +kernel
theorem d3_103 : decode prog_71_method_10_code 103 = .ok (.aload_n 0, 1) := by decide +kernel
theorem d3_104 : decode prog_71_method_10_code 104 = .ok (.getfield 27, 3) := by decide +kernel
theorem d3_107 : decode prog_71_method_10_code 107 = .ok (.iload 9, 2) := by decide +kernel
theorem d3_109 : decode prog_71_method_10_code 109 = .ok (.iconst 2, 1) := by decide +kernel
theorem d3_110 : decode prog_71_method_10_code 110 = .ok (.iadd, 1) := by decide +kernel
theorem d3_111 : decode prog_71_method_10_code 111 = .ok (.dload 6, 2) := by decide +kernel
theorem d3_113 : decode prog_71_method_10_code 113 = .ok (.invokestatic 74, 3) := by decide +kernel
theorem d3_116 : decode prog_71_method_10_code 116 = .ok (.lastore, 1) := by decide +kernel
theorem d3_117 : decode prog_71_method_10_code 117 = .ok (.aload_n 0, 1) := by decide +kernel
theorem d3_118 : decode prog_71_method_10_code 118 = .ok (.getfield 27, 3) := by decide +kernel
theorem d3_121 : decode prog_71_method_10_code 121 = .ok (.iload 9, 2) := by decide +kernel
theorem d3_123 : decode prog_71_method_10_code 123 = .ok (.iconst 3, 1) := by decide +kernel
theorem d3_124 : decode prog_71_method_10_code 124 = .ok (.iadd, 1) := by decide +kernel
theorem d3_125 : decode prog_71_method_10_code 125 = .ok (.lload 10, 2) := by decide +kernel
theorem d3_127 : decode prog_71_method_10_code 127 = .ok (.lastore, 1) := by decide +kernel
theorem d3_128 : decode prog_71_method_10_code 128 = .ok (.return_, 1) := by decide +kernel
theorem pn_3 : plainName "com/example/plyward/plyward/search/TranspositionTable" = true := by first | (simp [plainName, overriddenIn]; done) | decide +kernel
theorem ef_3 (m : MethodId) (a0 : Addr) (q1 : Int64) (p2 : Int32) (d3 : UInt64) (d4 : UInt64) (p5 : Int32) : entryFrame m #[(.ref a0), (.long q1), (.int p2), (.double d3), (.double d4), (.int p5)] 14 = mkF m 0 #[.val (.ref a0), .val (.long q1), .second, .val (.int p2), .val (.double d3), .second, .val (.double d4), .second, .val (.int p5), .unset, .unset, .unset, .unset, .unset] [] := by first | (simp [entryFrame, mkF, argsToLocals, Value.category]; done) | rfl
theorem ob_3_17 (fn_f_a0_entries : Nat → Int64) (q1 : Int64) (p2 : Int32) (p5 : Int32) (f_a0_generation : Int64) (f_a0_settledSince : Int64) (y9 : Int64) (v12 : Int64) (o14 : Int32) (hj10 : ((p5 = (0 : Int32)) ∧ y9 = (0 : Int64)) ∨ ((¬ (p5 = (0 : Int32))) ∧ y9 = (2147483648 : Int64))) (hv12 : ((((p2.toInt64) <<< ((32 : Int32) &&& 0x3f).toInt64) ||| y9) ||| f_a0_generation) = v12) (hp15 : own_find fn_f_a0_entries q1 p2 f_a0_generation f_a0_settledSince o14) : o14 = (-1 : Int32) ∨ o14 = (0 : Int32) ∨ o14 = (4 : Int32) := by
  simp only [own_find] at *
  grind
def Q3 (Z : State) (f_a0_entries : Addr) (k_f_a0_entries : ClassId) (fn_f_a0_entries : Nat → Int64) (a0 : Addr) (q1 : Int64) (p2 : Int32) (d3 : UInt64) (d4 : UInt64) (p5 : Int32) (f_a0_generation : Int64) (f_a0_settledSince : Int64) (h0 : Heap) (n0 : Nat) (v : Option Value) (h : Heap) (L : List Loc) : Prop := ∃ (gg5001 : Nat → Int64), v = none ∧ Fr n0 L ∧ Keep h0 h [f_a0_entries] ∧ own_Arf Z h f_a0_entries k_f_a0_entries .long (8 : Int32) (fun i => .long (gg5001 i)) ∧ ((∃ (y9 : Int64) (v12 : Int64), (((p5 = (0 : Int32)) ∧ y9 = (0 : Int64)) ∨ ((¬ (p5 = (0 : Int32))) ∧ y9 = (2147483648 : Int64))) ∧ (((((p2.toInt64) <<< ((32 : Int32) &&& 0x3f).toInt64) ||| y9) ||| f_a0_generation) = v12) ∧ (own_find fn_f_a0_entries q1 p2 f_a0_generation f_a0_settledSince (-1 : Int32)) ∧ gg5001 = (own_upd (own_upd (own_upd (own_upd (own_cp fn_f_a0_entries 0 fn_f_a0_entries 4 4) 0 q1) 1 (d3.toInt64)) 2 (d4.toInt64)) 3 v12)) ∨ (∃ (y9 : Int64) (v12 : Int64), (((p5 = (0 : Int32)) ∧ y9 = (0 : Int64)) ∨ ((¬ (p5 = (0 : Int32))) ∧ y9 = (2147483648 : Int64))) ∧ (((((p2.toInt64) <<< ((32 : Int32) &&& 0x3f).toInt64) ||| y9) ||| f_a0_generation) = v12) ∧ (own_find fn_f_a0_entries q1 p2 f_a0_generation f_a0_settledSince (0 : Int32)) ∧ gg5001 = (own_upd (own_upd (own_upd (own_upd (own_cp fn_f_a0_entries 0 fn_f_a0_entries 4 0) 0 q1) 1 (d3.toInt64)) 2 (d4.toInt64)) 3 v12)) ∨ (∃ (y9 : Int64) (v12 : Int64), (((p5 = (0 : Int32)) ∧ y9 = (0 : Int64)) ∨ ((¬ (p5 = (0 : Int32))) ∧ y9 = (2147483648 : Int64))) ∧ (((((p2.toInt64) <<< ((32 : Int32) &&& 0x3f).toInt64) ||| y9) ||| f_a0_generation) = v12) ∧ (own_find fn_f_a0_entries q1 p2 f_a0_generation f_a0_settledSince (4 : Int32)) ∧ gg5001 = (own_upd (own_upd (own_upd (own_upd (own_cp fn_f_a0_entries 0 fn_f_a0_entries 4 4) 0 q1) 1 (d3.toInt64)) 2 (d4.toInt64)) 3 v12)))
set_option maxRecDepth 65536 in
set_option maxHeartbeats 40000000 in
theorem rm3 (l : Launch) (Z : State) (A0 : Array Value) (hw : ∀ d ∈ tables_1, d.before A0 Z = true) (ws : List Jvm.Cond) (f_a0_entries : Addr) (k_f_a0_entries : ClassId) (fn_f_a0_entries : Nat → Int64) (a0 : Addr) (q1 : Int64) (p2 : Int32) (d3 : UInt64) (d4 : UInt64) (p5 : Int32) (f_a0_generation : Int64) (f_a0_settledSince : Int64) (h0 : Heap) (n0 : Nat) (Z0 : n0 ≤ h0.size) (P_F_a0_entries : Fld Z h0 a0 "com/example/plyward/plyward/search/TranspositionTable" "entries" "[J" (.ref f_a0_entries)) (P_V_f_a0_entries : own_Arf Z h0 f_a0_entries k_f_a0_entries .long (8 : Int32) (fun i => .long (fn_f_a0_entries i))) (P_F_a0_shift : Fld Z h0 a0 "com/example/plyward/plyward/search/TranspositionTable" "shift" "I" (.int (63 : Int32))) (P_E_a0 : Exa Z h0 a0 "com/example/plyward/plyward/search/TranspositionTable") (P_F_a0_generation : Fld Z h0 a0 "com/example/plyward/plyward/search/TranspositionTable" "generation" "J" (.long f_a0_generation)) (P_F_a0_settledSince : Fld Z h0 a0 "com/example/plyward/plyward/search/TranspositionTable" "settledSince" "J" (.long f_a0_settledSince)) (g_f_a0_entries : n0 ≤ f_a0_entries) :
    MetFree l (⟨"com/example/plyward/plyward/search/TranspositionTable", "store", "(JIDDZ)V"⟩ : MethodName) (head1 (Jvm.Cond.code (⟨"com/example/plyward/plyward/search/TranspositionTable", "store", "(JIDDZ)V"⟩ : MethodName) prog_71_method_10_code 14 none :: ws) ({ frames := 2, cells := 0, slots := 0, locals := 37 } : Room)) (fun a U => a = #[(.ref a0), (.long q1), (.int p2), (.double d3), (.double d4), (.int p5)] ∧ Z.Warmed39 U.vm ∧ U.heap = h0) (fun _ _ _ _ _ => True) (fun _ U o U' => ∃ v L, o = .returned v ∧ Q3 Z f_a0_entries k_f_a0_entries fn_f_a0_entries a0 q1 p2 d3 d4 p5 f_a0_generation f_a0_settledSince h0 n0 v U'.heap L ∧ FrameEnd U o U' L 0 0) := by
  refine MetFree.of_bodySF (plainFor_of_name pn_3) hisR ?_
  intro p e s m args below meth c s₁ Bd hml0 hP hK
  obtain ⟨rfl, hZ, hh⟩ := hP
  have hx := Bd.exec
  have hby := Bd.bytes
  have hml : c.maxLocals = 14 := hml0
  have hlk : meth.locks = false := Bd.notSynchronized
  have hown : s.vm.findClass "com/example/plyward/plyward/search/TranspositionTable" = some m.cls := findClass_of_methodNamed Bd.named
  have hnm := (name_of_methodNamed Bd.named Bd.method).1
  have X0 : Stand p l e ({ frames := 2, cells := 0, slots := 0, locals := 37 } : Room) s m #[(.ref a0), (.long q1), (.int p2), (.double d3), (.double d4), (.int p5)] below meth c s₁ [] 0 0 := Stand.of_body Bd
  have e0 : s₁.heap = h0 := by rw [← hh, Bd.state]; rfl
  have N0 := Fr.nil n0
  show own_Go p e below (own_Fin s 0 0 (Q3 Z f_a0_entries k_f_a0_entries fn_f_a0_entries a0 q1 p2 d3 d4 p5 f_a0_generation f_a0_settledSince h0 n0)) _
  refine own_by (fun t k => castTop (ef_3 m a0 q1 p2 d3 d4 p5) k) ?_
  show own_Go p e below _ (s₁.setTop (mkF m 0 #[.val (.ref a0), .val (.long q1), .second, .val (.int p2), .val (.double d3), .second, .val (.double d4), .second, .val (.int p5), .unset, .unset, .unset, .unset, .unset] []))
  refine own_by (fun _ k => XS.aloadN X0.here hx rfl (hb hby d3_0) rfl rfl k) ?_
  show own_Go p e below _ (s₁.setTop (mkF m 1 #[.val (.ref a0), .val (.long q1), .second, .val (.int p2), .val (.double d3), .second, .val (.double d4), .second, .val (.int p5), .unset, .unset, .unset, .unset, .unset] [(.ref a0)]))
  refine own_by (fun _ k => XS.lloadN X0.here hx rfl (hb hby d3_1) rfl k) ?_
  show own_Go p e below _ (s₁.setTop (mkF m 2 #[.val (.ref a0), .val (.long q1), .second, .val (.int p2), .val (.double d3), .second, .val (.double d4), .second, .val (.int p5), .unset, .unset, .unset, .unset, .unset] [(.long q1), (.ref a0)]))
  obtain ⟨cq1, qq1, qq1'⟩ := P_E_a0.cell
  obtain ⟨_, _, ⟨T1, L1, k1, n1⟩, -, X1, ⟨Lc1, hQ1, l1, y1, z1⟩, st1⟩ := X0.privateBack hx (y := (⟨"com/example/plyward/plyward/search/TranspositionTable", "bucket", "(J)I"⟩ : MethodName)) hown (mvT hZ (hw _ (List.mem_of_getElem? (i := 25) rfl))) (mvT hZ (hw _ (List.mem_of_getElem? (i := 26) rfl))) (own_selPriv hZ (hw _ (List.mem_of_getElem? (i := 2) rfl)) (hw _ (List.mem_of_getElem? (i := 27) rfl)) (hw _ (List.mem_of_getElem? (i := 26) rfl)) (by decide)) (Cond.privateMethod_at (mvP hZ (hw _ (List.mem_of_getElem? (i := 27) rfl)) (args := #[]))) (mvT hZ (hw _ (List.mem_of_getElem? (i := 28) rfl))) (by decide) (backOf (W := 0) (rm4 l Z A0 hw [] a0 q1 h0 n0 Z0 P_F_a0_shift) hZ (hw _ (List.mem_of_getElem? (i := 28) rfl)) (hw _ (List.mem_of_getElem? (i := 3) rfl)) (by decide) (by decide)) (g := (mkF m 2 #[.val (.ref a0), .val (.long q1), .second, .val (.int p2), .val (.double d3), .second, .val (.double d4), .second, .val (.int p5), .unset, .unset, .unset, .unset, .unset] [(.long q1), (.ref a0)])) rfl (by rw [hml]; rfl) (Steps.refl _) (a := a0) (by rw [e0]; exact qq1) qq1' (argsL := [(.long q1)]) (rest := []) (lenOf pd_25 rfl) rfl (by show 2 * 0 + _ ≤ _; exact Nat.le_of_eq rfl) (hb hby d3_2) (fun _ _ => ⟨rfl, e0, (by decide : 0 + 0 ≤ _), (by decide : 0 + 0 ≤ _)⟩)
  dsimp only [Pt.U, Pt.locs, Pt.cells, Pt.slots] at X1 l1 y1 z1 st1 hQ1
  subst l1 y1 z1
  obtain ⟨rfl, Nq1, eq1⟩ := hQ1
  have N1 := Fr.app N0 Nq1
  refine own_by (fun _ k => st1.trans k) ?_
  show own_Go p e below _ (T1.setTop (mkF m 5 #[.val (.ref a0), .val (.long q1), .second, .val (.int p2), .val (.double d3), .second, .val (.double d4), .second, .val (.int p5), .unset, .unset, .unset, .unset, .unset] [(.int (0 : Int32))]))
  refine own_by (fun _ k => XS.istore X1.here hx rfl (hb hby d3_5) rfl (l' := #[.val (.ref a0), .val (.long q1), .second, .val (.int p2), .val (.double d3), .second, .val (.double d4), .second, .val (.int p5), .val (.int (0 : Int32)), .unset, .unset, .unset, .unset]) rfl k) ?_
  show own_Go p e below _ (T1.setTop (mkF m 7 #[.val (.ref a0), .val (.long q1), .second, .val (.int p2), .val (.double d3), .second, .val (.double d4), .second, .val (.int p5), .val (.int (0 : Int32)), .unset, .unset, .unset, .unset] []))
  refine own_by (fun _ k => XS.iloadN X1.here hx rfl (hb hby d3_7) rfl k) ?_
  show own_Go p e below _ (T1.setTop (mkF m 8 #[.val (.ref a0), .val (.long q1), .second, .val (.int p2), .val (.double d3), .second, .val (.double d4), .second, .val (.int p5), .val (.int (0 : Int32)), .unset, .unset, .unset, .unset] [(.int p2)]))
  refine own_by (fun _ k => XS.i2l X1.here hx rfl (hb hby d3_8) rfl k) ?_
  show own_Go p e below _ (T1.setTop (mkF m 9 #[.val (.ref a0), .val (.long q1), .second, .val (.int p2), .val (.double d3), .second, .val (.double d4), .second, .val (.int p5), .val (.int (0 : Int32)), .unset, .unset, .unset, .unset] [(.long (p2.toInt64))]))
  refine own_by (fun _ k => XS.bipush X1.here hx rfl (hb hby d3_9) k) ?_
  show own_Go p e below _ (T1.setTop (mkF m 11 #[.val (.ref a0), .val (.long q1), .second, .val (.int p2), .val (.double d3), .second, .val (.double d4), .second, .val (.int p5), .val (.int (0 : Int32)), .unset, .unset, .unset, .unset] [(.int (32 : Int32)), (.long (p2.toInt64))]))
  refine own_by (fun _ k => XS.lshl X1.here hx rfl (hb hby d3_11) rfl k) ?_
  show own_Go p e below _ (T1.setTop (mkF m 12 #[.val (.ref a0), .val (.long q1), .second, .val (.int p2), .val (.double d3), .second, .val (.double d4), .second, .val (.int p5), .val (.int (0 : Int32)), .unset, .unset, .unset, .unset] [(.long ((p2.toInt64) <<< ((32 : Int32) &&& 0x3f).toInt64))]))
  refine own_by (fun _ k => XS.iload X1.here hx rfl (hb hby d3_12) rfl k) ?_
  show own_Go p e below _ (T1.setTop (mkF m 14 #[.val (.ref a0), .val (.long q1), .second, .val (.int p2), .val (.double d3), .second, .val (.double d4), .second, .val (.int p5), .val (.int (0 : Int32)), .unset, .unset, .unset, .unset] [(.int p5), (.long ((p2.toInt64) <<< ((32 : Int32) &&& 0x3f).toInt64))]))
  have J3 : ∀ (T4 : State) (L5 : List Loc) (y9 : Int64), Stand p l e ({ frames := 2, cells := 0, slots := 0, locals := 37 } : Room) s m #[(.ref a0), (.long q1), (.int p2), (.double d3), (.double d4), (.int p5)] below meth c T4 L5 0 0 → T4.heap = h0 → Fr n0 L5 → (((p5 = (0 : Int32)) ∧ y9 = (0 : Int64)) ∨ ((¬ (p5 = (0 : Int32))) ∧ y9 = (2147483648 : Int64))) → own_Go p e below (own_Fin s 0 0 (Q3 Z f_a0_entries k_f_a0_entries fn_f_a0_entries a0 q1 p2 d3 d4 p5 f_a0_generation f_a0_settledSince h0 n0)) (T4.setTop (mkF m 24 #[.val (.ref a0), .val (.long q1), .second, .val (.int p2), .val (.double d3), .second, .val (.double d4), .second, .val (.int p5), .val (.int (0 : Int32)), .unset, .unset, .unset, .unset] [(.long y9), (.long ((p2.toInt64) <<< ((32 : Int32) &&& 0x3f).toInt64))])) := by
    intro T4 L5 y9 X6 e7 N8 hj10
    refine own_by (fun _ k => XS.lor X6.here hx rfl (hb hby d3_24) rfl k) ?_
    show own_Go p e below _ (T4.setTop (mkF m 25 #[.val (.ref a0), .val (.long q1), .second, .val (.int p2), .val (.double d3), .second, .val (.double d4), .second, .val (.int p5), .val (.int (0 : Int32)), .unset, .unset, .unset, .unset] [(.long (((p2.toInt64) <<< ((32 : Int32) &&& 0x3f).toInt64) ||| y9))]))
    refine own_by (fun _ k => XS.aloadN X6.here hx rfl (hb hby d3_25) rfl rfl k) ?_
    show own_Go p e below _ (T4.setTop (mkF m 26 #[.val (.ref a0), .val (.long q1), .second, .val (.int p2), .val (.double d3), .second, .val (.double d4), .second, .val (.int p5), .val (.int (0 : Int32)), .unset, .unset, .unset, .unset] [(.ref a0), (.long (((p2.toInt64) <<< ((32 : Int32) &&& 0x3f).toInt64) ||| y9))]))
    obtain ⟨T11, X11, e11, st11⟩ := getF X6 hx hZ hown (host := "") (Or.inl (hw _ (List.mem_of_getElem? (i := 10) rfl))) Via.refl e7 P_F_a0_generation (g := (mkF m 26 #[.val (.ref a0), .val (.long q1), .second, .val (.int p2), .val (.double d3), .second, .val (.double d4), .second, .val (.int p5), .val (.int (0 : Int32)), .unset, .unset, .unset, .unset] [(.ref a0), (.long (((p2.toInt64) <<< ((32 : Int32) &&& 0x3f).toInt64) ||| y9))])) rfl rfl (hb hby d3_26)
    refine own_by st11 ?_
    show own_Go p e below _ (T11.setTop (mkF m 29 #[.val (.ref a0), .val (.long q1), .second, .val (.int p2), .val (.double d3), .second, .val (.double d4), .second, .val (.int p5), .val (.int (0 : Int32)), .unset, .unset, .unset, .unset] [(.long f_a0_generation), (.long (((p2.toInt64) <<< ((32 : Int32) &&& 0x3f).toInt64) ||| y9))]))
    refine own_by (fun _ k => XS.lor X11.here hx rfl (hb hby d3_29) rfl k) ?_
    show own_Go p e below _ (T11.setTop (mkF m 30 #[.val (.ref a0), .val (.long q1), .second, .val (.int p2), .val (.double d3), .second, .val (.double d4), .second, .val (.int p5), .val (.int (0 : Int32)), .unset, .unset, .unset, .unset] [(.long ((((p2.toInt64) <<< ((32 : Int32) &&& 0x3f).toInt64) ||| y9) ||| f_a0_generation))]))
    refine own_by (fun _ k => XS.lstore X11.here hx rfl (hb hby d3_30) rfl (l' := #[.val (.ref a0), .val (.long q1), .second, .val (.int p2), .val (.double d3), .second, .val (.double d4), .second, .val (.int p5), .val (.int (0 : Int32)), .val (.long ((((p2.toInt64) <<< ((32 : Int32) &&& 0x3f).toInt64) ||| y9) ||| f_a0_generation)), .second, .unset, .unset]) rfl k) ?_
    show own_Go p e below _ (T11.setTop (mkF m 32 #[.val (.ref a0), .val (.long q1), .second, .val (.int p2), .val (.double d3), .second, .val (.double d4), .second, .val (.int p5), .val (.int (0 : Int32)), .val (.long ((((p2.toInt64) <<< ((32 : Int32) &&& 0x3f).toInt64) ||| y9) ||| f_a0_generation)), .second, .unset, .unset] []))
    generalize hv12 : ((((p2.toInt64) <<< ((32 : Int32) &&& 0x3f).toInt64) ||| y9) ||| f_a0_generation) = v12
    show own_Go p e below _ (T11.setTop (mkF m 32 #[.val (.ref a0), .val (.long q1), .second, .val (.int p2), .val (.double d3), .second, .val (.double d4), .second, .val (.int p5), .val (.int (0 : Int32)), .val (.long v12), .second, .unset, .unset] []))
    refine own_by (fun _ k => XS.aloadN X11.here hx rfl (hb hby d3_32) rfl rfl k) ?_
    show own_Go p e below _ (T11.setTop (mkF m 33 #[.val (.ref a0), .val (.long q1), .second, .val (.int p2), .val (.double d3), .second, .val (.double d4), .second, .val (.int p5), .val (.int (0 : Int32)), .val (.long v12), .second, .unset, .unset] [(.ref a0)]))
    refine own_by (fun _ k => XS.lloadN X11.here hx rfl (hb hby d3_33) rfl k) ?_
    show own_Go p e below _ (T11.setTop (mkF m 34 #[.val (.ref a0), .val (.long q1), .second, .val (.int p2), .val (.double d3), .second, .val (.double d4), .second, .val (.int p5), .val (.int (0 : Int32)), .val (.long v12), .second, .unset, .unset] [(.long q1), (.ref a0)]))
    refine own_by (fun _ k => XS.iloadN X11.here hx rfl (hb hby d3_34) rfl k) ?_
    show own_Go p e below _ (T11.setTop (mkF m 35 #[.val (.ref a0), .val (.long q1), .second, .val (.int p2), .val (.double d3), .second, .val (.double d4), .second, .val (.int p5), .val (.int (0 : Int32)), .val (.long v12), .second, .unset, .unset] [(.int p2), (.long q1), (.ref a0)]))
    obtain ⟨cq13, kq13, qq13a, qq13b, qq13c⟩ := isOf hZ e11 P_E_a0
    obtain ⟨_, _, ⟨T13, L13, k13, n13⟩, -, X13, ⟨Lc13, hQ13, l13, y13, z13⟩, st13⟩ := X11.virtualBack hx (y := (⟨"com/example/plyward/plyward/search/TranspositionTable", "find", "(JI)I"⟩ : MethodName)) (z := (⟨"com/example/plyward/plyward/search/TranspositionTable", "find", "(JI)I"⟩ : MethodName)) hown (mvT hZ (hw _ (List.mem_of_getElem? (i := 30) rfl))) (mvT hZ (hw _ (List.mem_of_getElem? (i := 31) rfl))) (notFace_of_selects (args := #[]) (mvT hZ (hw _ (List.mem_of_getElem? (i := 33) rfl)))) (mvT hZ (hw _ (List.mem_of_getElem? (i := 33) rfl))) (mvT hZ (hw _ (List.mem_of_getElem? (i := 32) rfl))) (by decide) (backOf (W := 0) (rm5 l Z A0 hw [] f_a0_entries k_f_a0_entries fn_f_a0_entries a0 q1 p2 f_a0_generation f_a0_settledSince h0 n0 Z0 P_F_a0_entries P_V_f_a0_entries P_F_a0_shift P_E_a0 P_F_a0_generation P_F_a0_settledSince) hZ (hw _ (List.mem_of_getElem? (i := 34) rfl)) (hw _ (List.mem_of_getElem? (i := 3) rfl)) (by decide) (by decide)) qq13a qq13c (g := (mkF m 35 #[.val (.ref a0), .val (.long q1), .second, .val (.int p2), .val (.double d3), .second, .val (.double d4), .second, .val (.int p5), .val (.int (0 : Int32)), .val (.long v12), .second, .unset, .unset] [(.int p2), (.long q1), (.ref a0)])) rfl (by rw [hml]; rfl) (Steps.refl _) (argsL := [(.long q1), (.int p2)]) (rest := []) (lenOf pd_30 rfl) rfl (by show 2 * 0 + _ ≤ _; exact Nat.le_of_eq rfl) (hb hby d3_35) (fun _ _ => ⟨rfl, e11, (by decide : 0 + 0 ≤ _), (by decide : 0 + 0 ≤ _)⟩)
    dsimp only [Pt.U, Pt.locs, Pt.cells, Pt.slots] at X13 l13 y13 z13 st13 hQ13
    subst l13 y13 z13
    obtain ⟨o14, rfl, Nq13, eq13, hp15⟩ := hQ13
    have N13 := Fr.app N8 Nq13
    refine own_by (fun _ k => st13.trans k) ?_
    show own_Go p e below _ (T13.setTop (mkF m 38 #[.val (.ref a0), .val (.long q1), .second, .val (.int p2), .val (.double d3), .second, .val (.double d4), .second, .val (.int p5), .val (.int (0 : Int32)), .val (.long v12), .second, .unset, .unset] [(.int o14)]))
    refine own_by (fun _ k => XS.istore X13.here hx rfl (hb hby d3_38) rfl (l' := #[.val (.ref a0), .val (.long q1), .second, .val (.int p2), .val (.double d3), .second, .val (.double d4), .second, .val (.int p5), .val (.int (0 : Int32)), .val (.long v12), .second, .val (.int o14), .unset]) rfl k) ?_
    show own_Go p e below _ (T13.setTop (mkF m 40 #[.val (.ref a0), .val (.long q1), .second, .val (.int p2), .val (.double d3), .second, .val (.double d4), .second, .val (.int p5), .val (.int (0 : Int32)), .val (.long v12), .second, .val (.int o14), .unset] []))
    have hs_o14 := (ob_3_17 fn_f_a0_entries q1 p2 p5 f_a0_generation f_a0_settledSince y9 v12 o14 hj10 hv12 hp15)
    rcases hs_o14 with rfl | rfl | rfl
    · skip
      show own_Go p e below _ (T13.setTop (mkF m 40 #[.val (.ref a0), .val (.long q1), .second, .val (.int p2), .val (.double d3), .second, .val (.double d4), .second, .val (.int p5), .val (.int (0 : Int32)), .val (.long v12), .second, .val (.int (-1 : Int32)), .unset] []))
      refine own_by (fun _ k => XS.iload X13.here hx rfl (hb hby d3_40) rfl k) ?_
      show own_Go p e below _ (T13.setTop (mkF m 42 #[.val (.ref a0), .val (.long q1), .second, .val (.int p2), .val (.double d3), .second, .val (.double d4), .second, .val (.int p5), .val (.int (0 : Int32)), .val (.long v12), .second, .val (.int (-1 : Int32)), .unset] [(.int (-1 : Int32))]))
      refine own_by (fun _ k => XS.ifYes X13.here hx rfl (pc0 := 42) (pc' := 50) rfl (hb hby d3_42) rfl ((if0 _ _).trans (tlt (by decide : (-1 : Int32) < (0 : Int32))).1) (by decide) (by decide) k) ?_
      show own_Go p e below _ (T13.setTop (mkF m 50 #[.val (.ref a0), .val (.long q1), .second, .val (.int p2), .val (.double d3), .second, .val (.double d4), .second, .val (.int p5), .val (.int (0 : Int32)), .val (.long v12), .second, .val (.int (-1 : Int32)), .unset] []))
      refine own_by (fun _ k => XS.iload X13.here hx rfl (hb hby d3_50) rfl k) ?_
      show own_Go p e below _ (T13.setTop (mkF m 52 #[.val (.ref a0), .val (.long q1), .second, .val (.int p2), .val (.double d3), .second, .val (.double d4), .second, .val (.int p5), .val (.int (0 : Int32)), .val (.long v12), .second, .val (.int (-1 : Int32)), .unset] [(.int (0 : Int32))]))
      refine own_by (fun _ k => XS.bipush X13.here hx rfl (hb hby d3_52) k) ?_
      show own_Go p e below _ (T13.setTop (mkF m 54 #[.val (.ref a0), .val (.long q1), .second, .val (.int p2), .val (.double d3), .second, .val (.double d4), .second, .val (.int p5), .val (.int (0 : Int32)), .val (.long v12), .second, .val (.int (-1 : Int32)), .unset] [(.int (8 : Int32)), (.int (0 : Int32))]))
      refine own_by (fun _ k => XS.iadd X13.here hx rfl (hb hby d3_54) rfl k) ?_
      show own_Go p e below _ (T13.setTop (mkF m 55 #[.val (.ref a0), .val (.long q1), .second, .val (.int p2), .val (.double d3), .second, .val (.double d4), .second, .val (.int p5), .val (.int (0 : Int32)), .val (.long v12), .second, .val (.int (-1 : Int32)), .unset] [(.int (8 : Int32))]))
      refine own_by (fun _ k => XS.iconst X13.here hx rfl (hb hby d3_55) k) ?_
      show own_Go p e below _ (T13.setTop (mkF m 56 #[.val (.ref a0), .val (.long q1), .second, .val (.int p2), .val (.double d3), .second, .val (.double d4), .second, .val (.int p5), .val (.int (0 : Int32)), .val (.long v12), .second, .val (.int (-1 : Int32)), .unset] [(.int (4 : Int32)), (.int (8 : Int32))]))
      refine own_by (fun _ k => XS.isub X13.here hx rfl (hb hby d3_56) rfl k) ?_
      show own_Go p e below _ (T13.setTop (mkF m 57 #[.val (.ref a0), .val (.long q1), .second, .val (.int p2), .val (.double d3), .second, .val (.double d4), .second, .val (.int p5), .val (.int (0 : Int32)), .val (.long v12), .second, .val (.int (-1 : Int32)), .unset] [(.int (4 : Int32))]))
      refine own_by (fun _ k => XS.istore X13.here hx rfl (hb hby d3_57) rfl (l' := #[.val (.ref a0), .val (.long q1), .second, .val (.int p2), .val (.double d3), .second, .val (.double d4), .second, .val (.int p5), .val (.int (0 : Int32)), .val (.long v12), .second, .val (.int (-1 : Int32)), .val (.int (4 : Int32))]) rfl k) ?_
      show own_Go p e below _ (T13.setTop (mkF m 59 #[.val (.ref a0), .val (.long q1), .second, .val (.int p2), .val (.double d3), .second, .val (.double d4), .second, .val (.int p5), .val (.int (0 : Int32)), .val (.long v12), .second, .val (.int (-1 : Int32)), .val (.int (4 : Int32))] []))
      refine own_by (fun _ k => XS.aloadN X13.here hx rfl (hb hby d3_59) rfl rfl k) ?_
      show own_Go p e below _ (T13.setTop (mkF m 60 #[.val (.ref a0), .val (.long q1), .second, .val (.int p2), .val (.double d3), .second, .val (.double d4), .second, .val (.int p5), .val (.int (0 : Int32)), .val (.long v12), .second, .val (.int (-1 : Int32)), .val (.int (4 : Int32))] [(.ref a0)]))
      obtain ⟨T16, X16, e16, st16⟩ := getF X13 hx hZ hown (host := "") (Or.inl (hw _ (List.mem_of_getElem? (i := 15) rfl))) Via.refl eq13 P_F_a0_entries (g := (mkF m 60 #[.val (.ref a0), .val (.long q1), .second, .val (.int p2), .val (.double d3), .second, .val (.double d4), .second, .val (.int p5), .val (.int (0 : Int32)), .val (.long v12), .second, .val (.int (-1 : Int32)), .val (.int (4 : Int32))] [(.ref a0)])) rfl rfl (hb hby d3_60)
      refine own_by st16 ?_
      show own_Go p e below _ (T16.setTop (mkF m 63 #[.val (.ref a0), .val (.long q1), .second, .val (.int p2), .val (.double d3), .second, .val (.double d4), .second, .val (.int p5), .val (.int (0 : Int32)), .val (.long v12), .second, .val (.int (-1 : Int32)), .val (.int (4 : Int32))] [(.ref f_a0_entries)]))
      refine own_by (fun _ k => XS.iload X16.here hx rfl (hb hby d3_63) rfl k) ?_
      show own_Go p e below _ (T16.setTop (mkF m 65 #[.val (.ref a0), .val (.long q1), .second, .val (.int p2), .val (.double d3), .second, .val (.double d4), .second, .val (.int p5), .val (.int (0 : Int32)), .val (.long v12), .second, .val (.int (-1 : Int32)), .val (.int (4 : Int32))] [(.int (0 : Int32)), (.ref f_a0_entries)]))
      refine own_by (fun _ k => XS.aloadN X16.here hx rfl (hb hby d3_65) rfl rfl k) ?_
      show own_Go p e below _ (T16.setTop (mkF m 66 #[.val (.ref a0), .val (.long q1), .second, .val (.int p2), .val (.double d3), .second, .val (.double d4), .second, .val (.int p5), .val (.int (0 : Int32)), .val (.long v12), .second, .val (.int (-1 : Int32)), .val (.int (4 : Int32))] [(.ref a0), (.int (0 : Int32)), (.ref f_a0_entries)]))
      obtain ⟨T17, X17, e17, st17⟩ := getF X16 hx hZ hown (host := "") (Or.inl (hw _ (List.mem_of_getElem? (i := 15) rfl))) Via.refl e16 P_F_a0_entries (g := (mkF m 66 #[.val (.ref a0), .val (.long q1), .second, .val (.int p2), .val (.double d3), .second, .val (.double d4), .second, .val (.int p5), .val (.int (0 : Int32)), .val (.long v12), .second, .val (.int (-1 : Int32)), .val (.int (4 : Int32))] [(.ref a0), (.int (0 : Int32)), (.ref f_a0_entries)])) rfl rfl (hb hby d3_66)
      refine own_by st17 ?_
      show own_Go p e below _ (T17.setTop (mkF m 69 #[.val (.ref a0), .val (.long q1), .second, .val (.int p2), .val (.double d3), .second, .val (.double d4), .second, .val (.int p5), .val (.int (0 : Int32)), .val (.long v12), .second, .val (.int (-1 : Int32)), .val (.int (4 : Int32))] [(.ref f_a0_entries), (.int (0 : Int32)), (.ref f_a0_entries)]))
      refine own_by (fun _ k => XS.iload X17.here hx rfl (hb hby d3_69) rfl k) ?_
      show own_Go p e below _ (T17.setTop (mkF m 71 #[.val (.ref a0), .val (.long q1), .second, .val (.int p2), .val (.double d3), .second, .val (.double d4), .second, .val (.int p5), .val (.int (0 : Int32)), .val (.long v12), .second, .val (.int (-1 : Int32)), .val (.int (4 : Int32))] [(.int (0 : Int32)), (.ref f_a0_entries), (.int (0 : Int32)), (.ref f_a0_entries)]))
      refine own_by (fun _ k => XS.iconst X17.here hx rfl (hb hby d3_71) k) ?_
      show own_Go p e below _ (T17.setTop (mkF m 72 #[.val (.ref a0), .val (.long q1), .second, .val (.int p2), .val (.double d3), .second, .val (.double d4), .second, .val (.int p5), .val (.int (0 : Int32)), .val (.long v12), .second, .val (.int (-1 : Int32)), .val (.int (4 : Int32))] [(.int (4 : Int32)), (.int (0 : Int32)), (.ref f_a0_entries), (.int (0 : Int32)), (.ref f_a0_entries)]))
      refine own_by (fun _ k => XS.iadd X17.here hx rfl (hb hby d3_72) rfl k) ?_
      show own_Go p e below _ (T17.setTop (mkF m 73 #[.val (.ref a0), .val (.long q1), .second, .val (.int p2), .val (.double d3), .second, .val (.double d4), .second, .val (.int p5), .val (.int (0 : Int32)), .val (.long v12), .second, .val (.int (-1 : Int32)), .val (.int (4 : Int32))] [(.int (4 : Int32)), (.ref f_a0_entries), (.int (0 : Int32)), (.ref f_a0_entries)]))
      refine own_by (fun _ k => XS.iload X17.here hx rfl (hb hby d3_73) rfl k) ?_
      show own_Go p e below _ (T17.setTop (mkF m 75 #[.val (.ref a0), .val (.long q1), .second, .val (.int p2), .val (.double d3), .second, .val (.double d4), .second, .val (.int p5), .val (.int (0 : Int32)), .val (.long v12), .second, .val (.int (-1 : Int32)), .val (.int (4 : Int32))] [(.int (4 : Int32)), (.int (4 : Int32)), (.ref f_a0_entries), (.int (0 : Int32)), (.ref f_a0_entries)]))
      refine own_by (fun _ k => XS.iload X17.here hx rfl (hb hby d3_75) rfl k) ?_
      show own_Go p e below _ (T17.setTop (mkF m 77 #[.val (.ref a0), .val (.long q1), .second, .val (.int p2), .val (.double d3), .second, .val (.double d4), .second, .val (.int p5), .val (.int (0 : Int32)), .val (.long v12), .second, .val (.int (-1 : Int32)), .val (.int (4 : Int32))] [(.int (0 : Int32)), (.int (4 : Int32)), (.int (4 : Int32)), (.ref f_a0_entries), (.int (0 : Int32)), (.ref f_a0_entries)]))
      refine own_by (fun _ k => XS.isub X17.here hx rfl (hb hby d3_77) rfl k) ?_
      show own_Go p e below _ (T17.setTop (mkF m 78 #[.val (.ref a0), .val (.long q1), .second, .val (.int p2), .val (.double d3), .second, .val (.double d4), .second, .val (.int p5), .val (.int (0 : Int32)), .val (.long v12), .second, .val (.int (-1 : Int32)), .val (.int (4 : Int32))] [(.int (4 : Int32)), (.int (4 : Int32)), (.ref f_a0_entries), (.int (0 : Int32)), (.ref f_a0_entries)]))
      obtain ⟨T18, h18, L18, X18, e18, N18, Kq18, V18, st18⟩ := own_cpA X17 hx hZ hown (hw _ (List.mem_of_getElem? (i := 35) rfl)) (hw _ (List.mem_of_getElem? (i := 38) rfl)) (hw _ (List.mem_of_getElem? (i := 36) rfl)) (hw _ (List.mem_of_getElem? (i := 37) rfl)) e17 P_V_f_a0_entries P_V_f_a0_entries (by decide) (by decide) (by decide) (by decide) (by decide) (by decide) N13 g_f_a0_entries (g := (mkF m 78 #[.val (.ref a0), .val (.long q1), .second, .val (.int p2), .val (.double d3), .second, .val (.double d4), .second, .val (.int p5), .val (.int (0 : Int32)), .val (.long v12), .second, .val (.int (-1 : Int32)), .val (.int (4 : Int32))] [(.int (4 : Int32)), (.int (4 : Int32)), (.ref f_a0_entries), (.int (0 : Int32)), (.ref f_a0_entries)])) rfl (by rw [hml]; rfl) rfl (hb hby d3_78) (by decide) (W := 0) (by show 2 * 0 + _ ≤ _; exact Nat.le_of_eq rfl) (by decide)
      have V18' : own_Arf Z h18 f_a0_entries k_f_a0_entries .long (8 : Int32) (fun i => .long ((own_cp fn_f_a0_entries 0 fn_f_a0_entries 4 4) i)) := by rw [← own_cpJ]; exact V18
      have K18 : Keep h0 h18 [f_a0_entries] := (Keep.refl h0 [f_a0_entries]).trans Kq18 ((allS (Or.inl (List.mem_of_getElem? (i := 0) rfl)) all0))
      have Z18 : n0 ≤ h18.size := Nat.le_trans Z0 Kq18.1
      refine own_by st18 ?_
      show own_Go p e below _ (T18.setTop (mkF m 81 #[.val (.ref a0), .val (.long q1), .second, .val (.int p2), .val (.double d3), .second, .val (.double d4), .second, .val (.int p5), .val (.int (0 : Int32)), .val (.long v12), .second, .val (.int (-1 : Int32)), .val (.int (4 : Int32))] []))
      refine own_by (fun _ k => XS.aloadN X18.here hx rfl (hb hby d3_81) rfl rfl k) ?_
      show own_Go p e below _ (T18.setTop (mkF m 82 #[.val (.ref a0), .val (.long q1), .second, .val (.int p2), .val (.double d3), .second, .val (.double d4), .second, .val (.int p5), .val (.int (0 : Int32)), .val (.long v12), .second, .val (.int (-1 : Int32)), .val (.int (4 : Int32))] [(.ref a0)]))
      have F19 : Fld Z h18 a0 "com/example/plyward/plyward/search/TranspositionTable" "entries" "[J" (.ref f_a0_entries) := (P_F_a0_entries.keep Kq18 (ninS (own_neArr (P_E_a0.keep Kq18) (hw _ (List.mem_of_getElem? (i := 2) rfl)) V18') nin0))
      obtain ⟨T20, X20, e20, st20⟩ := getF X18 hx hZ hown (host := "") (Or.inl (hw _ (List.mem_of_getElem? (i := 15) rfl))) Via.refl e18 F19 (g := (mkF m 82 #[.val (.ref a0), .val (.long q1), .second, .val (.int p2), .val (.double d3), .second, .val (.double d4), .second, .val (.int p5), .val (.int (0 : Int32)), .val (.long v12), .second, .val (.int (-1 : Int32)), .val (.int (4 : Int32))] [(.ref a0)])) rfl rfl (hb hby d3_82)
      refine own_by st20 ?_
      show own_Go p e below _ (T20.setTop (mkF m 85 #[.val (.ref a0), .val (.long q1), .second, .val (.int p2), .val (.double d3), .second, .val (.double d4), .second, .val (.int p5), .val (.int (0 : Int32)), .val (.long v12), .second, .val (.int (-1 : Int32)), .val (.int (4 : Int32))] [(.ref f_a0_entries)]))
      refine own_by (fun _ k => XS.iload X20.here hx rfl (hb hby d3_85) rfl k) ?_
      show own_Go p e below _ (T20.setTop (mkF m 87 #[.val (.ref a0), .val (.long q1), .second, .val (.int p2), .val (.double d3), .second, .val (.double d4), .second, .val (.int p5), .val (.int (0 : Int32)), .val (.long v12), .second, .val (.int (-1 : Int32)), .val (.int (4 : Int32))] [(.int (0 : Int32)), (.ref f_a0_entries)]))
      refine own_by (fun _ k => XS.lloadN X20.here hx rfl (hb hby d3_87) rfl k) ?_
      show own_Go p e below _ (T20.setTop (mkF m 88 #[.val (.ref a0), .val (.long q1), .second, .val (.int p2), .val (.double d3), .second, .val (.double d4), .second, .val (.int p5), .val (.int (0 : Int32)), .val (.long v12), .second, .val (.int (-1 : Int32)), .val (.int (4 : Int32))] [(.long q1), (.int (0 : Int32)), (.ref f_a0_entries)]))
      obtain ⟨cl21, Ar21, qq21, S21, M21, H21, G21⟩ := id V18'
      have hin21 : ¬ ((0 : Int32) < 0 ∨ cl21.slots.size ≤ ((0 : Int32)).toNatClampNeg) := inb_of S21 ⟨by decide, by decide⟩
      obtain ⟨T22, h22, X22, e22, W22, st22⟩ := stJ X20 hx hZ e20 Ar21 (j := (0 : Int32)) hin21 (g := (mkF m 88 #[.val (.ref a0), .val (.long q1), .second, .val (.int p2), .val (.double d3), .second, .val (.double d4), .second, .val (.int p5), .val (.int (0 : Int32)), .val (.long v12), .second, .val (.int (-1 : Int32)), .val (.int (4 : Int32))] [(.long q1), (.int (0 : Int32)), (.ref f_a0_entries)])) rfl rfl (hb hby d3_88)
      have V22 : own_Arf Z h22 f_a0_entries k_f_a0_entries .long (8 : Int32) (fun i => .long ((own_upd (own_cp fn_f_a0_entries 0 fn_f_a0_entries 4 4) 0 q1) i)) := own_arfSetJ Ar21 qq21 S21 M21 H21 G21 rfl W22
      have K22 : Keep h0 h22 [f_a0_entries] := K18.wr W22 (Or.inl (List.mem_of_getElem? (i := 0) rfl))
      have Z22 : n0 ≤ h22.size := Nat.le_trans Z18 (Keep.of_wr W22).1
      have N22 := Fr.snoc X22 N18 g_f_a0_entries
      refine own_by st22 ?_
      show own_Go p e below _ (T22.setTop (mkF m 89 #[.val (.ref a0), .val (.long q1), .second, .val (.int p2), .val (.double d3), .second, .val (.double d4), .second, .val (.int p5), .val (.int (0 : Int32)), .val (.long v12), .second, .val (.int (-1 : Int32)), .val (.int (4 : Int32))] []))
      refine own_by (fun _ k => XS.aloadN X22.here hx rfl (hb hby d3_89) rfl rfl k) ?_
      show own_Go p e below _ (T22.setTop (mkF m 90 #[.val (.ref a0), .val (.long q1), .second, .val (.int p2), .val (.double d3), .second, .val (.double d4), .second, .val (.int p5), .val (.int (0 : Int32)), .val (.long v12), .second, .val (.int (-1 : Int32)), .val (.int (4 : Int32))] [(.ref a0)]))
      have F23 : Fld Z h22 a0 "com/example/plyward/plyward/search/TranspositionTable" "entries" "[J" (.ref f_a0_entries) := (F19.other W22 (Or.inl (own_neArr ((P_E_a0.keep Kq18).wr W22) (hw _ (List.mem_of_getElem? (i := 2) rfl)) V22)))
      obtain ⟨T24, X24, e24, st24⟩ := getF X22 hx hZ hown (host := "") (Or.inl (hw _ (List.mem_of_getElem? (i := 15) rfl))) Via.refl e22 F23 (g := (mkF m 90 #[.val (.ref a0), .val (.long q1), .second, .val (.int p2), .val (.double d3), .second, .val (.double d4), .second, .val (.int p5), .val (.int (0 : Int32)), .val (.long v12), .second, .val (.int (-1 : Int32)), .val (.int (4 : Int32))] [(.ref a0)])) rfl rfl (hb hby d3_90)
      refine own_by st24 ?_
      show own_Go p e below _ (T24.setTop (mkF m 93 #[.val (.ref a0), .val (.long q1), .second, .val (.int p2), .val (.double d3), .second, .val (.double d4), .second, .val (.int p5), .val (.int (0 : Int32)), .val (.long v12), .second, .val (.int (-1 : Int32)), .val (.int (4 : Int32))] [(.ref f_a0_entries)]))
      refine own_by (fun _ k => XS.iload X24.here hx rfl (hb hby d3_93) rfl k) ?_
      show own_Go p e below _ (T24.setTop (mkF m 95 #[.val (.ref a0), .val (.long q1), .second, .val (.int p2), .val (.double d3), .second, .val (.double d4), .second, .val (.int p5), .val (.int (0 : Int32)), .val (.long v12), .second, .val (.int (-1 : Int32)), .val (.int (4 : Int32))] [(.int (0 : Int32)), (.ref f_a0_entries)]))
      refine own_by (fun _ k => XS.iconst X24.here hx rfl (hb hby d3_95) k) ?_
      show own_Go p e below _ (T24.setTop (mkF m 96 #[.val (.ref a0), .val (.long q1), .second, .val (.int p2), .val (.double d3), .second, .val (.double d4), .second, .val (.int p5), .val (.int (0 : Int32)), .val (.long v12), .second, .val (.int (-1 : Int32)), .val (.int (4 : Int32))] [(.int (1 : Int32)), (.int (0 : Int32)), (.ref f_a0_entries)]))
      refine own_by (fun _ k => XS.iadd X24.here hx rfl (hb hby d3_96) rfl k) ?_
      show own_Go p e below _ (T24.setTop (mkF m 97 #[.val (.ref a0), .val (.long q1), .second, .val (.int p2), .val (.double d3), .second, .val (.double d4), .second, .val (.int p5), .val (.int (0 : Int32)), .val (.long v12), .second, .val (.int (-1 : Int32)), .val (.int (4 : Int32))] [(.int (1 : Int32)), (.ref f_a0_entries)]))
      refine own_by (fun _ k => XS.dload X24.here hx rfl (hb hby d3_97) rfl k) ?_
      show own_Go p e below _ (T24.setTop (mkF m 99 #[.val (.ref a0), .val (.long q1), .second, .val (.int p2), .val (.double d3), .second, .val (.double d4), .second, .val (.int p5), .val (.int (0 : Int32)), .val (.long v12), .second, .val (.int (-1 : Int32)), .val (.int (4 : Int32))] [(.double d3), (.int (1 : Int32)), (.ref f_a0_entries)]))
      obtain ⟨T25, X25, e25, st25⟩ := own_d2bits X24 hx hZ hown (hw _ (List.mem_of_getElem? (i := 39) rfl)) (hw _ (List.mem_of_getElem? (i := 42) rfl)) (hw _ (List.mem_of_getElem? (i := 40) rfl)) (hw _ (List.mem_of_getElem? (i := 41) rfl)) e24 (g := (mkF m 99 #[.val (.ref a0), .val (.long q1), .second, .val (.int p2), .val (.double d3), .second, .val (.double d4), .second, .val (.int p5), .val (.int (0 : Int32)), .val (.long v12), .second, .val (.int (-1 : Int32)), .val (.int (4 : Int32))] [(.double d3), (.int (1 : Int32)), (.ref f_a0_entries)])) rfl (by rw [hml]; rfl) rfl (hb hby d3_99) (by decide) (W := 2) (by show 2 * 0 + _ ≤ _; exact Nat.le_of_eq rfl) (by decide)
      refine own_by st25 ?_
      show own_Go p e below _ (T25.setTop (mkF m 102 #[.val (.ref a0), .val (.long q1), .second, .val (.int p2), .val (.double d3), .second, .val (.double d4), .second, .val (.int p5), .val (.int (0 : Int32)), .val (.long v12), .second, .val (.int (-1 : Int32)), .val (.int (4 : Int32))] [(.long (d3.toInt64)), (.int (1 : Int32)), (.ref f_a0_entries)]))
      obtain ⟨cl26, Ar26, qq26, S26, M26, H26, G26⟩ := id V22
      have hin26 : ¬ ((1 : Int32) < 0 ∨ cl26.slots.size ≤ ((1 : Int32)).toNatClampNeg) := inb_of S26 ⟨by decide, by decide⟩
      obtain ⟨T27, h27, X27, e27, W27, st27⟩ := stJ X25 hx hZ e25 Ar26 (j := (1 : Int32)) hin26 (g := (mkF m 102 #[.val (.ref a0), .val (.long q1), .second, .val (.int p2), .val (.double d3), .second, .val (.double d4), .second, .val (.int p5), .val (.int (0 : Int32)), .val (.long v12), .second, .val (.int (-1 : Int32)), .val (.int (4 : Int32))] [(.long (d3.toInt64)), (.int (1 : Int32)), (.ref f_a0_entries)])) rfl rfl (hb hby d3_102)
      have V27 : own_Arf Z h27 f_a0_entries k_f_a0_entries .long (8 : Int32) (fun i => .long ((own_upd (own_upd (own_cp fn_f_a0_entries 0 fn_f_a0_entries 4 4) 0 q1) 1 (d3.toInt64)) i)) := own_arfSetJ Ar26 qq26 S26 M26 H26 G26 rfl W27
      have K27 : Keep h0 h27 [f_a0_entries] := K22.wr W27 (Or.inl (List.mem_of_getElem? (i := 0) rfl))
      have Z27 : n0 ≤ h27.size := Nat.le_trans Z22 (Keep.of_wr W27).1
      have N27 := Fr.snoc X27 N22 g_f_a0_entries
      refine own_by st27 ?_
      show own_Go p e below _ (T27.setTop (mkF m 103 #[.val (.ref a0), .val (.long q1), .second, .val (.int p2), .val (.double d3), .second, .val (.double d4), .second, .val (.int p5), .val (.int (0 : Int32)), .val (.long v12), .second, .val (.int (-1 : Int32)), .val (.int (4 : Int32))] []))
      refine own_by (fun _ k => XS.aloadN X27.here hx rfl (hb hby d3_103) rfl rfl k) ?_
      show own_Go p e below _ (T27.setTop (mkF m 104 #[.val (.ref a0), .val (.long q1), .second, .val (.int p2), .val (.double d3), .second, .val (.double d4), .second, .val (.int p5), .val (.int (0 : Int32)), .val (.long v12), .second, .val (.int (-1 : Int32)), .val (.int (4 : Int32))] [(.ref a0)]))
      have F28 : Fld Z h27 a0 "com/example/plyward/plyward/search/TranspositionTable" "entries" "[J" (.ref f_a0_entries) := (F23.other W27 (Or.inl (own_neArr (((P_E_a0.keep Kq18).wr W22).wr W27) (hw _ (List.mem_of_getElem? (i := 2) rfl)) V27)))
      obtain ⟨T29, X29, e29, st29⟩ := getF X27 hx hZ hown (host := "") (Or.inl (hw _ (List.mem_of_getElem? (i := 15) rfl))) Via.refl e27 F28 (g := (mkF m 104 #[.val (.ref a0), .val (.long q1), .second, .val (.int p2), .val (.double d3), .second, .val (.double d4), .second, .val (.int p5), .val (.int (0 : Int32)), .val (.long v12), .second, .val (.int (-1 : Int32)), .val (.int (4 : Int32))] [(.ref a0)])) rfl rfl (hb hby d3_104)
      refine own_by st29 ?_
      show own_Go p e below _ (T29.setTop (mkF m 107 #[.val (.ref a0), .val (.long q1), .second, .val (.int p2), .val (.double d3), .second, .val (.double d4), .second, .val (.int p5), .val (.int (0 : Int32)), .val (.long v12), .second, .val (.int (-1 : Int32)), .val (.int (4 : Int32))] [(.ref f_a0_entries)]))
      refine own_by (fun _ k => XS.iload X29.here hx rfl (hb hby d3_107) rfl k) ?_
      show own_Go p e below _ (T29.setTop (mkF m 109 #[.val (.ref a0), .val (.long q1), .second, .val (.int p2), .val (.double d3), .second, .val (.double d4), .second, .val (.int p5), .val (.int (0 : Int32)), .val (.long v12), .second, .val (.int (-1 : Int32)), .val (.int (4 : Int32))] [(.int (0 : Int32)), (.ref f_a0_entries)]))
      refine own_by (fun _ k => XS.iconst X29.here hx rfl (hb hby d3_109) k) ?_
      show own_Go p e below _ (T29.setTop (mkF m 110 #[.val (.ref a0), .val (.long q1), .second, .val (.int p2), .val (.double d3), .second, .val (.double d4), .second, .val (.int p5), .val (.int (0 : Int32)), .val (.long v12), .second, .val (.int (-1 : Int32)), .val (.int (4 : Int32))] [(.int (2 : Int32)), (.int (0 : Int32)), (.ref f_a0_entries)]))
      refine own_by (fun _ k => XS.iadd X29.here hx rfl (hb hby d3_110) rfl k) ?_
      show own_Go p e below _ (T29.setTop (mkF m 111 #[.val (.ref a0), .val (.long q1), .second, .val (.int p2), .val (.double d3), .second, .val (.double d4), .second, .val (.int p5), .val (.int (0 : Int32)), .val (.long v12), .second, .val (.int (-1 : Int32)), .val (.int (4 : Int32))] [(.int (2 : Int32)), (.ref f_a0_entries)]))
      refine own_by (fun _ k => XS.dload X29.here hx rfl (hb hby d3_111) rfl k) ?_
      show own_Go p e below _ (T29.setTop (mkF m 113 #[.val (.ref a0), .val (.long q1), .second, .val (.int p2), .val (.double d3), .second, .val (.double d4), .second, .val (.int p5), .val (.int (0 : Int32)), .val (.long v12), .second, .val (.int (-1 : Int32)), .val (.int (4 : Int32))] [(.double d4), (.int (2 : Int32)), (.ref f_a0_entries)]))
      obtain ⟨T30, X30, e30, st30⟩ := own_d2bits X29 hx hZ hown (hw _ (List.mem_of_getElem? (i := 39) rfl)) (hw _ (List.mem_of_getElem? (i := 42) rfl)) (hw _ (List.mem_of_getElem? (i := 40) rfl)) (hw _ (List.mem_of_getElem? (i := 41) rfl)) e29 (g := (mkF m 113 #[.val (.ref a0), .val (.long q1), .second, .val (.int p2), .val (.double d3), .second, .val (.double d4), .second, .val (.int p5), .val (.int (0 : Int32)), .val (.long v12), .second, .val (.int (-1 : Int32)), .val (.int (4 : Int32))] [(.double d4), (.int (2 : Int32)), (.ref f_a0_entries)])) rfl (by rw [hml]; rfl) rfl (hb hby d3_113) (by decide) (W := 2) (by show 2 * 0 + _ ≤ _; exact Nat.le_of_eq rfl) (by decide)
      refine own_by st30 ?_
      show own_Go p e below _ (T30.setTop (mkF m 116 #[.val (.ref a0), .val (.long q1), .second, .val (.int p2), .val (.double d3), .second, .val (.double d4), .second, .val (.int p5), .val (.int (0 : Int32)), .val (.long v12), .second, .val (.int (-1 : Int32)), .val (.int (4 : Int32))] [(.long (d4.toInt64)), (.int (2 : Int32)), (.ref f_a0_entries)]))
      obtain ⟨cl31, Ar31, qq31, S31, M31, H31, G31⟩ := id V27
      have hin31 : ¬ ((2 : Int32) < 0 ∨ cl31.slots.size ≤ ((2 : Int32)).toNatClampNeg) := inb_of S31 ⟨by decide, by decide⟩
      obtain ⟨T32, h32, X32, e32, W32, st32⟩ := stJ X30 hx hZ e30 Ar31 (j := (2 : Int32)) hin31 (g := (mkF m 116 #[.val (.ref a0), .val (.long q1), .second, .val (.int p2), .val (.double d3), .second, .val (.double d4), .second, .val (.int p5), .val (.int (0 : Int32)), .val (.long v12), .second, .val (.int (-1 : Int32)), .val (.int (4 : Int32))] [(.long (d4.toInt64)), (.int (2 : Int32)), (.ref f_a0_entries)])) rfl rfl (hb hby d3_116)
      have V32 : own_Arf Z h32 f_a0_entries k_f_a0_entries .long (8 : Int32) (fun i => .long ((own_upd (own_upd (own_upd (own_cp fn_f_a0_entries 0 fn_f_a0_entries 4 4) 0 q1) 1 (d3.toInt64)) 2 (d4.toInt64)) i)) := own_arfSetJ Ar31 qq31 S31 M31 H31 G31 rfl W32
      have K32 : Keep h0 h32 [f_a0_entries] := K27.wr W32 (Or.inl (List.mem_of_getElem? (i := 0) rfl))
      have Z32 : n0 ≤ h32.size := Nat.le_trans Z27 (Keep.of_wr W32).1
      have N32 := Fr.snoc X32 N27 g_f_a0_entries
      refine own_by st32 ?_
      show own_Go p e below _ (T32.setTop (mkF m 117 #[.val (.ref a0), .val (.long q1), .second, .val (.int p2), .val (.double d3), .second, .val (.double d4), .second, .val (.int p5), .val (.int (0 : Int32)), .val (.long v12), .second, .val (.int (-1 : Int32)), .val (.int (4 : Int32))] []))
      refine own_by (fun _ k => XS.aloadN X32.here hx rfl (hb hby d3_117) rfl rfl k) ?_
      show own_Go p e below _ (T32.setTop (mkF m 118 #[.val (.ref a0), .val (.long q1), .second, .val (.int p2), .val (.double d3), .second, .val (.double d4), .second, .val (.int p5), .val (.int (0 : Int32)), .val (.long v12), .second, .val (.int (-1 : Int32)), .val (.int (4 : Int32))] [(.ref a0)]))
      have F33 : Fld Z h32 a0 "com/example/plyward/plyward/search/TranspositionTable" "entries" "[J" (.ref f_a0_entries) := (F28.other W32 (Or.inl (own_neArr ((((P_E_a0.keep Kq18).wr W22).wr W27).wr W32) (hw _ (List.mem_of_getElem? (i := 2) rfl)) V32)))
      obtain ⟨T34, X34, e34, st34⟩ := getF X32 hx hZ hown (host := "") (Or.inl (hw _ (List.mem_of_getElem? (i := 15) rfl))) Via.refl e32 F33 (g := (mkF m 118 #[.val (.ref a0), .val (.long q1), .second, .val (.int p2), .val (.double d3), .second, .val (.double d4), .second, .val (.int p5), .val (.int (0 : Int32)), .val (.long v12), .second, .val (.int (-1 : Int32)), .val (.int (4 : Int32))] [(.ref a0)])) rfl rfl (hb hby d3_118)
      refine own_by st34 ?_
      show own_Go p e below _ (T34.setTop (mkF m 121 #[.val (.ref a0), .val (.long q1), .second, .val (.int p2), .val (.double d3), .second, .val (.double d4), .second, .val (.int p5), .val (.int (0 : Int32)), .val (.long v12), .second, .val (.int (-1 : Int32)), .val (.int (4 : Int32))] [(.ref f_a0_entries)]))
      refine own_by (fun _ k => XS.iload X34.here hx rfl (hb hby d3_121) rfl k) ?_
      show own_Go p e below _ (T34.setTop (mkF m 123 #[.val (.ref a0), .val (.long q1), .second, .val (.int p2), .val (.double d3), .second, .val (.double d4), .second, .val (.int p5), .val (.int (0 : Int32)), .val (.long v12), .second, .val (.int (-1 : Int32)), .val (.int (4 : Int32))] [(.int (0 : Int32)), (.ref f_a0_entries)]))
      refine own_by (fun _ k => XS.iconst X34.here hx rfl (hb hby d3_123) k) ?_
      show own_Go p e below _ (T34.setTop (mkF m 124 #[.val (.ref a0), .val (.long q1), .second, .val (.int p2), .val (.double d3), .second, .val (.double d4), .second, .val (.int p5), .val (.int (0 : Int32)), .val (.long v12), .second, .val (.int (-1 : Int32)), .val (.int (4 : Int32))] [(.int (3 : Int32)), (.int (0 : Int32)), (.ref f_a0_entries)]))
      refine own_by (fun _ k => XS.iadd X34.here hx rfl (hb hby d3_124) rfl k) ?_
      show own_Go p e below _ (T34.setTop (mkF m 125 #[.val (.ref a0), .val (.long q1), .second, .val (.int p2), .val (.double d3), .second, .val (.double d4), .second, .val (.int p5), .val (.int (0 : Int32)), .val (.long v12), .second, .val (.int (-1 : Int32)), .val (.int (4 : Int32))] [(.int (3 : Int32)), (.ref f_a0_entries)]))
      refine own_by (fun _ k => XS.lload X34.here hx rfl (hb hby d3_125) rfl k) ?_
      show own_Go p e below _ (T34.setTop (mkF m 127 #[.val (.ref a0), .val (.long q1), .second, .val (.int p2), .val (.double d3), .second, .val (.double d4), .second, .val (.int p5), .val (.int (0 : Int32)), .val (.long v12), .second, .val (.int (-1 : Int32)), .val (.int (4 : Int32))] [(.long v12), (.int (3 : Int32)), (.ref f_a0_entries)]))
      obtain ⟨cl35, Ar35, qq35, S35, M35, H35, G35⟩ := id V32
      have hin35 : ¬ ((3 : Int32) < 0 ∨ cl35.slots.size ≤ ((3 : Int32)).toNatClampNeg) := inb_of S35 ⟨by decide, by decide⟩
      obtain ⟨T36, h36, X36, e36, W36, st36⟩ := stJ X34 hx hZ e34 Ar35 (j := (3 : Int32)) hin35 (g := (mkF m 127 #[.val (.ref a0), .val (.long q1), .second, .val (.int p2), .val (.double d3), .second, .val (.double d4), .second, .val (.int p5), .val (.int (0 : Int32)), .val (.long v12), .second, .val (.int (-1 : Int32)), .val (.int (4 : Int32))] [(.long v12), (.int (3 : Int32)), (.ref f_a0_entries)])) rfl rfl (hb hby d3_127)
      have V36 : own_Arf Z h36 f_a0_entries k_f_a0_entries .long (8 : Int32) (fun i => .long ((own_upd (own_upd (own_upd (own_upd (own_cp fn_f_a0_entries 0 fn_f_a0_entries 4 4) 0 q1) 1 (d3.toInt64)) 2 (d4.toInt64)) 3 v12) i)) := own_arfSetJ Ar35 qq35 S35 M35 H35 G35 rfl W36
      have K36 : Keep h0 h36 [f_a0_entries] := K32.wr W36 (Or.inl (List.mem_of_getElem? (i := 0) rfl))
      have Z36 : n0 ≤ h36.size := Nat.le_trans Z32 (Keep.of_wr W36).1
      have N36 := Fr.snoc X36 N32 g_f_a0_entries
      refine own_by st36 ?_
      show own_Go p e below _ (T36.setTop (mkF m 128 #[.val (.ref a0), .val (.long q1), .second, .val (.int p2), .val (.double d3), .second, .val (.double d4), .second, .val (.int p5), .val (.int (0 : Int32)), .val (.long v12), .second, .val (.int (-1 : Int32)), .val (.int (4 : Int32))] []))
      exact own_ret0 X36 hx Bd.returns (hb hby d3_128) hlk e36 ⟨(own_upd (own_upd (own_upd (own_upd (own_cp fn_f_a0_entries 0 fn_f_a0_entries 4 4) 0 q1) 1 (d3.toInt64)) 2 (d4.toInt64)) 3 v12), rfl, N36, K36, V36, (Or.inl ⟨y9, v12, hj10, hv12, hp15, rfl⟩)⟩ (by decide) (by decide)
    · skip
      show own_Go p e below _ (T13.setTop (mkF m 40 #[.val (.ref a0), .val (.long q1), .second, .val (.int p2), .val (.double d3), .second, .val (.double d4), .second, .val (.int p5), .val (.int (0 : Int32)), .val (.long v12), .second, .val (.int (0 : Int32)), .unset] []))
      refine own_by (fun _ k => XS.iload X13.here hx rfl (hb hby d3_40) rfl k) ?_
      show own_Go p e below _ (T13.setTop (mkF m 42 #[.val (.ref a0), .val (.long q1), .second, .val (.int p2), .val (.double d3), .second, .val (.double d4), .second, .val (.int p5), .val (.int (0 : Int32)), .val (.long v12), .second, .val (.int (0 : Int32)), .unset] [(.int (0 : Int32))]))
      refine own_by (fun _ k => XS.ifNo X13.here hx rfl (hb hby d3_42) rfl ((if0 _ _).trans (flt (by decide : ¬ ((0 : Int32) < (0 : Int32)))).1) k) ?_
      show own_Go p e below _ (T13.setTop (mkF m 45 #[.val (.ref a0), .val (.long q1), .second, .val (.int p2), .val (.double d3), .second, .val (.double d4), .second, .val (.int p5), .val (.int (0 : Int32)), .val (.long v12), .second, .val (.int (0 : Int32)), .unset] []))
      refine own_by (fun _ k => XS.iload X13.here hx rfl (hb hby d3_45) rfl k) ?_
      show own_Go p e below _ (T13.setTop (mkF m 47 #[.val (.ref a0), .val (.long q1), .second, .val (.int p2), .val (.double d3), .second, .val (.double d4), .second, .val (.int p5), .val (.int (0 : Int32)), .val (.long v12), .second, .val (.int (0 : Int32)), .unset] [(.int (0 : Int32))]))
      refine own_by (fun _ k => XS.goto X13.here hx rfl (pc0 := 47) (pc' := 57) rfl (hb hby d3_47) (by decide) (by decide) k) ?_
      show own_Go p e below _ (T13.setTop (mkF m 57 #[.val (.ref a0), .val (.long q1), .second, .val (.int p2), .val (.double d3), .second, .val (.double d4), .second, .val (.int p5), .val (.int (0 : Int32)), .val (.long v12), .second, .val (.int (0 : Int32)), .unset] [(.int (0 : Int32))]))
      refine own_by (fun _ k => XS.istore X13.here hx rfl (hb hby d3_57) rfl (l' := #[.val (.ref a0), .val (.long q1), .second, .val (.int p2), .val (.double d3), .second, .val (.double d4), .second, .val (.int p5), .val (.int (0 : Int32)), .val (.long v12), .second, .val (.int (0 : Int32)), .val (.int (0 : Int32))]) rfl k) ?_
      show own_Go p e below _ (T13.setTop (mkF m 59 #[.val (.ref a0), .val (.long q1), .second, .val (.int p2), .val (.double d3), .second, .val (.double d4), .second, .val (.int p5), .val (.int (0 : Int32)), .val (.long v12), .second, .val (.int (0 : Int32)), .val (.int (0 : Int32))] []))
      refine own_by (fun _ k => XS.aloadN X13.here hx rfl (hb hby d3_59) rfl rfl k) ?_
      show own_Go p e below _ (T13.setTop (mkF m 60 #[.val (.ref a0), .val (.long q1), .second, .val (.int p2), .val (.double d3), .second, .val (.double d4), .second, .val (.int p5), .val (.int (0 : Int32)), .val (.long v12), .second, .val (.int (0 : Int32)), .val (.int (0 : Int32))] [(.ref a0)]))
      obtain ⟨T37, X37, e37, st37⟩ := getF X13 hx hZ hown (host := "") (Or.inl (hw _ (List.mem_of_getElem? (i := 15) rfl))) Via.refl eq13 P_F_a0_entries (g := (mkF m 60 #[.val (.ref a0), .val (.long q1), .second, .val (.int p2), .val (.double d3), .second, .val (.double d4), .second, .val (.int p5), .val (.int (0 : Int32)), .val (.long v12), .second, .val (.int (0 : Int32)), .val (.int (0 : Int32))] [(.ref a0)])) rfl rfl (hb hby d3_60)
      refine own_by st37 ?_
      show own_Go p e below _ (T37.setTop (mkF m 63 #[.val (.ref a0), .val (.long q1), .second, .val (.int p2), .val (.double d3), .second, .val (.double d4), .second, .val (.int p5), .val (.int (0 : Int32)), .val (.long v12), .second, .val (.int (0 : Int32)), .val (.int (0 : Int32))] [(.ref f_a0_entries)]))
      refine own_by (fun _ k => XS.iload X37.here hx rfl (hb hby d3_63) rfl k) ?_
      show own_Go p e below _ (T37.setTop (mkF m 65 #[.val (.ref a0), .val (.long q1), .second, .val (.int p2), .val (.double d3), .second, .val (.double d4), .second, .val (.int p5), .val (.int (0 : Int32)), .val (.long v12), .second, .val (.int (0 : Int32)), .val (.int (0 : Int32))] [(.int (0 : Int32)), (.ref f_a0_entries)]))
      refine own_by (fun _ k => XS.aloadN X37.here hx rfl (hb hby d3_65) rfl rfl k) ?_
      show own_Go p e below _ (T37.setTop (mkF m 66 #[.val (.ref a0), .val (.long q1), .second, .val (.int p2), .val (.double d3), .second, .val (.double d4), .second, .val (.int p5), .val (.int (0 : Int32)), .val (.long v12), .second, .val (.int (0 : Int32)), .val (.int (0 : Int32))] [(.ref a0), (.int (0 : Int32)), (.ref f_a0_entries)]))
      obtain ⟨T38, X38, e38, st38⟩ := getF X37 hx hZ hown (host := "") (Or.inl (hw _ (List.mem_of_getElem? (i := 15) rfl))) Via.refl e37 P_F_a0_entries (g := (mkF m 66 #[.val (.ref a0), .val (.long q1), .second, .val (.int p2), .val (.double d3), .second, .val (.double d4), .second, .val (.int p5), .val (.int (0 : Int32)), .val (.long v12), .second, .val (.int (0 : Int32)), .val (.int (0 : Int32))] [(.ref a0), (.int (0 : Int32)), (.ref f_a0_entries)])) rfl rfl (hb hby d3_66)
      refine own_by st38 ?_
      show own_Go p e below _ (T38.setTop (mkF m 69 #[.val (.ref a0), .val (.long q1), .second, .val (.int p2), .val (.double d3), .second, .val (.double d4), .second, .val (.int p5), .val (.int (0 : Int32)), .val (.long v12), .second, .val (.int (0 : Int32)), .val (.int (0 : Int32))] [(.ref f_a0_entries), (.int (0 : Int32)), (.ref f_a0_entries)]))
      refine own_by (fun _ k => XS.iload X38.here hx rfl (hb hby d3_69) rfl k) ?_
      show own_Go p e below _ (T38.setTop (mkF m 71 #[.val (.ref a0), .val (.long q1), .second, .val (.int p2), .val (.double d3), .second, .val (.double d4), .second, .val (.int p5), .val (.int (0 : Int32)), .val (.long v12), .second, .val (.int (0 : Int32)), .val (.int (0 : Int32))] [(.int (0 : Int32)), (.ref f_a0_entries), (.int (0 : Int32)), (.ref f_a0_entries)]))
      refine own_by (fun _ k => XS.iconst X38.here hx rfl (hb hby d3_71) k) ?_
      show own_Go p e below _ (T38.setTop (mkF m 72 #[.val (.ref a0), .val (.long q1), .second, .val (.int p2), .val (.double d3), .second, .val (.double d4), .second, .val (.int p5), .val (.int (0 : Int32)), .val (.long v12), .second, .val (.int (0 : Int32)), .val (.int (0 : Int32))] [(.int (4 : Int32)), (.int (0 : Int32)), (.ref f_a0_entries), (.int (0 : Int32)), (.ref f_a0_entries)]))
      refine own_by (fun _ k => XS.iadd X38.here hx rfl (hb hby d3_72) rfl k) ?_
      show own_Go p e below _ (T38.setTop (mkF m 73 #[.val (.ref a0), .val (.long q1), .second, .val (.int p2), .val (.double d3), .second, .val (.double d4), .second, .val (.int p5), .val (.int (0 : Int32)), .val (.long v12), .second, .val (.int (0 : Int32)), .val (.int (0 : Int32))] [(.int (4 : Int32)), (.ref f_a0_entries), (.int (0 : Int32)), (.ref f_a0_entries)]))
      refine own_by (fun _ k => XS.iload X38.here hx rfl (hb hby d3_73) rfl k) ?_
      show own_Go p e below _ (T38.setTop (mkF m 75 #[.val (.ref a0), .val (.long q1), .second, .val (.int p2), .val (.double d3), .second, .val (.double d4), .second, .val (.int p5), .val (.int (0 : Int32)), .val (.long v12), .second, .val (.int (0 : Int32)), .val (.int (0 : Int32))] [(.int (0 : Int32)), (.int (4 : Int32)), (.ref f_a0_entries), (.int (0 : Int32)), (.ref f_a0_entries)]))
      refine own_by (fun _ k => XS.iload X38.here hx rfl (hb hby d3_75) rfl k) ?_
      show own_Go p e below _ (T38.setTop (mkF m 77 #[.val (.ref a0), .val (.long q1), .second, .val (.int p2), .val (.double d3), .second, .val (.double d4), .second, .val (.int p5), .val (.int (0 : Int32)), .val (.long v12), .second, .val (.int (0 : Int32)), .val (.int (0 : Int32))] [(.int (0 : Int32)), (.int (0 : Int32)), (.int (4 : Int32)), (.ref f_a0_entries), (.int (0 : Int32)), (.ref f_a0_entries)]))
      refine own_by (fun _ k => XS.isub X38.here hx rfl (hb hby d3_77) rfl k) ?_
      show own_Go p e below _ (T38.setTop (mkF m 78 #[.val (.ref a0), .val (.long q1), .second, .val (.int p2), .val (.double d3), .second, .val (.double d4), .second, .val (.int p5), .val (.int (0 : Int32)), .val (.long v12), .second, .val (.int (0 : Int32)), .val (.int (0 : Int32))] [(.int (0 : Int32)), (.int (4 : Int32)), (.ref f_a0_entries), (.int (0 : Int32)), (.ref f_a0_entries)]))
      obtain ⟨T39, h39, L39, X39, e39, N39, Kq39, V39, st39⟩ := own_cpA X38 hx hZ hown (hw _ (List.mem_of_getElem? (i := 35) rfl)) (hw _ (List.mem_of_getElem? (i := 38) rfl)) (hw _ (List.mem_of_getElem? (i := 36) rfl)) (hw _ (List.mem_of_getElem? (i := 37) rfl)) e38 P_V_f_a0_entries P_V_f_a0_entries (by decide) (by decide) (by decide) (by decide) (by decide) (by decide) N13 g_f_a0_entries (g := (mkF m 78 #[.val (.ref a0), .val (.long q1), .second, .val (.int p2), .val (.double d3), .second, .val (.double d4), .second, .val (.int p5), .val (.int (0 : Int32)), .val (.long v12), .second, .val (.int (0 : Int32)), .val (.int (0 : Int32))] [(.int (0 : Int32)), (.int (4 : Int32)), (.ref f_a0_entries), (.int (0 : Int32)), (.ref f_a0_entries)])) rfl (by rw [hml]; rfl) rfl (hb hby d3_78) (by decide) (W := 0) (by show 2 * 0 + _ ≤ _; exact Nat.le_of_eq rfl) (by decide)
      have V39' : own_Arf Z h39 f_a0_entries k_f_a0_entries .long (8 : Int32) (fun i => .long ((own_cp fn_f_a0_entries 0 fn_f_a0_entries 4 0) i)) := by rw [← own_cpJ]; exact V39
      have K39 : Keep h0 h39 [f_a0_entries] := (Keep.refl h0 [f_a0_entries]).trans Kq39 ((allS (Or.inl (List.mem_of_getElem? (i := 0) rfl)) all0))
      have Z39 : n0 ≤ h39.size := Nat.le_trans Z0 Kq39.1
      refine own_by st39 ?_
      show own_Go p e below _ (T39.setTop (mkF m 81 #[.val (.ref a0), .val (.long q1), .second, .val (.int p2), .val (.double d3), .second, .val (.double d4), .second, .val (.int p5), .val (.int (0 : Int32)), .val (.long v12), .second, .val (.int (0 : Int32)), .val (.int (0 : Int32))] []))
      refine own_by (fun _ k => XS.aloadN X39.here hx rfl (hb hby d3_81) rfl rfl k) ?_
      show own_Go p e below _ (T39.setTop (mkF m 82 #[.val (.ref a0), .val (.long q1), .second, .val (.int p2), .val (.double d3), .second, .val (.double d4), .second, .val (.int p5), .val (.int (0 : Int32)), .val (.long v12), .second, .val (.int (0 : Int32)), .val (.int (0 : Int32))] [(.ref a0)]))
      have F40 : Fld Z h39 a0 "com/example/plyward/plyward/search/TranspositionTable" "entries" "[J" (.ref f_a0_entries) := (P_F_a0_entries.keep Kq39 (ninS (own_neArr (P_E_a0.keep Kq39) (hw _ (List.mem_of_getElem? (i := 2) rfl)) V39') nin0))
      obtain ⟨T41, X41, e41, st41⟩ := getF X39 hx hZ hown (host := "") (Or.inl (hw _ (List.mem_of_getElem? (i := 15) rfl))) Via.refl e39 F40 (g := (mkF m 82 #[.val (.ref a0), .val (.long q1), .second, .val (.int p2), .val (.double d3), .second, .val (.double d4), .second, .val (.int p5), .val (.int (0 : Int32)), .val (.long v12), .second, .val (.int (0 : Int32)), .val (.int (0 : Int32))] [(.ref a0)])) rfl rfl (hb hby d3_82)
      refine own_by st41 ?_
      show own_Go p e below _ (T41.setTop (mkF m 85 #[.val (.ref a0), .val (.long q1), .second, .val (.int p2), .val (.double d3), .second, .val (.double d4), .second, .val (.int p5), .val (.int (0 : Int32)), .val (.long v12), .second, .val (.int (0 : Int32)), .val (.int (0 : Int32))] [(.ref f_a0_entries)]))
      refine own_by (fun _ k => XS.iload X41.here hx rfl (hb hby d3_85) rfl k) ?_
      show own_Go p e below _ (T41.setTop (mkF m 87 #[.val (.ref a0), .val (.long q1), .second, .val (.int p2), .val (.double d3), .second, .val (.double d4), .second, .val (.int p5), .val (.int (0 : Int32)), .val (.long v12), .second, .val (.int (0 : Int32)), .val (.int (0 : Int32))] [(.int (0 : Int32)), (.ref f_a0_entries)]))
      refine own_by (fun _ k => XS.lloadN X41.here hx rfl (hb hby d3_87) rfl k) ?_
      show own_Go p e below _ (T41.setTop (mkF m 88 #[.val (.ref a0), .val (.long q1), .second, .val (.int p2), .val (.double d3), .second, .val (.double d4), .second, .val (.int p5), .val (.int (0 : Int32)), .val (.long v12), .second, .val (.int (0 : Int32)), .val (.int (0 : Int32))] [(.long q1), (.int (0 : Int32)), (.ref f_a0_entries)]))
      obtain ⟨cl42, Ar42, qq42, S42, M42, H42, G42⟩ := id V39'
      have hin42 : ¬ ((0 : Int32) < 0 ∨ cl42.slots.size ≤ ((0 : Int32)).toNatClampNeg) := inb_of S42 ⟨by decide, by decide⟩
      obtain ⟨T43, h43, X43, e43, W43, st43⟩ := stJ X41 hx hZ e41 Ar42 (j := (0 : Int32)) hin42 (g := (mkF m 88 #[.val (.ref a0), .val (.long q1), .second, .val (.int p2), .val (.double d3), .second, .val (.double d4), .second, .val (.int p5), .val (.int (0 : Int32)), .val (.long v12), .second, .val (.int (0 : Int32)), .val (.int (0 : Int32))] [(.long q1), (.int (0 : Int32)), (.ref f_a0_entries)])) rfl rfl (hb hby d3_88)
      have V43 : own_Arf Z h43 f_a0_entries k_f_a0_entries .long (8 : Int32) (fun i => .long ((own_upd (own_cp fn_f_a0_entries 0 fn_f_a0_entries 4 0) 0 q1) i)) := own_arfSetJ Ar42 qq42 S42 M42 H42 G42 rfl W43
      have K43 : Keep h0 h43 [f_a0_entries] := K39.wr W43 (Or.inl (List.mem_of_getElem? (i := 0) rfl))
      have Z43 : n0 ≤ h43.size := Nat.le_trans Z39 (Keep.of_wr W43).1
      have N43 := Fr.snoc X43 N39 g_f_a0_entries
      refine own_by st43 ?_
      show own_Go p e below _ (T43.setTop (mkF m 89 #[.val (.ref a0), .val (.long q1), .second, .val (.int p2), .val (.double d3), .second, .val (.double d4), .second, .val (.int p5), .val (.int (0 : Int32)), .val (.long v12), .second, .val (.int (0 : Int32)), .val (.int (0 : Int32))] []))
      refine own_by (fun _ k => XS.aloadN X43.here hx rfl (hb hby d3_89) rfl rfl k) ?_
      show own_Go p e below _ (T43.setTop (mkF m 90 #[.val (.ref a0), .val (.long q1), .second, .val (.int p2), .val (.double d3), .second, .val (.double d4), .second, .val (.int p5), .val (.int (0 : Int32)), .val (.long v12), .second, .val (.int (0 : Int32)), .val (.int (0 : Int32))] [(.ref a0)]))
      have F44 : Fld Z h43 a0 "com/example/plyward/plyward/search/TranspositionTable" "entries" "[J" (.ref f_a0_entries) := (F40.other W43 (Or.inl (own_neArr ((P_E_a0.keep Kq39).wr W43) (hw _ (List.mem_of_getElem? (i := 2) rfl)) V43)))
      obtain ⟨T45, X45, e45, st45⟩ := getF X43 hx hZ hown (host := "") (Or.inl (hw _ (List.mem_of_getElem? (i := 15) rfl))) Via.refl e43 F44 (g := (mkF m 90 #[.val (.ref a0), .val (.long q1), .second, .val (.int p2), .val (.double d3), .second, .val (.double d4), .second, .val (.int p5), .val (.int (0 : Int32)), .val (.long v12), .second, .val (.int (0 : Int32)), .val (.int (0 : Int32))] [(.ref a0)])) rfl rfl (hb hby d3_90)
      refine own_by st45 ?_
      show own_Go p e below _ (T45.setTop (mkF m 93 #[.val (.ref a0), .val (.long q1), .second, .val (.int p2), .val (.double d3), .second, .val (.double d4), .second, .val (.int p5), .val (.int (0 : Int32)), .val (.long v12), .second, .val (.int (0 : Int32)), .val (.int (0 : Int32))] [(.ref f_a0_entries)]))
      refine own_by (fun _ k => XS.iload X45.here hx rfl (hb hby d3_93) rfl k) ?_
      show own_Go p e below _ (T45.setTop (mkF m 95 #[.val (.ref a0), .val (.long q1), .second, .val (.int p2), .val (.double d3), .second, .val (.double d4), .second, .val (.int p5), .val (.int (0 : Int32)), .val (.long v12), .second, .val (.int (0 : Int32)), .val (.int (0 : Int32))] [(.int (0 : Int32)), (.ref f_a0_entries)]))
      refine own_by (fun _ k => XS.iconst X45.here hx rfl (hb hby d3_95) k) ?_
      show own_Go p e below _ (T45.setTop (mkF m 96 #[.val (.ref a0), .val (.long q1), .second, .val (.int p2), .val (.double d3), .second, .val (.double d4), .second, .val (.int p5), .val (.int (0 : Int32)), .val (.long v12), .second, .val (.int (0 : Int32)), .val (.int (0 : Int32))] [(.int (1 : Int32)), (.int (0 : Int32)), (.ref f_a0_entries)]))
      refine own_by (fun _ k => XS.iadd X45.here hx rfl (hb hby d3_96) rfl k) ?_
      show own_Go p e below _ (T45.setTop (mkF m 97 #[.val (.ref a0), .val (.long q1), .second, .val (.int p2), .val (.double d3), .second, .val (.double d4), .second, .val (.int p5), .val (.int (0 : Int32)), .val (.long v12), .second, .val (.int (0 : Int32)), .val (.int (0 : Int32))] [(.int (1 : Int32)), (.ref f_a0_entries)]))
      refine own_by (fun _ k => XS.dload X45.here hx rfl (hb hby d3_97) rfl k) ?_
      show own_Go p e below _ (T45.setTop (mkF m 99 #[.val (.ref a0), .val (.long q1), .second, .val (.int p2), .val (.double d3), .second, .val (.double d4), .second, .val (.int p5), .val (.int (0 : Int32)), .val (.long v12), .second, .val (.int (0 : Int32)), .val (.int (0 : Int32))] [(.double d3), (.int (1 : Int32)), (.ref f_a0_entries)]))
      obtain ⟨T46, X46, e46, st46⟩ := own_d2bits X45 hx hZ hown (hw _ (List.mem_of_getElem? (i := 39) rfl)) (hw _ (List.mem_of_getElem? (i := 42) rfl)) (hw _ (List.mem_of_getElem? (i := 40) rfl)) (hw _ (List.mem_of_getElem? (i := 41) rfl)) e45 (g := (mkF m 99 #[.val (.ref a0), .val (.long q1), .second, .val (.int p2), .val (.double d3), .second, .val (.double d4), .second, .val (.int p5), .val (.int (0 : Int32)), .val (.long v12), .second, .val (.int (0 : Int32)), .val (.int (0 : Int32))] [(.double d3), (.int (1 : Int32)), (.ref f_a0_entries)])) rfl (by rw [hml]; rfl) rfl (hb hby d3_99) (by decide) (W := 2) (by show 2 * 0 + _ ≤ _; exact Nat.le_of_eq rfl) (by decide)
      refine own_by st46 ?_
      show own_Go p e below _ (T46.setTop (mkF m 102 #[.val (.ref a0), .val (.long q1), .second, .val (.int p2), .val (.double d3), .second, .val (.double d4), .second, .val (.int p5), .val (.int (0 : Int32)), .val (.long v12), .second, .val (.int (0 : Int32)), .val (.int (0 : Int32))] [(.long (d3.toInt64)), (.int (1 : Int32)), (.ref f_a0_entries)]))
      obtain ⟨cl47, Ar47, qq47, S47, M47, H47, G47⟩ := id V43
      have hin47 : ¬ ((1 : Int32) < 0 ∨ cl47.slots.size ≤ ((1 : Int32)).toNatClampNeg) := inb_of S47 ⟨by decide, by decide⟩
      obtain ⟨T48, h48, X48, e48, W48, st48⟩ := stJ X46 hx hZ e46 Ar47 (j := (1 : Int32)) hin47 (g := (mkF m 102 #[.val (.ref a0), .val (.long q1), .second, .val (.int p2), .val (.double d3), .second, .val (.double d4), .second, .val (.int p5), .val (.int (0 : Int32)), .val (.long v12), .second, .val (.int (0 : Int32)), .val (.int (0 : Int32))] [(.long (d3.toInt64)), (.int (1 : Int32)), (.ref f_a0_entries)])) rfl rfl (hb hby d3_102)
      have V48 : own_Arf Z h48 f_a0_entries k_f_a0_entries .long (8 : Int32) (fun i => .long ((own_upd (own_upd (own_cp fn_f_a0_entries 0 fn_f_a0_entries 4 0) 0 q1) 1 (d3.toInt64)) i)) := own_arfSetJ Ar47 qq47 S47 M47 H47 G47 rfl W48
      have K48 : Keep h0 h48 [f_a0_entries] := K43.wr W48 (Or.inl (List.mem_of_getElem? (i := 0) rfl))
      have Z48 : n0 ≤ h48.size := Nat.le_trans Z43 (Keep.of_wr W48).1
      have N48 := Fr.snoc X48 N43 g_f_a0_entries
      refine own_by st48 ?_
      show own_Go p e below _ (T48.setTop (mkF m 103 #[.val (.ref a0), .val (.long q1), .second, .val (.int p2), .val (.double d3), .second, .val (.double d4), .second, .val (.int p5), .val (.int (0 : Int32)), .val (.long v12), .second, .val (.int (0 : Int32)), .val (.int (0 : Int32))] []))
      refine own_by (fun _ k => XS.aloadN X48.here hx rfl (hb hby d3_103) rfl rfl k) ?_
      show own_Go p e below _ (T48.setTop (mkF m 104 #[.val (.ref a0), .val (.long q1), .second, .val (.int p2), .val (.double d3), .second, .val (.double d4), .second, .val (.int p5), .val (.int (0 : Int32)), .val (.long v12), .second, .val (.int (0 : Int32)), .val (.int (0 : Int32))] [(.ref a0)]))
      have F49 : Fld Z h48 a0 "com/example/plyward/plyward/search/TranspositionTable" "entries" "[J" (.ref f_a0_entries) := (F44.other W48 (Or.inl (own_neArr (((P_E_a0.keep Kq39).wr W43).wr W48) (hw _ (List.mem_of_getElem? (i := 2) rfl)) V48)))
      obtain ⟨T50, X50, e50, st50⟩ := getF X48 hx hZ hown (host := "") (Or.inl (hw _ (List.mem_of_getElem? (i := 15) rfl))) Via.refl e48 F49 (g := (mkF m 104 #[.val (.ref a0), .val (.long q1), .second, .val (.int p2), .val (.double d3), .second, .val (.double d4), .second, .val (.int p5), .val (.int (0 : Int32)), .val (.long v12), .second, .val (.int (0 : Int32)), .val (.int (0 : Int32))] [(.ref a0)])) rfl rfl (hb hby d3_104)
      refine own_by st50 ?_
      show own_Go p e below _ (T50.setTop (mkF m 107 #[.val (.ref a0), .val (.long q1), .second, .val (.int p2), .val (.double d3), .second, .val (.double d4), .second, .val (.int p5), .val (.int (0 : Int32)), .val (.long v12), .second, .val (.int (0 : Int32)), .val (.int (0 : Int32))] [(.ref f_a0_entries)]))
      refine own_by (fun _ k => XS.iload X50.here hx rfl (hb hby d3_107) rfl k) ?_
      show own_Go p e below _ (T50.setTop (mkF m 109 #[.val (.ref a0), .val (.long q1), .second, .val (.int p2), .val (.double d3), .second, .val (.double d4), .second, .val (.int p5), .val (.int (0 : Int32)), .val (.long v12), .second, .val (.int (0 : Int32)), .val (.int (0 : Int32))] [(.int (0 : Int32)), (.ref f_a0_entries)]))
      refine own_by (fun _ k => XS.iconst X50.here hx rfl (hb hby d3_109) k) ?_
      show own_Go p e below _ (T50.setTop (mkF m 110 #[.val (.ref a0), .val (.long q1), .second, .val (.int p2), .val (.double d3), .second, .val (.double d4), .second, .val (.int p5), .val (.int (0 : Int32)), .val (.long v12), .second, .val (.int (0 : Int32)), .val (.int (0 : Int32))] [(.int (2 : Int32)), (.int (0 : Int32)), (.ref f_a0_entries)]))
      refine own_by (fun _ k => XS.iadd X50.here hx rfl (hb hby d3_110) rfl k) ?_
      show own_Go p e below _ (T50.setTop (mkF m 111 #[.val (.ref a0), .val (.long q1), .second, .val (.int p2), .val (.double d3), .second, .val (.double d4), .second, .val (.int p5), .val (.int (0 : Int32)), .val (.long v12), .second, .val (.int (0 : Int32)), .val (.int (0 : Int32))] [(.int (2 : Int32)), (.ref f_a0_entries)]))
      refine own_by (fun _ k => XS.dload X50.here hx rfl (hb hby d3_111) rfl k) ?_
      show own_Go p e below _ (T50.setTop (mkF m 113 #[.val (.ref a0), .val (.long q1), .second, .val (.int p2), .val (.double d3), .second, .val (.double d4), .second, .val (.int p5), .val (.int (0 : Int32)), .val (.long v12), .second, .val (.int (0 : Int32)), .val (.int (0 : Int32))] [(.double d4), (.int (2 : Int32)), (.ref f_a0_entries)]))
      obtain ⟨T51, X51, e51, st51⟩ := own_d2bits X50 hx hZ hown (hw _ (List.mem_of_getElem? (i := 39) rfl)) (hw _ (List.mem_of_getElem? (i := 42) rfl)) (hw _ (List.mem_of_getElem? (i := 40) rfl)) (hw _ (List.mem_of_getElem? (i := 41) rfl)) e50 (g := (mkF m 113 #[.val (.ref a0), .val (.long q1), .second, .val (.int p2), .val (.double d3), .second, .val (.double d4), .second, .val (.int p5), .val (.int (0 : Int32)), .val (.long v12), .second, .val (.int (0 : Int32)), .val (.int (0 : Int32))] [(.double d4), (.int (2 : Int32)), (.ref f_a0_entries)])) rfl (by rw [hml]; rfl) rfl (hb hby d3_113) (by decide) (W := 2) (by show 2 * 0 + _ ≤ _; exact Nat.le_of_eq rfl) (by decide)
      refine own_by st51 ?_
      show own_Go p e below _ (T51.setTop (mkF m 116 #[.val (.ref a0), .val (.long q1), .second, .val (.int p2), .val (.double d3), .second, .val (.double d4), .second, .val (.int p5), .val (.int (0 : Int32)), .val (.long v12), .second, .val (.int (0 : Int32)), .val (.int (0 : Int32))] [(.long (d4.toInt64)), (.int (2 : Int32)), (.ref f_a0_entries)]))
      obtain ⟨cl52, Ar52, qq52, S52, M52, H52, G52⟩ := id V48
      have hin52 : ¬ ((2 : Int32) < 0 ∨ cl52.slots.size ≤ ((2 : Int32)).toNatClampNeg) := inb_of S52 ⟨by decide, by decide⟩
      obtain ⟨T53, h53, X53, e53, W53, st53⟩ := stJ X51 hx hZ e51 Ar52 (j := (2 : Int32)) hin52 (g := (mkF m 116 #[.val (.ref a0), .val (.long q1), .second, .val (.int p2), .val (.double d3), .second, .val (.double d4), .second, .val (.int p5), .val (.int (0 : Int32)), .val (.long v12), .second, .val (.int (0 : Int32)), .val (.int (0 : Int32))] [(.long (d4.toInt64)), (.int (2 : Int32)), (.ref f_a0_entries)])) rfl rfl (hb hby d3_116)
      have V53 : own_Arf Z h53 f_a0_entries k_f_a0_entries .long (8 : Int32) (fun i => .long ((own_upd (own_upd (own_upd (own_cp fn_f_a0_entries 0 fn_f_a0_entries 4 0) 0 q1) 1 (d3.toInt64)) 2 (d4.toInt64)) i)) := own_arfSetJ Ar52 qq52 S52 M52 H52 G52 rfl W53
      have K53 : Keep h0 h53 [f_a0_entries] := K48.wr W53 (Or.inl (List.mem_of_getElem? (i := 0) rfl))
      have Z53 : n0 ≤ h53.size := Nat.le_trans Z48 (Keep.of_wr W53).1
      have N53 := Fr.snoc X53 N48 g_f_a0_entries
      refine own_by st53 ?_
      show own_Go p e below _ (T53.setTop (mkF m 117 #[.val (.ref a0), .val (.long q1), .second, .val (.int p2), .val (.double d3), .second, .val (.double d4), .second, .val (.int p5), .val (.int (0 : Int32)), .val (.long v12), .second, .val (.int (0 : Int32)), .val (.int (0 : Int32))] []))
      refine own_by (fun _ k => XS.aloadN X53.here hx rfl (hb hby d3_117) rfl rfl k) ?_
      show own_Go p e below _ (T53.setTop (mkF m 118 #[.val (.ref a0), .val (.long q1), .second, .val (.int p2), .val (.double d3), .second, .val (.double d4), .second, .val (.int p5), .val (.int (0 : Int32)), .val (.long v12), .second, .val (.int (0 : Int32)), .val (.int (0 : Int32))] [(.ref a0)]))
      have F54 : Fld Z h53 a0 "com/example/plyward/plyward/search/TranspositionTable" "entries" "[J" (.ref f_a0_entries) := (F49.other W53 (Or.inl (own_neArr ((((P_E_a0.keep Kq39).wr W43).wr W48).wr W53) (hw _ (List.mem_of_getElem? (i := 2) rfl)) V53)))
      obtain ⟨T55, X55, e55, st55⟩ := getF X53 hx hZ hown (host := "") (Or.inl (hw _ (List.mem_of_getElem? (i := 15) rfl))) Via.refl e53 F54 (g := (mkF m 118 #[.val (.ref a0), .val (.long q1), .second, .val (.int p2), .val (.double d3), .second, .val (.double d4), .second, .val (.int p5), .val (.int (0 : Int32)), .val (.long v12), .second, .val (.int (0 : Int32)), .val (.int (0 : Int32))] [(.ref a0)])) rfl rfl (hb hby d3_118)
      refine own_by st55 ?_
      show own_Go p e below _ (T55.setTop (mkF m 121 #[.val (.ref a0), .val (.long q1), .second, .val (.int p2), .val (.double d3), .second, .val (.double d4), .second, .val (.int p5), .val (.int (0 : Int32)), .val (.long v12), .second, .val (.int (0 : Int32)), .val (.int (0 : Int32))] [(.ref f_a0_entries)]))
      refine own_by (fun _ k => XS.iload X55.here hx rfl (hb hby d3_121) rfl k) ?_
      show own_Go p e below _ (T55.setTop (mkF m 123 #[.val (.ref a0), .val (.long q1), .second, .val (.int p2), .val (.double d3), .second, .val (.double d4), .second, .val (.int p5), .val (.int (0 : Int32)), .val (.long v12), .second, .val (.int (0 : Int32)), .val (.int (0 : Int32))] [(.int (0 : Int32)), (.ref f_a0_entries)]))
      refine own_by (fun _ k => XS.iconst X55.here hx rfl (hb hby d3_123) k) ?_
      show own_Go p e below _ (T55.setTop (mkF m 124 #[.val (.ref a0), .val (.long q1), .second, .val (.int p2), .val (.double d3), .second, .val (.double d4), .second, .val (.int p5), .val (.int (0 : Int32)), .val (.long v12), .second, .val (.int (0 : Int32)), .val (.int (0 : Int32))] [(.int (3 : Int32)), (.int (0 : Int32)), (.ref f_a0_entries)]))
      refine own_by (fun _ k => XS.iadd X55.here hx rfl (hb hby d3_124) rfl k) ?_
      show own_Go p e below _ (T55.setTop (mkF m 125 #[.val (.ref a0), .val (.long q1), .second, .val (.int p2), .val (.double d3), .second, .val (.double d4), .second, .val (.int p5), .val (.int (0 : Int32)), .val (.long v12), .second, .val (.int (0 : Int32)), .val (.int (0 : Int32))] [(.int (3 : Int32)), (.ref f_a0_entries)]))
      refine own_by (fun _ k => XS.lload X55.here hx rfl (hb hby d3_125) rfl k) ?_
      show own_Go p e below _ (T55.setTop (mkF m 127 #[.val (.ref a0), .val (.long q1), .second, .val (.int p2), .val (.double d3), .second, .val (.double d4), .second, .val (.int p5), .val (.int (0 : Int32)), .val (.long v12), .second, .val (.int (0 : Int32)), .val (.int (0 : Int32))] [(.long v12), (.int (3 : Int32)), (.ref f_a0_entries)]))
      obtain ⟨cl56, Ar56, qq56, S56, M56, H56, G56⟩ := id V53
      have hin56 : ¬ ((3 : Int32) < 0 ∨ cl56.slots.size ≤ ((3 : Int32)).toNatClampNeg) := inb_of S56 ⟨by decide, by decide⟩
      obtain ⟨T57, h57, X57, e57, W57, st57⟩ := stJ X55 hx hZ e55 Ar56 (j := (3 : Int32)) hin56 (g := (mkF m 127 #[.val (.ref a0), .val (.long q1), .second, .val (.int p2), .val (.double d3), .second, .val (.double d4), .second, .val (.int p5), .val (.int (0 : Int32)), .val (.long v12), .second, .val (.int (0 : Int32)), .val (.int (0 : Int32))] [(.long v12), (.int (3 : Int32)), (.ref f_a0_entries)])) rfl rfl (hb hby d3_127)
      have V57 : own_Arf Z h57 f_a0_entries k_f_a0_entries .long (8 : Int32) (fun i => .long ((own_upd (own_upd (own_upd (own_upd (own_cp fn_f_a0_entries 0 fn_f_a0_entries 4 0) 0 q1) 1 (d3.toInt64)) 2 (d4.toInt64)) 3 v12) i)) := own_arfSetJ Ar56 qq56 S56 M56 H56 G56 rfl W57
      have K57 : Keep h0 h57 [f_a0_entries] := K53.wr W57 (Or.inl (List.mem_of_getElem? (i := 0) rfl))
      have Z57 : n0 ≤ h57.size := Nat.le_trans Z53 (Keep.of_wr W57).1
      have N57 := Fr.snoc X57 N53 g_f_a0_entries
      refine own_by st57 ?_
      show own_Go p e below _ (T57.setTop (mkF m 128 #[.val (.ref a0), .val (.long q1), .second, .val (.int p2), .val (.double d3), .second, .val (.double d4), .second, .val (.int p5), .val (.int (0 : Int32)), .val (.long v12), .second, .val (.int (0 : Int32)), .val (.int (0 : Int32))] []))
      exact own_ret0 X57 hx Bd.returns (hb hby d3_128) hlk e57 ⟨(own_upd (own_upd (own_upd (own_upd (own_cp fn_f_a0_entries 0 fn_f_a0_entries 4 0) 0 q1) 1 (d3.toInt64)) 2 (d4.toInt64)) 3 v12), rfl, N57, K57, V57, (Or.inr (Or.inl ⟨y9, v12, hj10, hv12, hp15, rfl⟩))⟩ (by decide) (by decide)
    · skip
      show own_Go p e below _ (T13.setTop (mkF m 40 #[.val (.ref a0), .val (.long q1), .second, .val (.int p2), .val (.double d3), .second, .val (.double d4), .second, .val (.int p5), .val (.int (0 : Int32)), .val (.long v12), .second, .val (.int (4 : Int32)), .unset] []))
      refine own_by (fun _ k => XS.iload X13.here hx rfl (hb hby d3_40) rfl k) ?_
      show own_Go p e below _ (T13.setTop (mkF m 42 #[.val (.ref a0), .val (.long q1), .second, .val (.int p2), .val (.double d3), .second, .val (.double d4), .second, .val (.int p5), .val (.int (0 : Int32)), .val (.long v12), .second, .val (.int (4 : Int32)), .unset] [(.int (4 : Int32))]))
      refine own_by (fun _ k => XS.ifNo X13.here hx rfl (hb hby d3_42) rfl ((if0 _ _).trans (flt (by decide : ¬ ((4 : Int32) < (0 : Int32)))).1) k) ?_
      show own_Go p e below _ (T13.setTop (mkF m 45 #[.val (.ref a0), .val (.long q1), .second, .val (.int p2), .val (.double d3), .second, .val (.double d4), .second, .val (.int p5), .val (.int (0 : Int32)), .val (.long v12), .second, .val (.int (4 : Int32)), .unset] []))
      refine own_by (fun _ k => XS.iload X13.here hx rfl (hb hby d3_45) rfl k) ?_
      show own_Go p e below _ (T13.setTop (mkF m 47 #[.val (.ref a0), .val (.long q1), .second, .val (.int p2), .val (.double d3), .second, .val (.double d4), .second, .val (.int p5), .val (.int (0 : Int32)), .val (.long v12), .second, .val (.int (4 : Int32)), .unset] [(.int (4 : Int32))]))
      refine own_by (fun _ k => XS.goto X13.here hx rfl (pc0 := 47) (pc' := 57) rfl (hb hby d3_47) (by decide) (by decide) k) ?_
      show own_Go p e below _ (T13.setTop (mkF m 57 #[.val (.ref a0), .val (.long q1), .second, .val (.int p2), .val (.double d3), .second, .val (.double d4), .second, .val (.int p5), .val (.int (0 : Int32)), .val (.long v12), .second, .val (.int (4 : Int32)), .unset] [(.int (4 : Int32))]))
      refine own_by (fun _ k => XS.istore X13.here hx rfl (hb hby d3_57) rfl (l' := #[.val (.ref a0), .val (.long q1), .second, .val (.int p2), .val (.double d3), .second, .val (.double d4), .second, .val (.int p5), .val (.int (0 : Int32)), .val (.long v12), .second, .val (.int (4 : Int32)), .val (.int (4 : Int32))]) rfl k) ?_
      show own_Go p e below _ (T13.setTop (mkF m 59 #[.val (.ref a0), .val (.long q1), .second, .val (.int p2), .val (.double d3), .second, .val (.double d4), .second, .val (.int p5), .val (.int (0 : Int32)), .val (.long v12), .second, .val (.int (4 : Int32)), .val (.int (4 : Int32))] []))
      refine own_by (fun _ k => XS.aloadN X13.here hx rfl (hb hby d3_59) rfl rfl k) ?_
      show own_Go p e below _ (T13.setTop (mkF m 60 #[.val (.ref a0), .val (.long q1), .second, .val (.int p2), .val (.double d3), .second, .val (.double d4), .second, .val (.int p5), .val (.int (0 : Int32)), .val (.long v12), .second, .val (.int (4 : Int32)), .val (.int (4 : Int32))] [(.ref a0)]))
      obtain ⟨T58, X58, e58, st58⟩ := getF X13 hx hZ hown (host := "") (Or.inl (hw _ (List.mem_of_getElem? (i := 15) rfl))) Via.refl eq13 P_F_a0_entries (g := (mkF m 60 #[.val (.ref a0), .val (.long q1), .second, .val (.int p2), .val (.double d3), .second, .val (.double d4), .second, .val (.int p5), .val (.int (0 : Int32)), .val (.long v12), .second, .val (.int (4 : Int32)), .val (.int (4 : Int32))] [(.ref a0)])) rfl rfl (hb hby d3_60)
      refine own_by st58 ?_
      show own_Go p e below _ (T58.setTop (mkF m 63 #[.val (.ref a0), .val (.long q1), .second, .val (.int p2), .val (.double d3), .second, .val (.double d4), .second, .val (.int p5), .val (.int (0 : Int32)), .val (.long v12), .second, .val (.int (4 : Int32)), .val (.int (4 : Int32))] [(.ref f_a0_entries)]))
      refine own_by (fun _ k => XS.iload X58.here hx rfl (hb hby d3_63) rfl k) ?_
      show own_Go p e below _ (T58.setTop (mkF m 65 #[.val (.ref a0), .val (.long q1), .second, .val (.int p2), .val (.double d3), .second, .val (.double d4), .second, .val (.int p5), .val (.int (0 : Int32)), .val (.long v12), .second, .val (.int (4 : Int32)), .val (.int (4 : Int32))] [(.int (0 : Int32)), (.ref f_a0_entries)]))
      refine own_by (fun _ k => XS.aloadN X58.here hx rfl (hb hby d3_65) rfl rfl k) ?_
      show own_Go p e below _ (T58.setTop (mkF m 66 #[.val (.ref a0), .val (.long q1), .second, .val (.int p2), .val (.double d3), .second, .val (.double d4), .second, .val (.int p5), .val (.int (0 : Int32)), .val (.long v12), .second, .val (.int (4 : Int32)), .val (.int (4 : Int32))] [(.ref a0), (.int (0 : Int32)), (.ref f_a0_entries)]))
      obtain ⟨T59, X59, e59, st59⟩ := getF X58 hx hZ hown (host := "") (Or.inl (hw _ (List.mem_of_getElem? (i := 15) rfl))) Via.refl e58 P_F_a0_entries (g := (mkF m 66 #[.val (.ref a0), .val (.long q1), .second, .val (.int p2), .val (.double d3), .second, .val (.double d4), .second, .val (.int p5), .val (.int (0 : Int32)), .val (.long v12), .second, .val (.int (4 : Int32)), .val (.int (4 : Int32))] [(.ref a0), (.int (0 : Int32)), (.ref f_a0_entries)])) rfl rfl (hb hby d3_66)
      refine own_by st59 ?_
      show own_Go p e below _ (T59.setTop (mkF m 69 #[.val (.ref a0), .val (.long q1), .second, .val (.int p2), .val (.double d3), .second, .val (.double d4), .second, .val (.int p5), .val (.int (0 : Int32)), .val (.long v12), .second, .val (.int (4 : Int32)), .val (.int (4 : Int32))] [(.ref f_a0_entries), (.int (0 : Int32)), (.ref f_a0_entries)]))
      refine own_by (fun _ k => XS.iload X59.here hx rfl (hb hby d3_69) rfl k) ?_
      show own_Go p e below _ (T59.setTop (mkF m 71 #[.val (.ref a0), .val (.long q1), .second, .val (.int p2), .val (.double d3), .second, .val (.double d4), .second, .val (.int p5), .val (.int (0 : Int32)), .val (.long v12), .second, .val (.int (4 : Int32)), .val (.int (4 : Int32))] [(.int (0 : Int32)), (.ref f_a0_entries), (.int (0 : Int32)), (.ref f_a0_entries)]))
      refine own_by (fun _ k => XS.iconst X59.here hx rfl (hb hby d3_71) k) ?_
      show own_Go p e below _ (T59.setTop (mkF m 72 #[.val (.ref a0), .val (.long q1), .second, .val (.int p2), .val (.double d3), .second, .val (.double d4), .second, .val (.int p5), .val (.int (0 : Int32)), .val (.long v12), .second, .val (.int (4 : Int32)), .val (.int (4 : Int32))] [(.int (4 : Int32)), (.int (0 : Int32)), (.ref f_a0_entries), (.int (0 : Int32)), (.ref f_a0_entries)]))
      refine own_by (fun _ k => XS.iadd X59.here hx rfl (hb hby d3_72) rfl k) ?_
      show own_Go p e below _ (T59.setTop (mkF m 73 #[.val (.ref a0), .val (.long q1), .second, .val (.int p2), .val (.double d3), .second, .val (.double d4), .second, .val (.int p5), .val (.int (0 : Int32)), .val (.long v12), .second, .val (.int (4 : Int32)), .val (.int (4 : Int32))] [(.int (4 : Int32)), (.ref f_a0_entries), (.int (0 : Int32)), (.ref f_a0_entries)]))
      refine own_by (fun _ k => XS.iload X59.here hx rfl (hb hby d3_73) rfl k) ?_
      show own_Go p e below _ (T59.setTop (mkF m 75 #[.val (.ref a0), .val (.long q1), .second, .val (.int p2), .val (.double d3), .second, .val (.double d4), .second, .val (.int p5), .val (.int (0 : Int32)), .val (.long v12), .second, .val (.int (4 : Int32)), .val (.int (4 : Int32))] [(.int (4 : Int32)), (.int (4 : Int32)), (.ref f_a0_entries), (.int (0 : Int32)), (.ref f_a0_entries)]))
      refine own_by (fun _ k => XS.iload X59.here hx rfl (hb hby d3_75) rfl k) ?_
      show own_Go p e below _ (T59.setTop (mkF m 77 #[.val (.ref a0), .val (.long q1), .second, .val (.int p2), .val (.double d3), .second, .val (.double d4), .second, .val (.int p5), .val (.int (0 : Int32)), .val (.long v12), .second, .val (.int (4 : Int32)), .val (.int (4 : Int32))] [(.int (0 : Int32)), (.int (4 : Int32)), (.int (4 : Int32)), (.ref f_a0_entries), (.int (0 : Int32)), (.ref f_a0_entries)]))
      refine own_by (fun _ k => XS.isub X59.here hx rfl (hb hby d3_77) rfl k) ?_
      show own_Go p e below _ (T59.setTop (mkF m 78 #[.val (.ref a0), .val (.long q1), .second, .val (.int p2), .val (.double d3), .second, .val (.double d4), .second, .val (.int p5), .val (.int (0 : Int32)), .val (.long v12), .second, .val (.int (4 : Int32)), .val (.int (4 : Int32))] [(.int (4 : Int32)), (.int (4 : Int32)), (.ref f_a0_entries), (.int (0 : Int32)), (.ref f_a0_entries)]))
      obtain ⟨T60, h60, L60, X60, e60, N60, Kq60, V60, st60⟩ := own_cpA X59 hx hZ hown (hw _ (List.mem_of_getElem? (i := 35) rfl)) (hw _ (List.mem_of_getElem? (i := 38) rfl)) (hw _ (List.mem_of_getElem? (i := 36) rfl)) (hw _ (List.mem_of_getElem? (i := 37) rfl)) e59 P_V_f_a0_entries P_V_f_a0_entries (by decide) (by decide) (by decide) (by decide) (by decide) (by decide) N13 g_f_a0_entries (g := (mkF m 78 #[.val (.ref a0), .val (.long q1), .second, .val (.int p2), .val (.double d3), .second, .val (.double d4), .second, .val (.int p5), .val (.int (0 : Int32)), .val (.long v12), .second, .val (.int (4 : Int32)), .val (.int (4 : Int32))] [(.int (4 : Int32)), (.int (4 : Int32)), (.ref f_a0_entries), (.int (0 : Int32)), (.ref f_a0_entries)])) rfl (by rw [hml]; rfl) rfl (hb hby d3_78) (by decide) (W := 0) (by show 2 * 0 + _ ≤ _; exact Nat.le_of_eq rfl) (by decide)
      have V60' : own_Arf Z h60 f_a0_entries k_f_a0_entries .long (8 : Int32) (fun i => .long ((own_cp fn_f_a0_entries 0 fn_f_a0_entries 4 4) i)) := by rw [← own_cpJ]; exact V60
      have K60 : Keep h0 h60 [f_a0_entries] := (Keep.refl h0 [f_a0_entries]).trans Kq60 ((allS (Or.inl (List.mem_of_getElem? (i := 0) rfl)) all0))
      have Z60 : n0 ≤ h60.size := Nat.le_trans Z0 Kq60.1
      refine own_by st60 ?_
      show own_Go p e below _ (T60.setTop (mkF m 81 #[.val (.ref a0), .val (.long q1), .second, .val (.int p2), .val (.double d3), .second, .val (.double d4), .second, .val (.int p5), .val (.int (0 : Int32)), .val (.long v12), .second, .val (.int (4 : Int32)), .val (.int (4 : Int32))] []))
      refine own_by (fun _ k => XS.aloadN X60.here hx rfl (hb hby d3_81) rfl rfl k) ?_
      show own_Go p e below _ (T60.setTop (mkF m 82 #[.val (.ref a0), .val (.long q1), .second, .val (.int p2), .val (.double d3), .second, .val (.double d4), .second, .val (.int p5), .val (.int (0 : Int32)), .val (.long v12), .second, .val (.int (4 : Int32)), .val (.int (4 : Int32))] [(.ref a0)]))
      have F61 : Fld Z h60 a0 "com/example/plyward/plyward/search/TranspositionTable" "entries" "[J" (.ref f_a0_entries) := (P_F_a0_entries.keep Kq60 (ninS (own_neArr (P_E_a0.keep Kq60) (hw _ (List.mem_of_getElem? (i := 2) rfl)) V60') nin0))
      obtain ⟨T62, X62, e62, st62⟩ := getF X60 hx hZ hown (host := "") (Or.inl (hw _ (List.mem_of_getElem? (i := 15) rfl))) Via.refl e60 F61 (g := (mkF m 82 #[.val (.ref a0), .val (.long q1), .second, .val (.int p2), .val (.double d3), .second, .val (.double d4), .second, .val (.int p5), .val (.int (0 : Int32)), .val (.long v12), .second, .val (.int (4 : Int32)), .val (.int (4 : Int32))] [(.ref a0)])) rfl rfl (hb hby d3_82)
      refine own_by st62 ?_
      show own_Go p e below _ (T62.setTop (mkF m 85 #[.val (.ref a0), .val (.long q1), .second, .val (.int p2), .val (.double d3), .second, .val (.double d4), .second, .val (.int p5), .val (.int (0 : Int32)), .val (.long v12), .second, .val (.int (4 : Int32)), .val (.int (4 : Int32))] [(.ref f_a0_entries)]))
      refine own_by (fun _ k => XS.iload X62.here hx rfl (hb hby d3_85) rfl k) ?_
      show own_Go p e below _ (T62.setTop (mkF m 87 #[.val (.ref a0), .val (.long q1), .second, .val (.int p2), .val (.double d3), .second, .val (.double d4), .second, .val (.int p5), .val (.int (0 : Int32)), .val (.long v12), .second, .val (.int (4 : Int32)), .val (.int (4 : Int32))] [(.int (0 : Int32)), (.ref f_a0_entries)]))
      refine own_by (fun _ k => XS.lloadN X62.here hx rfl (hb hby d3_87) rfl k) ?_
      show own_Go p e below _ (T62.setTop (mkF m 88 #[.val (.ref a0), .val (.long q1), .second, .val (.int p2), .val (.double d3), .second, .val (.double d4), .second, .val (.int p5), .val (.int (0 : Int32)), .val (.long v12), .second, .val (.int (4 : Int32)), .val (.int (4 : Int32))] [(.long q1), (.int (0 : Int32)), (.ref f_a0_entries)]))
      obtain ⟨cl63, Ar63, qq63, S63, M63, H63, G63⟩ := id V60'
      have hin63 : ¬ ((0 : Int32) < 0 ∨ cl63.slots.size ≤ ((0 : Int32)).toNatClampNeg) := inb_of S63 ⟨by decide, by decide⟩
      obtain ⟨T64, h64, X64, e64, W64, st64⟩ := stJ X62 hx hZ e62 Ar63 (j := (0 : Int32)) hin63 (g := (mkF m 88 #[.val (.ref a0), .val (.long q1), .second, .val (.int p2), .val (.double d3), .second, .val (.double d4), .second, .val (.int p5), .val (.int (0 : Int32)), .val (.long v12), .second, .val (.int (4 : Int32)), .val (.int (4 : Int32))] [(.long q1), (.int (0 : Int32)), (.ref f_a0_entries)])) rfl rfl (hb hby d3_88)
      have V64 : own_Arf Z h64 f_a0_entries k_f_a0_entries .long (8 : Int32) (fun i => .long ((own_upd (own_cp fn_f_a0_entries 0 fn_f_a0_entries 4 4) 0 q1) i)) := own_arfSetJ Ar63 qq63 S63 M63 H63 G63 rfl W64
      have K64 : Keep h0 h64 [f_a0_entries] := K60.wr W64 (Or.inl (List.mem_of_getElem? (i := 0) rfl))
      have Z64 : n0 ≤ h64.size := Nat.le_trans Z60 (Keep.of_wr W64).1
      have N64 := Fr.snoc X64 N60 g_f_a0_entries
      refine own_by st64 ?_
      show own_Go p e below _ (T64.setTop (mkF m 89 #[.val (.ref a0), .val (.long q1), .second, .val (.int p2), .val (.double d3), .second, .val (.double d4), .second, .val (.int p5), .val (.int (0 : Int32)), .val (.long v12), .second, .val (.int (4 : Int32)), .val (.int (4 : Int32))] []))
      refine own_by (fun _ k => XS.aloadN X64.here hx rfl (hb hby d3_89) rfl rfl k) ?_
      show own_Go p e below _ (T64.setTop (mkF m 90 #[.val (.ref a0), .val (.long q1), .second, .val (.int p2), .val (.double d3), .second, .val (.double d4), .second, .val (.int p5), .val (.int (0 : Int32)), .val (.long v12), .second, .val (.int (4 : Int32)), .val (.int (4 : Int32))] [(.ref a0)]))
      have F65 : Fld Z h64 a0 "com/example/plyward/plyward/search/TranspositionTable" "entries" "[J" (.ref f_a0_entries) := (F61.other W64 (Or.inl (own_neArr ((P_E_a0.keep Kq60).wr W64) (hw _ (List.mem_of_getElem? (i := 2) rfl)) V64)))
      obtain ⟨T66, X66, e66, st66⟩ := getF X64 hx hZ hown (host := "") (Or.inl (hw _ (List.mem_of_getElem? (i := 15) rfl))) Via.refl e64 F65 (g := (mkF m 90 #[.val (.ref a0), .val (.long q1), .second, .val (.int p2), .val (.double d3), .second, .val (.double d4), .second, .val (.int p5), .val (.int (0 : Int32)), .val (.long v12), .second, .val (.int (4 : Int32)), .val (.int (4 : Int32))] [(.ref a0)])) rfl rfl (hb hby d3_90)
      refine own_by st66 ?_
      show own_Go p e below _ (T66.setTop (mkF m 93 #[.val (.ref a0), .val (.long q1), .second, .val (.int p2), .val (.double d3), .second, .val (.double d4), .second, .val (.int p5), .val (.int (0 : Int32)), .val (.long v12), .second, .val (.int (4 : Int32)), .val (.int (4 : Int32))] [(.ref f_a0_entries)]))
      refine own_by (fun _ k => XS.iload X66.here hx rfl (hb hby d3_93) rfl k) ?_
      show own_Go p e below _ (T66.setTop (mkF m 95 #[.val (.ref a0), .val (.long q1), .second, .val (.int p2), .val (.double d3), .second, .val (.double d4), .second, .val (.int p5), .val (.int (0 : Int32)), .val (.long v12), .second, .val (.int (4 : Int32)), .val (.int (4 : Int32))] [(.int (0 : Int32)), (.ref f_a0_entries)]))
      refine own_by (fun _ k => XS.iconst X66.here hx rfl (hb hby d3_95) k) ?_
      show own_Go p e below _ (T66.setTop (mkF m 96 #[.val (.ref a0), .val (.long q1), .second, .val (.int p2), .val (.double d3), .second, .val (.double d4), .second, .val (.int p5), .val (.int (0 : Int32)), .val (.long v12), .second, .val (.int (4 : Int32)), .val (.int (4 : Int32))] [(.int (1 : Int32)), (.int (0 : Int32)), (.ref f_a0_entries)]))
      refine own_by (fun _ k => XS.iadd X66.here hx rfl (hb hby d3_96) rfl k) ?_
      show own_Go p e below _ (T66.setTop (mkF m 97 #[.val (.ref a0), .val (.long q1), .second, .val (.int p2), .val (.double d3), .second, .val (.double d4), .second, .val (.int p5), .val (.int (0 : Int32)), .val (.long v12), .second, .val (.int (4 : Int32)), .val (.int (4 : Int32))] [(.int (1 : Int32)), (.ref f_a0_entries)]))
      refine own_by (fun _ k => XS.dload X66.here hx rfl (hb hby d3_97) rfl k) ?_
      show own_Go p e below _ (T66.setTop (mkF m 99 #[.val (.ref a0), .val (.long q1), .second, .val (.int p2), .val (.double d3), .second, .val (.double d4), .second, .val (.int p5), .val (.int (0 : Int32)), .val (.long v12), .second, .val (.int (4 : Int32)), .val (.int (4 : Int32))] [(.double d3), (.int (1 : Int32)), (.ref f_a0_entries)]))
      obtain ⟨T67, X67, e67, st67⟩ := own_d2bits X66 hx hZ hown (hw _ (List.mem_of_getElem? (i := 39) rfl)) (hw _ (List.mem_of_getElem? (i := 42) rfl)) (hw _ (List.mem_of_getElem? (i := 40) rfl)) (hw _ (List.mem_of_getElem? (i := 41) rfl)) e66 (g := (mkF m 99 #[.val (.ref a0), .val (.long q1), .second, .val (.int p2), .val (.double d3), .second, .val (.double d4), .second, .val (.int p5), .val (.int (0 : Int32)), .val (.long v12), .second, .val (.int (4 : Int32)), .val (.int (4 : Int32))] [(.double d3), (.int (1 : Int32)), (.ref f_a0_entries)])) rfl (by rw [hml]; rfl) rfl (hb hby d3_99) (by decide) (W := 2) (by show 2 * 0 + _ ≤ _; exact Nat.le_of_eq rfl) (by decide)
      refine own_by st67 ?_
      show own_Go p e below _ (T67.setTop (mkF m 102 #[.val (.ref a0), .val (.long q1), .second, .val (.int p2), .val (.double d3), .second, .val (.double d4), .second, .val (.int p5), .val (.int (0 : Int32)), .val (.long v12), .second, .val (.int (4 : Int32)), .val (.int (4 : Int32))] [(.long (d3.toInt64)), (.int (1 : Int32)), (.ref f_a0_entries)]))
      obtain ⟨cl68, Ar68, qq68, S68, M68, H68, G68⟩ := id V64
      have hin68 : ¬ ((1 : Int32) < 0 ∨ cl68.slots.size ≤ ((1 : Int32)).toNatClampNeg) := inb_of S68 ⟨by decide, by decide⟩
      obtain ⟨T69, h69, X69, e69, W69, st69⟩ := stJ X67 hx hZ e67 Ar68 (j := (1 : Int32)) hin68 (g := (mkF m 102 #[.val (.ref a0), .val (.long q1), .second, .val (.int p2), .val (.double d3), .second, .val (.double d4), .second, .val (.int p5), .val (.int (0 : Int32)), .val (.long v12), .second, .val (.int (4 : Int32)), .val (.int (4 : Int32))] [(.long (d3.toInt64)), (.int (1 : Int32)), (.ref f_a0_entries)])) rfl rfl (hb hby d3_102)
      have V69 : own_Arf Z h69 f_a0_entries k_f_a0_entries .long (8 : Int32) (fun i => .long ((own_upd (own_upd (own_cp fn_f_a0_entries 0 fn_f_a0_entries 4 4) 0 q1) 1 (d3.toInt64)) i)) := own_arfSetJ Ar68 qq68 S68 M68 H68 G68 rfl W69
      have K69 : Keep h0 h69 [f_a0_entries] := K64.wr W69 (Or.inl (List.mem_of_getElem? (i := 0) rfl))
      have Z69 : n0 ≤ h69.size := Nat.le_trans Z64 (Keep.of_wr W69).1
      have N69 := Fr.snoc X69 N64 g_f_a0_entries
      refine own_by st69 ?_
      show own_Go p e below _ (T69.setTop (mkF m 103 #[.val (.ref a0), .val (.long q1), .second, .val (.int p2), .val (.double d3), .second, .val (.double d4), .second, .val (.int p5), .val (.int (0 : Int32)), .val (.long v12), .second, .val (.int (4 : Int32)), .val (.int (4 : Int32))] []))
      refine own_by (fun _ k => XS.aloadN X69.here hx rfl (hb hby d3_103) rfl rfl k) ?_
      show own_Go p e below _ (T69.setTop (mkF m 104 #[.val (.ref a0), .val (.long q1), .second, .val (.int p2), .val (.double d3), .second, .val (.double d4), .second, .val (.int p5), .val (.int (0 : Int32)), .val (.long v12), .second, .val (.int (4 : Int32)), .val (.int (4 : Int32))] [(.ref a0)]))
      have F70 : Fld Z h69 a0 "com/example/plyward/plyward/search/TranspositionTable" "entries" "[J" (.ref f_a0_entries) := (F65.other W69 (Or.inl (own_neArr (((P_E_a0.keep Kq60).wr W64).wr W69) (hw _ (List.mem_of_getElem? (i := 2) rfl)) V69)))
      obtain ⟨T71, X71, e71, st71⟩ := getF X69 hx hZ hown (host := "") (Or.inl (hw _ (List.mem_of_getElem? (i := 15) rfl))) Via.refl e69 F70 (g := (mkF m 104 #[.val (.ref a0), .val (.long q1), .second, .val (.int p2), .val (.double d3), .second, .val (.double d4), .second, .val (.int p5), .val (.int (0 : Int32)), .val (.long v12), .second, .val (.int (4 : Int32)), .val (.int (4 : Int32))] [(.ref a0)])) rfl rfl (hb hby d3_104)
      refine own_by st71 ?_
      show own_Go p e below _ (T71.setTop (mkF m 107 #[.val (.ref a0), .val (.long q1), .second, .val (.int p2), .val (.double d3), .second, .val (.double d4), .second, .val (.int p5), .val (.int (0 : Int32)), .val (.long v12), .second, .val (.int (4 : Int32)), .val (.int (4 : Int32))] [(.ref f_a0_entries)]))
      refine own_by (fun _ k => XS.iload X71.here hx rfl (hb hby d3_107) rfl k) ?_
      show own_Go p e below _ (T71.setTop (mkF m 109 #[.val (.ref a0), .val (.long q1), .second, .val (.int p2), .val (.double d3), .second, .val (.double d4), .second, .val (.int p5), .val (.int (0 : Int32)), .val (.long v12), .second, .val (.int (4 : Int32)), .val (.int (4 : Int32))] [(.int (0 : Int32)), (.ref f_a0_entries)]))
      refine own_by (fun _ k => XS.iconst X71.here hx rfl (hb hby d3_109) k) ?_
      show own_Go p e below _ (T71.setTop (mkF m 110 #[.val (.ref a0), .val (.long q1), .second, .val (.int p2), .val (.double d3), .second, .val (.double d4), .second, .val (.int p5), .val (.int (0 : Int32)), .val (.long v12), .second, .val (.int (4 : Int32)), .val (.int (4 : Int32))] [(.int (2 : Int32)), (.int (0 : Int32)), (.ref f_a0_entries)]))
      refine own_by (fun _ k => XS.iadd X71.here hx rfl (hb hby d3_110) rfl k) ?_
      show own_Go p e below _ (T71.setTop (mkF m 111 #[.val (.ref a0), .val (.long q1), .second, .val (.int p2), .val (.double d3), .second, .val (.double d4), .second, .val (.int p5), .val (.int (0 : Int32)), .val (.long v12), .second, .val (.int (4 : Int32)), .val (.int (4 : Int32))] [(.int (2 : Int32)), (.ref f_a0_entries)]))
      refine own_by (fun _ k => XS.dload X71.here hx rfl (hb hby d3_111) rfl k) ?_
      show own_Go p e below _ (T71.setTop (mkF m 113 #[.val (.ref a0), .val (.long q1), .second, .val (.int p2), .val (.double d3), .second, .val (.double d4), .second, .val (.int p5), .val (.int (0 : Int32)), .val (.long v12), .second, .val (.int (4 : Int32)), .val (.int (4 : Int32))] [(.double d4), (.int (2 : Int32)), (.ref f_a0_entries)]))
      obtain ⟨T72, X72, e72, st72⟩ := own_d2bits X71 hx hZ hown (hw _ (List.mem_of_getElem? (i := 39) rfl)) (hw _ (List.mem_of_getElem? (i := 42) rfl)) (hw _ (List.mem_of_getElem? (i := 40) rfl)) (hw _ (List.mem_of_getElem? (i := 41) rfl)) e71 (g := (mkF m 113 #[.val (.ref a0), .val (.long q1), .second, .val (.int p2), .val (.double d3), .second, .val (.double d4), .second, .val (.int p5), .val (.int (0 : Int32)), .val (.long v12), .second, .val (.int (4 : Int32)), .val (.int (4 : Int32))] [(.double d4), (.int (2 : Int32)), (.ref f_a0_entries)])) rfl (by rw [hml]; rfl) rfl (hb hby d3_113) (by decide) (W := 2) (by show 2 * 0 + _ ≤ _; exact Nat.le_of_eq rfl) (by decide)
      refine own_by st72 ?_
      show own_Go p e below _ (T72.setTop (mkF m 116 #[.val (.ref a0), .val (.long q1), .second, .val (.int p2), .val (.double d3), .second, .val (.double d4), .second, .val (.int p5), .val (.int (0 : Int32)), .val (.long v12), .second, .val (.int (4 : Int32)), .val (.int (4 : Int32))] [(.long (d4.toInt64)), (.int (2 : Int32)), (.ref f_a0_entries)]))
      obtain ⟨cl73, Ar73, qq73, S73, M73, H73, G73⟩ := id V69
      have hin73 : ¬ ((2 : Int32) < 0 ∨ cl73.slots.size ≤ ((2 : Int32)).toNatClampNeg) := inb_of S73 ⟨by decide, by decide⟩
      obtain ⟨T74, h74, X74, e74, W74, st74⟩ := stJ X72 hx hZ e72 Ar73 (j := (2 : Int32)) hin73 (g := (mkF m 116 #[.val (.ref a0), .val (.long q1), .second, .val (.int p2), .val (.double d3), .second, .val (.double d4), .second, .val (.int p5), .val (.int (0 : Int32)), .val (.long v12), .second, .val (.int (4 : Int32)), .val (.int (4 : Int32))] [(.long (d4.toInt64)), (.int (2 : Int32)), (.ref f_a0_entries)])) rfl rfl (hb hby d3_116)
      have V74 : own_Arf Z h74 f_a0_entries k_f_a0_entries .long (8 : Int32) (fun i => .long ((own_upd (own_upd (own_upd (own_cp fn_f_a0_entries 0 fn_f_a0_entries 4 4) 0 q1) 1 (d3.toInt64)) 2 (d4.toInt64)) i)) := own_arfSetJ Ar73 qq73 S73 M73 H73 G73 rfl W74
      have K74 : Keep h0 h74 [f_a0_entries] := K69.wr W74 (Or.inl (List.mem_of_getElem? (i := 0) rfl))
      have Z74 : n0 ≤ h74.size := Nat.le_trans Z69 (Keep.of_wr W74).1
      have N74 := Fr.snoc X74 N69 g_f_a0_entries
      refine own_by st74 ?_
      show own_Go p e below _ (T74.setTop (mkF m 117 #[.val (.ref a0), .val (.long q1), .second, .val (.int p2), .val (.double d3), .second, .val (.double d4), .second, .val (.int p5), .val (.int (0 : Int32)), .val (.long v12), .second, .val (.int (4 : Int32)), .val (.int (4 : Int32))] []))
      refine own_by (fun _ k => XS.aloadN X74.here hx rfl (hb hby d3_117) rfl rfl k) ?_
      show own_Go p e below _ (T74.setTop (mkF m 118 #[.val (.ref a0), .val (.long q1), .second, .val (.int p2), .val (.double d3), .second, .val (.double d4), .second, .val (.int p5), .val (.int (0 : Int32)), .val (.long v12), .second, .val (.int (4 : Int32)), .val (.int (4 : Int32))] [(.ref a0)]))
      have F75 : Fld Z h74 a0 "com/example/plyward/plyward/search/TranspositionTable" "entries" "[J" (.ref f_a0_entries) := (F70.other W74 (Or.inl (own_neArr ((((P_E_a0.keep Kq60).wr W64).wr W69).wr W74) (hw _ (List.mem_of_getElem? (i := 2) rfl)) V74)))
      obtain ⟨T76, X76, e76, st76⟩ := getF X74 hx hZ hown (host := "") (Or.inl (hw _ (List.mem_of_getElem? (i := 15) rfl))) Via.refl e74 F75 (g := (mkF m 118 #[.val (.ref a0), .val (.long q1), .second, .val (.int p2), .val (.double d3), .second, .val (.double d4), .second, .val (.int p5), .val (.int (0 : Int32)), .val (.long v12), .second, .val (.int (4 : Int32)), .val (.int (4 : Int32))] [(.ref a0)])) rfl rfl (hb hby d3_118)
      refine own_by st76 ?_
      show own_Go p e below _ (T76.setTop (mkF m 121 #[.val (.ref a0), .val (.long q1), .second, .val (.int p2), .val (.double d3), .second, .val (.double d4), .second, .val (.int p5), .val (.int (0 : Int32)), .val (.long v12), .second, .val (.int (4 : Int32)), .val (.int (4 : Int32))] [(.ref f_a0_entries)]))
      refine own_by (fun _ k => XS.iload X76.here hx rfl (hb hby d3_121) rfl k) ?_
      show own_Go p e below _ (T76.setTop (mkF m 123 #[.val (.ref a0), .val (.long q1), .second, .val (.int p2), .val (.double d3), .second, .val (.double d4), .second, .val (.int p5), .val (.int (0 : Int32)), .val (.long v12), .second, .val (.int (4 : Int32)), .val (.int (4 : Int32))] [(.int (0 : Int32)), (.ref f_a0_entries)]))
      refine own_by (fun _ k => XS.iconst X76.here hx rfl (hb hby d3_123) k) ?_
      show own_Go p e below _ (T76.setTop (mkF m 124 #[.val (.ref a0), .val (.long q1), .second, .val (.int p2), .val (.double d3), .second, .val (.double d4), .second, .val (.int p5), .val (.int (0 : Int32)), .val (.long v12), .second, .val (.int (4 : Int32)), .val (.int (4 : Int32))] [(.int (3 : Int32)), (.int (0 : Int32)), (.ref f_a0_entries)]))
      refine own_by (fun _ k => XS.iadd X76.here hx rfl (hb hby d3_124) rfl k) ?_
      show own_Go p e below _ (T76.setTop (mkF m 125 #[.val (.ref a0), .val (.long q1), .second, .val (.int p2), .val (.double d3), .second, .val (.double d4), .second, .val (.int p5), .val (.int (0 : Int32)), .val (.long v12), .second, .val (.int (4 : Int32)), .val (.int (4 : Int32))] [(.int (3 : Int32)), (.ref f_a0_entries)]))
      refine own_by (fun _ k => XS.lload X76.here hx rfl (hb hby d3_125) rfl k) ?_
      show own_Go p e below _ (T76.setTop (mkF m 127 #[.val (.ref a0), .val (.long q1), .second, .val (.int p2), .val (.double d3), .second, .val (.double d4), .second, .val (.int p5), .val (.int (0 : Int32)), .val (.long v12), .second, .val (.int (4 : Int32)), .val (.int (4 : Int32))] [(.long v12), (.int (3 : Int32)), (.ref f_a0_entries)]))
      obtain ⟨cl77, Ar77, qq77, S77, M77, H77, G77⟩ := id V74
      have hin77 : ¬ ((3 : Int32) < 0 ∨ cl77.slots.size ≤ ((3 : Int32)).toNatClampNeg) := inb_of S77 ⟨by decide, by decide⟩
      obtain ⟨T78, h78, X78, e78, W78, st78⟩ := stJ X76 hx hZ e76 Ar77 (j := (3 : Int32)) hin77 (g := (mkF m 127 #[.val (.ref a0), .val (.long q1), .second, .val (.int p2), .val (.double d3), .second, .val (.double d4), .second, .val (.int p5), .val (.int (0 : Int32)), .val (.long v12), .second, .val (.int (4 : Int32)), .val (.int (4 : Int32))] [(.long v12), (.int (3 : Int32)), (.ref f_a0_entries)])) rfl rfl (hb hby d3_127)
      have V78 : own_Arf Z h78 f_a0_entries k_f_a0_entries .long (8 : Int32) (fun i => .long ((own_upd (own_upd (own_upd (own_upd (own_cp fn_f_a0_entries 0 fn_f_a0_entries 4 4) 0 q1) 1 (d3.toInt64)) 2 (d4.toInt64)) 3 v12) i)) := own_arfSetJ Ar77 qq77 S77 M77 H77 G77 rfl W78
      have K78 : Keep h0 h78 [f_a0_entries] := K74.wr W78 (Or.inl (List.mem_of_getElem? (i := 0) rfl))
      have Z78 : n0 ≤ h78.size := Nat.le_trans Z74 (Keep.of_wr W78).1
      have N78 := Fr.snoc X78 N74 g_f_a0_entries
      refine own_by st78 ?_
      show own_Go p e below _ (T78.setTop (mkF m 128 #[.val (.ref a0), .val (.long q1), .second, .val (.int p2), .val (.double d3), .second, .val (.double d4), .second, .val (.int p5), .val (.int (0 : Int32)), .val (.long v12), .second, .val (.int (4 : Int32)), .val (.int (4 : Int32))] []))
      exact own_ret0 X78 hx Bd.returns (hb hby d3_128) hlk e78 ⟨(own_upd (own_upd (own_upd (own_upd (own_cp fn_f_a0_entries 0 fn_f_a0_entries 4 4) 0 q1) 1 (d3.toInt64)) 2 (d4.toInt64)) 3 v12), rfl, N78, K78, V78, (Or.inr (Or.inr (⟨y9, v12, hj10, hv12, hp15, rfl⟩)))⟩ (by decide) (by decide)
  by_cases c2 : p5 = (0 : Int32)
  · skip
    refine own_by (fun _ k => XS.ifYes X1.here hx rfl (pc0 := 14) (pc' := 23) rfl (hb hby d3_14) rfl ((if0 _ _).trans (teq c2).1) (by decide) (by decide) k) ?_
    show own_Go p e below _ (T1.setTop (mkF m 23 #[.val (.ref a0), .val (.long q1), .second, .val (.int p2), .val (.double d3), .second, .val (.double d4), .second, .val (.int p5), .val (.int (0 : Int32)), .unset, .unset, .unset, .unset] [(.long ((p2.toInt64) <<< ((32 : Int32) &&& 0x3f).toInt64))]))
    refine own_by (fun _ k => XS.lconst X1.here hx rfl (hb hby d3_23) k) ?_
    show own_Go p e below _ (T1.setTop (mkF m 24 #[.val (.ref a0), .val (.long q1), .second, .val (.int p2), .val (.double d3), .second, .val (.double d4), .second, .val (.int p5), .val (.int (0 : Int32)), .unset, .unset, .unset, .unset] [(.long (0 : Int64)), (.long ((p2.toInt64) <<< ((32 : Int32) &&& 0x3f).toInt64))]))
    exact J3 _ _ (0 : Int64) X1 eq1 N1 (Or.inl ⟨c2, rfl⟩)
  · skip
    refine own_by (fun _ k => XS.ifNo X1.here hx rfl (hb hby d3_14) rfl ((if0 _ _).trans (feq c2).1) k) ?_
    show own_Go p e below _ (T1.setTop (mkF m 17 #[.val (.ref a0), .val (.long q1), .second, .val (.int p2), .val (.double d3), .second, .val (.double d4), .second, .val (.int p5), .val (.int (0 : Int32)), .unset, .unset, .unset, .unset] [(.long ((p2.toInt64) <<< ((32 : Int32) &&& 0x3f).toInt64))]))
    refine own_by (fun t k => X1.ldc2Long hx hown (mvT hZ (hw _ (List.mem_of_getElem? (i := 60) rfl))) (g := (mkF m 17 #[.val (.ref a0), .val (.long q1), .second, .val (.int p2), .val (.double d3), .second, .val (.double d4), .second, .val (.int p5), .val (.int (0 : Int32)), .unset, .unset, .unset, .unset] [(.long ((p2.toInt64) <<< ((32 : Int32) &&& 0x3f).toInt64))])) rfl (hb hby d3_17) _ k) ?_
    show own_Go p e below _ (T1.setTop (mkF m 20 #[.val (.ref a0), .val (.long q1), .second, .val (.int p2), .val (.double d3), .second, .val (.double d4), .second, .val (.int p5), .val (.int (0 : Int32)), .unset, .unset, .unset, .unset] [(.long (2147483648 : Int64)), (.long ((p2.toInt64) <<< ((32 : Int32) &&& 0x3f).toInt64))]))
    refine own_by (fun _ k => XS.goto X1.here hx rfl (pc0 := 20) (pc' := 24) rfl (hb hby d3_20) (by decide) (by decide) k) ?_
    show own_Go p e below _ (T1.setTop (mkF m 24 #[.val (.ref a0), .val (.long q1), .second, .val (.int p2), .val (.double d3), .second, .val (.double d4), .second, .val (.int p5), .val (.int (0 : Int32)), .unset, .unset, .unset, .unset] [(.long (2147483648 : Int64)), (.long ((p2.toInt64) <<< ((32 : Int32) &&& 0x3f).toInt64))]))
    exact J3 _ _ (2147483648 : Int64) X1 eq1 N1 (Or.inr (⟨c2, rfl⟩))
theorem d7_0 : decode prog_71_method_4_code 0 = .ok (.aload_n 0, 1) := by decide +kernel
theorem d7_1 : decode prog_71_method_4_code 1 = .ok (.dup, 1) := by decide +kernel
theorem d7_2 : decode prog_71_method_4_code 2 = .ok (.getfield 11, 3) := by decide +kernel
theorem d7_5 : decode prog_71_method_4_code 5 = .ok (.lconst 1, 1) := by decide +kernel
theorem d7_6 : decode prog_71_method_4_code 6 = .ok (.ladd, 1) := by decide +kernel
theorem d7_7 : decode prog_71_method_4_code 7 = .ok (.putfield 11, 3) := by decide +kernel
theorem d7_10 : decode prog_71_method_4_code 10 = .ok (.aload_n 0, 1) := by decide +kernel
theorem d7_11 : decode prog_71_method_4_code 11 = .ok (.getfield 11, 3) := by decide +kernel
theorem d7_14 : decode prog_71_method_4_code 14 = .ok (.ldc2_w 40, 3) := by decide +kernel
theorem d7_17 : decode prog_71_method_4_code 17 = .ok (.lcmp, 1) := by decide +kernel
theorem d7_18 : decode prog_71_method_4_code 18 = .ok (.ifCond .le 21, 3) := by decide +kernel
theorem d7_39 : decode prog_71_method_4_code 39 = .ok (.return_, 1) := by decide +kernel
theorem pn_7 : plainName "com/example/plyward/plyward/search/TranspositionTable" = true := by first | (simp [plainName, overriddenIn]; done) | decide +kernel
theorem ef_7 (m : MethodId) (a0 : Addr) : entryFrame m #[(.ref a0)] 1 = mkF m 0 #[.val (.ref a0)] [] := by first | (simp [entryFrame, mkF, argsToLocals, Value.category]; done) | rfl
def Q7 (Z : State) (a0 : Addr) (f_a0_generation : Int64) (f_a0_settledSince : Int64) (f_a0_entries : Value) (f_a0_shift : Int32) (h0 : Heap) (n0 : Nat) (v : Option Value) (h : Heap) (L : List Loc) : Prop := v = none ∧ Fr n0 L ∧ Keep h0 h [a0] ∧ Fld Z h a0 "com/example/plyward/plyward/search/TranspositionTable" "generation" "J" (.long (f_a0_generation + (1 : Int64))) ∧ Exa Z h a0 "com/example/plyward/plyward/search/TranspositionTable" ∧ Fld Z h a0 "com/example/plyward/plyward/search/TranspositionTable" "settledSince" "J" (.long f_a0_settledSince) ∧ Fld Z h a0 "com/example/plyward/plyward/search/TranspositionTable" "entries" "[J" f_a0_entries ∧ Fld Z h a0 "com/example/plyward/plyward/search/TranspositionTable" "shift" "I" (.int f_a0_shift)
set_option maxRecDepth 65536 in
set_option maxHeartbeats 40000000 in
theorem rm7 (l : Launch) (Z : State) (A0 : Array Value) (hw : ∀ d ∈ tables_1, d.before A0 Z = true) (ws : List Jvm.Cond) (a0 : Addr) (f_a0_generation : Int64) (f_a0_settledSince : Int64) (f_a0_entries : Value) (f_a0_shift : Int32) (h0 : Heap) (n0 : Nat) (Z0 : n0 ≤ h0.size) (P_F_a0_generation : Fld Z h0 a0 "com/example/plyward/plyward/search/TranspositionTable" "generation" "J" (.long f_a0_generation)) (P_E_a0 : Exa Z h0 a0 "com/example/plyward/plyward/search/TranspositionTable") (g_a0 : n0 ≤ a0) (ha18 : ¬ ((2147483647 : Int64) < (f_a0_generation + (1 : Int64)))) (P_F_a0_settledSince : Fld Z h0 a0 "com/example/plyward/plyward/search/TranspositionTable" "settledSince" "J" (.long f_a0_settledSince)) (P_F_a0_entries : Fld Z h0 a0 "com/example/plyward/plyward/search/TranspositionTable" "entries" "[J" f_a0_entries) (P_F_a0_shift : Fld Z h0 a0 "com/example/plyward/plyward/search/TranspositionTable" "shift" "I" (.int f_a0_shift)) :
    MetFree l (⟨"com/example/plyward/plyward/search/TranspositionTable", "nextGeneration", "()V"⟩ : MethodName) (head1 (Jvm.Cond.code (⟨"com/example/plyward/plyward/search/TranspositionTable", "nextGeneration", "()V"⟩ : MethodName) prog_71_method_4_code 1 none :: ws) ({ frames := 0, cells := 0, slots := 0, locals := 0 } : Room)) (fun a U => a = #[(.ref a0)] ∧ Z.Warmed39 U.vm ∧ U.heap = h0) (fun _ _ _ _ _ => True) (fun _ U o U' => ∃ v L, o = .returned v ∧ Q7 Z a0 f_a0_generation f_a0_settledSince f_a0_entries f_a0_shift h0 n0 v U'.heap L ∧ FrameEnd U o U' L 0 0) := by
  refine MetFree.of_bodySF (plainFor_of_name pn_7) hisR ?_
  intro p e s m args below meth c s₁ Bd hml0 hP hK
  obtain ⟨rfl, hZ, hh⟩ := hP
  have hx := Bd.exec
  have hby := Bd.bytes
  have hml : c.maxLocals = 1 := hml0
  have hlk : meth.locks = false := Bd.notSynchronized
  have hown : s.vm.findClass "com/example/plyward/plyward/search/TranspositionTable" = some m.cls := findClass_of_methodNamed Bd.named
  have hnm := (name_of_methodNamed Bd.named Bd.method).1
  have X0 : Stand p l e ({ frames := 0, cells := 0, slots := 0, locals := 0 } : Room) s m #[(.ref a0)] below meth c s₁ [] 0 0 := Stand.of_body Bd
  have e0 : s₁.heap = h0 := by rw [← hh, Bd.state]; rfl
  have N0 := Fr.nil n0
  show own_Go p e below (own_Fin s 0 0 (Q7 Z a0 f_a0_generation f_a0_settledSince f_a0_entries f_a0_shift h0 n0)) _
  refine own_by (fun t k => castTop (ef_7 m a0) k) ?_
  show own_Go p e below _ (s₁.setTop (mkF m 0 #[.val (.ref a0)] []))
  refine own_by (fun _ k => XS.aloadN X0.here hx rfl (hb hby d7_0) rfl rfl k) ?_
  show own_Go p e below _ (s₁.setTop (mkF m 1 #[.val (.ref a0)] [(.ref a0)]))
  refine own_by (fun _ k => XS.dup X0.here hx rfl (hb hby d7_1) rfl rfl k) ?_
  show own_Go p e below _ (s₁.setTop (mkF m 2 #[.val (.ref a0)] [(.ref a0), (.ref a0)]))
  obtain ⟨T1, X1, e1, st1⟩ := getF X0 hx hZ hown (host := "") (Or.inl (hw _ (List.mem_of_getElem? (i := 10) rfl))) Via.refl e0 P_F_a0_generation (g := (mkF m 2 #[.val (.ref a0)] [(.ref a0), (.ref a0)])) rfl rfl (hb hby d7_2)
  refine own_by st1 ?_
  show own_Go p e below _ (T1.setTop (mkF m 5 #[.val (.ref a0)] [(.long f_a0_generation), (.ref a0)]))
  refine own_by (fun _ k => XS.lconst X1.here hx rfl (hb hby d7_5) k) ?_
  show own_Go p e below _ (T1.setTop (mkF m 6 #[.val (.ref a0)] [(.long (1 : Int64)), (.long f_a0_generation), (.ref a0)]))
  refine own_by (fun _ k => XS.ladd X1.here hx rfl (hb hby d7_6) rfl k) ?_
  show own_Go p e below _ (T1.setTop (mkF m 7 #[.val (.ref a0)] [(.long (f_a0_generation + (1 : Int64))), (.ref a0)]))
  obtain ⟨T2, h2, X2, e2, W2, st2⟩ := putF X1 hx hZ hown (host := "") (Or.inl (hw _ (List.mem_of_getElem? (i := 10) rfl))) Via.refl e1 P_F_a0_generation P_E_a0 (Or.inl (hw _ (List.mem_of_getElem? (i := 11) rfl))) (hw _ (List.mem_of_getElem? (i := 2) rfl)) (ty := .long) (by decide) rfl rfl (g := (mkF m 7 #[.val (.ref a0)] [(.long (f_a0_generation + (1 : Int64))), (.ref a0)])) rfl rfl (hb hby d7_7)
  have Fw2 : Fld Z h2 a0 "com/example/plyward/plyward/search/TranspositionTable" "generation" "J" (.long (f_a0_generation + (1 : Int64))) := P_F_a0_generation.same W2
  have K2 : Keep h0 h2 [a0] := (Keep.refl h0 [a0]).wr W2 (Or.inl (List.mem_of_getElem? (i := 0) rfl))
  have Z2 : n0 ≤ h2.size := Nat.le_trans Z0 (Keep.of_wr W2).1
  have N2 := Fr.snoc X2 N0 g_a0
  refine own_by st2 ?_
  show own_Go p e below _ (T2.setTop (mkF m 10 #[.val (.ref a0)] []))
  refine own_by (fun _ k => XS.aloadN X2.here hx rfl (hb hby d7_10) rfl rfl k) ?_
  show own_Go p e below _ (T2.setTop (mkF m 11 #[.val (.ref a0)] [(.ref a0)]))
  obtain ⟨T3, X3, e3, st3⟩ := getF X2 hx hZ hown (host := "") (Or.inl (hw _ (List.mem_of_getElem? (i := 10) rfl))) Via.refl e2 Fw2 (g := (mkF m 11 #[.val (.ref a0)] [(.ref a0)])) rfl rfl (hb hby d7_11)
  refine own_by st3 ?_
  show own_Go p e below _ (T3.setTop (mkF m 14 #[.val (.ref a0)] [(.long (f_a0_generation + (1 : Int64)))]))
  refine own_by (fun t k => X3.ldc2Long hx hown (mvT hZ (hw _ (List.mem_of_getElem? (i := 52) rfl))) (g := (mkF m 14 #[.val (.ref a0)] [(.long (f_a0_generation + (1 : Int64)))])) rfl (hb hby d7_14) _ k) ?_
  show own_Go p e below _ (T3.setTop (mkF m 17 #[.val (.ref a0)] [(.long (2147483647 : Int64)), (.long (f_a0_generation + (1 : Int64)))]))
  refine own_by (fun _ k => XS.lcmp X3.here hx rfl (hb hby d7_17) rfl k) ?_
  show own_Go p e below _ (T3.setTop (mkF m 18 #[.val (.ref a0)] [(.int (lcmpW (f_a0_generation + (1 : Int64)) (2147483647 : Int64)))]))
  refine own_by (fun _ k => XS.ifYes X3.here hx rfl (pc0 := 18) (pc' := 39) rfl (hb hby d7_18) rfl ((if0 _ _).trans (flt (fun q => ha18 ((lw_gt _ _).mp q))).2.2.2) (by decide) (by decide) k) ?_
  show own_Go p e below _ (T3.setTop (mkF m 39 #[.val (.ref a0)] []))
  have F4 : Exa Z h2 a0 "com/example/plyward/plyward/search/TranspositionTable" := (P_E_a0.wr W2)
  have F5 : Fld Z h2 a0 "com/example/plyward/plyward/search/TranspositionTable" "settledSince" "J" (.long f_a0_settledSince) := (P_F_a0_settledSince.other W2 (Or.inr (slot_ne (Or.inl (hw _ (List.mem_of_getElem? (i := 13) rfl))) (Or.inl (hw _ (List.mem_of_getElem? (i := 11) rfl))) (by decide) (t := .long) (t' := .long) (by decide) (by decide))))
  have F6 : Fld Z h2 a0 "com/example/plyward/plyward/search/TranspositionTable" "entries" "[J" f_a0_entries := (P_F_a0_entries.other W2 (Or.inr (slot_ne (Or.inr (hw _ (List.mem_of_getElem? (i := 16) rfl))) (Or.inl (hw _ (List.mem_of_getElem? (i := 11) rfl))) (by decide) (t := (.array .long)) (t' := .long) (by decide) (by decide))))
  have F7 : Fld Z h2 a0 "com/example/plyward/plyward/search/TranspositionTable" "shift" "I" (.int f_a0_shift) := (P_F_a0_shift.other W2 (Or.inr (slot_ne (Or.inr (hw _ (List.mem_of_getElem? (i := 18) rfl))) (Or.inl (hw _ (List.mem_of_getElem? (i := 11) rfl))) (by decide) (t := .int) (t' := .long) (by decide) (by decide))))
  exact own_ret0 X3 hx Bd.returns (hb hby d7_39) hlk e3 ⟨rfl, N2, K2, Fw2, F4, F5, F6, F7⟩ (by decide) (by decide)
theorem pd_7 : parseMethodDescriptor "()V" = some ⟨[], none⟩ := by decide +kernel
theorem d6_0 : decode prog_71_method_3_code 0 = .ok (.aload_n 0, 1) := by decide +kernel
theorem d6_1 : decode prog_71_method_3_code 1 = .ok (.invokevirtual 37, 3) := by decide +kernel
theorem d6_4 : decode prog_71_method_3_code 4 = .ok (.return_, 1) := by decide +kernel
theorem pn_6 : plainName "com/example/plyward/plyward/search/TranspositionTable" = true := by first | (simp [plainName, overriddenIn]; done) | decide +kernel
theorem ef_6 (m : MethodId) (a0 : Addr) : entryFrame m #[(.ref a0)] 1 = mkF m 0 #[.val (.ref a0)] [] := by first | (simp [entryFrame, mkF, argsToLocals, Value.category]; done) | rfl
def Q6 (Z : State) (a0 : Addr) (f_a0_generation : Int64) (f_a0_settledSince : Int64) (f_a0_entries : Addr) (f_a0_shift : Int32) (h0 : Heap) (n0 : Nat) (v : Option Value) (h : Heap) (L : List Loc) : Prop := v = none ∧ Fr n0 L ∧ Keep h0 h [a0] ∧ Exa Z h a0 "com/example/plyward/plyward/search/TranspositionTable" ∧ Fld Z h a0 "com/example/plyward/plyward/search/TranspositionTable" "generation" "J" (.long (f_a0_generation + (1 : Int64))) ∧ Fld Z h a0 "com/example/plyward/plyward/search/TranspositionTable" "settledSince" "J" (.long f_a0_settledSince) ∧ Fld Z h a0 "com/example/plyward/plyward/search/TranspositionTable" "entries" "[J" (.ref f_a0_entries) ∧ Fld Z h a0 "com/example/plyward/plyward/search/TranspositionTable" "shift" "I" (.int f_a0_shift)
set_option maxRecDepth 65536 in
set_option maxHeartbeats 40000000 in
theorem rm6 (l : Launch) (Z : State) (A0 : Array Value) (hw : ∀ d ∈ tables_1, d.before A0 Z = true) (ws : List Jvm.Cond) (a0 : Addr) (f_a0_generation : Int64) (f_a0_settledSince : Int64) (f_a0_entries : Addr) (f_a0_shift : Int32) (h0 : Heap) (n0 : Nat) (Z0 : n0 ≤ h0.size) (P_F_a0_generation : Fld Z h0 a0 "com/example/plyward/plyward/search/TranspositionTable" "generation" "J" (.long f_a0_generation)) (P_E_a0 : Exa Z h0 a0 "com/example/plyward/plyward/search/TranspositionTable") (g_a0 : n0 ≤ a0) (hp_1 : ¬ ((2147483647 : Int64) < (f_a0_generation + (1 : Int64)))) (P_F_a0_settledSince : Fld Z h0 a0 "com/example/plyward/plyward/search/TranspositionTable" "settledSince" "J" (.long f_a0_settledSince)) (P_F_a0_entries : Fld Z h0 a0 "com/example/plyward/plyward/search/TranspositionTable" "entries" "[J" (.ref f_a0_entries)) (P_F_a0_shift : Fld Z h0 a0 "com/example/plyward/plyward/search/TranspositionTable" "shift" "I" (.int f_a0_shift)) :
    MetFree l (⟨"com/example/plyward/plyward/search/TranspositionTable", "keepSettled", "()V"⟩ : MethodName) (head1 (Jvm.Cond.code (⟨"com/example/plyward/plyward/search/TranspositionTable", "keepSettled", "()V"⟩ : MethodName) prog_71_method_3_code 1 none :: ws) ({ frames := 1, cells := 0, slots := 0, locals := 12 } : Room)) (fun a U => a = #[(.ref a0)] ∧ Z.Warmed39 U.vm ∧ U.heap = h0) (fun _ _ _ _ _ => True) (fun _ U o U' => ∃ v L, o = .returned v ∧ Q6 Z a0 f_a0_generation f_a0_settledSince f_a0_entries f_a0_shift h0 n0 v U'.heap L ∧ FrameEnd U o U' L 0 0) := by
  refine MetFree.of_bodySF (plainFor_of_name pn_6) hisR ?_
  intro p e s m args below meth c s₁ Bd hml0 hP hK
  obtain ⟨rfl, hZ, hh⟩ := hP
  have hx := Bd.exec
  have hby := Bd.bytes
  have hml : c.maxLocals = 1 := hml0
  have hlk : meth.locks = false := Bd.notSynchronized
  have hown : s.vm.findClass "com/example/plyward/plyward/search/TranspositionTable" = some m.cls := findClass_of_methodNamed Bd.named
  have hnm := (name_of_methodNamed Bd.named Bd.method).1
  have X0 : Stand p l e ({ frames := 1, cells := 0, slots := 0, locals := 12 } : Room) s m #[(.ref a0)] below meth c s₁ [] 0 0 := Stand.of_body Bd
  have e0 : s₁.heap = h0 := by rw [← hh, Bd.state]; rfl
  have N0 := Fr.nil n0
  show own_Go p e below (own_Fin s 0 0 (Q6 Z a0 f_a0_generation f_a0_settledSince f_a0_entries f_a0_shift h0 n0)) _
  refine own_by (fun t k => castTop (ef_6 m a0) k) ?_
  show own_Go p e below _ (s₁.setTop (mkF m 0 #[.val (.ref a0)] []))
  refine own_by (fun _ k => XS.aloadN X0.here hx rfl (hb hby d6_0) rfl rfl k) ?_
  show own_Go p e below _ (s₁.setTop (mkF m 1 #[.val (.ref a0)] [(.ref a0)]))
  obtain ⟨cq1, qq1, qq1'⟩ := P_E_a0.cell
  obtain ⟨_, _, ⟨T1, L1, k1, n1⟩, -, X1, ⟨Lc1, hQ1, l1, y1, z1⟩, st1⟩ := X0.privateBack hx (y := (⟨"com/example/plyward/plyward/search/TranspositionTable", "nextGeneration", "()V"⟩ : MethodName)) hown (mvT hZ (hw _ (List.mem_of_getElem? (i := 48) rfl))) (mvT hZ (hw _ (List.mem_of_getElem? (i := 49) rfl))) (own_selPriv hZ (hw _ (List.mem_of_getElem? (i := 2) rfl)) (hw _ (List.mem_of_getElem? (i := 50) rfl)) (hw _ (List.mem_of_getElem? (i := 49) rfl)) (by decide)) (Cond.privateMethod_at (mvP hZ (hw _ (List.mem_of_getElem? (i := 50) rfl)) (args := #[]))) (mvT hZ (hw _ (List.mem_of_getElem? (i := 51) rfl))) (by decide) (backOf (W := 0) (rm7 l Z A0 hw [] a0 f_a0_generation f_a0_settledSince (.ref f_a0_entries) f_a0_shift h0 n0 Z0 P_F_a0_generation P_E_a0 g_a0 hp_1 P_F_a0_settledSince P_F_a0_entries P_F_a0_shift) hZ (hw _ (List.mem_of_getElem? (i := 51) rfl)) (hw _ (List.mem_of_getElem? (i := 3) rfl)) (by decide) (by decide)) (g := (mkF m 1 #[.val (.ref a0)] [(.ref a0)])) rfl (by rw [hml]; rfl) (Steps.refl _) (a := a0) (by rw [e0]; exact qq1) qq1' (argsL := []) (rest := []) (lenOf pd_7 rfl) rfl (by show 2 * 0 + _ ≤ _; exact Nat.le_of_eq rfl) (hb hby d6_1) (fun _ _ => ⟨rfl, e0, (by decide : 0 + 0 ≤ _), (by decide : 0 + 0 ≤ _)⟩)
  dsimp only [Pt.U, Pt.locs, Pt.cells, Pt.slots] at X1 l1 y1 z1 st1 hQ1
  subst l1 y1 z1
  obtain ⟨rfl, Nq1, Kq1, F2, F3, F4, F5, F6⟩ := hQ1
  have N1 := Fr.app N0 Nq1
  have K1 : Keep h0 T1.heap [a0] := (Keep.refl h0 [a0]).trans Kq1 ((allS (Or.inl (List.mem_of_getElem? (i := 0) rfl)) all0))
  have Z1 : n0 ≤ T1.heap.size := Nat.le_trans Z0 Kq1.1
  refine own_by (fun _ k => st1.trans k) ?_
  show own_Go p e below _ (T1.setTop (mkF m 4 #[.val (.ref a0)] []))
  exact own_ret0 X1 hx Bd.returns (hb hby d6_4) hlk rfl ⟨rfl, N1, K1, F3, F2, F4, F5, F6⟩ (by decide) (by decide)
theorem d9_0 : decode prog_71_method_2_code 0 = .ok (.aload_n 0, 1) := by decide +kernel
theorem d9_1 : decode prog_71_method_2_code 1 = .ok (.invokevirtual 37, 3) := by decide +kernel
theorem d9_4 : decode prog_71_method_2_code 4 = .ok (.aload_n 0, 1) := by decide +kernel
theorem d9_5 : decode prog_71_method_2_code 5 = .ok (.aload_n 0, 1) := by decide +kernel
theorem d9_6 : decode prog_71_method_2_code 6 = .ok (.getfield 11, 3) := by decide +kernel
theorem d9_9 : decode prog_71_method_2_code 9 = .ok (.putfield 15, 3) := by decide +kernel
theorem d9_12 : decode prog_71_method_2_code 12 = .ok (.return_, 1) := by decide +kernel
theorem pn_9 : plainName "com/example/plyward/plyward/search/TranspositionTable" = true := by first | (simp [plainName, overriddenIn]; done) | decide +kernel
theorem ef_9 (m : MethodId) (a0 : Addr) : entryFrame m #[(.ref a0)] 1 = mkF m 0 #[.val (.ref a0)] [] := by first | (simp [entryFrame, mkF, argsToLocals, Value.category]; done) | rfl
def Q9 (Z : State) (a0 : Addr) (f_a0_generation : Int64) (f_a0_settledSince : Int64) (f_a0_entries : Addr) (f_a0_shift : Int32) (h0 : Heap) (n0 : Nat) (v : Option Value) (h : Heap) (L : List Loc) : Prop := v = none ∧ Fr n0 L ∧ Keep h0 h [a0] ∧ Exa Z h a0 "com/example/plyward/plyward/search/TranspositionTable" ∧ Fld Z h a0 "com/example/plyward/plyward/search/TranspositionTable" "generation" "J" (.long (f_a0_generation + (1 : Int64))) ∧ Fld Z h a0 "com/example/plyward/plyward/search/TranspositionTable" "settledSince" "J" (.long (f_a0_generation + (1 : Int64))) ∧ Fld Z h a0 "com/example/plyward/plyward/search/TranspositionTable" "entries" "[J" (.ref f_a0_entries) ∧ Fld Z h a0 "com/example/plyward/plyward/search/TranspositionTable" "shift" "I" (.int f_a0_shift)
set_option maxRecDepth 65536 in
set_option maxHeartbeats 40000000 in
theorem rm9 (l : Launch) (Z : State) (A0 : Array Value) (hw : ∀ d ∈ tables_1, d.before A0 Z = true) (ws : List Jvm.Cond) (a0 : Addr) (f_a0_generation : Int64) (f_a0_settledSince : Int64) (f_a0_entries : Addr) (f_a0_shift : Int32) (h0 : Heap) (n0 : Nat) (Z0 : n0 ≤ h0.size) (P_F_a0_generation : Fld Z h0 a0 "com/example/plyward/plyward/search/TranspositionTable" "generation" "J" (.long f_a0_generation)) (P_E_a0 : Exa Z h0 a0 "com/example/plyward/plyward/search/TranspositionTable") (g_a0 : n0 ≤ a0) (hp_1 : ¬ ((2147483647 : Int64) < (f_a0_generation + (1 : Int64)))) (P_F_a0_settledSince : Fld Z h0 a0 "com/example/plyward/plyward/search/TranspositionTable" "settledSince" "J" (.long f_a0_settledSince)) (P_F_a0_entries : Fld Z h0 a0 "com/example/plyward/plyward/search/TranspositionTable" "entries" "[J" (.ref f_a0_entries)) (P_F_a0_shift : Fld Z h0 a0 "com/example/plyward/plyward/search/TranspositionTable" "shift" "I" (.int f_a0_shift)) :
    MetFree l (⟨"com/example/plyward/plyward/search/TranspositionTable", "clear", "()V"⟩ : MethodName) (head1 (Jvm.Cond.code (⟨"com/example/plyward/plyward/search/TranspositionTable", "clear", "()V"⟩ : MethodName) prog_71_method_2_code 1 none :: ws) ({ frames := 1, cells := 0, slots := 0, locals := 12 } : Room)) (fun a U => a = #[(.ref a0)] ∧ Z.Warmed39 U.vm ∧ U.heap = h0) (fun _ _ _ _ _ => True) (fun _ U o U' => ∃ v L, o = .returned v ∧ Q9 Z a0 f_a0_generation f_a0_settledSince f_a0_entries f_a0_shift h0 n0 v U'.heap L ∧ FrameEnd U o U' L 0 0) := by
  refine MetFree.of_bodySF (plainFor_of_name pn_9) hisR ?_
  intro p e s m args below meth c s₁ Bd hml0 hP hK
  obtain ⟨rfl, hZ, hh⟩ := hP
  have hx := Bd.exec
  have hby := Bd.bytes
  have hml : c.maxLocals = 1 := hml0
  have hlk : meth.locks = false := Bd.notSynchronized
  have hown : s.vm.findClass "com/example/plyward/plyward/search/TranspositionTable" = some m.cls := findClass_of_methodNamed Bd.named
  have hnm := (name_of_methodNamed Bd.named Bd.method).1
  have X0 : Stand p l e ({ frames := 1, cells := 0, slots := 0, locals := 12 } : Room) s m #[(.ref a0)] below meth c s₁ [] 0 0 := Stand.of_body Bd
  have e0 : s₁.heap = h0 := by rw [← hh, Bd.state]; rfl
  have N0 := Fr.nil n0
  show own_Go p e below (own_Fin s 0 0 (Q9 Z a0 f_a0_generation f_a0_settledSince f_a0_entries f_a0_shift h0 n0)) _
  refine own_by (fun t k => castTop (ef_9 m a0) k) ?_
  show own_Go p e below _ (s₁.setTop (mkF m 0 #[.val (.ref a0)] []))
  refine own_by (fun _ k => XS.aloadN X0.here hx rfl (hb hby d9_0) rfl rfl k) ?_
  show own_Go p e below _ (s₁.setTop (mkF m 1 #[.val (.ref a0)] [(.ref a0)]))
  obtain ⟨cq1, qq1, qq1'⟩ := P_E_a0.cell
  obtain ⟨_, _, ⟨T1, L1, k1, n1⟩, -, X1, ⟨Lc1, hQ1, l1, y1, z1⟩, st1⟩ := X0.privateBack hx (y := (⟨"com/example/plyward/plyward/search/TranspositionTable", "nextGeneration", "()V"⟩ : MethodName)) hown (mvT hZ (hw _ (List.mem_of_getElem? (i := 48) rfl))) (mvT hZ (hw _ (List.mem_of_getElem? (i := 49) rfl))) (own_selPriv hZ (hw _ (List.mem_of_getElem? (i := 2) rfl)) (hw _ (List.mem_of_getElem? (i := 50) rfl)) (hw _ (List.mem_of_getElem? (i := 49) rfl)) (by decide)) (Cond.privateMethod_at (mvP hZ (hw _ (List.mem_of_getElem? (i := 50) rfl)) (args := #[]))) (mvT hZ (hw _ (List.mem_of_getElem? (i := 51) rfl))) (by decide) (backOf (W := 0) (rm7 l Z A0 hw [] a0 f_a0_generation f_a0_settledSince (.ref f_a0_entries) f_a0_shift h0 n0 Z0 P_F_a0_generation P_E_a0 g_a0 hp_1 P_F_a0_settledSince P_F_a0_entries P_F_a0_shift) hZ (hw _ (List.mem_of_getElem? (i := 51) rfl)) (hw _ (List.mem_of_getElem? (i := 3) rfl)) (by decide) (by decide)) (g := (mkF m 1 #[.val (.ref a0)] [(.ref a0)])) rfl (by rw [hml]; rfl) (Steps.refl _) (a := a0) (by rw [e0]; exact qq1) qq1' (argsL := []) (rest := []) (lenOf pd_7 rfl) rfl (by show 2 * 0 + _ ≤ _; exact Nat.le_of_eq rfl) (hb hby d9_1) (fun _ _ => ⟨rfl, e0, (by decide : 0 + 0 ≤ _), (by decide : 0 + 0 ≤ _)⟩)
  dsimp only [Pt.U, Pt.locs, Pt.cells, Pt.slots] at X1 l1 y1 z1 st1 hQ1
  subst l1 y1 z1
  obtain ⟨rfl, Nq1, Kq1, F2, F3, F4, F5, F6⟩ := hQ1
  have N1 := Fr.app N0 Nq1
  have K1 : Keep h0 T1.heap [a0] := (Keep.refl h0 [a0]).trans Kq1 ((allS (Or.inl (List.mem_of_getElem? (i := 0) rfl)) all0))
  have Z1 : n0 ≤ T1.heap.size := Nat.le_trans Z0 Kq1.1
  refine own_by (fun _ k => st1.trans k) ?_
  show own_Go p e below _ (T1.setTop (mkF m 4 #[.val (.ref a0)] []))
  refine own_by (fun _ k => XS.aloadN X1.here hx rfl (hb hby d9_4) rfl rfl k) ?_
  show own_Go p e below _ (T1.setTop (mkF m 5 #[.val (.ref a0)] [(.ref a0)]))
  refine own_by (fun _ k => XS.aloadN X1.here hx rfl (hb hby d9_5) rfl rfl k) ?_
  show own_Go p e below _ (T1.setTop (mkF m 6 #[.val (.ref a0)] [(.ref a0), (.ref a0)]))
  obtain ⟨T7, X7, e7, st7⟩ := getF X1 hx hZ hown (host := "") (Or.inl (hw _ (List.mem_of_getElem? (i := 10) rfl))) Via.refl rfl F2 (g := (mkF m 6 #[.val (.ref a0)] [(.ref a0), (.ref a0)])) rfl rfl (hb hby d9_6)
  refine own_by st7 ?_
  show own_Go p e below _ (T7.setTop (mkF m 9 #[.val (.ref a0)] [(.long (f_a0_generation + (1 : Int64))), (.ref a0)]))
  obtain ⟨T8, h8, X8, e8, W8, st8⟩ := putF X7 hx hZ hown (host := "") (Or.inl (hw _ (List.mem_of_getElem? (i := 12) rfl))) Via.refl e7 F4 F3 (Or.inl (hw _ (List.mem_of_getElem? (i := 13) rfl))) (hw _ (List.mem_of_getElem? (i := 2) rfl)) (ty := .long) (by decide) rfl rfl (g := (mkF m 9 #[.val (.ref a0)] [(.long (f_a0_generation + (1 : Int64))), (.ref a0)])) rfl rfl (hb hby d9_9)
  have Fw8 : Fld Z h8 a0 "com/example/plyward/plyward/search/TranspositionTable" "settledSince" "J" (.long (f_a0_generation + (1 : Int64))) := F4.same W8
  have K8 : Keep h0 h8 [a0] := K1.wr W8 (Or.inl (List.mem_of_getElem? (i := 0) rfl))
  have Z8 : n0 ≤ h8.size := Nat.le_trans Z1 (Keep.of_wr W8).1
  have N8 := Fr.snoc X8 N1 g_a0
  refine own_by st8 ?_
  show own_Go p e below _ (T8.setTop (mkF m 12 #[.val (.ref a0)] []))
  have F9 : Exa Z h8 a0 "com/example/plyward/plyward/search/TranspositionTable" := (F3.wr W8)
  have F10 : Fld Z h8 a0 "com/example/plyward/plyward/search/TranspositionTable" "generation" "J" (.long (f_a0_generation + (1 : Int64))) := (F2.other W8 (Or.inr (slot_ne (Or.inl (hw _ (List.mem_of_getElem? (i := 11) rfl))) (Or.inl (hw _ (List.mem_of_getElem? (i := 13) rfl))) (by decide) (t := .long) (t' := .long) (by decide) (by decide))))
  have F11 : Fld Z h8 a0 "com/example/plyward/plyward/search/TranspositionTable" "entries" "[J" (.ref f_a0_entries) := (F5.other W8 (Or.inr (slot_ne (Or.inr (hw _ (List.mem_of_getElem? (i := 16) rfl))) (Or.inl (hw _ (List.mem_of_getElem? (i := 13) rfl))) (by decide) (t := (.array .long)) (t' := .long) (by decide) (by decide))))
  have F12 : Fld Z h8 a0 "com/example/plyward/plyward/search/TranspositionTable" "shift" "I" (.int f_a0_shift) := (F6.other W8 (Or.inr (slot_ne (Or.inr (hw _ (List.mem_of_getElem? (i := 18) rfl))) (Or.inl (hw _ (List.mem_of_getElem? (i := 13) rfl))) (by decide) (t := .int) (t' := .long) (by decide) (by decide))))
  exact own_ret0 X8 hx Bd.returns (hb hby d9_12) hlk e8 ⟨rfl, N8, K8, F9, F10, Fw8, F11, F12⟩ (by decide) (by decide)
theorem d8_0 : decode prog_71_method_6_code 0 = .ok (.aload_n 0, 1) := by decide +kernel
theorem d8_1 : decode prog_71_method_6_code 1 = .ok (.lload_n 1, 1) := by decide +kernel
theorem d8_2 : decode prog_71_method_6_code 2 = .ok (.invokevirtual 48, 3) := by decide +kernel
theorem d8_5 : decode prog_71_method_6_code 5 = .ok (.istore_n 3, 1) := by decide +kernel
theorem d8_6 : decode prog_71_method_6_code 6 = .ok (.iconst (-1), 1) := by decide +kernel
theorem d8_7 : decode prog_71_method_6_code 7 = .ok (.istore 4, 2) := by decide +kernel
theorem d8_9 : decode prog_71_method_6_code 9 = .ok (.iload_n 3, 1) := by decide +kernel
theorem d8_10 : decode prog_71_method_6_code 10 = .ok (.istore 5, 2) := by decide +kernel
theorem d8_12 : decode prog_71_method_6_code 12 = .ok (.iload 5, 2) := by decide +kernel
theorem d8_14 : decode prog_71_method_6_code 14 = .ok (.iload_n 3, 1) := by decide +kernel
theorem d8_15 : decode prog_71_method_6_code 15 = .ok (.bipush 8, 2) := by decide +kernel
theorem d8_17 : decode prog_71_method_6_code 17 = .ok (.iadd, 1) := by decide +kernel
theorem d8_18 : decode prog_71_method_6_code 18 = .ok (.if_icmp .ge 63, 3) := by decide +kernel
theorem d8_21 : decode prog_71_method_6_code 21 = .ok (.aload_n 0, 1) := by decide +kernel
theorem d8_22 : decode prog_71_method_6_code 22 = .ok (.getfield 27, 3) := by decide +kernel
theorem d8_25 : decode prog_71_method_6_code 25 = .ok (.iload 5, 2) := by decide +kernel
theorem d8_27 : decode prog_71_method_6_code 27 = .ok (.iconst 3, 1) := by decide +kernel
theorem d8_28 : decode prog_71_method_6_code 28 = .ok (.iadd, 1) := by decide +kernel
theorem d8_29 : decode prog_71_method_6_code 29 = .ok (.laload, 1) := by decide +kernel
theorem d8_30 : decode prog_71_method_6_code 30 = .ok (.ldc2_w 40, 3) := by decide +kernel
theorem d8_33 : decode prog_71_method_6_code 33 = .ok (.land, 1) := by decide +kernel
theorem d8_34 : decode prog_71_method_6_code 34 = .ok (.lstore 6, 2) := by decide +kernel
theorem d8_36 : decode prog_71_method_6_code 36 = .ok (.aload_n 0, 1) := by decide +kernel
theorem d8_37 : decode prog_71_method_6_code 37 = .ok (.getfield 27, 3) := by decide +kernel
theorem d8_40 : decode prog_71_method_6_code 40 = .ok (.iload 5, 2) := by decide +kernel
theorem d8_42 : decode prog_71_method_6_code 42 = .ok (.laload, 1) := by decide +kernel
theorem d8_43 : decode prog_71_method_6_code 43 = .ok (.lload_n 1, 1) := by decide +kernel
theorem d8_44 : decode prog_71_method_6_code 44 = .ok (.lcmp, 1) := by decide +kernel
theorem d8_45 : decode prog_71_method_6_code 45 = .ok (.ifCond .ne 30, 3) := by decide +kernel
theorem d8_48 : decode prog_71_method_6_code 48 = .ok (.lload 6, 2) := by decide +kernel
theorem d8_50 : decode prog_71_method_6_code 50 = .ok (.aload_n 0, 1) := by decide +kernel
theorem d8_51 : decode prog_71_method_6_code 51 = .ok (.getfield 15, 3) := by decide +kernel
theorem d8_54 : decode prog_71_method_6_code 54 = .ok (.lcmp, 1) := by decide +kernel
theorem d8_55 : decode prog_71_method_6_code 55 = .ok (.ifCond .lt 20, 3) := by decide +kernel
theorem d8_58 : decode prog_71_method_6_code 58 = .ok (.lload 6, 2) := by decide +kernel
theorem d8_60 : decode prog_71_method_6_code 60 = .ok (.aload_n 0, 1) := by decide +kernel
theorem d8_61 : decode prog_71_method_6_code 61 = .ok (.getfield 11, 3) := by decide +kernel
theorem d8_64 : decode prog_71_method_6_code 64 = .ok (.lcmp, 1) := by decide +kernel
theorem d8_65 : decode prog_71_method_6_code 65 = .ok (.ifCond .ge 10, 3) := by decide +kernel
theorem d8_68 : decode prog_71_method_6_code 68 = .ok (.iload 5, 2) := by decide +kernel
theorem d8_70 : decode prog_71_method_6_code 70 = .ok (.istore 4, 2) := by decide +kernel
theorem d8_72 : decode prog_71_method_6_code 72 = .ok (.goto 9, 3) := by decide +kernel
theorem d8_75 : decode prog_71_method_6_code 75 = .ok (.iinc 5 4, 3) := by decide +kernel
theorem d8_78 : decode prog_71_method_6_code 78 = .ok (.goto (-66), 3) := by decide +kernel
theorem d8_81 : decode prog_71_method_6_code 81 = .ok (.iload 4, 2) := by decide +kernel
theorem d8_83 : decode prog_71_method_6_code 83 = .ok (.ireturn, 1) := by decide +kernel
theorem pn_8 : plainName "com/example/plyward/plyward/search/TranspositionTable" = true := by first | (simp [plainName, overriddenIn]; done) | decide +kernel
theorem ef_8 (m : MethodId) (a0 : Addr) (q1 : Int64) : entryFrame m #[(.ref a0), (.long q1)] 8 = mkF m 0 #[.val (.ref a0), .val (.long q1), .second, .unset, .unset, .unset, .unset, .unset] [] := by first | (simp [entryFrame, mkF, argsToLocals, Value.category]; done) | rfl
theorem ob_8_18 (fn_f_a0_entries : Nat → Int64) (q1 : Int64) (f_a0_settledSince : Int64) (f_a0_generation : Int64) (v4 : Int64) (v12 : Int64) (hv4 : ((fn_f_a0_entries 3) &&& (2147483647 : Int64)) = v4) (c7 : (fn_f_a0_entries 0) = q1) (c9 : v4 < f_a0_settledSince) (hv12 : ((fn_f_a0_entries 7) &&& (2147483647 : Int64)) = v12) (c15 : (fn_f_a0_entries 4) = q1) (c17 : v12 < f_a0_settledSince) : own_earlier fn_f_a0_entries q1 f_a0_generation f_a0_settledSince (-1 : Int32) := by
  simp only [own_earlier, own_early]
  grind
theorem ob_8_19 (fn_f_a0_entries : Nat → Int64) (q1 : Int64) (f_a0_settledSince : Int64) (f_a0_generation : Int64) (v4 : Int64) (v12 : Int64) (hv4 : ((fn_f_a0_entries 3) &&& (2147483647 : Int64)) = v4) (c7 : (fn_f_a0_entries 0) = q1) (c9 : v4 < f_a0_settledSince) (hv12 : ((fn_f_a0_entries 7) &&& (2147483647 : Int64)) = v12) (c15 : (fn_f_a0_entries 4) = q1) (c17 : ¬ (v12 < f_a0_settledSince)) (c19 : v12 < f_a0_generation) : own_earlier fn_f_a0_entries q1 f_a0_generation f_a0_settledSince (4 : Int32) := by
  simp only [own_earlier, own_early]
  grind
theorem ob_8_20 (fn_f_a0_entries : Nat → Int64) (q1 : Int64) (f_a0_settledSince : Int64) (f_a0_generation : Int64) (v4 : Int64) (v12 : Int64) (hv4 : ((fn_f_a0_entries 3) &&& (2147483647 : Int64)) = v4) (c7 : (fn_f_a0_entries 0) = q1) (c9 : v4 < f_a0_settledSince) (hv12 : ((fn_f_a0_entries 7) &&& (2147483647 : Int64)) = v12) (c15 : (fn_f_a0_entries 4) = q1) (c17 : ¬ (v12 < f_a0_settledSince)) (c19 : ¬ (v12 < f_a0_generation)) : own_earlier fn_f_a0_entries q1 f_a0_generation f_a0_settledSince (-1 : Int32) := by
  simp only [own_earlier, own_early]
  grind
theorem ob_8_21 (fn_f_a0_entries : Nat → Int64) (q1 : Int64) (f_a0_settledSince : Int64) (f_a0_generation : Int64) (v4 : Int64) (v12 : Int64) (hv4 : ((fn_f_a0_entries 3) &&& (2147483647 : Int64)) = v4) (c7 : (fn_f_a0_entries 0) = q1) (c9 : v4 < f_a0_settledSince) (hv12 : ((fn_f_a0_entries 7) &&& (2147483647 : Int64)) = v12) (c15 : ¬ ((fn_f_a0_entries 4) = q1)) : own_earlier fn_f_a0_entries q1 f_a0_generation f_a0_settledSince (-1 : Int32) := by
  simp only [own_earlier, own_early]
  grind
theorem ob_8_22 (fn_f_a0_entries : Nat → Int64) (q1 : Int64) (f_a0_settledSince : Int64) (f_a0_generation : Int64) (v4 : Int64) (hv4 : ((fn_f_a0_entries 3) &&& (2147483647 : Int64)) = v4) (c7 : (fn_f_a0_entries 0) = q1) (c9 : ¬ (v4 < f_a0_settledSince)) (c21 : v4 < f_a0_generation) : own_earlier fn_f_a0_entries q1 f_a0_generation f_a0_settledSince (0 : Int32) := by
  simp only [own_earlier, own_early]
  grind
theorem ob_8_23 (fn_f_a0_entries : Nat → Int64) (q1 : Int64) (f_a0_settledSince : Int64) (f_a0_generation : Int64) (v4 : Int64) (v24 : Int64) (hv4 : ((fn_f_a0_entries 3) &&& (2147483647 : Int64)) = v4) (c7 : (fn_f_a0_entries 0) = q1) (c9 : ¬ (v4 < f_a0_settledSince)) (c21 : ¬ (v4 < f_a0_generation)) (hv24 : ((fn_f_a0_entries 7) &&& (2147483647 : Int64)) = v24) (c27 : (fn_f_a0_entries 4) = q1) (c29 : v24 < f_a0_settledSince) : own_earlier fn_f_a0_entries q1 f_a0_generation f_a0_settledSince (-1 : Int32) := by
  simp only [own_earlier, own_early]
  grind
theorem ob_8_24 (fn_f_a0_entries : Nat → Int64) (q1 : Int64) (f_a0_settledSince : Int64) (f_a0_generation : Int64) (v4 : Int64) (v24 : Int64) (hv4 : ((fn_f_a0_entries 3) &&& (2147483647 : Int64)) = v4) (c7 : (fn_f_a0_entries 0) = q1) (c9 : ¬ (v4 < f_a0_settledSince)) (c21 : ¬ (v4 < f_a0_generation)) (hv24 : ((fn_f_a0_entries 7) &&& (2147483647 : Int64)) = v24) (c27 : (fn_f_a0_entries 4) = q1) (c29 : ¬ (v24 < f_a0_settledSince)) (c31 : v24 < f_a0_generation) : own_earlier fn_f_a0_entries q1 f_a0_generation f_a0_settledSince (4 : Int32) := by
  simp only [own_earlier, own_early]
  grind
theorem ob_8_25 (fn_f_a0_entries : Nat → Int64) (q1 : Int64) (f_a0_settledSince : Int64) (f_a0_generation : Int64) (v4 : Int64) (v24 : Int64) (hv4 : ((fn_f_a0_entries 3) &&& (2147483647 : Int64)) = v4) (c7 : (fn_f_a0_entries 0) = q1) (c9 : ¬ (v4 < f_a0_settledSince)) (c21 : ¬ (v4 < f_a0_generation)) (hv24 : ((fn_f_a0_entries 7) &&& (2147483647 : Int64)) = v24) (c27 : (fn_f_a0_entries 4) = q1) (c29 : ¬ (v24 < f_a0_settledSince)) (c31 : ¬ (v24 < f_a0_generation)) : own_earlier fn_f_a0_entries q1 f_a0_generation f_a0_settledSince (-1 : Int32) := by
  simp only [own_earlier, own_early]
  grind
theorem ob_8_26 (fn_f_a0_entries : Nat → Int64) (q1 : Int64) (f_a0_settledSince : Int64) (f_a0_generation : Int64) (v4 : Int64) (v24 : Int64) (hv4 : ((fn_f_a0_entries 3) &&& (2147483647 : Int64)) = v4) (c7 : (fn_f_a0_entries 0) = q1) (c9 : ¬ (v4 < f_a0_settledSince)) (c21 : ¬ (v4 < f_a0_generation)) (hv24 : ((fn_f_a0_entries 7) &&& (2147483647 : Int64)) = v24) (c27 : ¬ ((fn_f_a0_entries 4) = q1)) : own_earlier fn_f_a0_entries q1 f_a0_generation f_a0_settledSince (-1 : Int32) := by
  simp only [own_earlier, own_early]
  grind
theorem ob_8_27 (fn_f_a0_entries : Nat → Int64) (q1 : Int64) (f_a0_settledSince : Int64) (f_a0_generation : Int64) (v4 : Int64) (v34 : Int64) (hv4 : ((fn_f_a0_entries 3) &&& (2147483647 : Int64)) = v4) (c7 : ¬ ((fn_f_a0_entries 0) = q1)) (hv34 : ((fn_f_a0_entries 7) &&& (2147483647 : Int64)) = v34) (c37 : (fn_f_a0_entries 4) = q1) (c39 : v34 < f_a0_settledSince) : own_earlier fn_f_a0_entries q1 f_a0_generation f_a0_settledSince (-1 : Int32) := by
  simp only [own_earlier, own_early]
  grind
theorem ob_8_28 (fn_f_a0_entries : Nat → Int64) (q1 : Int64) (f_a0_settledSince : Int64) (f_a0_generation : Int64) (v4 : Int64) (v34 : Int64) (hv4 : ((fn_f_a0_entries 3) &&& (2147483647 : Int64)) = v4) (c7 : ¬ ((fn_f_a0_entries 0) = q1)) (hv34 : ((fn_f_a0_entries 7) &&& (2147483647 : Int64)) = v34) (c37 : (fn_f_a0_entries 4) = q1) (c39 : ¬ (v34 < f_a0_settledSince)) (c41 : v34 < f_a0_generation) : own_earlier fn_f_a0_entries q1 f_a0_generation f_a0_settledSince (4 : Int32) := by
  simp only [own_earlier, own_early]
  grind
theorem ob_8_29 (fn_f_a0_entries : Nat → Int64) (q1 : Int64) (f_a0_settledSince : Int64) (f_a0_generation : Int64) (v4 : Int64) (v34 : Int64) (hv4 : ((fn_f_a0_entries 3) &&& (2147483647 : Int64)) = v4) (c7 : ¬ ((fn_f_a0_entries 0) = q1)) (hv34 : ((fn_f_a0_entries 7) &&& (2147483647 : Int64)) = v34) (c37 : (fn_f_a0_entries 4) = q1) (c39 : ¬ (v34 < f_a0_settledSince)) (c41 : ¬ (v34 < f_a0_generation)) : own_earlier fn_f_a0_entries q1 f_a0_generation f_a0_settledSince (-1 : Int32) := by
  simp only [own_earlier, own_early]
  grind
theorem ob_8_30 (fn_f_a0_entries : Nat → Int64) (q1 : Int64) (f_a0_settledSince : Int64) (f_a0_generation : Int64) (v4 : Int64) (v34 : Int64) (hv4 : ((fn_f_a0_entries 3) &&& (2147483647 : Int64)) = v4) (c7 : ¬ ((fn_f_a0_entries 0) = q1)) (hv34 : ((fn_f_a0_entries 7) &&& (2147483647 : Int64)) = v34) (c37 : ¬ ((fn_f_a0_entries 4) = q1)) : own_earlier fn_f_a0_entries q1 f_a0_generation f_a0_settledSince (-1 : Int32) := by
  simp only [own_earlier, own_early]
  grind
def Q8 (Z : State) (f_a0_entries : Addr) (k_f_a0_entries : ClassId) (fn_f_a0_entries : Nat → Int64) (a0 : Addr) (q1 : Int64) (f_a0_settledSince : Int64) (f_a0_generation : Int64) (h0 : Heap) (n0 : Nat) (v : Option Value) (h : Heap) (L : List Loc) : Prop := ∃ (zz : Int32), v = some (.int zz) ∧ Fr n0 L ∧ h = h0 ∧ (own_earlier fn_f_a0_entries q1 f_a0_generation f_a0_settledSince zz)
set_option maxRecDepth 65536 in
set_option maxHeartbeats 40000000 in
theorem rm8 (l : Launch) (Z : State) (A0 : Array Value) (hw : ∀ d ∈ tables_1, d.before A0 Z = true) (ws : List Jvm.Cond) (f_a0_entries : Addr) (k_f_a0_entries : ClassId) (fn_f_a0_entries : Nat → Int64) (a0 : Addr) (q1 : Int64) (f_a0_settledSince : Int64) (f_a0_generation : Int64) (h0 : Heap) (n0 : Nat) (Z0 : n0 ≤ h0.size) (P_F_a0_entries : Fld Z h0 a0 "com/example/plyward/plyward/search/TranspositionTable" "entries" "[J" (.ref f_a0_entries)) (P_V_f_a0_entries : own_Arf Z h0 f_a0_entries k_f_a0_entries .long (8 : Int32) (fun i => .long (fn_f_a0_entries i))) (P_F_a0_shift : Fld Z h0 a0 "com/example/plyward/plyward/search/TranspositionTable" "shift" "I" (.int (63 : Int32))) (P_E_a0 : Exa Z h0 a0 "com/example/plyward/plyward/search/TranspositionTable") (P_F_a0_settledSince : Fld Z h0 a0 "com/example/plyward/plyward/search/TranspositionTable" "settledSince" "J" (.long f_a0_settledSince)) (P_F_a0_generation : Fld Z h0 a0 "com/example/plyward/plyward/search/TranspositionTable" "generation" "J" (.long f_a0_generation)) :
    MetFree l (⟨"com/example/plyward/plyward/search/TranspositionTable", "earlier", "(J)I"⟩ : MethodName) (head1 (Jvm.Cond.code (⟨"com/example/plyward/plyward/search/TranspositionTable", "earlier", "(J)I"⟩ : MethodName) prog_71_method_6_code 8 (some .int) :: ws) ({ frames := 1, cells := 0, slots := 0, locals := 15 } : Room)) (fun a U => a = #[(.ref a0), (.long q1)] ∧ Z.Warmed39 U.vm ∧ U.heap = h0) (fun _ _ _ _ _ => True) (fun _ U o U' => ∃ v L, o = .returned v ∧ Q8 Z f_a0_entries k_f_a0_entries fn_f_a0_entries a0 q1 f_a0_settledSince f_a0_generation h0 n0 v U'.heap L ∧ FrameEnd U o U' L 0 0) := by
  refine MetFree.of_bodySF (plainFor_of_name pn_8) hisR ?_
  intro p e s m args below meth c s₁ Bd hml0 hP hK
  obtain ⟨rfl, hZ, hh⟩ := hP
  have hx := Bd.exec
  have hby := Bd.bytes
  have hml : c.maxLocals = 8 := hml0
  have hlk : meth.locks = false := Bd.notSynchronized
  have hown : s.vm.findClass "com/example/plyward/plyward/search/TranspositionTable" = some m.cls := findClass_of_methodNamed Bd.named
  have hnm := (name_of_methodNamed Bd.named Bd.method).1
  have X0 : Stand p l e ({ frames := 1, cells := 0, slots := 0, locals := 15 } : Room) s m #[(.ref a0), (.long q1)] below meth c s₁ [] 0 0 := Stand.of_body Bd
  have e0 : s₁.heap = h0 := by rw [← hh, Bd.state]; rfl
  have N0 := Fr.nil n0
  show own_Go p e below (own_Fin s 0 0 (Q8 Z f_a0_entries k_f_a0_entries fn_f_a0_entries a0 q1 f_a0_settledSince f_a0_generation h0 n0)) _
  refine own_by (fun t k => castTop (ef_8 m a0 q1) k) ?_
  show own_Go p e below _ (s₁.setTop (mkF m 0 #[.val (.ref a0), .val (.long q1), .second, .unset, .unset, .unset, .unset, .unset] []))
  refine own_by (fun _ k => XS.aloadN X0.here hx rfl (hb hby d8_0) rfl rfl k) ?_
  show own_Go p e below _ (s₁.setTop (mkF m 1 #[.val (.ref a0), .val (.long q1), .second, .unset, .unset, .unset, .unset, .unset] [(.ref a0)]))
  refine own_by (fun _ k => XS.lloadN X0.here hx rfl (hb hby d8_1) rfl k) ?_
  show own_Go p e below _ (s₁.setTop (mkF m 2 #[.val (.ref a0), .val (.long q1), .second, .unset, .unset, .unset, .unset, .unset] [(.long q1), (.ref a0)]))
  obtain ⟨cq1, qq1, qq1'⟩ := P_E_a0.cell
  obtain ⟨_, _, ⟨T1, L1, k1, n1⟩, -, X1, ⟨Lc1, hQ1, l1, y1, z1⟩, st1⟩ := X0.privateBack hx (y := (⟨"com/example/plyward/plyward/search/TranspositionTable", "bucket", "(J)I"⟩ : MethodName)) hown (mvT hZ (hw _ (List.mem_of_getElem? (i := 25) rfl))) (mvT hZ (hw _ (List.mem_of_getElem? (i := 26) rfl))) (own_selPriv hZ (hw _ (List.mem_of_getElem? (i := 2) rfl)) (hw _ (List.mem_of_getElem? (i := 27) rfl)) (hw _ (List.mem_of_getElem? (i := 26) rfl)) (by decide)) (Cond.privateMethod_at (mvP hZ (hw _ (List.mem_of_getElem? (i := 27) rfl)) (args := #[]))) (mvT hZ (hw _ (List.mem_of_getElem? (i := 28) rfl))) (by decide) (backOf (W := 0) (rm4 l Z A0 hw [] a0 q1 h0 n0 Z0 P_F_a0_shift) hZ (hw _ (List.mem_of_getElem? (i := 28) rfl)) (hw _ (List.mem_of_getElem? (i := 3) rfl)) (by decide) (by decide)) (g := (mkF m 2 #[.val (.ref a0), .val (.long q1), .second, .unset, .unset, .unset, .unset, .unset] [(.long q1), (.ref a0)])) rfl (by rw [hml]; rfl) (Steps.refl _) (a := a0) (by rw [e0]; exact qq1) qq1' (argsL := [(.long q1)]) (rest := []) (lenOf pd_25 rfl) rfl (by show 2 * 0 + _ ≤ _; exact Nat.le_of_eq rfl) (hb hby d8_2) (fun _ _ => ⟨rfl, e0, (by decide : 0 + 0 ≤ _), (by decide : 0 + 0 ≤ _)⟩)
  dsimp only [Pt.U, Pt.locs, Pt.cells, Pt.slots] at X1 l1 y1 z1 st1 hQ1
  subst l1 y1 z1
  obtain ⟨rfl, Nq1, eq1⟩ := hQ1
  have N1 := Fr.app N0 Nq1
  refine own_by (fun _ k => st1.trans k) ?_
  show own_Go p e below _ (T1.setTop (mkF m 5 #[.val (.ref a0), .val (.long q1), .second, .unset, .unset, .unset, .unset, .unset] [(.int (0 : Int32))]))
  refine own_by (fun _ k => XS.istoreN X1.here hx rfl (hb hby d8_5) rfl (l' := #[.val (.ref a0), .val (.long q1), .second, .val (.int (0 : Int32)), .unset, .unset, .unset, .unset]) rfl k) ?_
  show own_Go p e below _ (T1.setTop (mkF m 6 #[.val (.ref a0), .val (.long q1), .second, .val (.int (0 : Int32)), .unset, .unset, .unset, .unset] []))
  refine own_by (fun _ k => XS.iconst X1.here hx rfl (hb hby d8_6) k) ?_
  show own_Go p e below _ (T1.setTop (mkF m 7 #[.val (.ref a0), .val (.long q1), .second, .val (.int (0 : Int32)), .unset, .unset, .unset, .unset] [(.int (-1 : Int32))]))
  refine own_by (fun _ k => XS.istore X1.here hx rfl (hb hby d8_7) rfl (l' := #[.val (.ref a0), .val (.long q1), .second, .val (.int (0 : Int32)), .val (.int (-1 : Int32)), .unset, .unset, .unset]) rfl k) ?_
  show own_Go p e below _ (T1.setTop (mkF m 9 #[.val (.ref a0), .val (.long q1), .second, .val (.int (0 : Int32)), .val (.int (-1 : Int32)), .unset, .unset, .unset] []))
  refine own_by (fun _ k => XS.iloadN X1.here hx rfl (hb hby d8_9) rfl k) ?_
  show own_Go p e below _ (T1.setTop (mkF m 10 #[.val (.ref a0), .val (.long q1), .second, .val (.int (0 : Int32)), .val (.int (-1 : Int32)), .unset, .unset, .unset] [(.int (0 : Int32))]))
  refine own_by (fun _ k => XS.istore X1.here hx rfl (hb hby d8_10) rfl (l' := #[.val (.ref a0), .val (.long q1), .second, .val (.int (0 : Int32)), .val (.int (-1 : Int32)), .val (.int (0 : Int32)), .unset, .unset]) rfl k) ?_
  show own_Go p e below _ (T1.setTop (mkF m 12 #[.val (.ref a0), .val (.long q1), .second, .val (.int (0 : Int32)), .val (.int (-1 : Int32)), .val (.int (0 : Int32)), .unset, .unset] []))
  refine own_by (fun _ k => XS.iload X1.here hx rfl (hb hby d8_12) rfl k) ?_
  show own_Go p e below _ (T1.setTop (mkF m 14 #[.val (.ref a0), .val (.long q1), .second, .val (.int (0 : Int32)), .val (.int (-1 : Int32)), .val (.int (0 : Int32)), .unset, .unset] [(.int (0 : Int32))]))
  refine own_by (fun _ k => XS.iloadN X1.here hx rfl (hb hby d8_14) rfl k) ?_
  show own_Go p e below _ (T1.setTop (mkF m 15 #[.val (.ref a0), .val (.long q1), .second, .val (.int (0 : Int32)), .val (.int (-1 : Int32)), .val (.int (0 : Int32)), .unset, .unset] [(.int (0 : Int32)), (.int (0 : Int32))]))
  refine own_by (fun _ k => XS.bipush X1.here hx rfl (hb hby d8_15) k) ?_
  show own_Go p e below _ (T1.setTop (mkF m 17 #[.val (.ref a0), .val (.long q1), .second, .val (.int (0 : Int32)), .val (.int (-1 : Int32)), .val (.int (0 : Int32)), .unset, .unset] [(.int (8 : Int32)), (.int (0 : Int32)), (.int (0 : Int32))]))
  refine own_by (fun _ k => XS.iadd X1.here hx rfl (hb hby d8_17) rfl k) ?_
  show own_Go p e below _ (T1.setTop (mkF m 18 #[.val (.ref a0), .val (.long q1), .second, .val (.int (0 : Int32)), .val (.int (-1 : Int32)), .val (.int (0 : Int32)), .unset, .unset] [(.int (8 : Int32)), (.int (0 : Int32))]))
  refine own_by (fun _ k => XS.icmpNo X1.here hx rfl (hb hby d8_18) rfl (tlt (by decide : (0 : Int32) < (8 : Int32))).2.1 k) ?_
  show own_Go p e below _ (T1.setTop (mkF m 21 #[.val (.ref a0), .val (.long q1), .second, .val (.int (0 : Int32)), .val (.int (-1 : Int32)), .val (.int (0 : Int32)), .unset, .unset] []))
  refine own_by (fun _ k => XS.aloadN X1.here hx rfl (hb hby d8_21) rfl rfl k) ?_
  show own_Go p e below _ (T1.setTop (mkF m 22 #[.val (.ref a0), .val (.long q1), .second, .val (.int (0 : Int32)), .val (.int (-1 : Int32)), .val (.int (0 : Int32)), .unset, .unset] [(.ref a0)]))
  obtain ⟨T2, X2, e2, st2⟩ := getF X1 hx hZ hown (host := "") (Or.inl (hw _ (List.mem_of_getElem? (i := 15) rfl))) Via.refl eq1 P_F_a0_entries (g := (mkF m 22 #[.val (.ref a0), .val (.long q1), .second, .val (.int (0 : Int32)), .val (.int (-1 : Int32)), .val (.int (0 : Int32)), .unset, .unset] [(.ref a0)])) rfl rfl (hb hby d8_22)
  refine own_by st2 ?_
  show own_Go p e below _ (T2.setTop (mkF m 25 #[.val (.ref a0), .val (.long q1), .second, .val (.int (0 : Int32)), .val (.int (-1 : Int32)), .val (.int (0 : Int32)), .unset, .unset] [(.ref f_a0_entries)]))
  refine own_by (fun _ k => XS.iload X2.here hx rfl (hb hby d8_25) rfl k) ?_
  show own_Go p e below _ (T2.setTop (mkF m 27 #[.val (.ref a0), .val (.long q1), .second, .val (.int (0 : Int32)), .val (.int (-1 : Int32)), .val (.int (0 : Int32)), .unset, .unset] [(.int (0 : Int32)), (.ref f_a0_entries)]))
  refine own_by (fun _ k => XS.iconst X2.here hx rfl (hb hby d8_27) k) ?_
  show own_Go p e below _ (T2.setTop (mkF m 28 #[.val (.ref a0), .val (.long q1), .second, .val (.int (0 : Int32)), .val (.int (-1 : Int32)), .val (.int (0 : Int32)), .unset, .unset] [(.int (3 : Int32)), (.int (0 : Int32)), (.ref f_a0_entries)]))
  refine own_by (fun _ k => XS.iadd X2.here hx rfl (hb hby d8_28) rfl k) ?_
  show own_Go p e below _ (T2.setTop (mkF m 29 #[.val (.ref a0), .val (.long q1), .second, .val (.int (0 : Int32)), .val (.int (-1 : Int32)), .val (.int (0 : Int32)), .unset, .unset] [(.int (3 : Int32)), (.ref f_a0_entries)]))
  obtain ⟨cl3, Ar3, qq3, S3, M3, H3, G3⟩ := id P_V_f_a0_entries
  have hin3 : ¬ ((3 : Int32) < 0 ∨ cl3.slots.size ≤ ((3 : Int32)).toNatClampNeg) := inb_of S3 ⟨by decide, by decide⟩
  refine own_by (fun t k => X2.laload hx (j := (3 : Int32)) (v := (.long (fn_f_a0_entries 3))) (by rw [e2]; exact Ar3.1) (State.isArrayOf_alike hZ.alike Ar3.2.1) Ar3.2.2 hin3 (H3 _ (Nat.lt_of_not_le fun y => hin3 (Or.inr y))) (g := (mkF m 29 #[.val (.ref a0), .val (.long q1), .second, .val (.int (0 : Int32)), .val (.int (-1 : Int32)), .val (.int (0 : Int32)), .unset, .unset] [(.int (3 : Int32)), (.ref f_a0_entries)])) rfl rfl (hb hby d8_29) _ k) ?_
  show own_Go p e below _ (T2.setTop (mkF m 30 #[.val (.ref a0), .val (.long q1), .second, .val (.int (0 : Int32)), .val (.int (-1 : Int32)), .val (.int (0 : Int32)), .unset, .unset] [(.long (fn_f_a0_entries 3))]))
  refine own_by (fun t k => X2.ldc2Long hx hown (mvT hZ (hw _ (List.mem_of_getElem? (i := 52) rfl))) (g := (mkF m 30 #[.val (.ref a0), .val (.long q1), .second, .val (.int (0 : Int32)), .val (.int (-1 : Int32)), .val (.int (0 : Int32)), .unset, .unset] [(.long (fn_f_a0_entries 3))])) rfl (hb hby d8_30) _ k) ?_
  show own_Go p e below _ (T2.setTop (mkF m 33 #[.val (.ref a0), .val (.long q1), .second, .val (.int (0 : Int32)), .val (.int (-1 : Int32)), .val (.int (0 : Int32)), .unset, .unset] [(.long (2147483647 : Int64)), (.long (fn_f_a0_entries 3))]))
  refine own_by (fun _ k => XS.land X2.here hx rfl (hb hby d8_33) rfl k) ?_
  show own_Go p e below _ (T2.setTop (mkF m 34 #[.val (.ref a0), .val (.long q1), .second, .val (.int (0 : Int32)), .val (.int (-1 : Int32)), .val (.int (0 : Int32)), .unset, .unset] [(.long ((fn_f_a0_entries 3) &&& (2147483647 : Int64)))]))
  refine own_by (fun _ k => XS.lstore X2.here hx rfl (hb hby d8_34) rfl (l' := #[.val (.ref a0), .val (.long q1), .second, .val (.int (0 : Int32)), .val (.int (-1 : Int32)), .val (.int (0 : Int32)), .val (.long ((fn_f_a0_entries 3) &&& (2147483647 : Int64))), .second]) rfl k) ?_
  show own_Go p e below _ (T2.setTop (mkF m 36 #[.val (.ref a0), .val (.long q1), .second, .val (.int (0 : Int32)), .val (.int (-1 : Int32)), .val (.int (0 : Int32)), .val (.long ((fn_f_a0_entries 3) &&& (2147483647 : Int64))), .second] []))
  generalize hv4 : ((fn_f_a0_entries 3) &&& (2147483647 : Int64)) = v4
  show own_Go p e below _ (T2.setTop (mkF m 36 #[.val (.ref a0), .val (.long q1), .second, .val (.int (0 : Int32)), .val (.int (-1 : Int32)), .val (.int (0 : Int32)), .val (.long v4), .second] []))
  refine own_by (fun _ k => XS.aloadN X2.here hx rfl (hb hby d8_36) rfl rfl k) ?_
  show own_Go p e below _ (T2.setTop (mkF m 37 #[.val (.ref a0), .val (.long q1), .second, .val (.int (0 : Int32)), .val (.int (-1 : Int32)), .val (.int (0 : Int32)), .val (.long v4), .second] [(.ref a0)]))
  obtain ⟨T5, X5, e5, st5⟩ := getF X2 hx hZ hown (host := "") (Or.inl (hw _ (List.mem_of_getElem? (i := 15) rfl))) Via.refl e2 P_F_a0_entries (g := (mkF m 37 #[.val (.ref a0), .val (.long q1), .second, .val (.int (0 : Int32)), .val (.int (-1 : Int32)), .val (.int (0 : Int32)), .val (.long v4), .second] [(.ref a0)])) rfl rfl (hb hby d8_37)
  refine own_by st5 ?_
  show own_Go p e below _ (T5.setTop (mkF m 40 #[.val (.ref a0), .val (.long q1), .second, .val (.int (0 : Int32)), .val (.int (-1 : Int32)), .val (.int (0 : Int32)), .val (.long v4), .second] [(.ref f_a0_entries)]))
  refine own_by (fun _ k => XS.iload X5.here hx rfl (hb hby d8_40) rfl k) ?_
  show own_Go p e below _ (T5.setTop (mkF m 42 #[.val (.ref a0), .val (.long q1), .second, .val (.int (0 : Int32)), .val (.int (-1 : Int32)), .val (.int (0 : Int32)), .val (.long v4), .second] [(.int (0 : Int32)), (.ref f_a0_entries)]))
  obtain ⟨cl6, Ar6, qq6, S6, M6, H6, G6⟩ := id P_V_f_a0_entries
  have hin6 : ¬ ((0 : Int32) < 0 ∨ cl6.slots.size ≤ ((0 : Int32)).toNatClampNeg) := inb_of S6 ⟨by decide, by decide⟩
  refine own_by (fun t k => X5.laload hx (j := (0 : Int32)) (v := (.long (fn_f_a0_entries 0))) (by rw [e5]; exact Ar6.1) (State.isArrayOf_alike hZ.alike Ar6.2.1) Ar6.2.2 hin6 (H6 _ (Nat.lt_of_not_le fun y => hin6 (Or.inr y))) (g := (mkF m 42 #[.val (.ref a0), .val (.long q1), .second, .val (.int (0 : Int32)), .val (.int (-1 : Int32)), .val (.int (0 : Int32)), .val (.long v4), .second] [(.int (0 : Int32)), (.ref f_a0_entries)])) rfl rfl (hb hby d8_42) _ k) ?_
  show own_Go p e below _ (T5.setTop (mkF m 43 #[.val (.ref a0), .val (.long q1), .second, .val (.int (0 : Int32)), .val (.int (-1 : Int32)), .val (.int (0 : Int32)), .val (.long v4), .second] [(.long (fn_f_a0_entries 0))]))
  refine own_by (fun _ k => XS.lloadN X5.here hx rfl (hb hby d8_43) rfl k) ?_
  show own_Go p e below _ (T5.setTop (mkF m 44 #[.val (.ref a0), .val (.long q1), .second, .val (.int (0 : Int32)), .val (.int (-1 : Int32)), .val (.int (0 : Int32)), .val (.long v4), .second] [(.long q1), (.long (fn_f_a0_entries 0))]))
  refine own_by (fun _ k => XS.lcmp X5.here hx rfl (hb hby d8_44) rfl k) ?_
  show own_Go p e below _ (T5.setTop (mkF m 45 #[.val (.ref a0), .val (.long q1), .second, .val (.int (0 : Int32)), .val (.int (-1 : Int32)), .val (.int (0 : Int32)), .val (.long v4), .second] [(.int (lcmpW (fn_f_a0_entries 0) q1))]))
  by_cases c7 : (fn_f_a0_entries 0) = q1
  · skip
    refine own_by (fun _ k => XS.ifNo X5.here hx rfl (hb hby d8_45) rfl ((if0 _ _).trans (teq ((lw_eq _ _).mpr c7)).2) k) ?_
    show own_Go p e below _ (T5.setTop (mkF m 48 #[.val (.ref a0), .val (.long q1), .second, .val (.int (0 : Int32)), .val (.int (-1 : Int32)), .val (.int (0 : Int32)), .val (.long v4), .second] []))
    refine own_by (fun _ k => XS.lload X5.here hx rfl (hb hby d8_48) rfl k) ?_
    show own_Go p e below _ (T5.setTop (mkF m 50 #[.val (.ref a0), .val (.long q1), .second, .val (.int (0 : Int32)), .val (.int (-1 : Int32)), .val (.int (0 : Int32)), .val (.long v4), .second] [(.long v4)]))
    refine own_by (fun _ k => XS.aloadN X5.here hx rfl (hb hby d8_50) rfl rfl k) ?_
    show own_Go p e below _ (T5.setTop (mkF m 51 #[.val (.ref a0), .val (.long q1), .second, .val (.int (0 : Int32)), .val (.int (-1 : Int32)), .val (.int (0 : Int32)), .val (.long v4), .second] [(.ref a0), (.long v4)]))
    obtain ⟨T8, X8, e8, st8⟩ := getF X5 hx hZ hown (host := "") (Or.inl (hw _ (List.mem_of_getElem? (i := 12) rfl))) Via.refl e5 P_F_a0_settledSince (g := (mkF m 51 #[.val (.ref a0), .val (.long q1), .second, .val (.int (0 : Int32)), .val (.int (-1 : Int32)), .val (.int (0 : Int32)), .val (.long v4), .second] [(.ref a0), (.long v4)])) rfl rfl (hb hby d8_51)
    refine own_by st8 ?_
    show own_Go p e below _ (T8.setTop (mkF m 54 #[.val (.ref a0), .val (.long q1), .second, .val (.int (0 : Int32)), .val (.int (-1 : Int32)), .val (.int (0 : Int32)), .val (.long v4), .second] [(.long f_a0_settledSince), (.long v4)]))
    refine own_by (fun _ k => XS.lcmp X8.here hx rfl (hb hby d8_54) rfl k) ?_
    show own_Go p e below _ (T8.setTop (mkF m 55 #[.val (.ref a0), .val (.long q1), .second, .val (.int (0 : Int32)), .val (.int (-1 : Int32)), .val (.int (0 : Int32)), .val (.long v4), .second] [(.int (lcmpW v4 f_a0_settledSince))]))
    by_cases c9 : v4 < f_a0_settledSince
    · skip
      refine own_by (fun _ k => XS.ifYes X8.here hx rfl (pc0 := 55) (pc' := 75) rfl (hb hby d8_55) rfl ((if0 _ _).trans (tlt ((lw_lt _ _).mpr c9)).1) (by decide) (by decide) k) ?_
      show own_Go p e below _ (T8.setTop (mkF m 75 #[.val (.ref a0), .val (.long q1), .second, .val (.int (0 : Int32)), .val (.int (-1 : Int32)), .val (.int (0 : Int32)), .val (.long v4), .second] []))
      refine own_by (fun _ k => XS.iinc X8.here hx rfl (hb hby d8_75) rfl (l' := #[.val (.ref a0), .val (.long q1), .second, .val (.int (0 : Int32)), .val (.int (-1 : Int32)), .val (.int (4 : Int32)), .val (.long v4), .second]) rfl k) ?_
      show own_Go p e below _ (T8.setTop (mkF m 78 #[.val (.ref a0), .val (.long q1), .second, .val (.int (0 : Int32)), .val (.int (-1 : Int32)), .val (.int (4 : Int32)), .val (.long v4), .second] []))
      refine own_by (fun _ k => XS.goto X8.here hx rfl (pc0 := 78) (pc' := 12) rfl (hb hby d8_78) (by decide) (by decide) k) ?_
      show own_Go p e below _ (T8.setTop (mkF m 12 #[.val (.ref a0), .val (.long q1), .second, .val (.int (0 : Int32)), .val (.int (-1 : Int32)), .val (.int (4 : Int32)), .val (.long v4), .second] []))
      refine own_by (fun _ k => XS.iload X8.here hx rfl (hb hby d8_12) rfl k) ?_
      show own_Go p e below _ (T8.setTop (mkF m 14 #[.val (.ref a0), .val (.long q1), .second, .val (.int (0 : Int32)), .val (.int (-1 : Int32)), .val (.int (4 : Int32)), .val (.long v4), .second] [(.int (4 : Int32))]))
      refine own_by (fun _ k => XS.iloadN X8.here hx rfl (hb hby d8_14) rfl k) ?_
      show own_Go p e below _ (T8.setTop (mkF m 15 #[.val (.ref a0), .val (.long q1), .second, .val (.int (0 : Int32)), .val (.int (-1 : Int32)), .val (.int (4 : Int32)), .val (.long v4), .second] [(.int (0 : Int32)), (.int (4 : Int32))]))
      refine own_by (fun _ k => XS.bipush X8.here hx rfl (hb hby d8_15) k) ?_
      show own_Go p e below _ (T8.setTop (mkF m 17 #[.val (.ref a0), .val (.long q1), .second, .val (.int (0 : Int32)), .val (.int (-1 : Int32)), .val (.int (4 : Int32)), .val (.long v4), .second] [(.int (8 : Int32)), (.int (0 : Int32)), (.int (4 : Int32))]))
      refine own_by (fun _ k => XS.iadd X8.here hx rfl (hb hby d8_17) rfl k) ?_
      show own_Go p e below _ (T8.setTop (mkF m 18 #[.val (.ref a0), .val (.long q1), .second, .val (.int (0 : Int32)), .val (.int (-1 : Int32)), .val (.int (4 : Int32)), .val (.long v4), .second] [(.int (8 : Int32)), (.int (4 : Int32))]))
      refine own_by (fun _ k => XS.icmpNo X8.here hx rfl (hb hby d8_18) rfl (tlt (by decide : (4 : Int32) < (8 : Int32))).2.1 k) ?_
      show own_Go p e below _ (T8.setTop (mkF m 21 #[.val (.ref a0), .val (.long q1), .second, .val (.int (0 : Int32)), .val (.int (-1 : Int32)), .val (.int (4 : Int32)), .val (.long v4), .second] []))
      refine own_by (fun _ k => XS.aloadN X8.here hx rfl (hb hby d8_21) rfl rfl k) ?_
      show own_Go p e below _ (T8.setTop (mkF m 22 #[.val (.ref a0), .val (.long q1), .second, .val (.int (0 : Int32)), .val (.int (-1 : Int32)), .val (.int (4 : Int32)), .val (.long v4), .second] [(.ref a0)]))
      obtain ⟨T10, X10, e10, st10⟩ := getF X8 hx hZ hown (host := "") (Or.inl (hw _ (List.mem_of_getElem? (i := 15) rfl))) Via.refl e8 P_F_a0_entries (g := (mkF m 22 #[.val (.ref a0), .val (.long q1), .second, .val (.int (0 : Int32)), .val (.int (-1 : Int32)), .val (.int (4 : Int32)), .val (.long v4), .second] [(.ref a0)])) rfl rfl (hb hby d8_22)
      refine own_by st10 ?_
      show own_Go p e below _ (T10.setTop (mkF m 25 #[.val (.ref a0), .val (.long q1), .second, .val (.int (0 : Int32)), .val (.int (-1 : Int32)), .val (.int (4 : Int32)), .val (.long v4), .second] [(.ref f_a0_entries)]))
      refine own_by (fun _ k => XS.iload X10.here hx rfl (hb hby d8_25) rfl k) ?_
      show own_Go p e below _ (T10.setTop (mkF m 27 #[.val (.ref a0), .val (.long q1), .second, .val (.int (0 : Int32)), .val (.int (-1 : Int32)), .val (.int (4 : Int32)), .val (.long v4), .second] [(.int (4 : Int32)), (.ref f_a0_entries)]))
      refine own_by (fun _ k => XS.iconst X10.here hx rfl (hb hby d8_27) k) ?_
      show own_Go p e below _ (T10.setTop (mkF m 28 #[.val (.ref a0), .val (.long q1), .second, .val (.int (0 : Int32)), .val (.int (-1 : Int32)), .val (.int (4 : Int32)), .val (.long v4), .second] [(.int (3 : Int32)), (.int (4 : Int32)), (.ref f_a0_entries)]))
      refine own_by (fun _ k => XS.iadd X10.here hx rfl (hb hby d8_28) rfl k) ?_
      show own_Go p e below _ (T10.setTop (mkF m 29 #[.val (.ref a0), .val (.long q1), .second, .val (.int (0 : Int32)), .val (.int (-1 : Int32)), .val (.int (4 : Int32)), .val (.long v4), .second] [(.int (7 : Int32)), (.ref f_a0_entries)]))
      obtain ⟨cl11, Ar11, qq11, S11, M11, H11, G11⟩ := id P_V_f_a0_entries
      have hin11 : ¬ ((7 : Int32) < 0 ∨ cl11.slots.size ≤ ((7 : Int32)).toNatClampNeg) := inb_of S11 ⟨by decide, by decide⟩
      refine own_by (fun t k => X10.laload hx (j := (7 : Int32)) (v := (.long (fn_f_a0_entries 7))) (by rw [e10]; exact Ar11.1) (State.isArrayOf_alike hZ.alike Ar11.2.1) Ar11.2.2 hin11 (H11 _ (Nat.lt_of_not_le fun y => hin11 (Or.inr y))) (g := (mkF m 29 #[.val (.ref a0), .val (.long q1), .second, .val (.int (0 : Int32)), .val (.int (-1 : Int32)), .val (.int (4 : Int32)), .val (.long v4), .second] [(.int (7 : Int32)), (.ref f_a0_entries)])) rfl rfl (hb hby d8_29) _ k) ?_
      show own_Go p e below _ (T10.setTop (mkF m 30 #[.val (.ref a0), .val (.long q1), .second, .val (.int (0 : Int32)), .val (.int (-1 : Int32)), .val (.int (4 : Int32)), .val (.long v4), .second] [(.long (fn_f_a0_entries 7))]))
      refine own_by (fun t k => X10.ldc2Long hx hown (mvT hZ (hw _ (List.mem_of_getElem? (i := 52) rfl))) (g := (mkF m 30 #[.val (.ref a0), .val (.long q1), .second, .val (.int (0 : Int32)), .val (.int (-1 : Int32)), .val (.int (4 : Int32)), .val (.long v4), .second] [(.long (fn_f_a0_entries 7))])) rfl (hb hby d8_30) _ k) ?_
      show own_Go p e below _ (T10.setTop (mkF m 33 #[.val (.ref a0), .val (.long q1), .second, .val (.int (0 : Int32)), .val (.int (-1 : Int32)), .val (.int (4 : Int32)), .val (.long v4), .second] [(.long (2147483647 : Int64)), (.long (fn_f_a0_entries 7))]))
      refine own_by (fun _ k => XS.land X10.here hx rfl (hb hby d8_33) rfl k) ?_
      show own_Go p e below _ (T10.setTop (mkF m 34 #[.val (.ref a0), .val (.long q1), .second, .val (.int (0 : Int32)), .val (.int (-1 : Int32)), .val (.int (4 : Int32)), .val (.long v4), .second] [(.long ((fn_f_a0_entries 7) &&& (2147483647 : Int64)))]))
      refine own_by (fun _ k => XS.lstore X10.here hx rfl (hb hby d8_34) rfl (l' := #[.val (.ref a0), .val (.long q1), .second, .val (.int (0 : Int32)), .val (.int (-1 : Int32)), .val (.int (4 : Int32)), .val (.long ((fn_f_a0_entries 7) &&& (2147483647 : Int64))), .second]) rfl k) ?_
      show own_Go p e below _ (T10.setTop (mkF m 36 #[.val (.ref a0), .val (.long q1), .second, .val (.int (0 : Int32)), .val (.int (-1 : Int32)), .val (.int (4 : Int32)), .val (.long ((fn_f_a0_entries 7) &&& (2147483647 : Int64))), .second] []))
      generalize hv12 : ((fn_f_a0_entries 7) &&& (2147483647 : Int64)) = v12
      show own_Go p e below _ (T10.setTop (mkF m 36 #[.val (.ref a0), .val (.long q1), .second, .val (.int (0 : Int32)), .val (.int (-1 : Int32)), .val (.int (4 : Int32)), .val (.long v12), .second] []))
      refine own_by (fun _ k => XS.aloadN X10.here hx rfl (hb hby d8_36) rfl rfl k) ?_
      show own_Go p e below _ (T10.setTop (mkF m 37 #[.val (.ref a0), .val (.long q1), .second, .val (.int (0 : Int32)), .val (.int (-1 : Int32)), .val (.int (4 : Int32)), .val (.long v12), .second] [(.ref a0)]))
      obtain ⟨T13, X13, e13, st13⟩ := getF X10 hx hZ hown (host := "") (Or.inl (hw _ (List.mem_of_getElem? (i := 15) rfl))) Via.refl e10 P_F_a0_entries (g := (mkF m 37 #[.val (.ref a0), .val (.long q1), .second, .val (.int (0 : Int32)), .val (.int (-1 : Int32)), .val (.int (4 : Int32)), .val (.long v12), .second] [(.ref a0)])) rfl rfl (hb hby d8_37)
      refine own_by st13 ?_
      show own_Go p e below _ (T13.setTop (mkF m 40 #[.val (.ref a0), .val (.long q1), .second, .val (.int (0 : Int32)), .val (.int (-1 : Int32)), .val (.int (4 : Int32)), .val (.long v12), .second] [(.ref f_a0_entries)]))
      refine own_by (fun _ k => XS.iload X13.here hx rfl (hb hby d8_40) rfl k) ?_
      show own_Go p e below _ (T13.setTop (mkF m 42 #[.val (.ref a0), .val (.long q1), .second, .val (.int (0 : Int32)), .val (.int (-1 : Int32)), .val (.int (4 : Int32)), .val (.long v12), .second] [(.int (4 : Int32)), (.ref f_a0_entries)]))
      obtain ⟨cl14, Ar14, qq14, S14, M14, H14, G14⟩ := id P_V_f_a0_entries
      have hin14 : ¬ ((4 : Int32) < 0 ∨ cl14.slots.size ≤ ((4 : Int32)).toNatClampNeg) := inb_of S14 ⟨by decide, by decide⟩
      refine own_by (fun t k => X13.laload hx (j := (4 : Int32)) (v := (.long (fn_f_a0_entries 4))) (by rw [e13]; exact Ar14.1) (State.isArrayOf_alike hZ.alike Ar14.2.1) Ar14.2.2 hin14 (H14 _ (Nat.lt_of_not_le fun y => hin14 (Or.inr y))) (g := (mkF m 42 #[.val (.ref a0), .val (.long q1), .second, .val (.int (0 : Int32)), .val (.int (-1 : Int32)), .val (.int (4 : Int32)), .val (.long v12), .second] [(.int (4 : Int32)), (.ref f_a0_entries)])) rfl rfl (hb hby d8_42) _ k) ?_
      show own_Go p e below _ (T13.setTop (mkF m 43 #[.val (.ref a0), .val (.long q1), .second, .val (.int (0 : Int32)), .val (.int (-1 : Int32)), .val (.int (4 : Int32)), .val (.long v12), .second] [(.long (fn_f_a0_entries 4))]))
      refine own_by (fun _ k => XS.lloadN X13.here hx rfl (hb hby d8_43) rfl k) ?_
      show own_Go p e below _ (T13.setTop (mkF m 44 #[.val (.ref a0), .val (.long q1), .second, .val (.int (0 : Int32)), .val (.int (-1 : Int32)), .val (.int (4 : Int32)), .val (.long v12), .second] [(.long q1), (.long (fn_f_a0_entries 4))]))
      refine own_by (fun _ k => XS.lcmp X13.here hx rfl (hb hby d8_44) rfl k) ?_
      show own_Go p e below _ (T13.setTop (mkF m 45 #[.val (.ref a0), .val (.long q1), .second, .val (.int (0 : Int32)), .val (.int (-1 : Int32)), .val (.int (4 : Int32)), .val (.long v12), .second] [(.int (lcmpW (fn_f_a0_entries 4) q1))]))
      by_cases c15 : (fn_f_a0_entries 4) = q1
      · skip
        refine own_by (fun _ k => XS.ifNo X13.here hx rfl (hb hby d8_45) rfl ((if0 _ _).trans (teq ((lw_eq _ _).mpr c15)).2) k) ?_
        show own_Go p e below _ (T13.setTop (mkF m 48 #[.val (.ref a0), .val (.long q1), .second, .val (.int (0 : Int32)), .val (.int (-1 : Int32)), .val (.int (4 : Int32)), .val (.long v12), .second] []))
        refine own_by (fun _ k => XS.lload X13.here hx rfl (hb hby d8_48) rfl k) ?_
        show own_Go p e below _ (T13.setTop (mkF m 50 #[.val (.ref a0), .val (.long q1), .second, .val (.int (0 : Int32)), .val (.int (-1 : Int32)), .val (.int (4 : Int32)), .val (.long v12), .second] [(.long v12)]))
        refine own_by (fun _ k => XS.aloadN X13.here hx rfl (hb hby d8_50) rfl rfl k) ?_
        show own_Go p e below _ (T13.setTop (mkF m 51 #[.val (.ref a0), .val (.long q1), .second, .val (.int (0 : Int32)), .val (.int (-1 : Int32)), .val (.int (4 : Int32)), .val (.long v12), .second] [(.ref a0), (.long v12)]))
        obtain ⟨T16, X16, e16, st16⟩ := getF X13 hx hZ hown (host := "") (Or.inl (hw _ (List.mem_of_getElem? (i := 12) rfl))) Via.refl e13 P_F_a0_settledSince (g := (mkF m 51 #[.val (.ref a0), .val (.long q1), .second, .val (.int (0 : Int32)), .val (.int (-1 : Int32)), .val (.int (4 : Int32)), .val (.long v12), .second] [(.ref a0), (.long v12)])) rfl rfl (hb hby d8_51)
        refine own_by st16 ?_
        show own_Go p e below _ (T16.setTop (mkF m 54 #[.val (.ref a0), .val (.long q1), .second, .val (.int (0 : Int32)), .val (.int (-1 : Int32)), .val (.int (4 : Int32)), .val (.long v12), .second] [(.long f_a0_settledSince), (.long v12)]))
        refine own_by (fun _ k => XS.lcmp X16.here hx rfl (hb hby d8_54) rfl k) ?_
        show own_Go p e below _ (T16.setTop (mkF m 55 #[.val (.ref a0), .val (.long q1), .second, .val (.int (0 : Int32)), .val (.int (-1 : Int32)), .val (.int (4 : Int32)), .val (.long v12), .second] [(.int (lcmpW v12 f_a0_settledSince))]))
        by_cases c17 : v12 < f_a0_settledSince
        · skip
          refine own_by (fun _ k => XS.ifYes X16.here hx rfl (pc0 := 55) (pc' := 75) rfl (hb hby d8_55) rfl ((if0 _ _).trans (tlt ((lw_lt _ _).mpr c17)).1) (by decide) (by decide) k) ?_
          show own_Go p e below _ (T16.setTop (mkF m 75 #[.val (.ref a0), .val (.long q1), .second, .val (.int (0 : Int32)), .val (.int (-1 : Int32)), .val (.int (4 : Int32)), .val (.long v12), .second] []))
          refine own_by (fun _ k => XS.iinc X16.here hx rfl (hb hby d8_75) rfl (l' := #[.val (.ref a0), .val (.long q1), .second, .val (.int (0 : Int32)), .val (.int (-1 : Int32)), .val (.int (8 : Int32)), .val (.long v12), .second]) rfl k) ?_
          show own_Go p e below _ (T16.setTop (mkF m 78 #[.val (.ref a0), .val (.long q1), .second, .val (.int (0 : Int32)), .val (.int (-1 : Int32)), .val (.int (8 : Int32)), .val (.long v12), .second] []))
          refine own_by (fun _ k => XS.goto X16.here hx rfl (pc0 := 78) (pc' := 12) rfl (hb hby d8_78) (by decide) (by decide) k) ?_
          show own_Go p e below _ (T16.setTop (mkF m 12 #[.val (.ref a0), .val (.long q1), .second, .val (.int (0 : Int32)), .val (.int (-1 : Int32)), .val (.int (8 : Int32)), .val (.long v12), .second] []))
          refine own_by (fun _ k => XS.iload X16.here hx rfl (hb hby d8_12) rfl k) ?_
          show own_Go p e below _ (T16.setTop (mkF m 14 #[.val (.ref a0), .val (.long q1), .second, .val (.int (0 : Int32)), .val (.int (-1 : Int32)), .val (.int (8 : Int32)), .val (.long v12), .second] [(.int (8 : Int32))]))
          refine own_by (fun _ k => XS.iloadN X16.here hx rfl (hb hby d8_14) rfl k) ?_
          show own_Go p e below _ (T16.setTop (mkF m 15 #[.val (.ref a0), .val (.long q1), .second, .val (.int (0 : Int32)), .val (.int (-1 : Int32)), .val (.int (8 : Int32)), .val (.long v12), .second] [(.int (0 : Int32)), (.int (8 : Int32))]))
          refine own_by (fun _ k => XS.bipush X16.here hx rfl (hb hby d8_15) k) ?_
          show own_Go p e below _ (T16.setTop (mkF m 17 #[.val (.ref a0), .val (.long q1), .second, .val (.int (0 : Int32)), .val (.int (-1 : Int32)), .val (.int (8 : Int32)), .val (.long v12), .second] [(.int (8 : Int32)), (.int (0 : Int32)), (.int (8 : Int32))]))
          refine own_by (fun _ k => XS.iadd X16.here hx rfl (hb hby d8_17) rfl k) ?_
          show own_Go p e below _ (T16.setTop (mkF m 18 #[.val (.ref a0), .val (.long q1), .second, .val (.int (0 : Int32)), .val (.int (-1 : Int32)), .val (.int (8 : Int32)), .val (.long v12), .second] [(.int (8 : Int32)), (.int (8 : Int32))]))
          refine own_by (fun _ k => XS.icmpYes X16.here hx rfl (pc0 := 18) (pc' := 81) rfl (hb hby d8_18) rfl (flt (by decide : ¬ ((8 : Int32) < (8 : Int32)))).2.1 (by decide) (by decide) k) ?_
          show own_Go p e below _ (T16.setTop (mkF m 81 #[.val (.ref a0), .val (.long q1), .second, .val (.int (0 : Int32)), .val (.int (-1 : Int32)), .val (.int (8 : Int32)), .val (.long v12), .second] []))
          refine own_by (fun _ k => XS.iload X16.here hx rfl (hb hby d8_81) rfl k) ?_
          show own_Go p e below _ (T16.setTop (mkF m 83 #[.val (.ref a0), .val (.long q1), .second, .val (.int (0 : Int32)), .val (.int (-1 : Int32)), .val (.int (8 : Int32)), .val (.long v12), .second] [(.int (-1 : Int32))]))
          exact own_retI X16 hx Bd.returns (hb hby d8_83) hlk e16 ⟨_, rfl, N1, rfl, (ob_8_18 fn_f_a0_entries q1 f_a0_settledSince f_a0_generation v4 v12 hv4 c7 c9 hv12 c15 c17)⟩ (by decide) (by decide)
        · skip
          refine own_by (fun _ k => XS.ifNo X16.here hx rfl (hb hby d8_55) rfl ((if0 _ _).trans (flt (fun q => c17 ((lw_lt _ _).mp q))).1) k) ?_
          show own_Go p e below _ (T16.setTop (mkF m 58 #[.val (.ref a0), .val (.long q1), .second, .val (.int (0 : Int32)), .val (.int (-1 : Int32)), .val (.int (4 : Int32)), .val (.long v12), .second] []))
          refine own_by (fun _ k => XS.lload X16.here hx rfl (hb hby d8_58) rfl k) ?_
          show own_Go p e below _ (T16.setTop (mkF m 60 #[.val (.ref a0), .val (.long q1), .second, .val (.int (0 : Int32)), .val (.int (-1 : Int32)), .val (.int (4 : Int32)), .val (.long v12), .second] [(.long v12)]))
          refine own_by (fun _ k => XS.aloadN X16.here hx rfl (hb hby d8_60) rfl rfl k) ?_
          show own_Go p e below _ (T16.setTop (mkF m 61 #[.val (.ref a0), .val (.long q1), .second, .val (.int (0 : Int32)), .val (.int (-1 : Int32)), .val (.int (4 : Int32)), .val (.long v12), .second] [(.ref a0), (.long v12)]))
          obtain ⟨T18, X18, e18, st18⟩ := getF X16 hx hZ hown (host := "") (Or.inl (hw _ (List.mem_of_getElem? (i := 10) rfl))) Via.refl e16 P_F_a0_generation (g := (mkF m 61 #[.val (.ref a0), .val (.long q1), .second, .val (.int (0 : Int32)), .val (.int (-1 : Int32)), .val (.int (4 : Int32)), .val (.long v12), .second] [(.ref a0), (.long v12)])) rfl rfl (hb hby d8_61)
          refine own_by st18 ?_
          show own_Go p e below _ (T18.setTop (mkF m 64 #[.val (.ref a0), .val (.long q1), .second, .val (.int (0 : Int32)), .val (.int (-1 : Int32)), .val (.int (4 : Int32)), .val (.long v12), .second] [(.long f_a0_generation), (.long v12)]))
          refine own_by (fun _ k => XS.lcmp X18.here hx rfl (hb hby d8_64) rfl k) ?_
          show own_Go p e below _ (T18.setTop (mkF m 65 #[.val (.ref a0), .val (.long q1), .second, .val (.int (0 : Int32)), .val (.int (-1 : Int32)), .val (.int (4 : Int32)), .val (.long v12), .second] [(.int (lcmpW v12 f_a0_generation))]))
          by_cases c19 : v12 < f_a0_generation
          · skip
            refine own_by (fun _ k => XS.ifNo X18.here hx rfl (hb hby d8_65) rfl ((if0 _ _).trans (tlt ((lw_lt _ _).mpr c19)).2.1) k) ?_
            show own_Go p e below _ (T18.setTop (mkF m 68 #[.val (.ref a0), .val (.long q1), .second, .val (.int (0 : Int32)), .val (.int (-1 : Int32)), .val (.int (4 : Int32)), .val (.long v12), .second] []))
            refine own_by (fun _ k => XS.iload X18.here hx rfl (hb hby d8_68) rfl k) ?_
            show own_Go p e below _ (T18.setTop (mkF m 70 #[.val (.ref a0), .val (.long q1), .second, .val (.int (0 : Int32)), .val (.int (-1 : Int32)), .val (.int (4 : Int32)), .val (.long v12), .second] [(.int (4 : Int32))]))
            refine own_by (fun _ k => XS.istore X18.here hx rfl (hb hby d8_70) rfl (l' := #[.val (.ref a0), .val (.long q1), .second, .val (.int (0 : Int32)), .val (.int (4 : Int32)), .val (.int (4 : Int32)), .val (.long v12), .second]) rfl k) ?_
            show own_Go p e below _ (T18.setTop (mkF m 72 #[.val (.ref a0), .val (.long q1), .second, .val (.int (0 : Int32)), .val (.int (4 : Int32)), .val (.int (4 : Int32)), .val (.long v12), .second] []))
            refine own_by (fun _ k => XS.goto X18.here hx rfl (pc0 := 72) (pc' := 81) rfl (hb hby d8_72) (by decide) (by decide) k) ?_
            show own_Go p e below _ (T18.setTop (mkF m 81 #[.val (.ref a0), .val (.long q1), .second, .val (.int (0 : Int32)), .val (.int (4 : Int32)), .val (.int (4 : Int32)), .val (.long v12), .second] []))
            refine own_by (fun _ k => XS.iload X18.here hx rfl (hb hby d8_81) rfl k) ?_
            show own_Go p e below _ (T18.setTop (mkF m 83 #[.val (.ref a0), .val (.long q1), .second, .val (.int (0 : Int32)), .val (.int (4 : Int32)), .val (.int (4 : Int32)), .val (.long v12), .second] [(.int (4 : Int32))]))
            exact own_retI X18 hx Bd.returns (hb hby d8_83) hlk e18 ⟨_, rfl, N1, rfl, (ob_8_19 fn_f_a0_entries q1 f_a0_settledSince f_a0_generation v4 v12 hv4 c7 c9 hv12 c15 c17 c19)⟩ (by decide) (by decide)
          · skip
            refine own_by (fun _ k => XS.ifYes X18.here hx rfl (pc0 := 65) (pc' := 75) rfl (hb hby d8_65) rfl ((if0 _ _).trans (flt (fun q => c19 ((lw_lt _ _).mp q))).2.1) (by decide) (by decide) k) ?_
            show own_Go p e below _ (T18.setTop (mkF m 75 #[.val (.ref a0), .val (.long q1), .second, .val (.int (0 : Int32)), .val (.int (-1 : Int32)), .val (.int (4 : Int32)), .val (.long v12), .second] []))
            refine own_by (fun _ k => XS.iinc X18.here hx rfl (hb hby d8_75) rfl (l' := #[.val (.ref a0), .val (.long q1), .second, .val (.int (0 : Int32)), .val (.int (-1 : Int32)), .val (.int (8 : Int32)), .val (.long v12), .second]) rfl k) ?_
            show own_Go p e below _ (T18.setTop (mkF m 78 #[.val (.ref a0), .val (.long q1), .second, .val (.int (0 : Int32)), .val (.int (-1 : Int32)), .val (.int (8 : Int32)), .val (.long v12), .second] []))
            refine own_by (fun _ k => XS.goto X18.here hx rfl (pc0 := 78) (pc' := 12) rfl (hb hby d8_78) (by decide) (by decide) k) ?_
            show own_Go p e below _ (T18.setTop (mkF m 12 #[.val (.ref a0), .val (.long q1), .second, .val (.int (0 : Int32)), .val (.int (-1 : Int32)), .val (.int (8 : Int32)), .val (.long v12), .second] []))
            refine own_by (fun _ k => XS.iload X18.here hx rfl (hb hby d8_12) rfl k) ?_
            show own_Go p e below _ (T18.setTop (mkF m 14 #[.val (.ref a0), .val (.long q1), .second, .val (.int (0 : Int32)), .val (.int (-1 : Int32)), .val (.int (8 : Int32)), .val (.long v12), .second] [(.int (8 : Int32))]))
            refine own_by (fun _ k => XS.iloadN X18.here hx rfl (hb hby d8_14) rfl k) ?_
            show own_Go p e below _ (T18.setTop (mkF m 15 #[.val (.ref a0), .val (.long q1), .second, .val (.int (0 : Int32)), .val (.int (-1 : Int32)), .val (.int (8 : Int32)), .val (.long v12), .second] [(.int (0 : Int32)), (.int (8 : Int32))]))
            refine own_by (fun _ k => XS.bipush X18.here hx rfl (hb hby d8_15) k) ?_
            show own_Go p e below _ (T18.setTop (mkF m 17 #[.val (.ref a0), .val (.long q1), .second, .val (.int (0 : Int32)), .val (.int (-1 : Int32)), .val (.int (8 : Int32)), .val (.long v12), .second] [(.int (8 : Int32)), (.int (0 : Int32)), (.int (8 : Int32))]))
            refine own_by (fun _ k => XS.iadd X18.here hx rfl (hb hby d8_17) rfl k) ?_
            show own_Go p e below _ (T18.setTop (mkF m 18 #[.val (.ref a0), .val (.long q1), .second, .val (.int (0 : Int32)), .val (.int (-1 : Int32)), .val (.int (8 : Int32)), .val (.long v12), .second] [(.int (8 : Int32)), (.int (8 : Int32))]))
            refine own_by (fun _ k => XS.icmpYes X18.here hx rfl (pc0 := 18) (pc' := 81) rfl (hb hby d8_18) rfl (flt (by decide : ¬ ((8 : Int32) < (8 : Int32)))).2.1 (by decide) (by decide) k) ?_
            show own_Go p e below _ (T18.setTop (mkF m 81 #[.val (.ref a0), .val (.long q1), .second, .val (.int (0 : Int32)), .val (.int (-1 : Int32)), .val (.int (8 : Int32)), .val (.long v12), .second] []))
            refine own_by (fun _ k => XS.iload X18.here hx rfl (hb hby d8_81) rfl k) ?_
            show own_Go p e below _ (T18.setTop (mkF m 83 #[.val (.ref a0), .val (.long q1), .second, .val (.int (0 : Int32)), .val (.int (-1 : Int32)), .val (.int (8 : Int32)), .val (.long v12), .second] [(.int (-1 : Int32))]))
            exact own_retI X18 hx Bd.returns (hb hby d8_83) hlk e18 ⟨_, rfl, N1, rfl, (ob_8_20 fn_f_a0_entries q1 f_a0_settledSince f_a0_generation v4 v12 hv4 c7 c9 hv12 c15 c17 c19)⟩ (by decide) (by decide)
      · skip
        refine own_by (fun _ k => XS.ifYes X13.here hx rfl (pc0 := 45) (pc' := 75) rfl (hb hby d8_45) rfl ((if0 _ _).trans (feq (fun q => c15 ((lw_eq _ _).mp q))).2) (by decide) (by decide) k) ?_
        show own_Go p e below _ (T13.setTop (mkF m 75 #[.val (.ref a0), .val (.long q1), .second, .val (.int (0 : Int32)), .val (.int (-1 : Int32)), .val (.int (4 : Int32)), .val (.long v12), .second] []))
        refine own_by (fun _ k => XS.iinc X13.here hx rfl (hb hby d8_75) rfl (l' := #[.val (.ref a0), .val (.long q1), .second, .val (.int (0 : Int32)), .val (.int (-1 : Int32)), .val (.int (8 : Int32)), .val (.long v12), .second]) rfl k) ?_
        show own_Go p e below _ (T13.setTop (mkF m 78 #[.val (.ref a0), .val (.long q1), .second, .val (.int (0 : Int32)), .val (.int (-1 : Int32)), .val (.int (8 : Int32)), .val (.long v12), .second] []))
        refine own_by (fun _ k => XS.goto X13.here hx rfl (pc0 := 78) (pc' := 12) rfl (hb hby d8_78) (by decide) (by decide) k) ?_
        show own_Go p e below _ (T13.setTop (mkF m 12 #[.val (.ref a0), .val (.long q1), .second, .val (.int (0 : Int32)), .val (.int (-1 : Int32)), .val (.int (8 : Int32)), .val (.long v12), .second] []))
        refine own_by (fun _ k => XS.iload X13.here hx rfl (hb hby d8_12) rfl k) ?_
        show own_Go p e below _ (T13.setTop (mkF m 14 #[.val (.ref a0), .val (.long q1), .second, .val (.int (0 : Int32)), .val (.int (-1 : Int32)), .val (.int (8 : Int32)), .val (.long v12), .second] [(.int (8 : Int32))]))
        refine own_by (fun _ k => XS.iloadN X13.here hx rfl (hb hby d8_14) rfl k) ?_
        show own_Go p e below _ (T13.setTop (mkF m 15 #[.val (.ref a0), .val (.long q1), .second, .val (.int (0 : Int32)), .val (.int (-1 : Int32)), .val (.int (8 : Int32)), .val (.long v12), .second] [(.int (0 : Int32)), (.int (8 : Int32))]))
        refine own_by (fun _ k => XS.bipush X13.here hx rfl (hb hby d8_15) k) ?_
        show own_Go p e below _ (T13.setTop (mkF m 17 #[.val (.ref a0), .val (.long q1), .second, .val (.int (0 : Int32)), .val (.int (-1 : Int32)), .val (.int (8 : Int32)), .val (.long v12), .second] [(.int (8 : Int32)), (.int (0 : Int32)), (.int (8 : Int32))]))
        refine own_by (fun _ k => XS.iadd X13.here hx rfl (hb hby d8_17) rfl k) ?_
        show own_Go p e below _ (T13.setTop (mkF m 18 #[.val (.ref a0), .val (.long q1), .second, .val (.int (0 : Int32)), .val (.int (-1 : Int32)), .val (.int (8 : Int32)), .val (.long v12), .second] [(.int (8 : Int32)), (.int (8 : Int32))]))
        refine own_by (fun _ k => XS.icmpYes X13.here hx rfl (pc0 := 18) (pc' := 81) rfl (hb hby d8_18) rfl (flt (by decide : ¬ ((8 : Int32) < (8 : Int32)))).2.1 (by decide) (by decide) k) ?_
        show own_Go p e below _ (T13.setTop (mkF m 81 #[.val (.ref a0), .val (.long q1), .second, .val (.int (0 : Int32)), .val (.int (-1 : Int32)), .val (.int (8 : Int32)), .val (.long v12), .second] []))
        refine own_by (fun _ k => XS.iload X13.here hx rfl (hb hby d8_81) rfl k) ?_
        show own_Go p e below _ (T13.setTop (mkF m 83 #[.val (.ref a0), .val (.long q1), .second, .val (.int (0 : Int32)), .val (.int (-1 : Int32)), .val (.int (8 : Int32)), .val (.long v12), .second] [(.int (-1 : Int32))]))
        exact own_retI X13 hx Bd.returns (hb hby d8_83) hlk e13 ⟨_, rfl, N1, rfl, (ob_8_21 fn_f_a0_entries q1 f_a0_settledSince f_a0_generation v4 v12 hv4 c7 c9 hv12 c15)⟩ (by decide) (by decide)
    · skip
      refine own_by (fun _ k => XS.ifNo X8.here hx rfl (hb hby d8_55) rfl ((if0 _ _).trans (flt (fun q => c9 ((lw_lt _ _).mp q))).1) k) ?_
      show own_Go p e below _ (T8.setTop (mkF m 58 #[.val (.ref a0), .val (.long q1), .second, .val (.int (0 : Int32)), .val (.int (-1 : Int32)), .val (.int (0 : Int32)), .val (.long v4), .second] []))
      refine own_by (fun _ k => XS.lload X8.here hx rfl (hb hby d8_58) rfl k) ?_
      show own_Go p e below _ (T8.setTop (mkF m 60 #[.val (.ref a0), .val (.long q1), .second, .val (.int (0 : Int32)), .val (.int (-1 : Int32)), .val (.int (0 : Int32)), .val (.long v4), .second] [(.long v4)]))
      refine own_by (fun _ k => XS.aloadN X8.here hx rfl (hb hby d8_60) rfl rfl k) ?_
      show own_Go p e below _ (T8.setTop (mkF m 61 #[.val (.ref a0), .val (.long q1), .second, .val (.int (0 : Int32)), .val (.int (-1 : Int32)), .val (.int (0 : Int32)), .val (.long v4), .second] [(.ref a0), (.long v4)]))
      obtain ⟨T20, X20, e20, st20⟩ := getF X8 hx hZ hown (host := "") (Or.inl (hw _ (List.mem_of_getElem? (i := 10) rfl))) Via.refl e8 P_F_a0_generation (g := (mkF m 61 #[.val (.ref a0), .val (.long q1), .second, .val (.int (0 : Int32)), .val (.int (-1 : Int32)), .val (.int (0 : Int32)), .val (.long v4), .second] [(.ref a0), (.long v4)])) rfl rfl (hb hby d8_61)
      refine own_by st20 ?_
      show own_Go p e below _ (T20.setTop (mkF m 64 #[.val (.ref a0), .val (.long q1), .second, .val (.int (0 : Int32)), .val (.int (-1 : Int32)), .val (.int (0 : Int32)), .val (.long v4), .second] [(.long f_a0_generation), (.long v4)]))
      refine own_by (fun _ k => XS.lcmp X20.here hx rfl (hb hby d8_64) rfl k) ?_
      show own_Go p e below _ (T20.setTop (mkF m 65 #[.val (.ref a0), .val (.long q1), .second, .val (.int (0 : Int32)), .val (.int (-1 : Int32)), .val (.int (0 : Int32)), .val (.long v4), .second] [(.int (lcmpW v4 f_a0_generation))]))
      by_cases c21 : v4 < f_a0_generation
      · skip
        refine own_by (fun _ k => XS.ifNo X20.here hx rfl (hb hby d8_65) rfl ((if0 _ _).trans (tlt ((lw_lt _ _).mpr c21)).2.1) k) ?_
        show own_Go p e below _ (T20.setTop (mkF m 68 #[.val (.ref a0), .val (.long q1), .second, .val (.int (0 : Int32)), .val (.int (-1 : Int32)), .val (.int (0 : Int32)), .val (.long v4), .second] []))
        refine own_by (fun _ k => XS.iload X20.here hx rfl (hb hby d8_68) rfl k) ?_
        show own_Go p e below _ (T20.setTop (mkF m 70 #[.val (.ref a0), .val (.long q1), .second, .val (.int (0 : Int32)), .val (.int (-1 : Int32)), .val (.int (0 : Int32)), .val (.long v4), .second] [(.int (0 : Int32))]))
        refine own_by (fun _ k => XS.istore X20.here hx rfl (hb hby d8_70) rfl (l' := #[.val (.ref a0), .val (.long q1), .second, .val (.int (0 : Int32)), .val (.int (0 : Int32)), .val (.int (0 : Int32)), .val (.long v4), .second]) rfl k) ?_
        show own_Go p e below _ (T20.setTop (mkF m 72 #[.val (.ref a0), .val (.long q1), .second, .val (.int (0 : Int32)), .val (.int (0 : Int32)), .val (.int (0 : Int32)), .val (.long v4), .second] []))
        refine own_by (fun _ k => XS.goto X20.here hx rfl (pc0 := 72) (pc' := 81) rfl (hb hby d8_72) (by decide) (by decide) k) ?_
        show own_Go p e below _ (T20.setTop (mkF m 81 #[.val (.ref a0), .val (.long q1), .second, .val (.int (0 : Int32)), .val (.int (0 : Int32)), .val (.int (0 : Int32)), .val (.long v4), .second] []))
        refine own_by (fun _ k => XS.iload X20.here hx rfl (hb hby d8_81) rfl k) ?_
        show own_Go p e below _ (T20.setTop (mkF m 83 #[.val (.ref a0), .val (.long q1), .second, .val (.int (0 : Int32)), .val (.int (0 : Int32)), .val (.int (0 : Int32)), .val (.long v4), .second] [(.int (0 : Int32))]))
        exact own_retI X20 hx Bd.returns (hb hby d8_83) hlk e20 ⟨_, rfl, N1, rfl, (ob_8_22 fn_f_a0_entries q1 f_a0_settledSince f_a0_generation v4 hv4 c7 c9 c21)⟩ (by decide) (by decide)
      · skip
        refine own_by (fun _ k => XS.ifYes X20.here hx rfl (pc0 := 65) (pc' := 75) rfl (hb hby d8_65) rfl ((if0 _ _).trans (flt (fun q => c21 ((lw_lt _ _).mp q))).2.1) (by decide) (by decide) k) ?_
        show own_Go p e below _ (T20.setTop (mkF m 75 #[.val (.ref a0), .val (.long q1), .second, .val (.int (0 : Int32)), .val (.int (-1 : Int32)), .val (.int (0 : Int32)), .val (.long v4), .second] []))
        refine own_by (fun _ k => XS.iinc X20.here hx rfl (hb hby d8_75) rfl (l' := #[.val (.ref a0), .val (.long q1), .second, .val (.int (0 : Int32)), .val (.int (-1 : Int32)), .val (.int (4 : Int32)), .val (.long v4), .second]) rfl k) ?_
        show own_Go p e below _ (T20.setTop (mkF m 78 #[.val (.ref a0), .val (.long q1), .second, .val (.int (0 : Int32)), .val (.int (-1 : Int32)), .val (.int (4 : Int32)), .val (.long v4), .second] []))
        refine own_by (fun _ k => XS.goto X20.here hx rfl (pc0 := 78) (pc' := 12) rfl (hb hby d8_78) (by decide) (by decide) k) ?_
        show own_Go p e below _ (T20.setTop (mkF m 12 #[.val (.ref a0), .val (.long q1), .second, .val (.int (0 : Int32)), .val (.int (-1 : Int32)), .val (.int (4 : Int32)), .val (.long v4), .second] []))
        refine own_by (fun _ k => XS.iload X20.here hx rfl (hb hby d8_12) rfl k) ?_
        show own_Go p e below _ (T20.setTop (mkF m 14 #[.val (.ref a0), .val (.long q1), .second, .val (.int (0 : Int32)), .val (.int (-1 : Int32)), .val (.int (4 : Int32)), .val (.long v4), .second] [(.int (4 : Int32))]))
        refine own_by (fun _ k => XS.iloadN X20.here hx rfl (hb hby d8_14) rfl k) ?_
        show own_Go p e below _ (T20.setTop (mkF m 15 #[.val (.ref a0), .val (.long q1), .second, .val (.int (0 : Int32)), .val (.int (-1 : Int32)), .val (.int (4 : Int32)), .val (.long v4), .second] [(.int (0 : Int32)), (.int (4 : Int32))]))
        refine own_by (fun _ k => XS.bipush X20.here hx rfl (hb hby d8_15) k) ?_
        show own_Go p e below _ (T20.setTop (mkF m 17 #[.val (.ref a0), .val (.long q1), .second, .val (.int (0 : Int32)), .val (.int (-1 : Int32)), .val (.int (4 : Int32)), .val (.long v4), .second] [(.int (8 : Int32)), (.int (0 : Int32)), (.int (4 : Int32))]))
        refine own_by (fun _ k => XS.iadd X20.here hx rfl (hb hby d8_17) rfl k) ?_
        show own_Go p e below _ (T20.setTop (mkF m 18 #[.val (.ref a0), .val (.long q1), .second, .val (.int (0 : Int32)), .val (.int (-1 : Int32)), .val (.int (4 : Int32)), .val (.long v4), .second] [(.int (8 : Int32)), (.int (4 : Int32))]))
        refine own_by (fun _ k => XS.icmpNo X20.here hx rfl (hb hby d8_18) rfl (tlt (by decide : (4 : Int32) < (8 : Int32))).2.1 k) ?_
        show own_Go p e below _ (T20.setTop (mkF m 21 #[.val (.ref a0), .val (.long q1), .second, .val (.int (0 : Int32)), .val (.int (-1 : Int32)), .val (.int (4 : Int32)), .val (.long v4), .second] []))
        refine own_by (fun _ k => XS.aloadN X20.here hx rfl (hb hby d8_21) rfl rfl k) ?_
        show own_Go p e below _ (T20.setTop (mkF m 22 #[.val (.ref a0), .val (.long q1), .second, .val (.int (0 : Int32)), .val (.int (-1 : Int32)), .val (.int (4 : Int32)), .val (.long v4), .second] [(.ref a0)]))
        obtain ⟨T22, X22, e22, st22⟩ := getF X20 hx hZ hown (host := "") (Or.inl (hw _ (List.mem_of_getElem? (i := 15) rfl))) Via.refl e20 P_F_a0_entries (g := (mkF m 22 #[.val (.ref a0), .val (.long q1), .second, .val (.int (0 : Int32)), .val (.int (-1 : Int32)), .val (.int (4 : Int32)), .val (.long v4), .second] [(.ref a0)])) rfl rfl (hb hby d8_22)
        refine own_by st22 ?_
        show own_Go p e below _ (T22.setTop (mkF m 25 #[.val (.ref a0), .val (.long q1), .second, .val (.int (0 : Int32)), .val (.int (-1 : Int32)), .val (.int (4 : Int32)), .val (.long v4), .second] [(.ref f_a0_entries)]))
        refine own_by (fun _ k => XS.iload X22.here hx rfl (hb hby d8_25) rfl k) ?_
        show own_Go p e below _ (T22.setTop (mkF m 27 #[.val (.ref a0), .val (.long q1), .second, .val (.int (0 : Int32)), .val (.int (-1 : Int32)), .val (.int (4 : Int32)), .val (.long v4), .second] [(.int (4 : Int32)), (.ref f_a0_entries)]))
        refine own_by (fun _ k => XS.iconst X22.here hx rfl (hb hby d8_27) k) ?_
        show own_Go p e below _ (T22.setTop (mkF m 28 #[.val (.ref a0), .val (.long q1), .second, .val (.int (0 : Int32)), .val (.int (-1 : Int32)), .val (.int (4 : Int32)), .val (.long v4), .second] [(.int (3 : Int32)), (.int (4 : Int32)), (.ref f_a0_entries)]))
        refine own_by (fun _ k => XS.iadd X22.here hx rfl (hb hby d8_28) rfl k) ?_
        show own_Go p e below _ (T22.setTop (mkF m 29 #[.val (.ref a0), .val (.long q1), .second, .val (.int (0 : Int32)), .val (.int (-1 : Int32)), .val (.int (4 : Int32)), .val (.long v4), .second] [(.int (7 : Int32)), (.ref f_a0_entries)]))
        obtain ⟨cl23, Ar23, qq23, S23, M23, H23, G23⟩ := id P_V_f_a0_entries
        have hin23 : ¬ ((7 : Int32) < 0 ∨ cl23.slots.size ≤ ((7 : Int32)).toNatClampNeg) := inb_of S23 ⟨by decide, by decide⟩
        refine own_by (fun t k => X22.laload hx (j := (7 : Int32)) (v := (.long (fn_f_a0_entries 7))) (by rw [e22]; exact Ar23.1) (State.isArrayOf_alike hZ.alike Ar23.2.1) Ar23.2.2 hin23 (H23 _ (Nat.lt_of_not_le fun y => hin23 (Or.inr y))) (g := (mkF m 29 #[.val (.ref a0), .val (.long q1), .second, .val (.int (0 : Int32)), .val (.int (-1 : Int32)), .val (.int (4 : Int32)), .val (.long v4), .second] [(.int (7 : Int32)), (.ref f_a0_entries)])) rfl rfl (hb hby d8_29) _ k) ?_
        show own_Go p e below _ (T22.setTop (mkF m 30 #[.val (.ref a0), .val (.long q1), .second, .val (.int (0 : Int32)), .val (.int (-1 : Int32)), .val (.int (4 : Int32)), .val (.long v4), .second] [(.long (fn_f_a0_entries 7))]))
        refine own_by (fun t k => X22.ldc2Long hx hown (mvT hZ (hw _ (List.mem_of_getElem? (i := 52) rfl))) (g := (mkF m 30 #[.val (.ref a0), .val (.long q1), .second, .val (.int (0 : Int32)), .val (.int (-1 : Int32)), .val (.int (4 : Int32)), .val (.long v4), .second] [(.long (fn_f_a0_entries 7))])) rfl (hb hby d8_30) _ k) ?_
        show own_Go p e below _ (T22.setTop (mkF m 33 #[.val (.ref a0), .val (.long q1), .second, .val (.int (0 : Int32)), .val (.int (-1 : Int32)), .val (.int (4 : Int32)), .val (.long v4), .second] [(.long (2147483647 : Int64)), (.long (fn_f_a0_entries 7))]))
        refine own_by (fun _ k => XS.land X22.here hx rfl (hb hby d8_33) rfl k) ?_
        show own_Go p e below _ (T22.setTop (mkF m 34 #[.val (.ref a0), .val (.long q1), .second, .val (.int (0 : Int32)), .val (.int (-1 : Int32)), .val (.int (4 : Int32)), .val (.long v4), .second] [(.long ((fn_f_a0_entries 7) &&& (2147483647 : Int64)))]))
        refine own_by (fun _ k => XS.lstore X22.here hx rfl (hb hby d8_34) rfl (l' := #[.val (.ref a0), .val (.long q1), .second, .val (.int (0 : Int32)), .val (.int (-1 : Int32)), .val (.int (4 : Int32)), .val (.long ((fn_f_a0_entries 7) &&& (2147483647 : Int64))), .second]) rfl k) ?_
        show own_Go p e below _ (T22.setTop (mkF m 36 #[.val (.ref a0), .val (.long q1), .second, .val (.int (0 : Int32)), .val (.int (-1 : Int32)), .val (.int (4 : Int32)), .val (.long ((fn_f_a0_entries 7) &&& (2147483647 : Int64))), .second] []))
        generalize hv24 : ((fn_f_a0_entries 7) &&& (2147483647 : Int64)) = v24
        show own_Go p e below _ (T22.setTop (mkF m 36 #[.val (.ref a0), .val (.long q1), .second, .val (.int (0 : Int32)), .val (.int (-1 : Int32)), .val (.int (4 : Int32)), .val (.long v24), .second] []))
        refine own_by (fun _ k => XS.aloadN X22.here hx rfl (hb hby d8_36) rfl rfl k) ?_
        show own_Go p e below _ (T22.setTop (mkF m 37 #[.val (.ref a0), .val (.long q1), .second, .val (.int (0 : Int32)), .val (.int (-1 : Int32)), .val (.int (4 : Int32)), .val (.long v24), .second] [(.ref a0)]))
        obtain ⟨T25, X25, e25, st25⟩ := getF X22 hx hZ hown (host := "") (Or.inl (hw _ (List.mem_of_getElem? (i := 15) rfl))) Via.refl e22 P_F_a0_entries (g := (mkF m 37 #[.val (.ref a0), .val (.long q1), .second, .val (.int (0 : Int32)), .val (.int (-1 : Int32)), .val (.int (4 : Int32)), .val (.long v24), .second] [(.ref a0)])) rfl rfl (hb hby d8_37)
        refine own_by st25 ?_
        show own_Go p e below _ (T25.setTop (mkF m 40 #[.val (.ref a0), .val (.long q1), .second, .val (.int (0 : Int32)), .val (.int (-1 : Int32)), .val (.int (4 : Int32)), .val (.long v24), .second] [(.ref f_a0_entries)]))
        refine own_by (fun _ k => XS.iload X25.here hx rfl (hb hby d8_40) rfl k) ?_
        show own_Go p e below _ (T25.setTop (mkF m 42 #[.val (.ref a0), .val (.long q1), .second, .val (.int (0 : Int32)), .val (.int (-1 : Int32)), .val (.int (4 : Int32)), .val (.long v24), .second] [(.int (4 : Int32)), (.ref f_a0_entries)]))
        obtain ⟨cl26, Ar26, qq26, S26, M26, H26, G26⟩ := id P_V_f_a0_entries
        have hin26 : ¬ ((4 : Int32) < 0 ∨ cl26.slots.size ≤ ((4 : Int32)).toNatClampNeg) := inb_of S26 ⟨by decide, by decide⟩
        refine own_by (fun t k => X25.laload hx (j := (4 : Int32)) (v := (.long (fn_f_a0_entries 4))) (by rw [e25]; exact Ar26.1) (State.isArrayOf_alike hZ.alike Ar26.2.1) Ar26.2.2 hin26 (H26 _ (Nat.lt_of_not_le fun y => hin26 (Or.inr y))) (g := (mkF m 42 #[.val (.ref a0), .val (.long q1), .second, .val (.int (0 : Int32)), .val (.int (-1 : Int32)), .val (.int (4 : Int32)), .val (.long v24), .second] [(.int (4 : Int32)), (.ref f_a0_entries)])) rfl rfl (hb hby d8_42) _ k) ?_
        show own_Go p e below _ (T25.setTop (mkF m 43 #[.val (.ref a0), .val (.long q1), .second, .val (.int (0 : Int32)), .val (.int (-1 : Int32)), .val (.int (4 : Int32)), .val (.long v24), .second] [(.long (fn_f_a0_entries 4))]))
        refine own_by (fun _ k => XS.lloadN X25.here hx rfl (hb hby d8_43) rfl k) ?_
        show own_Go p e below _ (T25.setTop (mkF m 44 #[.val (.ref a0), .val (.long q1), .second, .val (.int (0 : Int32)), .val (.int (-1 : Int32)), .val (.int (4 : Int32)), .val (.long v24), .second] [(.long q1), (.long (fn_f_a0_entries 4))]))
        refine own_by (fun _ k => XS.lcmp X25.here hx rfl (hb hby d8_44) rfl k) ?_
        show own_Go p e below _ (T25.setTop (mkF m 45 #[.val (.ref a0), .val (.long q1), .second, .val (.int (0 : Int32)), .val (.int (-1 : Int32)), .val (.int (4 : Int32)), .val (.long v24), .second] [(.int (lcmpW (fn_f_a0_entries 4) q1))]))
        by_cases c27 : (fn_f_a0_entries 4) = q1
        · skip
          refine own_by (fun _ k => XS.ifNo X25.here hx rfl (hb hby d8_45) rfl ((if0 _ _).trans (teq ((lw_eq _ _).mpr c27)).2) k) ?_
          show own_Go p e below _ (T25.setTop (mkF m 48 #[.val (.ref a0), .val (.long q1), .second, .val (.int (0 : Int32)), .val (.int (-1 : Int32)), .val (.int (4 : Int32)), .val (.long v24), .second] []))
          refine own_by (fun _ k => XS.lload X25.here hx rfl (hb hby d8_48) rfl k) ?_
          show own_Go p e below _ (T25.setTop (mkF m 50 #[.val (.ref a0), .val (.long q1), .second, .val (.int (0 : Int32)), .val (.int (-1 : Int32)), .val (.int (4 : Int32)), .val (.long v24), .second] [(.long v24)]))
          refine own_by (fun _ k => XS.aloadN X25.here hx rfl (hb hby d8_50) rfl rfl k) ?_
          show own_Go p e below _ (T25.setTop (mkF m 51 #[.val (.ref a0), .val (.long q1), .second, .val (.int (0 : Int32)), .val (.int (-1 : Int32)), .val (.int (4 : Int32)), .val (.long v24), .second] [(.ref a0), (.long v24)]))
          obtain ⟨T28, X28, e28, st28⟩ := getF X25 hx hZ hown (host := "") (Or.inl (hw _ (List.mem_of_getElem? (i := 12) rfl))) Via.refl e25 P_F_a0_settledSince (g := (mkF m 51 #[.val (.ref a0), .val (.long q1), .second, .val (.int (0 : Int32)), .val (.int (-1 : Int32)), .val (.int (4 : Int32)), .val (.long v24), .second] [(.ref a0), (.long v24)])) rfl rfl (hb hby d8_51)
          refine own_by st28 ?_
          show own_Go p e below _ (T28.setTop (mkF m 54 #[.val (.ref a0), .val (.long q1), .second, .val (.int (0 : Int32)), .val (.int (-1 : Int32)), .val (.int (4 : Int32)), .val (.long v24), .second] [(.long f_a0_settledSince), (.long v24)]))
          refine own_by (fun _ k => XS.lcmp X28.here hx rfl (hb hby d8_54) rfl k) ?_
          show own_Go p e below _ (T28.setTop (mkF m 55 #[.val (.ref a0), .val (.long q1), .second, .val (.int (0 : Int32)), .val (.int (-1 : Int32)), .val (.int (4 : Int32)), .val (.long v24), .second] [(.int (lcmpW v24 f_a0_settledSince))]))
          by_cases c29 : v24 < f_a0_settledSince
          · skip
            refine own_by (fun _ k => XS.ifYes X28.here hx rfl (pc0 := 55) (pc' := 75) rfl (hb hby d8_55) rfl ((if0 _ _).trans (tlt ((lw_lt _ _).mpr c29)).1) (by decide) (by decide) k) ?_
            show own_Go p e below _ (T28.setTop (mkF m 75 #[.val (.ref a0), .val (.long q1), .second, .val (.int (0 : Int32)), .val (.int (-1 : Int32)), .val (.int (4 : Int32)), .val (.long v24), .second] []))
            refine own_by (fun _ k => XS.iinc X28.here hx rfl (hb hby d8_75) rfl (l' := #[.val (.ref a0), .val (.long q1), .second, .val (.int (0 : Int32)), .val (.int (-1 : Int32)), .val (.int (8 : Int32)), .val (.long v24), .second]) rfl k) ?_
            show own_Go p e below _ (T28.setTop (mkF m 78 #[.val (.ref a0), .val (.long q1), .second, .val (.int (0 : Int32)), .val (.int (-1 : Int32)), .val (.int (8 : Int32)), .val (.long v24), .second] []))
            refine own_by (fun _ k => XS.goto X28.here hx rfl (pc0 := 78) (pc' := 12) rfl (hb hby d8_78) (by decide) (by decide) k) ?_
            show own_Go p e below _ (T28.setTop (mkF m 12 #[.val (.ref a0), .val (.long q1), .second, .val (.int (0 : Int32)), .val (.int (-1 : Int32)), .val (.int (8 : Int32)), .val (.long v24), .second] []))
            refine own_by (fun _ k => XS.iload X28.here hx rfl (hb hby d8_12) rfl k) ?_
            show own_Go p e below _ (T28.setTop (mkF m 14 #[.val (.ref a0), .val (.long q1), .second, .val (.int (0 : Int32)), .val (.int (-1 : Int32)), .val (.int (8 : Int32)), .val (.long v24), .second] [(.int (8 : Int32))]))
            refine own_by (fun _ k => XS.iloadN X28.here hx rfl (hb hby d8_14) rfl k) ?_
            show own_Go p e below _ (T28.setTop (mkF m 15 #[.val (.ref a0), .val (.long q1), .second, .val (.int (0 : Int32)), .val (.int (-1 : Int32)), .val (.int (8 : Int32)), .val (.long v24), .second] [(.int (0 : Int32)), (.int (8 : Int32))]))
            refine own_by (fun _ k => XS.bipush X28.here hx rfl (hb hby d8_15) k) ?_
            show own_Go p e below _ (T28.setTop (mkF m 17 #[.val (.ref a0), .val (.long q1), .second, .val (.int (0 : Int32)), .val (.int (-1 : Int32)), .val (.int (8 : Int32)), .val (.long v24), .second] [(.int (8 : Int32)), (.int (0 : Int32)), (.int (8 : Int32))]))
            refine own_by (fun _ k => XS.iadd X28.here hx rfl (hb hby d8_17) rfl k) ?_
            show own_Go p e below _ (T28.setTop (mkF m 18 #[.val (.ref a0), .val (.long q1), .second, .val (.int (0 : Int32)), .val (.int (-1 : Int32)), .val (.int (8 : Int32)), .val (.long v24), .second] [(.int (8 : Int32)), (.int (8 : Int32))]))
            refine own_by (fun _ k => XS.icmpYes X28.here hx rfl (pc0 := 18) (pc' := 81) rfl (hb hby d8_18) rfl (flt (by decide : ¬ ((8 : Int32) < (8 : Int32)))).2.1 (by decide) (by decide) k) ?_
            show own_Go p e below _ (T28.setTop (mkF m 81 #[.val (.ref a0), .val (.long q1), .second, .val (.int (0 : Int32)), .val (.int (-1 : Int32)), .val (.int (8 : Int32)), .val (.long v24), .second] []))
            refine own_by (fun _ k => XS.iload X28.here hx rfl (hb hby d8_81) rfl k) ?_
            show own_Go p e below _ (T28.setTop (mkF m 83 #[.val (.ref a0), .val (.long q1), .second, .val (.int (0 : Int32)), .val (.int (-1 : Int32)), .val (.int (8 : Int32)), .val (.long v24), .second] [(.int (-1 : Int32))]))
            exact own_retI X28 hx Bd.returns (hb hby d8_83) hlk e28 ⟨_, rfl, N1, rfl, (ob_8_23 fn_f_a0_entries q1 f_a0_settledSince f_a0_generation v4 v24 hv4 c7 c9 c21 hv24 c27 c29)⟩ (by decide) (by decide)
          · skip
            refine own_by (fun _ k => XS.ifNo X28.here hx rfl (hb hby d8_55) rfl ((if0 _ _).trans (flt (fun q => c29 ((lw_lt _ _).mp q))).1) k) ?_
            show own_Go p e below _ (T28.setTop (mkF m 58 #[.val (.ref a0), .val (.long q1), .second, .val (.int (0 : Int32)), .val (.int (-1 : Int32)), .val (.int (4 : Int32)), .val (.long v24), .second] []))
            refine own_by (fun _ k => XS.lload X28.here hx rfl (hb hby d8_58) rfl k) ?_
            show own_Go p e below _ (T28.setTop (mkF m 60 #[.val (.ref a0), .val (.long q1), .second, .val (.int (0 : Int32)), .val (.int (-1 : Int32)), .val (.int (4 : Int32)), .val (.long v24), .second] [(.long v24)]))
            refine own_by (fun _ k => XS.aloadN X28.here hx rfl (hb hby d8_60) rfl rfl k) ?_
            show own_Go p e below _ (T28.setTop (mkF m 61 #[.val (.ref a0), .val (.long q1), .second, .val (.int (0 : Int32)), .val (.int (-1 : Int32)), .val (.int (4 : Int32)), .val (.long v24), .second] [(.ref a0), (.long v24)]))
            obtain ⟨T30, X30, e30, st30⟩ := getF X28 hx hZ hown (host := "") (Or.inl (hw _ (List.mem_of_getElem? (i := 10) rfl))) Via.refl e28 P_F_a0_generation (g := (mkF m 61 #[.val (.ref a0), .val (.long q1), .second, .val (.int (0 : Int32)), .val (.int (-1 : Int32)), .val (.int (4 : Int32)), .val (.long v24), .second] [(.ref a0), (.long v24)])) rfl rfl (hb hby d8_61)
            refine own_by st30 ?_
            show own_Go p e below _ (T30.setTop (mkF m 64 #[.val (.ref a0), .val (.long q1), .second, .val (.int (0 : Int32)), .val (.int (-1 : Int32)), .val (.int (4 : Int32)), .val (.long v24), .second] [(.long f_a0_generation), (.long v24)]))
            refine own_by (fun _ k => XS.lcmp X30.here hx rfl (hb hby d8_64) rfl k) ?_
            show own_Go p e below _ (T30.setTop (mkF m 65 #[.val (.ref a0), .val (.long q1), .second, .val (.int (0 : Int32)), .val (.int (-1 : Int32)), .val (.int (4 : Int32)), .val (.long v24), .second] [(.int (lcmpW v24 f_a0_generation))]))
            by_cases c31 : v24 < f_a0_generation
            · skip
              refine own_by (fun _ k => XS.ifNo X30.here hx rfl (hb hby d8_65) rfl ((if0 _ _).trans (tlt ((lw_lt _ _).mpr c31)).2.1) k) ?_
              show own_Go p e below _ (T30.setTop (mkF m 68 #[.val (.ref a0), .val (.long q1), .second, .val (.int (0 : Int32)), .val (.int (-1 : Int32)), .val (.int (4 : Int32)), .val (.long v24), .second] []))
              refine own_by (fun _ k => XS.iload X30.here hx rfl (hb hby d8_68) rfl k) ?_
              show own_Go p e below _ (T30.setTop (mkF m 70 #[.val (.ref a0), .val (.long q1), .second, .val (.int (0 : Int32)), .val (.int (-1 : Int32)), .val (.int (4 : Int32)), .val (.long v24), .second] [(.int (4 : Int32))]))
              refine own_by (fun _ k => XS.istore X30.here hx rfl (hb hby d8_70) rfl (l' := #[.val (.ref a0), .val (.long q1), .second, .val (.int (0 : Int32)), .val (.int (4 : Int32)), .val (.int (4 : Int32)), .val (.long v24), .second]) rfl k) ?_
              show own_Go p e below _ (T30.setTop (mkF m 72 #[.val (.ref a0), .val (.long q1), .second, .val (.int (0 : Int32)), .val (.int (4 : Int32)), .val (.int (4 : Int32)), .val (.long v24), .second] []))
              refine own_by (fun _ k => XS.goto X30.here hx rfl (pc0 := 72) (pc' := 81) rfl (hb hby d8_72) (by decide) (by decide) k) ?_
              show own_Go p e below _ (T30.setTop (mkF m 81 #[.val (.ref a0), .val (.long q1), .second, .val (.int (0 : Int32)), .val (.int (4 : Int32)), .val (.int (4 : Int32)), .val (.long v24), .second] []))
              refine own_by (fun _ k => XS.iload X30.here hx rfl (hb hby d8_81) rfl k) ?_
              show own_Go p e below _ (T30.setTop (mkF m 83 #[.val (.ref a0), .val (.long q1), .second, .val (.int (0 : Int32)), .val (.int (4 : Int32)), .val (.int (4 : Int32)), .val (.long v24), .second] [(.int (4 : Int32))]))
              exact own_retI X30 hx Bd.returns (hb hby d8_83) hlk e30 ⟨_, rfl, N1, rfl, (ob_8_24 fn_f_a0_entries q1 f_a0_settledSince f_a0_generation v4 v24 hv4 c7 c9 c21 hv24 c27 c29 c31)⟩ (by decide) (by decide)
            · skip
              refine own_by (fun _ k => XS.ifYes X30.here hx rfl (pc0 := 65) (pc' := 75) rfl (hb hby d8_65) rfl ((if0 _ _).trans (flt (fun q => c31 ((lw_lt _ _).mp q))).2.1) (by decide) (by decide) k) ?_
              show own_Go p e below _ (T30.setTop (mkF m 75 #[.val (.ref a0), .val (.long q1), .second, .val (.int (0 : Int32)), .val (.int (-1 : Int32)), .val (.int (4 : Int32)), .val (.long v24), .second] []))
              refine own_by (fun _ k => XS.iinc X30.here hx rfl (hb hby d8_75) rfl (l' := #[.val (.ref a0), .val (.long q1), .second, .val (.int (0 : Int32)), .val (.int (-1 : Int32)), .val (.int (8 : Int32)), .val (.long v24), .second]) rfl k) ?_
              show own_Go p e below _ (T30.setTop (mkF m 78 #[.val (.ref a0), .val (.long q1), .second, .val (.int (0 : Int32)), .val (.int (-1 : Int32)), .val (.int (8 : Int32)), .val (.long v24), .second] []))
              refine own_by (fun _ k => XS.goto X30.here hx rfl (pc0 := 78) (pc' := 12) rfl (hb hby d8_78) (by decide) (by decide) k) ?_
              show own_Go p e below _ (T30.setTop (mkF m 12 #[.val (.ref a0), .val (.long q1), .second, .val (.int (0 : Int32)), .val (.int (-1 : Int32)), .val (.int (8 : Int32)), .val (.long v24), .second] []))
              refine own_by (fun _ k => XS.iload X30.here hx rfl (hb hby d8_12) rfl k) ?_
              show own_Go p e below _ (T30.setTop (mkF m 14 #[.val (.ref a0), .val (.long q1), .second, .val (.int (0 : Int32)), .val (.int (-1 : Int32)), .val (.int (8 : Int32)), .val (.long v24), .second] [(.int (8 : Int32))]))
              refine own_by (fun _ k => XS.iloadN X30.here hx rfl (hb hby d8_14) rfl k) ?_
              show own_Go p e below _ (T30.setTop (mkF m 15 #[.val (.ref a0), .val (.long q1), .second, .val (.int (0 : Int32)), .val (.int (-1 : Int32)), .val (.int (8 : Int32)), .val (.long v24), .second] [(.int (0 : Int32)), (.int (8 : Int32))]))
              refine own_by (fun _ k => XS.bipush X30.here hx rfl (hb hby d8_15) k) ?_
              show own_Go p e below _ (T30.setTop (mkF m 17 #[.val (.ref a0), .val (.long q1), .second, .val (.int (0 : Int32)), .val (.int (-1 : Int32)), .val (.int (8 : Int32)), .val (.long v24), .second] [(.int (8 : Int32)), (.int (0 : Int32)), (.int (8 : Int32))]))
              refine own_by (fun _ k => XS.iadd X30.here hx rfl (hb hby d8_17) rfl k) ?_
              show own_Go p e below _ (T30.setTop (mkF m 18 #[.val (.ref a0), .val (.long q1), .second, .val (.int (0 : Int32)), .val (.int (-1 : Int32)), .val (.int (8 : Int32)), .val (.long v24), .second] [(.int (8 : Int32)), (.int (8 : Int32))]))
              refine own_by (fun _ k => XS.icmpYes X30.here hx rfl (pc0 := 18) (pc' := 81) rfl (hb hby d8_18) rfl (flt (by decide : ¬ ((8 : Int32) < (8 : Int32)))).2.1 (by decide) (by decide) k) ?_
              show own_Go p e below _ (T30.setTop (mkF m 81 #[.val (.ref a0), .val (.long q1), .second, .val (.int (0 : Int32)), .val (.int (-1 : Int32)), .val (.int (8 : Int32)), .val (.long v24), .second] []))
              refine own_by (fun _ k => XS.iload X30.here hx rfl (hb hby d8_81) rfl k) ?_
              show own_Go p e below _ (T30.setTop (mkF m 83 #[.val (.ref a0), .val (.long q1), .second, .val (.int (0 : Int32)), .val (.int (-1 : Int32)), .val (.int (8 : Int32)), .val (.long v24), .second] [(.int (-1 : Int32))]))
              exact own_retI X30 hx Bd.returns (hb hby d8_83) hlk e30 ⟨_, rfl, N1, rfl, (ob_8_25 fn_f_a0_entries q1 f_a0_settledSince f_a0_generation v4 v24 hv4 c7 c9 c21 hv24 c27 c29 c31)⟩ (by decide) (by decide)
        · skip
          refine own_by (fun _ k => XS.ifYes X25.here hx rfl (pc0 := 45) (pc' := 75) rfl (hb hby d8_45) rfl ((if0 _ _).trans (feq (fun q => c27 ((lw_eq _ _).mp q))).2) (by decide) (by decide) k) ?_
          show own_Go p e below _ (T25.setTop (mkF m 75 #[.val (.ref a0), .val (.long q1), .second, .val (.int (0 : Int32)), .val (.int (-1 : Int32)), .val (.int (4 : Int32)), .val (.long v24), .second] []))
          refine own_by (fun _ k => XS.iinc X25.here hx rfl (hb hby d8_75) rfl (l' := #[.val (.ref a0), .val (.long q1), .second, .val (.int (0 : Int32)), .val (.int (-1 : Int32)), .val (.int (8 : Int32)), .val (.long v24), .second]) rfl k) ?_
          show own_Go p e below _ (T25.setTop (mkF m 78 #[.val (.ref a0), .val (.long q1), .second, .val (.int (0 : Int32)), .val (.int (-1 : Int32)), .val (.int (8 : Int32)), .val (.long v24), .second] []))
          refine own_by (fun _ k => XS.goto X25.here hx rfl (pc0 := 78) (pc' := 12) rfl (hb hby d8_78) (by decide) (by decide) k) ?_
          show own_Go p e below _ (T25.setTop (mkF m 12 #[.val (.ref a0), .val (.long q1), .second, .val (.int (0 : Int32)), .val (.int (-1 : Int32)), .val (.int (8 : Int32)), .val (.long v24), .second] []))
          refine own_by (fun _ k => XS.iload X25.here hx rfl (hb hby d8_12) rfl k) ?_
          show own_Go p e below _ (T25.setTop (mkF m 14 #[.val (.ref a0), .val (.long q1), .second, .val (.int (0 : Int32)), .val (.int (-1 : Int32)), .val (.int (8 : Int32)), .val (.long v24), .second] [(.int (8 : Int32))]))
          refine own_by (fun _ k => XS.iloadN X25.here hx rfl (hb hby d8_14) rfl k) ?_
          show own_Go p e below _ (T25.setTop (mkF m 15 #[.val (.ref a0), .val (.long q1), .second, .val (.int (0 : Int32)), .val (.int (-1 : Int32)), .val (.int (8 : Int32)), .val (.long v24), .second] [(.int (0 : Int32)), (.int (8 : Int32))]))
          refine own_by (fun _ k => XS.bipush X25.here hx rfl (hb hby d8_15) k) ?_
          show own_Go p e below _ (T25.setTop (mkF m 17 #[.val (.ref a0), .val (.long q1), .second, .val (.int (0 : Int32)), .val (.int (-1 : Int32)), .val (.int (8 : Int32)), .val (.long v24), .second] [(.int (8 : Int32)), (.int (0 : Int32)), (.int (8 : Int32))]))
          refine own_by (fun _ k => XS.iadd X25.here hx rfl (hb hby d8_17) rfl k) ?_
          show own_Go p e below _ (T25.setTop (mkF m 18 #[.val (.ref a0), .val (.long q1), .second, .val (.int (0 : Int32)), .val (.int (-1 : Int32)), .val (.int (8 : Int32)), .val (.long v24), .second] [(.int (8 : Int32)), (.int (8 : Int32))]))
          refine own_by (fun _ k => XS.icmpYes X25.here hx rfl (pc0 := 18) (pc' := 81) rfl (hb hby d8_18) rfl (flt (by decide : ¬ ((8 : Int32) < (8 : Int32)))).2.1 (by decide) (by decide) k) ?_
          show own_Go p e below _ (T25.setTop (mkF m 81 #[.val (.ref a0), .val (.long q1), .second, .val (.int (0 : Int32)), .val (.int (-1 : Int32)), .val (.int (8 : Int32)), .val (.long v24), .second] []))
          refine own_by (fun _ k => XS.iload X25.here hx rfl (hb hby d8_81) rfl k) ?_
          show own_Go p e below _ (T25.setTop (mkF m 83 #[.val (.ref a0), .val (.long q1), .second, .val (.int (0 : Int32)), .val (.int (-1 : Int32)), .val (.int (8 : Int32)), .val (.long v24), .second] [(.int (-1 : Int32))]))
          exact own_retI X25 hx Bd.returns (hb hby d8_83) hlk e25 ⟨_, rfl, N1, rfl, (ob_8_26 fn_f_a0_entries q1 f_a0_settledSince f_a0_generation v4 v24 hv4 c7 c9 c21 hv24 c27)⟩ (by decide) (by decide)
  · skip
    refine own_by (fun _ k => XS.ifYes X5.here hx rfl (pc0 := 45) (pc' := 75) rfl (hb hby d8_45) rfl ((if0 _ _).trans (feq (fun q => c7 ((lw_eq _ _).mp q))).2) (by decide) (by decide) k) ?_
    show own_Go p e below _ (T5.setTop (mkF m 75 #[.val (.ref a0), .val (.long q1), .second, .val (.int (0 : Int32)), .val (.int (-1 : Int32)), .val (.int (0 : Int32)), .val (.long v4), .second] []))
    refine own_by (fun _ k => XS.iinc X5.here hx rfl (hb hby d8_75) rfl (l' := #[.val (.ref a0), .val (.long q1), .second, .val (.int (0 : Int32)), .val (.int (-1 : Int32)), .val (.int (4 : Int32)), .val (.long v4), .second]) rfl k) ?_
    show own_Go p e below _ (T5.setTop (mkF m 78 #[.val (.ref a0), .val (.long q1), .second, .val (.int (0 : Int32)), .val (.int (-1 : Int32)), .val (.int (4 : Int32)), .val (.long v4), .second] []))
    refine own_by (fun _ k => XS.goto X5.here hx rfl (pc0 := 78) (pc' := 12) rfl (hb hby d8_78) (by decide) (by decide) k) ?_
    show own_Go p e below _ (T5.setTop (mkF m 12 #[.val (.ref a0), .val (.long q1), .second, .val (.int (0 : Int32)), .val (.int (-1 : Int32)), .val (.int (4 : Int32)), .val (.long v4), .second] []))
    refine own_by (fun _ k => XS.iload X5.here hx rfl (hb hby d8_12) rfl k) ?_
    show own_Go p e below _ (T5.setTop (mkF m 14 #[.val (.ref a0), .val (.long q1), .second, .val (.int (0 : Int32)), .val (.int (-1 : Int32)), .val (.int (4 : Int32)), .val (.long v4), .second] [(.int (4 : Int32))]))
    refine own_by (fun _ k => XS.iloadN X5.here hx rfl (hb hby d8_14) rfl k) ?_
    show own_Go p e below _ (T5.setTop (mkF m 15 #[.val (.ref a0), .val (.long q1), .second, .val (.int (0 : Int32)), .val (.int (-1 : Int32)), .val (.int (4 : Int32)), .val (.long v4), .second] [(.int (0 : Int32)), (.int (4 : Int32))]))
    refine own_by (fun _ k => XS.bipush X5.here hx rfl (hb hby d8_15) k) ?_
    show own_Go p e below _ (T5.setTop (mkF m 17 #[.val (.ref a0), .val (.long q1), .second, .val (.int (0 : Int32)), .val (.int (-1 : Int32)), .val (.int (4 : Int32)), .val (.long v4), .second] [(.int (8 : Int32)), (.int (0 : Int32)), (.int (4 : Int32))]))
    refine own_by (fun _ k => XS.iadd X5.here hx rfl (hb hby d8_17) rfl k) ?_
    show own_Go p e below _ (T5.setTop (mkF m 18 #[.val (.ref a0), .val (.long q1), .second, .val (.int (0 : Int32)), .val (.int (-1 : Int32)), .val (.int (4 : Int32)), .val (.long v4), .second] [(.int (8 : Int32)), (.int (4 : Int32))]))
    refine own_by (fun _ k => XS.icmpNo X5.here hx rfl (hb hby d8_18) rfl (tlt (by decide : (4 : Int32) < (8 : Int32))).2.1 k) ?_
    show own_Go p e below _ (T5.setTop (mkF m 21 #[.val (.ref a0), .val (.long q1), .second, .val (.int (0 : Int32)), .val (.int (-1 : Int32)), .val (.int (4 : Int32)), .val (.long v4), .second] []))
    refine own_by (fun _ k => XS.aloadN X5.here hx rfl (hb hby d8_21) rfl rfl k) ?_
    show own_Go p e below _ (T5.setTop (mkF m 22 #[.val (.ref a0), .val (.long q1), .second, .val (.int (0 : Int32)), .val (.int (-1 : Int32)), .val (.int (4 : Int32)), .val (.long v4), .second] [(.ref a0)]))
    obtain ⟨T32, X32, e32, st32⟩ := getF X5 hx hZ hown (host := "") (Or.inl (hw _ (List.mem_of_getElem? (i := 15) rfl))) Via.refl e5 P_F_a0_entries (g := (mkF m 22 #[.val (.ref a0), .val (.long q1), .second, .val (.int (0 : Int32)), .val (.int (-1 : Int32)), .val (.int (4 : Int32)), .val (.long v4), .second] [(.ref a0)])) rfl rfl (hb hby d8_22)
    refine own_by st32 ?_
    show own_Go p e below _ (T32.setTop (mkF m 25 #[.val (.ref a0), .val (.long q1), .second, .val (.int (0 : Int32)), .val (.int (-1 : Int32)), .val (.int (4 : Int32)), .val (.long v4), .second] [(.ref f_a0_entries)]))
    refine own_by (fun _ k => XS.iload X32.here hx rfl (hb hby d8_25) rfl k) ?_
    show own_Go p e below _ (T32.setTop (mkF m 27 #[.val (.ref a0), .val (.long q1), .second, .val (.int (0 : Int32)), .val (.int (-1 : Int32)), .val (.int (4 : Int32)), .val (.long v4), .second] [(.int (4 : Int32)), (.ref f_a0_entries)]))
    refine own_by (fun _ k => XS.iconst X32.here hx rfl (hb hby d8_27) k) ?_
    show own_Go p e below _ (T32.setTop (mkF m 28 #[.val (.ref a0), .val (.long q1), .second, .val (.int (0 : Int32)), .val (.int (-1 : Int32)), .val (.int (4 : Int32)), .val (.long v4), .second] [(.int (3 : Int32)), (.int (4 : Int32)), (.ref f_a0_entries)]))
    refine own_by (fun _ k => XS.iadd X32.here hx rfl (hb hby d8_28) rfl k) ?_
    show own_Go p e below _ (T32.setTop (mkF m 29 #[.val (.ref a0), .val (.long q1), .second, .val (.int (0 : Int32)), .val (.int (-1 : Int32)), .val (.int (4 : Int32)), .val (.long v4), .second] [(.int (7 : Int32)), (.ref f_a0_entries)]))
    obtain ⟨cl33, Ar33, qq33, S33, M33, H33, G33⟩ := id P_V_f_a0_entries
    have hin33 : ¬ ((7 : Int32) < 0 ∨ cl33.slots.size ≤ ((7 : Int32)).toNatClampNeg) := inb_of S33 ⟨by decide, by decide⟩
    refine own_by (fun t k => X32.laload hx (j := (7 : Int32)) (v := (.long (fn_f_a0_entries 7))) (by rw [e32]; exact Ar33.1) (State.isArrayOf_alike hZ.alike Ar33.2.1) Ar33.2.2 hin33 (H33 _ (Nat.lt_of_not_le fun y => hin33 (Or.inr y))) (g := (mkF m 29 #[.val (.ref a0), .val (.long q1), .second, .val (.int (0 : Int32)), .val (.int (-1 : Int32)), .val (.int (4 : Int32)), .val (.long v4), .second] [(.int (7 : Int32)), (.ref f_a0_entries)])) rfl rfl (hb hby d8_29) _ k) ?_
    show own_Go p e below _ (T32.setTop (mkF m 30 #[.val (.ref a0), .val (.long q1), .second, .val (.int (0 : Int32)), .val (.int (-1 : Int32)), .val (.int (4 : Int32)), .val (.long v4), .second] [(.long (fn_f_a0_entries 7))]))
    refine own_by (fun t k => X32.ldc2Long hx hown (mvT hZ (hw _ (List.mem_of_getElem? (i := 52) rfl))) (g := (mkF m 30 #[.val (.ref a0), .val (.long q1), .second, .val (.int (0 : Int32)), .val (.int (-1 : Int32)), .val (.int (4 : Int32)), .val (.long v4), .second] [(.long (fn_f_a0_entries 7))])) rfl (hb hby d8_30) _ k) ?_
    show own_Go p e below _ (T32.setTop (mkF m 33 #[.val (.ref a0), .val (.long q1), .second, .val (.int (0 : Int32)), .val (.int (-1 : Int32)), .val (.int (4 : Int32)), .val (.long v4), .second] [(.long (2147483647 : Int64)), (.long (fn_f_a0_entries 7))]))
    refine own_by (fun _ k => XS.land X32.here hx rfl (hb hby d8_33) rfl k) ?_
    show own_Go p e below _ (T32.setTop (mkF m 34 #[.val (.ref a0), .val (.long q1), .second, .val (.int (0 : Int32)), .val (.int (-1 : Int32)), .val (.int (4 : Int32)), .val (.long v4), .second] [(.long ((fn_f_a0_entries 7) &&& (2147483647 : Int64)))]))
    refine own_by (fun _ k => XS.lstore X32.here hx rfl (hb hby d8_34) rfl (l' := #[.val (.ref a0), .val (.long q1), .second, .val (.int (0 : Int32)), .val (.int (-1 : Int32)), .val (.int (4 : Int32)), .val (.long ((fn_f_a0_entries 7) &&& (2147483647 : Int64))), .second]) rfl k) ?_
    show own_Go p e below _ (T32.setTop (mkF m 36 #[.val (.ref a0), .val (.long q1), .second, .val (.int (0 : Int32)), .val (.int (-1 : Int32)), .val (.int (4 : Int32)), .val (.long ((fn_f_a0_entries 7) &&& (2147483647 : Int64))), .second] []))
    generalize hv34 : ((fn_f_a0_entries 7) &&& (2147483647 : Int64)) = v34
    show own_Go p e below _ (T32.setTop (mkF m 36 #[.val (.ref a0), .val (.long q1), .second, .val (.int (0 : Int32)), .val (.int (-1 : Int32)), .val (.int (4 : Int32)), .val (.long v34), .second] []))
    refine own_by (fun _ k => XS.aloadN X32.here hx rfl (hb hby d8_36) rfl rfl k) ?_
    show own_Go p e below _ (T32.setTop (mkF m 37 #[.val (.ref a0), .val (.long q1), .second, .val (.int (0 : Int32)), .val (.int (-1 : Int32)), .val (.int (4 : Int32)), .val (.long v34), .second] [(.ref a0)]))
    obtain ⟨T35, X35, e35, st35⟩ := getF X32 hx hZ hown (host := "") (Or.inl (hw _ (List.mem_of_getElem? (i := 15) rfl))) Via.refl e32 P_F_a0_entries (g := (mkF m 37 #[.val (.ref a0), .val (.long q1), .second, .val (.int (0 : Int32)), .val (.int (-1 : Int32)), .val (.int (4 : Int32)), .val (.long v34), .second] [(.ref a0)])) rfl rfl (hb hby d8_37)
    refine own_by st35 ?_
    show own_Go p e below _ (T35.setTop (mkF m 40 #[.val (.ref a0), .val (.long q1), .second, .val (.int (0 : Int32)), .val (.int (-1 : Int32)), .val (.int (4 : Int32)), .val (.long v34), .second] [(.ref f_a0_entries)]))
    refine own_by (fun _ k => XS.iload X35.here hx rfl (hb hby d8_40) rfl k) ?_
    show own_Go p e below _ (T35.setTop (mkF m 42 #[.val (.ref a0), .val (.long q1), .second, .val (.int (0 : Int32)), .val (.int (-1 : Int32)), .val (.int (4 : Int32)), .val (.long v34), .second] [(.int (4 : Int32)), (.ref f_a0_entries)]))
    obtain ⟨cl36, Ar36, qq36, S36, M36, H36, G36⟩ := id P_V_f_a0_entries
    have hin36 : ¬ ((4 : Int32) < 0 ∨ cl36.slots.size ≤ ((4 : Int32)).toNatClampNeg) := inb_of S36 ⟨by decide, by decide⟩
    refine own_by (fun t k => X35.laload hx (j := (4 : Int32)) (v := (.long (fn_f_a0_entries 4))) (by rw [e35]; exact Ar36.1) (State.isArrayOf_alike hZ.alike Ar36.2.1) Ar36.2.2 hin36 (H36 _ (Nat.lt_of_not_le fun y => hin36 (Or.inr y))) (g := (mkF m 42 #[.val (.ref a0), .val (.long q1), .second, .val (.int (0 : Int32)), .val (.int (-1 : Int32)), .val (.int (4 : Int32)), .val (.long v34), .second] [(.int (4 : Int32)), (.ref f_a0_entries)])) rfl rfl (hb hby d8_42) _ k) ?_
    show own_Go p e below _ (T35.setTop (mkF m 43 #[.val (.ref a0), .val (.long q1), .second, .val (.int (0 : Int32)), .val (.int (-1 : Int32)), .val (.int (4 : Int32)), .val (.long v34), .second] [(.long (fn_f_a0_entries 4))]))
    refine own_by (fun _ k => XS.lloadN X35.here hx rfl (hb hby d8_43) rfl k) ?_
    show own_Go p e below _ (T35.setTop (mkF m 44 #[.val (.ref a0), .val (.long q1), .second, .val (.int (0 : Int32)), .val (.int (-1 : Int32)), .val (.int (4 : Int32)), .val (.long v34), .second] [(.long q1), (.long (fn_f_a0_entries 4))]))
    refine own_by (fun _ k => XS.lcmp X35.here hx rfl (hb hby d8_44) rfl k) ?_
    show own_Go p e below _ (T35.setTop (mkF m 45 #[.val (.ref a0), .val (.long q1), .second, .val (.int (0 : Int32)), .val (.int (-1 : Int32)), .val (.int (4 : Int32)), .val (.long v34), .second] [(.int (lcmpW (fn_f_a0_entries 4) q1))]))
    by_cases c37 : (fn_f_a0_entries 4) = q1
    · skip
      refine own_by (fun _ k => XS.ifNo X35.here hx rfl (hb hby d8_45) rfl ((if0 _ _).trans (teq ((lw_eq _ _).mpr c37)).2) k) ?_
      show own_Go p e below _ (T35.setTop (mkF m 48 #[.val (.ref a0), .val (.long q1), .second, .val (.int (0 : Int32)), .val (.int (-1 : Int32)), .val (.int (4 : Int32)), .val (.long v34), .second] []))
      refine own_by (fun _ k => XS.lload X35.here hx rfl (hb hby d8_48) rfl k) ?_
      show own_Go p e below _ (T35.setTop (mkF m 50 #[.val (.ref a0), .val (.long q1), .second, .val (.int (0 : Int32)), .val (.int (-1 : Int32)), .val (.int (4 : Int32)), .val (.long v34), .second] [(.long v34)]))
      refine own_by (fun _ k => XS.aloadN X35.here hx rfl (hb hby d8_50) rfl rfl k) ?_
      show own_Go p e below _ (T35.setTop (mkF m 51 #[.val (.ref a0), .val (.long q1), .second, .val (.int (0 : Int32)), .val (.int (-1 : Int32)), .val (.int (4 : Int32)), .val (.long v34), .second] [(.ref a0), (.long v34)]))
      obtain ⟨T38, X38, e38, st38⟩ := getF X35 hx hZ hown (host := "") (Or.inl (hw _ (List.mem_of_getElem? (i := 12) rfl))) Via.refl e35 P_F_a0_settledSince (g := (mkF m 51 #[.val (.ref a0), .val (.long q1), .second, .val (.int (0 : Int32)), .val (.int (-1 : Int32)), .val (.int (4 : Int32)), .val (.long v34), .second] [(.ref a0), (.long v34)])) rfl rfl (hb hby d8_51)
      refine own_by st38 ?_
      show own_Go p e below _ (T38.setTop (mkF m 54 #[.val (.ref a0), .val (.long q1), .second, .val (.int (0 : Int32)), .val (.int (-1 : Int32)), .val (.int (4 : Int32)), .val (.long v34), .second] [(.long f_a0_settledSince), (.long v34)]))
      refine own_by (fun _ k => XS.lcmp X38.here hx rfl (hb hby d8_54) rfl k) ?_
      show own_Go p e below _ (T38.setTop (mkF m 55 #[.val (.ref a0), .val (.long q1), .second, .val (.int (0 : Int32)), .val (.int (-1 : Int32)), .val (.int (4 : Int32)), .val (.long v34), .second] [(.int (lcmpW v34 f_a0_settledSince))]))
      by_cases c39 : v34 < f_a0_settledSince
      · skip
        refine own_by (fun _ k => XS.ifYes X38.here hx rfl (pc0 := 55) (pc' := 75) rfl (hb hby d8_55) rfl ((if0 _ _).trans (tlt ((lw_lt _ _).mpr c39)).1) (by decide) (by decide) k) ?_
        show own_Go p e below _ (T38.setTop (mkF m 75 #[.val (.ref a0), .val (.long q1), .second, .val (.int (0 : Int32)), .val (.int (-1 : Int32)), .val (.int (4 : Int32)), .val (.long v34), .second] []))
        refine own_by (fun _ k => XS.iinc X38.here hx rfl (hb hby d8_75) rfl (l' := #[.val (.ref a0), .val (.long q1), .second, .val (.int (0 : Int32)), .val (.int (-1 : Int32)), .val (.int (8 : Int32)), .val (.long v34), .second]) rfl k) ?_
        show own_Go p e below _ (T38.setTop (mkF m 78 #[.val (.ref a0), .val (.long q1), .second, .val (.int (0 : Int32)), .val (.int (-1 : Int32)), .val (.int (8 : Int32)), .val (.long v34), .second] []))
        refine own_by (fun _ k => XS.goto X38.here hx rfl (pc0 := 78) (pc' := 12) rfl (hb hby d8_78) (by decide) (by decide) k) ?_
        show own_Go p e below _ (T38.setTop (mkF m 12 #[.val (.ref a0), .val (.long q1), .second, .val (.int (0 : Int32)), .val (.int (-1 : Int32)), .val (.int (8 : Int32)), .val (.long v34), .second] []))
        refine own_by (fun _ k => XS.iload X38.here hx rfl (hb hby d8_12) rfl k) ?_
        show own_Go p e below _ (T38.setTop (mkF m 14 #[.val (.ref a0), .val (.long q1), .second, .val (.int (0 : Int32)), .val (.int (-1 : Int32)), .val (.int (8 : Int32)), .val (.long v34), .second] [(.int (8 : Int32))]))
        refine own_by (fun _ k => XS.iloadN X38.here hx rfl (hb hby d8_14) rfl k) ?_
        show own_Go p e below _ (T38.setTop (mkF m 15 #[.val (.ref a0), .val (.long q1), .second, .val (.int (0 : Int32)), .val (.int (-1 : Int32)), .val (.int (8 : Int32)), .val (.long v34), .second] [(.int (0 : Int32)), (.int (8 : Int32))]))
        refine own_by (fun _ k => XS.bipush X38.here hx rfl (hb hby d8_15) k) ?_
        show own_Go p e below _ (T38.setTop (mkF m 17 #[.val (.ref a0), .val (.long q1), .second, .val (.int (0 : Int32)), .val (.int (-1 : Int32)), .val (.int (8 : Int32)), .val (.long v34), .second] [(.int (8 : Int32)), (.int (0 : Int32)), (.int (8 : Int32))]))
        refine own_by (fun _ k => XS.iadd X38.here hx rfl (hb hby d8_17) rfl k) ?_
        show own_Go p e below _ (T38.setTop (mkF m 18 #[.val (.ref a0), .val (.long q1), .second, .val (.int (0 : Int32)), .val (.int (-1 : Int32)), .val (.int (8 : Int32)), .val (.long v34), .second] [(.int (8 : Int32)), (.int (8 : Int32))]))
        refine own_by (fun _ k => XS.icmpYes X38.here hx rfl (pc0 := 18) (pc' := 81) rfl (hb hby d8_18) rfl (flt (by decide : ¬ ((8 : Int32) < (8 : Int32)))).2.1 (by decide) (by decide) k) ?_
        show own_Go p e below _ (T38.setTop (mkF m 81 #[.val (.ref a0), .val (.long q1), .second, .val (.int (0 : Int32)), .val (.int (-1 : Int32)), .val (.int (8 : Int32)), .val (.long v34), .second] []))
        refine own_by (fun _ k => XS.iload X38.here hx rfl (hb hby d8_81) rfl k) ?_
        show own_Go p e below _ (T38.setTop (mkF m 83 #[.val (.ref a0), .val (.long q1), .second, .val (.int (0 : Int32)), .val (.int (-1 : Int32)), .val (.int (8 : Int32)), .val (.long v34), .second] [(.int (-1 : Int32))]))
        exact own_retI X38 hx Bd.returns (hb hby d8_83) hlk e38 ⟨_, rfl, N1, rfl, (ob_8_27 fn_f_a0_entries q1 f_a0_settledSince f_a0_generation v4 v34 hv4 c7 hv34 c37 c39)⟩ (by decide) (by decide)
      · skip
        refine own_by (fun _ k => XS.ifNo X38.here hx rfl (hb hby d8_55) rfl ((if0 _ _).trans (flt (fun q => c39 ((lw_lt _ _).mp q))).1) k) ?_
        show own_Go p e below _ (T38.setTop (mkF m 58 #[.val (.ref a0), .val (.long q1), .second, .val (.int (0 : Int32)), .val (.int (-1 : Int32)), .val (.int (4 : Int32)), .val (.long v34), .second] []))
        refine own_by (fun _ k => XS.lload X38.here hx rfl (hb hby d8_58) rfl k) ?_
        show own_Go p e below _ (T38.setTop (mkF m 60 #[.val (.ref a0), .val (.long q1), .second, .val (.int (0 : Int32)), .val (.int (-1 : Int32)), .val (.int (4 : Int32)), .val (.long v34), .second] [(.long v34)]))
        refine own_by (fun _ k => XS.aloadN X38.here hx rfl (hb hby d8_60) rfl rfl k) ?_
        show own_Go p e below _ (T38.setTop (mkF m 61 #[.val (.ref a0), .val (.long q1), .second, .val (.int (0 : Int32)), .val (.int (-1 : Int32)), .val (.int (4 : Int32)), .val (.long v34), .second] [(.ref a0), (.long v34)]))
        obtain ⟨T40, X40, e40, st40⟩ := getF X38 hx hZ hown (host := "") (Or.inl (hw _ (List.mem_of_getElem? (i := 10) rfl))) Via.refl e38 P_F_a0_generation (g := (mkF m 61 #[.val (.ref a0), .val (.long q1), .second, .val (.int (0 : Int32)), .val (.int (-1 : Int32)), .val (.int (4 : Int32)), .val (.long v34), .second] [(.ref a0), (.long v34)])) rfl rfl (hb hby d8_61)
        refine own_by st40 ?_
        show own_Go p e below _ (T40.setTop (mkF m 64 #[.val (.ref a0), .val (.long q1), .second, .val (.int (0 : Int32)), .val (.int (-1 : Int32)), .val (.int (4 : Int32)), .val (.long v34), .second] [(.long f_a0_generation), (.long v34)]))
        refine own_by (fun _ k => XS.lcmp X40.here hx rfl (hb hby d8_64) rfl k) ?_
        show own_Go p e below _ (T40.setTop (mkF m 65 #[.val (.ref a0), .val (.long q1), .second, .val (.int (0 : Int32)), .val (.int (-1 : Int32)), .val (.int (4 : Int32)), .val (.long v34), .second] [(.int (lcmpW v34 f_a0_generation))]))
        by_cases c41 : v34 < f_a0_generation
        · skip
          refine own_by (fun _ k => XS.ifNo X40.here hx rfl (hb hby d8_65) rfl ((if0 _ _).trans (tlt ((lw_lt _ _).mpr c41)).2.1) k) ?_
          show own_Go p e below _ (T40.setTop (mkF m 68 #[.val (.ref a0), .val (.long q1), .second, .val (.int (0 : Int32)), .val (.int (-1 : Int32)), .val (.int (4 : Int32)), .val (.long v34), .second] []))
          refine own_by (fun _ k => XS.iload X40.here hx rfl (hb hby d8_68) rfl k) ?_
          show own_Go p e below _ (T40.setTop (mkF m 70 #[.val (.ref a0), .val (.long q1), .second, .val (.int (0 : Int32)), .val (.int (-1 : Int32)), .val (.int (4 : Int32)), .val (.long v34), .second] [(.int (4 : Int32))]))
          refine own_by (fun _ k => XS.istore X40.here hx rfl (hb hby d8_70) rfl (l' := #[.val (.ref a0), .val (.long q1), .second, .val (.int (0 : Int32)), .val (.int (4 : Int32)), .val (.int (4 : Int32)), .val (.long v34), .second]) rfl k) ?_
          show own_Go p e below _ (T40.setTop (mkF m 72 #[.val (.ref a0), .val (.long q1), .second, .val (.int (0 : Int32)), .val (.int (4 : Int32)), .val (.int (4 : Int32)), .val (.long v34), .second] []))
          refine own_by (fun _ k => XS.goto X40.here hx rfl (pc0 := 72) (pc' := 81) rfl (hb hby d8_72) (by decide) (by decide) k) ?_
          show own_Go p e below _ (T40.setTop (mkF m 81 #[.val (.ref a0), .val (.long q1), .second, .val (.int (0 : Int32)), .val (.int (4 : Int32)), .val (.int (4 : Int32)), .val (.long v34), .second] []))
          refine own_by (fun _ k => XS.iload X40.here hx rfl (hb hby d8_81) rfl k) ?_
          show own_Go p e below _ (T40.setTop (mkF m 83 #[.val (.ref a0), .val (.long q1), .second, .val (.int (0 : Int32)), .val (.int (4 : Int32)), .val (.int (4 : Int32)), .val (.long v34), .second] [(.int (4 : Int32))]))
          exact own_retI X40 hx Bd.returns (hb hby d8_83) hlk e40 ⟨_, rfl, N1, rfl, (ob_8_28 fn_f_a0_entries q1 f_a0_settledSince f_a0_generation v4 v34 hv4 c7 hv34 c37 c39 c41)⟩ (by decide) (by decide)
        · skip
          refine own_by (fun _ k => XS.ifYes X40.here hx rfl (pc0 := 65) (pc' := 75) rfl (hb hby d8_65) rfl ((if0 _ _).trans (flt (fun q => c41 ((lw_lt _ _).mp q))).2.1) (by decide) (by decide) k) ?_
          show own_Go p e below _ (T40.setTop (mkF m 75 #[.val (.ref a0), .val (.long q1), .second, .val (.int (0 : Int32)), .val (.int (-1 : Int32)), .val (.int (4 : Int32)), .val (.long v34), .second] []))
          refine own_by (fun _ k => XS.iinc X40.here hx rfl (hb hby d8_75) rfl (l' := #[.val (.ref a0), .val (.long q1), .second, .val (.int (0 : Int32)), .val (.int (-1 : Int32)), .val (.int (8 : Int32)), .val (.long v34), .second]) rfl k) ?_
          show own_Go p e below _ (T40.setTop (mkF m 78 #[.val (.ref a0), .val (.long q1), .second, .val (.int (0 : Int32)), .val (.int (-1 : Int32)), .val (.int (8 : Int32)), .val (.long v34), .second] []))
          refine own_by (fun _ k => XS.goto X40.here hx rfl (pc0 := 78) (pc' := 12) rfl (hb hby d8_78) (by decide) (by decide) k) ?_
          show own_Go p e below _ (T40.setTop (mkF m 12 #[.val (.ref a0), .val (.long q1), .second, .val (.int (0 : Int32)), .val (.int (-1 : Int32)), .val (.int (8 : Int32)), .val (.long v34), .second] []))
          refine own_by (fun _ k => XS.iload X40.here hx rfl (hb hby d8_12) rfl k) ?_
          show own_Go p e below _ (T40.setTop (mkF m 14 #[.val (.ref a0), .val (.long q1), .second, .val (.int (0 : Int32)), .val (.int (-1 : Int32)), .val (.int (8 : Int32)), .val (.long v34), .second] [(.int (8 : Int32))]))
          refine own_by (fun _ k => XS.iloadN X40.here hx rfl (hb hby d8_14) rfl k) ?_
          show own_Go p e below _ (T40.setTop (mkF m 15 #[.val (.ref a0), .val (.long q1), .second, .val (.int (0 : Int32)), .val (.int (-1 : Int32)), .val (.int (8 : Int32)), .val (.long v34), .second] [(.int (0 : Int32)), (.int (8 : Int32))]))
          refine own_by (fun _ k => XS.bipush X40.here hx rfl (hb hby d8_15) k) ?_
          show own_Go p e below _ (T40.setTop (mkF m 17 #[.val (.ref a0), .val (.long q1), .second, .val (.int (0 : Int32)), .val (.int (-1 : Int32)), .val (.int (8 : Int32)), .val (.long v34), .second] [(.int (8 : Int32)), (.int (0 : Int32)), (.int (8 : Int32))]))
          refine own_by (fun _ k => XS.iadd X40.here hx rfl (hb hby d8_17) rfl k) ?_
          show own_Go p e below _ (T40.setTop (mkF m 18 #[.val (.ref a0), .val (.long q1), .second, .val (.int (0 : Int32)), .val (.int (-1 : Int32)), .val (.int (8 : Int32)), .val (.long v34), .second] [(.int (8 : Int32)), (.int (8 : Int32))]))
          refine own_by (fun _ k => XS.icmpYes X40.here hx rfl (pc0 := 18) (pc' := 81) rfl (hb hby d8_18) rfl (flt (by decide : ¬ ((8 : Int32) < (8 : Int32)))).2.1 (by decide) (by decide) k) ?_
          show own_Go p e below _ (T40.setTop (mkF m 81 #[.val (.ref a0), .val (.long q1), .second, .val (.int (0 : Int32)), .val (.int (-1 : Int32)), .val (.int (8 : Int32)), .val (.long v34), .second] []))
          refine own_by (fun _ k => XS.iload X40.here hx rfl (hb hby d8_81) rfl k) ?_
          show own_Go p e below _ (T40.setTop (mkF m 83 #[.val (.ref a0), .val (.long q1), .second, .val (.int (0 : Int32)), .val (.int (-1 : Int32)), .val (.int (8 : Int32)), .val (.long v34), .second] [(.int (-1 : Int32))]))
          exact own_retI X40 hx Bd.returns (hb hby d8_83) hlk e40 ⟨_, rfl, N1, rfl, (ob_8_29 fn_f_a0_entries q1 f_a0_settledSince f_a0_generation v4 v34 hv4 c7 hv34 c37 c39 c41)⟩ (by decide) (by decide)
    · skip
      refine own_by (fun _ k => XS.ifYes X35.here hx rfl (pc0 := 45) (pc' := 75) rfl (hb hby d8_45) rfl ((if0 _ _).trans (feq (fun q => c37 ((lw_eq _ _).mp q))).2) (by decide) (by decide) k) ?_
      show own_Go p e below _ (T35.setTop (mkF m 75 #[.val (.ref a0), .val (.long q1), .second, .val (.int (0 : Int32)), .val (.int (-1 : Int32)), .val (.int (4 : Int32)), .val (.long v34), .second] []))
      refine own_by (fun _ k => XS.iinc X35.here hx rfl (hb hby d8_75) rfl (l' := #[.val (.ref a0), .val (.long q1), .second, .val (.int (0 : Int32)), .val (.int (-1 : Int32)), .val (.int (8 : Int32)), .val (.long v34), .second]) rfl k) ?_
      show own_Go p e below _ (T35.setTop (mkF m 78 #[.val (.ref a0), .val (.long q1), .second, .val (.int (0 : Int32)), .val (.int (-1 : Int32)), .val (.int (8 : Int32)), .val (.long v34), .second] []))
      refine own_by (fun _ k => XS.goto X35.here hx rfl (pc0 := 78) (pc' := 12) rfl (hb hby d8_78) (by decide) (by decide) k) ?_
      show own_Go p e below _ (T35.setTop (mkF m 12 #[.val (.ref a0), .val (.long q1), .second, .val (.int (0 : Int32)), .val (.int (-1 : Int32)), .val (.int (8 : Int32)), .val (.long v34), .second] []))
      refine own_by (fun _ k => XS.iload X35.here hx rfl (hb hby d8_12) rfl k) ?_
      show own_Go p e below _ (T35.setTop (mkF m 14 #[.val (.ref a0), .val (.long q1), .second, .val (.int (0 : Int32)), .val (.int (-1 : Int32)), .val (.int (8 : Int32)), .val (.long v34), .second] [(.int (8 : Int32))]))
      refine own_by (fun _ k => XS.iloadN X35.here hx rfl (hb hby d8_14) rfl k) ?_
      show own_Go p e below _ (T35.setTop (mkF m 15 #[.val (.ref a0), .val (.long q1), .second, .val (.int (0 : Int32)), .val (.int (-1 : Int32)), .val (.int (8 : Int32)), .val (.long v34), .second] [(.int (0 : Int32)), (.int (8 : Int32))]))
      refine own_by (fun _ k => XS.bipush X35.here hx rfl (hb hby d8_15) k) ?_
      show own_Go p e below _ (T35.setTop (mkF m 17 #[.val (.ref a0), .val (.long q1), .second, .val (.int (0 : Int32)), .val (.int (-1 : Int32)), .val (.int (8 : Int32)), .val (.long v34), .second] [(.int (8 : Int32)), (.int (0 : Int32)), (.int (8 : Int32))]))
      refine own_by (fun _ k => XS.iadd X35.here hx rfl (hb hby d8_17) rfl k) ?_
      show own_Go p e below _ (T35.setTop (mkF m 18 #[.val (.ref a0), .val (.long q1), .second, .val (.int (0 : Int32)), .val (.int (-1 : Int32)), .val (.int (8 : Int32)), .val (.long v34), .second] [(.int (8 : Int32)), (.int (8 : Int32))]))
      refine own_by (fun _ k => XS.icmpYes X35.here hx rfl (pc0 := 18) (pc' := 81) rfl (hb hby d8_18) rfl (flt (by decide : ¬ ((8 : Int32) < (8 : Int32)))).2.1 (by decide) (by decide) k) ?_
      show own_Go p e below _ (T35.setTop (mkF m 81 #[.val (.ref a0), .val (.long q1), .second, .val (.int (0 : Int32)), .val (.int (-1 : Int32)), .val (.int (8 : Int32)), .val (.long v34), .second] []))
      refine own_by (fun _ k => XS.iload X35.here hx rfl (hb hby d8_81) rfl k) ?_
      show own_Go p e below _ (T35.setTop (mkF m 83 #[.val (.ref a0), .val (.long q1), .second, .val (.int (0 : Int32)), .val (.int (-1 : Int32)), .val (.int (8 : Int32)), .val (.long v34), .second] [(.int (-1 : Int32))]))
      exact own_retI X35 hx Bd.returns (hb hby d8_83) hlk e35 ⟨_, rfl, N1, rfl, (ob_8_30 fn_f_a0_entries q1 f_a0_settledSince f_a0_generation v4 v34 hv4 c7 hv34 c37)⟩ (by decide) (by decide)
theorem pd_4 : parseMethodDescriptor "(I)V" = some ⟨[.int], none⟩ := by decide +kernel
theorem pd_20 : parseMethodDescriptor "(JIDDZ)V" = some ⟨[.long, .int, .double, .double, .boolean], none⟩ := by decide +kernel
theorem pn_0 : plainName "com/example/plyward/plyward/search/TranspositionTableEarlierPinLaw" = true := by first | (simp [plainName, overriddenIn]; done) | decide +kernel
theorem ef_0 (m : MethodId) (q0 : Int64) (q1 : Int64) (q2 : Int64) (p3 : Int32) (p4 : Int32) (p5 : Int32) : entryFrame m #[(.long q0), (.long q1), (.long q2), (.int p3), (.int p4), (.int p5)] maxLocals = mkF m 0 #[.val (.long q0), .second, .val (.long q1), .second, .val (.long q2), .second, .val (.int p3), .val (.int p4), .val (.int p5), .unset, .unset, .unset, .unset, .unset, .unset, .unset, .unset, .unset, .unset, .unset, .unset, .unset, .unset, .unset, .unset, .unset, .unset, .unset, .unset, .unset, .unset, .unset, .unset, .unset] [] := by first | (simp [entryFrame, mkF, argsToLocals, Value.category, maxLocals]; done) | rfl
theorem ob_0_31 (q0 : Int64) (q1 : Int64) (q2 : Int64) (p3 : Int32) (p4 : Int32) (p5 : Int32) (v1 : Int32) (z9 : Int32) (z18 : Int32) (z27 : Int32) (v29 : Int32) (v30 : Int32) (v31 : Int32) (y41 : Int64) (b56 : Nat → Int64) (y89 : Int64) (b101 : Nat → Int64) (y135 : Int64) (y136 : Int64) (o147 : Int32) (y156 : Int64) (y166 : Int64) (y167 : Int64) (z179 : Int32) (y188 : Int64) (y197 : Int64) (z217 : Int32) (hv1 : (p3 &&& (3 : Int32)) = v1) (hj10 : (((((p3.toUInt32 >>> ((2 : Int32) &&& 31).toUInt32).toInt32) &&& (1 : Int32)) = (0 : Int32)) ∧ z9 = (0 : Int32)) ∨ ((¬ ((((p3.toUInt32 >>> ((2 : Int32) &&& 31).toUInt32).toInt32) &&& (1 : Int32)) = (0 : Int32))) ∧ z9 = (1 : Int32))) (hj19 : (((((p3.toUInt32 >>> ((3 : Int32) &&& 31).toUInt32).toInt32) &&& (1 : Int32)) = (0 : Int32)) ∧ z18 = (0 : Int32)) ∨ ((¬ ((((p3.toUInt32 >>> ((3 : Int32) &&& 31).toUInt32).toInt32) &&& (1 : Int32)) = (0 : Int32))) ∧ z18 = (1 : Int32))) (hj28 : (((((p3.toUInt32 >>> ((4 : Int32) &&& 31).toUInt32).toInt32) &&& (1 : Int32)) = (0 : Int32)) ∧ z27 = (1 : Int32)) ∨ ((¬ ((((p3.toUInt32 >>> ((4 : Int32) &&& 31).toUInt32).toInt32) &&& (1 : Int32)) = (0 : Int32))) ∧ z27 = (0 : Int32))) (hv29 : ((((p3.toUInt32 >>> ((5 : Int32) &&& 31).toUInt32).toInt32) &&& (3 : Int32)) % (3 : Int32)) = v29) (hv30 : (p4 &&& (2147483647 : Int32)) = v30) (hv31 : (p5 &&& (2147483647 : Int32)) = v31) (hj42 : ((v1 = (0 : Int32)) ∧ y41 = q0) ∨ ((¬ (v1 = (0 : Int32))) ∧ (v1 = (1 : Int32)) ∧ y41 = q1) ∨ ((¬ (v1 = (0 : Int32))) ∧ (¬ (v1 = (1 : Int32))) ∧ (v1 = (2 : Int32)) ∧ y41 = q2) ∨ ((¬ (v1 = (0 : Int32))) ∧ (¬ (v1 = (1 : Int32))) ∧ (¬ (v1 = (2 : Int32))) ∧ y41 = (0 : Int64))) (hp58 : (∃ (y9 : Int64) (v12 : Int64), (((z9 = (0 : Int32)) ∧ y9 = (0 : Int64)) ∨ ((¬ (z9 = (0 : Int32))) ∧ y9 = (2147483648 : Int64))) ∧ (((((v30.toInt64) <<< ((32 : Int32) &&& 0x3f).toInt64) ||| y9) ||| (1 : Int64)) = v12) ∧ (own_find (fun _ => (0 : Int64)) q0 v30 (1 : Int64) (1 : Int64) (-1 : Int32)) ∧ b56 = (own_upd (own_upd (own_upd (own_upd (own_cp (fun _ => (0 : Int64)) 0 (fun _ => (0 : Int64)) 4 4) 0 q0) 1 ((13830554455654793216 : UInt64).toInt64)) 2 (FP.dconst1.toInt64)) 3 v12)) ∨ (∃ (y9 : Int64) (v12 : Int64), (((z9 = (0 : Int32)) ∧ y9 = (0 : Int64)) ∨ ((¬ (z9 = (0 : Int32))) ∧ y9 = (2147483648 : Int64))) ∧ (((((v30.toInt64) <<< ((32 : Int32) &&& 0x3f).toInt64) ||| y9) ||| (1 : Int64)) = v12) ∧ (own_find (fun _ => (0 : Int64)) q0 v30 (1 : Int64) (1 : Int64) (0 : Int32)) ∧ b56 = (own_upd (own_upd (own_upd (own_upd (own_cp (fun _ => (0 : Int64)) 0 (fun _ => (0 : Int64)) 4 0) 0 q0) 1 ((13830554455654793216 : UInt64).toInt64)) 2 (FP.dconst1.toInt64)) 3 v12)) ∨ (∃ (y9 : Int64) (v12 : Int64), (((z9 = (0 : Int32)) ∧ y9 = (0 : Int64)) ∨ ((¬ (z9 = (0 : Int32))) ∧ y9 = (2147483648 : Int64))) ∧ (((((v30.toInt64) <<< ((32 : Int32) &&& 0x3f).toInt64) ||| y9) ||| (1 : Int64)) = v12) ∧ (own_find (fun _ => (0 : Int64)) q0 v30 (1 : Int64) (1 : Int64) (4 : Int32)) ∧ b56 = (own_upd (own_upd (own_upd (own_upd (own_cp (fun _ => (0 : Int64)) 0 (fun _ => (0 : Int64)) 4 4) 0 q0) 1 ((13830554455654793216 : UInt64).toInt64)) 2 (FP.dconst1.toInt64)) 3 v12))) (hj99 : ((z27 = (0 : Int32)) ∧ y89 = (2 : Int64)) ∨ ((¬ (z27 = (0 : Int32))) ∧ y89 = (1 : Int64))) (hp103 : (∃ (y9 : Int64) (v12 : Int64), (((z18 = (0 : Int32)) ∧ y9 = (0 : Int64)) ∨ ((¬ (z18 = (0 : Int32))) ∧ y9 = (2147483648 : Int64))) ∧ (((((v31.toInt64) <<< ((32 : Int32) &&& 0x3f).toInt64) ||| y9) ||| (2 : Int64)) = v12) ∧ (own_find b56 q1 v31 (2 : Int64) y89 (-1 : Int32)) ∧ b101 = (own_upd (own_upd (own_upd (own_upd (own_cp b56 0 b56 4 4) 0 q1) 1 (FP.dconst0.toInt64)) 2 ((4611686018427387904 : UInt64).toInt64)) 3 v12)) ∨ (∃ (y9 : Int64) (v12 : Int64), (((z18 = (0 : Int32)) ∧ y9 = (0 : Int64)) ∨ ((¬ (z18 = (0 : Int32))) ∧ y9 = (2147483648 : Int64))) ∧ (((((v31.toInt64) <<< ((32 : Int32) &&& 0x3f).toInt64) ||| y9) ||| (2 : Int64)) = v12) ∧ (own_find b56 q1 v31 (2 : Int64) y89 (0 : Int32)) ∧ b101 = (own_upd (own_upd (own_upd (own_upd (own_cp b56 0 b56 4 0) 0 q1) 1 (FP.dconst0.toInt64)) 2 ((4611686018427387904 : UInt64).toInt64)) 3 v12)) ∨ (∃ (y9 : Int64) (v12 : Int64), (((z18 = (0 : Int32)) ∧ y9 = (0 : Int64)) ∨ ((¬ (z18 = (0 : Int32))) ∧ y9 = (2147483648 : Int64))) ∧ (((((v31.toInt64) <<< ((32 : Int32) &&& 0x3f).toInt64) ||| y9) ||| (2 : Int64)) = v12) ∧ (own_find b56 q1 v31 (2 : Int64) y89 (4 : Int32)) ∧ b101 = (own_upd (own_upd (own_upd (own_upd (own_cp b56 0 b56 4 4) 0 q1) 1 (FP.dconst0.toInt64)) 2 ((4611686018427387904 : UInt64).toInt64)) 3 v12))) (hj145 : ((v29 = (1 : Int32)) ∧ y135 = (3 : Int64) ∧ y136 = y89) ∨ ((¬ (v29 = (1 : Int32))) ∧ (v29 = (2 : Int32)) ∧ y135 = (3 : Int64) ∧ y136 = (3 : Int64)) ∨ ((¬ (v29 = (1 : Int32))) ∧ (¬ (v29 = (2 : Int32))) ∧ y135 = (2 : Int64) ∧ y136 = y89)) (hp148 : own_earlier b101 y41 y135 y136 o147) (hj157 : ((z27 = (0 : Int32)) ∧ y156 = (2 : Int64)) ∨ ((¬ (z27 = (0 : Int32))) ∧ y156 = (1 : Int64))) (hj168 : ((v29 = (1 : Int32)) ∧ y166 = y156 ∧ y167 = (3 : Int64)) ∨ ((¬ (v29 = (1 : Int32))) ∧ (v29 = (2 : Int32)) ∧ y166 = (3 : Int64) ∧ y167 = (3 : Int64)) ∨ ((¬ (v29 = (1 : Int32))) ∧ (¬ (v29 = (2 : Int32))) ∧ y166 = y156 ∧ y167 = (2 : Int64))) (hj180 : ((q1 = q0) ∧ (z9 = (0 : Int32)) ∧ z179 = (0 : Int32)) ∨ ((q1 = q0) ∧ (¬ (z9 = (0 : Int32))) ∧ (z27 = (0 : Int32)) ∧ z179 = (0 : Int32)) ∨ ((q1 = q0) ∧ (¬ (z9 = (0 : Int32))) ∧ (¬ (z27 = (0 : Int32))) ∧ (v31 < v30) ∧ z179 = (0 : Int32)) ∨ ((q1 = q0) ∧ (¬ (z9 = (0 : Int32))) ∧ (¬ (z27 = (0 : Int32))) ∧ (¬ (v31 < v30)) ∧ z179 = (1 : Int32)) ∨ ((¬ (q1 = q0)) ∧ z179 = (0 : Int32))) (hj189 : ((z179 = (0 : Int32)) ∧ y188 = q0) ∨ ((¬ (z179 = (0 : Int32))) ∧ y188 = (0 : Int64))) (hj198 : ((z179 = (0 : Int32)) ∧ y197 = (1 : Int64)) ∨ ((¬ (z179 = (0 : Int32))) ∧ y197 = (0 : Int64))) (hj218 : ((y41 = q1) ∧ ((2 : Int64) < y166) ∧ (y41 = y188) ∧ (y197 < y166) ∧ z217 = (-1 : Int32)) ∨ ((y41 = q1) ∧ ((2 : Int64) < y166) ∧ (y41 = y188) ∧ (¬ (y197 < y166)) ∧ (y197 < y167) ∧ z217 = (4 : Int32)) ∨ ((y41 = q1) ∧ ((2 : Int64) < y166) ∧ (y41 = y188) ∧ (¬ (y197 < y166)) ∧ (¬ (y197 < y167)) ∧ z217 = (-1 : Int32)) ∨ ((y41 = q1) ∧ ((2 : Int64) < y166) ∧ (¬ (y41 = y188)) ∧ z217 = (-1 : Int32)) ∨ ((y41 = q1) ∧ (¬ ((2 : Int64) < y166)) ∧ ((2 : Int64) < y167) ∧ z217 = (0 : Int32)) ∨ ((y41 = q1) ∧ (¬ ((2 : Int64) < y166)) ∧ (¬ ((2 : Int64) < y167)) ∧ (y41 = y188) ∧ (y197 < y166) ∧ z217 = (-1 : Int32)) ∨ ((y41 = q1) ∧ (¬ ((2 : Int64) < y166)) ∧ (¬ ((2 : Int64) < y167)) ∧ (y41 = y188) ∧ (¬ (y197 < y166)) ∧ (y197 < y167) ∧ z217 = (4 : Int32)) ∨ ((y41 = q1) ∧ (¬ ((2 : Int64) < y166)) ∧ (¬ ((2 : Int64) < y167)) ∧ (y41 = y188) ∧ (¬ (y197 < y166)) ∧ (¬ (y197 < y167)) ∧ z217 = (-1 : Int32)) ∨ ((y41 = q1) ∧ (¬ ((2 : Int64) < y166)) ∧ (¬ ((2 : Int64) < y167)) ∧ (¬ (y41 = y188)) ∧ z217 = (-1 : Int32)) ∨ ((¬ (y41 = q1)) ∧ (y41 = y188) ∧ (y197 < y166) ∧ z217 = (-1 : Int32)) ∨ ((¬ (y41 = q1)) ∧ (y41 = y188) ∧ (¬ (y197 < y166)) ∧ (y197 < y167) ∧ z217 = (4 : Int32)) ∨ ((¬ (y41 = q1)) ∧ (y41 = y188) ∧ (¬ (y197 < y166)) ∧ (¬ (y197 < y167)) ∧ z217 = (-1 : Int32)) ∨ ((¬ (y41 = q1)) ∧ (¬ (y41 = y188)) ∧ z217 = (-1 : Int32))) (c219 : ¬ (o147 = z217)) : False := by
  have n1 : ¬ v30 < (0 : Int32) := hv30 ▸ own_mask31 p4
  have n2 : ¬ v31 < (0 : Int32) := hv31 ▸ own_mask31 p5
  obtain ⟨a0, -, a3, a3d, a3s, ac⟩ := own_first (fun _ => (0 : Int64)) q0 v30 z9 _ _ n1 1 (Or.inl rfl) b56 (own_find (fun _ => (0 : Int64)) q0 v30 (1 : Int64) (1 : Int64)) hp58
  obtain ⟨b0, -, b3, b3d, b3s, bc⟩ := own_first b56 q1 v31 z18 _ _ n2 2 (Or.inr (Or.inl rfl)) b101 (own_find b56 q1 v31 (2 : Int64) y89) hp103
  have hz := own_holds0 v30 1 1 (by decide)
  have a4 : b56 4 = (0 : Int64) ∧ b56 7 = (0 : Int64) := by
    rcases ac with ⟨-, h⟩ | ⟨-, h⟩
    · exact ⟨h.1, h.2.2⟩
    · exact ⟨h.1, h.2.2⟩
  have hA := own_holdsW (b56 3) v31 v30 2 1 y89 a3 a3d z9 a3s
  have hB := own_holds0 v31 2 y89 (by decide)
  have e1 : ∀ x g s : Int64, own_early x g s ↔ ¬ (x &&& (2147483647 : Int64)) < s ∧ (x &&& (2147483647 : Int64)) < g := fun _ _ _ => Iff.rfl
  have e2 : own_early (b101 3) y135 y136 ↔ ¬ (2 : Int64) < y136 ∧ (2 : Int64) < y135 := by rw [e1, b3]
  have e3 : own_early (b56 3) y135 y136 ↔ ¬ (1 : Int64) < y136 ∧ (1 : Int64) < y135 := by rw [e1, a3]
  have e4 : own_early (0 : Int64) y135 y136 ↔ ¬ (0 : Int64) < y136 ∧ (0 : Int64) < y135 := by rw [e1]; rfl
  have hy : y156 = y89 ∧ (y89 = (2 : Int64) ∨ y89 = (1 : Int64)) ∧ (z27 = (0 : Int32) ↔ y89 = (2 : Int64)) := own_y _ _ _ hj99 hj157
  have hg : y166 = y136 ∧ y167 = y135 ∧ (y135 = (2 : Int64) ∨ y135 = (3 : Int64)) ∧ (y136 = (1 : Int64) ∨ y136 = (2 : Int64) ∨ y136 = (3 : Int64)) := own_g _ _ _ _ _ _ _ ⟨hy.1, hy.2.1⟩ hj145 hj168
  obtain ⟨rfl, rfl, g1, g2⟩ := hg
  obtain ⟨rfl, g3, g4⟩ := hy
  have cc : (b101 4 = (0 : Int64) ∧ b101 7 = (0 : Int64) ∧ ¬ z179 = (0 : Int32)) ∨ (b101 4 = q0 ∧ b101 7 = b56 3 ∧ z179 = (0 : Int32)) := by
    clear hj218 hj145 hj168 hp148 e2 e3 e4 e1 hp58 hp103
    have hC : own_holds (b56 7) v31 2 y156 ↔ False := by rw [a4.2]; exact iff_false_intro hB
    simp only [own_find, hA, hC, a0] at bc
    clear hz ac
    grind
  simp only [own_earlier, b0, e2] at hp148
  clear hp58 hp103 hA hB hz ac bc a4 hj180 hj145 hj168 hj99 hj157 e1 e2 hj10 hj19 hj28 hv29 hv30 hv31 hj42 hv1
  have hz179 : z179 = (0 : Int32) ∧ y188 = q0 ∧ y197 = (1 : Int64) ∨ ¬ z179 = (0 : Int32) ∧ y188 = (0 : Int64) ∧ y197 = (0 : Int64) := by clear hj218 hp148; grind
  clear hj189 hj198
  rcases cc with ⟨c1, c2, c3⟩ | ⟨c1, c2, c3⟩
  · rw [c1, c2, e4] at hp148
    rcases hz179 with ⟨d1, d2, d3⟩ | ⟨d1, d2, d3⟩
    · exact c3 d1
    subst d2 d3
    rcases g2 with rfl | rfl | rfl <;> rcases g1 with rfl | rfl <;> simp at hp148 hj218 <;> grind
  · rw [c1, c2, e3] at hp148
    rcases hz179 with ⟨d1, d2, d3⟩ | ⟨d1, d2, d3⟩
    · subst d2 d3
      rcases g2 with rfl | rfl | rfl <;> rcases g1 with rfl | rfl <;> simp at hp148 hj218 <;> grind
    · exact d1 c3
def Q0 (Z : State) (q0 : Int64) (q1 : Int64) (q2 : Int64) (p3 : Int32) (p4 : Int32) (p5 : Int32) (h0 : Heap) (n0 : Nat) (v : Option Value) (h : Heap) (L : List Loc) : Prop := v = some (.int (1 : Int32)) ∧ Fr n0 L
set_option maxRecDepth 65536 in
set_option maxHeartbeats 40000000 in
theorem rm0 (l : Launch) (Z : State) (A0 : Array Value) (hw : ∀ d ∈ tables_1, d.before A0 Z = true) (ws : List Jvm.Cond) (q0 : Int64) (q1 : Int64) (q2 : Int64) (p3 : Int32) (p4 : Int32) (p5 : Int32) (h0 : Heap) (n0 : Nat) (Z0 : n0 ≤ h0.size) :
    MetFree l x (head1 (Jvm.Cond.code x code maxLocals ret :: ws) room_1) (fun a U => a = #[(.long q0), (.long q1), (.long q2), (.int p3), (.int p4), (.int p5)] ∧ Z.Warmed39 U.vm ∧ U.heap = h0) (fun _ _ _ _ _ => True) (fun _ U o U' => ∃ v L, o = .returned v ∧ Q0 Z q0 q1 q2 p3 p4 p5 h0 n0 v U'.heap L ∧ FrameEnd U o U' L 16 128) := by
  refine MetFree.of_bodySF (plainFor_of_name pn_0) hisR ?_
  intro p e s m args below meth c s₁ Bd hml0 hP hK
  obtain ⟨rfl, hZ, hh⟩ := hP
  have hx := Bd.exec
  have hby := Bd.bytes
  have hml : c.maxLocals = 34 := hml0
  have hlk : meth.locks = false := Bd.notSynchronized
  have hown : s.vm.findClass "com/example/plyward/plyward/search/TranspositionTableEarlierPinLaw" = some m.cls := findClass_of_methodNamed Bd.named
  have hnm := (name_of_methodNamed Bd.named Bd.method).1
  have X0 : Stand p l e room_1 s m #[(.long q0), (.long q1), (.long q2), (.int p3), (.int p4), (.int p5)] below meth c s₁ [] 0 0 := Stand.of_body Bd
  have e0 : s₁.heap = h0 := by rw [← hh, Bd.state]; rfl
  have N0 := Fr.nil n0
  show own_Go p e below (own_Fin s 16 128 (Q0 Z q0 q1 q2 p3 p4 p5 h0 n0)) _
  refine own_by (fun t k => castTop (ef_0 m q0 q1 q2 p3 p4 p5) k) ?_
  show own_Go p e below _ (s₁.setTop (mkF m 0 #[.val (.long q0), .second, .val (.long q1), .second, .val (.long q2), .second, .val (.int p3), .val (.int p4), .val (.int p5), .unset, .unset, .unset, .unset, .unset, .unset, .unset, .unset, .unset, .unset, .unset, .unset, .unset, .unset, .unset, .unset, .unset, .unset, .unset, .unset, .unset, .unset, .unset, .unset, .unset] []))
  refine own_by (fun _ k => XS.iload X0.here hx rfl (hb hby at_0) rfl k) ?_
  show own_Go p e below _ (s₁.setTop (mkF m 2 #[.val (.long q0), .second, .val (.long q1), .second, .val (.long q2), .second, .val (.int p3), .val (.int p4), .val (.int p5), .unset, .unset, .unset, .unset, .unset, .unset, .unset, .unset, .unset, .unset, .unset, .unset, .unset, .unset, .unset, .unset, .unset, .unset, .unset, .unset, .unset, .unset, .unset, .unset, .unset] [(.int p3)]))
  refine own_by (fun _ k => XS.iconst X0.here hx rfl (hb hby at_2) k) ?_
  show own_Go p e below _ (s₁.setTop (mkF m 3 #[.val (.long q0), .second, .val (.long q1), .second, .val (.long q2), .second, .val (.int p3), .val (.int p4), .val (.int p5), .unset, .unset, .unset, .unset, .unset, .unset, .unset, .unset, .unset, .unset, .unset, .unset, .unset, .unset, .unset, .unset, .unset, .unset, .unset, .unset, .unset, .unset, .unset, .unset, .unset] [(.int (3 : Int32)), (.int p3)]))
  refine own_by (fun _ k => XS.iand X0.here hx rfl (hb hby at_3) rfl k) ?_
  show own_Go p e below _ (s₁.setTop (mkF m 4 #[.val (.long q0), .second, .val (.long q1), .second, .val (.long q2), .second, .val (.int p3), .val (.int p4), .val (.int p5), .unset, .unset, .unset, .unset, .unset, .unset, .unset, .unset, .unset, .unset, .unset, .unset, .unset, .unset, .unset, .unset, .unset, .unset, .unset, .unset, .unset, .unset, .unset, .unset, .unset] [(.int (p3 &&& (3 : Int32)))]))
  refine own_by (fun _ k => XS.istore X0.here hx rfl (hb hby at_4) rfl (l' := #[.val (.long q0), .second, .val (.long q1), .second, .val (.long q2), .second, .val (.int p3), .val (.int p4), .val (.int p5), .val (.int (p3 &&& (3 : Int32))), .unset, .unset, .unset, .unset, .unset, .unset, .unset, .unset, .unset, .unset, .unset, .unset, .unset, .unset, .unset, .unset, .unset, .unset, .unset, .unset, .unset, .unset, .unset, .unset]) rfl k) ?_
  show own_Go p e below _ (s₁.setTop (mkF m 6 #[.val (.long q0), .second, .val (.long q1), .second, .val (.long q2), .second, .val (.int p3), .val (.int p4), .val (.int p5), .val (.int (p3 &&& (3 : Int32))), .unset, .unset, .unset, .unset, .unset, .unset, .unset, .unset, .unset, .unset, .unset, .unset, .unset, .unset, .unset, .unset, .unset, .unset, .unset, .unset, .unset, .unset, .unset, .unset] []))
  generalize hv1 : (p3 &&& (3 : Int32)) = v1
  show own_Go p e below _ (s₁.setTop (mkF m 6 #[.val (.long q0), .second, .val (.long q1), .second, .val (.long q2), .second, .val (.int p3), .val (.int p4), .val (.int p5), .val (.int v1), .unset, .unset, .unset, .unset, .unset, .unset, .unset, .unset, .unset, .unset, .unset, .unset, .unset, .unset, .unset, .unset, .unset, .unset, .unset, .unset, .unset, .unset, .unset, .unset] []))
  refine own_by (fun _ k => XS.iload X0.here hx rfl (hb hby at_6) rfl k) ?_
  show own_Go p e below _ (s₁.setTop (mkF m 8 #[.val (.long q0), .second, .val (.long q1), .second, .val (.long q2), .second, .val (.int p3), .val (.int p4), .val (.int p5), .val (.int v1), .unset, .unset, .unset, .unset, .unset, .unset, .unset, .unset, .unset, .unset, .unset, .unset, .unset, .unset, .unset, .unset, .unset, .unset, .unset, .unset, .unset, .unset, .unset, .unset] [(.int p3)]))
  refine own_by (fun _ k => XS.iconst X0.here hx rfl (hb hby at_8) k) ?_
  show own_Go p e below _ (s₁.setTop (mkF m 9 #[.val (.long q0), .second, .val (.long q1), .second, .val (.long q2), .second, .val (.int p3), .val (.int p4), .val (.int p5), .val (.int v1), .unset, .unset, .unset, .unset, .unset, .unset, .unset, .unset, .unset, .unset, .unset, .unset, .unset, .unset, .unset, .unset, .unset, .unset, .unset, .unset, .unset, .unset, .unset, .unset] [(.int (2 : Int32)), (.int p3)]))
  refine own_by (fun _ k => XS.iushr X0.here hx rfl (hb hby at_9) rfl k) ?_
  show own_Go p e below _ (s₁.setTop (mkF m 10 #[.val (.long q0), .second, .val (.long q1), .second, .val (.long q2), .second, .val (.int p3), .val (.int p4), .val (.int p5), .val (.int v1), .unset, .unset, .unset, .unset, .unset, .unset, .unset, .unset, .unset, .unset, .unset, .unset, .unset, .unset, .unset, .unset, .unset, .unset, .unset, .unset, .unset, .unset, .unset, .unset] [(.int ((p3.toUInt32 >>> ((2 : Int32) &&& 31).toUInt32).toInt32))]))
  refine own_by (fun _ k => XS.iconst X0.here hx rfl (hb hby at_10) k) ?_
  show own_Go p e below _ (s₁.setTop (mkF m 11 #[.val (.long q0), .second, .val (.long q1), .second, .val (.long q2), .second, .val (.int p3), .val (.int p4), .val (.int p5), .val (.int v1), .unset, .unset, .unset, .unset, .unset, .unset, .unset, .unset, .unset, .unset, .unset, .unset, .unset, .unset, .unset, .unset, .unset, .unset, .unset, .unset, .unset, .unset, .unset, .unset] [(.int (1 : Int32)), (.int ((p3.toUInt32 >>> ((2 : Int32) &&& 31).toUInt32).toInt32))]))
  refine own_by (fun _ k => XS.iand X0.here hx rfl (hb hby at_11) rfl k) ?_
  show own_Go p e below _ (s₁.setTop (mkF m 12 #[.val (.long q0), .second, .val (.long q1), .second, .val (.long q2), .second, .val (.int p3), .val (.int p4), .val (.int p5), .val (.int v1), .unset, .unset, .unset, .unset, .unset, .unset, .unset, .unset, .unset, .unset, .unset, .unset, .unset, .unset, .unset, .unset, .unset, .unset, .unset, .unset, .unset, .unset, .unset, .unset] [(.int (((p3.toUInt32 >>> ((2 : Int32) &&& 31).toUInt32).toInt32) &&& (1 : Int32)))]))
  have J3 : ∀ (T4 : State) (L5 : List Loc) (z9 : Int32), Stand p l e room_1 s m #[(.long q0), (.long q1), (.long q2), (.int p3), (.int p4), (.int p5)] below meth c T4 L5 0 0 → T4.heap = h0 → Fr n0 L5 → ((((((p3.toUInt32 >>> ((2 : Int32) &&& 31).toUInt32).toInt32) &&& (1 : Int32)) = (0 : Int32)) ∧ z9 = (0 : Int32)) ∨ ((¬ ((((p3.toUInt32 >>> ((2 : Int32) &&& 31).toUInt32).toInt32) &&& (1 : Int32)) = (0 : Int32))) ∧ z9 = (1 : Int32))) → own_Go p e below (own_Fin s 16 128 (Q0 Z q0 q1 q2 p3 p4 p5 h0 n0)) (T4.setTop (mkF m 20 #[.val (.long q0), .second, .val (.long q1), .second, .val (.long q2), .second, .val (.int p3), .val (.int p4), .val (.int p5), .val (.int v1), .unset, .unset, .unset, .unset, .unset, .unset, .unset, .unset, .unset, .unset, .unset, .unset, .unset, .unset, .unset, .unset, .unset, .unset, .unset, .unset, .unset, .unset, .unset, .unset] [(.int z9)])) := by
    intro T4 L5 z9 X6 e7 N8 hj10
    refine own_by (fun _ k => XS.istore X6.here hx rfl (hb hby at_20) rfl (l' := #[.val (.long q0), .second, .val (.long q1), .second, .val (.long q2), .second, .val (.int p3), .val (.int p4), .val (.int p5), .val (.int v1), .val (.int z9), .unset, .unset, .unset, .unset, .unset, .unset, .unset, .unset, .unset, .unset, .unset, .unset, .unset, .unset, .unset, .unset, .unset, .unset, .unset, .unset, .unset, .unset, .unset]) rfl k) ?_
    show own_Go p e below _ (T4.setTop (mkF m 22 #[.val (.long q0), .second, .val (.long q1), .second, .val (.long q2), .second, .val (.int p3), .val (.int p4), .val (.int p5), .val (.int v1), .val (.int z9), .unset, .unset, .unset, .unset, .unset, .unset, .unset, .unset, .unset, .unset, .unset, .unset, .unset, .unset, .unset, .unset, .unset, .unset, .unset, .unset, .unset, .unset, .unset] []))
    refine own_by (fun _ k => XS.iload X6.here hx rfl (hb hby at_22) rfl k) ?_
    show own_Go p e below _ (T4.setTop (mkF m 24 #[.val (.long q0), .second, .val (.long q1), .second, .val (.long q2), .second, .val (.int p3), .val (.int p4), .val (.int p5), .val (.int v1), .val (.int z9), .unset, .unset, .unset, .unset, .unset, .unset, .unset, .unset, .unset, .unset, .unset, .unset, .unset, .unset, .unset, .unset, .unset, .unset, .unset, .unset, .unset, .unset, .unset] [(.int p3)]))
    refine own_by (fun _ k => XS.iconst X6.here hx rfl (hb hby at_24) k) ?_
    show own_Go p e below _ (T4.setTop (mkF m 25 #[.val (.long q0), .second, .val (.long q1), .second, .val (.long q2), .second, .val (.int p3), .val (.int p4), .val (.int p5), .val (.int v1), .val (.int z9), .unset, .unset, .unset, .unset, .unset, .unset, .unset, .unset, .unset, .unset, .unset, .unset, .unset, .unset, .unset, .unset, .unset, .unset, .unset, .unset, .unset, .unset, .unset] [(.int (3 : Int32)), (.int p3)]))
    refine own_by (fun _ k => XS.iushr X6.here hx rfl (hb hby at_25) rfl k) ?_
    show own_Go p e below _ (T4.setTop (mkF m 26 #[.val (.long q0), .second, .val (.long q1), .second, .val (.long q2), .second, .val (.int p3), .val (.int p4), .val (.int p5), .val (.int v1), .val (.int z9), .unset, .unset, .unset, .unset, .unset, .unset, .unset, .unset, .unset, .unset, .unset, .unset, .unset, .unset, .unset, .unset, .unset, .unset, .unset, .unset, .unset, .unset, .unset] [(.int ((p3.toUInt32 >>> ((3 : Int32) &&& 31).toUInt32).toInt32))]))
    refine own_by (fun _ k => XS.iconst X6.here hx rfl (hb hby at_26) k) ?_
    show own_Go p e below _ (T4.setTop (mkF m 27 #[.val (.long q0), .second, .val (.long q1), .second, .val (.long q2), .second, .val (.int p3), .val (.int p4), .val (.int p5), .val (.int v1), .val (.int z9), .unset, .unset, .unset, .unset, .unset, .unset, .unset, .unset, .unset, .unset, .unset, .unset, .unset, .unset, .unset, .unset, .unset, .unset, .unset, .unset, .unset, .unset, .unset] [(.int (1 : Int32)), (.int ((p3.toUInt32 >>> ((3 : Int32) &&& 31).toUInt32).toInt32))]))
    refine own_by (fun _ k => XS.iand X6.here hx rfl (hb hby at_27) rfl k) ?_
    show own_Go p e below _ (T4.setTop (mkF m 28 #[.val (.long q0), .second, .val (.long q1), .second, .val (.long q2), .second, .val (.int p3), .val (.int p4), .val (.int p5), .val (.int v1), .val (.int z9), .unset, .unset, .unset, .unset, .unset, .unset, .unset, .unset, .unset, .unset, .unset, .unset, .unset, .unset, .unset, .unset, .unset, .unset, .unset, .unset, .unset, .unset, .unset] [(.int (((p3.toUInt32 >>> ((3 : Int32) &&& 31).toUInt32).toInt32) &&& (1 : Int32)))]))
    have J12 : ∀ (T13 : State) (L14 : List Loc) (z18 : Int32), Stand p l e room_1 s m #[(.long q0), (.long q1), (.long q2), (.int p3), (.int p4), (.int p5)] below meth c T13 L14 0 0 → T13.heap = h0 → Fr n0 L14 → ((((((p3.toUInt32 >>> ((3 : Int32) &&& 31).toUInt32).toInt32) &&& (1 : Int32)) = (0 : Int32)) ∧ z18 = (0 : Int32)) ∨ ((¬ ((((p3.toUInt32 >>> ((3 : Int32) &&& 31).toUInt32).toInt32) &&& (1 : Int32)) = (0 : Int32))) ∧ z18 = (1 : Int32))) → own_Go p e below (own_Fin s 16 128 (Q0 Z q0 q1 q2 p3 p4 p5 h0 n0)) (T13.setTop (mkF m 36 #[.val (.long q0), .second, .val (.long q1), .second, .val (.long q2), .second, .val (.int p3), .val (.int p4), .val (.int p5), .val (.int v1), .val (.int z9), .unset, .unset, .unset, .unset, .unset, .unset, .unset, .unset, .unset, .unset, .unset, .unset, .unset, .unset, .unset, .unset, .unset, .unset, .unset, .unset, .unset, .unset, .unset] [(.int z18)])) := by
      intro T13 L14 z18 X15 e16 N17 hj19
      refine own_by (fun _ k => XS.istore X15.here hx rfl (hb hby at_36) rfl (l' := #[.val (.long q0), .second, .val (.long q1), .second, .val (.long q2), .second, .val (.int p3), .val (.int p4), .val (.int p5), .val (.int v1), .val (.int z9), .val (.int z18), .unset, .unset, .unset, .unset, .unset, .unset, .unset, .unset, .unset, .unset, .unset, .unset, .unset, .unset, .unset, .unset, .unset, .unset, .unset, .unset, .unset, .unset]) rfl k) ?_
      show own_Go p e below _ (T13.setTop (mkF m 38 #[.val (.long q0), .second, .val (.long q1), .second, .val (.long q2), .second, .val (.int p3), .val (.int p4), .val (.int p5), .val (.int v1), .val (.int z9), .val (.int z18), .unset, .unset, .unset, .unset, .unset, .unset, .unset, .unset, .unset, .unset, .unset, .unset, .unset, .unset, .unset, .unset, .unset, .unset, .unset, .unset, .unset, .unset] []))
      refine own_by (fun _ k => XS.iload X15.here hx rfl (hb hby at_38) rfl k) ?_
      show own_Go p e below _ (T13.setTop (mkF m 40 #[.val (.long q0), .second, .val (.long q1), .second, .val (.long q2), .second, .val (.int p3), .val (.int p4), .val (.int p5), .val (.int v1), .val (.int z9), .val (.int z18), .unset, .unset, .unset, .unset, .unset, .unset, .unset, .unset, .unset, .unset, .unset, .unset, .unset, .unset, .unset, .unset, .unset, .unset, .unset, .unset, .unset, .unset] [(.int p3)]))
      refine own_by (fun _ k => XS.iconst X15.here hx rfl (hb hby at_40) k) ?_
      show own_Go p e below _ (T13.setTop (mkF m 41 #[.val (.long q0), .second, .val (.long q1), .second, .val (.long q2), .second, .val (.int p3), .val (.int p4), .val (.int p5), .val (.int v1), .val (.int z9), .val (.int z18), .unset, .unset, .unset, .unset, .unset, .unset, .unset, .unset, .unset, .unset, .unset, .unset, .unset, .unset, .unset, .unset, .unset, .unset, .unset, .unset, .unset, .unset] [(.int (4 : Int32)), (.int p3)]))
      refine own_by (fun _ k => XS.iushr X15.here hx rfl (hb hby at_41) rfl k) ?_
      show own_Go p e below _ (T13.setTop (mkF m 42 #[.val (.long q0), .second, .val (.long q1), .second, .val (.long q2), .second, .val (.int p3), .val (.int p4), .val (.int p5), .val (.int v1), .val (.int z9), .val (.int z18), .unset, .unset, .unset, .unset, .unset, .unset, .unset, .unset, .unset, .unset, .unset, .unset, .unset, .unset, .unset, .unset, .unset, .unset, .unset, .unset, .unset, .unset] [(.int ((p3.toUInt32 >>> ((4 : Int32) &&& 31).toUInt32).toInt32))]))
      refine own_by (fun _ k => XS.iconst X15.here hx rfl (hb hby at_42) k) ?_
      show own_Go p e below _ (T13.setTop (mkF m 43 #[.val (.long q0), .second, .val (.long q1), .second, .val (.long q2), .second, .val (.int p3), .val (.int p4), .val (.int p5), .val (.int v1), .val (.int z9), .val (.int z18), .unset, .unset, .unset, .unset, .unset, .unset, .unset, .unset, .unset, .unset, .unset, .unset, .unset, .unset, .unset, .unset, .unset, .unset, .unset, .unset, .unset, .unset] [(.int (1 : Int32)), (.int ((p3.toUInt32 >>> ((4 : Int32) &&& 31).toUInt32).toInt32))]))
      refine own_by (fun _ k => XS.iand X15.here hx rfl (hb hby at_43) rfl k) ?_
      show own_Go p e below _ (T13.setTop (mkF m 44 #[.val (.long q0), .second, .val (.long q1), .second, .val (.long q2), .second, .val (.int p3), .val (.int p4), .val (.int p5), .val (.int v1), .val (.int z9), .val (.int z18), .unset, .unset, .unset, .unset, .unset, .unset, .unset, .unset, .unset, .unset, .unset, .unset, .unset, .unset, .unset, .unset, .unset, .unset, .unset, .unset, .unset, .unset] [(.int (((p3.toUInt32 >>> ((4 : Int32) &&& 31).toUInt32).toInt32) &&& (1 : Int32)))]))
      have J21 : ∀ (T22 : State) (L23 : List Loc) (z27 : Int32), Stand p l e room_1 s m #[(.long q0), (.long q1), (.long q2), (.int p3), (.int p4), (.int p5)] below meth c T22 L23 0 0 → T22.heap = h0 → Fr n0 L23 → ((((((p3.toUInt32 >>> ((4 : Int32) &&& 31).toUInt32).toInt32) &&& (1 : Int32)) = (0 : Int32)) ∧ z27 = (1 : Int32)) ∨ ((¬ ((((p3.toUInt32 >>> ((4 : Int32) &&& 31).toUInt32).toInt32) &&& (1 : Int32)) = (0 : Int32))) ∧ z27 = (0 : Int32))) → own_Go p e below (own_Fin s 16 128 (Q0 Z q0 q1 q2 p3 p4 p5 h0 n0)) (T22.setTop (mkF m 52 #[.val (.long q0), .second, .val (.long q1), .second, .val (.long q2), .second, .val (.int p3), .val (.int p4), .val (.int p5), .val (.int v1), .val (.int z9), .val (.int z18), .unset, .unset, .unset, .unset, .unset, .unset, .unset, .unset, .unset, .unset, .unset, .unset, .unset, .unset, .unset, .unset, .unset, .unset, .unset, .unset, .unset, .unset] [(.int z27)])) := by
        intro T22 L23 z27 X24 e25 N26 hj28
        refine own_by (fun _ k => XS.istore X24.here hx rfl (hb hby at_52) rfl (l' := #[.val (.long q0), .second, .val (.long q1), .second, .val (.long q2), .second, .val (.int p3), .val (.int p4), .val (.int p5), .val (.int v1), .val (.int z9), .val (.int z18), .val (.int z27), .unset, .unset, .unset, .unset, .unset, .unset, .unset, .unset, .unset, .unset, .unset, .unset, .unset, .unset, .unset, .unset, .unset, .unset, .unset, .unset, .unset]) rfl k) ?_
        show own_Go p e below _ (T22.setTop (mkF m 54 #[.val (.long q0), .second, .val (.long q1), .second, .val (.long q2), .second, .val (.int p3), .val (.int p4), .val (.int p5), .val (.int v1), .val (.int z9), .val (.int z18), .val (.int z27), .unset, .unset, .unset, .unset, .unset, .unset, .unset, .unset, .unset, .unset, .unset, .unset, .unset, .unset, .unset, .unset, .unset, .unset, .unset, .unset, .unset] []))
        refine own_by (fun _ k => XS.iload X24.here hx rfl (hb hby at_54) rfl k) ?_
        show own_Go p e below _ (T22.setTop (mkF m 56 #[.val (.long q0), .second, .val (.long q1), .second, .val (.long q2), .second, .val (.int p3), .val (.int p4), .val (.int p5), .val (.int v1), .val (.int z9), .val (.int z18), .val (.int z27), .unset, .unset, .unset, .unset, .unset, .unset, .unset, .unset, .unset, .unset, .unset, .unset, .unset, .unset, .unset, .unset, .unset, .unset, .unset, .unset, .unset] [(.int p3)]))
        refine own_by (fun _ k => XS.iconst X24.here hx rfl (hb hby at_56) k) ?_
        show own_Go p e below _ (T22.setTop (mkF m 57 #[.val (.long q0), .second, .val (.long q1), .second, .val (.long q2), .second, .val (.int p3), .val (.int p4), .val (.int p5), .val (.int v1), .val (.int z9), .val (.int z18), .val (.int z27), .unset, .unset, .unset, .unset, .unset, .unset, .unset, .unset, .unset, .unset, .unset, .unset, .unset, .unset, .unset, .unset, .unset, .unset, .unset, .unset, .unset] [(.int (5 : Int32)), (.int p3)]))
        refine own_by (fun _ k => XS.iushr X24.here hx rfl (hb hby at_57) rfl k) ?_
        show own_Go p e below _ (T22.setTop (mkF m 58 #[.val (.long q0), .second, .val (.long q1), .second, .val (.long q2), .second, .val (.int p3), .val (.int p4), .val (.int p5), .val (.int v1), .val (.int z9), .val (.int z18), .val (.int z27), .unset, .unset, .unset, .unset, .unset, .unset, .unset, .unset, .unset, .unset, .unset, .unset, .unset, .unset, .unset, .unset, .unset, .unset, .unset, .unset, .unset] [(.int ((p3.toUInt32 >>> ((5 : Int32) &&& 31).toUInt32).toInt32))]))
        refine own_by (fun _ k => XS.iconst X24.here hx rfl (hb hby at_58) k) ?_
        show own_Go p e below _ (T22.setTop (mkF m 59 #[.val (.long q0), .second, .val (.long q1), .second, .val (.long q2), .second, .val (.int p3), .val (.int p4), .val (.int p5), .val (.int v1), .val (.int z9), .val (.int z18), .val (.int z27), .unset, .unset, .unset, .unset, .unset, .unset, .unset, .unset, .unset, .unset, .unset, .unset, .unset, .unset, .unset, .unset, .unset, .unset, .unset, .unset, .unset] [(.int (3 : Int32)), (.int ((p3.toUInt32 >>> ((5 : Int32) &&& 31).toUInt32).toInt32))]))
        refine own_by (fun _ k => XS.iand X24.here hx rfl (hb hby at_59) rfl k) ?_
        show own_Go p e below _ (T22.setTop (mkF m 60 #[.val (.long q0), .second, .val (.long q1), .second, .val (.long q2), .second, .val (.int p3), .val (.int p4), .val (.int p5), .val (.int v1), .val (.int z9), .val (.int z18), .val (.int z27), .unset, .unset, .unset, .unset, .unset, .unset, .unset, .unset, .unset, .unset, .unset, .unset, .unset, .unset, .unset, .unset, .unset, .unset, .unset, .unset, .unset] [(.int (((p3.toUInt32 >>> ((5 : Int32) &&& 31).toUInt32).toInt32) &&& (3 : Int32)))]))
        refine own_by (fun _ k => XS.iconst X24.here hx rfl (hb hby at_60) k) ?_
        show own_Go p e below _ (T22.setTop (mkF m 61 #[.val (.long q0), .second, .val (.long q1), .second, .val (.long q2), .second, .val (.int p3), .val (.int p4), .val (.int p5), .val (.int v1), .val (.int z9), .val (.int z18), .val (.int z27), .unset, .unset, .unset, .unset, .unset, .unset, .unset, .unset, .unset, .unset, .unset, .unset, .unset, .unset, .unset, .unset, .unset, .unset, .unset, .unset, .unset] [(.int (3 : Int32)), (.int (((p3.toUInt32 >>> ((5 : Int32) &&& 31).toUInt32).toInt32) &&& (3 : Int32)))]))
        refine own_by (fun _ k => iremM X24 hx rfl (hb hby at_61) rfl (by decide) k) ?_
        show own_Go p e below _ (T22.setTop (mkF m 62 #[.val (.long q0), .second, .val (.long q1), .second, .val (.long q2), .second, .val (.int p3), .val (.int p4), .val (.int p5), .val (.int v1), .val (.int z9), .val (.int z18), .val (.int z27), .unset, .unset, .unset, .unset, .unset, .unset, .unset, .unset, .unset, .unset, .unset, .unset, .unset, .unset, .unset, .unset, .unset, .unset, .unset, .unset, .unset] [(.int ((((p3.toUInt32 >>> ((5 : Int32) &&& 31).toUInt32).toInt32) &&& (3 : Int32)) % (3 : Int32)))]))
        refine own_by (fun _ k => XS.istore X24.here hx rfl (hb hby at_62) rfl (l' := #[.val (.long q0), .second, .val (.long q1), .second, .val (.long q2), .second, .val (.int p3), .val (.int p4), .val (.int p5), .val (.int v1), .val (.int z9), .val (.int z18), .val (.int z27), .val (.int ((((p3.toUInt32 >>> ((5 : Int32) &&& 31).toUInt32).toInt32) &&& (3 : Int32)) % (3 : Int32))), .unset, .unset, .unset, .unset, .unset, .unset, .unset, .unset, .unset, .unset, .unset, .unset, .unset, .unset, .unset, .unset, .unset, .unset, .unset, .unset]) rfl k) ?_
        show own_Go p e below _ (T22.setTop (mkF m 64 #[.val (.long q0), .second, .val (.long q1), .second, .val (.long q2), .second, .val (.int p3), .val (.int p4), .val (.int p5), .val (.int v1), .val (.int z9), .val (.int z18), .val (.int z27), .val (.int ((((p3.toUInt32 >>> ((5 : Int32) &&& 31).toUInt32).toInt32) &&& (3 : Int32)) % (3 : Int32))), .unset, .unset, .unset, .unset, .unset, .unset, .unset, .unset, .unset, .unset, .unset, .unset, .unset, .unset, .unset, .unset, .unset, .unset, .unset, .unset] []))
        generalize hv29 : ((((p3.toUInt32 >>> ((5 : Int32) &&& 31).toUInt32).toInt32) &&& (3 : Int32)) % (3 : Int32)) = v29
        show own_Go p e below _ (T22.setTop (mkF m 64 #[.val (.long q0), .second, .val (.long q1), .second, .val (.long q2), .second, .val (.int p3), .val (.int p4), .val (.int p5), .val (.int v1), .val (.int z9), .val (.int z18), .val (.int z27), .val (.int v29), .unset, .unset, .unset, .unset, .unset, .unset, .unset, .unset, .unset, .unset, .unset, .unset, .unset, .unset, .unset, .unset, .unset, .unset, .unset, .unset] []))
        refine own_by (fun _ k => XS.iload X24.here hx rfl (hb hby at_64) rfl k) ?_
        show own_Go p e below _ (T22.setTop (mkF m 66 #[.val (.long q0), .second, .val (.long q1), .second, .val (.long q2), .second, .val (.int p3), .val (.int p4), .val (.int p5), .val (.int v1), .val (.int z9), .val (.int z18), .val (.int z27), .val (.int v29), .unset, .unset, .unset, .unset, .unset, .unset, .unset, .unset, .unset, .unset, .unset, .unset, .unset, .unset, .unset, .unset, .unset, .unset, .unset, .unset] [(.int p4)]))
        refine own_by (fun t k => X24.ldcInt hx hown (mvT hZ (hw _ (List.mem_of_getElem? (i := 0) rfl))) (g := (mkF m 66 #[.val (.long q0), .second, .val (.long q1), .second, .val (.long q2), .second, .val (.int p3), .val (.int p4), .val (.int p5), .val (.int v1), .val (.int z9), .val (.int z18), .val (.int z27), .val (.int v29), .unset, .unset, .unset, .unset, .unset, .unset, .unset, .unset, .unset, .unset, .unset, .unset, .unset, .unset, .unset, .unset, .unset, .unset, .unset, .unset] [(.int p4)])) rfl (hb hby at_66) _ k) ?_
        show own_Go p e below _ (T22.setTop (mkF m 68 #[.val (.long q0), .second, .val (.long q1), .second, .val (.long q2), .second, .val (.int p3), .val (.int p4), .val (.int p5), .val (.int v1), .val (.int z9), .val (.int z18), .val (.int z27), .val (.int v29), .unset, .unset, .unset, .unset, .unset, .unset, .unset, .unset, .unset, .unset, .unset, .unset, .unset, .unset, .unset, .unset, .unset, .unset, .unset, .unset] [(.int (2147483647 : Int32)), (.int p4)]))
        refine own_by (fun _ k => XS.iand X24.here hx rfl (hb hby at_68) rfl k) ?_
        show own_Go p e below _ (T22.setTop (mkF m 69 #[.val (.long q0), .second, .val (.long q1), .second, .val (.long q2), .second, .val (.int p3), .val (.int p4), .val (.int p5), .val (.int v1), .val (.int z9), .val (.int z18), .val (.int z27), .val (.int v29), .unset, .unset, .unset, .unset, .unset, .unset, .unset, .unset, .unset, .unset, .unset, .unset, .unset, .unset, .unset, .unset, .unset, .unset, .unset, .unset] [(.int (p4 &&& (2147483647 : Int32)))]))
        refine own_by (fun _ k => XS.istore X24.here hx rfl (hb hby at_69) rfl (l' := #[.val (.long q0), .second, .val (.long q1), .second, .val (.long q2), .second, .val (.int p3), .val (.int p4), .val (.int p5), .val (.int v1), .val (.int z9), .val (.int z18), .val (.int z27), .val (.int v29), .val (.int (p4 &&& (2147483647 : Int32))), .unset, .unset, .unset, .unset, .unset, .unset, .unset, .unset, .unset, .unset, .unset, .unset, .unset, .unset, .unset, .unset, .unset, .unset, .unset]) rfl k) ?_
        show own_Go p e below _ (T22.setTop (mkF m 71 #[.val (.long q0), .second, .val (.long q1), .second, .val (.long q2), .second, .val (.int p3), .val (.int p4), .val (.int p5), .val (.int v1), .val (.int z9), .val (.int z18), .val (.int z27), .val (.int v29), .val (.int (p4 &&& (2147483647 : Int32))), .unset, .unset, .unset, .unset, .unset, .unset, .unset, .unset, .unset, .unset, .unset, .unset, .unset, .unset, .unset, .unset, .unset, .unset, .unset] []))
        generalize hv30 : (p4 &&& (2147483647 : Int32)) = v30
        show own_Go p e below _ (T22.setTop (mkF m 71 #[.val (.long q0), .second, .val (.long q1), .second, .val (.long q2), .second, .val (.int p3), .val (.int p4), .val (.int p5), .val (.int v1), .val (.int z9), .val (.int z18), .val (.int z27), .val (.int v29), .val (.int v30), .unset, .unset, .unset, .unset, .unset, .unset, .unset, .unset, .unset, .unset, .unset, .unset, .unset, .unset, .unset, .unset, .unset, .unset, .unset] []))
        refine own_by (fun _ k => XS.iload X24.here hx rfl (hb hby at_71) rfl k) ?_
        show own_Go p e below _ (T22.setTop (mkF m 73 #[.val (.long q0), .second, .val (.long q1), .second, .val (.long q2), .second, .val (.int p3), .val (.int p4), .val (.int p5), .val (.int v1), .val (.int z9), .val (.int z18), .val (.int z27), .val (.int v29), .val (.int v30), .unset, .unset, .unset, .unset, .unset, .unset, .unset, .unset, .unset, .unset, .unset, .unset, .unset, .unset, .unset, .unset, .unset, .unset, .unset] [(.int p5)]))
        refine own_by (fun t k => X24.ldcInt hx hown (mvT hZ (hw _ (List.mem_of_getElem? (i := 0) rfl))) (g := (mkF m 73 #[.val (.long q0), .second, .val (.long q1), .second, .val (.long q2), .second, .val (.int p3), .val (.int p4), .val (.int p5), .val (.int v1), .val (.int z9), .val (.int z18), .val (.int z27), .val (.int v29), .val (.int v30), .unset, .unset, .unset, .unset, .unset, .unset, .unset, .unset, .unset, .unset, .unset, .unset, .unset, .unset, .unset, .unset, .unset, .unset, .unset] [(.int p5)])) rfl (hb hby at_73) _ k) ?_
        show own_Go p e below _ (T22.setTop (mkF m 75 #[.val (.long q0), .second, .val (.long q1), .second, .val (.long q2), .second, .val (.int p3), .val (.int p4), .val (.int p5), .val (.int v1), .val (.int z9), .val (.int z18), .val (.int z27), .val (.int v29), .val (.int v30), .unset, .unset, .unset, .unset, .unset, .unset, .unset, .unset, .unset, .unset, .unset, .unset, .unset, .unset, .unset, .unset, .unset, .unset, .unset] [(.int (2147483647 : Int32)), (.int p5)]))
        refine own_by (fun _ k => XS.iand X24.here hx rfl (hb hby at_75) rfl k) ?_
        show own_Go p e below _ (T22.setTop (mkF m 76 #[.val (.long q0), .second, .val (.long q1), .second, .val (.long q2), .second, .val (.int p3), .val (.int p4), .val (.int p5), .val (.int v1), .val (.int z9), .val (.int z18), .val (.int z27), .val (.int v29), .val (.int v30), .unset, .unset, .unset, .unset, .unset, .unset, .unset, .unset, .unset, .unset, .unset, .unset, .unset, .unset, .unset, .unset, .unset, .unset, .unset] [(.int (p5 &&& (2147483647 : Int32)))]))
        refine own_by (fun _ k => XS.istore X24.here hx rfl (hb hby at_76) rfl (l' := #[.val (.long q0), .second, .val (.long q1), .second, .val (.long q2), .second, .val (.int p3), .val (.int p4), .val (.int p5), .val (.int v1), .val (.int z9), .val (.int z18), .val (.int z27), .val (.int v29), .val (.int v30), .val (.int (p5 &&& (2147483647 : Int32))), .unset, .unset, .unset, .unset, .unset, .unset, .unset, .unset, .unset, .unset, .unset, .unset, .unset, .unset, .unset, .unset, .unset, .unset]) rfl k) ?_
        show own_Go p e below _ (T22.setTop (mkF m 78 #[.val (.long q0), .second, .val (.long q1), .second, .val (.long q2), .second, .val (.int p3), .val (.int p4), .val (.int p5), .val (.int v1), .val (.int z9), .val (.int z18), .val (.int z27), .val (.int v29), .val (.int v30), .val (.int (p5 &&& (2147483647 : Int32))), .unset, .unset, .unset, .unset, .unset, .unset, .unset, .unset, .unset, .unset, .unset, .unset, .unset, .unset, .unset, .unset, .unset, .unset] []))
        generalize hv31 : (p5 &&& (2147483647 : Int32)) = v31
        show own_Go p e below _ (T22.setTop (mkF m 78 #[.val (.long q0), .second, .val (.long q1), .second, .val (.long q2), .second, .val (.int p3), .val (.int p4), .val (.int p5), .val (.int v1), .val (.int z9), .val (.int z18), .val (.int z27), .val (.int v29), .val (.int v30), .val (.int v31), .unset, .unset, .unset, .unset, .unset, .unset, .unset, .unset, .unset, .unset, .unset, .unset, .unset, .unset, .unset, .unset, .unset, .unset] []))
        refine own_by (fun _ k => XS.iload X24.here hx rfl (hb hby at_78) rfl k) ?_
        show own_Go p e below _ (T22.setTop (mkF m 80 #[.val (.long q0), .second, .val (.long q1), .second, .val (.long q2), .second, .val (.int p3), .val (.int p4), .val (.int p5), .val (.int v1), .val (.int z9), .val (.int z18), .val (.int z27), .val (.int v29), .val (.int v30), .val (.int v31), .unset, .unset, .unset, .unset, .unset, .unset, .unset, .unset, .unset, .unset, .unset, .unset, .unset, .unset, .unset, .unset, .unset, .unset] [(.int v1)]))
        have J35 : ∀ (T36 : State) (L37 : List Loc) (y41 : Int64), Stand p l e room_1 s m #[(.long q0), (.long q1), (.long q2), (.int p3), (.int p4), (.int p5)] below meth c T36 L37 0 0 → T36.heap = h0 → Fr n0 L37 → (((v1 = (0 : Int32)) ∧ y41 = q0) ∨ ((¬ (v1 = (0 : Int32))) ∧ (v1 = (1 : Int32)) ∧ y41 = q1) ∨ ((¬ (v1 = (0 : Int32))) ∧ (¬ (v1 = (1 : Int32))) ∧ (v1 = (2 : Int32)) ∧ y41 = q2) ∨ ((¬ (v1 = (0 : Int32))) ∧ (¬ (v1 = (1 : Int32))) ∧ (¬ (v1 = (2 : Int32))) ∧ y41 = (0 : Int64))) → own_Go p e below (own_Fin s 16 128 (Q0 Z q0 q1 q2 p3 p4 p5 h0 n0)) (T36.setTop (mkF m 109 #[.val (.long q0), .second, .val (.long q1), .second, .val (.long q2), .second, .val (.int p3), .val (.int p4), .val (.int p5), .val (.int v1), .val (.int z9), .val (.int z18), .val (.int z27), .val (.int v29), .val (.int v30), .val (.int v31), .unset, .unset, .unset, .unset, .unset, .unset, .unset, .unset, .unset, .unset, .unset, .unset, .unset, .unset, .unset, .unset, .unset, .unset] [(.long y41)])) := by
          intro T36 L37 y41 X38 e39 N40 hj42
          refine own_by (fun _ k => XS.lstore X38.here hx rfl (hb hby at_109) rfl (l' := #[.val (.long q0), .second, .val (.long q1), .second, .val (.long q2), .second, .val (.int p3), .val (.int p4), .val (.int p5), .val (.int v1), .val (.int z9), .val (.int z18), .val (.int z27), .val (.int v29), .val (.int v30), .val (.int v31), .val (.long y41), .second, .unset, .unset, .unset, .unset, .unset, .unset, .unset, .unset, .unset, .unset, .unset, .unset, .unset, .unset, .unset, .unset]) rfl k) ?_
          show own_Go p e below _ (T36.setTop (mkF m 111 #[.val (.long q0), .second, .val (.long q1), .second, .val (.long q2), .second, .val (.int p3), .val (.int p4), .val (.int p5), .val (.int v1), .val (.int z9), .val (.int z18), .val (.int z27), .val (.int v29), .val (.int v30), .val (.int v31), .val (.long y41), .second, .unset, .unset, .unset, .unset, .unset, .unset, .unset, .unset, .unset, .unset, .unset, .unset, .unset, .unset, .unset, .unset] []))
          obtain ⟨T43, h43, X43, e43, E43, A43, D43, -, st43⟩ := newO X38 hx hZ hown (hw _ (List.mem_of_getElem? (i := 1) rfl)) (hw _ (List.mem_of_getElem? (i := 2) rfl)) (hw _ (List.mem_of_getElem? (i := 3) rfl)) e39 (g := (mkF m 111 #[.val (.long q0), .second, .val (.long q1), .second, .val (.long q2), .second, .val (.int p3), .val (.int p4), .val (.int p5), .val (.int v1), .val (.int z9), .val (.int z18), .val (.int z27), .val (.int v29), .val (.int v30), .val (.int v31), .val (.long y41), .second, .unset, .unset, .unset, .unset, .unset, .unset, .unset, .unset, .unset, .unset, .unset, .unset, .unset, .unset, .unset, .unset] [])) rfl (hb hby at_111) (by decide) (by decide)
          obtain ⟨b43, g43⟩ : ∃ z, z = h0.size := ⟨_, rfl⟩
          have ge_b43 : n0 ≤ b43 := Nat.le_trans Z0 (Nat.le_of_eq g43.symm)
          have sz_b43 : h0.size ≤ b43 := Nat.le_trans (Keep.refl h0 []).1 (Nat.le_of_eq g43.symm)
          have K43 : Keep h0 h43 [] := (Keep.refl h0 []).ext E43
          have Z43 : n0 ≤ h43.size := Nat.le_trans Z0 E43.1
          rw [← g43] at A43 D43 st43
          have F_generation_b43 : Fld Z h43 b43 "com/example/plyward/plyward/search/TranspositionTable" "generation" "J" (.long (0 : Int64)) := D43 (Or.inl (hw _ (List.mem_of_getElem? (i := 11) rfl))) (ty := .long) (by decide)
          have F_settledSince_b43 : Fld Z h43 b43 "com/example/plyward/plyward/search/TranspositionTable" "settledSince" "J" (.long (0 : Int64)) := D43 (Or.inl (hw _ (List.mem_of_getElem? (i := 13) rfl))) (ty := .long) (by decide)
          have F_entries_b43 : Fld Z h43 b43 "com/example/plyward/plyward/search/TranspositionTable" "entries" "[J" .null := D43 (Or.inr (hw _ (List.mem_of_getElem? (i := 16) rfl))) (ty := (.array .long)) (by decide)
          have F_shift_b43 : Fld Z h43 b43 "com/example/plyward/plyward/search/TranspositionTable" "shift" "I" (.int (0 : Int32)) := D43 (Or.inr (hw _ (List.mem_of_getElem? (i := 18) rfl))) (ty := .int) (by decide)
          refine own_by st43 ?_
          show own_Go p e below _ (T43.setTop (mkF m 114 #[.val (.long q0), .second, .val (.long q1), .second, .val (.long q2), .second, .val (.int p3), .val (.int p4), .val (.int p5), .val (.int v1), .val (.int z9), .val (.int z18), .val (.int z27), .val (.int v29), .val (.int v30), .val (.int v31), .val (.long y41), .second, .unset, .unset, .unset, .unset, .unset, .unset, .unset, .unset, .unset, .unset, .unset, .unset, .unset, .unset, .unset, .unset] [(.ref b43)]))
          refine own_by (fun _ k => XS.dup X43.here hx rfl (hb hby at_114) rfl rfl k) ?_
          show own_Go p e below _ (T43.setTop (mkF m 115 #[.val (.long q0), .second, .val (.long q1), .second, .val (.long q2), .second, .val (.int p3), .val (.int p4), .val (.int p5), .val (.int v1), .val (.int z9), .val (.int z18), .val (.int z27), .val (.int v29), .val (.int v30), .val (.int v31), .val (.long y41), .second, .unset, .unset, .unset, .unset, .unset, .unset, .unset, .unset, .unset, .unset, .unset, .unset, .unset, .unset, .unset, .unset] [(.ref b43), (.ref b43)]))
          refine own_by (fun _ k => XS.iconst X43.here hx rfl (hb hby at_115) k) ?_
          show own_Go p e below _ (T43.setTop (mkF m 116 #[.val (.long q0), .second, .val (.long q1), .second, .val (.long q2), .second, .val (.int p3), .val (.int p4), .val (.int p5), .val (.int v1), .val (.int z9), .val (.int z18), .val (.int z27), .val (.int v29), .val (.int v30), .val (.int v31), .val (.long y41), .second, .unset, .unset, .unset, .unset, .unset, .unset, .unset, .unset, .unset, .unset, .unset, .unset, .unset, .unset, .unset, .unset] [(.int (1 : Int32)), (.ref b43), (.ref b43)]))
          obtain ⟨_, _, ⟨T44, L44, k44, n44⟩, -, X44, ⟨Lc44, hQ44, l44, y44, z44⟩, st44⟩ := X43.specialBack hx (y := (⟨"com/example/plyward/plyward/search/TranspositionTable", "<init>", "(I)V"⟩ : MethodName)) rfl hown (mvT hZ (hw _ (List.mem_of_getElem? (i := 4) rfl))) (mvT hZ (hw _ (List.mem_of_getElem? (i := 5) rfl))) (mvT hZ (hw _ (List.mem_of_getElem? (i := 6) rfl))) (by decide) (backOf (W := 1) (rm1 l Z A0 hw [] b43 (0 : Int64) (0 : Int64) (.null) (0 : Int32) h43 n0 Z43 A43 F_generation_b43 ge_b43 F_settledSince_b43 F_entries_b43 F_shift_b43) hZ (hw _ (List.mem_of_getElem? (i := 6) rfl)) (hw _ (List.mem_of_getElem? (i := 3) rfl)) (by decide) (by decide)) (g := (mkF m 116 #[.val (.long q0), .second, .val (.long q1), .second, .val (.long q2), .second, .val (.int p3), .val (.int p4), .val (.int p5), .val (.int v1), .val (.int z9), .val (.int z18), .val (.int z27), .val (.int v29), .val (.int v30), .val (.int v31), .val (.long y41), .second, .unset, .unset, .unset, .unset, .unset, .unset, .unset, .unset, .unset, .unset, .unset, .unset, .unset, .unset, .unset, .unset] [(.int (1 : Int32)), (.ref b43), (.ref b43)])) rfl (by rw [hml]; rfl) (Steps.refl _) (a := b43) (argsL := [(.int (1 : Int32))]) (rest := [(.ref b43)]) (lenOf pd_4 rfl) rfl (by show 2 * 0 + _ ≤ _; exact Nat.le_of_eq rfl) (hb hby at_116) (fun _ _ => ⟨rfl, e43, (by decide : 1 + 1 ≤ _), (by decide : 4 + 8 ≤ _)⟩)
          dsimp only [Pt.U, Pt.locs, Pt.cells, Pt.slots] at X44 l44 y44 z44 st44 hQ44
          subst l44 y44 z44
          obtain ⟨b45, b46, rfl, Nq44, Kq44, F47, F48, F49, F50, F51, hp52, hp53, F54⟩ := hQ44
          have N44 := Fr.app N40 Nq44
          have K44 : Keep h0 T44.heap [] := K43.trans Kq44 ((allS (Or.inr sz_b43) all0))
          have Z44 : n0 ≤ T44.heap.size := Nat.le_trans Z43 Kq44.1
          have sz_b45 : h0.size ≤ b45 := Nat.le_trans K43.1 hp53
          refine own_by (fun _ k => st44.trans k) ?_
          show own_Go p e below _ (T44.setTop (mkF m 119 #[.val (.long q0), .second, .val (.long q1), .second, .val (.long q2), .second, .val (.int p3), .val (.int p4), .val (.int p5), .val (.int v1), .val (.int z9), .val (.int z18), .val (.int z27), .val (.int v29), .val (.int v30), .val (.int v31), .val (.long y41), .second, .unset, .unset, .unset, .unset, .unset, .unset, .unset, .unset, .unset, .unset, .unset, .unset, .unset, .unset, .unset, .unset] [(.ref b43)]))
          refine own_by (fun _ k => XS.astore X44.here hx rfl (hb hby at_119) rfl rfl (l' := #[.val (.long q0), .second, .val (.long q1), .second, .val (.long q2), .second, .val (.int p3), .val (.int p4), .val (.int p5), .val (.int v1), .val (.int z9), .val (.int z18), .val (.int z27), .val (.int v29), .val (.int v30), .val (.int v31), .val (.long y41), .second, .val (.ref b43), .unset, .unset, .unset, .unset, .unset, .unset, .unset, .unset, .unset, .unset, .unset, .unset, .unset, .unset, .unset]) rfl k) ?_
          show own_Go p e below _ (T44.setTop (mkF m 121 #[.val (.long q0), .second, .val (.long q1), .second, .val (.long q2), .second, .val (.int p3), .val (.int p4), .val (.int p5), .val (.int v1), .val (.int z9), .val (.int z18), .val (.int z27), .val (.int v29), .val (.int v30), .val (.int v31), .val (.long y41), .second, .val (.ref b43), .unset, .unset, .unset, .unset, .unset, .unset, .unset, .unset, .unset, .unset, .unset, .unset, .unset, .unset, .unset] []))
          refine own_by (fun _ k => XS.aload X44.here hx rfl (hb hby at_121) rfl rfl k) ?_
          show own_Go p e below _ (T44.setTop (mkF m 123 #[.val (.long q0), .second, .val (.long q1), .second, .val (.long q2), .second, .val (.int p3), .val (.int p4), .val (.int p5), .val (.int v1), .val (.int z9), .val (.int z18), .val (.int z27), .val (.int v29), .val (.int v30), .val (.int v31), .val (.long y41), .second, .val (.ref b43), .unset, .unset, .unset, .unset, .unset, .unset, .unset, .unset, .unset, .unset, .unset, .unset, .unset, .unset, .unset] [(.ref b43)]))
          refine own_by (fun _ k => XS.lloadN X44.here hx rfl (hb hby at_123) rfl k) ?_
          show own_Go p e below _ (T44.setTop (mkF m 124 #[.val (.long q0), .second, .val (.long q1), .second, .val (.long q2), .second, .val (.int p3), .val (.int p4), .val (.int p5), .val (.int v1), .val (.int z9), .val (.int z18), .val (.int z27), .val (.int v29), .val (.int v30), .val (.int v31), .val (.long y41), .second, .val (.ref b43), .unset, .unset, .unset, .unset, .unset, .unset, .unset, .unset, .unset, .unset, .unset, .unset, .unset, .unset, .unset] [(.long q0), (.ref b43)]))
          refine own_by (fun _ k => XS.iload X44.here hx rfl (hb hby at_124) rfl k) ?_
          show own_Go p e below _ (T44.setTop (mkF m 126 #[.val (.long q0), .second, .val (.long q1), .second, .val (.long q2), .second, .val (.int p3), .val (.int p4), .val (.int p5), .val (.int v1), .val (.int z9), .val (.int z18), .val (.int z27), .val (.int v29), .val (.int v30), .val (.int v31), .val (.long y41), .second, .val (.ref b43), .unset, .unset, .unset, .unset, .unset, .unset, .unset, .unset, .unset, .unset, .unset, .unset, .unset, .unset, .unset] [(.int v30), (.long q0), (.ref b43)]))
          refine own_by (fun t k => X44.ldc2DoubleC hx hown (mvT hZ (hw _ (List.mem_of_getElem? (i := 19) rfl))) (g := (mkF m 126 #[.val (.long q0), .second, .val (.long q1), .second, .val (.long q2), .second, .val (.int p3), .val (.int p4), .val (.int p5), .val (.int v1), .val (.int z9), .val (.int z18), .val (.int z27), .val (.int v29), .val (.int v30), .val (.int v31), .val (.long y41), .second, .val (.ref b43), .unset, .unset, .unset, .unset, .unset, .unset, .unset, .unset, .unset, .unset, .unset, .unset, .unset, .unset, .unset] [(.int v30), (.long q0), (.ref b43)])) rfl (hb hby at_126) _ k) ?_
          show own_Go p e below _ (T44.setTop (mkF m 129 #[.val (.long q0), .second, .val (.long q1), .second, .val (.long q2), .second, .val (.int p3), .val (.int p4), .val (.int p5), .val (.int v1), .val (.int z9), .val (.int z18), .val (.int z27), .val (.int v29), .val (.int v30), .val (.int v31), .val (.long y41), .second, .val (.ref b43), .unset, .unset, .unset, .unset, .unset, .unset, .unset, .unset, .unset, .unset, .unset, .unset, .unset, .unset, .unset] [(.double (13830554455654793216 : UInt64)), (.int v30), (.long q0), (.ref b43)]))
          refine own_by (fun _ k => XS.dconst1 X44.here hx rfl (hb hby at_129) rfl k) ?_
          show own_Go p e below _ (T44.setTop (mkF m 130 #[.val (.long q0), .second, .val (.long q1), .second, .val (.long q2), .second, .val (.int p3), .val (.int p4), .val (.int p5), .val (.int v1), .val (.int z9), .val (.int z18), .val (.int z27), .val (.int v29), .val (.int v30), .val (.int v31), .val (.long y41), .second, .val (.ref b43), .unset, .unset, .unset, .unset, .unset, .unset, .unset, .unset, .unset, .unset, .unset, .unset, .unset, .unset, .unset] [(.double FP.dconst1), (.double (13830554455654793216 : UInt64)), (.int v30), (.long q0), (.ref b43)]))
          refine own_by (fun _ k => XS.iload X44.here hx rfl (hb hby at_130) rfl k) ?_
          show own_Go p e below _ (T44.setTop (mkF m 132 #[.val (.long q0), .second, .val (.long q1), .second, .val (.long q2), .second, .val (.int p3), .val (.int p4), .val (.int p5), .val (.int v1), .val (.int z9), .val (.int z18), .val (.int z27), .val (.int v29), .val (.int v30), .val (.int v31), .val (.long y41), .second, .val (.ref b43), .unset, .unset, .unset, .unset, .unset, .unset, .unset, .unset, .unset, .unset, .unset, .unset, .unset, .unset, .unset] [(.int z9), (.double FP.dconst1), (.double (13830554455654793216 : UInt64)), (.int v30), (.long q0), (.ref b43)]))
          obtain ⟨cq55, kq55, qq55a, qq55b, qq55c⟩ := isOf hZ rfl F47
          obtain ⟨_, _, ⟨T55, L55, k55, n55⟩, -, X55, ⟨Lc55, hQ55, l55, y55, z55⟩, st55⟩ := X44.virtualBack hx (y := (⟨"com/example/plyward/plyward/search/TranspositionTable", "store", "(JIDDZ)V"⟩ : MethodName)) (z := (⟨"com/example/plyward/plyward/search/TranspositionTable", "store", "(JIDDZ)V"⟩ : MethodName)) hown (mvT hZ (hw _ (List.mem_of_getElem? (i := 20) rfl))) (mvT hZ (hw _ (List.mem_of_getElem? (i := 21) rfl))) (notFace_of_selects (args := #[]) (mvT hZ (hw _ (List.mem_of_getElem? (i := 23) rfl)))) (mvT hZ (hw _ (List.mem_of_getElem? (i := 23) rfl))) (mvT hZ (hw _ (List.mem_of_getElem? (i := 22) rfl))) (by decide) (backOf (W := 0) (rm3 l Z A0 hw [] b45 b46 (fun _ => (0 : Int64)) b43 q0 v30 (13830554455654793216 : UInt64) FP.dconst1 z9 (1 : Int64) (1 : Int64) T44.heap n0 Z44 F50 F54 F51 F47 F48 F49 hp52) hZ (hw _ (List.mem_of_getElem? (i := 24) rfl)) (hw _ (List.mem_of_getElem? (i := 3) rfl)) (by decide) (by decide)) qq55a qq55c (g := (mkF m 132 #[.val (.long q0), .second, .val (.long q1), .second, .val (.long q2), .second, .val (.int p3), .val (.int p4), .val (.int p5), .val (.int v1), .val (.int z9), .val (.int z18), .val (.int z27), .val (.int v29), .val (.int v30), .val (.int v31), .val (.long y41), .second, .val (.ref b43), .unset, .unset, .unset, .unset, .unset, .unset, .unset, .unset, .unset, .unset, .unset, .unset, .unset, .unset, .unset] [(.int z9), (.double FP.dconst1), (.double (13830554455654793216 : UInt64)), (.int v30), (.long q0), (.ref b43)])) rfl (by rw [hml]; rfl) (Steps.refl _) (argsL := [(.long q0), (.int v30), (.double (13830554455654793216 : UInt64)), (.double FP.dconst1), (.int z9)]) (rest := []) (lenOf pd_20 rfl) rfl (by show 2 * 0 + _ ≤ _; exact Nat.le_of_eq rfl) (hb hby at_132) (fun _ _ => ⟨rfl, rfl, (by decide : 2 + 0 ≤ _), (by decide : 12 + 0 ≤ _)⟩)
          dsimp only [Pt.U, Pt.locs, Pt.cells, Pt.slots] at X55 l55 y55 z55 st55 hQ55
          subst l55 y55 z55
          obtain ⟨b56, rfl, Nq55, Kq55, F57, hp58⟩ := hQ55
          have N55 := Fr.app N44 Nq55
          have K55 : Keep h0 T55.heap [] := K44.trans Kq55 ((allS (Or.inr sz_b45) all0))
          have Z55 : n0 ≤ T55.heap.size := Nat.le_trans Z44 Kq55.1
          refine own_by (fun _ k => st55.trans k) ?_
          show own_Go p e below _ (T55.setTop (mkF m 135 #[.val (.long q0), .second, .val (.long q1), .second, .val (.long q2), .second, .val (.int p3), .val (.int p4), .val (.int p5), .val (.int v1), .val (.int z9), .val (.int z18), .val (.int z27), .val (.int v29), .val (.int v30), .val (.int v31), .val (.long y41), .second, .val (.ref b43), .unset, .unset, .unset, .unset, .unset, .unset, .unset, .unset, .unset, .unset, .unset, .unset, .unset, .unset, .unset] []))
          refine own_by (fun _ k => XS.iload X55.here hx rfl (hb hby at_135) rfl k) ?_
          show own_Go p e below _ (T55.setTop (mkF m 137 #[.val (.long q0), .second, .val (.long q1), .second, .val (.long q2), .second, .val (.int p3), .val (.int p4), .val (.int p5), .val (.int v1), .val (.int z9), .val (.int z18), .val (.int z27), .val (.int v29), .val (.int v30), .val (.int v31), .val (.long y41), .second, .val (.ref b43), .unset, .unset, .unset, .unset, .unset, .unset, .unset, .unset, .unset, .unset, .unset, .unset, .unset, .unset, .unset] [(.int z27)]))
          have J82 : ∀ (T83 : State) (L84 : List Loc) (h88 : Heap) (y89 : Int64), Stand p l e room_1 s m #[(.long q0), (.long q1), (.long q2), (.int p3), (.int p4), (.int p5)] below meth c T83 L84 2 12 → T83.heap = h88 → Fr n0 L84 → Keep h0 h88 [] → n0 ≤ h88.size → Exa Z h88 b43 "com/example/plyward/plyward/search/TranspositionTable" → Fld Z h88 b43 "com/example/plyward/plyward/search/TranspositionTable" "generation" "J" (.long (2 : Int64)) → Fld Z h88 b43 "com/example/plyward/plyward/search/TranspositionTable" "settledSince" "J" (.long y89) → Fld Z h88 b43 "com/example/plyward/plyward/search/TranspositionTable" "entries" "[J" (.ref b45) → Fld Z h88 b43 "com/example/plyward/plyward/search/TranspositionTable" "shift" "I" (.int (63 : Int32)) → own_Arf Z h88 b45 b46 .long (8 : Int32) (fun i => .long (b56 i)) → b43 ≠ b45 → (((z27 = (0 : Int32)) ∧ y89 = (2 : Int64)) ∨ ((¬ (z27 = (0 : Int32))) ∧ y89 = (1 : Int64))) → own_Go p e below (own_Fin s 16 128 (Q0 Z q0 q1 q2 p3 p4 p5 h0 n0)) (T83.setTop (mkF m 153 #[.val (.long q0), .second, .val (.long q1), .second, .val (.long q2), .second, .val (.int p3), .val (.int p4), .val (.int p5), .val (.int v1), .val (.int z9), .val (.int z18), .val (.int z27), .val (.int v29), .val (.int v30), .val (.int v31), .val (.long y41), .second, .val (.ref b43), .unset, .unset, .unset, .unset, .unset, .unset, .unset, .unset, .unset, .unset, .unset, .unset, .unset, .unset, .unset] [])) := by
            intro T83 L84 h88 y89 X85 e86 N87 K90 Z91 F92 F93 F94 F95 F96 F97 ne98 hj99
            refine own_by (fun _ k => XS.aload X85.here hx rfl (hb hby at_153) rfl rfl k) ?_
            show own_Go p e below _ (T83.setTop (mkF m 155 #[.val (.long q0), .second, .val (.long q1), .second, .val (.long q2), .second, .val (.int p3), .val (.int p4), .val (.int p5), .val (.int v1), .val (.int z9), .val (.int z18), .val (.int z27), .val (.int v29), .val (.int v30), .val (.int v31), .val (.long y41), .second, .val (.ref b43), .unset, .unset, .unset, .unset, .unset, .unset, .unset, .unset, .unset, .unset, .unset, .unset, .unset, .unset, .unset] [(.ref b43)]))
            refine own_by (fun _ k => XS.lloadN X85.here hx rfl (hb hby at_155) rfl k) ?_
            show own_Go p e below _ (T83.setTop (mkF m 156 #[.val (.long q0), .second, .val (.long q1), .second, .val (.long q2), .second, .val (.int p3), .val (.int p4), .val (.int p5), .val (.int v1), .val (.int z9), .val (.int z18), .val (.int z27), .val (.int v29), .val (.int v30), .val (.int v31), .val (.long y41), .second, .val (.ref b43), .unset, .unset, .unset, .unset, .unset, .unset, .unset, .unset, .unset, .unset, .unset, .unset, .unset, .unset, .unset] [(.long q1), (.ref b43)]))
            refine own_by (fun _ k => XS.iload X85.here hx rfl (hb hby at_156) rfl k) ?_
            show own_Go p e below _ (T83.setTop (mkF m 158 #[.val (.long q0), .second, .val (.long q1), .second, .val (.long q2), .second, .val (.int p3), .val (.int p4), .val (.int p5), .val (.int v1), .val (.int z9), .val (.int z18), .val (.int z27), .val (.int v29), .val (.int v30), .val (.int v31), .val (.long y41), .second, .val (.ref b43), .unset, .unset, .unset, .unset, .unset, .unset, .unset, .unset, .unset, .unset, .unset, .unset, .unset, .unset, .unset] [(.int v31), (.long q1), (.ref b43)]))
            refine own_by (fun _ k => XS.dconst0 X85.here hx rfl (hb hby at_158) rfl k) ?_
            show own_Go p e below _ (T83.setTop (mkF m 159 #[.val (.long q0), .second, .val (.long q1), .second, .val (.long q2), .second, .val (.int p3), .val (.int p4), .val (.int p5), .val (.int v1), .val (.int z9), .val (.int z18), .val (.int z27), .val (.int v29), .val (.int v30), .val (.int v31), .val (.long y41), .second, .val (.ref b43), .unset, .unset, .unset, .unset, .unset, .unset, .unset, .unset, .unset, .unset, .unset, .unset, .unset, .unset, .unset] [(.double FP.dconst0), (.int v31), (.long q1), (.ref b43)]))
            refine own_by (fun t k => X85.ldc2DoubleC hx hown (mvT hZ (hw _ (List.mem_of_getElem? (i := 53) rfl))) (g := (mkF m 159 #[.val (.long q0), .second, .val (.long q1), .second, .val (.long q2), .second, .val (.int p3), .val (.int p4), .val (.int p5), .val (.int v1), .val (.int z9), .val (.int z18), .val (.int z27), .val (.int v29), .val (.int v30), .val (.int v31), .val (.long y41), .second, .val (.ref b43), .unset, .unset, .unset, .unset, .unset, .unset, .unset, .unset, .unset, .unset, .unset, .unset, .unset, .unset, .unset] [(.double FP.dconst0), (.int v31), (.long q1), (.ref b43)])) rfl (hb hby at_159) _ k) ?_
            show own_Go p e below _ (T83.setTop (mkF m 162 #[.val (.long q0), .second, .val (.long q1), .second, .val (.long q2), .second, .val (.int p3), .val (.int p4), .val (.int p5), .val (.int v1), .val (.int z9), .val (.int z18), .val (.int z27), .val (.int v29), .val (.int v30), .val (.int v31), .val (.long y41), .second, .val (.ref b43), .unset, .unset, .unset, .unset, .unset, .unset, .unset, .unset, .unset, .unset, .unset, .unset, .unset, .unset, .unset] [(.double (4611686018427387904 : UInt64)), (.double FP.dconst0), (.int v31), (.long q1), (.ref b43)]))
            refine own_by (fun _ k => XS.iload X85.here hx rfl (hb hby at_162) rfl k) ?_
            show own_Go p e below _ (T83.setTop (mkF m 164 #[.val (.long q0), .second, .val (.long q1), .second, .val (.long q2), .second, .val (.int p3), .val (.int p4), .val (.int p5), .val (.int v1), .val (.int z9), .val (.int z18), .val (.int z27), .val (.int v29), .val (.int v30), .val (.int v31), .val (.long y41), .second, .val (.ref b43), .unset, .unset, .unset, .unset, .unset, .unset, .unset, .unset, .unset, .unset, .unset, .unset, .unset, .unset, .unset] [(.int z18), (.double (4611686018427387904 : UInt64)), (.double FP.dconst0), (.int v31), (.long q1), (.ref b43)]))
            obtain ⟨cq100, kq100, qq100a, qq100b, qq100c⟩ := isOf hZ e86 F92
            obtain ⟨_, _, ⟨T100, L100, k100, n100⟩, -, X100, ⟨Lc100, hQ100, l100, y100, z100⟩, st100⟩ := X85.virtualBack hx (y := (⟨"com/example/plyward/plyward/search/TranspositionTable", "store", "(JIDDZ)V"⟩ : MethodName)) (z := (⟨"com/example/plyward/plyward/search/TranspositionTable", "store", "(JIDDZ)V"⟩ : MethodName)) hown (mvT hZ (hw _ (List.mem_of_getElem? (i := 20) rfl))) (mvT hZ (hw _ (List.mem_of_getElem? (i := 21) rfl))) (notFace_of_selects (args := #[]) (mvT hZ (hw _ (List.mem_of_getElem? (i := 23) rfl)))) (mvT hZ (hw _ (List.mem_of_getElem? (i := 23) rfl))) (mvT hZ (hw _ (List.mem_of_getElem? (i := 22) rfl))) (by decide) (backOf (W := 0) (rm3 l Z A0 hw [] b45 b46 b56 b43 q1 v31 FP.dconst0 (4611686018427387904 : UInt64) z18 (2 : Int64) y89 h88 n0 Z91 F95 F97 F96 F92 F93 F94 hp52) hZ (hw _ (List.mem_of_getElem? (i := 24) rfl)) (hw _ (List.mem_of_getElem? (i := 3) rfl)) (by decide) (by decide)) qq100a qq100c (g := (mkF m 164 #[.val (.long q0), .second, .val (.long q1), .second, .val (.long q2), .second, .val (.int p3), .val (.int p4), .val (.int p5), .val (.int v1), .val (.int z9), .val (.int z18), .val (.int z27), .val (.int v29), .val (.int v30), .val (.int v31), .val (.long y41), .second, .val (.ref b43), .unset, .unset, .unset, .unset, .unset, .unset, .unset, .unset, .unset, .unset, .unset, .unset, .unset, .unset, .unset] [(.int z18), (.double (4611686018427387904 : UInt64)), (.double FP.dconst0), (.int v31), (.long q1), (.ref b43)])) rfl (by rw [hml]; rfl) (Steps.refl _) (argsL := [(.long q1), (.int v31), (.double FP.dconst0), (.double (4611686018427387904 : UInt64)), (.int z18)]) (rest := []) (lenOf pd_20 rfl) rfl (by show 2 * 0 + _ ≤ _; exact Nat.le_of_eq rfl) (hb hby at_164) (fun _ _ => ⟨rfl, e86, (by decide : 2 + 0 ≤ _), (by decide : 12 + 0 ≤ _)⟩)
            dsimp only [Pt.U, Pt.locs, Pt.cells, Pt.slots] at X100 l100 y100 z100 st100 hQ100
            subst l100 y100 z100
            obtain ⟨b101, rfl, Nq100, Kq100, F102, hp103⟩ := hQ100
            have N100 := Fr.app N87 Nq100
            have K100 : Keep h0 T100.heap [] := K90.trans Kq100 ((allS (Or.inr sz_b45) all0))
            have Z100 : n0 ≤ T100.heap.size := Nat.le_trans Z91 Kq100.1
            refine own_by (fun _ k => st100.trans k) ?_
            show own_Go p e below _ (T100.setTop (mkF m 167 #[.val (.long q0), .second, .val (.long q1), .second, .val (.long q2), .second, .val (.int p3), .val (.int p4), .val (.int p5), .val (.int v1), .val (.int z9), .val (.int z18), .val (.int z27), .val (.int v29), .val (.int v30), .val (.int v31), .val (.long y41), .second, .val (.ref b43), .unset, .unset, .unset, .unset, .unset, .unset, .unset, .unset, .unset, .unset, .unset, .unset, .unset, .unset, .unset] []))
            refine own_by (fun _ k => XS.iload X100.here hx rfl (hb hby at_167) rfl k) ?_
            show own_Go p e below _ (T100.setTop (mkF m 169 #[.val (.long q0), .second, .val (.long q1), .second, .val (.long q2), .second, .val (.int p3), .val (.int p4), .val (.int p5), .val (.int v1), .val (.int z9), .val (.int z18), .val (.int z27), .val (.int v29), .val (.int v30), .val (.int v31), .val (.long y41), .second, .val (.ref b43), .unset, .unset, .unset, .unset, .unset, .unset, .unset, .unset, .unset, .unset, .unset, .unset, .unset, .unset, .unset] [(.int v29)]))
            refine own_by (fun _ k => XS.iconst X100.here hx rfl (hb hby at_169) k) ?_
            show own_Go p e below _ (T100.setTop (mkF m 170 #[.val (.long q0), .second, .val (.long q1), .second, .val (.long q2), .second, .val (.int p3), .val (.int p4), .val (.int p5), .val (.int v1), .val (.int z9), .val (.int z18), .val (.int z27), .val (.int v29), .val (.int v30), .val (.int v31), .val (.long y41), .second, .val (.ref b43), .unset, .unset, .unset, .unset, .unset, .unset, .unset, .unset, .unset, .unset, .unset, .unset, .unset, .unset, .unset] [(.int (1 : Int32)), (.int v29)]))
            have J128 : ∀ (T129 : State) (L130 : List Loc) (h134 : Heap) (y135 : Int64) (y136 : Int64), Stand p l e room_1 s m #[(.long q0), (.long q1), (.long q2), (.int p3), (.int p4), (.int p5)] below meth c T129 L130 2 12 → T129.heap = h134 → Fr n0 L130 → Keep h0 h134 [] → n0 ≤ h134.size → Exa Z h134 b43 "com/example/plyward/plyward/search/TranspositionTable" → Fld Z h134 b43 "com/example/plyward/plyward/search/TranspositionTable" "generation" "J" (.long y135) → Fld Z h134 b43 "com/example/plyward/plyward/search/TranspositionTable" "settledSince" "J" (.long y136) → Fld Z h134 b43 "com/example/plyward/plyward/search/TranspositionTable" "entries" "[J" (.ref b45) → Fld Z h134 b43 "com/example/plyward/plyward/search/TranspositionTable" "shift" "I" (.int (63 : Int32)) → own_Arf Z h134 b45 b46 .long (8 : Int32) (fun i => .long (b101 i)) → (((v29 = (1 : Int32)) ∧ y135 = (3 : Int64) ∧ y136 = y89) ∨ ((¬ (v29 = (1 : Int32))) ∧ (v29 = (2 : Int32)) ∧ y135 = (3 : Int64) ∧ y136 = (3 : Int64)) ∨ ((¬ (v29 = (1 : Int32))) ∧ (¬ (v29 = (2 : Int32))) ∧ y135 = (2 : Int64) ∧ y136 = y89)) → own_Go p e below (own_Fin s 16 128 (Q0 Z q0 q1 q2 p3 p4 p5 h0 n0)) (T129.setTop (mkF m 192 #[.val (.long q0), .second, .val (.long q1), .second, .val (.long q2), .second, .val (.int p3), .val (.int p4), .val (.int p5), .val (.int v1), .val (.int z9), .val (.int z18), .val (.int z27), .val (.int v29), .val (.int v30), .val (.int v31), .val (.long y41), .second, .val (.ref b43), .unset, .unset, .unset, .unset, .unset, .unset, .unset, .unset, .unset, .unset, .unset, .unset, .unset, .unset, .unset] [])) := by
              intro T129 L130 h134 y135 y136 X131 e132 N133 K137 Z138 F139 F140 F141 F142 F143 F144 hj145
              refine own_by (fun _ k => XS.aload X131.here hx rfl (hb hby at_192) rfl rfl k) ?_
              show own_Go p e below _ (T129.setTop (mkF m 194 #[.val (.long q0), .second, .val (.long q1), .second, .val (.long q2), .second, .val (.int p3), .val (.int p4), .val (.int p5), .val (.int v1), .val (.int z9), .val (.int z18), .val (.int z27), .val (.int v29), .val (.int v30), .val (.int v31), .val (.long y41), .second, .val (.ref b43), .unset, .unset, .unset, .unset, .unset, .unset, .unset, .unset, .unset, .unset, .unset, .unset, .unset, .unset, .unset] [(.ref b43)]))
              refine own_by (fun _ k => XS.lload X131.here hx rfl (hb hby at_194) rfl k) ?_
              show own_Go p e below _ (T129.setTop (mkF m 196 #[.val (.long q0), .second, .val (.long q1), .second, .val (.long q2), .second, .val (.int p3), .val (.int p4), .val (.int p5), .val (.int v1), .val (.int z9), .val (.int z18), .val (.int z27), .val (.int v29), .val (.int v30), .val (.int v31), .val (.long y41), .second, .val (.ref b43), .unset, .unset, .unset, .unset, .unset, .unset, .unset, .unset, .unset, .unset, .unset, .unset, .unset, .unset, .unset] [(.long y41), (.ref b43)]))
              obtain ⟨cq146, kq146, qq146a, qq146b, qq146c⟩ := isOf hZ e132 F139
              obtain ⟨_, _, ⟨T146, L146, k146, n146⟩, -, X146, ⟨Lc146, hQ146, l146, y146, z146⟩, st146⟩ := X131.virtualBack hx (y := (⟨"com/example/plyward/plyward/search/TranspositionTable", "earlier", "(J)I"⟩ : MethodName)) (z := (⟨"com/example/plyward/plyward/search/TranspositionTable", "earlier", "(J)I"⟩ : MethodName)) hown (mvT hZ (hw _ (List.mem_of_getElem? (i := 54) rfl))) (mvT hZ (hw _ (List.mem_of_getElem? (i := 55) rfl))) (notFace_of_selects (args := #[]) (mvT hZ (hw _ (List.mem_of_getElem? (i := 57) rfl)))) (mvT hZ (hw _ (List.mem_of_getElem? (i := 57) rfl))) (mvT hZ (hw _ (List.mem_of_getElem? (i := 56) rfl))) (by decide) (backOf (W := 0) (rm8 l Z A0 hw [] b45 b46 b101 b43 y41 y136 y135 h134 n0 Z138 F142 F144 F143 F139 F141 F140) hZ (hw _ (List.mem_of_getElem? (i := 58) rfl)) (hw _ (List.mem_of_getElem? (i := 3) rfl)) (by decide) (by decide)) qq146a qq146c (g := (mkF m 196 #[.val (.long q0), .second, .val (.long q1), .second, .val (.long q2), .second, .val (.int p3), .val (.int p4), .val (.int p5), .val (.int v1), .val (.int z9), .val (.int z18), .val (.int z27), .val (.int v29), .val (.int v30), .val (.int v31), .val (.long y41), .second, .val (.ref b43), .unset, .unset, .unset, .unset, .unset, .unset, .unset, .unset, .unset, .unset, .unset, .unset, .unset, .unset, .unset] [(.long y41), (.ref b43)])) rfl (by rw [hml]; rfl) (Steps.refl _) (argsL := [(.long y41)]) (rest := []) (lenOf pd_25 rfl) rfl (by show 2 * 0 + _ ≤ _; exact Nat.le_of_eq rfl) (hb hby at_196) (fun _ _ => ⟨rfl, e132, (by decide : 2 + 0 ≤ _), (by decide : 12 + 0 ≤ _)⟩)
              dsimp only [Pt.U, Pt.locs, Pt.cells, Pt.slots] at X146 l146 y146 z146 st146 hQ146
              subst l146 y146 z146
              obtain ⟨o147, rfl, Nq146, eq146, hp148⟩ := hQ146
              have N146 := Fr.app N133 Nq146
              refine own_by (fun _ k => st146.trans k) ?_
              show own_Go p e below _ (T146.setTop (mkF m 199 #[.val (.long q0), .second, .val (.long q1), .second, .val (.long q2), .second, .val (.int p3), .val (.int p4), .val (.int p5), .val (.int v1), .val (.int z9), .val (.int z18), .val (.int z27), .val (.int v29), .val (.int v30), .val (.int v31), .val (.long y41), .second, .val (.ref b43), .unset, .unset, .unset, .unset, .unset, .unset, .unset, .unset, .unset, .unset, .unset, .unset, .unset, .unset, .unset] [(.int o147)]))
              refine own_by (fun _ k => XS.istore X146.here hx rfl (hb hby at_199) rfl (l' := #[.val (.long q0), .second, .val (.long q1), .second, .val (.long q2), .second, .val (.int p3), .val (.int p4), .val (.int p5), .val (.int v1), .val (.int z9), .val (.int z18), .val (.int z27), .val (.int v29), .val (.int v30), .val (.int v31), .val (.long y41), .second, .val (.ref b43), .val (.int o147), .unset, .unset, .unset, .unset, .unset, .unset, .unset, .unset, .unset, .unset, .unset, .unset, .unset, .unset]) rfl k) ?_
              show own_Go p e below _ (T146.setTop (mkF m 201 #[.val (.long q0), .second, .val (.long q1), .second, .val (.long q2), .second, .val (.int p3), .val (.int p4), .val (.int p5), .val (.int v1), .val (.int z9), .val (.int z18), .val (.int z27), .val (.int v29), .val (.int v30), .val (.int v31), .val (.long y41), .second, .val (.ref b43), .val (.int o147), .unset, .unset, .unset, .unset, .unset, .unset, .unset, .unset, .unset, .unset, .unset, .unset, .unset, .unset] []))
              refine own_by (fun _ k => XS.iload X146.here hx rfl (hb hby at_201) rfl k) ?_
              show own_Go p e below _ (T146.setTop (mkF m 203 #[.val (.long q0), .second, .val (.long q1), .second, .val (.long q2), .second, .val (.int p3), .val (.int p4), .val (.int p5), .val (.int v1), .val (.int z9), .val (.int z18), .val (.int z27), .val (.int v29), .val (.int v30), .val (.int v31), .val (.long y41), .second, .val (.ref b43), .val (.int o147), .unset, .unset, .unset, .unset, .unset, .unset, .unset, .unset, .unset, .unset, .unset, .unset, .unset, .unset] [(.int z27)]))
              have J150 : ∀ (T151 : State) (L152 : List Loc) (y156 : Int64), Stand p l e room_1 s m #[(.long q0), (.long q1), (.long q2), (.int p3), (.int p4), (.int p5)] below meth c T151 L152 2 12 → T151.heap = h134 → Fr n0 L152 → (((z27 = (0 : Int32)) ∧ y156 = (2 : Int64)) ∨ ((¬ (z27 = (0 : Int32))) ∧ y156 = (1 : Int64))) → own_Go p e below (own_Fin s 16 128 (Q0 Z q0 q1 q2 p3 p4 p5 h0 n0)) (T151.setTop (mkF m 213 #[.val (.long q0), .second, .val (.long q1), .second, .val (.long q2), .second, .val (.int p3), .val (.int p4), .val (.int p5), .val (.int v1), .val (.int z9), .val (.int z18), .val (.int z27), .val (.int v29), .val (.int v30), .val (.int v31), .val (.long y41), .second, .val (.ref b43), .val (.int o147), .unset, .unset, .unset, .unset, .unset, .unset, .unset, .unset, .unset, .unset, .unset, .unset, .unset, .unset] [(.long y156)])) := by
                intro T151 L152 y156 X153 e154 N155 hj157
                refine own_by (fun _ k => XS.lstore X153.here hx rfl (hb hby at_213) rfl (l' := #[.val (.long q0), .second, .val (.long q1), .second, .val (.long q2), .second, .val (.int p3), .val (.int p4), .val (.int p5), .val (.int v1), .val (.int z9), .val (.int z18), .val (.int z27), .val (.int v29), .val (.int v30), .val (.int v31), .val (.long y41), .second, .val (.ref b43), .val (.int o147), .val (.long y156), .second, .unset, .unset, .unset, .unset, .unset, .unset, .unset, .unset, .unset, .unset, .unset, .unset]) rfl k) ?_
                show own_Go p e below _ (T151.setTop (mkF m 215 #[.val (.long q0), .second, .val (.long q1), .second, .val (.long q2), .second, .val (.int p3), .val (.int p4), .val (.int p5), .val (.int v1), .val (.int z9), .val (.int z18), .val (.int z27), .val (.int v29), .val (.int v30), .val (.int v31), .val (.long y41), .second, .val (.ref b43), .val (.int o147), .val (.long y156), .second, .unset, .unset, .unset, .unset, .unset, .unset, .unset, .unset, .unset, .unset, .unset, .unset] []))
                refine own_by (fun t k => X153.ldc2Long hx hown (mvT hZ (hw _ (List.mem_of_getElem? (i := 59) rfl))) (g := (mkF m 215 #[.val (.long q0), .second, .val (.long q1), .second, .val (.long q2), .second, .val (.int p3), .val (.int p4), .val (.int p5), .val (.int v1), .val (.int z9), .val (.int z18), .val (.int z27), .val (.int v29), .val (.int v30), .val (.int v31), .val (.long y41), .second, .val (.ref b43), .val (.int o147), .val (.long y156), .second, .unset, .unset, .unset, .unset, .unset, .unset, .unset, .unset, .unset, .unset, .unset, .unset] [])) rfl (hb hby at_215) _ k) ?_
                show own_Go p e below _ (T151.setTop (mkF m 218 #[.val (.long q0), .second, .val (.long q1), .second, .val (.long q2), .second, .val (.int p3), .val (.int p4), .val (.int p5), .val (.int v1), .val (.int z9), .val (.int z18), .val (.int z27), .val (.int v29), .val (.int v30), .val (.int v31), .val (.long y41), .second, .val (.ref b43), .val (.int o147), .val (.long y156), .second, .unset, .unset, .unset, .unset, .unset, .unset, .unset, .unset, .unset, .unset, .unset, .unset] [(.long (2 : Int64))]))
                refine own_by (fun _ k => XS.lstore X153.here hx rfl (hb hby at_218) rfl (l' := #[.val (.long q0), .second, .val (.long q1), .second, .val (.long q2), .second, .val (.int p3), .val (.int p4), .val (.int p5), .val (.int v1), .val (.int z9), .val (.int z18), .val (.int z27), .val (.int v29), .val (.int v30), .val (.int v31), .val (.long y41), .second, .val (.ref b43), .val (.int o147), .val (.long y156), .second, .val (.long (2 : Int64)), .second, .unset, .unset, .unset, .unset, .unset, .unset, .unset, .unset, .unset, .unset]) rfl k) ?_
                show own_Go p e below _ (T151.setTop (mkF m 220 #[.val (.long q0), .second, .val (.long q1), .second, .val (.long q2), .second, .val (.int p3), .val (.int p4), .val (.int p5), .val (.int v1), .val (.int z9), .val (.int z18), .val (.int z27), .val (.int v29), .val (.int v30), .val (.int v31), .val (.long y41), .second, .val (.ref b43), .val (.int o147), .val (.long y156), .second, .val (.long (2 : Int64)), .second, .unset, .unset, .unset, .unset, .unset, .unset, .unset, .unset, .unset, .unset] []))
                refine own_by (fun _ k => XS.iload X153.here hx rfl (hb hby at_220) rfl k) ?_
                show own_Go p e below _ (T151.setTop (mkF m 222 #[.val (.long q0), .second, .val (.long q1), .second, .val (.long q2), .second, .val (.int p3), .val (.int p4), .val (.int p5), .val (.int v1), .val (.int z9), .val (.int z18), .val (.int z27), .val (.int v29), .val (.int v30), .val (.int v31), .val (.long y41), .second, .val (.ref b43), .val (.int o147), .val (.long y156), .second, .val (.long (2 : Int64)), .second, .unset, .unset, .unset, .unset, .unset, .unset, .unset, .unset, .unset, .unset] [(.int v29)]))
                refine own_by (fun _ k => XS.iconst X153.here hx rfl (hb hby at_222) k) ?_
                show own_Go p e below _ (T151.setTop (mkF m 223 #[.val (.long q0), .second, .val (.long q1), .second, .val (.long q2), .second, .val (.int p3), .val (.int p4), .val (.int p5), .val (.int v1), .val (.int z9), .val (.int z18), .val (.int z27), .val (.int v29), .val (.int v30), .val (.int v31), .val (.long y41), .second, .val (.ref b43), .val (.int o147), .val (.long y156), .second, .val (.long (2 : Int64)), .second, .unset, .unset, .unset, .unset, .unset, .unset, .unset, .unset, .unset, .unset] [(.int (1 : Int32)), (.int v29)]))
                have J160 : ∀ (T161 : State) (L162 : List Loc) (y166 : Int64) (y167 : Int64), Stand p l e room_1 s m #[(.long q0), (.long q1), (.long q2), (.int p3), (.int p4), (.int p5)] below meth c T161 L162 2 12 → T161.heap = h134 → Fr n0 L162 → (((v29 = (1 : Int32)) ∧ y166 = y156 ∧ y167 = (3 : Int64)) ∨ ((¬ (v29 = (1 : Int32))) ∧ (v29 = (2 : Int32)) ∧ y166 = (3 : Int64) ∧ y167 = (3 : Int64)) ∨ ((¬ (v29 = (1 : Int32))) ∧ (¬ (v29 = (2 : Int32))) ∧ y166 = y156 ∧ y167 = (2 : Int64))) → own_Go p e below (own_Fin s 16 128 (Q0 Z q0 q1 q2 p3 p4 p5 h0 n0)) (T161.setTop (mkF m 250 #[.val (.long q0), .second, .val (.long q1), .second, .val (.long q2), .second, .val (.int p3), .val (.int p4), .val (.int p5), .val (.int v1), .val (.int z9), .val (.int z18), .val (.int z27), .val (.int v29), .val (.int v30), .val (.int v31), .val (.long y41), .second, .val (.ref b43), .val (.int o147), .val (.long y166), .second, .val (.long y167), .second, .unset, .unset, .unset, .unset, .unset, .unset, .unset, .unset, .unset, .unset] [])) := by
                  intro T161 L162 y166 y167 X163 e164 N165 hj168
                  refine own_by (fun _ k => XS.lloadN X163.here hx rfl (hb hby at_250) rfl k) ?_
                  show own_Go p e below _ (T161.setTop (mkF m 251 #[.val (.long q0), .second, .val (.long q1), .second, .val (.long q2), .second, .val (.int p3), .val (.int p4), .val (.int p5), .val (.int v1), .val (.int z9), .val (.int z18), .val (.int z27), .val (.int v29), .val (.int v30), .val (.int v31), .val (.long y41), .second, .val (.ref b43), .val (.int o147), .val (.long y166), .second, .val (.long y167), .second, .unset, .unset, .unset, .unset, .unset, .unset, .unset, .unset, .unset, .unset] [(.long q1)]))
                  refine own_by (fun _ k => XS.lloadN X163.here hx rfl (hb hby at_251) rfl k) ?_
                  show own_Go p e below _ (T161.setTop (mkF m 252 #[.val (.long q0), .second, .val (.long q1), .second, .val (.long q2), .second, .val (.int p3), .val (.int p4), .val (.int p5), .val (.int v1), .val (.int z9), .val (.int z18), .val (.int z27), .val (.int v29), .val (.int v30), .val (.int v31), .val (.long y41), .second, .val (.ref b43), .val (.int o147), .val (.long y166), .second, .val (.long y167), .second, .unset, .unset, .unset, .unset, .unset, .unset, .unset, .unset, .unset, .unset] [(.long q0), (.long q1)]))
                  refine own_by (fun _ k => XS.lcmp X163.here hx rfl (hb hby at_252) rfl k) ?_
                  show own_Go p e below _ (T161.setTop (mkF m 253 #[.val (.long q0), .second, .val (.long q1), .second, .val (.long q2), .second, .val (.int p3), .val (.int p4), .val (.int p5), .val (.int v1), .val (.int z9), .val (.int z18), .val (.int z27), .val (.int v29), .val (.int v30), .val (.int v31), .val (.long y41), .second, .val (.ref b43), .val (.int o147), .val (.long y166), .second, .val (.long y167), .second, .unset, .unset, .unset, .unset, .unset, .unset, .unset, .unset, .unset, .unset] [(.int (lcmpW q1 q0))]))
                  have J173 : ∀ (T174 : State) (L175 : List Loc) (z179 : Int32), Stand p l e room_1 s m #[(.long q0), (.long q1), (.long q2), (.int p3), (.int p4), (.int p5)] below meth c T174 L175 2 12 → T174.heap = h134 → Fr n0 L175 → (((q1 = q0) ∧ (z9 = (0 : Int32)) ∧ z179 = (0 : Int32)) ∨ ((q1 = q0) ∧ (¬ (z9 = (0 : Int32))) ∧ (z27 = (0 : Int32)) ∧ z179 = (0 : Int32)) ∨ ((q1 = q0) ∧ (¬ (z9 = (0 : Int32))) ∧ (¬ (z27 = (0 : Int32))) ∧ (v31 < v30) ∧ z179 = (0 : Int32)) ∨ ((q1 = q0) ∧ (¬ (z9 = (0 : Int32))) ∧ (¬ (z27 = (0 : Int32))) ∧ (¬ (v31 < v30)) ∧ z179 = (1 : Int32)) ∨ ((¬ (q1 = q0)) ∧ z179 = (0 : Int32))) → own_Go p e below (own_Fin s 16 128 (Q0 Z q0 q1 q2 p3 p4 p5 h0 n0)) (T174.setTop (mkF m 278 #[.val (.long q0), .second, .val (.long q1), .second, .val (.long q2), .second, .val (.int p3), .val (.int p4), .val (.int p5), .val (.int v1), .val (.int z9), .val (.int z18), .val (.int z27), .val (.int v29), .val (.int v30), .val (.int v31), .val (.long y41), .second, .val (.ref b43), .val (.int o147), .val (.long y166), .second, .val (.long y167), .second, .unset, .unset, .unset, .unset, .unset, .unset, .unset, .unset, .unset, .unset] [(.int z179)])) := by
                    intro T174 L175 z179 X176 e177 N178 hj180
                    refine own_by (fun _ k => XS.istore X176.here hx rfl (hb hby at_278) rfl (l' := #[.val (.long q0), .second, .val (.long q1), .second, .val (.long q2), .second, .val (.int p3), .val (.int p4), .val (.int p5), .val (.int v1), .val (.int z9), .val (.int z18), .val (.int z27), .val (.int v29), .val (.int v30), .val (.int v31), .val (.long y41), .second, .val (.ref b43), .val (.int o147), .val (.long y166), .second, .val (.long y167), .second, .val (.int z179), .unset, .unset, .unset, .unset, .unset, .unset, .unset, .unset, .unset]) rfl k) ?_
                    show own_Go p e below _ (T174.setTop (mkF m 280 #[.val (.long q0), .second, .val (.long q1), .second, .val (.long q2), .second, .val (.int p3), .val (.int p4), .val (.int p5), .val (.int v1), .val (.int z9), .val (.int z18), .val (.int z27), .val (.int v29), .val (.int v30), .val (.int v31), .val (.long y41), .second, .val (.ref b43), .val (.int o147), .val (.long y166), .second, .val (.long y167), .second, .val (.int z179), .unset, .unset, .unset, .unset, .unset, .unset, .unset, .unset, .unset] []))
                    refine own_by (fun _ k => XS.lloadN X176.here hx rfl (hb hby at_280) rfl k) ?_
                    show own_Go p e below _ (T174.setTop (mkF m 281 #[.val (.long q0), .second, .val (.long q1), .second, .val (.long q2), .second, .val (.int p3), .val (.int p4), .val (.int p5), .val (.int v1), .val (.int z9), .val (.int z18), .val (.int z27), .val (.int v29), .val (.int v30), .val (.int v31), .val (.long y41), .second, .val (.ref b43), .val (.int o147), .val (.long y166), .second, .val (.long y167), .second, .val (.int z179), .unset, .unset, .unset, .unset, .unset, .unset, .unset, .unset, .unset] [(.long q1)]))
                    refine own_by (fun _ k => XS.lstore X176.here hx rfl (hb hby at_281) rfl (l' := #[.val (.long q0), .second, .val (.long q1), .second, .val (.long q2), .second, .val (.int p3), .val (.int p4), .val (.int p5), .val (.int v1), .val (.int z9), .val (.int z18), .val (.int z27), .val (.int v29), .val (.int v30), .val (.int v31), .val (.long y41), .second, .val (.ref b43), .val (.int o147), .val (.long y166), .second, .val (.long y167), .second, .val (.int z179), .val (.long q1), .second, .unset, .unset, .unset, .unset, .unset, .unset, .unset]) rfl k) ?_
                    show own_Go p e below _ (T174.setTop (mkF m 283 #[.val (.long q0), .second, .val (.long q1), .second, .val (.long q2), .second, .val (.int p3), .val (.int p4), .val (.int p5), .val (.int v1), .val (.int z9), .val (.int z18), .val (.int z27), .val (.int v29), .val (.int v30), .val (.int v31), .val (.long y41), .second, .val (.ref b43), .val (.int o147), .val (.long y166), .second, .val (.long y167), .second, .val (.int z179), .val (.long q1), .second, .unset, .unset, .unset, .unset, .unset, .unset, .unset] []))
                    refine own_by (fun t k => X176.ldc2Long hx hown (mvT hZ (hw _ (List.mem_of_getElem? (i := 59) rfl))) (g := (mkF m 283 #[.val (.long q0), .second, .val (.long q1), .second, .val (.long q2), .second, .val (.int p3), .val (.int p4), .val (.int p5), .val (.int v1), .val (.int z9), .val (.int z18), .val (.int z27), .val (.int v29), .val (.int v30), .val (.int v31), .val (.long y41), .second, .val (.ref b43), .val (.int o147), .val (.long y166), .second, .val (.long y167), .second, .val (.int z179), .val (.long q1), .second, .unset, .unset, .unset, .unset, .unset, .unset, .unset] [])) rfl (hb hby at_283) _ k) ?_
                    show own_Go p e below _ (T174.setTop (mkF m 286 #[.val (.long q0), .second, .val (.long q1), .second, .val (.long q2), .second, .val (.int p3), .val (.int p4), .val (.int p5), .val (.int v1), .val (.int z9), .val (.int z18), .val (.int z27), .val (.int v29), .val (.int v30), .val (.int v31), .val (.long y41), .second, .val (.ref b43), .val (.int o147), .val (.long y166), .second, .val (.long y167), .second, .val (.int z179), .val (.long q1), .second, .unset, .unset, .unset, .unset, .unset, .unset, .unset] [(.long (2 : Int64))]))
                    refine own_by (fun _ k => XS.lstore X176.here hx rfl (hb hby at_286) rfl (l' := #[.val (.long q0), .second, .val (.long q1), .second, .val (.long q2), .second, .val (.int p3), .val (.int p4), .val (.int p5), .val (.int v1), .val (.int z9), .val (.int z18), .val (.int z27), .val (.int v29), .val (.int v30), .val (.int v31), .val (.long y41), .second, .val (.ref b43), .val (.int o147), .val (.long y166), .second, .val (.long y167), .second, .val (.int z179), .val (.long q1), .second, .val (.long (2 : Int64)), .second, .unset, .unset, .unset, .unset, .unset]) rfl k) ?_
                    show own_Go p e below _ (T174.setTop (mkF m 288 #[.val (.long q0), .second, .val (.long q1), .second, .val (.long q2), .second, .val (.int p3), .val (.int p4), .val (.int p5), .val (.int v1), .val (.int z9), .val (.int z18), .val (.int z27), .val (.int v29), .val (.int v30), .val (.int v31), .val (.long y41), .second, .val (.ref b43), .val (.int o147), .val (.long y166), .second, .val (.long y167), .second, .val (.int z179), .val (.long q1), .second, .val (.long (2 : Int64)), .second, .unset, .unset, .unset, .unset, .unset] []))
                    refine own_by (fun _ k => XS.iload X176.here hx rfl (hb hby at_288) rfl k) ?_
                    show own_Go p e below _ (T174.setTop (mkF m 290 #[.val (.long q0), .second, .val (.long q1), .second, .val (.long q2), .second, .val (.int p3), .val (.int p4), .val (.int p5), .val (.int v1), .val (.int z9), .val (.int z18), .val (.int z27), .val (.int v29), .val (.int v30), .val (.int v31), .val (.long y41), .second, .val (.ref b43), .val (.int o147), .val (.long y166), .second, .val (.long y167), .second, .val (.int z179), .val (.long q1), .second, .val (.long (2 : Int64)), .second, .unset, .unset, .unset, .unset, .unset] [(.int z179)]))
                    have J182 : ∀ (T183 : State) (L184 : List Loc) (y188 : Int64), Stand p l e room_1 s m #[(.long q0), (.long q1), (.long q2), (.int p3), (.int p4), (.int p5)] below meth c T183 L184 2 12 → T183.heap = h134 → Fr n0 L184 → (((z179 = (0 : Int32)) ∧ y188 = q0) ∨ ((¬ (z179 = (0 : Int32))) ∧ y188 = (0 : Int64))) → own_Go p e below (own_Fin s 16 128 (Q0 Z q0 q1 q2 p3 p4 p5 h0 n0)) (T183.setTop (mkF m 298 #[.val (.long q0), .second, .val (.long q1), .second, .val (.long q2), .second, .val (.int p3), .val (.int p4), .val (.int p5), .val (.int v1), .val (.int z9), .val (.int z18), .val (.int z27), .val (.int v29), .val (.int v30), .val (.int v31), .val (.long y41), .second, .val (.ref b43), .val (.int o147), .val (.long y166), .second, .val (.long y167), .second, .val (.int z179), .val (.long q1), .second, .val (.long (2 : Int64)), .second, .unset, .unset, .unset, .unset, .unset] [(.long y188)])) := by
                      intro T183 L184 y188 X185 e186 N187 hj189
                      refine own_by (fun _ k => XS.lstore X185.here hx rfl (hb hby at_298) rfl (l' := #[.val (.long q0), .second, .val (.long q1), .second, .val (.long q2), .second, .val (.int p3), .val (.int p4), .val (.int p5), .val (.int v1), .val (.int z9), .val (.int z18), .val (.int z27), .val (.int v29), .val (.int v30), .val (.int v31), .val (.long y41), .second, .val (.ref b43), .val (.int o147), .val (.long y166), .second, .val (.long y167), .second, .val (.int z179), .val (.long q1), .second, .val (.long (2 : Int64)), .second, .val (.long y188), .second, .unset, .unset, .unset]) rfl k) ?_
                      show own_Go p e below _ (T183.setTop (mkF m 300 #[.val (.long q0), .second, .val (.long q1), .second, .val (.long q2), .second, .val (.int p3), .val (.int p4), .val (.int p5), .val (.int v1), .val (.int z9), .val (.int z18), .val (.int z27), .val (.int v29), .val (.int v30), .val (.int v31), .val (.long y41), .second, .val (.ref b43), .val (.int o147), .val (.long y166), .second, .val (.long y167), .second, .val (.int z179), .val (.long q1), .second, .val (.long (2 : Int64)), .second, .val (.long y188), .second, .unset, .unset, .unset] []))
                      refine own_by (fun _ k => XS.iload X185.here hx rfl (hb hby at_300) rfl k) ?_
                      show own_Go p e below _ (T183.setTop (mkF m 302 #[.val (.long q0), .second, .val (.long q1), .second, .val (.long q2), .second, .val (.int p3), .val (.int p4), .val (.int p5), .val (.int v1), .val (.int z9), .val (.int z18), .val (.int z27), .val (.int v29), .val (.int v30), .val (.int v31), .val (.long y41), .second, .val (.ref b43), .val (.int o147), .val (.long y166), .second, .val (.long y167), .second, .val (.int z179), .val (.long q1), .second, .val (.long (2 : Int64)), .second, .val (.long y188), .second, .unset, .unset, .unset] [(.int z179)]))
                      have J191 : ∀ (T192 : State) (L193 : List Loc) (y197 : Int64), Stand p l e room_1 s m #[(.long q0), (.long q1), (.long q2), (.int p3), (.int p4), (.int p5)] below meth c T192 L193 2 12 → T192.heap = h134 → Fr n0 L193 → (((z179 = (0 : Int32)) ∧ y197 = (1 : Int64)) ∨ ((¬ (z179 = (0 : Int32))) ∧ y197 = (0 : Int64))) → own_Go p e below (own_Fin s 16 128 (Q0 Z q0 q1 q2 p3 p4 p5 h0 n0)) (T192.setTop (mkF m 310 #[.val (.long q0), .second, .val (.long q1), .second, .val (.long q2), .second, .val (.int p3), .val (.int p4), .val (.int p5), .val (.int v1), .val (.int z9), .val (.int z18), .val (.int z27), .val (.int v29), .val (.int v30), .val (.int v31), .val (.long y41), .second, .val (.ref b43), .val (.int o147), .val (.long y166), .second, .val (.long y167), .second, .val (.int z179), .val (.long q1), .second, .val (.long (2 : Int64)), .second, .val (.long y188), .second, .unset, .unset, .unset] [(.long y197)])) := by
                        intro T192 L193 y197 X194 e195 N196 hj198
                        refine own_by (fun _ k => XS.lstore X194.here hx rfl (hb hby at_310) rfl (l' := #[.val (.long q0), .second, .val (.long q1), .second, .val (.long q2), .second, .val (.int p3), .val (.int p4), .val (.int p5), .val (.int v1), .val (.int z9), .val (.int z18), .val (.int z27), .val (.int v29), .val (.int v30), .val (.int v31), .val (.long y41), .second, .val (.ref b43), .val (.int o147), .val (.long y166), .second, .val (.long y167), .second, .val (.int z179), .val (.long q1), .second, .val (.long (2 : Int64)), .second, .val (.long y188), .second, .val (.long y197), .second, .unset]) rfl k) ?_
                        show own_Go p e below _ (T192.setTop (mkF m 312 #[.val (.long q0), .second, .val (.long q1), .second, .val (.long q2), .second, .val (.int p3), .val (.int p4), .val (.int p5), .val (.int v1), .val (.int z9), .val (.int z18), .val (.int z27), .val (.int v29), .val (.int v30), .val (.int v31), .val (.long y41), .second, .val (.ref b43), .val (.int o147), .val (.long y166), .second, .val (.long y167), .second, .val (.int z179), .val (.long q1), .second, .val (.long (2 : Int64)), .second, .val (.long y188), .second, .val (.long y197), .second, .unset] []))
                        refine own_by (fun _ k => XS.iconst X194.here hx rfl (hb hby at_312) k) ?_
                        show own_Go p e below _ (T192.setTop (mkF m 313 #[.val (.long q0), .second, .val (.long q1), .second, .val (.long q2), .second, .val (.int p3), .val (.int p4), .val (.int p5), .val (.int v1), .val (.int z9), .val (.int z18), .val (.int z27), .val (.int v29), .val (.int v30), .val (.int v31), .val (.long y41), .second, .val (.ref b43), .val (.int o147), .val (.long y166), .second, .val (.long y167), .second, .val (.int z179), .val (.long q1), .second, .val (.long (2 : Int64)), .second, .val (.long y188), .second, .val (.long y197), .second, .unset] [(.int (-1 : Int32))]))
                        refine own_by (fun _ k => XS.istore X194.here hx rfl (hb hby at_313) rfl (l' := #[.val (.long q0), .second, .val (.long q1), .second, .val (.long q2), .second, .val (.int p3), .val (.int p4), .val (.int p5), .val (.int v1), .val (.int z9), .val (.int z18), .val (.int z27), .val (.int v29), .val (.int v30), .val (.int v31), .val (.long y41), .second, .val (.ref b43), .val (.int o147), .val (.long y166), .second, .val (.long y167), .second, .val (.int z179), .val (.long q1), .second, .val (.long (2 : Int64)), .second, .val (.long y188), .second, .val (.long y197), .second, .val (.int (-1 : Int32))]) rfl k) ?_
                        show own_Go p e below _ (T192.setTop (mkF m 315 #[.val (.long q0), .second, .val (.long q1), .second, .val (.long q2), .second, .val (.int p3), .val (.int p4), .val (.int p5), .val (.int v1), .val (.int z9), .val (.int z18), .val (.int z27), .val (.int v29), .val (.int v30), .val (.int v31), .val (.long y41), .second, .val (.ref b43), .val (.int o147), .val (.long y166), .second, .val (.long y167), .second, .val (.int z179), .val (.long q1), .second, .val (.long (2 : Int64)), .second, .val (.long y188), .second, .val (.long y197), .second, .val (.int (-1 : Int32))] []))
                        refine own_by (fun _ k => XS.lload X194.here hx rfl (hb hby at_315) rfl k) ?_
                        show own_Go p e below _ (T192.setTop (mkF m 317 #[.val (.long q0), .second, .val (.long q1), .second, .val (.long q2), .second, .val (.int p3), .val (.int p4), .val (.int p5), .val (.int v1), .val (.int z9), .val (.int z18), .val (.int z27), .val (.int v29), .val (.int v30), .val (.int v31), .val (.long y41), .second, .val (.ref b43), .val (.int o147), .val (.long y166), .second, .val (.long y167), .second, .val (.int z179), .val (.long q1), .second, .val (.long (2 : Int64)), .second, .val (.long y188), .second, .val (.long y197), .second, .val (.int (-1 : Int32))] [(.long y41)]))
                        refine own_by (fun _ k => XS.lload X194.here hx rfl (hb hby at_317) rfl k) ?_
                        show own_Go p e below _ (T192.setTop (mkF m 319 #[.val (.long q0), .second, .val (.long q1), .second, .val (.long q2), .second, .val (.int p3), .val (.int p4), .val (.int p5), .val (.int v1), .val (.int z9), .val (.int z18), .val (.int z27), .val (.int v29), .val (.int v30), .val (.int v31), .val (.long y41), .second, .val (.ref b43), .val (.int o147), .val (.long y166), .second, .val (.long y167), .second, .val (.int z179), .val (.long q1), .second, .val (.long (2 : Int64)), .second, .val (.long y188), .second, .val (.long y197), .second, .val (.int (-1 : Int32))] [(.long q1), (.long y41)]))
                        refine own_by (fun _ k => XS.lcmp X194.here hx rfl (hb hby at_319) rfl k) ?_
                        show own_Go p e below _ (T192.setTop (mkF m 320 #[.val (.long q0), .second, .val (.long q1), .second, .val (.long q2), .second, .val (.int p3), .val (.int p4), .val (.int p5), .val (.int v1), .val (.int z9), .val (.int z18), .val (.int z27), .val (.int v29), .val (.int v30), .val (.int v31), .val (.long y41), .second, .val (.ref b43), .val (.int o147), .val (.long y166), .second, .val (.long y167), .second, .val (.int z179), .val (.long q1), .second, .val (.long (2 : Int64)), .second, .val (.long y188), .second, .val (.long y197), .second, .val (.int (-1 : Int32))] [(.int (lcmpW y41 q1))]))
                        have J211 : ∀ (T212 : State) (L213 : List Loc) (z217 : Int32), Stand p l e room_1 s m #[(.long q0), (.long q1), (.long q2), (.int p3), (.int p4), (.int p5)] below meth c T212 L213 2 12 → T212.heap = h134 → Fr n0 L213 → (((y41 = q1) ∧ ((2 : Int64) < y166) ∧ (y41 = y188) ∧ (y197 < y166) ∧ z217 = (-1 : Int32)) ∨ ((y41 = q1) ∧ ((2 : Int64) < y166) ∧ (y41 = y188) ∧ (¬ (y197 < y166)) ∧ (y197 < y167) ∧ z217 = (4 : Int32)) ∨ ((y41 = q1) ∧ ((2 : Int64) < y166) ∧ (y41 = y188) ∧ (¬ (y197 < y166)) ∧ (¬ (y197 < y167)) ∧ z217 = (-1 : Int32)) ∨ ((y41 = q1) ∧ ((2 : Int64) < y166) ∧ (¬ (y41 = y188)) ∧ z217 = (-1 : Int32)) ∨ ((y41 = q1) ∧ (¬ ((2 : Int64) < y166)) ∧ ((2 : Int64) < y167) ∧ z217 = (0 : Int32)) ∨ ((y41 = q1) ∧ (¬ ((2 : Int64) < y166)) ∧ (¬ ((2 : Int64) < y167)) ∧ (y41 = y188) ∧ (y197 < y166) ∧ z217 = (-1 : Int32)) ∨ ((y41 = q1) ∧ (¬ ((2 : Int64) < y166)) ∧ (¬ ((2 : Int64) < y167)) ∧ (y41 = y188) ∧ (¬ (y197 < y166)) ∧ (y197 < y167) ∧ z217 = (4 : Int32)) ∨ ((y41 = q1) ∧ (¬ ((2 : Int64) < y166)) ∧ (¬ ((2 : Int64) < y167)) ∧ (y41 = y188) ∧ (¬ (y197 < y166)) ∧ (¬ (y197 < y167)) ∧ z217 = (-1 : Int32)) ∨ ((y41 = q1) ∧ (¬ ((2 : Int64) < y166)) ∧ (¬ ((2 : Int64) < y167)) ∧ (¬ (y41 = y188)) ∧ z217 = (-1 : Int32)) ∨ ((¬ (y41 = q1)) ∧ (y41 = y188) ∧ (y197 < y166) ∧ z217 = (-1 : Int32)) ∨ ((¬ (y41 = q1)) ∧ (y41 = y188) ∧ (¬ (y197 < y166)) ∧ (y197 < y167) ∧ z217 = (4 : Int32)) ∨ ((¬ (y41 = q1)) ∧ (y41 = y188) ∧ (¬ (y197 < y166)) ∧ (¬ (y197 < y167)) ∧ z217 = (-1 : Int32)) ∨ ((¬ (y41 = q1)) ∧ (¬ (y41 = y188)) ∧ z217 = (-1 : Int32))) → own_Go p e below (own_Fin s 16 128 (Q0 Z q0 q1 q2 p3 p4 p5 h0 n0)) (T212.setTop (mkF m 372 #[.val (.long q0), .second, .val (.long q1), .second, .val (.long q2), .second, .val (.int p3), .val (.int p4), .val (.int p5), .val (.int v1), .val (.int z9), .val (.int z18), .val (.int z27), .val (.int v29), .val (.int v30), .val (.int v31), .val (.long y41), .second, .val (.ref b43), .val (.int o147), .val (.long y166), .second, .val (.long y167), .second, .val (.int z179), .val (.long q1), .second, .val (.long (2 : Int64)), .second, .val (.long y188), .second, .val (.long y197), .second, .val (.int z217)] [])) := by
                          intro T212 L213 z217 X214 e215 N216 hj218
                          refine own_by (fun _ k => XS.iload X214.here hx rfl (hb hby at_372) rfl k) ?_
                          show own_Go p e below _ (T212.setTop (mkF m 374 #[.val (.long q0), .second, .val (.long q1), .second, .val (.long q2), .second, .val (.int p3), .val (.int p4), .val (.int p5), .val (.int v1), .val (.int z9), .val (.int z18), .val (.int z27), .val (.int v29), .val (.int v30), .val (.int v31), .val (.long y41), .second, .val (.ref b43), .val (.int o147), .val (.long y166), .second, .val (.long y167), .second, .val (.int z179), .val (.long q1), .second, .val (.long (2 : Int64)), .second, .val (.long y188), .second, .val (.long y197), .second, .val (.int z217)] [(.int o147)]))
                          refine own_by (fun _ k => XS.iload X214.here hx rfl (hb hby at_374) rfl k) ?_
                          show own_Go p e below _ (T212.setTop (mkF m 376 #[.val (.long q0), .second, .val (.long q1), .second, .val (.long q2), .second, .val (.int p3), .val (.int p4), .val (.int p5), .val (.int v1), .val (.int z9), .val (.int z18), .val (.int z27), .val (.int v29), .val (.int v30), .val (.int v31), .val (.long y41), .second, .val (.ref b43), .val (.int o147), .val (.long y166), .second, .val (.long y167), .second, .val (.int z179), .val (.long q1), .second, .val (.long (2 : Int64)), .second, .val (.long y188), .second, .val (.long y197), .second, .val (.int z217)] [(.int z217), (.int o147)]))
                          by_cases c219 : o147 = z217
                          · skip
                            refine own_by (fun _ k => XS.icmpNo X214.here hx rfl (hb hby at_376) rfl (teq c219).2 k) ?_
                            show own_Go p e below _ (T212.setTop (mkF m 379 #[.val (.long q0), .second, .val (.long q1), .second, .val (.long q2), .second, .val (.int p3), .val (.int p4), .val (.int p5), .val (.int v1), .val (.int z9), .val (.int z18), .val (.int z27), .val (.int v29), .val (.int v30), .val (.int v31), .val (.long y41), .second, .val (.ref b43), .val (.int o147), .val (.long y166), .second, .val (.long y167), .second, .val (.int z179), .val (.long q1), .second, .val (.long (2 : Int64)), .second, .val (.long y188), .second, .val (.long y197), .second, .val (.int z217)] []))
                            refine own_by (fun _ k => XS.iconst X214.here hx rfl (hb hby at_379) k) ?_
                            show own_Go p e below _ (T212.setTop (mkF m 380 #[.val (.long q0), .second, .val (.long q1), .second, .val (.long q2), .second, .val (.int p3), .val (.int p4), .val (.int p5), .val (.int v1), .val (.int z9), .val (.int z18), .val (.int z27), .val (.int v29), .val (.int v30), .val (.int v31), .val (.long y41), .second, .val (.ref b43), .val (.int o147), .val (.long y166), .second, .val (.long y167), .second, .val (.int z179), .val (.long q1), .second, .val (.long (2 : Int64)), .second, .val (.long y188), .second, .val (.long y197), .second, .val (.int z217)] [(.int (1 : Int32))]))
                            refine own_by (fun _ k => XS.goto X214.here hx rfl (pc0 := 380) (pc' := 384) rfl (hb hby at_380) (by decide) (by decide) k) ?_
                            show own_Go p e below _ (T212.setTop (mkF m 384 #[.val (.long q0), .second, .val (.long q1), .second, .val (.long q2), .second, .val (.int p3), .val (.int p4), .val (.int p5), .val (.int v1), .val (.int z9), .val (.int z18), .val (.int z27), .val (.int v29), .val (.int v30), .val (.int v31), .val (.long y41), .second, .val (.ref b43), .val (.int o147), .val (.long y166), .second, .val (.long y167), .second, .val (.int z179), .val (.long q1), .second, .val (.long (2 : Int64)), .second, .val (.long y188), .second, .val (.long y197), .second, .val (.int z217)] [(.int (1 : Int32))]))
                            exact own_retN X214 hx (t := .boolean) Bd.returns (by simp) (hb hby at_384) hlk e215 ⟨rfl, N216⟩ (by decide) (by decide)
                          · skip
                            refine own_by (fun _ k => XS.icmpYes X214.here hx rfl (pc0 := 376) (pc' := 383) rfl (hb hby at_376) rfl (feq c219).2 (by decide) (by decide) k) ?_
                            show own_Go p e below _ (T212.setTop (mkF m 383 #[.val (.long q0), .second, .val (.long q1), .second, .val (.long q2), .second, .val (.int p3), .val (.int p4), .val (.int p5), .val (.int v1), .val (.int z9), .val (.int z18), .val (.int z27), .val (.int v29), .val (.int v30), .val (.int v31), .val (.long y41), .second, .val (.ref b43), .val (.int o147), .val (.long y166), .second, .val (.long y167), .second, .val (.int z179), .val (.long q1), .second, .val (.long (2 : Int64)), .second, .val (.long y188), .second, .val (.long y197), .second, .val (.int z217)] []))
                            refine own_by (fun _ k => XS.iconst X214.here hx rfl (hb hby at_383) k) ?_
                            show own_Go p e below _ (T212.setTop (mkF m 384 #[.val (.long q0), .second, .val (.long q1), .second, .val (.long q2), .second, .val (.int p3), .val (.int p4), .val (.int p5), .val (.int v1), .val (.int z9), .val (.int z18), .val (.int z27), .val (.int v29), .val (.int v30), .val (.int v31), .val (.long y41), .second, .val (.ref b43), .val (.int o147), .val (.long y166), .second, .val (.long y167), .second, .val (.int z179), .val (.long q1), .second, .val (.long (2 : Int64)), .second, .val (.long y188), .second, .val (.long y197), .second, .val (.int z217)] [(.int (0 : Int32))]))
                            exact own_retN X214 hx (t := .boolean) Bd.returns (by simp) (hb hby at_384) hlk e215 ⟨((ob_0_31 q0 q1 q2 p3 p4 p5 v1 z9 z18 z27 v29 v30 v31 y41 b56 y89 b101 y135 y136 o147 y156 y166 y167 z179 y188 y197 z217 hv1 hj10 hj19 hj28 hv29 hv30 hv31 hj42 hp58 hj99 hp103 hj145 hp148 hj157 hj168 hj180 hj189 hj198 hj218 c219)).elim, N216⟩ (by decide) (by decide)
                        by_cases c199 : y41 = q1
                        · skip
                          refine own_by (fun _ k => XS.ifNo X194.here hx rfl (hb hby at_320) rfl ((if0 _ _).trans (teq ((lw_eq _ _).mpr c199)).2) k) ?_
                          show own_Go p e below _ (T192.setTop (mkF m 323 #[.val (.long q0), .second, .val (.long q1), .second, .val (.long q2), .second, .val (.int p3), .val (.int p4), .val (.int p5), .val (.int v1), .val (.int z9), .val (.int z18), .val (.int z27), .val (.int v29), .val (.int v30), .val (.int v31), .val (.long y41), .second, .val (.ref b43), .val (.int o147), .val (.long y166), .second, .val (.long y167), .second, .val (.int z179), .val (.long q1), .second, .val (.long (2 : Int64)), .second, .val (.long y188), .second, .val (.long y197), .second, .val (.int (-1 : Int32))] []))
                          refine own_by (fun _ k => XS.lload X194.here hx rfl (hb hby at_323) rfl k) ?_
                          show own_Go p e below _ (T192.setTop (mkF m 325 #[.val (.long q0), .second, .val (.long q1), .second, .val (.long q2), .second, .val (.int p3), .val (.int p4), .val (.int p5), .val (.int v1), .val (.int z9), .val (.int z18), .val (.int z27), .val (.int v29), .val (.int v30), .val (.int v31), .val (.long y41), .second, .val (.ref b43), .val (.int o147), .val (.long y166), .second, .val (.long y167), .second, .val (.int z179), .val (.long q1), .second, .val (.long (2 : Int64)), .second, .val (.long y188), .second, .val (.long y197), .second, .val (.int (-1 : Int32))] [(.long (2 : Int64))]))
                          refine own_by (fun _ k => XS.lload X194.here hx rfl (hb hby at_325) rfl k) ?_
                          show own_Go p e below _ (T192.setTop (mkF m 327 #[.val (.long q0), .second, .val (.long q1), .second, .val (.long q2), .second, .val (.int p3), .val (.int p4), .val (.int p5), .val (.int v1), .val (.int z9), .val (.int z18), .val (.int z27), .val (.int v29), .val (.int v30), .val (.int v31), .val (.long y41), .second, .val (.ref b43), .val (.int o147), .val (.long y166), .second, .val (.long y167), .second, .val (.int z179), .val (.long q1), .second, .val (.long (2 : Int64)), .second, .val (.long y188), .second, .val (.long y197), .second, .val (.int (-1 : Int32))] [(.long y166), (.long (2 : Int64))]))
                          refine own_by (fun _ k => XS.lcmp X194.here hx rfl (hb hby at_327) rfl k) ?_
                          show own_Go p e below _ (T192.setTop (mkF m 328 #[.val (.long q0), .second, .val (.long q1), .second, .val (.long q2), .second, .val (.int p3), .val (.int p4), .val (.int p5), .val (.int v1), .val (.int z9), .val (.int z18), .val (.int z27), .val (.int v29), .val (.int v30), .val (.int v31), .val (.long y41), .second, .val (.ref b43), .val (.int o147), .val (.long y166), .second, .val (.long y167), .second, .val (.int z179), .val (.long q1), .second, .val (.long (2 : Int64)), .second, .val (.long y188), .second, .val (.long y197), .second, .val (.int (-1 : Int32))] [(.int (lcmpW (2 : Int64) y166))]))
                          by_cases c200 : (2 : Int64) < y166
                          · skip
                            refine own_by (fun _ k => XS.ifYes X194.here hx rfl (pc0 := 328) (pc' := 345) rfl (hb hby at_328) rfl ((if0 _ _).trans (tlt ((lw_lt _ _).mpr c200)).1) (by decide) (by decide) k) ?_
                            show own_Go p e below _ (T192.setTop (mkF m 345 #[.val (.long q0), .second, .val (.long q1), .second, .val (.long q2), .second, .val (.int p3), .val (.int p4), .val (.int p5), .val (.int v1), .val (.int z9), .val (.int z18), .val (.int z27), .val (.int v29), .val (.int v30), .val (.int v31), .val (.long y41), .second, .val (.ref b43), .val (.int o147), .val (.long y166), .second, .val (.long y167), .second, .val (.int z179), .val (.long q1), .second, .val (.long (2 : Int64)), .second, .val (.long y188), .second, .val (.long y197), .second, .val (.int (-1 : Int32))] []))
                            refine own_by (fun _ k => XS.lload X194.here hx rfl (hb hby at_345) rfl k) ?_
                            show own_Go p e below _ (T192.setTop (mkF m 347 #[.val (.long q0), .second, .val (.long q1), .second, .val (.long q2), .second, .val (.int p3), .val (.int p4), .val (.int p5), .val (.int v1), .val (.int z9), .val (.int z18), .val (.int z27), .val (.int v29), .val (.int v30), .val (.int v31), .val (.long y41), .second, .val (.ref b43), .val (.int o147), .val (.long y166), .second, .val (.long y167), .second, .val (.int z179), .val (.long q1), .second, .val (.long (2 : Int64)), .second, .val (.long y188), .second, .val (.long y197), .second, .val (.int (-1 : Int32))] [(.long y41)]))
                            refine own_by (fun _ k => XS.lload X194.here hx rfl (hb hby at_347) rfl k) ?_
                            show own_Go p e below _ (T192.setTop (mkF m 349 #[.val (.long q0), .second, .val (.long q1), .second, .val (.long q2), .second, .val (.int p3), .val (.int p4), .val (.int p5), .val (.int v1), .val (.int z9), .val (.int z18), .val (.int z27), .val (.int v29), .val (.int v30), .val (.int v31), .val (.long y41), .second, .val (.ref b43), .val (.int o147), .val (.long y166), .second, .val (.long y167), .second, .val (.int z179), .val (.long q1), .second, .val (.long (2 : Int64)), .second, .val (.long y188), .second, .val (.long y197), .second, .val (.int (-1 : Int32))] [(.long y188), (.long y41)]))
                            refine own_by (fun _ k => XS.lcmp X194.here hx rfl (hb hby at_349) rfl k) ?_
                            show own_Go p e below _ (T192.setTop (mkF m 350 #[.val (.long q0), .second, .val (.long q1), .second, .val (.long q2), .second, .val (.int p3), .val (.int p4), .val (.int p5), .val (.int v1), .val (.int z9), .val (.int z18), .val (.int z27), .val (.int v29), .val (.int v30), .val (.int v31), .val (.long y41), .second, .val (.ref b43), .val (.int o147), .val (.long y166), .second, .val (.long y167), .second, .val (.int z179), .val (.long q1), .second, .val (.long (2 : Int64)), .second, .val (.long y188), .second, .val (.long y197), .second, .val (.int (-1 : Int32))] [(.int (lcmpW y41 y188))]))
                            by_cases c201 : y41 = y188
                            · skip
                              refine own_by (fun _ k => XS.ifNo X194.here hx rfl (hb hby at_350) rfl ((if0 _ _).trans (teq ((lw_eq _ _).mpr c201)).2) k) ?_
                              show own_Go p e below _ (T192.setTop (mkF m 353 #[.val (.long q0), .second, .val (.long q1), .second, .val (.long q2), .second, .val (.int p3), .val (.int p4), .val (.int p5), .val (.int v1), .val (.int z9), .val (.int z18), .val (.int z27), .val (.int v29), .val (.int v30), .val (.int v31), .val (.long y41), .second, .val (.ref b43), .val (.int o147), .val (.long y166), .second, .val (.long y167), .second, .val (.int z179), .val (.long q1), .second, .val (.long (2 : Int64)), .second, .val (.long y188), .second, .val (.long y197), .second, .val (.int (-1 : Int32))] []))
                              refine own_by (fun _ k => XS.lload X194.here hx rfl (hb hby at_353) rfl k) ?_
                              show own_Go p e below _ (T192.setTop (mkF m 355 #[.val (.long q0), .second, .val (.long q1), .second, .val (.long q2), .second, .val (.int p3), .val (.int p4), .val (.int p5), .val (.int v1), .val (.int z9), .val (.int z18), .val (.int z27), .val (.int v29), .val (.int v30), .val (.int v31), .val (.long y41), .second, .val (.ref b43), .val (.int o147), .val (.long y166), .second, .val (.long y167), .second, .val (.int z179), .val (.long q1), .second, .val (.long (2 : Int64)), .second, .val (.long y188), .second, .val (.long y197), .second, .val (.int (-1 : Int32))] [(.long y197)]))
                              refine own_by (fun _ k => XS.lload X194.here hx rfl (hb hby at_355) rfl k) ?_
                              show own_Go p e below _ (T192.setTop (mkF m 357 #[.val (.long q0), .second, .val (.long q1), .second, .val (.long q2), .second, .val (.int p3), .val (.int p4), .val (.int p5), .val (.int v1), .val (.int z9), .val (.int z18), .val (.int z27), .val (.int v29), .val (.int v30), .val (.int v31), .val (.long y41), .second, .val (.ref b43), .val (.int o147), .val (.long y166), .second, .val (.long y167), .second, .val (.int z179), .val (.long q1), .second, .val (.long (2 : Int64)), .second, .val (.long y188), .second, .val (.long y197), .second, .val (.int (-1 : Int32))] [(.long y166), (.long y197)]))
                              refine own_by (fun _ k => XS.lcmp X194.here hx rfl (hb hby at_357) rfl k) ?_
                              show own_Go p e below _ (T192.setTop (mkF m 358 #[.val (.long q0), .second, .val (.long q1), .second, .val (.long q2), .second, .val (.int p3), .val (.int p4), .val (.int p5), .val (.int v1), .val (.int z9), .val (.int z18), .val (.int z27), .val (.int v29), .val (.int v30), .val (.int v31), .val (.long y41), .second, .val (.ref b43), .val (.int o147), .val (.long y166), .second, .val (.long y167), .second, .val (.int z179), .val (.long q1), .second, .val (.long (2 : Int64)), .second, .val (.long y188), .second, .val (.long y197), .second, .val (.int (-1 : Int32))] [(.int (lcmpW y197 y166))]))
                              by_cases c202 : y197 < y166
                              · skip
                                refine own_by (fun _ k => XS.ifYes X194.here hx rfl (pc0 := 358) (pc' := 372) rfl (hb hby at_358) rfl ((if0 _ _).trans (tlt ((lw_lt _ _).mpr c202)).1) (by decide) (by decide) k) ?_
                                show own_Go p e below _ (T192.setTop (mkF m 372 #[.val (.long q0), .second, .val (.long q1), .second, .val (.long q2), .second, .val (.int p3), .val (.int p4), .val (.int p5), .val (.int v1), .val (.int z9), .val (.int z18), .val (.int z27), .val (.int v29), .val (.int v30), .val (.int v31), .val (.long y41), .second, .val (.ref b43), .val (.int o147), .val (.long y166), .second, .val (.long y167), .second, .val (.int z179), .val (.long q1), .second, .val (.long (2 : Int64)), .second, .val (.long y188), .second, .val (.long y197), .second, .val (.int (-1 : Int32))] []))
                                exact J211 _ _ (-1 : Int32) X194 e195 N196 (Or.inl ⟨c199, c200, c201, c202, rfl⟩)
                              · skip
                                refine own_by (fun _ k => XS.ifNo X194.here hx rfl (hb hby at_358) rfl ((if0 _ _).trans (flt (fun q => c202 ((lw_lt _ _).mp q))).1) k) ?_
                                show own_Go p e below _ (T192.setTop (mkF m 361 #[.val (.long q0), .second, .val (.long q1), .second, .val (.long q2), .second, .val (.int p3), .val (.int p4), .val (.int p5), .val (.int v1), .val (.int z9), .val (.int z18), .val (.int z27), .val (.int v29), .val (.int v30), .val (.int v31), .val (.long y41), .second, .val (.ref b43), .val (.int o147), .val (.long y166), .second, .val (.long y167), .second, .val (.int z179), .val (.long q1), .second, .val (.long (2 : Int64)), .second, .val (.long y188), .second, .val (.long y197), .second, .val (.int (-1 : Int32))] []))
                                refine own_by (fun _ k => XS.lload X194.here hx rfl (hb hby at_361) rfl k) ?_
                                show own_Go p e below _ (T192.setTop (mkF m 363 #[.val (.long q0), .second, .val (.long q1), .second, .val (.long q2), .second, .val (.int p3), .val (.int p4), .val (.int p5), .val (.int v1), .val (.int z9), .val (.int z18), .val (.int z27), .val (.int v29), .val (.int v30), .val (.int v31), .val (.long y41), .second, .val (.ref b43), .val (.int o147), .val (.long y166), .second, .val (.long y167), .second, .val (.int z179), .val (.long q1), .second, .val (.long (2 : Int64)), .second, .val (.long y188), .second, .val (.long y197), .second, .val (.int (-1 : Int32))] [(.long y197)]))
                                refine own_by (fun _ k => XS.lload X194.here hx rfl (hb hby at_363) rfl k) ?_
                                show own_Go p e below _ (T192.setTop (mkF m 365 #[.val (.long q0), .second, .val (.long q1), .second, .val (.long q2), .second, .val (.int p3), .val (.int p4), .val (.int p5), .val (.int v1), .val (.int z9), .val (.int z18), .val (.int z27), .val (.int v29), .val (.int v30), .val (.int v31), .val (.long y41), .second, .val (.ref b43), .val (.int o147), .val (.long y166), .second, .val (.long y167), .second, .val (.int z179), .val (.long q1), .second, .val (.long (2 : Int64)), .second, .val (.long y188), .second, .val (.long y197), .second, .val (.int (-1 : Int32))] [(.long y167), (.long y197)]))
                                refine own_by (fun _ k => XS.lcmp X194.here hx rfl (hb hby at_365) rfl k) ?_
                                show own_Go p e below _ (T192.setTop (mkF m 366 #[.val (.long q0), .second, .val (.long q1), .second, .val (.long q2), .second, .val (.int p3), .val (.int p4), .val (.int p5), .val (.int v1), .val (.int z9), .val (.int z18), .val (.int z27), .val (.int v29), .val (.int v30), .val (.int v31), .val (.long y41), .second, .val (.ref b43), .val (.int o147), .val (.long y166), .second, .val (.long y167), .second, .val (.int z179), .val (.long q1), .second, .val (.long (2 : Int64)), .second, .val (.long y188), .second, .val (.long y197), .second, .val (.int (-1 : Int32))] [(.int (lcmpW y197 y167))]))
                                by_cases c203 : y197 < y167
                                · skip
                                  refine own_by (fun _ k => XS.ifNo X194.here hx rfl (hb hby at_366) rfl ((if0 _ _).trans (tlt ((lw_lt _ _).mpr c203)).2.1) k) ?_
                                  show own_Go p e below _ (T192.setTop (mkF m 369 #[.val (.long q0), .second, .val (.long q1), .second, .val (.long q2), .second, .val (.int p3), .val (.int p4), .val (.int p5), .val (.int v1), .val (.int z9), .val (.int z18), .val (.int z27), .val (.int v29), .val (.int v30), .val (.int v31), .val (.long y41), .second, .val (.ref b43), .val (.int o147), .val (.long y166), .second, .val (.long y167), .second, .val (.int z179), .val (.long q1), .second, .val (.long (2 : Int64)), .second, .val (.long y188), .second, .val (.long y197), .second, .val (.int (-1 : Int32))] []))
                                  refine own_by (fun _ k => XS.iconst X194.here hx rfl (hb hby at_369) k) ?_
                                  show own_Go p e below _ (T192.setTop (mkF m 370 #[.val (.long q0), .second, .val (.long q1), .second, .val (.long q2), .second, .val (.int p3), .val (.int p4), .val (.int p5), .val (.int v1), .val (.int z9), .val (.int z18), .val (.int z27), .val (.int v29), .val (.int v30), .val (.int v31), .val (.long y41), .second, .val (.ref b43), .val (.int o147), .val (.long y166), .second, .val (.long y167), .second, .val (.int z179), .val (.long q1), .second, .val (.long (2 : Int64)), .second, .val (.long y188), .second, .val (.long y197), .second, .val (.int (-1 : Int32))] [(.int (4 : Int32))]))
                                  refine own_by (fun _ k => XS.istore X194.here hx rfl (hb hby at_370) rfl (l' := #[.val (.long q0), .second, .val (.long q1), .second, .val (.long q2), .second, .val (.int p3), .val (.int p4), .val (.int p5), .val (.int v1), .val (.int z9), .val (.int z18), .val (.int z27), .val (.int v29), .val (.int v30), .val (.int v31), .val (.long y41), .second, .val (.ref b43), .val (.int o147), .val (.long y166), .second, .val (.long y167), .second, .val (.int z179), .val (.long q1), .second, .val (.long (2 : Int64)), .second, .val (.long y188), .second, .val (.long y197), .second, .val (.int (4 : Int32))]) rfl k) ?_
                                  show own_Go p e below _ (T192.setTop (mkF m 372 #[.val (.long q0), .second, .val (.long q1), .second, .val (.long q2), .second, .val (.int p3), .val (.int p4), .val (.int p5), .val (.int v1), .val (.int z9), .val (.int z18), .val (.int z27), .val (.int v29), .val (.int v30), .val (.int v31), .val (.long y41), .second, .val (.ref b43), .val (.int o147), .val (.long y166), .second, .val (.long y167), .second, .val (.int z179), .val (.long q1), .second, .val (.long (2 : Int64)), .second, .val (.long y188), .second, .val (.long y197), .second, .val (.int (4 : Int32))] []))
                                  exact J211 _ _ (4 : Int32) X194 e195 N196 (Or.inr (Or.inl ⟨c199, c200, c201, c202, c203, rfl⟩))
                                · skip
                                  refine own_by (fun _ k => XS.ifYes X194.here hx rfl (pc0 := 366) (pc' := 372) rfl (hb hby at_366) rfl ((if0 _ _).trans (flt (fun q => c203 ((lw_lt _ _).mp q))).2.1) (by decide) (by decide) k) ?_
                                  show own_Go p e below _ (T192.setTop (mkF m 372 #[.val (.long q0), .second, .val (.long q1), .second, .val (.long q2), .second, .val (.int p3), .val (.int p4), .val (.int p5), .val (.int v1), .val (.int z9), .val (.int z18), .val (.int z27), .val (.int v29), .val (.int v30), .val (.int v31), .val (.long y41), .second, .val (.ref b43), .val (.int o147), .val (.long y166), .second, .val (.long y167), .second, .val (.int z179), .val (.long q1), .second, .val (.long (2 : Int64)), .second, .val (.long y188), .second, .val (.long y197), .second, .val (.int (-1 : Int32))] []))
                                  exact J211 _ _ (-1 : Int32) X194 e195 N196 (Or.inr (Or.inr (Or.inl ⟨c199, c200, c201, c202, c203, rfl⟩)))
                            · skip
                              refine own_by (fun _ k => XS.ifYes X194.here hx rfl (pc0 := 350) (pc' := 372) rfl (hb hby at_350) rfl ((if0 _ _).trans (feq (fun q => c201 ((lw_eq _ _).mp q))).2) (by decide) (by decide) k) ?_
                              show own_Go p e below _ (T192.setTop (mkF m 372 #[.val (.long q0), .second, .val (.long q1), .second, .val (.long q2), .second, .val (.int p3), .val (.int p4), .val (.int p5), .val (.int v1), .val (.int z9), .val (.int z18), .val (.int z27), .val (.int v29), .val (.int v30), .val (.int v31), .val (.long y41), .second, .val (.ref b43), .val (.int o147), .val (.long y166), .second, .val (.long y167), .second, .val (.int z179), .val (.long q1), .second, .val (.long (2 : Int64)), .second, .val (.long y188), .second, .val (.long y197), .second, .val (.int (-1 : Int32))] []))
                              exact J211 _ _ (-1 : Int32) X194 e195 N196 (Or.inr (Or.inr (Or.inr (Or.inl ⟨c199, c200, c201, rfl⟩))))
                          · skip
                            refine own_by (fun _ k => XS.ifNo X194.here hx rfl (hb hby at_328) rfl ((if0 _ _).trans (flt (fun q => c200 ((lw_lt _ _).mp q))).1) k) ?_
                            show own_Go p e below _ (T192.setTop (mkF m 331 #[.val (.long q0), .second, .val (.long q1), .second, .val (.long q2), .second, .val (.int p3), .val (.int p4), .val (.int p5), .val (.int v1), .val (.int z9), .val (.int z18), .val (.int z27), .val (.int v29), .val (.int v30), .val (.int v31), .val (.long y41), .second, .val (.ref b43), .val (.int o147), .val (.long y166), .second, .val (.long y167), .second, .val (.int z179), .val (.long q1), .second, .val (.long (2 : Int64)), .second, .val (.long y188), .second, .val (.long y197), .second, .val (.int (-1 : Int32))] []))
                            refine own_by (fun _ k => XS.lload X194.here hx rfl (hb hby at_331) rfl k) ?_
                            show own_Go p e below _ (T192.setTop (mkF m 333 #[.val (.long q0), .second, .val (.long q1), .second, .val (.long q2), .second, .val (.int p3), .val (.int p4), .val (.int p5), .val (.int v1), .val (.int z9), .val (.int z18), .val (.int z27), .val (.int v29), .val (.int v30), .val (.int v31), .val (.long y41), .second, .val (.ref b43), .val (.int o147), .val (.long y166), .second, .val (.long y167), .second, .val (.int z179), .val (.long q1), .second, .val (.long (2 : Int64)), .second, .val (.long y188), .second, .val (.long y197), .second, .val (.int (-1 : Int32))] [(.long (2 : Int64))]))
                            refine own_by (fun _ k => XS.lload X194.here hx rfl (hb hby at_333) rfl k) ?_
                            show own_Go p e below _ (T192.setTop (mkF m 335 #[.val (.long q0), .second, .val (.long q1), .second, .val (.long q2), .second, .val (.int p3), .val (.int p4), .val (.int p5), .val (.int v1), .val (.int z9), .val (.int z18), .val (.int z27), .val (.int v29), .val (.int v30), .val (.int v31), .val (.long y41), .second, .val (.ref b43), .val (.int o147), .val (.long y166), .second, .val (.long y167), .second, .val (.int z179), .val (.long q1), .second, .val (.long (2 : Int64)), .second, .val (.long y188), .second, .val (.long y197), .second, .val (.int (-1 : Int32))] [(.long y167), (.long (2 : Int64))]))
                            refine own_by (fun _ k => XS.lcmp X194.here hx rfl (hb hby at_335) rfl k) ?_
                            show own_Go p e below _ (T192.setTop (mkF m 336 #[.val (.long q0), .second, .val (.long q1), .second, .val (.long q2), .second, .val (.int p3), .val (.int p4), .val (.int p5), .val (.int v1), .val (.int z9), .val (.int z18), .val (.int z27), .val (.int v29), .val (.int v30), .val (.int v31), .val (.long y41), .second, .val (.ref b43), .val (.int o147), .val (.long y166), .second, .val (.long y167), .second, .val (.int z179), .val (.long q1), .second, .val (.long (2 : Int64)), .second, .val (.long y188), .second, .val (.long y197), .second, .val (.int (-1 : Int32))] [(.int (lcmpW (2 : Int64) y167))]))
                            by_cases c204 : (2 : Int64) < y167
                            · skip
                              refine own_by (fun _ k => XS.ifNo X194.here hx rfl (hb hby at_336) rfl ((if0 _ _).trans (tlt ((lw_lt _ _).mpr c204)).2.1) k) ?_
                              show own_Go p e below _ (T192.setTop (mkF m 339 #[.val (.long q0), .second, .val (.long q1), .second, .val (.long q2), .second, .val (.int p3), .val (.int p4), .val (.int p5), .val (.int v1), .val (.int z9), .val (.int z18), .val (.int z27), .val (.int v29), .val (.int v30), .val (.int v31), .val (.long y41), .second, .val (.ref b43), .val (.int o147), .val (.long y166), .second, .val (.long y167), .second, .val (.int z179), .val (.long q1), .second, .val (.long (2 : Int64)), .second, .val (.long y188), .second, .val (.long y197), .second, .val (.int (-1 : Int32))] []))
                              refine own_by (fun _ k => XS.iconst X194.here hx rfl (hb hby at_339) k) ?_
                              show own_Go p e below _ (T192.setTop (mkF m 340 #[.val (.long q0), .second, .val (.long q1), .second, .val (.long q2), .second, .val (.int p3), .val (.int p4), .val (.int p5), .val (.int v1), .val (.int z9), .val (.int z18), .val (.int z27), .val (.int v29), .val (.int v30), .val (.int v31), .val (.long y41), .second, .val (.ref b43), .val (.int o147), .val (.long y166), .second, .val (.long y167), .second, .val (.int z179), .val (.long q1), .second, .val (.long (2 : Int64)), .second, .val (.long y188), .second, .val (.long y197), .second, .val (.int (-1 : Int32))] [(.int (0 : Int32))]))
                              refine own_by (fun _ k => XS.istore X194.here hx rfl (hb hby at_340) rfl (l' := #[.val (.long q0), .second, .val (.long q1), .second, .val (.long q2), .second, .val (.int p3), .val (.int p4), .val (.int p5), .val (.int v1), .val (.int z9), .val (.int z18), .val (.int z27), .val (.int v29), .val (.int v30), .val (.int v31), .val (.long y41), .second, .val (.ref b43), .val (.int o147), .val (.long y166), .second, .val (.long y167), .second, .val (.int z179), .val (.long q1), .second, .val (.long (2 : Int64)), .second, .val (.long y188), .second, .val (.long y197), .second, .val (.int (0 : Int32))]) rfl k) ?_
                              show own_Go p e below _ (T192.setTop (mkF m 342 #[.val (.long q0), .second, .val (.long q1), .second, .val (.long q2), .second, .val (.int p3), .val (.int p4), .val (.int p5), .val (.int v1), .val (.int z9), .val (.int z18), .val (.int z27), .val (.int v29), .val (.int v30), .val (.int v31), .val (.long y41), .second, .val (.ref b43), .val (.int o147), .val (.long y166), .second, .val (.long y167), .second, .val (.int z179), .val (.long q1), .second, .val (.long (2 : Int64)), .second, .val (.long y188), .second, .val (.long y197), .second, .val (.int (0 : Int32))] []))
                              refine own_by (fun _ k => XS.goto X194.here hx rfl (pc0 := 342) (pc' := 372) rfl (hb hby at_342) (by decide) (by decide) k) ?_
                              show own_Go p e below _ (T192.setTop (mkF m 372 #[.val (.long q0), .second, .val (.long q1), .second, .val (.long q2), .second, .val (.int p3), .val (.int p4), .val (.int p5), .val (.int v1), .val (.int z9), .val (.int z18), .val (.int z27), .val (.int v29), .val (.int v30), .val (.int v31), .val (.long y41), .second, .val (.ref b43), .val (.int o147), .val (.long y166), .second, .val (.long y167), .second, .val (.int z179), .val (.long q1), .second, .val (.long (2 : Int64)), .second, .val (.long y188), .second, .val (.long y197), .second, .val (.int (0 : Int32))] []))
                              exact J211 _ _ (0 : Int32) X194 e195 N196 (Or.inr (Or.inr (Or.inr (Or.inr (Or.inl ⟨c199, c200, c204, rfl⟩)))))
                            · skip
                              refine own_by (fun _ k => XS.ifYes X194.here hx rfl (pc0 := 336) (pc' := 345) rfl (hb hby at_336) rfl ((if0 _ _).trans (flt (fun q => c204 ((lw_lt _ _).mp q))).2.1) (by decide) (by decide) k) ?_
                              show own_Go p e below _ (T192.setTop (mkF m 345 #[.val (.long q0), .second, .val (.long q1), .second, .val (.long q2), .second, .val (.int p3), .val (.int p4), .val (.int p5), .val (.int v1), .val (.int z9), .val (.int z18), .val (.int z27), .val (.int v29), .val (.int v30), .val (.int v31), .val (.long y41), .second, .val (.ref b43), .val (.int o147), .val (.long y166), .second, .val (.long y167), .second, .val (.int z179), .val (.long q1), .second, .val (.long (2 : Int64)), .second, .val (.long y188), .second, .val (.long y197), .second, .val (.int (-1 : Int32))] []))
                              refine own_by (fun _ k => XS.lload X194.here hx rfl (hb hby at_345) rfl k) ?_
                              show own_Go p e below _ (T192.setTop (mkF m 347 #[.val (.long q0), .second, .val (.long q1), .second, .val (.long q2), .second, .val (.int p3), .val (.int p4), .val (.int p5), .val (.int v1), .val (.int z9), .val (.int z18), .val (.int z27), .val (.int v29), .val (.int v30), .val (.int v31), .val (.long y41), .second, .val (.ref b43), .val (.int o147), .val (.long y166), .second, .val (.long y167), .second, .val (.int z179), .val (.long q1), .second, .val (.long (2 : Int64)), .second, .val (.long y188), .second, .val (.long y197), .second, .val (.int (-1 : Int32))] [(.long y41)]))
                              refine own_by (fun _ k => XS.lload X194.here hx rfl (hb hby at_347) rfl k) ?_
                              show own_Go p e below _ (T192.setTop (mkF m 349 #[.val (.long q0), .second, .val (.long q1), .second, .val (.long q2), .second, .val (.int p3), .val (.int p4), .val (.int p5), .val (.int v1), .val (.int z9), .val (.int z18), .val (.int z27), .val (.int v29), .val (.int v30), .val (.int v31), .val (.long y41), .second, .val (.ref b43), .val (.int o147), .val (.long y166), .second, .val (.long y167), .second, .val (.int z179), .val (.long q1), .second, .val (.long (2 : Int64)), .second, .val (.long y188), .second, .val (.long y197), .second, .val (.int (-1 : Int32))] [(.long y188), (.long y41)]))
                              refine own_by (fun _ k => XS.lcmp X194.here hx rfl (hb hby at_349) rfl k) ?_
                              show own_Go p e below _ (T192.setTop (mkF m 350 #[.val (.long q0), .second, .val (.long q1), .second, .val (.long q2), .second, .val (.int p3), .val (.int p4), .val (.int p5), .val (.int v1), .val (.int z9), .val (.int z18), .val (.int z27), .val (.int v29), .val (.int v30), .val (.int v31), .val (.long y41), .second, .val (.ref b43), .val (.int o147), .val (.long y166), .second, .val (.long y167), .second, .val (.int z179), .val (.long q1), .second, .val (.long (2 : Int64)), .second, .val (.long y188), .second, .val (.long y197), .second, .val (.int (-1 : Int32))] [(.int (lcmpW y41 y188))]))
                              by_cases c205 : y41 = y188
                              · skip
                                refine own_by (fun _ k => XS.ifNo X194.here hx rfl (hb hby at_350) rfl ((if0 _ _).trans (teq ((lw_eq _ _).mpr c205)).2) k) ?_
                                show own_Go p e below _ (T192.setTop (mkF m 353 #[.val (.long q0), .second, .val (.long q1), .second, .val (.long q2), .second, .val (.int p3), .val (.int p4), .val (.int p5), .val (.int v1), .val (.int z9), .val (.int z18), .val (.int z27), .val (.int v29), .val (.int v30), .val (.int v31), .val (.long y41), .second, .val (.ref b43), .val (.int o147), .val (.long y166), .second, .val (.long y167), .second, .val (.int z179), .val (.long q1), .second, .val (.long (2 : Int64)), .second, .val (.long y188), .second, .val (.long y197), .second, .val (.int (-1 : Int32))] []))
                                refine own_by (fun _ k => XS.lload X194.here hx rfl (hb hby at_353) rfl k) ?_
                                show own_Go p e below _ (T192.setTop (mkF m 355 #[.val (.long q0), .second, .val (.long q1), .second, .val (.long q2), .second, .val (.int p3), .val (.int p4), .val (.int p5), .val (.int v1), .val (.int z9), .val (.int z18), .val (.int z27), .val (.int v29), .val (.int v30), .val (.int v31), .val (.long y41), .second, .val (.ref b43), .val (.int o147), .val (.long y166), .second, .val (.long y167), .second, .val (.int z179), .val (.long q1), .second, .val (.long (2 : Int64)), .second, .val (.long y188), .second, .val (.long y197), .second, .val (.int (-1 : Int32))] [(.long y197)]))
                                refine own_by (fun _ k => XS.lload X194.here hx rfl (hb hby at_355) rfl k) ?_
                                show own_Go p e below _ (T192.setTop (mkF m 357 #[.val (.long q0), .second, .val (.long q1), .second, .val (.long q2), .second, .val (.int p3), .val (.int p4), .val (.int p5), .val (.int v1), .val (.int z9), .val (.int z18), .val (.int z27), .val (.int v29), .val (.int v30), .val (.int v31), .val (.long y41), .second, .val (.ref b43), .val (.int o147), .val (.long y166), .second, .val (.long y167), .second, .val (.int z179), .val (.long q1), .second, .val (.long (2 : Int64)), .second, .val (.long y188), .second, .val (.long y197), .second, .val (.int (-1 : Int32))] [(.long y166), (.long y197)]))
                                refine own_by (fun _ k => XS.lcmp X194.here hx rfl (hb hby at_357) rfl k) ?_
                                show own_Go p e below _ (T192.setTop (mkF m 358 #[.val (.long q0), .second, .val (.long q1), .second, .val (.long q2), .second, .val (.int p3), .val (.int p4), .val (.int p5), .val (.int v1), .val (.int z9), .val (.int z18), .val (.int z27), .val (.int v29), .val (.int v30), .val (.int v31), .val (.long y41), .second, .val (.ref b43), .val (.int o147), .val (.long y166), .second, .val (.long y167), .second, .val (.int z179), .val (.long q1), .second, .val (.long (2 : Int64)), .second, .val (.long y188), .second, .val (.long y197), .second, .val (.int (-1 : Int32))] [(.int (lcmpW y197 y166))]))
                                by_cases c206 : y197 < y166
                                · skip
                                  refine own_by (fun _ k => XS.ifYes X194.here hx rfl (pc0 := 358) (pc' := 372) rfl (hb hby at_358) rfl ((if0 _ _).trans (tlt ((lw_lt _ _).mpr c206)).1) (by decide) (by decide) k) ?_
                                  show own_Go p e below _ (T192.setTop (mkF m 372 #[.val (.long q0), .second, .val (.long q1), .second, .val (.long q2), .second, .val (.int p3), .val (.int p4), .val (.int p5), .val (.int v1), .val (.int z9), .val (.int z18), .val (.int z27), .val (.int v29), .val (.int v30), .val (.int v31), .val (.long y41), .second, .val (.ref b43), .val (.int o147), .val (.long y166), .second, .val (.long y167), .second, .val (.int z179), .val (.long q1), .second, .val (.long (2 : Int64)), .second, .val (.long y188), .second, .val (.long y197), .second, .val (.int (-1 : Int32))] []))
                                  exact J211 _ _ (-1 : Int32) X194 e195 N196 (Or.inr (Or.inr (Or.inr (Or.inr (Or.inr (Or.inl ⟨c199, c200, c204, c205, c206, rfl⟩))))))
                                · skip
                                  refine own_by (fun _ k => XS.ifNo X194.here hx rfl (hb hby at_358) rfl ((if0 _ _).trans (flt (fun q => c206 ((lw_lt _ _).mp q))).1) k) ?_
                                  show own_Go p e below _ (T192.setTop (mkF m 361 #[.val (.long q0), .second, .val (.long q1), .second, .val (.long q2), .second, .val (.int p3), .val (.int p4), .val (.int p5), .val (.int v1), .val (.int z9), .val (.int z18), .val (.int z27), .val (.int v29), .val (.int v30), .val (.int v31), .val (.long y41), .second, .val (.ref b43), .val (.int o147), .val (.long y166), .second, .val (.long y167), .second, .val (.int z179), .val (.long q1), .second, .val (.long (2 : Int64)), .second, .val (.long y188), .second, .val (.long y197), .second, .val (.int (-1 : Int32))] []))
                                  refine own_by (fun _ k => XS.lload X194.here hx rfl (hb hby at_361) rfl k) ?_
                                  show own_Go p e below _ (T192.setTop (mkF m 363 #[.val (.long q0), .second, .val (.long q1), .second, .val (.long q2), .second, .val (.int p3), .val (.int p4), .val (.int p5), .val (.int v1), .val (.int z9), .val (.int z18), .val (.int z27), .val (.int v29), .val (.int v30), .val (.int v31), .val (.long y41), .second, .val (.ref b43), .val (.int o147), .val (.long y166), .second, .val (.long y167), .second, .val (.int z179), .val (.long q1), .second, .val (.long (2 : Int64)), .second, .val (.long y188), .second, .val (.long y197), .second, .val (.int (-1 : Int32))] [(.long y197)]))
                                  refine own_by (fun _ k => XS.lload X194.here hx rfl (hb hby at_363) rfl k) ?_
                                  show own_Go p e below _ (T192.setTop (mkF m 365 #[.val (.long q0), .second, .val (.long q1), .second, .val (.long q2), .second, .val (.int p3), .val (.int p4), .val (.int p5), .val (.int v1), .val (.int z9), .val (.int z18), .val (.int z27), .val (.int v29), .val (.int v30), .val (.int v31), .val (.long y41), .second, .val (.ref b43), .val (.int o147), .val (.long y166), .second, .val (.long y167), .second, .val (.int z179), .val (.long q1), .second, .val (.long (2 : Int64)), .second, .val (.long y188), .second, .val (.long y197), .second, .val (.int (-1 : Int32))] [(.long y167), (.long y197)]))
                                  refine own_by (fun _ k => XS.lcmp X194.here hx rfl (hb hby at_365) rfl k) ?_
                                  show own_Go p e below _ (T192.setTop (mkF m 366 #[.val (.long q0), .second, .val (.long q1), .second, .val (.long q2), .second, .val (.int p3), .val (.int p4), .val (.int p5), .val (.int v1), .val (.int z9), .val (.int z18), .val (.int z27), .val (.int v29), .val (.int v30), .val (.int v31), .val (.long y41), .second, .val (.ref b43), .val (.int o147), .val (.long y166), .second, .val (.long y167), .second, .val (.int z179), .val (.long q1), .second, .val (.long (2 : Int64)), .second, .val (.long y188), .second, .val (.long y197), .second, .val (.int (-1 : Int32))] [(.int (lcmpW y197 y167))]))
                                  by_cases c207 : y197 < y167
                                  · skip
                                    refine own_by (fun _ k => XS.ifNo X194.here hx rfl (hb hby at_366) rfl ((if0 _ _).trans (tlt ((lw_lt _ _).mpr c207)).2.1) k) ?_
                                    show own_Go p e below _ (T192.setTop (mkF m 369 #[.val (.long q0), .second, .val (.long q1), .second, .val (.long q2), .second, .val (.int p3), .val (.int p4), .val (.int p5), .val (.int v1), .val (.int z9), .val (.int z18), .val (.int z27), .val (.int v29), .val (.int v30), .val (.int v31), .val (.long y41), .second, .val (.ref b43), .val (.int o147), .val (.long y166), .second, .val (.long y167), .second, .val (.int z179), .val (.long q1), .second, .val (.long (2 : Int64)), .second, .val (.long y188), .second, .val (.long y197), .second, .val (.int (-1 : Int32))] []))
                                    refine own_by (fun _ k => XS.iconst X194.here hx rfl (hb hby at_369) k) ?_
                                    show own_Go p e below _ (T192.setTop (mkF m 370 #[.val (.long q0), .second, .val (.long q1), .second, .val (.long q2), .second, .val (.int p3), .val (.int p4), .val (.int p5), .val (.int v1), .val (.int z9), .val (.int z18), .val (.int z27), .val (.int v29), .val (.int v30), .val (.int v31), .val (.long y41), .second, .val (.ref b43), .val (.int o147), .val (.long y166), .second, .val (.long y167), .second, .val (.int z179), .val (.long q1), .second, .val (.long (2 : Int64)), .second, .val (.long y188), .second, .val (.long y197), .second, .val (.int (-1 : Int32))] [(.int (4 : Int32))]))
                                    refine own_by (fun _ k => XS.istore X194.here hx rfl (hb hby at_370) rfl (l' := #[.val (.long q0), .second, .val (.long q1), .second, .val (.long q2), .second, .val (.int p3), .val (.int p4), .val (.int p5), .val (.int v1), .val (.int z9), .val (.int z18), .val (.int z27), .val (.int v29), .val (.int v30), .val (.int v31), .val (.long y41), .second, .val (.ref b43), .val (.int o147), .val (.long y166), .second, .val (.long y167), .second, .val (.int z179), .val (.long q1), .second, .val (.long (2 : Int64)), .second, .val (.long y188), .second, .val (.long y197), .second, .val (.int (4 : Int32))]) rfl k) ?_
                                    show own_Go p e below _ (T192.setTop (mkF m 372 #[.val (.long q0), .second, .val (.long q1), .second, .val (.long q2), .second, .val (.int p3), .val (.int p4), .val (.int p5), .val (.int v1), .val (.int z9), .val (.int z18), .val (.int z27), .val (.int v29), .val (.int v30), .val (.int v31), .val (.long y41), .second, .val (.ref b43), .val (.int o147), .val (.long y166), .second, .val (.long y167), .second, .val (.int z179), .val (.long q1), .second, .val (.long (2 : Int64)), .second, .val (.long y188), .second, .val (.long y197), .second, .val (.int (4 : Int32))] []))
                                    exact J211 _ _ (4 : Int32) X194 e195 N196 (Or.inr (Or.inr (Or.inr (Or.inr (Or.inr (Or.inr (Or.inl ⟨c199, c200, c204, c205, c206, c207, rfl⟩)))))))
                                  · skip
                                    refine own_by (fun _ k => XS.ifYes X194.here hx rfl (pc0 := 366) (pc' := 372) rfl (hb hby at_366) rfl ((if0 _ _).trans (flt (fun q => c207 ((lw_lt _ _).mp q))).2.1) (by decide) (by decide) k) ?_
                                    show own_Go p e below _ (T192.setTop (mkF m 372 #[.val (.long q0), .second, .val (.long q1), .second, .val (.long q2), .second, .val (.int p3), .val (.int p4), .val (.int p5), .val (.int v1), .val (.int z9), .val (.int z18), .val (.int z27), .val (.int v29), .val (.int v30), .val (.int v31), .val (.long y41), .second, .val (.ref b43), .val (.int o147), .val (.long y166), .second, .val (.long y167), .second, .val (.int z179), .val (.long q1), .second, .val (.long (2 : Int64)), .second, .val (.long y188), .second, .val (.long y197), .second, .val (.int (-1 : Int32))] []))
                                    exact J211 _ _ (-1 : Int32) X194 e195 N196 (Or.inr (Or.inr (Or.inr (Or.inr (Or.inr (Or.inr (Or.inr (Or.inl ⟨c199, c200, c204, c205, c206, c207, rfl⟩))))))))
                              · skip
                                refine own_by (fun _ k => XS.ifYes X194.here hx rfl (pc0 := 350) (pc' := 372) rfl (hb hby at_350) rfl ((if0 _ _).trans (feq (fun q => c205 ((lw_eq _ _).mp q))).2) (by decide) (by decide) k) ?_
                                show own_Go p e below _ (T192.setTop (mkF m 372 #[.val (.long q0), .second, .val (.long q1), .second, .val (.long q2), .second, .val (.int p3), .val (.int p4), .val (.int p5), .val (.int v1), .val (.int z9), .val (.int z18), .val (.int z27), .val (.int v29), .val (.int v30), .val (.int v31), .val (.long y41), .second, .val (.ref b43), .val (.int o147), .val (.long y166), .second, .val (.long y167), .second, .val (.int z179), .val (.long q1), .second, .val (.long (2 : Int64)), .second, .val (.long y188), .second, .val (.long y197), .second, .val (.int (-1 : Int32))] []))
                                exact J211 _ _ (-1 : Int32) X194 e195 N196 (Or.inr (Or.inr (Or.inr (Or.inr (Or.inr (Or.inr (Or.inr (Or.inr (Or.inl ⟨c199, c200, c204, c205, rfl⟩)))))))))
                        · skip
                          refine own_by (fun _ k => XS.ifYes X194.here hx rfl (pc0 := 320) (pc' := 345) rfl (hb hby at_320) rfl ((if0 _ _).trans (feq (fun q => c199 ((lw_eq _ _).mp q))).2) (by decide) (by decide) k) ?_
                          show own_Go p e below _ (T192.setTop (mkF m 345 #[.val (.long q0), .second, .val (.long q1), .second, .val (.long q2), .second, .val (.int p3), .val (.int p4), .val (.int p5), .val (.int v1), .val (.int z9), .val (.int z18), .val (.int z27), .val (.int v29), .val (.int v30), .val (.int v31), .val (.long y41), .second, .val (.ref b43), .val (.int o147), .val (.long y166), .second, .val (.long y167), .second, .val (.int z179), .val (.long q1), .second, .val (.long (2 : Int64)), .second, .val (.long y188), .second, .val (.long y197), .second, .val (.int (-1 : Int32))] []))
                          refine own_by (fun _ k => XS.lload X194.here hx rfl (hb hby at_345) rfl k) ?_
                          show own_Go p e below _ (T192.setTop (mkF m 347 #[.val (.long q0), .second, .val (.long q1), .second, .val (.long q2), .second, .val (.int p3), .val (.int p4), .val (.int p5), .val (.int v1), .val (.int z9), .val (.int z18), .val (.int z27), .val (.int v29), .val (.int v30), .val (.int v31), .val (.long y41), .second, .val (.ref b43), .val (.int o147), .val (.long y166), .second, .val (.long y167), .second, .val (.int z179), .val (.long q1), .second, .val (.long (2 : Int64)), .second, .val (.long y188), .second, .val (.long y197), .second, .val (.int (-1 : Int32))] [(.long y41)]))
                          refine own_by (fun _ k => XS.lload X194.here hx rfl (hb hby at_347) rfl k) ?_
                          show own_Go p e below _ (T192.setTop (mkF m 349 #[.val (.long q0), .second, .val (.long q1), .second, .val (.long q2), .second, .val (.int p3), .val (.int p4), .val (.int p5), .val (.int v1), .val (.int z9), .val (.int z18), .val (.int z27), .val (.int v29), .val (.int v30), .val (.int v31), .val (.long y41), .second, .val (.ref b43), .val (.int o147), .val (.long y166), .second, .val (.long y167), .second, .val (.int z179), .val (.long q1), .second, .val (.long (2 : Int64)), .second, .val (.long y188), .second, .val (.long y197), .second, .val (.int (-1 : Int32))] [(.long y188), (.long y41)]))
                          refine own_by (fun _ k => XS.lcmp X194.here hx rfl (hb hby at_349) rfl k) ?_
                          show own_Go p e below _ (T192.setTop (mkF m 350 #[.val (.long q0), .second, .val (.long q1), .second, .val (.long q2), .second, .val (.int p3), .val (.int p4), .val (.int p5), .val (.int v1), .val (.int z9), .val (.int z18), .val (.int z27), .val (.int v29), .val (.int v30), .val (.int v31), .val (.long y41), .second, .val (.ref b43), .val (.int o147), .val (.long y166), .second, .val (.long y167), .second, .val (.int z179), .val (.long q1), .second, .val (.long (2 : Int64)), .second, .val (.long y188), .second, .val (.long y197), .second, .val (.int (-1 : Int32))] [(.int (lcmpW y41 y188))]))
                          by_cases c208 : y41 = y188
                          · skip
                            refine own_by (fun _ k => XS.ifNo X194.here hx rfl (hb hby at_350) rfl ((if0 _ _).trans (teq ((lw_eq _ _).mpr c208)).2) k) ?_
                            show own_Go p e below _ (T192.setTop (mkF m 353 #[.val (.long q0), .second, .val (.long q1), .second, .val (.long q2), .second, .val (.int p3), .val (.int p4), .val (.int p5), .val (.int v1), .val (.int z9), .val (.int z18), .val (.int z27), .val (.int v29), .val (.int v30), .val (.int v31), .val (.long y41), .second, .val (.ref b43), .val (.int o147), .val (.long y166), .second, .val (.long y167), .second, .val (.int z179), .val (.long q1), .second, .val (.long (2 : Int64)), .second, .val (.long y188), .second, .val (.long y197), .second, .val (.int (-1 : Int32))] []))
                            refine own_by (fun _ k => XS.lload X194.here hx rfl (hb hby at_353) rfl k) ?_
                            show own_Go p e below _ (T192.setTop (mkF m 355 #[.val (.long q0), .second, .val (.long q1), .second, .val (.long q2), .second, .val (.int p3), .val (.int p4), .val (.int p5), .val (.int v1), .val (.int z9), .val (.int z18), .val (.int z27), .val (.int v29), .val (.int v30), .val (.int v31), .val (.long y41), .second, .val (.ref b43), .val (.int o147), .val (.long y166), .second, .val (.long y167), .second, .val (.int z179), .val (.long q1), .second, .val (.long (2 : Int64)), .second, .val (.long y188), .second, .val (.long y197), .second, .val (.int (-1 : Int32))] [(.long y197)]))
                            refine own_by (fun _ k => XS.lload X194.here hx rfl (hb hby at_355) rfl k) ?_
                            show own_Go p e below _ (T192.setTop (mkF m 357 #[.val (.long q0), .second, .val (.long q1), .second, .val (.long q2), .second, .val (.int p3), .val (.int p4), .val (.int p5), .val (.int v1), .val (.int z9), .val (.int z18), .val (.int z27), .val (.int v29), .val (.int v30), .val (.int v31), .val (.long y41), .second, .val (.ref b43), .val (.int o147), .val (.long y166), .second, .val (.long y167), .second, .val (.int z179), .val (.long q1), .second, .val (.long (2 : Int64)), .second, .val (.long y188), .second, .val (.long y197), .second, .val (.int (-1 : Int32))] [(.long y166), (.long y197)]))
                            refine own_by (fun _ k => XS.lcmp X194.here hx rfl (hb hby at_357) rfl k) ?_
                            show own_Go p e below _ (T192.setTop (mkF m 358 #[.val (.long q0), .second, .val (.long q1), .second, .val (.long q2), .second, .val (.int p3), .val (.int p4), .val (.int p5), .val (.int v1), .val (.int z9), .val (.int z18), .val (.int z27), .val (.int v29), .val (.int v30), .val (.int v31), .val (.long y41), .second, .val (.ref b43), .val (.int o147), .val (.long y166), .second, .val (.long y167), .second, .val (.int z179), .val (.long q1), .second, .val (.long (2 : Int64)), .second, .val (.long y188), .second, .val (.long y197), .second, .val (.int (-1 : Int32))] [(.int (lcmpW y197 y166))]))
                            by_cases c209 : y197 < y166
                            · skip
                              refine own_by (fun _ k => XS.ifYes X194.here hx rfl (pc0 := 358) (pc' := 372) rfl (hb hby at_358) rfl ((if0 _ _).trans (tlt ((lw_lt _ _).mpr c209)).1) (by decide) (by decide) k) ?_
                              show own_Go p e below _ (T192.setTop (mkF m 372 #[.val (.long q0), .second, .val (.long q1), .second, .val (.long q2), .second, .val (.int p3), .val (.int p4), .val (.int p5), .val (.int v1), .val (.int z9), .val (.int z18), .val (.int z27), .val (.int v29), .val (.int v30), .val (.int v31), .val (.long y41), .second, .val (.ref b43), .val (.int o147), .val (.long y166), .second, .val (.long y167), .second, .val (.int z179), .val (.long q1), .second, .val (.long (2 : Int64)), .second, .val (.long y188), .second, .val (.long y197), .second, .val (.int (-1 : Int32))] []))
                              exact J211 _ _ (-1 : Int32) X194 e195 N196 (Or.inr (Or.inr (Or.inr (Or.inr (Or.inr (Or.inr (Or.inr (Or.inr (Or.inr (Or.inl ⟨c199, c208, c209, rfl⟩))))))))))
                            · skip
                              refine own_by (fun _ k => XS.ifNo X194.here hx rfl (hb hby at_358) rfl ((if0 _ _).trans (flt (fun q => c209 ((lw_lt _ _).mp q))).1) k) ?_
                              show own_Go p e below _ (T192.setTop (mkF m 361 #[.val (.long q0), .second, .val (.long q1), .second, .val (.long q2), .second, .val (.int p3), .val (.int p4), .val (.int p5), .val (.int v1), .val (.int z9), .val (.int z18), .val (.int z27), .val (.int v29), .val (.int v30), .val (.int v31), .val (.long y41), .second, .val (.ref b43), .val (.int o147), .val (.long y166), .second, .val (.long y167), .second, .val (.int z179), .val (.long q1), .second, .val (.long (2 : Int64)), .second, .val (.long y188), .second, .val (.long y197), .second, .val (.int (-1 : Int32))] []))
                              refine own_by (fun _ k => XS.lload X194.here hx rfl (hb hby at_361) rfl k) ?_
                              show own_Go p e below _ (T192.setTop (mkF m 363 #[.val (.long q0), .second, .val (.long q1), .second, .val (.long q2), .second, .val (.int p3), .val (.int p4), .val (.int p5), .val (.int v1), .val (.int z9), .val (.int z18), .val (.int z27), .val (.int v29), .val (.int v30), .val (.int v31), .val (.long y41), .second, .val (.ref b43), .val (.int o147), .val (.long y166), .second, .val (.long y167), .second, .val (.int z179), .val (.long q1), .second, .val (.long (2 : Int64)), .second, .val (.long y188), .second, .val (.long y197), .second, .val (.int (-1 : Int32))] [(.long y197)]))
                              refine own_by (fun _ k => XS.lload X194.here hx rfl (hb hby at_363) rfl k) ?_
                              show own_Go p e below _ (T192.setTop (mkF m 365 #[.val (.long q0), .second, .val (.long q1), .second, .val (.long q2), .second, .val (.int p3), .val (.int p4), .val (.int p5), .val (.int v1), .val (.int z9), .val (.int z18), .val (.int z27), .val (.int v29), .val (.int v30), .val (.int v31), .val (.long y41), .second, .val (.ref b43), .val (.int o147), .val (.long y166), .second, .val (.long y167), .second, .val (.int z179), .val (.long q1), .second, .val (.long (2 : Int64)), .second, .val (.long y188), .second, .val (.long y197), .second, .val (.int (-1 : Int32))] [(.long y167), (.long y197)]))
                              refine own_by (fun _ k => XS.lcmp X194.here hx rfl (hb hby at_365) rfl k) ?_
                              show own_Go p e below _ (T192.setTop (mkF m 366 #[.val (.long q0), .second, .val (.long q1), .second, .val (.long q2), .second, .val (.int p3), .val (.int p4), .val (.int p5), .val (.int v1), .val (.int z9), .val (.int z18), .val (.int z27), .val (.int v29), .val (.int v30), .val (.int v31), .val (.long y41), .second, .val (.ref b43), .val (.int o147), .val (.long y166), .second, .val (.long y167), .second, .val (.int z179), .val (.long q1), .second, .val (.long (2 : Int64)), .second, .val (.long y188), .second, .val (.long y197), .second, .val (.int (-1 : Int32))] [(.int (lcmpW y197 y167))]))
                              by_cases c210 : y197 < y167
                              · skip
                                refine own_by (fun _ k => XS.ifNo X194.here hx rfl (hb hby at_366) rfl ((if0 _ _).trans (tlt ((lw_lt _ _).mpr c210)).2.1) k) ?_
                                show own_Go p e below _ (T192.setTop (mkF m 369 #[.val (.long q0), .second, .val (.long q1), .second, .val (.long q2), .second, .val (.int p3), .val (.int p4), .val (.int p5), .val (.int v1), .val (.int z9), .val (.int z18), .val (.int z27), .val (.int v29), .val (.int v30), .val (.int v31), .val (.long y41), .second, .val (.ref b43), .val (.int o147), .val (.long y166), .second, .val (.long y167), .second, .val (.int z179), .val (.long q1), .second, .val (.long (2 : Int64)), .second, .val (.long y188), .second, .val (.long y197), .second, .val (.int (-1 : Int32))] []))
                                refine own_by (fun _ k => XS.iconst X194.here hx rfl (hb hby at_369) k) ?_
                                show own_Go p e below _ (T192.setTop (mkF m 370 #[.val (.long q0), .second, .val (.long q1), .second, .val (.long q2), .second, .val (.int p3), .val (.int p4), .val (.int p5), .val (.int v1), .val (.int z9), .val (.int z18), .val (.int z27), .val (.int v29), .val (.int v30), .val (.int v31), .val (.long y41), .second, .val (.ref b43), .val (.int o147), .val (.long y166), .second, .val (.long y167), .second, .val (.int z179), .val (.long q1), .second, .val (.long (2 : Int64)), .second, .val (.long y188), .second, .val (.long y197), .second, .val (.int (-1 : Int32))] [(.int (4 : Int32))]))
                                refine own_by (fun _ k => XS.istore X194.here hx rfl (hb hby at_370) rfl (l' := #[.val (.long q0), .second, .val (.long q1), .second, .val (.long q2), .second, .val (.int p3), .val (.int p4), .val (.int p5), .val (.int v1), .val (.int z9), .val (.int z18), .val (.int z27), .val (.int v29), .val (.int v30), .val (.int v31), .val (.long y41), .second, .val (.ref b43), .val (.int o147), .val (.long y166), .second, .val (.long y167), .second, .val (.int z179), .val (.long q1), .second, .val (.long (2 : Int64)), .second, .val (.long y188), .second, .val (.long y197), .second, .val (.int (4 : Int32))]) rfl k) ?_
                                show own_Go p e below _ (T192.setTop (mkF m 372 #[.val (.long q0), .second, .val (.long q1), .second, .val (.long q2), .second, .val (.int p3), .val (.int p4), .val (.int p5), .val (.int v1), .val (.int z9), .val (.int z18), .val (.int z27), .val (.int v29), .val (.int v30), .val (.int v31), .val (.long y41), .second, .val (.ref b43), .val (.int o147), .val (.long y166), .second, .val (.long y167), .second, .val (.int z179), .val (.long q1), .second, .val (.long (2 : Int64)), .second, .val (.long y188), .second, .val (.long y197), .second, .val (.int (4 : Int32))] []))
                                exact J211 _ _ (4 : Int32) X194 e195 N196 (Or.inr (Or.inr (Or.inr (Or.inr (Or.inr (Or.inr (Or.inr (Or.inr (Or.inr (Or.inr (Or.inl ⟨c199, c208, c209, c210, rfl⟩)))))))))))
                              · skip
                                refine own_by (fun _ k => XS.ifYes X194.here hx rfl (pc0 := 366) (pc' := 372) rfl (hb hby at_366) rfl ((if0 _ _).trans (flt (fun q => c210 ((lw_lt _ _).mp q))).2.1) (by decide) (by decide) k) ?_
                                show own_Go p e below _ (T192.setTop (mkF m 372 #[.val (.long q0), .second, .val (.long q1), .second, .val (.long q2), .second, .val (.int p3), .val (.int p4), .val (.int p5), .val (.int v1), .val (.int z9), .val (.int z18), .val (.int z27), .val (.int v29), .val (.int v30), .val (.int v31), .val (.long y41), .second, .val (.ref b43), .val (.int o147), .val (.long y166), .second, .val (.long y167), .second, .val (.int z179), .val (.long q1), .second, .val (.long (2 : Int64)), .second, .val (.long y188), .second, .val (.long y197), .second, .val (.int (-1 : Int32))] []))
                                exact J211 _ _ (-1 : Int32) X194 e195 N196 (Or.inr (Or.inr (Or.inr (Or.inr (Or.inr (Or.inr (Or.inr (Or.inr (Or.inr (Or.inr (Or.inr (Or.inl ⟨c199, c208, c209, c210, rfl⟩))))))))))))
                          · skip
                            refine own_by (fun _ k => XS.ifYes X194.here hx rfl (pc0 := 350) (pc' := 372) rfl (hb hby at_350) rfl ((if0 _ _).trans (feq (fun q => c208 ((lw_eq _ _).mp q))).2) (by decide) (by decide) k) ?_
                            show own_Go p e below _ (T192.setTop (mkF m 372 #[.val (.long q0), .second, .val (.long q1), .second, .val (.long q2), .second, .val (.int p3), .val (.int p4), .val (.int p5), .val (.int v1), .val (.int z9), .val (.int z18), .val (.int z27), .val (.int v29), .val (.int v30), .val (.int v31), .val (.long y41), .second, .val (.ref b43), .val (.int o147), .val (.long y166), .second, .val (.long y167), .second, .val (.int z179), .val (.long q1), .second, .val (.long (2 : Int64)), .second, .val (.long y188), .second, .val (.long y197), .second, .val (.int (-1 : Int32))] []))
                            exact J211 _ _ (-1 : Int32) X194 e195 N196 (Or.inr (Or.inr (Or.inr (Or.inr (Or.inr (Or.inr (Or.inr (Or.inr (Or.inr (Or.inr (Or.inr (Or.inr (⟨c199, c208, rfl⟩)))))))))))))
                      by_cases c190 : z179 = (0 : Int32)
                      · skip
                        refine own_by (fun _ k => XS.ifYes X185.here hx rfl (pc0 := 302) (pc' := 309) rfl (hb hby at_302) rfl ((if0 _ _).trans (teq c190).1) (by decide) (by decide) k) ?_
                        show own_Go p e below _ (T183.setTop (mkF m 309 #[.val (.long q0), .second, .val (.long q1), .second, .val (.long q2), .second, .val (.int p3), .val (.int p4), .val (.int p5), .val (.int v1), .val (.int z9), .val (.int z18), .val (.int z27), .val (.int v29), .val (.int v30), .val (.int v31), .val (.long y41), .second, .val (.ref b43), .val (.int o147), .val (.long y166), .second, .val (.long y167), .second, .val (.int z179), .val (.long q1), .second, .val (.long (2 : Int64)), .second, .val (.long y188), .second, .unset, .unset, .unset] []))
                        refine own_by (fun _ k => XS.lconst X185.here hx rfl (hb hby at_309) k) ?_
                        show own_Go p e below _ (T183.setTop (mkF m 310 #[.val (.long q0), .second, .val (.long q1), .second, .val (.long q2), .second, .val (.int p3), .val (.int p4), .val (.int p5), .val (.int v1), .val (.int z9), .val (.int z18), .val (.int z27), .val (.int v29), .val (.int v30), .val (.int v31), .val (.long y41), .second, .val (.ref b43), .val (.int o147), .val (.long y166), .second, .val (.long y167), .second, .val (.int z179), .val (.long q1), .second, .val (.long (2 : Int64)), .second, .val (.long y188), .second, .unset, .unset, .unset] [(.long (1 : Int64))]))
                        exact J191 _ _ (1 : Int64) X185 e186 N187 (Or.inl ⟨c190, rfl⟩)
                      · skip
                        refine own_by (fun _ k => XS.ifNo X185.here hx rfl (hb hby at_302) rfl ((if0 _ _).trans (feq c190).1) k) ?_
                        show own_Go p e below _ (T183.setTop (mkF m 305 #[.val (.long q0), .second, .val (.long q1), .second, .val (.long q2), .second, .val (.int p3), .val (.int p4), .val (.int p5), .val (.int v1), .val (.int z9), .val (.int z18), .val (.int z27), .val (.int v29), .val (.int v30), .val (.int v31), .val (.long y41), .second, .val (.ref b43), .val (.int o147), .val (.long y166), .second, .val (.long y167), .second, .val (.int z179), .val (.long q1), .second, .val (.long (2 : Int64)), .second, .val (.long y188), .second, .unset, .unset, .unset] []))
                        refine own_by (fun _ k => XS.lconst X185.here hx rfl (hb hby at_305) k) ?_
                        show own_Go p e below _ (T183.setTop (mkF m 306 #[.val (.long q0), .second, .val (.long q1), .second, .val (.long q2), .second, .val (.int p3), .val (.int p4), .val (.int p5), .val (.int v1), .val (.int z9), .val (.int z18), .val (.int z27), .val (.int v29), .val (.int v30), .val (.int v31), .val (.long y41), .second, .val (.ref b43), .val (.int o147), .val (.long y166), .second, .val (.long y167), .second, .val (.int z179), .val (.long q1), .second, .val (.long (2 : Int64)), .second, .val (.long y188), .second, .unset, .unset, .unset] [(.long (0 : Int64))]))
                        refine own_by (fun _ k => XS.goto X185.here hx rfl (pc0 := 306) (pc' := 310) rfl (hb hby at_306) (by decide) (by decide) k) ?_
                        show own_Go p e below _ (T183.setTop (mkF m 310 #[.val (.long q0), .second, .val (.long q1), .second, .val (.long q2), .second, .val (.int p3), .val (.int p4), .val (.int p5), .val (.int v1), .val (.int z9), .val (.int z18), .val (.int z27), .val (.int v29), .val (.int v30), .val (.int v31), .val (.long y41), .second, .val (.ref b43), .val (.int o147), .val (.long y166), .second, .val (.long y167), .second, .val (.int z179), .val (.long q1), .second, .val (.long (2 : Int64)), .second, .val (.long y188), .second, .unset, .unset, .unset] [(.long (0 : Int64))]))
                        exact J191 _ _ (0 : Int64) X185 e186 N187 (Or.inr (⟨c190, rfl⟩))
                    by_cases c181 : z179 = (0 : Int32)
                    · skip
                      refine own_by (fun _ k => XS.ifYes X176.here hx rfl (pc0 := 290) (pc' := 297) rfl (hb hby at_290) rfl ((if0 _ _).trans (teq c181).1) (by decide) (by decide) k) ?_
                      show own_Go p e below _ (T174.setTop (mkF m 297 #[.val (.long q0), .second, .val (.long q1), .second, .val (.long q2), .second, .val (.int p3), .val (.int p4), .val (.int p5), .val (.int v1), .val (.int z9), .val (.int z18), .val (.int z27), .val (.int v29), .val (.int v30), .val (.int v31), .val (.long y41), .second, .val (.ref b43), .val (.int o147), .val (.long y166), .second, .val (.long y167), .second, .val (.int z179), .val (.long q1), .second, .val (.long (2 : Int64)), .second, .unset, .unset, .unset, .unset, .unset] []))
                      refine own_by (fun _ k => XS.lloadN X176.here hx rfl (hb hby at_297) rfl k) ?_
                      show own_Go p e below _ (T174.setTop (mkF m 298 #[.val (.long q0), .second, .val (.long q1), .second, .val (.long q2), .second, .val (.int p3), .val (.int p4), .val (.int p5), .val (.int v1), .val (.int z9), .val (.int z18), .val (.int z27), .val (.int v29), .val (.int v30), .val (.int v31), .val (.long y41), .second, .val (.ref b43), .val (.int o147), .val (.long y166), .second, .val (.long y167), .second, .val (.int z179), .val (.long q1), .second, .val (.long (2 : Int64)), .second, .unset, .unset, .unset, .unset, .unset] [(.long q0)]))
                      exact J182 _ _ q0 X176 e177 N178 (Or.inl ⟨c181, rfl⟩)
                    · skip
                      refine own_by (fun _ k => XS.ifNo X176.here hx rfl (hb hby at_290) rfl ((if0 _ _).trans (feq c181).1) k) ?_
                      show own_Go p e below _ (T174.setTop (mkF m 293 #[.val (.long q0), .second, .val (.long q1), .second, .val (.long q2), .second, .val (.int p3), .val (.int p4), .val (.int p5), .val (.int v1), .val (.int z9), .val (.int z18), .val (.int z27), .val (.int v29), .val (.int v30), .val (.int v31), .val (.long y41), .second, .val (.ref b43), .val (.int o147), .val (.long y166), .second, .val (.long y167), .second, .val (.int z179), .val (.long q1), .second, .val (.long (2 : Int64)), .second, .unset, .unset, .unset, .unset, .unset] []))
                      refine own_by (fun _ k => XS.lconst X176.here hx rfl (hb hby at_293) k) ?_
                      show own_Go p e below _ (T174.setTop (mkF m 294 #[.val (.long q0), .second, .val (.long q1), .second, .val (.long q2), .second, .val (.int p3), .val (.int p4), .val (.int p5), .val (.int v1), .val (.int z9), .val (.int z18), .val (.int z27), .val (.int v29), .val (.int v30), .val (.int v31), .val (.long y41), .second, .val (.ref b43), .val (.int o147), .val (.long y166), .second, .val (.long y167), .second, .val (.int z179), .val (.long q1), .second, .val (.long (2 : Int64)), .second, .unset, .unset, .unset, .unset, .unset] [(.long (0 : Int64))]))
                      refine own_by (fun _ k => XS.goto X176.here hx rfl (pc0 := 294) (pc' := 298) rfl (hb hby at_294) (by decide) (by decide) k) ?_
                      show own_Go p e below _ (T174.setTop (mkF m 298 #[.val (.long q0), .second, .val (.long q1), .second, .val (.long q2), .second, .val (.int p3), .val (.int p4), .val (.int p5), .val (.int v1), .val (.int z9), .val (.int z18), .val (.int z27), .val (.int v29), .val (.int v30), .val (.int v31), .val (.long y41), .second, .val (.ref b43), .val (.int o147), .val (.long y166), .second, .val (.long y167), .second, .val (.int z179), .val (.long q1), .second, .val (.long (2 : Int64)), .second, .unset, .unset, .unset, .unset, .unset] [(.long (0 : Int64))]))
                      exact J182 _ _ (0 : Int64) X176 e177 N178 (Or.inr (⟨c181, rfl⟩))
                  by_cases c169 : q1 = q0
                  · skip
                    refine own_by (fun _ k => XS.ifNo X163.here hx rfl (hb hby at_253) rfl ((if0 _ _).trans (teq ((lw_eq _ _).mpr c169)).2) k) ?_
                    show own_Go p e below _ (T161.setTop (mkF m 256 #[.val (.long q0), .second, .val (.long q1), .second, .val (.long q2), .second, .val (.int p3), .val (.int p4), .val (.int p5), .val (.int v1), .val (.int z9), .val (.int z18), .val (.int z27), .val (.int v29), .val (.int v30), .val (.int v31), .val (.long y41), .second, .val (.ref b43), .val (.int o147), .val (.long y166), .second, .val (.long y167), .second, .unset, .unset, .unset, .unset, .unset, .unset, .unset, .unset, .unset, .unset] []))
                    refine own_by (fun _ k => XS.iload X163.here hx rfl (hb hby at_256) rfl k) ?_
                    show own_Go p e below _ (T161.setTop (mkF m 258 #[.val (.long q0), .second, .val (.long q1), .second, .val (.long q2), .second, .val (.int p3), .val (.int p4), .val (.int p5), .val (.int v1), .val (.int z9), .val (.int z18), .val (.int z27), .val (.int v29), .val (.int v30), .val (.int v31), .val (.long y41), .second, .val (.ref b43), .val (.int o147), .val (.long y166), .second, .val (.long y167), .second, .unset, .unset, .unset, .unset, .unset, .unset, .unset, .unset, .unset, .unset] [(.int z9)]))
                    by_cases c170 : z9 = (0 : Int32)
                    · skip
                      refine own_by (fun _ k => XS.ifYes X163.here hx rfl (pc0 := 258) (pc' := 277) rfl (hb hby at_258) rfl ((if0 _ _).trans (teq c170).1) (by decide) (by decide) k) ?_
                      show own_Go p e below _ (T161.setTop (mkF m 277 #[.val (.long q0), .second, .val (.long q1), .second, .val (.long q2), .second, .val (.int p3), .val (.int p4), .val (.int p5), .val (.int v1), .val (.int z9), .val (.int z18), .val (.int z27), .val (.int v29), .val (.int v30), .val (.int v31), .val (.long y41), .second, .val (.ref b43), .val (.int o147), .val (.long y166), .second, .val (.long y167), .second, .unset, .unset, .unset, .unset, .unset, .unset, .unset, .unset, .unset, .unset] []))
                      refine own_by (fun _ k => XS.iconst X163.here hx rfl (hb hby at_277) k) ?_
                      show own_Go p e below _ (T161.setTop (mkF m 278 #[.val (.long q0), .second, .val (.long q1), .second, .val (.long q2), .second, .val (.int p3), .val (.int p4), .val (.int p5), .val (.int v1), .val (.int z9), .val (.int z18), .val (.int z27), .val (.int v29), .val (.int v30), .val (.int v31), .val (.long y41), .second, .val (.ref b43), .val (.int o147), .val (.long y166), .second, .val (.long y167), .second, .unset, .unset, .unset, .unset, .unset, .unset, .unset, .unset, .unset, .unset] [(.int (0 : Int32))]))
                      exact J173 _ _ (0 : Int32) X163 e164 N165 (Or.inl ⟨c169, c170, rfl⟩)
                    · skip
                      refine own_by (fun _ k => XS.ifNo X163.here hx rfl (hb hby at_258) rfl ((if0 _ _).trans (feq c170).1) k) ?_
                      show own_Go p e below _ (T161.setTop (mkF m 261 #[.val (.long q0), .second, .val (.long q1), .second, .val (.long q2), .second, .val (.int p3), .val (.int p4), .val (.int p5), .val (.int v1), .val (.int z9), .val (.int z18), .val (.int z27), .val (.int v29), .val (.int v30), .val (.int v31), .val (.long y41), .second, .val (.ref b43), .val (.int o147), .val (.long y166), .second, .val (.long y167), .second, .unset, .unset, .unset, .unset, .unset, .unset, .unset, .unset, .unset, .unset] []))
                      refine own_by (fun _ k => XS.iload X163.here hx rfl (hb hby at_261) rfl k) ?_
                      show own_Go p e below _ (T161.setTop (mkF m 263 #[.val (.long q0), .second, .val (.long q1), .second, .val (.long q2), .second, .val (.int p3), .val (.int p4), .val (.int p5), .val (.int v1), .val (.int z9), .val (.int z18), .val (.int z27), .val (.int v29), .val (.int v30), .val (.int v31), .val (.long y41), .second, .val (.ref b43), .val (.int o147), .val (.long y166), .second, .val (.long y167), .second, .unset, .unset, .unset, .unset, .unset, .unset, .unset, .unset, .unset, .unset] [(.int z27)]))
                      by_cases c171 : z27 = (0 : Int32)
                      · skip
                        refine own_by (fun _ k => XS.ifYes X163.here hx rfl (pc0 := 263) (pc' := 277) rfl (hb hby at_263) rfl ((if0 _ _).trans (teq c171).1) (by decide) (by decide) k) ?_
                        show own_Go p e below _ (T161.setTop (mkF m 277 #[.val (.long q0), .second, .val (.long q1), .second, .val (.long q2), .second, .val (.int p3), .val (.int p4), .val (.int p5), .val (.int v1), .val (.int z9), .val (.int z18), .val (.int z27), .val (.int v29), .val (.int v30), .val (.int v31), .val (.long y41), .second, .val (.ref b43), .val (.int o147), .val (.long y166), .second, .val (.long y167), .second, .unset, .unset, .unset, .unset, .unset, .unset, .unset, .unset, .unset, .unset] []))
                        refine own_by (fun _ k => XS.iconst X163.here hx rfl (hb hby at_277) k) ?_
                        show own_Go p e below _ (T161.setTop (mkF m 278 #[.val (.long q0), .second, .val (.long q1), .second, .val (.long q2), .second, .val (.int p3), .val (.int p4), .val (.int p5), .val (.int v1), .val (.int z9), .val (.int z18), .val (.int z27), .val (.int v29), .val (.int v30), .val (.int v31), .val (.long y41), .second, .val (.ref b43), .val (.int o147), .val (.long y166), .second, .val (.long y167), .second, .unset, .unset, .unset, .unset, .unset, .unset, .unset, .unset, .unset, .unset] [(.int (0 : Int32))]))
                        exact J173 _ _ (0 : Int32) X163 e164 N165 (Or.inr (Or.inl ⟨c169, c170, c171, rfl⟩))
                      · skip
                        refine own_by (fun _ k => XS.ifNo X163.here hx rfl (hb hby at_263) rfl ((if0 _ _).trans (feq c171).1) k) ?_
                        show own_Go p e below _ (T161.setTop (mkF m 266 #[.val (.long q0), .second, .val (.long q1), .second, .val (.long q2), .second, .val (.int p3), .val (.int p4), .val (.int p5), .val (.int v1), .val (.int z9), .val (.int z18), .val (.int z27), .val (.int v29), .val (.int v30), .val (.int v31), .val (.long y41), .second, .val (.ref b43), .val (.int o147), .val (.long y166), .second, .val (.long y167), .second, .unset, .unset, .unset, .unset, .unset, .unset, .unset, .unset, .unset, .unset] []))
                        refine own_by (fun _ k => XS.iload X163.here hx rfl (hb hby at_266) rfl k) ?_
                        show own_Go p e below _ (T161.setTop (mkF m 268 #[.val (.long q0), .second, .val (.long q1), .second, .val (.long q2), .second, .val (.int p3), .val (.int p4), .val (.int p5), .val (.int v1), .val (.int z9), .val (.int z18), .val (.int z27), .val (.int v29), .val (.int v30), .val (.int v31), .val (.long y41), .second, .val (.ref b43), .val (.int o147), .val (.long y166), .second, .val (.long y167), .second, .unset, .unset, .unset, .unset, .unset, .unset, .unset, .unset, .unset, .unset] [(.int v30)]))
                        refine own_by (fun _ k => XS.iload X163.here hx rfl (hb hby at_268) rfl k) ?_
                        show own_Go p e below _ (T161.setTop (mkF m 270 #[.val (.long q0), .second, .val (.long q1), .second, .val (.long q2), .second, .val (.int p3), .val (.int p4), .val (.int p5), .val (.int v1), .val (.int z9), .val (.int z18), .val (.int z27), .val (.int v29), .val (.int v30), .val (.int v31), .val (.long y41), .second, .val (.ref b43), .val (.int o147), .val (.long y166), .second, .val (.long y167), .second, .unset, .unset, .unset, .unset, .unset, .unset, .unset, .unset, .unset, .unset] [(.int v31), (.int v30)]))
                        by_cases c172 : v31 < v30
                        · skip
                          refine own_by (fun _ k => XS.icmpYes X163.here hx rfl (pc0 := 270) (pc' := 277) rfl (hb hby at_270) rfl (tlt c172).2.2.1 (by decide) (by decide) k) ?_
                          show own_Go p e below _ (T161.setTop (mkF m 277 #[.val (.long q0), .second, .val (.long q1), .second, .val (.long q2), .second, .val (.int p3), .val (.int p4), .val (.int p5), .val (.int v1), .val (.int z9), .val (.int z18), .val (.int z27), .val (.int v29), .val (.int v30), .val (.int v31), .val (.long y41), .second, .val (.ref b43), .val (.int o147), .val (.long y166), .second, .val (.long y167), .second, .unset, .unset, .unset, .unset, .unset, .unset, .unset, .unset, .unset, .unset] []))
                          refine own_by (fun _ k => XS.iconst X163.here hx rfl (hb hby at_277) k) ?_
                          show own_Go p e below _ (T161.setTop (mkF m 278 #[.val (.long q0), .second, .val (.long q1), .second, .val (.long q2), .second, .val (.int p3), .val (.int p4), .val (.int p5), .val (.int v1), .val (.int z9), .val (.int z18), .val (.int z27), .val (.int v29), .val (.int v30), .val (.int v31), .val (.long y41), .second, .val (.ref b43), .val (.int o147), .val (.long y166), .second, .val (.long y167), .second, .unset, .unset, .unset, .unset, .unset, .unset, .unset, .unset, .unset, .unset] [(.int (0 : Int32))]))
                          exact J173 _ _ (0 : Int32) X163 e164 N165 (Or.inr (Or.inr (Or.inl ⟨c169, c170, c171, c172, rfl⟩)))
                        · skip
                          refine own_by (fun _ k => XS.icmpNo X163.here hx rfl (hb hby at_270) rfl (flt c172).2.2.1 k) ?_
                          show own_Go p e below _ (T161.setTop (mkF m 273 #[.val (.long q0), .second, .val (.long q1), .second, .val (.long q2), .second, .val (.int p3), .val (.int p4), .val (.int p5), .val (.int v1), .val (.int z9), .val (.int z18), .val (.int z27), .val (.int v29), .val (.int v30), .val (.int v31), .val (.long y41), .second, .val (.ref b43), .val (.int o147), .val (.long y166), .second, .val (.long y167), .second, .unset, .unset, .unset, .unset, .unset, .unset, .unset, .unset, .unset, .unset] []))
                          refine own_by (fun _ k => XS.iconst X163.here hx rfl (hb hby at_273) k) ?_
                          show own_Go p e below _ (T161.setTop (mkF m 274 #[.val (.long q0), .second, .val (.long q1), .second, .val (.long q2), .second, .val (.int p3), .val (.int p4), .val (.int p5), .val (.int v1), .val (.int z9), .val (.int z18), .val (.int z27), .val (.int v29), .val (.int v30), .val (.int v31), .val (.long y41), .second, .val (.ref b43), .val (.int o147), .val (.long y166), .second, .val (.long y167), .second, .unset, .unset, .unset, .unset, .unset, .unset, .unset, .unset, .unset, .unset] [(.int (1 : Int32))]))
                          refine own_by (fun _ k => XS.goto X163.here hx rfl (pc0 := 274) (pc' := 278) rfl (hb hby at_274) (by decide) (by decide) k) ?_
                          show own_Go p e below _ (T161.setTop (mkF m 278 #[.val (.long q0), .second, .val (.long q1), .second, .val (.long q2), .second, .val (.int p3), .val (.int p4), .val (.int p5), .val (.int v1), .val (.int z9), .val (.int z18), .val (.int z27), .val (.int v29), .val (.int v30), .val (.int v31), .val (.long y41), .second, .val (.ref b43), .val (.int o147), .val (.long y166), .second, .val (.long y167), .second, .unset, .unset, .unset, .unset, .unset, .unset, .unset, .unset, .unset, .unset] [(.int (1 : Int32))]))
                          exact J173 _ _ (1 : Int32) X163 e164 N165 (Or.inr (Or.inr (Or.inr (Or.inl ⟨c169, c170, c171, c172, rfl⟩))))
                  · skip
                    refine own_by (fun _ k => XS.ifYes X163.here hx rfl (pc0 := 253) (pc' := 277) rfl (hb hby at_253) rfl ((if0 _ _).trans (feq (fun q => c169 ((lw_eq _ _).mp q))).2) (by decide) (by decide) k) ?_
                    show own_Go p e below _ (T161.setTop (mkF m 277 #[.val (.long q0), .second, .val (.long q1), .second, .val (.long q2), .second, .val (.int p3), .val (.int p4), .val (.int p5), .val (.int v1), .val (.int z9), .val (.int z18), .val (.int z27), .val (.int v29), .val (.int v30), .val (.int v31), .val (.long y41), .second, .val (.ref b43), .val (.int o147), .val (.long y166), .second, .val (.long y167), .second, .unset, .unset, .unset, .unset, .unset, .unset, .unset, .unset, .unset, .unset] []))
                    refine own_by (fun _ k => XS.iconst X163.here hx rfl (hb hby at_277) k) ?_
                    show own_Go p e below _ (T161.setTop (mkF m 278 #[.val (.long q0), .second, .val (.long q1), .second, .val (.long q2), .second, .val (.int p3), .val (.int p4), .val (.int p5), .val (.int v1), .val (.int z9), .val (.int z18), .val (.int z27), .val (.int v29), .val (.int v30), .val (.int v31), .val (.long y41), .second, .val (.ref b43), .val (.int o147), .val (.long y166), .second, .val (.long y167), .second, .unset, .unset, .unset, .unset, .unset, .unset, .unset, .unset, .unset, .unset] [(.int (0 : Int32))]))
                    exact J173 _ _ (0 : Int32) X163 e164 N165 (Or.inr (Or.inr (Or.inr (Or.inr (⟨c169, rfl⟩)))))
                by_cases c158 : v29 = (1 : Int32)
                · skip
                  refine own_by (fun _ k => XS.icmpNo X153.here hx rfl (hb hby at_223) rfl (teq c158).2 k) ?_
                  show own_Go p e below _ (T151.setTop (mkF m 226 #[.val (.long q0), .second, .val (.long q1), .second, .val (.long q2), .second, .val (.int p3), .val (.int p4), .val (.int p5), .val (.int v1), .val (.int z9), .val (.int z18), .val (.int z27), .val (.int v29), .val (.int v30), .val (.int v31), .val (.long y41), .second, .val (.ref b43), .val (.int o147), .val (.long y156), .second, .val (.long (2 : Int64)), .second, .unset, .unset, .unset, .unset, .unset, .unset, .unset, .unset, .unset, .unset] []))
                  refine own_by (fun t k => X153.ldc2Long hx hown (mvT hZ (hw _ (List.mem_of_getElem? (i := 66) rfl))) (g := (mkF m 226 #[.val (.long q0), .second, .val (.long q1), .second, .val (.long q2), .second, .val (.int p3), .val (.int p4), .val (.int p5), .val (.int v1), .val (.int z9), .val (.int z18), .val (.int z27), .val (.int v29), .val (.int v30), .val (.int v31), .val (.long y41), .second, .val (.ref b43), .val (.int o147), .val (.long y156), .second, .val (.long (2 : Int64)), .second, .unset, .unset, .unset, .unset, .unset, .unset, .unset, .unset, .unset, .unset] [])) rfl (hb hby at_226) _ k) ?_
                  show own_Go p e below _ (T151.setTop (mkF m 229 #[.val (.long q0), .second, .val (.long q1), .second, .val (.long q2), .second, .val (.int p3), .val (.int p4), .val (.int p5), .val (.int v1), .val (.int z9), .val (.int z18), .val (.int z27), .val (.int v29), .val (.int v30), .val (.int v31), .val (.long y41), .second, .val (.ref b43), .val (.int o147), .val (.long y156), .second, .val (.long (2 : Int64)), .second, .unset, .unset, .unset, .unset, .unset, .unset, .unset, .unset, .unset, .unset] [(.long (3 : Int64))]))
                  refine own_by (fun _ k => XS.lstore X153.here hx rfl (hb hby at_229) rfl (l' := #[.val (.long q0), .second, .val (.long q1), .second, .val (.long q2), .second, .val (.int p3), .val (.int p4), .val (.int p5), .val (.int v1), .val (.int z9), .val (.int z18), .val (.int z27), .val (.int v29), .val (.int v30), .val (.int v31), .val (.long y41), .second, .val (.ref b43), .val (.int o147), .val (.long y156), .second, .val (.long (3 : Int64)), .second, .unset, .unset, .unset, .unset, .unset, .unset, .unset, .unset, .unset, .unset]) rfl k) ?_
                  show own_Go p e below _ (T151.setTop (mkF m 231 #[.val (.long q0), .second, .val (.long q1), .second, .val (.long q2), .second, .val (.int p3), .val (.int p4), .val (.int p5), .val (.int v1), .val (.int z9), .val (.int z18), .val (.int z27), .val (.int v29), .val (.int v30), .val (.int v31), .val (.long y41), .second, .val (.ref b43), .val (.int o147), .val (.long y156), .second, .val (.long (3 : Int64)), .second, .unset, .unset, .unset, .unset, .unset, .unset, .unset, .unset, .unset, .unset] []))
                  refine own_by (fun _ k => XS.goto X153.here hx rfl (pc0 := 231) (pc' := 250) rfl (hb hby at_231) (by decide) (by decide) k) ?_
                  show own_Go p e below _ (T151.setTop (mkF m 250 #[.val (.long q0), .second, .val (.long q1), .second, .val (.long q2), .second, .val (.int p3), .val (.int p4), .val (.int p5), .val (.int v1), .val (.int z9), .val (.int z18), .val (.int z27), .val (.int v29), .val (.int v30), .val (.int v31), .val (.long y41), .second, .val (.ref b43), .val (.int o147), .val (.long y156), .second, .val (.long (3 : Int64)), .second, .unset, .unset, .unset, .unset, .unset, .unset, .unset, .unset, .unset, .unset] []))
                  exact J160 _ _ y156 (3 : Int64) X153 e154 N155 (Or.inl ⟨c158, rfl, rfl⟩)
                · skip
                  refine own_by (fun _ k => XS.icmpYes X153.here hx rfl (pc0 := 223) (pc' := 234) rfl (hb hby at_223) rfl (feq c158).2 (by decide) (by decide) k) ?_
                  show own_Go p e below _ (T151.setTop (mkF m 234 #[.val (.long q0), .second, .val (.long q1), .second, .val (.long q2), .second, .val (.int p3), .val (.int p4), .val (.int p5), .val (.int v1), .val (.int z9), .val (.int z18), .val (.int z27), .val (.int v29), .val (.int v30), .val (.int v31), .val (.long y41), .second, .val (.ref b43), .val (.int o147), .val (.long y156), .second, .val (.long (2 : Int64)), .second, .unset, .unset, .unset, .unset, .unset, .unset, .unset, .unset, .unset, .unset] []))
                  refine own_by (fun _ k => XS.iload X153.here hx rfl (hb hby at_234) rfl k) ?_
                  show own_Go p e below _ (T151.setTop (mkF m 236 #[.val (.long q0), .second, .val (.long q1), .second, .val (.long q2), .second, .val (.int p3), .val (.int p4), .val (.int p5), .val (.int v1), .val (.int z9), .val (.int z18), .val (.int z27), .val (.int v29), .val (.int v30), .val (.int v31), .val (.long y41), .second, .val (.ref b43), .val (.int o147), .val (.long y156), .second, .val (.long (2 : Int64)), .second, .unset, .unset, .unset, .unset, .unset, .unset, .unset, .unset, .unset, .unset] [(.int v29)]))
                  refine own_by (fun _ k => XS.iconst X153.here hx rfl (hb hby at_236) k) ?_
                  show own_Go p e below _ (T151.setTop (mkF m 237 #[.val (.long q0), .second, .val (.long q1), .second, .val (.long q2), .second, .val (.int p3), .val (.int p4), .val (.int p5), .val (.int v1), .val (.int z9), .val (.int z18), .val (.int z27), .val (.int v29), .val (.int v30), .val (.int v31), .val (.long y41), .second, .val (.ref b43), .val (.int o147), .val (.long y156), .second, .val (.long (2 : Int64)), .second, .unset, .unset, .unset, .unset, .unset, .unset, .unset, .unset, .unset, .unset] [(.int (2 : Int32)), (.int v29)]))
                  by_cases c159 : v29 = (2 : Int32)
                  · skip
                    refine own_by (fun _ k => XS.icmpNo X153.here hx rfl (hb hby at_237) rfl (teq c159).2 k) ?_
                    show own_Go p e below _ (T151.setTop (mkF m 240 #[.val (.long q0), .second, .val (.long q1), .second, .val (.long q2), .second, .val (.int p3), .val (.int p4), .val (.int p5), .val (.int v1), .val (.int z9), .val (.int z18), .val (.int z27), .val (.int v29), .val (.int v30), .val (.int v31), .val (.long y41), .second, .val (.ref b43), .val (.int o147), .val (.long y156), .second, .val (.long (2 : Int64)), .second, .unset, .unset, .unset, .unset, .unset, .unset, .unset, .unset, .unset, .unset] []))
                    refine own_by (fun t k => X153.ldc2Long hx hown (mvT hZ (hw _ (List.mem_of_getElem? (i := 66) rfl))) (g := (mkF m 240 #[.val (.long q0), .second, .val (.long q1), .second, .val (.long q2), .second, .val (.int p3), .val (.int p4), .val (.int p5), .val (.int v1), .val (.int z9), .val (.int z18), .val (.int z27), .val (.int v29), .val (.int v30), .val (.int v31), .val (.long y41), .second, .val (.ref b43), .val (.int o147), .val (.long y156), .second, .val (.long (2 : Int64)), .second, .unset, .unset, .unset, .unset, .unset, .unset, .unset, .unset, .unset, .unset] [])) rfl (hb hby at_240) _ k) ?_
                    show own_Go p e below _ (T151.setTop (mkF m 243 #[.val (.long q0), .second, .val (.long q1), .second, .val (.long q2), .second, .val (.int p3), .val (.int p4), .val (.int p5), .val (.int v1), .val (.int z9), .val (.int z18), .val (.int z27), .val (.int v29), .val (.int v30), .val (.int v31), .val (.long y41), .second, .val (.ref b43), .val (.int o147), .val (.long y156), .second, .val (.long (2 : Int64)), .second, .unset, .unset, .unset, .unset, .unset, .unset, .unset, .unset, .unset, .unset] [(.long (3 : Int64))]))
                    refine own_by (fun _ k => XS.lstore X153.here hx rfl (hb hby at_243) rfl (l' := #[.val (.long q0), .second, .val (.long q1), .second, .val (.long q2), .second, .val (.int p3), .val (.int p4), .val (.int p5), .val (.int v1), .val (.int z9), .val (.int z18), .val (.int z27), .val (.int v29), .val (.int v30), .val (.int v31), .val (.long y41), .second, .val (.ref b43), .val (.int o147), .val (.long y156), .second, .val (.long (3 : Int64)), .second, .unset, .unset, .unset, .unset, .unset, .unset, .unset, .unset, .unset, .unset]) rfl k) ?_
                    show own_Go p e below _ (T151.setTop (mkF m 245 #[.val (.long q0), .second, .val (.long q1), .second, .val (.long q2), .second, .val (.int p3), .val (.int p4), .val (.int p5), .val (.int v1), .val (.int z9), .val (.int z18), .val (.int z27), .val (.int v29), .val (.int v30), .val (.int v31), .val (.long y41), .second, .val (.ref b43), .val (.int o147), .val (.long y156), .second, .val (.long (3 : Int64)), .second, .unset, .unset, .unset, .unset, .unset, .unset, .unset, .unset, .unset, .unset] []))
                    refine own_by (fun t k => X153.ldc2Long hx hown (mvT hZ (hw _ (List.mem_of_getElem? (i := 66) rfl))) (g := (mkF m 245 #[.val (.long q0), .second, .val (.long q1), .second, .val (.long q2), .second, .val (.int p3), .val (.int p4), .val (.int p5), .val (.int v1), .val (.int z9), .val (.int z18), .val (.int z27), .val (.int v29), .val (.int v30), .val (.int v31), .val (.long y41), .second, .val (.ref b43), .val (.int o147), .val (.long y156), .second, .val (.long (3 : Int64)), .second, .unset, .unset, .unset, .unset, .unset, .unset, .unset, .unset, .unset, .unset] [])) rfl (hb hby at_245) _ k) ?_
                    show own_Go p e below _ (T151.setTop (mkF m 248 #[.val (.long q0), .second, .val (.long q1), .second, .val (.long q2), .second, .val (.int p3), .val (.int p4), .val (.int p5), .val (.int v1), .val (.int z9), .val (.int z18), .val (.int z27), .val (.int v29), .val (.int v30), .val (.int v31), .val (.long y41), .second, .val (.ref b43), .val (.int o147), .val (.long y156), .second, .val (.long (3 : Int64)), .second, .unset, .unset, .unset, .unset, .unset, .unset, .unset, .unset, .unset, .unset] [(.long (3 : Int64))]))
                    refine own_by (fun _ k => XS.lstore X153.here hx rfl (hb hby at_248) rfl (l' := #[.val (.long q0), .second, .val (.long q1), .second, .val (.long q2), .second, .val (.int p3), .val (.int p4), .val (.int p5), .val (.int v1), .val (.int z9), .val (.int z18), .val (.int z27), .val (.int v29), .val (.int v30), .val (.int v31), .val (.long y41), .second, .val (.ref b43), .val (.int o147), .val (.long (3 : Int64)), .second, .val (.long (3 : Int64)), .second, .unset, .unset, .unset, .unset, .unset, .unset, .unset, .unset, .unset, .unset]) rfl k) ?_
                    show own_Go p e below _ (T151.setTop (mkF m 250 #[.val (.long q0), .second, .val (.long q1), .second, .val (.long q2), .second, .val (.int p3), .val (.int p4), .val (.int p5), .val (.int v1), .val (.int z9), .val (.int z18), .val (.int z27), .val (.int v29), .val (.int v30), .val (.int v31), .val (.long y41), .second, .val (.ref b43), .val (.int o147), .val (.long (3 : Int64)), .second, .val (.long (3 : Int64)), .second, .unset, .unset, .unset, .unset, .unset, .unset, .unset, .unset, .unset, .unset] []))
                    exact J160 _ _ (3 : Int64) (3 : Int64) X153 e154 N155 (Or.inr (Or.inl ⟨c158, c159, rfl, rfl⟩))
                  · skip
                    refine own_by (fun _ k => XS.icmpYes X153.here hx rfl (pc0 := 237) (pc' := 250) rfl (hb hby at_237) rfl (feq c159).2 (by decide) (by decide) k) ?_
                    show own_Go p e below _ (T151.setTop (mkF m 250 #[.val (.long q0), .second, .val (.long q1), .second, .val (.long q2), .second, .val (.int p3), .val (.int p4), .val (.int p5), .val (.int v1), .val (.int z9), .val (.int z18), .val (.int z27), .val (.int v29), .val (.int v30), .val (.int v31), .val (.long y41), .second, .val (.ref b43), .val (.int o147), .val (.long y156), .second, .val (.long (2 : Int64)), .second, .unset, .unset, .unset, .unset, .unset, .unset, .unset, .unset, .unset, .unset] []))
                    exact J160 _ _ y156 (2 : Int64) X153 e154 N155 (Or.inr (Or.inr (⟨c158, c159, rfl, rfl⟩)))
              by_cases c149 : z27 = (0 : Int32)
              · skip
                refine own_by (fun _ k => XS.ifYes X146.here hx rfl (pc0 := 203) (pc' := 210) rfl (hb hby at_203) rfl ((if0 _ _).trans (teq c149).1) (by decide) (by decide) k) ?_
                show own_Go p e below _ (T146.setTop (mkF m 210 #[.val (.long q0), .second, .val (.long q1), .second, .val (.long q2), .second, .val (.int p3), .val (.int p4), .val (.int p5), .val (.int v1), .val (.int z9), .val (.int z18), .val (.int z27), .val (.int v29), .val (.int v30), .val (.int v31), .val (.long y41), .second, .val (.ref b43), .val (.int o147), .unset, .unset, .unset, .unset, .unset, .unset, .unset, .unset, .unset, .unset, .unset, .unset, .unset, .unset] []))
                refine own_by (fun t k => X146.ldc2Long hx hown (mvT hZ (hw _ (List.mem_of_getElem? (i := 59) rfl))) (g := (mkF m 210 #[.val (.long q0), .second, .val (.long q1), .second, .val (.long q2), .second, .val (.int p3), .val (.int p4), .val (.int p5), .val (.int v1), .val (.int z9), .val (.int z18), .val (.int z27), .val (.int v29), .val (.int v30), .val (.int v31), .val (.long y41), .second, .val (.ref b43), .val (.int o147), .unset, .unset, .unset, .unset, .unset, .unset, .unset, .unset, .unset, .unset, .unset, .unset, .unset, .unset] [])) rfl (hb hby at_210) _ k) ?_
                show own_Go p e below _ (T146.setTop (mkF m 213 #[.val (.long q0), .second, .val (.long q1), .second, .val (.long q2), .second, .val (.int p3), .val (.int p4), .val (.int p5), .val (.int v1), .val (.int z9), .val (.int z18), .val (.int z27), .val (.int v29), .val (.int v30), .val (.int v31), .val (.long y41), .second, .val (.ref b43), .val (.int o147), .unset, .unset, .unset, .unset, .unset, .unset, .unset, .unset, .unset, .unset, .unset, .unset, .unset, .unset] [(.long (2 : Int64))]))
                exact J150 _ _ (2 : Int64) X146 eq146 N146 (Or.inl ⟨c149, rfl⟩)
              · skip
                refine own_by (fun _ k => XS.ifNo X146.here hx rfl (hb hby at_203) rfl ((if0 _ _).trans (feq c149).1) k) ?_
                show own_Go p e below _ (T146.setTop (mkF m 206 #[.val (.long q0), .second, .val (.long q1), .second, .val (.long q2), .second, .val (.int p3), .val (.int p4), .val (.int p5), .val (.int v1), .val (.int z9), .val (.int z18), .val (.int z27), .val (.int v29), .val (.int v30), .val (.int v31), .val (.long y41), .second, .val (.ref b43), .val (.int o147), .unset, .unset, .unset, .unset, .unset, .unset, .unset, .unset, .unset, .unset, .unset, .unset, .unset, .unset] []))
                refine own_by (fun _ k => XS.lconst X146.here hx rfl (hb hby at_206) k) ?_
                show own_Go p e below _ (T146.setTop (mkF m 207 #[.val (.long q0), .second, .val (.long q1), .second, .val (.long q2), .second, .val (.int p3), .val (.int p4), .val (.int p5), .val (.int v1), .val (.int z9), .val (.int z18), .val (.int z27), .val (.int v29), .val (.int v30), .val (.int v31), .val (.long y41), .second, .val (.ref b43), .val (.int o147), .unset, .unset, .unset, .unset, .unset, .unset, .unset, .unset, .unset, .unset, .unset, .unset, .unset, .unset] [(.long (1 : Int64))]))
                refine own_by (fun _ k => XS.goto X146.here hx rfl (pc0 := 207) (pc' := 213) rfl (hb hby at_207) (by decide) (by decide) k) ?_
                show own_Go p e below _ (T146.setTop (mkF m 213 #[.val (.long q0), .second, .val (.long q1), .second, .val (.long q2), .second, .val (.int p3), .val (.int p4), .val (.int p5), .val (.int v1), .val (.int z9), .val (.int z18), .val (.int z27), .val (.int v29), .val (.int v30), .val (.int v31), .val (.long y41), .second, .val (.ref b43), .val (.int o147), .unset, .unset, .unset, .unset, .unset, .unset, .unset, .unset, .unset, .unset, .unset, .unset, .unset, .unset] [(.long (1 : Int64))]))
                exact J150 _ _ (1 : Int64) X146 eq146 N146 (Or.inr (⟨c149, rfl⟩))
            by_cases c104 : v29 = (1 : Int32)
            · skip
              refine own_by (fun _ k => XS.icmpNo X100.here hx rfl (hb hby at_170) rfl (teq c104).2 k) ?_
              show own_Go p e below _ (T100.setTop (mkF m 173 #[.val (.long q0), .second, .val (.long q1), .second, .val (.long q2), .second, .val (.int p3), .val (.int p4), .val (.int p5), .val (.int v1), .val (.int z9), .val (.int z18), .val (.int z27), .val (.int v29), .val (.int v30), .val (.int v31), .val (.long y41), .second, .val (.ref b43), .unset, .unset, .unset, .unset, .unset, .unset, .unset, .unset, .unset, .unset, .unset, .unset, .unset, .unset, .unset] []))
              refine own_by (fun _ k => XS.aload X100.here hx rfl (hb hby at_173) rfl rfl k) ?_
              show own_Go p e below _ (T100.setTop (mkF m 175 #[.val (.long q0), .second, .val (.long q1), .second, .val (.long q2), .second, .val (.int p3), .val (.int p4), .val (.int p5), .val (.int v1), .val (.int z9), .val (.int z18), .val (.int z27), .val (.int v29), .val (.int v30), .val (.int v31), .val (.long y41), .second, .val (.ref b43), .unset, .unset, .unset, .unset, .unset, .unset, .unset, .unset, .unset, .unset, .unset, .unset, .unset, .unset, .unset] [(.ref b43)]))
              have F105 : Fld Z T100.heap b43 "com/example/plyward/plyward/search/TranspositionTable" "generation" "J" (.long (2 : Int64)) := (F93.keep Kq100 (ninS ne98 nin0))
              have F106 : Exa Z T100.heap b43 "com/example/plyward/plyward/search/TranspositionTable" := (F92.keep Kq100)
              have F107 : Fld Z T100.heap b43 "com/example/plyward/plyward/search/TranspositionTable" "settledSince" "J" (.long y89) := (F94.keep Kq100 (ninS ne98 nin0))
              have F108 : Fld Z T100.heap b43 "com/example/plyward/plyward/search/TranspositionTable" "entries" "[J" (.ref b45) := (F95.keep Kq100 (ninS ne98 nin0))
              have F109 : Fld Z T100.heap b43 "com/example/plyward/plyward/search/TranspositionTable" "shift" "I" (.int (63 : Int32)) := (F96.keep Kq100 (ninS ne98 nin0))
              obtain ⟨cq110, kq110, qq110a, qq110b, qq110c⟩ := isOf hZ rfl F106
              obtain ⟨_, _, ⟨T110, L110, k110, n110⟩, -, X110, ⟨Lc110, hQ110, l110, y110, z110⟩, st110⟩ := X100.virtualBack hx (y := (⟨"com/example/plyward/plyward/search/TranspositionTable", "keepSettled", "()V"⟩ : MethodName)) (z := (⟨"com/example/plyward/plyward/search/TranspositionTable", "keepSettled", "()V"⟩ : MethodName)) hown (mvT hZ (hw _ (List.mem_of_getElem? (i := 43) rfl))) (mvT hZ (hw _ (List.mem_of_getElem? (i := 44) rfl))) (notFace_of_selects (args := #[]) (mvT hZ (hw _ (List.mem_of_getElem? (i := 46) rfl)))) (mvT hZ (hw _ (List.mem_of_getElem? (i := 46) rfl))) (mvT hZ (hw _ (List.mem_of_getElem? (i := 45) rfl))) (by decide) (backOf (W := 0) (rm6 l Z A0 hw [] b43 (2 : Int64) y89 b45 (63 : Int32) T100.heap n0 Z100 F105 F106 ge_b43 (by decide) F107 F108 F109) hZ (hw _ (List.mem_of_getElem? (i := 47) rfl)) (hw _ (List.mem_of_getElem? (i := 3) rfl)) (by decide) (by decide)) qq110a qq110c (g := (mkF m 175 #[.val (.long q0), .second, .val (.long q1), .second, .val (.long q2), .second, .val (.int p3), .val (.int p4), .val (.int p5), .val (.int v1), .val (.int z9), .val (.int z18), .val (.int z27), .val (.int v29), .val (.int v30), .val (.int v31), .val (.long y41), .second, .val (.ref b43), .unset, .unset, .unset, .unset, .unset, .unset, .unset, .unset, .unset, .unset, .unset, .unset, .unset, .unset, .unset] [(.ref b43)])) rfl (by rw [hml]; rfl) (Steps.refl _) (argsL := []) (rest := []) (lenOf pd_7 rfl) rfl (by show 2 * 0 + _ ≤ _; exact Nat.le_of_eq rfl) (hb hby at_175) (fun _ _ => ⟨rfl, rfl, (by decide : 2 + 0 ≤ _), (by decide : 12 + 0 ≤ _)⟩)
              dsimp only [Pt.U, Pt.locs, Pt.cells, Pt.slots] at X110 l110 y110 z110 st110 hQ110
              subst l110 y110 z110
              obtain ⟨rfl, Nq110, Kq110, F111, F112, F113, F114, F115⟩ := hQ110
              have N110 := Fr.app N100 Nq110
              have K110 : Keep h0 T110.heap [] := K100.trans Kq110 ((allS (Or.inr sz_b43) all0))
              have Z110 : n0 ≤ T110.heap.size := Nat.le_trans Z100 Kq110.1
              refine own_by (fun _ k => st110.trans k) ?_
              show own_Go p e below _ (T110.setTop (mkF m 178 #[.val (.long q0), .second, .val (.long q1), .second, .val (.long q2), .second, .val (.int p3), .val (.int p4), .val (.int p5), .val (.int v1), .val (.int z9), .val (.int z18), .val (.int z27), .val (.int v29), .val (.int v30), .val (.int v31), .val (.long y41), .second, .val (.ref b43), .unset, .unset, .unset, .unset, .unset, .unset, .unset, .unset, .unset, .unset, .unset, .unset, .unset, .unset, .unset] []))
              refine own_by (fun _ k => XS.goto X110.here hx rfl (pc0 := 178) (pc' := 192) rfl (hb hby at_178) (by decide) (by decide) k) ?_
              show own_Go p e below _ (T110.setTop (mkF m 192 #[.val (.long q0), .second, .val (.long q1), .second, .val (.long q2), .second, .val (.int p3), .val (.int p4), .val (.int p5), .val (.int v1), .val (.int z9), .val (.int z18), .val (.int z27), .val (.int v29), .val (.int v30), .val (.int v31), .val (.long y41), .second, .val (.ref b43), .unset, .unset, .unset, .unset, .unset, .unset, .unset, .unset, .unset, .unset, .unset, .unset, .unset, .unset, .unset] []))
              have F116 : own_Arf Z T110.heap b45 b46 .long (8 : Int32) (fun i => .long (b101 i)) := (F102.keep Kq110 (ninS (Ne.symm ne98) nin0))
              exact J128 _ _ _ (3 : Int64) y89 X110 rfl N110 K110 Z110 F111 F112 F113 F114 F115 F116 (Or.inl ⟨c104, rfl, rfl⟩)
            · skip
              refine own_by (fun _ k => XS.icmpYes X100.here hx rfl (pc0 := 170) (pc' := 181) rfl (hb hby at_170) rfl (feq c104).2 (by decide) (by decide) k) ?_
              show own_Go p e below _ (T100.setTop (mkF m 181 #[.val (.long q0), .second, .val (.long q1), .second, .val (.long q2), .second, .val (.int p3), .val (.int p4), .val (.int p5), .val (.int v1), .val (.int z9), .val (.int z18), .val (.int z27), .val (.int v29), .val (.int v30), .val (.int v31), .val (.long y41), .second, .val (.ref b43), .unset, .unset, .unset, .unset, .unset, .unset, .unset, .unset, .unset, .unset, .unset, .unset, .unset, .unset, .unset] []))
              refine own_by (fun _ k => XS.iload X100.here hx rfl (hb hby at_181) rfl k) ?_
              show own_Go p e below _ (T100.setTop (mkF m 183 #[.val (.long q0), .second, .val (.long q1), .second, .val (.long q2), .second, .val (.int p3), .val (.int p4), .val (.int p5), .val (.int v1), .val (.int z9), .val (.int z18), .val (.int z27), .val (.int v29), .val (.int v30), .val (.int v31), .val (.long y41), .second, .val (.ref b43), .unset, .unset, .unset, .unset, .unset, .unset, .unset, .unset, .unset, .unset, .unset, .unset, .unset, .unset, .unset] [(.int v29)]))
              refine own_by (fun _ k => XS.iconst X100.here hx rfl (hb hby at_183) k) ?_
              show own_Go p e below _ (T100.setTop (mkF m 184 #[.val (.long q0), .second, .val (.long q1), .second, .val (.long q2), .second, .val (.int p3), .val (.int p4), .val (.int p5), .val (.int v1), .val (.int z9), .val (.int z18), .val (.int z27), .val (.int v29), .val (.int v30), .val (.int v31), .val (.long y41), .second, .val (.ref b43), .unset, .unset, .unset, .unset, .unset, .unset, .unset, .unset, .unset, .unset, .unset, .unset, .unset, .unset, .unset] [(.int (2 : Int32)), (.int v29)]))
              by_cases c117 : v29 = (2 : Int32)
              · skip
                refine own_by (fun _ k => XS.icmpNo X100.here hx rfl (hb hby at_184) rfl (teq c117).2 k) ?_
                show own_Go p e below _ (T100.setTop (mkF m 187 #[.val (.long q0), .second, .val (.long q1), .second, .val (.long q2), .second, .val (.int p3), .val (.int p4), .val (.int p5), .val (.int v1), .val (.int z9), .val (.int z18), .val (.int z27), .val (.int v29), .val (.int v30), .val (.int v31), .val (.long y41), .second, .val (.ref b43), .unset, .unset, .unset, .unset, .unset, .unset, .unset, .unset, .unset, .unset, .unset, .unset, .unset, .unset, .unset] []))
                refine own_by (fun _ k => XS.aload X100.here hx rfl (hb hby at_187) rfl rfl k) ?_
                show own_Go p e below _ (T100.setTop (mkF m 189 #[.val (.long q0), .second, .val (.long q1), .second, .val (.long q2), .second, .val (.int p3), .val (.int p4), .val (.int p5), .val (.int v1), .val (.int z9), .val (.int z18), .val (.int z27), .val (.int v29), .val (.int v30), .val (.int v31), .val (.long y41), .second, .val (.ref b43), .unset, .unset, .unset, .unset, .unset, .unset, .unset, .unset, .unset, .unset, .unset, .unset, .unset, .unset, .unset] [(.ref b43)]))
                have F118 : Fld Z T100.heap b43 "com/example/plyward/plyward/search/TranspositionTable" "generation" "J" (.long (2 : Int64)) := (F93.keep Kq100 (ninS ne98 nin0))
                have F119 : Exa Z T100.heap b43 "com/example/plyward/plyward/search/TranspositionTable" := (F92.keep Kq100)
                have F120 : Fld Z T100.heap b43 "com/example/plyward/plyward/search/TranspositionTable" "settledSince" "J" (.long y89) := (F94.keep Kq100 (ninS ne98 nin0))
                have F121 : Fld Z T100.heap b43 "com/example/plyward/plyward/search/TranspositionTable" "entries" "[J" (.ref b45) := (F95.keep Kq100 (ninS ne98 nin0))
                have F122 : Fld Z T100.heap b43 "com/example/plyward/plyward/search/TranspositionTable" "shift" "I" (.int (63 : Int32)) := (F96.keep Kq100 (ninS ne98 nin0))
                obtain ⟨cq123, kq123, qq123a, qq123b, qq123c⟩ := isOf hZ rfl F119
                obtain ⟨_, _, ⟨T123, L123, k123, n123⟩, -, X123, ⟨Lc123, hQ123, l123, y123, z123⟩, st123⟩ := X100.virtualBack hx (y := (⟨"com/example/plyward/plyward/search/TranspositionTable", "clear", "()V"⟩ : MethodName)) (z := (⟨"com/example/plyward/plyward/search/TranspositionTable", "clear", "()V"⟩ : MethodName)) hown (mvT hZ (hw _ (List.mem_of_getElem? (i := 61) rfl))) (mvT hZ (hw _ (List.mem_of_getElem? (i := 62) rfl))) (notFace_of_selects (args := #[]) (mvT hZ (hw _ (List.mem_of_getElem? (i := 64) rfl)))) (mvT hZ (hw _ (List.mem_of_getElem? (i := 64) rfl))) (mvT hZ (hw _ (List.mem_of_getElem? (i := 63) rfl))) (by decide) (backOf (W := 0) (rm9 l Z A0 hw [] b43 (2 : Int64) y89 b45 (63 : Int32) T100.heap n0 Z100 F118 F119 ge_b43 (by decide) F120 F121 F122) hZ (hw _ (List.mem_of_getElem? (i := 65) rfl)) (hw _ (List.mem_of_getElem? (i := 3) rfl)) (by decide) (by decide)) qq123a qq123c (g := (mkF m 189 #[.val (.long q0), .second, .val (.long q1), .second, .val (.long q2), .second, .val (.int p3), .val (.int p4), .val (.int p5), .val (.int v1), .val (.int z9), .val (.int z18), .val (.int z27), .val (.int v29), .val (.int v30), .val (.int v31), .val (.long y41), .second, .val (.ref b43), .unset, .unset, .unset, .unset, .unset, .unset, .unset, .unset, .unset, .unset, .unset, .unset, .unset, .unset, .unset] [(.ref b43)])) rfl (by rw [hml]; rfl) (Steps.refl _) (argsL := []) (rest := []) (lenOf pd_7 rfl) rfl (by show 2 * 0 + _ ≤ _; exact Nat.le_of_eq rfl) (hb hby at_189) (fun _ _ => ⟨rfl, rfl, (by decide : 2 + 0 ≤ _), (by decide : 12 + 0 ≤ _)⟩)
                dsimp only [Pt.U, Pt.locs, Pt.cells, Pt.slots] at X123 l123 y123 z123 st123 hQ123
                subst l123 y123 z123
                obtain ⟨rfl, Nq123, Kq123, F124, F125, F126, F127, F128⟩ := hQ123
                have N123 := Fr.app N100 Nq123
                have K123 : Keep h0 T123.heap [] := K100.trans Kq123 ((allS (Or.inr sz_b43) all0))
                have Z123 : n0 ≤ T123.heap.size := Nat.le_trans Z100 Kq123.1
                refine own_by (fun _ k => st123.trans k) ?_
                show own_Go p e below _ (T123.setTop (mkF m 192 #[.val (.long q0), .second, .val (.long q1), .second, .val (.long q2), .second, .val (.int p3), .val (.int p4), .val (.int p5), .val (.int v1), .val (.int z9), .val (.int z18), .val (.int z27), .val (.int v29), .val (.int v30), .val (.int v31), .val (.long y41), .second, .val (.ref b43), .unset, .unset, .unset, .unset, .unset, .unset, .unset, .unset, .unset, .unset, .unset, .unset, .unset, .unset, .unset] []))
                have F129 : own_Arf Z T123.heap b45 b46 .long (8 : Int32) (fun i => .long (b101 i)) := (F102.keep Kq123 (ninS (Ne.symm ne98) nin0))
                exact J128 _ _ _ (3 : Int64) (3 : Int64) X123 rfl N123 K123 Z123 F124 F125 F126 F127 F128 F129 (Or.inr (Or.inl ⟨c104, c117, rfl, rfl⟩))
              · skip
                refine own_by (fun _ k => XS.icmpYes X100.here hx rfl (pc0 := 184) (pc' := 192) rfl (hb hby at_184) rfl (feq c117).2 (by decide) (by decide) k) ?_
                show own_Go p e below _ (T100.setTop (mkF m 192 #[.val (.long q0), .second, .val (.long q1), .second, .val (.long q2), .second, .val (.int p3), .val (.int p4), .val (.int p5), .val (.int v1), .val (.int z9), .val (.int z18), .val (.int z27), .val (.int v29), .val (.int v30), .val (.int v31), .val (.long y41), .second, .val (.ref b43), .unset, .unset, .unset, .unset, .unset, .unset, .unset, .unset, .unset, .unset, .unset, .unset, .unset, .unset, .unset] []))
                have F130 : Exa Z T100.heap b43 "com/example/plyward/plyward/search/TranspositionTable" := (F92.keep Kq100)
                have F131 : Fld Z T100.heap b43 "com/example/plyward/plyward/search/TranspositionTable" "generation" "J" (.long (2 : Int64)) := (F93.keep Kq100 (ninS ne98 nin0))
                have F132 : Fld Z T100.heap b43 "com/example/plyward/plyward/search/TranspositionTable" "settledSince" "J" (.long y89) := (F94.keep Kq100 (ninS ne98 nin0))
                have F133 : Fld Z T100.heap b43 "com/example/plyward/plyward/search/TranspositionTable" "entries" "[J" (.ref b45) := (F95.keep Kq100 (ninS ne98 nin0))
                have F134 : Fld Z T100.heap b43 "com/example/plyward/plyward/search/TranspositionTable" "shift" "I" (.int (63 : Int32)) := (F96.keep Kq100 (ninS ne98 nin0))
                exact J128 _ _ _ (2 : Int64) y89 X100 rfl N100 K100 Z100 F130 F131 F132 F133 F134 F102 (Or.inr (Or.inr (⟨c104, c117, rfl, rfl⟩)))
          by_cases c59 : z27 = (0 : Int32)
          · skip
            refine own_by (fun _ k => XS.ifYes X55.here hx rfl (pc0 := 137) (pc' := 148) rfl (hb hby at_137) rfl ((if0 _ _).trans (teq c59).1) (by decide) (by decide) k) ?_
            show own_Go p e below _ (T55.setTop (mkF m 148 #[.val (.long q0), .second, .val (.long q1), .second, .val (.long q2), .second, .val (.int p3), .val (.int p4), .val (.int p5), .val (.int v1), .val (.int z9), .val (.int z18), .val (.int z27), .val (.int v29), .val (.int v30), .val (.int v31), .val (.long y41), .second, .val (.ref b43), .unset, .unset, .unset, .unset, .unset, .unset, .unset, .unset, .unset, .unset, .unset, .unset, .unset, .unset, .unset] []))
            refine own_by (fun _ k => XS.aload X55.here hx rfl (hb hby at_148) rfl rfl k) ?_
            show own_Go p e below _ (T55.setTop (mkF m 150 #[.val (.long q0), .second, .val (.long q1), .second, .val (.long q2), .second, .val (.int p3), .val (.int p4), .val (.int p5), .val (.int v1), .val (.int z9), .val (.int z18), .val (.int z27), .val (.int v29), .val (.int v30), .val (.int v31), .val (.long y41), .second, .val (.ref b43), .unset, .unset, .unset, .unset, .unset, .unset, .unset, .unset, .unset, .unset, .unset, .unset, .unset, .unset, .unset] [(.ref b43)]))
            have F60 : Fld Z T55.heap b43 "com/example/plyward/plyward/search/TranspositionTable" "generation" "J" (.long (1 : Int64)) := (F48.keep Kq55 (ninS (Nat.ne_of_lt (Nat.lt_of_lt_of_le (A43).lt hp53)) nin0))
            have F61 : Exa Z T55.heap b43 "com/example/plyward/plyward/search/TranspositionTable" := (F47.keep Kq55)
            have F62 : Fld Z T55.heap b43 "com/example/plyward/plyward/search/TranspositionTable" "settledSince" "J" (.long (1 : Int64)) := (F49.keep Kq55 (ninS (Nat.ne_of_lt (Nat.lt_of_lt_of_le (A43).lt hp53)) nin0))
            have F63 : Fld Z T55.heap b43 "com/example/plyward/plyward/search/TranspositionTable" "entries" "[J" (.ref b45) := (F50.keep Kq55 (ninS (Nat.ne_of_lt (Nat.lt_of_lt_of_le (A43).lt hp53)) nin0))
            have F64 : Fld Z T55.heap b43 "com/example/plyward/plyward/search/TranspositionTable" "shift" "I" (.int (63 : Int32)) := (F51.keep Kq55 (ninS (Nat.ne_of_lt (Nat.lt_of_lt_of_le (A43).lt hp53)) nin0))
            obtain ⟨cq65, kq65, qq65a, qq65b, qq65c⟩ := isOf hZ rfl F61
            obtain ⟨_, _, ⟨T65, L65, k65, n65⟩, -, X65, ⟨Lc65, hQ65, l65, y65, z65⟩, st65⟩ := X55.virtualBack hx (y := (⟨"com/example/plyward/plyward/search/TranspositionTable", "clear", "()V"⟩ : MethodName)) (z := (⟨"com/example/plyward/plyward/search/TranspositionTable", "clear", "()V"⟩ : MethodName)) hown (mvT hZ (hw _ (List.mem_of_getElem? (i := 61) rfl))) (mvT hZ (hw _ (List.mem_of_getElem? (i := 62) rfl))) (notFace_of_selects (args := #[]) (mvT hZ (hw _ (List.mem_of_getElem? (i := 64) rfl)))) (mvT hZ (hw _ (List.mem_of_getElem? (i := 64) rfl))) (mvT hZ (hw _ (List.mem_of_getElem? (i := 63) rfl))) (by decide) (backOf (W := 0) (rm9 l Z A0 hw [] b43 (1 : Int64) (1 : Int64) b45 (63 : Int32) T55.heap n0 Z55 F60 F61 ge_b43 (by decide) F62 F63 F64) hZ (hw _ (List.mem_of_getElem? (i := 65) rfl)) (hw _ (List.mem_of_getElem? (i := 3) rfl)) (by decide) (by decide)) qq65a qq65c (g := (mkF m 150 #[.val (.long q0), .second, .val (.long q1), .second, .val (.long q2), .second, .val (.int p3), .val (.int p4), .val (.int p5), .val (.int v1), .val (.int z9), .val (.int z18), .val (.int z27), .val (.int v29), .val (.int v30), .val (.int v31), .val (.long y41), .second, .val (.ref b43), .unset, .unset, .unset, .unset, .unset, .unset, .unset, .unset, .unset, .unset, .unset, .unset, .unset, .unset, .unset] [(.ref b43)])) rfl (by rw [hml]; rfl) (Steps.refl _) (argsL := []) (rest := []) (lenOf pd_7 rfl) rfl (by show 2 * 0 + _ ≤ _; exact Nat.le_of_eq rfl) (hb hby at_150) (fun _ _ => ⟨rfl, rfl, (by decide : 2 + 0 ≤ _), (by decide : 12 + 0 ≤ _)⟩)
            dsimp only [Pt.U, Pt.locs, Pt.cells, Pt.slots] at X65 l65 y65 z65 st65 hQ65
            subst l65 y65 z65
            obtain ⟨rfl, Nq65, Kq65, F66, F67, F68, F69, F70⟩ := hQ65
            have N65 := Fr.app N55 Nq65
            have K65 : Keep h0 T65.heap [] := K55.trans Kq65 ((allS (Or.inr sz_b43) all0))
            have Z65 : n0 ≤ T65.heap.size := Nat.le_trans Z55 Kq65.1
            refine own_by (fun _ k => st65.trans k) ?_
            show own_Go p e below _ (T65.setTop (mkF m 153 #[.val (.long q0), .second, .val (.long q1), .second, .val (.long q2), .second, .val (.int p3), .val (.int p4), .val (.int p5), .val (.int v1), .val (.int z9), .val (.int z18), .val (.int z27), .val (.int v29), .val (.int v30), .val (.int v31), .val (.long y41), .second, .val (.ref b43), .unset, .unset, .unset, .unset, .unset, .unset, .unset, .unset, .unset, .unset, .unset, .unset, .unset, .unset, .unset] []))
            have F71 : own_Arf Z T65.heap b45 b46 .long (8 : Int32) (fun i => .long (b56 i)) := (F57.keep Kq65 (ninS (Ne.symm (Nat.ne_of_lt (Nat.lt_of_lt_of_le (A43).lt hp53))) nin0))
            exact J82 _ _ _ (2 : Int64) X65 rfl N65 K65 Z65 F66 F67 F68 F69 F70 F71 (Nat.ne_of_lt (Nat.lt_of_lt_of_le (A43).lt hp53)) (Or.inl ⟨c59, rfl⟩)
          · skip
            refine own_by (fun _ k => XS.ifNo X55.here hx rfl (hb hby at_137) rfl ((if0 _ _).trans (feq c59).1) k) ?_
            show own_Go p e below _ (T55.setTop (mkF m 140 #[.val (.long q0), .second, .val (.long q1), .second, .val (.long q2), .second, .val (.int p3), .val (.int p4), .val (.int p5), .val (.int v1), .val (.int z9), .val (.int z18), .val (.int z27), .val (.int v29), .val (.int v30), .val (.int v31), .val (.long y41), .second, .val (.ref b43), .unset, .unset, .unset, .unset, .unset, .unset, .unset, .unset, .unset, .unset, .unset, .unset, .unset, .unset, .unset] []))
            refine own_by (fun _ k => XS.aload X55.here hx rfl (hb hby at_140) rfl rfl k) ?_
            show own_Go p e below _ (T55.setTop (mkF m 142 #[.val (.long q0), .second, .val (.long q1), .second, .val (.long q2), .second, .val (.int p3), .val (.int p4), .val (.int p5), .val (.int v1), .val (.int z9), .val (.int z18), .val (.int z27), .val (.int v29), .val (.int v30), .val (.int v31), .val (.long y41), .second, .val (.ref b43), .unset, .unset, .unset, .unset, .unset, .unset, .unset, .unset, .unset, .unset, .unset, .unset, .unset, .unset, .unset] [(.ref b43)]))
            have F72 : Fld Z T55.heap b43 "com/example/plyward/plyward/search/TranspositionTable" "generation" "J" (.long (1 : Int64)) := (F48.keep Kq55 (ninS (Nat.ne_of_lt (Nat.lt_of_lt_of_le (A43).lt hp53)) nin0))
            have F73 : Exa Z T55.heap b43 "com/example/plyward/plyward/search/TranspositionTable" := (F47.keep Kq55)
            have F74 : Fld Z T55.heap b43 "com/example/plyward/plyward/search/TranspositionTable" "settledSince" "J" (.long (1 : Int64)) := (F49.keep Kq55 (ninS (Nat.ne_of_lt (Nat.lt_of_lt_of_le (A43).lt hp53)) nin0))
            have F75 : Fld Z T55.heap b43 "com/example/plyward/plyward/search/TranspositionTable" "entries" "[J" (.ref b45) := (F50.keep Kq55 (ninS (Nat.ne_of_lt (Nat.lt_of_lt_of_le (A43).lt hp53)) nin0))
            have F76 : Fld Z T55.heap b43 "com/example/plyward/plyward/search/TranspositionTable" "shift" "I" (.int (63 : Int32)) := (F51.keep Kq55 (ninS (Nat.ne_of_lt (Nat.lt_of_lt_of_le (A43).lt hp53)) nin0))
            obtain ⟨cq77, kq77, qq77a, qq77b, qq77c⟩ := isOf hZ rfl F73
            obtain ⟨_, _, ⟨T77, L77, k77, n77⟩, -, X77, ⟨Lc77, hQ77, l77, y77, z77⟩, st77⟩ := X55.virtualBack hx (y := (⟨"com/example/plyward/plyward/search/TranspositionTable", "keepSettled", "()V"⟩ : MethodName)) (z := (⟨"com/example/plyward/plyward/search/TranspositionTable", "keepSettled", "()V"⟩ : MethodName)) hown (mvT hZ (hw _ (List.mem_of_getElem? (i := 43) rfl))) (mvT hZ (hw _ (List.mem_of_getElem? (i := 44) rfl))) (notFace_of_selects (args := #[]) (mvT hZ (hw _ (List.mem_of_getElem? (i := 46) rfl)))) (mvT hZ (hw _ (List.mem_of_getElem? (i := 46) rfl))) (mvT hZ (hw _ (List.mem_of_getElem? (i := 45) rfl))) (by decide) (backOf (W := 0) (rm6 l Z A0 hw [] b43 (1 : Int64) (1 : Int64) b45 (63 : Int32) T55.heap n0 Z55 F72 F73 ge_b43 (by decide) F74 F75 F76) hZ (hw _ (List.mem_of_getElem? (i := 47) rfl)) (hw _ (List.mem_of_getElem? (i := 3) rfl)) (by decide) (by decide)) qq77a qq77c (g := (mkF m 142 #[.val (.long q0), .second, .val (.long q1), .second, .val (.long q2), .second, .val (.int p3), .val (.int p4), .val (.int p5), .val (.int v1), .val (.int z9), .val (.int z18), .val (.int z27), .val (.int v29), .val (.int v30), .val (.int v31), .val (.long y41), .second, .val (.ref b43), .unset, .unset, .unset, .unset, .unset, .unset, .unset, .unset, .unset, .unset, .unset, .unset, .unset, .unset, .unset] [(.ref b43)])) rfl (by rw [hml]; rfl) (Steps.refl _) (argsL := []) (rest := []) (lenOf pd_7 rfl) rfl (by show 2 * 0 + _ ≤ _; exact Nat.le_of_eq rfl) (hb hby at_142) (fun _ _ => ⟨rfl, rfl, (by decide : 2 + 0 ≤ _), (by decide : 12 + 0 ≤ _)⟩)
            dsimp only [Pt.U, Pt.locs, Pt.cells, Pt.slots] at X77 l77 y77 z77 st77 hQ77
            subst l77 y77 z77
            obtain ⟨rfl, Nq77, Kq77, F78, F79, F80, F81, F82⟩ := hQ77
            have N77 := Fr.app N55 Nq77
            have K77 : Keep h0 T77.heap [] := K55.trans Kq77 ((allS (Or.inr sz_b43) all0))
            have Z77 : n0 ≤ T77.heap.size := Nat.le_trans Z55 Kq77.1
            refine own_by (fun _ k => st77.trans k) ?_
            show own_Go p e below _ (T77.setTop (mkF m 145 #[.val (.long q0), .second, .val (.long q1), .second, .val (.long q2), .second, .val (.int p3), .val (.int p4), .val (.int p5), .val (.int v1), .val (.int z9), .val (.int z18), .val (.int z27), .val (.int v29), .val (.int v30), .val (.int v31), .val (.long y41), .second, .val (.ref b43), .unset, .unset, .unset, .unset, .unset, .unset, .unset, .unset, .unset, .unset, .unset, .unset, .unset, .unset, .unset] []))
            refine own_by (fun _ k => XS.goto X77.here hx rfl (pc0 := 145) (pc' := 153) rfl (hb hby at_145) (by decide) (by decide) k) ?_
            show own_Go p e below _ (T77.setTop (mkF m 153 #[.val (.long q0), .second, .val (.long q1), .second, .val (.long q2), .second, .val (.int p3), .val (.int p4), .val (.int p5), .val (.int v1), .val (.int z9), .val (.int z18), .val (.int z27), .val (.int v29), .val (.int v30), .val (.int v31), .val (.long y41), .second, .val (.ref b43), .unset, .unset, .unset, .unset, .unset, .unset, .unset, .unset, .unset, .unset, .unset, .unset, .unset, .unset, .unset] []))
            have F83 : own_Arf Z T77.heap b45 b46 .long (8 : Int32) (fun i => .long (b56 i)) := (F57.keep Kq77 (ninS (Ne.symm (Nat.ne_of_lt (Nat.lt_of_lt_of_le (A43).lt hp53))) nin0))
            exact J82 _ _ _ (1 : Int64) X77 rfl N77 K77 Z77 F78 F79 F80 F81 F82 F83 (Nat.ne_of_lt (Nat.lt_of_lt_of_le (A43).lt hp53)) (Or.inr (⟨c59, rfl⟩))
        by_cases c32 : v1 = (0 : Int32)
        · skip
          refine own_by (fun _ k => XS.ifNo X24.here hx rfl (hb hby at_80) rfl ((if0 _ _).trans (teq c32).2) k) ?_
          show own_Go p e below _ (T22.setTop (mkF m 83 #[.val (.long q0), .second, .val (.long q1), .second, .val (.long q2), .second, .val (.int p3), .val (.int p4), .val (.int p5), .val (.int v1), .val (.int z9), .val (.int z18), .val (.int z27), .val (.int v29), .val (.int v30), .val (.int v31), .unset, .unset, .unset, .unset, .unset, .unset, .unset, .unset, .unset, .unset, .unset, .unset, .unset, .unset, .unset, .unset, .unset, .unset] []))
          refine own_by (fun _ k => XS.lloadN X24.here hx rfl (hb hby at_83) rfl k) ?_
          show own_Go p e below _ (T22.setTop (mkF m 84 #[.val (.long q0), .second, .val (.long q1), .second, .val (.long q2), .second, .val (.int p3), .val (.int p4), .val (.int p5), .val (.int v1), .val (.int z9), .val (.int z18), .val (.int z27), .val (.int v29), .val (.int v30), .val (.int v31), .unset, .unset, .unset, .unset, .unset, .unset, .unset, .unset, .unset, .unset, .unset, .unset, .unset, .unset, .unset, .unset, .unset, .unset] [(.long q0)]))
          refine own_by (fun _ k => XS.goto X24.here hx rfl (pc0 := 84) (pc' := 109) rfl (hb hby at_84) (by decide) (by decide) k) ?_
          show own_Go p e below _ (T22.setTop (mkF m 109 #[.val (.long q0), .second, .val (.long q1), .second, .val (.long q2), .second, .val (.int p3), .val (.int p4), .val (.int p5), .val (.int v1), .val (.int z9), .val (.int z18), .val (.int z27), .val (.int v29), .val (.int v30), .val (.int v31), .unset, .unset, .unset, .unset, .unset, .unset, .unset, .unset, .unset, .unset, .unset, .unset, .unset, .unset, .unset, .unset, .unset, .unset] [(.long q0)]))
          exact J35 _ _ q0 X24 e25 N26 (Or.inl ⟨c32, rfl⟩)
        · skip
          refine own_by (fun _ k => XS.ifYes X24.here hx rfl (pc0 := 80) (pc' := 87) rfl (hb hby at_80) rfl ((if0 _ _).trans (feq c32).2) (by decide) (by decide) k) ?_
          show own_Go p e below _ (T22.setTop (mkF m 87 #[.val (.long q0), .second, .val (.long q1), .second, .val (.long q2), .second, .val (.int p3), .val (.int p4), .val (.int p5), .val (.int v1), .val (.int z9), .val (.int z18), .val (.int z27), .val (.int v29), .val (.int v30), .val (.int v31), .unset, .unset, .unset, .unset, .unset, .unset, .unset, .unset, .unset, .unset, .unset, .unset, .unset, .unset, .unset, .unset, .unset, .unset] []))
          refine own_by (fun _ k => XS.iload X24.here hx rfl (hb hby at_87) rfl k) ?_
          show own_Go p e below _ (T22.setTop (mkF m 89 #[.val (.long q0), .second, .val (.long q1), .second, .val (.long q2), .second, .val (.int p3), .val (.int p4), .val (.int p5), .val (.int v1), .val (.int z9), .val (.int z18), .val (.int z27), .val (.int v29), .val (.int v30), .val (.int v31), .unset, .unset, .unset, .unset, .unset, .unset, .unset, .unset, .unset, .unset, .unset, .unset, .unset, .unset, .unset, .unset, .unset, .unset] [(.int v1)]))
          refine own_by (fun _ k => XS.iconst X24.here hx rfl (hb hby at_89) k) ?_
          show own_Go p e below _ (T22.setTop (mkF m 90 #[.val (.long q0), .second, .val (.long q1), .second, .val (.long q2), .second, .val (.int p3), .val (.int p4), .val (.int p5), .val (.int v1), .val (.int z9), .val (.int z18), .val (.int z27), .val (.int v29), .val (.int v30), .val (.int v31), .unset, .unset, .unset, .unset, .unset, .unset, .unset, .unset, .unset, .unset, .unset, .unset, .unset, .unset, .unset, .unset, .unset, .unset] [(.int (1 : Int32)), (.int v1)]))
          by_cases c33 : v1 = (1 : Int32)
          · skip
            refine own_by (fun _ k => XS.icmpNo X24.here hx rfl (hb hby at_90) rfl (teq c33).2 k) ?_
            show own_Go p e below _ (T22.setTop (mkF m 93 #[.val (.long q0), .second, .val (.long q1), .second, .val (.long q2), .second, .val (.int p3), .val (.int p4), .val (.int p5), .val (.int v1), .val (.int z9), .val (.int z18), .val (.int z27), .val (.int v29), .val (.int v30), .val (.int v31), .unset, .unset, .unset, .unset, .unset, .unset, .unset, .unset, .unset, .unset, .unset, .unset, .unset, .unset, .unset, .unset, .unset, .unset] []))
            refine own_by (fun _ k => XS.lloadN X24.here hx rfl (hb hby at_93) rfl k) ?_
            show own_Go p e below _ (T22.setTop (mkF m 94 #[.val (.long q0), .second, .val (.long q1), .second, .val (.long q2), .second, .val (.int p3), .val (.int p4), .val (.int p5), .val (.int v1), .val (.int z9), .val (.int z18), .val (.int z27), .val (.int v29), .val (.int v30), .val (.int v31), .unset, .unset, .unset, .unset, .unset, .unset, .unset, .unset, .unset, .unset, .unset, .unset, .unset, .unset, .unset, .unset, .unset, .unset] [(.long q1)]))
            refine own_by (fun _ k => XS.goto X24.here hx rfl (pc0 := 94) (pc' := 109) rfl (hb hby at_94) (by decide) (by decide) k) ?_
            show own_Go p e below _ (T22.setTop (mkF m 109 #[.val (.long q0), .second, .val (.long q1), .second, .val (.long q2), .second, .val (.int p3), .val (.int p4), .val (.int p5), .val (.int v1), .val (.int z9), .val (.int z18), .val (.int z27), .val (.int v29), .val (.int v30), .val (.int v31), .unset, .unset, .unset, .unset, .unset, .unset, .unset, .unset, .unset, .unset, .unset, .unset, .unset, .unset, .unset, .unset, .unset, .unset] [(.long q1)]))
            exact J35 _ _ q1 X24 e25 N26 (Or.inr (Or.inl ⟨c32, c33, rfl⟩))
          · skip
            refine own_by (fun _ k => XS.icmpYes X24.here hx rfl (pc0 := 90) (pc' := 97) rfl (hb hby at_90) rfl (feq c33).2 (by decide) (by decide) k) ?_
            show own_Go p e below _ (T22.setTop (mkF m 97 #[.val (.long q0), .second, .val (.long q1), .second, .val (.long q2), .second, .val (.int p3), .val (.int p4), .val (.int p5), .val (.int v1), .val (.int z9), .val (.int z18), .val (.int z27), .val (.int v29), .val (.int v30), .val (.int v31), .unset, .unset, .unset, .unset, .unset, .unset, .unset, .unset, .unset, .unset, .unset, .unset, .unset, .unset, .unset, .unset, .unset, .unset] []))
            refine own_by (fun _ k => XS.iload X24.here hx rfl (hb hby at_97) rfl k) ?_
            show own_Go p e below _ (T22.setTop (mkF m 99 #[.val (.long q0), .second, .val (.long q1), .second, .val (.long q2), .second, .val (.int p3), .val (.int p4), .val (.int p5), .val (.int v1), .val (.int z9), .val (.int z18), .val (.int z27), .val (.int v29), .val (.int v30), .val (.int v31), .unset, .unset, .unset, .unset, .unset, .unset, .unset, .unset, .unset, .unset, .unset, .unset, .unset, .unset, .unset, .unset, .unset, .unset] [(.int v1)]))
            refine own_by (fun _ k => XS.iconst X24.here hx rfl (hb hby at_99) k) ?_
            show own_Go p e below _ (T22.setTop (mkF m 100 #[.val (.long q0), .second, .val (.long q1), .second, .val (.long q2), .second, .val (.int p3), .val (.int p4), .val (.int p5), .val (.int v1), .val (.int z9), .val (.int z18), .val (.int z27), .val (.int v29), .val (.int v30), .val (.int v31), .unset, .unset, .unset, .unset, .unset, .unset, .unset, .unset, .unset, .unset, .unset, .unset, .unset, .unset, .unset, .unset, .unset, .unset] [(.int (2 : Int32)), (.int v1)]))
            by_cases c34 : v1 = (2 : Int32)
            · skip
              refine own_by (fun _ k => XS.icmpNo X24.here hx rfl (hb hby at_100) rfl (teq c34).2 k) ?_
              show own_Go p e below _ (T22.setTop (mkF m 103 #[.val (.long q0), .second, .val (.long q1), .second, .val (.long q2), .second, .val (.int p3), .val (.int p4), .val (.int p5), .val (.int v1), .val (.int z9), .val (.int z18), .val (.int z27), .val (.int v29), .val (.int v30), .val (.int v31), .unset, .unset, .unset, .unset, .unset, .unset, .unset, .unset, .unset, .unset, .unset, .unset, .unset, .unset, .unset, .unset, .unset, .unset] []))
              refine own_by (fun _ k => XS.lload X24.here hx rfl (hb hby at_103) rfl k) ?_
              show own_Go p e below _ (T22.setTop (mkF m 105 #[.val (.long q0), .second, .val (.long q1), .second, .val (.long q2), .second, .val (.int p3), .val (.int p4), .val (.int p5), .val (.int v1), .val (.int z9), .val (.int z18), .val (.int z27), .val (.int v29), .val (.int v30), .val (.int v31), .unset, .unset, .unset, .unset, .unset, .unset, .unset, .unset, .unset, .unset, .unset, .unset, .unset, .unset, .unset, .unset, .unset, .unset] [(.long q2)]))
              refine own_by (fun _ k => XS.goto X24.here hx rfl (pc0 := 105) (pc' := 109) rfl (hb hby at_105) (by decide) (by decide) k) ?_
              show own_Go p e below _ (T22.setTop (mkF m 109 #[.val (.long q0), .second, .val (.long q1), .second, .val (.long q2), .second, .val (.int p3), .val (.int p4), .val (.int p5), .val (.int v1), .val (.int z9), .val (.int z18), .val (.int z27), .val (.int v29), .val (.int v30), .val (.int v31), .unset, .unset, .unset, .unset, .unset, .unset, .unset, .unset, .unset, .unset, .unset, .unset, .unset, .unset, .unset, .unset, .unset, .unset] [(.long q2)]))
              exact J35 _ _ q2 X24 e25 N26 (Or.inr (Or.inr (Or.inl ⟨c32, c33, c34, rfl⟩)))
            · skip
              refine own_by (fun _ k => XS.icmpYes X24.here hx rfl (pc0 := 100) (pc' := 108) rfl (hb hby at_100) rfl (feq c34).2 (by decide) (by decide) k) ?_
              show own_Go p e below _ (T22.setTop (mkF m 108 #[.val (.long q0), .second, .val (.long q1), .second, .val (.long q2), .second, .val (.int p3), .val (.int p4), .val (.int p5), .val (.int v1), .val (.int z9), .val (.int z18), .val (.int z27), .val (.int v29), .val (.int v30), .val (.int v31), .unset, .unset, .unset, .unset, .unset, .unset, .unset, .unset, .unset, .unset, .unset, .unset, .unset, .unset, .unset, .unset, .unset, .unset] []))
              refine own_by (fun _ k => XS.lconst X24.here hx rfl (hb hby at_108) k) ?_
              show own_Go p e below _ (T22.setTop (mkF m 109 #[.val (.long q0), .second, .val (.long q1), .second, .val (.long q2), .second, .val (.int p3), .val (.int p4), .val (.int p5), .val (.int v1), .val (.int z9), .val (.int z18), .val (.int z27), .val (.int v29), .val (.int v30), .val (.int v31), .unset, .unset, .unset, .unset, .unset, .unset, .unset, .unset, .unset, .unset, .unset, .unset, .unset, .unset, .unset, .unset, .unset, .unset] [(.long (0 : Int64))]))
              exact J35 _ _ (0 : Int64) X24 e25 N26 (Or.inr (Or.inr (Or.inr (⟨c32, c33, c34, rfl⟩))))
      by_cases c20 : (((p3.toUInt32 >>> ((4 : Int32) &&& 31).toUInt32).toInt32) &&& (1 : Int32)) = (0 : Int32)
      · skip
        refine own_by (fun _ k => XS.ifNo X15.here hx rfl (hb hby at_44) rfl ((if0 _ _).trans (teq c20).2) k) ?_
        show own_Go p e below _ (T13.setTop (mkF m 47 #[.val (.long q0), .second, .val (.long q1), .second, .val (.long q2), .second, .val (.int p3), .val (.int p4), .val (.int p5), .val (.int v1), .val (.int z9), .val (.int z18), .unset, .unset, .unset, .unset, .unset, .unset, .unset, .unset, .unset, .unset, .unset, .unset, .unset, .unset, .unset, .unset, .unset, .unset, .unset, .unset, .unset, .unset] []))
        refine own_by (fun _ k => XS.iconst X15.here hx rfl (hb hby at_47) k) ?_
        show own_Go p e below _ (T13.setTop (mkF m 48 #[.val (.long q0), .second, .val (.long q1), .second, .val (.long q2), .second, .val (.int p3), .val (.int p4), .val (.int p5), .val (.int v1), .val (.int z9), .val (.int z18), .unset, .unset, .unset, .unset, .unset, .unset, .unset, .unset, .unset, .unset, .unset, .unset, .unset, .unset, .unset, .unset, .unset, .unset, .unset, .unset, .unset, .unset] [(.int (1 : Int32))]))
        refine own_by (fun _ k => XS.goto X15.here hx rfl (pc0 := 48) (pc' := 52) rfl (hb hby at_48) (by decide) (by decide) k) ?_
        show own_Go p e below _ (T13.setTop (mkF m 52 #[.val (.long q0), .second, .val (.long q1), .second, .val (.long q2), .second, .val (.int p3), .val (.int p4), .val (.int p5), .val (.int v1), .val (.int z9), .val (.int z18), .unset, .unset, .unset, .unset, .unset, .unset, .unset, .unset, .unset, .unset, .unset, .unset, .unset, .unset, .unset, .unset, .unset, .unset, .unset, .unset, .unset, .unset] [(.int (1 : Int32))]))
        exact J21 _ _ (1 : Int32) X15 e16 N17 (Or.inl ⟨c20, rfl⟩)
      · skip
        refine own_by (fun _ k => XS.ifYes X15.here hx rfl (pc0 := 44) (pc' := 51) rfl (hb hby at_44) rfl ((if0 _ _).trans (feq c20).2) (by decide) (by decide) k) ?_
        show own_Go p e below _ (T13.setTop (mkF m 51 #[.val (.long q0), .second, .val (.long q1), .second, .val (.long q2), .second, .val (.int p3), .val (.int p4), .val (.int p5), .val (.int v1), .val (.int z9), .val (.int z18), .unset, .unset, .unset, .unset, .unset, .unset, .unset, .unset, .unset, .unset, .unset, .unset, .unset, .unset, .unset, .unset, .unset, .unset, .unset, .unset, .unset, .unset] []))
        refine own_by (fun _ k => XS.iconst X15.here hx rfl (hb hby at_51) k) ?_
        show own_Go p e below _ (T13.setTop (mkF m 52 #[.val (.long q0), .second, .val (.long q1), .second, .val (.long q2), .second, .val (.int p3), .val (.int p4), .val (.int p5), .val (.int v1), .val (.int z9), .val (.int z18), .unset, .unset, .unset, .unset, .unset, .unset, .unset, .unset, .unset, .unset, .unset, .unset, .unset, .unset, .unset, .unset, .unset, .unset, .unset, .unset, .unset, .unset] [(.int (0 : Int32))]))
        exact J21 _ _ (0 : Int32) X15 e16 N17 (Or.inr (⟨c20, rfl⟩))
    by_cases c11 : (((p3.toUInt32 >>> ((3 : Int32) &&& 31).toUInt32).toInt32) &&& (1 : Int32)) = (0 : Int32)
    · skip
      refine own_by (fun _ k => XS.ifYes X6.here hx rfl (pc0 := 28) (pc' := 35) rfl (hb hby at_28) rfl ((if0 _ _).trans (teq c11).1) (by decide) (by decide) k) ?_
      show own_Go p e below _ (T4.setTop (mkF m 35 #[.val (.long q0), .second, .val (.long q1), .second, .val (.long q2), .second, .val (.int p3), .val (.int p4), .val (.int p5), .val (.int v1), .val (.int z9), .unset, .unset, .unset, .unset, .unset, .unset, .unset, .unset, .unset, .unset, .unset, .unset, .unset, .unset, .unset, .unset, .unset, .unset, .unset, .unset, .unset, .unset, .unset] []))
      refine own_by (fun _ k => XS.iconst X6.here hx rfl (hb hby at_35) k) ?_
      show own_Go p e below _ (T4.setTop (mkF m 36 #[.val (.long q0), .second, .val (.long q1), .second, .val (.long q2), .second, .val (.int p3), .val (.int p4), .val (.int p5), .val (.int v1), .val (.int z9), .unset, .unset, .unset, .unset, .unset, .unset, .unset, .unset, .unset, .unset, .unset, .unset, .unset, .unset, .unset, .unset, .unset, .unset, .unset, .unset, .unset, .unset, .unset] [(.int (0 : Int32))]))
      exact J12 _ _ (0 : Int32) X6 e7 N8 (Or.inl ⟨c11, rfl⟩)
    · skip
      refine own_by (fun _ k => XS.ifNo X6.here hx rfl (hb hby at_28) rfl ((if0 _ _).trans (feq c11).1) k) ?_
      show own_Go p e below _ (T4.setTop (mkF m 31 #[.val (.long q0), .second, .val (.long q1), .second, .val (.long q2), .second, .val (.int p3), .val (.int p4), .val (.int p5), .val (.int v1), .val (.int z9), .unset, .unset, .unset, .unset, .unset, .unset, .unset, .unset, .unset, .unset, .unset, .unset, .unset, .unset, .unset, .unset, .unset, .unset, .unset, .unset, .unset, .unset, .unset] []))
      refine own_by (fun _ k => XS.iconst X6.here hx rfl (hb hby at_31) k) ?_
      show own_Go p e below _ (T4.setTop (mkF m 32 #[.val (.long q0), .second, .val (.long q1), .second, .val (.long q2), .second, .val (.int p3), .val (.int p4), .val (.int p5), .val (.int v1), .val (.int z9), .unset, .unset, .unset, .unset, .unset, .unset, .unset, .unset, .unset, .unset, .unset, .unset, .unset, .unset, .unset, .unset, .unset, .unset, .unset, .unset, .unset, .unset, .unset] [(.int (1 : Int32))]))
      refine own_by (fun _ k => XS.goto X6.here hx rfl (pc0 := 32) (pc' := 36) rfl (hb hby at_32) (by decide) (by decide) k) ?_
      show own_Go p e below _ (T4.setTop (mkF m 36 #[.val (.long q0), .second, .val (.long q1), .second, .val (.long q2), .second, .val (.int p3), .val (.int p4), .val (.int p5), .val (.int v1), .val (.int z9), .unset, .unset, .unset, .unset, .unset, .unset, .unset, .unset, .unset, .unset, .unset, .unset, .unset, .unset, .unset, .unset, .unset, .unset, .unset, .unset, .unset, .unset, .unset] [(.int (1 : Int32))]))
      exact J12 _ _ (1 : Int32) X6 e7 N8 (Or.inr (⟨c11, rfl⟩))
  by_cases c2 : (((p3.toUInt32 >>> ((2 : Int32) &&& 31).toUInt32).toInt32) &&& (1 : Int32)) = (0 : Int32)
  · skip
    refine own_by (fun _ k => XS.ifYes X0.here hx rfl (pc0 := 12) (pc' := 19) rfl (hb hby at_12) rfl ((if0 _ _).trans (teq c2).1) (by decide) (by decide) k) ?_
    show own_Go p e below _ (s₁.setTop (mkF m 19 #[.val (.long q0), .second, .val (.long q1), .second, .val (.long q2), .second, .val (.int p3), .val (.int p4), .val (.int p5), .val (.int v1), .unset, .unset, .unset, .unset, .unset, .unset, .unset, .unset, .unset, .unset, .unset, .unset, .unset, .unset, .unset, .unset, .unset, .unset, .unset, .unset, .unset, .unset, .unset, .unset] []))
    refine own_by (fun _ k => XS.iconst X0.here hx rfl (hb hby at_19) k) ?_
    show own_Go p e below _ (s₁.setTop (mkF m 20 #[.val (.long q0), .second, .val (.long q1), .second, .val (.long q2), .second, .val (.int p3), .val (.int p4), .val (.int p5), .val (.int v1), .unset, .unset, .unset, .unset, .unset, .unset, .unset, .unset, .unset, .unset, .unset, .unset, .unset, .unset, .unset, .unset, .unset, .unset, .unset, .unset, .unset, .unset, .unset, .unset] [(.int (0 : Int32))]))
    exact J3 _ _ (0 : Int32) X0 e0 N0 (Or.inl ⟨c2, rfl⟩)
  · skip
    refine own_by (fun _ k => XS.ifNo X0.here hx rfl (hb hby at_12) rfl ((if0 _ _).trans (feq c2).1) k) ?_
    show own_Go p e below _ (s₁.setTop (mkF m 15 #[.val (.long q0), .second, .val (.long q1), .second, .val (.long q2), .second, .val (.int p3), .val (.int p4), .val (.int p5), .val (.int v1), .unset, .unset, .unset, .unset, .unset, .unset, .unset, .unset, .unset, .unset, .unset, .unset, .unset, .unset, .unset, .unset, .unset, .unset, .unset, .unset, .unset, .unset, .unset, .unset] []))
    refine own_by (fun _ k => XS.iconst X0.here hx rfl (hb hby at_15) k) ?_
    show own_Go p e below _ (s₁.setTop (mkF m 16 #[.val (.long q0), .second, .val (.long q1), .second, .val (.long q2), .second, .val (.int p3), .val (.int p4), .val (.int p5), .val (.int v1), .unset, .unset, .unset, .unset, .unset, .unset, .unset, .unset, .unset, .unset, .unset, .unset, .unset, .unset, .unset, .unset, .unset, .unset, .unset, .unset, .unset, .unset, .unset, .unset] [(.int (1 : Int32))]))
    refine own_by (fun _ k => XS.goto X0.here hx rfl (pc0 := 16) (pc' := 20) rfl (hb hby at_16) (by decide) (by decide) k) ?_
    show own_Go p e below _ (s₁.setTop (mkF m 20 #[.val (.long q0), .second, .val (.long q1), .second, .val (.long q2), .second, .val (.int p3), .val (.int p4), .val (.int p5), .val (.int v1), .unset, .unset, .unset, .unset, .unset, .unset, .unset, .unset, .unset, .unset, .unset, .unset, .unset, .unset, .unset, .unset, .unset, .unset, .unset, .unset, .unset, .unset, .unset, .unset] [(.int (1 : Int32))]))
    exact J3 _ _ (1 : Int32) X0 e0 N0 (Or.inr (⟨c2, rfl⟩))
set_option maxRecDepth 65536 in
set_option maxHeartbeats 40000000 in
theorem comes_1 {Post : Tables → Env → Array Value → State → Outcome → State → Prop} (hpost : ∀ tb e args s v u, (limb_1_1.after args s (.returned v) u = true ∧ limb_1_2.after args s (.returned v) u = true ∧ True) → FrameEnd s (.returned v) u (Jvm.fieldLocs frame_1_writes args s ++ Jvm.arrayLocs frame_1_arrays args s ++ Jvm.staticLocs frame_1_statics s) 16 128 → Post tb e args s (.returned v) u) :
    ArmFor flags0 classFile x code maxLocals ret World_1 tables_1 room_1 Calls_1 rest_1 Pre_1 Post := by
  intro l hfl _ _ p e ha hc hk s m args below hf hA hF happ hP
  obtain ⟨hcalls, hrest, hpre⟩ := hP
  obtain ⟨-, -, -, hnamed, -, -, -, hat⟩ := (Spec.applies_iff hf).mp happ
  obtain ⟨hg, hn⟩ := and_e (Cond.before_iff.mp (show (Jvm.Cond.and given_1 narrow_1).before args s = true from hpre))
  obtain ⟨g0, r0⟩ := and_e hg
  obtain ⟨ga0, r1⟩ := and_e r0
  obtain ⟨ga1, r2⟩ := and_e r1
  obtain ⟨ga2, r3⟩ := and_e r2
  obtain ⟨ga3, r4⟩ := and_e r3
  obtain ⟨ga4, r5⟩ := and_e r4
  obtain ⟨w0, w1, w2, w3, w4, w5, rfl⟩ : ∃ w0 w1 w2 w3 w4 w5 : Value, args = #[w0, w1, w2, w3, w4, w5] := by
    have hs : args.size = 6 := by simpa [Cond.value, given_1] using g0
    obtain ⟨L⟩ := args
    match L, hs with
    | [w0, w1, w2, w3, w4, w5], _ => exact ⟨w0, w1, w2, w3, w4, w5, rfl⟩
  have hw := fun d (hd : d ∈ tables_1) => atoms_spec (ws := Jvm.Cond.code x code maxLocals ret :: tables_1) hat d (List.mem_cons_of_mem _ hd)
  have hfit : Fit s := fun {y c} hc i hi => by
    obtain ⟨ha, rfl⟩ := Array.getElem?_eq_some_iff.mp hc
    have q := List.all_eq_true.mp ((Array.all_eq_true_iff_forall_mem.mp hF) _ (Array.getElem_mem ha)) i (List.mem_range.mpr hi)
    simpa [Array.getElem?_eq_getElem hi] using q
  obtain ⟨i0, ei0⟩ := isL_v ga0
  obtain rfl : w0 = (.long i0) := Option.some.inj ei0
  obtain ⟨i1, ei1⟩ := isL_v ga1
  obtain rfl : w1 = (.long i1) := Option.some.inj ei1
  obtain ⟨i2, ei2⟩ := isL_v ga2
  obtain rfl : w2 = (.long i2) := Option.some.inj ei2
  obtain ⟨i3, ei3⟩ := is_v ga3
  obtain rfl : w3 = (.int i3) := Option.some.inj ei3
  obtain ⟨i4, ei4⟩ := is_v ga4
  obtain rfl : w4 = (.int i4) := Option.some.inj ei4
  obtain ⟨i5, ei5⟩ := is_v r5
  obtain rfl : w5 = (.int i5) := Option.some.inj ei5
  obtain ⟨n, o, h1, h2, h3, _, L, rfl, ⟨rfl, N⟩, hq⟩ := rm0 l s _ hw tables_1 i0 i1 i2 i3 i4 i5 s.heap s.heap.size (Nat.le_refl _)  p e ha hc hk s m _ below hf ((Spec.applies_iff_loose hf).mp happ).1 ⟨rfl, State.Warmed39.refl s, rfl⟩ trivial
  refine ⟨n, _, h1, h2, h3, hpost _ _ _ _ _ _ ⟨Cond.after_iff.mpr rfl, Cond.after_iff.mpr (eq_i res_at (Term.int_eval (1)) rfl), trivial⟩ ⟨hq.1, hq.2.1, (hq.2.2.sift fun y hy => Or.inr (N y hy)).mono (by decide) (by decide)⟩⟩
theorem main_1_1 : Claimed_1_1 := comes_1 fun _ _ _ _ _ _ h hF => ⟨h.1, hF⟩
theorem main_1_2 : Claimed_1_2 := comes_1 fun _ _ _ _ _ _ h hF => ⟨h.2.1, hF⟩
end Jvm.Pilot.@@N@@
namespace Jvm.Pilot.@@N@@
open Jvm Jvm.ClassFile Sem Op Lib Jvm.Free Jvm.Stand Jvm.Pilot.@@N@@.Jvm.D
/-! MADE BY PROGRAM (witnessworld.py) out of the Statement's table words and the real class files: 17 classes; the members and pool entries that the words name. The judged class is class 1, her method 1. -/
namespace start1
open Jvm.ClassFile
def u (s : String) : CpInfo := .utf8 (stringToUtf16 s)
/-- a pool by its gaps: so many unusable entries, then the entry; so many at the end -/
def gap : Nat → List CpInfo → List CpInfo
  | 0, r => r
  | n + 1, r => .unusable :: gap n r
def poolList (es : List (Nat × CpInfo)) (last : Nat) : List CpInfo := es.foldr (fun e r => gap e.1 (e.2 :: r)) (gap last [])
def pool (es : List (Nat × CpInfo)) (last : Nat) : Array CpInfo := ⟨poolList es last⟩
def fileOf (pool : Array CpInfo) (this : Nat) (attrs : Array Attribute := #[]) (ms : Array MethodInfo := #[]) (fl : Nat := 33) (sup : Nat := 0) (ifs : Array Nat := #[]) (fds : Array FieldInfo := #[]) : ClassFile where
  minorVersion := 0
  majorVersion := 65
  constantPool := pool
  accessFlags := fl
  thisClass := this
  superClass := sup
  interfaces := ifs
  fields := fds
  methods := ms
  attributes := attrs
def plain (name : String) (sup : Option ClassId) : Class where
  name := name
  kind := .ordinary
  loader := none
  accessFlags := 33
  super := sup
  interfaces := #[]
  cf := none
  fields := #[]
  methods := #[]
  instanceTypes := #[]
  staticTypes := #[]
  resolved := #[]
  callSites := []
  init := .initialized
  statics := none
  mirror := none

def pool0 : Array CpInfo := pool [(5, u "<init>"), (0, u "()V"), (1, .class_ 10), (1, u "java/lang/Object")] 113

def k0c0 : Code := { maxStack := 0, maxLocals := 1, code := object_method_1_code, exceptionTable := #[], attributes := #[] }
def k0m0 : Method := { name := "<init>", desc := "()V", sig := { parameters := [], returnType := none }, accessFlags := 1, code := some k0c0 }
/-- java/lang/Object -/
def k0 : Class := { plain "java/lang/Object" none with
  accessFlags := 33
  interfaces := #[]
  cf := some (fileOf pool0 8 #[] #[{ accessFlags := 1, nameIndex := 5, descriptorIndex := 6, attributes := #[] }] 33 0 #[] #[])
  fields := #[]
  methods := #[k0m0]
  instanceTypes := #[]
  staticTypes := #[]
  resolved := Array.replicate 124 none
  statics := none }

def pool1 : Array CpInfo := pool [(2, .class_ 4), (1, u "java/lang/Object"), (0, u "<init>"), (0, u "()V"), (0, .integer 2147483647), (0, .class_ 9), (0, u "com/example/plyward/plyward/search/TranspositionTable"), (0, .methodref 8 11), (0, .nameAndType 5 12), (0, u "(I)V"), (0, .double 13830554455654793216), (1, .methodref 8 16), (0, .nameAndType 17 18), (0, u "store"), (0, u "(JIDDZ)V"), (0, .methodref 8 20), (0, .nameAndType 21 6), (0, u "keepSettled"), (0, .methodref 8 23), (0, .nameAndType 24 6), (0, u "clear"), (0, .double 4611686018427387904), (1, .methodref 8 28), (0, .nameAndType 29 30), (0, u "earlier"), (0, u "(J)I"), (0, .long 2), (1, .long 3), (1, .class_ 36), (0, u "com/example/plyward/plyward/search/TranspositionTableEarlierPinLaw"), (2, u "law"), (0, u "(JJJIII)Z")] 3

def k1m0 : Method := { name := "<init>", desc := "()V", sig := { parameters := [], returnType := none }, accessFlags := 1, code := none }
def k1c1 : Code := { maxStack := 9, maxLocals := 34, code := code, exceptionTable := #[], attributes := #[] }
def k1m1 : Method := { name := "law", desc := "(JJJIII)Z", sig := { parameters := [.long, .long, .long, .int, .int, .int], returnType := some .boolean }, accessFlags := 9, code := some k1c1 }
/-- com/example/plyward/plyward/search/TranspositionTableEarlierPinLaw -/
def k1 : Class := { plain "com/example/plyward/plyward/search/TranspositionTableEarlierPinLaw" (some 0) with
  accessFlags := 49
  interfaces := #[]
  cf := some (fileOf pool1 35 #[] #[{ accessFlags := 1, nameIndex := 5, descriptorIndex := 6, attributes := #[] }, { accessFlags := 9, nameIndex := 39, descriptorIndex := 40, attributes := #[] }] 49 2 #[] #[])
  fields := #[]
  methods := #[k1m0, k1m1]
  instanceTypes := #[]
  staticTypes := #[]
  resolved := Array.replicate 44 none
  statics := none }

def pool2 : Array CpInfo := pool [(1, .class_ 2), (0, u "com/example/plyward/plyward/search/TranspositionTable"), (2, .methodref 6 7), (0, .class_ 8), (0, .nameAndType 9 10), (0, u "java/lang/Object"), (0, u "<init>"), (0, u "()V"), (0, .fieldref 1 12), (0, .nameAndType 13 14), (0, u "generation"), (0, u "J"), (0, .fieldref 1 16), (0, .nameAndType 17 14), (0, u "settledSince"), (9, .fieldref 1 28), (0, .nameAndType 29 30), (0, u "entries"), (0, u "[J"), (2, .fieldref 1 34), (0, .nameAndType 35 36), (0, u "shift"), (0, u "I"), (0, .methodref 1 38), (0, .nameAndType 39 10), (0, u "nextGeneration"), (0, .long 2147483647), (7, .methodref 1 49), (0, .nameAndType 50 51), (0, u "bucket"), (0, u "(J)I"), (0, .methodref 1 53), (0, .nameAndType 54 55), (0, u "holdsAt"), (0, u "(JI)Z"), (1, .class_ 59), (1, u "java/lang/Double"), (2, .long 2147483648), (1, .methodref 1 65), (0, .nameAndType 66 67), (0, u "find"), (0, u "(JI)I"), (0, .methodref 69 70), (0, .class_ 71), (0, .nameAndType 72 73), (0, u "java/lang/System"), (0, u "arraycopy"), (0, u "(Ljava/lang/Object;ILjava/lang/Object;II)V"), (0, .methodref 57 75), (0, .nameAndType 76 77), (0, u "doubleToRawLongBits"), (0, u "(D)J"), (0, .long 11400714819323198485), (1, u "LONGS_PER_ENTRY"), (2, u "ENTRIES_PER_BUCKET"), (1, u "BUCKET_LONGS"), (1, u "GENERATION_BITS"), (1, u "GENERATION_MASK"), (0, u "SETTLED"), (0, u "DEPTH_SHIFT"), (1, u "MAX_INDEX_BITS"), (1, u "SPREAD"), (0, u "(I)V"), (3, u "clear"), (0, u "keepSettled"), (0, u "earlier"), (5, u "store"), (0, u "(JIDDZ)V")] 17

def k2c0 : Code := { maxStack := 3, maxLocals := 2, code := prog_71_method_1_code, exceptionTable := #[], attributes := #[] }
def k2m0 : Method := { name := "<init>", desc := "(I)V", sig := { parameters := [.int], returnType := none }, accessFlags := 0, code := some k2c0 }
def k2c1 : Code := { maxStack := 3, maxLocals := 1, code := prog_71_method_2_code, exceptionTable := #[], attributes := #[] }
def k2m1 : Method := { name := "clear", desc := "()V", sig := { parameters := [], returnType := none }, accessFlags := 0, code := some k2c1 }
def k2c2 : Code := { maxStack := 1, maxLocals := 1, code := prog_71_method_3_code, exceptionTable := #[], attributes := #[] }
def k2m2 : Method := { name := "keepSettled", desc := "()V", sig := { parameters := [], returnType := none }, accessFlags := 0, code := some k2c2 }
def k2c3 : Code := { maxStack := 5, maxLocals := 1, code := prog_71_method_4_code, exceptionTable := #[], attributes := #[] }
def k2m3 : Method := { name := "nextGeneration", desc := "()V", sig := { parameters := [], returnType := none }, accessFlags := 2, code := some k2c3 }
def k2c4 : Code := { maxStack := 4, maxLocals := 7, code := prog_71_method_5_code, exceptionTable := #[], attributes := #[] }
def k2m4 : Method := { name := "find", desc := "(JI)I", sig := { parameters := [.long, .int], returnType := some .int }, accessFlags := 0, code := some k2c4 }
def k2c5 : Code := { maxStack := 4, maxLocals := 8, code := prog_71_method_6_code, exceptionTable := #[], attributes := #[] }
def k2m5 : Method := { name := "earlier", desc := "(J)I", sig := { parameters := [.long], returnType := some .int }, accessFlags := 0, code := some k2c5 }
def k2c6 : Code := { maxStack := 6, maxLocals := 14, code := prog_71_method_10_code, exceptionTable := #[], attributes := #[] }
def k2m6 : Method := { name := "store", desc := "(JIDDZ)V", sig := { parameters := [.long, .int, .double, .double, .boolean], returnType := none }, accessFlags := 0, code := some k2c6 }
def k2c7 : Code := { maxStack := 4, maxLocals := 8, code := prog_71_method_11_code, exceptionTable := #[], attributes := #[] }
def k2m7 : Method := { name := "holdsAt", desc := "(JI)Z", sig := { parameters := [.long, .int], returnType := some .boolean }, accessFlags := 2, code := some k2c7 }
def k2c8 : Code := { maxStack := 4, maxLocals := 4, code := prog_71_method_12_code, exceptionTable := #[], attributes := #[] }
def k2m8 : Method := { name := "bucket", desc := "(J)I", sig := { parameters := [.long], returnType := some .int }, accessFlags := 2, code := some k2c8 }
/-- com/example/plyward/plyward/search/TranspositionTable -/
def k2 : Class := { plain "com/example/plyward/plyward/search/TranspositionTable" (some 0) with
  accessFlags := 48
  interfaces := #[]
  cf := some (fileOf pool2 1 #[] #[{ accessFlags := 0, nameIndex := 9, descriptorIndex := 96, attributes := #[] }, { accessFlags := 0, nameIndex := 100, descriptorIndex := 10, attributes := #[] }, { accessFlags := 0, nameIndex := 101, descriptorIndex := 10, attributes := #[] }, { accessFlags := 2, nameIndex := 39, descriptorIndex := 10, attributes := #[] }, { accessFlags := 0, nameIndex := 66, descriptorIndex := 67, attributes := #[] }, { accessFlags := 0, nameIndex := 102, descriptorIndex := 51, attributes := #[] }, { accessFlags := 0, nameIndex := 108, descriptorIndex := 109, attributes := #[] }, { accessFlags := 2, nameIndex := 54, descriptorIndex := 55, attributes := #[] }, { accessFlags := 2, nameIndex := 50, descriptorIndex := 51, attributes := #[] }] 48 6 #[] #[{ accessFlags := 26, nameIndex := 80, descriptorIndex := 36, attributes := #[] }, { accessFlags := 26, nameIndex := 83, descriptorIndex := 36, attributes := #[] }, { accessFlags := 26, nameIndex := 85, descriptorIndex := 36, attributes := #[] }, { accessFlags := 26, nameIndex := 87, descriptorIndex := 36, attributes := #[] }, { accessFlags := 26, nameIndex := 89, descriptorIndex := 14, attributes := #[] }, { accessFlags := 26, nameIndex := 90, descriptorIndex := 14, attributes := #[] }, { accessFlags := 26, nameIndex := 91, descriptorIndex := 36, attributes := #[] }, { accessFlags := 26, nameIndex := 93, descriptorIndex := 36, attributes := #[] }, { accessFlags := 26, nameIndex := 95, descriptorIndex := 14, attributes := #[] }, { accessFlags := 18, nameIndex := 29, descriptorIndex := 30, attributes := #[] }, { accessFlags := 18, nameIndex := 35, descriptorIndex := 36, attributes := #[] }, { accessFlags := 2, nameIndex := 13, descriptorIndex := 14, attributes := #[] }, { accessFlags := 2, nameIndex := 17, descriptorIndex := 14, attributes := #[] }])
  fields := #[{ name := "LONGS_PER_ENTRY", type := .int, accessFlags := 26, slot := 0, constantValue := 0 }, { name := "ENTRIES_PER_BUCKET", type := .int, accessFlags := 26, slot := 1, constantValue := 0 }, { name := "BUCKET_LONGS", type := .int, accessFlags := 26, slot := 2, constantValue := 0 }, { name := "GENERATION_BITS", type := .int, accessFlags := 26, slot := 3, constantValue := 0 }, { name := "GENERATION_MASK", type := .long, accessFlags := 26, slot := 4, constantValue := 0 }, { name := "SETTLED", type := .long, accessFlags := 26, slot := 5, constantValue := 0 }, { name := "DEPTH_SHIFT", type := .int, accessFlags := 26, slot := 6, constantValue := 0 }, { name := "MAX_INDEX_BITS", type := .int, accessFlags := 26, slot := 7, constantValue := 0 }, { name := "SPREAD", type := .long, accessFlags := 26, slot := 8, constantValue := 0 }, { name := "entries", type := (.array .long), accessFlags := 18, slot := 0, constantValue := 0 }, { name := "shift", type := .int, accessFlags := 18, slot := 1, constantValue := 0 }, { name := "generation", type := .long, accessFlags := 2, slot := 2, constantValue := 0 }, { name := "settledSince", type := .long, accessFlags := 2, slot := 3, constantValue := 0 }]
  methods := #[k2m0, k2m1, k2m2, k2m3, k2m4, k2m5, k2m6, k2m7, k2m8]
  instanceTypes := #[(.array .long), .int, .long, .long]
  staticTypes := #[.int, .int, .int, .int, .long, .long, .int, .int, .long]
  resolved := Array.replicate 127 none
  statics := none }

def pool3 : Array CpInfo := pool [(2, .class_ 4), (1, u "java/lang/Object"), (0, u "<init>"), (0, u "()V"), (1, .class_ 10), (1, u "java/lang/System"), (0, u "allowSecurityManager"), (0, u "I"), (16, u "cons"), (0, u "Ljava/io/Console;"), (77, .class_ 110), (1, u "java/lang/System$CallersHolder"), (43, u "initialErrStream"), (0, u "Ljava/io/PrintStream;"), (19, u "security"), (0, u "Ljava/lang/SecurityManager;"), (31, .class_ 209), (0, u "java/lang/System$1"), (7, u "props"), (0, u "Ljava/util/Properties;"), (2, u "lineSeparator"), (0, u "Ljava/lang/String;"), (96, .class_ 321), (1, u "java/lang/System$LoggerFinder"), (5, .class_ 328), (0, u "java/lang/System$Logger"), (67, u "err"), (2, u "out"), (91, u "notSupportedJnuEncoding"), (15, u "in"), (17, u "initialIn"), (0, u "Ljava/io/InputStream;"), (35, u "bootLayer"), (0, u "Ljava/lang/ModuleLayer;"), (99, .class_ 664), (0, u "java/lang/System$2"), (9, u "NEVER"), (2, u "MAYBE"), (49, u "arraycopy"), (0, u "(Ljava/lang/Object;ILjava/lang/Object;II)V"), (72, .class_ 802), (0, u "java/lang/System$Logger$Level")] 31

def k3m0 : Method := { name := "<init>", desc := "()V", sig := { parameters := [], returnType := none }, accessFlags := 2, code := none }
def k3m1 : Method := { name := "arraycopy", desc := "(Ljava/lang/Object;ILjava/lang/Object;II)V", sig := { parameters := [(.object "java/lang/Object"), .int, (.object "java/lang/Object"), .int, .int], returnType := none }, accessFlags := 265, code := none }
/-- java/lang/System -/
def k3 : Class := { plain "java/lang/System" (some 0) with
  accessFlags := 49
  interfaces := #[]
  cf := some (fileOf pool3 8 #[.nestMembers #[319, 327, 801, 108, 663, 208]] #[{ accessFlags := 2, nameIndex := 5, descriptorIndex := 6, attributes := #[] }, { accessFlags := 265, nameIndex := 727, descriptorIndex := 728, attributes := #[] }] 49 2 #[] #[{ accessFlags := 25, nameIndex := 507, descriptorIndex := 526, attributes := #[] }, { accessFlags := 25, nameIndex := 399, descriptorIndex := 155, attributes := #[] }, { accessFlags := 25, nameIndex := 396, descriptorIndex := 155, attributes := #[] }, { accessFlags := 10, nameIndex := 525, descriptorIndex := 526, attributes := #[] }, { accessFlags := 26, nameIndex := 674, descriptorIndex := 12, attributes := #[] }, { accessFlags := 26, nameIndex := 677, descriptorIndex := 12, attributes := #[] }, { accessFlags := 10, nameIndex := 11, descriptorIndex := 12, attributes := #[] }, { accessFlags := 74, nameIndex := 175, descriptorIndex := 176, attributes := #[] }, { accessFlags := 10, nameIndex := 491, descriptorIndex := 222, attributes := #[] }, { accessFlags := 74, nameIndex := 29, descriptorIndex := 30, attributes := #[] }, { accessFlags := 74, nameIndex := 154, descriptorIndex := 155, attributes := #[] }, { accessFlags := 10, nameIndex := 217, descriptorIndex := 218, attributes := #[] }, { accessFlags := 10, nameIndex := 221, descriptorIndex := 222, attributes := #[] }, { accessFlags := 8, nameIndex := 562, descriptorIndex := 563, attributes := #[] }])
  fields := #[{ name := "in", type := (.object "java/io/InputStream"), accessFlags := 25, slot := 0, constantValue := 0 }, { name := "out", type := (.object "java/io/PrintStream"), accessFlags := 25, slot := 1, constantValue := 0 }, { name := "err", type := (.object "java/io/PrintStream"), accessFlags := 25, slot := 2, constantValue := 0 }, { name := "initialIn", type := (.object "java/io/InputStream"), accessFlags := 10, slot := 3, constantValue := 0 }, { name := "NEVER", type := .int, accessFlags := 26, slot := 4, constantValue := 0 }, { name := "MAYBE", type := .int, accessFlags := 26, slot := 5, constantValue := 0 }, { name := "allowSecurityManager", type := .int, accessFlags := 10, slot := 6, constantValue := 0 }, { name := "security", type := (.object "java/lang/SecurityManager"), accessFlags := 74, slot := 7, constantValue := 0 }, { name := "notSupportedJnuEncoding", type := (.object "java/lang/String"), accessFlags := 10, slot := 8, constantValue := 0 }, { name := "cons", type := (.object "java/io/Console"), accessFlags := 74, slot := 9, constantValue := 0 }, { name := "initialErrStream", type := (.object "java/io/PrintStream"), accessFlags := 74, slot := 10, constantValue := 0 }, { name := "props", type := (.object "java/util/Properties"), accessFlags := 10, slot := 11, constantValue := 0 }, { name := "lineSeparator", type := (.object "java/lang/String"), accessFlags := 10, slot := 12, constantValue := 0 }, { name := "bootLayer", type := (.object "java/lang/ModuleLayer"), accessFlags := 8, slot := 13, constantValue := 0 }]
  methods := #[k3m0, k3m1]
  instanceTypes := #[]
  staticTypes := #[(.object "java/io/InputStream"), (.object "java/io/PrintStream"), (.object "java/io/PrintStream"), (.object "java/io/InputStream"), .int, .int, .int, (.object "java/lang/SecurityManager"), (.object "java/lang/String"), (.object "java/io/Console"), (.object "java/io/PrintStream"), (.object "java/util/Properties"), (.object "java/lang/String"), (.object "java/lang/ModuleLayer")]
  resolved := Array.replicate 834 none
  statics := none }

def pool4 : Array CpInfo := pool [(1, .class_ 2), (0, u "java/io/Serializable"), (0, .class_ 4), (0, u "java/lang/Object")] 2

/-- java/io/Serializable -/
def k4 : Class := { plain "java/io/Serializable" (some 0) with
  accessFlags := 1537
  interfaces := #[]
  cf := some (fileOf pool4 1 #[] #[] 1537 3 #[] #[])
  fields := #[]
  methods := #[]
  instanceTypes := #[]
  staticTypes := #[]
  resolved := Array.replicate 7 none
  statics := none }

def pool5 : Array CpInfo := pool [(2, .class_ 4), (1, u "java/lang/Object"), (0, u "<init>"), (0, u "()V"), (1, .class_ 10), (1, u "java/lang/Number"), (2, .class_ 14), (0, u "java/io/Serializable"), (0, u "serialVersionUID"), (0, u "J")] 20

def k5m0 : Method := { name := "<init>", desc := "()V", sig := { parameters := [], returnType := none }, accessFlags := 1, code := none }
/-- java/lang/Number -/
def k5 : Class := { plain "java/lang/Number" (some 0) with
  accessFlags := 1057
  interfaces := #[4]
  cf := some (fileOf pool5 8 #[] #[{ accessFlags := 1, nameIndex := 5, descriptorIndex := 6, attributes := #[] }] 1057 2 #[13] #[{ accessFlags := 26, nameIndex := 15, descriptorIndex := 16, attributes := #[] }])
  fields := #[{ name := "serialVersionUID", type := .long, accessFlags := 26, slot := 0, constantValue := 0 }]
  methods := #[k5m0]
  instanceTypes := #[]
  staticTypes := #[.long]
  resolved := Array.replicate 37 none
  statics := none }

def pool6 : Array CpInfo := pool [(1, .class_ 2), (0, u "java/lang/Comparable"), (0, .class_ 4), (0, u "java/lang/Object")] 7

/-- java/lang/Comparable -/
def k6 : Class := { plain "java/lang/Comparable" (some 0) with
  accessFlags := 1537
  interfaces := #[]
  cf := some (fileOf pool6 1 #[] #[] 1537 3 #[] #[])
  fields := #[]
  methods := #[]
  instanceTypes := #[]
  staticTypes := #[]
  resolved := Array.replicate 12 none
  statics := none }

def pool7 : Array CpInfo := pool [(1, .class_ 2), (0, u "java/lang/constant/Constable"), (0, .class_ 4), (0, u "java/lang/Object")] 6

/-- java/lang/constant/Constable -/
def k7 : Class := { plain "java/lang/constant/Constable" (some 0) with
  accessFlags := 1537
  interfaces := #[]
  cf := some (fileOf pool7 1 #[] #[] 1537 3 #[] #[])
  fields := #[]
  methods := #[]
  instanceTypes := #[]
  staticTypes := #[]
  resolved := Array.replicate 11 none
  statics := none }

def pool8 : Array CpInfo := pool [(1, .class_ 2), (0, u "java/lang/constant/ConstantDesc"), (0, .class_ 4), (0, u "java/lang/Object")] 32

/-- java/lang/constant/ConstantDesc -/
def k8 : Class := { plain "java/lang/constant/ConstantDesc" (some 0) with
  accessFlags := 1537
  interfaces := #[]
  cf := some (fileOf pool8 1 #[] #[] 1537 3 #[] #[])
  fields := #[]
  methods := #[]
  instanceTypes := #[]
  staticTypes := #[]
  resolved := Array.replicate 37 none
  statics := none }

def pool9 : Array CpInfo := pool [(1, .class_ 2), (0, u "java/lang/Double"), (46, u "(D)J"), (64, .class_ 116), (1, u "java/lang/Number"), (3, u "value"), (0, u "D"), (14, u "doubleToRawLongBits"), (36, u "TYPE"), (0, u "Ljava/lang/Class;"), (0, .class_ 176), (0, u "java/lang/Comparable"), (0, .class_ 178), (0, u "java/lang/constant/Constable"), (0, .class_ 180), (0, u "java/lang/constant/ConstantDesc"), (0, u "POSITIVE_INFINITY"), (3, u "NEGATIVE_INFINITY"), (2, u "NaN"), (2, u "MAX_VALUE"), (0, u "MIN_NORMAL"), (0, u "MIN_VALUE"), (2, u "SIZE"), (0, u "I"), (1, u "PRECISION"), (1, u "MAX_EXPONENT"), (1, u "MIN_EXPONENT"), (1, u "BYTES"), (3, u "serialVersionUID"), (0, u "J")] 79

def k9m0 : Method := { name := "doubleToRawLongBits", desc := "(D)J", sig := { parameters := [.double], returnType := some .long }, accessFlags := 265, code := none }
/-- java/lang/Double -/
def k9 : Class := { plain "java/lang/Double" (some 5) with
  accessFlags := 49
  interfaces := #[6, 7, 8]
  cf := some (fileOf pool9 1 #[] #[{ accessFlags := 265, nameIndex := 136, descriptorIndex := 49, attributes := #[] }] 49 114 #[175, 177, 179] #[{ accessFlags := 25, nameIndex := 181, descriptorIndex := 121, attributes := #[] }, { accessFlags := 25, nameIndex := 185, descriptorIndex := 121, attributes := #[] }, { accessFlags := 25, nameIndex := 188, descriptorIndex := 121, attributes := #[] }, { accessFlags := 25, nameIndex := 191, descriptorIndex := 121, attributes := #[] }, { accessFlags := 25, nameIndex := 192, descriptorIndex := 121, attributes := #[] }, { accessFlags := 25, nameIndex := 193, descriptorIndex := 121, attributes := #[] }, { accessFlags := 25, nameIndex := 196, descriptorIndex := 197, attributes := #[] }, { accessFlags := 25, nameIndex := 199, descriptorIndex := 197, attributes := #[] }, { accessFlags := 25, nameIndex := 201, descriptorIndex := 197, attributes := #[] }, { accessFlags := 25, nameIndex := 203, descriptorIndex := 197, attributes := #[] }, { accessFlags := 25, nameIndex := 205, descriptorIndex := 197, attributes := #[] }, { accessFlags := 25, nameIndex := 173, descriptorIndex := 174, attributes := #[] }, { accessFlags := 18, nameIndex := 120, descriptorIndex := 121, attributes := #[] }, { accessFlags := 26, nameIndex := 209, descriptorIndex := 210, attributes := #[] }])
  fields := #[{ name := "POSITIVE_INFINITY", type := .double, accessFlags := 25, slot := 0, constantValue := 0 }, { name := "NEGATIVE_INFINITY", type := .double, accessFlags := 25, slot := 1, constantValue := 0 }, { name := "NaN", type := .double, accessFlags := 25, slot := 2, constantValue := 0 }, { name := "MAX_VALUE", type := .double, accessFlags := 25, slot := 3, constantValue := 0 }, { name := "MIN_NORMAL", type := .double, accessFlags := 25, slot := 4, constantValue := 0 }, { name := "MIN_VALUE", type := .double, accessFlags := 25, slot := 5, constantValue := 0 }, { name := "SIZE", type := .int, accessFlags := 25, slot := 6, constantValue := 0 }, { name := "PRECISION", type := .int, accessFlags := 25, slot := 7, constantValue := 0 }, { name := "MAX_EXPONENT", type := .int, accessFlags := 25, slot := 8, constantValue := 0 }, { name := "MIN_EXPONENT", type := .int, accessFlags := 25, slot := 9, constantValue := 0 }, { name := "BYTES", type := .int, accessFlags := 25, slot := 10, constantValue := 0 }, { name := "TYPE", type := (.object "java/lang/Class"), accessFlags := 25, slot := 11, constantValue := 0 }, { name := "value", type := .double, accessFlags := 18, slot := 0, constantValue := 0 }, { name := "serialVersionUID", type := .long, accessFlags := 26, slot := 12, constantValue := 0 }]
  methods := #[k9m0]
  instanceTypes := #[.double]
  staticTypes := #[.double, .double, .double, .double, .double, .double, .int, .int, .int, .int, .int, (.object "java/lang/Class"), .long]
  resolved := Array.replicate 290 none
  statics := none }

def pool10 : Array CpInfo := pool [(1, u "java/lang/Cloneable"), (0, .class_ 1), (0, u "java/lang/Object"), (0, .class_ 3)] 3

/-- java/lang/Cloneable -/
def k10 : Class := { plain "java/lang/Cloneable" (some 0) with
  accessFlags := 1537
  interfaces := #[]
  cf := some (fileOf pool10 2 #[] #[] 1537 4 #[] #[])
  fields := #[]
  methods := #[]
  instanceTypes := #[]
  staticTypes := #[]
  resolved := Array.replicate 8 none
  statics := none }

/-- the primitive byte -/
def k11 : Class := { plain "byte" none with kind := .primitive 'B', accessFlags := 0x411 }
/-- [B -/
def k12 : Class := { plain "[B" (some 0) with kind := .array 11 .byte, interfaces := #[10, 4], accessFlags := 1041 }

/-- the primitive int -/
def k13 : Class := { plain "int" none with kind := .primitive 'I', accessFlags := 0x411 }
/-- [I -/
def k14 : Class := { plain "[I" (some 0) with kind := .array 13 .int, interfaces := #[10, 4], accessFlags := 1041 }

/-- the primitive long -/
def k15 : Class := { plain "long" none with kind := .primitive 'J', accessFlags := 0x411 }
/-- [J -/
def k16 : Class := { plain "[J" (some 0) with kind := .array 15 .long, interfaces := #[10, 4], accessFlags := 1041 }

def heap : Heap := #[]
def classes : Array Class := #[k0, k1, k2, k3, k4, k5, k6, k7, k8, k9, k10, k11, k12, k13, k14, k15, k16]
def interned : List (Array UInt16 × Addr) := []
def slotsUsed : Nat := 0
def theMethod : MethodId := ⟨1, 1⟩
def args0 : Array Value := #[.long 5, .long 6, .long 7, .int 3, .int 2, .int 4]
def aboutOver (below : List Frame) : State where
  vm := { classes := classes, interned := interned.toArray }
  heap := heap
  slotsUsed := slotsUsed
  threads := #[{ frames := .invoking theMethod args0 :: below }]
def below0 : List Frame := [.native { method := ⟨0, 0⟩, args := #[] }]
def about1 : State := aboutOver below0
def p0 : Program := .bare "" "" ""
def e0 : Env := launch0.env 0 0 0
theorem w_frames : about1.frames = Frame.invoking theMethod args0 :: below0 := rfl
set_option maxRecDepth 65536 in
theorem w_args : argsFit about1.vm theMethod args0 = true := by decide +kernel
set_option maxRecDepth 65536 in
theorem w_heap : heapFits about1 = true := by decide +kernel
set_option maxRecDepth 65536 in
theorem w_runnable : about1.curStatus? = some .runnable := by decide +kernel
set_option maxRecDepth 65536 in
theorem w_alone : about1.alone = true := by decide +kernel
set_option maxRecDepth 65536 in
theorem w_named : about1.methodNamed? x = some theMethod := by decide +kernel
set_option maxRecDepth 65536 in
theorem w_hears : about1.hears theMethod below0 = true := by decide +kernel
set_option maxRecDepth 65536 in
theorem w_ripe : about1.ripe theMethod args0 below0 = true := by decide +kernel
theorem w_running : about1.status = .running := rfl
set_option maxRecDepth 65536 in
theorem w_room : about1.hasRoom e0.platform room_1 = true :=
  launch0.hasRoom_least _ room_1 (by decide +kernel) (by decide +kernel) (by decide +kernel) (by decide +kernel) (by decide +kernel) (by decide +kernel)
theorem allAtoms_all (ts : List Jvm.Cond) (a : Array Jvm.Value) (st : Jvm.State) : (allAtoms ts).before a st = ts.all (fun c => c.before a st) := by
  induction ts with
  | nil => rfl
  | cons c t ih =>
    show (Jvm.Cond.and c (allAtoms t)).before a st = _
    rw [Jvm.Cond.before_and, ih, List.all_cons]
def words1 : List Jvm.Cond := Jvm.Cond.code x code maxLocals ret :: tables_1
/-- a 'code' word, met by the world's own term for the bytes: nothing is compared byte by byte -/
theorem code_word {y : MethodName} {bytes : ByteArray} {mx : Nat} {rt : Option FieldType} {a : Array Value} {s : State} {m : MethodId} {meth : Method} {c : Code} (h1 : s.methodNamed? y = some m) (h2 : s.vm.method? m = some meth) (h3 : meth.code = some c) (h4 : c.code = bytes)
    (h5 : (c.maxLocals == mx && c.exceptionTable.isEmpty && decide (c.maxStack ≤ mostOperands) && decide (meth.sig.returnType = rt) && !meth.locks && decide (parseMethodDescriptor y.desc = some meth.sig)) = true) : (Jvm.Cond.code y bytes mx rt).before a s = true := by
  simp only [Bool.and_eq_true, beq_iff_eq, Bool.not_eq_true', decide_eq_true_eq] at h5
  obtain ⟨⟨⟨⟨⟨g1, g2⟩, g3⟩, g4⟩, g5⟩, g6⟩ := h5
  simp [Cond.before, Cond.holds, Cond.value, h1, h2, h3, h4, g1, g2, g3, g4, g5, g6]
def isCode : Jvm.Cond → Bool
  | .code _ _ _ _ => true
  | _ => false
theorem all_split {L : List Jvm.Cond} {P : Jvm.Cond → Bool} (h1 : L.all (fun c => isCode c || P c) = true) (h2 : ∀ c ∈ L.filter isCode, P c = true) : L.all P = true := by
  refine List.all_eq_true.mpr fun c hc => ?_
  have h := List.all_eq_true.mp h1 c hc
  rcases Bool.eq_false_or_eq_true (isCode c) with hi | hi
  · exact h2 c (List.mem_filter.mpr ⟨hc, hi⟩)
  · simpa [hi] using h
set_option maxRecDepth 65536 in
theorem w_c0 : (Jvm.Cond.code x code maxLocals ret).before args0 about1 = true := code_word (m := ⟨1, 1⟩) (meth := k1m1) (c := k1c1) (by decide +kernel) rfl rfl rfl (by decide +kernel)
set_option maxRecDepth 65536 in
theorem w_c1 : (Jvm.Cond.code ({ cls := "com/example/plyward/plyward/search/TranspositionTable", name := "<init>", desc := "(I)V" } : Jvm.MethodName) prog_71_method_1_code (2 : Nat) (Option.none : Option Jvm.ClassFile.FieldType)).before args0 about1 = true := code_word (m := ⟨2, 0⟩) (meth := k2m0) (c := k2c0) (by decide +kernel) rfl rfl rfl (by decide +kernel)
set_option maxRecDepth 65536 in
theorem w_c2 : (Jvm.Cond.code ({ cls := "java/lang/Object", name := "<init>", desc := "()V" } : Jvm.MethodName) object_method_1_code (1 : Nat) (Option.none : Option Jvm.ClassFile.FieldType)).before args0 about1 = true := code_word (m := ⟨0, 0⟩) (meth := k0m0) (c := k0c0) (by decide +kernel) rfl rfl rfl (by decide +kernel)
set_option maxRecDepth 65536 in
theorem w_c3 : (Jvm.Cond.code ({ cls := "com/example/plyward/plyward/search/TranspositionTable", name := "store", desc := "(JIDDZ)V" } : Jvm.MethodName) prog_71_method_10_code (14 : Nat) (Option.none : Option Jvm.ClassFile.FieldType)).before args0 about1 = true := code_word (m := ⟨2, 6⟩) (meth := k2m6) (c := k2c6) (by decide +kernel) rfl rfl rfl (by decide +kernel)
set_option maxRecDepth 65536 in
theorem w_c4 : (Jvm.Cond.code ({ cls := "com/example/plyward/plyward/search/TranspositionTable", name := "bucket", desc := "(J)I" } : Jvm.MethodName) prog_71_method_12_code (4 : Nat) (Option.some Jvm.ClassFile.FieldType.int)).before args0 about1 = true := code_word (m := ⟨2, 8⟩) (meth := k2m8) (c := k2c8) (by decide +kernel) rfl rfl rfl (by decide +kernel)
set_option maxRecDepth 65536 in
theorem w_c5 : (Jvm.Cond.code ({ cls := "com/example/plyward/plyward/search/TranspositionTable", name := "find", desc := "(JI)I" } : Jvm.MethodName) prog_71_method_5_code (7 : Nat) (Option.some Jvm.ClassFile.FieldType.int)).before args0 about1 = true := code_word (m := ⟨2, 4⟩) (meth := k2m4) (c := k2c4) (by decide +kernel) rfl rfl rfl (by decide +kernel)
set_option maxRecDepth 65536 in
theorem w_c6 : (Jvm.Cond.code ({ cls := "com/example/plyward/plyward/search/TranspositionTable", name := "keepSettled", desc := "()V" } : Jvm.MethodName) prog_71_method_3_code (1 : Nat) (Option.none : Option Jvm.ClassFile.FieldType)).before args0 about1 = true := code_word (m := ⟨2, 2⟩) (meth := k2m2) (c := k2c2) (by decide +kernel) rfl rfl rfl (by decide +kernel)
set_option maxRecDepth 65536 in
theorem w_c7 : (Jvm.Cond.code ({ cls := "com/example/plyward/plyward/search/TranspositionTable", name := "nextGeneration", desc := "()V" } : Jvm.MethodName) prog_71_method_4_code (1 : Nat) (Option.none : Option Jvm.ClassFile.FieldType)).before args0 about1 = true := code_word (m := ⟨2, 3⟩) (meth := k2m3) (c := k2c3) (by decide +kernel) rfl rfl rfl (by decide +kernel)
set_option maxRecDepth 65536 in
theorem w_c8 : (Jvm.Cond.code ({ cls := "com/example/plyward/plyward/search/TranspositionTable", name := "earlier", desc := "(J)I" } : Jvm.MethodName) prog_71_method_6_code (8 : Nat) (Option.some Jvm.ClassFile.FieldType.int)).before args0 about1 = true := code_word (m := ⟨2, 5⟩) (meth := k2m5) (c := k2c5) (by decide +kernel) rfl rfl rfl (by decide +kernel)
set_option maxRecDepth 65536 in
theorem w_c9 : (Jvm.Cond.code ({ cls := "com/example/plyward/plyward/search/TranspositionTable", name := "clear", desc := "()V" } : Jvm.MethodName) prog_71_method_2_code (1 : Nat) (Option.none : Option Jvm.ClassFile.FieldType)).before args0 about1 = true := code_word (m := ⟨2, 1⟩) (meth := k2m1) (c := k2c1) (by decide +kernel) rfl rfl rfl (by decide +kernel)
set_option maxRecDepth 65536 in
theorem w_c10 : (Jvm.Cond.code ({ cls := "com/example/plyward/plyward/search/TranspositionTable", name := "holdsAt", desc := "(JI)Z" } : Jvm.MethodName) prog_71_method_11_code (8 : Nat) (Option.some Jvm.ClassFile.FieldType.boolean)).before args0 about1 = true := code_word (m := ⟨2, 7⟩) (meth := k2m7) (c := k2c7) (by decide +kernel) rfl rfl rfl (by decide +kernel)
def codes1 : List Jvm.Cond := [Jvm.Cond.code x code maxLocals ret, Jvm.Cond.code ({ cls := "com/example/plyward/plyward/search/TranspositionTable", name := "<init>", desc := "(I)V" } : Jvm.MethodName) prog_71_method_1_code (2 : Nat) (Option.none : Option Jvm.ClassFile.FieldType), Jvm.Cond.code ({ cls := "java/lang/Object", name := "<init>", desc := "()V" } : Jvm.MethodName) object_method_1_code (1 : Nat) (Option.none : Option Jvm.ClassFile.FieldType), Jvm.Cond.code ({ cls := "com/example/plyward/plyward/search/TranspositionTable", name := "store", desc := "(JIDDZ)V" } : Jvm.MethodName) prog_71_method_10_code (14 : Nat) (Option.none : Option Jvm.ClassFile.FieldType), Jvm.Cond.code ({ cls := "com/example/plyward/plyward/search/TranspositionTable", name := "bucket", desc := "(J)I" } : Jvm.MethodName) prog_71_method_12_code (4 : Nat) (Option.some Jvm.ClassFile.FieldType.int), Jvm.Cond.code ({ cls := "com/example/plyward/plyward/search/TranspositionTable", name := "find", desc := "(JI)I" } : Jvm.MethodName) prog_71_method_5_code (7 : Nat) (Option.some Jvm.ClassFile.FieldType.int), Jvm.Cond.code ({ cls := "com/example/plyward/plyward/search/TranspositionTable", name := "keepSettled", desc := "()V" } : Jvm.MethodName) prog_71_method_3_code (1 : Nat) (Option.none : Option Jvm.ClassFile.FieldType), Jvm.Cond.code ({ cls := "com/example/plyward/plyward/search/TranspositionTable", name := "nextGeneration", desc := "()V" } : Jvm.MethodName) prog_71_method_4_code (1 : Nat) (Option.none : Option Jvm.ClassFile.FieldType), Jvm.Cond.code ({ cls := "com/example/plyward/plyward/search/TranspositionTable", name := "earlier", desc := "(J)I" } : Jvm.MethodName) prog_71_method_6_code (8 : Nat) (Option.some Jvm.ClassFile.FieldType.int), Jvm.Cond.code ({ cls := "com/example/plyward/plyward/search/TranspositionTable", name := "clear", desc := "()V" } : Jvm.MethodName) prog_71_method_2_code (1 : Nat) (Option.none : Option Jvm.ClassFile.FieldType), Jvm.Cond.code ({ cls := "com/example/plyward/plyward/search/TranspositionTable", name := "holdsAt", desc := "(JI)Z" } : Jvm.MethodName) prog_71_method_11_code (8 : Nat) (Option.some Jvm.ClassFile.FieldType.boolean)]
set_option maxRecDepth 65536 in
theorem codes_eq : words1.filter isCode = codes1 := rfl
theorem w_codes : ∀ c ∈ words1.filter isCode, c.before args0 about1 = true := by
  rw [codes_eq]
  intro c hc
  simp only [codes1, List.mem_cons, List.not_mem_nil, or_false] at hc
  rcases hc with rfl | rfl | rfl | rfl | rfl | rfl | rfl | rfl | rfl | rfl | rfl
  · exact w_c0
  · exact w_c1
  · exact w_c2
  · exact w_c3
  · exact w_c4
  · exact w_c5
  · exact w_c6
  · exact w_c7
  · exact w_c8
  · exact w_c9
  · exact w_c10
set_option maxRecDepth 65536 in
theorem w_t1 : (words1.take 24).all (fun c => isCode c || c.before args0 about1) = true := by decide +kernel
set_option maxRecDepth 65536 in
theorem w_t2 : ((words1.drop 24).take 24).all (fun c => isCode c || c.before args0 about1) = true := by decide +kernel
set_option maxRecDepth 65536 in
theorem w_t3 : ((words1.drop 24).drop 24).all (fun c => isCode c || c.before args0 about1) = true := by decide +kernel
theorem w_tables : (allAtoms (Jvm.Cond.code x code maxLocals ret :: tables_1)).before args0 about1 = true := by
  rw [allAtoms_all]
  show words1.all (fun c => c.before args0 about1) = true
  refine all_split ?_ w_codes
  rw [← List.take_append_drop 24 words1, List.all_append, w_t1, ← List.take_append_drop 24 (words1.drop 24), List.all_append, w_t2, w_t3]
  rfl
set_option maxRecDepth 65536 in
theorem w_case : (Jvm.Cond.and given_1 narrow_1).before args0 about1 = true := by decide +kernel
theorem w_applies : (headSpec (Jvm.Cond.code x code maxLocals ret :: tables_1) room_1).applies x e0.platform about1 = true :=
  (Spec.applies_iff w_frames).mpr ⟨w_running, w_runnable, w_alone, w_named, w_hears, w_ripe, w_room, w_tables⟩
theorem atStart : AtStart classFile x code maxLocals ret World_1 tables_1 room_1 Calls_1 rest_1 Pre_1 launch0 p0 e0 about1 theMethod args0 below0 :=
  ⟨lists_1, trivial, launch0.admits_env _ _ _, launch0.least_env, fairChoices_fair.cas, fairChoices_fair.clock, w_frames, w_args, w_heap, w_applies, trivial, trivial, w_case⟩
end start1
theorem witness_1 : WitnessClaimed_1 := ⟨start1.p0, start1.e0, start1.about1, start1.theMethod, start1.args0, start1.below0, start1.atStart⟩
end Jvm.Pilot.@@N@@
