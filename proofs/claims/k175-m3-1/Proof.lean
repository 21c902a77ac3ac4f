import JvmDerived
import JvmDerived.Pilot.@@N@@Statement
import JvmDerived.Pilot.@@N@@Code
set_option linter.unusedVariables false
set_option linter.unusedSimpArgs false
namespace Jvm.Pilot.@@N@@
open Jvm Jvm.ClassFile Sem Op Lib Jvm.Free Jvm.Stand Jvm.LawKit Jvm.RoadKit Bundle Jvm.Pilot.@@N@@.Jvm.D
def own_Go (p : Program) (e : Env) (below : List Frame) (P : Outcome → State → Prop) (st : State) : Prop :=
  ∃ s₂ o, Steps p.tables e below st s₂ ∧ s₂.status = .running ∧ Ended s₂ below o ∧ P o s₂
def own_Fin (s : State) (C S : Nat) (Q : Option Value → Heap → List Loc → Prop) (o : Outcome) (U : State) : Prop := ∃ v L, o = .returned v ∧ Q v U.heap L ∧ FrameEnd s o U L C S
def own_upd {α : Type} (f : Nat → α) (j : Nat) (v : α) : Nat → α := fun i => if i = j then v else f i
def own_Arf (Z : State) (h : Heap) (a : Addr) (k : ClassId) (ty : FieldType) (n : Int32) (f : Nat → Value) : Prop := ∃ c : Cell, Arr Z h a c ty ∧ c.cls = k ∧ c.slots.size = n.toNatClampNeg ∧ ¬ n < 0 ∧ (∀ i, i < c.slots.size → c.slots[i]? = some (f i)) ∧ ∀ i, i < c.slots.size → fits ty (f i) = true
section OwnKit
variable {p : Program} {l : Launch} {e : Env} {R : Room} {s : State} {m : MethodId} {args : Array Value} {below : List Frame} {meth : Method} {c : Code} {T : State} {locs : List Loc} {cells slots C S : Nat} {P : Outcome → State → Prop} {Q : Option Value → Heap → List Loc → Prop} {Z : State} {h h' : Heap} {a b : Addr} {k : ClassId} {ty : FieldType} {n : Int32} {ws : List Addr}
theorem own_by {st st' : State} (f : ∀ t, Steps p.tables e below st' t → Steps p.tables e below st t) (g : own_Go p e below P st') : own_Go p e below P st := by
  obtain ⟨s₂, o, h1, h2⟩ := g
  exact ⟨s₂, o, f _ h1, h2⟩
theorem own_mono (X : Stand p l e R s m args below meth c T locs cells slots) {c' s' : Nat} (hc : cells ≤ c') (hs : slots ≤ s') : Stand p l e R s m args below meth c T locs c' s' := { X with same := X.same.mono hc hs }
theorem own_end (X : Stand p l e R s m args below meth c T locs cells slots) {v : Option Value} (hv : meth.sig.returnType = none → v = none) (hlk : meth.locks = false) (eT : T.heap = h) (hQ : Q v h locs) (hc : cells ≤ C) (hs : slots ≤ S)
    {g : JFrame} (st : ∀ fs, (∀ (f : JFrame) (acts : List Action), f.method = m → f.locked = none → f.entered = [] → (doReturn e (T.setTop f) acts v).1 = T.setFrames fs) → Steps p.tables e below (T.setTop g) (T.setFrames fs)) : own_Go p e below (own_Fin s C S Q) (T.setTop g) := by
  obtain ⟨fs, hr, hrun, hended, hW, hsame⟩ := X.leave (v := v) hv hlk
  refine ⟨_, _, st fs hr, hrun, hended, v, locs, rfl, ?_, ⟨_, rfl⟩, hW, hsame.mono hc hs⟩
  show Q v T.heap locs
  rw [eT]; exact hQ
theorem own_retN (X : Stand p l e R s m args below meth c T locs cells slots) (hx : p.tables.exec = Jvm.exec) {pc : Nat} {Ls : Array Slot} {z : Int32} {t : FieldType} {rest : List Value} (hret : meth.sig.returnType = some t) (ht : t = .boolean ∨ t = .byte ∨ t = .char ∨ t = .short) (hd : decode c.code pc = .ok (.ireturn, 1)) (hlk : meth.locks = false) (eT : T.heap = h) (hQ : Q (some (.int (nar t z))) h locs) (hc : cells ≤ C) (hs : slots ≤ S) : own_Go p e below (own_Fin s C S Q) (T.setTop (mkF m pc Ls (.int z :: rest))) :=
  own_end X (fun h => by rw [hret] at h; cases h) hlk eT hQ hc hs fun fs hr => retN X hx hret ht hd hr
theorem own_retI (X : Stand p l e R s m args below meth c T locs cells slots) (hx : p.tables.exec = Jvm.exec) {pc : Nat} {Ls : Array Slot} {z : Int32} {rest : List Value} (hret : meth.sig.returnType = some .int) (hd : decode c.code pc = .ok (.ireturn, 1)) (hlk : meth.locks = false) (eT : T.heap = h) (hQ : Q (some (.int z)) h locs) (hc : cells ≤ C) (hs : slots ≤ S) : own_Go p e below (own_Fin s C S Q) (T.setTop (mkF m pc Ls (.int z :: rest))) :=
  own_end X (fun h => by rw [hret] at h; cases h) hlk eT hQ hc hs fun fs hr => retOut X hx hret rfl (Or.inl ⟨rfl, Or.inl rfl, _, rfl⟩) hd hr
theorem own_retJ (X : Stand p l e R s m args below meth c T locs cells slots) (hx : p.tables.exec = Jvm.exec) {pc : Nat} {Ls : Array Slot} {z : Int64} {rest : List Value} (hret : meth.sig.returnType = some .long) (hd : decode c.code pc = .ok (.lreturn, 1)) (hlk : meth.locks = false) (eT : T.heap = h) (hQ : Q (some (.long z)) h locs) (hc : cells ≤ C) (hs : slots ≤ S) : own_Go p e below (own_Fin s C S Q) (T.setTop (mkF m pc Ls (.long z :: rest))) :=
  own_end X (fun h => by rw [hret] at h; cases h) hlk eT hQ hc hs fun fs hr => retOut X hx hret rfl (Or.inr (Or.inl ⟨rfl, rfl, _, rfl⟩)) hd hr
theorem own_retD (X : Stand p l e R s m args below meth c T locs cells slots) (hx : p.tables.exec = Jvm.exec) {pc : Nat} {Ls : Array Slot} {z : UInt64} {rest : List Value} (hret : meth.sig.returnType = some .double) (hd : decode c.code pc = .ok (.dreturn, 1)) (hlk : meth.locks = false) (eT : T.heap = h) (hQ : Q (some (.double z)) h locs) (hc : cells ≤ C) (hs : slots ≤ S) : own_Go p e below (own_Fin s C S Q) (T.setTop (mkF m pc Ls (.double z :: rest))) :=
  own_end X (fun h => by rw [hret] at h; cases h) hlk eT hQ hc hs fun fs hr => retOut X hx hret rfl (Or.inr (Or.inr (Or.inl ⟨rfl, rfl, _, rfl⟩))) hd hr
theorem own_retR (X : Stand p l e R s m args below meth c T locs cells slots) (hx : p.tables.exec = Jvm.exec) {pc : Nat} {Ls : Array Slot} {w : Value} {t : FieldType} {rest : List Value} (hret : meth.sig.returnType = some t) (ht : t.isReference = true) (hw : w.isRef = true) (hd : decode c.code pc = .ok (.areturn, 1)) (hlk : meth.locks = false) (eT : T.heap = h) (hQ : Q (some w) h locs) (hc : cells ≤ C) (hs : slots ≤ S) : own_Go p e below (own_Fin s C S Q) (T.setTop (mkF m pc Ls (w :: rest))) :=
  own_end X (fun h => by rw [hret] at h; cases h) hlk eT hQ hc hs fun fs hr => retOut X hx hret (by cases t <;> first | rfl | (cases w <;> first | rfl | cases hw) | (cases ht)) (Or.inr (Or.inr (Or.inr (Or.inr ⟨rfl, ht, hw⟩)))) hd hr
theorem own_ret0 (X : Stand p l e R s m args below meth c T locs cells slots) (hx : p.tables.exec = Jvm.exec) {pc : Nat} {Ls : Array Slot} (hret : meth.sig.returnType = none) (hd : decode c.code pc = .ok (.return_, 1)) (hlk : meth.locks = false) (eT : T.heap = h) (hQ : Q none h locs) (hc : cells ≤ C) (hs : slots ≤ S) : own_Go p e below (own_Fin s C S Q) (T.setTop (mkF m pc Ls [])) :=
  own_end X (fun _ => rfl) hlk eT hQ hc hs fun fs hr => X.returnOut hx hret hd hr
theorem own_one {z : Int32} (q : z = 1) : (some (.int (nar .boolean z)) : Option Value) = some (.int 1) := by subst q; rfl
theorem own_lrem {g : JFrame} {target : State} (hh : At T m c below) (hx : p.tables.exec = Jvm.exec) (hg : g.method = m) {x y : Int64} {rest : List Value} (hd : decode c.code g.pc = .ok (.lrem, 1)) (hs : g.stack = .long y :: .long x :: rest) (hy : y ≠ 0)
    (hr : Steps p.tables e below (T.setTop { g with pc := g.pc + 1, stack := .long (x % y) :: rest }) target) : Steps p.tables e below (T.setTop g) target :=
  XS.lrem hh hx hg hd hs hy (by rw [lrem_mod]; exact hr)
theorem own_Arf.lt {f : Nat → Value} (F : own_Arf Z h a k ty n f) : a < h.size := by obtain ⟨c, A, -⟩ := F; exact A.lt
theorem own_Arf.ext {f : Nat → Value} (F : own_Arf Z h a k ty n f) (E : Ext h h') : own_Arf Z h' a k ty n f := by obtain ⟨c, A, r⟩ := F; exact ⟨c, A.ext E, r⟩
theorem own_Arf.other {f : Nat → Value} {sl : Nat} {v : Value} (F : own_Arf Z h b k ty n f) (W : Wr h h' a sl v) (q : b ≠ a) : own_Arf Z h' b k ty n f := by obtain ⟨c, A, r⟩ := F; exact ⟨c, A.other W q, r⟩
theorem own_Arf.keep {f : Nat → Value} (F : own_Arf Z h a k ty n f) (K : Keep h h' ws) (q : a ∉ ws) : own_Arf Z h' a k ty n f := by obtain ⟨c, A, r⟩ := F; exact ⟨c, ⟨K.2.1 a c A.1 q, A.2⟩, r⟩
theorem own_arfNew (A : Arr Z h a (newA k ty n) ty) (q : ¬ n < 0) : own_Arf Z h a k ty n (fun _ => defaultValue ty) := ⟨_, A, rfl, sz_new _ _ _, q, fun i hi => by
  rw [sz_new] at hi; simp [newA, hi], fun i _ => by cases ty <;> rfl⟩
theorem own_arfSet {cl : Cell} {f : Nat → Value} {j : Nat} {v : Value} (A : Arr Z h a cl ty) (q1 : cl.cls = k) (S : cl.slots.size = n.toNatClampNeg) (q3 : ¬ n < 0) (H : ∀ i, i < cl.slots.size → cl.slots[i]? = some (f i)) (G : ∀ i, i < cl.slots.size → fits ty (f i) = true) (hv : fits ty v = true) (W : Wr h h' a j v) : own_Arf Z h' a k ty n (own_upd f j v) := by
  refine ⟨_, A.same W, q1, by rw [sz_set]; exact S, q3, fun i hi => ?_, fun i hi => ?_⟩
  · rw [sz_set] at hi
    by_cases u : j = i
    · subst u; simp [Cell.setSlot, hi, own_upd]
    · have := H i hi; simp only [Cell.setSlot] at this ⊢
      rw [Array.getElem?_setIfInBounds_ne u, this]; simp [own_upd, Ne.symm u]
  · rw [sz_set] at hi
    by_cases u : j = i
    · subst u; simpa [own_upd] using hv
    · have := G i hi; simpa [own_upd, Ne.symm u] using this
theorem own_arfSetI {cl : Cell} {f : Nat → Int32} {j : Nat} {v : Int32} (A : Arr Z h a cl ty) (q1 : cl.cls = k) (S : cl.slots.size = n.toNatClampNeg) (q3 : ¬ n < 0) (H : ∀ i, i < cl.slots.size → cl.slots[i]? = some (.int (f i))) (G : ∀ i, i < cl.slots.size → fits ty (.int (f i)) = true) (hv : fits ty (.int v) = true) (W : Wr h h' a j (.int v)) : own_Arf Z h' a k ty n (fun i => .int (own_upd f j v i)) := by
  have q := own_arfSet (f := fun i => .int (f i)) A q1 S q3 H G hv W
  have e : (own_upd (fun i => Value.int (f i)) j (.int v)) = (fun i => .int (own_upd f j v i)) := by funext i; simp only [own_upd]; split <;> rfl
  rw [← e]; exact q
theorem own_arfSetJ {cl : Cell} {f : Nat → Int64} {j : Nat} {v : Int64} (A : Arr Z h a cl ty) (q1 : cl.cls = k) (S : cl.slots.size = n.toNatClampNeg) (q3 : ¬ n < 0) (H : ∀ i, i < cl.slots.size → cl.slots[i]? = some (.long (f i))) (G : ∀ i, i < cl.slots.size → fits ty (.long (f i)) = true) (hv : fits ty (.long v) = true) (W : Wr h h' a j (.long v)) : own_Arf Z h' a k ty n (fun i => .long (own_upd f j v i)) := by
  have q := own_arfSet (f := fun i => .long (f i)) A q1 S q3 H G hv W
  have e : (own_upd (fun i => Value.long (f i)) j (.long v)) = (fun i => .long (own_upd f j v i)) := by funext i; simp only [own_upd]; split <;> rfl
  rw [← e]; exact q
theorem own_arfSetD {cl : Cell} {f : Nat → UInt64} {j : Nat} {v : UInt64} (A : Arr Z h a cl ty) (q1 : cl.cls = k) (S : cl.slots.size = n.toNatClampNeg) (q3 : ¬ n < 0) (H : ∀ i, i < cl.slots.size → cl.slots[i]? = some (.double (f i))) (G : ∀ i, i < cl.slots.size → fits ty (.double (f i)) = true) (hv : fits ty (.double v) = true) (W : Wr h h' a j (.double v)) : own_Arf Z h' a k ty n (fun i => .double (own_upd f j v i)) := by
  have q := own_arfSet (f := fun i => .double (f i)) A q1 S q3 H G hv W
  have e : (own_upd (fun i => Value.double (f i)) j (.double v)) = (fun i => .double (own_upd f j v i)) := by funext i; simp only [own_upd]; split <;> rfl
  rw [← e]; exact q
theorem own_neArr {A0 : Array Value} {C : String} {kk : Nat} {f : Nat → Value} (F : Exa Z h a C) (wi : (Cond.instantiable C kk).before A0 Z = true) (G : own_Arf Z h b k ty n f) : a ≠ b := by
  obtain ⟨c, A, -⟩ := G
  exact ne_arr F wi A
theorem own_selPriv {Z s : State} {A0 args : Array Value} {y : MethodName} {n : Nat} (hZ : Z.Warmed39 s.vm) (wi : (Cond.instantiable y.cls n).before A0 Z = true) (wp : (Cond.privateMethod y).before A0 Z = true) (wm : (Cond.instanceMethod y).before A0 Z = true) (hy : y.cls ≠ "java/lang/invoke/MethodHandle" ∧ y.cls ≠ "java/lang/invoke/VarHandle") : (Cond.selects y.cls y y).before args s = true := by
  have wi' : (Cond.instantiable y.cls n).before args s = true := mvT hZ wi
  obtain ⟨c, k, h1, h2, h3, h4, -⟩ := Cond.instantiable_spec wi'
  refine selects_self_of_private h1 h2 ?_ (Cond.privateMethod_at (mvP hZ wp (args := args))) (mvT hZ wm) hy
  cases hi : k.isInterface <;> simp_all
theorem own_fitR {t : FieldType} {v : Value} (h : v.isRef = true) : fits (.array t) v = true := by cases v <;> first | rfl | cases h
theorem own_fitO {t : String} {v : Value} (h : v.isRef = true) : fits (.object t) v = true := by cases v <;> first | rfl | cases h
theorem own_exaPlain {C : String} (E : Exa Z h a C) : ∀ c : Cell, h[a]? = some c → c.vm.isStatics = false := fun c hc => by
  obtain ⟨cell, k, h1, -, -, h4, -⟩ := E
  cases h1.symm.trans hc; exact h4
theorem own_arfPlain {f : Nat → Value} (F : own_Arf Z h a k ty n f) : ∀ c : Cell, h[a]? = some c → c.vm.isStatics = false := fun c hc => by
  obtain ⟨cell, A, -⟩ := F
  cases A.1.symm.trans hc; exact A.plain
theorem own_staKeep {C nn d : String} {w : Value} (F : Sta Z h C nn d w) (K : Keep h h' ws) (hp : ∀ x ∈ ws, ∀ c : Cell, h[x]? = some c → c.vm.isStatics = false) : Sta Z h' C nn d w := by
  obtain ⟨cf, i, k, f, st, cell, h1, h2, h3, h4, h5, h6, h7⟩ := F
  have hn : st ∉ ws := fun hm => by have := hp st hm cell h5; rw [h6] at this; cases this
  exact ⟨cf, i, k, f, st, cell, h1, h2, h3, h4, K.2.1 st cell h5 hn, h6, h7⟩
theorem own_cat1 {v : Value} (h : v.isRef = true) : v.category = 1 := by cases v <;> first | rfl | cases h
end OwnKit

theorem own_landNN (x : Int64) : ¬ ((x &&& (9223372036854775807 : Int64)) < (0 : Int64)) := by
  have h := (c_andSL x 9223372036854775807).2.2 (by decide)
  rw [Int64.lt_iff_toInt_lt]
  have e : (0 : Int64).toInt = 0 := rfl
  omega
theorem own_rem (x : Int32) (d : Int) (y : Int32) (hy : y.toInt = d) (h0 : 0 < d) : 0 ≤ ((x &&& 2147483647) % y).toInt ∧ ((x &&& 2147483647) % y).toInt < d := by
  have h1 := c_and x 2147483647 (by decide)
  have h2 := (c_irem (x &&& 2147483647) y d hy).1 h1.1
  rw [h2]; exact ⟨Int.emod_nonneg _ (by omega), Int.emod_lt_of_pos _ h0⟩
theorem own_fldEq {args : Array Value} {s : State} {t : Term} {a : Addr} {C n d : String} {k : Int32} (h : (Jvm.Cond.eq (Term.field t C n d) (Term.int k)).value args s none s [] = some true) (ev : t.eval args s none [] s = some (.ref a)) : Fld s s.heap a C n d (.int k) := by
  refine Fld.start ?_
  have e1 := fld_at (C := C) (n := n) (dd := d) ev
  have e2 : (Term.int k).eval args s none [] s = some (.int k) := rfl
  simp only [Cond.value, e1, e2] at h
  cases hf : s.fieldOf? a C n d with
  | none => rw [hf] at h; simp at h
  | some v =>
    rw [hf] at h
    cases v <;> simp_all
theorem own_s16 (x : Int32) (h1 : -32768 ≤ x.toInt) (h2 : x.toInt < 32768) : x.toInt16.toInt32 = x := by
  have h := c_i2s x
  apply Int32.toInt_inj.mp
  omega
def own_cp {α : Type} (f : Nat → α) (sp : Nat) (g : Nat → α) (dp n : Nat) : Nat → α := fun i => if dp ≤ i ∧ i < dp + n then f (sp + (i - dp)) else g i
section OwnNat
variable {p : Program} {l : Launch} {e : Env} {R : Room} {s : State} {m : MethodId} {args : Array Value} {below : List Frame} {meth : Method} {c : Code} {T : State} {locs : List Loc} {cells slots : Nat} {Z : State} {h h' : Heap} {a b : Addr} {A0 : Array Value}
theorem own_d2bits (X : Stand p l e R s m args below meth c T locs cells slots) (hx : p.tables.exec = Jvm.exec) (hZ : Z.Warmed39 s.vm) {own : String} {index : Nat} (hown : s.vm.findClass own = some m.cls)
    (w1 : (Cond.methodLink own index NT.doubleBitsN).before A0 Z = true) (w2 : (Cond.native NT.doubleBitsN).before A0 Z = true) (w3 : (Cond.static NT.doubleBitsN).before A0 Z = true) (w4 : (Cond.initialized "java/lang/Double").before A0 Z = true) (eT : T.heap = h)
    {g : JFrame} (hg : g.method = m) (hsize : g.locals.size = c.maxLocals) {x : UInt64} {rest : List Value} (hs : g.stack = .double x :: rest) (hd : decode c.code g.pc = .ok (.invokestatic index, 3))
    (hf : 1 ≤ R.frames) {W : Nat} (hW : 2 * g.monitorRoom + (rest.map fun v => v.category).sum ≤ W) (hlo : W + 15 ≤ R.locals) :
    ∃ T', Stand p l e R s m args below meth c T' locs cells slots ∧ T'.heap = h ∧ ∀ target, Steps p.tables e below (T'.setTop { g with pc := g.pc + 3, stack := .long x.toInt64 :: rest }) target → Steps p.tables e below (T.setTop g) target := by
  have c2 : (Cond.native NT.doubleBitsN).before args s = true := mvT hZ w2
  obtain ⟨mk, mm, hn, hm, -, -, -, hsig⟩ := Cond.native_spec c2
  obtain ⟨v, vm1, B, hW1, X', ⟨hB, hv⟩, st⟩ := Stand.staticBack (args := args) X hx hown (mvT hZ w1) (mvT hZ w3) (mvT hZ w4) hn hm hsig (by decide) (NT.DoubleBits.pays (len := 3) (W := W) c2 (mvT hZ w3) hf hlo) hg hsize (Steps.refl _) (argsL := [.double x]) (rest := rest) (lenOf NT.descDJ rfl) hs hW hd (fun _ _ => ⟨x, rfl⟩)
  obtain rfl := hv x rfl
  subst hB
  exact ⟨_, X', eT, fun target k => st.trans k⟩
theorem own_bits2d (X : Stand p l e R s m args below meth c T locs cells slots) (hx : p.tables.exec = Jvm.exec) (hZ : Z.Warmed39 s.vm) {own : String} {index : Nat} (hown : s.vm.findClass own = some m.cls)
    (w1 : (Cond.methodLink own index NT.longBitsN).before A0 Z = true) (w2 : (Cond.native NT.longBitsN).before A0 Z = true) (w3 : (Cond.static NT.longBitsN).before A0 Z = true) (w4 : (Cond.initialized "java/lang/Double").before A0 Z = true) (eT : T.heap = h)
    {g : JFrame} (hg : g.method = m) (hsize : g.locals.size = c.maxLocals) {x : Int64} {rest : List Value} (hq : (decide (x.toUInt64 &&& 9223372036854775807 > 9218868437227405312) && x.toUInt64 &&& 2251799813685248 == 0) = false) (hs : g.stack = .long x :: rest) (hd : decode c.code g.pc = .ok (.invokestatic index, 3))
    (hf : 1 ≤ R.frames) {W : Nat} (hW : 2 * g.monitorRoom + (rest.map fun v => v.category).sum ≤ W) (hlo : W + 15 ≤ R.locals) :
    ∃ T', Stand p l e R s m args below meth c T' locs cells slots ∧ T'.heap = h ∧ ∀ target, Steps p.tables e below (T'.setTop { g with pc := g.pc + 3, stack := .double x.toUInt64 :: rest }) target → Steps p.tables e below (T.setTop g) target := by
  have c2 : (Cond.native NT.longBitsN).before args s = true := mvT hZ w2
  obtain ⟨mk, mm, hn, hm, -, -, -, hsig⟩ := Cond.native_spec c2
  obtain ⟨v, vm1, B, hW1, X', ⟨hB, hv⟩, st⟩ := Stand.staticBack (args := args) X hx hown (mvT hZ w1) (mvT hZ w3) (mvT hZ w4) hn hm hsig (by decide) (NT.LongBits.pays (len := 3) (W := W) c2 (mvT hZ w3) hf hlo) hg hsize (Steps.refl _) (argsL := [.long x]) (rest := rest) (lenOf NT.descJD rfl) hs hW hd (fun _ _ => ⟨x, rfl, hq⟩)
  obtain rfl := hv x ⟨rfl, hq⟩
  subst hB
  exact ⟨_, X', eT, fun target k => st.trans k⟩
theorem own_arfArv {k : ClassId} {ty : FieldType} {n : Int32} {f : Nat → Value} (F : own_Arf Z h a k ty n f) (dv : Value) : Arv Z h a k ty n ((List.range n.toNatClampNeg).map f) dv := by
  obtain ⟨cl, A, q, S, M, H, G⟩ := F
  have key : ∀ i, i < cl.slots.size → ((List.range n.toNatClampNeg).map f).getD i dv = f i := fun i hi => by
    rw [S] at hi
    simp [List.getD_eq_getElem?_getD, hi]
  exact ⟨cl, A, q, S, M, fun i hi => by rw [key i hi]; exact H i hi, fun i hi => by rw [key i hi]; exact G i hi⟩
theorem own_arvArf {k : ClassId} {ty : FieldType} {n : Int32} {vs : List Value} {dv : Value} {f : Nat → Value} (F : Arv Z h a k ty n vs dv) (hf : ∀ i, i < n.toNatClampNeg → vs.getD i dv = f i) : own_Arf Z h a k ty n f := by
  obtain ⟨cl, A, q, S, M, H, G⟩ := F
  exact ⟨cl, A, q, S, M, fun i hi => by rw [← hf i (S ▸ hi)]; exact H i hi, fun i hi => by rw [← hf i (S ▸ hi)]; exact G i hi⟩
theorem own_cpA (X : Stand p l e R s m args below meth c T locs cells slots) (hx : p.tables.exec = Jvm.exec) (hZ : Z.Warmed39 s.vm) {own : String} {index : Nat} (hown : s.vm.findClass own = some m.cls)
    (w1 : (Cond.methodLink own index Jvm.Stand.acN).before A0 Z = true) (w2 : (Cond.native Jvm.Stand.acN).before A0 Z = true) (w3 : (Cond.static Jvm.Stand.acN).before A0 Z = true) (w4 : (Cond.initialized "java/lang/System").before A0 Z = true) (eT : T.heap = h)
    {k k' : ClassId} {ty : FieldType} {z z' sp dp nn : Int32} {f f' : Nat → Value} (A : own_Arf Z h a k ty z f) (B : own_Arf Z h b k' ty z' f') (hty : refKind ty = false)
    (h1 : ¬ sp < 0) (h2 : ¬ dp < 0) (h3 : ¬ nn < 0) (h4 : sp.toNatClampNeg + nn.toNatClampNeg ≤ z.toNatClampNeg) (h5 : dp.toNatClampNeg + nn.toNatClampNeg ≤ z'.toNatClampNeg) {n0 : Nat} (N : Fr n0 locs) (ge : n0 ≤ b)
    {g : JFrame} (hg : g.method = m) (hsize : g.locals.size = c.maxLocals) {rest : List Value} (hs : g.stack = .int nn :: .int dp :: .ref b :: .int sp :: .ref a :: rest) (hd : decode c.code g.pc = .ok (.invokestatic index, 3))
    (hf : 1 ≤ R.frames) {W : Nat} (hW : 2 * g.monitorRoom + (rest.map fun v => v.category).sum ≤ W) (hlo : W + (nativeFrameWords "java/lang/System" "arraycopy" 5 + 11) ≤ R.locals) :
    ∃ T' h' L, Stand p l e R s m args below meth c T' L cells slots ∧ T'.heap = h' ∧ Fr n0 L ∧ Keep h h' [b] ∧ own_Arf Z h' b k' ty z' (own_cp f sp.toNatClampNeg f' dp.toNatClampNeg nn.toNatClampNeg) ∧
      ∀ target, Steps p.tables e below (T'.setTop { g with pc := g.pc + 3, stack := rest }) target → Steps p.tables e below (T.setTop g) target := by
  obtain ⟨T', h', L, X', e', N', K, V, st⟩ := cpA X hx hZ hown w1 w2 w3 w4 eT (own_arfArv A .null) (own_arfArv B .null) (Or.inl ⟨rfl, hty⟩) h1 h2 h3 h4 h5 rfl (by simp; exact h5) N ge hg hsize hs hd hf hW hlo
  refine ⟨T', h', L, X', e', N', K, own_arvArf V fun i hi => ?_, st⟩
  simp only [own_cp, List.getD_eq_getElem?_getD]
  by_cases c1 : i < dp.toNatClampNeg
  · rw [List.append_assoc, List.getElem?_append_left (by simp; omega)]
    simp [c1, hi, show ¬ dp.toNatClampNeg ≤ i by omega]
  · by_cases c2 : i < dp.toNatClampNeg + nn.toNatClampNeg
    · rw [List.append_assoc, List.getElem?_append_right (by simp; omega), List.getElem?_append_left (by simp; omega)]
      have hm : min dp.toNatClampNeg z'.toNatClampNeg = dp.toNatClampNeg := by omega
      simp only [List.length_take, List.length_map, List.length_range, hm]
      have e1 : i - dp.toNatClampNeg < nn.toNatClampNeg := by omega
      have e2 : sp.toNatClampNeg + (i - dp.toNatClampNeg) < z.toNatClampNeg := by omega
      simp [e1, e2, c2, show dp.toNatClampNeg ≤ i by omega]
    · rw [List.getElem?_append_right (by simp; omega)]
      have hm : min dp.toNatClampNeg z'.toNatClampNeg = dp.toNatClampNeg := by omega
      simp only [List.length_append, List.length_take, List.length_map, List.length_range, hm]
      rw [List.getElem?_drop]
      have e1 : dp.toNatClampNeg + nn.toNatClampNeg + (i - (dp.toNatClampNeg + nn.toNatClampNeg)) = i := by omega
      rw [e1]
      simp [hi, c2]
theorem own_cpJ (f : Nat → Int64) (sp : Nat) (g : Nat → Int64) (dp n : Nat) : own_cp (fun i => Value.long (f i)) sp (fun i => .long (g i)) dp n = (fun i => .long (own_cp f sp g dp n i)) := by funext i; simp only [own_cp]; split <;> rfl
theorem own_cpI (f : Nat → Int32) (sp : Nat) (g : Nat → Int32) (dp n : Nat) : own_cp (fun i => Value.int (f i)) sp (fun i => .int (g i)) dp n = (fun i => .int (own_cp f sp g dp n i)) := by funext i; simp only [own_cp]; split <;> rfl
theorem own_clone (X : Stand p l e R s m args below meth c T locs cells slots) (hx : p.tables.exec = Jvm.exec) (hZ : Z.Warmed39 s.vm) {own ad : String} {index : Nat} (hown : s.vm.findClass own = some m.cls)
    (w1 : (Cond.methodLink own index ⟨ad, "clone", "()Ljava/lang/Object;"⟩).before A0 Z = true) (w2 : (Cond.sameMethod ad "java/lang/Object" "clone" "()Ljava/lang/Object;").before A0 Z = true) (w3 : (Cond.native ⟨"java/lang/Object", "clone", "()Ljava/lang/Object;"⟩).before A0 Z = true)
    (w4 : (Cond.instanceMethod ⟨"java/lang/Object", "clone", "()Ljava/lang/Object;"⟩).before A0 Z = true) (w5 : (Cond.selects ad ⟨ad, "clone", "()Ljava/lang/Object;"⟩ ⟨"java/lang/Object", "clone", "()Ljava/lang/Object;"⟩).before A0 Z = true) (w6 : (Cond.castable ad "java/lang/Cloneable").before A0 Z = true)
    (eT : T.heap = h) {k : ClassId} {ty : FieldType} {z : Int32} {f : Nat → Value} (F : own_Arf Z h a k ty z f) (E : Exa Z h a ad) {g : JFrame} (hg : g.method = m) (hsize : g.locals.size = c.maxLocals) {rest : List Value} (hst : g.stack = .ref a :: rest) (hd : decode c.code g.pc = .ok (.invokevirtual index, 3))
    (hf : 1 ≤ R.frames) {W cap : Nat} (hW : 2 * g.monitorRoom + (rest.map fun v => v.category).sum ≤ W) (hl : W + 14 ≤ R.locals) (hcap : z.toNatClampNeg ≤ cap) (hc : cells + 1 ≤ R.cells) (hsl : slots + cap ≤ R.slots) :
    ∃ T' h', Stand p l e R s m args below meth c T' locs (cells + 1) (slots + cap) ∧ T'.heap = h' ∧ Ext h h' ∧ own_Arf Z h' h.size k ty z f ∧ Exa Z h' h.size ad ∧
      ∀ target, Steps p.tables e below (T'.setTop { g with pc := g.pc + 3, stack := .ref h.size :: rest }) target → Steps p.tables e below (T.setTop g) target := by
  obtain ⟨T', h', X', e', ex, A', E', st⟩ := cloneH X hx hZ hown w1 w2 w3 w4 w5 w6 eT (own_arfArv F .null).arh E hg hsize hst hd hf hW hl hcap hc hsl
  refine ⟨T', h', X', e', ex, own_arvArf (vs := (List.range z.toNatClampNeg).map f) (dv := .null) A' fun i hi => ?_, E', st⟩
  simp [List.getD_eq_getElem?_getD, hi]
end OwnNat
theorem own_len0 {args : Array Value} {s : State} {t : Term} {a : Addr} {c : Cell} {k : Int32} (h : (Jvm.Cond.eq (Term.length t) (Term.int k)).value args s none s [] = some true) (ev : t.eval args s none [] s = some (.ref a)) (A : Arr s s.heap a c .byte) : c.slots.size.toInt32 = k ∧ c.slots.size < 2 ^ 31 := by
  have e2 : (Term.int k).eval args s none [] s = some (.int k) := rfl
  cases hl : (Term.length t).eval args s none [] s with
  | none => simp [Cond.value, hl] at h
  | some v =>
    have hl' := hl
    obtain ⟨a', cell, q1, q2, rfl⟩ := Term.length_spec hl
    cases ev.symm.trans q1
    simp only [Cond.value, hl, e2] at h
    have hc : cell = c := by
      have : s.heap[a]? = some cell := by
        simp only [State.arrayAt?] at q2
        grind
      exact Option.some.inj (this.symm.trans A.1)
    subst hc
    simp only [Term.eval, ev, q2] at hl'
    refine ⟨of_decide_eq_true (Option.some.inj h), ?_⟩
    by_cases hb : cell.slots.size < 2 ^ 31
    · exact hb
    · simp [q2, hb] at hl'
theorem own_empty {args : Array Value} {s : State} {t : Term} {a : Addr} (hx : (Jvm.Cond.arrayOf t .byte).value args s none s [] = some true) (h : (Jvm.Cond.eq (Term.length t) (Term.int (0 : Int32))).value args s none s [] = some true) (ev : t.eval args s none [] s = some (.ref a)) : ∃ k, ∀ f : Nat → Value, own_Arf s s.heap a k .byte (0 : Int32) f := by
  obtain ⟨c, A⟩ := Arr.start ev hx
  obtain ⟨h1, h2⟩ := own_len0 h ev A
  have h3 : c.slots.size = 0 := by
    have := len_toInt h2
    rw [h1] at this
    have e : (0 : Int32).toInt = 0 := rfl
    omega
  exact ⟨c.cls, fun f => ⟨c, A, rfl, h3, by decide, fun i hi => by omega, fun i hi => by omega⟩⟩
def own_same (n m : Int32) (f g : Nat → Int32) (z : Int32) : Prop := (z = (1 : Int32) ∧ n = m ∧ ((0 : Int32) < m → f 0 = g 0) ∧ ((1 : Int32) < m → f 1 = g 1) ∧ ((2 : Int32) < m → f 2 = g 2)) ∨ (z = (0 : Int32) ∧ ¬ (n = m ∧ ((0 : Int32) < m → f 0 = g 0) ∧ ((1 : Int32) < m → f 1 = g 1) ∧ ((2 : Int32) < m → f 2 = g 2)))
theorem own_sameI (n : Int32) (f : Nat → Int32) (z : Int32) (h : own_same n n f f z) : z = (1 : Int32) := by
  rcases h with ⟨h, -⟩ | ⟨-, h⟩
  · exact h
  · exact absurd ⟨rfl, fun _ => rfl, fun _ => rfl, fun _ => rfl⟩ h
theorem own_same0 (f g : Nat → Int32) (z : Int32) (h : own_same (0 : Int32) (0 : Int32) f g z) : z = (1 : Int32) := by
  rcases h with ⟨h, -⟩ | ⟨-, h⟩
  · exact h
  · exact absurd ⟨rfl, fun q => absurd q (by decide), fun q => absurd q (by decide), fun q => absurd q (by decide)⟩ h
theorem own_a3 (x : Int32) : 0 ≤ (x &&& (3 : Int32)).toInt ∧ (x &&& (3 : Int32)).toInt ≤ 3 := by
  have h := c_and x 3 (by decide)
  have e : (3 : Int32).toInt = 3 := rfl
  omega
theorem own_narZ (z : Int32) (h : z = (0 : Int32) ∨ z = (1 : Int32)) : nar .boolean z = z := by rcases h with rfl | rfl <;> rfl
theorem d3_0 : decode prog_13_method_2_code 0 = .ok (.aload_n 0, 1) := by decide +kernel
theorem d3_1 : decode prog_13_method_2_code 1 = .ok (.invokespecial 11, 3) := by decide +kernel
theorem d3_4 : decode prog_13_method_2_code 4 = .ok (.aload_n 0, 1) := by decide +kernel
theorem d3_5 : decode prog_13_method_2_code 5 = .ok (.aload_n 1, 1) := by decide +kernel
theorem d3_6 : decode prog_13_method_2_code 6 = .ok (.putfield 16, 3) := by decide +kernel
theorem d3_9 : decode prog_13_method_2_code 9 = .ok (.aload_n 0, 1) := by decide +kernel
theorem d3_10 : decode prog_13_method_2_code 10 = .ok (.aload_n 2, 1) := by decide +kernel
theorem d3_11 : decode prog_13_method_2_code 11 = .ok (.putfield 20, 3) := by decide +kernel
theorem d3_14 : decode prog_13_method_2_code 14 = .ok (.aload_n 0, 1) := by decide +kernel
theorem d3_15 : decode prog_13_method_2_code 15 = .ok (.iload_n 3, 1) := by decide +kernel
theorem d3_16 : decode prog_13_method_2_code 16 = .ok (.putfield 23, 3) := by decide +kernel
theorem d3_19 : decode prog_13_method_2_code 19 = .ok (.aload_n 0, 1) := by decide +kernel
theorem d3_20 : decode prog_13_method_2_code 20 = .ok (.iload 4, 2) := by decide +kernel
theorem d3_22 : decode prog_13_method_2_code 22 = .ok (.putfield 27, 3) := by decide +kernel
theorem d3_25 : decode prog_13_method_2_code 25 = .ok (.aload_n 0, 1) := by decide +kernel
theorem d3_26 : decode prog_13_method_2_code 26 = .ok (.lload 5, 2) := by decide +kernel
theorem d3_28 : decode prog_13_method_2_code 28 = .ok (.putfield 30, 3) := by decide +kernel
theorem d3_31 : decode prog_13_method_2_code 31 = .ok (.return_, 1) := by decide +kernel
theorem pn_3 : plainName "com/example/nested_keyspace/nestedkeyspace/ScanOptions" = true := by first | (simp [plainName, overriddenIn]; done) | decide +kernel
theorem ef_3 (m : MethodId) (a0 : Addr) (r1 : Value) (r2 : Value) (p3 : Int32) (p4 : Int32) (q5 : Int64) (hr_r1 : r1.isRef = true) (hr_r2 : r2.isRef = true) : entryFrame m #[(.ref a0), r1, r2, (.int p3), (.int p4), (.long q5)] 7 = mkF m 0 #[.val (.ref a0), .val r1, .val r2, .val (.int p3), .val (.int p4), .val (.long q5), .second] [] := by
  rcases ref_cases hr_r1 with rfl | ⟨_, rfl⟩ <;> rcases ref_cases hr_r2 with rfl | ⟨_, rfl⟩ <;> first | (simp [entryFrame, mkF, argsToLocals, Value.category]; done) | rfl
def Q3 (Z : State) (a0 : Addr) (r1 : Value) (r2 : Value) (p3 : Int32) (p4 : Int32) (q5 : Int64) (f_a0_from : Value) (f_a0_to : Value) (f_a0_subtree : Int32) (f_a0_reverse : Int32) (f_a0_limit : Int64) (h0 : Heap) (n0 : Nat) (v : Option Value) (h : Heap) (L : List Loc) : Prop := v = none ∧ Fr n0 L ∧ Keep h0 h [a0] ∧ Exa Z h a0 "com/example/nested_keyspace/nestedkeyspace/ScanOptions" ∧ Fld Z h a0 "com/example/nested_keyspace/nestedkeyspace/ScanOptions" "from" "[B" r1 ∧ Fld Z h a0 "com/example/nested_keyspace/nestedkeyspace/ScanOptions" "to" "[B" r2 ∧ Fld Z h a0 "com/example/nested_keyspace/nestedkeyspace/ScanOptions" "subtree" "Z" (.int (nar .boolean p3)) ∧ Fld Z h a0 "com/example/nested_keyspace/nestedkeyspace/ScanOptions" "reverse" "Z" (.int (nar .boolean p4)) ∧ Fld Z h a0 "com/example/nested_keyspace/nestedkeyspace/ScanOptions" "limit" "J" (.long q5)
set_option maxRecDepth 65536 in
set_option maxHeartbeats 40000000 in
theorem rm3 (l : Launch) (Z : State) (A0 : Array Value) (hw : ∀ d ∈ tables_1, d.before A0 Z = true) (ws : List Jvm.Cond) (a0 : Addr) (r1 : Value) (r2 : Value) (p3 : Int32) (p4 : Int32) (q5 : Int64) (f_a0_from : Value) (f_a0_to : Value) (f_a0_subtree : Int32) (f_a0_reverse : Int32) (f_a0_limit : Int64) (h0 : Heap) (n0 : Nat) (Z0 : n0 ≤ h0.size) (hr_r1 : r1.isRef = true) (hr_r2 : r2.isRef = true) (P_E_a0 : Exa Z h0 a0 "com/example/nested_keyspace/nestedkeyspace/ScanOptions") (P_F_a0_from : Fld Z h0 a0 "com/example/nested_keyspace/nestedkeyspace/ScanOptions" "from" "[B" f_a0_from) (g_a0 : n0 ≤ a0) (P_F_a0_to : Fld Z h0 a0 "com/example/nested_keyspace/nestedkeyspace/ScanOptions" "to" "[B" f_a0_to) (P_F_a0_subtree : Fld Z h0 a0 "com/example/nested_keyspace/nestedkeyspace/ScanOptions" "subtree" "Z" (.int f_a0_subtree)) (P_F_a0_reverse : Fld Z h0 a0 "com/example/nested_keyspace/nestedkeyspace/ScanOptions" "reverse" "Z" (.int f_a0_reverse)) (P_F_a0_limit : Fld Z h0 a0 "com/example/nested_keyspace/nestedkeyspace/ScanOptions" "limit" "J" (.long f_a0_limit)) :
    MetFree l (⟨"com/example/nested_keyspace/nestedkeyspace/ScanOptions", "<init>", "([B[BZZJ)V"⟩ : MethodName) (head1 (Jvm.Cond.code (⟨"com/example/nested_keyspace/nestedkeyspace/ScanOptions", "<init>", "([B[BZZJ)V"⟩ : MethodName) prog_13_method_2_code 7 none :: ws) ({ frames := 1, cells := 0, slots := 0, locals := 12 } : Room)) (fun a U => a = #[(.ref a0), r1, r2, (.int p3), (.int p4), (.long q5)] ∧ Z.Warmed39 U.vm ∧ U.heap = h0) (fun _ _ _ _ _ => True) (fun _ U o U' => ∃ v L, o = .returned v ∧ Q3 Z a0 r1 r2 p3 p4 q5 f_a0_from f_a0_to f_a0_subtree f_a0_reverse f_a0_limit h0 n0 v U'.heap L ∧ FrameEnd U o U' L 0 0) := by
  refine MetFree.of_bodySF (plainFor_of_name pn_3) hisR ?_
  intro p e s m args below meth c s₁ Bd hml0 hP hK
  obtain ⟨rfl, hZ, hh⟩ := hP
  have hwd := fun i {d : Jvm.Cond} (h : tables_1[i]? = some d) => hw d (List.mem_of_getElem? h)
  have hx := Bd.exec
  have hby := Bd.bytes
  have hml : c.maxLocals = 7 := hml0
  have hlk : meth.locks = false := Bd.notSynchronized
  have hown : s.vm.findClass "com/example/nested_keyspace/nestedkeyspace/ScanOptions" = some m.cls := findClass_of_methodNamed Bd.named
  have hnm := (name_of_methodNamed Bd.named Bd.method).1
  have X0 : Stand p l e ({ frames := 1, cells := 0, slots := 0, locals := 12 } : Room) s m #[(.ref a0), r1, r2, (.int p3), (.int p4), (.long q5)] below meth c s₁ [] 0 0 := Stand.of_body Bd
  have e0 : s₁.heap = h0 := by rw [← hh, Bd.state]; rfl
  have N0 := Fr.nil n0
  show own_Go p e below (own_Fin s 0 0 (Q3 Z a0 r1 r2 p3 p4 q5 f_a0_from f_a0_to f_a0_subtree f_a0_reverse f_a0_limit h0 n0)) _
  refine own_by (fun t k => castTop (ef_3 m a0 r1 r2 p3 p4 q5 hr_r1 hr_r2) k) ?_
  show own_Go p e below _ (s₁.setTop (mkF m 0 #[.val (.ref a0), .val r1, .val r2, .val (.int p3), .val (.int p4), .val (.long q5), .second] []))
  refine own_by (fun _ k => XS.aloadN X0.here hx rfl (hb hby d3_0) rfl rfl k) ?_
  show own_Go p e below _ (s₁.setTop (mkF m 1 #[.val (.ref a0), .val r1, .val r2, .val (.int p3), .val (.int p4), .val (.long q5), .second] [(.ref a0)]))
  obtain ⟨T1, X1, e1, st1⟩ := initO X0 hx hZ hown (hwd 16 rfl) (hwd 17 rfl) (hwd 18 rfl) e0 (g := (mkF m 1 #[.val (.ref a0), .val r1, .val r2, .val (.int p3), .val (.int p4), .val (.long q5), .second] [(.ref a0)])) rfl (by rw [hml]; rfl) rfl (hb hby d3_1) (by decide) (W := 0) (by show 2 * 0 + _ ≤ _; exact Nat.le_of_eq rfl) (by decide)
  refine own_by st1 ?_
  show own_Go p e below _ (T1.setTop (mkF m 4 #[.val (.ref a0), .val r1, .val r2, .val (.int p3), .val (.int p4), .val (.long q5), .second] []))
  refine own_by (fun _ k => XS.aloadN X1.here hx rfl (hb hby d3_4) rfl rfl k) ?_
  show own_Go p e below _ (T1.setTop (mkF m 5 #[.val (.ref a0), .val r1, .val r2, .val (.int p3), .val (.int p4), .val (.long q5), .second] [(.ref a0)]))
  refine own_by (fun _ k => XS.aloadN X1.here hx rfl (hb hby d3_5) rfl hr_r1 k) ?_
  show own_Go p e below _ (T1.setTop (mkF m 6 #[.val (.ref a0), .val r1, .val r2, .val (.int p3), .val (.int p4), .val (.long q5), .second] [r1, (.ref a0)]))
  obtain ⟨T2, h2, X2, e2, W2, st2⟩ := putF X1 hx hZ hown (host := "") (Or.inl (hwd 19 rfl)) Via.refl e1 P_F_a0_from P_E_a0 (Or.inr ⟨(hwd 20 rfl), rfl, hnm⟩) (hwd 7 rfl) (ty := (.array .byte)) (by decide) rfl (own_fitR hr_r1) (g := (mkF m 6 #[.val (.ref a0), .val r1, .val r2, .val (.int p3), .val (.int p4), .val (.long q5), .second] [r1, (.ref a0)])) rfl rfl (hb hby d3_6)
  have Fw2 : Fld Z h2 a0 "com/example/nested_keyspace/nestedkeyspace/ScanOptions" "from" "[B" r1 := P_F_a0_from.same W2
  have K2 : Keep h0 h2 [a0] := (Keep.refl h0 [a0]).wr W2 (Or.inl (List.mem_of_getElem? (i := 0) rfl))
  have Z2 : n0 ≤ h2.size := Nat.le_trans Z0 (Keep.of_wr W2).1
  have N2 := Fr.snoc X2 N0 g_a0
  refine own_by st2 ?_
  show own_Go p e below _ (T2.setTop (mkF m 9 #[.val (.ref a0), .val r1, .val r2, .val (.int p3), .val (.int p4), .val (.long q5), .second] []))
  refine own_by (fun _ k => XS.aloadN X2.here hx rfl (hb hby d3_9) rfl rfl k) ?_
  show own_Go p e below _ (T2.setTop (mkF m 10 #[.val (.ref a0), .val r1, .val r2, .val (.int p3), .val (.int p4), .val (.long q5), .second] [(.ref a0)]))
  refine own_by (fun _ k => XS.aloadN X2.here hx rfl (hb hby d3_10) rfl hr_r2 k) ?_
  show own_Go p e below _ (T2.setTop (mkF m 11 #[.val (.ref a0), .val r1, .val r2, .val (.int p3), .val (.int p4), .val (.long q5), .second] [r2, (.ref a0)]))
  have F3 : Exa Z h2 a0 "com/example/nested_keyspace/nestedkeyspace/ScanOptions" := (P_E_a0.wr W2)
  have F4 : Fld Z h2 a0 "com/example/nested_keyspace/nestedkeyspace/ScanOptions" "to" "[B" f_a0_to := (P_F_a0_to.other W2 (Or.inr (slot_ne (Or.inr (hwd 22 rfl)) (Or.inr (hwd 20 rfl)) (by decide) (t := (.array .byte)) (t' := (.array .byte)) (by decide) (by decide))))
  obtain ⟨T5, h5, X5, e5, W5, st5⟩ := putF X2 hx hZ hown (host := "") (Or.inl (hwd 21 rfl)) Via.refl e2 F4 F3 (Or.inr ⟨(hwd 22 rfl), rfl, hnm⟩) (hwd 7 rfl) (ty := (.array .byte)) (by decide) rfl (own_fitR hr_r2) (g := (mkF m 11 #[.val (.ref a0), .val r1, .val r2, .val (.int p3), .val (.int p4), .val (.long q5), .second] [r2, (.ref a0)])) rfl rfl (hb hby d3_11)
  have Fw5 : Fld Z h5 a0 "com/example/nested_keyspace/nestedkeyspace/ScanOptions" "to" "[B" r2 := F4.same W5
  have K5 : Keep h0 h5 [a0] := K2.wr W5 (Or.inl (List.mem_of_getElem? (i := 0) rfl))
  have Z5 : n0 ≤ h5.size := Nat.le_trans Z2 (Keep.of_wr W5).1
  have N5 := Fr.snoc X5 N2 g_a0
  refine own_by st5 ?_
  show own_Go p e below _ (T5.setTop (mkF m 14 #[.val (.ref a0), .val r1, .val r2, .val (.int p3), .val (.int p4), .val (.long q5), .second] []))
  refine own_by (fun _ k => XS.aloadN X5.here hx rfl (hb hby d3_14) rfl rfl k) ?_
  show own_Go p e below _ (T5.setTop (mkF m 15 #[.val (.ref a0), .val r1, .val r2, .val (.int p3), .val (.int p4), .val (.long q5), .second] [(.ref a0)]))
  refine own_by (fun _ k => XS.iloadN X5.here hx rfl (hb hby d3_15) rfl k) ?_
  show own_Go p e below _ (T5.setTop (mkF m 16 #[.val (.ref a0), .val r1, .val r2, .val (.int p3), .val (.int p4), .val (.long q5), .second] [(.int p3), (.ref a0)]))
  have F6 : Exa Z h5 a0 "com/example/nested_keyspace/nestedkeyspace/ScanOptions" := (F3.wr W5)
  have F7 : Fld Z h5 a0 "com/example/nested_keyspace/nestedkeyspace/ScanOptions" "subtree" "Z" (.int f_a0_subtree) := ((P_F_a0_subtree.other W2 (Or.inr (slot_ne (Or.inr (hwd 24 rfl)) (Or.inr (hwd 20 rfl)) (by decide) (t := .boolean) (t' := (.array .byte)) (by decide) (by decide)))).other W5 (Or.inr (slot_ne (Or.inr (hwd 24 rfl)) (Or.inr (hwd 22 rfl)) (by decide) (t := .boolean) (t' := (.array .byte)) (by decide) (by decide))))
  obtain ⟨T8, h8, X8, e8, W8, st8⟩ := putFN X5 hx hZ hown (hwd 23 rfl) Via.refl e5 F7 F6 (Or.inr ⟨(hwd 24 rfl), rfl, hnm⟩) (hwd 7 rfl) (ty := .boolean) (v' := (.int (nar .boolean p3))) (by decide) rfl (fits_nar_bool _) (g := (mkF m 16 #[.val (.ref a0), .val r1, .val r2, .val (.int p3), .val (.int p4), .val (.long q5), .second] [(.int p3), (.ref a0)])) rfl rfl (hb hby d3_16)
  have Fw8 : Fld Z h8 a0 "com/example/nested_keyspace/nestedkeyspace/ScanOptions" "subtree" "Z" (.int (nar .boolean p3)) := F7.same W8
  have K8 : Keep h0 h8 [a0] := K5.wr W8 (Or.inl (List.mem_of_getElem? (i := 0) rfl))
  have Z8 : n0 ≤ h8.size := Nat.le_trans Z5 (Keep.of_wr W8).1
  have N8 := Fr.snoc X8 N5 g_a0
  refine own_by st8 ?_
  show own_Go p e below _ (T8.setTop (mkF m 19 #[.val (.ref a0), .val r1, .val r2, .val (.int p3), .val (.int p4), .val (.long q5), .second] []))
  refine own_by (fun _ k => XS.aloadN X8.here hx rfl (hb hby d3_19) rfl rfl k) ?_
  show own_Go p e below _ (T8.setTop (mkF m 20 #[.val (.ref a0), .val r1, .val r2, .val (.int p3), .val (.int p4), .val (.long q5), .second] [(.ref a0)]))
  refine own_by (fun _ k => XS.iload X8.here hx rfl (hb hby d3_20) rfl k) ?_
  show own_Go p e below _ (T8.setTop (mkF m 22 #[.val (.ref a0), .val r1, .val r2, .val (.int p3), .val (.int p4), .val (.long q5), .second] [(.int p4), (.ref a0)]))
  have F9 : Exa Z h8 a0 "com/example/nested_keyspace/nestedkeyspace/ScanOptions" := (F6.wr W8)
  have F10 : Fld Z h8 a0 "com/example/nested_keyspace/nestedkeyspace/ScanOptions" "reverse" "Z" (.int f_a0_reverse) := (((P_F_a0_reverse.other W2 (Or.inr (slot_ne (Or.inr (hwd 26 rfl)) (Or.inr (hwd 20 rfl)) (by decide) (t := .boolean) (t' := (.array .byte)) (by decide) (by decide)))).other W5 (Or.inr (slot_ne (Or.inr (hwd 26 rfl)) (Or.inr (hwd 22 rfl)) (by decide) (t := .boolean) (t' := (.array .byte)) (by decide) (by decide)))).other W8 (Or.inr (slot_ne (Or.inr (hwd 26 rfl)) (Or.inr (hwd 24 rfl)) (by decide) (t := .boolean) (t' := .boolean) (by decide) (by decide))))
  obtain ⟨T11, h11, X11, e11, W11, st11⟩ := putFN X8 hx hZ hown (hwd 25 rfl) Via.refl e8 F10 F9 (Or.inr ⟨(hwd 26 rfl), rfl, hnm⟩) (hwd 7 rfl) (ty := .boolean) (v' := (.int (nar .boolean p4))) (by decide) rfl (fits_nar_bool _) (g := (mkF m 22 #[.val (.ref a0), .val r1, .val r2, .val (.int p3), .val (.int p4), .val (.long q5), .second] [(.int p4), (.ref a0)])) rfl rfl (hb hby d3_22)
  have Fw11 : Fld Z h11 a0 "com/example/nested_keyspace/nestedkeyspace/ScanOptions" "reverse" "Z" (.int (nar .boolean p4)) := F10.same W11
  have K11 : Keep h0 h11 [a0] := K8.wr W11 (Or.inl (List.mem_of_getElem? (i := 0) rfl))
  have Z11 : n0 ≤ h11.size := Nat.le_trans Z8 (Keep.of_wr W11).1
  have N11 := Fr.snoc X11 N8 g_a0
  refine own_by st11 ?_
  show own_Go p e below _ (T11.setTop (mkF m 25 #[.val (.ref a0), .val r1, .val r2, .val (.int p3), .val (.int p4), .val (.long q5), .second] []))
  refine own_by (fun _ k => XS.aloadN X11.here hx rfl (hb hby d3_25) rfl rfl k) ?_
  show own_Go p e below _ (T11.setTop (mkF m 26 #[.val (.ref a0), .val r1, .val r2, .val (.int p3), .val (.int p4), .val (.long q5), .second] [(.ref a0)]))
  refine own_by (fun _ k => XS.lload X11.here hx rfl (hb hby d3_26) rfl k) ?_
  show own_Go p e below _ (T11.setTop (mkF m 28 #[.val (.ref a0), .val r1, .val r2, .val (.int p3), .val (.int p4), .val (.long q5), .second] [(.long q5), (.ref a0)]))
  have F12 : Exa Z h11 a0 "com/example/nested_keyspace/nestedkeyspace/ScanOptions" := (F9.wr W11)
  have F13 : Fld Z h11 a0 "com/example/nested_keyspace/nestedkeyspace/ScanOptions" "limit" "J" (.long f_a0_limit) := ((((P_F_a0_limit.other W2 (Or.inr (slot_ne (Or.inr (hwd 28 rfl)) (Or.inr (hwd 20 rfl)) (by decide) (t := .long) (t' := (.array .byte)) (by decide) (by decide)))).other W5 (Or.inr (slot_ne (Or.inr (hwd 28 rfl)) (Or.inr (hwd 22 rfl)) (by decide) (t := .long) (t' := (.array .byte)) (by decide) (by decide)))).other W8 (Or.inr (slot_ne (Or.inr (hwd 28 rfl)) (Or.inr (hwd 24 rfl)) (by decide) (t := .long) (t' := .boolean) (by decide) (by decide)))).other W11 (Or.inr (slot_ne (Or.inr (hwd 28 rfl)) (Or.inr (hwd 26 rfl)) (by decide) (t := .long) (t' := .boolean) (by decide) (by decide))))
  obtain ⟨T14, h14, X14, e14, W14, st14⟩ := putF X11 hx hZ hown (host := "") (Or.inl (hwd 27 rfl)) Via.refl e11 F13 F12 (Or.inr ⟨(hwd 28 rfl), rfl, hnm⟩) (hwd 7 rfl) (ty := .long) (by decide) rfl rfl (g := (mkF m 28 #[.val (.ref a0), .val r1, .val r2, .val (.int p3), .val (.int p4), .val (.long q5), .second] [(.long q5), (.ref a0)])) rfl rfl (hb hby d3_28)
  have Fw14 : Fld Z h14 a0 "com/example/nested_keyspace/nestedkeyspace/ScanOptions" "limit" "J" (.long q5) := F13.same W14
  have K14 : Keep h0 h14 [a0] := K11.wr W14 (Or.inl (List.mem_of_getElem? (i := 0) rfl))
  have Z14 : n0 ≤ h14.size := Nat.le_trans Z11 (Keep.of_wr W14).1
  have N14 := Fr.snoc X14 N11 g_a0
  refine own_by st14 ?_
  show own_Go p e below _ (T14.setTop (mkF m 31 #[.val (.ref a0), .val r1, .val r2, .val (.int p3), .val (.int p4), .val (.long q5), .second] []))
  have F15 : Exa Z h14 a0 "com/example/nested_keyspace/nestedkeyspace/ScanOptions" := (F12.wr W14)
  have F16 : Fld Z h14 a0 "com/example/nested_keyspace/nestedkeyspace/ScanOptions" "from" "[B" r1 := ((((Fw2.other W5 (Or.inr (slot_ne (Or.inr (hwd 20 rfl)) (Or.inr (hwd 22 rfl)) (by decide) (t := (.array .byte)) (t' := (.array .byte)) (by decide) (by decide)))).other W8 (Or.inr (slot_ne (Or.inr (hwd 20 rfl)) (Or.inr (hwd 24 rfl)) (by decide) (t := (.array .byte)) (t' := .boolean) (by decide) (by decide)))).other W11 (Or.inr (slot_ne (Or.inr (hwd 20 rfl)) (Or.inr (hwd 26 rfl)) (by decide) (t := (.array .byte)) (t' := .boolean) (by decide) (by decide)))).other W14 (Or.inr (slot_ne (Or.inr (hwd 20 rfl)) (Or.inr (hwd 28 rfl)) (by decide) (t := (.array .byte)) (t' := .long) (by decide) (by decide))))
  have F17 : Fld Z h14 a0 "com/example/nested_keyspace/nestedkeyspace/ScanOptions" "to" "[B" r2 := (((Fw5.other W8 (Or.inr (slot_ne (Or.inr (hwd 22 rfl)) (Or.inr (hwd 24 rfl)) (by decide) (t := (.array .byte)) (t' := .boolean) (by decide) (by decide)))).other W11 (Or.inr (slot_ne (Or.inr (hwd 22 rfl)) (Or.inr (hwd 26 rfl)) (by decide) (t := (.array .byte)) (t' := .boolean) (by decide) (by decide)))).other W14 (Or.inr (slot_ne (Or.inr (hwd 22 rfl)) (Or.inr (hwd 28 rfl)) (by decide) (t := (.array .byte)) (t' := .long) (by decide) (by decide))))
  have F18 : Fld Z h14 a0 "com/example/nested_keyspace/nestedkeyspace/ScanOptions" "subtree" "Z" (.int (nar .boolean p3)) := ((Fw8.other W11 (Or.inr (slot_ne (Or.inr (hwd 24 rfl)) (Or.inr (hwd 26 rfl)) (by decide) (t := .boolean) (t' := .boolean) (by decide) (by decide)))).other W14 (Or.inr (slot_ne (Or.inr (hwd 24 rfl)) (Or.inr (hwd 28 rfl)) (by decide) (t := .boolean) (t' := .long) (by decide) (by decide))))
  have F19 : Fld Z h14 a0 "com/example/nested_keyspace/nestedkeyspace/ScanOptions" "reverse" "Z" (.int (nar .boolean p4)) := (Fw11.other W14 (Or.inr (slot_ne (Or.inr (hwd 26 rfl)) (Or.inr (hwd 28 rfl)) (by decide) (t := .boolean) (t' := .long) (by decide) (by decide))))
  exact own_ret0 X14 hx Bd.returns (hb hby d3_31) hlk e14 ⟨rfl, N14, K14, F15, F16, F17, F18, F19, Fw14⟩ (by decide) (by decide)
theorem pd_13 : parseMethodDescriptor "([B[BZZJ)V" = some ⟨[(.array .byte), (.array .byte), .boolean, .boolean, .long], none⟩ := by decide +kernel
theorem d2_0 : decode prog_13_method_1_code 0 = .ok (.aload_n 0, 1) := by decide +kernel
theorem d2_1 : decode prog_13_method_1_code 1 = .ok (.aconst_null, 1) := by decide +kernel
theorem d2_2 : decode prog_13_method_1_code 2 = .ok (.aconst_null, 1) := by decide +kernel
theorem d2_3 : decode prog_13_method_1_code 3 = .ok (.iconst 0, 1) := by decide +kernel
theorem d2_4 : decode prog_13_method_1_code 4 = .ok (.iconst 0, 1) := by decide +kernel
theorem d2_5 : decode prog_13_method_1_code 5 = .ok (.ldc2_w 3, 3) := by decide +kernel
theorem d2_8 : decode prog_13_method_1_code 8 = .ok (.invokespecial 5, 3) := by decide +kernel
theorem d2_11 : decode prog_13_method_1_code 11 = .ok (.return_, 1) := by decide +kernel
theorem pn_2 : plainName "com/example/nested_keyspace/nestedkeyspace/ScanOptions" = true := by first | (simp [plainName, overriddenIn]; done) | decide +kernel
theorem ef_2 (m : MethodId) (a0 : Addr) : entryFrame m #[(.ref a0)] 1 = mkF m 0 #[.val (.ref a0)] [] := by first | (simp [entryFrame, mkF, argsToLocals, Value.category]; done) | rfl
def Q2 (Z : State) (a0 : Addr) (f_a0_from : Value) (f_a0_to : Value) (f_a0_subtree : Int32) (f_a0_reverse : Int32) (f_a0_limit : Int64) (h0 : Heap) (n0 : Nat) (v : Option Value) (h : Heap) (L : List Loc) : Prop := v = none ∧ Fr n0 L ∧ Keep h0 h [a0] ∧ Exa Z h a0 "com/example/nested_keyspace/nestedkeyspace/ScanOptions" ∧ Fld Z h a0 "com/example/nested_keyspace/nestedkeyspace/ScanOptions" "from" "[B" .null ∧ Fld Z h a0 "com/example/nested_keyspace/nestedkeyspace/ScanOptions" "to" "[B" .null ∧ Fld Z h a0 "com/example/nested_keyspace/nestedkeyspace/ScanOptions" "subtree" "Z" (.int (0 : Int32)) ∧ Fld Z h a0 "com/example/nested_keyspace/nestedkeyspace/ScanOptions" "reverse" "Z" (.int (0 : Int32)) ∧ Fld Z h a0 "com/example/nested_keyspace/nestedkeyspace/ScanOptions" "limit" "J" (.long (9223372036854775807 : Int64))
set_option maxRecDepth 65536 in
set_option maxHeartbeats 40000000 in
theorem rm2 (l : Launch) (Z : State) (A0 : Array Value) (hw : ∀ d ∈ tables_1, d.before A0 Z = true) (ws : List Jvm.Cond) (a0 : Addr) (f_a0_from : Value) (f_a0_to : Value) (f_a0_subtree : Int32) (f_a0_reverse : Int32) (f_a0_limit : Int64) (h0 : Heap) (n0 : Nat) (Z0 : n0 ≤ h0.size) (P_E_a0 : Exa Z h0 a0 "com/example/nested_keyspace/nestedkeyspace/ScanOptions") (P_F_a0_from : Fld Z h0 a0 "com/example/nested_keyspace/nestedkeyspace/ScanOptions" "from" "[B" f_a0_from) (P_F_a0_to : Fld Z h0 a0 "com/example/nested_keyspace/nestedkeyspace/ScanOptions" "to" "[B" f_a0_to) (P_F_a0_subtree : Fld Z h0 a0 "com/example/nested_keyspace/nestedkeyspace/ScanOptions" "subtree" "Z" (.int f_a0_subtree)) (P_F_a0_reverse : Fld Z h0 a0 "com/example/nested_keyspace/nestedkeyspace/ScanOptions" "reverse" "Z" (.int f_a0_reverse)) (P_F_a0_limit : Fld Z h0 a0 "com/example/nested_keyspace/nestedkeyspace/ScanOptions" "limit" "J" (.long f_a0_limit)) (g_a0 : n0 ≤ a0) :
    MetFree l (⟨"com/example/nested_keyspace/nestedkeyspace/ScanOptions", "<init>", "()V"⟩ : MethodName) (head1 (Jvm.Cond.code (⟨"com/example/nested_keyspace/nestedkeyspace/ScanOptions", "<init>", "()V"⟩ : MethodName) prog_13_method_1_code 1 none :: ws) ({ frames := 2, cells := 0, slots := 0, locals := 30 } : Room)) (fun a U => a = #[(.ref a0)] ∧ Z.Warmed39 U.vm ∧ U.heap = h0) (fun _ _ _ _ _ => True) (fun _ U o U' => ∃ v L, o = .returned v ∧ Q2 Z a0 f_a0_from f_a0_to f_a0_subtree f_a0_reverse f_a0_limit h0 n0 v U'.heap L ∧ FrameEnd U o U' L 0 0) := by
  refine MetFree.of_bodySF (plainFor_of_name pn_2) hisR ?_
  intro p e s m args below meth c s₁ Bd hml0 hP hK
  obtain ⟨rfl, hZ, hh⟩ := hP
  have hwd := fun i {d : Jvm.Cond} (h : tables_1[i]? = some d) => hw d (List.mem_of_getElem? h)
  have hx := Bd.exec
  have hby := Bd.bytes
  have hml : c.maxLocals = 1 := hml0
  have hlk : meth.locks = false := Bd.notSynchronized
  have hown : s.vm.findClass "com/example/nested_keyspace/nestedkeyspace/ScanOptions" = some m.cls := findClass_of_methodNamed Bd.named
  have hnm := (name_of_methodNamed Bd.named Bd.method).1
  have X0 : Stand p l e ({ frames := 2, cells := 0, slots := 0, locals := 30 } : Room) s m #[(.ref a0)] below meth c s₁ [] 0 0 := Stand.of_body Bd
  have e0 : s₁.heap = h0 := by rw [← hh, Bd.state]; rfl
  have N0 := Fr.nil n0
  show own_Go p e below (own_Fin s 0 0 (Q2 Z a0 f_a0_from f_a0_to f_a0_subtree f_a0_reverse f_a0_limit h0 n0)) _
  refine own_by (fun t k => castTop (ef_2 m a0) k) ?_
  show own_Go p e below _ (s₁.setTop (mkF m 0 #[.val (.ref a0)] []))
  refine own_by (fun _ k => XS.aloadN X0.here hx rfl (hb hby d2_0) rfl rfl k) ?_
  show own_Go p e below _ (s₁.setTop (mkF m 1 #[.val (.ref a0)] [(.ref a0)]))
  refine own_by (fun _ k => XS.aconstNull X0.here hx rfl (hb hby d2_1) k) ?_
  show own_Go p e below _ (s₁.setTop (mkF m 2 #[.val (.ref a0)] [.null, (.ref a0)]))
  refine own_by (fun _ k => XS.aconstNull X0.here hx rfl (hb hby d2_2) k) ?_
  show own_Go p e below _ (s₁.setTop (mkF m 3 #[.val (.ref a0)] [.null, .null, (.ref a0)]))
  refine own_by (fun _ k => XS.iconst X0.here hx rfl (hb hby d2_3) k) ?_
  show own_Go p e below _ (s₁.setTop (mkF m 4 #[.val (.ref a0)] [(.int (0 : Int32)), .null, .null, (.ref a0)]))
  refine own_by (fun _ k => XS.iconst X0.here hx rfl (hb hby d2_4) k) ?_
  show own_Go p e below _ (s₁.setTop (mkF m 5 #[.val (.ref a0)] [(.int (0 : Int32)), (.int (0 : Int32)), .null, .null, (.ref a0)]))
  refine own_by (fun t k => X0.ldc2Long hx hown (mvT hZ (hwd 12 rfl)) (g := (mkF m 5 #[.val (.ref a0)] [(.int (0 : Int32)), (.int (0 : Int32)), .null, .null, (.ref a0)])) rfl (hb hby d2_5) _ k) ?_
  show own_Go p e below _ (s₁.setTop (mkF m 8 #[.val (.ref a0)] [(.long (9223372036854775807 : Int64)), (.int (0 : Int32)), (.int (0 : Int32)), .null, .null, (.ref a0)]))
  obtain ⟨_, _, ⟨T1, L1, k1, n1⟩, -, X1, ⟨Lc1, hQ1, l1, y1, z1⟩, st1⟩ := X0.specialBack hx (y := (⟨"com/example/nested_keyspace/nestedkeyspace/ScanOptions", "<init>", "([B[BZZJ)V"⟩ : MethodName)) rfl hown (mvT hZ (hwd 13 rfl)) (mvT hZ (hwd 14 rfl)) (mvT hZ (hwd 15 rfl)) (by decide) (backOf (W := 0) (rm3 l Z A0 hw [] a0 (.null) (.null) (0 : Int32) (0 : Int32) (9223372036854775807 : Int64) f_a0_from f_a0_to f_a0_subtree f_a0_reverse f_a0_limit h0 n0 Z0 rfl rfl P_E_a0 P_F_a0_from g_a0 P_F_a0_to P_F_a0_subtree P_F_a0_reverse P_F_a0_limit) hZ (hwd 15 rfl) (hwd 8 rfl) (by decide) (by decide)) (g := (mkF m 8 #[.val (.ref a0)] [(.long (9223372036854775807 : Int64)), (.int (0 : Int32)), (.int (0 : Int32)), .null, .null, (.ref a0)])) rfl (by rw [hml]; rfl) (Steps.refl _) (a := a0) (argsL := [.null, .null, (.int (0 : Int32)), (.int (0 : Int32)), (.long (9223372036854775807 : Int64))]) (rest := []) (lenOf pd_13 rfl) rfl (by show 2 * 0 + _ ≤ _; exact Nat.le_of_eq rfl) (hb hby d2_8) (fun _ _ => ⟨rfl, e0, (by decide : 0 + 0 ≤ _), (by decide : 0 + 0 ≤ _)⟩)
  dsimp only [Pt.U, Pt.locs, Pt.cells, Pt.slots] at X1 l1 y1 z1 st1 hQ1
  subst l1 y1 z1
  obtain ⟨rfl, Nq1, Kq1, F2, F3, F4, F5, F6, F7⟩ := hQ1
  have N1 := Fr.app N0 Nq1
  have K1 : Keep h0 T1.heap [a0] := (Keep.refl h0 [a0]).trans Kq1 ((allS (Or.inl (List.mem_of_getElem? (i := 0) rfl)) all0))
  have Z1 : n0 ≤ T1.heap.size := Nat.le_trans Z0 Kq1.1
  refine own_by (fun _ k => st1.trans k) ?_
  show own_Go p e below _ (T1.setTop (mkF m 11 #[.val (.ref a0)] []))
  exact own_ret0 X1 hx Bd.returns (hb hby d2_11) hlk rfl ⟨rfl, N1, K1, F2, F3, F4, F5, F6, F7⟩ (by decide) (by decide)
theorem d13_0 : decode prog_13_method_13_code 0 = .ok (.aload_n 0, 1) := by decide +kernel
theorem d13_1 : decode prog_13_method_13_code 1 = .ok (.getfield 23, 3) := by decide +kernel
theorem d13_4 : decode prog_13_method_13_code 4 = .ok (.ifCond .eq 7, 3) := by decide +kernel
theorem d13_11 : decode prog_13_method_13_code 11 = .ok (.return_, 1) := by decide +kernel
theorem pn_13 : plainName "com/example/nested_keyspace/nestedkeyspace/ScanOptions" = true := by first | (simp [plainName, overriddenIn]; done) | decide +kernel
theorem ef_13 (m : MethodId) (a0 : Addr) : entryFrame m #[(.ref a0)] 1 = mkF m 0 #[.val (.ref a0)] [] := by first | (simp [entryFrame, mkF, argsToLocals, Value.category]; done) | rfl
def Q13 (Z : State) (a0 : Addr) (h0 : Heap) (n0 : Nat) (v : Option Value) (h : Heap) (L : List Loc) : Prop := v = none ∧ Fr n0 L ∧ h = h0
set_option maxRecDepth 65536 in
set_option maxHeartbeats 40000000 in
theorem rm13 (l : Launch) (Z : State) (A0 : Array Value) (hw : ∀ d ∈ tables_1, d.before A0 Z = true) (ws : List Jvm.Cond) (a0 : Addr) (h0 : Heap) (n0 : Nat) (Z0 : n0 ≤ h0.size) (P_F_a0_subtree : Fld Z h0 a0 "com/example/nested_keyspace/nestedkeyspace/ScanOptions" "subtree" "Z" (.int (0 : Int32))) :
    MetFree l (⟨"com/example/nested_keyspace/nestedkeyspace/ScanOptions", "refuseWithSubtree", "()V"⟩ : MethodName) (head1 (Jvm.Cond.code (⟨"com/example/nested_keyspace/nestedkeyspace/ScanOptions", "refuseWithSubtree", "()V"⟩ : MethodName) prog_13_method_13_code 1 none :: ws) ({ frames := 0, cells := 0, slots := 0, locals := 0 } : Room)) (fun a U => a = #[(.ref a0)] ∧ Z.Warmed39 U.vm ∧ U.heap = h0) (fun _ _ _ _ _ => True) (fun _ U o U' => ∃ v L, o = .returned v ∧ Q13 Z a0 h0 n0 v U'.heap L ∧ FrameEnd U o U' L 0 0) := by
  refine MetFree.of_bodySF (plainFor_of_name pn_13) hisR ?_
  intro p e s m args below meth c s₁ Bd hml0 hP hK
  obtain ⟨rfl, hZ, hh⟩ := hP
  have hwd := fun i {d : Jvm.Cond} (h : tables_1[i]? = some d) => hw d (List.mem_of_getElem? h)
  have hx := Bd.exec
  have hby := Bd.bytes
  have hml : c.maxLocals = 1 := hml0
  have hlk : meth.locks = false := Bd.notSynchronized
  have hown : s.vm.findClass "com/example/nested_keyspace/nestedkeyspace/ScanOptions" = some m.cls := findClass_of_methodNamed Bd.named
  have hnm := (name_of_methodNamed Bd.named Bd.method).1
  have X0 : Stand p l e ({ frames := 0, cells := 0, slots := 0, locals := 0 } : Room) s m #[(.ref a0)] below meth c s₁ [] 0 0 := Stand.of_body Bd
  have e0 : s₁.heap = h0 := by rw [← hh, Bd.state]; rfl
  have N0 := Fr.nil n0
  show own_Go p e below (own_Fin s 0 0 (Q13 Z a0 h0 n0)) _
  refine own_by (fun t k => castTop (ef_13 m a0) k) ?_
  show own_Go p e below _ (s₁.setTop (mkF m 0 #[.val (.ref a0)] []))
  refine own_by (fun _ k => XS.aloadN X0.here hx rfl (hb hby d13_0) rfl rfl k) ?_
  show own_Go p e below _ (s₁.setTop (mkF m 1 #[.val (.ref a0)] [(.ref a0)]))
  obtain ⟨T1, X1, e1, st1⟩ := getF X0 hx hZ hown (host := "") (Or.inl (hwd 23 rfl)) Via.refl e0 P_F_a0_subtree (g := (mkF m 1 #[.val (.ref a0)] [(.ref a0)])) rfl rfl (hb hby d13_1)
  refine own_by st1 ?_
  show own_Go p e below _ (T1.setTop (mkF m 4 #[.val (.ref a0)] [(.int (0 : Int32))]))
  refine own_by (fun _ k => XS.ifYes X1.here hx rfl (pc0 := 4) (pc' := 11) rfl (hb hby d13_4) rfl ((if0 _ _).trans (teq (by decide : (0 : Int32) = (0 : Int32))).1) (by decide) (by decide) k) ?_
  show own_Go p e below _ (T1.setTop (mkF m 11 #[.val (.ref a0)] []))
  exact own_ret0 X1 hx Bd.returns (hb hby d13_11) hlk e1 ⟨rfl, N0, rfl⟩ (by decide) (by decide)
theorem pd_9 : parseMethodDescriptor "()V" = some ⟨[], none⟩ := by decide +kernel
theorem d12_0 : decode prog_13_method_3_code 0 = .ok (.aload_n 0, 1) := by decide +kernel
theorem d12_1 : decode prog_13_method_3_code 1 = .ok (.invokevirtual 34, 3) := by decide +kernel
theorem d12_4 : decode prog_13_method_3_code 4 = .ok (.new 6, 3) := by decide +kernel
theorem d12_7 : decode prog_13_method_3_code 7 = .ok (.dup, 1) := by decide +kernel
theorem d12_8 : decode prog_13_method_3_code 8 = .ok (.aload_n 1, 1) := by decide +kernel
theorem d12_9 : decode prog_13_method_3_code 9 = .ok (.invokevirtual 37, 3) := by decide +kernel
theorem d12_12 : decode prog_13_method_3_code 12 = .ok (.checkcast 38, 3) := by decide +kernel
theorem d12_15 : decode prog_13_method_3_code 15 = .ok (.aload_n 0, 1) := by decide +kernel
theorem d12_16 : decode prog_13_method_3_code 16 = .ok (.getfield 20, 3) := by decide +kernel
theorem d12_19 : decode prog_13_method_3_code 19 = .ok (.aload_n 0, 1) := by decide +kernel
theorem d12_20 : decode prog_13_method_3_code 20 = .ok (.getfield 23, 3) := by decide +kernel
theorem d12_23 : decode prog_13_method_3_code 23 = .ok (.aload_n 0, 1) := by decide +kernel
theorem d12_24 : decode prog_13_method_3_code 24 = .ok (.getfield 27, 3) := by decide +kernel
theorem d12_27 : decode prog_13_method_3_code 27 = .ok (.aload_n 0, 1) := by decide +kernel
theorem d12_28 : decode prog_13_method_3_code 28 = .ok (.getfield 30, 3) := by decide +kernel
theorem d12_31 : decode prog_13_method_3_code 31 = .ok (.invokespecial 5, 3) := by decide +kernel
theorem d12_34 : decode prog_13_method_3_code 34 = .ok (.areturn, 1) := by decide +kernel
theorem pn_12 : plainName "com/example/nested_keyspace/nestedkeyspace/ScanOptions" = true := by first | (simp [plainName, overriddenIn]; done) | decide +kernel
theorem ef_12 (m : MethodId) (a0 : Addr) (a1 : Addr) : entryFrame m #[(.ref a0), (.ref a1)] 2 = mkF m 0 #[.val (.ref a0), .val (.ref a1)] [] := by first | (simp [entryFrame, mkF, argsToLocals, Value.category]; done) | rfl
def Q12 (Z : State) (a0 : Addr) (a1 : Addr) (k_a1 : ClassId) (n_a1 : Int32) (fn_a1 : Nat → Int32) (f_a0_to : Value) (f_a0_reverse : Int32) (f_a0_limit : Int64) (h0 : Heap) (n0 : Nat) (v : Option Value) (h : Heap) (L : List Loc) : Prop := ∃ (b2 : Addr) (b5 : Addr) (k_a1 : ClassId), v = some (.ref b2) ∧ Fr n0 L ∧ Keep h0 h [] ∧ (n0 ≤ b2) ∧ (h0.size ≤ b2) ∧ Exa Z h b2 "com/example/nested_keyspace/nestedkeyspace/ScanOptions" ∧ Fld Z h b2 "com/example/nested_keyspace/nestedkeyspace/ScanOptions" "from" "[B" (.ref b5) ∧ Fld Z h b2 "com/example/nested_keyspace/nestedkeyspace/ScanOptions" "to" "[B" f_a0_to ∧ Fld Z h b2 "com/example/nested_keyspace/nestedkeyspace/ScanOptions" "subtree" "Z" (.int (0 : Int32)) ∧ Fld Z h b2 "com/example/nested_keyspace/nestedkeyspace/ScanOptions" "reverse" "Z" (.int (nar .boolean f_a0_reverse)) ∧ Fld Z h b2 "com/example/nested_keyspace/nestedkeyspace/ScanOptions" "limit" "J" (.long f_a0_limit) ∧ (n0 ≤ b5) ∧ (h0.size ≤ b5) ∧ own_Arf Z h b5 k_a1 .byte n_a1 (fun i => .int (fn_a1 i)) ∧ Exa Z h b5 "[B" ∧ (b2 ≠ b5)
set_option maxRecDepth 65536 in
set_option maxHeartbeats 40000000 in
theorem rm12 (l : Launch) (Z : State) (A0 : Array Value) (hw : ∀ d ∈ tables_1, d.before A0 Z = true) (ws : List Jvm.Cond) (a0 : Addr) (a1 : Addr) (k_a1 : ClassId) (n_a1 : Int32) (fn_a1 : Nat → Int32) (f_a0_to : Value) (f_a0_reverse : Int32) (f_a0_limit : Int64) (h0 : Heap) (n0 : Nat) (Z0 : n0 ≤ h0.size) (P_F_a0_subtree : Fld Z h0 a0 "com/example/nested_keyspace/nestedkeyspace/ScanOptions" "subtree" "Z" (.int (0 : Int32))) (P_E_a0 : Exa Z h0 a0 "com/example/nested_keyspace/nestedkeyspace/ScanOptions") (P_V_a1 : own_Arf Z h0 a1 k_a1 .byte n_a1 (fun i => .int (fn_a1 i))) (P_E_a1 : Exa Z h0 a1 "[B") (hp_0 : (n_a1).toNatClampNeg ≤ 3) (hr_f_a0_to : f_a0_to.isRef = true) (P_F_a0_to : Fld Z h0 a0 "com/example/nested_keyspace/nestedkeyspace/ScanOptions" "to" "[B" f_a0_to) (P_F_a0_reverse : Fld Z h0 a0 "com/example/nested_keyspace/nestedkeyspace/ScanOptions" "reverse" "Z" (.int f_a0_reverse)) (P_F_a0_limit : Fld Z h0 a0 "com/example/nested_keyspace/nestedkeyspace/ScanOptions" "limit" "J" (.long f_a0_limit)) :
    MetFree l (⟨"com/example/nested_keyspace/nestedkeyspace/ScanOptions", "from", "([B)Lcom/example/nested_keyspace/nestedkeyspace/ScanOptions;"⟩ : MethodName) (head1 (Jvm.Cond.code (⟨"com/example/nested_keyspace/nestedkeyspace/ScanOptions", "from", "([B)Lcom/example/nested_keyspace/nestedkeyspace/ScanOptions;"⟩ : MethodName) prog_13_method_3_code 2 (some (.object "com/example/nested_keyspace/nestedkeyspace/ScanOptions")) :: ws) ({ frames := 2, cells := 2, slots := 8, locals := 31 } : Room)) (fun a U => a = #[(.ref a0), (.ref a1)] ∧ Z.Warmed39 U.vm ∧ U.heap = h0) (fun _ _ _ _ _ => True) (fun _ U o U' => ∃ v L, o = .returned v ∧ Q12 Z a0 a1 k_a1 n_a1 fn_a1 f_a0_to f_a0_reverse f_a0_limit h0 n0 v U'.heap L ∧ FrameEnd U o U' L 2 8) := by
  refine MetFree.of_bodySF (plainFor_of_name pn_12) hisR ?_
  intro p e s m args below meth c s₁ Bd hml0 hP hK
  obtain ⟨rfl, hZ, hh⟩ := hP
  have hwd := fun i {d : Jvm.Cond} (h : tables_1[i]? = some d) => hw d (List.mem_of_getElem? h)
  have hx := Bd.exec
  have hby := Bd.bytes
  have hml : c.maxLocals = 2 := hml0
  have hlk : meth.locks = false := Bd.notSynchronized
  have hown : s.vm.findClass "com/example/nested_keyspace/nestedkeyspace/ScanOptions" = some m.cls := findClass_of_methodNamed Bd.named
  have hnm := (name_of_methodNamed Bd.named Bd.method).1
  have X0 : Stand p l e ({ frames := 2, cells := 2, slots := 8, locals := 31 } : Room) s m #[(.ref a0), (.ref a1)] below meth c s₁ [] 0 0 := Stand.of_body Bd
  have e0 : s₁.heap = h0 := by rw [← hh, Bd.state]; rfl
  have N0 := Fr.nil n0
  show own_Go p e below (own_Fin s 2 8 (Q12 Z a0 a1 k_a1 n_a1 fn_a1 f_a0_to f_a0_reverse f_a0_limit h0 n0)) _
  refine own_by (fun t k => castTop (ef_12 m a0 a1) k) ?_
  show own_Go p e below _ (s₁.setTop (mkF m 0 #[.val (.ref a0), .val (.ref a1)] []))
  refine own_by (fun _ k => XS.aloadN X0.here hx rfl (hb hby d12_0) rfl rfl k) ?_
  show own_Go p e below _ (s₁.setTop (mkF m 1 #[.val (.ref a0), .val (.ref a1)] [(.ref a0)]))
  obtain ⟨cq1, qq1, qq1'⟩ := P_E_a0.cell
  obtain ⟨_, _, ⟨T1, L1, k1, n1⟩, -, X1, ⟨Lc1, hQ1, l1, y1, z1⟩, st1⟩ := X0.privateBack hx (y := (⟨"com/example/nested_keyspace/nestedkeyspace/ScanOptions", "refuseWithSubtree", "()V"⟩ : MethodName)) hown (mvT hZ (hwd 70 rfl)) (mvT hZ (hwd 71 rfl)) (own_selPriv hZ (hwd 7 rfl) (hwd 72 rfl) (hwd 71 rfl) (by decide)) (Cond.privateMethod_at (mvP hZ (hwd 72 rfl) (args := #[]))) (mvT hZ (hwd 73 rfl)) (by decide) (backOf (W := 0) (rm13 l Z A0 hw [] a0 h0 n0 Z0 P_F_a0_subtree) hZ (hwd 73 rfl) (hwd 8 rfl) (by decide) (by decide)) (g := (mkF m 1 #[.val (.ref a0), .val (.ref a1)] [(.ref a0)])) rfl (by rw [hml]; rfl) (Steps.refl _) (a := a0) (by rw [e0]; exact qq1) qq1' (argsL := []) (rest := []) (lenOf pd_9 rfl) rfl (by show 2 * 0 + _ ≤ _; exact Nat.le_of_eq rfl) (hb hby d12_1) (fun _ _ => ⟨rfl, e0, (by decide : 0 + 0 ≤ _), (by decide : 0 + 0 ≤ _)⟩)
  dsimp only [Pt.U, Pt.locs, Pt.cells, Pt.slots] at X1 l1 y1 z1 st1 hQ1
  subst l1 y1 z1
  obtain ⟨rfl, Nq1, eq1⟩ := hQ1
  have N1 := Fr.app N0 Nq1
  refine own_by (fun _ k => st1.trans k) ?_
  show own_Go p e below _ (T1.setTop (mkF m 4 #[.val (.ref a0), .val (.ref a1)] []))
  obtain ⟨T2, h2, X2, e2, E2, A2, D2, -, st2⟩ := newO X1 hx hZ hown (hwd 34 rfl) (hwd 7 rfl) (hwd 8 rfl) eq1 (g := (mkF m 4 #[.val (.ref a0), .val (.ref a1)] [])) rfl (hb hby d12_4) (by decide) (by decide)
  obtain ⟨b2, g2⟩ : ∃ z, z = h0.size := ⟨_, rfl⟩
  have ge_b2 : n0 ≤ b2 := Nat.le_trans Z0 (Nat.le_of_eq g2.symm)
  have sz_b2 : h0.size ≤ b2 := Nat.le_trans (Keep.refl h0 []).1 (Nat.le_of_eq g2.symm)
  have K2 : Keep h0 h2 [] := (Keep.refl h0 []).ext E2
  have Z2 : n0 ≤ h2.size := Nat.le_trans Z0 E2.1
  rw [← g2] at A2 D2 st2
  have F_from_b2 : Fld Z h2 b2 "com/example/nested_keyspace/nestedkeyspace/ScanOptions" "from" "[B" .null := D2 (Or.inr (hwd 20 rfl)) (ty := (.array .byte)) (by decide)
  have F_to_b2 : Fld Z h2 b2 "com/example/nested_keyspace/nestedkeyspace/ScanOptions" "to" "[B" .null := D2 (Or.inr (hwd 22 rfl)) (ty := (.array .byte)) (by decide)
  have F_subtree_b2 : Fld Z h2 b2 "com/example/nested_keyspace/nestedkeyspace/ScanOptions" "subtree" "Z" (.int (0 : Int32)) := D2 (Or.inr (hwd 24 rfl)) (ty := .boolean) (by decide)
  have F_reverse_b2 : Fld Z h2 b2 "com/example/nested_keyspace/nestedkeyspace/ScanOptions" "reverse" "Z" (.int (0 : Int32)) := D2 (Or.inr (hwd 26 rfl)) (ty := .boolean) (by decide)
  have F_limit_b2 : Fld Z h2 b2 "com/example/nested_keyspace/nestedkeyspace/ScanOptions" "limit" "J" (.long (0 : Int64)) := D2 (Or.inr (hwd 28 rfl)) (ty := .long) (by decide)
  refine own_by st2 ?_
  show own_Go p e below _ (T2.setTop (mkF m 7 #[.val (.ref a0), .val (.ref a1)] [(.ref b2)]))
  refine own_by (fun _ k => XS.dup X2.here hx rfl (hb hby d12_7) rfl rfl k) ?_
  show own_Go p e below _ (T2.setTop (mkF m 8 #[.val (.ref a0), .val (.ref a1)] [(.ref b2), (.ref b2)]))
  refine own_by (fun _ k => XS.aloadN X2.here hx rfl (hb hby d12_8) rfl rfl k) ?_
  show own_Go p e below _ (T2.setTop (mkF m 9 #[.val (.ref a0), .val (.ref a1)] [(.ref a1), (.ref b2), (.ref b2)]))
  have F3 : own_Arf Z h2 a1 k_a1 .byte n_a1 (fun i => .int (fn_a1 i)) := (P_V_a1.ext E2)
  have F4 : Exa Z h2 a1 "[B" := (P_E_a1.ext E2)
  obtain ⟨T5, h5, X5, e5, E5, V5, Ax5, st5⟩ := own_clone X2 hx hZ hown (hwd 74 rfl) (hwd 75 rfl) (hwd 79 rfl) (hwd 77 rfl) (hwd 78 rfl) (hwd 80 rfl) e2 F3 F4 (g := (mkF m 9 #[.val (.ref a0), .val (.ref a1)] [(.ref a1), (.ref b2), (.ref b2)])) rfl (by rw [hml]; rfl) rfl (hb hby d12_9) (by decide) (W := 2) (by show 2 * 0 + _ ≤ _; exact Nat.le_of_eq rfl) (by decide) (cap := 3) hp_0 (by decide) (by decide)
  obtain ⟨b5, g5⟩ : ∃ z, z = h2.size := ⟨_, rfl⟩
  have ge_b5 : n0 ≤ b5 := Nat.le_trans Z2 (Nat.le_of_eq g5.symm)
  have sz_b5 : h0.size ≤ b5 := Nat.le_trans K2.1 (Nat.le_of_eq g5.symm)
  have K5 : Keep h0 h5 [] := K2.ext E5
  have Z5 : n0 ≤ h5.size := Nat.le_trans Z2 E5.1
  rw [← g5] at V5 Ax5 st5
  refine own_by st5 ?_
  show own_Go p e below _ (T5.setTop (mkF m 12 #[.val (.ref a0), .val (.ref a1)] [(.ref b5), (.ref b2), (.ref b2)]))
  obtain ⟨T6, X6, e6, st6⟩ := castY X5 hx hZ hown (hwd 81 rfl) e5 (Ins.self Ax5) (g := (mkF m 12 #[.val (.ref a0), .val (.ref a1)] [(.ref b5), (.ref b2), (.ref b2)])) rfl rfl (hb hby d12_12)
  refine own_by st6 ?_
  show own_Go p e below _ (T6.setTop (mkF m 15 #[.val (.ref a0), .val (.ref a1)] [(.ref b5), (.ref b2), (.ref b2)]))
  refine own_by (fun _ k => XS.aloadN X6.here hx rfl (hb hby d12_15) rfl rfl k) ?_
  show own_Go p e below _ (T6.setTop (mkF m 16 #[.val (.ref a0), .val (.ref a1)] [(.ref a0), (.ref b5), (.ref b2), (.ref b2)]))
  have F7 : Fld Z h5 a0 "com/example/nested_keyspace/nestedkeyspace/ScanOptions" "to" "[B" f_a0_to := ((P_F_a0_to.ext E2).ext E5)
  obtain ⟨T8, X8, e8, st8⟩ := getF X6 hx hZ hown (host := "") (Or.inl (hwd 21 rfl)) Via.refl e6 F7 (g := (mkF m 16 #[.val (.ref a0), .val (.ref a1)] [(.ref a0), (.ref b5), (.ref b2), (.ref b2)])) rfl rfl (hb hby d12_16)
  refine own_by st8 ?_
  show own_Go p e below _ (T8.setTop (mkF m 19 #[.val (.ref a0), .val (.ref a1)] [f_a0_to, (.ref b5), (.ref b2), (.ref b2)]))
  refine own_by (fun _ k => XS.aloadN X8.here hx rfl (hb hby d12_19) rfl rfl k) ?_
  show own_Go p e below _ (T8.setTop (mkF m 20 #[.val (.ref a0), .val (.ref a1)] [(.ref a0), f_a0_to, (.ref b5), (.ref b2), (.ref b2)]))
  have F9 : Fld Z h5 a0 "com/example/nested_keyspace/nestedkeyspace/ScanOptions" "subtree" "Z" (.int (0 : Int32)) := ((P_F_a0_subtree.ext E2).ext E5)
  obtain ⟨T10, X10, e10, st10⟩ := getF X8 hx hZ hown (host := "") (Or.inl (hwd 23 rfl)) Via.refl e8 F9 (g := (mkF m 20 #[.val (.ref a0), .val (.ref a1)] [(.ref a0), f_a0_to, (.ref b5), (.ref b2), (.ref b2)])) rfl rfl (hb hby d12_20)
  refine own_by st10 ?_
  show own_Go p e below _ (T10.setTop (mkF m 23 #[.val (.ref a0), .val (.ref a1)] [(.int (0 : Int32)), f_a0_to, (.ref b5), (.ref b2), (.ref b2)]))
  refine own_by (fun _ k => XS.aloadN X10.here hx rfl (hb hby d12_23) rfl rfl k) ?_
  show own_Go p e below _ (T10.setTop (mkF m 24 #[.val (.ref a0), .val (.ref a1)] [(.ref a0), (.int (0 : Int32)), f_a0_to, (.ref b5), (.ref b2), (.ref b2)]))
  have F11 : Fld Z h5 a0 "com/example/nested_keyspace/nestedkeyspace/ScanOptions" "reverse" "Z" (.int f_a0_reverse) := ((P_F_a0_reverse.ext E2).ext E5)
  obtain ⟨T12, X12, e12, st12⟩ := getF X10 hx hZ hown (host := "") (Or.inl (hwd 25 rfl)) Via.refl e10 F11 (g := (mkF m 24 #[.val (.ref a0), .val (.ref a1)] [(.ref a0), (.int (0 : Int32)), f_a0_to, (.ref b5), (.ref b2), (.ref b2)])) rfl rfl (hb hby d12_24)
  refine own_by st12 ?_
  show own_Go p e below _ (T12.setTop (mkF m 27 #[.val (.ref a0), .val (.ref a1)] [(.int f_a0_reverse), (.int (0 : Int32)), f_a0_to, (.ref b5), (.ref b2), (.ref b2)]))
  refine own_by (fun _ k => XS.aloadN X12.here hx rfl (hb hby d12_27) rfl rfl k) ?_
  show own_Go p e below _ (T12.setTop (mkF m 28 #[.val (.ref a0), .val (.ref a1)] [(.ref a0), (.int f_a0_reverse), (.int (0 : Int32)), f_a0_to, (.ref b5), (.ref b2), (.ref b2)]))
  have F13 : Fld Z h5 a0 "com/example/nested_keyspace/nestedkeyspace/ScanOptions" "limit" "J" (.long f_a0_limit) := ((P_F_a0_limit.ext E2).ext E5)
  obtain ⟨T14, X14, e14, st14⟩ := getF X12 hx hZ hown (host := "") (Or.inl (hwd 27 rfl)) Via.refl e12 F13 (g := (mkF m 28 #[.val (.ref a0), .val (.ref a1)] [(.ref a0), (.int f_a0_reverse), (.int (0 : Int32)), f_a0_to, (.ref b5), (.ref b2), (.ref b2)])) rfl rfl (hb hby d12_28)
  refine own_by st14 ?_
  show own_Go p e below _ (T14.setTop (mkF m 31 #[.val (.ref a0), .val (.ref a1)] [(.long f_a0_limit), (.int f_a0_reverse), (.int (0 : Int32)), f_a0_to, (.ref b5), (.ref b2), (.ref b2)]))
  have F15 : Exa Z h5 b2 "com/example/nested_keyspace/nestedkeyspace/ScanOptions" := (A2.ext E5)
  have F16 : Fld Z h5 b2 "com/example/nested_keyspace/nestedkeyspace/ScanOptions" "from" "[B" .null := (F_from_b2.ext E5)
  have F17 : Fld Z h5 b2 "com/example/nested_keyspace/nestedkeyspace/ScanOptions" "to" "[B" .null := (F_to_b2.ext E5)
  have F18 : Fld Z h5 b2 "com/example/nested_keyspace/nestedkeyspace/ScanOptions" "subtree" "Z" (.int (0 : Int32)) := (F_subtree_b2.ext E5)
  have F19 : Fld Z h5 b2 "com/example/nested_keyspace/nestedkeyspace/ScanOptions" "reverse" "Z" (.int (0 : Int32)) := (F_reverse_b2.ext E5)
  have F20 : Fld Z h5 b2 "com/example/nested_keyspace/nestedkeyspace/ScanOptions" "limit" "J" (.long (0 : Int64)) := (F_limit_b2.ext E5)
  obtain ⟨_, _, ⟨T21, L21, k21, n21⟩, -, X21, ⟨Lc21, hQ21, l21, y21, z21⟩, st21⟩ := X14.specialBack hx (y := (⟨"com/example/nested_keyspace/nestedkeyspace/ScanOptions", "<init>", "([B[BZZJ)V"⟩ : MethodName)) rfl hown (mvT hZ (hwd 13 rfl)) (mvT hZ (hwd 14 rfl)) (mvT hZ (hwd 15 rfl)) (by decide) (backOf (W := 1) (rm3 l Z A0 hw [] b2 (.ref b5) f_a0_to (0 : Int32) f_a0_reverse f_a0_limit (.null) (.null) (0 : Int32) (0 : Int32) (0 : Int64) h5 n0 Z5 rfl hr_f_a0_to F15 F16 ge_b2 F17 F18 F19 F20) hZ (hwd 15 rfl) (hwd 8 rfl) (by decide) (by decide)) (g := (mkF m 31 #[.val (.ref a0), .val (.ref a1)] [(.long f_a0_limit), (.int f_a0_reverse), (.int (0 : Int32)), f_a0_to, (.ref b5), (.ref b2), (.ref b2)])) rfl (by rw [hml]; rfl) (Steps.refl _) (a := b2) (argsL := [(.ref b5), f_a0_to, (.int (0 : Int32)), (.int f_a0_reverse), (.long f_a0_limit)]) (rest := [(.ref b2)]) (lenOf pd_13 rfl) rfl (by show 2 * 0 + _ ≤ _; exact Nat.le_of_eq rfl) (hb hby d12_31) (fun _ _ => ⟨rfl, e14, (by decide : 2 + 0 ≤ _), (by decide : 8 + 0 ≤ _)⟩)
  dsimp only [Pt.U, Pt.locs, Pt.cells, Pt.slots] at X21 l21 y21 z21 st21 hQ21
  subst l21 y21 z21
  obtain ⟨rfl, Nq21, Kq21, F22, F23, F24, F25, F26, F27⟩ := hQ21
  have N21 := Fr.app N1 Nq21
  have K21 : Keep h0 T21.heap [] := K5.trans Kq21 ((allS (Or.inr sz_b2) all0))
  have Z21 : n0 ≤ T21.heap.size := Nat.le_trans Z5 Kq21.1
  refine own_by (fun _ k => st21.trans k) ?_
  show own_Go p e below _ (T21.setTop (mkF m 34 #[.val (.ref a0), .val (.ref a1)] [(.ref b2)]))
  have F28 : own_Arf Z T21.heap b5 k_a1 .byte n_a1 (fun i => .int (fn_a1 i)) := (V5.keep Kq21 (ninS (Ne.symm (Nat.ne_of_lt (Nat.lt_of_lt_of_le (A2).lt (Nat.le_of_eq g5.symm)))) nin0))
  have F29 : Exa Z T21.heap b5 "[B" := (Ax5.keep Kq21)
  exact own_retR X21 hx Bd.returns (by decide) rfl (hb hby d12_34) hlk rfl ⟨_, _, _, rfl, N21, K21, ge_b2, sz_b2, F22, F23, F24, F25, F26, F27, ge_b5, sz_b5, F28, F29, (Nat.ne_of_lt (Nat.lt_of_lt_of_le (A2).lt (Nat.le_of_eq g5.symm)))⟩ (by decide) (by decide)
theorem d16_0 : decode prog_13_method_4_code 0 = .ok (.aload_n 0, 1) := by decide +kernel
theorem d16_1 : decode prog_13_method_4_code 1 = .ok (.invokevirtual 34, 3) := by decide +kernel
theorem d16_4 : decode prog_13_method_4_code 4 = .ok (.new 6, 3) := by decide +kernel
theorem d16_7 : decode prog_13_method_4_code 7 = .ok (.dup, 1) := by decide +kernel
theorem d16_8 : decode prog_13_method_4_code 8 = .ok (.aload_n 0, 1) := by decide +kernel
theorem d16_9 : decode prog_13_method_4_code 9 = .ok (.getfield 16, 3) := by decide +kernel
theorem d16_12 : decode prog_13_method_4_code 12 = .ok (.aload_n 1, 1) := by decide +kernel
theorem d16_13 : decode prog_13_method_4_code 13 = .ok (.invokevirtual 37, 3) := by decide +kernel
theorem d16_16 : decode prog_13_method_4_code 16 = .ok (.checkcast 38, 3) := by decide +kernel
theorem d16_19 : decode prog_13_method_4_code 19 = .ok (.aload_n 0, 1) := by decide +kernel
theorem d16_20 : decode prog_13_method_4_code 20 = .ok (.getfield 23, 3) := by decide +kernel
theorem d16_23 : decode prog_13_method_4_code 23 = .ok (.aload_n 0, 1) := by decide +kernel
theorem d16_24 : decode prog_13_method_4_code 24 = .ok (.getfield 27, 3) := by decide +kernel
theorem d16_27 : decode prog_13_method_4_code 27 = .ok (.aload_n 0, 1) := by decide +kernel
theorem d16_28 : decode prog_13_method_4_code 28 = .ok (.getfield 30, 3) := by decide +kernel
theorem d16_31 : decode prog_13_method_4_code 31 = .ok (.invokespecial 5, 3) := by decide +kernel
theorem d16_34 : decode prog_13_method_4_code 34 = .ok (.areturn, 1) := by decide +kernel
theorem pn_16 : plainName "com/example/nested_keyspace/nestedkeyspace/ScanOptions" = true := by first | (simp [plainName, overriddenIn]; done) | decide +kernel
theorem ef_16 (m : MethodId) (a0 : Addr) (a1 : Addr) : entryFrame m #[(.ref a0), (.ref a1)] 2 = mkF m 0 #[.val (.ref a0), .val (.ref a1)] [] := by first | (simp [entryFrame, mkF, argsToLocals, Value.category]; done) | rfl
def Q16 (Z : State) (a0 : Addr) (a1 : Addr) (f_a0_from : Value) (k_a1 : ClassId) (n_a1 : Int32) (fn_a1 : Nat → Int32) (f_a0_reverse : Int32) (f_a0_limit : Int64) (h0 : Heap) (n0 : Nat) (v : Option Value) (h : Heap) (L : List Loc) : Prop := ∃ (b2 : Addr) (b7 : Addr) (k_a1 : ClassId), v = some (.ref b2) ∧ Fr n0 L ∧ Keep h0 h [] ∧ (n0 ≤ b2) ∧ (h0.size ≤ b2) ∧ Exa Z h b2 "com/example/nested_keyspace/nestedkeyspace/ScanOptions" ∧ Fld Z h b2 "com/example/nested_keyspace/nestedkeyspace/ScanOptions" "from" "[B" f_a0_from ∧ Fld Z h b2 "com/example/nested_keyspace/nestedkeyspace/ScanOptions" "to" "[B" (.ref b7) ∧ Fld Z h b2 "com/example/nested_keyspace/nestedkeyspace/ScanOptions" "subtree" "Z" (.int (0 : Int32)) ∧ Fld Z h b2 "com/example/nested_keyspace/nestedkeyspace/ScanOptions" "reverse" "Z" (.int (nar .boolean f_a0_reverse)) ∧ Fld Z h b2 "com/example/nested_keyspace/nestedkeyspace/ScanOptions" "limit" "J" (.long f_a0_limit) ∧ (n0 ≤ b7) ∧ (h0.size ≤ b7) ∧ own_Arf Z h b7 k_a1 .byte n_a1 (fun i => .int (fn_a1 i)) ∧ Exa Z h b7 "[B" ∧ (b2 ≠ b7)
set_option maxRecDepth 65536 in
set_option maxHeartbeats 40000000 in
theorem rm16 (l : Launch) (Z : State) (A0 : Array Value) (hw : ∀ d ∈ tables_1, d.before A0 Z = true) (ws : List Jvm.Cond) (a0 : Addr) (a1 : Addr) (f_a0_from : Value) (k_a1 : ClassId) (n_a1 : Int32) (fn_a1 : Nat → Int32) (f_a0_reverse : Int32) (f_a0_limit : Int64) (h0 : Heap) (n0 : Nat) (Z0 : n0 ≤ h0.size) (P_F_a0_subtree : Fld Z h0 a0 "com/example/nested_keyspace/nestedkeyspace/ScanOptions" "subtree" "Z" (.int (0 : Int32))) (P_E_a0 : Exa Z h0 a0 "com/example/nested_keyspace/nestedkeyspace/ScanOptions") (hr_f_a0_from : f_a0_from.isRef = true) (P_F_a0_from : Fld Z h0 a0 "com/example/nested_keyspace/nestedkeyspace/ScanOptions" "from" "[B" f_a0_from) (P_V_a1 : own_Arf Z h0 a1 k_a1 .byte n_a1 (fun i => .int (fn_a1 i))) (P_E_a1 : Exa Z h0 a1 "[B") (hp_1 : (n_a1).toNatClampNeg ≤ 3) (P_F_a0_reverse : Fld Z h0 a0 "com/example/nested_keyspace/nestedkeyspace/ScanOptions" "reverse" "Z" (.int f_a0_reverse)) (P_F_a0_limit : Fld Z h0 a0 "com/example/nested_keyspace/nestedkeyspace/ScanOptions" "limit" "J" (.long f_a0_limit)) :
    MetFree l (⟨"com/example/nested_keyspace/nestedkeyspace/ScanOptions", "to", "([B)Lcom/example/nested_keyspace/nestedkeyspace/ScanOptions;"⟩ : MethodName) (head1 (Jvm.Cond.code (⟨"com/example/nested_keyspace/nestedkeyspace/ScanOptions", "to", "([B)Lcom/example/nested_keyspace/nestedkeyspace/ScanOptions;"⟩ : MethodName) prog_13_method_4_code 2 (some (.object "com/example/nested_keyspace/nestedkeyspace/ScanOptions")) :: ws) ({ frames := 2, cells := 2, slots := 8, locals := 31 } : Room)) (fun a U => a = #[(.ref a0), (.ref a1)] ∧ Z.Warmed39 U.vm ∧ U.heap = h0) (fun _ _ _ _ _ => True) (fun _ U o U' => ∃ v L, o = .returned v ∧ Q16 Z a0 a1 f_a0_from k_a1 n_a1 fn_a1 f_a0_reverse f_a0_limit h0 n0 v U'.heap L ∧ FrameEnd U o U' L 2 8) := by
  refine MetFree.of_bodySF (plainFor_of_name pn_16) hisR ?_
  intro p e s m args below meth c s₁ Bd hml0 hP hK
  obtain ⟨rfl, hZ, hh⟩ := hP
  have hwd := fun i {d : Jvm.Cond} (h : tables_1[i]? = some d) => hw d (List.mem_of_getElem? h)
  have hx := Bd.exec
  have hby := Bd.bytes
  have hml : c.maxLocals = 2 := hml0
  have hlk : meth.locks = false := Bd.notSynchronized
  have hown : s.vm.findClass "com/example/nested_keyspace/nestedkeyspace/ScanOptions" = some m.cls := findClass_of_methodNamed Bd.named
  have hnm := (name_of_methodNamed Bd.named Bd.method).1
  have X0 : Stand p l e ({ frames := 2, cells := 2, slots := 8, locals := 31 } : Room) s m #[(.ref a0), (.ref a1)] below meth c s₁ [] 0 0 := Stand.of_body Bd
  have e0 : s₁.heap = h0 := by rw [← hh, Bd.state]; rfl
  have N0 := Fr.nil n0
  show own_Go p e below (own_Fin s 2 8 (Q16 Z a0 a1 f_a0_from k_a1 n_a1 fn_a1 f_a0_reverse f_a0_limit h0 n0)) _
  refine own_by (fun t k => castTop (ef_16 m a0 a1) k) ?_
  show own_Go p e below _ (s₁.setTop (mkF m 0 #[.val (.ref a0), .val (.ref a1)] []))
  refine own_by (fun _ k => XS.aloadN X0.here hx rfl (hb hby d16_0) rfl rfl k) ?_
  show own_Go p e below _ (s₁.setTop (mkF m 1 #[.val (.ref a0), .val (.ref a1)] [(.ref a0)]))
  obtain ⟨cq1, qq1, qq1'⟩ := P_E_a0.cell
  obtain ⟨_, _, ⟨T1, L1, k1, n1⟩, -, X1, ⟨Lc1, hQ1, l1, y1, z1⟩, st1⟩ := X0.privateBack hx (y := (⟨"com/example/nested_keyspace/nestedkeyspace/ScanOptions", "refuseWithSubtree", "()V"⟩ : MethodName)) hown (mvT hZ (hwd 70 rfl)) (mvT hZ (hwd 71 rfl)) (own_selPriv hZ (hwd 7 rfl) (hwd 72 rfl) (hwd 71 rfl) (by decide)) (Cond.privateMethod_at (mvP hZ (hwd 72 rfl) (args := #[]))) (mvT hZ (hwd 73 rfl)) (by decide) (backOf (W := 0) (rm13 l Z A0 hw [] a0 h0 n0 Z0 P_F_a0_subtree) hZ (hwd 73 rfl) (hwd 8 rfl) (by decide) (by decide)) (g := (mkF m 1 #[.val (.ref a0), .val (.ref a1)] [(.ref a0)])) rfl (by rw [hml]; rfl) (Steps.refl _) (a := a0) (by rw [e0]; exact qq1) qq1' (argsL := []) (rest := []) (lenOf pd_9 rfl) rfl (by show 2 * 0 + _ ≤ _; exact Nat.le_of_eq rfl) (hb hby d16_1) (fun _ _ => ⟨rfl, e0, (by decide : 0 + 0 ≤ _), (by decide : 0 + 0 ≤ _)⟩)
  dsimp only [Pt.U, Pt.locs, Pt.cells, Pt.slots] at X1 l1 y1 z1 st1 hQ1
  subst l1 y1 z1
  obtain ⟨rfl, Nq1, eq1⟩ := hQ1
  have N1 := Fr.app N0 Nq1
  refine own_by (fun _ k => st1.trans k) ?_
  show own_Go p e below _ (T1.setTop (mkF m 4 #[.val (.ref a0), .val (.ref a1)] []))
  obtain ⟨T2, h2, X2, e2, E2, A2, D2, -, st2⟩ := newO X1 hx hZ hown (hwd 34 rfl) (hwd 7 rfl) (hwd 8 rfl) eq1 (g := (mkF m 4 #[.val (.ref a0), .val (.ref a1)] [])) rfl (hb hby d16_4) (by decide) (by decide)
  obtain ⟨b2, g2⟩ : ∃ z, z = h0.size := ⟨_, rfl⟩
  have ge_b2 : n0 ≤ b2 := Nat.le_trans Z0 (Nat.le_of_eq g2.symm)
  have sz_b2 : h0.size ≤ b2 := Nat.le_trans (Keep.refl h0 []).1 (Nat.le_of_eq g2.symm)
  have K2 : Keep h0 h2 [] := (Keep.refl h0 []).ext E2
  have Z2 : n0 ≤ h2.size := Nat.le_trans Z0 E2.1
  rw [← g2] at A2 D2 st2
  have F_from_b2 : Fld Z h2 b2 "com/example/nested_keyspace/nestedkeyspace/ScanOptions" "from" "[B" .null := D2 (Or.inr (hwd 20 rfl)) (ty := (.array .byte)) (by decide)
  have F_to_b2 : Fld Z h2 b2 "com/example/nested_keyspace/nestedkeyspace/ScanOptions" "to" "[B" .null := D2 (Or.inr (hwd 22 rfl)) (ty := (.array .byte)) (by decide)
  have F_subtree_b2 : Fld Z h2 b2 "com/example/nested_keyspace/nestedkeyspace/ScanOptions" "subtree" "Z" (.int (0 : Int32)) := D2 (Or.inr (hwd 24 rfl)) (ty := .boolean) (by decide)
  have F_reverse_b2 : Fld Z h2 b2 "com/example/nested_keyspace/nestedkeyspace/ScanOptions" "reverse" "Z" (.int (0 : Int32)) := D2 (Or.inr (hwd 26 rfl)) (ty := .boolean) (by decide)
  have F_limit_b2 : Fld Z h2 b2 "com/example/nested_keyspace/nestedkeyspace/ScanOptions" "limit" "J" (.long (0 : Int64)) := D2 (Or.inr (hwd 28 rfl)) (ty := .long) (by decide)
  refine own_by st2 ?_
  show own_Go p e below _ (T2.setTop (mkF m 7 #[.val (.ref a0), .val (.ref a1)] [(.ref b2)]))
  refine own_by (fun _ k => XS.dup X2.here hx rfl (hb hby d16_7) rfl rfl k) ?_
  show own_Go p e below _ (T2.setTop (mkF m 8 #[.val (.ref a0), .val (.ref a1)] [(.ref b2), (.ref b2)]))
  refine own_by (fun _ k => XS.aloadN X2.here hx rfl (hb hby d16_8) rfl rfl k) ?_
  show own_Go p e below _ (T2.setTop (mkF m 9 #[.val (.ref a0), .val (.ref a1)] [(.ref a0), (.ref b2), (.ref b2)]))
  have F3 : Fld Z h2 a0 "com/example/nested_keyspace/nestedkeyspace/ScanOptions" "from" "[B" f_a0_from := (P_F_a0_from.ext E2)
  obtain ⟨T4, X4, e4, st4⟩ := getF X2 hx hZ hown (host := "") (Or.inl (hwd 19 rfl)) Via.refl e2 F3 (g := (mkF m 9 #[.val (.ref a0), .val (.ref a1)] [(.ref a0), (.ref b2), (.ref b2)])) rfl rfl (hb hby d16_9)
  refine own_by st4 ?_
  show own_Go p e below _ (T4.setTop (mkF m 12 #[.val (.ref a0), .val (.ref a1)] [f_a0_from, (.ref b2), (.ref b2)]))
  refine own_by (fun _ k => XS.aloadN X4.here hx rfl (hb hby d16_12) rfl rfl k) ?_
  show own_Go p e below _ (T4.setTop (mkF m 13 #[.val (.ref a0), .val (.ref a1)] [(.ref a1), f_a0_from, (.ref b2), (.ref b2)]))
  have F5 : own_Arf Z h2 a1 k_a1 .byte n_a1 (fun i => .int (fn_a1 i)) := (P_V_a1.ext E2)
  have F6 : Exa Z h2 a1 "[B" := (P_E_a1.ext E2)
  obtain ⟨T7, h7, X7, e7, E7, V7, Ax7, st7⟩ := own_clone X4 hx hZ hown (hwd 74 rfl) (hwd 75 rfl) (hwd 79 rfl) (hwd 77 rfl) (hwd 78 rfl) (hwd 80 rfl) e4 F5 F6 (g := (mkF m 13 #[.val (.ref a0), .val (.ref a1)] [(.ref a1), f_a0_from, (.ref b2), (.ref b2)])) rfl (by rw [hml]; rfl) rfl (hb hby d16_13) (by decide) (W := 3) (by show 2 * 0 + _ ≤ _; simp only [List.map_cons, List.map_nil, List.sum_cons, List.sum_nil, own_cat1 hr_f_a0_from]; exact Nat.le_of_eq rfl) (by decide) (cap := 3) hp_1 (by decide) (by decide)
  obtain ⟨b7, g7⟩ : ∃ z, z = h2.size := ⟨_, rfl⟩
  have ge_b7 : n0 ≤ b7 := Nat.le_trans Z2 (Nat.le_of_eq g7.symm)
  have sz_b7 : h0.size ≤ b7 := Nat.le_trans K2.1 (Nat.le_of_eq g7.symm)
  have K7 : Keep h0 h7 [] := K2.ext E7
  have Z7 : n0 ≤ h7.size := Nat.le_trans Z2 E7.1
  rw [← g7] at V7 Ax7 st7
  refine own_by st7 ?_
  show own_Go p e below _ (T7.setTop (mkF m 16 #[.val (.ref a0), .val (.ref a1)] [(.ref b7), f_a0_from, (.ref b2), (.ref b2)]))
  obtain ⟨T8, X8, e8, st8⟩ := castY X7 hx hZ hown (hwd 81 rfl) e7 (Ins.self Ax7) (g := (mkF m 16 #[.val (.ref a0), .val (.ref a1)] [(.ref b7), f_a0_from, (.ref b2), (.ref b2)])) rfl rfl (hb hby d16_16)
  refine own_by st8 ?_
  show own_Go p e below _ (T8.setTop (mkF m 19 #[.val (.ref a0), .val (.ref a1)] [(.ref b7), f_a0_from, (.ref b2), (.ref b2)]))
  refine own_by (fun _ k => XS.aloadN X8.here hx rfl (hb hby d16_19) rfl rfl k) ?_
  show own_Go p e below _ (T8.setTop (mkF m 20 #[.val (.ref a0), .val (.ref a1)] [(.ref a0), (.ref b7), f_a0_from, (.ref b2), (.ref b2)]))
  have F9 : Fld Z h7 a0 "com/example/nested_keyspace/nestedkeyspace/ScanOptions" "subtree" "Z" (.int (0 : Int32)) := ((P_F_a0_subtree.ext E2).ext E7)
  obtain ⟨T10, X10, e10, st10⟩ := getF X8 hx hZ hown (host := "") (Or.inl (hwd 23 rfl)) Via.refl e8 F9 (g := (mkF m 20 #[.val (.ref a0), .val (.ref a1)] [(.ref a0), (.ref b7), f_a0_from, (.ref b2), (.ref b2)])) rfl rfl (hb hby d16_20)
  refine own_by st10 ?_
  show own_Go p e below _ (T10.setTop (mkF m 23 #[.val (.ref a0), .val (.ref a1)] [(.int (0 : Int32)), (.ref b7), f_a0_from, (.ref b2), (.ref b2)]))
  refine own_by (fun _ k => XS.aloadN X10.here hx rfl (hb hby d16_23) rfl rfl k) ?_
  show own_Go p e below _ (T10.setTop (mkF m 24 #[.val (.ref a0), .val (.ref a1)] [(.ref a0), (.int (0 : Int32)), (.ref b7), f_a0_from, (.ref b2), (.ref b2)]))
  have F11 : Fld Z h7 a0 "com/example/nested_keyspace/nestedkeyspace/ScanOptions" "reverse" "Z" (.int f_a0_reverse) := ((P_F_a0_reverse.ext E2).ext E7)
  obtain ⟨T12, X12, e12, st12⟩ := getF X10 hx hZ hown (host := "") (Or.inl (hwd 25 rfl)) Via.refl e10 F11 (g := (mkF m 24 #[.val (.ref a0), .val (.ref a1)] [(.ref a0), (.int (0 : Int32)), (.ref b7), f_a0_from, (.ref b2), (.ref b2)])) rfl rfl (hb hby d16_24)
  refine own_by st12 ?_
  show own_Go p e below _ (T12.setTop (mkF m 27 #[.val (.ref a0), .val (.ref a1)] [(.int f_a0_reverse), (.int (0 : Int32)), (.ref b7), f_a0_from, (.ref b2), (.ref b2)]))
  refine own_by (fun _ k => XS.aloadN X12.here hx rfl (hb hby d16_27) rfl rfl k) ?_
  show own_Go p e below _ (T12.setTop (mkF m 28 #[.val (.ref a0), .val (.ref a1)] [(.ref a0), (.int f_a0_reverse), (.int (0 : Int32)), (.ref b7), f_a0_from, (.ref b2), (.ref b2)]))
  have F13 : Fld Z h7 a0 "com/example/nested_keyspace/nestedkeyspace/ScanOptions" "limit" "J" (.long f_a0_limit) := ((P_F_a0_limit.ext E2).ext E7)
  obtain ⟨T14, X14, e14, st14⟩ := getF X12 hx hZ hown (host := "") (Or.inl (hwd 27 rfl)) Via.refl e12 F13 (g := (mkF m 28 #[.val (.ref a0), .val (.ref a1)] [(.ref a0), (.int f_a0_reverse), (.int (0 : Int32)), (.ref b7), f_a0_from, (.ref b2), (.ref b2)])) rfl rfl (hb hby d16_28)
  refine own_by st14 ?_
  show own_Go p e below _ (T14.setTop (mkF m 31 #[.val (.ref a0), .val (.ref a1)] [(.long f_a0_limit), (.int f_a0_reverse), (.int (0 : Int32)), (.ref b7), f_a0_from, (.ref b2), (.ref b2)]))
  have F15 : Exa Z h7 b2 "com/example/nested_keyspace/nestedkeyspace/ScanOptions" := (A2.ext E7)
  have F16 : Fld Z h7 b2 "com/example/nested_keyspace/nestedkeyspace/ScanOptions" "from" "[B" .null := (F_from_b2.ext E7)
  have F17 : Fld Z h7 b2 "com/example/nested_keyspace/nestedkeyspace/ScanOptions" "to" "[B" .null := (F_to_b2.ext E7)
  have F18 : Fld Z h7 b2 "com/example/nested_keyspace/nestedkeyspace/ScanOptions" "subtree" "Z" (.int (0 : Int32)) := (F_subtree_b2.ext E7)
  have F19 : Fld Z h7 b2 "com/example/nested_keyspace/nestedkeyspace/ScanOptions" "reverse" "Z" (.int (0 : Int32)) := (F_reverse_b2.ext E7)
  have F20 : Fld Z h7 b2 "com/example/nested_keyspace/nestedkeyspace/ScanOptions" "limit" "J" (.long (0 : Int64)) := (F_limit_b2.ext E7)
  obtain ⟨_, _, ⟨T21, L21, k21, n21⟩, -, X21, ⟨Lc21, hQ21, l21, y21, z21⟩, st21⟩ := X14.specialBack hx (y := (⟨"com/example/nested_keyspace/nestedkeyspace/ScanOptions", "<init>", "([B[BZZJ)V"⟩ : MethodName)) rfl hown (mvT hZ (hwd 13 rfl)) (mvT hZ (hwd 14 rfl)) (mvT hZ (hwd 15 rfl)) (by decide) (backOf (W := 1) (rm3 l Z A0 hw [] b2 f_a0_from (.ref b7) (0 : Int32) f_a0_reverse f_a0_limit (.null) (.null) (0 : Int32) (0 : Int32) (0 : Int64) h7 n0 Z7 hr_f_a0_from rfl F15 F16 ge_b2 F17 F18 F19 F20) hZ (hwd 15 rfl) (hwd 8 rfl) (by decide) (by decide)) (g := (mkF m 31 #[.val (.ref a0), .val (.ref a1)] [(.long f_a0_limit), (.int f_a0_reverse), (.int (0 : Int32)), (.ref b7), f_a0_from, (.ref b2), (.ref b2)])) rfl (by rw [hml]; rfl) (Steps.refl _) (a := b2) (argsL := [f_a0_from, (.ref b7), (.int (0 : Int32)), (.int f_a0_reverse), (.long f_a0_limit)]) (rest := [(.ref b2)]) (lenOf pd_13 rfl) rfl (by show 2 * 0 + _ ≤ _; exact Nat.le_of_eq rfl) (hb hby d16_31) (fun _ _ => ⟨rfl, e14, (by decide : 2 + 0 ≤ _), (by decide : 8 + 0 ≤ _)⟩)
  dsimp only [Pt.U, Pt.locs, Pt.cells, Pt.slots] at X21 l21 y21 z21 st21 hQ21
  subst l21 y21 z21
  obtain ⟨rfl, Nq21, Kq21, F22, F23, F24, F25, F26, F27⟩ := hQ21
  have N21 := Fr.app N1 Nq21
  have K21 : Keep h0 T21.heap [] := K7.trans Kq21 ((allS (Or.inr sz_b2) all0))
  have Z21 : n0 ≤ T21.heap.size := Nat.le_trans Z7 Kq21.1
  refine own_by (fun _ k => st21.trans k) ?_
  show own_Go p e below _ (T21.setTop (mkF m 34 #[.val (.ref a0), .val (.ref a1)] [(.ref b2)]))
  have F28 : own_Arf Z T21.heap b7 k_a1 .byte n_a1 (fun i => .int (fn_a1 i)) := (V7.keep Kq21 (ninS (Ne.symm (Nat.ne_of_lt (Nat.lt_of_lt_of_le (A2).lt (Nat.le_of_eq g7.symm)))) nin0))
  have F29 : Exa Z T21.heap b7 "[B" := (Ax7.keep Kq21)
  exact own_retR X21 hx Bd.returns (by decide) rfl (hb hby d16_34) hlk rfl ⟨_, _, _, rfl, N21, K21, ge_b2, sz_b2, F22, F23, F24, F25, F26, F27, ge_b7, sz_b7, F28, F29, (Nat.ne_of_lt (Nat.lt_of_lt_of_le (A2).lt (Nat.le_of_eq g7.symm)))⟩ (by decide) (by decide)
theorem d5_0 : decode prog_13_method_6_code 0 = .ok (.new 6, 3) := by decide +kernel
theorem d5_3 : decode prog_13_method_6_code 3 = .ok (.dup, 1) := by decide +kernel
theorem d5_4 : decode prog_13_method_6_code 4 = .ok (.aload_n 0, 1) := by decide +kernel
theorem d5_5 : decode prog_13_method_6_code 5 = .ok (.getfield 16, 3) := by decide +kernel
theorem d5_8 : decode prog_13_method_6_code 8 = .ok (.aload_n 0, 1) := by decide +kernel
theorem d5_9 : decode prog_13_method_6_code 9 = .ok (.getfield 20, 3) := by decide +kernel
theorem d5_12 : decode prog_13_method_6_code 12 = .ok (.aload_n 0, 1) := by decide +kernel
theorem d5_13 : decode prog_13_method_6_code 13 = .ok (.getfield 23, 3) := by decide +kernel
theorem d5_16 : decode prog_13_method_6_code 16 = .ok (.iconst 1, 1) := by decide +kernel
theorem d5_17 : decode prog_13_method_6_code 17 = .ok (.aload_n 0, 1) := by decide +kernel
theorem d5_18 : decode prog_13_method_6_code 18 = .ok (.getfield 30, 3) := by decide +kernel
theorem d5_21 : decode prog_13_method_6_code 21 = .ok (.invokespecial 5, 3) := by decide +kernel
theorem d5_24 : decode prog_13_method_6_code 24 = .ok (.areturn, 1) := by decide +kernel
theorem pn_5 : plainName "com/example/nested_keyspace/nestedkeyspace/ScanOptions" = true := by first | (simp [plainName, overriddenIn]; done) | decide +kernel
theorem ef_5 (m : MethodId) (a0 : Addr) : entryFrame m #[(.ref a0)] 1 = mkF m 0 #[.val (.ref a0)] [] := by first | (simp [entryFrame, mkF, argsToLocals, Value.category]; done) | rfl
def Q5 (Z : State) (a0 : Addr) (f_a0_from : Value) (f_a0_to : Value) (f_a0_subtree : Int32) (f_a0_limit : Int64) (h0 : Heap) (n0 : Nat) (v : Option Value) (h : Heap) (L : List Loc) : Prop := ∃ (b1 : Addr), v = some (.ref b1) ∧ Fr n0 L ∧ Keep h0 h [] ∧ (n0 ≤ b1) ∧ (h0.size ≤ b1) ∧ Exa Z h b1 "com/example/nested_keyspace/nestedkeyspace/ScanOptions" ∧ Fld Z h b1 "com/example/nested_keyspace/nestedkeyspace/ScanOptions" "from" "[B" f_a0_from ∧ Fld Z h b1 "com/example/nested_keyspace/nestedkeyspace/ScanOptions" "to" "[B" f_a0_to ∧ Fld Z h b1 "com/example/nested_keyspace/nestedkeyspace/ScanOptions" "subtree" "Z" (.int (nar .boolean f_a0_subtree)) ∧ Fld Z h b1 "com/example/nested_keyspace/nestedkeyspace/ScanOptions" "reverse" "Z" (.int (1 : Int32)) ∧ Fld Z h b1 "com/example/nested_keyspace/nestedkeyspace/ScanOptions" "limit" "J" (.long f_a0_limit)
set_option maxRecDepth 65536 in
set_option maxHeartbeats 40000000 in
theorem rm5 (l : Launch) (Z : State) (A0 : Array Value) (hw : ∀ d ∈ tables_1, d.before A0 Z = true) (ws : List Jvm.Cond) (a0 : Addr) (f_a0_from : Value) (f_a0_to : Value) (f_a0_subtree : Int32) (f_a0_limit : Int64) (h0 : Heap) (n0 : Nat) (Z0 : n0 ≤ h0.size) (hr_f_a0_from : f_a0_from.isRef = true) (P_F_a0_from : Fld Z h0 a0 "com/example/nested_keyspace/nestedkeyspace/ScanOptions" "from" "[B" f_a0_from) (hr_f_a0_to : f_a0_to.isRef = true) (P_F_a0_to : Fld Z h0 a0 "com/example/nested_keyspace/nestedkeyspace/ScanOptions" "to" "[B" f_a0_to) (P_F_a0_subtree : Fld Z h0 a0 "com/example/nested_keyspace/nestedkeyspace/ScanOptions" "subtree" "Z" (.int f_a0_subtree)) (P_F_a0_limit : Fld Z h0 a0 "com/example/nested_keyspace/nestedkeyspace/ScanOptions" "limit" "J" (.long f_a0_limit)) :
    MetFree l (⟨"com/example/nested_keyspace/nestedkeyspace/ScanOptions", "reverse", "()Lcom/example/nested_keyspace/nestedkeyspace/ScanOptions;"⟩ : MethodName) (head1 (Jvm.Cond.code (⟨"com/example/nested_keyspace/nestedkeyspace/ScanOptions", "reverse", "()Lcom/example/nested_keyspace/nestedkeyspace/ScanOptions;"⟩ : MethodName) prog_13_method_6_code 1 (some (.object "com/example/nested_keyspace/nestedkeyspace/ScanOptions")) :: ws) ({ frames := 2, cells := 1, slots := 5, locals := 31 } : Room)) (fun a U => a = #[(.ref a0)] ∧ Z.Warmed39 U.vm ∧ U.heap = h0) (fun _ _ _ _ _ => True) (fun _ U o U' => ∃ v L, o = .returned v ∧ Q5 Z a0 f_a0_from f_a0_to f_a0_subtree f_a0_limit h0 n0 v U'.heap L ∧ FrameEnd U o U' L 1 5) := by
  refine MetFree.of_bodySF (plainFor_of_name pn_5) hisR ?_
  intro p e s m args below meth c s₁ Bd hml0 hP hK
  obtain ⟨rfl, hZ, hh⟩ := hP
  have hwd := fun i {d : Jvm.Cond} (h : tables_1[i]? = some d) => hw d (List.mem_of_getElem? h)
  have hx := Bd.exec
  have hby := Bd.bytes
  have hml : c.maxLocals = 1 := hml0
  have hlk : meth.locks = false := Bd.notSynchronized
  have hown : s.vm.findClass "com/example/nested_keyspace/nestedkeyspace/ScanOptions" = some m.cls := findClass_of_methodNamed Bd.named
  have hnm := (name_of_methodNamed Bd.named Bd.method).1
  have X0 : Stand p l e ({ frames := 2, cells := 1, slots := 5, locals := 31 } : Room) s m #[(.ref a0)] below meth c s₁ [] 0 0 := Stand.of_body Bd
  have e0 : s₁.heap = h0 := by rw [← hh, Bd.state]; rfl
  have N0 := Fr.nil n0
  show own_Go p e below (own_Fin s 1 5 (Q5 Z a0 f_a0_from f_a0_to f_a0_subtree f_a0_limit h0 n0)) _
  refine own_by (fun t k => castTop (ef_5 m a0) k) ?_
  show own_Go p e below _ (s₁.setTop (mkF m 0 #[.val (.ref a0)] []))
  obtain ⟨T1, h1, X1, e1, E1, A1, D1, -, st1⟩ := newO X0 hx hZ hown (hwd 34 rfl) (hwd 7 rfl) (hwd 8 rfl) e0 (g := (mkF m 0 #[.val (.ref a0)] [])) rfl (hb hby d5_0) (by decide) (by decide)
  obtain ⟨b1, g1⟩ : ∃ z, z = h0.size := ⟨_, rfl⟩
  have ge_b1 : n0 ≤ b1 := Nat.le_trans Z0 (Nat.le_of_eq g1.symm)
  have sz_b1 : h0.size ≤ b1 := Nat.le_trans (Keep.refl h0 []).1 (Nat.le_of_eq g1.symm)
  have K1 : Keep h0 h1 [] := (Keep.refl h0 []).ext E1
  have Z1 : n0 ≤ h1.size := Nat.le_trans Z0 E1.1
  rw [← g1] at A1 D1 st1
  have F_from_b1 : Fld Z h1 b1 "com/example/nested_keyspace/nestedkeyspace/ScanOptions" "from" "[B" .null := D1 (Or.inr (hwd 20 rfl)) (ty := (.array .byte)) (by decide)
  have F_to_b1 : Fld Z h1 b1 "com/example/nested_keyspace/nestedkeyspace/ScanOptions" "to" "[B" .null := D1 (Or.inr (hwd 22 rfl)) (ty := (.array .byte)) (by decide)
  have F_subtree_b1 : Fld Z h1 b1 "com/example/nested_keyspace/nestedkeyspace/ScanOptions" "subtree" "Z" (.int (0 : Int32)) := D1 (Or.inr (hwd 24 rfl)) (ty := .boolean) (by decide)
  have F_reverse_b1 : Fld Z h1 b1 "com/example/nested_keyspace/nestedkeyspace/ScanOptions" "reverse" "Z" (.int (0 : Int32)) := D1 (Or.inr (hwd 26 rfl)) (ty := .boolean) (by decide)
  have F_limit_b1 : Fld Z h1 b1 "com/example/nested_keyspace/nestedkeyspace/ScanOptions" "limit" "J" (.long (0 : Int64)) := D1 (Or.inr (hwd 28 rfl)) (ty := .long) (by decide)
  refine own_by st1 ?_
  show own_Go p e below _ (T1.setTop (mkF m 3 #[.val (.ref a0)] [(.ref b1)]))
  refine own_by (fun _ k => XS.dup X1.here hx rfl (hb hby d5_3) rfl rfl k) ?_
  show own_Go p e below _ (T1.setTop (mkF m 4 #[.val (.ref a0)] [(.ref b1), (.ref b1)]))
  refine own_by (fun _ k => XS.aloadN X1.here hx rfl (hb hby d5_4) rfl rfl k) ?_
  show own_Go p e below _ (T1.setTop (mkF m 5 #[.val (.ref a0)] [(.ref a0), (.ref b1), (.ref b1)]))
  have F2 : Fld Z h1 a0 "com/example/nested_keyspace/nestedkeyspace/ScanOptions" "from" "[B" f_a0_from := (P_F_a0_from.ext E1)
  obtain ⟨T3, X3, e3, st3⟩ := getF X1 hx hZ hown (host := "") (Or.inl (hwd 19 rfl)) Via.refl e1 F2 (g := (mkF m 5 #[.val (.ref a0)] [(.ref a0), (.ref b1), (.ref b1)])) rfl rfl (hb hby d5_5)
  refine own_by st3 ?_
  show own_Go p e below _ (T3.setTop (mkF m 8 #[.val (.ref a0)] [f_a0_from, (.ref b1), (.ref b1)]))
  refine own_by (fun _ k => XS.aloadN X3.here hx rfl (hb hby d5_8) rfl rfl k) ?_
  show own_Go p e below _ (T3.setTop (mkF m 9 #[.val (.ref a0)] [(.ref a0), f_a0_from, (.ref b1), (.ref b1)]))
  have F4 : Fld Z h1 a0 "com/example/nested_keyspace/nestedkeyspace/ScanOptions" "to" "[B" f_a0_to := (P_F_a0_to.ext E1)
  obtain ⟨T5, X5, e5, st5⟩ := getF X3 hx hZ hown (host := "") (Or.inl (hwd 21 rfl)) Via.refl e3 F4 (g := (mkF m 9 #[.val (.ref a0)] [(.ref a0), f_a0_from, (.ref b1), (.ref b1)])) rfl rfl (hb hby d5_9)
  refine own_by st5 ?_
  show own_Go p e below _ (T5.setTop (mkF m 12 #[.val (.ref a0)] [f_a0_to, f_a0_from, (.ref b1), (.ref b1)]))
  refine own_by (fun _ k => XS.aloadN X5.here hx rfl (hb hby d5_12) rfl rfl k) ?_
  show own_Go p e below _ (T5.setTop (mkF m 13 #[.val (.ref a0)] [(.ref a0), f_a0_to, f_a0_from, (.ref b1), (.ref b1)]))
  have F6 : Fld Z h1 a0 "com/example/nested_keyspace/nestedkeyspace/ScanOptions" "subtree" "Z" (.int f_a0_subtree) := (P_F_a0_subtree.ext E1)
  obtain ⟨T7, X7, e7, st7⟩ := getF X5 hx hZ hown (host := "") (Or.inl (hwd 23 rfl)) Via.refl e5 F6 (g := (mkF m 13 #[.val (.ref a0)] [(.ref a0), f_a0_to, f_a0_from, (.ref b1), (.ref b1)])) rfl rfl (hb hby d5_13)
  refine own_by st7 ?_
  show own_Go p e below _ (T7.setTop (mkF m 16 #[.val (.ref a0)] [(.int f_a0_subtree), f_a0_to, f_a0_from, (.ref b1), (.ref b1)]))
  refine own_by (fun _ k => XS.iconst X7.here hx rfl (hb hby d5_16) k) ?_
  show own_Go p e below _ (T7.setTop (mkF m 17 #[.val (.ref a0)] [(.int (1 : Int32)), (.int f_a0_subtree), f_a0_to, f_a0_from, (.ref b1), (.ref b1)]))
  refine own_by (fun _ k => XS.aloadN X7.here hx rfl (hb hby d5_17) rfl rfl k) ?_
  show own_Go p e below _ (T7.setTop (mkF m 18 #[.val (.ref a0)] [(.ref a0), (.int (1 : Int32)), (.int f_a0_subtree), f_a0_to, f_a0_from, (.ref b1), (.ref b1)]))
  have F8 : Fld Z h1 a0 "com/example/nested_keyspace/nestedkeyspace/ScanOptions" "limit" "J" (.long f_a0_limit) := (P_F_a0_limit.ext E1)
  obtain ⟨T9, X9, e9, st9⟩ := getF X7 hx hZ hown (host := "") (Or.inl (hwd 27 rfl)) Via.refl e7 F8 (g := (mkF m 18 #[.val (.ref a0)] [(.ref a0), (.int (1 : Int32)), (.int f_a0_subtree), f_a0_to, f_a0_from, (.ref b1), (.ref b1)])) rfl rfl (hb hby d5_18)
  refine own_by st9 ?_
  show own_Go p e below _ (T9.setTop (mkF m 21 #[.val (.ref a0)] [(.long f_a0_limit), (.int (1 : Int32)), (.int f_a0_subtree), f_a0_to, f_a0_from, (.ref b1), (.ref b1)]))
  obtain ⟨_, _, ⟨T10, L10, k10, n10⟩, -, X10, ⟨Lc10, hQ10, l10, y10, z10⟩, st10⟩ := X9.specialBack hx (y := (⟨"com/example/nested_keyspace/nestedkeyspace/ScanOptions", "<init>", "([B[BZZJ)V"⟩ : MethodName)) rfl hown (mvT hZ (hwd 13 rfl)) (mvT hZ (hwd 14 rfl)) (mvT hZ (hwd 15 rfl)) (by decide) (backOf (W := 1) (rm3 l Z A0 hw [] b1 f_a0_from f_a0_to f_a0_subtree (1 : Int32) f_a0_limit (.null) (.null) (0 : Int32) (0 : Int32) (0 : Int64) h1 n0 Z1 hr_f_a0_from hr_f_a0_to A1 F_from_b1 ge_b1 F_to_b1 F_subtree_b1 F_reverse_b1 F_limit_b1) hZ (hwd 15 rfl) (hwd 8 rfl) (by decide) (by decide)) (g := (mkF m 21 #[.val (.ref a0)] [(.long f_a0_limit), (.int (1 : Int32)), (.int f_a0_subtree), f_a0_to, f_a0_from, (.ref b1), (.ref b1)])) rfl (by rw [hml]; rfl) (Steps.refl _) (a := b1) (argsL := [f_a0_from, f_a0_to, (.int f_a0_subtree), (.int (1 : Int32)), (.long f_a0_limit)]) (rest := [(.ref b1)]) (lenOf pd_13 rfl) rfl (by show 2 * 0 + _ ≤ _; exact Nat.le_of_eq rfl) (hb hby d5_21) (fun _ _ => ⟨rfl, e9, (by decide : 1 + 0 ≤ _), (by decide : 5 + 0 ≤ _)⟩)
  dsimp only [Pt.U, Pt.locs, Pt.cells, Pt.slots] at X10 l10 y10 z10 st10 hQ10
  subst l10 y10 z10
  obtain ⟨rfl, Nq10, Kq10, F11, F12, F13, F14, F15, F16⟩ := hQ10
  have N10 := Fr.app N0 Nq10
  have K10 : Keep h0 T10.heap [] := K1.trans Kq10 ((allS (Or.inr sz_b1) all0))
  have Z10 : n0 ≤ T10.heap.size := Nat.le_trans Z1 Kq10.1
  refine own_by (fun _ k => st10.trans k) ?_
  show own_Go p e below _ (T10.setTop (mkF m 24 #[.val (.ref a0)] [(.ref b1)]))
  exact own_retR X10 hx Bd.returns (by decide) rfl (hb hby d5_24) hlk rfl ⟨_, rfl, N10, K10, ge_b1, sz_b1, F11, F12, F13, F14, F15, F16⟩ (by decide) (by decide)
theorem d15_0 : decode prog_13_method_7_code 0 = .ok (.lload_n 1, 1) := by decide +kernel
theorem d15_1 : decode prog_13_method_7_code 1 = .ok (.lconst 0, 1) := by decide +kernel
theorem d15_2 : decode prog_13_method_7_code 2 = .ok (.lcmp, 1) := by decide +kernel
theorem d15_3 : decode prog_13_method_7_code 3 = .ok (.ifCond .ge 17, 3) := by decide +kernel
theorem d15_20 : decode prog_13_method_7_code 20 = .ok (.new 6, 3) := by decide +kernel
theorem d15_23 : decode prog_13_method_7_code 23 = .ok (.dup, 1) := by decide +kernel
theorem d15_24 : decode prog_13_method_7_code 24 = .ok (.aload_n 0, 1) := by decide +kernel
theorem d15_25 : decode prog_13_method_7_code 25 = .ok (.getfield 16, 3) := by decide +kernel
theorem d15_28 : decode prog_13_method_7_code 28 = .ok (.aload_n 0, 1) := by decide +kernel
theorem d15_29 : decode prog_13_method_7_code 29 = .ok (.getfield 20, 3) := by decide +kernel
theorem d15_32 : decode prog_13_method_7_code 32 = .ok (.aload_n 0, 1) := by decide +kernel
theorem d15_33 : decode prog_13_method_7_code 33 = .ok (.getfield 23, 3) := by decide +kernel
theorem d15_36 : decode prog_13_method_7_code 36 = .ok (.aload_n 0, 1) := by decide +kernel
theorem d15_37 : decode prog_13_method_7_code 37 = .ok (.getfield 27, 3) := by decide +kernel
theorem d15_40 : decode prog_13_method_7_code 40 = .ok (.lload_n 1, 1) := by decide +kernel
theorem d15_41 : decode prog_13_method_7_code 41 = .ok (.invokespecial 5, 3) := by decide +kernel
theorem d15_44 : decode prog_13_method_7_code 44 = .ok (.areturn, 1) := by decide +kernel
theorem pn_15 : plainName "com/example/nested_keyspace/nestedkeyspace/ScanOptions" = true := by first | (simp [plainName, overriddenIn]; done) | decide +kernel
theorem ef_15 (m : MethodId) (a0 : Addr) (q1 : Int64) : entryFrame m #[(.ref a0), (.long q1)] 3 = mkF m 0 #[.val (.ref a0), .val (.long q1), .second] [] := by first | (simp [entryFrame, mkF, argsToLocals, Value.category]; done) | rfl
def Q15 (Z : State) (a0 : Addr) (q1 : Int64) (f_a0_from : Value) (f_a0_to : Value) (f_a0_reverse : Int32) (h0 : Heap) (n0 : Nat) (v : Option Value) (h : Heap) (L : List Loc) : Prop := ∃ (b1 : Addr), v = some (.ref b1) ∧ Fr n0 L ∧ Keep h0 h [] ∧ (n0 ≤ b1) ∧ (h0.size ≤ b1) ∧ Exa Z h b1 "com/example/nested_keyspace/nestedkeyspace/ScanOptions" ∧ Fld Z h b1 "com/example/nested_keyspace/nestedkeyspace/ScanOptions" "from" "[B" f_a0_from ∧ Fld Z h b1 "com/example/nested_keyspace/nestedkeyspace/ScanOptions" "to" "[B" f_a0_to ∧ Fld Z h b1 "com/example/nested_keyspace/nestedkeyspace/ScanOptions" "subtree" "Z" (.int (0 : Int32)) ∧ Fld Z h b1 "com/example/nested_keyspace/nestedkeyspace/ScanOptions" "reverse" "Z" (.int (nar .boolean f_a0_reverse)) ∧ Fld Z h b1 "com/example/nested_keyspace/nestedkeyspace/ScanOptions" "limit" "J" (.long q1)
set_option maxRecDepth 65536 in
set_option maxHeartbeats 40000000 in
theorem rm15 (l : Launch) (Z : State) (A0 : Array Value) (hw : ∀ d ∈ tables_1, d.before A0 Z = true) (ws : List Jvm.Cond) (a0 : Addr) (q1 : Int64) (f_a0_from : Value) (f_a0_to : Value) (f_a0_reverse : Int32) (h0 : Heap) (n0 : Nat) (Z0 : n0 ≤ h0.size) (P_F_a0_subtree : Fld Z h0 a0 "com/example/nested_keyspace/nestedkeyspace/ScanOptions" "subtree" "Z" (.int (0 : Int32))) (hc3 : ¬ (q1 < (0 : Int64))) (hr_f_a0_from : f_a0_from.isRef = true) (P_F_a0_from : Fld Z h0 a0 "com/example/nested_keyspace/nestedkeyspace/ScanOptions" "from" "[B" f_a0_from) (hr_f_a0_to : f_a0_to.isRef = true) (P_F_a0_to : Fld Z h0 a0 "com/example/nested_keyspace/nestedkeyspace/ScanOptions" "to" "[B" f_a0_to) (P_F_a0_reverse : Fld Z h0 a0 "com/example/nested_keyspace/nestedkeyspace/ScanOptions" "reverse" "Z" (.int f_a0_reverse)) :
    MetFree l (⟨"com/example/nested_keyspace/nestedkeyspace/ScanOptions", "limit", "(J)Lcom/example/nested_keyspace/nestedkeyspace/ScanOptions;"⟩ : MethodName) (head1 (Jvm.Cond.code (⟨"com/example/nested_keyspace/nestedkeyspace/ScanOptions", "limit", "(J)Lcom/example/nested_keyspace/nestedkeyspace/ScanOptions;"⟩ : MethodName) prog_13_method_7_code 3 (some (.object "com/example/nested_keyspace/nestedkeyspace/ScanOptions")) :: ws) ({ frames := 2, cells := 1, slots := 5, locals := 31 } : Room)) (fun a U => a = #[(.ref a0), (.long q1)] ∧ Z.Warmed39 U.vm ∧ U.heap = h0) (fun _ _ _ _ _ => True) (fun _ U o U' => ∃ v L, o = .returned v ∧ Q15 Z a0 q1 f_a0_from f_a0_to f_a0_reverse h0 n0 v U'.heap L ∧ FrameEnd U o U' L 1 5) := by
  refine MetFree.of_bodySF (plainFor_of_name pn_15) hisR ?_
  intro p e s m args below meth c s₁ Bd hml0 hP hK
  obtain ⟨rfl, hZ, hh⟩ := hP
  have hwd := fun i {d : Jvm.Cond} (h : tables_1[i]? = some d) => hw d (List.mem_of_getElem? h)
  have hx := Bd.exec
  have hby := Bd.bytes
  have hml : c.maxLocals = 3 := hml0
  have hlk : meth.locks = false := Bd.notSynchronized
  have hown : s.vm.findClass "com/example/nested_keyspace/nestedkeyspace/ScanOptions" = some m.cls := findClass_of_methodNamed Bd.named
  have hnm := (name_of_methodNamed Bd.named Bd.method).1
  have X0 : Stand p l e ({ frames := 2, cells := 1, slots := 5, locals := 31 } : Room) s m #[(.ref a0), (.long q1)] below meth c s₁ [] 0 0 := Stand.of_body Bd
  have e0 : s₁.heap = h0 := by rw [← hh, Bd.state]; rfl
  have N0 := Fr.nil n0
  show own_Go p e below (own_Fin s 1 5 (Q15 Z a0 q1 f_a0_from f_a0_to f_a0_reverse h0 n0)) _
  refine own_by (fun t k => castTop (ef_15 m a0 q1) k) ?_
  show own_Go p e below _ (s₁.setTop (mkF m 0 #[.val (.ref a0), .val (.long q1), .second] []))
  refine own_by (fun _ k => XS.lloadN X0.here hx rfl (hb hby d15_0) rfl k) ?_
  show own_Go p e below _ (s₁.setTop (mkF m 1 #[.val (.ref a0), .val (.long q1), .second] [(.long q1)]))
  refine own_by (fun _ k => XS.lconst X0.here hx rfl (hb hby d15_1) k) ?_
  show own_Go p e below _ (s₁.setTop (mkF m 2 #[.val (.ref a0), .val (.long q1), .second] [(.long (0 : Int64)), (.long q1)]))
  refine own_by (fun _ k => XS.lcmp X0.here hx rfl (hb hby d15_2) rfl k) ?_
  show own_Go p e below _ (s₁.setTop (mkF m 3 #[.val (.ref a0), .val (.long q1), .second] [(.int (lcmpW q1 (0 : Int64)))]))
  refine own_by (fun _ k => XS.ifYes X0.here hx rfl (pc0 := 3) (pc' := 20) rfl (hb hby d15_3) rfl ((if0 _ _).trans (flt (fun q => hc3 ((lw_lt _ _).mp q))).2.1) (by decide) (by decide) k) ?_
  show own_Go p e below _ (s₁.setTop (mkF m 20 #[.val (.ref a0), .val (.long q1), .second] []))
  obtain ⟨T1, h1, X1, e1, E1, A1, D1, -, st1⟩ := newO X0 hx hZ hown (hwd 34 rfl) (hwd 7 rfl) (hwd 8 rfl) e0 (g := (mkF m 20 #[.val (.ref a0), .val (.long q1), .second] [])) rfl (hb hby d15_20) (by decide) (by decide)
  obtain ⟨b1, g1⟩ : ∃ z, z = h0.size := ⟨_, rfl⟩
  have ge_b1 : n0 ≤ b1 := Nat.le_trans Z0 (Nat.le_of_eq g1.symm)
  have sz_b1 : h0.size ≤ b1 := Nat.le_trans (Keep.refl h0 []).1 (Nat.le_of_eq g1.symm)
  have K1 : Keep h0 h1 [] := (Keep.refl h0 []).ext E1
  have Z1 : n0 ≤ h1.size := Nat.le_trans Z0 E1.1
  rw [← g1] at A1 D1 st1
  have F_from_b1 : Fld Z h1 b1 "com/example/nested_keyspace/nestedkeyspace/ScanOptions" "from" "[B" .null := D1 (Or.inr (hwd 20 rfl)) (ty := (.array .byte)) (by decide)
  have F_to_b1 : Fld Z h1 b1 "com/example/nested_keyspace/nestedkeyspace/ScanOptions" "to" "[B" .null := D1 (Or.inr (hwd 22 rfl)) (ty := (.array .byte)) (by decide)
  have F_subtree_b1 : Fld Z h1 b1 "com/example/nested_keyspace/nestedkeyspace/ScanOptions" "subtree" "Z" (.int (0 : Int32)) := D1 (Or.inr (hwd 24 rfl)) (ty := .boolean) (by decide)
  have F_reverse_b1 : Fld Z h1 b1 "com/example/nested_keyspace/nestedkeyspace/ScanOptions" "reverse" "Z" (.int (0 : Int32)) := D1 (Or.inr (hwd 26 rfl)) (ty := .boolean) (by decide)
  have F_limit_b1 : Fld Z h1 b1 "com/example/nested_keyspace/nestedkeyspace/ScanOptions" "limit" "J" (.long (0 : Int64)) := D1 (Or.inr (hwd 28 rfl)) (ty := .long) (by decide)
  refine own_by st1 ?_
  show own_Go p e below _ (T1.setTop (mkF m 23 #[.val (.ref a0), .val (.long q1), .second] [(.ref b1)]))
  refine own_by (fun _ k => XS.dup X1.here hx rfl (hb hby d15_23) rfl rfl k) ?_
  show own_Go p e below _ (T1.setTop (mkF m 24 #[.val (.ref a0), .val (.long q1), .second] [(.ref b1), (.ref b1)]))
  refine own_by (fun _ k => XS.aloadN X1.here hx rfl (hb hby d15_24) rfl rfl k) ?_
  show own_Go p e below _ (T1.setTop (mkF m 25 #[.val (.ref a0), .val (.long q1), .second] [(.ref a0), (.ref b1), (.ref b1)]))
  have F2 : Fld Z h1 a0 "com/example/nested_keyspace/nestedkeyspace/ScanOptions" "from" "[B" f_a0_from := (P_F_a0_from.ext E1)
  obtain ⟨T3, X3, e3, st3⟩ := getF X1 hx hZ hown (host := "") (Or.inl (hwd 19 rfl)) Via.refl e1 F2 (g := (mkF m 25 #[.val (.ref a0), .val (.long q1), .second] [(.ref a0), (.ref b1), (.ref b1)])) rfl rfl (hb hby d15_25)
  refine own_by st3 ?_
  show own_Go p e below _ (T3.setTop (mkF m 28 #[.val (.ref a0), .val (.long q1), .second] [f_a0_from, (.ref b1), (.ref b1)]))
  refine own_by (fun _ k => XS.aloadN X3.here hx rfl (hb hby d15_28) rfl rfl k) ?_
  show own_Go p e below _ (T3.setTop (mkF m 29 #[.val (.ref a0), .val (.long q1), .second] [(.ref a0), f_a0_from, (.ref b1), (.ref b1)]))
  have F4 : Fld Z h1 a0 "com/example/nested_keyspace/nestedkeyspace/ScanOptions" "to" "[B" f_a0_to := (P_F_a0_to.ext E1)
  obtain ⟨T5, X5, e5, st5⟩ := getF X3 hx hZ hown (host := "") (Or.inl (hwd 21 rfl)) Via.refl e3 F4 (g := (mkF m 29 #[.val (.ref a0), .val (.long q1), .second] [(.ref a0), f_a0_from, (.ref b1), (.ref b1)])) rfl rfl (hb hby d15_29)
  refine own_by st5 ?_
  show own_Go p e below _ (T5.setTop (mkF m 32 #[.val (.ref a0), .val (.long q1), .second] [f_a0_to, f_a0_from, (.ref b1), (.ref b1)]))
  refine own_by (fun _ k => XS.aloadN X5.here hx rfl (hb hby d15_32) rfl rfl k) ?_
  show own_Go p e below _ (T5.setTop (mkF m 33 #[.val (.ref a0), .val (.long q1), .second] [(.ref a0), f_a0_to, f_a0_from, (.ref b1), (.ref b1)]))
  have F6 : Fld Z h1 a0 "com/example/nested_keyspace/nestedkeyspace/ScanOptions" "subtree" "Z" (.int (0 : Int32)) := (P_F_a0_subtree.ext E1)
  obtain ⟨T7, X7, e7, st7⟩ := getF X5 hx hZ hown (host := "") (Or.inl (hwd 23 rfl)) Via.refl e5 F6 (g := (mkF m 33 #[.val (.ref a0), .val (.long q1), .second] [(.ref a0), f_a0_to, f_a0_from, (.ref b1), (.ref b1)])) rfl rfl (hb hby d15_33)
  refine own_by st7 ?_
  show own_Go p e below _ (T7.setTop (mkF m 36 #[.val (.ref a0), .val (.long q1), .second] [(.int (0 : Int32)), f_a0_to, f_a0_from, (.ref b1), (.ref b1)]))
  refine own_by (fun _ k => XS.aloadN X7.here hx rfl (hb hby d15_36) rfl rfl k) ?_
  show own_Go p e below _ (T7.setTop (mkF m 37 #[.val (.ref a0), .val (.long q1), .second] [(.ref a0), (.int (0 : Int32)), f_a0_to, f_a0_from, (.ref b1), (.ref b1)]))
  have F8 : Fld Z h1 a0 "com/example/nested_keyspace/nestedkeyspace/ScanOptions" "reverse" "Z" (.int f_a0_reverse) := (P_F_a0_reverse.ext E1)
  obtain ⟨T9, X9, e9, st9⟩ := getF X7 hx hZ hown (host := "") (Or.inl (hwd 25 rfl)) Via.refl e7 F8 (g := (mkF m 37 #[.val (.ref a0), .val (.long q1), .second] [(.ref a0), (.int (0 : Int32)), f_a0_to, f_a0_from, (.ref b1), (.ref b1)])) rfl rfl (hb hby d15_37)
  refine own_by st9 ?_
  show own_Go p e below _ (T9.setTop (mkF m 40 #[.val (.ref a0), .val (.long q1), .second] [(.int f_a0_reverse), (.int (0 : Int32)), f_a0_to, f_a0_from, (.ref b1), (.ref b1)]))
  refine own_by (fun _ k => XS.lloadN X9.here hx rfl (hb hby d15_40) rfl k) ?_
  show own_Go p e below _ (T9.setTop (mkF m 41 #[.val (.ref a0), .val (.long q1), .second] [(.long q1), (.int f_a0_reverse), (.int (0 : Int32)), f_a0_to, f_a0_from, (.ref b1), (.ref b1)]))
  obtain ⟨_, _, ⟨T10, L10, k10, n10⟩, -, X10, ⟨Lc10, hQ10, l10, y10, z10⟩, st10⟩ := X9.specialBack hx (y := (⟨"com/example/nested_keyspace/nestedkeyspace/ScanOptions", "<init>", "([B[BZZJ)V"⟩ : MethodName)) rfl hown (mvT hZ (hwd 13 rfl)) (mvT hZ (hwd 14 rfl)) (mvT hZ (hwd 15 rfl)) (by decide) (backOf (W := 1) (rm3 l Z A0 hw [] b1 f_a0_from f_a0_to (0 : Int32) f_a0_reverse q1 (.null) (.null) (0 : Int32) (0 : Int32) (0 : Int64) h1 n0 Z1 hr_f_a0_from hr_f_a0_to A1 F_from_b1 ge_b1 F_to_b1 F_subtree_b1 F_reverse_b1 F_limit_b1) hZ (hwd 15 rfl) (hwd 8 rfl) (by decide) (by decide)) (g := (mkF m 41 #[.val (.ref a0), .val (.long q1), .second] [(.long q1), (.int f_a0_reverse), (.int (0 : Int32)), f_a0_to, f_a0_from, (.ref b1), (.ref b1)])) rfl (by rw [hml]; rfl) (Steps.refl _) (a := b1) (argsL := [f_a0_from, f_a0_to, (.int (0 : Int32)), (.int f_a0_reverse), (.long q1)]) (rest := [(.ref b1)]) (lenOf pd_13 rfl) rfl (by show 2 * 0 + _ ≤ _; exact Nat.le_of_eq rfl) (hb hby d15_41) (fun _ _ => ⟨rfl, e9, (by decide : 1 + 0 ≤ _), (by decide : 5 + 0 ≤ _)⟩)
  dsimp only [Pt.U, Pt.locs, Pt.cells, Pt.slots] at X10 l10 y10 z10 st10 hQ10
  subst l10 y10 z10
  obtain ⟨rfl, Nq10, Kq10, F11, F12, F13, F14, F15, F16⟩ := hQ10
  have N10 := Fr.app N0 Nq10
  have K10 : Keep h0 T10.heap [] := K1.trans Kq10 ((allS (Or.inr sz_b1) all0))
  have Z10 : n0 ≤ T10.heap.size := Nat.le_trans Z1 Kq10.1
  refine own_by (fun _ k => st10.trans k) ?_
  show own_Go p e below _ (T10.setTop (mkF m 44 #[.val (.ref a0), .val (.long q1), .second] [(.ref b1)]))
  exact own_retR X10 hx Bd.returns (by decide) rfl (hb hby d15_44) hlk rfl ⟨_, rfl, N10, K10, ge_b1, sz_b1, F11, F12, F13, F14, F15, F16⟩ (by decide) (by decide)
theorem d6_0 : decode prog_13_method_11_code 0 = .ok (.aload_n 0, 1) := by decide +kernel
theorem d6_1 : decode prog_13_method_11_code 1 = .ok (.getfield 27, 3) := by decide +kernel
theorem d6_4 : decode prog_13_method_11_code 4 = .ok (.ireturn, 1) := by decide +kernel
theorem pn_6 : plainName "com/example/nested_keyspace/nestedkeyspace/ScanOptions" = true := by first | (simp [plainName, overriddenIn]; done) | decide +kernel
theorem ef_6 (m : MethodId) (a0 : Addr) : entryFrame m #[(.ref a0)] 1 = mkF m 0 #[.val (.ref a0)] [] := by first | (simp [entryFrame, mkF, argsToLocals, Value.category]; done) | rfl
def Q6 (Z : State) (a0 : Addr) (f_a0_reverse : Int32) (h0 : Heap) (n0 : Nat) (v : Option Value) (h : Heap) (L : List Loc) : Prop := v = some (.int (nar .boolean f_a0_reverse)) ∧ Fr n0 L ∧ h = h0
set_option maxRecDepth 65536 in
set_option maxHeartbeats 40000000 in
theorem rm6 (l : Launch) (Z : State) (A0 : Array Value) (hw : ∀ d ∈ tables_1, d.before A0 Z = true) (ws : List Jvm.Cond) (a0 : Addr) (f_a0_reverse : Int32) (h0 : Heap) (n0 : Nat) (Z0 : n0 ≤ h0.size) (P_F_a0_reverse : Fld Z h0 a0 "com/example/nested_keyspace/nestedkeyspace/ScanOptions" "reverse" "Z" (.int f_a0_reverse)) :
    MetFree l (⟨"com/example/nested_keyspace/nestedkeyspace/ScanOptions", "readsInReverse", "()Z"⟩ : MethodName) (head1 (Jvm.Cond.code (⟨"com/example/nested_keyspace/nestedkeyspace/ScanOptions", "readsInReverse", "()Z"⟩ : MethodName) prog_13_method_11_code 1 (some .boolean) :: ws) ({ frames := 0, cells := 0, slots := 0, locals := 0 } : Room)) (fun a U => a = #[(.ref a0)] ∧ Z.Warmed39 U.vm ∧ U.heap = h0) (fun _ _ _ _ _ => True) (fun _ U o U' => ∃ v L, o = .returned v ∧ Q6 Z a0 f_a0_reverse h0 n0 v U'.heap L ∧ FrameEnd U o U' L 0 0) := by
  refine MetFree.of_bodySF (plainFor_of_name pn_6) hisR ?_
  intro p e s m args below meth c s₁ Bd hml0 hP hK
  obtain ⟨rfl, hZ, hh⟩ := hP
  have hwd := fun i {d : Jvm.Cond} (h : tables_1[i]? = some d) => hw d (List.mem_of_getElem? h)
  have hx := Bd.exec
  have hby := Bd.bytes
  have hml : c.maxLocals = 1 := hml0
  have hlk : meth.locks = false := Bd.notSynchronized
  have hown : s.vm.findClass "com/example/nested_keyspace/nestedkeyspace/ScanOptions" = some m.cls := findClass_of_methodNamed Bd.named
  have hnm := (name_of_methodNamed Bd.named Bd.method).1
  have X0 : Stand p l e ({ frames := 0, cells := 0, slots := 0, locals := 0 } : Room) s m #[(.ref a0)] below meth c s₁ [] 0 0 := Stand.of_body Bd
  have e0 : s₁.heap = h0 := by rw [← hh, Bd.state]; rfl
  have N0 := Fr.nil n0
  show own_Go p e below (own_Fin s 0 0 (Q6 Z a0 f_a0_reverse h0 n0)) _
  refine own_by (fun t k => castTop (ef_6 m a0) k) ?_
  show own_Go p e below _ (s₁.setTop (mkF m 0 #[.val (.ref a0)] []))
  refine own_by (fun _ k => XS.aloadN X0.here hx rfl (hb hby d6_0) rfl rfl k) ?_
  show own_Go p e below _ (s₁.setTop (mkF m 1 #[.val (.ref a0)] [(.ref a0)]))
  obtain ⟨T1, X1, e1, st1⟩ := getF X0 hx hZ hown (host := "") (Or.inl (hwd 25 rfl)) Via.refl e0 P_F_a0_reverse (g := (mkF m 1 #[.val (.ref a0)] [(.ref a0)])) rfl rfl (hb hby d6_1)
  refine own_by st1 ?_
  show own_Go p e below _ (T1.setTop (mkF m 4 #[.val (.ref a0)] [(.int f_a0_reverse)]))
  exact own_retN X1 hx (t := .boolean) Bd.returns (by simp) (hb hby d6_4) hlk e1 ⟨rfl, N0, rfl⟩ (by decide) (by decide)
theorem d10_0 : decode prog_13_method_10_code 0 = .ok (.aload_n 0, 1) := by decide +kernel
theorem d10_1 : decode prog_13_method_10_code 1 = .ok (.getfield 23, 3) := by decide +kernel
theorem d10_4 : decode prog_13_method_10_code 4 = .ok (.ireturn, 1) := by decide +kernel
theorem pn_10 : plainName "com/example/nested_keyspace/nestedkeyspace/ScanOptions" = true := by first | (simp [plainName, overriddenIn]; done) | decide +kernel
theorem ef_10 (m : MethodId) (a0 : Addr) : entryFrame m #[(.ref a0)] 1 = mkF m 0 #[.val (.ref a0)] [] := by first | (simp [entryFrame, mkF, argsToLocals, Value.category]; done) | rfl
def Q10 (Z : State) (a0 : Addr) (f_a0_subtree : Int32) (h0 : Heap) (n0 : Nat) (v : Option Value) (h : Heap) (L : List Loc) : Prop := v = some (.int (nar .boolean f_a0_subtree)) ∧ Fr n0 L ∧ h = h0
set_option maxRecDepth 65536 in
set_option maxHeartbeats 40000000 in
theorem rm10 (l : Launch) (Z : State) (A0 : Array Value) (hw : ∀ d ∈ tables_1, d.before A0 Z = true) (ws : List Jvm.Cond) (a0 : Addr) (f_a0_subtree : Int32) (h0 : Heap) (n0 : Nat) (Z0 : n0 ≤ h0.size) (P_F_a0_subtree : Fld Z h0 a0 "com/example/nested_keyspace/nestedkeyspace/ScanOptions" "subtree" "Z" (.int f_a0_subtree)) :
    MetFree l (⟨"com/example/nested_keyspace/nestedkeyspace/ScanOptions", "readsSubtree", "()Z"⟩ : MethodName) (head1 (Jvm.Cond.code (⟨"com/example/nested_keyspace/nestedkeyspace/ScanOptions", "readsSubtree", "()Z"⟩ : MethodName) prog_13_method_10_code 1 (some .boolean) :: ws) ({ frames := 0, cells := 0, slots := 0, locals := 0 } : Room)) (fun a U => a = #[(.ref a0)] ∧ Z.Warmed39 U.vm ∧ U.heap = h0) (fun _ _ _ _ _ => True) (fun _ U o U' => ∃ v L, o = .returned v ∧ Q10 Z a0 f_a0_subtree h0 n0 v U'.heap L ∧ FrameEnd U o U' L 0 0) := by
  refine MetFree.of_bodySF (plainFor_of_name pn_10) hisR ?_
  intro p e s m args below meth c s₁ Bd hml0 hP hK
  obtain ⟨rfl, hZ, hh⟩ := hP
  have hwd := fun i {d : Jvm.Cond} (h : tables_1[i]? = some d) => hw d (List.mem_of_getElem? h)
  have hx := Bd.exec
  have hby := Bd.bytes
  have hml : c.maxLocals = 1 := hml0
  have hlk : meth.locks = false := Bd.notSynchronized
  have hown : s.vm.findClass "com/example/nested_keyspace/nestedkeyspace/ScanOptions" = some m.cls := findClass_of_methodNamed Bd.named
  have hnm := (name_of_methodNamed Bd.named Bd.method).1
  have X0 : Stand p l e ({ frames := 0, cells := 0, slots := 0, locals := 0 } : Room) s m #[(.ref a0)] below meth c s₁ [] 0 0 := Stand.of_body Bd
  have e0 : s₁.heap = h0 := by rw [← hh, Bd.state]; rfl
  have N0 := Fr.nil n0
  show own_Go p e below (own_Fin s 0 0 (Q10 Z a0 f_a0_subtree h0 n0)) _
  refine own_by (fun t k => castTop (ef_10 m a0) k) ?_
  show own_Go p e below _ (s₁.setTop (mkF m 0 #[.val (.ref a0)] []))
  refine own_by (fun _ k => XS.aloadN X0.here hx rfl (hb hby d10_0) rfl rfl k) ?_
  show own_Go p e below _ (s₁.setTop (mkF m 1 #[.val (.ref a0)] [(.ref a0)]))
  obtain ⟨T1, X1, e1, st1⟩ := getF X0 hx hZ hown (host := "") (Or.inl (hwd 23 rfl)) Via.refl e0 P_F_a0_subtree (g := (mkF m 1 #[.val (.ref a0)] [(.ref a0)])) rfl rfl (hb hby d10_1)
  refine own_by st1 ?_
  show own_Go p e below _ (T1.setTop (mkF m 4 #[.val (.ref a0)] [(.int f_a0_subtree)]))
  exact own_retN X1 hx (t := .boolean) Bd.returns (by simp) (hb hby d10_4) hlk e1 ⟨rfl, N0, rfl⟩ (by decide) (by decide)
theorem d11_0 : decode prog_13_method_12_code 0 = .ok (.aload_n 0, 1) := by decide +kernel
theorem d11_1 : decode prog_13_method_12_code 1 = .ok (.getfield 30, 3) := by decide +kernel
theorem d11_4 : decode prog_13_method_12_code 4 = .ok (.lreturn, 1) := by decide +kernel
theorem pn_11 : plainName "com/example/nested_keyspace/nestedkeyspace/ScanOptions" = true := by first | (simp [plainName, overriddenIn]; done) | decide +kernel
theorem ef_11 (m : MethodId) (a0 : Addr) : entryFrame m #[(.ref a0)] 1 = mkF m 0 #[.val (.ref a0)] [] := by first | (simp [entryFrame, mkF, argsToLocals, Value.category]; done) | rfl
def Q11 (Z : State) (a0 : Addr) (f_a0_limit : Int64) (h0 : Heap) (n0 : Nat) (v : Option Value) (h : Heap) (L : List Loc) : Prop := v = some (.long f_a0_limit) ∧ Fr n0 L ∧ h = h0
set_option maxRecDepth 65536 in
set_option maxHeartbeats 40000000 in
theorem rm11 (l : Launch) (Z : State) (A0 : Array Value) (hw : ∀ d ∈ tables_1, d.before A0 Z = true) (ws : List Jvm.Cond) (a0 : Addr) (f_a0_limit : Int64) (h0 : Heap) (n0 : Nat) (Z0 : n0 ≤ h0.size) (P_F_a0_limit : Fld Z h0 a0 "com/example/nested_keyspace/nestedkeyspace/ScanOptions" "limit" "J" (.long f_a0_limit)) :
    MetFree l (⟨"com/example/nested_keyspace/nestedkeyspace/ScanOptions", "maxEntries", "()J"⟩ : MethodName) (head1 (Jvm.Cond.code (⟨"com/example/nested_keyspace/nestedkeyspace/ScanOptions", "maxEntries", "()J"⟩ : MethodName) prog_13_method_12_code 1 (some .long) :: ws) ({ frames := 0, cells := 0, slots := 0, locals := 0 } : Room)) (fun a U => a = #[(.ref a0)] ∧ Z.Warmed39 U.vm ∧ U.heap = h0) (fun _ _ _ _ _ => True) (fun _ U o U' => ∃ v L, o = .returned v ∧ Q11 Z a0 f_a0_limit h0 n0 v U'.heap L ∧ FrameEnd U o U' L 0 0) := by
  refine MetFree.of_bodySF (plainFor_of_name pn_11) hisR ?_
  intro p e s m args below meth c s₁ Bd hml0 hP hK
  obtain ⟨rfl, hZ, hh⟩ := hP
  have hwd := fun i {d : Jvm.Cond} (h : tables_1[i]? = some d) => hw d (List.mem_of_getElem? h)
  have hx := Bd.exec
  have hby := Bd.bytes
  have hml : c.maxLocals = 1 := hml0
  have hlk : meth.locks = false := Bd.notSynchronized
  have hown : s.vm.findClass "com/example/nested_keyspace/nestedkeyspace/ScanOptions" = some m.cls := findClass_of_methodNamed Bd.named
  have hnm := (name_of_methodNamed Bd.named Bd.method).1
  have X0 : Stand p l e ({ frames := 0, cells := 0, slots := 0, locals := 0 } : Room) s m #[(.ref a0)] below meth c s₁ [] 0 0 := Stand.of_body Bd
  have e0 : s₁.heap = h0 := by rw [← hh, Bd.state]; rfl
  have N0 := Fr.nil n0
  show own_Go p e below (own_Fin s 0 0 (Q11 Z a0 f_a0_limit h0 n0)) _
  refine own_by (fun t k => castTop (ef_11 m a0) k) ?_
  show own_Go p e below _ (s₁.setTop (mkF m 0 #[.val (.ref a0)] []))
  refine own_by (fun _ k => XS.aloadN X0.here hx rfl (hb hby d11_0) rfl rfl k) ?_
  show own_Go p e below _ (s₁.setTop (mkF m 1 #[.val (.ref a0)] [(.ref a0)]))
  obtain ⟨T1, X1, e1, st1⟩ := getF X0 hx hZ hown (host := "") (Or.inl (hwd 27 rfl)) Via.refl e0 P_F_a0_limit (g := (mkF m 1 #[.val (.ref a0)] [(.ref a0)])) rfl rfl (hb hby d11_1)
  refine own_by st1 ?_
  show own_Go p e below _ (T1.setTop (mkF m 4 #[.val (.ref a0)] [(.long f_a0_limit)]))
  exact own_retJ X1 hx Bd.returns (hb hby d11_4) hlk e1 ⟨rfl, N0, rfl⟩ (by decide) (by decide)
theorem d14_0 : decode prog_13_method_5_code 0 = .ok (.aload_n 0, 1) := by decide +kernel
theorem d14_1 : decode prog_13_method_5_code 1 = .ok (.getfield 16, 3) := by decide +kernel
theorem d14_4 : decode prog_13_method_5_code 4 = .ok (.ifnonnull 10, 3) := by decide +kernel
theorem d14_7 : decode prog_13_method_5_code 7 = .ok (.aload_n 0, 1) := by decide +kernel
theorem d14_8 : decode prog_13_method_5_code 8 = .ok (.getfield 20, 3) := by decide +kernel
theorem d14_11 : decode prog_13_method_5_code 11 = .ok (.ifnull 7, 3) := by decide +kernel
theorem d14_18 : decode prog_13_method_5_code 18 = .ok (.new 6, 3) := by decide +kernel
theorem d14_21 : decode prog_13_method_5_code 21 = .ok (.dup, 1) := by decide +kernel
theorem d14_22 : decode prog_13_method_5_code 22 = .ok (.aload_n 0, 1) := by decide +kernel
theorem d14_23 : decode prog_13_method_5_code 23 = .ok (.getfield 16, 3) := by decide +kernel
theorem d14_26 : decode prog_13_method_5_code 26 = .ok (.aload_n 0, 1) := by decide +kernel
theorem d14_27 : decode prog_13_method_5_code 27 = .ok (.getfield 20, 3) := by decide +kernel
theorem d14_30 : decode prog_13_method_5_code 30 = .ok (.iconst 1, 1) := by decide +kernel
theorem d14_31 : decode prog_13_method_5_code 31 = .ok (.aload_n 0, 1) := by decide +kernel
theorem d14_32 : decode prog_13_method_5_code 32 = .ok (.getfield 27, 3) := by decide +kernel
theorem d14_35 : decode prog_13_method_5_code 35 = .ok (.aload_n 0, 1) := by decide +kernel
theorem d14_36 : decode prog_13_method_5_code 36 = .ok (.getfield 30, 3) := by decide +kernel
theorem d14_39 : decode prog_13_method_5_code 39 = .ok (.invokespecial 5, 3) := by decide +kernel
theorem d14_42 : decode prog_13_method_5_code 42 = .ok (.areturn, 1) := by decide +kernel
theorem pn_14 : plainName "com/example/nested_keyspace/nestedkeyspace/ScanOptions" = true := by first | (simp [plainName, overriddenIn]; done) | decide +kernel
theorem ef_14 (m : MethodId) (a0 : Addr) : entryFrame m #[(.ref a0)] 1 = mkF m 0 #[.val (.ref a0)] [] := by first | (simp [entryFrame, mkF, argsToLocals, Value.category]; done) | rfl
def Q14 (Z : State) (a0 : Addr) (f_a0_reverse : Int32) (f_a0_limit : Int64) (h0 : Heap) (n0 : Nat) (v : Option Value) (h : Heap) (L : List Loc) : Prop := ∃ (b3 : Addr), v = some (.ref b3) ∧ Fr n0 L ∧ Keep h0 h [] ∧ (n0 ≤ b3) ∧ (h0.size ≤ b3) ∧ Exa Z h b3 "com/example/nested_keyspace/nestedkeyspace/ScanOptions" ∧ Fld Z h b3 "com/example/nested_keyspace/nestedkeyspace/ScanOptions" "from" "[B" .null ∧ Fld Z h b3 "com/example/nested_keyspace/nestedkeyspace/ScanOptions" "to" "[B" .null ∧ Fld Z h b3 "com/example/nested_keyspace/nestedkeyspace/ScanOptions" "subtree" "Z" (.int (1 : Int32)) ∧ Fld Z h b3 "com/example/nested_keyspace/nestedkeyspace/ScanOptions" "reverse" "Z" (.int (nar .boolean f_a0_reverse)) ∧ Fld Z h b3 "com/example/nested_keyspace/nestedkeyspace/ScanOptions" "limit" "J" (.long f_a0_limit)
set_option maxRecDepth 65536 in
set_option maxHeartbeats 40000000 in
theorem rm14 (l : Launch) (Z : State) (A0 : Array Value) (hw : ∀ d ∈ tables_1, d.before A0 Z = true) (ws : List Jvm.Cond) (a0 : Addr) (f_a0_reverse : Int32) (f_a0_limit : Int64) (h0 : Heap) (n0 : Nat) (Z0 : n0 ≤ h0.size) (P_F_a0_subtree : Fld Z h0 a0 "com/example/nested_keyspace/nestedkeyspace/ScanOptions" "subtree" "Z" (.int (0 : Int32))) (P_F_a0_from : Fld Z h0 a0 "com/example/nested_keyspace/nestedkeyspace/ScanOptions" "from" "[B" .null) (P_F_a0_to : Fld Z h0 a0 "com/example/nested_keyspace/nestedkeyspace/ScanOptions" "to" "[B" .null) (P_F_a0_reverse : Fld Z h0 a0 "com/example/nested_keyspace/nestedkeyspace/ScanOptions" "reverse" "Z" (.int f_a0_reverse)) (P_F_a0_limit : Fld Z h0 a0 "com/example/nested_keyspace/nestedkeyspace/ScanOptions" "limit" "J" (.long f_a0_limit)) :
    MetFree l (⟨"com/example/nested_keyspace/nestedkeyspace/ScanOptions", "subtree", "()Lcom/example/nested_keyspace/nestedkeyspace/ScanOptions;"⟩ : MethodName) (head1 (Jvm.Cond.code (⟨"com/example/nested_keyspace/nestedkeyspace/ScanOptions", "subtree", "()Lcom/example/nested_keyspace/nestedkeyspace/ScanOptions;"⟩ : MethodName) prog_13_method_5_code 1 (some (.object "com/example/nested_keyspace/nestedkeyspace/ScanOptions")) :: ws) ({ frames := 2, cells := 1, slots := 5, locals := 31 } : Room)) (fun a U => a = #[(.ref a0)] ∧ Z.Warmed39 U.vm ∧ U.heap = h0) (fun _ _ _ _ _ => True) (fun _ U o U' => ∃ v L, o = .returned v ∧ Q14 Z a0 f_a0_reverse f_a0_limit h0 n0 v U'.heap L ∧ FrameEnd U o U' L 1 5) := by
  refine MetFree.of_bodySF (plainFor_of_name pn_14) hisR ?_
  intro p e s m args below meth c s₁ Bd hml0 hP hK
  obtain ⟨rfl, hZ, hh⟩ := hP
  have hwd := fun i {d : Jvm.Cond} (h : tables_1[i]? = some d) => hw d (List.mem_of_getElem? h)
  have hx := Bd.exec
  have hby := Bd.bytes
  have hml : c.maxLocals = 1 := hml0
  have hlk : meth.locks = false := Bd.notSynchronized
  have hown : s.vm.findClass "com/example/nested_keyspace/nestedkeyspace/ScanOptions" = some m.cls := findClass_of_methodNamed Bd.named
  have hnm := (name_of_methodNamed Bd.named Bd.method).1
  have X0 : Stand p l e ({ frames := 2, cells := 1, slots := 5, locals := 31 } : Room) s m #[(.ref a0)] below meth c s₁ [] 0 0 := Stand.of_body Bd
  have e0 : s₁.heap = h0 := by rw [← hh, Bd.state]; rfl
  have N0 := Fr.nil n0
  show own_Go p e below (own_Fin s 1 5 (Q14 Z a0 f_a0_reverse f_a0_limit h0 n0)) _
  refine own_by (fun t k => castTop (ef_14 m a0) k) ?_
  show own_Go p e below _ (s₁.setTop (mkF m 0 #[.val (.ref a0)] []))
  refine own_by (fun _ k => XS.aloadN X0.here hx rfl (hb hby d14_0) rfl rfl k) ?_
  show own_Go p e below _ (s₁.setTop (mkF m 1 #[.val (.ref a0)] [(.ref a0)]))
  obtain ⟨T1, X1, e1, st1⟩ := getF X0 hx hZ hown (host := "") (Or.inl (hwd 19 rfl)) Via.refl e0 P_F_a0_from (g := (mkF m 1 #[.val (.ref a0)] [(.ref a0)])) rfl rfl (hb hby d14_1)
  refine own_by st1 ?_
  show own_Go p e below _ (T1.setTop (mkF m 4 #[.val (.ref a0)] [.null]))
  refine own_by (fun _ k => XS.ifnonnullNo X1.here hx rfl (hb hby d14_4) rfl k) ?_
  show own_Go p e below _ (T1.setTop (mkF m 7 #[.val (.ref a0)] []))
  refine own_by (fun _ k => XS.aloadN X1.here hx rfl (hb hby d14_7) rfl rfl k) ?_
  show own_Go p e below _ (T1.setTop (mkF m 8 #[.val (.ref a0)] [(.ref a0)]))
  obtain ⟨T2, X2, e2, st2⟩ := getF X1 hx hZ hown (host := "") (Or.inl (hwd 21 rfl)) Via.refl e1 P_F_a0_to (g := (mkF m 8 #[.val (.ref a0)] [(.ref a0)])) rfl rfl (hb hby d14_8)
  refine own_by st2 ?_
  show own_Go p e below _ (T2.setTop (mkF m 11 #[.val (.ref a0)] [.null]))
  refine own_by (fun _ k => XS.ifnullYes X2.here hx rfl (pc0 := 11) (pc' := 18) rfl (hb hby d14_11) rfl (by decide) (by decide) k) ?_
  show own_Go p e below _ (T2.setTop (mkF m 18 #[.val (.ref a0)] []))
  obtain ⟨T3, h3, X3, e3, E3, A3, D3, -, st3⟩ := newO X2 hx hZ hown (hwd 34 rfl) (hwd 7 rfl) (hwd 8 rfl) e2 (g := (mkF m 18 #[.val (.ref a0)] [])) rfl (hb hby d14_18) (by decide) (by decide)
  obtain ⟨b3, g3⟩ : ∃ z, z = h0.size := ⟨_, rfl⟩
  have ge_b3 : n0 ≤ b3 := Nat.le_trans Z0 (Nat.le_of_eq g3.symm)
  have sz_b3 : h0.size ≤ b3 := Nat.le_trans (Keep.refl h0 []).1 (Nat.le_of_eq g3.symm)
  have K3 : Keep h0 h3 [] := (Keep.refl h0 []).ext E3
  have Z3 : n0 ≤ h3.size := Nat.le_trans Z0 E3.1
  rw [← g3] at A3 D3 st3
  have F_from_b3 : Fld Z h3 b3 "com/example/nested_keyspace/nestedkeyspace/ScanOptions" "from" "[B" .null := D3 (Or.inr (hwd 20 rfl)) (ty := (.array .byte)) (by decide)
  have F_to_b3 : Fld Z h3 b3 "com/example/nested_keyspace/nestedkeyspace/ScanOptions" "to" "[B" .null := D3 (Or.inr (hwd 22 rfl)) (ty := (.array .byte)) (by decide)
  have F_subtree_b3 : Fld Z h3 b3 "com/example/nested_keyspace/nestedkeyspace/ScanOptions" "subtree" "Z" (.int (0 : Int32)) := D3 (Or.inr (hwd 24 rfl)) (ty := .boolean) (by decide)
  have F_reverse_b3 : Fld Z h3 b3 "com/example/nested_keyspace/nestedkeyspace/ScanOptions" "reverse" "Z" (.int (0 : Int32)) := D3 (Or.inr (hwd 26 rfl)) (ty := .boolean) (by decide)
  have F_limit_b3 : Fld Z h3 b3 "com/example/nested_keyspace/nestedkeyspace/ScanOptions" "limit" "J" (.long (0 : Int64)) := D3 (Or.inr (hwd 28 rfl)) (ty := .long) (by decide)
  refine own_by st3 ?_
  show own_Go p e below _ (T3.setTop (mkF m 21 #[.val (.ref a0)] [(.ref b3)]))
  refine own_by (fun _ k => XS.dup X3.here hx rfl (hb hby d14_21) rfl rfl k) ?_
  show own_Go p e below _ (T3.setTop (mkF m 22 #[.val (.ref a0)] [(.ref b3), (.ref b3)]))
  refine own_by (fun _ k => XS.aloadN X3.here hx rfl (hb hby d14_22) rfl rfl k) ?_
  show own_Go p e below _ (T3.setTop (mkF m 23 #[.val (.ref a0)] [(.ref a0), (.ref b3), (.ref b3)]))
  have F4 : Fld Z h3 a0 "com/example/nested_keyspace/nestedkeyspace/ScanOptions" "from" "[B" .null := (P_F_a0_from.ext E3)
  obtain ⟨T5, X5, e5, st5⟩ := getF X3 hx hZ hown (host := "") (Or.inl (hwd 19 rfl)) Via.refl e3 F4 (g := (mkF m 23 #[.val (.ref a0)] [(.ref a0), (.ref b3), (.ref b3)])) rfl rfl (hb hby d14_23)
  refine own_by st5 ?_
  show own_Go p e below _ (T5.setTop (mkF m 26 #[.val (.ref a0)] [.null, (.ref b3), (.ref b3)]))
  refine own_by (fun _ k => XS.aloadN X5.here hx rfl (hb hby d14_26) rfl rfl k) ?_
  show own_Go p e below _ (T5.setTop (mkF m 27 #[.val (.ref a0)] [(.ref a0), .null, (.ref b3), (.ref b3)]))
  have F6 : Fld Z h3 a0 "com/example/nested_keyspace/nestedkeyspace/ScanOptions" "to" "[B" .null := (P_F_a0_to.ext E3)
  obtain ⟨T7, X7, e7, st7⟩ := getF X5 hx hZ hown (host := "") (Or.inl (hwd 21 rfl)) Via.refl e5 F6 (g := (mkF m 27 #[.val (.ref a0)] [(.ref a0), .null, (.ref b3), (.ref b3)])) rfl rfl (hb hby d14_27)
  refine own_by st7 ?_
  show own_Go p e below _ (T7.setTop (mkF m 30 #[.val (.ref a0)] [.null, .null, (.ref b3), (.ref b3)]))
  refine own_by (fun _ k => XS.iconst X7.here hx rfl (hb hby d14_30) k) ?_
  show own_Go p e below _ (T7.setTop (mkF m 31 #[.val (.ref a0)] [(.int (1 : Int32)), .null, .null, (.ref b3), (.ref b3)]))
  refine own_by (fun _ k => XS.aloadN X7.here hx rfl (hb hby d14_31) rfl rfl k) ?_
  show own_Go p e below _ (T7.setTop (mkF m 32 #[.val (.ref a0)] [(.ref a0), (.int (1 : Int32)), .null, .null, (.ref b3), (.ref b3)]))
  have F8 : Fld Z h3 a0 "com/example/nested_keyspace/nestedkeyspace/ScanOptions" "reverse" "Z" (.int f_a0_reverse) := (P_F_a0_reverse.ext E3)
  obtain ⟨T9, X9, e9, st9⟩ := getF X7 hx hZ hown (host := "") (Or.inl (hwd 25 rfl)) Via.refl e7 F8 (g := (mkF m 32 #[.val (.ref a0)] [(.ref a0), (.int (1 : Int32)), .null, .null, (.ref b3), (.ref b3)])) rfl rfl (hb hby d14_32)
  refine own_by st9 ?_
  show own_Go p e below _ (T9.setTop (mkF m 35 #[.val (.ref a0)] [(.int f_a0_reverse), (.int (1 : Int32)), .null, .null, (.ref b3), (.ref b3)]))
  refine own_by (fun _ k => XS.aloadN X9.here hx rfl (hb hby d14_35) rfl rfl k) ?_
  show own_Go p e below _ (T9.setTop (mkF m 36 #[.val (.ref a0)] [(.ref a0), (.int f_a0_reverse), (.int (1 : Int32)), .null, .null, (.ref b3), (.ref b3)]))
  have F10 : Fld Z h3 a0 "com/example/nested_keyspace/nestedkeyspace/ScanOptions" "limit" "J" (.long f_a0_limit) := (P_F_a0_limit.ext E3)
  obtain ⟨T11, X11, e11, st11⟩ := getF X9 hx hZ hown (host := "") (Or.inl (hwd 27 rfl)) Via.refl e9 F10 (g := (mkF m 36 #[.val (.ref a0)] [(.ref a0), (.int f_a0_reverse), (.int (1 : Int32)), .null, .null, (.ref b3), (.ref b3)])) rfl rfl (hb hby d14_36)
  refine own_by st11 ?_
  show own_Go p e below _ (T11.setTop (mkF m 39 #[.val (.ref a0)] [(.long f_a0_limit), (.int f_a0_reverse), (.int (1 : Int32)), .null, .null, (.ref b3), (.ref b3)]))
  obtain ⟨_, _, ⟨T12, L12, k12, n12⟩, -, X12, ⟨Lc12, hQ12, l12, y12, z12⟩, st12⟩ := X11.specialBack hx (y := (⟨"com/example/nested_keyspace/nestedkeyspace/ScanOptions", "<init>", "([B[BZZJ)V"⟩ : MethodName)) rfl hown (mvT hZ (hwd 13 rfl)) (mvT hZ (hwd 14 rfl)) (mvT hZ (hwd 15 rfl)) (by decide) (backOf (W := 1) (rm3 l Z A0 hw [] b3 (.null) (.null) (1 : Int32) f_a0_reverse f_a0_limit (.null) (.null) (0 : Int32) (0 : Int32) (0 : Int64) h3 n0 Z3 rfl rfl A3 F_from_b3 ge_b3 F_to_b3 F_subtree_b3 F_reverse_b3 F_limit_b3) hZ (hwd 15 rfl) (hwd 8 rfl) (by decide) (by decide)) (g := (mkF m 39 #[.val (.ref a0)] [(.long f_a0_limit), (.int f_a0_reverse), (.int (1 : Int32)), .null, .null, (.ref b3), (.ref b3)])) rfl (by rw [hml]; rfl) (Steps.refl _) (a := b3) (argsL := [.null, .null, (.int (1 : Int32)), (.int f_a0_reverse), (.long f_a0_limit)]) (rest := [(.ref b3)]) (lenOf pd_13 rfl) rfl (by show 2 * 0 + _ ≤ _; exact Nat.le_of_eq rfl) (hb hby d14_39) (fun _ _ => ⟨rfl, e11, (by decide : 1 + 0 ≤ _), (by decide : 5 + 0 ≤ _)⟩)
  dsimp only [Pt.U, Pt.locs, Pt.cells, Pt.slots] at X12 l12 y12 z12 st12 hQ12
  subst l12 y12 z12
  obtain ⟨rfl, Nq12, Kq12, F13, F14, F15, F16, F17, F18⟩ := hQ12
  have N12 := Fr.app N0 Nq12
  have K12 : Keep h0 T12.heap [] := K3.trans Kq12 ((allS (Or.inr sz_b3) all0))
  have Z12 : n0 ≤ T12.heap.size := Nat.le_trans Z3 Kq12.1
  refine own_by (fun _ k => st12.trans k) ?_
  show own_Go p e below _ (T12.setTop (mkF m 42 #[.val (.ref a0)] [(.ref b3)]))
  exact own_retR X12 hx Bd.returns (by decide) rfl (hb hby d14_42) hlk rfl ⟨_, rfl, N12, K12, ge_b3, sz_b3, F13, F14, F15, F16, F17, F18⟩ (by decide) (by decide)
theorem d7_0 : decode prog_13_method_8_code 0 = .ok (.aload_n 0, 1) := by decide +kernel
theorem d7_1 : decode prog_13_method_8_code 1 = .ok (.getfield 16, 3) := by decide +kernel
theorem d7_4 : decode prog_13_method_8_code 4 = .ok (.ifnonnull 9, 3) := by decide +kernel
theorem d7_7 : decode prog_13_method_8_code 7 = .ok (.getstatic 55, 3) := by decide +kernel
theorem d7_10 : decode prog_13_method_8_code 10 = .ok (.goto 7, 3) := by decide +kernel
theorem d7_17 : decode prog_13_method_8_code 17 = .ok (.areturn, 1) := by decide +kernel
theorem pn_fromKeyN : plainName "com/example/nested_keyspace/nestedkeyspace/ScanOptions" = true := by first | (simp [plainName, overriddenIn]; done) | decide +kernel
theorem ef_fromKeyN (m : MethodId) (a0 : Addr) : entryFrame m #[(.ref a0)] 1 = mkF m 0 #[.val (.ref a0)] [] := by first | (simp [entryFrame, mkF, argsToLocals, Value.category]; done) | rfl
def QfromKeyN (Z : State) (a0 : Addr) (f_EMPTY_KEY : Addr) (h0 : Heap) (n0 : Nat) (v : Option Value) (h : Heap) (L : List Loc) : Prop := v = some (.ref f_EMPTY_KEY) ∧ Fr n0 L ∧ h = h0
set_option maxRecDepth 65536 in
set_option maxHeartbeats 40000000 in
theorem rmfromKeyN (l : Launch) (Z : State) (A0 : Array Value) (hw : ∀ d ∈ tables_1, d.before A0 Z = true) (ws : List Jvm.Cond) (a0 : Addr) (f_EMPTY_KEY : Addr) (h0 : Heap) (n0 : Nat) (Z0 : n0 ≤ h0.size) (P_F_a0_from : Fld Z h0 a0 "com/example/nested_keyspace/nestedkeyspace/ScanOptions" "from" "[B" .null) (P_S_com_example_nested_keyspace_nestedkeyspace_ScanOptions_EMPTY_KEY : Sta Z h0 "com/example/nested_keyspace/nestedkeyspace/ScanOptions" "EMPTY_KEY" "[B" (.ref f_EMPTY_KEY)) :
    MetFree l (⟨"com/example/nested_keyspace/nestedkeyspace/ScanOptions", "fromKey", "()[B"⟩ : MethodName) (head1 (Jvm.Cond.code (⟨"com/example/nested_keyspace/nestedkeyspace/ScanOptions", "fromKey", "()[B"⟩ : MethodName) prog_13_method_8_code 1 (some (.array .byte)) :: ws) ({ frames := 0, cells := 0, slots := 0, locals := 0 } : Room)) (fun a U => a = #[(.ref a0)] ∧ Z.Warmed39 U.vm ∧ U.heap = h0) (fun _ _ _ _ _ => True) (fun _ U o U' => ∃ v L, o = .returned v ∧ QfromKeyN Z a0 f_EMPTY_KEY h0 n0 v U'.heap L ∧ FrameEnd U o U' L 0 0) := by
  refine MetFree.of_bodySF (plainFor_of_name pn_fromKeyN) hisR ?_
  intro p e s m args below meth c s₁ Bd hml0 hP hK
  obtain ⟨rfl, hZ, hh⟩ := hP
  have hwd := fun i {d : Jvm.Cond} (h : tables_1[i]? = some d) => hw d (List.mem_of_getElem? h)
  have hx := Bd.exec
  have hby := Bd.bytes
  have hml : c.maxLocals = 1 := hml0
  have hlk : meth.locks = false := Bd.notSynchronized
  have hown : s.vm.findClass "com/example/nested_keyspace/nestedkeyspace/ScanOptions" = some m.cls := findClass_of_methodNamed Bd.named
  have hnm := (name_of_methodNamed Bd.named Bd.method).1
  have X0 : Stand p l e ({ frames := 0, cells := 0, slots := 0, locals := 0 } : Room) s m #[(.ref a0)] below meth c s₁ [] 0 0 := Stand.of_body Bd
  have e0 : s₁.heap = h0 := by rw [← hh, Bd.state]; rfl
  have N0 := Fr.nil n0
  show own_Go p e below (own_Fin s 0 0 (QfromKeyN Z a0 f_EMPTY_KEY h0 n0)) _
  refine own_by (fun t k => castTop (ef_fromKeyN m a0) k) ?_
  show own_Go p e below _ (s₁.setTop (mkF m 0 #[.val (.ref a0)] []))
  refine own_by (fun _ k => XS.aloadN X0.here hx rfl (hb hby d7_0) rfl rfl k) ?_
  show own_Go p e below _ (s₁.setTop (mkF m 1 #[.val (.ref a0)] [(.ref a0)]))
  obtain ⟨T1, X1, e1, st1⟩ := getF X0 hx hZ hown (host := "") (Or.inl (hwd 19 rfl)) Via.refl e0 P_F_a0_from (g := (mkF m 1 #[.val (.ref a0)] [(.ref a0)])) rfl rfl (hb hby d7_1)
  refine own_by st1 ?_
  show own_Go p e below _ (T1.setTop (mkF m 4 #[.val (.ref a0)] [.null]))
  refine own_by (fun _ k => XS.ifnonnullNo X1.here hx rfl (hb hby d7_4) rfl k) ?_
  show own_Go p e below _ (T1.setTop (mkF m 7 #[.val (.ref a0)] []))
  obtain ⟨T2, X2, e2, st2⟩ := getS2 X1 hx hZ hown (host := "") (Or.inl (hwd 45 rfl)) Via.refl e1 P_S_com_example_nested_keyspace_nestedkeyspace_ScanOptions_EMPTY_KEY (g := (mkF m 7 #[.val (.ref a0)] [])) rfl (hb hby d7_7)
  refine own_by st2 ?_
  show own_Go p e below _ (T2.setTop (mkF m 10 #[.val (.ref a0)] [(.ref f_EMPTY_KEY)]))
  refine own_by (fun _ k => XS.goto X2.here hx rfl (pc0 := 10) (pc' := 17) rfl (hb hby d7_10) (by decide) (by decide) k) ?_
  show own_Go p e below _ (T2.setTop (mkF m 17 #[.val (.ref a0)] [(.ref f_EMPTY_KEY)]))
  exact own_retR X2 hx Bd.returns (by decide) rfl (hb hby d7_17) hlk e2 ⟨rfl, N0, rfl⟩ (by decide) (by decide)
theorem d7_13 : decode prog_13_method_8_code 13 = .ok (.aload_n 0, 1) := by decide +kernel
theorem d7_14 : decode prog_13_method_8_code 14 = .ok (.getfield 16, 3) := by decide +kernel
theorem pn_fromKeyR : plainName "com/example/nested_keyspace/nestedkeyspace/ScanOptions" = true := by first | (simp [plainName, overriddenIn]; done) | decide +kernel
theorem ef_fromKeyR (m : MethodId) (a0 : Addr) : entryFrame m #[(.ref a0)] 1 = mkF m 0 #[.val (.ref a0)] [] := by first | (simp [entryFrame, mkF, argsToLocals, Value.category]; done) | rfl
def QfromKeyR (Z : State) (f_a0_from : Addr) (a0 : Addr) (h0 : Heap) (n0 : Nat) (v : Option Value) (h : Heap) (L : List Loc) : Prop := v = some (.ref f_a0_from) ∧ Fr n0 L ∧ h = h0
set_option maxRecDepth 65536 in
set_option maxHeartbeats 40000000 in
theorem rmfromKeyR (l : Launch) (Z : State) (A0 : Array Value) (hw : ∀ d ∈ tables_1, d.before A0 Z = true) (ws : List Jvm.Cond) (f_a0_from : Addr) (a0 : Addr) (h0 : Heap) (n0 : Nat) (Z0 : n0 ≤ h0.size) (P_F_a0_from : Fld Z h0 a0 "com/example/nested_keyspace/nestedkeyspace/ScanOptions" "from" "[B" (.ref f_a0_from)) :
    MetFree l (⟨"com/example/nested_keyspace/nestedkeyspace/ScanOptions", "fromKey", "()[B"⟩ : MethodName) (head1 (Jvm.Cond.code (⟨"com/example/nested_keyspace/nestedkeyspace/ScanOptions", "fromKey", "()[B"⟩ : MethodName) prog_13_method_8_code 1 (some (.array .byte)) :: ws) ({ frames := 0, cells := 0, slots := 0, locals := 0 } : Room)) (fun a U => a = #[(.ref a0)] ∧ Z.Warmed39 U.vm ∧ U.heap = h0) (fun _ _ _ _ _ => True) (fun _ U o U' => ∃ v L, o = .returned v ∧ QfromKeyR Z f_a0_from a0 h0 n0 v U'.heap L ∧ FrameEnd U o U' L 0 0) := by
  refine MetFree.of_bodySF (plainFor_of_name pn_fromKeyR) hisR ?_
  intro p e s m args below meth c s₁ Bd hml0 hP hK
  obtain ⟨rfl, hZ, hh⟩ := hP
  have hwd := fun i {d : Jvm.Cond} (h : tables_1[i]? = some d) => hw d (List.mem_of_getElem? h)
  have hx := Bd.exec
  have hby := Bd.bytes
  have hml : c.maxLocals = 1 := hml0
  have hlk : meth.locks = false := Bd.notSynchronized
  have hown : s.vm.findClass "com/example/nested_keyspace/nestedkeyspace/ScanOptions" = some m.cls := findClass_of_methodNamed Bd.named
  have hnm := (name_of_methodNamed Bd.named Bd.method).1
  have X0 : Stand p l e ({ frames := 0, cells := 0, slots := 0, locals := 0 } : Room) s m #[(.ref a0)] below meth c s₁ [] 0 0 := Stand.of_body Bd
  have e0 : s₁.heap = h0 := by rw [← hh, Bd.state]; rfl
  have N0 := Fr.nil n0
  show own_Go p e below (own_Fin s 0 0 (QfromKeyR Z f_a0_from a0 h0 n0)) _
  refine own_by (fun t k => castTop (ef_fromKeyR m a0) k) ?_
  show own_Go p e below _ (s₁.setTop (mkF m 0 #[.val (.ref a0)] []))
  refine own_by (fun _ k => XS.aloadN X0.here hx rfl (hb hby d7_0) rfl rfl k) ?_
  show own_Go p e below _ (s₁.setTop (mkF m 1 #[.val (.ref a0)] [(.ref a0)]))
  obtain ⟨T1, X1, e1, st1⟩ := getF X0 hx hZ hown (host := "") (Or.inl (hwd 19 rfl)) Via.refl e0 P_F_a0_from (g := (mkF m 1 #[.val (.ref a0)] [(.ref a0)])) rfl rfl (hb hby d7_1)
  refine own_by st1 ?_
  show own_Go p e below _ (T1.setTop (mkF m 4 #[.val (.ref a0)] [(.ref f_a0_from)]))
  refine own_by (fun _ k => XS.ifnonnullYes X1.here hx rfl (pc0 := 4) (pc' := 13) rfl (hb hby d7_4) rfl (by decide) (by decide) k) ?_
  show own_Go p e below _ (T1.setTop (mkF m 13 #[.val (.ref a0)] []))
  refine own_by (fun _ k => XS.aloadN X1.here hx rfl (hb hby d7_13) rfl rfl k) ?_
  show own_Go p e below _ (T1.setTop (mkF m 14 #[.val (.ref a0)] [(.ref a0)]))
  obtain ⟨T2, X2, e2, st2⟩ := getF X1 hx hZ hown (host := "") (Or.inl (hwd 19 rfl)) Via.refl e1 P_F_a0_from (g := (mkF m 14 #[.val (.ref a0)] [(.ref a0)])) rfl rfl (hb hby d7_14)
  refine own_by st2 ?_
  show own_Go p e below _ (T2.setTop (mkF m 17 #[.val (.ref a0)] [(.ref f_a0_from)]))
  exact own_retR X2 hx Bd.returns (by decide) rfl (hb hby d7_17) hlk e2 ⟨rfl, N0, rfl⟩ (by decide) (by decide)
theorem d9_0 : decode prog_13_method_9_code 0 = .ok (.aload_n 0, 1) := by decide +kernel
theorem d9_1 : decode prog_13_method_9_code 1 = .ok (.getfield 20, 3) := by decide +kernel
theorem d9_4 : decode prog_13_method_9_code 4 = .ok (.areturn, 1) := by decide +kernel
theorem pn_toKeyN : plainName "com/example/nested_keyspace/nestedkeyspace/ScanOptions" = true := by first | (simp [plainName, overriddenIn]; done) | decide +kernel
theorem ef_toKeyN (m : MethodId) (a0 : Addr) : entryFrame m #[(.ref a0)] 1 = mkF m 0 #[.val (.ref a0)] [] := by first | (simp [entryFrame, mkF, argsToLocals, Value.category]; done) | rfl
def QtoKeyN (Z : State) (a0 : Addr) (h0 : Heap) (n0 : Nat) (v : Option Value) (h : Heap) (L : List Loc) : Prop := v = some .null ∧ Fr n0 L ∧ h = h0
set_option maxRecDepth 65536 in
set_option maxHeartbeats 40000000 in
theorem rmtoKeyN (l : Launch) (Z : State) (A0 : Array Value) (hw : ∀ d ∈ tables_1, d.before A0 Z = true) (ws : List Jvm.Cond) (a0 : Addr) (h0 : Heap) (n0 : Nat) (Z0 : n0 ≤ h0.size) (P_F_a0_to : Fld Z h0 a0 "com/example/nested_keyspace/nestedkeyspace/ScanOptions" "to" "[B" .null) :
    MetFree l (⟨"com/example/nested_keyspace/nestedkeyspace/ScanOptions", "toKey", "()[B"⟩ : MethodName) (head1 (Jvm.Cond.code (⟨"com/example/nested_keyspace/nestedkeyspace/ScanOptions", "toKey", "()[B"⟩ : MethodName) prog_13_method_9_code 1 (some (.array .byte)) :: ws) ({ frames := 0, cells := 0, slots := 0, locals := 0 } : Room)) (fun a U => a = #[(.ref a0)] ∧ Z.Warmed39 U.vm ∧ U.heap = h0) (fun _ _ _ _ _ => True) (fun _ U o U' => ∃ v L, o = .returned v ∧ QtoKeyN Z a0 h0 n0 v U'.heap L ∧ FrameEnd U o U' L 0 0) := by
  refine MetFree.of_bodySF (plainFor_of_name pn_toKeyN) hisR ?_
  intro p e s m args below meth c s₁ Bd hml0 hP hK
  obtain ⟨rfl, hZ, hh⟩ := hP
  have hwd := fun i {d : Jvm.Cond} (h : tables_1[i]? = some d) => hw d (List.mem_of_getElem? h)
  have hx := Bd.exec
  have hby := Bd.bytes
  have hml : c.maxLocals = 1 := hml0
  have hlk : meth.locks = false := Bd.notSynchronized
  have hown : s.vm.findClass "com/example/nested_keyspace/nestedkeyspace/ScanOptions" = some m.cls := findClass_of_methodNamed Bd.named
  have hnm := (name_of_methodNamed Bd.named Bd.method).1
  have X0 : Stand p l e ({ frames := 0, cells := 0, slots := 0, locals := 0 } : Room) s m #[(.ref a0)] below meth c s₁ [] 0 0 := Stand.of_body Bd
  have e0 : s₁.heap = h0 := by rw [← hh, Bd.state]; rfl
  have N0 := Fr.nil n0
  show own_Go p e below (own_Fin s 0 0 (QtoKeyN Z a0 h0 n0)) _
  refine own_by (fun t k => castTop (ef_toKeyN m a0) k) ?_
  show own_Go p e below _ (s₁.setTop (mkF m 0 #[.val (.ref a0)] []))
  refine own_by (fun _ k => XS.aloadN X0.here hx rfl (hb hby d9_0) rfl rfl k) ?_
  show own_Go p e below _ (s₁.setTop (mkF m 1 #[.val (.ref a0)] [(.ref a0)]))
  obtain ⟨T1, X1, e1, st1⟩ := getF X0 hx hZ hown (host := "") (Or.inl (hwd 21 rfl)) Via.refl e0 P_F_a0_to (g := (mkF m 1 #[.val (.ref a0)] [(.ref a0)])) rfl rfl (hb hby d9_1)
  refine own_by st1 ?_
  show own_Go p e below _ (T1.setTop (mkF m 4 #[.val (.ref a0)] [.null]))
  exact own_retR X1 hx Bd.returns (by decide) rfl (hb hby d9_4) hlk e1 ⟨rfl, N0, rfl⟩ (by decide) (by decide)
theorem pn_toKeyR : plainName "com/example/nested_keyspace/nestedkeyspace/ScanOptions" = true := by first | (simp [plainName, overriddenIn]; done) | decide +kernel
theorem ef_toKeyR (m : MethodId) (a0 : Addr) : entryFrame m #[(.ref a0)] 1 = mkF m 0 #[.val (.ref a0)] [] := by first | (simp [entryFrame, mkF, argsToLocals, Value.category]; done) | rfl
def QtoKeyR (Z : State) (f_a0_to : Addr) (a0 : Addr) (h0 : Heap) (n0 : Nat) (v : Option Value) (h : Heap) (L : List Loc) : Prop := v = some (.ref f_a0_to) ∧ Fr n0 L ∧ h = h0
set_option maxRecDepth 65536 in
set_option maxHeartbeats 40000000 in
theorem rmtoKeyR (l : Launch) (Z : State) (A0 : Array Value) (hw : ∀ d ∈ tables_1, d.before A0 Z = true) (ws : List Jvm.Cond) (f_a0_to : Addr) (a0 : Addr) (h0 : Heap) (n0 : Nat) (Z0 : n0 ≤ h0.size) (P_F_a0_to : Fld Z h0 a0 "com/example/nested_keyspace/nestedkeyspace/ScanOptions" "to" "[B" (.ref f_a0_to)) :
    MetFree l (⟨"com/example/nested_keyspace/nestedkeyspace/ScanOptions", "toKey", "()[B"⟩ : MethodName) (head1 (Jvm.Cond.code (⟨"com/example/nested_keyspace/nestedkeyspace/ScanOptions", "toKey", "()[B"⟩ : MethodName) prog_13_method_9_code 1 (some (.array .byte)) :: ws) ({ frames := 0, cells := 0, slots := 0, locals := 0 } : Room)) (fun a U => a = #[(.ref a0)] ∧ Z.Warmed39 U.vm ∧ U.heap = h0) (fun _ _ _ _ _ => True) (fun _ U o U' => ∃ v L, o = .returned v ∧ QtoKeyR Z f_a0_to a0 h0 n0 v U'.heap L ∧ FrameEnd U o U' L 0 0) := by
  refine MetFree.of_bodySF (plainFor_of_name pn_toKeyR) hisR ?_
  intro p e s m args below meth c s₁ Bd hml0 hP hK
  obtain ⟨rfl, hZ, hh⟩ := hP
  have hwd := fun i {d : Jvm.Cond} (h : tables_1[i]? = some d) => hw d (List.mem_of_getElem? h)
  have hx := Bd.exec
  have hby := Bd.bytes
  have hml : c.maxLocals = 1 := hml0
  have hlk : meth.locks = false := Bd.notSynchronized
  have hown : s.vm.findClass "com/example/nested_keyspace/nestedkeyspace/ScanOptions" = some m.cls := findClass_of_methodNamed Bd.named
  have hnm := (name_of_methodNamed Bd.named Bd.method).1
  have X0 : Stand p l e ({ frames := 0, cells := 0, slots := 0, locals := 0 } : Room) s m #[(.ref a0)] below meth c s₁ [] 0 0 := Stand.of_body Bd
  have e0 : s₁.heap = h0 := by rw [← hh, Bd.state]; rfl
  have N0 := Fr.nil n0
  show own_Go p e below (own_Fin s 0 0 (QtoKeyR Z f_a0_to a0 h0 n0)) _
  refine own_by (fun t k => castTop (ef_toKeyR m a0) k) ?_
  show own_Go p e below _ (s₁.setTop (mkF m 0 #[.val (.ref a0)] []))
  refine own_by (fun _ k => XS.aloadN X0.here hx rfl (hb hby d9_0) rfl rfl k) ?_
  show own_Go p e below _ (s₁.setTop (mkF m 1 #[.val (.ref a0)] [(.ref a0)]))
  obtain ⟨T1, X1, e1, st1⟩ := getF X0 hx hZ hown (host := "") (Or.inl (hwd 21 rfl)) Via.refl e0 P_F_a0_to (g := (mkF m 1 #[.val (.ref a0)] [(.ref a0)])) rfl rfl (hb hby d9_1)
  refine own_by st1 ?_
  show own_Go p e below _ (T1.setTop (mkF m 4 #[.val (.ref a0)] [(.ref f_a0_to)]))
  exact own_retR X1 hx Bd.returns (by decide) rfl (hb hby d9_4) hlk e1 ⟨rfl, N0, rfl⟩ (by decide) (by decide)
theorem d1_0 : decode method_3_code 0 = .ok (.iload_n 0, 1) := by decide +kernel
theorem d1_1 : decode method_3_code 1 = .ok (.newarray .byte, 2) := by decide +kernel
theorem d1_3 : decode method_3_code 3 = .ok (.astore_n 2, 1) := by decide +kernel
theorem d1_4 : decode method_3_code 4 = .ok (.iload_n 0, 1) := by decide +kernel
theorem d1_5 : decode method_3_code 5 = .ok (.ifCond .le 8, 3) := by decide +kernel
theorem d1_8 : decode method_3_code 8 = .ok (.aload_n 2, 1) := by decide +kernel
theorem d1_9 : decode method_3_code 9 = .ok (.iconst 0, 1) := by decide +kernel
theorem d1_10 : decode method_3_code 10 = .ok (.iload_n 1, 1) := by decide +kernel
theorem d1_11 : decode method_3_code 11 = .ok (.i2b, 1) := by decide +kernel
theorem d1_12 : decode method_3_code 12 = .ok (.bastore, 1) := by decide +kernel
theorem d1_13 : decode method_3_code 13 = .ok (.iload_n 0, 1) := by decide +kernel
theorem d1_14 : decode method_3_code 14 = .ok (.iconst 1, 1) := by decide +kernel
theorem d1_15 : decode method_3_code 15 = .ok (.if_icmp .le 11, 3) := by decide +kernel
theorem d1_18 : decode method_3_code 18 = .ok (.aload_n 2, 1) := by decide +kernel
theorem d1_19 : decode method_3_code 19 = .ok (.iconst 1, 1) := by decide +kernel
theorem d1_20 : decode method_3_code 20 = .ok (.iload_n 1, 1) := by decide +kernel
theorem d1_21 : decode method_3_code 21 = .ok (.bipush 8, 2) := by decide +kernel
theorem d1_23 : decode method_3_code 23 = .ok (.iushr, 1) := by decide +kernel
theorem d1_24 : decode method_3_code 24 = .ok (.i2b, 1) := by decide +kernel
theorem d1_25 : decode method_3_code 25 = .ok (.bastore, 1) := by decide +kernel
theorem d1_26 : decode method_3_code 26 = .ok (.iload_n 0, 1) := by decide +kernel
theorem d1_27 : decode method_3_code 27 = .ok (.iconst 2, 1) := by decide +kernel
theorem d1_28 : decode method_3_code 28 = .ok (.if_icmp .le 11, 3) := by decide +kernel
theorem d1_31 : decode method_3_code 31 = .ok (.aload_n 2, 1) := by decide +kernel
theorem d1_32 : decode method_3_code 32 = .ok (.iconst 2, 1) := by decide +kernel
theorem d1_33 : decode method_3_code 33 = .ok (.iload_n 1, 1) := by decide +kernel
theorem d1_34 : decode method_3_code 34 = .ok (.bipush 16, 2) := by decide +kernel
theorem d1_36 : decode method_3_code 36 = .ok (.iushr, 1) := by decide +kernel
theorem d1_37 : decode method_3_code 37 = .ok (.i2b, 1) := by decide +kernel
theorem d1_38 : decode method_3_code 38 = .ok (.bastore, 1) := by decide +kernel
theorem d1_39 : decode method_3_code 39 = .ok (.aload_n 2, 1) := by decide +kernel
theorem d1_40 : decode method_3_code 40 = .ok (.areturn, 1) := by decide +kernel
theorem pn_1 : plainName "com/example/nested_keyspace/nestedkeyspace/ScanOptionsReversePinLaw" = true := by first | (simp [plainName, overriddenIn]; done) | decide +kernel
theorem ef_1 (m : MethodId) (p0 : Int32) (p1 : Int32) : entryFrame m #[(.int p0), (.int p1)] 3 = mkF m 0 #[.val (.int p0), .val (.int p1), .unset] [] := by first | (simp [entryFrame, mkF, argsToLocals, Value.category]; done) | rfl
def Q1 (Z : State) (p0 : Int32) (p1 : Int32) (h0 : Heap) (n0 : Nat) (v : Option Value) (h : Heap) (L : List Loc) : Prop := ∃ (rr : Addr) (kk5001 : ClassId) (gg5002 : Nat → Int32), v = some (.ref rr) ∧ Fr n0 L ∧ Keep h0 h [] ∧ (n0 ≤ rr) ∧ (h0.size ≤ rr) ∧ Exa Z h rr "[B" ∧ own_Arf Z h rr kk5001 .byte p0 (fun i => .int (gg5002 i)) ∧ ((∃ (gg12 : Nat → Int32) (gg28 : Nat → Int32) (gg44 : Nat → Int32), ((((0 : Int32) < p0) ∧ gg12 = (own_upd (fun _ => (0 : Int32)) 0 (nar .byte (p1.toInt8.toInt32)))) ∨ ((¬ ((0 : Int32) < p0)) ∧ gg12 = (fun _ => (0 : Int32)))) ∧ ((((1 : Int32) < p0) ∧ gg28 = (own_upd gg12 1 (nar .byte (((p1.toUInt32 >>> ((8 : Int32) &&& 31).toUInt32).toInt32).toInt8.toInt32)))) ∨ ((¬ ((1 : Int32) < p0)) ∧ gg28 = gg12)) ∧ ((((2 : Int32) < p0) ∧ gg44 = (own_upd gg28 2 (nar .byte (((p1.toUInt32 >>> ((16 : Int32) &&& 31).toUInt32).toInt32).toInt8.toInt32)))) ∨ ((¬ ((2 : Int32) < p0)) ∧ gg44 = gg28)) ∧ gg5002 = gg44))
set_option maxRecDepth 65536 in
set_option maxHeartbeats 40000000 in
theorem rm1 (l : Launch) (Z : State) (A0 : Array Value) (hw : ∀ d ∈ tables_1, d.before A0 Z = true) (ws : List Jvm.Cond) (p0 : Int32) (p1 : Int32) (h0 : Heap) (n0 : Nat) (Z0 : n0 ≤ h0.size) (hp_0 : ¬ p0 < 0) (hp_1 : (p0).toNatClampNeg ≤ 3) :
    MetFree l (⟨"com/example/nested_keyspace/nestedkeyspace/ScanOptionsReversePinLaw", "key", "(II)[B"⟩ : MethodName) (head1 (Jvm.Cond.code (⟨"com/example/nested_keyspace/nestedkeyspace/ScanOptionsReversePinLaw", "key", "(II)[B"⟩ : MethodName) method_3_code 3 (some (.array .byte)) :: ws) ({ frames := 0, cells := 1, slots := 3, locals := 0 } : Room)) (fun a U => a = #[(.int p0), (.int p1)] ∧ Z.Warmed39 U.vm ∧ U.heap = h0) (fun _ _ _ _ _ => True) (fun _ U o U' => ∃ v L, o = .returned v ∧ Q1 Z p0 p1 h0 n0 v U'.heap L ∧ FrameEnd U o U' L 1 3) := by
  refine MetFree.of_bodySF (plainFor_of_name pn_1) hisR ?_
  intro p e s m args below meth c s₁ Bd hml0 hP hK
  obtain ⟨rfl, hZ, hh⟩ := hP
  have hwd := fun i {d : Jvm.Cond} (h : tables_1[i]? = some d) => hw d (List.mem_of_getElem? h)
  have hx := Bd.exec
  have hby := Bd.bytes
  have hml : c.maxLocals = 3 := hml0
  have hlk : meth.locks = false := Bd.notSynchronized
  have hown : s.vm.findClass "com/example/nested_keyspace/nestedkeyspace/ScanOptionsReversePinLaw" = some m.cls := findClass_of_methodNamed Bd.named
  have hnm := (name_of_methodNamed Bd.named Bd.method).1
  have X0 : Stand p l e ({ frames := 0, cells := 1, slots := 3, locals := 0 } : Room) s m #[(.int p0), (.int p1)] below meth c s₁ [] 0 0 := Stand.of_body Bd
  have e0 : s₁.heap = h0 := by rw [← hh, Bd.state]; rfl
  have N0 := Fr.nil n0
  show own_Go p e below (own_Fin s 1 3 (Q1 Z p0 p1 h0 n0)) _
  refine own_by (fun t k => castTop (ef_1 m p0 p1) k) ?_
  show own_Go p e below _ (s₁.setTop (mkF m 0 #[.val (.int p0), .val (.int p1), .unset] []))
  refine own_by (fun _ k => XS.iloadN X0.here hx rfl (hb hby d1_0) rfl k) ?_
  show own_Go p e below _ (s₁.setTop (mkF m 1 #[.val (.int p0), .val (.int p1), .unset] [(.int p0)]))
  obtain ⟨T1, h1, k1, X1, e1, E1, A1, Ax1, st1⟩ := newPE X0 hx hZ (hwd 4 rfl) e0 (g := (mkF m 1 #[.val (.int p0), .val (.int p1), .unset] [(.int p0)])) rfl (hb hby d1_1) rfl hp_0 (cap := 3) hp_1 (by decide) (by decide) (by decide) (ad := "[B") (by decide)
  obtain ⟨b1, g1⟩ : ∃ z, z = h0.size := ⟨_, rfl⟩
  have ge_b1 : n0 ≤ b1 := Nat.le_trans Z0 (Nat.le_of_eq g1.symm)
  have sz_b1 : h0.size ≤ b1 := Nat.le_trans (Keep.refl h0 []).1 (Nat.le_of_eq g1.symm)
  have K1 : Keep h0 h1 [] := (Keep.refl h0 []).ext E1
  have Z1 : n0 ≤ h1.size := Nat.le_trans Z0 E1.1
  rw [← g1] at A1 Ax1 st1
  have V1 : own_Arf Z h1 b1 k1 .byte p0 (fun i => .int ((fun _ => (0 : Int32)) i)) := own_arfNew A1 hp_0
  refine own_by st1 ?_
  show own_Go p e below _ (T1.setTop (mkF m 3 #[.val (.int p0), .val (.int p1), .unset] [(.ref b1)]))
  refine own_by (fun _ k => XS.astoreN X1.here hx rfl (hb hby d1_3) rfl rfl (l' := #[.val (.int p0), .val (.int p1), .val (.ref b1)]) rfl k) ?_
  show own_Go p e below _ (T1.setTop (mkF m 4 #[.val (.int p0), .val (.int p1), .val (.ref b1)] []))
  refine own_by (fun _ k => XS.iloadN X1.here hx rfl (hb hby d1_4) rfl k) ?_
  show own_Go p e below _ (T1.setTop (mkF m 5 #[.val (.int p0), .val (.int p1), .val (.ref b1)] [(.int p0)]))
  have J5 : ∀ (T6 : State) (L7 : List Loc) (h11 : Heap) (gg12 : Nat → Int32), Stand p l e ({ frames := 0, cells := 1, slots := 3, locals := 0 } : Room) s m #[(.int p0), (.int p1)] below meth c T6 L7 1 3 → T6.heap = h11 → Fr n0 L7 → Keep h0 h11 [] → n0 ≤ h11.size → Exa Z h11 b1 "[B" → own_Arf Z h11 b1 k1 .byte p0 (fun i => .int (gg12 i)) → ((((0 : Int32) < p0) ∧ gg12 = (own_upd (fun _ => (0 : Int32)) 0 (nar .byte (p1.toInt8.toInt32)))) ∨ ((¬ ((0 : Int32) < p0)) ∧ gg12 = (fun _ => (0 : Int32)))) → own_Go p e below (own_Fin s 1 3 (Q1 Z p0 p1 h0 n0)) (T6.setTop (mkF m 13 #[.val (.int p0), .val (.int p1), .val (.ref b1)] [])) := by
    intro T6 L7 h11 gg12 X8 e9 N10 K13 Z14 F15 F16 hj17
    refine own_by (fun _ k => XS.iloadN X8.here hx rfl (hb hby d1_13) rfl k) ?_
    show own_Go p e below _ (T6.setTop (mkF m 14 #[.val (.int p0), .val (.int p1), .val (.ref b1)] [(.int p0)]))
    refine own_by (fun _ k => XS.iconst X8.here hx rfl (hb hby d1_14) k) ?_
    show own_Go p e below _ (T6.setTop (mkF m 15 #[.val (.int p0), .val (.int p1), .val (.ref b1)] [(.int (1 : Int32)), (.int p0)]))
    have J21 : ∀ (T22 : State) (L23 : List Loc) (h27 : Heap) (gg28 : Nat → Int32), Stand p l e ({ frames := 0, cells := 1, slots := 3, locals := 0 } : Room) s m #[(.int p0), (.int p1)] below meth c T22 L23 1 3 → T22.heap = h27 → Fr n0 L23 → Keep h0 h27 [] → n0 ≤ h27.size → Exa Z h27 b1 "[B" → own_Arf Z h27 b1 k1 .byte p0 (fun i => .int (gg28 i)) → ((((1 : Int32) < p0) ∧ gg28 = (own_upd gg12 1 (nar .byte (((p1.toUInt32 >>> ((8 : Int32) &&& 31).toUInt32).toInt32).toInt8.toInt32)))) ∨ ((¬ ((1 : Int32) < p0)) ∧ gg28 = gg12)) → own_Go p e below (own_Fin s 1 3 (Q1 Z p0 p1 h0 n0)) (T22.setTop (mkF m 26 #[.val (.int p0), .val (.int p1), .val (.ref b1)] [])) := by
      intro T22 L23 h27 gg28 X24 e25 N26 K29 Z30 F31 F32 hj33
      refine own_by (fun _ k => XS.iloadN X24.here hx rfl (hb hby d1_26) rfl k) ?_
      show own_Go p e below _ (T22.setTop (mkF m 27 #[.val (.int p0), .val (.int p1), .val (.ref b1)] [(.int p0)]))
      refine own_by (fun _ k => XS.iconst X24.here hx rfl (hb hby d1_27) k) ?_
      show own_Go p e below _ (T22.setTop (mkF m 28 #[.val (.int p0), .val (.int p1), .val (.ref b1)] [(.int (2 : Int32)), (.int p0)]))
      have J37 : ∀ (T38 : State) (L39 : List Loc) (h43 : Heap) (gg44 : Nat → Int32), Stand p l e ({ frames := 0, cells := 1, slots := 3, locals := 0 } : Room) s m #[(.int p0), (.int p1)] below meth c T38 L39 1 3 → T38.heap = h43 → Fr n0 L39 → Keep h0 h43 [] → n0 ≤ h43.size → Exa Z h43 b1 "[B" → own_Arf Z h43 b1 k1 .byte p0 (fun i => .int (gg44 i)) → ((((2 : Int32) < p0) ∧ gg44 = (own_upd gg28 2 (nar .byte (((p1.toUInt32 >>> ((16 : Int32) &&& 31).toUInt32).toInt32).toInt8.toInt32)))) ∨ ((¬ ((2 : Int32) < p0)) ∧ gg44 = gg28)) → own_Go p e below (own_Fin s 1 3 (Q1 Z p0 p1 h0 n0)) (T38.setTop (mkF m 39 #[.val (.int p0), .val (.int p1), .val (.ref b1)] [])) := by
        intro T38 L39 h43 gg44 X40 e41 N42 K45 Z46 F47 F48 hj49
        refine own_by (fun _ k => XS.aloadN X40.here hx rfl (hb hby d1_39) rfl rfl k) ?_
        show own_Go p e below _ (T38.setTop (mkF m 40 #[.val (.int p0), .val (.int p1), .val (.ref b1)] [(.ref b1)]))
        exact own_retR X40 hx Bd.returns (by decide) rfl (hb hby d1_40) hlk e41 ⟨b1, k1, gg44, rfl, N42, K45, ge_b1, sz_b1, F47, F48, ⟨gg12, gg28, gg44, hj17, hj33, hj49, rfl⟩⟩ (by decide) (by decide)
      by_cases c34 : (2 : Int32) < p0
      · skip
        refine own_by (fun _ k => XS.icmpNo X24.here hx rfl (hb hby d1_28) rfl (tlt c34).2.2.2 k) ?_
        show own_Go p e below _ (T22.setTop (mkF m 31 #[.val (.int p0), .val (.int p1), .val (.ref b1)] []))
        refine own_by (fun _ k => XS.aloadN X24.here hx rfl (hb hby d1_31) rfl rfl k) ?_
        show own_Go p e below _ (T22.setTop (mkF m 32 #[.val (.int p0), .val (.int p1), .val (.ref b1)] [(.ref b1)]))
        refine own_by (fun _ k => XS.iconst X24.here hx rfl (hb hby d1_32) k) ?_
        show own_Go p e below _ (T22.setTop (mkF m 33 #[.val (.int p0), .val (.int p1), .val (.ref b1)] [(.int (2 : Int32)), (.ref b1)]))
        refine own_by (fun _ k => XS.iloadN X24.here hx rfl (hb hby d1_33) rfl k) ?_
        show own_Go p e below _ (T22.setTop (mkF m 34 #[.val (.int p0), .val (.int p1), .val (.ref b1)] [(.int p1), (.int (2 : Int32)), (.ref b1)]))
        refine own_by (fun _ k => XS.bipush X24.here hx rfl (hb hby d1_34) k) ?_
        show own_Go p e below _ (T22.setTop (mkF m 36 #[.val (.int p0), .val (.int p1), .val (.ref b1)] [(.int (16 : Int32)), (.int p1), (.int (2 : Int32)), (.ref b1)]))
        refine own_by (fun _ k => XS.iushr X24.here hx rfl (hb hby d1_36) rfl k) ?_
        show own_Go p e below _ (T22.setTop (mkF m 37 #[.val (.int p0), .val (.int p1), .val (.ref b1)] [(.int ((p1.toUInt32 >>> ((16 : Int32) &&& 31).toUInt32).toInt32)), (.int (2 : Int32)), (.ref b1)]))
        refine own_by (fun _ k => XS.i2b X24.here hx rfl (hb hby d1_37) rfl k) ?_
        show own_Go p e below _ (T22.setTop (mkF m 38 #[.val (.int p0), .val (.int p1), .val (.ref b1)] [(.int (((p1.toUInt32 >>> ((16 : Int32) &&& 31).toUInt32).toInt32).toInt8.toInt32)), (.int (2 : Int32)), (.ref b1)]))
        obtain ⟨cl35, Ar35, qq35, S35, M35, H35, G35⟩ := id F32
        have hin35 : ¬ ((2 : Int32) < 0 ∨ cl35.slots.size ≤ ((2 : Int32)).toNatClampNeg) := inb_of S35 ⟨by decide, c34⟩
        obtain ⟨T36, h36, X36, e36, W36, st36⟩ := stB X24 hx hZ e25 Ar35 (j := (2 : Int32)) hin35 (g := (mkF m 38 #[.val (.int p0), .val (.int p1), .val (.ref b1)] [(.int (((p1.toUInt32 >>> ((16 : Int32) &&& 31).toUInt32).toInt32).toInt8.toInt32)), (.int (2 : Int32)), (.ref b1)])) rfl rfl (hb hby d1_38)
        have V36 : own_Arf Z h36 b1 k1 .byte p0 (fun i => .int ((own_upd gg28 2 (nar .byte (((p1.toUInt32 >>> ((16 : Int32) &&& 31).toUInt32).toInt32).toInt8.toInt32))) i)) := own_arfSetI Ar35 qq35 S35 M35 H35 G35 (fits_nar_byte _) W36
        have K36 : Keep h0 h36 [] := K29.wr W36 (Or.inr sz_b1)
        have Z36 : n0 ≤ h36.size := Nat.le_trans Z30 (Keep.of_wr W36).1
        have N36 := Fr.snoc X36 N26 ge_b1
        refine own_by st36 ?_
        show own_Go p e below _ (T36.setTop (mkF m 39 #[.val (.int p0), .val (.int p1), .val (.ref b1)] []))
        have F37 : Exa Z h36 b1 "[B" := (F31.wr W36)
        exact J37 _ _ _ ((own_upd gg28 2 (nar .byte (((p1.toUInt32 >>> ((16 : Int32) &&& 31).toUInt32).toInt32).toInt8.toInt32)))) X36 e36 N36 K36 Z36 F37 V36 (Or.inl ⟨c34, rfl⟩)
      · skip
        refine own_by (fun _ k => XS.icmpYes X24.here hx rfl (pc0 := 28) (pc' := 39) rfl (hb hby d1_28) rfl (flt c34).2.2.2 (by decide) (by decide) k) ?_
        show own_Go p e below _ (T22.setTop (mkF m 39 #[.val (.int p0), .val (.int p1), .val (.ref b1)] []))
        exact J37 _ _ _ gg28 X24 e25 N26 K29 Z30 F31 F32 (Or.inr (⟨c34, rfl⟩))
    by_cases c18 : (1 : Int32) < p0
    · skip
      refine own_by (fun _ k => XS.icmpNo X8.here hx rfl (hb hby d1_15) rfl (tlt c18).2.2.2 k) ?_
      show own_Go p e below _ (T6.setTop (mkF m 18 #[.val (.int p0), .val (.int p1), .val (.ref b1)] []))
      refine own_by (fun _ k => XS.aloadN X8.here hx rfl (hb hby d1_18) rfl rfl k) ?_
      show own_Go p e below _ (T6.setTop (mkF m 19 #[.val (.int p0), .val (.int p1), .val (.ref b1)] [(.ref b1)]))
      refine own_by (fun _ k => XS.iconst X8.here hx rfl (hb hby d1_19) k) ?_
      show own_Go p e below _ (T6.setTop (mkF m 20 #[.val (.int p0), .val (.int p1), .val (.ref b1)] [(.int (1 : Int32)), (.ref b1)]))
      refine own_by (fun _ k => XS.iloadN X8.here hx rfl (hb hby d1_20) rfl k) ?_
      show own_Go p e below _ (T6.setTop (mkF m 21 #[.val (.int p0), .val (.int p1), .val (.ref b1)] [(.int p1), (.int (1 : Int32)), (.ref b1)]))
      refine own_by (fun _ k => XS.bipush X8.here hx rfl (hb hby d1_21) k) ?_
      show own_Go p e below _ (T6.setTop (mkF m 23 #[.val (.int p0), .val (.int p1), .val (.ref b1)] [(.int (8 : Int32)), (.int p1), (.int (1 : Int32)), (.ref b1)]))
      refine own_by (fun _ k => XS.iushr X8.here hx rfl (hb hby d1_23) rfl k) ?_
      show own_Go p e below _ (T6.setTop (mkF m 24 #[.val (.int p0), .val (.int p1), .val (.ref b1)] [(.int ((p1.toUInt32 >>> ((8 : Int32) &&& 31).toUInt32).toInt32)), (.int (1 : Int32)), (.ref b1)]))
      refine own_by (fun _ k => XS.i2b X8.here hx rfl (hb hby d1_24) rfl k) ?_
      show own_Go p e below _ (T6.setTop (mkF m 25 #[.val (.int p0), .val (.int p1), .val (.ref b1)] [(.int (((p1.toUInt32 >>> ((8 : Int32) &&& 31).toUInt32).toInt32).toInt8.toInt32)), (.int (1 : Int32)), (.ref b1)]))
      obtain ⟨cl19, Ar19, qq19, S19, M19, H19, G19⟩ := id F16
      have hin19 : ¬ ((1 : Int32) < 0 ∨ cl19.slots.size ≤ ((1 : Int32)).toNatClampNeg) := inb_of S19 ⟨by decide, c18⟩
      obtain ⟨T20, h20, X20, e20, W20, st20⟩ := stB X8 hx hZ e9 Ar19 (j := (1 : Int32)) hin19 (g := (mkF m 25 #[.val (.int p0), .val (.int p1), .val (.ref b1)] [(.int (((p1.toUInt32 >>> ((8 : Int32) &&& 31).toUInt32).toInt32).toInt8.toInt32)), (.int (1 : Int32)), (.ref b1)])) rfl rfl (hb hby d1_25)
      have V20 : own_Arf Z h20 b1 k1 .byte p0 (fun i => .int ((own_upd gg12 1 (nar .byte (((p1.toUInt32 >>> ((8 : Int32) &&& 31).toUInt32).toInt32).toInt8.toInt32))) i)) := own_arfSetI Ar19 qq19 S19 M19 H19 G19 (fits_nar_byte _) W20
      have K20 : Keep h0 h20 [] := K13.wr W20 (Or.inr sz_b1)
      have Z20 : n0 ≤ h20.size := Nat.le_trans Z14 (Keep.of_wr W20).1
      have N20 := Fr.snoc X20 N10 ge_b1
      refine own_by st20 ?_
      show own_Go p e below _ (T20.setTop (mkF m 26 #[.val (.int p0), .val (.int p1), .val (.ref b1)] []))
      have F21 : Exa Z h20 b1 "[B" := (F15.wr W20)
      exact J21 _ _ _ ((own_upd gg12 1 (nar .byte (((p1.toUInt32 >>> ((8 : Int32) &&& 31).toUInt32).toInt32).toInt8.toInt32)))) X20 e20 N20 K20 Z20 F21 V20 (Or.inl ⟨c18, rfl⟩)
    · skip
      refine own_by (fun _ k => XS.icmpYes X8.here hx rfl (pc0 := 15) (pc' := 26) rfl (hb hby d1_15) rfl (flt c18).2.2.2 (by decide) (by decide) k) ?_
      show own_Go p e below _ (T6.setTop (mkF m 26 #[.val (.int p0), .val (.int p1), .val (.ref b1)] []))
      exact J21 _ _ _ gg12 X8 e9 N10 K13 Z14 F15 F16 (Or.inr (⟨c18, rfl⟩))
  by_cases c2 : (0 : Int32) < p0
  · skip
    refine own_by (fun _ k => XS.ifNo X1.here hx rfl (hb hby d1_5) rfl ((if0 _ _).trans (tlt c2).2.2.2) k) ?_
    show own_Go p e below _ (T1.setTop (mkF m 8 #[.val (.int p0), .val (.int p1), .val (.ref b1)] []))
    refine own_by (fun _ k => XS.aloadN X1.here hx rfl (hb hby d1_8) rfl rfl k) ?_
    show own_Go p e below _ (T1.setTop (mkF m 9 #[.val (.int p0), .val (.int p1), .val (.ref b1)] [(.ref b1)]))
    refine own_by (fun _ k => XS.iconst X1.here hx rfl (hb hby d1_9) k) ?_
    show own_Go p e below _ (T1.setTop (mkF m 10 #[.val (.int p0), .val (.int p1), .val (.ref b1)] [(.int (0 : Int32)), (.ref b1)]))
    refine own_by (fun _ k => XS.iloadN X1.here hx rfl (hb hby d1_10) rfl k) ?_
    show own_Go p e below _ (T1.setTop (mkF m 11 #[.val (.int p0), .val (.int p1), .val (.ref b1)] [(.int p1), (.int (0 : Int32)), (.ref b1)]))
    refine own_by (fun _ k => XS.i2b X1.here hx rfl (hb hby d1_11) rfl k) ?_
    show own_Go p e below _ (T1.setTop (mkF m 12 #[.val (.int p0), .val (.int p1), .val (.ref b1)] [(.int (p1.toInt8.toInt32)), (.int (0 : Int32)), (.ref b1)]))
    obtain ⟨cl3, Ar3, qq3, S3, M3, H3, G3⟩ := id V1
    have hin3 : ¬ ((0 : Int32) < 0 ∨ cl3.slots.size ≤ ((0 : Int32)).toNatClampNeg) := inb_of S3 ⟨by decide, c2⟩
    obtain ⟨T4, h4, X4, e4, W4, st4⟩ := stB X1 hx hZ e1 Ar3 (j := (0 : Int32)) hin3 (g := (mkF m 12 #[.val (.int p0), .val (.int p1), .val (.ref b1)] [(.int (p1.toInt8.toInt32)), (.int (0 : Int32)), (.ref b1)])) rfl rfl (hb hby d1_12)
    have V4 : own_Arf Z h4 b1 k1 .byte p0 (fun i => .int ((own_upd (fun _ => (0 : Int32)) 0 (nar .byte (p1.toInt8.toInt32))) i)) := own_arfSetI Ar3 qq3 S3 M3 H3 G3 (fits_nar_byte _) W4
    have K4 : Keep h0 h4 [] := K1.wr W4 (Or.inr sz_b1)
    have Z4 : n0 ≤ h4.size := Nat.le_trans Z1 (Keep.of_wr W4).1
    have N4 := Fr.snoc X4 N0 ge_b1
    refine own_by st4 ?_
    show own_Go p e below _ (T4.setTop (mkF m 13 #[.val (.int p0), .val (.int p1), .val (.ref b1)] []))
    have F5 : Exa Z h4 b1 "[B" := (Ax1.wr W4)
    exact J5 _ _ _ ((own_upd (fun _ => (0 : Int32)) 0 (nar .byte (p1.toInt8.toInt32)))) X4 e4 N4 K4 Z4 F5 V4 (Or.inl ⟨c2, rfl⟩)
  · skip
    refine own_by (fun _ k => XS.ifYes X1.here hx rfl (pc0 := 5) (pc' := 13) rfl (hb hby d1_5) rfl ((if0 _ _).trans (flt c2).2.2.2) (by decide) (by decide) k) ?_
    show own_Go p e below _ (T1.setTop (mkF m 13 #[.val (.int p0), .val (.int p1), .val (.ref b1)] []))
    exact J5 _ _ _ ((fun _ => (0 : Int32))) X1 e1 N0 K1 Z1 Ax1 V1 (Or.inr (⟨c2, rfl⟩))
theorem d8_0 : decode method_4_code 0 = .ok (.aload_n 0, 1) := by decide +kernel
theorem d8_1 : decode method_4_code 1 = .ok (.ifnull 7, 3) := by decide +kernel
theorem d8_4 : decode method_4_code 4 = .ok (.aload_n 1, 1) := by decide +kernel
theorem d8_5 : decode method_4_code 5 = .ok (.ifnonnull 14, 3) := by decide +kernel
theorem d8_19 : decode method_4_code 19 = .ok (.aload_n 0, 1) := by decide +kernel
theorem d8_20 : decode method_4_code 20 = .ok (.arraylength, 1) := by decide +kernel
theorem d8_21 : decode method_4_code 21 = .ok (.aload_n 1, 1) := by decide +kernel
theorem d8_22 : decode method_4_code 22 = .ok (.arraylength, 1) := by decide +kernel
theorem d8_23 : decode method_4_code 23 = .ok (.if_icmp .eq 5, 3) := by decide +kernel
theorem d8_26 : decode method_4_code 26 = .ok (.iconst 0, 1) := by decide +kernel
theorem d8_27 : decode method_4_code 27 = .ok (.ireturn, 1) := by decide +kernel
theorem d8_28 : decode method_4_code 28 = .ok (.aload_n 1, 1) := by decide +kernel
theorem d8_29 : decode method_4_code 29 = .ok (.arraylength, 1) := by decide +kernel
theorem d8_30 : decode method_4_code 30 = .ok (.ifCond .le 14, 3) := by decide +kernel
theorem d8_33 : decode method_4_code 33 = .ok (.aload_n 0, 1) := by decide +kernel
theorem d8_34 : decode method_4_code 34 = .ok (.iconst 0, 1) := by decide +kernel
theorem d8_35 : decode method_4_code 35 = .ok (.baload, 1) := by decide +kernel
theorem d8_36 : decode method_4_code 36 = .ok (.aload_n 1, 1) := by decide +kernel
theorem d8_37 : decode method_4_code 37 = .ok (.iconst 0, 1) := by decide +kernel
theorem d8_38 : decode method_4_code 38 = .ok (.baload, 1) := by decide +kernel
theorem d8_39 : decode method_4_code 39 = .ok (.if_icmp .eq 5, 3) := by decide +kernel
theorem d8_42 : decode method_4_code 42 = .ok (.iconst 0, 1) := by decide +kernel
theorem d8_43 : decode method_4_code 43 = .ok (.ireturn, 1) := by decide +kernel
theorem d8_44 : decode method_4_code 44 = .ok (.aload_n 1, 1) := by decide +kernel
theorem d8_45 : decode method_4_code 45 = .ok (.arraylength, 1) := by decide +kernel
theorem d8_46 : decode method_4_code 46 = .ok (.iconst 1, 1) := by decide +kernel
theorem d8_47 : decode method_4_code 47 = .ok (.if_icmp .le 14, 3) := by decide +kernel
theorem d8_50 : decode method_4_code 50 = .ok (.aload_n 0, 1) := by decide +kernel
theorem d8_51 : decode method_4_code 51 = .ok (.iconst 1, 1) := by decide +kernel
theorem d8_52 : decode method_4_code 52 = .ok (.baload, 1) := by decide +kernel
theorem d8_53 : decode method_4_code 53 = .ok (.aload_n 1, 1) := by decide +kernel
theorem d8_54 : decode method_4_code 54 = .ok (.iconst 1, 1) := by decide +kernel
theorem d8_55 : decode method_4_code 55 = .ok (.baload, 1) := by decide +kernel
theorem d8_56 : decode method_4_code 56 = .ok (.if_icmp .eq 5, 3) := by decide +kernel
theorem d8_59 : decode method_4_code 59 = .ok (.iconst 0, 1) := by decide +kernel
theorem d8_60 : decode method_4_code 60 = .ok (.ireturn, 1) := by decide +kernel
theorem d8_61 : decode method_4_code 61 = .ok (.aload_n 1, 1) := by decide +kernel
theorem d8_62 : decode method_4_code 62 = .ok (.arraylength, 1) := by decide +kernel
theorem d8_63 : decode method_4_code 63 = .ok (.iconst 2, 1) := by decide +kernel
theorem d8_64 : decode method_4_code 64 = .ok (.if_icmp .le 14, 3) := by decide +kernel
theorem d8_67 : decode method_4_code 67 = .ok (.aload_n 0, 1) := by decide +kernel
theorem d8_68 : decode method_4_code 68 = .ok (.iconst 2, 1) := by decide +kernel
theorem d8_69 : decode method_4_code 69 = .ok (.baload, 1) := by decide +kernel
theorem d8_70 : decode method_4_code 70 = .ok (.aload_n 1, 1) := by decide +kernel
theorem d8_71 : decode method_4_code 71 = .ok (.iconst 2, 1) := by decide +kernel
theorem d8_72 : decode method_4_code 72 = .ok (.baload, 1) := by decide +kernel
theorem d8_73 : decode method_4_code 73 = .ok (.if_icmp .eq 5, 3) := by decide +kernel
theorem d8_76 : decode method_4_code 76 = .ok (.iconst 0, 1) := by decide +kernel
theorem d8_77 : decode method_4_code 77 = .ok (.ireturn, 1) := by decide +kernel
theorem d8_78 : decode method_4_code 78 = .ok (.iconst 1, 1) := by decide +kernel
theorem d8_79 : decode method_4_code 79 = .ok (.ireturn, 1) := by decide +kernel
theorem pn_sbRR : plainName "com/example/nested_keyspace/nestedkeyspace/ScanOptionsReversePinLaw" = true := by first | (simp [plainName, overriddenIn]; done) | decide +kernel
theorem ef_sbRR (m : MethodId) (a0 : Addr) (a1 : Addr) : entryFrame m #[(.ref a0), (.ref a1)] 2 = mkF m 0 #[.val (.ref a0), .val (.ref a1)] [] := by first | (simp [entryFrame, mkF, argsToLocals, Value.category]; done) | rfl
theorem ob_sbRR_1 (n_a0 : Int32) (n_a1 : Int32) (c3 : n_a0 = n_a1) (c5 : (0 : Int32) < n_a1) : (¬ (0 : Int32) < 0) ∧ (0 : Int32) < n_a0 := by
  refine ⟨by decide, ?_⟩
  grind
theorem ob_sbRR_2 (n_a0 : Int32) (n_a1 : Int32) (c3 : n_a0 = n_a1) (c5 : (0 : Int32) < n_a1) : (¬ (0 : Int32) < 0) ∧ (0 : Int32) < n_a1 := by
  refine ⟨by decide, ?_⟩
  grind
theorem ob_sbRR_3 (n_a0 : Int32) (fn_a0 : Nat → Int32) (n_a1 : Int32) (fn_a1 : Nat → Int32) (c3 : n_a0 = n_a1) (c5 : (0 : Int32) < n_a1) (c8 : (fn_a0 0) = (fn_a1 0)) (c10 : (1 : Int32) < n_a1) : (¬ (1 : Int32) < 0) ∧ (1 : Int32) < n_a0 := by
  refine ⟨by decide, ?_⟩
  grind
theorem ob_sbRR_4 (n_a0 : Int32) (fn_a0 : Nat → Int32) (n_a1 : Int32) (fn_a1 : Nat → Int32) (c3 : n_a0 = n_a1) (c5 : (0 : Int32) < n_a1) (c8 : (fn_a0 0) = (fn_a1 0)) (c10 : (1 : Int32) < n_a1) : (¬ (1 : Int32) < 0) ∧ (1 : Int32) < n_a1 := by
  refine ⟨by decide, ?_⟩
  grind
theorem ob_sbRR_5 (n_a0 : Int32) (fn_a0 : Nat → Int32) (n_a1 : Int32) (fn_a1 : Nat → Int32) (c3 : n_a0 = n_a1) (c5 : (0 : Int32) < n_a1) (c8 : (fn_a0 0) = (fn_a1 0)) (c10 : (1 : Int32) < n_a1) (c13 : (fn_a0 1) = (fn_a1 1)) (c15 : (2 : Int32) < n_a1) : (¬ (2 : Int32) < 0) ∧ (2 : Int32) < n_a0 := by
  refine ⟨by decide, ?_⟩
  grind
theorem ob_sbRR_6 (n_a0 : Int32) (fn_a0 : Nat → Int32) (n_a1 : Int32) (fn_a1 : Nat → Int32) (c3 : n_a0 = n_a1) (c5 : (0 : Int32) < n_a1) (c8 : (fn_a0 0) = (fn_a1 0)) (c10 : (1 : Int32) < n_a1) (c13 : (fn_a0 1) = (fn_a1 1)) (c15 : (2 : Int32) < n_a1) : (¬ (2 : Int32) < 0) ∧ (2 : Int32) < n_a1 := by
  refine ⟨by decide, ?_⟩
  grind
theorem ob_sbRR_7 (n_a0 : Int32) (fn_a0 : Nat → Int32) (n_a1 : Int32) (fn_a1 : Nat → Int32) (c3 : n_a0 = n_a1) (c5 : (0 : Int32) < n_a1) (c8 : (fn_a0 0) = (fn_a1 0)) (c10 : (1 : Int32) < n_a1) (c13 : (fn_a0 1) = (fn_a1 1)) (c15 : (2 : Int32) < n_a1) (c18 : (fn_a0 2) = (fn_a1 2)) : own_same n_a0 n_a1 fn_a0 fn_a1 (1 : Int32) := by
  simp only [own_same]
  grind
theorem ob_sbRR_8 (n_a0 : Int32) (fn_a0 : Nat → Int32) (n_a1 : Int32) (fn_a1 : Nat → Int32) (c3 : n_a0 = n_a1) (c5 : (0 : Int32) < n_a1) (c8 : (fn_a0 0) = (fn_a1 0)) (c10 : (1 : Int32) < n_a1) (c13 : (fn_a0 1) = (fn_a1 1)) (c15 : (2 : Int32) < n_a1) (c18 : ¬ ((fn_a0 2) = (fn_a1 2))) : own_same n_a0 n_a1 fn_a0 fn_a1 (0 : Int32) := by
  simp only [own_same]
  grind
theorem ob_sbRR_9 (n_a0 : Int32) (fn_a0 : Nat → Int32) (n_a1 : Int32) (fn_a1 : Nat → Int32) (c3 : n_a0 = n_a1) (c5 : (0 : Int32) < n_a1) (c8 : (fn_a0 0) = (fn_a1 0)) (c10 : (1 : Int32) < n_a1) (c13 : (fn_a0 1) = (fn_a1 1)) (c15 : ¬ ((2 : Int32) < n_a1)) : own_same n_a0 n_a1 fn_a0 fn_a1 (1 : Int32) := by
  simp only [own_same]
  grind
theorem ob_sbRR_10 (n_a0 : Int32) (fn_a0 : Nat → Int32) (n_a1 : Int32) (fn_a1 : Nat → Int32) (c3 : n_a0 = n_a1) (c5 : (0 : Int32) < n_a1) (c8 : (fn_a0 0) = (fn_a1 0)) (c10 : (1 : Int32) < n_a1) (c13 : ¬ ((fn_a0 1) = (fn_a1 1))) : own_same n_a0 n_a1 fn_a0 fn_a1 (0 : Int32) := by
  simp only [own_same]
  grind
theorem ob_sbRR_11 (n_a0 : Int32) (fn_a0 : Nat → Int32) (n_a1 : Int32) (fn_a1 : Nat → Int32) (c3 : n_a0 = n_a1) (c5 : (0 : Int32) < n_a1) (c8 : (fn_a0 0) = (fn_a1 0)) (c10 : ¬ ((1 : Int32) < n_a1)) (c20 : (2 : Int32) < n_a1) : (¬ (2 : Int32) < 0) ∧ (2 : Int32) < n_a0 := by
  refine ⟨by decide, ?_⟩
  grind
theorem ob_sbRR_12 (n_a0 : Int32) (fn_a0 : Nat → Int32) (n_a1 : Int32) (fn_a1 : Nat → Int32) (c3 : n_a0 = n_a1) (c5 : (0 : Int32) < n_a1) (c8 : (fn_a0 0) = (fn_a1 0)) (c10 : ¬ ((1 : Int32) < n_a1)) (c20 : (2 : Int32) < n_a1) : (¬ (2 : Int32) < 0) ∧ (2 : Int32) < n_a1 := by
  refine ⟨by decide, ?_⟩
  grind
theorem ob_sbRR_13 (n_a0 : Int32) (fn_a0 : Nat → Int32) (n_a1 : Int32) (fn_a1 : Nat → Int32) (c3 : n_a0 = n_a1) (c5 : (0 : Int32) < n_a1) (c8 : (fn_a0 0) = (fn_a1 0)) (c10 : ¬ ((1 : Int32) < n_a1)) (c20 : (2 : Int32) < n_a1) (c23 : (fn_a0 2) = (fn_a1 2)) : own_same n_a0 n_a1 fn_a0 fn_a1 (1 : Int32) := by
  simp only [own_same]
  grind
theorem ob_sbRR_14 (n_a0 : Int32) (fn_a0 : Nat → Int32) (n_a1 : Int32) (fn_a1 : Nat → Int32) (c3 : n_a0 = n_a1) (c5 : (0 : Int32) < n_a1) (c8 : (fn_a0 0) = (fn_a1 0)) (c10 : ¬ ((1 : Int32) < n_a1)) (c20 : (2 : Int32) < n_a1) (c23 : ¬ ((fn_a0 2) = (fn_a1 2))) : own_same n_a0 n_a1 fn_a0 fn_a1 (0 : Int32) := by
  simp only [own_same]
  grind
theorem ob_sbRR_15 (n_a0 : Int32) (fn_a0 : Nat → Int32) (n_a1 : Int32) (fn_a1 : Nat → Int32) (c3 : n_a0 = n_a1) (c5 : (0 : Int32) < n_a1) (c8 : (fn_a0 0) = (fn_a1 0)) (c10 : ¬ ((1 : Int32) < n_a1)) (c20 : ¬ ((2 : Int32) < n_a1)) : own_same n_a0 n_a1 fn_a0 fn_a1 (1 : Int32) := by
  simp only [own_same]
  grind
theorem ob_sbRR_16 (n_a0 : Int32) (fn_a0 : Nat → Int32) (n_a1 : Int32) (fn_a1 : Nat → Int32) (c3 : n_a0 = n_a1) (c5 : (0 : Int32) < n_a1) (c8 : ¬ ((fn_a0 0) = (fn_a1 0))) : own_same n_a0 n_a1 fn_a0 fn_a1 (0 : Int32) := by
  simp only [own_same]
  grind
theorem ob_sbRR_17 (n_a0 : Int32) (n_a1 : Int32) (c3 : n_a0 = n_a1) (c5 : ¬ ((0 : Int32) < n_a1)) (c25 : (1 : Int32) < n_a1) : (¬ (1 : Int32) < 0) ∧ (1 : Int32) < n_a0 := by
  refine ⟨by decide, ?_⟩
  grind
theorem ob_sbRR_18 (n_a0 : Int32) (n_a1 : Int32) (c3 : n_a0 = n_a1) (c5 : ¬ ((0 : Int32) < n_a1)) (c25 : (1 : Int32) < n_a1) : (¬ (1 : Int32) < 0) ∧ (1 : Int32) < n_a1 := by
  refine ⟨by decide, ?_⟩
  grind
theorem ob_sbRR_19 (n_a0 : Int32) (fn_a0 : Nat → Int32) (n_a1 : Int32) (fn_a1 : Nat → Int32) (c3 : n_a0 = n_a1) (c5 : ¬ ((0 : Int32) < n_a1)) (c25 : (1 : Int32) < n_a1) (c28 : (fn_a0 1) = (fn_a1 1)) (c30 : (2 : Int32) < n_a1) : (¬ (2 : Int32) < 0) ∧ (2 : Int32) < n_a0 := by
  refine ⟨by decide, ?_⟩
  grind
theorem ob_sbRR_20 (n_a0 : Int32) (fn_a0 : Nat → Int32) (n_a1 : Int32) (fn_a1 : Nat → Int32) (c3 : n_a0 = n_a1) (c5 : ¬ ((0 : Int32) < n_a1)) (c25 : (1 : Int32) < n_a1) (c28 : (fn_a0 1) = (fn_a1 1)) (c30 : (2 : Int32) < n_a1) : (¬ (2 : Int32) < 0) ∧ (2 : Int32) < n_a1 := by
  refine ⟨by decide, ?_⟩
  grind
theorem ob_sbRR_21 (n_a0 : Int32) (fn_a0 : Nat → Int32) (n_a1 : Int32) (fn_a1 : Nat → Int32) (c3 : n_a0 = n_a1) (c5 : ¬ ((0 : Int32) < n_a1)) (c25 : (1 : Int32) < n_a1) (c28 : (fn_a0 1) = (fn_a1 1)) (c30 : (2 : Int32) < n_a1) (c33 : (fn_a0 2) = (fn_a1 2)) : own_same n_a0 n_a1 fn_a0 fn_a1 (1 : Int32) := by
  simp only [own_same]
  grind
theorem ob_sbRR_22 (n_a0 : Int32) (fn_a0 : Nat → Int32) (n_a1 : Int32) (fn_a1 : Nat → Int32) (c3 : n_a0 = n_a1) (c5 : ¬ ((0 : Int32) < n_a1)) (c25 : (1 : Int32) < n_a1) (c28 : (fn_a0 1) = (fn_a1 1)) (c30 : (2 : Int32) < n_a1) (c33 : ¬ ((fn_a0 2) = (fn_a1 2))) : own_same n_a0 n_a1 fn_a0 fn_a1 (0 : Int32) := by
  simp only [own_same]
  grind
theorem ob_sbRR_23 (n_a0 : Int32) (fn_a0 : Nat → Int32) (n_a1 : Int32) (fn_a1 : Nat → Int32) (c3 : n_a0 = n_a1) (c5 : ¬ ((0 : Int32) < n_a1)) (c25 : (1 : Int32) < n_a1) (c28 : (fn_a0 1) = (fn_a1 1)) (c30 : ¬ ((2 : Int32) < n_a1)) : own_same n_a0 n_a1 fn_a0 fn_a1 (1 : Int32) := by
  simp only [own_same]
  grind
theorem ob_sbRR_24 (n_a0 : Int32) (fn_a0 : Nat → Int32) (n_a1 : Int32) (fn_a1 : Nat → Int32) (c3 : n_a0 = n_a1) (c5 : ¬ ((0 : Int32) < n_a1)) (c25 : (1 : Int32) < n_a1) (c28 : ¬ ((fn_a0 1) = (fn_a1 1))) : own_same n_a0 n_a1 fn_a0 fn_a1 (0 : Int32) := by
  simp only [own_same]
  grind
theorem ob_sbRR_25 (n_a0 : Int32) (n_a1 : Int32) (c3 : n_a0 = n_a1) (c5 : ¬ ((0 : Int32) < n_a1)) (c25 : ¬ ((1 : Int32) < n_a1)) (c35 : (2 : Int32) < n_a1) : (¬ (2 : Int32) < 0) ∧ (2 : Int32) < n_a0 := by
  refine ⟨by decide, ?_⟩
  grind
theorem ob_sbRR_26 (n_a0 : Int32) (n_a1 : Int32) (c3 : n_a0 = n_a1) (c5 : ¬ ((0 : Int32) < n_a1)) (c25 : ¬ ((1 : Int32) < n_a1)) (c35 : (2 : Int32) < n_a1) : (¬ (2 : Int32) < 0) ∧ (2 : Int32) < n_a1 := by
  refine ⟨by decide, ?_⟩
  grind
theorem ob_sbRR_27 (n_a0 : Int32) (fn_a0 : Nat → Int32) (n_a1 : Int32) (fn_a1 : Nat → Int32) (c3 : n_a0 = n_a1) (c5 : ¬ ((0 : Int32) < n_a1)) (c25 : ¬ ((1 : Int32) < n_a1)) (c35 : (2 : Int32) < n_a1) (c38 : (fn_a0 2) = (fn_a1 2)) : own_same n_a0 n_a1 fn_a0 fn_a1 (1 : Int32) := by
  simp only [own_same]
  grind
theorem ob_sbRR_28 (n_a0 : Int32) (fn_a0 : Nat → Int32) (n_a1 : Int32) (fn_a1 : Nat → Int32) (c3 : n_a0 = n_a1) (c5 : ¬ ((0 : Int32) < n_a1)) (c25 : ¬ ((1 : Int32) < n_a1)) (c35 : (2 : Int32) < n_a1) (c38 : ¬ ((fn_a0 2) = (fn_a1 2))) : own_same n_a0 n_a1 fn_a0 fn_a1 (0 : Int32) := by
  simp only [own_same]
  grind
theorem ob_sbRR_29 (n_a0 : Int32) (fn_a0 : Nat → Int32) (n_a1 : Int32) (fn_a1 : Nat → Int32) (c3 : n_a0 = n_a1) (c5 : ¬ ((0 : Int32) < n_a1)) (c25 : ¬ ((1 : Int32) < n_a1)) (c35 : ¬ ((2 : Int32) < n_a1)) : own_same n_a0 n_a1 fn_a0 fn_a1 (1 : Int32) := by
  simp only [own_same]
  grind
theorem ob_sbRR_30 (n_a0 : Int32) (fn_a0 : Nat → Int32) (n_a1 : Int32) (fn_a1 : Nat → Int32) (c3 : ¬ (n_a0 = n_a1)) : own_same n_a0 n_a1 fn_a0 fn_a1 (0 : Int32) := by
  simp only [own_same]
  grind
def QsbRR (Z : State) (a0 : Addr) (a1 : Addr) (k_a0 : ClassId) (n_a0 : Int32) (fn_a0 : Nat → Int32) (k_a1 : ClassId) (n_a1 : Int32) (fn_a1 : Nat → Int32) (h0 : Heap) (n0 : Nat) (v : Option Value) (h : Heap) (L : List Loc) : Prop := ∃ (zz : Int32), v = some (.int zz) ∧ Fr n0 L ∧ h = h0 ∧ (own_same n_a0 n_a1 fn_a0 fn_a1 zz)
set_option maxRecDepth 65536 in
set_option maxHeartbeats 40000000 in
theorem rmsbRR (l : Launch) (Z : State) (A0 : Array Value) (hw : ∀ d ∈ tables_1, d.before A0 Z = true) (ws : List Jvm.Cond) (a0 : Addr) (a1 : Addr) (k_a0 : ClassId) (n_a0 : Int32) (fn_a0 : Nat → Int32) (k_a1 : ClassId) (n_a1 : Int32) (fn_a1 : Nat → Int32) (h0 : Heap) (n0 : Nat) (Z0 : n0 ≤ h0.size) (P_V_a0 : own_Arf Z h0 a0 k_a0 .byte n_a0 (fun i => .int (fn_a0 i))) (P_V_a1 : own_Arf Z h0 a1 k_a1 .byte n_a1 (fun i => .int (fn_a1 i))) :
    MetFree l (⟨"com/example/nested_keyspace/nestedkeyspace/ScanOptionsReversePinLaw", "sameBytes", "([B[B)Z"⟩ : MethodName) (head1 (Jvm.Cond.code (⟨"com/example/nested_keyspace/nestedkeyspace/ScanOptionsReversePinLaw", "sameBytes", "([B[B)Z"⟩ : MethodName) method_4_code 2 (some .boolean) :: ws) ({ frames := 0, cells := 0, slots := 0, locals := 0 } : Room)) (fun a U => a = #[(.ref a0), (.ref a1)] ∧ Z.Warmed39 U.vm ∧ U.heap = h0) (fun _ _ _ _ _ => True) (fun _ U o U' => ∃ v L, o = .returned v ∧ QsbRR Z a0 a1 k_a0 n_a0 fn_a0 k_a1 n_a1 fn_a1 h0 n0 v U'.heap L ∧ FrameEnd U o U' L 0 0) := by
  refine MetFree.of_bodySF (plainFor_of_name pn_sbRR) hisR ?_
  intro p e s m args below meth c s₁ Bd hml0 hP hK
  obtain ⟨rfl, hZ, hh⟩ := hP
  have hwd := fun i {d : Jvm.Cond} (h : tables_1[i]? = some d) => hw d (List.mem_of_getElem? h)
  have hx := Bd.exec
  have hby := Bd.bytes
  have hml : c.maxLocals = 2 := hml0
  have hlk : meth.locks = false := Bd.notSynchronized
  have hown : s.vm.findClass "com/example/nested_keyspace/nestedkeyspace/ScanOptionsReversePinLaw" = some m.cls := findClass_of_methodNamed Bd.named
  have hnm := (name_of_methodNamed Bd.named Bd.method).1
  have X0 : Stand p l e ({ frames := 0, cells := 0, slots := 0, locals := 0 } : Room) s m #[(.ref a0), (.ref a1)] below meth c s₁ [] 0 0 := Stand.of_body Bd
  have e0 : s₁.heap = h0 := by rw [← hh, Bd.state]; rfl
  have N0 := Fr.nil n0
  show own_Go p e below (own_Fin s 0 0 (QsbRR Z a0 a1 k_a0 n_a0 fn_a0 k_a1 n_a1 fn_a1 h0 n0)) _
  refine own_by (fun t k => castTop (ef_sbRR m a0 a1) k) ?_
  show own_Go p e below _ (s₁.setTop (mkF m 0 #[.val (.ref a0), .val (.ref a1)] []))
  refine own_by (fun _ k => XS.aloadN X0.here hx rfl (hb hby d8_0) rfl rfl k) ?_
  show own_Go p e below _ (s₁.setTop (mkF m 1 #[.val (.ref a0), .val (.ref a1)] [(.ref a0)]))
  refine own_by (fun _ k => XS.ifnullNo X0.here hx rfl (hb hby d8_1) rfl k) ?_
  show own_Go p e below _ (s₁.setTop (mkF m 4 #[.val (.ref a0), .val (.ref a1)] []))
  refine own_by (fun _ k => XS.aloadN X0.here hx rfl (hb hby d8_4) rfl rfl k) ?_
  show own_Go p e below _ (s₁.setTop (mkF m 5 #[.val (.ref a0), .val (.ref a1)] [(.ref a1)]))
  refine own_by (fun _ k => XS.ifnonnullYes X0.here hx rfl (pc0 := 5) (pc' := 19) rfl (hb hby d8_5) rfl (by decide) (by decide) k) ?_
  show own_Go p e below _ (s₁.setTop (mkF m 19 #[.val (.ref a0), .val (.ref a1)] []))
  refine own_by (fun _ k => XS.aloadN X0.here hx rfl (hb hby d8_19) rfl rfl k) ?_
  show own_Go p e below _ (s₁.setTop (mkF m 20 #[.val (.ref a0), .val (.ref a1)] [(.ref a0)]))
  obtain ⟨cl1, Ar1, qq1, S1, M1, H1, G1⟩ := id P_V_a0
  refine own_by (fun t k => X0.arraylength hx (by rw [e0]; exact Ar1.1) (State.isArrayOf_alike hZ.alike Ar1.2.1) (g := (mkF m 20 #[.val (.ref a0), .val (.ref a1)] [(.ref a0)])) rfl rfl (hb hby d8_20) _ k) ?_
  rw [len_of S1 M1]
  show own_Go p e below _ (s₁.setTop (mkF m 21 #[.val (.ref a0), .val (.ref a1)] [(.int n_a0)]))
  refine own_by (fun _ k => XS.aloadN X0.here hx rfl (hb hby d8_21) rfl rfl k) ?_
  show own_Go p e below _ (s₁.setTop (mkF m 22 #[.val (.ref a0), .val (.ref a1)] [(.ref a1), (.int n_a0)]))
  obtain ⟨cl2, Ar2, qq2, S2, M2, H2, G2⟩ := id P_V_a1
  refine own_by (fun t k => X0.arraylength hx (by rw [e0]; exact Ar2.1) (State.isArrayOf_alike hZ.alike Ar2.2.1) (g := (mkF m 22 #[.val (.ref a0), .val (.ref a1)] [(.ref a1), (.int n_a0)])) rfl rfl (hb hby d8_22) _ k) ?_
  rw [len_of S2 M2]
  show own_Go p e below _ (s₁.setTop (mkF m 23 #[.val (.ref a0), .val (.ref a1)] [(.int n_a1), (.int n_a0)]))
  by_cases c3 : n_a0 = n_a1
  · skip
    refine own_by (fun _ k => XS.icmpYes X0.here hx rfl (pc0 := 23) (pc' := 28) rfl (hb hby d8_23) rfl (teq c3).1 (by decide) (by decide) k) ?_
    show own_Go p e below _ (s₁.setTop (mkF m 28 #[.val (.ref a0), .val (.ref a1)] []))
    refine own_by (fun _ k => XS.aloadN X0.here hx rfl (hb hby d8_28) rfl rfl k) ?_
    show own_Go p e below _ (s₁.setTop (mkF m 29 #[.val (.ref a0), .val (.ref a1)] [(.ref a1)]))
    obtain ⟨cl4, Ar4, qq4, S4, M4, H4, G4⟩ := id P_V_a1
    refine own_by (fun t k => X0.arraylength hx (by rw [e0]; exact Ar4.1) (State.isArrayOf_alike hZ.alike Ar4.2.1) (g := (mkF m 29 #[.val (.ref a0), .val (.ref a1)] [(.ref a1)])) rfl rfl (hb hby d8_29) _ k) ?_
    rw [len_of S4 M4]
    show own_Go p e below _ (s₁.setTop (mkF m 30 #[.val (.ref a0), .val (.ref a1)] [(.int n_a1)]))
    by_cases c5 : (0 : Int32) < n_a1
    · skip
      refine own_by (fun _ k => XS.ifNo X0.here hx rfl (hb hby d8_30) rfl ((if0 _ _).trans (tlt c5).2.2.2) k) ?_
      show own_Go p e below _ (s₁.setTop (mkF m 33 #[.val (.ref a0), .val (.ref a1)] []))
      refine own_by (fun _ k => XS.aloadN X0.here hx rfl (hb hby d8_33) rfl rfl k) ?_
      show own_Go p e below _ (s₁.setTop (mkF m 34 #[.val (.ref a0), .val (.ref a1)] [(.ref a0)]))
      refine own_by (fun _ k => XS.iconst X0.here hx rfl (hb hby d8_34) k) ?_
      show own_Go p e below _ (s₁.setTop (mkF m 35 #[.val (.ref a0), .val (.ref a1)] [(.int (0 : Int32)), (.ref a0)]))
      obtain ⟨cl6, Ar6, qq6, S6, M6, H6, G6⟩ := id P_V_a0
      have hin6 : ¬ ((0 : Int32) < 0 ∨ cl6.slots.size ≤ ((0 : Int32)).toNatClampNeg) := inb_of S6 (ob_sbRR_1 n_a0 n_a1 c3 c5)
      refine own_by (fun t k => X0.baloadBytes hx (j := (0 : Int32)) (v := (.int (fn_a0 0))) (by rw [e0]; exact Ar6.1) (State.isArrayOf_alike hZ.alike Ar6.2.1) Ar6.2.2 hin6 (H6 _ (Nat.lt_of_not_le fun y => hin6 (Or.inr y))) (g := (mkF m 35 #[.val (.ref a0), .val (.ref a1)] [(.int (0 : Int32)), (.ref a0)])) rfl rfl (hb hby d8_35) _ k) ?_
      show own_Go p e below _ (s₁.setTop (mkF m 36 #[.val (.ref a0), .val (.ref a1)] [(.int (fn_a0 0))]))
      refine own_by (fun _ k => XS.aloadN X0.here hx rfl (hb hby d8_36) rfl rfl k) ?_
      show own_Go p e below _ (s₁.setTop (mkF m 37 #[.val (.ref a0), .val (.ref a1)] [(.ref a1), (.int (fn_a0 0))]))
      refine own_by (fun _ k => XS.iconst X0.here hx rfl (hb hby d8_37) k) ?_
      show own_Go p e below _ (s₁.setTop (mkF m 38 #[.val (.ref a0), .val (.ref a1)] [(.int (0 : Int32)), (.ref a1), (.int (fn_a0 0))]))
      obtain ⟨cl7, Ar7, qq7, S7, M7, H7, G7⟩ := id P_V_a1
      have hin7 : ¬ ((0 : Int32) < 0 ∨ cl7.slots.size ≤ ((0 : Int32)).toNatClampNeg) := inb_of S7 (ob_sbRR_2 n_a0 n_a1 c3 c5)
      refine own_by (fun t k => X0.baloadBytes hx (j := (0 : Int32)) (v := (.int (fn_a1 0))) (by rw [e0]; exact Ar7.1) (State.isArrayOf_alike hZ.alike Ar7.2.1) Ar7.2.2 hin7 (H7 _ (Nat.lt_of_not_le fun y => hin7 (Or.inr y))) (g := (mkF m 38 #[.val (.ref a0), .val (.ref a1)] [(.int (0 : Int32)), (.ref a1), (.int (fn_a0 0))])) rfl rfl (hb hby d8_38) _ k) ?_
      show own_Go p e below _ (s₁.setTop (mkF m 39 #[.val (.ref a0), .val (.ref a1)] [(.int (fn_a1 0)), (.int (fn_a0 0))]))
      by_cases c8 : (fn_a0 0) = (fn_a1 0)
      · skip
        refine own_by (fun _ k => XS.icmpYes X0.here hx rfl (pc0 := 39) (pc' := 44) rfl (hb hby d8_39) rfl (teq c8).1 (by decide) (by decide) k) ?_
        show own_Go p e below _ (s₁.setTop (mkF m 44 #[.val (.ref a0), .val (.ref a1)] []))
        refine own_by (fun _ k => XS.aloadN X0.here hx rfl (hb hby d8_44) rfl rfl k) ?_
        show own_Go p e below _ (s₁.setTop (mkF m 45 #[.val (.ref a0), .val (.ref a1)] [(.ref a1)]))
        obtain ⟨cl9, Ar9, qq9, S9, M9, H9, G9⟩ := id P_V_a1
        refine own_by (fun t k => X0.arraylength hx (by rw [e0]; exact Ar9.1) (State.isArrayOf_alike hZ.alike Ar9.2.1) (g := (mkF m 45 #[.val (.ref a0), .val (.ref a1)] [(.ref a1)])) rfl rfl (hb hby d8_45) _ k) ?_
        rw [len_of S9 M9]
        show own_Go p e below _ (s₁.setTop (mkF m 46 #[.val (.ref a0), .val (.ref a1)] [(.int n_a1)]))
        refine own_by (fun _ k => XS.iconst X0.here hx rfl (hb hby d8_46) k) ?_
        show own_Go p e below _ (s₁.setTop (mkF m 47 #[.val (.ref a0), .val (.ref a1)] [(.int (1 : Int32)), (.int n_a1)]))
        by_cases c10 : (1 : Int32) < n_a1
        · skip
          refine own_by (fun _ k => XS.icmpNo X0.here hx rfl (hb hby d8_47) rfl (tlt c10).2.2.2 k) ?_
          show own_Go p e below _ (s₁.setTop (mkF m 50 #[.val (.ref a0), .val (.ref a1)] []))
          refine own_by (fun _ k => XS.aloadN X0.here hx rfl (hb hby d8_50) rfl rfl k) ?_
          show own_Go p e below _ (s₁.setTop (mkF m 51 #[.val (.ref a0), .val (.ref a1)] [(.ref a0)]))
          refine own_by (fun _ k => XS.iconst X0.here hx rfl (hb hby d8_51) k) ?_
          show own_Go p e below _ (s₁.setTop (mkF m 52 #[.val (.ref a0), .val (.ref a1)] [(.int (1 : Int32)), (.ref a0)]))
          obtain ⟨cl11, Ar11, qq11, S11, M11, H11, G11⟩ := id P_V_a0
          have hin11 : ¬ ((1 : Int32) < 0 ∨ cl11.slots.size ≤ ((1 : Int32)).toNatClampNeg) := inb_of S11 (ob_sbRR_3 n_a0 fn_a0 n_a1 fn_a1 c3 c5 c8 c10)
          refine own_by (fun t k => X0.baloadBytes hx (j := (1 : Int32)) (v := (.int (fn_a0 1))) (by rw [e0]; exact Ar11.1) (State.isArrayOf_alike hZ.alike Ar11.2.1) Ar11.2.2 hin11 (H11 _ (Nat.lt_of_not_le fun y => hin11 (Or.inr y))) (g := (mkF m 52 #[.val (.ref a0), .val (.ref a1)] [(.int (1 : Int32)), (.ref a0)])) rfl rfl (hb hby d8_52) _ k) ?_
          show own_Go p e below _ (s₁.setTop (mkF m 53 #[.val (.ref a0), .val (.ref a1)] [(.int (fn_a0 1))]))
          refine own_by (fun _ k => XS.aloadN X0.here hx rfl (hb hby d8_53) rfl rfl k) ?_
          show own_Go p e below _ (s₁.setTop (mkF m 54 #[.val (.ref a0), .val (.ref a1)] [(.ref a1), (.int (fn_a0 1))]))
          refine own_by (fun _ k => XS.iconst X0.here hx rfl (hb hby d8_54) k) ?_
          show own_Go p e below _ (s₁.setTop (mkF m 55 #[.val (.ref a0), .val (.ref a1)] [(.int (1 : Int32)), (.ref a1), (.int (fn_a0 1))]))
          obtain ⟨cl12, Ar12, qq12, S12, M12, H12, G12⟩ := id P_V_a1
          have hin12 : ¬ ((1 : Int32) < 0 ∨ cl12.slots.size ≤ ((1 : Int32)).toNatClampNeg) := inb_of S12 (ob_sbRR_4 n_a0 fn_a0 n_a1 fn_a1 c3 c5 c8 c10)
          refine own_by (fun t k => X0.baloadBytes hx (j := (1 : Int32)) (v := (.int (fn_a1 1))) (by rw [e0]; exact Ar12.1) (State.isArrayOf_alike hZ.alike Ar12.2.1) Ar12.2.2 hin12 (H12 _ (Nat.lt_of_not_le fun y => hin12 (Or.inr y))) (g := (mkF m 55 #[.val (.ref a0), .val (.ref a1)] [(.int (1 : Int32)), (.ref a1), (.int (fn_a0 1))])) rfl rfl (hb hby d8_55) _ k) ?_
          show own_Go p e below _ (s₁.setTop (mkF m 56 #[.val (.ref a0), .val (.ref a1)] [(.int (fn_a1 1)), (.int (fn_a0 1))]))
          by_cases c13 : (fn_a0 1) = (fn_a1 1)
          · skip
            refine own_by (fun _ k => XS.icmpYes X0.here hx rfl (pc0 := 56) (pc' := 61) rfl (hb hby d8_56) rfl (teq c13).1 (by decide) (by decide) k) ?_
            show own_Go p e below _ (s₁.setTop (mkF m 61 #[.val (.ref a0), .val (.ref a1)] []))
            refine own_by (fun _ k => XS.aloadN X0.here hx rfl (hb hby d8_61) rfl rfl k) ?_
            show own_Go p e below _ (s₁.setTop (mkF m 62 #[.val (.ref a0), .val (.ref a1)] [(.ref a1)]))
            obtain ⟨cl14, Ar14, qq14, S14, M14, H14, G14⟩ := id P_V_a1
            refine own_by (fun t k => X0.arraylength hx (by rw [e0]; exact Ar14.1) (State.isArrayOf_alike hZ.alike Ar14.2.1) (g := (mkF m 62 #[.val (.ref a0), .val (.ref a1)] [(.ref a1)])) rfl rfl (hb hby d8_62) _ k) ?_
            rw [len_of S14 M14]
            show own_Go p e below _ (s₁.setTop (mkF m 63 #[.val (.ref a0), .val (.ref a1)] [(.int n_a1)]))
            refine own_by (fun _ k => XS.iconst X0.here hx rfl (hb hby d8_63) k) ?_
            show own_Go p e below _ (s₁.setTop (mkF m 64 #[.val (.ref a0), .val (.ref a1)] [(.int (2 : Int32)), (.int n_a1)]))
            by_cases c15 : (2 : Int32) < n_a1
            · skip
              refine own_by (fun _ k => XS.icmpNo X0.here hx rfl (hb hby d8_64) rfl (tlt c15).2.2.2 k) ?_
              show own_Go p e below _ (s₁.setTop (mkF m 67 #[.val (.ref a0), .val (.ref a1)] []))
              refine own_by (fun _ k => XS.aloadN X0.here hx rfl (hb hby d8_67) rfl rfl k) ?_
              show own_Go p e below _ (s₁.setTop (mkF m 68 #[.val (.ref a0), .val (.ref a1)] [(.ref a0)]))
              refine own_by (fun _ k => XS.iconst X0.here hx rfl (hb hby d8_68) k) ?_
              show own_Go p e below _ (s₁.setTop (mkF m 69 #[.val (.ref a0), .val (.ref a1)] [(.int (2 : Int32)), (.ref a0)]))
              obtain ⟨cl16, Ar16, qq16, S16, M16, H16, G16⟩ := id P_V_a0
              have hin16 : ¬ ((2 : Int32) < 0 ∨ cl16.slots.size ≤ ((2 : Int32)).toNatClampNeg) := inb_of S16 (ob_sbRR_5 n_a0 fn_a0 n_a1 fn_a1 c3 c5 c8 c10 c13 c15)
              refine own_by (fun t k => X0.baloadBytes hx (j := (2 : Int32)) (v := (.int (fn_a0 2))) (by rw [e0]; exact Ar16.1) (State.isArrayOf_alike hZ.alike Ar16.2.1) Ar16.2.2 hin16 (H16 _ (Nat.lt_of_not_le fun y => hin16 (Or.inr y))) (g := (mkF m 69 #[.val (.ref a0), .val (.ref a1)] [(.int (2 : Int32)), (.ref a0)])) rfl rfl (hb hby d8_69) _ k) ?_
              show own_Go p e below _ (s₁.setTop (mkF m 70 #[.val (.ref a0), .val (.ref a1)] [(.int (fn_a0 2))]))
              refine own_by (fun _ k => XS.aloadN X0.here hx rfl (hb hby d8_70) rfl rfl k) ?_
              show own_Go p e below _ (s₁.setTop (mkF m 71 #[.val (.ref a0), .val (.ref a1)] [(.ref a1), (.int (fn_a0 2))]))
              refine own_by (fun _ k => XS.iconst X0.here hx rfl (hb hby d8_71) k) ?_
              show own_Go p e below _ (s₁.setTop (mkF m 72 #[.val (.ref a0), .val (.ref a1)] [(.int (2 : Int32)), (.ref a1), (.int (fn_a0 2))]))
              obtain ⟨cl17, Ar17, qq17, S17, M17, H17, G17⟩ := id P_V_a1
              have hin17 : ¬ ((2 : Int32) < 0 ∨ cl17.slots.size ≤ ((2 : Int32)).toNatClampNeg) := inb_of S17 (ob_sbRR_6 n_a0 fn_a0 n_a1 fn_a1 c3 c5 c8 c10 c13 c15)
              refine own_by (fun t k => X0.baloadBytes hx (j := (2 : Int32)) (v := (.int (fn_a1 2))) (by rw [e0]; exact Ar17.1) (State.isArrayOf_alike hZ.alike Ar17.2.1) Ar17.2.2 hin17 (H17 _ (Nat.lt_of_not_le fun y => hin17 (Or.inr y))) (g := (mkF m 72 #[.val (.ref a0), .val (.ref a1)] [(.int (2 : Int32)), (.ref a1), (.int (fn_a0 2))])) rfl rfl (hb hby d8_72) _ k) ?_
              show own_Go p e below _ (s₁.setTop (mkF m 73 #[.val (.ref a0), .val (.ref a1)] [(.int (fn_a1 2)), (.int (fn_a0 2))]))
              by_cases c18 : (fn_a0 2) = (fn_a1 2)
              · skip
                refine own_by (fun _ k => XS.icmpYes X0.here hx rfl (pc0 := 73) (pc' := 78) rfl (hb hby d8_73) rfl (teq c18).1 (by decide) (by decide) k) ?_
                show own_Go p e below _ (s₁.setTop (mkF m 78 #[.val (.ref a0), .val (.ref a1)] []))
                refine own_by (fun _ k => XS.iconst X0.here hx rfl (hb hby d8_78) k) ?_
                show own_Go p e below _ (s₁.setTop (mkF m 79 #[.val (.ref a0), .val (.ref a1)] [(.int (1 : Int32))]))
                exact own_retN X0 hx (t := .boolean) Bd.returns (by simp) (hb hby d8_79) hlk e0 ⟨_, rfl, N0, rfl, (ob_sbRR_7 n_a0 fn_a0 n_a1 fn_a1 c3 c5 c8 c10 c13 c15 c18)⟩ (by decide) (by decide)
              · skip
                refine own_by (fun _ k => XS.icmpNo X0.here hx rfl (hb hby d8_73) rfl (feq c18).1 k) ?_
                show own_Go p e below _ (s₁.setTop (mkF m 76 #[.val (.ref a0), .val (.ref a1)] []))
                refine own_by (fun _ k => XS.iconst X0.here hx rfl (hb hby d8_76) k) ?_
                show own_Go p e below _ (s₁.setTop (mkF m 77 #[.val (.ref a0), .val (.ref a1)] [(.int (0 : Int32))]))
                exact own_retN X0 hx (t := .boolean) Bd.returns (by simp) (hb hby d8_77) hlk e0 ⟨_, rfl, N0, rfl, (ob_sbRR_8 n_a0 fn_a0 n_a1 fn_a1 c3 c5 c8 c10 c13 c15 c18)⟩ (by decide) (by decide)
            · skip
              refine own_by (fun _ k => XS.icmpYes X0.here hx rfl (pc0 := 64) (pc' := 78) rfl (hb hby d8_64) rfl (flt c15).2.2.2 (by decide) (by decide) k) ?_
              show own_Go p e below _ (s₁.setTop (mkF m 78 #[.val (.ref a0), .val (.ref a1)] []))
              refine own_by (fun _ k => XS.iconst X0.here hx rfl (hb hby d8_78) k) ?_
              show own_Go p e below _ (s₁.setTop (mkF m 79 #[.val (.ref a0), .val (.ref a1)] [(.int (1 : Int32))]))
              exact own_retN X0 hx (t := .boolean) Bd.returns (by simp) (hb hby d8_79) hlk e0 ⟨_, rfl, N0, rfl, (ob_sbRR_9 n_a0 fn_a0 n_a1 fn_a1 c3 c5 c8 c10 c13 c15)⟩ (by decide) (by decide)
          · skip
            refine own_by (fun _ k => XS.icmpNo X0.here hx rfl (hb hby d8_56) rfl (feq c13).1 k) ?_
            show own_Go p e below _ (s₁.setTop (mkF m 59 #[.val (.ref a0), .val (.ref a1)] []))
            refine own_by (fun _ k => XS.iconst X0.here hx rfl (hb hby d8_59) k) ?_
            show own_Go p e below _ (s₁.setTop (mkF m 60 #[.val (.ref a0), .val (.ref a1)] [(.int (0 : Int32))]))
            exact own_retN X0 hx (t := .boolean) Bd.returns (by simp) (hb hby d8_60) hlk e0 ⟨_, rfl, N0, rfl, (ob_sbRR_10 n_a0 fn_a0 n_a1 fn_a1 c3 c5 c8 c10 c13)⟩ (by decide) (by decide)
        · skip
          refine own_by (fun _ k => XS.icmpYes X0.here hx rfl (pc0 := 47) (pc' := 61) rfl (hb hby d8_47) rfl (flt c10).2.2.2 (by decide) (by decide) k) ?_
          show own_Go p e below _ (s₁.setTop (mkF m 61 #[.val (.ref a0), .val (.ref a1)] []))
          refine own_by (fun _ k => XS.aloadN X0.here hx rfl (hb hby d8_61) rfl rfl k) ?_
          show own_Go p e below _ (s₁.setTop (mkF m 62 #[.val (.ref a0), .val (.ref a1)] [(.ref a1)]))
          obtain ⟨cl19, Ar19, qq19, S19, M19, H19, G19⟩ := id P_V_a1
          refine own_by (fun t k => X0.arraylength hx (by rw [e0]; exact Ar19.1) (State.isArrayOf_alike hZ.alike Ar19.2.1) (g := (mkF m 62 #[.val (.ref a0), .val (.ref a1)] [(.ref a1)])) rfl rfl (hb hby d8_62) _ k) ?_
          rw [len_of S19 M19]
          show own_Go p e below _ (s₁.setTop (mkF m 63 #[.val (.ref a0), .val (.ref a1)] [(.int n_a1)]))
          refine own_by (fun _ k => XS.iconst X0.here hx rfl (hb hby d8_63) k) ?_
          show own_Go p e below _ (s₁.setTop (mkF m 64 #[.val (.ref a0), .val (.ref a1)] [(.int (2 : Int32)), (.int n_a1)]))
          by_cases c20 : (2 : Int32) < n_a1
          · skip
            refine own_by (fun _ k => XS.icmpNo X0.here hx rfl (hb hby d8_64) rfl (tlt c20).2.2.2 k) ?_
            show own_Go p e below _ (s₁.setTop (mkF m 67 #[.val (.ref a0), .val (.ref a1)] []))
            refine own_by (fun _ k => XS.aloadN X0.here hx rfl (hb hby d8_67) rfl rfl k) ?_
            show own_Go p e below _ (s₁.setTop (mkF m 68 #[.val (.ref a0), .val (.ref a1)] [(.ref a0)]))
            refine own_by (fun _ k => XS.iconst X0.here hx rfl (hb hby d8_68) k) ?_
            show own_Go p e below _ (s₁.setTop (mkF m 69 #[.val (.ref a0), .val (.ref a1)] [(.int (2 : Int32)), (.ref a0)]))
            obtain ⟨cl21, Ar21, qq21, S21, M21, H21, G21⟩ := id P_V_a0
            have hin21 : ¬ ((2 : Int32) < 0 ∨ cl21.slots.size ≤ ((2 : Int32)).toNatClampNeg) := inb_of S21 (ob_sbRR_11 n_a0 fn_a0 n_a1 fn_a1 c3 c5 c8 c10 c20)
            refine own_by (fun t k => X0.baloadBytes hx (j := (2 : Int32)) (v := (.int (fn_a0 2))) (by rw [e0]; exact Ar21.1) (State.isArrayOf_alike hZ.alike Ar21.2.1) Ar21.2.2 hin21 (H21 _ (Nat.lt_of_not_le fun y => hin21 (Or.inr y))) (g := (mkF m 69 #[.val (.ref a0), .val (.ref a1)] [(.int (2 : Int32)), (.ref a0)])) rfl rfl (hb hby d8_69) _ k) ?_
            show own_Go p e below _ (s₁.setTop (mkF m 70 #[.val (.ref a0), .val (.ref a1)] [(.int (fn_a0 2))]))
            refine own_by (fun _ k => XS.aloadN X0.here hx rfl (hb hby d8_70) rfl rfl k) ?_
            show own_Go p e below _ (s₁.setTop (mkF m 71 #[.val (.ref a0), .val (.ref a1)] [(.ref a1), (.int (fn_a0 2))]))
            refine own_by (fun _ k => XS.iconst X0.here hx rfl (hb hby d8_71) k) ?_
            show own_Go p e below _ (s₁.setTop (mkF m 72 #[.val (.ref a0), .val (.ref a1)] [(.int (2 : Int32)), (.ref a1), (.int (fn_a0 2))]))
            obtain ⟨cl22, Ar22, qq22, S22, M22, H22, G22⟩ := id P_V_a1
            have hin22 : ¬ ((2 : Int32) < 0 ∨ cl22.slots.size ≤ ((2 : Int32)).toNatClampNeg) := inb_of S22 (ob_sbRR_12 n_a0 fn_a0 n_a1 fn_a1 c3 c5 c8 c10 c20)
            refine own_by (fun t k => X0.baloadBytes hx (j := (2 : Int32)) (v := (.int (fn_a1 2))) (by rw [e0]; exact Ar22.1) (State.isArrayOf_alike hZ.alike Ar22.2.1) Ar22.2.2 hin22 (H22 _ (Nat.lt_of_not_le fun y => hin22 (Or.inr y))) (g := (mkF m 72 #[.val (.ref a0), .val (.ref a1)] [(.int (2 : Int32)), (.ref a1), (.int (fn_a0 2))])) rfl rfl (hb hby d8_72) _ k) ?_
            show own_Go p e below _ (s₁.setTop (mkF m 73 #[.val (.ref a0), .val (.ref a1)] [(.int (fn_a1 2)), (.int (fn_a0 2))]))
            by_cases c23 : (fn_a0 2) = (fn_a1 2)
            · skip
              refine own_by (fun _ k => XS.icmpYes X0.here hx rfl (pc0 := 73) (pc' := 78) rfl (hb hby d8_73) rfl (teq c23).1 (by decide) (by decide) k) ?_
              show own_Go p e below _ (s₁.setTop (mkF m 78 #[.val (.ref a0), .val (.ref a1)] []))
              refine own_by (fun _ k => XS.iconst X0.here hx rfl (hb hby d8_78) k) ?_
              show own_Go p e below _ (s₁.setTop (mkF m 79 #[.val (.ref a0), .val (.ref a1)] [(.int (1 : Int32))]))
              exact own_retN X0 hx (t := .boolean) Bd.returns (by simp) (hb hby d8_79) hlk e0 ⟨_, rfl, N0, rfl, (ob_sbRR_13 n_a0 fn_a0 n_a1 fn_a1 c3 c5 c8 c10 c20 c23)⟩ (by decide) (by decide)
            · skip
              refine own_by (fun _ k => XS.icmpNo X0.here hx rfl (hb hby d8_73) rfl (feq c23).1 k) ?_
              show own_Go p e below _ (s₁.setTop (mkF m 76 #[.val (.ref a0), .val (.ref a1)] []))
              refine own_by (fun _ k => XS.iconst X0.here hx rfl (hb hby d8_76) k) ?_
              show own_Go p e below _ (s₁.setTop (mkF m 77 #[.val (.ref a0), .val (.ref a1)] [(.int (0 : Int32))]))
              exact own_retN X0 hx (t := .boolean) Bd.returns (by simp) (hb hby d8_77) hlk e0 ⟨_, rfl, N0, rfl, (ob_sbRR_14 n_a0 fn_a0 n_a1 fn_a1 c3 c5 c8 c10 c20 c23)⟩ (by decide) (by decide)
          · skip
            refine own_by (fun _ k => XS.icmpYes X0.here hx rfl (pc0 := 64) (pc' := 78) rfl (hb hby d8_64) rfl (flt c20).2.2.2 (by decide) (by decide) k) ?_
            show own_Go p e below _ (s₁.setTop (mkF m 78 #[.val (.ref a0), .val (.ref a1)] []))
            refine own_by (fun _ k => XS.iconst X0.here hx rfl (hb hby d8_78) k) ?_
            show own_Go p e below _ (s₁.setTop (mkF m 79 #[.val (.ref a0), .val (.ref a1)] [(.int (1 : Int32))]))
            exact own_retN X0 hx (t := .boolean) Bd.returns (by simp) (hb hby d8_79) hlk e0 ⟨_, rfl, N0, rfl, (ob_sbRR_15 n_a0 fn_a0 n_a1 fn_a1 c3 c5 c8 c10 c20)⟩ (by decide) (by decide)
      · skip
        refine own_by (fun _ k => XS.icmpNo X0.here hx rfl (hb hby d8_39) rfl (feq c8).1 k) ?_
        show own_Go p e below _ (s₁.setTop (mkF m 42 #[.val (.ref a0), .val (.ref a1)] []))
        refine own_by (fun _ k => XS.iconst X0.here hx rfl (hb hby d8_42) k) ?_
        show own_Go p e below _ (s₁.setTop (mkF m 43 #[.val (.ref a0), .val (.ref a1)] [(.int (0 : Int32))]))
        exact own_retN X0 hx (t := .boolean) Bd.returns (by simp) (hb hby d8_43) hlk e0 ⟨_, rfl, N0, rfl, (ob_sbRR_16 n_a0 fn_a0 n_a1 fn_a1 c3 c5 c8)⟩ (by decide) (by decide)
    · skip
      refine own_by (fun _ k => XS.ifYes X0.here hx rfl (pc0 := 30) (pc' := 44) rfl (hb hby d8_30) rfl ((if0 _ _).trans (flt c5).2.2.2) (by decide) (by decide) k) ?_
      show own_Go p e below _ (s₁.setTop (mkF m 44 #[.val (.ref a0), .val (.ref a1)] []))
      refine own_by (fun _ k => XS.aloadN X0.here hx rfl (hb hby d8_44) rfl rfl k) ?_
      show own_Go p e below _ (s₁.setTop (mkF m 45 #[.val (.ref a0), .val (.ref a1)] [(.ref a1)]))
      obtain ⟨cl24, Ar24, qq24, S24, M24, H24, G24⟩ := id P_V_a1
      refine own_by (fun t k => X0.arraylength hx (by rw [e0]; exact Ar24.1) (State.isArrayOf_alike hZ.alike Ar24.2.1) (g := (mkF m 45 #[.val (.ref a0), .val (.ref a1)] [(.ref a1)])) rfl rfl (hb hby d8_45) _ k) ?_
      rw [len_of S24 M24]
      show own_Go p e below _ (s₁.setTop (mkF m 46 #[.val (.ref a0), .val (.ref a1)] [(.int n_a1)]))
      refine own_by (fun _ k => XS.iconst X0.here hx rfl (hb hby d8_46) k) ?_
      show own_Go p e below _ (s₁.setTop (mkF m 47 #[.val (.ref a0), .val (.ref a1)] [(.int (1 : Int32)), (.int n_a1)]))
      by_cases c25 : (1 : Int32) < n_a1
      · skip
        refine own_by (fun _ k => XS.icmpNo X0.here hx rfl (hb hby d8_47) rfl (tlt c25).2.2.2 k) ?_
        show own_Go p e below _ (s₁.setTop (mkF m 50 #[.val (.ref a0), .val (.ref a1)] []))
        refine own_by (fun _ k => XS.aloadN X0.here hx rfl (hb hby d8_50) rfl rfl k) ?_
        show own_Go p e below _ (s₁.setTop (mkF m 51 #[.val (.ref a0), .val (.ref a1)] [(.ref a0)]))
        refine own_by (fun _ k => XS.iconst X0.here hx rfl (hb hby d8_51) k) ?_
        show own_Go p e below _ (s₁.setTop (mkF m 52 #[.val (.ref a0), .val (.ref a1)] [(.int (1 : Int32)), (.ref a0)]))
        obtain ⟨cl26, Ar26, qq26, S26, M26, H26, G26⟩ := id P_V_a0
        have hin26 : ¬ ((1 : Int32) < 0 ∨ cl26.slots.size ≤ ((1 : Int32)).toNatClampNeg) := inb_of S26 (ob_sbRR_17 n_a0 n_a1 c3 c5 c25)
        refine own_by (fun t k => X0.baloadBytes hx (j := (1 : Int32)) (v := (.int (fn_a0 1))) (by rw [e0]; exact Ar26.1) (State.isArrayOf_alike hZ.alike Ar26.2.1) Ar26.2.2 hin26 (H26 _ (Nat.lt_of_not_le fun y => hin26 (Or.inr y))) (g := (mkF m 52 #[.val (.ref a0), .val (.ref a1)] [(.int (1 : Int32)), (.ref a0)])) rfl rfl (hb hby d8_52) _ k) ?_
        show own_Go p e below _ (s₁.setTop (mkF m 53 #[.val (.ref a0), .val (.ref a1)] [(.int (fn_a0 1))]))
        refine own_by (fun _ k => XS.aloadN X0.here hx rfl (hb hby d8_53) rfl rfl k) ?_
        show own_Go p e below _ (s₁.setTop (mkF m 54 #[.val (.ref a0), .val (.ref a1)] [(.ref a1), (.int (fn_a0 1))]))
        refine own_by (fun _ k => XS.iconst X0.here hx rfl (hb hby d8_54) k) ?_
        show own_Go p e below _ (s₁.setTop (mkF m 55 #[.val (.ref a0), .val (.ref a1)] [(.int (1 : Int32)), (.ref a1), (.int (fn_a0 1))]))
        obtain ⟨cl27, Ar27, qq27, S27, M27, H27, G27⟩ := id P_V_a1
        have hin27 : ¬ ((1 : Int32) < 0 ∨ cl27.slots.size ≤ ((1 : Int32)).toNatClampNeg) := inb_of S27 (ob_sbRR_18 n_a0 n_a1 c3 c5 c25)
        refine own_by (fun t k => X0.baloadBytes hx (j := (1 : Int32)) (v := (.int (fn_a1 1))) (by rw [e0]; exact Ar27.1) (State.isArrayOf_alike hZ.alike Ar27.2.1) Ar27.2.2 hin27 (H27 _ (Nat.lt_of_not_le fun y => hin27 (Or.inr y))) (g := (mkF m 55 #[.val (.ref a0), .val (.ref a1)] [(.int (1 : Int32)), (.ref a1), (.int (fn_a0 1))])) rfl rfl (hb hby d8_55) _ k) ?_
        show own_Go p e below _ (s₁.setTop (mkF m 56 #[.val (.ref a0), .val (.ref a1)] [(.int (fn_a1 1)), (.int (fn_a0 1))]))
        by_cases c28 : (fn_a0 1) = (fn_a1 1)
        · skip
          refine own_by (fun _ k => XS.icmpYes X0.here hx rfl (pc0 := 56) (pc' := 61) rfl (hb hby d8_56) rfl (teq c28).1 (by decide) (by decide) k) ?_
          show own_Go p e below _ (s₁.setTop (mkF m 61 #[.val (.ref a0), .val (.ref a1)] []))
          refine own_by (fun _ k => XS.aloadN X0.here hx rfl (hb hby d8_61) rfl rfl k) ?_
          show own_Go p e below _ (s₁.setTop (mkF m 62 #[.val (.ref a0), .val (.ref a1)] [(.ref a1)]))
          obtain ⟨cl29, Ar29, qq29, S29, M29, H29, G29⟩ := id P_V_a1
          refine own_by (fun t k => X0.arraylength hx (by rw [e0]; exact Ar29.1) (State.isArrayOf_alike hZ.alike Ar29.2.1) (g := (mkF m 62 #[.val (.ref a0), .val (.ref a1)] [(.ref a1)])) rfl rfl (hb hby d8_62) _ k) ?_
          rw [len_of S29 M29]
          show own_Go p e below _ (s₁.setTop (mkF m 63 #[.val (.ref a0), .val (.ref a1)] [(.int n_a1)]))
          refine own_by (fun _ k => XS.iconst X0.here hx rfl (hb hby d8_63) k) ?_
          show own_Go p e below _ (s₁.setTop (mkF m 64 #[.val (.ref a0), .val (.ref a1)] [(.int (2 : Int32)), (.int n_a1)]))
          by_cases c30 : (2 : Int32) < n_a1
          · skip
            refine own_by (fun _ k => XS.icmpNo X0.here hx rfl (hb hby d8_64) rfl (tlt c30).2.2.2 k) ?_
            show own_Go p e below _ (s₁.setTop (mkF m 67 #[.val (.ref a0), .val (.ref a1)] []))
            refine own_by (fun _ k => XS.aloadN X0.here hx rfl (hb hby d8_67) rfl rfl k) ?_
            show own_Go p e below _ (s₁.setTop (mkF m 68 #[.val (.ref a0), .val (.ref a1)] [(.ref a0)]))
            refine own_by (fun _ k => XS.iconst X0.here hx rfl (hb hby d8_68) k) ?_
            show own_Go p e below _ (s₁.setTop (mkF m 69 #[.val (.ref a0), .val (.ref a1)] [(.int (2 : Int32)), (.ref a0)]))
            obtain ⟨cl31, Ar31, qq31, S31, M31, H31, G31⟩ := id P_V_a0
            have hin31 : ¬ ((2 : Int32) < 0 ∨ cl31.slots.size ≤ ((2 : Int32)).toNatClampNeg) := inb_of S31 (ob_sbRR_19 n_a0 fn_a0 n_a1 fn_a1 c3 c5 c25 c28 c30)
            refine own_by (fun t k => X0.baloadBytes hx (j := (2 : Int32)) (v := (.int (fn_a0 2))) (by rw [e0]; exact Ar31.1) (State.isArrayOf_alike hZ.alike Ar31.2.1) Ar31.2.2 hin31 (H31 _ (Nat.lt_of_not_le fun y => hin31 (Or.inr y))) (g := (mkF m 69 #[.val (.ref a0), .val (.ref a1)] [(.int (2 : Int32)), (.ref a0)])) rfl rfl (hb hby d8_69) _ k) ?_
            show own_Go p e below _ (s₁.setTop (mkF m 70 #[.val (.ref a0), .val (.ref a1)] [(.int (fn_a0 2))]))
            refine own_by (fun _ k => XS.aloadN X0.here hx rfl (hb hby d8_70) rfl rfl k) ?_
            show own_Go p e below _ (s₁.setTop (mkF m 71 #[.val (.ref a0), .val (.ref a1)] [(.ref a1), (.int (fn_a0 2))]))
            refine own_by (fun _ k => XS.iconst X0.here hx rfl (hb hby d8_71) k) ?_
            show own_Go p e below _ (s₁.setTop (mkF m 72 #[.val (.ref a0), .val (.ref a1)] [(.int (2 : Int32)), (.ref a1), (.int (fn_a0 2))]))
            obtain ⟨cl32, Ar32, qq32, S32, M32, H32, G32⟩ := id P_V_a1
            have hin32 : ¬ ((2 : Int32) < 0 ∨ cl32.slots.size ≤ ((2 : Int32)).toNatClampNeg) := inb_of S32 (ob_sbRR_20 n_a0 fn_a0 n_a1 fn_a1 c3 c5 c25 c28 c30)
            refine own_by (fun t k => X0.baloadBytes hx (j := (2 : Int32)) (v := (.int (fn_a1 2))) (by rw [e0]; exact Ar32.1) (State.isArrayOf_alike hZ.alike Ar32.2.1) Ar32.2.2 hin32 (H32 _ (Nat.lt_of_not_le fun y => hin32 (Or.inr y))) (g := (mkF m 72 #[.val (.ref a0), .val (.ref a1)] [(.int (2 : Int32)), (.ref a1), (.int (fn_a0 2))])) rfl rfl (hb hby d8_72) _ k) ?_
            show own_Go p e below _ (s₁.setTop (mkF m 73 #[.val (.ref a0), .val (.ref a1)] [(.int (fn_a1 2)), (.int (fn_a0 2))]))
            by_cases c33 : (fn_a0 2) = (fn_a1 2)
            · skip
              refine own_by (fun _ k => XS.icmpYes X0.here hx rfl (pc0 := 73) (pc' := 78) rfl (hb hby d8_73) rfl (teq c33).1 (by decide) (by decide) k) ?_
              show own_Go p e below _ (s₁.setTop (mkF m 78 #[.val (.ref a0), .val (.ref a1)] []))
              refine own_by (fun _ k => XS.iconst X0.here hx rfl (hb hby d8_78) k) ?_
              show own_Go p e below _ (s₁.setTop (mkF m 79 #[.val (.ref a0), .val (.ref a1)] [(.int (1 : Int32))]))
              exact own_retN X0 hx (t := .boolean) Bd.returns (by simp) (hb hby d8_79) hlk e0 ⟨_, rfl, N0, rfl, (ob_sbRR_21 n_a0 fn_a0 n_a1 fn_a1 c3 c5 c25 c28 c30 c33)⟩ (by decide) (by decide)
            · skip
              refine own_by (fun _ k => XS.icmpNo X0.here hx rfl (hb hby d8_73) rfl (feq c33).1 k) ?_
              show own_Go p e below _ (s₁.setTop (mkF m 76 #[.val (.ref a0), .val (.ref a1)] []))
              refine own_by (fun _ k => XS.iconst X0.here hx rfl (hb hby d8_76) k) ?_
              show own_Go p e below _ (s₁.setTop (mkF m 77 #[.val (.ref a0), .val (.ref a1)] [(.int (0 : Int32))]))
              exact own_retN X0 hx (t := .boolean) Bd.returns (by simp) (hb hby d8_77) hlk e0 ⟨_, rfl, N0, rfl, (ob_sbRR_22 n_a0 fn_a0 n_a1 fn_a1 c3 c5 c25 c28 c30 c33)⟩ (by decide) (by decide)
          · skip
            refine own_by (fun _ k => XS.icmpYes X0.here hx rfl (pc0 := 64) (pc' := 78) rfl (hb hby d8_64) rfl (flt c30).2.2.2 (by decide) (by decide) k) ?_
            show own_Go p e below _ (s₁.setTop (mkF m 78 #[.val (.ref a0), .val (.ref a1)] []))
            refine own_by (fun _ k => XS.iconst X0.here hx rfl (hb hby d8_78) k) ?_
            show own_Go p e below _ (s₁.setTop (mkF m 79 #[.val (.ref a0), .val (.ref a1)] [(.int (1 : Int32))]))
            exact own_retN X0 hx (t := .boolean) Bd.returns (by simp) (hb hby d8_79) hlk e0 ⟨_, rfl, N0, rfl, (ob_sbRR_23 n_a0 fn_a0 n_a1 fn_a1 c3 c5 c25 c28 c30)⟩ (by decide) (by decide)
        · skip
          refine own_by (fun _ k => XS.icmpNo X0.here hx rfl (hb hby d8_56) rfl (feq c28).1 k) ?_
          show own_Go p e below _ (s₁.setTop (mkF m 59 #[.val (.ref a0), .val (.ref a1)] []))
          refine own_by (fun _ k => XS.iconst X0.here hx rfl (hb hby d8_59) k) ?_
          show own_Go p e below _ (s₁.setTop (mkF m 60 #[.val (.ref a0), .val (.ref a1)] [(.int (0 : Int32))]))
          exact own_retN X0 hx (t := .boolean) Bd.returns (by simp) (hb hby d8_60) hlk e0 ⟨_, rfl, N0, rfl, (ob_sbRR_24 n_a0 fn_a0 n_a1 fn_a1 c3 c5 c25 c28)⟩ (by decide) (by decide)
      · skip
        refine own_by (fun _ k => XS.icmpYes X0.here hx rfl (pc0 := 47) (pc' := 61) rfl (hb hby d8_47) rfl (flt c25).2.2.2 (by decide) (by decide) k) ?_
        show own_Go p e below _ (s₁.setTop (mkF m 61 #[.val (.ref a0), .val (.ref a1)] []))
        refine own_by (fun _ k => XS.aloadN X0.here hx rfl (hb hby d8_61) rfl rfl k) ?_
        show own_Go p e below _ (s₁.setTop (mkF m 62 #[.val (.ref a0), .val (.ref a1)] [(.ref a1)]))
        obtain ⟨cl34, Ar34, qq34, S34, M34, H34, G34⟩ := id P_V_a1
        refine own_by (fun t k => X0.arraylength hx (by rw [e0]; exact Ar34.1) (State.isArrayOf_alike hZ.alike Ar34.2.1) (g := (mkF m 62 #[.val (.ref a0), .val (.ref a1)] [(.ref a1)])) rfl rfl (hb hby d8_62) _ k) ?_
        rw [len_of S34 M34]
        show own_Go p e below _ (s₁.setTop (mkF m 63 #[.val (.ref a0), .val (.ref a1)] [(.int n_a1)]))
        refine own_by (fun _ k => XS.iconst X0.here hx rfl (hb hby d8_63) k) ?_
        show own_Go p e below _ (s₁.setTop (mkF m 64 #[.val (.ref a0), .val (.ref a1)] [(.int (2 : Int32)), (.int n_a1)]))
        by_cases c35 : (2 : Int32) < n_a1
        · skip
          refine own_by (fun _ k => XS.icmpNo X0.here hx rfl (hb hby d8_64) rfl (tlt c35).2.2.2 k) ?_
          show own_Go p e below _ (s₁.setTop (mkF m 67 #[.val (.ref a0), .val (.ref a1)] []))
          refine own_by (fun _ k => XS.aloadN X0.here hx rfl (hb hby d8_67) rfl rfl k) ?_
          show own_Go p e below _ (s₁.setTop (mkF m 68 #[.val (.ref a0), .val (.ref a1)] [(.ref a0)]))
          refine own_by (fun _ k => XS.iconst X0.here hx rfl (hb hby d8_68) k) ?_
          show own_Go p e below _ (s₁.setTop (mkF m 69 #[.val (.ref a0), .val (.ref a1)] [(.int (2 : Int32)), (.ref a0)]))
          obtain ⟨cl36, Ar36, qq36, S36, M36, H36, G36⟩ := id P_V_a0
          have hin36 : ¬ ((2 : Int32) < 0 ∨ cl36.slots.size ≤ ((2 : Int32)).toNatClampNeg) := inb_of S36 (ob_sbRR_25 n_a0 n_a1 c3 c5 c25 c35)
          refine own_by (fun t k => X0.baloadBytes hx (j := (2 : Int32)) (v := (.int (fn_a0 2))) (by rw [e0]; exact Ar36.1) (State.isArrayOf_alike hZ.alike Ar36.2.1) Ar36.2.2 hin36 (H36 _ (Nat.lt_of_not_le fun y => hin36 (Or.inr y))) (g := (mkF m 69 #[.val (.ref a0), .val (.ref a1)] [(.int (2 : Int32)), (.ref a0)])) rfl rfl (hb hby d8_69) _ k) ?_
          show own_Go p e below _ (s₁.setTop (mkF m 70 #[.val (.ref a0), .val (.ref a1)] [(.int (fn_a0 2))]))
          refine own_by (fun _ k => XS.aloadN X0.here hx rfl (hb hby d8_70) rfl rfl k) ?_
          show own_Go p e below _ (s₁.setTop (mkF m 71 #[.val (.ref a0), .val (.ref a1)] [(.ref a1), (.int (fn_a0 2))]))
          refine own_by (fun _ k => XS.iconst X0.here hx rfl (hb hby d8_71) k) ?_
          show own_Go p e below _ (s₁.setTop (mkF m 72 #[.val (.ref a0), .val (.ref a1)] [(.int (2 : Int32)), (.ref a1), (.int (fn_a0 2))]))
          obtain ⟨cl37, Ar37, qq37, S37, M37, H37, G37⟩ := id P_V_a1
          have hin37 : ¬ ((2 : Int32) < 0 ∨ cl37.slots.size ≤ ((2 : Int32)).toNatClampNeg) := inb_of S37 (ob_sbRR_26 n_a0 n_a1 c3 c5 c25 c35)
          refine own_by (fun t k => X0.baloadBytes hx (j := (2 : Int32)) (v := (.int (fn_a1 2))) (by rw [e0]; exact Ar37.1) (State.isArrayOf_alike hZ.alike Ar37.2.1) Ar37.2.2 hin37 (H37 _ (Nat.lt_of_not_le fun y => hin37 (Or.inr y))) (g := (mkF m 72 #[.val (.ref a0), .val (.ref a1)] [(.int (2 : Int32)), (.ref a1), (.int (fn_a0 2))])) rfl rfl (hb hby d8_72) _ k) ?_
          show own_Go p e below _ (s₁.setTop (mkF m 73 #[.val (.ref a0), .val (.ref a1)] [(.int (fn_a1 2)), (.int (fn_a0 2))]))
          by_cases c38 : (fn_a0 2) = (fn_a1 2)
          · skip
            refine own_by (fun _ k => XS.icmpYes X0.here hx rfl (pc0 := 73) (pc' := 78) rfl (hb hby d8_73) rfl (teq c38).1 (by decide) (by decide) k) ?_
            show own_Go p e below _ (s₁.setTop (mkF m 78 #[.val (.ref a0), .val (.ref a1)] []))
            refine own_by (fun _ k => XS.iconst X0.here hx rfl (hb hby d8_78) k) ?_
            show own_Go p e below _ (s₁.setTop (mkF m 79 #[.val (.ref a0), .val (.ref a1)] [(.int (1 : Int32))]))
            exact own_retN X0 hx (t := .boolean) Bd.returns (by simp) (hb hby d8_79) hlk e0 ⟨_, rfl, N0, rfl, (ob_sbRR_27 n_a0 fn_a0 n_a1 fn_a1 c3 c5 c25 c35 c38)⟩ (by decide) (by decide)
          · skip
            refine own_by (fun _ k => XS.icmpNo X0.here hx rfl (hb hby d8_73) rfl (feq c38).1 k) ?_
            show own_Go p e below _ (s₁.setTop (mkF m 76 #[.val (.ref a0), .val (.ref a1)] []))
            refine own_by (fun _ k => XS.iconst X0.here hx rfl (hb hby d8_76) k) ?_
            show own_Go p e below _ (s₁.setTop (mkF m 77 #[.val (.ref a0), .val (.ref a1)] [(.int (0 : Int32))]))
            exact own_retN X0 hx (t := .boolean) Bd.returns (by simp) (hb hby d8_77) hlk e0 ⟨_, rfl, N0, rfl, (ob_sbRR_28 n_a0 fn_a0 n_a1 fn_a1 c3 c5 c25 c35 c38)⟩ (by decide) (by decide)
        · skip
          refine own_by (fun _ k => XS.icmpYes X0.here hx rfl (pc0 := 64) (pc' := 78) rfl (hb hby d8_64) rfl (flt c35).2.2.2 (by decide) (by decide) k) ?_
          show own_Go p e below _ (s₁.setTop (mkF m 78 #[.val (.ref a0), .val (.ref a1)] []))
          refine own_by (fun _ k => XS.iconst X0.here hx rfl (hb hby d8_78) k) ?_
          show own_Go p e below _ (s₁.setTop (mkF m 79 #[.val (.ref a0), .val (.ref a1)] [(.int (1 : Int32))]))
          exact own_retN X0 hx (t := .boolean) Bd.returns (by simp) (hb hby d8_79) hlk e0 ⟨_, rfl, N0, rfl, (ob_sbRR_29 n_a0 fn_a0 n_a1 fn_a1 c3 c5 c25 c35)⟩ (by decide) (by decide)
  · skip
    refine own_by (fun _ k => XS.icmpNo X0.here hx rfl (hb hby d8_23) rfl (feq c3).1 k) ?_
    show own_Go p e below _ (s₁.setTop (mkF m 26 #[.val (.ref a0), .val (.ref a1)] []))
    refine own_by (fun _ k => XS.iconst X0.here hx rfl (hb hby d8_26) k) ?_
    show own_Go p e below _ (s₁.setTop (mkF m 27 #[.val (.ref a0), .val (.ref a1)] [(.int (0 : Int32))]))
    exact own_retN X0 hx (t := .boolean) Bd.returns (by simp) (hb hby d8_27) hlk e0 ⟨_, rfl, N0, rfl, (ob_sbRR_30 n_a0 fn_a0 n_a1 fn_a1 c3)⟩ (by decide) (by decide)
theorem d8_8 : decode method_4_code 8 = .ok (.aload_n 0, 1) := by decide +kernel
theorem d8_9 : decode method_4_code 9 = .ok (.aload_n 1, 1) := by decide +kernel
theorem d8_10 : decode method_4_code 10 = .ok (.if_acmp .ne 7, 3) := by decide +kernel
theorem d8_13 : decode method_4_code 13 = .ok (.iconst 1, 1) := by decide +kernel
theorem d8_14 : decode method_4_code 14 = .ok (.goto 4, 3) := by decide +kernel
theorem d8_18 : decode method_4_code 18 = .ok (.ireturn, 1) := by decide +kernel
theorem pn_sbNN : plainName "com/example/nested_keyspace/nestedkeyspace/ScanOptionsReversePinLaw" = true := by first | (simp [plainName, overriddenIn]; done) | decide +kernel
theorem ef_sbNN (m : MethodId)  : entryFrame m #[.null, .null] 2 = mkF m 0 #[.val .null, .val .null] [] := by first | (simp [entryFrame, mkF, argsToLocals, Value.category]; done) | rfl
def QsbNN (Z : State)  (h0 : Heap) (n0 : Nat) (v : Option Value) (h : Heap) (L : List Loc) : Prop := v = some (.int (1 : Int32)) ∧ Fr n0 L ∧ h = h0
set_option maxRecDepth 65536 in
set_option maxHeartbeats 40000000 in
theorem rmsbNN (l : Launch) (Z : State) (A0 : Array Value) (hw : ∀ d ∈ tables_1, d.before A0 Z = true) (ws : List Jvm.Cond)  (h0 : Heap) (n0 : Nat) (Z0 : n0 ≤ h0.size) :
    MetFree l (⟨"com/example/nested_keyspace/nestedkeyspace/ScanOptionsReversePinLaw", "sameBytes", "([B[B)Z"⟩ : MethodName) (head1 (Jvm.Cond.code (⟨"com/example/nested_keyspace/nestedkeyspace/ScanOptionsReversePinLaw", "sameBytes", "([B[B)Z"⟩ : MethodName) method_4_code 2 (some .boolean) :: ws) ({ frames := 0, cells := 0, slots := 0, locals := 0 } : Room)) (fun a U => a = #[.null, .null] ∧ Z.Warmed39 U.vm ∧ U.heap = h0) (fun _ _ _ _ _ => True) (fun _ U o U' => ∃ v L, o = .returned v ∧ QsbNN Z  h0 n0 v U'.heap L ∧ FrameEnd U o U' L 0 0) := by
  refine MetFree.of_bodySF (plainFor_of_name pn_sbNN) hisR ?_
  intro p e s m args below meth c s₁ Bd hml0 hP hK
  obtain ⟨rfl, hZ, hh⟩ := hP
  have hwd := fun i {d : Jvm.Cond} (h : tables_1[i]? = some d) => hw d (List.mem_of_getElem? h)
  have hx := Bd.exec
  have hby := Bd.bytes
  have hml : c.maxLocals = 2 := hml0
  have hlk : meth.locks = false := Bd.notSynchronized
  have hown : s.vm.findClass "com/example/nested_keyspace/nestedkeyspace/ScanOptionsReversePinLaw" = some m.cls := findClass_of_methodNamed Bd.named
  have hnm := (name_of_methodNamed Bd.named Bd.method).1
  have X0 : Stand p l e ({ frames := 0, cells := 0, slots := 0, locals := 0 } : Room) s m #[.null, .null] below meth c s₁ [] 0 0 := Stand.of_body Bd
  have e0 : s₁.heap = h0 := by rw [← hh, Bd.state]; rfl
  have N0 := Fr.nil n0
  show own_Go p e below (own_Fin s 0 0 (QsbNN Z  h0 n0)) _
  refine own_by (fun t k => castTop (ef_sbNN m ) k) ?_
  show own_Go p e below _ (s₁.setTop (mkF m 0 #[.val .null, .val .null] []))
  refine own_by (fun _ k => XS.aloadN X0.here hx rfl (hb hby d8_0) rfl rfl k) ?_
  show own_Go p e below _ (s₁.setTop (mkF m 1 #[.val .null, .val .null] [.null]))
  refine own_by (fun _ k => XS.ifnullYes X0.here hx rfl (pc0 := 1) (pc' := 8) rfl (hb hby d8_1) rfl (by decide) (by decide) k) ?_
  show own_Go p e below _ (s₁.setTop (mkF m 8 #[.val .null, .val .null] []))
  refine own_by (fun _ k => XS.aloadN X0.here hx rfl (hb hby d8_8) rfl rfl k) ?_
  show own_Go p e below _ (s₁.setTop (mkF m 9 #[.val .null, .val .null] [.null]))
  refine own_by (fun _ k => XS.aloadN X0.here hx rfl (hb hby d8_9) rfl rfl k) ?_
  show own_Go p e below _ (s₁.setTop (mkF m 10 #[.val .null, .val .null] [.null, .null]))
  refine own_by (fun _ k => Jvm.RoadKit.acmp (g := (mkF m 10 #[.val .null, .val .null] [.null, .null])) X0 hx rfl rfl rfl (pc0 := 10) (pc' := 13) (same := true) rfl (hb hby d8_10) rfl (decide_eq_true rfl) (by decide) (by decide) k) ?_
  show own_Go p e below _ (s₁.setTop (mkF m 13 #[.val .null, .val .null] []))
  refine own_by (fun _ k => XS.iconst X0.here hx rfl (hb hby d8_13) k) ?_
  show own_Go p e below _ (s₁.setTop (mkF m 14 #[.val .null, .val .null] [(.int (1 : Int32))]))
  refine own_by (fun _ k => XS.goto X0.here hx rfl (pc0 := 14) (pc' := 18) rfl (hb hby d8_14) (by decide) (by decide) k) ?_
  show own_Go p e below _ (s₁.setTop (mkF m 18 #[.val .null, .val .null] [(.int (1 : Int32))]))
  exact own_retN X0 hx (t := .boolean) Bd.returns (by simp) (hb hby d8_18) hlk e0 ⟨rfl, N0, rfl⟩ (by decide) (by decide)
theorem pd_0 : parseMethodDescriptor "(II)[B" = some ⟨[.int, .int], some (.array .byte)⟩ := by decide +kernel
theorem pd_88 : parseMethodDescriptor "(J)Lcom/example/nested_keyspace/nestedkeyspace/ScanOptions;" = some ⟨[.long], some (.object "com/example/nested_keyspace/nestedkeyspace/ScanOptions")⟩ := by decide +kernel
theorem pd_29 : parseMethodDescriptor "()Lcom/example/nested_keyspace/nestedkeyspace/ScanOptions;" = some ⟨[], some (.object "com/example/nested_keyspace/nestedkeyspace/ScanOptions")⟩ := by decide +kernel
theorem pd_35 : parseMethodDescriptor "()Z" = some ⟨[], some .boolean⟩ := by decide +kernel
theorem pd_40 : parseMethodDescriptor "()[B" = some ⟨[], some (.array .byte)⟩ := by decide +kernel
theorem pd_47 : parseMethodDescriptor "([B[B)Z" = some ⟨[(.array .byte), (.array .byte)], some .boolean⟩ := by decide +kernel
theorem pd_60 : parseMethodDescriptor "()J" = some ⟨[], some .long⟩ := by decide +kernel
theorem pd_65 : parseMethodDescriptor "([B)Lcom/example/nested_keyspace/nestedkeyspace/ScanOptions;" = some ⟨[(.array .byte)], some (.object "com/example/nested_keyspace/nestedkeyspace/ScanOptions")⟩ := by decide +kernel
theorem pn_0 : plainName "com/example/nested_keyspace/nestedkeyspace/ScanOptionsReversePinLaw" = true := by first | (simp [plainName, overriddenIn]; done) | decide +kernel
theorem ef_0 (m : MethodId) (p0 : Int32) (p1 : Int32) (p2 : Int32) (q3 : Int64) : entryFrame m #[(.int p0), (.int p1), (.int p2), (.long q3)] maxLocals = mkF m 0 #[.val (.int p0), .val (.int p1), .val (.int p2), .val (.long q3), .second, .unset, .unset, .unset, .unset, .unset, .unset, .unset, .unset, .unset, .unset, .unset, .unset, .unset, .unset, .unset] [] := by first | (simp [entryFrame, mkF, argsToLocals, Value.category, maxLocals]; done) | rfl
theorem ob_0_31 (p0 : Int32) (z8 : Int32) (z17 : Int32) (z27 : Int32) (z37 : Int32) (z46 : Int32) (hj9 : (((p0 &&& (1 : Int32)) = (0 : Int32)) ∧ z8 = (0 : Int32)) ∨ ((¬ ((p0 &&& (1 : Int32)) = (0 : Int32))) ∧ z8 = (1 : Int32))) (hj18 : (((p0 &&& (2 : Int32)) = (0 : Int32)) ∧ z17 = (0 : Int32)) ∨ ((¬ ((p0 &&& (2 : Int32)) = (0 : Int32))) ∧ z17 = (1 : Int32))) (hj28 : ((z17 = (0 : Int32)) ∧ ((p0 &&& (4 : Int32)) = (0 : Int32)) ∧ z27 = (0 : Int32)) ∨ ((z17 = (0 : Int32)) ∧ (¬ ((p0 &&& (4 : Int32)) = (0 : Int32))) ∧ z27 = (1 : Int32)) ∨ ((¬ (z17 = (0 : Int32))) ∧ z27 = (0 : Int32))) (hj38 : ((z17 = (0 : Int32)) ∧ ((p0 &&& (8 : Int32)) = (0 : Int32)) ∧ z37 = (0 : Int32)) ∨ ((z17 = (0 : Int32)) ∧ (¬ ((p0 &&& (8 : Int32)) = (0 : Int32))) ∧ z37 = (1 : Int32)) ∨ ((¬ (z17 = (0 : Int32))) ∧ z37 = (0 : Int32))) (hj47 : (((p0 &&& (16 : Int32)) = (0 : Int32)) ∧ z46 = (0 : Int32)) ∨ ((¬ ((p0 &&& (16 : Int32)) = (0 : Int32))) ∧ z46 = (1 : Int32))) : ¬ (((p0.toUInt32 >>> ((5 : Int32) &&& 31).toUInt32).toInt32) &&& (3 : Int32)) < 0 := by
  have h := own_a3 ((p0.toUInt32 >>> ((5 : Int32) &&& 31).toUInt32).toInt32)
  rw [Int32.lt_iff_toInt_lt]
  have e0 : (0 : Int32).toInt = 0 := rfl
  omega
theorem ob_0_32 (p0 : Int32) (z8 : Int32) (z17 : Int32) (z27 : Int32) (z37 : Int32) (z46 : Int32) (hj9 : (((p0 &&& (1 : Int32)) = (0 : Int32)) ∧ z8 = (0 : Int32)) ∨ ((¬ ((p0 &&& (1 : Int32)) = (0 : Int32))) ∧ z8 = (1 : Int32))) (hj18 : (((p0 &&& (2 : Int32)) = (0 : Int32)) ∧ z17 = (0 : Int32)) ∨ ((¬ ((p0 &&& (2 : Int32)) = (0 : Int32))) ∧ z17 = (1 : Int32))) (hj28 : ((z17 = (0 : Int32)) ∧ ((p0 &&& (4 : Int32)) = (0 : Int32)) ∧ z27 = (0 : Int32)) ∨ ((z17 = (0 : Int32)) ∧ (¬ ((p0 &&& (4 : Int32)) = (0 : Int32))) ∧ z27 = (1 : Int32)) ∨ ((¬ (z17 = (0 : Int32))) ∧ z27 = (0 : Int32))) (hj38 : ((z17 = (0 : Int32)) ∧ ((p0 &&& (8 : Int32)) = (0 : Int32)) ∧ z37 = (0 : Int32)) ∨ ((z17 = (0 : Int32)) ∧ (¬ ((p0 &&& (8 : Int32)) = (0 : Int32))) ∧ z37 = (1 : Int32)) ∨ ((¬ (z17 = (0 : Int32))) ∧ z37 = (0 : Int32))) (hj47 : (((p0 &&& (16 : Int32)) = (0 : Int32)) ∧ z46 = (0 : Int32)) ∨ ((¬ ((p0 &&& (16 : Int32)) = (0 : Int32))) ∧ z46 = (1 : Int32))) : ((((p0.toUInt32 >>> ((5 : Int32) &&& 31).toUInt32).toInt32) &&& (3 : Int32))).toNatClampNeg ≤ 3 := by
  have h := own_a3 ((p0.toUInt32 >>> ((5 : Int32) &&& 31).toUInt32).toInt32)
  simp only [Int32.toNatClampNeg]
  omega
theorem ob_0_33 (p0 : Int32) (p1 : Int32) (z8 : Int32) (z17 : Int32) (z27 : Int32) (z37 : Int32) (z46 : Int32) (b51 : Nat → Int32) (hj9 : (((p0 &&& (1 : Int32)) = (0 : Int32)) ∧ z8 = (0 : Int32)) ∨ ((¬ ((p0 &&& (1 : Int32)) = (0 : Int32))) ∧ z8 = (1 : Int32))) (hj18 : (((p0 &&& (2 : Int32)) = (0 : Int32)) ∧ z17 = (0 : Int32)) ∨ ((¬ ((p0 &&& (2 : Int32)) = (0 : Int32))) ∧ z17 = (1 : Int32))) (hj28 : ((z17 = (0 : Int32)) ∧ ((p0 &&& (4 : Int32)) = (0 : Int32)) ∧ z27 = (0 : Int32)) ∨ ((z17 = (0 : Int32)) ∧ (¬ ((p0 &&& (4 : Int32)) = (0 : Int32))) ∧ z27 = (1 : Int32)) ∨ ((¬ (z17 = (0 : Int32))) ∧ z27 = (0 : Int32))) (hj38 : ((z17 = (0 : Int32)) ∧ ((p0 &&& (8 : Int32)) = (0 : Int32)) ∧ z37 = (0 : Int32)) ∨ ((z17 = (0 : Int32)) ∧ (¬ ((p0 &&& (8 : Int32)) = (0 : Int32))) ∧ z37 = (1 : Int32)) ∨ ((¬ (z17 = (0 : Int32))) ∧ z37 = (0 : Int32))) (hj47 : (((p0 &&& (16 : Int32)) = (0 : Int32)) ∧ z46 = (0 : Int32)) ∨ ((¬ ((p0 &&& (16 : Int32)) = (0 : Int32))) ∧ z46 = (1 : Int32))) (hp56 : (∃ (gg12 : Nat → Int32) (gg28 : Nat → Int32) (gg44 : Nat → Int32), ((((0 : Int32) < (((p0.toUInt32 >>> ((5 : Int32) &&& 31).toUInt32).toInt32) &&& (3 : Int32))) ∧ gg12 = (own_upd (fun _ => (0 : Int32)) 0 (nar .byte (p1.toInt8.toInt32)))) ∨ ((¬ ((0 : Int32) < (((p0.toUInt32 >>> ((5 : Int32) &&& 31).toUInt32).toInt32) &&& (3 : Int32)))) ∧ gg12 = (fun _ => (0 : Int32)))) ∧ ((((1 : Int32) < (((p0.toUInt32 >>> ((5 : Int32) &&& 31).toUInt32).toInt32) &&& (3 : Int32))) ∧ gg28 = (own_upd gg12 1 (nar .byte (((p1.toUInt32 >>> ((8 : Int32) &&& 31).toUInt32).toInt32).toInt8.toInt32)))) ∨ ((¬ ((1 : Int32) < (((p0.toUInt32 >>> ((5 : Int32) &&& 31).toUInt32).toInt32) &&& (3 : Int32)))) ∧ gg28 = gg12)) ∧ ((((2 : Int32) < (((p0.toUInt32 >>> ((5 : Int32) &&& 31).toUInt32).toInt32) &&& (3 : Int32))) ∧ gg44 = (own_upd gg28 2 (nar .byte (((p1.toUInt32 >>> ((16 : Int32) &&& 31).toUInt32).toInt32).toInt8.toInt32)))) ∨ ((¬ ((2 : Int32) < (((p0.toUInt32 >>> ((5 : Int32) &&& 31).toUInt32).toInt32) &&& (3 : Int32)))) ∧ gg44 = gg28)) ∧ b51 = gg44)) : ¬ (((p0.toUInt32 >>> ((7 : Int32) &&& 31).toUInt32).toInt32) &&& (3 : Int32)) < 0 := by
  have h := own_a3 ((p0.toUInt32 >>> ((7 : Int32) &&& 31).toUInt32).toInt32)
  rw [Int32.lt_iff_toInt_lt]
  have e0 : (0 : Int32).toInt = 0 := rfl
  omega
theorem ob_0_34 (p0 : Int32) (p1 : Int32) (z8 : Int32) (z17 : Int32) (z27 : Int32) (z37 : Int32) (z46 : Int32) (b51 : Nat → Int32) (hj9 : (((p0 &&& (1 : Int32)) = (0 : Int32)) ∧ z8 = (0 : Int32)) ∨ ((¬ ((p0 &&& (1 : Int32)) = (0 : Int32))) ∧ z8 = (1 : Int32))) (hj18 : (((p0 &&& (2 : Int32)) = (0 : Int32)) ∧ z17 = (0 : Int32)) ∨ ((¬ ((p0 &&& (2 : Int32)) = (0 : Int32))) ∧ z17 = (1 : Int32))) (hj28 : ((z17 = (0 : Int32)) ∧ ((p0 &&& (4 : Int32)) = (0 : Int32)) ∧ z27 = (0 : Int32)) ∨ ((z17 = (0 : Int32)) ∧ (¬ ((p0 &&& (4 : Int32)) = (0 : Int32))) ∧ z27 = (1 : Int32)) ∨ ((¬ (z17 = (0 : Int32))) ∧ z27 = (0 : Int32))) (hj38 : ((z17 = (0 : Int32)) ∧ ((p0 &&& (8 : Int32)) = (0 : Int32)) ∧ z37 = (0 : Int32)) ∨ ((z17 = (0 : Int32)) ∧ (¬ ((p0 &&& (8 : Int32)) = (0 : Int32))) ∧ z37 = (1 : Int32)) ∨ ((¬ (z17 = (0 : Int32))) ∧ z37 = (0 : Int32))) (hj47 : (((p0 &&& (16 : Int32)) = (0 : Int32)) ∧ z46 = (0 : Int32)) ∨ ((¬ ((p0 &&& (16 : Int32)) = (0 : Int32))) ∧ z46 = (1 : Int32))) (hp56 : (∃ (gg12 : Nat → Int32) (gg28 : Nat → Int32) (gg44 : Nat → Int32), ((((0 : Int32) < (((p0.toUInt32 >>> ((5 : Int32) &&& 31).toUInt32).toInt32) &&& (3 : Int32))) ∧ gg12 = (own_upd (fun _ => (0 : Int32)) 0 (nar .byte (p1.toInt8.toInt32)))) ∨ ((¬ ((0 : Int32) < (((p0.toUInt32 >>> ((5 : Int32) &&& 31).toUInt32).toInt32) &&& (3 : Int32)))) ∧ gg12 = (fun _ => (0 : Int32)))) ∧ ((((1 : Int32) < (((p0.toUInt32 >>> ((5 : Int32) &&& 31).toUInt32).toInt32) &&& (3 : Int32))) ∧ gg28 = (own_upd gg12 1 (nar .byte (((p1.toUInt32 >>> ((8 : Int32) &&& 31).toUInt32).toInt32).toInt8.toInt32)))) ∨ ((¬ ((1 : Int32) < (((p0.toUInt32 >>> ((5 : Int32) &&& 31).toUInt32).toInt32) &&& (3 : Int32)))) ∧ gg28 = gg12)) ∧ ((((2 : Int32) < (((p0.toUInt32 >>> ((5 : Int32) &&& 31).toUInt32).toInt32) &&& (3 : Int32))) ∧ gg44 = (own_upd gg28 2 (nar .byte (((p1.toUInt32 >>> ((16 : Int32) &&& 31).toUInt32).toInt32).toInt8.toInt32)))) ∨ ((¬ ((2 : Int32) < (((p0.toUInt32 >>> ((5 : Int32) &&& 31).toUInt32).toInt32) &&& (3 : Int32)))) ∧ gg44 = gg28)) ∧ b51 = gg44)) : ((((p0.toUInt32 >>> ((7 : Int32) &&& 31).toUInt32).toInt32) &&& (3 : Int32))).toNatClampNeg ≤ 3 := by
  have h := own_a3 ((p0.toUInt32 >>> ((7 : Int32) &&& 31).toUInt32).toInt32)
  simp only [Int32.toNatClampNeg]
  omega
theorem ob_0_35 (p0 : Int32) (p1 : Int32) (p2 : Int32) (q3 : Int64) (z8 : Int32) (z17 : Int32) (z27 : Int32) (z37 : Int32) (z46 : Int32) (b51 : Nat → Int32) (b60 : Nat → Int32) (v66 : Int64) (y94 : Int64) (z146 : Int32) (hj9 : (((p0 &&& (1 : Int32)) = (0 : Int32)) ∧ z8 = (0 : Int32)) ∨ ((¬ ((p0 &&& (1 : Int32)) = (0 : Int32))) ∧ z8 = (1 : Int32))) (hj18 : (((p0 &&& (2 : Int32)) = (0 : Int32)) ∧ z17 = (0 : Int32)) ∨ ((¬ ((p0 &&& (2 : Int32)) = (0 : Int32))) ∧ z17 = (1 : Int32))) (hj28 : ((z17 = (0 : Int32)) ∧ ((p0 &&& (4 : Int32)) = (0 : Int32)) ∧ z27 = (0 : Int32)) ∨ ((z17 = (0 : Int32)) ∧ (¬ ((p0 &&& (4 : Int32)) = (0 : Int32))) ∧ z27 = (1 : Int32)) ∨ ((¬ (z17 = (0 : Int32))) ∧ z27 = (0 : Int32))) (hj38 : ((z17 = (0 : Int32)) ∧ ((p0 &&& (8 : Int32)) = (0 : Int32)) ∧ z37 = (0 : Int32)) ∨ ((z17 = (0 : Int32)) ∧ (¬ ((p0 &&& (8 : Int32)) = (0 : Int32))) ∧ z37 = (1 : Int32)) ∨ ((¬ (z17 = (0 : Int32))) ∧ z37 = (0 : Int32))) (hj47 : (((p0 &&& (16 : Int32)) = (0 : Int32)) ∧ z46 = (0 : Int32)) ∨ ((¬ ((p0 &&& (16 : Int32)) = (0 : Int32))) ∧ z46 = (1 : Int32))) (hp56 : (∃ (gg12 : Nat → Int32) (gg28 : Nat → Int32) (gg44 : Nat → Int32), ((((0 : Int32) < (((p0.toUInt32 >>> ((5 : Int32) &&& 31).toUInt32).toInt32) &&& (3 : Int32))) ∧ gg12 = (own_upd (fun _ => (0 : Int32)) 0 (nar .byte (p1.toInt8.toInt32)))) ∨ ((¬ ((0 : Int32) < (((p0.toUInt32 >>> ((5 : Int32) &&& 31).toUInt32).toInt32) &&& (3 : Int32)))) ∧ gg12 = (fun _ => (0 : Int32)))) ∧ ((((1 : Int32) < (((p0.toUInt32 >>> ((5 : Int32) &&& 31).toUInt32).toInt32) &&& (3 : Int32))) ∧ gg28 = (own_upd gg12 1 (nar .byte (((p1.toUInt32 >>> ((8 : Int32) &&& 31).toUInt32).toInt32).toInt8.toInt32)))) ∨ ((¬ ((1 : Int32) < (((p0.toUInt32 >>> ((5 : Int32) &&& 31).toUInt32).toInt32) &&& (3 : Int32)))) ∧ gg28 = gg12)) ∧ ((((2 : Int32) < (((p0.toUInt32 >>> ((5 : Int32) &&& 31).toUInt32).toInt32) &&& (3 : Int32))) ∧ gg44 = (own_upd gg28 2 (nar .byte (((p1.toUInt32 >>> ((16 : Int32) &&& 31).toUInt32).toInt32).toInt8.toInt32)))) ∨ ((¬ ((2 : Int32) < (((p0.toUInt32 >>> ((5 : Int32) &&& 31).toUInt32).toInt32) &&& (3 : Int32)))) ∧ gg44 = gg28)) ∧ b51 = gg44)) (hp65 : (∃ (gg12 : Nat → Int32) (gg28 : Nat → Int32) (gg44 : Nat → Int32), ((((0 : Int32) < (((p0.toUInt32 >>> ((7 : Int32) &&& 31).toUInt32).toInt32) &&& (3 : Int32))) ∧ gg12 = (own_upd (fun _ => (0 : Int32)) 0 (nar .byte (p2.toInt8.toInt32)))) ∨ ((¬ ((0 : Int32) < (((p0.toUInt32 >>> ((7 : Int32) &&& 31).toUInt32).toInt32) &&& (3 : Int32)))) ∧ gg12 = (fun _ => (0 : Int32)))) ∧ ((((1 : Int32) < (((p0.toUInt32 >>> ((7 : Int32) &&& 31).toUInt32).toInt32) &&& (3 : Int32))) ∧ gg28 = (own_upd gg12 1 (nar .byte (((p2.toUInt32 >>> ((8 : Int32) &&& 31).toUInt32).toInt32).toInt8.toInt32)))) ∨ ((¬ ((1 : Int32) < (((p0.toUInt32 >>> ((7 : Int32) &&& 31).toUInt32).toInt32) &&& (3 : Int32)))) ∧ gg28 = gg12)) ∧ ((((2 : Int32) < (((p0.toUInt32 >>> ((7 : Int32) &&& 31).toUInt32).toInt32) &&& (3 : Int32))) ∧ gg44 = (own_upd gg28 2 (nar .byte (((p2.toUInt32 >>> ((16 : Int32) &&& 31).toUInt32).toInt32).toInt8.toInt32)))) ∨ ((¬ ((2 : Int32) < (((p0.toUInt32 >>> ((7 : Int32) &&& 31).toUInt32).toInt32) &&& (3 : Int32)))) ∧ gg44 = gg28)) ∧ b60 = gg44)) (hv66 : (q3 &&& (9223372036854775807 : Int64)) = v66) (hj126 : ((z8 = (0 : Int32)) ∧ y94 = (9223372036854775807 : Int64)) ∨ ((¬ (z8 = (0 : Int32))) ∧ y94 = v66)) (hj178 : ((z46 = (0 : Int32)) ∧ z146 = (0 : Int32)) ∨ ((¬ (z46 = (0 : Int32))) ∧ z146 = (1 : Int32))) : z27 = (0 : Int32) ∨ z27 = (1 : Int32) := by
  clear hj178
  clear hj126
  clear hv66
  clear hp65
  clear hp56
  clear hj47
  clear hj38
  clear hj18
  clear hj9
  grind
theorem ob_0_36 (p0 : Int32) (p1 : Int32) (p2 : Int32) (q3 : Int64) (z8 : Int32) (z17 : Int32) (z37 : Int32) (z46 : Int32) (b51 : Nat → Int32) (b60 : Nat → Int32) (v66 : Int64) (y94 : Int64) (z146 : Int32) (hj9 : (((p0 &&& (1 : Int32)) = (0 : Int32)) ∧ z8 = (0 : Int32)) ∨ ((¬ ((p0 &&& (1 : Int32)) = (0 : Int32))) ∧ z8 = (1 : Int32))) (hj18 : (((p0 &&& (2 : Int32)) = (0 : Int32)) ∧ z17 = (0 : Int32)) ∨ ((¬ ((p0 &&& (2 : Int32)) = (0 : Int32))) ∧ z17 = (1 : Int32))) (hj28 : ((z17 = (0 : Int32)) ∧ ((p0 &&& (4 : Int32)) = (0 : Int32)) ∧ (0 : Int32) = (0 : Int32)) ∨ ((z17 = (0 : Int32)) ∧ (¬ ((p0 &&& (4 : Int32)) = (0 : Int32))) ∧ (0 : Int32) = (1 : Int32)) ∨ ((¬ (z17 = (0 : Int32))) ∧ (0 : Int32) = (0 : Int32))) (hj38 : ((z17 = (0 : Int32)) ∧ ((p0 &&& (8 : Int32)) = (0 : Int32)) ∧ z37 = (0 : Int32)) ∨ ((z17 = (0 : Int32)) ∧ (¬ ((p0 &&& (8 : Int32)) = (0 : Int32))) ∧ z37 = (1 : Int32)) ∨ ((¬ (z17 = (0 : Int32))) ∧ z37 = (0 : Int32))) (hj47 : (((p0 &&& (16 : Int32)) = (0 : Int32)) ∧ z46 = (0 : Int32)) ∨ ((¬ ((p0 &&& (16 : Int32)) = (0 : Int32))) ∧ z46 = (1 : Int32))) (hp56 : (∃ (gg12 : Nat → Int32) (gg28 : Nat → Int32) (gg44 : Nat → Int32), ((((0 : Int32) < (((p0.toUInt32 >>> ((5 : Int32) &&& 31).toUInt32).toInt32) &&& (3 : Int32))) ∧ gg12 = (own_upd (fun _ => (0 : Int32)) 0 (nar .byte (p1.toInt8.toInt32)))) ∨ ((¬ ((0 : Int32) < (((p0.toUInt32 >>> ((5 : Int32) &&& 31).toUInt32).toInt32) &&& (3 : Int32)))) ∧ gg12 = (fun _ => (0 : Int32)))) ∧ ((((1 : Int32) < (((p0.toUInt32 >>> ((5 : Int32) &&& 31).toUInt32).toInt32) &&& (3 : Int32))) ∧ gg28 = (own_upd gg12 1 (nar .byte (((p1.toUInt32 >>> ((8 : Int32) &&& 31).toUInt32).toInt32).toInt8.toInt32)))) ∨ ((¬ ((1 : Int32) < (((p0.toUInt32 >>> ((5 : Int32) &&& 31).toUInt32).toInt32) &&& (3 : Int32)))) ∧ gg28 = gg12)) ∧ ((((2 : Int32) < (((p0.toUInt32 >>> ((5 : Int32) &&& 31).toUInt32).toInt32) &&& (3 : Int32))) ∧ gg44 = (own_upd gg28 2 (nar .byte (((p1.toUInt32 >>> ((16 : Int32) &&& 31).toUInt32).toInt32).toInt8.toInt32)))) ∨ ((¬ ((2 : Int32) < (((p0.toUInt32 >>> ((5 : Int32) &&& 31).toUInt32).toInt32) &&& (3 : Int32)))) ∧ gg44 = gg28)) ∧ b51 = gg44)) (hp65 : (∃ (gg12 : Nat → Int32) (gg28 : Nat → Int32) (gg44 : Nat → Int32), ((((0 : Int32) < (((p0.toUInt32 >>> ((7 : Int32) &&& 31).toUInt32).toInt32) &&& (3 : Int32))) ∧ gg12 = (own_upd (fun _ => (0 : Int32)) 0 (nar .byte (p2.toInt8.toInt32)))) ∨ ((¬ ((0 : Int32) < (((p0.toUInt32 >>> ((7 : Int32) &&& 31).toUInt32).toInt32) &&& (3 : Int32)))) ∧ gg12 = (fun _ => (0 : Int32)))) ∧ ((((1 : Int32) < (((p0.toUInt32 >>> ((7 : Int32) &&& 31).toUInt32).toInt32) &&& (3 : Int32))) ∧ gg28 = (own_upd gg12 1 (nar .byte (((p2.toUInt32 >>> ((8 : Int32) &&& 31).toUInt32).toInt32).toInt8.toInt32)))) ∨ ((¬ ((1 : Int32) < (((p0.toUInt32 >>> ((7 : Int32) &&& 31).toUInt32).toInt32) &&& (3 : Int32)))) ∧ gg28 = gg12)) ∧ ((((2 : Int32) < (((p0.toUInt32 >>> ((7 : Int32) &&& 31).toUInt32).toInt32) &&& (3 : Int32))) ∧ gg44 = (own_upd gg28 2 (nar .byte (((p2.toUInt32 >>> ((16 : Int32) &&& 31).toUInt32).toInt32).toInt8.toInt32)))) ∨ ((¬ ((2 : Int32) < (((p0.toUInt32 >>> ((7 : Int32) &&& 31).toUInt32).toInt32) &&& (3 : Int32)))) ∧ gg44 = gg28)) ∧ b60 = gg44)) (hv66 : (q3 &&& (9223372036854775807 : Int64)) = v66) (hj126 : ((z8 = (0 : Int32)) ∧ y94 = (9223372036854775807 : Int64)) ∨ ((¬ (z8 = (0 : Int32))) ∧ y94 = v66)) (hj178 : ((z46 = (0 : Int32)) ∧ z146 = (0 : Int32)) ∨ ((¬ (z46 = (0 : Int32))) ∧ z146 = (1 : Int32))) : z37 = (0 : Int32) ∨ z37 = (1 : Int32) := by
  clear hj178
  clear hj126
  clear hv66
  clear hp65
  clear hp56
  clear hj47
  clear hj28
  clear hj18
  clear hj9
  grind
theorem ob_0_37 (p0 : Int32) (p1 : Int32) (p2 : Int32) (q3 : Int64) (z8 : Int32) (z17 : Int32) (z46 : Int32) (b51 : Nat → Int32) (b60 : Nat → Int32) (v66 : Int64) (y94 : Int64) (z146 : Int32) (hj9 : (((p0 &&& (1 : Int32)) = (0 : Int32)) ∧ z8 = (0 : Int32)) ∨ ((¬ ((p0 &&& (1 : Int32)) = (0 : Int32))) ∧ z8 = (1 : Int32))) (hj18 : (((p0 &&& (2 : Int32)) = (0 : Int32)) ∧ z17 = (0 : Int32)) ∨ ((¬ ((p0 &&& (2 : Int32)) = (0 : Int32))) ∧ z17 = (1 : Int32))) (hj28 : ((z17 = (0 : Int32)) ∧ ((p0 &&& (4 : Int32)) = (0 : Int32)) ∧ (0 : Int32) = (0 : Int32)) ∨ ((z17 = (0 : Int32)) ∧ (¬ ((p0 &&& (4 : Int32)) = (0 : Int32))) ∧ (0 : Int32) = (1 : Int32)) ∨ ((¬ (z17 = (0 : Int32))) ∧ (0 : Int32) = (0 : Int32))) (hj38 : ((z17 = (0 : Int32)) ∧ ((p0 &&& (8 : Int32)) = (0 : Int32)) ∧ (0 : Int32) = (0 : Int32)) ∨ ((z17 = (0 : Int32)) ∧ (¬ ((p0 &&& (8 : Int32)) = (0 : Int32))) ∧ (0 : Int32) = (1 : Int32)) ∨ ((¬ (z17 = (0 : Int32))) ∧ (0 : Int32) = (0 : Int32))) (hj47 : (((p0 &&& (16 : Int32)) = (0 : Int32)) ∧ z46 = (0 : Int32)) ∨ ((¬ ((p0 &&& (16 : Int32)) = (0 : Int32))) ∧ z46 = (1 : Int32))) (hp56 : (∃ (gg12 : Nat → Int32) (gg28 : Nat → Int32) (gg44 : Nat → Int32), ((((0 : Int32) < (((p0.toUInt32 >>> ((5 : Int32) &&& 31).toUInt32).toInt32) &&& (3 : Int32))) ∧ gg12 = (own_upd (fun _ => (0 : Int32)) 0 (nar .byte (p1.toInt8.toInt32)))) ∨ ((¬ ((0 : Int32) < (((p0.toUInt32 >>> ((5 : Int32) &&& 31).toUInt32).toInt32) &&& (3 : Int32)))) ∧ gg12 = (fun _ => (0 : Int32)))) ∧ ((((1 : Int32) < (((p0.toUInt32 >>> ((5 : Int32) &&& 31).toUInt32).toInt32) &&& (3 : Int32))) ∧ gg28 = (own_upd gg12 1 (nar .byte (((p1.toUInt32 >>> ((8 : Int32) &&& 31).toUInt32).toInt32).toInt8.toInt32)))) ∨ ((¬ ((1 : Int32) < (((p0.toUInt32 >>> ((5 : Int32) &&& 31).toUInt32).toInt32) &&& (3 : Int32)))) ∧ gg28 = gg12)) ∧ ((((2 : Int32) < (((p0.toUInt32 >>> ((5 : Int32) &&& 31).toUInt32).toInt32) &&& (3 : Int32))) ∧ gg44 = (own_upd gg28 2 (nar .byte (((p1.toUInt32 >>> ((16 : Int32) &&& 31).toUInt32).toInt32).toInt8.toInt32)))) ∨ ((¬ ((2 : Int32) < (((p0.toUInt32 >>> ((5 : Int32) &&& 31).toUInt32).toInt32) &&& (3 : Int32)))) ∧ gg44 = gg28)) ∧ b51 = gg44)) (hp65 : (∃ (gg12 : Nat → Int32) (gg28 : Nat → Int32) (gg44 : Nat → Int32), ((((0 : Int32) < (((p0.toUInt32 >>> ((7 : Int32) &&& 31).toUInt32).toInt32) &&& (3 : Int32))) ∧ gg12 = (own_upd (fun _ => (0 : Int32)) 0 (nar .byte (p2.toInt8.toInt32)))) ∨ ((¬ ((0 : Int32) < (((p0.toUInt32 >>> ((7 : Int32) &&& 31).toUInt32).toInt32) &&& (3 : Int32)))) ∧ gg12 = (fun _ => (0 : Int32)))) ∧ ((((1 : Int32) < (((p0.toUInt32 >>> ((7 : Int32) &&& 31).toUInt32).toInt32) &&& (3 : Int32))) ∧ gg28 = (own_upd gg12 1 (nar .byte (((p2.toUInt32 >>> ((8 : Int32) &&& 31).toUInt32).toInt32).toInt8.toInt32)))) ∨ ((¬ ((1 : Int32) < (((p0.toUInt32 >>> ((7 : Int32) &&& 31).toUInt32).toInt32) &&& (3 : Int32)))) ∧ gg28 = gg12)) ∧ ((((2 : Int32) < (((p0.toUInt32 >>> ((7 : Int32) &&& 31).toUInt32).toInt32) &&& (3 : Int32))) ∧ gg44 = (own_upd gg28 2 (nar .byte (((p2.toUInt32 >>> ((16 : Int32) &&& 31).toUInt32).toInt32).toInt8.toInt32)))) ∨ ((¬ ((2 : Int32) < (((p0.toUInt32 >>> ((7 : Int32) &&& 31).toUInt32).toInt32) &&& (3 : Int32)))) ∧ gg44 = gg28)) ∧ b60 = gg44)) (hv66 : (q3 &&& (9223372036854775807 : Int64)) = v66) (hj126 : ((z8 = (0 : Int32)) ∧ y94 = (9223372036854775807 : Int64)) ∨ ((¬ (z8 = (0 : Int32))) ∧ y94 = v66)) (hj178 : ((z46 = (0 : Int32)) ∧ z146 = (0 : Int32)) ∨ ((¬ (z46 = (0 : Int32))) ∧ z146 = (1 : Int32))) : z17 = (0 : Int32) ∨ z17 = (1 : Int32) := by
  clear hj178
  clear hj126
  clear hv66
  clear hp65
  clear hp56
  clear hj47
  clear hj38
  clear hj28
  clear hj9
  grind
theorem ob_0_38 (fn_f_EMPTY_KEY : Nat → Int32) (p0 : Int32) (p1 : Int32) (p2 : Int32) (q3 : Int64) (z8 : Int32) (z46 : Int32) (b51 : Nat → Int32) (b60 : Nat → Int32) (v66 : Int64) (y94 : Int64) (z146 : Int32) (y197 : Int64) (o207 : Int32) (hj9 : (((p0 &&& (1 : Int32)) = (0 : Int32)) ∧ z8 = (0 : Int32)) ∨ ((¬ ((p0 &&& (1 : Int32)) = (0 : Int32))) ∧ z8 = (1 : Int32))) (hj18 : (((p0 &&& (2 : Int32)) = (0 : Int32)) ∧ (0 : Int32) = (0 : Int32)) ∨ ((¬ ((p0 &&& (2 : Int32)) = (0 : Int32))) ∧ (0 : Int32) = (1 : Int32))) (hj28 : (((0 : Int32) = (0 : Int32)) ∧ ((p0 &&& (4 : Int32)) = (0 : Int32)) ∧ (0 : Int32) = (0 : Int32)) ∨ (((0 : Int32) = (0 : Int32)) ∧ (¬ ((p0 &&& (4 : Int32)) = (0 : Int32))) ∧ (0 : Int32) = (1 : Int32)) ∨ ((¬ ((0 : Int32) = (0 : Int32))) ∧ (0 : Int32) = (0 : Int32))) (hj38 : (((0 : Int32) = (0 : Int32)) ∧ ((p0 &&& (8 : Int32)) = (0 : Int32)) ∧ (0 : Int32) = (0 : Int32)) ∨ (((0 : Int32) = (0 : Int32)) ∧ (¬ ((p0 &&& (8 : Int32)) = (0 : Int32))) ∧ (0 : Int32) = (1 : Int32)) ∨ ((¬ ((0 : Int32) = (0 : Int32))) ∧ (0 : Int32) = (0 : Int32))) (hj47 : (((p0 &&& (16 : Int32)) = (0 : Int32)) ∧ z46 = (0 : Int32)) ∨ ((¬ ((p0 &&& (16 : Int32)) = (0 : Int32))) ∧ z46 = (1 : Int32))) (hp56 : (∃ (gg12 : Nat → Int32) (gg28 : Nat → Int32) (gg44 : Nat → Int32), ((((0 : Int32) < (((p0.toUInt32 >>> ((5 : Int32) &&& 31).toUInt32).toInt32) &&& (3 : Int32))) ∧ gg12 = (own_upd (fun _ => (0 : Int32)) 0 (nar .byte (p1.toInt8.toInt32)))) ∨ ((¬ ((0 : Int32) < (((p0.toUInt32 >>> ((5 : Int32) &&& 31).toUInt32).toInt32) &&& (3 : Int32)))) ∧ gg12 = (fun _ => (0 : Int32)))) ∧ ((((1 : Int32) < (((p0.toUInt32 >>> ((5 : Int32) &&& 31).toUInt32).toInt32) &&& (3 : Int32))) ∧ gg28 = (own_upd gg12 1 (nar .byte (((p1.toUInt32 >>> ((8 : Int32) &&& 31).toUInt32).toInt32).toInt8.toInt32)))) ∨ ((¬ ((1 : Int32) < (((p0.toUInt32 >>> ((5 : Int32) &&& 31).toUInt32).toInt32) &&& (3 : Int32)))) ∧ gg28 = gg12)) ∧ ((((2 : Int32) < (((p0.toUInt32 >>> ((5 : Int32) &&& 31).toUInt32).toInt32) &&& (3 : Int32))) ∧ gg44 = (own_upd gg28 2 (nar .byte (((p1.toUInt32 >>> ((16 : Int32) &&& 31).toUInt32).toInt32).toInt8.toInt32)))) ∨ ((¬ ((2 : Int32) < (((p0.toUInt32 >>> ((5 : Int32) &&& 31).toUInt32).toInt32) &&& (3 : Int32)))) ∧ gg44 = gg28)) ∧ b51 = gg44)) (hp65 : (∃ (gg12 : Nat → Int32) (gg28 : Nat → Int32) (gg44 : Nat → Int32), ((((0 : Int32) < (((p0.toUInt32 >>> ((7 : Int32) &&& 31).toUInt32).toInt32) &&& (3 : Int32))) ∧ gg12 = (own_upd (fun _ => (0 : Int32)) 0 (nar .byte (p2.toInt8.toInt32)))) ∨ ((¬ ((0 : Int32) < (((p0.toUInt32 >>> ((7 : Int32) &&& 31).toUInt32).toInt32) &&& (3 : Int32)))) ∧ gg12 = (fun _ => (0 : Int32)))) ∧ ((((1 : Int32) < (((p0.toUInt32 >>> ((7 : Int32) &&& 31).toUInt32).toInt32) &&& (3 : Int32))) ∧ gg28 = (own_upd gg12 1 (nar .byte (((p2.toUInt32 >>> ((8 : Int32) &&& 31).toUInt32).toInt32).toInt8.toInt32)))) ∨ ((¬ ((1 : Int32) < (((p0.toUInt32 >>> ((7 : Int32) &&& 31).toUInt32).toInt32) &&& (3 : Int32)))) ∧ gg28 = gg12)) ∧ ((((2 : Int32) < (((p0.toUInt32 >>> ((7 : Int32) &&& 31).toUInt32).toInt32) &&& (3 : Int32))) ∧ gg44 = (own_upd gg28 2 (nar .byte (((p2.toUInt32 >>> ((16 : Int32) &&& 31).toUInt32).toInt32).toInt8.toInt32)))) ∨ ((¬ ((2 : Int32) < (((p0.toUInt32 >>> ((7 : Int32) &&& 31).toUInt32).toInt32) &&& (3 : Int32)))) ∧ gg44 = gg28)) ∧ b60 = gg44)) (hv66 : (q3 &&& (9223372036854775807 : Int64)) = v66) (hj126 : ((z8 = (0 : Int32)) ∧ y94 = (9223372036854775807 : Int64)) ∨ ((¬ (z8 = (0 : Int32))) ∧ y94 = v66)) (hj178 : ((z46 = (0 : Int32)) ∧ z146 = (0 : Int32)) ∨ ((¬ (z46 = (0 : Int32))) ∧ z146 = (1 : Int32))) (hj198 : ((z8 = (0 : Int32)) ∧ y197 = (9223372036854775807 : Int64)) ∨ ((¬ (z8 = (0 : Int32))) ∧ y197 = v66)) (hp208 : own_same (0 : Int32) (0 : Int32) fn_f_EMPTY_KEY (fun _ => (0 : Int32)) o207) (c209 : o207 = (0 : Int32)) : False := by
  have q := own_same0 _ _ _ hp208
  rw [q] at c209
  exact absurd c209 (by decide)
theorem ob_0_39 (fn_f_EMPTY_KEY : Nat → Int32) (p0 : Int32) (p1 : Int32) (p2 : Int32) (q3 : Int64) (z8 : Int32) (z46 : Int32) (b51 : Nat → Int32) (b60 : Nat → Int32) (v66 : Int64) (y94 : Int64) (z146 : Int32) (y197 : Int64) (o207 : Int32) (hj9 : (((p0 &&& (1 : Int32)) = (0 : Int32)) ∧ z8 = (0 : Int32)) ∨ ((¬ ((p0 &&& (1 : Int32)) = (0 : Int32))) ∧ z8 = (1 : Int32))) (hj18 : (((p0 &&& (2 : Int32)) = (0 : Int32)) ∧ (0 : Int32) = (0 : Int32)) ∨ ((¬ ((p0 &&& (2 : Int32)) = (0 : Int32))) ∧ (0 : Int32) = (1 : Int32))) (hj28 : (((0 : Int32) = (0 : Int32)) ∧ ((p0 &&& (4 : Int32)) = (0 : Int32)) ∧ (0 : Int32) = (0 : Int32)) ∨ (((0 : Int32) = (0 : Int32)) ∧ (¬ ((p0 &&& (4 : Int32)) = (0 : Int32))) ∧ (0 : Int32) = (1 : Int32)) ∨ ((¬ ((0 : Int32) = (0 : Int32))) ∧ (0 : Int32) = (0 : Int32))) (hj38 : (((0 : Int32) = (0 : Int32)) ∧ ((p0 &&& (8 : Int32)) = (0 : Int32)) ∧ (0 : Int32) = (0 : Int32)) ∨ (((0 : Int32) = (0 : Int32)) ∧ (¬ ((p0 &&& (8 : Int32)) = (0 : Int32))) ∧ (0 : Int32) = (1 : Int32)) ∨ ((¬ ((0 : Int32) = (0 : Int32))) ∧ (0 : Int32) = (0 : Int32))) (hj47 : (((p0 &&& (16 : Int32)) = (0 : Int32)) ∧ z46 = (0 : Int32)) ∨ ((¬ ((p0 &&& (16 : Int32)) = (0 : Int32))) ∧ z46 = (1 : Int32))) (hp56 : (∃ (gg12 : Nat → Int32) (gg28 : Nat → Int32) (gg44 : Nat → Int32), ((((0 : Int32) < (((p0.toUInt32 >>> ((5 : Int32) &&& 31).toUInt32).toInt32) &&& (3 : Int32))) ∧ gg12 = (own_upd (fun _ => (0 : Int32)) 0 (nar .byte (p1.toInt8.toInt32)))) ∨ ((¬ ((0 : Int32) < (((p0.toUInt32 >>> ((5 : Int32) &&& 31).toUInt32).toInt32) &&& (3 : Int32)))) ∧ gg12 = (fun _ => (0 : Int32)))) ∧ ((((1 : Int32) < (((p0.toUInt32 >>> ((5 : Int32) &&& 31).toUInt32).toInt32) &&& (3 : Int32))) ∧ gg28 = (own_upd gg12 1 (nar .byte (((p1.toUInt32 >>> ((8 : Int32) &&& 31).toUInt32).toInt32).toInt8.toInt32)))) ∨ ((¬ ((1 : Int32) < (((p0.toUInt32 >>> ((5 : Int32) &&& 31).toUInt32).toInt32) &&& (3 : Int32)))) ∧ gg28 = gg12)) ∧ ((((2 : Int32) < (((p0.toUInt32 >>> ((5 : Int32) &&& 31).toUInt32).toInt32) &&& (3 : Int32))) ∧ gg44 = (own_upd gg28 2 (nar .byte (((p1.toUInt32 >>> ((16 : Int32) &&& 31).toUInt32).toInt32).toInt8.toInt32)))) ∨ ((¬ ((2 : Int32) < (((p0.toUInt32 >>> ((5 : Int32) &&& 31).toUInt32).toInt32) &&& (3 : Int32)))) ∧ gg44 = gg28)) ∧ b51 = gg44)) (hp65 : (∃ (gg12 : Nat → Int32) (gg28 : Nat → Int32) (gg44 : Nat → Int32), ((((0 : Int32) < (((p0.toUInt32 >>> ((7 : Int32) &&& 31).toUInt32).toInt32) &&& (3 : Int32))) ∧ gg12 = (own_upd (fun _ => (0 : Int32)) 0 (nar .byte (p2.toInt8.toInt32)))) ∨ ((¬ ((0 : Int32) < (((p0.toUInt32 >>> ((7 : Int32) &&& 31).toUInt32).toInt32) &&& (3 : Int32)))) ∧ gg12 = (fun _ => (0 : Int32)))) ∧ ((((1 : Int32) < (((p0.toUInt32 >>> ((7 : Int32) &&& 31).toUInt32).toInt32) &&& (3 : Int32))) ∧ gg28 = (own_upd gg12 1 (nar .byte (((p2.toUInt32 >>> ((8 : Int32) &&& 31).toUInt32).toInt32).toInt8.toInt32)))) ∨ ((¬ ((1 : Int32) < (((p0.toUInt32 >>> ((7 : Int32) &&& 31).toUInt32).toInt32) &&& (3 : Int32)))) ∧ gg28 = gg12)) ∧ ((((2 : Int32) < (((p0.toUInt32 >>> ((7 : Int32) &&& 31).toUInt32).toInt32) &&& (3 : Int32))) ∧ gg44 = (own_upd gg28 2 (nar .byte (((p2.toUInt32 >>> ((16 : Int32) &&& 31).toUInt32).toInt32).toInt8.toInt32)))) ∨ ((¬ ((2 : Int32) < (((p0.toUInt32 >>> ((7 : Int32) &&& 31).toUInt32).toInt32) &&& (3 : Int32)))) ∧ gg44 = gg28)) ∧ b60 = gg44)) (hv66 : (q3 &&& (9223372036854775807 : Int64)) = v66) (hj126 : ((z8 = (0 : Int32)) ∧ y94 = (9223372036854775807 : Int64)) ∨ ((¬ (z8 = (0 : Int32))) ∧ y94 = v66)) (hj178 : ((z46 = (0 : Int32)) ∧ z146 = (0 : Int32)) ∨ ((¬ (z46 = (0 : Int32))) ∧ z146 = (1 : Int32))) (hj198 : ((z8 = (0 : Int32)) ∧ y197 = (9223372036854775807 : Int64)) ∨ ((¬ (z8 = (0 : Int32))) ∧ y197 = v66)) (hp208 : own_same (0 : Int32) (0 : Int32) fn_f_EMPTY_KEY (fun _ => (0 : Int32)) o207) (c209 : ¬ (o207 = (0 : Int32))) (c217 : y94 = y197) (c221 : ¬ ((nar .boolean z146) = z46)) : False := by
  clear c217
  clear c209
  clear hp208
  clear hj198
  clear hj126
  clear hv66
  clear hp65
  clear hp56
  clear hj38
  clear hj28
  clear hj18
  clear hj9
  have k : z146 = (0 : Int32) ∨ z146 = (1 : Int32) := by grind
  simp only [own_narZ z146 k] at c221
  grind
theorem ob_0_40 (fn_f_EMPTY_KEY : Nat → Int32) (p0 : Int32) (p1 : Int32) (p2 : Int32) (q3 : Int64) (z8 : Int32) (z46 : Int32) (b51 : Nat → Int32) (b60 : Nat → Int32) (v66 : Int64) (y94 : Int64) (z146 : Int32) (y197 : Int64) (o207 : Int32) (hj9 : (((p0 &&& (1 : Int32)) = (0 : Int32)) ∧ z8 = (0 : Int32)) ∨ ((¬ ((p0 &&& (1 : Int32)) = (0 : Int32))) ∧ z8 = (1 : Int32))) (hj18 : (((p0 &&& (2 : Int32)) = (0 : Int32)) ∧ (0 : Int32) = (0 : Int32)) ∨ ((¬ ((p0 &&& (2 : Int32)) = (0 : Int32))) ∧ (0 : Int32) = (1 : Int32))) (hj28 : (((0 : Int32) = (0 : Int32)) ∧ ((p0 &&& (4 : Int32)) = (0 : Int32)) ∧ (0 : Int32) = (0 : Int32)) ∨ (((0 : Int32) = (0 : Int32)) ∧ (¬ ((p0 &&& (4 : Int32)) = (0 : Int32))) ∧ (0 : Int32) = (1 : Int32)) ∨ ((¬ ((0 : Int32) = (0 : Int32))) ∧ (0 : Int32) = (0 : Int32))) (hj38 : (((0 : Int32) = (0 : Int32)) ∧ ((p0 &&& (8 : Int32)) = (0 : Int32)) ∧ (0 : Int32) = (0 : Int32)) ∨ (((0 : Int32) = (0 : Int32)) ∧ (¬ ((p0 &&& (8 : Int32)) = (0 : Int32))) ∧ (0 : Int32) = (1 : Int32)) ∨ ((¬ ((0 : Int32) = (0 : Int32))) ∧ (0 : Int32) = (0 : Int32))) (hj47 : (((p0 &&& (16 : Int32)) = (0 : Int32)) ∧ z46 = (0 : Int32)) ∨ ((¬ ((p0 &&& (16 : Int32)) = (0 : Int32))) ∧ z46 = (1 : Int32))) (hp56 : (∃ (gg12 : Nat → Int32) (gg28 : Nat → Int32) (gg44 : Nat → Int32), ((((0 : Int32) < (((p0.toUInt32 >>> ((5 : Int32) &&& 31).toUInt32).toInt32) &&& (3 : Int32))) ∧ gg12 = (own_upd (fun _ => (0 : Int32)) 0 (nar .byte (p1.toInt8.toInt32)))) ∨ ((¬ ((0 : Int32) < (((p0.toUInt32 >>> ((5 : Int32) &&& 31).toUInt32).toInt32) &&& (3 : Int32)))) ∧ gg12 = (fun _ => (0 : Int32)))) ∧ ((((1 : Int32) < (((p0.toUInt32 >>> ((5 : Int32) &&& 31).toUInt32).toInt32) &&& (3 : Int32))) ∧ gg28 = (own_upd gg12 1 (nar .byte (((p1.toUInt32 >>> ((8 : Int32) &&& 31).toUInt32).toInt32).toInt8.toInt32)))) ∨ ((¬ ((1 : Int32) < (((p0.toUInt32 >>> ((5 : Int32) &&& 31).toUInt32).toInt32) &&& (3 : Int32)))) ∧ gg28 = gg12)) ∧ ((((2 : Int32) < (((p0.toUInt32 >>> ((5 : Int32) &&& 31).toUInt32).toInt32) &&& (3 : Int32))) ∧ gg44 = (own_upd gg28 2 (nar .byte (((p1.toUInt32 >>> ((16 : Int32) &&& 31).toUInt32).toInt32).toInt8.toInt32)))) ∨ ((¬ ((2 : Int32) < (((p0.toUInt32 >>> ((5 : Int32) &&& 31).toUInt32).toInt32) &&& (3 : Int32)))) ∧ gg44 = gg28)) ∧ b51 = gg44)) (hp65 : (∃ (gg12 : Nat → Int32) (gg28 : Nat → Int32) (gg44 : Nat → Int32), ((((0 : Int32) < (((p0.toUInt32 >>> ((7 : Int32) &&& 31).toUInt32).toInt32) &&& (3 : Int32))) ∧ gg12 = (own_upd (fun _ => (0 : Int32)) 0 (nar .byte (p2.toInt8.toInt32)))) ∨ ((¬ ((0 : Int32) < (((p0.toUInt32 >>> ((7 : Int32) &&& 31).toUInt32).toInt32) &&& (3 : Int32)))) ∧ gg12 = (fun _ => (0 : Int32)))) ∧ ((((1 : Int32) < (((p0.toUInt32 >>> ((7 : Int32) &&& 31).toUInt32).toInt32) &&& (3 : Int32))) ∧ gg28 = (own_upd gg12 1 (nar .byte (((p2.toUInt32 >>> ((8 : Int32) &&& 31).toUInt32).toInt32).toInt8.toInt32)))) ∨ ((¬ ((1 : Int32) < (((p0.toUInt32 >>> ((7 : Int32) &&& 31).toUInt32).toInt32) &&& (3 : Int32)))) ∧ gg28 = gg12)) ∧ ((((2 : Int32) < (((p0.toUInt32 >>> ((7 : Int32) &&& 31).toUInt32).toInt32) &&& (3 : Int32))) ∧ gg44 = (own_upd gg28 2 (nar .byte (((p2.toUInt32 >>> ((16 : Int32) &&& 31).toUInt32).toInt32).toInt8.toInt32)))) ∨ ((¬ ((2 : Int32) < (((p0.toUInt32 >>> ((7 : Int32) &&& 31).toUInt32).toInt32) &&& (3 : Int32)))) ∧ gg44 = gg28)) ∧ b60 = gg44)) (hv66 : (q3 &&& (9223372036854775807 : Int64)) = v66) (hj126 : ((z8 = (0 : Int32)) ∧ y94 = (9223372036854775807 : Int64)) ∨ ((¬ (z8 = (0 : Int32))) ∧ y94 = v66)) (hj178 : ((z46 = (0 : Int32)) ∧ z146 = (0 : Int32)) ∨ ((¬ (z46 = (0 : Int32))) ∧ z146 = (1 : Int32))) (hj198 : ((z8 = (0 : Int32)) ∧ y197 = (9223372036854775807 : Int64)) ∨ ((¬ (z8 = (0 : Int32))) ∧ y197 = v66)) (hp208 : own_same (0 : Int32) (0 : Int32) fn_f_EMPTY_KEY (fun _ => (0 : Int32)) o207) (c209 : ¬ (o207 = (0 : Int32))) (c217 : ¬ (y94 = y197)) : False := by
  clear c209
  clear hp208
  clear hj178
  clear hv66
  clear hp65
  clear hp56
  clear hj47
  clear hj38
  clear hj28
  clear hj18
  clear hj9
  grind
theorem ob_0_41 (fn_f_EMPTY_KEY : Nat → Int32) (p0 : Int32) (p1 : Int32) (p2 : Int32) (q3 : Int64) (z8 : Int32) (z46 : Int32) (b51 : Nat → Int32) (b60 : Nat → Int32) (v66 : Int64) (y94 : Int64) (z146 : Int32) (y250 : Int64) (o260 : Int32) (hj9 : (((p0 &&& (1 : Int32)) = (0 : Int32)) ∧ z8 = (0 : Int32)) ∨ ((¬ ((p0 &&& (1 : Int32)) = (0 : Int32))) ∧ z8 = (1 : Int32))) (hj18 : (((p0 &&& (2 : Int32)) = (0 : Int32)) ∧ (1 : Int32) = (0 : Int32)) ∨ ((¬ ((p0 &&& (2 : Int32)) = (0 : Int32))) ∧ (1 : Int32) = (1 : Int32))) (hj28 : (((1 : Int32) = (0 : Int32)) ∧ ((p0 &&& (4 : Int32)) = (0 : Int32)) ∧ (0 : Int32) = (0 : Int32)) ∨ (((1 : Int32) = (0 : Int32)) ∧ (¬ ((p0 &&& (4 : Int32)) = (0 : Int32))) ∧ (0 : Int32) = (1 : Int32)) ∨ ((¬ ((1 : Int32) = (0 : Int32))) ∧ (0 : Int32) = (0 : Int32))) (hj38 : (((1 : Int32) = (0 : Int32)) ∧ ((p0 &&& (8 : Int32)) = (0 : Int32)) ∧ (0 : Int32) = (0 : Int32)) ∨ (((1 : Int32) = (0 : Int32)) ∧ (¬ ((p0 &&& (8 : Int32)) = (0 : Int32))) ∧ (0 : Int32) = (1 : Int32)) ∨ ((¬ ((1 : Int32) = (0 : Int32))) ∧ (0 : Int32) = (0 : Int32))) (hj47 : (((p0 &&& (16 : Int32)) = (0 : Int32)) ∧ z46 = (0 : Int32)) ∨ ((¬ ((p0 &&& (16 : Int32)) = (0 : Int32))) ∧ z46 = (1 : Int32))) (hp56 : (∃ (gg12 : Nat → Int32) (gg28 : Nat → Int32) (gg44 : Nat → Int32), ((((0 : Int32) < (((p0.toUInt32 >>> ((5 : Int32) &&& 31).toUInt32).toInt32) &&& (3 : Int32))) ∧ gg12 = (own_upd (fun _ => (0 : Int32)) 0 (nar .byte (p1.toInt8.toInt32)))) ∨ ((¬ ((0 : Int32) < (((p0.toUInt32 >>> ((5 : Int32) &&& 31).toUInt32).toInt32) &&& (3 : Int32)))) ∧ gg12 = (fun _ => (0 : Int32)))) ∧ ((((1 : Int32) < (((p0.toUInt32 >>> ((5 : Int32) &&& 31).toUInt32).toInt32) &&& (3 : Int32))) ∧ gg28 = (own_upd gg12 1 (nar .byte (((p1.toUInt32 >>> ((8 : Int32) &&& 31).toUInt32).toInt32).toInt8.toInt32)))) ∨ ((¬ ((1 : Int32) < (((p0.toUInt32 >>> ((5 : Int32) &&& 31).toUInt32).toInt32) &&& (3 : Int32)))) ∧ gg28 = gg12)) ∧ ((((2 : Int32) < (((p0.toUInt32 >>> ((5 : Int32) &&& 31).toUInt32).toInt32) &&& (3 : Int32))) ∧ gg44 = (own_upd gg28 2 (nar .byte (((p1.toUInt32 >>> ((16 : Int32) &&& 31).toUInt32).toInt32).toInt8.toInt32)))) ∨ ((¬ ((2 : Int32) < (((p0.toUInt32 >>> ((5 : Int32) &&& 31).toUInt32).toInt32) &&& (3 : Int32)))) ∧ gg44 = gg28)) ∧ b51 = gg44)) (hp65 : (∃ (gg12 : Nat → Int32) (gg28 : Nat → Int32) (gg44 : Nat → Int32), ((((0 : Int32) < (((p0.toUInt32 >>> ((7 : Int32) &&& 31).toUInt32).toInt32) &&& (3 : Int32))) ∧ gg12 = (own_upd (fun _ => (0 : Int32)) 0 (nar .byte (p2.toInt8.toInt32)))) ∨ ((¬ ((0 : Int32) < (((p0.toUInt32 >>> ((7 : Int32) &&& 31).toUInt32).toInt32) &&& (3 : Int32)))) ∧ gg12 = (fun _ => (0 : Int32)))) ∧ ((((1 : Int32) < (((p0.toUInt32 >>> ((7 : Int32) &&& 31).toUInt32).toInt32) &&& (3 : Int32))) ∧ gg28 = (own_upd gg12 1 (nar .byte (((p2.toUInt32 >>> ((8 : Int32) &&& 31).toUInt32).toInt32).toInt8.toInt32)))) ∨ ((¬ ((1 : Int32) < (((p0.toUInt32 >>> ((7 : Int32) &&& 31).toUInt32).toInt32) &&& (3 : Int32)))) ∧ gg28 = gg12)) ∧ ((((2 : Int32) < (((p0.toUInt32 >>> ((7 : Int32) &&& 31).toUInt32).toInt32) &&& (3 : Int32))) ∧ gg44 = (own_upd gg28 2 (nar .byte (((p2.toUInt32 >>> ((16 : Int32) &&& 31).toUInt32).toInt32).toInt8.toInt32)))) ∨ ((¬ ((2 : Int32) < (((p0.toUInt32 >>> ((7 : Int32) &&& 31).toUInt32).toInt32) &&& (3 : Int32)))) ∧ gg44 = gg28)) ∧ b60 = gg44)) (hv66 : (q3 &&& (9223372036854775807 : Int64)) = v66) (hj126 : ((z8 = (0 : Int32)) ∧ y94 = (9223372036854775807 : Int64)) ∨ ((¬ (z8 = (0 : Int32))) ∧ y94 = v66)) (hj178 : ((z46 = (0 : Int32)) ∧ z146 = (0 : Int32)) ∨ ((¬ (z46 = (0 : Int32))) ∧ z146 = (1 : Int32))) (hj251 : ((z8 = (0 : Int32)) ∧ y250 = (9223372036854775807 : Int64)) ∨ ((¬ (z8 = (0 : Int32))) ∧ y250 = v66)) (hp261 : own_same (0 : Int32) (0 : Int32) fn_f_EMPTY_KEY (fun _ => (0 : Int32)) o260) (c262 : o260 = (0 : Int32)) : False := by
  have q := own_same0 _ _ _ hp261
  rw [q] at c262
  exact absurd c262 (by decide)
theorem ob_0_42 (fn_f_EMPTY_KEY : Nat → Int32) (p0 : Int32) (p1 : Int32) (p2 : Int32) (q3 : Int64) (z8 : Int32) (z46 : Int32) (b51 : Nat → Int32) (b60 : Nat → Int32) (v66 : Int64) (y94 : Int64) (z146 : Int32) (y250 : Int64) (o260 : Int32) (hj9 : (((p0 &&& (1 : Int32)) = (0 : Int32)) ∧ z8 = (0 : Int32)) ∨ ((¬ ((p0 &&& (1 : Int32)) = (0 : Int32))) ∧ z8 = (1 : Int32))) (hj18 : (((p0 &&& (2 : Int32)) = (0 : Int32)) ∧ (1 : Int32) = (0 : Int32)) ∨ ((¬ ((p0 &&& (2 : Int32)) = (0 : Int32))) ∧ (1 : Int32) = (1 : Int32))) (hj28 : (((1 : Int32) = (0 : Int32)) ∧ ((p0 &&& (4 : Int32)) = (0 : Int32)) ∧ (0 : Int32) = (0 : Int32)) ∨ (((1 : Int32) = (0 : Int32)) ∧ (¬ ((p0 &&& (4 : Int32)) = (0 : Int32))) ∧ (0 : Int32) = (1 : Int32)) ∨ ((¬ ((1 : Int32) = (0 : Int32))) ∧ (0 : Int32) = (0 : Int32))) (hj38 : (((1 : Int32) = (0 : Int32)) ∧ ((p0 &&& (8 : Int32)) = (0 : Int32)) ∧ (0 : Int32) = (0 : Int32)) ∨ (((1 : Int32) = (0 : Int32)) ∧ (¬ ((p0 &&& (8 : Int32)) = (0 : Int32))) ∧ (0 : Int32) = (1 : Int32)) ∨ ((¬ ((1 : Int32) = (0 : Int32))) ∧ (0 : Int32) = (0 : Int32))) (hj47 : (((p0 &&& (16 : Int32)) = (0 : Int32)) ∧ z46 = (0 : Int32)) ∨ ((¬ ((p0 &&& (16 : Int32)) = (0 : Int32))) ∧ z46 = (1 : Int32))) (hp56 : (∃ (gg12 : Nat → Int32) (gg28 : Nat → Int32) (gg44 : Nat → Int32), ((((0 : Int32) < (((p0.toUInt32 >>> ((5 : Int32) &&& 31).toUInt32).toInt32) &&& (3 : Int32))) ∧ gg12 = (own_upd (fun _ => (0 : Int32)) 0 (nar .byte (p1.toInt8.toInt32)))) ∨ ((¬ ((0 : Int32) < (((p0.toUInt32 >>> ((5 : Int32) &&& 31).toUInt32).toInt32) &&& (3 : Int32)))) ∧ gg12 = (fun _ => (0 : Int32)))) ∧ ((((1 : Int32) < (((p0.toUInt32 >>> ((5 : Int32) &&& 31).toUInt32).toInt32) &&& (3 : Int32))) ∧ gg28 = (own_upd gg12 1 (nar .byte (((p1.toUInt32 >>> ((8 : Int32) &&& 31).toUInt32).toInt32).toInt8.toInt32)))) ∨ ((¬ ((1 : Int32) < (((p0.toUInt32 >>> ((5 : Int32) &&& 31).toUInt32).toInt32) &&& (3 : Int32)))) ∧ gg28 = gg12)) ∧ ((((2 : Int32) < (((p0.toUInt32 >>> ((5 : Int32) &&& 31).toUInt32).toInt32) &&& (3 : Int32))) ∧ gg44 = (own_upd gg28 2 (nar .byte (((p1.toUInt32 >>> ((16 : Int32) &&& 31).toUInt32).toInt32).toInt8.toInt32)))) ∨ ((¬ ((2 : Int32) < (((p0.toUInt32 >>> ((5 : Int32) &&& 31).toUInt32).toInt32) &&& (3 : Int32)))) ∧ gg44 = gg28)) ∧ b51 = gg44)) (hp65 : (∃ (gg12 : Nat → Int32) (gg28 : Nat → Int32) (gg44 : Nat → Int32), ((((0 : Int32) < (((p0.toUInt32 >>> ((7 : Int32) &&& 31).toUInt32).toInt32) &&& (3 : Int32))) ∧ gg12 = (own_upd (fun _ => (0 : Int32)) 0 (nar .byte (p2.toInt8.toInt32)))) ∨ ((¬ ((0 : Int32) < (((p0.toUInt32 >>> ((7 : Int32) &&& 31).toUInt32).toInt32) &&& (3 : Int32)))) ∧ gg12 = (fun _ => (0 : Int32)))) ∧ ((((1 : Int32) < (((p0.toUInt32 >>> ((7 : Int32) &&& 31).toUInt32).toInt32) &&& (3 : Int32))) ∧ gg28 = (own_upd gg12 1 (nar .byte (((p2.toUInt32 >>> ((8 : Int32) &&& 31).toUInt32).toInt32).toInt8.toInt32)))) ∨ ((¬ ((1 : Int32) < (((p0.toUInt32 >>> ((7 : Int32) &&& 31).toUInt32).toInt32) &&& (3 : Int32)))) ∧ gg28 = gg12)) ∧ ((((2 : Int32) < (((p0.toUInt32 >>> ((7 : Int32) &&& 31).toUInt32).toInt32) &&& (3 : Int32))) ∧ gg44 = (own_upd gg28 2 (nar .byte (((p2.toUInt32 >>> ((16 : Int32) &&& 31).toUInt32).toInt32).toInt8.toInt32)))) ∨ ((¬ ((2 : Int32) < (((p0.toUInt32 >>> ((7 : Int32) &&& 31).toUInt32).toInt32) &&& (3 : Int32)))) ∧ gg44 = gg28)) ∧ b60 = gg44)) (hv66 : (q3 &&& (9223372036854775807 : Int64)) = v66) (hj126 : ((z8 = (0 : Int32)) ∧ y94 = (9223372036854775807 : Int64)) ∨ ((¬ (z8 = (0 : Int32))) ∧ y94 = v66)) (hj178 : ((z46 = (0 : Int32)) ∧ z146 = (0 : Int32)) ∨ ((¬ (z46 = (0 : Int32))) ∧ z146 = (1 : Int32))) (hj251 : ((z8 = (0 : Int32)) ∧ y250 = (9223372036854775807 : Int64)) ∨ ((¬ (z8 = (0 : Int32))) ∧ y250 = v66)) (hp261 : own_same (0 : Int32) (0 : Int32) fn_f_EMPTY_KEY (fun _ => (0 : Int32)) o260) (c262 : ¬ (o260 = (0 : Int32))) (c270 : y94 = y250) (c274 : ¬ ((nar .boolean (nar .boolean z146)) = z46)) : False := by
  clear c270
  clear c262
  clear hp261
  clear hj251
  clear hj126
  clear hv66
  clear hp65
  clear hp56
  clear hj38
  clear hj28
  clear hj18
  clear hj9
  have k : z146 = (0 : Int32) ∨ z146 = (1 : Int32) := by grind
  simp only [own_narZ z146 k] at c274
  grind
theorem ob_0_43 (fn_f_EMPTY_KEY : Nat → Int32) (p0 : Int32) (p1 : Int32) (p2 : Int32) (q3 : Int64) (z8 : Int32) (z46 : Int32) (b51 : Nat → Int32) (b60 : Nat → Int32) (v66 : Int64) (y94 : Int64) (z146 : Int32) (y250 : Int64) (o260 : Int32) (hj9 : (((p0 &&& (1 : Int32)) = (0 : Int32)) ∧ z8 = (0 : Int32)) ∨ ((¬ ((p0 &&& (1 : Int32)) = (0 : Int32))) ∧ z8 = (1 : Int32))) (hj18 : (((p0 &&& (2 : Int32)) = (0 : Int32)) ∧ (1 : Int32) = (0 : Int32)) ∨ ((¬ ((p0 &&& (2 : Int32)) = (0 : Int32))) ∧ (1 : Int32) = (1 : Int32))) (hj28 : (((1 : Int32) = (0 : Int32)) ∧ ((p0 &&& (4 : Int32)) = (0 : Int32)) ∧ (0 : Int32) = (0 : Int32)) ∨ (((1 : Int32) = (0 : Int32)) ∧ (¬ ((p0 &&& (4 : Int32)) = (0 : Int32))) ∧ (0 : Int32) = (1 : Int32)) ∨ ((¬ ((1 : Int32) = (0 : Int32))) ∧ (0 : Int32) = (0 : Int32))) (hj38 : (((1 : Int32) = (0 : Int32)) ∧ ((p0 &&& (8 : Int32)) = (0 : Int32)) ∧ (0 : Int32) = (0 : Int32)) ∨ (((1 : Int32) = (0 : Int32)) ∧ (¬ ((p0 &&& (8 : Int32)) = (0 : Int32))) ∧ (0 : Int32) = (1 : Int32)) ∨ ((¬ ((1 : Int32) = (0 : Int32))) ∧ (0 : Int32) = (0 : Int32))) (hj47 : (((p0 &&& (16 : Int32)) = (0 : Int32)) ∧ z46 = (0 : Int32)) ∨ ((¬ ((p0 &&& (16 : Int32)) = (0 : Int32))) ∧ z46 = (1 : Int32))) (hp56 : (∃ (gg12 : Nat → Int32) (gg28 : Nat → Int32) (gg44 : Nat → Int32), ((((0 : Int32) < (((p0.toUInt32 >>> ((5 : Int32) &&& 31).toUInt32).toInt32) &&& (3 : Int32))) ∧ gg12 = (own_upd (fun _ => (0 : Int32)) 0 (nar .byte (p1.toInt8.toInt32)))) ∨ ((¬ ((0 : Int32) < (((p0.toUInt32 >>> ((5 : Int32) &&& 31).toUInt32).toInt32) &&& (3 : Int32)))) ∧ gg12 = (fun _ => (0 : Int32)))) ∧ ((((1 : Int32) < (((p0.toUInt32 >>> ((5 : Int32) &&& 31).toUInt32).toInt32) &&& (3 : Int32))) ∧ gg28 = (own_upd gg12 1 (nar .byte (((p1.toUInt32 >>> ((8 : Int32) &&& 31).toUInt32).toInt32).toInt8.toInt32)))) ∨ ((¬ ((1 : Int32) < (((p0.toUInt32 >>> ((5 : Int32) &&& 31).toUInt32).toInt32) &&& (3 : Int32)))) ∧ gg28 = gg12)) ∧ ((((2 : Int32) < (((p0.toUInt32 >>> ((5 : Int32) &&& 31).toUInt32).toInt32) &&& (3 : Int32))) ∧ gg44 = (own_upd gg28 2 (nar .byte (((p1.toUInt32 >>> ((16 : Int32) &&& 31).toUInt32).toInt32).toInt8.toInt32)))) ∨ ((¬ ((2 : Int32) < (((p0.toUInt32 >>> ((5 : Int32) &&& 31).toUInt32).toInt32) &&& (3 : Int32)))) ∧ gg44 = gg28)) ∧ b51 = gg44)) (hp65 : (∃ (gg12 : Nat → Int32) (gg28 : Nat → Int32) (gg44 : Nat → Int32), ((((0 : Int32) < (((p0.toUInt32 >>> ((7 : Int32) &&& 31).toUInt32).toInt32) &&& (3 : Int32))) ∧ gg12 = (own_upd (fun _ => (0 : Int32)) 0 (nar .byte (p2.toInt8.toInt32)))) ∨ ((¬ ((0 : Int32) < (((p0.toUInt32 >>> ((7 : Int32) &&& 31).toUInt32).toInt32) &&& (3 : Int32)))) ∧ gg12 = (fun _ => (0 : Int32)))) ∧ ((((1 : Int32) < (((p0.toUInt32 >>> ((7 : Int32) &&& 31).toUInt32).toInt32) &&& (3 : Int32))) ∧ gg28 = (own_upd gg12 1 (nar .byte (((p2.toUInt32 >>> ((8 : Int32) &&& 31).toUInt32).toInt32).toInt8.toInt32)))) ∨ ((¬ ((1 : Int32) < (((p0.toUInt32 >>> ((7 : Int32) &&& 31).toUInt32).toInt32) &&& (3 : Int32)))) ∧ gg28 = gg12)) ∧ ((((2 : Int32) < (((p0.toUInt32 >>> ((7 : Int32) &&& 31).toUInt32).toInt32) &&& (3 : Int32))) ∧ gg44 = (own_upd gg28 2 (nar .byte (((p2.toUInt32 >>> ((16 : Int32) &&& 31).toUInt32).toInt32).toInt8.toInt32)))) ∨ ((¬ ((2 : Int32) < (((p0.toUInt32 >>> ((7 : Int32) &&& 31).toUInt32).toInt32) &&& (3 : Int32)))) ∧ gg44 = gg28)) ∧ b60 = gg44)) (hv66 : (q3 &&& (9223372036854775807 : Int64)) = v66) (hj126 : ((z8 = (0 : Int32)) ∧ y94 = (9223372036854775807 : Int64)) ∨ ((¬ (z8 = (0 : Int32))) ∧ y94 = v66)) (hj178 : ((z46 = (0 : Int32)) ∧ z146 = (0 : Int32)) ∨ ((¬ (z46 = (0 : Int32))) ∧ z146 = (1 : Int32))) (hj251 : ((z8 = (0 : Int32)) ∧ y250 = (9223372036854775807 : Int64)) ∨ ((¬ (z8 = (0 : Int32))) ∧ y250 = v66)) (hp261 : own_same (0 : Int32) (0 : Int32) fn_f_EMPTY_KEY (fun _ => (0 : Int32)) o260) (c262 : ¬ (o260 = (0 : Int32))) (c270 : ¬ (y94 = y250)) : False := by
  clear c262
  clear hp261
  clear hj178
  clear hv66
  clear hp65
  clear hp56
  clear hj47
  clear hj38
  clear hj28
  clear hj18
  clear hj9
  grind
theorem ob_0_44 (p0 : Int32) (p1 : Int32) (p2 : Int32) (q3 : Int64) (z8 : Int32) (z17 : Int32) (z46 : Int32) (b51 : Nat → Int32) (b60 : Nat → Int32) (v66 : Int64) (y94 : Int64) (z146 : Int32) (hj9 : (((p0 &&& (1 : Int32)) = (0 : Int32)) ∧ z8 = (0 : Int32)) ∨ ((¬ ((p0 &&& (1 : Int32)) = (0 : Int32))) ∧ z8 = (1 : Int32))) (hj18 : (((p0 &&& (2 : Int32)) = (0 : Int32)) ∧ z17 = (0 : Int32)) ∨ ((¬ ((p0 &&& (2 : Int32)) = (0 : Int32))) ∧ z17 = (1 : Int32))) (hj28 : ((z17 = (0 : Int32)) ∧ ((p0 &&& (4 : Int32)) = (0 : Int32)) ∧ (0 : Int32) = (0 : Int32)) ∨ ((z17 = (0 : Int32)) ∧ (¬ ((p0 &&& (4 : Int32)) = (0 : Int32))) ∧ (0 : Int32) = (1 : Int32)) ∨ ((¬ (z17 = (0 : Int32))) ∧ (0 : Int32) = (0 : Int32))) (hj38 : ((z17 = (0 : Int32)) ∧ ((p0 &&& (8 : Int32)) = (0 : Int32)) ∧ (1 : Int32) = (0 : Int32)) ∨ ((z17 = (0 : Int32)) ∧ (¬ ((p0 &&& (8 : Int32)) = (0 : Int32))) ∧ (1 : Int32) = (1 : Int32)) ∨ ((¬ (z17 = (0 : Int32))) ∧ (1 : Int32) = (0 : Int32))) (hj47 : (((p0 &&& (16 : Int32)) = (0 : Int32)) ∧ z46 = (0 : Int32)) ∨ ((¬ ((p0 &&& (16 : Int32)) = (0 : Int32))) ∧ z46 = (1 : Int32))) (hp56 : (∃ (gg12 : Nat → Int32) (gg28 : Nat → Int32) (gg44 : Nat → Int32), ((((0 : Int32) < (((p0.toUInt32 >>> ((5 : Int32) &&& 31).toUInt32).toInt32) &&& (3 : Int32))) ∧ gg12 = (own_upd (fun _ => (0 : Int32)) 0 (nar .byte (p1.toInt8.toInt32)))) ∨ ((¬ ((0 : Int32) < (((p0.toUInt32 >>> ((5 : Int32) &&& 31).toUInt32).toInt32) &&& (3 : Int32)))) ∧ gg12 = (fun _ => (0 : Int32)))) ∧ ((((1 : Int32) < (((p0.toUInt32 >>> ((5 : Int32) &&& 31).toUInt32).toInt32) &&& (3 : Int32))) ∧ gg28 = (own_upd gg12 1 (nar .byte (((p1.toUInt32 >>> ((8 : Int32) &&& 31).toUInt32).toInt32).toInt8.toInt32)))) ∨ ((¬ ((1 : Int32) < (((p0.toUInt32 >>> ((5 : Int32) &&& 31).toUInt32).toInt32) &&& (3 : Int32)))) ∧ gg28 = gg12)) ∧ ((((2 : Int32) < (((p0.toUInt32 >>> ((5 : Int32) &&& 31).toUInt32).toInt32) &&& (3 : Int32))) ∧ gg44 = (own_upd gg28 2 (nar .byte (((p1.toUInt32 >>> ((16 : Int32) &&& 31).toUInt32).toInt32).toInt8.toInt32)))) ∨ ((¬ ((2 : Int32) < (((p0.toUInt32 >>> ((5 : Int32) &&& 31).toUInt32).toInt32) &&& (3 : Int32)))) ∧ gg44 = gg28)) ∧ b51 = gg44)) (hp65 : (∃ (gg12 : Nat → Int32) (gg28 : Nat → Int32) (gg44 : Nat → Int32), ((((0 : Int32) < (((p0.toUInt32 >>> ((7 : Int32) &&& 31).toUInt32).toInt32) &&& (3 : Int32))) ∧ gg12 = (own_upd (fun _ => (0 : Int32)) 0 (nar .byte (p2.toInt8.toInt32)))) ∨ ((¬ ((0 : Int32) < (((p0.toUInt32 >>> ((7 : Int32) &&& 31).toUInt32).toInt32) &&& (3 : Int32)))) ∧ gg12 = (fun _ => (0 : Int32)))) ∧ ((((1 : Int32) < (((p0.toUInt32 >>> ((7 : Int32) &&& 31).toUInt32).toInt32) &&& (3 : Int32))) ∧ gg28 = (own_upd gg12 1 (nar .byte (((p2.toUInt32 >>> ((8 : Int32) &&& 31).toUInt32).toInt32).toInt8.toInt32)))) ∨ ((¬ ((1 : Int32) < (((p0.toUInt32 >>> ((7 : Int32) &&& 31).toUInt32).toInt32) &&& (3 : Int32)))) ∧ gg28 = gg12)) ∧ ((((2 : Int32) < (((p0.toUInt32 >>> ((7 : Int32) &&& 31).toUInt32).toInt32) &&& (3 : Int32))) ∧ gg44 = (own_upd gg28 2 (nar .byte (((p2.toUInt32 >>> ((16 : Int32) &&& 31).toUInt32).toInt32).toInt8.toInt32)))) ∨ ((¬ ((2 : Int32) < (((p0.toUInt32 >>> ((7 : Int32) &&& 31).toUInt32).toInt32) &&& (3 : Int32)))) ∧ gg44 = gg28)) ∧ b60 = gg44)) (hv66 : (q3 &&& (9223372036854775807 : Int64)) = v66) (hj126 : ((z8 = (0 : Int32)) ∧ y94 = (9223372036854775807 : Int64)) ∨ ((¬ (z8 = (0 : Int32))) ∧ y94 = v66)) (hj178 : ((z46 = (0 : Int32)) ∧ z146 = (0 : Int32)) ∨ ((¬ (z46 = (0 : Int32))) ∧ z146 = (1 : Int32))) : ((((p0.toUInt32 >>> ((7 : Int32) &&& 31).toUInt32).toInt32) &&& (3 : Int32))).toNatClampNeg ≤ 3 := by
  have h := own_a3 ((p0.toUInt32 >>> ((7 : Int32) &&& 31).toUInt32).toInt32)
  simp only [Int32.toNatClampNeg]
  omega
theorem ob_0_45 (p0 : Int32) (p1 : Int32) (p2 : Int32) (q3 : Int64) (z8 : Int32) (z17 : Int32) (z46 : Int32) (b51 : Nat → Int32) (b60 : Nat → Int32) (v66 : Int64) (y94 : Int64) (z146 : Int32) (hj9 : (((p0 &&& (1 : Int32)) = (0 : Int32)) ∧ z8 = (0 : Int32)) ∨ ((¬ ((p0 &&& (1 : Int32)) = (0 : Int32))) ∧ z8 = (1 : Int32))) (hj18 : (((p0 &&& (2 : Int32)) = (0 : Int32)) ∧ z17 = (0 : Int32)) ∨ ((¬ ((p0 &&& (2 : Int32)) = (0 : Int32))) ∧ z17 = (1 : Int32))) (hj28 : ((z17 = (0 : Int32)) ∧ ((p0 &&& (4 : Int32)) = (0 : Int32)) ∧ (0 : Int32) = (0 : Int32)) ∨ ((z17 = (0 : Int32)) ∧ (¬ ((p0 &&& (4 : Int32)) = (0 : Int32))) ∧ (0 : Int32) = (1 : Int32)) ∨ ((¬ (z17 = (0 : Int32))) ∧ (0 : Int32) = (0 : Int32))) (hj38 : ((z17 = (0 : Int32)) ∧ ((p0 &&& (8 : Int32)) = (0 : Int32)) ∧ (1 : Int32) = (0 : Int32)) ∨ ((z17 = (0 : Int32)) ∧ (¬ ((p0 &&& (8 : Int32)) = (0 : Int32))) ∧ (1 : Int32) = (1 : Int32)) ∨ ((¬ (z17 = (0 : Int32))) ∧ (1 : Int32) = (0 : Int32))) (hj47 : (((p0 &&& (16 : Int32)) = (0 : Int32)) ∧ z46 = (0 : Int32)) ∨ ((¬ ((p0 &&& (16 : Int32)) = (0 : Int32))) ∧ z46 = (1 : Int32))) (hp56 : (∃ (gg12 : Nat → Int32) (gg28 : Nat → Int32) (gg44 : Nat → Int32), ((((0 : Int32) < (((p0.toUInt32 >>> ((5 : Int32) &&& 31).toUInt32).toInt32) &&& (3 : Int32))) ∧ gg12 = (own_upd (fun _ => (0 : Int32)) 0 (nar .byte (p1.toInt8.toInt32)))) ∨ ((¬ ((0 : Int32) < (((p0.toUInt32 >>> ((5 : Int32) &&& 31).toUInt32).toInt32) &&& (3 : Int32)))) ∧ gg12 = (fun _ => (0 : Int32)))) ∧ ((((1 : Int32) < (((p0.toUInt32 >>> ((5 : Int32) &&& 31).toUInt32).toInt32) &&& (3 : Int32))) ∧ gg28 = (own_upd gg12 1 (nar .byte (((p1.toUInt32 >>> ((8 : Int32) &&& 31).toUInt32).toInt32).toInt8.toInt32)))) ∨ ((¬ ((1 : Int32) < (((p0.toUInt32 >>> ((5 : Int32) &&& 31).toUInt32).toInt32) &&& (3 : Int32)))) ∧ gg28 = gg12)) ∧ ((((2 : Int32) < (((p0.toUInt32 >>> ((5 : Int32) &&& 31).toUInt32).toInt32) &&& (3 : Int32))) ∧ gg44 = (own_upd gg28 2 (nar .byte (((p1.toUInt32 >>> ((16 : Int32) &&& 31).toUInt32).toInt32).toInt8.toInt32)))) ∨ ((¬ ((2 : Int32) < (((p0.toUInt32 >>> ((5 : Int32) &&& 31).toUInt32).toInt32) &&& (3 : Int32)))) ∧ gg44 = gg28)) ∧ b51 = gg44)) (hp65 : (∃ (gg12 : Nat → Int32) (gg28 : Nat → Int32) (gg44 : Nat → Int32), ((((0 : Int32) < (((p0.toUInt32 >>> ((7 : Int32) &&& 31).toUInt32).toInt32) &&& (3 : Int32))) ∧ gg12 = (own_upd (fun _ => (0 : Int32)) 0 (nar .byte (p2.toInt8.toInt32)))) ∨ ((¬ ((0 : Int32) < (((p0.toUInt32 >>> ((7 : Int32) &&& 31).toUInt32).toInt32) &&& (3 : Int32)))) ∧ gg12 = (fun _ => (0 : Int32)))) ∧ ((((1 : Int32) < (((p0.toUInt32 >>> ((7 : Int32) &&& 31).toUInt32).toInt32) &&& (3 : Int32))) ∧ gg28 = (own_upd gg12 1 (nar .byte (((p2.toUInt32 >>> ((8 : Int32) &&& 31).toUInt32).toInt32).toInt8.toInt32)))) ∨ ((¬ ((1 : Int32) < (((p0.toUInt32 >>> ((7 : Int32) &&& 31).toUInt32).toInt32) &&& (3 : Int32)))) ∧ gg28 = gg12)) ∧ ((((2 : Int32) < (((p0.toUInt32 >>> ((7 : Int32) &&& 31).toUInt32).toInt32) &&& (3 : Int32))) ∧ gg44 = (own_upd gg28 2 (nar .byte (((p2.toUInt32 >>> ((16 : Int32) &&& 31).toUInt32).toInt32).toInt8.toInt32)))) ∨ ((¬ ((2 : Int32) < (((p0.toUInt32 >>> ((7 : Int32) &&& 31).toUInt32).toInt32) &&& (3 : Int32)))) ∧ gg44 = gg28)) ∧ b60 = gg44)) (hv66 : (q3 &&& (9223372036854775807 : Int64)) = v66) (hj126 : ((z8 = (0 : Int32)) ∧ y94 = (9223372036854775807 : Int64)) ∨ ((¬ (z8 = (0 : Int32))) ∧ y94 = v66)) (hj178 : ((z46 = (0 : Int32)) ∧ z146 = (0 : Int32)) ∨ ((¬ (z46 = (0 : Int32))) ∧ z146 = (1 : Int32))) : z17 = (0 : Int32) := by
  clear hj178
  clear hj126
  clear hv66
  clear hp65
  clear hp56
  clear hj47
  clear hj28
  clear hj18
  clear hj9
  grind
theorem ob_0_46 (fn_f_EMPTY_KEY : Nat → Int32) (p0 : Int32) (p1 : Int32) (p2 : Int32) (q3 : Int64) (z8 : Int32) (z46 : Int32) (b51 : Nat → Int32) (b60 : Nat → Int32) (v66 : Int64) (y94 : Int64) (z146 : Int32) (y310 : Int64) (o320 : Int32) (hj9 : (((p0 &&& (1 : Int32)) = (0 : Int32)) ∧ z8 = (0 : Int32)) ∨ ((¬ ((p0 &&& (1 : Int32)) = (0 : Int32))) ∧ z8 = (1 : Int32))) (hj18 : (((p0 &&& (2 : Int32)) = (0 : Int32)) ∧ (0 : Int32) = (0 : Int32)) ∨ ((¬ ((p0 &&& (2 : Int32)) = (0 : Int32))) ∧ (0 : Int32) = (1 : Int32))) (hj28 : (((0 : Int32) = (0 : Int32)) ∧ ((p0 &&& (4 : Int32)) = (0 : Int32)) ∧ (0 : Int32) = (0 : Int32)) ∨ (((0 : Int32) = (0 : Int32)) ∧ (¬ ((p0 &&& (4 : Int32)) = (0 : Int32))) ∧ (0 : Int32) = (1 : Int32)) ∨ ((¬ ((0 : Int32) = (0 : Int32))) ∧ (0 : Int32) = (0 : Int32))) (hj38 : (((0 : Int32) = (0 : Int32)) ∧ ((p0 &&& (8 : Int32)) = (0 : Int32)) ∧ (1 : Int32) = (0 : Int32)) ∨ (((0 : Int32) = (0 : Int32)) ∧ (¬ ((p0 &&& (8 : Int32)) = (0 : Int32))) ∧ (1 : Int32) = (1 : Int32)) ∨ ((¬ ((0 : Int32) = (0 : Int32))) ∧ (1 : Int32) = (0 : Int32))) (hj47 : (((p0 &&& (16 : Int32)) = (0 : Int32)) ∧ z46 = (0 : Int32)) ∨ ((¬ ((p0 &&& (16 : Int32)) = (0 : Int32))) ∧ z46 = (1 : Int32))) (hp56 : (∃ (gg12 : Nat → Int32) (gg28 : Nat → Int32) (gg44 : Nat → Int32), ((((0 : Int32) < (((p0.toUInt32 >>> ((5 : Int32) &&& 31).toUInt32).toInt32) &&& (3 : Int32))) ∧ gg12 = (own_upd (fun _ => (0 : Int32)) 0 (nar .byte (p1.toInt8.toInt32)))) ∨ ((¬ ((0 : Int32) < (((p0.toUInt32 >>> ((5 : Int32) &&& 31).toUInt32).toInt32) &&& (3 : Int32)))) ∧ gg12 = (fun _ => (0 : Int32)))) ∧ ((((1 : Int32) < (((p0.toUInt32 >>> ((5 : Int32) &&& 31).toUInt32).toInt32) &&& (3 : Int32))) ∧ gg28 = (own_upd gg12 1 (nar .byte (((p1.toUInt32 >>> ((8 : Int32) &&& 31).toUInt32).toInt32).toInt8.toInt32)))) ∨ ((¬ ((1 : Int32) < (((p0.toUInt32 >>> ((5 : Int32) &&& 31).toUInt32).toInt32) &&& (3 : Int32)))) ∧ gg28 = gg12)) ∧ ((((2 : Int32) < (((p0.toUInt32 >>> ((5 : Int32) &&& 31).toUInt32).toInt32) &&& (3 : Int32))) ∧ gg44 = (own_upd gg28 2 (nar .byte (((p1.toUInt32 >>> ((16 : Int32) &&& 31).toUInt32).toInt32).toInt8.toInt32)))) ∨ ((¬ ((2 : Int32) < (((p0.toUInt32 >>> ((5 : Int32) &&& 31).toUInt32).toInt32) &&& (3 : Int32)))) ∧ gg44 = gg28)) ∧ b51 = gg44)) (hp65 : (∃ (gg12 : Nat → Int32) (gg28 : Nat → Int32) (gg44 : Nat → Int32), ((((0 : Int32) < (((p0.toUInt32 >>> ((7 : Int32) &&& 31).toUInt32).toInt32) &&& (3 : Int32))) ∧ gg12 = (own_upd (fun _ => (0 : Int32)) 0 (nar .byte (p2.toInt8.toInt32)))) ∨ ((¬ ((0 : Int32) < (((p0.toUInt32 >>> ((7 : Int32) &&& 31).toUInt32).toInt32) &&& (3 : Int32)))) ∧ gg12 = (fun _ => (0 : Int32)))) ∧ ((((1 : Int32) < (((p0.toUInt32 >>> ((7 : Int32) &&& 31).toUInt32).toInt32) &&& (3 : Int32))) ∧ gg28 = (own_upd gg12 1 (nar .byte (((p2.toUInt32 >>> ((8 : Int32) &&& 31).toUInt32).toInt32).toInt8.toInt32)))) ∨ ((¬ ((1 : Int32) < (((p0.toUInt32 >>> ((7 : Int32) &&& 31).toUInt32).toInt32) &&& (3 : Int32)))) ∧ gg28 = gg12)) ∧ ((((2 : Int32) < (((p0.toUInt32 >>> ((7 : Int32) &&& 31).toUInt32).toInt32) &&& (3 : Int32))) ∧ gg44 = (own_upd gg28 2 (nar .byte (((p2.toUInt32 >>> ((16 : Int32) &&& 31).toUInt32).toInt32).toInt8.toInt32)))) ∨ ((¬ ((2 : Int32) < (((p0.toUInt32 >>> ((7 : Int32) &&& 31).toUInt32).toInt32) &&& (3 : Int32)))) ∧ gg44 = gg28)) ∧ b60 = gg44)) (hv66 : (q3 &&& (9223372036854775807 : Int64)) = v66) (hj126 : ((z8 = (0 : Int32)) ∧ y94 = (9223372036854775807 : Int64)) ∨ ((¬ (z8 = (0 : Int32))) ∧ y94 = v66)) (hj178 : ((z46 = (0 : Int32)) ∧ z146 = (0 : Int32)) ∨ ((¬ (z46 = (0 : Int32))) ∧ z146 = (1 : Int32))) (hj311 : ((z8 = (0 : Int32)) ∧ y310 = (9223372036854775807 : Int64)) ∨ ((¬ (z8 = (0 : Int32))) ∧ y310 = v66)) (hp321 : own_same (0 : Int32) (0 : Int32) fn_f_EMPTY_KEY (fun _ => (0 : Int32)) o320) (c322 : o320 = (0 : Int32)) : False := by
  have q := own_same0 _ _ _ hp321
  rw [q] at c322
  exact absurd c322 (by decide)
theorem ob_0_47 (fn_f_EMPTY_KEY : Nat → Int32) (p0 : Int32) (p1 : Int32) (p2 : Int32) (q3 : Int64) (z8 : Int32) (z46 : Int32) (b51 : Nat → Int32) (b60 : Nat → Int32) (v66 : Int64) (y94 : Int64) (z146 : Int32) (y310 : Int64) (o320 : Int32) (o328 : Int32) (hj9 : (((p0 &&& (1 : Int32)) = (0 : Int32)) ∧ z8 = (0 : Int32)) ∨ ((¬ ((p0 &&& (1 : Int32)) = (0 : Int32))) ∧ z8 = (1 : Int32))) (hj18 : (((p0 &&& (2 : Int32)) = (0 : Int32)) ∧ (0 : Int32) = (0 : Int32)) ∨ ((¬ ((p0 &&& (2 : Int32)) = (0 : Int32))) ∧ (0 : Int32) = (1 : Int32))) (hj28 : (((0 : Int32) = (0 : Int32)) ∧ ((p0 &&& (4 : Int32)) = (0 : Int32)) ∧ (0 : Int32) = (0 : Int32)) ∨ (((0 : Int32) = (0 : Int32)) ∧ (¬ ((p0 &&& (4 : Int32)) = (0 : Int32))) ∧ (0 : Int32) = (1 : Int32)) ∨ ((¬ ((0 : Int32) = (0 : Int32))) ∧ (0 : Int32) = (0 : Int32))) (hj38 : (((0 : Int32) = (0 : Int32)) ∧ ((p0 &&& (8 : Int32)) = (0 : Int32)) ∧ (1 : Int32) = (0 : Int32)) ∨ (((0 : Int32) = (0 : Int32)) ∧ (¬ ((p0 &&& (8 : Int32)) = (0 : Int32))) ∧ (1 : Int32) = (1 : Int32)) ∨ ((¬ ((0 : Int32) = (0 : Int32))) ∧ (1 : Int32) = (0 : Int32))) (hj47 : (((p0 &&& (16 : Int32)) = (0 : Int32)) ∧ z46 = (0 : Int32)) ∨ ((¬ ((p0 &&& (16 : Int32)) = (0 : Int32))) ∧ z46 = (1 : Int32))) (hp56 : (∃ (gg12 : Nat → Int32) (gg28 : Nat → Int32) (gg44 : Nat → Int32), ((((0 : Int32) < (((p0.toUInt32 >>> ((5 : Int32) &&& 31).toUInt32).toInt32) &&& (3 : Int32))) ∧ gg12 = (own_upd (fun _ => (0 : Int32)) 0 (nar .byte (p1.toInt8.toInt32)))) ∨ ((¬ ((0 : Int32) < (((p0.toUInt32 >>> ((5 : Int32) &&& 31).toUInt32).toInt32) &&& (3 : Int32)))) ∧ gg12 = (fun _ => (0 : Int32)))) ∧ ((((1 : Int32) < (((p0.toUInt32 >>> ((5 : Int32) &&& 31).toUInt32).toInt32) &&& (3 : Int32))) ∧ gg28 = (own_upd gg12 1 (nar .byte (((p1.toUInt32 >>> ((8 : Int32) &&& 31).toUInt32).toInt32).toInt8.toInt32)))) ∨ ((¬ ((1 : Int32) < (((p0.toUInt32 >>> ((5 : Int32) &&& 31).toUInt32).toInt32) &&& (3 : Int32)))) ∧ gg28 = gg12)) ∧ ((((2 : Int32) < (((p0.toUInt32 >>> ((5 : Int32) &&& 31).toUInt32).toInt32) &&& (3 : Int32))) ∧ gg44 = (own_upd gg28 2 (nar .byte (((p1.toUInt32 >>> ((16 : Int32) &&& 31).toUInt32).toInt32).toInt8.toInt32)))) ∨ ((¬ ((2 : Int32) < (((p0.toUInt32 >>> ((5 : Int32) &&& 31).toUInt32).toInt32) &&& (3 : Int32)))) ∧ gg44 = gg28)) ∧ b51 = gg44)) (hp65 : (∃ (gg12 : Nat → Int32) (gg28 : Nat → Int32) (gg44 : Nat → Int32), ((((0 : Int32) < (((p0.toUInt32 >>> ((7 : Int32) &&& 31).toUInt32).toInt32) &&& (3 : Int32))) ∧ gg12 = (own_upd (fun _ => (0 : Int32)) 0 (nar .byte (p2.toInt8.toInt32)))) ∨ ((¬ ((0 : Int32) < (((p0.toUInt32 >>> ((7 : Int32) &&& 31).toUInt32).toInt32) &&& (3 : Int32)))) ∧ gg12 = (fun _ => (0 : Int32)))) ∧ ((((1 : Int32) < (((p0.toUInt32 >>> ((7 : Int32) &&& 31).toUInt32).toInt32) &&& (3 : Int32))) ∧ gg28 = (own_upd gg12 1 (nar .byte (((p2.toUInt32 >>> ((8 : Int32) &&& 31).toUInt32).toInt32).toInt8.toInt32)))) ∨ ((¬ ((1 : Int32) < (((p0.toUInt32 >>> ((7 : Int32) &&& 31).toUInt32).toInt32) &&& (3 : Int32)))) ∧ gg28 = gg12)) ∧ ((((2 : Int32) < (((p0.toUInt32 >>> ((7 : Int32) &&& 31).toUInt32).toInt32) &&& (3 : Int32))) ∧ gg44 = (own_upd gg28 2 (nar .byte (((p2.toUInt32 >>> ((16 : Int32) &&& 31).toUInt32).toInt32).toInt8.toInt32)))) ∨ ((¬ ((2 : Int32) < (((p0.toUInt32 >>> ((7 : Int32) &&& 31).toUInt32).toInt32) &&& (3 : Int32)))) ∧ gg44 = gg28)) ∧ b60 = gg44)) (hv66 : (q3 &&& (9223372036854775807 : Int64)) = v66) (hj126 : ((z8 = (0 : Int32)) ∧ y94 = (9223372036854775807 : Int64)) ∨ ((¬ (z8 = (0 : Int32))) ∧ y94 = v66)) (hj178 : ((z46 = (0 : Int32)) ∧ z146 = (0 : Int32)) ∨ ((¬ (z46 = (0 : Int32))) ∧ z146 = (1 : Int32))) (hj311 : ((z8 = (0 : Int32)) ∧ y310 = (9223372036854775807 : Int64)) ∨ ((¬ (z8 = (0 : Int32))) ∧ y310 = v66)) (hp321 : own_same (0 : Int32) (0 : Int32) fn_f_EMPTY_KEY (fun _ => (0 : Int32)) o320) (c322 : ¬ (o320 = (0 : Int32))) (hp329 : own_same (((p0.toUInt32 >>> ((7 : Int32) &&& 31).toUInt32).toInt32) &&& (3 : Int32)) (((p0.toUInt32 >>> ((7 : Int32) &&& 31).toUInt32).toInt32) &&& (3 : Int32)) b60 b60 o328) (c330 : o328 = (0 : Int32)) : False := by
  have q := own_sameI _ _ _ hp329
  rw [q] at c330
  exact absurd c330 (by decide)
theorem ob_0_48 (fn_f_EMPTY_KEY : Nat → Int32) (p0 : Int32) (p1 : Int32) (p2 : Int32) (q3 : Int64) (z8 : Int32) (z46 : Int32) (b51 : Nat → Int32) (b60 : Nat → Int32) (v66 : Int64) (y94 : Int64) (z146 : Int32) (y310 : Int64) (o320 : Int32) (o328 : Int32) (hj9 : (((p0 &&& (1 : Int32)) = (0 : Int32)) ∧ z8 = (0 : Int32)) ∨ ((¬ ((p0 &&& (1 : Int32)) = (0 : Int32))) ∧ z8 = (1 : Int32))) (hj18 : (((p0 &&& (2 : Int32)) = (0 : Int32)) ∧ (0 : Int32) = (0 : Int32)) ∨ ((¬ ((p0 &&& (2 : Int32)) = (0 : Int32))) ∧ (0 : Int32) = (1 : Int32))) (hj28 : (((0 : Int32) = (0 : Int32)) ∧ ((p0 &&& (4 : Int32)) = (0 : Int32)) ∧ (0 : Int32) = (0 : Int32)) ∨ (((0 : Int32) = (0 : Int32)) ∧ (¬ ((p0 &&& (4 : Int32)) = (0 : Int32))) ∧ (0 : Int32) = (1 : Int32)) ∨ ((¬ ((0 : Int32) = (0 : Int32))) ∧ (0 : Int32) = (0 : Int32))) (hj38 : (((0 : Int32) = (0 : Int32)) ∧ ((p0 &&& (8 : Int32)) = (0 : Int32)) ∧ (1 : Int32) = (0 : Int32)) ∨ (((0 : Int32) = (0 : Int32)) ∧ (¬ ((p0 &&& (8 : Int32)) = (0 : Int32))) ∧ (1 : Int32) = (1 : Int32)) ∨ ((¬ ((0 : Int32) = (0 : Int32))) ∧ (1 : Int32) = (0 : Int32))) (hj47 : (((p0 &&& (16 : Int32)) = (0 : Int32)) ∧ z46 = (0 : Int32)) ∨ ((¬ ((p0 &&& (16 : Int32)) = (0 : Int32))) ∧ z46 = (1 : Int32))) (hp56 : (∃ (gg12 : Nat → Int32) (gg28 : Nat → Int32) (gg44 : Nat → Int32), ((((0 : Int32) < (((p0.toUInt32 >>> ((5 : Int32) &&& 31).toUInt32).toInt32) &&& (3 : Int32))) ∧ gg12 = (own_upd (fun _ => (0 : Int32)) 0 (nar .byte (p1.toInt8.toInt32)))) ∨ ((¬ ((0 : Int32) < (((p0.toUInt32 >>> ((5 : Int32) &&& 31).toUInt32).toInt32) &&& (3 : Int32)))) ∧ gg12 = (fun _ => (0 : Int32)))) ∧ ((((1 : Int32) < (((p0.toUInt32 >>> ((5 : Int32) &&& 31).toUInt32).toInt32) &&& (3 : Int32))) ∧ gg28 = (own_upd gg12 1 (nar .byte (((p1.toUInt32 >>> ((8 : Int32) &&& 31).toUInt32).toInt32).toInt8.toInt32)))) ∨ ((¬ ((1 : Int32) < (((p0.toUInt32 >>> ((5 : Int32) &&& 31).toUInt32).toInt32) &&& (3 : Int32)))) ∧ gg28 = gg12)) ∧ ((((2 : Int32) < (((p0.toUInt32 >>> ((5 : Int32) &&& 31).toUInt32).toInt32) &&& (3 : Int32))) ∧ gg44 = (own_upd gg28 2 (nar .byte (((p1.toUInt32 >>> ((16 : Int32) &&& 31).toUInt32).toInt32).toInt8.toInt32)))) ∨ ((¬ ((2 : Int32) < (((p0.toUInt32 >>> ((5 : Int32) &&& 31).toUInt32).toInt32) &&& (3 : Int32)))) ∧ gg44 = gg28)) ∧ b51 = gg44)) (hp65 : (∃ (gg12 : Nat → Int32) (gg28 : Nat → Int32) (gg44 : Nat → Int32), ((((0 : Int32) < (((p0.toUInt32 >>> ((7 : Int32) &&& 31).toUInt32).toInt32) &&& (3 : Int32))) ∧ gg12 = (own_upd (fun _ => (0 : Int32)) 0 (nar .byte (p2.toInt8.toInt32)))) ∨ ((¬ ((0 : Int32) < (((p0.toUInt32 >>> ((7 : Int32) &&& 31).toUInt32).toInt32) &&& (3 : Int32)))) ∧ gg12 = (fun _ => (0 : Int32)))) ∧ ((((1 : Int32) < (((p0.toUInt32 >>> ((7 : Int32) &&& 31).toUInt32).toInt32) &&& (3 : Int32))) ∧ gg28 = (own_upd gg12 1 (nar .byte (((p2.toUInt32 >>> ((8 : Int32) &&& 31).toUInt32).toInt32).toInt8.toInt32)))) ∨ ((¬ ((1 : Int32) < (((p0.toUInt32 >>> ((7 : Int32) &&& 31).toUInt32).toInt32) &&& (3 : Int32)))) ∧ gg28 = gg12)) ∧ ((((2 : Int32) < (((p0.toUInt32 >>> ((7 : Int32) &&& 31).toUInt32).toInt32) &&& (3 : Int32))) ∧ gg44 = (own_upd gg28 2 (nar .byte (((p2.toUInt32 >>> ((16 : Int32) &&& 31).toUInt32).toInt32).toInt8.toInt32)))) ∨ ((¬ ((2 : Int32) < (((p0.toUInt32 >>> ((7 : Int32) &&& 31).toUInt32).toInt32) &&& (3 : Int32)))) ∧ gg44 = gg28)) ∧ b60 = gg44)) (hv66 : (q3 &&& (9223372036854775807 : Int64)) = v66) (hj126 : ((z8 = (0 : Int32)) ∧ y94 = (9223372036854775807 : Int64)) ∨ ((¬ (z8 = (0 : Int32))) ∧ y94 = v66)) (hj178 : ((z46 = (0 : Int32)) ∧ z146 = (0 : Int32)) ∨ ((¬ (z46 = (0 : Int32))) ∧ z146 = (1 : Int32))) (hj311 : ((z8 = (0 : Int32)) ∧ y310 = (9223372036854775807 : Int64)) ∨ ((¬ (z8 = (0 : Int32))) ∧ y310 = v66)) (hp321 : own_same (0 : Int32) (0 : Int32) fn_f_EMPTY_KEY (fun _ => (0 : Int32)) o320) (c322 : ¬ (o320 = (0 : Int32))) (hp329 : own_same (((p0.toUInt32 >>> ((7 : Int32) &&& 31).toUInt32).toInt32) &&& (3 : Int32)) (((p0.toUInt32 >>> ((7 : Int32) &&& 31).toUInt32).toInt32) &&& (3 : Int32)) b60 b60 o328) (c330 : ¬ (o328 = (0 : Int32))) (c335 : y94 = y310) (c339 : ¬ ((nar .boolean (nar .boolean z146)) = z46)) : False := by
  clear c335
  clear c330
  clear hp329
  clear c322
  clear hp321
  clear hj311
  clear hj126
  clear hv66
  clear hp65
  clear hp56
  clear hj38
  clear hj28
  clear hj18
  clear hj9
  have k : z146 = (0 : Int32) ∨ z146 = (1 : Int32) := by grind
  simp only [own_narZ z146 k] at c339
  grind
theorem ob_0_49 (fn_f_EMPTY_KEY : Nat → Int32) (p0 : Int32) (p1 : Int32) (p2 : Int32) (q3 : Int64) (z8 : Int32) (z46 : Int32) (b51 : Nat → Int32) (b60 : Nat → Int32) (v66 : Int64) (y94 : Int64) (z146 : Int32) (y310 : Int64) (o320 : Int32) (o328 : Int32) (hj9 : (((p0 &&& (1 : Int32)) = (0 : Int32)) ∧ z8 = (0 : Int32)) ∨ ((¬ ((p0 &&& (1 : Int32)) = (0 : Int32))) ∧ z8 = (1 : Int32))) (hj18 : (((p0 &&& (2 : Int32)) = (0 : Int32)) ∧ (0 : Int32) = (0 : Int32)) ∨ ((¬ ((p0 &&& (2 : Int32)) = (0 : Int32))) ∧ (0 : Int32) = (1 : Int32))) (hj28 : (((0 : Int32) = (0 : Int32)) ∧ ((p0 &&& (4 : Int32)) = (0 : Int32)) ∧ (0 : Int32) = (0 : Int32)) ∨ (((0 : Int32) = (0 : Int32)) ∧ (¬ ((p0 &&& (4 : Int32)) = (0 : Int32))) ∧ (0 : Int32) = (1 : Int32)) ∨ ((¬ ((0 : Int32) = (0 : Int32))) ∧ (0 : Int32) = (0 : Int32))) (hj38 : (((0 : Int32) = (0 : Int32)) ∧ ((p0 &&& (8 : Int32)) = (0 : Int32)) ∧ (1 : Int32) = (0 : Int32)) ∨ (((0 : Int32) = (0 : Int32)) ∧ (¬ ((p0 &&& (8 : Int32)) = (0 : Int32))) ∧ (1 : Int32) = (1 : Int32)) ∨ ((¬ ((0 : Int32) = (0 : Int32))) ∧ (1 : Int32) = (0 : Int32))) (hj47 : (((p0 &&& (16 : Int32)) = (0 : Int32)) ∧ z46 = (0 : Int32)) ∨ ((¬ ((p0 &&& (16 : Int32)) = (0 : Int32))) ∧ z46 = (1 : Int32))) (hp56 : (∃ (gg12 : Nat → Int32) (gg28 : Nat → Int32) (gg44 : Nat → Int32), ((((0 : Int32) < (((p0.toUInt32 >>> ((5 : Int32) &&& 31).toUInt32).toInt32) &&& (3 : Int32))) ∧ gg12 = (own_upd (fun _ => (0 : Int32)) 0 (nar .byte (p1.toInt8.toInt32)))) ∨ ((¬ ((0 : Int32) < (((p0.toUInt32 >>> ((5 : Int32) &&& 31).toUInt32).toInt32) &&& (3 : Int32)))) ∧ gg12 = (fun _ => (0 : Int32)))) ∧ ((((1 : Int32) < (((p0.toUInt32 >>> ((5 : Int32) &&& 31).toUInt32).toInt32) &&& (3 : Int32))) ∧ gg28 = (own_upd gg12 1 (nar .byte (((p1.toUInt32 >>> ((8 : Int32) &&& 31).toUInt32).toInt32).toInt8.toInt32)))) ∨ ((¬ ((1 : Int32) < (((p0.toUInt32 >>> ((5 : Int32) &&& 31).toUInt32).toInt32) &&& (3 : Int32)))) ∧ gg28 = gg12)) ∧ ((((2 : Int32) < (((p0.toUInt32 >>> ((5 : Int32) &&& 31).toUInt32).toInt32) &&& (3 : Int32))) ∧ gg44 = (own_upd gg28 2 (nar .byte (((p1.toUInt32 >>> ((16 : Int32) &&& 31).toUInt32).toInt32).toInt8.toInt32)))) ∨ ((¬ ((2 : Int32) < (((p0.toUInt32 >>> ((5 : Int32) &&& 31).toUInt32).toInt32) &&& (3 : Int32)))) ∧ gg44 = gg28)) ∧ b51 = gg44)) (hp65 : (∃ (gg12 : Nat → Int32) (gg28 : Nat → Int32) (gg44 : Nat → Int32), ((((0 : Int32) < (((p0.toUInt32 >>> ((7 : Int32) &&& 31).toUInt32).toInt32) &&& (3 : Int32))) ∧ gg12 = (own_upd (fun _ => (0 : Int32)) 0 (nar .byte (p2.toInt8.toInt32)))) ∨ ((¬ ((0 : Int32) < (((p0.toUInt32 >>> ((7 : Int32) &&& 31).toUInt32).toInt32) &&& (3 : Int32)))) ∧ gg12 = (fun _ => (0 : Int32)))) ∧ ((((1 : Int32) < (((p0.toUInt32 >>> ((7 : Int32) &&& 31).toUInt32).toInt32) &&& (3 : Int32))) ∧ gg28 = (own_upd gg12 1 (nar .byte (((p2.toUInt32 >>> ((8 : Int32) &&& 31).toUInt32).toInt32).toInt8.toInt32)))) ∨ ((¬ ((1 : Int32) < (((p0.toUInt32 >>> ((7 : Int32) &&& 31).toUInt32).toInt32) &&& (3 : Int32)))) ∧ gg28 = gg12)) ∧ ((((2 : Int32) < (((p0.toUInt32 >>> ((7 : Int32) &&& 31).toUInt32).toInt32) &&& (3 : Int32))) ∧ gg44 = (own_upd gg28 2 (nar .byte (((p2.toUInt32 >>> ((16 : Int32) &&& 31).toUInt32).toInt32).toInt8.toInt32)))) ∨ ((¬ ((2 : Int32) < (((p0.toUInt32 >>> ((7 : Int32) &&& 31).toUInt32).toInt32) &&& (3 : Int32)))) ∧ gg44 = gg28)) ∧ b60 = gg44)) (hv66 : (q3 &&& (9223372036854775807 : Int64)) = v66) (hj126 : ((z8 = (0 : Int32)) ∧ y94 = (9223372036854775807 : Int64)) ∨ ((¬ (z8 = (0 : Int32))) ∧ y94 = v66)) (hj178 : ((z46 = (0 : Int32)) ∧ z146 = (0 : Int32)) ∨ ((¬ (z46 = (0 : Int32))) ∧ z146 = (1 : Int32))) (hj311 : ((z8 = (0 : Int32)) ∧ y310 = (9223372036854775807 : Int64)) ∨ ((¬ (z8 = (0 : Int32))) ∧ y310 = v66)) (hp321 : own_same (0 : Int32) (0 : Int32) fn_f_EMPTY_KEY (fun _ => (0 : Int32)) o320) (c322 : ¬ (o320 = (0 : Int32))) (hp329 : own_same (((p0.toUInt32 >>> ((7 : Int32) &&& 31).toUInt32).toInt32) &&& (3 : Int32)) (((p0.toUInt32 >>> ((7 : Int32) &&& 31).toUInt32).toInt32) &&& (3 : Int32)) b60 b60 o328) (c330 : ¬ (o328 = (0 : Int32))) (c335 : ¬ (y94 = y310)) : False := by
  clear c330
  clear hp329
  clear c322
  clear hp321
  clear hj178
  clear hv66
  clear hp65
  clear hp56
  clear hj47
  clear hj38
  clear hj28
  clear hj18
  clear hj9
  grind
theorem ob_0_50 (p0 : Int32) (p1 : Int32) (p2 : Int32) (q3 : Int64) (z8 : Int32) (z17 : Int32) (z37 : Int32) (z46 : Int32) (b51 : Nat → Int32) (b60 : Nat → Int32) (v66 : Int64) (y94 : Int64) (z146 : Int32) (hj9 : (((p0 &&& (1 : Int32)) = (0 : Int32)) ∧ z8 = (0 : Int32)) ∨ ((¬ ((p0 &&& (1 : Int32)) = (0 : Int32))) ∧ z8 = (1 : Int32))) (hj18 : (((p0 &&& (2 : Int32)) = (0 : Int32)) ∧ z17 = (0 : Int32)) ∨ ((¬ ((p0 &&& (2 : Int32)) = (0 : Int32))) ∧ z17 = (1 : Int32))) (hj28 : ((z17 = (0 : Int32)) ∧ ((p0 &&& (4 : Int32)) = (0 : Int32)) ∧ (1 : Int32) = (0 : Int32)) ∨ ((z17 = (0 : Int32)) ∧ (¬ ((p0 &&& (4 : Int32)) = (0 : Int32))) ∧ (1 : Int32) = (1 : Int32)) ∨ ((¬ (z17 = (0 : Int32))) ∧ (1 : Int32) = (0 : Int32))) (hj38 : ((z17 = (0 : Int32)) ∧ ((p0 &&& (8 : Int32)) = (0 : Int32)) ∧ z37 = (0 : Int32)) ∨ ((z17 = (0 : Int32)) ∧ (¬ ((p0 &&& (8 : Int32)) = (0 : Int32))) ∧ z37 = (1 : Int32)) ∨ ((¬ (z17 = (0 : Int32))) ∧ z37 = (0 : Int32))) (hj47 : (((p0 &&& (16 : Int32)) = (0 : Int32)) ∧ z46 = (0 : Int32)) ∨ ((¬ ((p0 &&& (16 : Int32)) = (0 : Int32))) ∧ z46 = (1 : Int32))) (hp56 : (∃ (gg12 : Nat → Int32) (gg28 : Nat → Int32) (gg44 : Nat → Int32), ((((0 : Int32) < (((p0.toUInt32 >>> ((5 : Int32) &&& 31).toUInt32).toInt32) &&& (3 : Int32))) ∧ gg12 = (own_upd (fun _ => (0 : Int32)) 0 (nar .byte (p1.toInt8.toInt32)))) ∨ ((¬ ((0 : Int32) < (((p0.toUInt32 >>> ((5 : Int32) &&& 31).toUInt32).toInt32) &&& (3 : Int32)))) ∧ gg12 = (fun _ => (0 : Int32)))) ∧ ((((1 : Int32) < (((p0.toUInt32 >>> ((5 : Int32) &&& 31).toUInt32).toInt32) &&& (3 : Int32))) ∧ gg28 = (own_upd gg12 1 (nar .byte (((p1.toUInt32 >>> ((8 : Int32) &&& 31).toUInt32).toInt32).toInt8.toInt32)))) ∨ ((¬ ((1 : Int32) < (((p0.toUInt32 >>> ((5 : Int32) &&& 31).toUInt32).toInt32) &&& (3 : Int32)))) ∧ gg28 = gg12)) ∧ ((((2 : Int32) < (((p0.toUInt32 >>> ((5 : Int32) &&& 31).toUInt32).toInt32) &&& (3 : Int32))) ∧ gg44 = (own_upd gg28 2 (nar .byte (((p1.toUInt32 >>> ((16 : Int32) &&& 31).toUInt32).toInt32).toInt8.toInt32)))) ∨ ((¬ ((2 : Int32) < (((p0.toUInt32 >>> ((5 : Int32) &&& 31).toUInt32).toInt32) &&& (3 : Int32)))) ∧ gg44 = gg28)) ∧ b51 = gg44)) (hp65 : (∃ (gg12 : Nat → Int32) (gg28 : Nat → Int32) (gg44 : Nat → Int32), ((((0 : Int32) < (((p0.toUInt32 >>> ((7 : Int32) &&& 31).toUInt32).toInt32) &&& (3 : Int32))) ∧ gg12 = (own_upd (fun _ => (0 : Int32)) 0 (nar .byte (p2.toInt8.toInt32)))) ∨ ((¬ ((0 : Int32) < (((p0.toUInt32 >>> ((7 : Int32) &&& 31).toUInt32).toInt32) &&& (3 : Int32)))) ∧ gg12 = (fun _ => (0 : Int32)))) ∧ ((((1 : Int32) < (((p0.toUInt32 >>> ((7 : Int32) &&& 31).toUInt32).toInt32) &&& (3 : Int32))) ∧ gg28 = (own_upd gg12 1 (nar .byte (((p2.toUInt32 >>> ((8 : Int32) &&& 31).toUInt32).toInt32).toInt8.toInt32)))) ∨ ((¬ ((1 : Int32) < (((p0.toUInt32 >>> ((7 : Int32) &&& 31).toUInt32).toInt32) &&& (3 : Int32)))) ∧ gg28 = gg12)) ∧ ((((2 : Int32) < (((p0.toUInt32 >>> ((7 : Int32) &&& 31).toUInt32).toInt32) &&& (3 : Int32))) ∧ gg44 = (own_upd gg28 2 (nar .byte (((p2.toUInt32 >>> ((16 : Int32) &&& 31).toUInt32).toInt32).toInt8.toInt32)))) ∨ ((¬ ((2 : Int32) < (((p0.toUInt32 >>> ((7 : Int32) &&& 31).toUInt32).toInt32) &&& (3 : Int32)))) ∧ gg44 = gg28)) ∧ b60 = gg44)) (hv66 : (q3 &&& (9223372036854775807 : Int64)) = v66) (hj126 : ((z8 = (0 : Int32)) ∧ y94 = (9223372036854775807 : Int64)) ∨ ((¬ (z8 = (0 : Int32))) ∧ y94 = v66)) (hj178 : ((z46 = (0 : Int32)) ∧ z146 = (0 : Int32)) ∨ ((¬ (z46 = (0 : Int32))) ∧ z146 = (1 : Int32))) : ((((p0.toUInt32 >>> ((5 : Int32) &&& 31).toUInt32).toInt32) &&& (3 : Int32))).toNatClampNeg ≤ 3 := by
  have h := own_a3 ((p0.toUInt32 >>> ((5 : Int32) &&& 31).toUInt32).toInt32)
  simp only [Int32.toNatClampNeg]
  omega
theorem ob_0_51 (p0 : Int32) (p1 : Int32) (p2 : Int32) (q3 : Int64) (z8 : Int32) (z17 : Int32) (z37 : Int32) (z46 : Int32) (b51 : Nat → Int32) (b60 : Nat → Int32) (v66 : Int64) (y94 : Int64) (z146 : Int32) (hj9 : (((p0 &&& (1 : Int32)) = (0 : Int32)) ∧ z8 = (0 : Int32)) ∨ ((¬ ((p0 &&& (1 : Int32)) = (0 : Int32))) ∧ z8 = (1 : Int32))) (hj18 : (((p0 &&& (2 : Int32)) = (0 : Int32)) ∧ z17 = (0 : Int32)) ∨ ((¬ ((p0 &&& (2 : Int32)) = (0 : Int32))) ∧ z17 = (1 : Int32))) (hj28 : ((z17 = (0 : Int32)) ∧ ((p0 &&& (4 : Int32)) = (0 : Int32)) ∧ (1 : Int32) = (0 : Int32)) ∨ ((z17 = (0 : Int32)) ∧ (¬ ((p0 &&& (4 : Int32)) = (0 : Int32))) ∧ (1 : Int32) = (1 : Int32)) ∨ ((¬ (z17 = (0 : Int32))) ∧ (1 : Int32) = (0 : Int32))) (hj38 : ((z17 = (0 : Int32)) ∧ ((p0 &&& (8 : Int32)) = (0 : Int32)) ∧ z37 = (0 : Int32)) ∨ ((z17 = (0 : Int32)) ∧ (¬ ((p0 &&& (8 : Int32)) = (0 : Int32))) ∧ z37 = (1 : Int32)) ∨ ((¬ (z17 = (0 : Int32))) ∧ z37 = (0 : Int32))) (hj47 : (((p0 &&& (16 : Int32)) = (0 : Int32)) ∧ z46 = (0 : Int32)) ∨ ((¬ ((p0 &&& (16 : Int32)) = (0 : Int32))) ∧ z46 = (1 : Int32))) (hp56 : (∃ (gg12 : Nat → Int32) (gg28 : Nat → Int32) (gg44 : Nat → Int32), ((((0 : Int32) < (((p0.toUInt32 >>> ((5 : Int32) &&& 31).toUInt32).toInt32) &&& (3 : Int32))) ∧ gg12 = (own_upd (fun _ => (0 : Int32)) 0 (nar .byte (p1.toInt8.toInt32)))) ∨ ((¬ ((0 : Int32) < (((p0.toUInt32 >>> ((5 : Int32) &&& 31).toUInt32).toInt32) &&& (3 : Int32)))) ∧ gg12 = (fun _ => (0 : Int32)))) ∧ ((((1 : Int32) < (((p0.toUInt32 >>> ((5 : Int32) &&& 31).toUInt32).toInt32) &&& (3 : Int32))) ∧ gg28 = (own_upd gg12 1 (nar .byte (((p1.toUInt32 >>> ((8 : Int32) &&& 31).toUInt32).toInt32).toInt8.toInt32)))) ∨ ((¬ ((1 : Int32) < (((p0.toUInt32 >>> ((5 : Int32) &&& 31).toUInt32).toInt32) &&& (3 : Int32)))) ∧ gg28 = gg12)) ∧ ((((2 : Int32) < (((p0.toUInt32 >>> ((5 : Int32) &&& 31).toUInt32).toInt32) &&& (3 : Int32))) ∧ gg44 = (own_upd gg28 2 (nar .byte (((p1.toUInt32 >>> ((16 : Int32) &&& 31).toUInt32).toInt32).toInt8.toInt32)))) ∨ ((¬ ((2 : Int32) < (((p0.toUInt32 >>> ((5 : Int32) &&& 31).toUInt32).toInt32) &&& (3 : Int32)))) ∧ gg44 = gg28)) ∧ b51 = gg44)) (hp65 : (∃ (gg12 : Nat → Int32) (gg28 : Nat → Int32) (gg44 : Nat → Int32), ((((0 : Int32) < (((p0.toUInt32 >>> ((7 : Int32) &&& 31).toUInt32).toInt32) &&& (3 : Int32))) ∧ gg12 = (own_upd (fun _ => (0 : Int32)) 0 (nar .byte (p2.toInt8.toInt32)))) ∨ ((¬ ((0 : Int32) < (((p0.toUInt32 >>> ((7 : Int32) &&& 31).toUInt32).toInt32) &&& (3 : Int32)))) ∧ gg12 = (fun _ => (0 : Int32)))) ∧ ((((1 : Int32) < (((p0.toUInt32 >>> ((7 : Int32) &&& 31).toUInt32).toInt32) &&& (3 : Int32))) ∧ gg28 = (own_upd gg12 1 (nar .byte (((p2.toUInt32 >>> ((8 : Int32) &&& 31).toUInt32).toInt32).toInt8.toInt32)))) ∨ ((¬ ((1 : Int32) < (((p0.toUInt32 >>> ((7 : Int32) &&& 31).toUInt32).toInt32) &&& (3 : Int32)))) ∧ gg28 = gg12)) ∧ ((((2 : Int32) < (((p0.toUInt32 >>> ((7 : Int32) &&& 31).toUInt32).toInt32) &&& (3 : Int32))) ∧ gg44 = (own_upd gg28 2 (nar .byte (((p2.toUInt32 >>> ((16 : Int32) &&& 31).toUInt32).toInt32).toInt8.toInt32)))) ∨ ((¬ ((2 : Int32) < (((p0.toUInt32 >>> ((7 : Int32) &&& 31).toUInt32).toInt32) &&& (3 : Int32)))) ∧ gg44 = gg28)) ∧ b60 = gg44)) (hv66 : (q3 &&& (9223372036854775807 : Int64)) = v66) (hj126 : ((z8 = (0 : Int32)) ∧ y94 = (9223372036854775807 : Int64)) ∨ ((¬ (z8 = (0 : Int32))) ∧ y94 = v66)) (hj178 : ((z46 = (0 : Int32)) ∧ z146 = (0 : Int32)) ∨ ((¬ (z46 = (0 : Int32))) ∧ z146 = (1 : Int32))) : z37 = (0 : Int32) ∨ z37 = (1 : Int32) := by
  clear hj178
  clear hj126
  clear hv66
  clear hp65
  clear hp56
  clear hj47
  clear hj28
  clear hj18
  clear hj9
  grind
theorem ob_0_52 (p0 : Int32) (p1 : Int32) (p2 : Int32) (q3 : Int64) (z8 : Int32) (z17 : Int32) (z46 : Int32) (b51 : Nat → Int32) (b60 : Nat → Int32) (v66 : Int64) (y94 : Int64) (z146 : Int32) (hj9 : (((p0 &&& (1 : Int32)) = (0 : Int32)) ∧ z8 = (0 : Int32)) ∨ ((¬ ((p0 &&& (1 : Int32)) = (0 : Int32))) ∧ z8 = (1 : Int32))) (hj18 : (((p0 &&& (2 : Int32)) = (0 : Int32)) ∧ z17 = (0 : Int32)) ∨ ((¬ ((p0 &&& (2 : Int32)) = (0 : Int32))) ∧ z17 = (1 : Int32))) (hj28 : ((z17 = (0 : Int32)) ∧ ((p0 &&& (4 : Int32)) = (0 : Int32)) ∧ (1 : Int32) = (0 : Int32)) ∨ ((z17 = (0 : Int32)) ∧ (¬ ((p0 &&& (4 : Int32)) = (0 : Int32))) ∧ (1 : Int32) = (1 : Int32)) ∨ ((¬ (z17 = (0 : Int32))) ∧ (1 : Int32) = (0 : Int32))) (hj38 : ((z17 = (0 : Int32)) ∧ ((p0 &&& (8 : Int32)) = (0 : Int32)) ∧ (0 : Int32) = (0 : Int32)) ∨ ((z17 = (0 : Int32)) ∧ (¬ ((p0 &&& (8 : Int32)) = (0 : Int32))) ∧ (0 : Int32) = (1 : Int32)) ∨ ((¬ (z17 = (0 : Int32))) ∧ (0 : Int32) = (0 : Int32))) (hj47 : (((p0 &&& (16 : Int32)) = (0 : Int32)) ∧ z46 = (0 : Int32)) ∨ ((¬ ((p0 &&& (16 : Int32)) = (0 : Int32))) ∧ z46 = (1 : Int32))) (hp56 : (∃ (gg12 : Nat → Int32) (gg28 : Nat → Int32) (gg44 : Nat → Int32), ((((0 : Int32) < (((p0.toUInt32 >>> ((5 : Int32) &&& 31).toUInt32).toInt32) &&& (3 : Int32))) ∧ gg12 = (own_upd (fun _ => (0 : Int32)) 0 (nar .byte (p1.toInt8.toInt32)))) ∨ ((¬ ((0 : Int32) < (((p0.toUInt32 >>> ((5 : Int32) &&& 31).toUInt32).toInt32) &&& (3 : Int32)))) ∧ gg12 = (fun _ => (0 : Int32)))) ∧ ((((1 : Int32) < (((p0.toUInt32 >>> ((5 : Int32) &&& 31).toUInt32).toInt32) &&& (3 : Int32))) ∧ gg28 = (own_upd gg12 1 (nar .byte (((p1.toUInt32 >>> ((8 : Int32) &&& 31).toUInt32).toInt32).toInt8.toInt32)))) ∨ ((¬ ((1 : Int32) < (((p0.toUInt32 >>> ((5 : Int32) &&& 31).toUInt32).toInt32) &&& (3 : Int32)))) ∧ gg28 = gg12)) ∧ ((((2 : Int32) < (((p0.toUInt32 >>> ((5 : Int32) &&& 31).toUInt32).toInt32) &&& (3 : Int32))) ∧ gg44 = (own_upd gg28 2 (nar .byte (((p1.toUInt32 >>> ((16 : Int32) &&& 31).toUInt32).toInt32).toInt8.toInt32)))) ∨ ((¬ ((2 : Int32) < (((p0.toUInt32 >>> ((5 : Int32) &&& 31).toUInt32).toInt32) &&& (3 : Int32)))) ∧ gg44 = gg28)) ∧ b51 = gg44)) (hp65 : (∃ (gg12 : Nat → Int32) (gg28 : Nat → Int32) (gg44 : Nat → Int32), ((((0 : Int32) < (((p0.toUInt32 >>> ((7 : Int32) &&& 31).toUInt32).toInt32) &&& (3 : Int32))) ∧ gg12 = (own_upd (fun _ => (0 : Int32)) 0 (nar .byte (p2.toInt8.toInt32)))) ∨ ((¬ ((0 : Int32) < (((p0.toUInt32 >>> ((7 : Int32) &&& 31).toUInt32).toInt32) &&& (3 : Int32)))) ∧ gg12 = (fun _ => (0 : Int32)))) ∧ ((((1 : Int32) < (((p0.toUInt32 >>> ((7 : Int32) &&& 31).toUInt32).toInt32) &&& (3 : Int32))) ∧ gg28 = (own_upd gg12 1 (nar .byte (((p2.toUInt32 >>> ((8 : Int32) &&& 31).toUInt32).toInt32).toInt8.toInt32)))) ∨ ((¬ ((1 : Int32) < (((p0.toUInt32 >>> ((7 : Int32) &&& 31).toUInt32).toInt32) &&& (3 : Int32)))) ∧ gg28 = gg12)) ∧ ((((2 : Int32) < (((p0.toUInt32 >>> ((7 : Int32) &&& 31).toUInt32).toInt32) &&& (3 : Int32))) ∧ gg44 = (own_upd gg28 2 (nar .byte (((p2.toUInt32 >>> ((16 : Int32) &&& 31).toUInt32).toInt32).toInt8.toInt32)))) ∨ ((¬ ((2 : Int32) < (((p0.toUInt32 >>> ((7 : Int32) &&& 31).toUInt32).toInt32) &&& (3 : Int32)))) ∧ gg44 = gg28)) ∧ b60 = gg44)) (hv66 : (q3 &&& (9223372036854775807 : Int64)) = v66) (hj126 : ((z8 = (0 : Int32)) ∧ y94 = (9223372036854775807 : Int64)) ∨ ((¬ (z8 = (0 : Int32))) ∧ y94 = v66)) (hj178 : ((z46 = (0 : Int32)) ∧ z146 = (0 : Int32)) ∨ ((¬ (z46 = (0 : Int32))) ∧ z146 = (1 : Int32))) : z17 = (0 : Int32) := by
  clear hj178
  clear hj126
  clear hv66
  clear hp65
  clear hp56
  clear hj47
  clear hj38
  clear hj18
  clear hj9
  grind
theorem ob_0_53 (p0 : Int32) (p1 : Int32) (p2 : Int32) (q3 : Int64) (z8 : Int32) (z46 : Int32) (b51 : Nat → Int32) (b60 : Nat → Int32) (v66 : Int64) (y94 : Int64) (z146 : Int32) (y374 : Int64) (o381 : Int32) (hj9 : (((p0 &&& (1 : Int32)) = (0 : Int32)) ∧ z8 = (0 : Int32)) ∨ ((¬ ((p0 &&& (1 : Int32)) = (0 : Int32))) ∧ z8 = (1 : Int32))) (hj18 : (((p0 &&& (2 : Int32)) = (0 : Int32)) ∧ (0 : Int32) = (0 : Int32)) ∨ ((¬ ((p0 &&& (2 : Int32)) = (0 : Int32))) ∧ (0 : Int32) = (1 : Int32))) (hj28 : (((0 : Int32) = (0 : Int32)) ∧ ((p0 &&& (4 : Int32)) = (0 : Int32)) ∧ (1 : Int32) = (0 : Int32)) ∨ (((0 : Int32) = (0 : Int32)) ∧ (¬ ((p0 &&& (4 : Int32)) = (0 : Int32))) ∧ (1 : Int32) = (1 : Int32)) ∨ ((¬ ((0 : Int32) = (0 : Int32))) ∧ (1 : Int32) = (0 : Int32))) (hj38 : (((0 : Int32) = (0 : Int32)) ∧ ((p0 &&& (8 : Int32)) = (0 : Int32)) ∧ (0 : Int32) = (0 : Int32)) ∨ (((0 : Int32) = (0 : Int32)) ∧ (¬ ((p0 &&& (8 : Int32)) = (0 : Int32))) ∧ (0 : Int32) = (1 : Int32)) ∨ ((¬ ((0 : Int32) = (0 : Int32))) ∧ (0 : Int32) = (0 : Int32))) (hj47 : (((p0 &&& (16 : Int32)) = (0 : Int32)) ∧ z46 = (0 : Int32)) ∨ ((¬ ((p0 &&& (16 : Int32)) = (0 : Int32))) ∧ z46 = (1 : Int32))) (hp56 : (∃ (gg12 : Nat → Int32) (gg28 : Nat → Int32) (gg44 : Nat → Int32), ((((0 : Int32) < (((p0.toUInt32 >>> ((5 : Int32) &&& 31).toUInt32).toInt32) &&& (3 : Int32))) ∧ gg12 = (own_upd (fun _ => (0 : Int32)) 0 (nar .byte (p1.toInt8.toInt32)))) ∨ ((¬ ((0 : Int32) < (((p0.toUInt32 >>> ((5 : Int32) &&& 31).toUInt32).toInt32) &&& (3 : Int32)))) ∧ gg12 = (fun _ => (0 : Int32)))) ∧ ((((1 : Int32) < (((p0.toUInt32 >>> ((5 : Int32) &&& 31).toUInt32).toInt32) &&& (3 : Int32))) ∧ gg28 = (own_upd gg12 1 (nar .byte (((p1.toUInt32 >>> ((8 : Int32) &&& 31).toUInt32).toInt32).toInt8.toInt32)))) ∨ ((¬ ((1 : Int32) < (((p0.toUInt32 >>> ((5 : Int32) &&& 31).toUInt32).toInt32) &&& (3 : Int32)))) ∧ gg28 = gg12)) ∧ ((((2 : Int32) < (((p0.toUInt32 >>> ((5 : Int32) &&& 31).toUInt32).toInt32) &&& (3 : Int32))) ∧ gg44 = (own_upd gg28 2 (nar .byte (((p1.toUInt32 >>> ((16 : Int32) &&& 31).toUInt32).toInt32).toInt8.toInt32)))) ∨ ((¬ ((2 : Int32) < (((p0.toUInt32 >>> ((5 : Int32) &&& 31).toUInt32).toInt32) &&& (3 : Int32)))) ∧ gg44 = gg28)) ∧ b51 = gg44)) (hp65 : (∃ (gg12 : Nat → Int32) (gg28 : Nat → Int32) (gg44 : Nat → Int32), ((((0 : Int32) < (((p0.toUInt32 >>> ((7 : Int32) &&& 31).toUInt32).toInt32) &&& (3 : Int32))) ∧ gg12 = (own_upd (fun _ => (0 : Int32)) 0 (nar .byte (p2.toInt8.toInt32)))) ∨ ((¬ ((0 : Int32) < (((p0.toUInt32 >>> ((7 : Int32) &&& 31).toUInt32).toInt32) &&& (3 : Int32)))) ∧ gg12 = (fun _ => (0 : Int32)))) ∧ ((((1 : Int32) < (((p0.toUInt32 >>> ((7 : Int32) &&& 31).toUInt32).toInt32) &&& (3 : Int32))) ∧ gg28 = (own_upd gg12 1 (nar .byte (((p2.toUInt32 >>> ((8 : Int32) &&& 31).toUInt32).toInt32).toInt8.toInt32)))) ∨ ((¬ ((1 : Int32) < (((p0.toUInt32 >>> ((7 : Int32) &&& 31).toUInt32).toInt32) &&& (3 : Int32)))) ∧ gg28 = gg12)) ∧ ((((2 : Int32) < (((p0.toUInt32 >>> ((7 : Int32) &&& 31).toUInt32).toInt32) &&& (3 : Int32))) ∧ gg44 = (own_upd gg28 2 (nar .byte (((p2.toUInt32 >>> ((16 : Int32) &&& 31).toUInt32).toInt32).toInt8.toInt32)))) ∨ ((¬ ((2 : Int32) < (((p0.toUInt32 >>> ((7 : Int32) &&& 31).toUInt32).toInt32) &&& (3 : Int32)))) ∧ gg44 = gg28)) ∧ b60 = gg44)) (hv66 : (q3 &&& (9223372036854775807 : Int64)) = v66) (hj126 : ((z8 = (0 : Int32)) ∧ y94 = (9223372036854775807 : Int64)) ∨ ((¬ (z8 = (0 : Int32))) ∧ y94 = v66)) (hj178 : ((z46 = (0 : Int32)) ∧ z146 = (0 : Int32)) ∨ ((¬ (z46 = (0 : Int32))) ∧ z146 = (1 : Int32))) (hj375 : ((z8 = (0 : Int32)) ∧ y374 = (9223372036854775807 : Int64)) ∨ ((¬ (z8 = (0 : Int32))) ∧ y374 = v66)) (hp382 : own_same (((p0.toUInt32 >>> ((5 : Int32) &&& 31).toUInt32).toInt32) &&& (3 : Int32)) (((p0.toUInt32 >>> ((5 : Int32) &&& 31).toUInt32).toInt32) &&& (3 : Int32)) b51 b51 o381) (c383 : o381 = (0 : Int32)) : False := by
  have q := own_sameI _ _ _ hp382
  rw [q] at c383
  exact absurd c383 (by decide)
theorem ob_0_54 (p0 : Int32) (p1 : Int32) (p2 : Int32) (q3 : Int64) (z8 : Int32) (z46 : Int32) (b51 : Nat → Int32) (b60 : Nat → Int32) (v66 : Int64) (y94 : Int64) (z146 : Int32) (y374 : Int64) (o381 : Int32) (hj9 : (((p0 &&& (1 : Int32)) = (0 : Int32)) ∧ z8 = (0 : Int32)) ∨ ((¬ ((p0 &&& (1 : Int32)) = (0 : Int32))) ∧ z8 = (1 : Int32))) (hj18 : (((p0 &&& (2 : Int32)) = (0 : Int32)) ∧ (0 : Int32) = (0 : Int32)) ∨ ((¬ ((p0 &&& (2 : Int32)) = (0 : Int32))) ∧ (0 : Int32) = (1 : Int32))) (hj28 : (((0 : Int32) = (0 : Int32)) ∧ ((p0 &&& (4 : Int32)) = (0 : Int32)) ∧ (1 : Int32) = (0 : Int32)) ∨ (((0 : Int32) = (0 : Int32)) ∧ (¬ ((p0 &&& (4 : Int32)) = (0 : Int32))) ∧ (1 : Int32) = (1 : Int32)) ∨ ((¬ ((0 : Int32) = (0 : Int32))) ∧ (1 : Int32) = (0 : Int32))) (hj38 : (((0 : Int32) = (0 : Int32)) ∧ ((p0 &&& (8 : Int32)) = (0 : Int32)) ∧ (0 : Int32) = (0 : Int32)) ∨ (((0 : Int32) = (0 : Int32)) ∧ (¬ ((p0 &&& (8 : Int32)) = (0 : Int32))) ∧ (0 : Int32) = (1 : Int32)) ∨ ((¬ ((0 : Int32) = (0 : Int32))) ∧ (0 : Int32) = (0 : Int32))) (hj47 : (((p0 &&& (16 : Int32)) = (0 : Int32)) ∧ z46 = (0 : Int32)) ∨ ((¬ ((p0 &&& (16 : Int32)) = (0 : Int32))) ∧ z46 = (1 : Int32))) (hp56 : (∃ (gg12 : Nat → Int32) (gg28 : Nat → Int32) (gg44 : Nat → Int32), ((((0 : Int32) < (((p0.toUInt32 >>> ((5 : Int32) &&& 31).toUInt32).toInt32) &&& (3 : Int32))) ∧ gg12 = (own_upd (fun _ => (0 : Int32)) 0 (nar .byte (p1.toInt8.toInt32)))) ∨ ((¬ ((0 : Int32) < (((p0.toUInt32 >>> ((5 : Int32) &&& 31).toUInt32).toInt32) &&& (3 : Int32)))) ∧ gg12 = (fun _ => (0 : Int32)))) ∧ ((((1 : Int32) < (((p0.toUInt32 >>> ((5 : Int32) &&& 31).toUInt32).toInt32) &&& (3 : Int32))) ∧ gg28 = (own_upd gg12 1 (nar .byte (((p1.toUInt32 >>> ((8 : Int32) &&& 31).toUInt32).toInt32).toInt8.toInt32)))) ∨ ((¬ ((1 : Int32) < (((p0.toUInt32 >>> ((5 : Int32) &&& 31).toUInt32).toInt32) &&& (3 : Int32)))) ∧ gg28 = gg12)) ∧ ((((2 : Int32) < (((p0.toUInt32 >>> ((5 : Int32) &&& 31).toUInt32).toInt32) &&& (3 : Int32))) ∧ gg44 = (own_upd gg28 2 (nar .byte (((p1.toUInt32 >>> ((16 : Int32) &&& 31).toUInt32).toInt32).toInt8.toInt32)))) ∨ ((¬ ((2 : Int32) < (((p0.toUInt32 >>> ((5 : Int32) &&& 31).toUInt32).toInt32) &&& (3 : Int32)))) ∧ gg44 = gg28)) ∧ b51 = gg44)) (hp65 : (∃ (gg12 : Nat → Int32) (gg28 : Nat → Int32) (gg44 : Nat → Int32), ((((0 : Int32) < (((p0.toUInt32 >>> ((7 : Int32) &&& 31).toUInt32).toInt32) &&& (3 : Int32))) ∧ gg12 = (own_upd (fun _ => (0 : Int32)) 0 (nar .byte (p2.toInt8.toInt32)))) ∨ ((¬ ((0 : Int32) < (((p0.toUInt32 >>> ((7 : Int32) &&& 31).toUInt32).toInt32) &&& (3 : Int32)))) ∧ gg12 = (fun _ => (0 : Int32)))) ∧ ((((1 : Int32) < (((p0.toUInt32 >>> ((7 : Int32) &&& 31).toUInt32).toInt32) &&& (3 : Int32))) ∧ gg28 = (own_upd gg12 1 (nar .byte (((p2.toUInt32 >>> ((8 : Int32) &&& 31).toUInt32).toInt32).toInt8.toInt32)))) ∨ ((¬ ((1 : Int32) < (((p0.toUInt32 >>> ((7 : Int32) &&& 31).toUInt32).toInt32) &&& (3 : Int32)))) ∧ gg28 = gg12)) ∧ ((((2 : Int32) < (((p0.toUInt32 >>> ((7 : Int32) &&& 31).toUInt32).toInt32) &&& (3 : Int32))) ∧ gg44 = (own_upd gg28 2 (nar .byte (((p2.toUInt32 >>> ((16 : Int32) &&& 31).toUInt32).toInt32).toInt8.toInt32)))) ∨ ((¬ ((2 : Int32) < (((p0.toUInt32 >>> ((7 : Int32) &&& 31).toUInt32).toInt32) &&& (3 : Int32)))) ∧ gg44 = gg28)) ∧ b60 = gg44)) (hv66 : (q3 &&& (9223372036854775807 : Int64)) = v66) (hj126 : ((z8 = (0 : Int32)) ∧ y94 = (9223372036854775807 : Int64)) ∨ ((¬ (z8 = (0 : Int32))) ∧ y94 = v66)) (hj178 : ((z46 = (0 : Int32)) ∧ z146 = (0 : Int32)) ∨ ((¬ (z46 = (0 : Int32))) ∧ z146 = (1 : Int32))) (hj375 : ((z8 = (0 : Int32)) ∧ y374 = (9223372036854775807 : Int64)) ∨ ((¬ (z8 = (0 : Int32))) ∧ y374 = v66)) (hp382 : own_same (((p0.toUInt32 >>> ((5 : Int32) &&& 31).toUInt32).toInt32) &&& (3 : Int32)) (((p0.toUInt32 >>> ((5 : Int32) &&& 31).toUInt32).toInt32) &&& (3 : Int32)) b51 b51 o381) (c383 : ¬ (o381 = (0 : Int32))) (c388 : y94 = y374) (c392 : ¬ ((nar .boolean (nar .boolean z146)) = z46)) : False := by
  clear c388
  clear c383
  clear hp382
  clear hj375
  clear hj126
  clear hv66
  clear hp65
  clear hp56
  clear hj38
  clear hj28
  clear hj18
  clear hj9
  have k : z146 = (0 : Int32) ∨ z146 = (1 : Int32) := by grind
  simp only [own_narZ z146 k] at c392
  grind
theorem ob_0_55 (p0 : Int32) (p1 : Int32) (p2 : Int32) (q3 : Int64) (z8 : Int32) (z46 : Int32) (b51 : Nat → Int32) (b60 : Nat → Int32) (v66 : Int64) (y94 : Int64) (z146 : Int32) (y374 : Int64) (o381 : Int32) (hj9 : (((p0 &&& (1 : Int32)) = (0 : Int32)) ∧ z8 = (0 : Int32)) ∨ ((¬ ((p0 &&& (1 : Int32)) = (0 : Int32))) ∧ z8 = (1 : Int32))) (hj18 : (((p0 &&& (2 : Int32)) = (0 : Int32)) ∧ (0 : Int32) = (0 : Int32)) ∨ ((¬ ((p0 &&& (2 : Int32)) = (0 : Int32))) ∧ (0 : Int32) = (1 : Int32))) (hj28 : (((0 : Int32) = (0 : Int32)) ∧ ((p0 &&& (4 : Int32)) = (0 : Int32)) ∧ (1 : Int32) = (0 : Int32)) ∨ (((0 : Int32) = (0 : Int32)) ∧ (¬ ((p0 &&& (4 : Int32)) = (0 : Int32))) ∧ (1 : Int32) = (1 : Int32)) ∨ ((¬ ((0 : Int32) = (0 : Int32))) ∧ (1 : Int32) = (0 : Int32))) (hj38 : (((0 : Int32) = (0 : Int32)) ∧ ((p0 &&& (8 : Int32)) = (0 : Int32)) ∧ (0 : Int32) = (0 : Int32)) ∨ (((0 : Int32) = (0 : Int32)) ∧ (¬ ((p0 &&& (8 : Int32)) = (0 : Int32))) ∧ (0 : Int32) = (1 : Int32)) ∨ ((¬ ((0 : Int32) = (0 : Int32))) ∧ (0 : Int32) = (0 : Int32))) (hj47 : (((p0 &&& (16 : Int32)) = (0 : Int32)) ∧ z46 = (0 : Int32)) ∨ ((¬ ((p0 &&& (16 : Int32)) = (0 : Int32))) ∧ z46 = (1 : Int32))) (hp56 : (∃ (gg12 : Nat → Int32) (gg28 : Nat → Int32) (gg44 : Nat → Int32), ((((0 : Int32) < (((p0.toUInt32 >>> ((5 : Int32) &&& 31).toUInt32).toInt32) &&& (3 : Int32))) ∧ gg12 = (own_upd (fun _ => (0 : Int32)) 0 (nar .byte (p1.toInt8.toInt32)))) ∨ ((¬ ((0 : Int32) < (((p0.toUInt32 >>> ((5 : Int32) &&& 31).toUInt32).toInt32) &&& (3 : Int32)))) ∧ gg12 = (fun _ => (0 : Int32)))) ∧ ((((1 : Int32) < (((p0.toUInt32 >>> ((5 : Int32) &&& 31).toUInt32).toInt32) &&& (3 : Int32))) ∧ gg28 = (own_upd gg12 1 (nar .byte (((p1.toUInt32 >>> ((8 : Int32) &&& 31).toUInt32).toInt32).toInt8.toInt32)))) ∨ ((¬ ((1 : Int32) < (((p0.toUInt32 >>> ((5 : Int32) &&& 31).toUInt32).toInt32) &&& (3 : Int32)))) ∧ gg28 = gg12)) ∧ ((((2 : Int32) < (((p0.toUInt32 >>> ((5 : Int32) &&& 31).toUInt32).toInt32) &&& (3 : Int32))) ∧ gg44 = (own_upd gg28 2 (nar .byte (((p1.toUInt32 >>> ((16 : Int32) &&& 31).toUInt32).toInt32).toInt8.toInt32)))) ∨ ((¬ ((2 : Int32) < (((p0.toUInt32 >>> ((5 : Int32) &&& 31).toUInt32).toInt32) &&& (3 : Int32)))) ∧ gg44 = gg28)) ∧ b51 = gg44)) (hp65 : (∃ (gg12 : Nat → Int32) (gg28 : Nat → Int32) (gg44 : Nat → Int32), ((((0 : Int32) < (((p0.toUInt32 >>> ((7 : Int32) &&& 31).toUInt32).toInt32) &&& (3 : Int32))) ∧ gg12 = (own_upd (fun _ => (0 : Int32)) 0 (nar .byte (p2.toInt8.toInt32)))) ∨ ((¬ ((0 : Int32) < (((p0.toUInt32 >>> ((7 : Int32) &&& 31).toUInt32).toInt32) &&& (3 : Int32)))) ∧ gg12 = (fun _ => (0 : Int32)))) ∧ ((((1 : Int32) < (((p0.toUInt32 >>> ((7 : Int32) &&& 31).toUInt32).toInt32) &&& (3 : Int32))) ∧ gg28 = (own_upd gg12 1 (nar .byte (((p2.toUInt32 >>> ((8 : Int32) &&& 31).toUInt32).toInt32).toInt8.toInt32)))) ∨ ((¬ ((1 : Int32) < (((p0.toUInt32 >>> ((7 : Int32) &&& 31).toUInt32).toInt32) &&& (3 : Int32)))) ∧ gg28 = gg12)) ∧ ((((2 : Int32) < (((p0.toUInt32 >>> ((7 : Int32) &&& 31).toUInt32).toInt32) &&& (3 : Int32))) ∧ gg44 = (own_upd gg28 2 (nar .byte (((p2.toUInt32 >>> ((16 : Int32) &&& 31).toUInt32).toInt32).toInt8.toInt32)))) ∨ ((¬ ((2 : Int32) < (((p0.toUInt32 >>> ((7 : Int32) &&& 31).toUInt32).toInt32) &&& (3 : Int32)))) ∧ gg44 = gg28)) ∧ b60 = gg44)) (hv66 : (q3 &&& (9223372036854775807 : Int64)) = v66) (hj126 : ((z8 = (0 : Int32)) ∧ y94 = (9223372036854775807 : Int64)) ∨ ((¬ (z8 = (0 : Int32))) ∧ y94 = v66)) (hj178 : ((z46 = (0 : Int32)) ∧ z146 = (0 : Int32)) ∨ ((¬ (z46 = (0 : Int32))) ∧ z146 = (1 : Int32))) (hj375 : ((z8 = (0 : Int32)) ∧ y374 = (9223372036854775807 : Int64)) ∨ ((¬ (z8 = (0 : Int32))) ∧ y374 = v66)) (hp382 : own_same (((p0.toUInt32 >>> ((5 : Int32) &&& 31).toUInt32).toInt32) &&& (3 : Int32)) (((p0.toUInt32 >>> ((5 : Int32) &&& 31).toUInt32).toInt32) &&& (3 : Int32)) b51 b51 o381) (c383 : ¬ (o381 = (0 : Int32))) (c388 : ¬ (y94 = y374)) : False := by
  clear c383
  clear hp382
  clear hj178
  clear hv66
  clear hp65
  clear hp56
  clear hj47
  clear hj38
  clear hj28
  clear hj18
  clear hj9
  grind
theorem ob_0_56 (p0 : Int32) (p1 : Int32) (p2 : Int32) (q3 : Int64) (z8 : Int32) (z17 : Int32) (z46 : Int32) (b51 : Nat → Int32) (b60 : Nat → Int32) (v66 : Int64) (y94 : Int64) (z146 : Int32) (hj9 : (((p0 &&& (1 : Int32)) = (0 : Int32)) ∧ z8 = (0 : Int32)) ∨ ((¬ ((p0 &&& (1 : Int32)) = (0 : Int32))) ∧ z8 = (1 : Int32))) (hj18 : (((p0 &&& (2 : Int32)) = (0 : Int32)) ∧ z17 = (0 : Int32)) ∨ ((¬ ((p0 &&& (2 : Int32)) = (0 : Int32))) ∧ z17 = (1 : Int32))) (hj28 : ((z17 = (0 : Int32)) ∧ ((p0 &&& (4 : Int32)) = (0 : Int32)) ∧ (1 : Int32) = (0 : Int32)) ∨ ((z17 = (0 : Int32)) ∧ (¬ ((p0 &&& (4 : Int32)) = (0 : Int32))) ∧ (1 : Int32) = (1 : Int32)) ∨ ((¬ (z17 = (0 : Int32))) ∧ (1 : Int32) = (0 : Int32))) (hj38 : ((z17 = (0 : Int32)) ∧ ((p0 &&& (8 : Int32)) = (0 : Int32)) ∧ (1 : Int32) = (0 : Int32)) ∨ ((z17 = (0 : Int32)) ∧ (¬ ((p0 &&& (8 : Int32)) = (0 : Int32))) ∧ (1 : Int32) = (1 : Int32)) ∨ ((¬ (z17 = (0 : Int32))) ∧ (1 : Int32) = (0 : Int32))) (hj47 : (((p0 &&& (16 : Int32)) = (0 : Int32)) ∧ z46 = (0 : Int32)) ∨ ((¬ ((p0 &&& (16 : Int32)) = (0 : Int32))) ∧ z46 = (1 : Int32))) (hp56 : (∃ (gg12 : Nat → Int32) (gg28 : Nat → Int32) (gg44 : Nat → Int32), ((((0 : Int32) < (((p0.toUInt32 >>> ((5 : Int32) &&& 31).toUInt32).toInt32) &&& (3 : Int32))) ∧ gg12 = (own_upd (fun _ => (0 : Int32)) 0 (nar .byte (p1.toInt8.toInt32)))) ∨ ((¬ ((0 : Int32) < (((p0.toUInt32 >>> ((5 : Int32) &&& 31).toUInt32).toInt32) &&& (3 : Int32)))) ∧ gg12 = (fun _ => (0 : Int32)))) ∧ ((((1 : Int32) < (((p0.toUInt32 >>> ((5 : Int32) &&& 31).toUInt32).toInt32) &&& (3 : Int32))) ∧ gg28 = (own_upd gg12 1 (nar .byte (((p1.toUInt32 >>> ((8 : Int32) &&& 31).toUInt32).toInt32).toInt8.toInt32)))) ∨ ((¬ ((1 : Int32) < (((p0.toUInt32 >>> ((5 : Int32) &&& 31).toUInt32).toInt32) &&& (3 : Int32)))) ∧ gg28 = gg12)) ∧ ((((2 : Int32) < (((p0.toUInt32 >>> ((5 : Int32) &&& 31).toUInt32).toInt32) &&& (3 : Int32))) ∧ gg44 = (own_upd gg28 2 (nar .byte (((p1.toUInt32 >>> ((16 : Int32) &&& 31).toUInt32).toInt32).toInt8.toInt32)))) ∨ ((¬ ((2 : Int32) < (((p0.toUInt32 >>> ((5 : Int32) &&& 31).toUInt32).toInt32) &&& (3 : Int32)))) ∧ gg44 = gg28)) ∧ b51 = gg44)) (hp65 : (∃ (gg12 : Nat → Int32) (gg28 : Nat → Int32) (gg44 : Nat → Int32), ((((0 : Int32) < (((p0.toUInt32 >>> ((7 : Int32) &&& 31).toUInt32).toInt32) &&& (3 : Int32))) ∧ gg12 = (own_upd (fun _ => (0 : Int32)) 0 (nar .byte (p2.toInt8.toInt32)))) ∨ ((¬ ((0 : Int32) < (((p0.toUInt32 >>> ((7 : Int32) &&& 31).toUInt32).toInt32) &&& (3 : Int32)))) ∧ gg12 = (fun _ => (0 : Int32)))) ∧ ((((1 : Int32) < (((p0.toUInt32 >>> ((7 : Int32) &&& 31).toUInt32).toInt32) &&& (3 : Int32))) ∧ gg28 = (own_upd gg12 1 (nar .byte (((p2.toUInt32 >>> ((8 : Int32) &&& 31).toUInt32).toInt32).toInt8.toInt32)))) ∨ ((¬ ((1 : Int32) < (((p0.toUInt32 >>> ((7 : Int32) &&& 31).toUInt32).toInt32) &&& (3 : Int32)))) ∧ gg28 = gg12)) ∧ ((((2 : Int32) < (((p0.toUInt32 >>> ((7 : Int32) &&& 31).toUInt32).toInt32) &&& (3 : Int32))) ∧ gg44 = (own_upd gg28 2 (nar .byte (((p2.toUInt32 >>> ((16 : Int32) &&& 31).toUInt32).toInt32).toInt8.toInt32)))) ∨ ((¬ ((2 : Int32) < (((p0.toUInt32 >>> ((7 : Int32) &&& 31).toUInt32).toInt32) &&& (3 : Int32)))) ∧ gg44 = gg28)) ∧ b60 = gg44)) (hv66 : (q3 &&& (9223372036854775807 : Int64)) = v66) (hj126 : ((z8 = (0 : Int32)) ∧ y94 = (9223372036854775807 : Int64)) ∨ ((¬ (z8 = (0 : Int32))) ∧ y94 = v66)) (hj178 : ((z46 = (0 : Int32)) ∧ z146 = (0 : Int32)) ∨ ((¬ (z46 = (0 : Int32))) ∧ z146 = (1 : Int32))) : ((((p0.toUInt32 >>> ((7 : Int32) &&& 31).toUInt32).toInt32) &&& (3 : Int32))).toNatClampNeg ≤ 3 := by
  have h := own_a3 ((p0.toUInt32 >>> ((7 : Int32) &&& 31).toUInt32).toInt32)
  simp only [Int32.toNatClampNeg]
  omega
theorem ob_0_57 (p0 : Int32) (p1 : Int32) (p2 : Int32) (q3 : Int64) (z8 : Int32) (z17 : Int32) (z46 : Int32) (b51 : Nat → Int32) (b60 : Nat → Int32) (v66 : Int64) (y94 : Int64) (z146 : Int32) (hj9 : (((p0 &&& (1 : Int32)) = (0 : Int32)) ∧ z8 = (0 : Int32)) ∨ ((¬ ((p0 &&& (1 : Int32)) = (0 : Int32))) ∧ z8 = (1 : Int32))) (hj18 : (((p0 &&& (2 : Int32)) = (0 : Int32)) ∧ z17 = (0 : Int32)) ∨ ((¬ ((p0 &&& (2 : Int32)) = (0 : Int32))) ∧ z17 = (1 : Int32))) (hj28 : ((z17 = (0 : Int32)) ∧ ((p0 &&& (4 : Int32)) = (0 : Int32)) ∧ (1 : Int32) = (0 : Int32)) ∨ ((z17 = (0 : Int32)) ∧ (¬ ((p0 &&& (4 : Int32)) = (0 : Int32))) ∧ (1 : Int32) = (1 : Int32)) ∨ ((¬ (z17 = (0 : Int32))) ∧ (1 : Int32) = (0 : Int32))) (hj38 : ((z17 = (0 : Int32)) ∧ ((p0 &&& (8 : Int32)) = (0 : Int32)) ∧ (1 : Int32) = (0 : Int32)) ∨ ((z17 = (0 : Int32)) ∧ (¬ ((p0 &&& (8 : Int32)) = (0 : Int32))) ∧ (1 : Int32) = (1 : Int32)) ∨ ((¬ (z17 = (0 : Int32))) ∧ (1 : Int32) = (0 : Int32))) (hj47 : (((p0 &&& (16 : Int32)) = (0 : Int32)) ∧ z46 = (0 : Int32)) ∨ ((¬ ((p0 &&& (16 : Int32)) = (0 : Int32))) ∧ z46 = (1 : Int32))) (hp56 : (∃ (gg12 : Nat → Int32) (gg28 : Nat → Int32) (gg44 : Nat → Int32), ((((0 : Int32) < (((p0.toUInt32 >>> ((5 : Int32) &&& 31).toUInt32).toInt32) &&& (3 : Int32))) ∧ gg12 = (own_upd (fun _ => (0 : Int32)) 0 (nar .byte (p1.toInt8.toInt32)))) ∨ ((¬ ((0 : Int32) < (((p0.toUInt32 >>> ((5 : Int32) &&& 31).toUInt32).toInt32) &&& (3 : Int32)))) ∧ gg12 = (fun _ => (0 : Int32)))) ∧ ((((1 : Int32) < (((p0.toUInt32 >>> ((5 : Int32) &&& 31).toUInt32).toInt32) &&& (3 : Int32))) ∧ gg28 = (own_upd gg12 1 (nar .byte (((p1.toUInt32 >>> ((8 : Int32) &&& 31).toUInt32).toInt32).toInt8.toInt32)))) ∨ ((¬ ((1 : Int32) < (((p0.toUInt32 >>> ((5 : Int32) &&& 31).toUInt32).toInt32) &&& (3 : Int32)))) ∧ gg28 = gg12)) ∧ ((((2 : Int32) < (((p0.toUInt32 >>> ((5 : Int32) &&& 31).toUInt32).toInt32) &&& (3 : Int32))) ∧ gg44 = (own_upd gg28 2 (nar .byte (((p1.toUInt32 >>> ((16 : Int32) &&& 31).toUInt32).toInt32).toInt8.toInt32)))) ∨ ((¬ ((2 : Int32) < (((p0.toUInt32 >>> ((5 : Int32) &&& 31).toUInt32).toInt32) &&& (3 : Int32)))) ∧ gg44 = gg28)) ∧ b51 = gg44)) (hp65 : (∃ (gg12 : Nat → Int32) (gg28 : Nat → Int32) (gg44 : Nat → Int32), ((((0 : Int32) < (((p0.toUInt32 >>> ((7 : Int32) &&& 31).toUInt32).toInt32) &&& (3 : Int32))) ∧ gg12 = (own_upd (fun _ => (0 : Int32)) 0 (nar .byte (p2.toInt8.toInt32)))) ∨ ((¬ ((0 : Int32) < (((p0.toUInt32 >>> ((7 : Int32) &&& 31).toUInt32).toInt32) &&& (3 : Int32)))) ∧ gg12 = (fun _ => (0 : Int32)))) ∧ ((((1 : Int32) < (((p0.toUInt32 >>> ((7 : Int32) &&& 31).toUInt32).toInt32) &&& (3 : Int32))) ∧ gg28 = (own_upd gg12 1 (nar .byte (((p2.toUInt32 >>> ((8 : Int32) &&& 31).toUInt32).toInt32).toInt8.toInt32)))) ∨ ((¬ ((1 : Int32) < (((p0.toUInt32 >>> ((7 : Int32) &&& 31).toUInt32).toInt32) &&& (3 : Int32)))) ∧ gg28 = gg12)) ∧ ((((2 : Int32) < (((p0.toUInt32 >>> ((7 : Int32) &&& 31).toUInt32).toInt32) &&& (3 : Int32))) ∧ gg44 = (own_upd gg28 2 (nar .byte (((p2.toUInt32 >>> ((16 : Int32) &&& 31).toUInt32).toInt32).toInt8.toInt32)))) ∨ ((¬ ((2 : Int32) < (((p0.toUInt32 >>> ((7 : Int32) &&& 31).toUInt32).toInt32) &&& (3 : Int32)))) ∧ gg44 = gg28)) ∧ b60 = gg44)) (hv66 : (q3 &&& (9223372036854775807 : Int64)) = v66) (hj126 : ((z8 = (0 : Int32)) ∧ y94 = (9223372036854775807 : Int64)) ∨ ((¬ (z8 = (0 : Int32))) ∧ y94 = v66)) (hj178 : ((z46 = (0 : Int32)) ∧ z146 = (0 : Int32)) ∨ ((¬ (z46 = (0 : Int32))) ∧ z146 = (1 : Int32))) : z17 = (0 : Int32) := by
  clear hj178
  clear hj126
  clear hv66
  clear hp65
  clear hp56
  clear hj47
  clear hj18
  clear hj9
  grind
theorem ob_0_58 (p0 : Int32) (p1 : Int32) (p2 : Int32) (q3 : Int64) (z8 : Int32) (z46 : Int32) (b51 : Nat → Int32) (b60 : Nat → Int32) (v66 : Int64) (y94 : Int64) (z146 : Int32) (y429 : Int64) (o436 : Int32) (hj9 : (((p0 &&& (1 : Int32)) = (0 : Int32)) ∧ z8 = (0 : Int32)) ∨ ((¬ ((p0 &&& (1 : Int32)) = (0 : Int32))) ∧ z8 = (1 : Int32))) (hj18 : (((p0 &&& (2 : Int32)) = (0 : Int32)) ∧ (0 : Int32) = (0 : Int32)) ∨ ((¬ ((p0 &&& (2 : Int32)) = (0 : Int32))) ∧ (0 : Int32) = (1 : Int32))) (hj28 : (((0 : Int32) = (0 : Int32)) ∧ ((p0 &&& (4 : Int32)) = (0 : Int32)) ∧ (1 : Int32) = (0 : Int32)) ∨ (((0 : Int32) = (0 : Int32)) ∧ (¬ ((p0 &&& (4 : Int32)) = (0 : Int32))) ∧ (1 : Int32) = (1 : Int32)) ∨ ((¬ ((0 : Int32) = (0 : Int32))) ∧ (1 : Int32) = (0 : Int32))) (hj38 : (((0 : Int32) = (0 : Int32)) ∧ ((p0 &&& (8 : Int32)) = (0 : Int32)) ∧ (1 : Int32) = (0 : Int32)) ∨ (((0 : Int32) = (0 : Int32)) ∧ (¬ ((p0 &&& (8 : Int32)) = (0 : Int32))) ∧ (1 : Int32) = (1 : Int32)) ∨ ((¬ ((0 : Int32) = (0 : Int32))) ∧ (1 : Int32) = (0 : Int32))) (hj47 : (((p0 &&& (16 : Int32)) = (0 : Int32)) ∧ z46 = (0 : Int32)) ∨ ((¬ ((p0 &&& (16 : Int32)) = (0 : Int32))) ∧ z46 = (1 : Int32))) (hp56 : (∃ (gg12 : Nat → Int32) (gg28 : Nat → Int32) (gg44 : Nat → Int32), ((((0 : Int32) < (((p0.toUInt32 >>> ((5 : Int32) &&& 31).toUInt32).toInt32) &&& (3 : Int32))) ∧ gg12 = (own_upd (fun _ => (0 : Int32)) 0 (nar .byte (p1.toInt8.toInt32)))) ∨ ((¬ ((0 : Int32) < (((p0.toUInt32 >>> ((5 : Int32) &&& 31).toUInt32).toInt32) &&& (3 : Int32)))) ∧ gg12 = (fun _ => (0 : Int32)))) ∧ ((((1 : Int32) < (((p0.toUInt32 >>> ((5 : Int32) &&& 31).toUInt32).toInt32) &&& (3 : Int32))) ∧ gg28 = (own_upd gg12 1 (nar .byte (((p1.toUInt32 >>> ((8 : Int32) &&& 31).toUInt32).toInt32).toInt8.toInt32)))) ∨ ((¬ ((1 : Int32) < (((p0.toUInt32 >>> ((5 : Int32) &&& 31).toUInt32).toInt32) &&& (3 : Int32)))) ∧ gg28 = gg12)) ∧ ((((2 : Int32) < (((p0.toUInt32 >>> ((5 : Int32) &&& 31).toUInt32).toInt32) &&& (3 : Int32))) ∧ gg44 = (own_upd gg28 2 (nar .byte (((p1.toUInt32 >>> ((16 : Int32) &&& 31).toUInt32).toInt32).toInt8.toInt32)))) ∨ ((¬ ((2 : Int32) < (((p0.toUInt32 >>> ((5 : Int32) &&& 31).toUInt32).toInt32) &&& (3 : Int32)))) ∧ gg44 = gg28)) ∧ b51 = gg44)) (hp65 : (∃ (gg12 : Nat → Int32) (gg28 : Nat → Int32) (gg44 : Nat → Int32), ((((0 : Int32) < (((p0.toUInt32 >>> ((7 : Int32) &&& 31).toUInt32).toInt32) &&& (3 : Int32))) ∧ gg12 = (own_upd (fun _ => (0 : Int32)) 0 (nar .byte (p2.toInt8.toInt32)))) ∨ ((¬ ((0 : Int32) < (((p0.toUInt32 >>> ((7 : Int32) &&& 31).toUInt32).toInt32) &&& (3 : Int32)))) ∧ gg12 = (fun _ => (0 : Int32)))) ∧ ((((1 : Int32) < (((p0.toUInt32 >>> ((7 : Int32) &&& 31).toUInt32).toInt32) &&& (3 : Int32))) ∧ gg28 = (own_upd gg12 1 (nar .byte (((p2.toUInt32 >>> ((8 : Int32) &&& 31).toUInt32).toInt32).toInt8.toInt32)))) ∨ ((¬ ((1 : Int32) < (((p0.toUInt32 >>> ((7 : Int32) &&& 31).toUInt32).toInt32) &&& (3 : Int32)))) ∧ gg28 = gg12)) ∧ ((((2 : Int32) < (((p0.toUInt32 >>> ((7 : Int32) &&& 31).toUInt32).toInt32) &&& (3 : Int32))) ∧ gg44 = (own_upd gg28 2 (nar .byte (((p2.toUInt32 >>> ((16 : Int32) &&& 31).toUInt32).toInt32).toInt8.toInt32)))) ∨ ((¬ ((2 : Int32) < (((p0.toUInt32 >>> ((7 : Int32) &&& 31).toUInt32).toInt32) &&& (3 : Int32)))) ∧ gg44 = gg28)) ∧ b60 = gg44)) (hv66 : (q3 &&& (9223372036854775807 : Int64)) = v66) (hj126 : ((z8 = (0 : Int32)) ∧ y94 = (9223372036854775807 : Int64)) ∨ ((¬ (z8 = (0 : Int32))) ∧ y94 = v66)) (hj178 : ((z46 = (0 : Int32)) ∧ z146 = (0 : Int32)) ∨ ((¬ (z46 = (0 : Int32))) ∧ z146 = (1 : Int32))) (hj430 : ((z8 = (0 : Int32)) ∧ y429 = (9223372036854775807 : Int64)) ∨ ((¬ (z8 = (0 : Int32))) ∧ y429 = v66)) (hp437 : own_same (((p0.toUInt32 >>> ((5 : Int32) &&& 31).toUInt32).toInt32) &&& (3 : Int32)) (((p0.toUInt32 >>> ((5 : Int32) &&& 31).toUInt32).toInt32) &&& (3 : Int32)) b51 b51 o436) (c438 : o436 = (0 : Int32)) : False := by
  have q := own_sameI _ _ _ hp437
  rw [q] at c438
  exact absurd c438 (by decide)
theorem ob_0_59 (p0 : Int32) (p1 : Int32) (p2 : Int32) (q3 : Int64) (z8 : Int32) (z46 : Int32) (b51 : Nat → Int32) (b60 : Nat → Int32) (v66 : Int64) (y94 : Int64) (z146 : Int32) (y429 : Int64) (o436 : Int32) (o443 : Int32) (hj9 : (((p0 &&& (1 : Int32)) = (0 : Int32)) ∧ z8 = (0 : Int32)) ∨ ((¬ ((p0 &&& (1 : Int32)) = (0 : Int32))) ∧ z8 = (1 : Int32))) (hj18 : (((p0 &&& (2 : Int32)) = (0 : Int32)) ∧ (0 : Int32) = (0 : Int32)) ∨ ((¬ ((p0 &&& (2 : Int32)) = (0 : Int32))) ∧ (0 : Int32) = (1 : Int32))) (hj28 : (((0 : Int32) = (0 : Int32)) ∧ ((p0 &&& (4 : Int32)) = (0 : Int32)) ∧ (1 : Int32) = (0 : Int32)) ∨ (((0 : Int32) = (0 : Int32)) ∧ (¬ ((p0 &&& (4 : Int32)) = (0 : Int32))) ∧ (1 : Int32) = (1 : Int32)) ∨ ((¬ ((0 : Int32) = (0 : Int32))) ∧ (1 : Int32) = (0 : Int32))) (hj38 : (((0 : Int32) = (0 : Int32)) ∧ ((p0 &&& (8 : Int32)) = (0 : Int32)) ∧ (1 : Int32) = (0 : Int32)) ∨ (((0 : Int32) = (0 : Int32)) ∧ (¬ ((p0 &&& (8 : Int32)) = (0 : Int32))) ∧ (1 : Int32) = (1 : Int32)) ∨ ((¬ ((0 : Int32) = (0 : Int32))) ∧ (1 : Int32) = (0 : Int32))) (hj47 : (((p0 &&& (16 : Int32)) = (0 : Int32)) ∧ z46 = (0 : Int32)) ∨ ((¬ ((p0 &&& (16 : Int32)) = (0 : Int32))) ∧ z46 = (1 : Int32))) (hp56 : (∃ (gg12 : Nat → Int32) (gg28 : Nat → Int32) (gg44 : Nat → Int32), ((((0 : Int32) < (((p0.toUInt32 >>> ((5 : Int32) &&& 31).toUInt32).toInt32) &&& (3 : Int32))) ∧ gg12 = (own_upd (fun _ => (0 : Int32)) 0 (nar .byte (p1.toInt8.toInt32)))) ∨ ((¬ ((0 : Int32) < (((p0.toUInt32 >>> ((5 : Int32) &&& 31).toUInt32).toInt32) &&& (3 : Int32)))) ∧ gg12 = (fun _ => (0 : Int32)))) ∧ ((((1 : Int32) < (((p0.toUInt32 >>> ((5 : Int32) &&& 31).toUInt32).toInt32) &&& (3 : Int32))) ∧ gg28 = (own_upd gg12 1 (nar .byte (((p1.toUInt32 >>> ((8 : Int32) &&& 31).toUInt32).toInt32).toInt8.toInt32)))) ∨ ((¬ ((1 : Int32) < (((p0.toUInt32 >>> ((5 : Int32) &&& 31).toUInt32).toInt32) &&& (3 : Int32)))) ∧ gg28 = gg12)) ∧ ((((2 : Int32) < (((p0.toUInt32 >>> ((5 : Int32) &&& 31).toUInt32).toInt32) &&& (3 : Int32))) ∧ gg44 = (own_upd gg28 2 (nar .byte (((p1.toUInt32 >>> ((16 : Int32) &&& 31).toUInt32).toInt32).toInt8.toInt32)))) ∨ ((¬ ((2 : Int32) < (((p0.toUInt32 >>> ((5 : Int32) &&& 31).toUInt32).toInt32) &&& (3 : Int32)))) ∧ gg44 = gg28)) ∧ b51 = gg44)) (hp65 : (∃ (gg12 : Nat → Int32) (gg28 : Nat → Int32) (gg44 : Nat → Int32), ((((0 : Int32) < (((p0.toUInt32 >>> ((7 : Int32) &&& 31).toUInt32).toInt32) &&& (3 : Int32))) ∧ gg12 = (own_upd (fun _ => (0 : Int32)) 0 (nar .byte (p2.toInt8.toInt32)))) ∨ ((¬ ((0 : Int32) < (((p0.toUInt32 >>> ((7 : Int32) &&& 31).toUInt32).toInt32) &&& (3 : Int32)))) ∧ gg12 = (fun _ => (0 : Int32)))) ∧ ((((1 : Int32) < (((p0.toUInt32 >>> ((7 : Int32) &&& 31).toUInt32).toInt32) &&& (3 : Int32))) ∧ gg28 = (own_upd gg12 1 (nar .byte (((p2.toUInt32 >>> ((8 : Int32) &&& 31).toUInt32).toInt32).toInt8.toInt32)))) ∨ ((¬ ((1 : Int32) < (((p0.toUInt32 >>> ((7 : Int32) &&& 31).toUInt32).toInt32) &&& (3 : Int32)))) ∧ gg28 = gg12)) ∧ ((((2 : Int32) < (((p0.toUInt32 >>> ((7 : Int32) &&& 31).toUInt32).toInt32) &&& (3 : Int32))) ∧ gg44 = (own_upd gg28 2 (nar .byte (((p2.toUInt32 >>> ((16 : Int32) &&& 31).toUInt32).toInt32).toInt8.toInt32)))) ∨ ((¬ ((2 : Int32) < (((p0.toUInt32 >>> ((7 : Int32) &&& 31).toUInt32).toInt32) &&& (3 : Int32)))) ∧ gg44 = gg28)) ∧ b60 = gg44)) (hv66 : (q3 &&& (9223372036854775807 : Int64)) = v66) (hj126 : ((z8 = (0 : Int32)) ∧ y94 = (9223372036854775807 : Int64)) ∨ ((¬ (z8 = (0 : Int32))) ∧ y94 = v66)) (hj178 : ((z46 = (0 : Int32)) ∧ z146 = (0 : Int32)) ∨ ((¬ (z46 = (0 : Int32))) ∧ z146 = (1 : Int32))) (hj430 : ((z8 = (0 : Int32)) ∧ y429 = (9223372036854775807 : Int64)) ∨ ((¬ (z8 = (0 : Int32))) ∧ y429 = v66)) (hp437 : own_same (((p0.toUInt32 >>> ((5 : Int32) &&& 31).toUInt32).toInt32) &&& (3 : Int32)) (((p0.toUInt32 >>> ((5 : Int32) &&& 31).toUInt32).toInt32) &&& (3 : Int32)) b51 b51 o436) (c438 : ¬ (o436 = (0 : Int32))) (hp444 : own_same (((p0.toUInt32 >>> ((7 : Int32) &&& 31).toUInt32).toInt32) &&& (3 : Int32)) (((p0.toUInt32 >>> ((7 : Int32) &&& 31).toUInt32).toInt32) &&& (3 : Int32)) b60 b60 o443) (c445 : o443 = (0 : Int32)) : False := by
  have q := own_sameI _ _ _ hp444
  rw [q] at c445
  exact absurd c445 (by decide)
theorem ob_0_60 (p0 : Int32) (p1 : Int32) (p2 : Int32) (q3 : Int64) (z8 : Int32) (z46 : Int32) (b51 : Nat → Int32) (b60 : Nat → Int32) (v66 : Int64) (y94 : Int64) (z146 : Int32) (y429 : Int64) (o436 : Int32) (o443 : Int32) (hj9 : (((p0 &&& (1 : Int32)) = (0 : Int32)) ∧ z8 = (0 : Int32)) ∨ ((¬ ((p0 &&& (1 : Int32)) = (0 : Int32))) ∧ z8 = (1 : Int32))) (hj18 : (((p0 &&& (2 : Int32)) = (0 : Int32)) ∧ (0 : Int32) = (0 : Int32)) ∨ ((¬ ((p0 &&& (2 : Int32)) = (0 : Int32))) ∧ (0 : Int32) = (1 : Int32))) (hj28 : (((0 : Int32) = (0 : Int32)) ∧ ((p0 &&& (4 : Int32)) = (0 : Int32)) ∧ (1 : Int32) = (0 : Int32)) ∨ (((0 : Int32) = (0 : Int32)) ∧ (¬ ((p0 &&& (4 : Int32)) = (0 : Int32))) ∧ (1 : Int32) = (1 : Int32)) ∨ ((¬ ((0 : Int32) = (0 : Int32))) ∧ (1 : Int32) = (0 : Int32))) (hj38 : (((0 : Int32) = (0 : Int32)) ∧ ((p0 &&& (8 : Int32)) = (0 : Int32)) ∧ (1 : Int32) = (0 : Int32)) ∨ (((0 : Int32) = (0 : Int32)) ∧ (¬ ((p0 &&& (8 : Int32)) = (0 : Int32))) ∧ (1 : Int32) = (1 : Int32)) ∨ ((¬ ((0 : Int32) = (0 : Int32))) ∧ (1 : Int32) = (0 : Int32))) (hj47 : (((p0 &&& (16 : Int32)) = (0 : Int32)) ∧ z46 = (0 : Int32)) ∨ ((¬ ((p0 &&& (16 : Int32)) = (0 : Int32))) ∧ z46 = (1 : Int32))) (hp56 : (∃ (gg12 : Nat → Int32) (gg28 : Nat → Int32) (gg44 : Nat → Int32), ((((0 : Int32) < (((p0.toUInt32 >>> ((5 : Int32) &&& 31).toUInt32).toInt32) &&& (3 : Int32))) ∧ gg12 = (own_upd (fun _ => (0 : Int32)) 0 (nar .byte (p1.toInt8.toInt32)))) ∨ ((¬ ((0 : Int32) < (((p0.toUInt32 >>> ((5 : Int32) &&& 31).toUInt32).toInt32) &&& (3 : Int32)))) ∧ gg12 = (fun _ => (0 : Int32)))) ∧ ((((1 : Int32) < (((p0.toUInt32 >>> ((5 : Int32) &&& 31).toUInt32).toInt32) &&& (3 : Int32))) ∧ gg28 = (own_upd gg12 1 (nar .byte (((p1.toUInt32 >>> ((8 : Int32) &&& 31).toUInt32).toInt32).toInt8.toInt32)))) ∨ ((¬ ((1 : Int32) < (((p0.toUInt32 >>> ((5 : Int32) &&& 31).toUInt32).toInt32) &&& (3 : Int32)))) ∧ gg28 = gg12)) ∧ ((((2 : Int32) < (((p0.toUInt32 >>> ((5 : Int32) &&& 31).toUInt32).toInt32) &&& (3 : Int32))) ∧ gg44 = (own_upd gg28 2 (nar .byte (((p1.toUInt32 >>> ((16 : Int32) &&& 31).toUInt32).toInt32).toInt8.toInt32)))) ∨ ((¬ ((2 : Int32) < (((p0.toUInt32 >>> ((5 : Int32) &&& 31).toUInt32).toInt32) &&& (3 : Int32)))) ∧ gg44 = gg28)) ∧ b51 = gg44)) (hp65 : (∃ (gg12 : Nat → Int32) (gg28 : Nat → Int32) (gg44 : Nat → Int32), ((((0 : Int32) < (((p0.toUInt32 >>> ((7 : Int32) &&& 31).toUInt32).toInt32) &&& (3 : Int32))) ∧ gg12 = (own_upd (fun _ => (0 : Int32)) 0 (nar .byte (p2.toInt8.toInt32)))) ∨ ((¬ ((0 : Int32) < (((p0.toUInt32 >>> ((7 : Int32) &&& 31).toUInt32).toInt32) &&& (3 : Int32)))) ∧ gg12 = (fun _ => (0 : Int32)))) ∧ ((((1 : Int32) < (((p0.toUInt32 >>> ((7 : Int32) &&& 31).toUInt32).toInt32) &&& (3 : Int32))) ∧ gg28 = (own_upd gg12 1 (nar .byte (((p2.toUInt32 >>> ((8 : Int32) &&& 31).toUInt32).toInt32).toInt8.toInt32)))) ∨ ((¬ ((1 : Int32) < (((p0.toUInt32 >>> ((7 : Int32) &&& 31).toUInt32).toInt32) &&& (3 : Int32)))) ∧ gg28 = gg12)) ∧ ((((2 : Int32) < (((p0.toUInt32 >>> ((7 : Int32) &&& 31).toUInt32).toInt32) &&& (3 : Int32))) ∧ gg44 = (own_upd gg28 2 (nar .byte (((p2.toUInt32 >>> ((16 : Int32) &&& 31).toUInt32).toInt32).toInt8.toInt32)))) ∨ ((¬ ((2 : Int32) < (((p0.toUInt32 >>> ((7 : Int32) &&& 31).toUInt32).toInt32) &&& (3 : Int32)))) ∧ gg44 = gg28)) ∧ b60 = gg44)) (hv66 : (q3 &&& (9223372036854775807 : Int64)) = v66) (hj126 : ((z8 = (0 : Int32)) ∧ y94 = (9223372036854775807 : Int64)) ∨ ((¬ (z8 = (0 : Int32))) ∧ y94 = v66)) (hj178 : ((z46 = (0 : Int32)) ∧ z146 = (0 : Int32)) ∨ ((¬ (z46 = (0 : Int32))) ∧ z146 = (1 : Int32))) (hj430 : ((z8 = (0 : Int32)) ∧ y429 = (9223372036854775807 : Int64)) ∨ ((¬ (z8 = (0 : Int32))) ∧ y429 = v66)) (hp437 : own_same (((p0.toUInt32 >>> ((5 : Int32) &&& 31).toUInt32).toInt32) &&& (3 : Int32)) (((p0.toUInt32 >>> ((5 : Int32) &&& 31).toUInt32).toInt32) &&& (3 : Int32)) b51 b51 o436) (c438 : ¬ (o436 = (0 : Int32))) (hp444 : own_same (((p0.toUInt32 >>> ((7 : Int32) &&& 31).toUInt32).toInt32) &&& (3 : Int32)) (((p0.toUInt32 >>> ((7 : Int32) &&& 31).toUInt32).toInt32) &&& (3 : Int32)) b60 b60 o443) (c445 : ¬ (o443 = (0 : Int32))) (c448 : y94 = y429) (c452 : ¬ ((nar .boolean (nar .boolean (nar .boolean z146))) = z46)) : False := by
  clear c448
  clear c445
  clear hp444
  clear c438
  clear hp437
  clear hj430
  clear hj126
  clear hv66
  clear hp65
  clear hp56
  clear hj38
  clear hj28
  clear hj18
  clear hj9
  have k : z146 = (0 : Int32) ∨ z146 = (1 : Int32) := by grind
  simp only [own_narZ z146 k] at c452
  grind
theorem ob_0_61 (p0 : Int32) (p1 : Int32) (p2 : Int32) (q3 : Int64) (z8 : Int32) (z46 : Int32) (b51 : Nat → Int32) (b60 : Nat → Int32) (v66 : Int64) (y94 : Int64) (z146 : Int32) (y429 : Int64) (o436 : Int32) (o443 : Int32) (hj9 : (((p0 &&& (1 : Int32)) = (0 : Int32)) ∧ z8 = (0 : Int32)) ∨ ((¬ ((p0 &&& (1 : Int32)) = (0 : Int32))) ∧ z8 = (1 : Int32))) (hj18 : (((p0 &&& (2 : Int32)) = (0 : Int32)) ∧ (0 : Int32) = (0 : Int32)) ∨ ((¬ ((p0 &&& (2 : Int32)) = (0 : Int32))) ∧ (0 : Int32) = (1 : Int32))) (hj28 : (((0 : Int32) = (0 : Int32)) ∧ ((p0 &&& (4 : Int32)) = (0 : Int32)) ∧ (1 : Int32) = (0 : Int32)) ∨ (((0 : Int32) = (0 : Int32)) ∧ (¬ ((p0 &&& (4 : Int32)) = (0 : Int32))) ∧ (1 : Int32) = (1 : Int32)) ∨ ((¬ ((0 : Int32) = (0 : Int32))) ∧ (1 : Int32) = (0 : Int32))) (hj38 : (((0 : Int32) = (0 : Int32)) ∧ ((p0 &&& (8 : Int32)) = (0 : Int32)) ∧ (1 : Int32) = (0 : Int32)) ∨ (((0 : Int32) = (0 : Int32)) ∧ (¬ ((p0 &&& (8 : Int32)) = (0 : Int32))) ∧ (1 : Int32) = (1 : Int32)) ∨ ((¬ ((0 : Int32) = (0 : Int32))) ∧ (1 : Int32) = (0 : Int32))) (hj47 : (((p0 &&& (16 : Int32)) = (0 : Int32)) ∧ z46 = (0 : Int32)) ∨ ((¬ ((p0 &&& (16 : Int32)) = (0 : Int32))) ∧ z46 = (1 : Int32))) (hp56 : (∃ (gg12 : Nat → Int32) (gg28 : Nat → Int32) (gg44 : Nat → Int32), ((((0 : Int32) < (((p0.toUInt32 >>> ((5 : Int32) &&& 31).toUInt32).toInt32) &&& (3 : Int32))) ∧ gg12 = (own_upd (fun _ => (0 : Int32)) 0 (nar .byte (p1.toInt8.toInt32)))) ∨ ((¬ ((0 : Int32) < (((p0.toUInt32 >>> ((5 : Int32) &&& 31).toUInt32).toInt32) &&& (3 : Int32)))) ∧ gg12 = (fun _ => (0 : Int32)))) ∧ ((((1 : Int32) < (((p0.toUInt32 >>> ((5 : Int32) &&& 31).toUInt32).toInt32) &&& (3 : Int32))) ∧ gg28 = (own_upd gg12 1 (nar .byte (((p1.toUInt32 >>> ((8 : Int32) &&& 31).toUInt32).toInt32).toInt8.toInt32)))) ∨ ((¬ ((1 : Int32) < (((p0.toUInt32 >>> ((5 : Int32) &&& 31).toUInt32).toInt32) &&& (3 : Int32)))) ∧ gg28 = gg12)) ∧ ((((2 : Int32) < (((p0.toUInt32 >>> ((5 : Int32) &&& 31).toUInt32).toInt32) &&& (3 : Int32))) ∧ gg44 = (own_upd gg28 2 (nar .byte (((p1.toUInt32 >>> ((16 : Int32) &&& 31).toUInt32).toInt32).toInt8.toInt32)))) ∨ ((¬ ((2 : Int32) < (((p0.toUInt32 >>> ((5 : Int32) &&& 31).toUInt32).toInt32) &&& (3 : Int32)))) ∧ gg44 = gg28)) ∧ b51 = gg44)) (hp65 : (∃ (gg12 : Nat → Int32) (gg28 : Nat → Int32) (gg44 : Nat → Int32), ((((0 : Int32) < (((p0.toUInt32 >>> ((7 : Int32) &&& 31).toUInt32).toInt32) &&& (3 : Int32))) ∧ gg12 = (own_upd (fun _ => (0 : Int32)) 0 (nar .byte (p2.toInt8.toInt32)))) ∨ ((¬ ((0 : Int32) < (((p0.toUInt32 >>> ((7 : Int32) &&& 31).toUInt32).toInt32) &&& (3 : Int32)))) ∧ gg12 = (fun _ => (0 : Int32)))) ∧ ((((1 : Int32) < (((p0.toUInt32 >>> ((7 : Int32) &&& 31).toUInt32).toInt32) &&& (3 : Int32))) ∧ gg28 = (own_upd gg12 1 (nar .byte (((p2.toUInt32 >>> ((8 : Int32) &&& 31).toUInt32).toInt32).toInt8.toInt32)))) ∨ ((¬ ((1 : Int32) < (((p0.toUInt32 >>> ((7 : Int32) &&& 31).toUInt32).toInt32) &&& (3 : Int32)))) ∧ gg28 = gg12)) ∧ ((((2 : Int32) < (((p0.toUInt32 >>> ((7 : Int32) &&& 31).toUInt32).toInt32) &&& (3 : Int32))) ∧ gg44 = (own_upd gg28 2 (nar .byte (((p2.toUInt32 >>> ((16 : Int32) &&& 31).toUInt32).toInt32).toInt8.toInt32)))) ∨ ((¬ ((2 : Int32) < (((p0.toUInt32 >>> ((7 : Int32) &&& 31).toUInt32).toInt32) &&& (3 : Int32)))) ∧ gg44 = gg28)) ∧ b60 = gg44)) (hv66 : (q3 &&& (9223372036854775807 : Int64)) = v66) (hj126 : ((z8 = (0 : Int32)) ∧ y94 = (9223372036854775807 : Int64)) ∨ ((¬ (z8 = (0 : Int32))) ∧ y94 = v66)) (hj178 : ((z46 = (0 : Int32)) ∧ z146 = (0 : Int32)) ∨ ((¬ (z46 = (0 : Int32))) ∧ z146 = (1 : Int32))) (hj430 : ((z8 = (0 : Int32)) ∧ y429 = (9223372036854775807 : Int64)) ∨ ((¬ (z8 = (0 : Int32))) ∧ y429 = v66)) (hp437 : own_same (((p0.toUInt32 >>> ((5 : Int32) &&& 31).toUInt32).toInt32) &&& (3 : Int32)) (((p0.toUInt32 >>> ((5 : Int32) &&& 31).toUInt32).toInt32) &&& (3 : Int32)) b51 b51 o436) (c438 : ¬ (o436 = (0 : Int32))) (hp444 : own_same (((p0.toUInt32 >>> ((7 : Int32) &&& 31).toUInt32).toInt32) &&& (3 : Int32)) (((p0.toUInt32 >>> ((7 : Int32) &&& 31).toUInt32).toInt32) &&& (3 : Int32)) b60 b60 o443) (c445 : ¬ (o443 = (0 : Int32))) (c448 : ¬ (y94 = y429)) : False := by
  clear c445
  clear hp444
  clear c438
  clear hp437
  clear hj178
  clear hv66
  clear hp65
  clear hp56
  clear hj47
  clear hj38
  clear hj28
  clear hj18
  clear hj9
  grind
theorem ob_0_62 (p0 : Int32) (p1 : Int32) (p2 : Int32) (q3 : Int64) (z8 : Int32) (z17 : Int32) (z27 : Int32) (z37 : Int32) (z46 : Int32) (b51 : Nat → Int32) (b60 : Nat → Int32) (v66 : Int64) (hj9 : (((p0 &&& (1 : Int32)) = (0 : Int32)) ∧ z8 = (0 : Int32)) ∨ ((¬ ((p0 &&& (1 : Int32)) = (0 : Int32))) ∧ z8 = (1 : Int32))) (hj18 : (((p0 &&& (2 : Int32)) = (0 : Int32)) ∧ z17 = (0 : Int32)) ∨ ((¬ ((p0 &&& (2 : Int32)) = (0 : Int32))) ∧ z17 = (1 : Int32))) (hj28 : ((z17 = (0 : Int32)) ∧ ((p0 &&& (4 : Int32)) = (0 : Int32)) ∧ z27 = (0 : Int32)) ∨ ((z17 = (0 : Int32)) ∧ (¬ ((p0 &&& (4 : Int32)) = (0 : Int32))) ∧ z27 = (1 : Int32)) ∨ ((¬ (z17 = (0 : Int32))) ∧ z27 = (0 : Int32))) (hj38 : ((z17 = (0 : Int32)) ∧ ((p0 &&& (8 : Int32)) = (0 : Int32)) ∧ z37 = (0 : Int32)) ∨ ((z17 = (0 : Int32)) ∧ (¬ ((p0 &&& (8 : Int32)) = (0 : Int32))) ∧ z37 = (1 : Int32)) ∨ ((¬ (z17 = (0 : Int32))) ∧ z37 = (0 : Int32))) (hj47 : (((p0 &&& (16 : Int32)) = (0 : Int32)) ∧ z46 = (0 : Int32)) ∨ ((¬ ((p0 &&& (16 : Int32)) = (0 : Int32))) ∧ z46 = (1 : Int32))) (hp56 : (∃ (gg12 : Nat → Int32) (gg28 : Nat → Int32) (gg44 : Nat → Int32), ((((0 : Int32) < (((p0.toUInt32 >>> ((5 : Int32) &&& 31).toUInt32).toInt32) &&& (3 : Int32))) ∧ gg12 = (own_upd (fun _ => (0 : Int32)) 0 (nar .byte (p1.toInt8.toInt32)))) ∨ ((¬ ((0 : Int32) < (((p0.toUInt32 >>> ((5 : Int32) &&& 31).toUInt32).toInt32) &&& (3 : Int32)))) ∧ gg12 = (fun _ => (0 : Int32)))) ∧ ((((1 : Int32) < (((p0.toUInt32 >>> ((5 : Int32) &&& 31).toUInt32).toInt32) &&& (3 : Int32))) ∧ gg28 = (own_upd gg12 1 (nar .byte (((p1.toUInt32 >>> ((8 : Int32) &&& 31).toUInt32).toInt32).toInt8.toInt32)))) ∨ ((¬ ((1 : Int32) < (((p0.toUInt32 >>> ((5 : Int32) &&& 31).toUInt32).toInt32) &&& (3 : Int32)))) ∧ gg28 = gg12)) ∧ ((((2 : Int32) < (((p0.toUInt32 >>> ((5 : Int32) &&& 31).toUInt32).toInt32) &&& (3 : Int32))) ∧ gg44 = (own_upd gg28 2 (nar .byte (((p1.toUInt32 >>> ((16 : Int32) &&& 31).toUInt32).toInt32).toInt8.toInt32)))) ∨ ((¬ ((2 : Int32) < (((p0.toUInt32 >>> ((5 : Int32) &&& 31).toUInt32).toInt32) &&& (3 : Int32)))) ∧ gg44 = gg28)) ∧ b51 = gg44)) (hp65 : (∃ (gg12 : Nat → Int32) (gg28 : Nat → Int32) (gg44 : Nat → Int32), ((((0 : Int32) < (((p0.toUInt32 >>> ((7 : Int32) &&& 31).toUInt32).toInt32) &&& (3 : Int32))) ∧ gg12 = (own_upd (fun _ => (0 : Int32)) 0 (nar .byte (p2.toInt8.toInt32)))) ∨ ((¬ ((0 : Int32) < (((p0.toUInt32 >>> ((7 : Int32) &&& 31).toUInt32).toInt32) &&& (3 : Int32)))) ∧ gg12 = (fun _ => (0 : Int32)))) ∧ ((((1 : Int32) < (((p0.toUInt32 >>> ((7 : Int32) &&& 31).toUInt32).toInt32) &&& (3 : Int32))) ∧ gg28 = (own_upd gg12 1 (nar .byte (((p2.toUInt32 >>> ((8 : Int32) &&& 31).toUInt32).toInt32).toInt8.toInt32)))) ∨ ((¬ ((1 : Int32) < (((p0.toUInt32 >>> ((7 : Int32) &&& 31).toUInt32).toInt32) &&& (3 : Int32)))) ∧ gg28 = gg12)) ∧ ((((2 : Int32) < (((p0.toUInt32 >>> ((7 : Int32) &&& 31).toUInt32).toInt32) &&& (3 : Int32))) ∧ gg44 = (own_upd gg28 2 (nar .byte (((p2.toUInt32 >>> ((16 : Int32) &&& 31).toUInt32).toInt32).toInt8.toInt32)))) ∨ ((¬ ((2 : Int32) < (((p0.toUInt32 >>> ((7 : Int32) &&& 31).toUInt32).toInt32) &&& (3 : Int32)))) ∧ gg44 = gg28)) ∧ b60 = gg44)) (hv66 : (q3 &&& (9223372036854775807 : Int64)) = v66) (c75 : ¬ (z8 = (0 : Int32))) : ¬ (v66 < (0 : Int64)) := by
  subst hv66
  exact own_landNN _
def Q0 (Z : State) (f_EMPTY_KEY : Addr) (k_f_EMPTY_KEY : ClassId) (fn_f_EMPTY_KEY : Nat → Int32) (p0 : Int32) (p1 : Int32) (p2 : Int32) (q3 : Int64) (h0 : Heap) (n0 : Nat) (v : Option Value) (h : Heap) (L : List Loc) : Prop := v = some (.int (1 : Int32)) ∧ Fr n0 L
set_option maxRecDepth 65536 in
set_option maxHeartbeats 40000000 in
theorem rm0 (l : Launch) (Z : State) (A0 : Array Value) (hw : ∀ d ∈ tables_1, d.before A0 Z = true) (ws : List Jvm.Cond) (f_EMPTY_KEY : Addr) (k_f_EMPTY_KEY : ClassId) (fn_f_EMPTY_KEY : Nat → Int32) (p0 : Int32) (p1 : Int32) (p2 : Int32) (q3 : Int64) (h0 : Heap) (n0 : Nat) (Z0 : n0 ≤ h0.size) (P_S_EMPTY_KEY : Sta Z h0 "com/example/nested_keyspace/nestedkeyspace/ScanOptions" "EMPTY_KEY" "[B" (.ref f_EMPTY_KEY)) (P_V_f_EMPTY_KEY : own_Arf Z h0 f_EMPTY_KEY k_f_EMPTY_KEY .byte (0 : Int32) (fun i => .int (fn_f_EMPTY_KEY i))) :
    MetFree l x (head1 (Jvm.Cond.code x code maxLocals ret :: ws) room_1) (fun a U => a = #[(.int p0), (.int p1), (.int p2), (.long q3)] ∧ Z.Warmed39 U.vm ∧ U.heap = h0) (fun _ _ _ _ _ => True) (fun _ U o U' => ∃ v L, o = .returned v ∧ Q0 Z f_EMPTY_KEY k_f_EMPTY_KEY fn_f_EMPTY_KEY p0 p1 p2 q3 h0 n0 v U'.heap L ∧ FrameEnd U o U' L 32 192) := by
  refine MetFree.of_bodySF (plainFor_of_name pn_0) hisR ?_
  intro p e s m args below meth c s₁ Bd hml0 hP hK
  obtain ⟨rfl, hZ, hh⟩ := hP
  have hwd := fun i {d : Jvm.Cond} (h : tables_1[i]? = some d) => hw d (List.mem_of_getElem? h)
  have hx := Bd.exec
  have hby := Bd.bytes
  have hml : c.maxLocals = 20 := hml0
  have hlk : meth.locks = false := Bd.notSynchronized
  have hown : s.vm.findClass "com/example/nested_keyspace/nestedkeyspace/ScanOptionsReversePinLaw" = some m.cls := findClass_of_methodNamed Bd.named
  have hnm := (name_of_methodNamed Bd.named Bd.method).1
  have X0 : Stand p l e room_1 s m #[(.int p0), (.int p1), (.int p2), (.long q3)] below meth c s₁ [] 0 0 := Stand.of_body Bd
  have e0 : s₁.heap = h0 := by rw [← hh, Bd.state]; rfl
  have N0 := Fr.nil n0
  show own_Go p e below (own_Fin s 32 192 (Q0 Z f_EMPTY_KEY k_f_EMPTY_KEY fn_f_EMPTY_KEY p0 p1 p2 q3 h0 n0)) _
  refine own_by (fun t k => castTop (ef_0 m p0 p1 p2 q3) k) ?_
  show own_Go p e below _ (s₁.setTop (mkF m 0 #[.val (.int p0), .val (.int p1), .val (.int p2), .val (.long q3), .second, .unset, .unset, .unset, .unset, .unset, .unset, .unset, .unset, .unset, .unset, .unset, .unset, .unset, .unset, .unset] []))
  refine own_by (fun _ k => XS.iloadN X0.here hx rfl (hb hby at_0) rfl k) ?_
  show own_Go p e below _ (s₁.setTop (mkF m 1 #[.val (.int p0), .val (.int p1), .val (.int p2), .val (.long q3), .second, .unset, .unset, .unset, .unset, .unset, .unset, .unset, .unset, .unset, .unset, .unset, .unset, .unset, .unset, .unset] [(.int p0)]))
  refine own_by (fun _ k => XS.iconst X0.here hx rfl (hb hby at_1) k) ?_
  show own_Go p e below _ (s₁.setTop (mkF m 2 #[.val (.int p0), .val (.int p1), .val (.int p2), .val (.long q3), .second, .unset, .unset, .unset, .unset, .unset, .unset, .unset, .unset, .unset, .unset, .unset, .unset, .unset, .unset, .unset] [(.int (1 : Int32)), (.int p0)]))
  refine own_by (fun _ k => XS.iand X0.here hx rfl (hb hby at_2) rfl k) ?_
  show own_Go p e below _ (s₁.setTop (mkF m 3 #[.val (.int p0), .val (.int p1), .val (.int p2), .val (.long q3), .second, .unset, .unset, .unset, .unset, .unset, .unset, .unset, .unset, .unset, .unset, .unset, .unset, .unset, .unset, .unset] [(.int (p0 &&& (1 : Int32)))]))
  have J2 : ∀ (T3 : State) (L4 : List Loc) (z8 : Int32), Stand p l e room_1 s m #[(.int p0), (.int p1), (.int p2), (.long q3)] below meth c T3 L4 0 0 → T3.heap = h0 → Fr n0 L4 → ((((p0 &&& (1 : Int32)) = (0 : Int32)) ∧ z8 = (0 : Int32)) ∨ ((¬ ((p0 &&& (1 : Int32)) = (0 : Int32))) ∧ z8 = (1 : Int32))) → own_Go p e below (own_Fin s 32 192 (Q0 Z f_EMPTY_KEY k_f_EMPTY_KEY fn_f_EMPTY_KEY p0 p1 p2 q3 h0 n0)) (T3.setTop (mkF m 11 #[.val (.int p0), .val (.int p1), .val (.int p2), .val (.long q3), .second, .unset, .unset, .unset, .unset, .unset, .unset, .unset, .unset, .unset, .unset, .unset, .unset, .unset, .unset, .unset] [(.int z8)])) := by
    intro T3 L4 z8 X5 e6 N7 hj9
    refine own_by (fun _ k => XS.istore X5.here hx rfl (hb hby at_11) rfl (l' := #[.val (.int p0), .val (.int p1), .val (.int p2), .val (.long q3), .second, .val (.int z8), .unset, .unset, .unset, .unset, .unset, .unset, .unset, .unset, .unset, .unset, .unset, .unset, .unset, .unset]) rfl k) ?_
    show own_Go p e below _ (T3.setTop (mkF m 13 #[.val (.int p0), .val (.int p1), .val (.int p2), .val (.long q3), .second, .val (.int z8), .unset, .unset, .unset, .unset, .unset, .unset, .unset, .unset, .unset, .unset, .unset, .unset, .unset, .unset] []))
    refine own_by (fun _ k => XS.iloadN X5.here hx rfl (hb hby at_13) rfl k) ?_
    show own_Go p e below _ (T3.setTop (mkF m 14 #[.val (.int p0), .val (.int p1), .val (.int p2), .val (.long q3), .second, .val (.int z8), .unset, .unset, .unset, .unset, .unset, .unset, .unset, .unset, .unset, .unset, .unset, .unset, .unset, .unset] [(.int p0)]))
    refine own_by (fun _ k => XS.iconst X5.here hx rfl (hb hby at_14) k) ?_
    show own_Go p e below _ (T3.setTop (mkF m 15 #[.val (.int p0), .val (.int p1), .val (.int p2), .val (.long q3), .second, .val (.int z8), .unset, .unset, .unset, .unset, .unset, .unset, .unset, .unset, .unset, .unset, .unset, .unset, .unset, .unset] [(.int (2 : Int32)), (.int p0)]))
    refine own_by (fun _ k => XS.iand X5.here hx rfl (hb hby at_15) rfl k) ?_
    show own_Go p e below _ (T3.setTop (mkF m 16 #[.val (.int p0), .val (.int p1), .val (.int p2), .val (.long q3), .second, .val (.int z8), .unset, .unset, .unset, .unset, .unset, .unset, .unset, .unset, .unset, .unset, .unset, .unset, .unset, .unset] [(.int (p0 &&& (2 : Int32)))]))
    have J11 : ∀ (T12 : State) (L13 : List Loc) (z17 : Int32), Stand p l e room_1 s m #[(.int p0), (.int p1), (.int p2), (.long q3)] below meth c T12 L13 0 0 → T12.heap = h0 → Fr n0 L13 → ((((p0 &&& (2 : Int32)) = (0 : Int32)) ∧ z17 = (0 : Int32)) ∨ ((¬ ((p0 &&& (2 : Int32)) = (0 : Int32))) ∧ z17 = (1 : Int32))) → own_Go p e below (own_Fin s 32 192 (Q0 Z f_EMPTY_KEY k_f_EMPTY_KEY fn_f_EMPTY_KEY p0 p1 p2 q3 h0 n0)) (T12.setTop (mkF m 24 #[.val (.int p0), .val (.int p1), .val (.int p2), .val (.long q3), .second, .val (.int z8), .unset, .unset, .unset, .unset, .unset, .unset, .unset, .unset, .unset, .unset, .unset, .unset, .unset, .unset] [(.int z17)])) := by
      intro T12 L13 z17 X14 e15 N16 hj18
      refine own_by (fun _ k => XS.istore X14.here hx rfl (hb hby at_24) rfl (l' := #[.val (.int p0), .val (.int p1), .val (.int p2), .val (.long q3), .second, .val (.int z8), .val (.int z17), .unset, .unset, .unset, .unset, .unset, .unset, .unset, .unset, .unset, .unset, .unset, .unset, .unset]) rfl k) ?_
      show own_Go p e below _ (T12.setTop (mkF m 26 #[.val (.int p0), .val (.int p1), .val (.int p2), .val (.long q3), .second, .val (.int z8), .val (.int z17), .unset, .unset, .unset, .unset, .unset, .unset, .unset, .unset, .unset, .unset, .unset, .unset, .unset] []))
      refine own_by (fun _ k => XS.iload X14.here hx rfl (hb hby at_26) rfl k) ?_
      show own_Go p e below _ (T12.setTop (mkF m 28 #[.val (.int p0), .val (.int p1), .val (.int p2), .val (.long q3), .second, .val (.int z8), .val (.int z17), .unset, .unset, .unset, .unset, .unset, .unset, .unset, .unset, .unset, .unset, .unset, .unset, .unset] [(.int z17)]))
      have J21 : ∀ (T22 : State) (L23 : List Loc) (z27 : Int32), Stand p l e room_1 s m #[(.int p0), (.int p1), (.int p2), (.long q3)] below meth c T22 L23 0 0 → T22.heap = h0 → Fr n0 L23 → (((z17 = (0 : Int32)) ∧ ((p0 &&& (4 : Int32)) = (0 : Int32)) ∧ z27 = (0 : Int32)) ∨ ((z17 = (0 : Int32)) ∧ (¬ ((p0 &&& (4 : Int32)) = (0 : Int32))) ∧ z27 = (1 : Int32)) ∨ ((¬ (z17 = (0 : Int32))) ∧ z27 = (0 : Int32))) → own_Go p e below (own_Fin s 32 192 (Q0 Z f_EMPTY_KEY k_f_EMPTY_KEY fn_f_EMPTY_KEY p0 p1 p2 q3 h0 n0)) (T22.setTop (mkF m 42 #[.val (.int p0), .val (.int p1), .val (.int p2), .val (.long q3), .second, .val (.int z8), .val (.int z17), .unset, .unset, .unset, .unset, .unset, .unset, .unset, .unset, .unset, .unset, .unset, .unset, .unset] [(.int z27)])) := by
        intro T22 L23 z27 X24 e25 N26 hj28
        refine own_by (fun _ k => XS.istore X24.here hx rfl (hb hby at_42) rfl (l' := #[.val (.int p0), .val (.int p1), .val (.int p2), .val (.long q3), .second, .val (.int z8), .val (.int z17), .val (.int z27), .unset, .unset, .unset, .unset, .unset, .unset, .unset, .unset, .unset, .unset, .unset, .unset]) rfl k) ?_
        show own_Go p e below _ (T22.setTop (mkF m 44 #[.val (.int p0), .val (.int p1), .val (.int p2), .val (.long q3), .second, .val (.int z8), .val (.int z17), .val (.int z27), .unset, .unset, .unset, .unset, .unset, .unset, .unset, .unset, .unset, .unset, .unset, .unset] []))
        refine own_by (fun _ k => XS.iload X24.here hx rfl (hb hby at_44) rfl k) ?_
        show own_Go p e below _ (T22.setTop (mkF m 46 #[.val (.int p0), .val (.int p1), .val (.int p2), .val (.long q3), .second, .val (.int z8), .val (.int z17), .val (.int z27), .unset, .unset, .unset, .unset, .unset, .unset, .unset, .unset, .unset, .unset, .unset, .unset] [(.int z17)]))
        have J31 : ∀ (T32 : State) (L33 : List Loc) (z37 : Int32), Stand p l e room_1 s m #[(.int p0), (.int p1), (.int p2), (.long q3)] below meth c T32 L33 0 0 → T32.heap = h0 → Fr n0 L33 → (((z17 = (0 : Int32)) ∧ ((p0 &&& (8 : Int32)) = (0 : Int32)) ∧ z37 = (0 : Int32)) ∨ ((z17 = (0 : Int32)) ∧ (¬ ((p0 &&& (8 : Int32)) = (0 : Int32))) ∧ z37 = (1 : Int32)) ∨ ((¬ (z17 = (0 : Int32))) ∧ z37 = (0 : Int32))) → own_Go p e below (own_Fin s 32 192 (Q0 Z f_EMPTY_KEY k_f_EMPTY_KEY fn_f_EMPTY_KEY p0 p1 p2 q3 h0 n0)) (T32.setTop (mkF m 61 #[.val (.int p0), .val (.int p1), .val (.int p2), .val (.long q3), .second, .val (.int z8), .val (.int z17), .val (.int z27), .unset, .unset, .unset, .unset, .unset, .unset, .unset, .unset, .unset, .unset, .unset, .unset] [(.int z37)])) := by
          intro T32 L33 z37 X34 e35 N36 hj38
          refine own_by (fun _ k => XS.istore X34.here hx rfl (hb hby at_61) rfl (l' := #[.val (.int p0), .val (.int p1), .val (.int p2), .val (.long q3), .second, .val (.int z8), .val (.int z17), .val (.int z27), .val (.int z37), .unset, .unset, .unset, .unset, .unset, .unset, .unset, .unset, .unset, .unset, .unset]) rfl k) ?_
          show own_Go p e below _ (T32.setTop (mkF m 63 #[.val (.int p0), .val (.int p1), .val (.int p2), .val (.long q3), .second, .val (.int z8), .val (.int z17), .val (.int z27), .val (.int z37), .unset, .unset, .unset, .unset, .unset, .unset, .unset, .unset, .unset, .unset, .unset] []))
          refine own_by (fun _ k => XS.iloadN X34.here hx rfl (hb hby at_63) rfl k) ?_
          show own_Go p e below _ (T32.setTop (mkF m 64 #[.val (.int p0), .val (.int p1), .val (.int p2), .val (.long q3), .second, .val (.int z8), .val (.int z17), .val (.int z27), .val (.int z37), .unset, .unset, .unset, .unset, .unset, .unset, .unset, .unset, .unset, .unset, .unset] [(.int p0)]))
          refine own_by (fun _ k => XS.bipush X34.here hx rfl (hb hby at_64) k) ?_
          show own_Go p e below _ (T32.setTop (mkF m 66 #[.val (.int p0), .val (.int p1), .val (.int p2), .val (.long q3), .second, .val (.int z8), .val (.int z17), .val (.int z27), .val (.int z37), .unset, .unset, .unset, .unset, .unset, .unset, .unset, .unset, .unset, .unset, .unset] [(.int (16 : Int32)), (.int p0)]))
          refine own_by (fun _ k => XS.iand X34.here hx rfl (hb hby at_66) rfl k) ?_
          show own_Go p e below _ (T32.setTop (mkF m 67 #[.val (.int p0), .val (.int p1), .val (.int p2), .val (.long q3), .second, .val (.int z8), .val (.int z17), .val (.int z27), .val (.int z37), .unset, .unset, .unset, .unset, .unset, .unset, .unset, .unset, .unset, .unset, .unset] [(.int (p0 &&& (16 : Int32)))]))
          have J40 : ∀ (T41 : State) (L42 : List Loc) (z46 : Int32), Stand p l e room_1 s m #[(.int p0), (.int p1), (.int p2), (.long q3)] below meth c T41 L42 0 0 → T41.heap = h0 → Fr n0 L42 → ((((p0 &&& (16 : Int32)) = (0 : Int32)) ∧ z46 = (0 : Int32)) ∨ ((¬ ((p0 &&& (16 : Int32)) = (0 : Int32))) ∧ z46 = (1 : Int32))) → own_Go p e below (own_Fin s 32 192 (Q0 Z f_EMPTY_KEY k_f_EMPTY_KEY fn_f_EMPTY_KEY p0 p1 p2 q3 h0 n0)) (T41.setTop (mkF m 75 #[.val (.int p0), .val (.int p1), .val (.int p2), .val (.long q3), .second, .val (.int z8), .val (.int z17), .val (.int z27), .val (.int z37), .unset, .unset, .unset, .unset, .unset, .unset, .unset, .unset, .unset, .unset, .unset] [(.int z46)])) := by
            intro T41 L42 z46 X43 e44 N45 hj47
            refine own_by (fun _ k => XS.istore X43.here hx rfl (hb hby at_75) rfl (l' := #[.val (.int p0), .val (.int p1), .val (.int p2), .val (.long q3), .second, .val (.int z8), .val (.int z17), .val (.int z27), .val (.int z37), .val (.int z46), .unset, .unset, .unset, .unset, .unset, .unset, .unset, .unset, .unset, .unset]) rfl k) ?_
            show own_Go p e below _ (T41.setTop (mkF m 77 #[.val (.int p0), .val (.int p1), .val (.int p2), .val (.long q3), .second, .val (.int z8), .val (.int z17), .val (.int z27), .val (.int z37), .val (.int z46), .unset, .unset, .unset, .unset, .unset, .unset, .unset, .unset, .unset, .unset] []))
            refine own_by (fun _ k => XS.iloadN X43.here hx rfl (hb hby at_77) rfl k) ?_
            show own_Go p e below _ (T41.setTop (mkF m 78 #[.val (.int p0), .val (.int p1), .val (.int p2), .val (.long q3), .second, .val (.int z8), .val (.int z17), .val (.int z27), .val (.int z37), .val (.int z46), .unset, .unset, .unset, .unset, .unset, .unset, .unset, .unset, .unset, .unset] [(.int p0)]))
            refine own_by (fun _ k => XS.iconst X43.here hx rfl (hb hby at_78) k) ?_
            show own_Go p e below _ (T41.setTop (mkF m 79 #[.val (.int p0), .val (.int p1), .val (.int p2), .val (.long q3), .second, .val (.int z8), .val (.int z17), .val (.int z27), .val (.int z37), .val (.int z46), .unset, .unset, .unset, .unset, .unset, .unset, .unset, .unset, .unset, .unset] [(.int (5 : Int32)), (.int p0)]))
            refine own_by (fun _ k => XS.iushr X43.here hx rfl (hb hby at_79) rfl k) ?_
            show own_Go p e below _ (T41.setTop (mkF m 80 #[.val (.int p0), .val (.int p1), .val (.int p2), .val (.long q3), .second, .val (.int z8), .val (.int z17), .val (.int z27), .val (.int z37), .val (.int z46), .unset, .unset, .unset, .unset, .unset, .unset, .unset, .unset, .unset, .unset] [(.int ((p0.toUInt32 >>> ((5 : Int32) &&& 31).toUInt32).toInt32))]))
            refine own_by (fun _ k => XS.iconst X43.here hx rfl (hb hby at_80) k) ?_
            show own_Go p e below _ (T41.setTop (mkF m 81 #[.val (.int p0), .val (.int p1), .val (.int p2), .val (.long q3), .second, .val (.int z8), .val (.int z17), .val (.int z27), .val (.int z37), .val (.int z46), .unset, .unset, .unset, .unset, .unset, .unset, .unset, .unset, .unset, .unset] [(.int (3 : Int32)), (.int ((p0.toUInt32 >>> ((5 : Int32) &&& 31).toUInt32).toInt32))]))
            refine own_by (fun _ k => XS.iand X43.here hx rfl (hb hby at_81) rfl k) ?_
            show own_Go p e below _ (T41.setTop (mkF m 82 #[.val (.int p0), .val (.int p1), .val (.int p2), .val (.long q3), .second, .val (.int z8), .val (.int z17), .val (.int z27), .val (.int z37), .val (.int z46), .unset, .unset, .unset, .unset, .unset, .unset, .unset, .unset, .unset, .unset] [(.int (((p0.toUInt32 >>> ((5 : Int32) &&& 31).toUInt32).toInt32) &&& (3 : Int32)))]))
            refine own_by (fun _ k => XS.iloadN X43.here hx rfl (hb hby at_82) rfl k) ?_
            show own_Go p e below _ (T41.setTop (mkF m 83 #[.val (.int p0), .val (.int p1), .val (.int p2), .val (.long q3), .second, .val (.int z8), .val (.int z17), .val (.int z27), .val (.int z37), .val (.int z46), .unset, .unset, .unset, .unset, .unset, .unset, .unset, .unset, .unset, .unset] [(.int p1), (.int (((p0.toUInt32 >>> ((5 : Int32) &&& 31).toUInt32).toInt32) &&& (3 : Int32)))]))
            obtain ⟨_, _, ⟨T48, L48, k48, n48⟩, -, X48, ⟨Lc48, hQ48, l48, y48, z48⟩, st48⟩ := Jvm.LawKit.callS X43 hx (y := (⟨"com/example/nested_keyspace/nestedkeyspace/ScanOptionsReversePinLaw", "key", "(II)[B"⟩ : MethodName)) hown (mvT hZ (hwd 0 rfl)) (mvT hZ (hwd 1 rfl)) (mvT hZ (hwd 2 rfl)) (mvT hZ (hwd 3 rfl)) (by decide) (backOf (W := 0) (rm1 l Z A0 hw [] (((p0.toUInt32 >>> ((5 : Int32) &&& 31).toUInt32).toInt32) &&& (3 : Int32)) p1 h0 n0 Z0 (ob_0_31 p0 z8 z17 z27 z37 z46 hj9 hj18 hj28 hj38 hj47) (ob_0_32 p0 z8 z17 z27 z37 z46 hj9 hj18 hj28 hj38 hj47)) hZ (hwd 3 rfl) (hwd 2 rfl) (by decide) (by decide)) (g := (mkF m 83 #[.val (.int p0), .val (.int p1), .val (.int p2), .val (.long q3), .second, .val (.int z8), .val (.int z17), .val (.int z27), .val (.int z37), .val (.int z46), .unset, .unset, .unset, .unset, .unset, .unset, .unset, .unset, .unset, .unset] [(.int p1), (.int (((p0.toUInt32 >>> ((5 : Int32) &&& 31).toUInt32).toInt32) &&& (3 : Int32)))])) rfl (by rw [hml]; rfl) (argsL := [(.int (((p0.toUInt32 >>> ((5 : Int32) &&& 31).toUInt32).toInt32) &&& (3 : Int32))), (.int p1)]) (rest := []) (lenOf pd_0 rfl) rfl (by show 2 * 0 + _ ≤ _; exact Nat.le_of_eq rfl) (hb hby at_83) (fun _ _ => ⟨rfl, e44, (by decide : 0 + 1 ≤ _), (by decide : 0 + 3 ≤ _)⟩)
            dsimp only [Pt.U, Pt.locs, Pt.cells, Pt.slots] at X48 l48 y48 z48 st48 hQ48
            subst l48 y48 z48
            obtain ⟨b49, b50, b51, rfl, Nq48, Kq48, hp52, hp53, F54, F55, hp56⟩ := hQ48
            have N48 := Fr.app N45 Nq48
            have K48 : Keep h0 T48.heap [] := (Keep.refl h0 []).trans Kq48 (all0)
            have Z48 : n0 ≤ T48.heap.size := Nat.le_trans Z0 Kq48.1
            have sz_b49 : h0.size ≤ b49 := Nat.le_trans (Keep.refl h0 []).1 hp53
            refine own_by st48 ?_
            show own_Go p e below _ (T48.setTop (mkF m 86 #[.val (.int p0), .val (.int p1), .val (.int p2), .val (.long q3), .second, .val (.int z8), .val (.int z17), .val (.int z27), .val (.int z37), .val (.int z46), .unset, .unset, .unset, .unset, .unset, .unset, .unset, .unset, .unset, .unset] [(.ref b49)]))
            refine own_by (fun _ k => XS.astore X48.here hx rfl (hb hby at_86) rfl rfl (l' := #[.val (.int p0), .val (.int p1), .val (.int p2), .val (.long q3), .second, .val (.int z8), .val (.int z17), .val (.int z27), .val (.int z37), .val (.int z46), .val (.ref b49), .unset, .unset, .unset, .unset, .unset, .unset, .unset, .unset, .unset]) rfl k) ?_
            show own_Go p e below _ (T48.setTop (mkF m 88 #[.val (.int p0), .val (.int p1), .val (.int p2), .val (.long q3), .second, .val (.int z8), .val (.int z17), .val (.int z27), .val (.int z37), .val (.int z46), .val (.ref b49), .unset, .unset, .unset, .unset, .unset, .unset, .unset, .unset, .unset] []))
            refine own_by (fun _ k => XS.iloadN X48.here hx rfl (hb hby at_88) rfl k) ?_
            show own_Go p e below _ (T48.setTop (mkF m 89 #[.val (.int p0), .val (.int p1), .val (.int p2), .val (.long q3), .second, .val (.int z8), .val (.int z17), .val (.int z27), .val (.int z37), .val (.int z46), .val (.ref b49), .unset, .unset, .unset, .unset, .unset, .unset, .unset, .unset, .unset] [(.int p0)]))
            refine own_by (fun _ k => XS.bipush X48.here hx rfl (hb hby at_89) k) ?_
            show own_Go p e below _ (T48.setTop (mkF m 91 #[.val (.int p0), .val (.int p1), .val (.int p2), .val (.long q3), .second, .val (.int z8), .val (.int z17), .val (.int z27), .val (.int z37), .val (.int z46), .val (.ref b49), .unset, .unset, .unset, .unset, .unset, .unset, .unset, .unset, .unset] [(.int (7 : Int32)), (.int p0)]))
            refine own_by (fun _ k => XS.iushr X48.here hx rfl (hb hby at_91) rfl k) ?_
            show own_Go p e below _ (T48.setTop (mkF m 92 #[.val (.int p0), .val (.int p1), .val (.int p2), .val (.long q3), .second, .val (.int z8), .val (.int z17), .val (.int z27), .val (.int z37), .val (.int z46), .val (.ref b49), .unset, .unset, .unset, .unset, .unset, .unset, .unset, .unset, .unset] [(.int ((p0.toUInt32 >>> ((7 : Int32) &&& 31).toUInt32).toInt32))]))
            refine own_by (fun _ k => XS.iconst X48.here hx rfl (hb hby at_92) k) ?_
            show own_Go p e below _ (T48.setTop (mkF m 93 #[.val (.int p0), .val (.int p1), .val (.int p2), .val (.long q3), .second, .val (.int z8), .val (.int z17), .val (.int z27), .val (.int z37), .val (.int z46), .val (.ref b49), .unset, .unset, .unset, .unset, .unset, .unset, .unset, .unset, .unset] [(.int (3 : Int32)), (.int ((p0.toUInt32 >>> ((7 : Int32) &&& 31).toUInt32).toInt32))]))
            refine own_by (fun _ k => XS.iand X48.here hx rfl (hb hby at_93) rfl k) ?_
            show own_Go p e below _ (T48.setTop (mkF m 94 #[.val (.int p0), .val (.int p1), .val (.int p2), .val (.long q3), .second, .val (.int z8), .val (.int z17), .val (.int z27), .val (.int z37), .val (.int z46), .val (.ref b49), .unset, .unset, .unset, .unset, .unset, .unset, .unset, .unset, .unset] [(.int (((p0.toUInt32 >>> ((7 : Int32) &&& 31).toUInt32).toInt32) &&& (3 : Int32)))]))
            refine own_by (fun _ k => XS.iloadN X48.here hx rfl (hb hby at_94) rfl k) ?_
            show own_Go p e below _ (T48.setTop (mkF m 95 #[.val (.int p0), .val (.int p1), .val (.int p2), .val (.long q3), .second, .val (.int z8), .val (.int z17), .val (.int z27), .val (.int z37), .val (.int z46), .val (.ref b49), .unset, .unset, .unset, .unset, .unset, .unset, .unset, .unset, .unset] [(.int p2), (.int (((p0.toUInt32 >>> ((7 : Int32) &&& 31).toUInt32).toInt32) &&& (3 : Int32)))]))
            obtain ⟨_, _, ⟨T57, L57, k57, n57⟩, -, X57, ⟨Lc57, hQ57, l57, y57, z57⟩, st57⟩ := Jvm.LawKit.callS X48 hx (y := (⟨"com/example/nested_keyspace/nestedkeyspace/ScanOptionsReversePinLaw", "key", "(II)[B"⟩ : MethodName)) hown (mvT hZ (hwd 0 rfl)) (mvT hZ (hwd 1 rfl)) (mvT hZ (hwd 2 rfl)) (mvT hZ (hwd 3 rfl)) (by decide) (backOf (W := 0) (rm1 l Z A0 hw [] (((p0.toUInt32 >>> ((7 : Int32) &&& 31).toUInt32).toInt32) &&& (3 : Int32)) p2 T48.heap n0 Z48 (ob_0_33 p0 p1 z8 z17 z27 z37 z46 b51 hj9 hj18 hj28 hj38 hj47 hp56) (ob_0_34 p0 p1 z8 z17 z27 z37 z46 b51 hj9 hj18 hj28 hj38 hj47 hp56)) hZ (hwd 3 rfl) (hwd 2 rfl) (by decide) (by decide)) (g := (mkF m 95 #[.val (.int p0), .val (.int p1), .val (.int p2), .val (.long q3), .second, .val (.int z8), .val (.int z17), .val (.int z27), .val (.int z37), .val (.int z46), .val (.ref b49), .unset, .unset, .unset, .unset, .unset, .unset, .unset, .unset, .unset] [(.int p2), (.int (((p0.toUInt32 >>> ((7 : Int32) &&& 31).toUInt32).toInt32) &&& (3 : Int32)))])) rfl (by rw [hml]; rfl) (argsL := [(.int (((p0.toUInt32 >>> ((7 : Int32) &&& 31).toUInt32).toInt32) &&& (3 : Int32))), (.int p2)]) (rest := []) (lenOf pd_0 rfl) rfl (by show 2 * 0 + _ ≤ _; exact Nat.le_of_eq rfl) (hb hby at_95) (fun _ _ => ⟨rfl, rfl, (by decide : 1 + 1 ≤ _), (by decide : 3 + 3 ≤ _)⟩)
            dsimp only [Pt.U, Pt.locs, Pt.cells, Pt.slots] at X57 l57 y57 z57 st57 hQ57
            subst l57 y57 z57
            obtain ⟨b58, b59, b60, rfl, Nq57, Kq57, hp61, hp62, F63, F64, hp65⟩ := hQ57
            have N57 := Fr.app N48 Nq57
            have K57 : Keep h0 T57.heap [] := K48.trans Kq57 (all0)
            have Z57 : n0 ≤ T57.heap.size := Nat.le_trans Z48 Kq57.1
            have sz_b58 : h0.size ≤ b58 := Nat.le_trans K48.1 hp62
            refine own_by st57 ?_
            show own_Go p e below _ (T57.setTop (mkF m 98 #[.val (.int p0), .val (.int p1), .val (.int p2), .val (.long q3), .second, .val (.int z8), .val (.int z17), .val (.int z27), .val (.int z37), .val (.int z46), .val (.ref b49), .unset, .unset, .unset, .unset, .unset, .unset, .unset, .unset, .unset] [(.ref b58)]))
            refine own_by (fun _ k => XS.astore X57.here hx rfl (hb hby at_98) rfl rfl (l' := #[.val (.int p0), .val (.int p1), .val (.int p2), .val (.long q3), .second, .val (.int z8), .val (.int z17), .val (.int z27), .val (.int z37), .val (.int z46), .val (.ref b49), .val (.ref b58), .unset, .unset, .unset, .unset, .unset, .unset, .unset, .unset]) rfl k) ?_
            show own_Go p e below _ (T57.setTop (mkF m 100 #[.val (.int p0), .val (.int p1), .val (.int p2), .val (.long q3), .second, .val (.int z8), .val (.int z17), .val (.int z27), .val (.int z37), .val (.int z46), .val (.ref b49), .val (.ref b58), .unset, .unset, .unset, .unset, .unset, .unset, .unset, .unset] []))
            refine own_by (fun _ k => XS.lloadN X57.here hx rfl (hb hby at_100) rfl k) ?_
            show own_Go p e below _ (T57.setTop (mkF m 101 #[.val (.int p0), .val (.int p1), .val (.int p2), .val (.long q3), .second, .val (.int z8), .val (.int z17), .val (.int z27), .val (.int z37), .val (.int z46), .val (.ref b49), .val (.ref b58), .unset, .unset, .unset, .unset, .unset, .unset, .unset, .unset] [(.long q3)]))
            refine own_by (fun t k => X57.ldc2Long hx hown (mvT hZ (hwd 5 rfl)) (g := (mkF m 101 #[.val (.int p0), .val (.int p1), .val (.int p2), .val (.long q3), .second, .val (.int z8), .val (.int z17), .val (.int z27), .val (.int z37), .val (.int z46), .val (.ref b49), .val (.ref b58), .unset, .unset, .unset, .unset, .unset, .unset, .unset, .unset] [(.long q3)])) rfl (hb hby at_101) _ k) ?_
            show own_Go p e below _ (T57.setTop (mkF m 104 #[.val (.int p0), .val (.int p1), .val (.int p2), .val (.long q3), .second, .val (.int z8), .val (.int z17), .val (.int z27), .val (.int z37), .val (.int z46), .val (.ref b49), .val (.ref b58), .unset, .unset, .unset, .unset, .unset, .unset, .unset, .unset] [(.long (9223372036854775807 : Int64)), (.long q3)]))
            refine own_by (fun _ k => XS.land X57.here hx rfl (hb hby at_104) rfl k) ?_
            show own_Go p e below _ (T57.setTop (mkF m 105 #[.val (.int p0), .val (.int p1), .val (.int p2), .val (.long q3), .second, .val (.int z8), .val (.int z17), .val (.int z27), .val (.int z37), .val (.int z46), .val (.ref b49), .val (.ref b58), .unset, .unset, .unset, .unset, .unset, .unset, .unset, .unset] [(.long (q3 &&& (9223372036854775807 : Int64)))]))
            refine own_by (fun _ k => XS.lstore X57.here hx rfl (hb hby at_105) rfl (l' := #[.val (.int p0), .val (.int p1), .val (.int p2), .val (.long q3), .second, .val (.int z8), .val (.int z17), .val (.int z27), .val (.int z37), .val (.int z46), .val (.ref b49), .val (.ref b58), .val (.long (q3 &&& (9223372036854775807 : Int64))), .second, .unset, .unset, .unset, .unset, .unset, .unset]) rfl k) ?_
            show own_Go p e below _ (T57.setTop (mkF m 107 #[.val (.int p0), .val (.int p1), .val (.int p2), .val (.long q3), .second, .val (.int z8), .val (.int z17), .val (.int z27), .val (.int z37), .val (.int z46), .val (.ref b49), .val (.ref b58), .val (.long (q3 &&& (9223372036854775807 : Int64))), .second, .unset, .unset, .unset, .unset, .unset, .unset] []))
            generalize hv66 : (q3 &&& (9223372036854775807 : Int64)) = v66
            show own_Go p e below _ (T57.setTop (mkF m 107 #[.val (.int p0), .val (.int p1), .val (.int p2), .val (.long q3), .second, .val (.int z8), .val (.int z17), .val (.int z27), .val (.int z37), .val (.int z46), .val (.ref b49), .val (.ref b58), .val (.long v66), .second, .unset, .unset, .unset, .unset, .unset, .unset] []))
            obtain ⟨T67, h67, X67, e67, E67, A67, D67, -, st67⟩ := newO X57 hx hZ hown (hwd 6 rfl) (hwd 7 rfl) (hwd 8 rfl) rfl (g := (mkF m 107 #[.val (.int p0), .val (.int p1), .val (.int p2), .val (.long q3), .second, .val (.int z8), .val (.int z17), .val (.int z27), .val (.int z37), .val (.int z46), .val (.ref b49), .val (.ref b58), .val (.long v66), .second, .unset, .unset, .unset, .unset, .unset, .unset] [])) rfl (hb hby at_107) (by decide) (by decide)
            obtain ⟨b67, g67⟩ : ∃ z, z = T57.heap.size := ⟨_, rfl⟩
            have ge_b67 : n0 ≤ b67 := Nat.le_trans Z57 (Nat.le_of_eq g67.symm)
            have sz_b67 : h0.size ≤ b67 := Nat.le_trans K57.1 (Nat.le_of_eq g67.symm)
            have K67 : Keep h0 h67 [] := K57.ext E67
            have Z67 : n0 ≤ h67.size := Nat.le_trans Z57 E67.1
            rw [← g67] at A67 D67 st67
            have F_from_b67 : Fld Z h67 b67 "com/example/nested_keyspace/nestedkeyspace/ScanOptions" "from" "[B" .null := D67 (Or.inr (hwd 20 rfl)) (ty := (.array .byte)) (by decide)
            have F_to_b67 : Fld Z h67 b67 "com/example/nested_keyspace/nestedkeyspace/ScanOptions" "to" "[B" .null := D67 (Or.inr (hwd 22 rfl)) (ty := (.array .byte)) (by decide)
            have F_subtree_b67 : Fld Z h67 b67 "com/example/nested_keyspace/nestedkeyspace/ScanOptions" "subtree" "Z" (.int (0 : Int32)) := D67 (Or.inr (hwd 24 rfl)) (ty := .boolean) (by decide)
            have F_reverse_b67 : Fld Z h67 b67 "com/example/nested_keyspace/nestedkeyspace/ScanOptions" "reverse" "Z" (.int (0 : Int32)) := D67 (Or.inr (hwd 26 rfl)) (ty := .boolean) (by decide)
            have F_limit_b67 : Fld Z h67 b67 "com/example/nested_keyspace/nestedkeyspace/ScanOptions" "limit" "J" (.long (0 : Int64)) := D67 (Or.inr (hwd 28 rfl)) (ty := .long) (by decide)
            refine own_by st67 ?_
            show own_Go p e below _ (T67.setTop (mkF m 110 #[.val (.int p0), .val (.int p1), .val (.int p2), .val (.long q3), .second, .val (.int z8), .val (.int z17), .val (.int z27), .val (.int z37), .val (.int z46), .val (.ref b49), .val (.ref b58), .val (.long v66), .second, .unset, .unset, .unset, .unset, .unset, .unset] [(.ref b67)]))
            refine own_by (fun _ k => XS.dup X67.here hx rfl (hb hby at_110) rfl rfl k) ?_
            show own_Go p e below _ (T67.setTop (mkF m 111 #[.val (.int p0), .val (.int p1), .val (.int p2), .val (.long q3), .second, .val (.int z8), .val (.int z17), .val (.int z27), .val (.int z37), .val (.int z46), .val (.ref b49), .val (.ref b58), .val (.long v66), .second, .unset, .unset, .unset, .unset, .unset, .unset] [(.ref b67), (.ref b67)]))
            obtain ⟨_, _, ⟨T68, L68, k68, n68⟩, -, X68, ⟨Lc68, hQ68, l68, y68, z68⟩, st68⟩ := X67.specialBack hx (y := (⟨"com/example/nested_keyspace/nestedkeyspace/ScanOptions", "<init>", "()V"⟩ : MethodName)) rfl hown (mvT hZ (hwd 9 rfl)) (mvT hZ (hwd 10 rfl)) (mvT hZ (hwd 11 rfl)) (by decide) (backOf (W := 1) (rm2 l Z A0 hw [] b67 (.null) (.null) (0 : Int32) (0 : Int32) (0 : Int64) h67 n0 Z67 A67 F_from_b67 F_to_b67 F_subtree_b67 F_reverse_b67 F_limit_b67 ge_b67) hZ (hwd 11 rfl) (hwd 8 rfl) (by decide) (by decide)) (g := (mkF m 111 #[.val (.int p0), .val (.int p1), .val (.int p2), .val (.long q3), .second, .val (.int z8), .val (.int z17), .val (.int z27), .val (.int z37), .val (.int z46), .val (.ref b49), .val (.ref b58), .val (.long v66), .second, .unset, .unset, .unset, .unset, .unset, .unset] [(.ref b67), (.ref b67)])) rfl (by rw [hml]; rfl) (Steps.refl _) (a := b67) (argsL := []) (rest := [(.ref b67)]) (lenOf pd_9 rfl) rfl (by show 2 * 0 + _ ≤ _; exact Nat.le_of_eq rfl) (hb hby at_111) (fun _ _ => ⟨rfl, e67, (by decide : 3 + 0 ≤ _), (by decide : 11 + 0 ≤ _)⟩)
            dsimp only [Pt.U, Pt.locs, Pt.cells, Pt.slots] at X68 l68 y68 z68 st68 hQ68
            subst l68 y68 z68
            obtain ⟨rfl, Nq68, Kq68, F69, F70, F71, F72, F73, F74⟩ := hQ68
            have N68 := Fr.app N57 Nq68
            have K68 : Keep h0 T68.heap [] := K67.trans Kq68 ((allS (Or.inr sz_b67) all0))
            have Z68 : n0 ≤ T68.heap.size := Nat.le_trans Z67 Kq68.1
            refine own_by (fun _ k => st68.trans k) ?_
            show own_Go p e below _ (T68.setTop (mkF m 114 #[.val (.int p0), .val (.int p1), .val (.int p2), .val (.long q3), .second, .val (.int z8), .val (.int z17), .val (.int z27), .val (.int z37), .val (.int z46), .val (.ref b49), .val (.ref b58), .val (.long v66), .second, .unset, .unset, .unset, .unset, .unset, .unset] [(.ref b67)]))
            refine own_by (fun _ k => XS.astore X68.here hx rfl (hb hby at_114) rfl rfl (l' := #[.val (.int p0), .val (.int p1), .val (.int p2), .val (.long q3), .second, .val (.int z8), .val (.int z17), .val (.int z27), .val (.int z37), .val (.int z46), .val (.ref b49), .val (.ref b58), .val (.long v66), .second, .val (.ref b67), .unset, .unset, .unset, .unset, .unset]) rfl k) ?_
            show own_Go p e below _ (T68.setTop (mkF m 116 #[.val (.int p0), .val (.int p1), .val (.int p2), .val (.long q3), .second, .val (.int z8), .val (.int z17), .val (.int z27), .val (.int z37), .val (.int z46), .val (.ref b49), .val (.ref b58), .val (.long v66), .second, .val (.ref b67), .unset, .unset, .unset, .unset, .unset] []))
            refine own_by (fun _ k => XS.iload X68.here hx rfl (hb hby at_116) rfl k) ?_
            show own_Go p e below _ (T68.setTop (mkF m 118 #[.val (.int p0), .val (.int p1), .val (.int p2), .val (.long q3), .second, .val (.int z8), .val (.int z17), .val (.int z27), .val (.int z37), .val (.int z46), .val (.ref b49), .val (.ref b58), .val (.long v66), .second, .val (.ref b67), .unset, .unset, .unset, .unset, .unset] [(.int z8)]))
            have J86 : ∀ (T87 : State) (L88 : List Loc) (h93 : Heap) (r92 : Addr) (y94 : Int64), Stand p l e room_1 s m #[(.int p0), (.int p1), (.int p2), (.long q3)] below meth c T87 L88 4 16 → T87.heap = h93 → Fr n0 L88 → Keep h0 h93 [] → n0 ≤ h93.size → Exa Z h93 b49 "[B" → own_Arf Z h93 b49 b50 .byte (((p0.toUInt32 >>> ((5 : Int32) &&& 31).toUInt32).toInt32) &&& (3 : Int32)) (fun i => .int (b51 i)) → Exa Z h93 b58 "[B" → own_Arf Z h93 b58 b59 .byte (((p0.toUInt32 >>> ((7 : Int32) &&& 31).toUInt32).toInt32) &&& (3 : Int32)) (fun i => .int (b60 i)) → Exa Z h93 b67 "com/example/nested_keyspace/nestedkeyspace/ScanOptions" → Fld Z h93 b67 "com/example/nested_keyspace/nestedkeyspace/ScanOptions" "from" "[B" .null → Fld Z h93 b67 "com/example/nested_keyspace/nestedkeyspace/ScanOptions" "to" "[B" .null → Fld Z h93 b67 "com/example/nested_keyspace/nestedkeyspace/ScanOptions" "subtree" "Z" (.int (0 : Int32)) → Fld Z h93 b67 "com/example/nested_keyspace/nestedkeyspace/ScanOptions" "reverse" "Z" (.int (0 : Int32)) → Fld Z h93 b67 "com/example/nested_keyspace/nestedkeyspace/ScanOptions" "limit" "J" (.long (9223372036854775807 : Int64)) → own_Arf Z h93 f_EMPTY_KEY k_f_EMPTY_KEY .byte (0 : Int32) (fun i => .int (fn_f_EMPTY_KEY i)) → Exa Z h93 r92 "com/example/nested_keyspace/nestedkeyspace/ScanOptions" → Fld Z h93 r92 "com/example/nested_keyspace/nestedkeyspace/ScanOptions" "from" "[B" .null → Fld Z h93 r92 "com/example/nested_keyspace/nestedkeyspace/ScanOptions" "to" "[B" .null → Fld Z h93 r92 "com/example/nested_keyspace/nestedkeyspace/ScanOptions" "subtree" "Z" (.int (0 : Int32)) → Fld Z h93 r92 "com/example/nested_keyspace/nestedkeyspace/ScanOptions" "reverse" "Z" (.int (0 : Int32)) → Fld Z h93 r92 "com/example/nested_keyspace/nestedkeyspace/ScanOptions" "limit" "J" (.long y94) → Sta Z h93 "com/example/nested_keyspace/nestedkeyspace/ScanOptions" "EMPTY_KEY" "[B" (.ref f_EMPTY_KEY) → n0 ≤ r92 → h0.size ≤ r92 → b49 ≠ b58 → b49 ≠ b67 → b58 ≠ b67 → b49 ≠ f_EMPTY_KEY → b58 ≠ f_EMPTY_KEY → b67 ≠ f_EMPTY_KEY → b49 ≠ r92 → b58 ≠ r92 → f_EMPTY_KEY ≠ r92 → (((z8 = (0 : Int32)) ∧ y94 = (9223372036854775807 : Int64)) ∨ ((¬ (z8 = (0 : Int32))) ∧ y94 = v66)) → own_Go p e below (own_Fin s 32 192 (Q0 Z f_EMPTY_KEY k_f_EMPTY_KEY fn_f_EMPTY_KEY p0 p1 p2 q3 h0 n0)) (T87.setTop (mkF m 130 #[.val (.int p0), .val (.int p1), .val (.int p2), .val (.long q3), .second, .val (.int z8), .val (.int z17), .val (.int z27), .val (.int z37), .val (.int z46), .val (.ref b49), .val (.ref b58), .val (.long v66), .second, .val (.ref r92), .unset, .unset, .unset, .unset, .unset] [])) := by
              intro T87 L88 h93 r92 y94 X89 e90 N91 K95 Z96 F97 F98 F99 F100 F101 F102 F103 F104 F105 F106 F107 F108 F109 F110 F111 F112 F113 F114 ge115 sz116 ne117 ne118 ne119 ne120 ne121 ne122 ne123 ne124 ne125 hj126
              refine own_by (fun _ k => XS.iload X89.here hx rfl (hb hby at_130) rfl k) ?_
              show own_Go p e below _ (T87.setTop (mkF m 132 #[.val (.int p0), .val (.int p1), .val (.int p2), .val (.long q3), .second, .val (.int z8), .val (.int z17), .val (.int z27), .val (.int z37), .val (.int z46), .val (.ref b49), .val (.ref b58), .val (.long v66), .second, .val (.ref r92), .unset, .unset, .unset, .unset, .unset] [(.int z46)]))
              have J138 : ∀ (T139 : State) (L140 : List Loc) (h145 : Heap) (r144 : Addr) (z146 : Int32), Stand p l e room_1 s m #[(.int p0), (.int p1), (.int p2), (.long q3)] below meth c T139 L140 5 21 → T139.heap = h145 → Fr n0 L140 → Keep h0 h145 [] → n0 ≤ h145.size → Exa Z h145 b49 "[B" → own_Arf Z h145 b49 b50 .byte (((p0.toUInt32 >>> ((5 : Int32) &&& 31).toUInt32).toInt32) &&& (3 : Int32)) (fun i => .int (b51 i)) → Exa Z h145 b58 "[B" → own_Arf Z h145 b58 b59 .byte (((p0.toUInt32 >>> ((7 : Int32) &&& 31).toUInt32).toInt32) &&& (3 : Int32)) (fun i => .int (b60 i)) → Exa Z h145 b67 "com/example/nested_keyspace/nestedkeyspace/ScanOptions" → Fld Z h145 b67 "com/example/nested_keyspace/nestedkeyspace/ScanOptions" "from" "[B" .null → Fld Z h145 b67 "com/example/nested_keyspace/nestedkeyspace/ScanOptions" "to" "[B" .null → Fld Z h145 b67 "com/example/nested_keyspace/nestedkeyspace/ScanOptions" "subtree" "Z" (.int (0 : Int32)) → Fld Z h145 b67 "com/example/nested_keyspace/nestedkeyspace/ScanOptions" "reverse" "Z" (.int (0 : Int32)) → Fld Z h145 b67 "com/example/nested_keyspace/nestedkeyspace/ScanOptions" "limit" "J" (.long (9223372036854775807 : Int64)) → own_Arf Z h145 f_EMPTY_KEY k_f_EMPTY_KEY .byte (0 : Int32) (fun i => .int (fn_f_EMPTY_KEY i)) → Exa Z h145 r92 "com/example/nested_keyspace/nestedkeyspace/ScanOptions" → Fld Z h145 r92 "com/example/nested_keyspace/nestedkeyspace/ScanOptions" "from" "[B" .null → Fld Z h145 r92 "com/example/nested_keyspace/nestedkeyspace/ScanOptions" "to" "[B" .null → Fld Z h145 r92 "com/example/nested_keyspace/nestedkeyspace/ScanOptions" "subtree" "Z" (.int (0 : Int32)) → Fld Z h145 r92 "com/example/nested_keyspace/nestedkeyspace/ScanOptions" "reverse" "Z" (.int (0 : Int32)) → Fld Z h145 r92 "com/example/nested_keyspace/nestedkeyspace/ScanOptions" "limit" "J" (.long y94) → Exa Z h145 r144 "com/example/nested_keyspace/nestedkeyspace/ScanOptions" → Fld Z h145 r144 "com/example/nested_keyspace/nestedkeyspace/ScanOptions" "from" "[B" .null → Fld Z h145 r144 "com/example/nested_keyspace/nestedkeyspace/ScanOptions" "to" "[B" .null → Fld Z h145 r144 "com/example/nested_keyspace/nestedkeyspace/ScanOptions" "subtree" "Z" (.int (0 : Int32)) → Fld Z h145 r144 "com/example/nested_keyspace/nestedkeyspace/ScanOptions" "reverse" "Z" (.int z146) → Fld Z h145 r144 "com/example/nested_keyspace/nestedkeyspace/ScanOptions" "limit" "J" (.long y94) → Sta Z h145 "com/example/nested_keyspace/nestedkeyspace/ScanOptions" "EMPTY_KEY" "[B" (.ref f_EMPTY_KEY) → n0 ≤ r144 → h0.size ≤ r144 → b49 ≠ r144 → b58 ≠ r144 → f_EMPTY_KEY ≠ r144 → (((z46 = (0 : Int32)) ∧ z146 = (0 : Int32)) ∨ ((¬ (z46 = (0 : Int32))) ∧ z146 = (1 : Int32))) → own_Go p e below (own_Fin s 32 192 (Q0 Z f_EMPTY_KEY k_f_EMPTY_KEY fn_f_EMPTY_KEY p0 p1 p2 q3 h0 n0)) (T139.setTop (mkF m 142 #[.val (.int p0), .val (.int p1), .val (.int p2), .val (.long q3), .second, .val (.int z8), .val (.int z17), .val (.int z27), .val (.int z37), .val (.int z46), .val (.ref b49), .val (.ref b58), .val (.long v66), .second, .val (.ref r144), .unset, .unset, .unset, .unset, .unset] [])) := by
                intro T139 L140 h145 r144 z146 X141 e142 N143 K147 Z148 F149 F150 F151 F152 F153 F154 F155 F156 F157 F158 F159 F160 F161 F162 F163 F164 F165 F166 F167 F168 F169 F170 F171 F172 ge173 sz174 ne175 ne176 ne177 hj178
                have hs_z27 := (ob_0_35 p0 p1 p2 q3 z8 z17 z27 z37 z46 b51 b60 v66 y94 z146 hj9 hj18 hj28 hj38 hj47 hp56 hp65 hv66 hj126 hj178)
                rcases hs_z27 with rfl | rfl
                · skip
                  show own_Go p e below _ (T139.setTop (mkF m 142 #[.val (.int p0), .val (.int p1), .val (.int p2), .val (.long q3), .second, .val (.int z8), .val (.int z17), .val (.int (0 : Int32)), .val (.int z37), .val (.int z46), .val (.ref b49), .val (.ref b58), .val (.long v66), .second, .val (.ref r144), .unset, .unset, .unset, .unset, .unset] []))
                  refine own_by (fun _ k => XS.iload X141.here hx rfl (hb hby at_142) rfl k) ?_
                  show own_Go p e below _ (T139.setTop (mkF m 144 #[.val (.int p0), .val (.int p1), .val (.int p2), .val (.long q3), .second, .val (.int z8), .val (.int z17), .val (.int (0 : Int32)), .val (.int z37), .val (.int z46), .val (.ref b49), .val (.ref b58), .val (.long v66), .second, .val (.ref r144), .unset, .unset, .unset, .unset, .unset] [(.int (0 : Int32))]))
                  refine own_by (fun _ k => XS.ifYes X141.here hx rfl (pc0 := 144) (pc' := 156) rfl (hb hby at_144) rfl ((if0 _ _).trans (teq (by decide : (0 : Int32) = (0 : Int32))).1) (by decide) (by decide) k) ?_
                  show own_Go p e below _ (T139.setTop (mkF m 156 #[.val (.int p0), .val (.int p1), .val (.int p2), .val (.long q3), .second, .val (.int z8), .val (.int z17), .val (.int (0 : Int32)), .val (.int z37), .val (.int z46), .val (.ref b49), .val (.ref b58), .val (.long v66), .second, .val (.ref r144), .unset, .unset, .unset, .unset, .unset] []))
                  have hs_z37 := (ob_0_36 p0 p1 p2 q3 z8 z17 z37 z46 b51 b60 v66 y94 z146 hj9 hj18 hj28 hj38 hj47 hp56 hp65 hv66 hj126 hj178)
                  rcases hs_z37 with rfl | rfl
                  · skip
                    show own_Go p e below _ (T139.setTop (mkF m 156 #[.val (.int p0), .val (.int p1), .val (.int p2), .val (.long q3), .second, .val (.int z8), .val (.int z17), .val (.int (0 : Int32)), .val (.int (0 : Int32)), .val (.int z46), .val (.ref b49), .val (.ref b58), .val (.long v66), .second, .val (.ref r144), .unset, .unset, .unset, .unset, .unset] []))
                    refine own_by (fun _ k => XS.iload X141.here hx rfl (hb hby at_156) rfl k) ?_
                    show own_Go p e below _ (T139.setTop (mkF m 158 #[.val (.int p0), .val (.int p1), .val (.int p2), .val (.long q3), .second, .val (.int z8), .val (.int z17), .val (.int (0 : Int32)), .val (.int (0 : Int32)), .val (.int z46), .val (.ref b49), .val (.ref b58), .val (.long v66), .second, .val (.ref r144), .unset, .unset, .unset, .unset, .unset] [(.int (0 : Int32))]))
                    refine own_by (fun _ k => XS.ifYes X141.here hx rfl (pc0 := 158) (pc' := 170) rfl (hb hby at_158) rfl ((if0 _ _).trans (teq (by decide : (0 : Int32) = (0 : Int32))).1) (by decide) (by decide) k) ?_
                    show own_Go p e below _ (T139.setTop (mkF m 170 #[.val (.int p0), .val (.int p1), .val (.int p2), .val (.long q3), .second, .val (.int z8), .val (.int z17), .val (.int (0 : Int32)), .val (.int (0 : Int32)), .val (.int z46), .val (.ref b49), .val (.ref b58), .val (.long v66), .second, .val (.ref r144), .unset, .unset, .unset, .unset, .unset] []))
                    have hs_z17 := (ob_0_37 p0 p1 p2 q3 z8 z17 z46 b51 b60 v66 y94 z146 hj9 hj18 hj28 hj38 hj47 hp56 hp65 hv66 hj126 hj178)
                    rcases hs_z17 with rfl | rfl
                    · skip
                      show own_Go p e below _ (T139.setTop (mkF m 170 #[.val (.int p0), .val (.int p1), .val (.int p2), .val (.long q3), .second, .val (.int z8), .val (.int (0 : Int32)), .val (.int (0 : Int32)), .val (.int (0 : Int32)), .val (.int z46), .val (.ref b49), .val (.ref b58), .val (.long v66), .second, .val (.ref r144), .unset, .unset, .unset, .unset, .unset] []))
                      refine own_by (fun _ k => XS.iload X141.here hx rfl (hb hby at_170) rfl k) ?_
                      show own_Go p e below _ (T139.setTop (mkF m 172 #[.val (.int p0), .val (.int p1), .val (.int p2), .val (.long q3), .second, .val (.int z8), .val (.int (0 : Int32)), .val (.int (0 : Int32)), .val (.int (0 : Int32)), .val (.int z46), .val (.ref b49), .val (.ref b58), .val (.long v66), .second, .val (.ref r144), .unset, .unset, .unset, .unset, .unset] [(.int (0 : Int32))]))
                      refine own_by (fun _ k => XS.ifYes X141.here hx rfl (pc0 := 172) (pc' := 182) rfl (hb hby at_172) rfl ((if0 _ _).trans (teq (by decide : (0 : Int32) = (0 : Int32))).1) (by decide) (by decide) k) ?_
                      show own_Go p e below _ (T139.setTop (mkF m 182 #[.val (.int p0), .val (.int p1), .val (.int p2), .val (.long q3), .second, .val (.int z8), .val (.int (0 : Int32)), .val (.int (0 : Int32)), .val (.int (0 : Int32)), .val (.int z46), .val (.ref b49), .val (.ref b58), .val (.long v66), .second, .val (.ref r144), .unset, .unset, .unset, .unset, .unset] []))
                      refine own_by (fun _ k => XS.aload X141.here hx rfl (hb hby at_182) rfl rfl k) ?_
                      show own_Go p e below _ (T139.setTop (mkF m 184 #[.val (.int p0), .val (.int p1), .val (.int p2), .val (.long q3), .second, .val (.int z8), .val (.int (0 : Int32)), .val (.int (0 : Int32)), .val (.int (0 : Int32)), .val (.int z46), .val (.ref b49), .val (.ref b58), .val (.long v66), .second, .val (.ref r144), .unset, .unset, .unset, .unset, .unset] [(.ref r144)]))
                      obtain ⟨cq179, kq179, qq179a, qq179b, qq179c⟩ := isOf hZ e142 F166
                      obtain ⟨_, _, ⟨T179, L179, k179, n179⟩, -, X179, ⟨Lc179, hQ179, l179, y179, z179⟩, st179⟩ := X141.virtualBack hx (y := (⟨"com/example/nested_keyspace/nestedkeyspace/ScanOptions", "reverse", "()Lcom/example/nested_keyspace/nestedkeyspace/ScanOptions;"⟩ : MethodName)) (z := (⟨"com/example/nested_keyspace/nestedkeyspace/ScanOptions", "reverse", "()Lcom/example/nested_keyspace/nestedkeyspace/ScanOptions;"⟩ : MethodName)) hown (mvT hZ (hwd 29 rfl)) (mvT hZ (hwd 30 rfl)) (notFace_of_selects (args := #[]) (mvT hZ (hwd 32 rfl))) (mvT hZ (hwd 32 rfl)) (mvT hZ (hwd 31 rfl)) (by decide) (backOf (W := 0) (rm5 l Z A0 hw [] r144 (.null) (.null) (0 : Int32) y94 h145 n0 Z148 rfl F167 rfl F168 F169 F171) hZ (hwd 33 rfl) (hwd 8 rfl) (by decide) (by decide)) qq179a qq179c (g := (mkF m 184 #[.val (.int p0), .val (.int p1), .val (.int p2), .val (.long q3), .second, .val (.int z8), .val (.int (0 : Int32)), .val (.int (0 : Int32)), .val (.int (0 : Int32)), .val (.int z46), .val (.ref b49), .val (.ref b58), .val (.long v66), .second, .val (.ref r144), .unset, .unset, .unset, .unset, .unset] [(.ref r144)])) rfl (by rw [hml]; rfl) (Steps.refl _) (argsL := []) (rest := []) (lenOf pd_29 rfl) rfl (by show 2 * 0 + _ ≤ _; exact Nat.le_of_eq rfl) (hb hby at_184) (fun _ _ => ⟨rfl, e142, (by decide : 5 + 1 ≤ _), (by decide : 21 + 5 ≤ _)⟩)
                      dsimp only [Pt.U, Pt.locs, Pt.cells, Pt.slots] at X179 l179 y179 z179 st179 hQ179
                      subst l179 y179 z179
                      obtain ⟨b180, rfl, Nq179, Kq179, hp181, hp182, F183, F184, F185, F186, F187, F188⟩ := hQ179
                      have N179 := Fr.app N143 Nq179
                      have K179 : Keep h0 T179.heap [] := K147.trans Kq179 (all0)
                      have Z179 : n0 ≤ T179.heap.size := Nat.le_trans Z148 Kq179.1
                      have sz_b180 : h0.size ≤ b180 := Nat.le_trans K147.1 hp182
                      refine own_by (fun _ k => st179.trans k) ?_
                      show own_Go p e below _ (T179.setTop (mkF m 187 #[.val (.int p0), .val (.int p1), .val (.int p2), .val (.long q3), .second, .val (.int z8), .val (.int (0 : Int32)), .val (.int (0 : Int32)), .val (.int (0 : Int32)), .val (.int z46), .val (.ref b49), .val (.ref b58), .val (.long v66), .second, .val (.ref r144), .unset, .unset, .unset, .unset, .unset] [(.ref b180)]))
                      refine own_by (fun _ k => XS.astore X179.here hx rfl (hb hby at_187) rfl rfl (l' := #[.val (.int p0), .val (.int p1), .val (.int p2), .val (.long q3), .second, .val (.int z8), .val (.int (0 : Int32)), .val (.int (0 : Int32)), .val (.int (0 : Int32)), .val (.int z46), .val (.ref b49), .val (.ref b58), .val (.long v66), .second, .val (.ref r144), .val (.ref b180), .unset, .unset, .unset, .unset]) rfl k) ?_
                      show own_Go p e below _ (T179.setTop (mkF m 189 #[.val (.int p0), .val (.int p1), .val (.int p2), .val (.long q3), .second, .val (.int z8), .val (.int (0 : Int32)), .val (.int (0 : Int32)), .val (.int (0 : Int32)), .val (.int z46), .val (.ref b49), .val (.ref b58), .val (.long v66), .second, .val (.ref r144), .val (.ref b180), .unset, .unset, .unset, .unset] []))
                      refine own_by (fun _ k => XS.iload X179.here hx rfl (hb hby at_189) rfl k) ?_
                      show own_Go p e below _ (T179.setTop (mkF m 191 #[.val (.int p0), .val (.int p1), .val (.int p2), .val (.long q3), .second, .val (.int z8), .val (.int (0 : Int32)), .val (.int (0 : Int32)), .val (.int (0 : Int32)), .val (.int z46), .val (.ref b49), .val (.ref b58), .val (.long v66), .second, .val (.ref r144), .val (.ref b180), .unset, .unset, .unset, .unset] [(.int (0 : Int32))]))
                      refine own_by (fun _ k => XS.ifYes X179.here hx rfl (pc0 := 191) (pc' := 199) rfl (hb hby at_191) rfl ((if0 _ _).trans (teq (by decide : (0 : Int32) = (0 : Int32))).1) (by decide) (by decide) k) ?_
                      show own_Go p e below _ (T179.setTop (mkF m 199 #[.val (.int p0), .val (.int p1), .val (.int p2), .val (.long q3), .second, .val (.int z8), .val (.int (0 : Int32)), .val (.int (0 : Int32)), .val (.int (0 : Int32)), .val (.int z46), .val (.ref b49), .val (.ref b58), .val (.long v66), .second, .val (.ref r144), .val (.ref b180), .unset, .unset, .unset, .unset] []))
                      refine own_by (fun _ k => XS.iconst X179.here hx rfl (hb hby at_199) k) ?_
                      show own_Go p e below _ (T179.setTop (mkF m 200 #[.val (.int p0), .val (.int p1), .val (.int p2), .val (.long q3), .second, .val (.int z8), .val (.int (0 : Int32)), .val (.int (0 : Int32)), .val (.int (0 : Int32)), .val (.int z46), .val (.ref b49), .val (.ref b58), .val (.long v66), .second, .val (.ref r144), .val (.ref b180), .unset, .unset, .unset, .unset] [(.int (0 : Int32))]))
                      obtain ⟨T189, h189, k189, X189, e189, E189, A189, Ax189, st189⟩ := newPE X179 hx hZ (hwd 4 rfl) rfl (g := (mkF m 200 #[.val (.int p0), .val (.int p1), .val (.int p2), .val (.long q3), .second, .val (.int z8), .val (.int (0 : Int32)), .val (.int (0 : Int32)), .val (.int (0 : Int32)), .val (.int z46), .val (.ref b49), .val (.ref b58), .val (.long v66), .second, .val (.ref r144), .val (.ref b180), .unset, .unset, .unset, .unset] [(.int (0 : Int32))])) rfl (hb hby at_200) rfl (by decide) (cap := 0) (by decide) (by decide) (by decide) (by decide) (ad := "[B") (by decide)
                      obtain ⟨b189, g189⟩ : ∃ z, z = T179.heap.size := ⟨_, rfl⟩
                      have ge_b189 : n0 ≤ b189 := Nat.le_trans Z179 (Nat.le_of_eq g189.symm)
                      have sz_b189 : h0.size ≤ b189 := Nat.le_trans K179.1 (Nat.le_of_eq g189.symm)
                      have K189 : Keep h0 h189 [] := K179.ext E189
                      have Z189 : n0 ≤ h189.size := Nat.le_trans Z179 E189.1
                      rw [← g189] at A189 Ax189 st189
                      have V189 : own_Arf Z h189 b189 k189 .byte (0 : Int32) (fun i => .int ((fun _ => (0 : Int32)) i)) := own_arfNew A189 (by decide)
                      refine own_by st189 ?_
                      show own_Go p e below _ (T189.setTop (mkF m 202 #[.val (.int p0), .val (.int p1), .val (.int p2), .val (.long q3), .second, .val (.int z8), .val (.int (0 : Int32)), .val (.int (0 : Int32)), .val (.int (0 : Int32)), .val (.int z46), .val (.ref b49), .val (.ref b58), .val (.long v66), .second, .val (.ref r144), .val (.ref b180), .unset, .unset, .unset, .unset] [(.ref b189)]))
                      refine own_by (fun _ k => XS.astore X189.here hx rfl (hb hby at_202) rfl rfl (l' := #[.val (.int p0), .val (.int p1), .val (.int p2), .val (.long q3), .second, .val (.int z8), .val (.int (0 : Int32)), .val (.int (0 : Int32)), .val (.int (0 : Int32)), .val (.int z46), .val (.ref b49), .val (.ref b58), .val (.long v66), .second, .val (.ref r144), .val (.ref b180), .val (.ref b189), .unset, .unset, .unset]) rfl k) ?_
                      show own_Go p e below _ (T189.setTop (mkF m 204 #[.val (.int p0), .val (.int p1), .val (.int p2), .val (.long q3), .second, .val (.int z8), .val (.int (0 : Int32)), .val (.int (0 : Int32)), .val (.int (0 : Int32)), .val (.int z46), .val (.ref b49), .val (.ref b58), .val (.long v66), .second, .val (.ref r144), .val (.ref b180), .val (.ref b189), .unset, .unset, .unset] []))
                      refine own_by (fun _ k => XS.iload X189.here hx rfl (hb hby at_204) rfl k) ?_
                      show own_Go p e below _ (T189.setTop (mkF m 206 #[.val (.int p0), .val (.int p1), .val (.int p2), .val (.long q3), .second, .val (.int z8), .val (.int (0 : Int32)), .val (.int (0 : Int32)), .val (.int (0 : Int32)), .val (.int z46), .val (.ref b49), .val (.ref b58), .val (.long v66), .second, .val (.ref r144), .val (.ref b180), .val (.ref b189), .unset, .unset, .unset] [(.int (0 : Int32))]))
                      refine own_by (fun _ k => XS.ifYes X189.here hx rfl (pc0 := 206) (pc' := 214) rfl (hb hby at_206) rfl ((if0 _ _).trans (teq (by decide : (0 : Int32) = (0 : Int32))).1) (by decide) (by decide) k) ?_
                      show own_Go p e below _ (T189.setTop (mkF m 214 #[.val (.int p0), .val (.int p1), .val (.int p2), .val (.long q3), .second, .val (.int z8), .val (.int (0 : Int32)), .val (.int (0 : Int32)), .val (.int (0 : Int32)), .val (.int z46), .val (.ref b49), .val (.ref b58), .val (.long v66), .second, .val (.ref r144), .val (.ref b180), .val (.ref b189), .unset, .unset, .unset] []))
                      refine own_by (fun _ k => XS.aconstNull X189.here hx rfl (hb hby at_214) k) ?_
                      show own_Go p e below _ (T189.setTop (mkF m 215 #[.val (.int p0), .val (.int p1), .val (.int p2), .val (.long q3), .second, .val (.int z8), .val (.int (0 : Int32)), .val (.int (0 : Int32)), .val (.int (0 : Int32)), .val (.int z46), .val (.ref b49), .val (.ref b58), .val (.long v66), .second, .val (.ref r144), .val (.ref b180), .val (.ref b189), .unset, .unset, .unset] [.null]))
                      refine own_by (fun _ k => XS.astore X189.here hx rfl (hb hby at_215) rfl rfl (l' := #[.val (.int p0), .val (.int p1), .val (.int p2), .val (.long q3), .second, .val (.int z8), .val (.int (0 : Int32)), .val (.int (0 : Int32)), .val (.int (0 : Int32)), .val (.int z46), .val (.ref b49), .val (.ref b58), .val (.long v66), .second, .val (.ref r144), .val (.ref b180), .val (.ref b189), .val .null, .unset, .unset]) rfl k) ?_
                      show own_Go p e below _ (T189.setTop (mkF m 217 #[.val (.int p0), .val (.int p1), .val (.int p2), .val (.long q3), .second, .val (.int z8), .val (.int (0 : Int32)), .val (.int (0 : Int32)), .val (.int (0 : Int32)), .val (.int z46), .val (.ref b49), .val (.ref b58), .val (.long v66), .second, .val (.ref r144), .val (.ref b180), .val (.ref b189), .val .null, .unset, .unset] []))
                      refine own_by (fun _ k => XS.iload X189.here hx rfl (hb hby at_217) rfl k) ?_
                      show own_Go p e below _ (T189.setTop (mkF m 219 #[.val (.int p0), .val (.int p1), .val (.int p2), .val (.long q3), .second, .val (.int z8), .val (.int (0 : Int32)), .val (.int (0 : Int32)), .val (.int (0 : Int32)), .val (.int z46), .val (.ref b49), .val (.ref b58), .val (.long v66), .second, .val (.ref r144), .val (.ref b180), .val (.ref b189), .val .null, .unset, .unset] [(.int z8)]))
                      have J191 : ∀ (T192 : State) (L193 : List Loc) (y197 : Int64), Stand p l e room_1 s m #[(.int p0), (.int p1), (.int p2), (.long q3)] below meth c T192 L193 7 26 → T192.heap = h189 → Fr n0 L193 → (((z8 = (0 : Int32)) ∧ y197 = (9223372036854775807 : Int64)) ∨ ((¬ (z8 = (0 : Int32))) ∧ y197 = v66)) → own_Go p e below (own_Fin s 32 192 (Q0 Z f_EMPTY_KEY k_f_EMPTY_KEY fn_f_EMPTY_KEY p0 p1 p2 q3 h0 n0)) (T192.setTop (mkF m 230 #[.val (.int p0), .val (.int p1), .val (.int p2), .val (.long q3), .second, .val (.int z8), .val (.int (0 : Int32)), .val (.int (0 : Int32)), .val (.int (0 : Int32)), .val (.int z46), .val (.ref b49), .val (.ref b58), .val (.long v66), .second, .val (.ref r144), .val (.ref b180), .val (.ref b189), .val .null, .unset, .unset] [(.long y197)])) := by
                        intro T192 L193 y197 X194 e195 N196 hj198
                        refine own_by (fun _ k => XS.lstore X194.here hx rfl (hb hby at_230) rfl (l' := #[.val (.int p0), .val (.int p1), .val (.int p2), .val (.long q3), .second, .val (.int z8), .val (.int (0 : Int32)), .val (.int (0 : Int32)), .val (.int (0 : Int32)), .val (.int z46), .val (.ref b49), .val (.ref b58), .val (.long v66), .second, .val (.ref r144), .val (.ref b180), .val (.ref b189), .val .null, .val (.long y197), .second]) rfl k) ?_
                        show own_Go p e below _ (T192.setTop (mkF m 232 #[.val (.int p0), .val (.int p1), .val (.int p2), .val (.long q3), .second, .val (.int z8), .val (.int (0 : Int32)), .val (.int (0 : Int32)), .val (.int (0 : Int32)), .val (.int z46), .val (.ref b49), .val (.ref b58), .val (.long v66), .second, .val (.ref r144), .val (.ref b180), .val (.ref b189), .val .null, .val (.long y197), .second] []))
                        refine own_by (fun _ k => XS.aload X194.here hx rfl (hb hby at_232) rfl rfl k) ?_
                        show own_Go p e below _ (T192.setTop (mkF m 234 #[.val (.int p0), .val (.int p1), .val (.int p2), .val (.long q3), .second, .val (.int z8), .val (.int (0 : Int32)), .val (.int (0 : Int32)), .val (.int (0 : Int32)), .val (.int z46), .val (.ref b49), .val (.ref b58), .val (.long v66), .second, .val (.ref r144), .val (.ref b180), .val (.ref b189), .val .null, .val (.long y197), .second] [(.ref b180)]))
                        have F199 : Fld Z h189 b180 "com/example/nested_keyspace/nestedkeyspace/ScanOptions" "reverse" "Z" (.int (1 : Int32)) := (F187.ext E189)
                        have F201 : Exa Z h189 b180 "com/example/nested_keyspace/nestedkeyspace/ScanOptions" := (F183.ext E189)
                        obtain ⟨cq200, kq200, qq200a, qq200b, qq200c⟩ := isOf hZ e195 F201
                        obtain ⟨_, _, ⟨T200, L200, k200, n200⟩, -, X200, ⟨Lc200, hQ200, l200, y200, z200⟩, st200⟩ := X194.virtualBack hx (y := (⟨"com/example/nested_keyspace/nestedkeyspace/ScanOptions", "readsInReverse", "()Z"⟩ : MethodName)) (z := (⟨"com/example/nested_keyspace/nestedkeyspace/ScanOptions", "readsInReverse", "()Z"⟩ : MethodName)) hown (mvT hZ (hwd 35 rfl)) (mvT hZ (hwd 36 rfl)) (notFace_of_selects (args := #[]) (mvT hZ (hwd 38 rfl))) (mvT hZ (hwd 38 rfl)) (mvT hZ (hwd 37 rfl)) (by decide) (backOf (W := 0) (rm6 l Z A0 hw [] b180 (1 : Int32) h189 n0 Z189 F199) hZ (hwd 39 rfl) (hwd 8 rfl) (by decide) (by decide)) qq200a qq200c (g := (mkF m 234 #[.val (.int p0), .val (.int p1), .val (.int p2), .val (.long q3), .second, .val (.int z8), .val (.int (0 : Int32)), .val (.int (0 : Int32)), .val (.int (0 : Int32)), .val (.int z46), .val (.ref b49), .val (.ref b58), .val (.long v66), .second, .val (.ref r144), .val (.ref b180), .val (.ref b189), .val .null, .val (.long y197), .second] [(.ref b180)])) rfl (by rw [hml]; rfl) (Steps.refl _) (argsL := []) (rest := []) (lenOf pd_35 rfl) rfl (by show 2 * 0 + _ ≤ _; exact Nat.le_of_eq rfl) (hb hby at_234) (fun _ _ => ⟨rfl, e195, (by decide : 7 + 0 ≤ _), (by decide : 26 + 0 ≤ _)⟩)
                        dsimp only [Pt.U, Pt.locs, Pt.cells, Pt.slots] at X200 l200 y200 z200 st200 hQ200
                        subst l200 y200 z200
                        obtain ⟨rfl, Nq200, eq200⟩ := hQ200
                        have N200 := Fr.app N196 Nq200
                        refine own_by (fun _ k => st200.trans k) ?_
                        show own_Go p e below _ (T200.setTop (mkF m 237 #[.val (.int p0), .val (.int p1), .val (.int p2), .val (.long q3), .second, .val (.int z8), .val (.int (0 : Int32)), .val (.int (0 : Int32)), .val (.int (0 : Int32)), .val (.int z46), .val (.ref b49), .val (.ref b58), .val (.long v66), .second, .val (.ref r144), .val (.ref b180), .val (.ref b189), .val .null, .val (.long y197), .second] [(.int (1 : Int32))]))
                        refine own_by (fun _ k => XS.ifNo X200.here hx rfl (hb hby at_237) rfl ((if0 _ _).trans (feq (by decide : ¬ ((1 : Int32) = (0 : Int32)))).1) k) ?_
                        show own_Go p e below _ (T200.setTop (mkF m 240 #[.val (.int p0), .val (.int p1), .val (.int p2), .val (.long q3), .second, .val (.int z8), .val (.int (0 : Int32)), .val (.int (0 : Int32)), .val (.int (0 : Int32)), .val (.int z46), .val (.ref b49), .val (.ref b58), .val (.long v66), .second, .val (.ref r144), .val (.ref b180), .val (.ref b189), .val .null, .val (.long y197), .second] []))
                        refine own_by (fun _ k => XS.aload X200.here hx rfl (hb hby at_240) rfl rfl k) ?_
                        show own_Go p e below _ (T200.setTop (mkF m 242 #[.val (.int p0), .val (.int p1), .val (.int p2), .val (.long q3), .second, .val (.int z8), .val (.int (0 : Int32)), .val (.int (0 : Int32)), .val (.int (0 : Int32)), .val (.int z46), .val (.ref b49), .val (.ref b58), .val (.long v66), .second, .val (.ref r144), .val (.ref b180), .val (.ref b189), .val .null, .val (.long y197), .second] [(.ref b180)]))
                        have F202 : Fld Z h189 b180 "com/example/nested_keyspace/nestedkeyspace/ScanOptions" "from" "[B" .null := (F184.ext E189)
                        have F203 : Sta Z h189 "com/example/nested_keyspace/nestedkeyspace/ScanOptions" "EMPTY_KEY" "[B" (.ref f_EMPTY_KEY) := ((own_staKeep F172 Kq179 all0).ext E189)
                        obtain ⟨cq204, kq204, qq204a, qq204b, qq204c⟩ := isOf hZ eq200 F201
                        obtain ⟨_, _, ⟨T204, L204, k204, n204⟩, -, X204, ⟨Lc204, hQ204, l204, y204, z204⟩, st204⟩ := X200.virtualBack hx (y := (⟨"com/example/nested_keyspace/nestedkeyspace/ScanOptions", "fromKey", "()[B"⟩ : MethodName)) (z := (⟨"com/example/nested_keyspace/nestedkeyspace/ScanOptions", "fromKey", "()[B"⟩ : MethodName)) hown (mvT hZ (hwd 40 rfl)) (mvT hZ (hwd 41 rfl)) (notFace_of_selects (args := #[]) (mvT hZ (hwd 43 rfl))) (mvT hZ (hwd 43 rfl)) (mvT hZ (hwd 42 rfl)) (by decide) (backOf (W := 0) (rmfromKeyN l Z A0 hw [] b180 f_EMPTY_KEY h189 n0 Z189 F202 F203) hZ (hwd 44 rfl) (hwd 8 rfl) (by decide) (by decide)) qq204a qq204c (g := (mkF m 242 #[.val (.int p0), .val (.int p1), .val (.int p2), .val (.long q3), .second, .val (.int z8), .val (.int (0 : Int32)), .val (.int (0 : Int32)), .val (.int (0 : Int32)), .val (.int z46), .val (.ref b49), .val (.ref b58), .val (.long v66), .second, .val (.ref r144), .val (.ref b180), .val (.ref b189), .val .null, .val (.long y197), .second] [(.ref b180)])) rfl (by rw [hml]; rfl) (Steps.refl _) (argsL := []) (rest := []) (lenOf pd_40 rfl) rfl (by show 2 * 0 + _ ≤ _; exact Nat.le_of_eq rfl) (hb hby at_242) (fun _ _ => ⟨rfl, eq200, (by decide : 7 + 0 ≤ _), (by decide : 26 + 0 ≤ _)⟩)
                        dsimp only [Pt.U, Pt.locs, Pt.cells, Pt.slots] at X204 l204 y204 z204 st204 hQ204
                        subst l204 y204 z204
                        obtain ⟨rfl, Nq204, eq204⟩ := hQ204
                        have N204 := Fr.app N200 Nq204
                        refine own_by (fun _ k => st204.trans k) ?_
                        show own_Go p e below _ (T204.setTop (mkF m 245 #[.val (.int p0), .val (.int p1), .val (.int p2), .val (.long q3), .second, .val (.int z8), .val (.int (0 : Int32)), .val (.int (0 : Int32)), .val (.int (0 : Int32)), .val (.int z46), .val (.ref b49), .val (.ref b58), .val (.long v66), .second, .val (.ref r144), .val (.ref b180), .val (.ref b189), .val .null, .val (.long y197), .second] [(.ref f_EMPTY_KEY)]))
                        refine own_by (fun _ k => XS.aload X204.here hx rfl (hb hby at_245) rfl rfl k) ?_
                        show own_Go p e below _ (T204.setTop (mkF m 247 #[.val (.int p0), .val (.int p1), .val (.int p2), .val (.long q3), .second, .val (.int z8), .val (.int (0 : Int32)), .val (.int (0 : Int32)), .val (.int (0 : Int32)), .val (.int z46), .val (.ref b49), .val (.ref b58), .val (.long v66), .second, .val (.ref r144), .val (.ref b180), .val (.ref b189), .val .null, .val (.long y197), .second] [(.ref b189), (.ref f_EMPTY_KEY)]))
                        have F205 : own_Arf Z h189 f_EMPTY_KEY k_f_EMPTY_KEY .byte (0 : Int32) (fun i => .int (fn_f_EMPTY_KEY i)) := ((F159.keep Kq179 nin0).ext E189)
                        obtain ⟨_, _, ⟨T206, L206, k206, n206⟩, -, X206, ⟨Lc206, hQ206, l206, y206, z206⟩, st206⟩ := Jvm.LawKit.callS X204 hx (y := (⟨"com/example/nested_keyspace/nestedkeyspace/ScanOptionsReversePinLaw", "sameBytes", "([B[B)Z"⟩ : MethodName)) hown (mvT hZ (hwd 47 rfl)) (mvT hZ (hwd 48 rfl)) (mvT hZ (hwd 2 rfl)) (mvT hZ (hwd 49 rfl)) (by decide) (backOf (W := 0) (rmsbRR l Z A0 hw [] f_EMPTY_KEY b189 k_f_EMPTY_KEY (0 : Int32) fn_f_EMPTY_KEY k189 (0 : Int32) (fun _ => (0 : Int32)) h189 n0 Z189 F205 V189) hZ (hwd 49 rfl) (hwd 2 rfl) (by decide) (by decide)) (g := (mkF m 247 #[.val (.int p0), .val (.int p1), .val (.int p2), .val (.long q3), .second, .val (.int z8), .val (.int (0 : Int32)), .val (.int (0 : Int32)), .val (.int (0 : Int32)), .val (.int z46), .val (.ref b49), .val (.ref b58), .val (.long v66), .second, .val (.ref r144), .val (.ref b180), .val (.ref b189), .val .null, .val (.long y197), .second] [(.ref b189), (.ref f_EMPTY_KEY)])) rfl (by rw [hml]; rfl) (argsL := [(.ref f_EMPTY_KEY), (.ref b189)]) (rest := []) (lenOf pd_47 rfl) rfl (by show 2 * 0 + _ ≤ _; exact Nat.le_of_eq rfl) (hb hby at_247) (fun _ _ => ⟨rfl, eq204, (by decide : 7 + 0 ≤ _), (by decide : 26 + 0 ≤ _)⟩)
                        dsimp only [Pt.U, Pt.locs, Pt.cells, Pt.slots] at X206 l206 y206 z206 st206 hQ206
                        subst l206 y206 z206
                        obtain ⟨o207, rfl, Nq206, eq206, hp208⟩ := hQ206
                        have N206 := Fr.app N204 Nq206
                        refine own_by st206 ?_
                        show own_Go p e below _ (T206.setTop (mkF m 250 #[.val (.int p0), .val (.int p1), .val (.int p2), .val (.long q3), .second, .val (.int z8), .val (.int (0 : Int32)), .val (.int (0 : Int32)), .val (.int (0 : Int32)), .val (.int z46), .val (.ref b49), .val (.ref b58), .val (.long v66), .second, .val (.ref r144), .val (.ref b180), .val (.ref b189), .val .null, .val (.long y197), .second] [(.int o207)]))
                        by_cases c209 : o207 = (0 : Int32)
                        · skip
                          refine own_by (fun _ k => XS.ifYes X206.here hx rfl (pc0 := 250) (pc' := 301) rfl (hb hby at_250) rfl ((if0 _ _).trans (teq c209).1) (by decide) (by decide) k) ?_
                          show own_Go p e below _ (T206.setTop (mkF m 301 #[.val (.int p0), .val (.int p1), .val (.int p2), .val (.long q3), .second, .val (.int z8), .val (.int (0 : Int32)), .val (.int (0 : Int32)), .val (.int (0 : Int32)), .val (.int z46), .val (.ref b49), .val (.ref b58), .val (.long v66), .second, .val (.ref r144), .val (.ref b180), .val (.ref b189), .val .null, .val (.long y197), .second] []))
                          refine own_by (fun _ k => XS.iconst X206.here hx rfl (hb hby at_301) k) ?_
                          show own_Go p e below _ (T206.setTop (mkF m 302 #[.val (.int p0), .val (.int p1), .val (.int p2), .val (.long q3), .second, .val (.int z8), .val (.int (0 : Int32)), .val (.int (0 : Int32)), .val (.int (0 : Int32)), .val (.int z46), .val (.ref b49), .val (.ref b58), .val (.long v66), .second, .val (.ref r144), .val (.ref b180), .val (.ref b189), .val .null, .val (.long y197), .second] [(.int (0 : Int32))]))
                          exact own_retN X206 hx (t := .boolean) Bd.returns (by simp) (hb hby at_302) hlk eq206 ⟨((ob_0_38 fn_f_EMPTY_KEY p0 p1 p2 q3 z8 z46 b51 b60 v66 y94 z146 y197 o207 hj9 hj18 hj28 hj38 hj47 hp56 hp65 hv66 hj126 hj178 hj198 hp208 c209)).elim, N206⟩ (by decide) (by decide)
                        · skip
                          refine own_by (fun _ k => XS.ifNo X206.here hx rfl (hb hby at_250) rfl ((if0 _ _).trans (feq c209).1) k) ?_
                          show own_Go p e below _ (T206.setTop (mkF m 253 #[.val (.int p0), .val (.int p1), .val (.int p2), .val (.long q3), .second, .val (.int z8), .val (.int (0 : Int32)), .val (.int (0 : Int32)), .val (.int (0 : Int32)), .val (.int z46), .val (.ref b49), .val (.ref b58), .val (.long v66), .second, .val (.ref r144), .val (.ref b180), .val (.ref b189), .val .null, .val (.long y197), .second] []))
                          refine own_by (fun _ k => XS.aload X206.here hx rfl (hb hby at_253) rfl rfl k) ?_
                          show own_Go p e below _ (T206.setTop (mkF m 255 #[.val (.int p0), .val (.int p1), .val (.int p2), .val (.long q3), .second, .val (.int z8), .val (.int (0 : Int32)), .val (.int (0 : Int32)), .val (.int (0 : Int32)), .val (.int z46), .val (.ref b49), .val (.ref b58), .val (.long v66), .second, .val (.ref r144), .val (.ref b180), .val (.ref b189), .val .null, .val (.long y197), .second] [(.ref b180)]))
                          have F210 : Fld Z h189 b180 "com/example/nested_keyspace/nestedkeyspace/ScanOptions" "to" "[B" .null := (F185.ext E189)
                          obtain ⟨cq211, kq211, qq211a, qq211b, qq211c⟩ := isOf hZ eq206 F201
                          obtain ⟨_, _, ⟨T211, L211, k211, n211⟩, -, X211, ⟨Lc211, hQ211, l211, y211, z211⟩, st211⟩ := X206.virtualBack hx (y := (⟨"com/example/nested_keyspace/nestedkeyspace/ScanOptions", "toKey", "()[B"⟩ : MethodName)) (z := (⟨"com/example/nested_keyspace/nestedkeyspace/ScanOptions", "toKey", "()[B"⟩ : MethodName)) hown (mvT hZ (hwd 50 rfl)) (mvT hZ (hwd 51 rfl)) (notFace_of_selects (args := #[]) (mvT hZ (hwd 53 rfl))) (mvT hZ (hwd 53 rfl)) (mvT hZ (hwd 52 rfl)) (by decide) (backOf (W := 0) (rmtoKeyN l Z A0 hw [] b180 h189 n0 Z189 F210) hZ (hwd 54 rfl) (hwd 8 rfl) (by decide) (by decide)) qq211a qq211c (g := (mkF m 255 #[.val (.int p0), .val (.int p1), .val (.int p2), .val (.long q3), .second, .val (.int z8), .val (.int (0 : Int32)), .val (.int (0 : Int32)), .val (.int (0 : Int32)), .val (.int z46), .val (.ref b49), .val (.ref b58), .val (.long v66), .second, .val (.ref r144), .val (.ref b180), .val (.ref b189), .val .null, .val (.long y197), .second] [(.ref b180)])) rfl (by rw [hml]; rfl) (Steps.refl _) (argsL := []) (rest := []) (lenOf pd_40 rfl) rfl (by show 2 * 0 + _ ≤ _; exact Nat.le_of_eq rfl) (hb hby at_255) (fun _ _ => ⟨rfl, eq206, (by decide : 7 + 0 ≤ _), (by decide : 26 + 0 ≤ _)⟩)
                          dsimp only [Pt.U, Pt.locs, Pt.cells, Pt.slots] at X211 l211 y211 z211 st211 hQ211
                          subst l211 y211 z211
                          obtain ⟨rfl, Nq211, eq211⟩ := hQ211
                          have N211 := Fr.app N206 Nq211
                          refine own_by (fun _ k => st211.trans k) ?_
                          show own_Go p e below _ (T211.setTop (mkF m 258 #[.val (.int p0), .val (.int p1), .val (.int p2), .val (.long q3), .second, .val (.int z8), .val (.int (0 : Int32)), .val (.int (0 : Int32)), .val (.int (0 : Int32)), .val (.int z46), .val (.ref b49), .val (.ref b58), .val (.long v66), .second, .val (.ref r144), .val (.ref b180), .val (.ref b189), .val .null, .val (.long y197), .second] [.null]))
                          refine own_by (fun _ k => XS.aload X211.here hx rfl (hb hby at_258) rfl rfl k) ?_
                          show own_Go p e below _ (T211.setTop (mkF m 260 #[.val (.int p0), .val (.int p1), .val (.int p2), .val (.long q3), .second, .val (.int z8), .val (.int (0 : Int32)), .val (.int (0 : Int32)), .val (.int (0 : Int32)), .val (.int z46), .val (.ref b49), .val (.ref b58), .val (.long v66), .second, .val (.ref r144), .val (.ref b180), .val (.ref b189), .val .null, .val (.long y197), .second] [.null, .null]))
                          obtain ⟨_, _, ⟨T212, L212, k212, n212⟩, -, X212, ⟨Lc212, hQ212, l212, y212, z212⟩, st212⟩ := Jvm.LawKit.callS X211 hx (y := (⟨"com/example/nested_keyspace/nestedkeyspace/ScanOptionsReversePinLaw", "sameBytes", "([B[B)Z"⟩ : MethodName)) hown (mvT hZ (hwd 47 rfl)) (mvT hZ (hwd 48 rfl)) (mvT hZ (hwd 2 rfl)) (mvT hZ (hwd 49 rfl)) (by decide) (backOf (W := 0) (rmsbNN l Z A0 hw []  h189 n0 Z189 ) hZ (hwd 49 rfl) (hwd 2 rfl) (by decide) (by decide)) (g := (mkF m 260 #[.val (.int p0), .val (.int p1), .val (.int p2), .val (.long q3), .second, .val (.int z8), .val (.int (0 : Int32)), .val (.int (0 : Int32)), .val (.int (0 : Int32)), .val (.int z46), .val (.ref b49), .val (.ref b58), .val (.long v66), .second, .val (.ref r144), .val (.ref b180), .val (.ref b189), .val .null, .val (.long y197), .second] [.null, .null])) rfl (by rw [hml]; rfl) (argsL := [.null, .null]) (rest := []) (lenOf pd_47 rfl) rfl (by show 2 * 0 + _ ≤ _; exact Nat.le_of_eq rfl) (hb hby at_260) (fun _ _ => ⟨rfl, eq211, (by decide : 7 + 0 ≤ _), (by decide : 26 + 0 ≤ _)⟩)
                          dsimp only [Pt.U, Pt.locs, Pt.cells, Pt.slots] at X212 l212 y212 z212 st212 hQ212
                          subst l212 y212 z212
                          obtain ⟨rfl, Nq212, eq212⟩ := hQ212
                          have N212 := Fr.app N211 Nq212
                          refine own_by st212 ?_
                          show own_Go p e below _ (T212.setTop (mkF m 263 #[.val (.int p0), .val (.int p1), .val (.int p2), .val (.long q3), .second, .val (.int z8), .val (.int (0 : Int32)), .val (.int (0 : Int32)), .val (.int (0 : Int32)), .val (.int z46), .val (.ref b49), .val (.ref b58), .val (.long v66), .second, .val (.ref r144), .val (.ref b180), .val (.ref b189), .val .null, .val (.long y197), .second] [(.int (1 : Int32))]))
                          refine own_by (fun _ k => XS.ifNo X212.here hx rfl (hb hby at_263) rfl ((if0 _ _).trans (feq (by decide : ¬ ((1 : Int32) = (0 : Int32)))).1) k) ?_
                          show own_Go p e below _ (T212.setTop (mkF m 266 #[.val (.int p0), .val (.int p1), .val (.int p2), .val (.long q3), .second, .val (.int z8), .val (.int (0 : Int32)), .val (.int (0 : Int32)), .val (.int (0 : Int32)), .val (.int z46), .val (.ref b49), .val (.ref b58), .val (.long v66), .second, .val (.ref r144), .val (.ref b180), .val (.ref b189), .val .null, .val (.long y197), .second] []))
                          refine own_by (fun _ k => XS.aload X212.here hx rfl (hb hby at_266) rfl rfl k) ?_
                          show own_Go p e below _ (T212.setTop (mkF m 268 #[.val (.int p0), .val (.int p1), .val (.int p2), .val (.long q3), .second, .val (.int z8), .val (.int (0 : Int32)), .val (.int (0 : Int32)), .val (.int (0 : Int32)), .val (.int z46), .val (.ref b49), .val (.ref b58), .val (.long v66), .second, .val (.ref r144), .val (.ref b180), .val (.ref b189), .val .null, .val (.long y197), .second] [(.ref b180)]))
                          have F213 : Fld Z h189 b180 "com/example/nested_keyspace/nestedkeyspace/ScanOptions" "subtree" "Z" (.int (0 : Int32)) := (F186.ext E189)
                          obtain ⟨cq214, kq214, qq214a, qq214b, qq214c⟩ := isOf hZ eq212 F201
                          obtain ⟨_, _, ⟨T214, L214, k214, n214⟩, -, X214, ⟨Lc214, hQ214, l214, y214, z214⟩, st214⟩ := X212.virtualBack hx (y := (⟨"com/example/nested_keyspace/nestedkeyspace/ScanOptions", "readsSubtree", "()Z"⟩ : MethodName)) (z := (⟨"com/example/nested_keyspace/nestedkeyspace/ScanOptions", "readsSubtree", "()Z"⟩ : MethodName)) hown (mvT hZ (hwd 55 rfl)) (mvT hZ (hwd 56 rfl)) (notFace_of_selects (args := #[]) (mvT hZ (hwd 58 rfl))) (mvT hZ (hwd 58 rfl)) (mvT hZ (hwd 57 rfl)) (by decide) (backOf (W := 0) (rm10 l Z A0 hw [] b180 (0 : Int32) h189 n0 Z189 F213) hZ (hwd 59 rfl) (hwd 8 rfl) (by decide) (by decide)) qq214a qq214c (g := (mkF m 268 #[.val (.int p0), .val (.int p1), .val (.int p2), .val (.long q3), .second, .val (.int z8), .val (.int (0 : Int32)), .val (.int (0 : Int32)), .val (.int (0 : Int32)), .val (.int z46), .val (.ref b49), .val (.ref b58), .val (.long v66), .second, .val (.ref r144), .val (.ref b180), .val (.ref b189), .val .null, .val (.long y197), .second] [(.ref b180)])) rfl (by rw [hml]; rfl) (Steps.refl _) (argsL := []) (rest := []) (lenOf pd_35 rfl) rfl (by show 2 * 0 + _ ≤ _; exact Nat.le_of_eq rfl) (hb hby at_268) (fun _ _ => ⟨rfl, eq212, (by decide : 7 + 0 ≤ _), (by decide : 26 + 0 ≤ _)⟩)
                          dsimp only [Pt.U, Pt.locs, Pt.cells, Pt.slots] at X214 l214 y214 z214 st214 hQ214
                          subst l214 y214 z214
                          obtain ⟨rfl, Nq214, eq214⟩ := hQ214
                          have N214 := Fr.app N212 Nq214
                          refine own_by (fun _ k => st214.trans k) ?_
                          show own_Go p e below _ (T214.setTop (mkF m 271 #[.val (.int p0), .val (.int p1), .val (.int p2), .val (.long q3), .second, .val (.int z8), .val (.int (0 : Int32)), .val (.int (0 : Int32)), .val (.int (0 : Int32)), .val (.int z46), .val (.ref b49), .val (.ref b58), .val (.long v66), .second, .val (.ref r144), .val (.ref b180), .val (.ref b189), .val .null, .val (.long y197), .second] [(.int (0 : Int32))]))
                          refine own_by (fun _ k => XS.iload X214.here hx rfl (hb hby at_271) rfl k) ?_
                          show own_Go p e below _ (T214.setTop (mkF m 273 #[.val (.int p0), .val (.int p1), .val (.int p2), .val (.long q3), .second, .val (.int z8), .val (.int (0 : Int32)), .val (.int (0 : Int32)), .val (.int (0 : Int32)), .val (.int z46), .val (.ref b49), .val (.ref b58), .val (.long v66), .second, .val (.ref r144), .val (.ref b180), .val (.ref b189), .val .null, .val (.long y197), .second] [(.int (0 : Int32)), (.int (0 : Int32))]))
                          refine own_by (fun _ k => XS.icmpNo X214.here hx rfl (hb hby at_273) rfl (teq (by decide : (0 : Int32) = (0 : Int32))).2 k) ?_
                          show own_Go p e below _ (T214.setTop (mkF m 276 #[.val (.int p0), .val (.int p1), .val (.int p2), .val (.long q3), .second, .val (.int z8), .val (.int (0 : Int32)), .val (.int (0 : Int32)), .val (.int (0 : Int32)), .val (.int z46), .val (.ref b49), .val (.ref b58), .val (.long v66), .second, .val (.ref r144), .val (.ref b180), .val (.ref b189), .val .null, .val (.long y197), .second] []))
                          refine own_by (fun _ k => XS.aload X214.here hx rfl (hb hby at_276) rfl rfl k) ?_
                          show own_Go p e below _ (T214.setTop (mkF m 278 #[.val (.int p0), .val (.int p1), .val (.int p2), .val (.long q3), .second, .val (.int z8), .val (.int (0 : Int32)), .val (.int (0 : Int32)), .val (.int (0 : Int32)), .val (.int z46), .val (.ref b49), .val (.ref b58), .val (.long v66), .second, .val (.ref r144), .val (.ref b180), .val (.ref b189), .val .null, .val (.long y197), .second] [(.ref b180)]))
                          have F215 : Fld Z h189 b180 "com/example/nested_keyspace/nestedkeyspace/ScanOptions" "limit" "J" (.long y94) := (F188.ext E189)
                          obtain ⟨cq216, kq216, qq216a, qq216b, qq216c⟩ := isOf hZ eq214 F201
                          obtain ⟨_, _, ⟨T216, L216, k216, n216⟩, -, X216, ⟨Lc216, hQ216, l216, y216, z216⟩, st216⟩ := X214.virtualBack hx (y := (⟨"com/example/nested_keyspace/nestedkeyspace/ScanOptions", "maxEntries", "()J"⟩ : MethodName)) (z := (⟨"com/example/nested_keyspace/nestedkeyspace/ScanOptions", "maxEntries", "()J"⟩ : MethodName)) hown (mvT hZ (hwd 60 rfl)) (mvT hZ (hwd 61 rfl)) (notFace_of_selects (args := #[]) (mvT hZ (hwd 63 rfl))) (mvT hZ (hwd 63 rfl)) (mvT hZ (hwd 62 rfl)) (by decide) (backOf (W := 0) (rm11 l Z A0 hw [] b180 y94 h189 n0 Z189 F215) hZ (hwd 64 rfl) (hwd 8 rfl) (by decide) (by decide)) qq216a qq216c (g := (mkF m 278 #[.val (.int p0), .val (.int p1), .val (.int p2), .val (.long q3), .second, .val (.int z8), .val (.int (0 : Int32)), .val (.int (0 : Int32)), .val (.int (0 : Int32)), .val (.int z46), .val (.ref b49), .val (.ref b58), .val (.long v66), .second, .val (.ref r144), .val (.ref b180), .val (.ref b189), .val .null, .val (.long y197), .second] [(.ref b180)])) rfl (by rw [hml]; rfl) (Steps.refl _) (argsL := []) (rest := []) (lenOf pd_60 rfl) rfl (by show 2 * 0 + _ ≤ _; exact Nat.le_of_eq rfl) (hb hby at_278) (fun _ _ => ⟨rfl, eq214, (by decide : 7 + 0 ≤ _), (by decide : 26 + 0 ≤ _)⟩)
                          dsimp only [Pt.U, Pt.locs, Pt.cells, Pt.slots] at X216 l216 y216 z216 st216 hQ216
                          subst l216 y216 z216
                          obtain ⟨rfl, Nq216, eq216⟩ := hQ216
                          have N216 := Fr.app N214 Nq216
                          refine own_by (fun _ k => st216.trans k) ?_
                          show own_Go p e below _ (T216.setTop (mkF m 281 #[.val (.int p0), .val (.int p1), .val (.int p2), .val (.long q3), .second, .val (.int z8), .val (.int (0 : Int32)), .val (.int (0 : Int32)), .val (.int (0 : Int32)), .val (.int z46), .val (.ref b49), .val (.ref b58), .val (.long v66), .second, .val (.ref r144), .val (.ref b180), .val (.ref b189), .val .null, .val (.long y197), .second] [(.long y94)]))
                          refine own_by (fun _ k => XS.lload X216.here hx rfl (hb hby at_281) rfl k) ?_
                          show own_Go p e below _ (T216.setTop (mkF m 283 #[.val (.int p0), .val (.int p1), .val (.int p2), .val (.long q3), .second, .val (.int z8), .val (.int (0 : Int32)), .val (.int (0 : Int32)), .val (.int (0 : Int32)), .val (.int z46), .val (.ref b49), .val (.ref b58), .val (.long v66), .second, .val (.ref r144), .val (.ref b180), .val (.ref b189), .val .null, .val (.long y197), .second] [(.long y197), (.long y94)]))
                          refine own_by (fun _ k => XS.lcmp X216.here hx rfl (hb hby at_283) rfl k) ?_
                          show own_Go p e below _ (T216.setTop (mkF m 284 #[.val (.int p0), .val (.int p1), .val (.int p2), .val (.long q3), .second, .val (.int z8), .val (.int (0 : Int32)), .val (.int (0 : Int32)), .val (.int (0 : Int32)), .val (.int z46), .val (.ref b49), .val (.ref b58), .val (.long v66), .second, .val (.ref r144), .val (.ref b180), .val (.ref b189), .val .null, .val (.long y197), .second] [(.int (lcmpW y94 y197))]))
                          by_cases c217 : y94 = y197
                          · skip
                            refine own_by (fun _ k => XS.ifNo X216.here hx rfl (hb hby at_284) rfl ((if0 _ _).trans (teq ((lw_eq _ _).mpr c217)).2) k) ?_
                            show own_Go p e below _ (T216.setTop (mkF m 287 #[.val (.int p0), .val (.int p1), .val (.int p2), .val (.long q3), .second, .val (.int z8), .val (.int (0 : Int32)), .val (.int (0 : Int32)), .val (.int (0 : Int32)), .val (.int z46), .val (.ref b49), .val (.ref b58), .val (.long v66), .second, .val (.ref r144), .val (.ref b180), .val (.ref b189), .val .null, .val (.long y197), .second] []))
                            refine own_by (fun _ k => XS.aload X216.here hx rfl (hb hby at_287) rfl rfl k) ?_
                            show own_Go p e below _ (T216.setTop (mkF m 289 #[.val (.int p0), .val (.int p1), .val (.int p2), .val (.long q3), .second, .val (.int z8), .val (.int (0 : Int32)), .val (.int (0 : Int32)), .val (.int (0 : Int32)), .val (.int z46), .val (.ref b49), .val (.ref b58), .val (.long v66), .second, .val (.ref r144), .val (.ref b180), .val (.ref b189), .val .null, .val (.long y197), .second] [(.ref r144)]))
                            have F218 : Fld Z h189 r144 "com/example/nested_keyspace/nestedkeyspace/ScanOptions" "reverse" "Z" (.int z146) := ((F170.keep Kq179 nin0).ext E189)
                            have F220 : Exa Z h189 r144 "com/example/nested_keyspace/nestedkeyspace/ScanOptions" := ((F166.keep Kq179).ext E189)
                            obtain ⟨cq219, kq219, qq219a, qq219b, qq219c⟩ := isOf hZ eq216 F220
                            obtain ⟨_, _, ⟨T219, L219, k219, n219⟩, -, X219, ⟨Lc219, hQ219, l219, y219, z219⟩, st219⟩ := X216.virtualBack hx (y := (⟨"com/example/nested_keyspace/nestedkeyspace/ScanOptions", "readsInReverse", "()Z"⟩ : MethodName)) (z := (⟨"com/example/nested_keyspace/nestedkeyspace/ScanOptions", "readsInReverse", "()Z"⟩ : MethodName)) hown (mvT hZ (hwd 35 rfl)) (mvT hZ (hwd 36 rfl)) (notFace_of_selects (args := #[]) (mvT hZ (hwd 38 rfl))) (mvT hZ (hwd 38 rfl)) (mvT hZ (hwd 37 rfl)) (by decide) (backOf (W := 0) (rm6 l Z A0 hw [] r144 z146 h189 n0 Z189 F218) hZ (hwd 39 rfl) (hwd 8 rfl) (by decide) (by decide)) qq219a qq219c (g := (mkF m 289 #[.val (.int p0), .val (.int p1), .val (.int p2), .val (.long q3), .second, .val (.int z8), .val (.int (0 : Int32)), .val (.int (0 : Int32)), .val (.int (0 : Int32)), .val (.int z46), .val (.ref b49), .val (.ref b58), .val (.long v66), .second, .val (.ref r144), .val (.ref b180), .val (.ref b189), .val .null, .val (.long y197), .second] [(.ref r144)])) rfl (by rw [hml]; rfl) (Steps.refl _) (argsL := []) (rest := []) (lenOf pd_35 rfl) rfl (by show 2 * 0 + _ ≤ _; exact Nat.le_of_eq rfl) (hb hby at_289) (fun _ _ => ⟨rfl, eq216, (by decide : 7 + 0 ≤ _), (by decide : 26 + 0 ≤ _)⟩)
                            dsimp only [Pt.U, Pt.locs, Pt.cells, Pt.slots] at X219 l219 y219 z219 st219 hQ219
                            subst l219 y219 z219
                            obtain ⟨rfl, Nq219, eq219⟩ := hQ219
                            have N219 := Fr.app N216 Nq219
                            refine own_by (fun _ k => st219.trans k) ?_
                            show own_Go p e below _ (T219.setTop (mkF m 292 #[.val (.int p0), .val (.int p1), .val (.int p2), .val (.long q3), .second, .val (.int z8), .val (.int (0 : Int32)), .val (.int (0 : Int32)), .val (.int (0 : Int32)), .val (.int z46), .val (.ref b49), .val (.ref b58), .val (.long v66), .second, .val (.ref r144), .val (.ref b180), .val (.ref b189), .val .null, .val (.long y197), .second] [(.int (nar .boolean z146))]))
                            refine own_by (fun _ k => XS.iload X219.here hx rfl (hb hby at_292) rfl k) ?_
                            show own_Go p e below _ (T219.setTop (mkF m 294 #[.val (.int p0), .val (.int p1), .val (.int p2), .val (.long q3), .second, .val (.int z8), .val (.int (0 : Int32)), .val (.int (0 : Int32)), .val (.int (0 : Int32)), .val (.int z46), .val (.ref b49), .val (.ref b58), .val (.long v66), .second, .val (.ref r144), .val (.ref b180), .val (.ref b189), .val .null, .val (.long y197), .second] [(.int z46), (.int (nar .boolean z146))]))
                            by_cases c221 : (nar .boolean z146) = z46
                            · skip
                              refine own_by (fun _ k => XS.icmpNo X219.here hx rfl (hb hby at_294) rfl (teq c221).2 k) ?_
                              show own_Go p e below _ (T219.setTop (mkF m 297 #[.val (.int p0), .val (.int p1), .val (.int p2), .val (.long q3), .second, .val (.int z8), .val (.int (0 : Int32)), .val (.int (0 : Int32)), .val (.int (0 : Int32)), .val (.int z46), .val (.ref b49), .val (.ref b58), .val (.long v66), .second, .val (.ref r144), .val (.ref b180), .val (.ref b189), .val .null, .val (.long y197), .second] []))
                              refine own_by (fun _ k => XS.iconst X219.here hx rfl (hb hby at_297) k) ?_
                              show own_Go p e below _ (T219.setTop (mkF m 298 #[.val (.int p0), .val (.int p1), .val (.int p2), .val (.long q3), .second, .val (.int z8), .val (.int (0 : Int32)), .val (.int (0 : Int32)), .val (.int (0 : Int32)), .val (.int z46), .val (.ref b49), .val (.ref b58), .val (.long v66), .second, .val (.ref r144), .val (.ref b180), .val (.ref b189), .val .null, .val (.long y197), .second] [(.int (1 : Int32))]))
                              refine own_by (fun _ k => XS.goto X219.here hx rfl (pc0 := 298) (pc' := 302) rfl (hb hby at_298) (by decide) (by decide) k) ?_
                              show own_Go p e below _ (T219.setTop (mkF m 302 #[.val (.int p0), .val (.int p1), .val (.int p2), .val (.long q3), .second, .val (.int z8), .val (.int (0 : Int32)), .val (.int (0 : Int32)), .val (.int (0 : Int32)), .val (.int z46), .val (.ref b49), .val (.ref b58), .val (.long v66), .second, .val (.ref r144), .val (.ref b180), .val (.ref b189), .val .null, .val (.long y197), .second] [(.int (1 : Int32))]))
                              exact own_retN X219 hx (t := .boolean) Bd.returns (by simp) (hb hby at_302) hlk eq219 ⟨rfl, N219⟩ (by decide) (by decide)
                            · skip
                              refine own_by (fun _ k => XS.icmpYes X219.here hx rfl (pc0 := 294) (pc' := 301) rfl (hb hby at_294) rfl (feq c221).2 (by decide) (by decide) k) ?_
                              show own_Go p e below _ (T219.setTop (mkF m 301 #[.val (.int p0), .val (.int p1), .val (.int p2), .val (.long q3), .second, .val (.int z8), .val (.int (0 : Int32)), .val (.int (0 : Int32)), .val (.int (0 : Int32)), .val (.int z46), .val (.ref b49), .val (.ref b58), .val (.long v66), .second, .val (.ref r144), .val (.ref b180), .val (.ref b189), .val .null, .val (.long y197), .second] []))
                              refine own_by (fun _ k => XS.iconst X219.here hx rfl (hb hby at_301) k) ?_
                              show own_Go p e below _ (T219.setTop (mkF m 302 #[.val (.int p0), .val (.int p1), .val (.int p2), .val (.long q3), .second, .val (.int z8), .val (.int (0 : Int32)), .val (.int (0 : Int32)), .val (.int (0 : Int32)), .val (.int z46), .val (.ref b49), .val (.ref b58), .val (.long v66), .second, .val (.ref r144), .val (.ref b180), .val (.ref b189), .val .null, .val (.long y197), .second] [(.int (0 : Int32))]))
                              exact own_retN X219 hx (t := .boolean) Bd.returns (by simp) (hb hby at_302) hlk eq219 ⟨((ob_0_39 fn_f_EMPTY_KEY p0 p1 p2 q3 z8 z46 b51 b60 v66 y94 z146 y197 o207 hj9 hj18 hj28 hj38 hj47 hp56 hp65 hv66 hj126 hj178 hj198 hp208 c209 c217 c221)).elim, N219⟩ (by decide) (by decide)
                          · skip
                            refine own_by (fun _ k => XS.ifYes X216.here hx rfl (pc0 := 284) (pc' := 301) rfl (hb hby at_284) rfl ((if0 _ _).trans (feq (fun q => c217 ((lw_eq _ _).mp q))).2) (by decide) (by decide) k) ?_
                            show own_Go p e below _ (T216.setTop (mkF m 301 #[.val (.int p0), .val (.int p1), .val (.int p2), .val (.long q3), .second, .val (.int z8), .val (.int (0 : Int32)), .val (.int (0 : Int32)), .val (.int (0 : Int32)), .val (.int z46), .val (.ref b49), .val (.ref b58), .val (.long v66), .second, .val (.ref r144), .val (.ref b180), .val (.ref b189), .val .null, .val (.long y197), .second] []))
                            refine own_by (fun _ k => XS.iconst X216.here hx rfl (hb hby at_301) k) ?_
                            show own_Go p e below _ (T216.setTop (mkF m 302 #[.val (.int p0), .val (.int p1), .val (.int p2), .val (.long q3), .second, .val (.int z8), .val (.int (0 : Int32)), .val (.int (0 : Int32)), .val (.int (0 : Int32)), .val (.int z46), .val (.ref b49), .val (.ref b58), .val (.long v66), .second, .val (.ref r144), .val (.ref b180), .val (.ref b189), .val .null, .val (.long y197), .second] [(.int (0 : Int32))]))
                            exact own_retN X216 hx (t := .boolean) Bd.returns (by simp) (hb hby at_302) hlk eq216 ⟨((ob_0_40 fn_f_EMPTY_KEY p0 p1 p2 q3 z8 z46 b51 b60 v66 y94 z146 y197 o207 hj9 hj18 hj28 hj38 hj47 hp56 hp65 hv66 hj126 hj178 hj198 hp208 c209 c217)).elim, N216⟩ (by decide) (by decide)
                      by_cases c190 : z8 = (0 : Int32)
                      · skip
                        refine own_by (fun _ k => XS.ifYes X189.here hx rfl (pc0 := 219) (pc' := 227) rfl (hb hby at_219) rfl ((if0 _ _).trans (teq c190).1) (by decide) (by decide) k) ?_
                        show own_Go p e below _ (T189.setTop (mkF m 227 #[.val (.int p0), .val (.int p1), .val (.int p2), .val (.long q3), .second, .val (.int z8), .val (.int (0 : Int32)), .val (.int (0 : Int32)), .val (.int (0 : Int32)), .val (.int z46), .val (.ref b49), .val (.ref b58), .val (.long v66), .second, .val (.ref r144), .val (.ref b180), .val (.ref b189), .val .null, .unset, .unset] []))
                        refine own_by (fun t k => X189.ldc2Long hx hown (mvT hZ (hwd 5 rfl)) (g := (mkF m 227 #[.val (.int p0), .val (.int p1), .val (.int p2), .val (.long q3), .second, .val (.int z8), .val (.int (0 : Int32)), .val (.int (0 : Int32)), .val (.int (0 : Int32)), .val (.int z46), .val (.ref b49), .val (.ref b58), .val (.long v66), .second, .val (.ref r144), .val (.ref b180), .val (.ref b189), .val .null, .unset, .unset] [])) rfl (hb hby at_227) _ k) ?_
                        show own_Go p e below _ (T189.setTop (mkF m 230 #[.val (.int p0), .val (.int p1), .val (.int p2), .val (.long q3), .second, .val (.int z8), .val (.int (0 : Int32)), .val (.int (0 : Int32)), .val (.int (0 : Int32)), .val (.int z46), .val (.ref b49), .val (.ref b58), .val (.long v66), .second, .val (.ref r144), .val (.ref b180), .val (.ref b189), .val .null, .unset, .unset] [(.long (9223372036854775807 : Int64))]))
                        exact J191 _ _ (9223372036854775807 : Int64) X189 e189 N179 (Or.inl ⟨c190, rfl⟩)
                      · skip
                        refine own_by (fun _ k => XS.ifNo X189.here hx rfl (hb hby at_219) rfl ((if0 _ _).trans (feq c190).1) k) ?_
                        show own_Go p e below _ (T189.setTop (mkF m 222 #[.val (.int p0), .val (.int p1), .val (.int p2), .val (.long q3), .second, .val (.int z8), .val (.int (0 : Int32)), .val (.int (0 : Int32)), .val (.int (0 : Int32)), .val (.int z46), .val (.ref b49), .val (.ref b58), .val (.long v66), .second, .val (.ref r144), .val (.ref b180), .val (.ref b189), .val .null, .unset, .unset] []))
                        refine own_by (fun _ k => XS.lload X189.here hx rfl (hb hby at_222) rfl k) ?_
                        show own_Go p e below _ (T189.setTop (mkF m 224 #[.val (.int p0), .val (.int p1), .val (.int p2), .val (.long q3), .second, .val (.int z8), .val (.int (0 : Int32)), .val (.int (0 : Int32)), .val (.int (0 : Int32)), .val (.int z46), .val (.ref b49), .val (.ref b58), .val (.long v66), .second, .val (.ref r144), .val (.ref b180), .val (.ref b189), .val .null, .unset, .unset] [(.long v66)]))
                        refine own_by (fun _ k => XS.goto X189.here hx rfl (pc0 := 224) (pc' := 230) rfl (hb hby at_224) (by decide) (by decide) k) ?_
                        show own_Go p e below _ (T189.setTop (mkF m 230 #[.val (.int p0), .val (.int p1), .val (.int p2), .val (.long q3), .second, .val (.int z8), .val (.int (0 : Int32)), .val (.int (0 : Int32)), .val (.int (0 : Int32)), .val (.int z46), .val (.ref b49), .val (.ref b58), .val (.long v66), .second, .val (.ref r144), .val (.ref b180), .val (.ref b189), .val .null, .unset, .unset] [(.long v66)]))
                        exact J191 _ _ v66 X189 e189 N179 (Or.inr (⟨c190, rfl⟩))
                    · skip
                      show own_Go p e below _ (T139.setTop (mkF m 170 #[.val (.int p0), .val (.int p1), .val (.int p2), .val (.long q3), .second, .val (.int z8), .val (.int (1 : Int32)), .val (.int (0 : Int32)), .val (.int (0 : Int32)), .val (.int z46), .val (.ref b49), .val (.ref b58), .val (.long v66), .second, .val (.ref r144), .unset, .unset, .unset, .unset, .unset] []))
                      refine own_by (fun _ k => XS.iload X141.here hx rfl (hb hby at_170) rfl k) ?_
                      show own_Go p e below _ (T139.setTop (mkF m 172 #[.val (.int p0), .val (.int p1), .val (.int p2), .val (.long q3), .second, .val (.int z8), .val (.int (1 : Int32)), .val (.int (0 : Int32)), .val (.int (0 : Int32)), .val (.int z46), .val (.ref b49), .val (.ref b58), .val (.long v66), .second, .val (.ref r144), .unset, .unset, .unset, .unset, .unset] [(.int (1 : Int32))]))
                      refine own_by (fun _ k => XS.ifNo X141.here hx rfl (hb hby at_172) rfl ((if0 _ _).trans (feq (by decide : ¬ ((1 : Int32) = (0 : Int32)))).1) k) ?_
                      show own_Go p e below _ (T139.setTop (mkF m 175 #[.val (.int p0), .val (.int p1), .val (.int p2), .val (.long q3), .second, .val (.int z8), .val (.int (1 : Int32)), .val (.int (0 : Int32)), .val (.int (0 : Int32)), .val (.int z46), .val (.ref b49), .val (.ref b58), .val (.long v66), .second, .val (.ref r144), .unset, .unset, .unset, .unset, .unset] []))
                      refine own_by (fun _ k => XS.aload X141.here hx rfl (hb hby at_175) rfl rfl k) ?_
                      show own_Go p e below _ (T139.setTop (mkF m 177 #[.val (.int p0), .val (.int p1), .val (.int p2), .val (.long q3), .second, .val (.int z8), .val (.int (1 : Int32)), .val (.int (0 : Int32)), .val (.int (0 : Int32)), .val (.int z46), .val (.ref b49), .val (.ref b58), .val (.long v66), .second, .val (.ref r144), .unset, .unset, .unset, .unset, .unset] [(.ref r144)]))
                      obtain ⟨cq222, kq222, qq222a, qq222b, qq222c⟩ := isOf hZ e142 F166
                      obtain ⟨_, _, ⟨T222, L222, k222, n222⟩, -, X222, ⟨Lc222, hQ222, l222, y222, z222⟩, st222⟩ := X141.virtualBack hx (y := (⟨"com/example/nested_keyspace/nestedkeyspace/ScanOptions", "subtree", "()Lcom/example/nested_keyspace/nestedkeyspace/ScanOptions;"⟩ : MethodName)) (z := (⟨"com/example/nested_keyspace/nestedkeyspace/ScanOptions", "subtree", "()Lcom/example/nested_keyspace/nestedkeyspace/ScanOptions;"⟩ : MethodName)) hown (mvT hZ (hwd 83 rfl)) (mvT hZ (hwd 84 rfl)) (notFace_of_selects (args := #[]) (mvT hZ (hwd 86 rfl))) (mvT hZ (hwd 86 rfl)) (mvT hZ (hwd 85 rfl)) (by decide) (backOf (W := 0) (rm14 l Z A0 hw [] r144 z146 y94 h145 n0 Z148 F169 F167 F168 F170 F171) hZ (hwd 87 rfl) (hwd 8 rfl) (by decide) (by decide)) qq222a qq222c (g := (mkF m 177 #[.val (.int p0), .val (.int p1), .val (.int p2), .val (.long q3), .second, .val (.int z8), .val (.int (1 : Int32)), .val (.int (0 : Int32)), .val (.int (0 : Int32)), .val (.int z46), .val (.ref b49), .val (.ref b58), .val (.long v66), .second, .val (.ref r144), .unset, .unset, .unset, .unset, .unset] [(.ref r144)])) rfl (by rw [hml]; rfl) (Steps.refl _) (argsL := []) (rest := []) (lenOf pd_29 rfl) rfl (by show 2 * 0 + _ ≤ _; exact Nat.le_of_eq rfl) (hb hby at_177) (fun _ _ => ⟨rfl, e142, (by decide : 5 + 1 ≤ _), (by decide : 21 + 5 ≤ _)⟩)
                      dsimp only [Pt.U, Pt.locs, Pt.cells, Pt.slots] at X222 l222 y222 z222 st222 hQ222
                      subst l222 y222 z222
                      obtain ⟨b223, rfl, Nq222, Kq222, hp224, hp225, F226, F227, F228, F229, F230, F231⟩ := hQ222
                      have N222 := Fr.app N143 Nq222
                      have K222 : Keep h0 T222.heap [] := K147.trans Kq222 (all0)
                      have Z222 : n0 ≤ T222.heap.size := Nat.le_trans Z148 Kq222.1
                      have sz_b223 : h0.size ≤ b223 := Nat.le_trans K147.1 hp225
                      refine own_by (fun _ k => st222.trans k) ?_
                      show own_Go p e below _ (T222.setTop (mkF m 180 #[.val (.int p0), .val (.int p1), .val (.int p2), .val (.long q3), .second, .val (.int z8), .val (.int (1 : Int32)), .val (.int (0 : Int32)), .val (.int (0 : Int32)), .val (.int z46), .val (.ref b49), .val (.ref b58), .val (.long v66), .second, .val (.ref r144), .unset, .unset, .unset, .unset, .unset] [(.ref b223)]))
                      refine own_by (fun _ k => XS.astore X222.here hx rfl (hb hby at_180) rfl rfl (l' := #[.val (.int p0), .val (.int p1), .val (.int p2), .val (.long q3), .second, .val (.int z8), .val (.int (1 : Int32)), .val (.int (0 : Int32)), .val (.int (0 : Int32)), .val (.int z46), .val (.ref b49), .val (.ref b58), .val (.long v66), .second, .val (.ref b223), .unset, .unset, .unset, .unset, .unset]) rfl k) ?_
                      show own_Go p e below _ (T222.setTop (mkF m 182 #[.val (.int p0), .val (.int p1), .val (.int p2), .val (.long q3), .second, .val (.int z8), .val (.int (1 : Int32)), .val (.int (0 : Int32)), .val (.int (0 : Int32)), .val (.int z46), .val (.ref b49), .val (.ref b58), .val (.long v66), .second, .val (.ref b223), .unset, .unset, .unset, .unset, .unset] []))
                      refine own_by (fun _ k => XS.aload X222.here hx rfl (hb hby at_182) rfl rfl k) ?_
                      show own_Go p e below _ (T222.setTop (mkF m 184 #[.val (.int p0), .val (.int p1), .val (.int p2), .val (.long q3), .second, .val (.int z8), .val (.int (1 : Int32)), .val (.int (0 : Int32)), .val (.int (0 : Int32)), .val (.int z46), .val (.ref b49), .val (.ref b58), .val (.long v66), .second, .val (.ref b223), .unset, .unset, .unset, .unset, .unset] [(.ref b223)]))
                      obtain ⟨cq232, kq232, qq232a, qq232b, qq232c⟩ := isOf hZ rfl F226
                      obtain ⟨_, _, ⟨T232, L232, k232, n232⟩, -, X232, ⟨Lc232, hQ232, l232, y232, z232⟩, st232⟩ := X222.virtualBack hx (y := (⟨"com/example/nested_keyspace/nestedkeyspace/ScanOptions", "reverse", "()Lcom/example/nested_keyspace/nestedkeyspace/ScanOptions;"⟩ : MethodName)) (z := (⟨"com/example/nested_keyspace/nestedkeyspace/ScanOptions", "reverse", "()Lcom/example/nested_keyspace/nestedkeyspace/ScanOptions;"⟩ : MethodName)) hown (mvT hZ (hwd 29 rfl)) (mvT hZ (hwd 30 rfl)) (notFace_of_selects (args := #[]) (mvT hZ (hwd 32 rfl))) (mvT hZ (hwd 32 rfl)) (mvT hZ (hwd 31 rfl)) (by decide) (backOf (W := 0) (rm5 l Z A0 hw [] b223 (.null) (.null) (1 : Int32) y94 T222.heap n0 Z222 rfl F227 rfl F228 F229 F231) hZ (hwd 33 rfl) (hwd 8 rfl) (by decide) (by decide)) qq232a qq232c (g := (mkF m 184 #[.val (.int p0), .val (.int p1), .val (.int p2), .val (.long q3), .second, .val (.int z8), .val (.int (1 : Int32)), .val (.int (0 : Int32)), .val (.int (0 : Int32)), .val (.int z46), .val (.ref b49), .val (.ref b58), .val (.long v66), .second, .val (.ref b223), .unset, .unset, .unset, .unset, .unset] [(.ref b223)])) rfl (by rw [hml]; rfl) (Steps.refl _) (argsL := []) (rest := []) (lenOf pd_29 rfl) rfl (by show 2 * 0 + _ ≤ _; exact Nat.le_of_eq rfl) (hb hby at_184) (fun _ _ => ⟨rfl, rfl, (by decide : 6 + 1 ≤ _), (by decide : 26 + 5 ≤ _)⟩)
                      dsimp only [Pt.U, Pt.locs, Pt.cells, Pt.slots] at X232 l232 y232 z232 st232 hQ232
                      subst l232 y232 z232
                      obtain ⟨b233, rfl, Nq232, Kq232, hp234, hp235, F236, F237, F238, F239, F240, F241⟩ := hQ232
                      have N232 := Fr.app N222 Nq232
                      have K232 : Keep h0 T232.heap [] := K222.trans Kq232 (all0)
                      have Z232 : n0 ≤ T232.heap.size := Nat.le_trans Z222 Kq232.1
                      have sz_b233 : h0.size ≤ b233 := Nat.le_trans K222.1 hp235
                      refine own_by (fun _ k => st232.trans k) ?_
                      show own_Go p e below _ (T232.setTop (mkF m 187 #[.val (.int p0), .val (.int p1), .val (.int p2), .val (.long q3), .second, .val (.int z8), .val (.int (1 : Int32)), .val (.int (0 : Int32)), .val (.int (0 : Int32)), .val (.int z46), .val (.ref b49), .val (.ref b58), .val (.long v66), .second, .val (.ref b223), .unset, .unset, .unset, .unset, .unset] [(.ref b233)]))
                      refine own_by (fun _ k => XS.astore X232.here hx rfl (hb hby at_187) rfl rfl (l' := #[.val (.int p0), .val (.int p1), .val (.int p2), .val (.long q3), .second, .val (.int z8), .val (.int (1 : Int32)), .val (.int (0 : Int32)), .val (.int (0 : Int32)), .val (.int z46), .val (.ref b49), .val (.ref b58), .val (.long v66), .second, .val (.ref b223), .val (.ref b233), .unset, .unset, .unset, .unset]) rfl k) ?_
                      show own_Go p e below _ (T232.setTop (mkF m 189 #[.val (.int p0), .val (.int p1), .val (.int p2), .val (.long q3), .second, .val (.int z8), .val (.int (1 : Int32)), .val (.int (0 : Int32)), .val (.int (0 : Int32)), .val (.int z46), .val (.ref b49), .val (.ref b58), .val (.long v66), .second, .val (.ref b223), .val (.ref b233), .unset, .unset, .unset, .unset] []))
                      refine own_by (fun _ k => XS.iload X232.here hx rfl (hb hby at_189) rfl k) ?_
                      show own_Go p e below _ (T232.setTop (mkF m 191 #[.val (.int p0), .val (.int p1), .val (.int p2), .val (.long q3), .second, .val (.int z8), .val (.int (1 : Int32)), .val (.int (0 : Int32)), .val (.int (0 : Int32)), .val (.int z46), .val (.ref b49), .val (.ref b58), .val (.long v66), .second, .val (.ref b223), .val (.ref b233), .unset, .unset, .unset, .unset] [(.int (0 : Int32))]))
                      refine own_by (fun _ k => XS.ifYes X232.here hx rfl (pc0 := 191) (pc' := 199) rfl (hb hby at_191) rfl ((if0 _ _).trans (teq (by decide : (0 : Int32) = (0 : Int32))).1) (by decide) (by decide) k) ?_
                      show own_Go p e below _ (T232.setTop (mkF m 199 #[.val (.int p0), .val (.int p1), .val (.int p2), .val (.long q3), .second, .val (.int z8), .val (.int (1 : Int32)), .val (.int (0 : Int32)), .val (.int (0 : Int32)), .val (.int z46), .val (.ref b49), .val (.ref b58), .val (.long v66), .second, .val (.ref b223), .val (.ref b233), .unset, .unset, .unset, .unset] []))
                      refine own_by (fun _ k => XS.iconst X232.here hx rfl (hb hby at_199) k) ?_
                      show own_Go p e below _ (T232.setTop (mkF m 200 #[.val (.int p0), .val (.int p1), .val (.int p2), .val (.long q3), .second, .val (.int z8), .val (.int (1 : Int32)), .val (.int (0 : Int32)), .val (.int (0 : Int32)), .val (.int z46), .val (.ref b49), .val (.ref b58), .val (.long v66), .second, .val (.ref b223), .val (.ref b233), .unset, .unset, .unset, .unset] [(.int (0 : Int32))]))
                      obtain ⟨T242, h242, k242, X242, e242, E242, A242, Ax242, st242⟩ := newPE X232 hx hZ (hwd 4 rfl) rfl (g := (mkF m 200 #[.val (.int p0), .val (.int p1), .val (.int p2), .val (.long q3), .second, .val (.int z8), .val (.int (1 : Int32)), .val (.int (0 : Int32)), .val (.int (0 : Int32)), .val (.int z46), .val (.ref b49), .val (.ref b58), .val (.long v66), .second, .val (.ref b223), .val (.ref b233), .unset, .unset, .unset, .unset] [(.int (0 : Int32))])) rfl (hb hby at_200) rfl (by decide) (cap := 0) (by decide) (by decide) (by decide) (by decide) (ad := "[B") (by decide)
                      obtain ⟨b242, g242⟩ : ∃ z, z = T232.heap.size := ⟨_, rfl⟩
                      have ge_b242 : n0 ≤ b242 := Nat.le_trans Z232 (Nat.le_of_eq g242.symm)
                      have sz_b242 : h0.size ≤ b242 := Nat.le_trans K232.1 (Nat.le_of_eq g242.symm)
                      have K242 : Keep h0 h242 [] := K232.ext E242
                      have Z242 : n0 ≤ h242.size := Nat.le_trans Z232 E242.1
                      rw [← g242] at A242 Ax242 st242
                      have V242 : own_Arf Z h242 b242 k242 .byte (0 : Int32) (fun i => .int ((fun _ => (0 : Int32)) i)) := own_arfNew A242 (by decide)
                      refine own_by st242 ?_
                      show own_Go p e below _ (T242.setTop (mkF m 202 #[.val (.int p0), .val (.int p1), .val (.int p2), .val (.long q3), .second, .val (.int z8), .val (.int (1 : Int32)), .val (.int (0 : Int32)), .val (.int (0 : Int32)), .val (.int z46), .val (.ref b49), .val (.ref b58), .val (.long v66), .second, .val (.ref b223), .val (.ref b233), .unset, .unset, .unset, .unset] [(.ref b242)]))
                      refine own_by (fun _ k => XS.astore X242.here hx rfl (hb hby at_202) rfl rfl (l' := #[.val (.int p0), .val (.int p1), .val (.int p2), .val (.long q3), .second, .val (.int z8), .val (.int (1 : Int32)), .val (.int (0 : Int32)), .val (.int (0 : Int32)), .val (.int z46), .val (.ref b49), .val (.ref b58), .val (.long v66), .second, .val (.ref b223), .val (.ref b233), .val (.ref b242), .unset, .unset, .unset]) rfl k) ?_
                      show own_Go p e below _ (T242.setTop (mkF m 204 #[.val (.int p0), .val (.int p1), .val (.int p2), .val (.long q3), .second, .val (.int z8), .val (.int (1 : Int32)), .val (.int (0 : Int32)), .val (.int (0 : Int32)), .val (.int z46), .val (.ref b49), .val (.ref b58), .val (.long v66), .second, .val (.ref b223), .val (.ref b233), .val (.ref b242), .unset, .unset, .unset] []))
                      refine own_by (fun _ k => XS.iload X242.here hx rfl (hb hby at_204) rfl k) ?_
                      show own_Go p e below _ (T242.setTop (mkF m 206 #[.val (.int p0), .val (.int p1), .val (.int p2), .val (.long q3), .second, .val (.int z8), .val (.int (1 : Int32)), .val (.int (0 : Int32)), .val (.int (0 : Int32)), .val (.int z46), .val (.ref b49), .val (.ref b58), .val (.long v66), .second, .val (.ref b223), .val (.ref b233), .val (.ref b242), .unset, .unset, .unset] [(.int (0 : Int32))]))
                      refine own_by (fun _ k => XS.ifYes X242.here hx rfl (pc0 := 206) (pc' := 214) rfl (hb hby at_206) rfl ((if0 _ _).trans (teq (by decide : (0 : Int32) = (0 : Int32))).1) (by decide) (by decide) k) ?_
                      show own_Go p e below _ (T242.setTop (mkF m 214 #[.val (.int p0), .val (.int p1), .val (.int p2), .val (.long q3), .second, .val (.int z8), .val (.int (1 : Int32)), .val (.int (0 : Int32)), .val (.int (0 : Int32)), .val (.int z46), .val (.ref b49), .val (.ref b58), .val (.long v66), .second, .val (.ref b223), .val (.ref b233), .val (.ref b242), .unset, .unset, .unset] []))
                      refine own_by (fun _ k => XS.aconstNull X242.here hx rfl (hb hby at_214) k) ?_
                      show own_Go p e below _ (T242.setTop (mkF m 215 #[.val (.int p0), .val (.int p1), .val (.int p2), .val (.long q3), .second, .val (.int z8), .val (.int (1 : Int32)), .val (.int (0 : Int32)), .val (.int (0 : Int32)), .val (.int z46), .val (.ref b49), .val (.ref b58), .val (.long v66), .second, .val (.ref b223), .val (.ref b233), .val (.ref b242), .unset, .unset, .unset] [.null]))
                      refine own_by (fun _ k => XS.astore X242.here hx rfl (hb hby at_215) rfl rfl (l' := #[.val (.int p0), .val (.int p1), .val (.int p2), .val (.long q3), .second, .val (.int z8), .val (.int (1 : Int32)), .val (.int (0 : Int32)), .val (.int (0 : Int32)), .val (.int z46), .val (.ref b49), .val (.ref b58), .val (.long v66), .second, .val (.ref b223), .val (.ref b233), .val (.ref b242), .val .null, .unset, .unset]) rfl k) ?_
                      show own_Go p e below _ (T242.setTop (mkF m 217 #[.val (.int p0), .val (.int p1), .val (.int p2), .val (.long q3), .second, .val (.int z8), .val (.int (1 : Int32)), .val (.int (0 : Int32)), .val (.int (0 : Int32)), .val (.int z46), .val (.ref b49), .val (.ref b58), .val (.long v66), .second, .val (.ref b223), .val (.ref b233), .val (.ref b242), .val .null, .unset, .unset] []))
                      refine own_by (fun _ k => XS.iload X242.here hx rfl (hb hby at_217) rfl k) ?_
                      show own_Go p e below _ (T242.setTop (mkF m 219 #[.val (.int p0), .val (.int p1), .val (.int p2), .val (.long q3), .second, .val (.int z8), .val (.int (1 : Int32)), .val (.int (0 : Int32)), .val (.int (0 : Int32)), .val (.int z46), .val (.ref b49), .val (.ref b58), .val (.long v66), .second, .val (.ref b223), .val (.ref b233), .val (.ref b242), .val .null, .unset, .unset] [(.int z8)]))
                      have J244 : ∀ (T245 : State) (L246 : List Loc) (y250 : Int64), Stand p l e room_1 s m #[(.int p0), (.int p1), (.int p2), (.long q3)] below meth c T245 L246 8 31 → T245.heap = h242 → Fr n0 L246 → (((z8 = (0 : Int32)) ∧ y250 = (9223372036854775807 : Int64)) ∨ ((¬ (z8 = (0 : Int32))) ∧ y250 = v66)) → own_Go p e below (own_Fin s 32 192 (Q0 Z f_EMPTY_KEY k_f_EMPTY_KEY fn_f_EMPTY_KEY p0 p1 p2 q3 h0 n0)) (T245.setTop (mkF m 230 #[.val (.int p0), .val (.int p1), .val (.int p2), .val (.long q3), .second, .val (.int z8), .val (.int (1 : Int32)), .val (.int (0 : Int32)), .val (.int (0 : Int32)), .val (.int z46), .val (.ref b49), .val (.ref b58), .val (.long v66), .second, .val (.ref b223), .val (.ref b233), .val (.ref b242), .val .null, .unset, .unset] [(.long y250)])) := by
                        intro T245 L246 y250 X247 e248 N249 hj251
                        refine own_by (fun _ k => XS.lstore X247.here hx rfl (hb hby at_230) rfl (l' := #[.val (.int p0), .val (.int p1), .val (.int p2), .val (.long q3), .second, .val (.int z8), .val (.int (1 : Int32)), .val (.int (0 : Int32)), .val (.int (0 : Int32)), .val (.int z46), .val (.ref b49), .val (.ref b58), .val (.long v66), .second, .val (.ref b223), .val (.ref b233), .val (.ref b242), .val .null, .val (.long y250), .second]) rfl k) ?_
                        show own_Go p e below _ (T245.setTop (mkF m 232 #[.val (.int p0), .val (.int p1), .val (.int p2), .val (.long q3), .second, .val (.int z8), .val (.int (1 : Int32)), .val (.int (0 : Int32)), .val (.int (0 : Int32)), .val (.int z46), .val (.ref b49), .val (.ref b58), .val (.long v66), .second, .val (.ref b223), .val (.ref b233), .val (.ref b242), .val .null, .val (.long y250), .second] []))
                        refine own_by (fun _ k => XS.aload X247.here hx rfl (hb hby at_232) rfl rfl k) ?_
                        show own_Go p e below _ (T245.setTop (mkF m 234 #[.val (.int p0), .val (.int p1), .val (.int p2), .val (.long q3), .second, .val (.int z8), .val (.int (1 : Int32)), .val (.int (0 : Int32)), .val (.int (0 : Int32)), .val (.int z46), .val (.ref b49), .val (.ref b58), .val (.long v66), .second, .val (.ref b223), .val (.ref b233), .val (.ref b242), .val .null, .val (.long y250), .second] [(.ref b233)]))
                        have F252 : Fld Z h242 b233 "com/example/nested_keyspace/nestedkeyspace/ScanOptions" "reverse" "Z" (.int (1 : Int32)) := (F240.ext E242)
                        have F254 : Exa Z h242 b233 "com/example/nested_keyspace/nestedkeyspace/ScanOptions" := (F236.ext E242)
                        obtain ⟨cq253, kq253, qq253a, qq253b, qq253c⟩ := isOf hZ e248 F254
                        obtain ⟨_, _, ⟨T253, L253, k253, n253⟩, -, X253, ⟨Lc253, hQ253, l253, y253, z253⟩, st253⟩ := X247.virtualBack hx (y := (⟨"com/example/nested_keyspace/nestedkeyspace/ScanOptions", "readsInReverse", "()Z"⟩ : MethodName)) (z := (⟨"com/example/nested_keyspace/nestedkeyspace/ScanOptions", "readsInReverse", "()Z"⟩ : MethodName)) hown (mvT hZ (hwd 35 rfl)) (mvT hZ (hwd 36 rfl)) (notFace_of_selects (args := #[]) (mvT hZ (hwd 38 rfl))) (mvT hZ (hwd 38 rfl)) (mvT hZ (hwd 37 rfl)) (by decide) (backOf (W := 0) (rm6 l Z A0 hw [] b233 (1 : Int32) h242 n0 Z242 F252) hZ (hwd 39 rfl) (hwd 8 rfl) (by decide) (by decide)) qq253a qq253c (g := (mkF m 234 #[.val (.int p0), .val (.int p1), .val (.int p2), .val (.long q3), .second, .val (.int z8), .val (.int (1 : Int32)), .val (.int (0 : Int32)), .val (.int (0 : Int32)), .val (.int z46), .val (.ref b49), .val (.ref b58), .val (.long v66), .second, .val (.ref b223), .val (.ref b233), .val (.ref b242), .val .null, .val (.long y250), .second] [(.ref b233)])) rfl (by rw [hml]; rfl) (Steps.refl _) (argsL := []) (rest := []) (lenOf pd_35 rfl) rfl (by show 2 * 0 + _ ≤ _; exact Nat.le_of_eq rfl) (hb hby at_234) (fun _ _ => ⟨rfl, e248, (by decide : 8 + 0 ≤ _), (by decide : 31 + 0 ≤ _)⟩)
                        dsimp only [Pt.U, Pt.locs, Pt.cells, Pt.slots] at X253 l253 y253 z253 st253 hQ253
                        subst l253 y253 z253
                        obtain ⟨rfl, Nq253, eq253⟩ := hQ253
                        have N253 := Fr.app N249 Nq253
                        refine own_by (fun _ k => st253.trans k) ?_
                        show own_Go p e below _ (T253.setTop (mkF m 237 #[.val (.int p0), .val (.int p1), .val (.int p2), .val (.long q3), .second, .val (.int z8), .val (.int (1 : Int32)), .val (.int (0 : Int32)), .val (.int (0 : Int32)), .val (.int z46), .val (.ref b49), .val (.ref b58), .val (.long v66), .second, .val (.ref b223), .val (.ref b233), .val (.ref b242), .val .null, .val (.long y250), .second] [(.int (1 : Int32))]))
                        refine own_by (fun _ k => XS.ifNo X253.here hx rfl (hb hby at_237) rfl ((if0 _ _).trans (feq (by decide : ¬ ((1 : Int32) = (0 : Int32)))).1) k) ?_
                        show own_Go p e below _ (T253.setTop (mkF m 240 #[.val (.int p0), .val (.int p1), .val (.int p2), .val (.long q3), .second, .val (.int z8), .val (.int (1 : Int32)), .val (.int (0 : Int32)), .val (.int (0 : Int32)), .val (.int z46), .val (.ref b49), .val (.ref b58), .val (.long v66), .second, .val (.ref b223), .val (.ref b233), .val (.ref b242), .val .null, .val (.long y250), .second] []))
                        refine own_by (fun _ k => XS.aload X253.here hx rfl (hb hby at_240) rfl rfl k) ?_
                        show own_Go p e below _ (T253.setTop (mkF m 242 #[.val (.int p0), .val (.int p1), .val (.int p2), .val (.long q3), .second, .val (.int z8), .val (.int (1 : Int32)), .val (.int (0 : Int32)), .val (.int (0 : Int32)), .val (.int z46), .val (.ref b49), .val (.ref b58), .val (.long v66), .second, .val (.ref b223), .val (.ref b233), .val (.ref b242), .val .null, .val (.long y250), .second] [(.ref b233)]))
                        have F255 : Fld Z h242 b233 "com/example/nested_keyspace/nestedkeyspace/ScanOptions" "from" "[B" .null := (F237.ext E242)
                        have F256 : Sta Z h242 "com/example/nested_keyspace/nestedkeyspace/ScanOptions" "EMPTY_KEY" "[B" (.ref f_EMPTY_KEY) := ((own_staKeep (own_staKeep F172 Kq222 all0) Kq232 all0).ext E242)
                        obtain ⟨cq257, kq257, qq257a, qq257b, qq257c⟩ := isOf hZ eq253 F254
                        obtain ⟨_, _, ⟨T257, L257, k257, n257⟩, -, X257, ⟨Lc257, hQ257, l257, y257, z257⟩, st257⟩ := X253.virtualBack hx (y := (⟨"com/example/nested_keyspace/nestedkeyspace/ScanOptions", "fromKey", "()[B"⟩ : MethodName)) (z := (⟨"com/example/nested_keyspace/nestedkeyspace/ScanOptions", "fromKey", "()[B"⟩ : MethodName)) hown (mvT hZ (hwd 40 rfl)) (mvT hZ (hwd 41 rfl)) (notFace_of_selects (args := #[]) (mvT hZ (hwd 43 rfl))) (mvT hZ (hwd 43 rfl)) (mvT hZ (hwd 42 rfl)) (by decide) (backOf (W := 0) (rmfromKeyN l Z A0 hw [] b233 f_EMPTY_KEY h242 n0 Z242 F255 F256) hZ (hwd 44 rfl) (hwd 8 rfl) (by decide) (by decide)) qq257a qq257c (g := (mkF m 242 #[.val (.int p0), .val (.int p1), .val (.int p2), .val (.long q3), .second, .val (.int z8), .val (.int (1 : Int32)), .val (.int (0 : Int32)), .val (.int (0 : Int32)), .val (.int z46), .val (.ref b49), .val (.ref b58), .val (.long v66), .second, .val (.ref b223), .val (.ref b233), .val (.ref b242), .val .null, .val (.long y250), .second] [(.ref b233)])) rfl (by rw [hml]; rfl) (Steps.refl _) (argsL := []) (rest := []) (lenOf pd_40 rfl) rfl (by show 2 * 0 + _ ≤ _; exact Nat.le_of_eq rfl) (hb hby at_242) (fun _ _ => ⟨rfl, eq253, (by decide : 8 + 0 ≤ _), (by decide : 31 + 0 ≤ _)⟩)
                        dsimp only [Pt.U, Pt.locs, Pt.cells, Pt.slots] at X257 l257 y257 z257 st257 hQ257
                        subst l257 y257 z257
                        obtain ⟨rfl, Nq257, eq257⟩ := hQ257
                        have N257 := Fr.app N253 Nq257
                        refine own_by (fun _ k => st257.trans k) ?_
                        show own_Go p e below _ (T257.setTop (mkF m 245 #[.val (.int p0), .val (.int p1), .val (.int p2), .val (.long q3), .second, .val (.int z8), .val (.int (1 : Int32)), .val (.int (0 : Int32)), .val (.int (0 : Int32)), .val (.int z46), .val (.ref b49), .val (.ref b58), .val (.long v66), .second, .val (.ref b223), .val (.ref b233), .val (.ref b242), .val .null, .val (.long y250), .second] [(.ref f_EMPTY_KEY)]))
                        refine own_by (fun _ k => XS.aload X257.here hx rfl (hb hby at_245) rfl rfl k) ?_
                        show own_Go p e below _ (T257.setTop (mkF m 247 #[.val (.int p0), .val (.int p1), .val (.int p2), .val (.long q3), .second, .val (.int z8), .val (.int (1 : Int32)), .val (.int (0 : Int32)), .val (.int (0 : Int32)), .val (.int z46), .val (.ref b49), .val (.ref b58), .val (.long v66), .second, .val (.ref b223), .val (.ref b233), .val (.ref b242), .val .null, .val (.long y250), .second] [(.ref b242), (.ref f_EMPTY_KEY)]))
                        have F258 : own_Arf Z h242 f_EMPTY_KEY k_f_EMPTY_KEY .byte (0 : Int32) (fun i => .int (fn_f_EMPTY_KEY i)) := (((F159.keep Kq222 nin0).keep Kq232 nin0).ext E242)
                        obtain ⟨_, _, ⟨T259, L259, k259, n259⟩, -, X259, ⟨Lc259, hQ259, l259, y259, z259⟩, st259⟩ := Jvm.LawKit.callS X257 hx (y := (⟨"com/example/nested_keyspace/nestedkeyspace/ScanOptionsReversePinLaw", "sameBytes", "([B[B)Z"⟩ : MethodName)) hown (mvT hZ (hwd 47 rfl)) (mvT hZ (hwd 48 rfl)) (mvT hZ (hwd 2 rfl)) (mvT hZ (hwd 49 rfl)) (by decide) (backOf (W := 0) (rmsbRR l Z A0 hw [] f_EMPTY_KEY b242 k_f_EMPTY_KEY (0 : Int32) fn_f_EMPTY_KEY k242 (0 : Int32) (fun _ => (0 : Int32)) h242 n0 Z242 F258 V242) hZ (hwd 49 rfl) (hwd 2 rfl) (by decide) (by decide)) (g := (mkF m 247 #[.val (.int p0), .val (.int p1), .val (.int p2), .val (.long q3), .second, .val (.int z8), .val (.int (1 : Int32)), .val (.int (0 : Int32)), .val (.int (0 : Int32)), .val (.int z46), .val (.ref b49), .val (.ref b58), .val (.long v66), .second, .val (.ref b223), .val (.ref b233), .val (.ref b242), .val .null, .val (.long y250), .second] [(.ref b242), (.ref f_EMPTY_KEY)])) rfl (by rw [hml]; rfl) (argsL := [(.ref f_EMPTY_KEY), (.ref b242)]) (rest := []) (lenOf pd_47 rfl) rfl (by show 2 * 0 + _ ≤ _; exact Nat.le_of_eq rfl) (hb hby at_247) (fun _ _ => ⟨rfl, eq257, (by decide : 8 + 0 ≤ _), (by decide : 31 + 0 ≤ _)⟩)
                        dsimp only [Pt.U, Pt.locs, Pt.cells, Pt.slots] at X259 l259 y259 z259 st259 hQ259
                        subst l259 y259 z259
                        obtain ⟨o260, rfl, Nq259, eq259, hp261⟩ := hQ259
                        have N259 := Fr.app N257 Nq259
                        refine own_by st259 ?_
                        show own_Go p e below _ (T259.setTop (mkF m 250 #[.val (.int p0), .val (.int p1), .val (.int p2), .val (.long q3), .second, .val (.int z8), .val (.int (1 : Int32)), .val (.int (0 : Int32)), .val (.int (0 : Int32)), .val (.int z46), .val (.ref b49), .val (.ref b58), .val (.long v66), .second, .val (.ref b223), .val (.ref b233), .val (.ref b242), .val .null, .val (.long y250), .second] [(.int o260)]))
                        by_cases c262 : o260 = (0 : Int32)
                        · skip
                          refine own_by (fun _ k => XS.ifYes X259.here hx rfl (pc0 := 250) (pc' := 301) rfl (hb hby at_250) rfl ((if0 _ _).trans (teq c262).1) (by decide) (by decide) k) ?_
                          show own_Go p e below _ (T259.setTop (mkF m 301 #[.val (.int p0), .val (.int p1), .val (.int p2), .val (.long q3), .second, .val (.int z8), .val (.int (1 : Int32)), .val (.int (0 : Int32)), .val (.int (0 : Int32)), .val (.int z46), .val (.ref b49), .val (.ref b58), .val (.long v66), .second, .val (.ref b223), .val (.ref b233), .val (.ref b242), .val .null, .val (.long y250), .second] []))
                          refine own_by (fun _ k => XS.iconst X259.here hx rfl (hb hby at_301) k) ?_
                          show own_Go p e below _ (T259.setTop (mkF m 302 #[.val (.int p0), .val (.int p1), .val (.int p2), .val (.long q3), .second, .val (.int z8), .val (.int (1 : Int32)), .val (.int (0 : Int32)), .val (.int (0 : Int32)), .val (.int z46), .val (.ref b49), .val (.ref b58), .val (.long v66), .second, .val (.ref b223), .val (.ref b233), .val (.ref b242), .val .null, .val (.long y250), .second] [(.int (0 : Int32))]))
                          exact own_retN X259 hx (t := .boolean) Bd.returns (by simp) (hb hby at_302) hlk eq259 ⟨((ob_0_41 fn_f_EMPTY_KEY p0 p1 p2 q3 z8 z46 b51 b60 v66 y94 z146 y250 o260 hj9 hj18 hj28 hj38 hj47 hp56 hp65 hv66 hj126 hj178 hj251 hp261 c262)).elim, N259⟩ (by decide) (by decide)
                        · skip
                          refine own_by (fun _ k => XS.ifNo X259.here hx rfl (hb hby at_250) rfl ((if0 _ _).trans (feq c262).1) k) ?_
                          show own_Go p e below _ (T259.setTop (mkF m 253 #[.val (.int p0), .val (.int p1), .val (.int p2), .val (.long q3), .second, .val (.int z8), .val (.int (1 : Int32)), .val (.int (0 : Int32)), .val (.int (0 : Int32)), .val (.int z46), .val (.ref b49), .val (.ref b58), .val (.long v66), .second, .val (.ref b223), .val (.ref b233), .val (.ref b242), .val .null, .val (.long y250), .second] []))
                          refine own_by (fun _ k => XS.aload X259.here hx rfl (hb hby at_253) rfl rfl k) ?_
                          show own_Go p e below _ (T259.setTop (mkF m 255 #[.val (.int p0), .val (.int p1), .val (.int p2), .val (.long q3), .second, .val (.int z8), .val (.int (1 : Int32)), .val (.int (0 : Int32)), .val (.int (0 : Int32)), .val (.int z46), .val (.ref b49), .val (.ref b58), .val (.long v66), .second, .val (.ref b223), .val (.ref b233), .val (.ref b242), .val .null, .val (.long y250), .second] [(.ref b233)]))
                          have F263 : Fld Z h242 b233 "com/example/nested_keyspace/nestedkeyspace/ScanOptions" "to" "[B" .null := (F238.ext E242)
                          obtain ⟨cq264, kq264, qq264a, qq264b, qq264c⟩ := isOf hZ eq259 F254
                          obtain ⟨_, _, ⟨T264, L264, k264, n264⟩, -, X264, ⟨Lc264, hQ264, l264, y264, z264⟩, st264⟩ := X259.virtualBack hx (y := (⟨"com/example/nested_keyspace/nestedkeyspace/ScanOptions", "toKey", "()[B"⟩ : MethodName)) (z := (⟨"com/example/nested_keyspace/nestedkeyspace/ScanOptions", "toKey", "()[B"⟩ : MethodName)) hown (mvT hZ (hwd 50 rfl)) (mvT hZ (hwd 51 rfl)) (notFace_of_selects (args := #[]) (mvT hZ (hwd 53 rfl))) (mvT hZ (hwd 53 rfl)) (mvT hZ (hwd 52 rfl)) (by decide) (backOf (W := 0) (rmtoKeyN l Z A0 hw [] b233 h242 n0 Z242 F263) hZ (hwd 54 rfl) (hwd 8 rfl) (by decide) (by decide)) qq264a qq264c (g := (mkF m 255 #[.val (.int p0), .val (.int p1), .val (.int p2), .val (.long q3), .second, .val (.int z8), .val (.int (1 : Int32)), .val (.int (0 : Int32)), .val (.int (0 : Int32)), .val (.int z46), .val (.ref b49), .val (.ref b58), .val (.long v66), .second, .val (.ref b223), .val (.ref b233), .val (.ref b242), .val .null, .val (.long y250), .second] [(.ref b233)])) rfl (by rw [hml]; rfl) (Steps.refl _) (argsL := []) (rest := []) (lenOf pd_40 rfl) rfl (by show 2 * 0 + _ ≤ _; exact Nat.le_of_eq rfl) (hb hby at_255) (fun _ _ => ⟨rfl, eq259, (by decide : 8 + 0 ≤ _), (by decide : 31 + 0 ≤ _)⟩)
                          dsimp only [Pt.U, Pt.locs, Pt.cells, Pt.slots] at X264 l264 y264 z264 st264 hQ264
                          subst l264 y264 z264
                          obtain ⟨rfl, Nq264, eq264⟩ := hQ264
                          have N264 := Fr.app N259 Nq264
                          refine own_by (fun _ k => st264.trans k) ?_
                          show own_Go p e below _ (T264.setTop (mkF m 258 #[.val (.int p0), .val (.int p1), .val (.int p2), .val (.long q3), .second, .val (.int z8), .val (.int (1 : Int32)), .val (.int (0 : Int32)), .val (.int (0 : Int32)), .val (.int z46), .val (.ref b49), .val (.ref b58), .val (.long v66), .second, .val (.ref b223), .val (.ref b233), .val (.ref b242), .val .null, .val (.long y250), .second] [.null]))
                          refine own_by (fun _ k => XS.aload X264.here hx rfl (hb hby at_258) rfl rfl k) ?_
                          show own_Go p e below _ (T264.setTop (mkF m 260 #[.val (.int p0), .val (.int p1), .val (.int p2), .val (.long q3), .second, .val (.int z8), .val (.int (1 : Int32)), .val (.int (0 : Int32)), .val (.int (0 : Int32)), .val (.int z46), .val (.ref b49), .val (.ref b58), .val (.long v66), .second, .val (.ref b223), .val (.ref b233), .val (.ref b242), .val .null, .val (.long y250), .second] [.null, .null]))
                          obtain ⟨_, _, ⟨T265, L265, k265, n265⟩, -, X265, ⟨Lc265, hQ265, l265, y265, z265⟩, st265⟩ := Jvm.LawKit.callS X264 hx (y := (⟨"com/example/nested_keyspace/nestedkeyspace/ScanOptionsReversePinLaw", "sameBytes", "([B[B)Z"⟩ : MethodName)) hown (mvT hZ (hwd 47 rfl)) (mvT hZ (hwd 48 rfl)) (mvT hZ (hwd 2 rfl)) (mvT hZ (hwd 49 rfl)) (by decide) (backOf (W := 0) (rmsbNN l Z A0 hw []  h242 n0 Z242 ) hZ (hwd 49 rfl) (hwd 2 rfl) (by decide) (by decide)) (g := (mkF m 260 #[.val (.int p0), .val (.int p1), .val (.int p2), .val (.long q3), .second, .val (.int z8), .val (.int (1 : Int32)), .val (.int (0 : Int32)), .val (.int (0 : Int32)), .val (.int z46), .val (.ref b49), .val (.ref b58), .val (.long v66), .second, .val (.ref b223), .val (.ref b233), .val (.ref b242), .val .null, .val (.long y250), .second] [.null, .null])) rfl (by rw [hml]; rfl) (argsL := [.null, .null]) (rest := []) (lenOf pd_47 rfl) rfl (by show 2 * 0 + _ ≤ _; exact Nat.le_of_eq rfl) (hb hby at_260) (fun _ _ => ⟨rfl, eq264, (by decide : 8 + 0 ≤ _), (by decide : 31 + 0 ≤ _)⟩)
                          dsimp only [Pt.U, Pt.locs, Pt.cells, Pt.slots] at X265 l265 y265 z265 st265 hQ265
                          subst l265 y265 z265
                          obtain ⟨rfl, Nq265, eq265⟩ := hQ265
                          have N265 := Fr.app N264 Nq265
                          refine own_by st265 ?_
                          show own_Go p e below _ (T265.setTop (mkF m 263 #[.val (.int p0), .val (.int p1), .val (.int p2), .val (.long q3), .second, .val (.int z8), .val (.int (1 : Int32)), .val (.int (0 : Int32)), .val (.int (0 : Int32)), .val (.int z46), .val (.ref b49), .val (.ref b58), .val (.long v66), .second, .val (.ref b223), .val (.ref b233), .val (.ref b242), .val .null, .val (.long y250), .second] [(.int (1 : Int32))]))
                          refine own_by (fun _ k => XS.ifNo X265.here hx rfl (hb hby at_263) rfl ((if0 _ _).trans (feq (by decide : ¬ ((1 : Int32) = (0 : Int32)))).1) k) ?_
                          show own_Go p e below _ (T265.setTop (mkF m 266 #[.val (.int p0), .val (.int p1), .val (.int p2), .val (.long q3), .second, .val (.int z8), .val (.int (1 : Int32)), .val (.int (0 : Int32)), .val (.int (0 : Int32)), .val (.int z46), .val (.ref b49), .val (.ref b58), .val (.long v66), .second, .val (.ref b223), .val (.ref b233), .val (.ref b242), .val .null, .val (.long y250), .second] []))
                          refine own_by (fun _ k => XS.aload X265.here hx rfl (hb hby at_266) rfl rfl k) ?_
                          show own_Go p e below _ (T265.setTop (mkF m 268 #[.val (.int p0), .val (.int p1), .val (.int p2), .val (.long q3), .second, .val (.int z8), .val (.int (1 : Int32)), .val (.int (0 : Int32)), .val (.int (0 : Int32)), .val (.int z46), .val (.ref b49), .val (.ref b58), .val (.long v66), .second, .val (.ref b223), .val (.ref b233), .val (.ref b242), .val .null, .val (.long y250), .second] [(.ref b233)]))
                          have F266 : Fld Z h242 b233 "com/example/nested_keyspace/nestedkeyspace/ScanOptions" "subtree" "Z" (.int (1 : Int32)) := (F239.ext E242)
                          obtain ⟨cq267, kq267, qq267a, qq267b, qq267c⟩ := isOf hZ eq265 F254
                          obtain ⟨_, _, ⟨T267, L267, k267, n267⟩, -, X267, ⟨Lc267, hQ267, l267, y267, z267⟩, st267⟩ := X265.virtualBack hx (y := (⟨"com/example/nested_keyspace/nestedkeyspace/ScanOptions", "readsSubtree", "()Z"⟩ : MethodName)) (z := (⟨"com/example/nested_keyspace/nestedkeyspace/ScanOptions", "readsSubtree", "()Z"⟩ : MethodName)) hown (mvT hZ (hwd 55 rfl)) (mvT hZ (hwd 56 rfl)) (notFace_of_selects (args := #[]) (mvT hZ (hwd 58 rfl))) (mvT hZ (hwd 58 rfl)) (mvT hZ (hwd 57 rfl)) (by decide) (backOf (W := 0) (rm10 l Z A0 hw [] b233 (1 : Int32) h242 n0 Z242 F266) hZ (hwd 59 rfl) (hwd 8 rfl) (by decide) (by decide)) qq267a qq267c (g := (mkF m 268 #[.val (.int p0), .val (.int p1), .val (.int p2), .val (.long q3), .second, .val (.int z8), .val (.int (1 : Int32)), .val (.int (0 : Int32)), .val (.int (0 : Int32)), .val (.int z46), .val (.ref b49), .val (.ref b58), .val (.long v66), .second, .val (.ref b223), .val (.ref b233), .val (.ref b242), .val .null, .val (.long y250), .second] [(.ref b233)])) rfl (by rw [hml]; rfl) (Steps.refl _) (argsL := []) (rest := []) (lenOf pd_35 rfl) rfl (by show 2 * 0 + _ ≤ _; exact Nat.le_of_eq rfl) (hb hby at_268) (fun _ _ => ⟨rfl, eq265, (by decide : 8 + 0 ≤ _), (by decide : 31 + 0 ≤ _)⟩)
                          dsimp only [Pt.U, Pt.locs, Pt.cells, Pt.slots] at X267 l267 y267 z267 st267 hQ267
                          subst l267 y267 z267
                          obtain ⟨rfl, Nq267, eq267⟩ := hQ267
                          have N267 := Fr.app N265 Nq267
                          refine own_by (fun _ k => st267.trans k) ?_
                          show own_Go p e below _ (T267.setTop (mkF m 271 #[.val (.int p0), .val (.int p1), .val (.int p2), .val (.long q3), .second, .val (.int z8), .val (.int (1 : Int32)), .val (.int (0 : Int32)), .val (.int (0 : Int32)), .val (.int z46), .val (.ref b49), .val (.ref b58), .val (.long v66), .second, .val (.ref b223), .val (.ref b233), .val (.ref b242), .val .null, .val (.long y250), .second] [(.int (1 : Int32))]))
                          refine own_by (fun _ k => XS.iload X267.here hx rfl (hb hby at_271) rfl k) ?_
                          show own_Go p e below _ (T267.setTop (mkF m 273 #[.val (.int p0), .val (.int p1), .val (.int p2), .val (.long q3), .second, .val (.int z8), .val (.int (1 : Int32)), .val (.int (0 : Int32)), .val (.int (0 : Int32)), .val (.int z46), .val (.ref b49), .val (.ref b58), .val (.long v66), .second, .val (.ref b223), .val (.ref b233), .val (.ref b242), .val .null, .val (.long y250), .second] [(.int (1 : Int32)), (.int (1 : Int32))]))
                          refine own_by (fun _ k => XS.icmpNo X267.here hx rfl (hb hby at_273) rfl (teq (by decide : (1 : Int32) = (1 : Int32))).2 k) ?_
                          show own_Go p e below _ (T267.setTop (mkF m 276 #[.val (.int p0), .val (.int p1), .val (.int p2), .val (.long q3), .second, .val (.int z8), .val (.int (1 : Int32)), .val (.int (0 : Int32)), .val (.int (0 : Int32)), .val (.int z46), .val (.ref b49), .val (.ref b58), .val (.long v66), .second, .val (.ref b223), .val (.ref b233), .val (.ref b242), .val .null, .val (.long y250), .second] []))
                          refine own_by (fun _ k => XS.aload X267.here hx rfl (hb hby at_276) rfl rfl k) ?_
                          show own_Go p e below _ (T267.setTop (mkF m 278 #[.val (.int p0), .val (.int p1), .val (.int p2), .val (.long q3), .second, .val (.int z8), .val (.int (1 : Int32)), .val (.int (0 : Int32)), .val (.int (0 : Int32)), .val (.int z46), .val (.ref b49), .val (.ref b58), .val (.long v66), .second, .val (.ref b223), .val (.ref b233), .val (.ref b242), .val .null, .val (.long y250), .second] [(.ref b233)]))
                          have F268 : Fld Z h242 b233 "com/example/nested_keyspace/nestedkeyspace/ScanOptions" "limit" "J" (.long y94) := (F241.ext E242)
                          obtain ⟨cq269, kq269, qq269a, qq269b, qq269c⟩ := isOf hZ eq267 F254
                          obtain ⟨_, _, ⟨T269, L269, k269, n269⟩, -, X269, ⟨Lc269, hQ269, l269, y269, z269⟩, st269⟩ := X267.virtualBack hx (y := (⟨"com/example/nested_keyspace/nestedkeyspace/ScanOptions", "maxEntries", "()J"⟩ : MethodName)) (z := (⟨"com/example/nested_keyspace/nestedkeyspace/ScanOptions", "maxEntries", "()J"⟩ : MethodName)) hown (mvT hZ (hwd 60 rfl)) (mvT hZ (hwd 61 rfl)) (notFace_of_selects (args := #[]) (mvT hZ (hwd 63 rfl))) (mvT hZ (hwd 63 rfl)) (mvT hZ (hwd 62 rfl)) (by decide) (backOf (W := 0) (rm11 l Z A0 hw [] b233 y94 h242 n0 Z242 F268) hZ (hwd 64 rfl) (hwd 8 rfl) (by decide) (by decide)) qq269a qq269c (g := (mkF m 278 #[.val (.int p0), .val (.int p1), .val (.int p2), .val (.long q3), .second, .val (.int z8), .val (.int (1 : Int32)), .val (.int (0 : Int32)), .val (.int (0 : Int32)), .val (.int z46), .val (.ref b49), .val (.ref b58), .val (.long v66), .second, .val (.ref b223), .val (.ref b233), .val (.ref b242), .val .null, .val (.long y250), .second] [(.ref b233)])) rfl (by rw [hml]; rfl) (Steps.refl _) (argsL := []) (rest := []) (lenOf pd_60 rfl) rfl (by show 2 * 0 + _ ≤ _; exact Nat.le_of_eq rfl) (hb hby at_278) (fun _ _ => ⟨rfl, eq267, (by decide : 8 + 0 ≤ _), (by decide : 31 + 0 ≤ _)⟩)
                          dsimp only [Pt.U, Pt.locs, Pt.cells, Pt.slots] at X269 l269 y269 z269 st269 hQ269
                          subst l269 y269 z269
                          obtain ⟨rfl, Nq269, eq269⟩ := hQ269
                          have N269 := Fr.app N267 Nq269
                          refine own_by (fun _ k => st269.trans k) ?_
                          show own_Go p e below _ (T269.setTop (mkF m 281 #[.val (.int p0), .val (.int p1), .val (.int p2), .val (.long q3), .second, .val (.int z8), .val (.int (1 : Int32)), .val (.int (0 : Int32)), .val (.int (0 : Int32)), .val (.int z46), .val (.ref b49), .val (.ref b58), .val (.long v66), .second, .val (.ref b223), .val (.ref b233), .val (.ref b242), .val .null, .val (.long y250), .second] [(.long y94)]))
                          refine own_by (fun _ k => XS.lload X269.here hx rfl (hb hby at_281) rfl k) ?_
                          show own_Go p e below _ (T269.setTop (mkF m 283 #[.val (.int p0), .val (.int p1), .val (.int p2), .val (.long q3), .second, .val (.int z8), .val (.int (1 : Int32)), .val (.int (0 : Int32)), .val (.int (0 : Int32)), .val (.int z46), .val (.ref b49), .val (.ref b58), .val (.long v66), .second, .val (.ref b223), .val (.ref b233), .val (.ref b242), .val .null, .val (.long y250), .second] [(.long y250), (.long y94)]))
                          refine own_by (fun _ k => XS.lcmp X269.here hx rfl (hb hby at_283) rfl k) ?_
                          show own_Go p e below _ (T269.setTop (mkF m 284 #[.val (.int p0), .val (.int p1), .val (.int p2), .val (.long q3), .second, .val (.int z8), .val (.int (1 : Int32)), .val (.int (0 : Int32)), .val (.int (0 : Int32)), .val (.int z46), .val (.ref b49), .val (.ref b58), .val (.long v66), .second, .val (.ref b223), .val (.ref b233), .val (.ref b242), .val .null, .val (.long y250), .second] [(.int (lcmpW y94 y250))]))
                          by_cases c270 : y94 = y250
                          · skip
                            refine own_by (fun _ k => XS.ifNo X269.here hx rfl (hb hby at_284) rfl ((if0 _ _).trans (teq ((lw_eq _ _).mpr c270)).2) k) ?_
                            show own_Go p e below _ (T269.setTop (mkF m 287 #[.val (.int p0), .val (.int p1), .val (.int p2), .val (.long q3), .second, .val (.int z8), .val (.int (1 : Int32)), .val (.int (0 : Int32)), .val (.int (0 : Int32)), .val (.int z46), .val (.ref b49), .val (.ref b58), .val (.long v66), .second, .val (.ref b223), .val (.ref b233), .val (.ref b242), .val .null, .val (.long y250), .second] []))
                            refine own_by (fun _ k => XS.aload X269.here hx rfl (hb hby at_287) rfl rfl k) ?_
                            show own_Go p e below _ (T269.setTop (mkF m 289 #[.val (.int p0), .val (.int p1), .val (.int p2), .val (.long q3), .second, .val (.int z8), .val (.int (1 : Int32)), .val (.int (0 : Int32)), .val (.int (0 : Int32)), .val (.int z46), .val (.ref b49), .val (.ref b58), .val (.long v66), .second, .val (.ref b223), .val (.ref b233), .val (.ref b242), .val .null, .val (.long y250), .second] [(.ref b223)]))
                            have F271 : Fld Z h242 b223 "com/example/nested_keyspace/nestedkeyspace/ScanOptions" "reverse" "Z" (.int (nar .boolean z146)) := ((F230.keep Kq232 nin0).ext E242)
                            have F273 : Exa Z h242 b223 "com/example/nested_keyspace/nestedkeyspace/ScanOptions" := ((F226.keep Kq232).ext E242)
                            obtain ⟨cq272, kq272, qq272a, qq272b, qq272c⟩ := isOf hZ eq269 F273
                            obtain ⟨_, _, ⟨T272, L272, k272, n272⟩, -, X272, ⟨Lc272, hQ272, l272, y272, z272⟩, st272⟩ := X269.virtualBack hx (y := (⟨"com/example/nested_keyspace/nestedkeyspace/ScanOptions", "readsInReverse", "()Z"⟩ : MethodName)) (z := (⟨"com/example/nested_keyspace/nestedkeyspace/ScanOptions", "readsInReverse", "()Z"⟩ : MethodName)) hown (mvT hZ (hwd 35 rfl)) (mvT hZ (hwd 36 rfl)) (notFace_of_selects (args := #[]) (mvT hZ (hwd 38 rfl))) (mvT hZ (hwd 38 rfl)) (mvT hZ (hwd 37 rfl)) (by decide) (backOf (W := 0) (rm6 l Z A0 hw [] b223 (nar .boolean z146) h242 n0 Z242 F271) hZ (hwd 39 rfl) (hwd 8 rfl) (by decide) (by decide)) qq272a qq272c (g := (mkF m 289 #[.val (.int p0), .val (.int p1), .val (.int p2), .val (.long q3), .second, .val (.int z8), .val (.int (1 : Int32)), .val (.int (0 : Int32)), .val (.int (0 : Int32)), .val (.int z46), .val (.ref b49), .val (.ref b58), .val (.long v66), .second, .val (.ref b223), .val (.ref b233), .val (.ref b242), .val .null, .val (.long y250), .second] [(.ref b223)])) rfl (by rw [hml]; rfl) (Steps.refl _) (argsL := []) (rest := []) (lenOf pd_35 rfl) rfl (by show 2 * 0 + _ ≤ _; exact Nat.le_of_eq rfl) (hb hby at_289) (fun _ _ => ⟨rfl, eq269, (by decide : 8 + 0 ≤ _), (by decide : 31 + 0 ≤ _)⟩)
                            dsimp only [Pt.U, Pt.locs, Pt.cells, Pt.slots] at X272 l272 y272 z272 st272 hQ272
                            subst l272 y272 z272
                            obtain ⟨rfl, Nq272, eq272⟩ := hQ272
                            have N272 := Fr.app N269 Nq272
                            refine own_by (fun _ k => st272.trans k) ?_
                            show own_Go p e below _ (T272.setTop (mkF m 292 #[.val (.int p0), .val (.int p1), .val (.int p2), .val (.long q3), .second, .val (.int z8), .val (.int (1 : Int32)), .val (.int (0 : Int32)), .val (.int (0 : Int32)), .val (.int z46), .val (.ref b49), .val (.ref b58), .val (.long v66), .second, .val (.ref b223), .val (.ref b233), .val (.ref b242), .val .null, .val (.long y250), .second] [(.int (nar .boolean (nar .boolean z146)))]))
                            refine own_by (fun _ k => XS.iload X272.here hx rfl (hb hby at_292) rfl k) ?_
                            show own_Go p e below _ (T272.setTop (mkF m 294 #[.val (.int p0), .val (.int p1), .val (.int p2), .val (.long q3), .second, .val (.int z8), .val (.int (1 : Int32)), .val (.int (0 : Int32)), .val (.int (0 : Int32)), .val (.int z46), .val (.ref b49), .val (.ref b58), .val (.long v66), .second, .val (.ref b223), .val (.ref b233), .val (.ref b242), .val .null, .val (.long y250), .second] [(.int z46), (.int (nar .boolean (nar .boolean z146)))]))
                            by_cases c274 : (nar .boolean (nar .boolean z146)) = z46
                            · skip
                              refine own_by (fun _ k => XS.icmpNo X272.here hx rfl (hb hby at_294) rfl (teq c274).2 k) ?_
                              show own_Go p e below _ (T272.setTop (mkF m 297 #[.val (.int p0), .val (.int p1), .val (.int p2), .val (.long q3), .second, .val (.int z8), .val (.int (1 : Int32)), .val (.int (0 : Int32)), .val (.int (0 : Int32)), .val (.int z46), .val (.ref b49), .val (.ref b58), .val (.long v66), .second, .val (.ref b223), .val (.ref b233), .val (.ref b242), .val .null, .val (.long y250), .second] []))
                              refine own_by (fun _ k => XS.iconst X272.here hx rfl (hb hby at_297) k) ?_
                              show own_Go p e below _ (T272.setTop (mkF m 298 #[.val (.int p0), .val (.int p1), .val (.int p2), .val (.long q3), .second, .val (.int z8), .val (.int (1 : Int32)), .val (.int (0 : Int32)), .val (.int (0 : Int32)), .val (.int z46), .val (.ref b49), .val (.ref b58), .val (.long v66), .second, .val (.ref b223), .val (.ref b233), .val (.ref b242), .val .null, .val (.long y250), .second] [(.int (1 : Int32))]))
                              refine own_by (fun _ k => XS.goto X272.here hx rfl (pc0 := 298) (pc' := 302) rfl (hb hby at_298) (by decide) (by decide) k) ?_
                              show own_Go p e below _ (T272.setTop (mkF m 302 #[.val (.int p0), .val (.int p1), .val (.int p2), .val (.long q3), .second, .val (.int z8), .val (.int (1 : Int32)), .val (.int (0 : Int32)), .val (.int (0 : Int32)), .val (.int z46), .val (.ref b49), .val (.ref b58), .val (.long v66), .second, .val (.ref b223), .val (.ref b233), .val (.ref b242), .val .null, .val (.long y250), .second] [(.int (1 : Int32))]))
                              exact own_retN X272 hx (t := .boolean) Bd.returns (by simp) (hb hby at_302) hlk eq272 ⟨rfl, N272⟩ (by decide) (by decide)
                            · skip
                              refine own_by (fun _ k => XS.icmpYes X272.here hx rfl (pc0 := 294) (pc' := 301) rfl (hb hby at_294) rfl (feq c274).2 (by decide) (by decide) k) ?_
                              show own_Go p e below _ (T272.setTop (mkF m 301 #[.val (.int p0), .val (.int p1), .val (.int p2), .val (.long q3), .second, .val (.int z8), .val (.int (1 : Int32)), .val (.int (0 : Int32)), .val (.int (0 : Int32)), .val (.int z46), .val (.ref b49), .val (.ref b58), .val (.long v66), .second, .val (.ref b223), .val (.ref b233), .val (.ref b242), .val .null, .val (.long y250), .second] []))
                              refine own_by (fun _ k => XS.iconst X272.here hx rfl (hb hby at_301) k) ?_
                              show own_Go p e below _ (T272.setTop (mkF m 302 #[.val (.int p0), .val (.int p1), .val (.int p2), .val (.long q3), .second, .val (.int z8), .val (.int (1 : Int32)), .val (.int (0 : Int32)), .val (.int (0 : Int32)), .val (.int z46), .val (.ref b49), .val (.ref b58), .val (.long v66), .second, .val (.ref b223), .val (.ref b233), .val (.ref b242), .val .null, .val (.long y250), .second] [(.int (0 : Int32))]))
                              exact own_retN X272 hx (t := .boolean) Bd.returns (by simp) (hb hby at_302) hlk eq272 ⟨((ob_0_42 fn_f_EMPTY_KEY p0 p1 p2 q3 z8 z46 b51 b60 v66 y94 z146 y250 o260 hj9 hj18 hj28 hj38 hj47 hp56 hp65 hv66 hj126 hj178 hj251 hp261 c262 c270 c274)).elim, N272⟩ (by decide) (by decide)
                          · skip
                            refine own_by (fun _ k => XS.ifYes X269.here hx rfl (pc0 := 284) (pc' := 301) rfl (hb hby at_284) rfl ((if0 _ _).trans (feq (fun q => c270 ((lw_eq _ _).mp q))).2) (by decide) (by decide) k) ?_
                            show own_Go p e below _ (T269.setTop (mkF m 301 #[.val (.int p0), .val (.int p1), .val (.int p2), .val (.long q3), .second, .val (.int z8), .val (.int (1 : Int32)), .val (.int (0 : Int32)), .val (.int (0 : Int32)), .val (.int z46), .val (.ref b49), .val (.ref b58), .val (.long v66), .second, .val (.ref b223), .val (.ref b233), .val (.ref b242), .val .null, .val (.long y250), .second] []))
                            refine own_by (fun _ k => XS.iconst X269.here hx rfl (hb hby at_301) k) ?_
                            show own_Go p e below _ (T269.setTop (mkF m 302 #[.val (.int p0), .val (.int p1), .val (.int p2), .val (.long q3), .second, .val (.int z8), .val (.int (1 : Int32)), .val (.int (0 : Int32)), .val (.int (0 : Int32)), .val (.int z46), .val (.ref b49), .val (.ref b58), .val (.long v66), .second, .val (.ref b223), .val (.ref b233), .val (.ref b242), .val .null, .val (.long y250), .second] [(.int (0 : Int32))]))
                            exact own_retN X269 hx (t := .boolean) Bd.returns (by simp) (hb hby at_302) hlk eq269 ⟨((ob_0_43 fn_f_EMPTY_KEY p0 p1 p2 q3 z8 z46 b51 b60 v66 y94 z146 y250 o260 hj9 hj18 hj28 hj38 hj47 hp56 hp65 hv66 hj126 hj178 hj251 hp261 c262 c270)).elim, N269⟩ (by decide) (by decide)
                      by_cases c243 : z8 = (0 : Int32)
                      · skip
                        refine own_by (fun _ k => XS.ifYes X242.here hx rfl (pc0 := 219) (pc' := 227) rfl (hb hby at_219) rfl ((if0 _ _).trans (teq c243).1) (by decide) (by decide) k) ?_
                        show own_Go p e below _ (T242.setTop (mkF m 227 #[.val (.int p0), .val (.int p1), .val (.int p2), .val (.long q3), .second, .val (.int z8), .val (.int (1 : Int32)), .val (.int (0 : Int32)), .val (.int (0 : Int32)), .val (.int z46), .val (.ref b49), .val (.ref b58), .val (.long v66), .second, .val (.ref b223), .val (.ref b233), .val (.ref b242), .val .null, .unset, .unset] []))
                        refine own_by (fun t k => X242.ldc2Long hx hown (mvT hZ (hwd 5 rfl)) (g := (mkF m 227 #[.val (.int p0), .val (.int p1), .val (.int p2), .val (.long q3), .second, .val (.int z8), .val (.int (1 : Int32)), .val (.int (0 : Int32)), .val (.int (0 : Int32)), .val (.int z46), .val (.ref b49), .val (.ref b58), .val (.long v66), .second, .val (.ref b223), .val (.ref b233), .val (.ref b242), .val .null, .unset, .unset] [])) rfl (hb hby at_227) _ k) ?_
                        show own_Go p e below _ (T242.setTop (mkF m 230 #[.val (.int p0), .val (.int p1), .val (.int p2), .val (.long q3), .second, .val (.int z8), .val (.int (1 : Int32)), .val (.int (0 : Int32)), .val (.int (0 : Int32)), .val (.int z46), .val (.ref b49), .val (.ref b58), .val (.long v66), .second, .val (.ref b223), .val (.ref b233), .val (.ref b242), .val .null, .unset, .unset] [(.long (9223372036854775807 : Int64))]))
                        exact J244 _ _ (9223372036854775807 : Int64) X242 e242 N232 (Or.inl ⟨c243, rfl⟩)
                      · skip
                        refine own_by (fun _ k => XS.ifNo X242.here hx rfl (hb hby at_219) rfl ((if0 _ _).trans (feq c243).1) k) ?_
                        show own_Go p e below _ (T242.setTop (mkF m 222 #[.val (.int p0), .val (.int p1), .val (.int p2), .val (.long q3), .second, .val (.int z8), .val (.int (1 : Int32)), .val (.int (0 : Int32)), .val (.int (0 : Int32)), .val (.int z46), .val (.ref b49), .val (.ref b58), .val (.long v66), .second, .val (.ref b223), .val (.ref b233), .val (.ref b242), .val .null, .unset, .unset] []))
                        refine own_by (fun _ k => XS.lload X242.here hx rfl (hb hby at_222) rfl k) ?_
                        show own_Go p e below _ (T242.setTop (mkF m 224 #[.val (.int p0), .val (.int p1), .val (.int p2), .val (.long q3), .second, .val (.int z8), .val (.int (1 : Int32)), .val (.int (0 : Int32)), .val (.int (0 : Int32)), .val (.int z46), .val (.ref b49), .val (.ref b58), .val (.long v66), .second, .val (.ref b223), .val (.ref b233), .val (.ref b242), .val .null, .unset, .unset] [(.long v66)]))
                        refine own_by (fun _ k => XS.goto X242.here hx rfl (pc0 := 224) (pc' := 230) rfl (hb hby at_224) (by decide) (by decide) k) ?_
                        show own_Go p e below _ (T242.setTop (mkF m 230 #[.val (.int p0), .val (.int p1), .val (.int p2), .val (.long q3), .second, .val (.int z8), .val (.int (1 : Int32)), .val (.int (0 : Int32)), .val (.int (0 : Int32)), .val (.int z46), .val (.ref b49), .val (.ref b58), .val (.long v66), .second, .val (.ref b223), .val (.ref b233), .val (.ref b242), .val .null, .unset, .unset] [(.long v66)]))
                        exact J244 _ _ v66 X242 e242 N232 (Or.inr (⟨c243, rfl⟩))
                  · skip
                    show own_Go p e below _ (T139.setTop (mkF m 156 #[.val (.int p0), .val (.int p1), .val (.int p2), .val (.long q3), .second, .val (.int z8), .val (.int z17), .val (.int (0 : Int32)), .val (.int (1 : Int32)), .val (.int z46), .val (.ref b49), .val (.ref b58), .val (.long v66), .second, .val (.ref r144), .unset, .unset, .unset, .unset, .unset] []))
                    refine own_by (fun _ k => XS.iload X141.here hx rfl (hb hby at_156) rfl k) ?_
                    show own_Go p e below _ (T139.setTop (mkF m 158 #[.val (.int p0), .val (.int p1), .val (.int p2), .val (.long q3), .second, .val (.int z8), .val (.int z17), .val (.int (0 : Int32)), .val (.int (1 : Int32)), .val (.int z46), .val (.ref b49), .val (.ref b58), .val (.long v66), .second, .val (.ref r144), .unset, .unset, .unset, .unset, .unset] [(.int (1 : Int32))]))
                    refine own_by (fun _ k => XS.ifNo X141.here hx rfl (hb hby at_158) rfl ((if0 _ _).trans (feq (by decide : ¬ ((1 : Int32) = (0 : Int32)))).1) k) ?_
                    show own_Go p e below _ (T139.setTop (mkF m 161 #[.val (.int p0), .val (.int p1), .val (.int p2), .val (.long q3), .second, .val (.int z8), .val (.int z17), .val (.int (0 : Int32)), .val (.int (1 : Int32)), .val (.int z46), .val (.ref b49), .val (.ref b58), .val (.long v66), .second, .val (.ref r144), .unset, .unset, .unset, .unset, .unset] []))
                    refine own_by (fun _ k => XS.aload X141.here hx rfl (hb hby at_161) rfl rfl k) ?_
                    show own_Go p e below _ (T139.setTop (mkF m 163 #[.val (.int p0), .val (.int p1), .val (.int p2), .val (.long q3), .second, .val (.int z8), .val (.int z17), .val (.int (0 : Int32)), .val (.int (1 : Int32)), .val (.int z46), .val (.ref b49), .val (.ref b58), .val (.long v66), .second, .val (.ref r144), .unset, .unset, .unset, .unset, .unset] [(.ref r144)]))
                    refine own_by (fun _ k => XS.aload X141.here hx rfl (hb hby at_163) rfl rfl k) ?_
                    show own_Go p e below _ (T139.setTop (mkF m 165 #[.val (.int p0), .val (.int p1), .val (.int p2), .val (.long q3), .second, .val (.int z8), .val (.int z17), .val (.int (0 : Int32)), .val (.int (1 : Int32)), .val (.int z46), .val (.ref b49), .val (.ref b58), .val (.long v66), .second, .val (.ref r144), .unset, .unset, .unset, .unset, .unset] [(.ref b58), (.ref r144)]))
                    obtain ⟨cq275, kq275, qq275a, qq275b, qq275c⟩ := isOf hZ e142 F166
                    obtain ⟨_, _, ⟨T275, L275, k275, n275⟩, -, X275, ⟨Lc275, hQ275, l275, y275, z275⟩, st275⟩ := X141.virtualBack hx (y := (⟨"com/example/nested_keyspace/nestedkeyspace/ScanOptions", "to", "([B)Lcom/example/nested_keyspace/nestedkeyspace/ScanOptions;"⟩ : MethodName)) (z := (⟨"com/example/nested_keyspace/nestedkeyspace/ScanOptions", "to", "([B)Lcom/example/nested_keyspace/nestedkeyspace/ScanOptions;"⟩ : MethodName)) hown (mvT hZ (hwd 93 rfl)) (mvT hZ (hwd 94 rfl)) (notFace_of_selects (args := #[]) (mvT hZ (hwd 96 rfl))) (mvT hZ (hwd 96 rfl)) (mvT hZ (hwd 95 rfl)) (by decide) (backOf (W := 0) (rm16 l Z A0 hw [] r144 b58 (.null) b59 (((p0.toUInt32 >>> ((7 : Int32) &&& 31).toUInt32).toInt32) &&& (3 : Int32)) b60 z146 y94 h145 n0 Z148 F169 F166 rfl F167 F152 F151 (ob_0_44 p0 p1 p2 q3 z8 z17 z46 b51 b60 v66 y94 z146 hj9 hj18 hj28 hj38 hj47 hp56 hp65 hv66 hj126 hj178) F170 F171) hZ (hwd 97 rfl) (hwd 8 rfl) (by decide) (by decide)) qq275a qq275c (g := (mkF m 165 #[.val (.int p0), .val (.int p1), .val (.int p2), .val (.long q3), .second, .val (.int z8), .val (.int z17), .val (.int (0 : Int32)), .val (.int (1 : Int32)), .val (.int z46), .val (.ref b49), .val (.ref b58), .val (.long v66), .second, .val (.ref r144), .unset, .unset, .unset, .unset, .unset] [(.ref b58), (.ref r144)])) rfl (by rw [hml]; rfl) (Steps.refl _) (argsL := [(.ref b58)]) (rest := []) (lenOf pd_65 rfl) rfl (by show 2 * 0 + _ ≤ _; exact Nat.le_of_eq rfl) (hb hby at_165) (fun _ _ => ⟨rfl, e142, (by decide : 5 + 2 ≤ _), (by decide : 21 + 8 ≤ _)⟩)
                    dsimp only [Pt.U, Pt.locs, Pt.cells, Pt.slots] at X275 l275 y275 z275 st275 hQ275
                    subst l275 y275 z275
                    obtain ⟨b276, b277, b278, rfl, Nq275, Kq275, hp279, hp280, F281, F282, F283, F284, F285, F286, hp287, hp288, F289, F290, hp291⟩ := hQ275
                    have N275 := Fr.app N143 Nq275
                    have K275 : Keep h0 T275.heap [] := K147.trans Kq275 (all0)
                    have Z275 : n0 ≤ T275.heap.size := Nat.le_trans Z148 Kq275.1
                    have sz_b276 : h0.size ≤ b276 := Nat.le_trans K147.1 hp280
                    have sz_b277 : h0.size ≤ b277 := Nat.le_trans K147.1 hp288
                    refine own_by (fun _ k => st275.trans k) ?_
                    show own_Go p e below _ (T275.setTop (mkF m 168 #[.val (.int p0), .val (.int p1), .val (.int p2), .val (.long q3), .second, .val (.int z8), .val (.int z17), .val (.int (0 : Int32)), .val (.int (1 : Int32)), .val (.int z46), .val (.ref b49), .val (.ref b58), .val (.long v66), .second, .val (.ref r144), .unset, .unset, .unset, .unset, .unset] [(.ref b276)]))
                    refine own_by (fun _ k => XS.astore X275.here hx rfl (hb hby at_168) rfl rfl (l' := #[.val (.int p0), .val (.int p1), .val (.int p2), .val (.long q3), .second, .val (.int z8), .val (.int z17), .val (.int (0 : Int32)), .val (.int (1 : Int32)), .val (.int z46), .val (.ref b49), .val (.ref b58), .val (.long v66), .second, .val (.ref b276), .unset, .unset, .unset, .unset, .unset]) rfl k) ?_
                    show own_Go p e below _ (T275.setTop (mkF m 170 #[.val (.int p0), .val (.int p1), .val (.int p2), .val (.long q3), .second, .val (.int z8), .val (.int z17), .val (.int (0 : Int32)), .val (.int (1 : Int32)), .val (.int z46), .val (.ref b49), .val (.ref b58), .val (.long v66), .second, .val (.ref b276), .unset, .unset, .unset, .unset, .unset] []))
                    have hs_z17 := (ob_0_45 p0 p1 p2 q3 z8 z17 z46 b51 b60 v66 y94 z146 hj9 hj18 hj28 hj38 hj47 hp56 hp65 hv66 hj126 hj178)
                    rcases hs_z17 with rfl
                    · skip
                      show own_Go p e below _ (T275.setTop (mkF m 170 #[.val (.int p0), .val (.int p1), .val (.int p2), .val (.long q3), .second, .val (.int z8), .val (.int (0 : Int32)), .val (.int (0 : Int32)), .val (.int (1 : Int32)), .val (.int z46), .val (.ref b49), .val (.ref b58), .val (.long v66), .second, .val (.ref b276), .unset, .unset, .unset, .unset, .unset] []))
                      refine own_by (fun _ k => XS.iload X275.here hx rfl (hb hby at_170) rfl k) ?_
                      show own_Go p e below _ (T275.setTop (mkF m 172 #[.val (.int p0), .val (.int p1), .val (.int p2), .val (.long q3), .second, .val (.int z8), .val (.int (0 : Int32)), .val (.int (0 : Int32)), .val (.int (1 : Int32)), .val (.int z46), .val (.ref b49), .val (.ref b58), .val (.long v66), .second, .val (.ref b276), .unset, .unset, .unset, .unset, .unset] [(.int (0 : Int32))]))
                      refine own_by (fun _ k => XS.ifYes X275.here hx rfl (pc0 := 172) (pc' := 182) rfl (hb hby at_172) rfl ((if0 _ _).trans (teq (by decide : (0 : Int32) = (0 : Int32))).1) (by decide) (by decide) k) ?_
                      show own_Go p e below _ (T275.setTop (mkF m 182 #[.val (.int p0), .val (.int p1), .val (.int p2), .val (.long q3), .second, .val (.int z8), .val (.int (0 : Int32)), .val (.int (0 : Int32)), .val (.int (1 : Int32)), .val (.int z46), .val (.ref b49), .val (.ref b58), .val (.long v66), .second, .val (.ref b276), .unset, .unset, .unset, .unset, .unset] []))
                      refine own_by (fun _ k => XS.aload X275.here hx rfl (hb hby at_182) rfl rfl k) ?_
                      show own_Go p e below _ (T275.setTop (mkF m 184 #[.val (.int p0), .val (.int p1), .val (.int p2), .val (.long q3), .second, .val (.int z8), .val (.int (0 : Int32)), .val (.int (0 : Int32)), .val (.int (1 : Int32)), .val (.int z46), .val (.ref b49), .val (.ref b58), .val (.long v66), .second, .val (.ref b276), .unset, .unset, .unset, .unset, .unset] [(.ref b276)]))
                      obtain ⟨cq292, kq292, qq292a, qq292b, qq292c⟩ := isOf hZ rfl F281
                      obtain ⟨_, _, ⟨T292, L292, k292, n292⟩, -, X292, ⟨Lc292, hQ292, l292, y292, z292⟩, st292⟩ := X275.virtualBack hx (y := (⟨"com/example/nested_keyspace/nestedkeyspace/ScanOptions", "reverse", "()Lcom/example/nested_keyspace/nestedkeyspace/ScanOptions;"⟩ : MethodName)) (z := (⟨"com/example/nested_keyspace/nestedkeyspace/ScanOptions", "reverse", "()Lcom/example/nested_keyspace/nestedkeyspace/ScanOptions;"⟩ : MethodName)) hown (mvT hZ (hwd 29 rfl)) (mvT hZ (hwd 30 rfl)) (notFace_of_selects (args := #[]) (mvT hZ (hwd 32 rfl))) (mvT hZ (hwd 32 rfl)) (mvT hZ (hwd 31 rfl)) (by decide) (backOf (W := 0) (rm5 l Z A0 hw [] b276 (.null) (.ref b277) (0 : Int32) y94 T275.heap n0 Z275 rfl F282 rfl F283 F284 F286) hZ (hwd 33 rfl) (hwd 8 rfl) (by decide) (by decide)) qq292a qq292c (g := (mkF m 184 #[.val (.int p0), .val (.int p1), .val (.int p2), .val (.long q3), .second, .val (.int z8), .val (.int (0 : Int32)), .val (.int (0 : Int32)), .val (.int (1 : Int32)), .val (.int z46), .val (.ref b49), .val (.ref b58), .val (.long v66), .second, .val (.ref b276), .unset, .unset, .unset, .unset, .unset] [(.ref b276)])) rfl (by rw [hml]; rfl) (Steps.refl _) (argsL := []) (rest := []) (lenOf pd_29 rfl) rfl (by show 2 * 0 + _ ≤ _; exact Nat.le_of_eq rfl) (hb hby at_184) (fun _ _ => ⟨rfl, rfl, (by decide : 7 + 1 ≤ _), (by decide : 29 + 5 ≤ _)⟩)
                      dsimp only [Pt.U, Pt.locs, Pt.cells, Pt.slots] at X292 l292 y292 z292 st292 hQ292
                      subst l292 y292 z292
                      obtain ⟨b293, rfl, Nq292, Kq292, hp294, hp295, F296, F297, F298, F299, F300, F301⟩ := hQ292
                      have N292 := Fr.app N275 Nq292
                      have K292 : Keep h0 T292.heap [] := K275.trans Kq292 (all0)
                      have Z292 : n0 ≤ T292.heap.size := Nat.le_trans Z275 Kq292.1
                      have sz_b293 : h0.size ≤ b293 := Nat.le_trans K275.1 hp295
                      refine own_by (fun _ k => st292.trans k) ?_
                      show own_Go p e below _ (T292.setTop (mkF m 187 #[.val (.int p0), .val (.int p1), .val (.int p2), .val (.long q3), .second, .val (.int z8), .val (.int (0 : Int32)), .val (.int (0 : Int32)), .val (.int (1 : Int32)), .val (.int z46), .val (.ref b49), .val (.ref b58), .val (.long v66), .second, .val (.ref b276), .unset, .unset, .unset, .unset, .unset] [(.ref b293)]))
                      refine own_by (fun _ k => XS.astore X292.here hx rfl (hb hby at_187) rfl rfl (l' := #[.val (.int p0), .val (.int p1), .val (.int p2), .val (.long q3), .second, .val (.int z8), .val (.int (0 : Int32)), .val (.int (0 : Int32)), .val (.int (1 : Int32)), .val (.int z46), .val (.ref b49), .val (.ref b58), .val (.long v66), .second, .val (.ref b276), .val (.ref b293), .unset, .unset, .unset, .unset]) rfl k) ?_
                      show own_Go p e below _ (T292.setTop (mkF m 189 #[.val (.int p0), .val (.int p1), .val (.int p2), .val (.long q3), .second, .val (.int z8), .val (.int (0 : Int32)), .val (.int (0 : Int32)), .val (.int (1 : Int32)), .val (.int z46), .val (.ref b49), .val (.ref b58), .val (.long v66), .second, .val (.ref b276), .val (.ref b293), .unset, .unset, .unset, .unset] []))
                      refine own_by (fun _ k => XS.iload X292.here hx rfl (hb hby at_189) rfl k) ?_
                      show own_Go p e below _ (T292.setTop (mkF m 191 #[.val (.int p0), .val (.int p1), .val (.int p2), .val (.long q3), .second, .val (.int z8), .val (.int (0 : Int32)), .val (.int (0 : Int32)), .val (.int (1 : Int32)), .val (.int z46), .val (.ref b49), .val (.ref b58), .val (.long v66), .second, .val (.ref b276), .val (.ref b293), .unset, .unset, .unset, .unset] [(.int (0 : Int32))]))
                      refine own_by (fun _ k => XS.ifYes X292.here hx rfl (pc0 := 191) (pc' := 199) rfl (hb hby at_191) rfl ((if0 _ _).trans (teq (by decide : (0 : Int32) = (0 : Int32))).1) (by decide) (by decide) k) ?_
                      show own_Go p e below _ (T292.setTop (mkF m 199 #[.val (.int p0), .val (.int p1), .val (.int p2), .val (.long q3), .second, .val (.int z8), .val (.int (0 : Int32)), .val (.int (0 : Int32)), .val (.int (1 : Int32)), .val (.int z46), .val (.ref b49), .val (.ref b58), .val (.long v66), .second, .val (.ref b276), .val (.ref b293), .unset, .unset, .unset, .unset] []))
                      refine own_by (fun _ k => XS.iconst X292.here hx rfl (hb hby at_199) k) ?_
                      show own_Go p e below _ (T292.setTop (mkF m 200 #[.val (.int p0), .val (.int p1), .val (.int p2), .val (.long q3), .second, .val (.int z8), .val (.int (0 : Int32)), .val (.int (0 : Int32)), .val (.int (1 : Int32)), .val (.int z46), .val (.ref b49), .val (.ref b58), .val (.long v66), .second, .val (.ref b276), .val (.ref b293), .unset, .unset, .unset, .unset] [(.int (0 : Int32))]))
                      obtain ⟨T302, h302, k302, X302, e302, E302, A302, Ax302, st302⟩ := newPE X292 hx hZ (hwd 4 rfl) rfl (g := (mkF m 200 #[.val (.int p0), .val (.int p1), .val (.int p2), .val (.long q3), .second, .val (.int z8), .val (.int (0 : Int32)), .val (.int (0 : Int32)), .val (.int (1 : Int32)), .val (.int z46), .val (.ref b49), .val (.ref b58), .val (.long v66), .second, .val (.ref b276), .val (.ref b293), .unset, .unset, .unset, .unset] [(.int (0 : Int32))])) rfl (hb hby at_200) rfl (by decide) (cap := 0) (by decide) (by decide) (by decide) (by decide) (ad := "[B") (by decide)
                      obtain ⟨b302, g302⟩ : ∃ z, z = T292.heap.size := ⟨_, rfl⟩
                      have ge_b302 : n0 ≤ b302 := Nat.le_trans Z292 (Nat.le_of_eq g302.symm)
                      have sz_b302 : h0.size ≤ b302 := Nat.le_trans K292.1 (Nat.le_of_eq g302.symm)
                      have K302 : Keep h0 h302 [] := K292.ext E302
                      have Z302 : n0 ≤ h302.size := Nat.le_trans Z292 E302.1
                      rw [← g302] at A302 Ax302 st302
                      have V302 : own_Arf Z h302 b302 k302 .byte (0 : Int32) (fun i => .int ((fun _ => (0 : Int32)) i)) := own_arfNew A302 (by decide)
                      refine own_by st302 ?_
                      show own_Go p e below _ (T302.setTop (mkF m 202 #[.val (.int p0), .val (.int p1), .val (.int p2), .val (.long q3), .second, .val (.int z8), .val (.int (0 : Int32)), .val (.int (0 : Int32)), .val (.int (1 : Int32)), .val (.int z46), .val (.ref b49), .val (.ref b58), .val (.long v66), .second, .val (.ref b276), .val (.ref b293), .unset, .unset, .unset, .unset] [(.ref b302)]))
                      refine own_by (fun _ k => XS.astore X302.here hx rfl (hb hby at_202) rfl rfl (l' := #[.val (.int p0), .val (.int p1), .val (.int p2), .val (.long q3), .second, .val (.int z8), .val (.int (0 : Int32)), .val (.int (0 : Int32)), .val (.int (1 : Int32)), .val (.int z46), .val (.ref b49), .val (.ref b58), .val (.long v66), .second, .val (.ref b276), .val (.ref b293), .val (.ref b302), .unset, .unset, .unset]) rfl k) ?_
                      show own_Go p e below _ (T302.setTop (mkF m 204 #[.val (.int p0), .val (.int p1), .val (.int p2), .val (.long q3), .second, .val (.int z8), .val (.int (0 : Int32)), .val (.int (0 : Int32)), .val (.int (1 : Int32)), .val (.int z46), .val (.ref b49), .val (.ref b58), .val (.long v66), .second, .val (.ref b276), .val (.ref b293), .val (.ref b302), .unset, .unset, .unset] []))
                      refine own_by (fun _ k => XS.iload X302.here hx rfl (hb hby at_204) rfl k) ?_
                      show own_Go p e below _ (T302.setTop (mkF m 206 #[.val (.int p0), .val (.int p1), .val (.int p2), .val (.long q3), .second, .val (.int z8), .val (.int (0 : Int32)), .val (.int (0 : Int32)), .val (.int (1 : Int32)), .val (.int z46), .val (.ref b49), .val (.ref b58), .val (.long v66), .second, .val (.ref b276), .val (.ref b293), .val (.ref b302), .unset, .unset, .unset] [(.int (1 : Int32))]))
                      refine own_by (fun _ k => XS.ifNo X302.here hx rfl (hb hby at_206) rfl ((if0 _ _).trans (feq (by decide : ¬ ((1 : Int32) = (0 : Int32)))).1) k) ?_
                      show own_Go p e below _ (T302.setTop (mkF m 209 #[.val (.int p0), .val (.int p1), .val (.int p2), .val (.long q3), .second, .val (.int z8), .val (.int (0 : Int32)), .val (.int (0 : Int32)), .val (.int (1 : Int32)), .val (.int z46), .val (.ref b49), .val (.ref b58), .val (.long v66), .second, .val (.ref b276), .val (.ref b293), .val (.ref b302), .unset, .unset, .unset] []))
                      refine own_by (fun _ k => XS.aload X302.here hx rfl (hb hby at_209) rfl rfl k) ?_
                      show own_Go p e below _ (T302.setTop (mkF m 211 #[.val (.int p0), .val (.int p1), .val (.int p2), .val (.long q3), .second, .val (.int z8), .val (.int (0 : Int32)), .val (.int (0 : Int32)), .val (.int (1 : Int32)), .val (.int z46), .val (.ref b49), .val (.ref b58), .val (.long v66), .second, .val (.ref b276), .val (.ref b293), .val (.ref b302), .unset, .unset, .unset] [(.ref b58)]))
                      refine own_by (fun _ k => XS.goto X302.here hx rfl (pc0 := 211) (pc' := 215) rfl (hb hby at_211) (by decide) (by decide) k) ?_
                      show own_Go p e below _ (T302.setTop (mkF m 215 #[.val (.int p0), .val (.int p1), .val (.int p2), .val (.long q3), .second, .val (.int z8), .val (.int (0 : Int32)), .val (.int (0 : Int32)), .val (.int (1 : Int32)), .val (.int z46), .val (.ref b49), .val (.ref b58), .val (.long v66), .second, .val (.ref b276), .val (.ref b293), .val (.ref b302), .unset, .unset, .unset] [(.ref b58)]))
                      refine own_by (fun _ k => XS.astore X302.here hx rfl (hb hby at_215) rfl rfl (l' := #[.val (.int p0), .val (.int p1), .val (.int p2), .val (.long q3), .second, .val (.int z8), .val (.int (0 : Int32)), .val (.int (0 : Int32)), .val (.int (1 : Int32)), .val (.int z46), .val (.ref b49), .val (.ref b58), .val (.long v66), .second, .val (.ref b276), .val (.ref b293), .val (.ref b302), .val (.ref b58), .unset, .unset]) rfl k) ?_
                      show own_Go p e below _ (T302.setTop (mkF m 217 #[.val (.int p0), .val (.int p1), .val (.int p2), .val (.long q3), .second, .val (.int z8), .val (.int (0 : Int32)), .val (.int (0 : Int32)), .val (.int (1 : Int32)), .val (.int z46), .val (.ref b49), .val (.ref b58), .val (.long v66), .second, .val (.ref b276), .val (.ref b293), .val (.ref b302), .val (.ref b58), .unset, .unset] []))
                      refine own_by (fun _ k => XS.iload X302.here hx rfl (hb hby at_217) rfl k) ?_
                      show own_Go p e below _ (T302.setTop (mkF m 219 #[.val (.int p0), .val (.int p1), .val (.int p2), .val (.long q3), .second, .val (.int z8), .val (.int (0 : Int32)), .val (.int (0 : Int32)), .val (.int (1 : Int32)), .val (.int z46), .val (.ref b49), .val (.ref b58), .val (.long v66), .second, .val (.ref b276), .val (.ref b293), .val (.ref b302), .val (.ref b58), .unset, .unset] [(.int z8)]))
                      have J304 : ∀ (T305 : State) (L306 : List Loc) (y310 : Int64), Stand p l e room_1 s m #[(.int p0), (.int p1), (.int p2), (.long q3)] below meth c T305 L306 9 34 → T305.heap = h302 → Fr n0 L306 → (((z8 = (0 : Int32)) ∧ y310 = (9223372036854775807 : Int64)) ∨ ((¬ (z8 = (0 : Int32))) ∧ y310 = v66)) → own_Go p e below (own_Fin s 32 192 (Q0 Z f_EMPTY_KEY k_f_EMPTY_KEY fn_f_EMPTY_KEY p0 p1 p2 q3 h0 n0)) (T305.setTop (mkF m 230 #[.val (.int p0), .val (.int p1), .val (.int p2), .val (.long q3), .second, .val (.int z8), .val (.int (0 : Int32)), .val (.int (0 : Int32)), .val (.int (1 : Int32)), .val (.int z46), .val (.ref b49), .val (.ref b58), .val (.long v66), .second, .val (.ref b276), .val (.ref b293), .val (.ref b302), .val (.ref b58), .unset, .unset] [(.long y310)])) := by
                        intro T305 L306 y310 X307 e308 N309 hj311
                        refine own_by (fun _ k => XS.lstore X307.here hx rfl (hb hby at_230) rfl (l' := #[.val (.int p0), .val (.int p1), .val (.int p2), .val (.long q3), .second, .val (.int z8), .val (.int (0 : Int32)), .val (.int (0 : Int32)), .val (.int (1 : Int32)), .val (.int z46), .val (.ref b49), .val (.ref b58), .val (.long v66), .second, .val (.ref b276), .val (.ref b293), .val (.ref b302), .val (.ref b58), .val (.long y310), .second]) rfl k) ?_
                        show own_Go p e below _ (T305.setTop (mkF m 232 #[.val (.int p0), .val (.int p1), .val (.int p2), .val (.long q3), .second, .val (.int z8), .val (.int (0 : Int32)), .val (.int (0 : Int32)), .val (.int (1 : Int32)), .val (.int z46), .val (.ref b49), .val (.ref b58), .val (.long v66), .second, .val (.ref b276), .val (.ref b293), .val (.ref b302), .val (.ref b58), .val (.long y310), .second] []))
                        refine own_by (fun _ k => XS.aload X307.here hx rfl (hb hby at_232) rfl rfl k) ?_
                        show own_Go p e below _ (T305.setTop (mkF m 234 #[.val (.int p0), .val (.int p1), .val (.int p2), .val (.long q3), .second, .val (.int z8), .val (.int (0 : Int32)), .val (.int (0 : Int32)), .val (.int (1 : Int32)), .val (.int z46), .val (.ref b49), .val (.ref b58), .val (.long v66), .second, .val (.ref b276), .val (.ref b293), .val (.ref b302), .val (.ref b58), .val (.long y310), .second] [(.ref b293)]))
                        have F312 : Fld Z h302 b293 "com/example/nested_keyspace/nestedkeyspace/ScanOptions" "reverse" "Z" (.int (1 : Int32)) := (F300.ext E302)
                        have F314 : Exa Z h302 b293 "com/example/nested_keyspace/nestedkeyspace/ScanOptions" := (F296.ext E302)
                        obtain ⟨cq313, kq313, qq313a, qq313b, qq313c⟩ := isOf hZ e308 F314
                        obtain ⟨_, _, ⟨T313, L313, k313, n313⟩, -, X313, ⟨Lc313, hQ313, l313, y313, z313⟩, st313⟩ := X307.virtualBack hx (y := (⟨"com/example/nested_keyspace/nestedkeyspace/ScanOptions", "readsInReverse", "()Z"⟩ : MethodName)) (z := (⟨"com/example/nested_keyspace/nestedkeyspace/ScanOptions", "readsInReverse", "()Z"⟩ : MethodName)) hown (mvT hZ (hwd 35 rfl)) (mvT hZ (hwd 36 rfl)) (notFace_of_selects (args := #[]) (mvT hZ (hwd 38 rfl))) (mvT hZ (hwd 38 rfl)) (mvT hZ (hwd 37 rfl)) (by decide) (backOf (W := 0) (rm6 l Z A0 hw [] b293 (1 : Int32) h302 n0 Z302 F312) hZ (hwd 39 rfl) (hwd 8 rfl) (by decide) (by decide)) qq313a qq313c (g := (mkF m 234 #[.val (.int p0), .val (.int p1), .val (.int p2), .val (.long q3), .second, .val (.int z8), .val (.int (0 : Int32)), .val (.int (0 : Int32)), .val (.int (1 : Int32)), .val (.int z46), .val (.ref b49), .val (.ref b58), .val (.long v66), .second, .val (.ref b276), .val (.ref b293), .val (.ref b302), .val (.ref b58), .val (.long y310), .second] [(.ref b293)])) rfl (by rw [hml]; rfl) (Steps.refl _) (argsL := []) (rest := []) (lenOf pd_35 rfl) rfl (by show 2 * 0 + _ ≤ _; exact Nat.le_of_eq rfl) (hb hby at_234) (fun _ _ => ⟨rfl, e308, (by decide : 9 + 0 ≤ _), (by decide : 34 + 0 ≤ _)⟩)
                        dsimp only [Pt.U, Pt.locs, Pt.cells, Pt.slots] at X313 l313 y313 z313 st313 hQ313
                        subst l313 y313 z313
                        obtain ⟨rfl, Nq313, eq313⟩ := hQ313
                        have N313 := Fr.app N309 Nq313
                        refine own_by (fun _ k => st313.trans k) ?_
                        show own_Go p e below _ (T313.setTop (mkF m 237 #[.val (.int p0), .val (.int p1), .val (.int p2), .val (.long q3), .second, .val (.int z8), .val (.int (0 : Int32)), .val (.int (0 : Int32)), .val (.int (1 : Int32)), .val (.int z46), .val (.ref b49), .val (.ref b58), .val (.long v66), .second, .val (.ref b276), .val (.ref b293), .val (.ref b302), .val (.ref b58), .val (.long y310), .second] [(.int (1 : Int32))]))
                        refine own_by (fun _ k => XS.ifNo X313.here hx rfl (hb hby at_237) rfl ((if0 _ _).trans (feq (by decide : ¬ ((1 : Int32) = (0 : Int32)))).1) k) ?_
                        show own_Go p e below _ (T313.setTop (mkF m 240 #[.val (.int p0), .val (.int p1), .val (.int p2), .val (.long q3), .second, .val (.int z8), .val (.int (0 : Int32)), .val (.int (0 : Int32)), .val (.int (1 : Int32)), .val (.int z46), .val (.ref b49), .val (.ref b58), .val (.long v66), .second, .val (.ref b276), .val (.ref b293), .val (.ref b302), .val (.ref b58), .val (.long y310), .second] []))
                        refine own_by (fun _ k => XS.aload X313.here hx rfl (hb hby at_240) rfl rfl k) ?_
                        show own_Go p e below _ (T313.setTop (mkF m 242 #[.val (.int p0), .val (.int p1), .val (.int p2), .val (.long q3), .second, .val (.int z8), .val (.int (0 : Int32)), .val (.int (0 : Int32)), .val (.int (1 : Int32)), .val (.int z46), .val (.ref b49), .val (.ref b58), .val (.long v66), .second, .val (.ref b276), .val (.ref b293), .val (.ref b302), .val (.ref b58), .val (.long y310), .second] [(.ref b293)]))
                        have F315 : Fld Z h302 b293 "com/example/nested_keyspace/nestedkeyspace/ScanOptions" "from" "[B" .null := (F297.ext E302)
                        have F316 : Sta Z h302 "com/example/nested_keyspace/nestedkeyspace/ScanOptions" "EMPTY_KEY" "[B" (.ref f_EMPTY_KEY) := ((own_staKeep (own_staKeep F172 Kq275 all0) Kq292 all0).ext E302)
                        obtain ⟨cq317, kq317, qq317a, qq317b, qq317c⟩ := isOf hZ eq313 F314
                        obtain ⟨_, _, ⟨T317, L317, k317, n317⟩, -, X317, ⟨Lc317, hQ317, l317, y317, z317⟩, st317⟩ := X313.virtualBack hx (y := (⟨"com/example/nested_keyspace/nestedkeyspace/ScanOptions", "fromKey", "()[B"⟩ : MethodName)) (z := (⟨"com/example/nested_keyspace/nestedkeyspace/ScanOptions", "fromKey", "()[B"⟩ : MethodName)) hown (mvT hZ (hwd 40 rfl)) (mvT hZ (hwd 41 rfl)) (notFace_of_selects (args := #[]) (mvT hZ (hwd 43 rfl))) (mvT hZ (hwd 43 rfl)) (mvT hZ (hwd 42 rfl)) (by decide) (backOf (W := 0) (rmfromKeyN l Z A0 hw [] b293 f_EMPTY_KEY h302 n0 Z302 F315 F316) hZ (hwd 44 rfl) (hwd 8 rfl) (by decide) (by decide)) qq317a qq317c (g := (mkF m 242 #[.val (.int p0), .val (.int p1), .val (.int p2), .val (.long q3), .second, .val (.int z8), .val (.int (0 : Int32)), .val (.int (0 : Int32)), .val (.int (1 : Int32)), .val (.int z46), .val (.ref b49), .val (.ref b58), .val (.long v66), .second, .val (.ref b276), .val (.ref b293), .val (.ref b302), .val (.ref b58), .val (.long y310), .second] [(.ref b293)])) rfl (by rw [hml]; rfl) (Steps.refl _) (argsL := []) (rest := []) (lenOf pd_40 rfl) rfl (by show 2 * 0 + _ ≤ _; exact Nat.le_of_eq rfl) (hb hby at_242) (fun _ _ => ⟨rfl, eq313, (by decide : 9 + 0 ≤ _), (by decide : 34 + 0 ≤ _)⟩)
                        dsimp only [Pt.U, Pt.locs, Pt.cells, Pt.slots] at X317 l317 y317 z317 st317 hQ317
                        subst l317 y317 z317
                        obtain ⟨rfl, Nq317, eq317⟩ := hQ317
                        have N317 := Fr.app N313 Nq317
                        refine own_by (fun _ k => st317.trans k) ?_
                        show own_Go p e below _ (T317.setTop (mkF m 245 #[.val (.int p0), .val (.int p1), .val (.int p2), .val (.long q3), .second, .val (.int z8), .val (.int (0 : Int32)), .val (.int (0 : Int32)), .val (.int (1 : Int32)), .val (.int z46), .val (.ref b49), .val (.ref b58), .val (.long v66), .second, .val (.ref b276), .val (.ref b293), .val (.ref b302), .val (.ref b58), .val (.long y310), .second] [(.ref f_EMPTY_KEY)]))
                        refine own_by (fun _ k => XS.aload X317.here hx rfl (hb hby at_245) rfl rfl k) ?_
                        show own_Go p e below _ (T317.setTop (mkF m 247 #[.val (.int p0), .val (.int p1), .val (.int p2), .val (.long q3), .second, .val (.int z8), .val (.int (0 : Int32)), .val (.int (0 : Int32)), .val (.int (1 : Int32)), .val (.int z46), .val (.ref b49), .val (.ref b58), .val (.long v66), .second, .val (.ref b276), .val (.ref b293), .val (.ref b302), .val (.ref b58), .val (.long y310), .second] [(.ref b302), (.ref f_EMPTY_KEY)]))
                        have F318 : own_Arf Z h302 f_EMPTY_KEY k_f_EMPTY_KEY .byte (0 : Int32) (fun i => .int (fn_f_EMPTY_KEY i)) := (((F159.keep Kq275 nin0).keep Kq292 nin0).ext E302)
                        obtain ⟨_, _, ⟨T319, L319, k319, n319⟩, -, X319, ⟨Lc319, hQ319, l319, y319, z319⟩, st319⟩ := Jvm.LawKit.callS X317 hx (y := (⟨"com/example/nested_keyspace/nestedkeyspace/ScanOptionsReversePinLaw", "sameBytes", "([B[B)Z"⟩ : MethodName)) hown (mvT hZ (hwd 47 rfl)) (mvT hZ (hwd 48 rfl)) (mvT hZ (hwd 2 rfl)) (mvT hZ (hwd 49 rfl)) (by decide) (backOf (W := 0) (rmsbRR l Z A0 hw [] f_EMPTY_KEY b302 k_f_EMPTY_KEY (0 : Int32) fn_f_EMPTY_KEY k302 (0 : Int32) (fun _ => (0 : Int32)) h302 n0 Z302 F318 V302) hZ (hwd 49 rfl) (hwd 2 rfl) (by decide) (by decide)) (g := (mkF m 247 #[.val (.int p0), .val (.int p1), .val (.int p2), .val (.long q3), .second, .val (.int z8), .val (.int (0 : Int32)), .val (.int (0 : Int32)), .val (.int (1 : Int32)), .val (.int z46), .val (.ref b49), .val (.ref b58), .val (.long v66), .second, .val (.ref b276), .val (.ref b293), .val (.ref b302), .val (.ref b58), .val (.long y310), .second] [(.ref b302), (.ref f_EMPTY_KEY)])) rfl (by rw [hml]; rfl) (argsL := [(.ref f_EMPTY_KEY), (.ref b302)]) (rest := []) (lenOf pd_47 rfl) rfl (by show 2 * 0 + _ ≤ _; exact Nat.le_of_eq rfl) (hb hby at_247) (fun _ _ => ⟨rfl, eq317, (by decide : 9 + 0 ≤ _), (by decide : 34 + 0 ≤ _)⟩)
                        dsimp only [Pt.U, Pt.locs, Pt.cells, Pt.slots] at X319 l319 y319 z319 st319 hQ319
                        subst l319 y319 z319
                        obtain ⟨o320, rfl, Nq319, eq319, hp321⟩ := hQ319
                        have N319 := Fr.app N317 Nq319
                        refine own_by st319 ?_
                        show own_Go p e below _ (T319.setTop (mkF m 250 #[.val (.int p0), .val (.int p1), .val (.int p2), .val (.long q3), .second, .val (.int z8), .val (.int (0 : Int32)), .val (.int (0 : Int32)), .val (.int (1 : Int32)), .val (.int z46), .val (.ref b49), .val (.ref b58), .val (.long v66), .second, .val (.ref b276), .val (.ref b293), .val (.ref b302), .val (.ref b58), .val (.long y310), .second] [(.int o320)]))
                        by_cases c322 : o320 = (0 : Int32)
                        · skip
                          refine own_by (fun _ k => XS.ifYes X319.here hx rfl (pc0 := 250) (pc' := 301) rfl (hb hby at_250) rfl ((if0 _ _).trans (teq c322).1) (by decide) (by decide) k) ?_
                          show own_Go p e below _ (T319.setTop (mkF m 301 #[.val (.int p0), .val (.int p1), .val (.int p2), .val (.long q3), .second, .val (.int z8), .val (.int (0 : Int32)), .val (.int (0 : Int32)), .val (.int (1 : Int32)), .val (.int z46), .val (.ref b49), .val (.ref b58), .val (.long v66), .second, .val (.ref b276), .val (.ref b293), .val (.ref b302), .val (.ref b58), .val (.long y310), .second] []))
                          refine own_by (fun _ k => XS.iconst X319.here hx rfl (hb hby at_301) k) ?_
                          show own_Go p e below _ (T319.setTop (mkF m 302 #[.val (.int p0), .val (.int p1), .val (.int p2), .val (.long q3), .second, .val (.int z8), .val (.int (0 : Int32)), .val (.int (0 : Int32)), .val (.int (1 : Int32)), .val (.int z46), .val (.ref b49), .val (.ref b58), .val (.long v66), .second, .val (.ref b276), .val (.ref b293), .val (.ref b302), .val (.ref b58), .val (.long y310), .second] [(.int (0 : Int32))]))
                          exact own_retN X319 hx (t := .boolean) Bd.returns (by simp) (hb hby at_302) hlk eq319 ⟨((ob_0_46 fn_f_EMPTY_KEY p0 p1 p2 q3 z8 z46 b51 b60 v66 y94 z146 y310 o320 hj9 hj18 hj28 hj38 hj47 hp56 hp65 hv66 hj126 hj178 hj311 hp321 c322)).elim, N319⟩ (by decide) (by decide)
                        · skip
                          refine own_by (fun _ k => XS.ifNo X319.here hx rfl (hb hby at_250) rfl ((if0 _ _).trans (feq c322).1) k) ?_
                          show own_Go p e below _ (T319.setTop (mkF m 253 #[.val (.int p0), .val (.int p1), .val (.int p2), .val (.long q3), .second, .val (.int z8), .val (.int (0 : Int32)), .val (.int (0 : Int32)), .val (.int (1 : Int32)), .val (.int z46), .val (.ref b49), .val (.ref b58), .val (.long v66), .second, .val (.ref b276), .val (.ref b293), .val (.ref b302), .val (.ref b58), .val (.long y310), .second] []))
                          refine own_by (fun _ k => XS.aload X319.here hx rfl (hb hby at_253) rfl rfl k) ?_
                          show own_Go p e below _ (T319.setTop (mkF m 255 #[.val (.int p0), .val (.int p1), .val (.int p2), .val (.long q3), .second, .val (.int z8), .val (.int (0 : Int32)), .val (.int (0 : Int32)), .val (.int (1 : Int32)), .val (.int z46), .val (.ref b49), .val (.ref b58), .val (.long v66), .second, .val (.ref b276), .val (.ref b293), .val (.ref b302), .val (.ref b58), .val (.long y310), .second] [(.ref b293)]))
                          have F323 : Fld Z h302 b293 "com/example/nested_keyspace/nestedkeyspace/ScanOptions" "to" "[B" (.ref b277) := (F298.ext E302)
                          obtain ⟨cq324, kq324, qq324a, qq324b, qq324c⟩ := isOf hZ eq319 F314
                          obtain ⟨_, _, ⟨T324, L324, k324, n324⟩, -, X324, ⟨Lc324, hQ324, l324, y324, z324⟩, st324⟩ := X319.virtualBack hx (y := (⟨"com/example/nested_keyspace/nestedkeyspace/ScanOptions", "toKey", "()[B"⟩ : MethodName)) (z := (⟨"com/example/nested_keyspace/nestedkeyspace/ScanOptions", "toKey", "()[B"⟩ : MethodName)) hown (mvT hZ (hwd 50 rfl)) (mvT hZ (hwd 51 rfl)) (notFace_of_selects (args := #[]) (mvT hZ (hwd 53 rfl))) (mvT hZ (hwd 53 rfl)) (mvT hZ (hwd 52 rfl)) (by decide) (backOf (W := 0) (rmtoKeyR l Z A0 hw [] b277 b293 h302 n0 Z302 F323) hZ (hwd 54 rfl) (hwd 8 rfl) (by decide) (by decide)) qq324a qq324c (g := (mkF m 255 #[.val (.int p0), .val (.int p1), .val (.int p2), .val (.long q3), .second, .val (.int z8), .val (.int (0 : Int32)), .val (.int (0 : Int32)), .val (.int (1 : Int32)), .val (.int z46), .val (.ref b49), .val (.ref b58), .val (.long v66), .second, .val (.ref b276), .val (.ref b293), .val (.ref b302), .val (.ref b58), .val (.long y310), .second] [(.ref b293)])) rfl (by rw [hml]; rfl) (Steps.refl _) (argsL := []) (rest := []) (lenOf pd_40 rfl) rfl (by show 2 * 0 + _ ≤ _; exact Nat.le_of_eq rfl) (hb hby at_255) (fun _ _ => ⟨rfl, eq319, (by decide : 9 + 0 ≤ _), (by decide : 34 + 0 ≤ _)⟩)
                          dsimp only [Pt.U, Pt.locs, Pt.cells, Pt.slots] at X324 l324 y324 z324 st324 hQ324
                          subst l324 y324 z324
                          obtain ⟨rfl, Nq324, eq324⟩ := hQ324
                          have N324 := Fr.app N319 Nq324
                          refine own_by (fun _ k => st324.trans k) ?_
                          show own_Go p e below _ (T324.setTop (mkF m 258 #[.val (.int p0), .val (.int p1), .val (.int p2), .val (.long q3), .second, .val (.int z8), .val (.int (0 : Int32)), .val (.int (0 : Int32)), .val (.int (1 : Int32)), .val (.int z46), .val (.ref b49), .val (.ref b58), .val (.long v66), .second, .val (.ref b276), .val (.ref b293), .val (.ref b302), .val (.ref b58), .val (.long y310), .second] [(.ref b277)]))
                          refine own_by (fun _ k => XS.aload X324.here hx rfl (hb hby at_258) rfl rfl k) ?_
                          show own_Go p e below _ (T324.setTop (mkF m 260 #[.val (.int p0), .val (.int p1), .val (.int p2), .val (.long q3), .second, .val (.int z8), .val (.int (0 : Int32)), .val (.int (0 : Int32)), .val (.int (1 : Int32)), .val (.int z46), .val (.ref b49), .val (.ref b58), .val (.long v66), .second, .val (.ref b276), .val (.ref b293), .val (.ref b302), .val (.ref b58), .val (.long y310), .second] [(.ref b58), (.ref b277)]))
                          have F325 : own_Arf Z h302 b277 b278 .byte (((p0.toUInt32 >>> ((7 : Int32) &&& 31).toUInt32).toInt32) &&& (3 : Int32)) (fun i => .int (b60 i)) := ((F289.keep Kq292 nin0).ext E302)
                          have F326 : own_Arf Z h302 b58 b59 .byte (((p0.toUInt32 >>> ((7 : Int32) &&& 31).toUInt32).toInt32) &&& (3 : Int32)) (fun i => .int (b60 i)) := (((F152.keep Kq275 nin0).keep Kq292 nin0).ext E302)
                          obtain ⟨_, _, ⟨T327, L327, k327, n327⟩, -, X327, ⟨Lc327, hQ327, l327, y327, z327⟩, st327⟩ := Jvm.LawKit.callS X324 hx (y := (⟨"com/example/nested_keyspace/nestedkeyspace/ScanOptionsReversePinLaw", "sameBytes", "([B[B)Z"⟩ : MethodName)) hown (mvT hZ (hwd 47 rfl)) (mvT hZ (hwd 48 rfl)) (mvT hZ (hwd 2 rfl)) (mvT hZ (hwd 49 rfl)) (by decide) (backOf (W := 0) (rmsbRR l Z A0 hw [] b277 b58 b278 (((p0.toUInt32 >>> ((7 : Int32) &&& 31).toUInt32).toInt32) &&& (3 : Int32)) b60 b59 (((p0.toUInt32 >>> ((7 : Int32) &&& 31).toUInt32).toInt32) &&& (3 : Int32)) b60 h302 n0 Z302 F325 F326) hZ (hwd 49 rfl) (hwd 2 rfl) (by decide) (by decide)) (g := (mkF m 260 #[.val (.int p0), .val (.int p1), .val (.int p2), .val (.long q3), .second, .val (.int z8), .val (.int (0 : Int32)), .val (.int (0 : Int32)), .val (.int (1 : Int32)), .val (.int z46), .val (.ref b49), .val (.ref b58), .val (.long v66), .second, .val (.ref b276), .val (.ref b293), .val (.ref b302), .val (.ref b58), .val (.long y310), .second] [(.ref b58), (.ref b277)])) rfl (by rw [hml]; rfl) (argsL := [(.ref b277), (.ref b58)]) (rest := []) (lenOf pd_47 rfl) rfl (by show 2 * 0 + _ ≤ _; exact Nat.le_of_eq rfl) (hb hby at_260) (fun _ _ => ⟨rfl, eq324, (by decide : 9 + 0 ≤ _), (by decide : 34 + 0 ≤ _)⟩)
                          dsimp only [Pt.U, Pt.locs, Pt.cells, Pt.slots] at X327 l327 y327 z327 st327 hQ327
                          subst l327 y327 z327
                          obtain ⟨o328, rfl, Nq327, eq327, hp329⟩ := hQ327
                          have N327 := Fr.app N324 Nq327
                          refine own_by st327 ?_
                          show own_Go p e below _ (T327.setTop (mkF m 263 #[.val (.int p0), .val (.int p1), .val (.int p2), .val (.long q3), .second, .val (.int z8), .val (.int (0 : Int32)), .val (.int (0 : Int32)), .val (.int (1 : Int32)), .val (.int z46), .val (.ref b49), .val (.ref b58), .val (.long v66), .second, .val (.ref b276), .val (.ref b293), .val (.ref b302), .val (.ref b58), .val (.long y310), .second] [(.int o328)]))
                          by_cases c330 : o328 = (0 : Int32)
                          · skip
                            refine own_by (fun _ k => XS.ifYes X327.here hx rfl (pc0 := 263) (pc' := 301) rfl (hb hby at_263) rfl ((if0 _ _).trans (teq c330).1) (by decide) (by decide) k) ?_
                            show own_Go p e below _ (T327.setTop (mkF m 301 #[.val (.int p0), .val (.int p1), .val (.int p2), .val (.long q3), .second, .val (.int z8), .val (.int (0 : Int32)), .val (.int (0 : Int32)), .val (.int (1 : Int32)), .val (.int z46), .val (.ref b49), .val (.ref b58), .val (.long v66), .second, .val (.ref b276), .val (.ref b293), .val (.ref b302), .val (.ref b58), .val (.long y310), .second] []))
                            refine own_by (fun _ k => XS.iconst X327.here hx rfl (hb hby at_301) k) ?_
                            show own_Go p e below _ (T327.setTop (mkF m 302 #[.val (.int p0), .val (.int p1), .val (.int p2), .val (.long q3), .second, .val (.int z8), .val (.int (0 : Int32)), .val (.int (0 : Int32)), .val (.int (1 : Int32)), .val (.int z46), .val (.ref b49), .val (.ref b58), .val (.long v66), .second, .val (.ref b276), .val (.ref b293), .val (.ref b302), .val (.ref b58), .val (.long y310), .second] [(.int (0 : Int32))]))
                            exact own_retN X327 hx (t := .boolean) Bd.returns (by simp) (hb hby at_302) hlk eq327 ⟨((ob_0_47 fn_f_EMPTY_KEY p0 p1 p2 q3 z8 z46 b51 b60 v66 y94 z146 y310 o320 o328 hj9 hj18 hj28 hj38 hj47 hp56 hp65 hv66 hj126 hj178 hj311 hp321 c322 hp329 c330)).elim, N327⟩ (by decide) (by decide)
                          · skip
                            refine own_by (fun _ k => XS.ifNo X327.here hx rfl (hb hby at_263) rfl ((if0 _ _).trans (feq c330).1) k) ?_
                            show own_Go p e below _ (T327.setTop (mkF m 266 #[.val (.int p0), .val (.int p1), .val (.int p2), .val (.long q3), .second, .val (.int z8), .val (.int (0 : Int32)), .val (.int (0 : Int32)), .val (.int (1 : Int32)), .val (.int z46), .val (.ref b49), .val (.ref b58), .val (.long v66), .second, .val (.ref b276), .val (.ref b293), .val (.ref b302), .val (.ref b58), .val (.long y310), .second] []))
                            refine own_by (fun _ k => XS.aload X327.here hx rfl (hb hby at_266) rfl rfl k) ?_
                            show own_Go p e below _ (T327.setTop (mkF m 268 #[.val (.int p0), .val (.int p1), .val (.int p2), .val (.long q3), .second, .val (.int z8), .val (.int (0 : Int32)), .val (.int (0 : Int32)), .val (.int (1 : Int32)), .val (.int z46), .val (.ref b49), .val (.ref b58), .val (.long v66), .second, .val (.ref b276), .val (.ref b293), .val (.ref b302), .val (.ref b58), .val (.long y310), .second] [(.ref b293)]))
                            have F331 : Fld Z h302 b293 "com/example/nested_keyspace/nestedkeyspace/ScanOptions" "subtree" "Z" (.int (0 : Int32)) := (F299.ext E302)
                            obtain ⟨cq332, kq332, qq332a, qq332b, qq332c⟩ := isOf hZ eq327 F314
                            obtain ⟨_, _, ⟨T332, L332, k332, n332⟩, -, X332, ⟨Lc332, hQ332, l332, y332, z332⟩, st332⟩ := X327.virtualBack hx (y := (⟨"com/example/nested_keyspace/nestedkeyspace/ScanOptions", "readsSubtree", "()Z"⟩ : MethodName)) (z := (⟨"com/example/nested_keyspace/nestedkeyspace/ScanOptions", "readsSubtree", "()Z"⟩ : MethodName)) hown (mvT hZ (hwd 55 rfl)) (mvT hZ (hwd 56 rfl)) (notFace_of_selects (args := #[]) (mvT hZ (hwd 58 rfl))) (mvT hZ (hwd 58 rfl)) (mvT hZ (hwd 57 rfl)) (by decide) (backOf (W := 0) (rm10 l Z A0 hw [] b293 (0 : Int32) h302 n0 Z302 F331) hZ (hwd 59 rfl) (hwd 8 rfl) (by decide) (by decide)) qq332a qq332c (g := (mkF m 268 #[.val (.int p0), .val (.int p1), .val (.int p2), .val (.long q3), .second, .val (.int z8), .val (.int (0 : Int32)), .val (.int (0 : Int32)), .val (.int (1 : Int32)), .val (.int z46), .val (.ref b49), .val (.ref b58), .val (.long v66), .second, .val (.ref b276), .val (.ref b293), .val (.ref b302), .val (.ref b58), .val (.long y310), .second] [(.ref b293)])) rfl (by rw [hml]; rfl) (Steps.refl _) (argsL := []) (rest := []) (lenOf pd_35 rfl) rfl (by show 2 * 0 + _ ≤ _; exact Nat.le_of_eq rfl) (hb hby at_268) (fun _ _ => ⟨rfl, eq327, (by decide : 9 + 0 ≤ _), (by decide : 34 + 0 ≤ _)⟩)
                            dsimp only [Pt.U, Pt.locs, Pt.cells, Pt.slots] at X332 l332 y332 z332 st332 hQ332
                            subst l332 y332 z332
                            obtain ⟨rfl, Nq332, eq332⟩ := hQ332
                            have N332 := Fr.app N327 Nq332
                            refine own_by (fun _ k => st332.trans k) ?_
                            show own_Go p e below _ (T332.setTop (mkF m 271 #[.val (.int p0), .val (.int p1), .val (.int p2), .val (.long q3), .second, .val (.int z8), .val (.int (0 : Int32)), .val (.int (0 : Int32)), .val (.int (1 : Int32)), .val (.int z46), .val (.ref b49), .val (.ref b58), .val (.long v66), .second, .val (.ref b276), .val (.ref b293), .val (.ref b302), .val (.ref b58), .val (.long y310), .second] [(.int (0 : Int32))]))
                            refine own_by (fun _ k => XS.iload X332.here hx rfl (hb hby at_271) rfl k) ?_
                            show own_Go p e below _ (T332.setTop (mkF m 273 #[.val (.int p0), .val (.int p1), .val (.int p2), .val (.long q3), .second, .val (.int z8), .val (.int (0 : Int32)), .val (.int (0 : Int32)), .val (.int (1 : Int32)), .val (.int z46), .val (.ref b49), .val (.ref b58), .val (.long v66), .second, .val (.ref b276), .val (.ref b293), .val (.ref b302), .val (.ref b58), .val (.long y310), .second] [(.int (0 : Int32)), (.int (0 : Int32))]))
                            refine own_by (fun _ k => XS.icmpNo X332.here hx rfl (hb hby at_273) rfl (teq (by decide : (0 : Int32) = (0 : Int32))).2 k) ?_
                            show own_Go p e below _ (T332.setTop (mkF m 276 #[.val (.int p0), .val (.int p1), .val (.int p2), .val (.long q3), .second, .val (.int z8), .val (.int (0 : Int32)), .val (.int (0 : Int32)), .val (.int (1 : Int32)), .val (.int z46), .val (.ref b49), .val (.ref b58), .val (.long v66), .second, .val (.ref b276), .val (.ref b293), .val (.ref b302), .val (.ref b58), .val (.long y310), .second] []))
                            refine own_by (fun _ k => XS.aload X332.here hx rfl (hb hby at_276) rfl rfl k) ?_
                            show own_Go p e below _ (T332.setTop (mkF m 278 #[.val (.int p0), .val (.int p1), .val (.int p2), .val (.long q3), .second, .val (.int z8), .val (.int (0 : Int32)), .val (.int (0 : Int32)), .val (.int (1 : Int32)), .val (.int z46), .val (.ref b49), .val (.ref b58), .val (.long v66), .second, .val (.ref b276), .val (.ref b293), .val (.ref b302), .val (.ref b58), .val (.long y310), .second] [(.ref b293)]))
                            have F333 : Fld Z h302 b293 "com/example/nested_keyspace/nestedkeyspace/ScanOptions" "limit" "J" (.long y94) := (F301.ext E302)
                            obtain ⟨cq334, kq334, qq334a, qq334b, qq334c⟩ := isOf hZ eq332 F314
                            obtain ⟨_, _, ⟨T334, L334, k334, n334⟩, -, X334, ⟨Lc334, hQ334, l334, y334, z334⟩, st334⟩ := X332.virtualBack hx (y := (⟨"com/example/nested_keyspace/nestedkeyspace/ScanOptions", "maxEntries", "()J"⟩ : MethodName)) (z := (⟨"com/example/nested_keyspace/nestedkeyspace/ScanOptions", "maxEntries", "()J"⟩ : MethodName)) hown (mvT hZ (hwd 60 rfl)) (mvT hZ (hwd 61 rfl)) (notFace_of_selects (args := #[]) (mvT hZ (hwd 63 rfl))) (mvT hZ (hwd 63 rfl)) (mvT hZ (hwd 62 rfl)) (by decide) (backOf (W := 0) (rm11 l Z A0 hw [] b293 y94 h302 n0 Z302 F333) hZ (hwd 64 rfl) (hwd 8 rfl) (by decide) (by decide)) qq334a qq334c (g := (mkF m 278 #[.val (.int p0), .val (.int p1), .val (.int p2), .val (.long q3), .second, .val (.int z8), .val (.int (0 : Int32)), .val (.int (0 : Int32)), .val (.int (1 : Int32)), .val (.int z46), .val (.ref b49), .val (.ref b58), .val (.long v66), .second, .val (.ref b276), .val (.ref b293), .val (.ref b302), .val (.ref b58), .val (.long y310), .second] [(.ref b293)])) rfl (by rw [hml]; rfl) (Steps.refl _) (argsL := []) (rest := []) (lenOf pd_60 rfl) rfl (by show 2 * 0 + _ ≤ _; exact Nat.le_of_eq rfl) (hb hby at_278) (fun _ _ => ⟨rfl, eq332, (by decide : 9 + 0 ≤ _), (by decide : 34 + 0 ≤ _)⟩)
                            dsimp only [Pt.U, Pt.locs, Pt.cells, Pt.slots] at X334 l334 y334 z334 st334 hQ334
                            subst l334 y334 z334
                            obtain ⟨rfl, Nq334, eq334⟩ := hQ334
                            have N334 := Fr.app N332 Nq334
                            refine own_by (fun _ k => st334.trans k) ?_
                            show own_Go p e below _ (T334.setTop (mkF m 281 #[.val (.int p0), .val (.int p1), .val (.int p2), .val (.long q3), .second, .val (.int z8), .val (.int (0 : Int32)), .val (.int (0 : Int32)), .val (.int (1 : Int32)), .val (.int z46), .val (.ref b49), .val (.ref b58), .val (.long v66), .second, .val (.ref b276), .val (.ref b293), .val (.ref b302), .val (.ref b58), .val (.long y310), .second] [(.long y94)]))
                            refine own_by (fun _ k => XS.lload X334.here hx rfl (hb hby at_281) rfl k) ?_
                            show own_Go p e below _ (T334.setTop (mkF m 283 #[.val (.int p0), .val (.int p1), .val (.int p2), .val (.long q3), .second, .val (.int z8), .val (.int (0 : Int32)), .val (.int (0 : Int32)), .val (.int (1 : Int32)), .val (.int z46), .val (.ref b49), .val (.ref b58), .val (.long v66), .second, .val (.ref b276), .val (.ref b293), .val (.ref b302), .val (.ref b58), .val (.long y310), .second] [(.long y310), (.long y94)]))
                            refine own_by (fun _ k => XS.lcmp X334.here hx rfl (hb hby at_283) rfl k) ?_
                            show own_Go p e below _ (T334.setTop (mkF m 284 #[.val (.int p0), .val (.int p1), .val (.int p2), .val (.long q3), .second, .val (.int z8), .val (.int (0 : Int32)), .val (.int (0 : Int32)), .val (.int (1 : Int32)), .val (.int z46), .val (.ref b49), .val (.ref b58), .val (.long v66), .second, .val (.ref b276), .val (.ref b293), .val (.ref b302), .val (.ref b58), .val (.long y310), .second] [(.int (lcmpW y94 y310))]))
                            by_cases c335 : y94 = y310
                            · skip
                              refine own_by (fun _ k => XS.ifNo X334.here hx rfl (hb hby at_284) rfl ((if0 _ _).trans (teq ((lw_eq _ _).mpr c335)).2) k) ?_
                              show own_Go p e below _ (T334.setTop (mkF m 287 #[.val (.int p0), .val (.int p1), .val (.int p2), .val (.long q3), .second, .val (.int z8), .val (.int (0 : Int32)), .val (.int (0 : Int32)), .val (.int (1 : Int32)), .val (.int z46), .val (.ref b49), .val (.ref b58), .val (.long v66), .second, .val (.ref b276), .val (.ref b293), .val (.ref b302), .val (.ref b58), .val (.long y310), .second] []))
                              refine own_by (fun _ k => XS.aload X334.here hx rfl (hb hby at_287) rfl rfl k) ?_
                              show own_Go p e below _ (T334.setTop (mkF m 289 #[.val (.int p0), .val (.int p1), .val (.int p2), .val (.long q3), .second, .val (.int z8), .val (.int (0 : Int32)), .val (.int (0 : Int32)), .val (.int (1 : Int32)), .val (.int z46), .val (.ref b49), .val (.ref b58), .val (.long v66), .second, .val (.ref b276), .val (.ref b293), .val (.ref b302), .val (.ref b58), .val (.long y310), .second] [(.ref b276)]))
                              have F336 : Fld Z h302 b276 "com/example/nested_keyspace/nestedkeyspace/ScanOptions" "reverse" "Z" (.int (nar .boolean z146)) := ((F285.keep Kq292 nin0).ext E302)
                              have F338 : Exa Z h302 b276 "com/example/nested_keyspace/nestedkeyspace/ScanOptions" := ((F281.keep Kq292).ext E302)
                              obtain ⟨cq337, kq337, qq337a, qq337b, qq337c⟩ := isOf hZ eq334 F338
                              obtain ⟨_, _, ⟨T337, L337, k337, n337⟩, -, X337, ⟨Lc337, hQ337, l337, y337, z337⟩, st337⟩ := X334.virtualBack hx (y := (⟨"com/example/nested_keyspace/nestedkeyspace/ScanOptions", "readsInReverse", "()Z"⟩ : MethodName)) (z := (⟨"com/example/nested_keyspace/nestedkeyspace/ScanOptions", "readsInReverse", "()Z"⟩ : MethodName)) hown (mvT hZ (hwd 35 rfl)) (mvT hZ (hwd 36 rfl)) (notFace_of_selects (args := #[]) (mvT hZ (hwd 38 rfl))) (mvT hZ (hwd 38 rfl)) (mvT hZ (hwd 37 rfl)) (by decide) (backOf (W := 0) (rm6 l Z A0 hw [] b276 (nar .boolean z146) h302 n0 Z302 F336) hZ (hwd 39 rfl) (hwd 8 rfl) (by decide) (by decide)) qq337a qq337c (g := (mkF m 289 #[.val (.int p0), .val (.int p1), .val (.int p2), .val (.long q3), .second, .val (.int z8), .val (.int (0 : Int32)), .val (.int (0 : Int32)), .val (.int (1 : Int32)), .val (.int z46), .val (.ref b49), .val (.ref b58), .val (.long v66), .second, .val (.ref b276), .val (.ref b293), .val (.ref b302), .val (.ref b58), .val (.long y310), .second] [(.ref b276)])) rfl (by rw [hml]; rfl) (Steps.refl _) (argsL := []) (rest := []) (lenOf pd_35 rfl) rfl (by show 2 * 0 + _ ≤ _; exact Nat.le_of_eq rfl) (hb hby at_289) (fun _ _ => ⟨rfl, eq334, (by decide : 9 + 0 ≤ _), (by decide : 34 + 0 ≤ _)⟩)
                              dsimp only [Pt.U, Pt.locs, Pt.cells, Pt.slots] at X337 l337 y337 z337 st337 hQ337
                              subst l337 y337 z337
                              obtain ⟨rfl, Nq337, eq337⟩ := hQ337
                              have N337 := Fr.app N334 Nq337
                              refine own_by (fun _ k => st337.trans k) ?_
                              show own_Go p e below _ (T337.setTop (mkF m 292 #[.val (.int p0), .val (.int p1), .val (.int p2), .val (.long q3), .second, .val (.int z8), .val (.int (0 : Int32)), .val (.int (0 : Int32)), .val (.int (1 : Int32)), .val (.int z46), .val (.ref b49), .val (.ref b58), .val (.long v66), .second, .val (.ref b276), .val (.ref b293), .val (.ref b302), .val (.ref b58), .val (.long y310), .second] [(.int (nar .boolean (nar .boolean z146)))]))
                              refine own_by (fun _ k => XS.iload X337.here hx rfl (hb hby at_292) rfl k) ?_
                              show own_Go p e below _ (T337.setTop (mkF m 294 #[.val (.int p0), .val (.int p1), .val (.int p2), .val (.long q3), .second, .val (.int z8), .val (.int (0 : Int32)), .val (.int (0 : Int32)), .val (.int (1 : Int32)), .val (.int z46), .val (.ref b49), .val (.ref b58), .val (.long v66), .second, .val (.ref b276), .val (.ref b293), .val (.ref b302), .val (.ref b58), .val (.long y310), .second] [(.int z46), (.int (nar .boolean (nar .boolean z146)))]))
                              by_cases c339 : (nar .boolean (nar .boolean z146)) = z46
                              · skip
                                refine own_by (fun _ k => XS.icmpNo X337.here hx rfl (hb hby at_294) rfl (teq c339).2 k) ?_
                                show own_Go p e below _ (T337.setTop (mkF m 297 #[.val (.int p0), .val (.int p1), .val (.int p2), .val (.long q3), .second, .val (.int z8), .val (.int (0 : Int32)), .val (.int (0 : Int32)), .val (.int (1 : Int32)), .val (.int z46), .val (.ref b49), .val (.ref b58), .val (.long v66), .second, .val (.ref b276), .val (.ref b293), .val (.ref b302), .val (.ref b58), .val (.long y310), .second] []))
                                refine own_by (fun _ k => XS.iconst X337.here hx rfl (hb hby at_297) k) ?_
                                show own_Go p e below _ (T337.setTop (mkF m 298 #[.val (.int p0), .val (.int p1), .val (.int p2), .val (.long q3), .second, .val (.int z8), .val (.int (0 : Int32)), .val (.int (0 : Int32)), .val (.int (1 : Int32)), .val (.int z46), .val (.ref b49), .val (.ref b58), .val (.long v66), .second, .val (.ref b276), .val (.ref b293), .val (.ref b302), .val (.ref b58), .val (.long y310), .second] [(.int (1 : Int32))]))
                                refine own_by (fun _ k => XS.goto X337.here hx rfl (pc0 := 298) (pc' := 302) rfl (hb hby at_298) (by decide) (by decide) k) ?_
                                show own_Go p e below _ (T337.setTop (mkF m 302 #[.val (.int p0), .val (.int p1), .val (.int p2), .val (.long q3), .second, .val (.int z8), .val (.int (0 : Int32)), .val (.int (0 : Int32)), .val (.int (1 : Int32)), .val (.int z46), .val (.ref b49), .val (.ref b58), .val (.long v66), .second, .val (.ref b276), .val (.ref b293), .val (.ref b302), .val (.ref b58), .val (.long y310), .second] [(.int (1 : Int32))]))
                                exact own_retN X337 hx (t := .boolean) Bd.returns (by simp) (hb hby at_302) hlk eq337 ⟨rfl, N337⟩ (by decide) (by decide)
                              · skip
                                refine own_by (fun _ k => XS.icmpYes X337.here hx rfl (pc0 := 294) (pc' := 301) rfl (hb hby at_294) rfl (feq c339).2 (by decide) (by decide) k) ?_
                                show own_Go p e below _ (T337.setTop (mkF m 301 #[.val (.int p0), .val (.int p1), .val (.int p2), .val (.long q3), .second, .val (.int z8), .val (.int (0 : Int32)), .val (.int (0 : Int32)), .val (.int (1 : Int32)), .val (.int z46), .val (.ref b49), .val (.ref b58), .val (.long v66), .second, .val (.ref b276), .val (.ref b293), .val (.ref b302), .val (.ref b58), .val (.long y310), .second] []))
                                refine own_by (fun _ k => XS.iconst X337.here hx rfl (hb hby at_301) k) ?_
                                show own_Go p e below _ (T337.setTop (mkF m 302 #[.val (.int p0), .val (.int p1), .val (.int p2), .val (.long q3), .second, .val (.int z8), .val (.int (0 : Int32)), .val (.int (0 : Int32)), .val (.int (1 : Int32)), .val (.int z46), .val (.ref b49), .val (.ref b58), .val (.long v66), .second, .val (.ref b276), .val (.ref b293), .val (.ref b302), .val (.ref b58), .val (.long y310), .second] [(.int (0 : Int32))]))
                                exact own_retN X337 hx (t := .boolean) Bd.returns (by simp) (hb hby at_302) hlk eq337 ⟨((ob_0_48 fn_f_EMPTY_KEY p0 p1 p2 q3 z8 z46 b51 b60 v66 y94 z146 y310 o320 o328 hj9 hj18 hj28 hj38 hj47 hp56 hp65 hv66 hj126 hj178 hj311 hp321 c322 hp329 c330 c335 c339)).elim, N337⟩ (by decide) (by decide)
                            · skip
                              refine own_by (fun _ k => XS.ifYes X334.here hx rfl (pc0 := 284) (pc' := 301) rfl (hb hby at_284) rfl ((if0 _ _).trans (feq (fun q => c335 ((lw_eq _ _).mp q))).2) (by decide) (by decide) k) ?_
                              show own_Go p e below _ (T334.setTop (mkF m 301 #[.val (.int p0), .val (.int p1), .val (.int p2), .val (.long q3), .second, .val (.int z8), .val (.int (0 : Int32)), .val (.int (0 : Int32)), .val (.int (1 : Int32)), .val (.int z46), .val (.ref b49), .val (.ref b58), .val (.long v66), .second, .val (.ref b276), .val (.ref b293), .val (.ref b302), .val (.ref b58), .val (.long y310), .second] []))
                              refine own_by (fun _ k => XS.iconst X334.here hx rfl (hb hby at_301) k) ?_
                              show own_Go p e below _ (T334.setTop (mkF m 302 #[.val (.int p0), .val (.int p1), .val (.int p2), .val (.long q3), .second, .val (.int z8), .val (.int (0 : Int32)), .val (.int (0 : Int32)), .val (.int (1 : Int32)), .val (.int z46), .val (.ref b49), .val (.ref b58), .val (.long v66), .second, .val (.ref b276), .val (.ref b293), .val (.ref b302), .val (.ref b58), .val (.long y310), .second] [(.int (0 : Int32))]))
                              exact own_retN X334 hx (t := .boolean) Bd.returns (by simp) (hb hby at_302) hlk eq334 ⟨((ob_0_49 fn_f_EMPTY_KEY p0 p1 p2 q3 z8 z46 b51 b60 v66 y94 z146 y310 o320 o328 hj9 hj18 hj28 hj38 hj47 hp56 hp65 hv66 hj126 hj178 hj311 hp321 c322 hp329 c330 c335)).elim, N334⟩ (by decide) (by decide)
                      by_cases c303 : z8 = (0 : Int32)
                      · skip
                        refine own_by (fun _ k => XS.ifYes X302.here hx rfl (pc0 := 219) (pc' := 227) rfl (hb hby at_219) rfl ((if0 _ _).trans (teq c303).1) (by decide) (by decide) k) ?_
                        show own_Go p e below _ (T302.setTop (mkF m 227 #[.val (.int p0), .val (.int p1), .val (.int p2), .val (.long q3), .second, .val (.int z8), .val (.int (0 : Int32)), .val (.int (0 : Int32)), .val (.int (1 : Int32)), .val (.int z46), .val (.ref b49), .val (.ref b58), .val (.long v66), .second, .val (.ref b276), .val (.ref b293), .val (.ref b302), .val (.ref b58), .unset, .unset] []))
                        refine own_by (fun t k => X302.ldc2Long hx hown (mvT hZ (hwd 5 rfl)) (g := (mkF m 227 #[.val (.int p0), .val (.int p1), .val (.int p2), .val (.long q3), .second, .val (.int z8), .val (.int (0 : Int32)), .val (.int (0 : Int32)), .val (.int (1 : Int32)), .val (.int z46), .val (.ref b49), .val (.ref b58), .val (.long v66), .second, .val (.ref b276), .val (.ref b293), .val (.ref b302), .val (.ref b58), .unset, .unset] [])) rfl (hb hby at_227) _ k) ?_
                        show own_Go p e below _ (T302.setTop (mkF m 230 #[.val (.int p0), .val (.int p1), .val (.int p2), .val (.long q3), .second, .val (.int z8), .val (.int (0 : Int32)), .val (.int (0 : Int32)), .val (.int (1 : Int32)), .val (.int z46), .val (.ref b49), .val (.ref b58), .val (.long v66), .second, .val (.ref b276), .val (.ref b293), .val (.ref b302), .val (.ref b58), .unset, .unset] [(.long (9223372036854775807 : Int64))]))
                        exact J304 _ _ (9223372036854775807 : Int64) X302 e302 N292 (Or.inl ⟨c303, rfl⟩)
                      · skip
                        refine own_by (fun _ k => XS.ifNo X302.here hx rfl (hb hby at_219) rfl ((if0 _ _).trans (feq c303).1) k) ?_
                        show own_Go p e below _ (T302.setTop (mkF m 222 #[.val (.int p0), .val (.int p1), .val (.int p2), .val (.long q3), .second, .val (.int z8), .val (.int (0 : Int32)), .val (.int (0 : Int32)), .val (.int (1 : Int32)), .val (.int z46), .val (.ref b49), .val (.ref b58), .val (.long v66), .second, .val (.ref b276), .val (.ref b293), .val (.ref b302), .val (.ref b58), .unset, .unset] []))
                        refine own_by (fun _ k => XS.lload X302.here hx rfl (hb hby at_222) rfl k) ?_
                        show own_Go p e below _ (T302.setTop (mkF m 224 #[.val (.int p0), .val (.int p1), .val (.int p2), .val (.long q3), .second, .val (.int z8), .val (.int (0 : Int32)), .val (.int (0 : Int32)), .val (.int (1 : Int32)), .val (.int z46), .val (.ref b49), .val (.ref b58), .val (.long v66), .second, .val (.ref b276), .val (.ref b293), .val (.ref b302), .val (.ref b58), .unset, .unset] [(.long v66)]))
                        refine own_by (fun _ k => XS.goto X302.here hx rfl (pc0 := 224) (pc' := 230) rfl (hb hby at_224) (by decide) (by decide) k) ?_
                        show own_Go p e below _ (T302.setTop (mkF m 230 #[.val (.int p0), .val (.int p1), .val (.int p2), .val (.long q3), .second, .val (.int z8), .val (.int (0 : Int32)), .val (.int (0 : Int32)), .val (.int (1 : Int32)), .val (.int z46), .val (.ref b49), .val (.ref b58), .val (.long v66), .second, .val (.ref b276), .val (.ref b293), .val (.ref b302), .val (.ref b58), .unset, .unset] [(.long v66)]))
                        exact J304 _ _ v66 X302 e302 N292 (Or.inr (⟨c303, rfl⟩))
                · skip
                  show own_Go p e below _ (T139.setTop (mkF m 142 #[.val (.int p0), .val (.int p1), .val (.int p2), .val (.long q3), .second, .val (.int z8), .val (.int z17), .val (.int (1 : Int32)), .val (.int z37), .val (.int z46), .val (.ref b49), .val (.ref b58), .val (.long v66), .second, .val (.ref r144), .unset, .unset, .unset, .unset, .unset] []))
                  refine own_by (fun _ k => XS.iload X141.here hx rfl (hb hby at_142) rfl k) ?_
                  show own_Go p e below _ (T139.setTop (mkF m 144 #[.val (.int p0), .val (.int p1), .val (.int p2), .val (.long q3), .second, .val (.int z8), .val (.int z17), .val (.int (1 : Int32)), .val (.int z37), .val (.int z46), .val (.ref b49), .val (.ref b58), .val (.long v66), .second, .val (.ref r144), .unset, .unset, .unset, .unset, .unset] [(.int (1 : Int32))]))
                  refine own_by (fun _ k => XS.ifNo X141.here hx rfl (hb hby at_144) rfl ((if0 _ _).trans (feq (by decide : ¬ ((1 : Int32) = (0 : Int32)))).1) k) ?_
                  show own_Go p e below _ (T139.setTop (mkF m 147 #[.val (.int p0), .val (.int p1), .val (.int p2), .val (.long q3), .second, .val (.int z8), .val (.int z17), .val (.int (1 : Int32)), .val (.int z37), .val (.int z46), .val (.ref b49), .val (.ref b58), .val (.long v66), .second, .val (.ref r144), .unset, .unset, .unset, .unset, .unset] []))
                  refine own_by (fun _ k => XS.aload X141.here hx rfl (hb hby at_147) rfl rfl k) ?_
                  show own_Go p e below _ (T139.setTop (mkF m 149 #[.val (.int p0), .val (.int p1), .val (.int p2), .val (.long q3), .second, .val (.int z8), .val (.int z17), .val (.int (1 : Int32)), .val (.int z37), .val (.int z46), .val (.ref b49), .val (.ref b58), .val (.long v66), .second, .val (.ref r144), .unset, .unset, .unset, .unset, .unset] [(.ref r144)]))
                  refine own_by (fun _ k => XS.aload X141.here hx rfl (hb hby at_149) rfl rfl k) ?_
                  show own_Go p e below _ (T139.setTop (mkF m 151 #[.val (.int p0), .val (.int p1), .val (.int p2), .val (.long q3), .second, .val (.int z8), .val (.int z17), .val (.int (1 : Int32)), .val (.int z37), .val (.int z46), .val (.ref b49), .val (.ref b58), .val (.long v66), .second, .val (.ref r144), .unset, .unset, .unset, .unset, .unset] [(.ref b49), (.ref r144)]))
                  obtain ⟨cq340, kq340, qq340a, qq340b, qq340c⟩ := isOf hZ e142 F166
                  obtain ⟨_, _, ⟨T340, L340, k340, n340⟩, -, X340, ⟨Lc340, hQ340, l340, y340, z340⟩, st340⟩ := X141.virtualBack hx (y := (⟨"com/example/nested_keyspace/nestedkeyspace/ScanOptions", "from", "([B)Lcom/example/nested_keyspace/nestedkeyspace/ScanOptions;"⟩ : MethodName)) (z := (⟨"com/example/nested_keyspace/nestedkeyspace/ScanOptions", "from", "([B)Lcom/example/nested_keyspace/nestedkeyspace/ScanOptions;"⟩ : MethodName)) hown (mvT hZ (hwd 65 rfl)) (mvT hZ (hwd 66 rfl)) (notFace_of_selects (args := #[]) (mvT hZ (hwd 68 rfl))) (mvT hZ (hwd 68 rfl)) (mvT hZ (hwd 67 rfl)) (by decide) (backOf (W := 0) (rm12 l Z A0 hw [] r144 b49 b50 (((p0.toUInt32 >>> ((5 : Int32) &&& 31).toUInt32).toInt32) &&& (3 : Int32)) b51 (.null) z146 y94 h145 n0 Z148 F169 F166 F150 F149 (ob_0_50 p0 p1 p2 q3 z8 z17 z37 z46 b51 b60 v66 y94 z146 hj9 hj18 hj28 hj38 hj47 hp56 hp65 hv66 hj126 hj178) rfl F168 F170 F171) hZ (hwd 69 rfl) (hwd 8 rfl) (by decide) (by decide)) qq340a qq340c (g := (mkF m 151 #[.val (.int p0), .val (.int p1), .val (.int p2), .val (.long q3), .second, .val (.int z8), .val (.int z17), .val (.int (1 : Int32)), .val (.int z37), .val (.int z46), .val (.ref b49), .val (.ref b58), .val (.long v66), .second, .val (.ref r144), .unset, .unset, .unset, .unset, .unset] [(.ref b49), (.ref r144)])) rfl (by rw [hml]; rfl) (Steps.refl _) (argsL := [(.ref b49)]) (rest := []) (lenOf pd_65 rfl) rfl (by show 2 * 0 + _ ≤ _; exact Nat.le_of_eq rfl) (hb hby at_151) (fun _ _ => ⟨rfl, e142, (by decide : 5 + 2 ≤ _), (by decide : 21 + 8 ≤ _)⟩)
                  dsimp only [Pt.U, Pt.locs, Pt.cells, Pt.slots] at X340 l340 y340 z340 st340 hQ340
                  subst l340 y340 z340
                  obtain ⟨b341, b342, b343, rfl, Nq340, Kq340, hp344, hp345, F346, F347, F348, F349, F350, F351, hp352, hp353, F354, F355, hp356⟩ := hQ340
                  have N340 := Fr.app N143 Nq340
                  have K340 : Keep h0 T340.heap [] := K147.trans Kq340 (all0)
                  have Z340 : n0 ≤ T340.heap.size := Nat.le_trans Z148 Kq340.1
                  have sz_b341 : h0.size ≤ b341 := Nat.le_trans K147.1 hp345
                  have sz_b342 : h0.size ≤ b342 := Nat.le_trans K147.1 hp353
                  refine own_by (fun _ k => st340.trans k) ?_
                  show own_Go p e below _ (T340.setTop (mkF m 154 #[.val (.int p0), .val (.int p1), .val (.int p2), .val (.long q3), .second, .val (.int z8), .val (.int z17), .val (.int (1 : Int32)), .val (.int z37), .val (.int z46), .val (.ref b49), .val (.ref b58), .val (.long v66), .second, .val (.ref r144), .unset, .unset, .unset, .unset, .unset] [(.ref b341)]))
                  refine own_by (fun _ k => XS.astore X340.here hx rfl (hb hby at_154) rfl rfl (l' := #[.val (.int p0), .val (.int p1), .val (.int p2), .val (.long q3), .second, .val (.int z8), .val (.int z17), .val (.int (1 : Int32)), .val (.int z37), .val (.int z46), .val (.ref b49), .val (.ref b58), .val (.long v66), .second, .val (.ref b341), .unset, .unset, .unset, .unset, .unset]) rfl k) ?_
                  show own_Go p e below _ (T340.setTop (mkF m 156 #[.val (.int p0), .val (.int p1), .val (.int p2), .val (.long q3), .second, .val (.int z8), .val (.int z17), .val (.int (1 : Int32)), .val (.int z37), .val (.int z46), .val (.ref b49), .val (.ref b58), .val (.long v66), .second, .val (.ref b341), .unset, .unset, .unset, .unset, .unset] []))
                  have hs_z37 := (ob_0_51 p0 p1 p2 q3 z8 z17 z37 z46 b51 b60 v66 y94 z146 hj9 hj18 hj28 hj38 hj47 hp56 hp65 hv66 hj126 hj178)
                  rcases hs_z37 with rfl | rfl
                  · skip
                    show own_Go p e below _ (T340.setTop (mkF m 156 #[.val (.int p0), .val (.int p1), .val (.int p2), .val (.long q3), .second, .val (.int z8), .val (.int z17), .val (.int (1 : Int32)), .val (.int (0 : Int32)), .val (.int z46), .val (.ref b49), .val (.ref b58), .val (.long v66), .second, .val (.ref b341), .unset, .unset, .unset, .unset, .unset] []))
                    refine own_by (fun _ k => XS.iload X340.here hx rfl (hb hby at_156) rfl k) ?_
                    show own_Go p e below _ (T340.setTop (mkF m 158 #[.val (.int p0), .val (.int p1), .val (.int p2), .val (.long q3), .second, .val (.int z8), .val (.int z17), .val (.int (1 : Int32)), .val (.int (0 : Int32)), .val (.int z46), .val (.ref b49), .val (.ref b58), .val (.long v66), .second, .val (.ref b341), .unset, .unset, .unset, .unset, .unset] [(.int (0 : Int32))]))
                    refine own_by (fun _ k => XS.ifYes X340.here hx rfl (pc0 := 158) (pc' := 170) rfl (hb hby at_158) rfl ((if0 _ _).trans (teq (by decide : (0 : Int32) = (0 : Int32))).1) (by decide) (by decide) k) ?_
                    show own_Go p e below _ (T340.setTop (mkF m 170 #[.val (.int p0), .val (.int p1), .val (.int p2), .val (.long q3), .second, .val (.int z8), .val (.int z17), .val (.int (1 : Int32)), .val (.int (0 : Int32)), .val (.int z46), .val (.ref b49), .val (.ref b58), .val (.long v66), .second, .val (.ref b341), .unset, .unset, .unset, .unset, .unset] []))
                    have hs_z17 := (ob_0_52 p0 p1 p2 q3 z8 z17 z46 b51 b60 v66 y94 z146 hj9 hj18 hj28 hj38 hj47 hp56 hp65 hv66 hj126 hj178)
                    rcases hs_z17 with rfl
                    · skip
                      show own_Go p e below _ (T340.setTop (mkF m 170 #[.val (.int p0), .val (.int p1), .val (.int p2), .val (.long q3), .second, .val (.int z8), .val (.int (0 : Int32)), .val (.int (1 : Int32)), .val (.int (0 : Int32)), .val (.int z46), .val (.ref b49), .val (.ref b58), .val (.long v66), .second, .val (.ref b341), .unset, .unset, .unset, .unset, .unset] []))
                      refine own_by (fun _ k => XS.iload X340.here hx rfl (hb hby at_170) rfl k) ?_
                      show own_Go p e below _ (T340.setTop (mkF m 172 #[.val (.int p0), .val (.int p1), .val (.int p2), .val (.long q3), .second, .val (.int z8), .val (.int (0 : Int32)), .val (.int (1 : Int32)), .val (.int (0 : Int32)), .val (.int z46), .val (.ref b49), .val (.ref b58), .val (.long v66), .second, .val (.ref b341), .unset, .unset, .unset, .unset, .unset] [(.int (0 : Int32))]))
                      refine own_by (fun _ k => XS.ifYes X340.here hx rfl (pc0 := 172) (pc' := 182) rfl (hb hby at_172) rfl ((if0 _ _).trans (teq (by decide : (0 : Int32) = (0 : Int32))).1) (by decide) (by decide) k) ?_
                      show own_Go p e below _ (T340.setTop (mkF m 182 #[.val (.int p0), .val (.int p1), .val (.int p2), .val (.long q3), .second, .val (.int z8), .val (.int (0 : Int32)), .val (.int (1 : Int32)), .val (.int (0 : Int32)), .val (.int z46), .val (.ref b49), .val (.ref b58), .val (.long v66), .second, .val (.ref b341), .unset, .unset, .unset, .unset, .unset] []))
                      refine own_by (fun _ k => XS.aload X340.here hx rfl (hb hby at_182) rfl rfl k) ?_
                      show own_Go p e below _ (T340.setTop (mkF m 184 #[.val (.int p0), .val (.int p1), .val (.int p2), .val (.long q3), .second, .val (.int z8), .val (.int (0 : Int32)), .val (.int (1 : Int32)), .val (.int (0 : Int32)), .val (.int z46), .val (.ref b49), .val (.ref b58), .val (.long v66), .second, .val (.ref b341), .unset, .unset, .unset, .unset, .unset] [(.ref b341)]))
                      obtain ⟨cq357, kq357, qq357a, qq357b, qq357c⟩ := isOf hZ rfl F346
                      obtain ⟨_, _, ⟨T357, L357, k357, n357⟩, -, X357, ⟨Lc357, hQ357, l357, y357, z357⟩, st357⟩ := X340.virtualBack hx (y := (⟨"com/example/nested_keyspace/nestedkeyspace/ScanOptions", "reverse", "()Lcom/example/nested_keyspace/nestedkeyspace/ScanOptions;"⟩ : MethodName)) (z := (⟨"com/example/nested_keyspace/nestedkeyspace/ScanOptions", "reverse", "()Lcom/example/nested_keyspace/nestedkeyspace/ScanOptions;"⟩ : MethodName)) hown (mvT hZ (hwd 29 rfl)) (mvT hZ (hwd 30 rfl)) (notFace_of_selects (args := #[]) (mvT hZ (hwd 32 rfl))) (mvT hZ (hwd 32 rfl)) (mvT hZ (hwd 31 rfl)) (by decide) (backOf (W := 0) (rm5 l Z A0 hw [] b341 (.ref b342) (.null) (0 : Int32) y94 T340.heap n0 Z340 rfl F347 rfl F348 F349 F351) hZ (hwd 33 rfl) (hwd 8 rfl) (by decide) (by decide)) qq357a qq357c (g := (mkF m 184 #[.val (.int p0), .val (.int p1), .val (.int p2), .val (.long q3), .second, .val (.int z8), .val (.int (0 : Int32)), .val (.int (1 : Int32)), .val (.int (0 : Int32)), .val (.int z46), .val (.ref b49), .val (.ref b58), .val (.long v66), .second, .val (.ref b341), .unset, .unset, .unset, .unset, .unset] [(.ref b341)])) rfl (by rw [hml]; rfl) (Steps.refl _) (argsL := []) (rest := []) (lenOf pd_29 rfl) rfl (by show 2 * 0 + _ ≤ _; exact Nat.le_of_eq rfl) (hb hby at_184) (fun _ _ => ⟨rfl, rfl, (by decide : 7 + 1 ≤ _), (by decide : 29 + 5 ≤ _)⟩)
                      dsimp only [Pt.U, Pt.locs, Pt.cells, Pt.slots] at X357 l357 y357 z357 st357 hQ357
                      subst l357 y357 z357
                      obtain ⟨b358, rfl, Nq357, Kq357, hp359, hp360, F361, F362, F363, F364, F365, F366⟩ := hQ357
                      have N357 := Fr.app N340 Nq357
                      have K357 : Keep h0 T357.heap [] := K340.trans Kq357 (all0)
                      have Z357 : n0 ≤ T357.heap.size := Nat.le_trans Z340 Kq357.1
                      have sz_b358 : h0.size ≤ b358 := Nat.le_trans K340.1 hp360
                      refine own_by (fun _ k => st357.trans k) ?_
                      show own_Go p e below _ (T357.setTop (mkF m 187 #[.val (.int p0), .val (.int p1), .val (.int p2), .val (.long q3), .second, .val (.int z8), .val (.int (0 : Int32)), .val (.int (1 : Int32)), .val (.int (0 : Int32)), .val (.int z46), .val (.ref b49), .val (.ref b58), .val (.long v66), .second, .val (.ref b341), .unset, .unset, .unset, .unset, .unset] [(.ref b358)]))
                      refine own_by (fun _ k => XS.astore X357.here hx rfl (hb hby at_187) rfl rfl (l' := #[.val (.int p0), .val (.int p1), .val (.int p2), .val (.long q3), .second, .val (.int z8), .val (.int (0 : Int32)), .val (.int (1 : Int32)), .val (.int (0 : Int32)), .val (.int z46), .val (.ref b49), .val (.ref b58), .val (.long v66), .second, .val (.ref b341), .val (.ref b358), .unset, .unset, .unset, .unset]) rfl k) ?_
                      show own_Go p e below _ (T357.setTop (mkF m 189 #[.val (.int p0), .val (.int p1), .val (.int p2), .val (.long q3), .second, .val (.int z8), .val (.int (0 : Int32)), .val (.int (1 : Int32)), .val (.int (0 : Int32)), .val (.int z46), .val (.ref b49), .val (.ref b58), .val (.long v66), .second, .val (.ref b341), .val (.ref b358), .unset, .unset, .unset, .unset] []))
                      refine own_by (fun _ k => XS.iload X357.here hx rfl (hb hby at_189) rfl k) ?_
                      show own_Go p e below _ (T357.setTop (mkF m 191 #[.val (.int p0), .val (.int p1), .val (.int p2), .val (.long q3), .second, .val (.int z8), .val (.int (0 : Int32)), .val (.int (1 : Int32)), .val (.int (0 : Int32)), .val (.int z46), .val (.ref b49), .val (.ref b58), .val (.long v66), .second, .val (.ref b341), .val (.ref b358), .unset, .unset, .unset, .unset] [(.int (1 : Int32))]))
                      refine own_by (fun _ k => XS.ifNo X357.here hx rfl (hb hby at_191) rfl ((if0 _ _).trans (feq (by decide : ¬ ((1 : Int32) = (0 : Int32)))).1) k) ?_
                      show own_Go p e below _ (T357.setTop (mkF m 194 #[.val (.int p0), .val (.int p1), .val (.int p2), .val (.long q3), .second, .val (.int z8), .val (.int (0 : Int32)), .val (.int (1 : Int32)), .val (.int (0 : Int32)), .val (.int z46), .val (.ref b49), .val (.ref b58), .val (.long v66), .second, .val (.ref b341), .val (.ref b358), .unset, .unset, .unset, .unset] []))
                      refine own_by (fun _ k => XS.aload X357.here hx rfl (hb hby at_194) rfl rfl k) ?_
                      show own_Go p e below _ (T357.setTop (mkF m 196 #[.val (.int p0), .val (.int p1), .val (.int p2), .val (.long q3), .second, .val (.int z8), .val (.int (0 : Int32)), .val (.int (1 : Int32)), .val (.int (0 : Int32)), .val (.int z46), .val (.ref b49), .val (.ref b58), .val (.long v66), .second, .val (.ref b341), .val (.ref b358), .unset, .unset, .unset, .unset] [(.ref b49)]))
                      refine own_by (fun _ k => XS.goto X357.here hx rfl (pc0 := 196) (pc' := 202) rfl (hb hby at_196) (by decide) (by decide) k) ?_
                      show own_Go p e below _ (T357.setTop (mkF m 202 #[.val (.int p0), .val (.int p1), .val (.int p2), .val (.long q3), .second, .val (.int z8), .val (.int (0 : Int32)), .val (.int (1 : Int32)), .val (.int (0 : Int32)), .val (.int z46), .val (.ref b49), .val (.ref b58), .val (.long v66), .second, .val (.ref b341), .val (.ref b358), .unset, .unset, .unset, .unset] [(.ref b49)]))
                      refine own_by (fun _ k => XS.astore X357.here hx rfl (hb hby at_202) rfl rfl (l' := #[.val (.int p0), .val (.int p1), .val (.int p2), .val (.long q3), .second, .val (.int z8), .val (.int (0 : Int32)), .val (.int (1 : Int32)), .val (.int (0 : Int32)), .val (.int z46), .val (.ref b49), .val (.ref b58), .val (.long v66), .second, .val (.ref b341), .val (.ref b358), .val (.ref b49), .unset, .unset, .unset]) rfl k) ?_
                      show own_Go p e below _ (T357.setTop (mkF m 204 #[.val (.int p0), .val (.int p1), .val (.int p2), .val (.long q3), .second, .val (.int z8), .val (.int (0 : Int32)), .val (.int (1 : Int32)), .val (.int (0 : Int32)), .val (.int z46), .val (.ref b49), .val (.ref b58), .val (.long v66), .second, .val (.ref b341), .val (.ref b358), .val (.ref b49), .unset, .unset, .unset] []))
                      refine own_by (fun _ k => XS.iload X357.here hx rfl (hb hby at_204) rfl k) ?_
                      show own_Go p e below _ (T357.setTop (mkF m 206 #[.val (.int p0), .val (.int p1), .val (.int p2), .val (.long q3), .second, .val (.int z8), .val (.int (0 : Int32)), .val (.int (1 : Int32)), .val (.int (0 : Int32)), .val (.int z46), .val (.ref b49), .val (.ref b58), .val (.long v66), .second, .val (.ref b341), .val (.ref b358), .val (.ref b49), .unset, .unset, .unset] [(.int (0 : Int32))]))
                      refine own_by (fun _ k => XS.ifYes X357.here hx rfl (pc0 := 206) (pc' := 214) rfl (hb hby at_206) rfl ((if0 _ _).trans (teq (by decide : (0 : Int32) = (0 : Int32))).1) (by decide) (by decide) k) ?_
                      show own_Go p e below _ (T357.setTop (mkF m 214 #[.val (.int p0), .val (.int p1), .val (.int p2), .val (.long q3), .second, .val (.int z8), .val (.int (0 : Int32)), .val (.int (1 : Int32)), .val (.int (0 : Int32)), .val (.int z46), .val (.ref b49), .val (.ref b58), .val (.long v66), .second, .val (.ref b341), .val (.ref b358), .val (.ref b49), .unset, .unset, .unset] []))
                      refine own_by (fun _ k => XS.aconstNull X357.here hx rfl (hb hby at_214) k) ?_
                      show own_Go p e below _ (T357.setTop (mkF m 215 #[.val (.int p0), .val (.int p1), .val (.int p2), .val (.long q3), .second, .val (.int z8), .val (.int (0 : Int32)), .val (.int (1 : Int32)), .val (.int (0 : Int32)), .val (.int z46), .val (.ref b49), .val (.ref b58), .val (.long v66), .second, .val (.ref b341), .val (.ref b358), .val (.ref b49), .unset, .unset, .unset] [.null]))
                      refine own_by (fun _ k => XS.astore X357.here hx rfl (hb hby at_215) rfl rfl (l' := #[.val (.int p0), .val (.int p1), .val (.int p2), .val (.long q3), .second, .val (.int z8), .val (.int (0 : Int32)), .val (.int (1 : Int32)), .val (.int (0 : Int32)), .val (.int z46), .val (.ref b49), .val (.ref b58), .val (.long v66), .second, .val (.ref b341), .val (.ref b358), .val (.ref b49), .val .null, .unset, .unset]) rfl k) ?_
                      show own_Go p e below _ (T357.setTop (mkF m 217 #[.val (.int p0), .val (.int p1), .val (.int p2), .val (.long q3), .second, .val (.int z8), .val (.int (0 : Int32)), .val (.int (1 : Int32)), .val (.int (0 : Int32)), .val (.int z46), .val (.ref b49), .val (.ref b58), .val (.long v66), .second, .val (.ref b341), .val (.ref b358), .val (.ref b49), .val .null, .unset, .unset] []))
                      refine own_by (fun _ k => XS.iload X357.here hx rfl (hb hby at_217) rfl k) ?_
                      show own_Go p e below _ (T357.setTop (mkF m 219 #[.val (.int p0), .val (.int p1), .val (.int p2), .val (.long q3), .second, .val (.int z8), .val (.int (0 : Int32)), .val (.int (1 : Int32)), .val (.int (0 : Int32)), .val (.int z46), .val (.ref b49), .val (.ref b58), .val (.long v66), .second, .val (.ref b341), .val (.ref b358), .val (.ref b49), .val .null, .unset, .unset] [(.int z8)]))
                      have J368 : ∀ (T369 : State) (L370 : List Loc) (y374 : Int64), Stand p l e room_1 s m #[(.int p0), (.int p1), (.int p2), (.long q3)] below meth c T369 L370 8 34 → T369.heap = T357.heap → Fr n0 L370 → (((z8 = (0 : Int32)) ∧ y374 = (9223372036854775807 : Int64)) ∨ ((¬ (z8 = (0 : Int32))) ∧ y374 = v66)) → own_Go p e below (own_Fin s 32 192 (Q0 Z f_EMPTY_KEY k_f_EMPTY_KEY fn_f_EMPTY_KEY p0 p1 p2 q3 h0 n0)) (T369.setTop (mkF m 230 #[.val (.int p0), .val (.int p1), .val (.int p2), .val (.long q3), .second, .val (.int z8), .val (.int (0 : Int32)), .val (.int (1 : Int32)), .val (.int (0 : Int32)), .val (.int z46), .val (.ref b49), .val (.ref b58), .val (.long v66), .second, .val (.ref b341), .val (.ref b358), .val (.ref b49), .val .null, .unset, .unset] [(.long y374)])) := by
                        intro T369 L370 y374 X371 e372 N373 hj375
                        refine own_by (fun _ k => XS.lstore X371.here hx rfl (hb hby at_230) rfl (l' := #[.val (.int p0), .val (.int p1), .val (.int p2), .val (.long q3), .second, .val (.int z8), .val (.int (0 : Int32)), .val (.int (1 : Int32)), .val (.int (0 : Int32)), .val (.int z46), .val (.ref b49), .val (.ref b58), .val (.long v66), .second, .val (.ref b341), .val (.ref b358), .val (.ref b49), .val .null, .val (.long y374), .second]) rfl k) ?_
                        show own_Go p e below _ (T369.setTop (mkF m 232 #[.val (.int p0), .val (.int p1), .val (.int p2), .val (.long q3), .second, .val (.int z8), .val (.int (0 : Int32)), .val (.int (1 : Int32)), .val (.int (0 : Int32)), .val (.int z46), .val (.ref b49), .val (.ref b58), .val (.long v66), .second, .val (.ref b341), .val (.ref b358), .val (.ref b49), .val .null, .val (.long y374), .second] []))
                        refine own_by (fun _ k => XS.aload X371.here hx rfl (hb hby at_232) rfl rfl k) ?_
                        show own_Go p e below _ (T369.setTop (mkF m 234 #[.val (.int p0), .val (.int p1), .val (.int p2), .val (.long q3), .second, .val (.int z8), .val (.int (0 : Int32)), .val (.int (1 : Int32)), .val (.int (0 : Int32)), .val (.int z46), .val (.ref b49), .val (.ref b58), .val (.long v66), .second, .val (.ref b341), .val (.ref b358), .val (.ref b49), .val .null, .val (.long y374), .second] [(.ref b358)]))
                        obtain ⟨cq376, kq376, qq376a, qq376b, qq376c⟩ := isOf hZ e372 F361
                        obtain ⟨_, _, ⟨T376, L376, k376, n376⟩, -, X376, ⟨Lc376, hQ376, l376, y376, z376⟩, st376⟩ := X371.virtualBack hx (y := (⟨"com/example/nested_keyspace/nestedkeyspace/ScanOptions", "readsInReverse", "()Z"⟩ : MethodName)) (z := (⟨"com/example/nested_keyspace/nestedkeyspace/ScanOptions", "readsInReverse", "()Z"⟩ : MethodName)) hown (mvT hZ (hwd 35 rfl)) (mvT hZ (hwd 36 rfl)) (notFace_of_selects (args := #[]) (mvT hZ (hwd 38 rfl))) (mvT hZ (hwd 38 rfl)) (mvT hZ (hwd 37 rfl)) (by decide) (backOf (W := 0) (rm6 l Z A0 hw [] b358 (1 : Int32) T357.heap n0 Z357 F365) hZ (hwd 39 rfl) (hwd 8 rfl) (by decide) (by decide)) qq376a qq376c (g := (mkF m 234 #[.val (.int p0), .val (.int p1), .val (.int p2), .val (.long q3), .second, .val (.int z8), .val (.int (0 : Int32)), .val (.int (1 : Int32)), .val (.int (0 : Int32)), .val (.int z46), .val (.ref b49), .val (.ref b58), .val (.long v66), .second, .val (.ref b341), .val (.ref b358), .val (.ref b49), .val .null, .val (.long y374), .second] [(.ref b358)])) rfl (by rw [hml]; rfl) (Steps.refl _) (argsL := []) (rest := []) (lenOf pd_35 rfl) rfl (by show 2 * 0 + _ ≤ _; exact Nat.le_of_eq rfl) (hb hby at_234) (fun _ _ => ⟨rfl, e372, (by decide : 8 + 0 ≤ _), (by decide : 34 + 0 ≤ _)⟩)
                        dsimp only [Pt.U, Pt.locs, Pt.cells, Pt.slots] at X376 l376 y376 z376 st376 hQ376
                        subst l376 y376 z376
                        obtain ⟨rfl, Nq376, eq376⟩ := hQ376
                        have N376 := Fr.app N373 Nq376
                        refine own_by (fun _ k => st376.trans k) ?_
                        show own_Go p e below _ (T376.setTop (mkF m 237 #[.val (.int p0), .val (.int p1), .val (.int p2), .val (.long q3), .second, .val (.int z8), .val (.int (0 : Int32)), .val (.int (1 : Int32)), .val (.int (0 : Int32)), .val (.int z46), .val (.ref b49), .val (.ref b58), .val (.long v66), .second, .val (.ref b341), .val (.ref b358), .val (.ref b49), .val .null, .val (.long y374), .second] [(.int (1 : Int32))]))
                        refine own_by (fun _ k => XS.ifNo X376.here hx rfl (hb hby at_237) rfl ((if0 _ _).trans (feq (by decide : ¬ ((1 : Int32) = (0 : Int32)))).1) k) ?_
                        show own_Go p e below _ (T376.setTop (mkF m 240 #[.val (.int p0), .val (.int p1), .val (.int p2), .val (.long q3), .second, .val (.int z8), .val (.int (0 : Int32)), .val (.int (1 : Int32)), .val (.int (0 : Int32)), .val (.int z46), .val (.ref b49), .val (.ref b58), .val (.long v66), .second, .val (.ref b341), .val (.ref b358), .val (.ref b49), .val .null, .val (.long y374), .second] []))
                        refine own_by (fun _ k => XS.aload X376.here hx rfl (hb hby at_240) rfl rfl k) ?_
                        show own_Go p e below _ (T376.setTop (mkF m 242 #[.val (.int p0), .val (.int p1), .val (.int p2), .val (.long q3), .second, .val (.int z8), .val (.int (0 : Int32)), .val (.int (1 : Int32)), .val (.int (0 : Int32)), .val (.int z46), .val (.ref b49), .val (.ref b58), .val (.long v66), .second, .val (.ref b341), .val (.ref b358), .val (.ref b49), .val .null, .val (.long y374), .second] [(.ref b358)]))
                        obtain ⟨cq377, kq377, qq377a, qq377b, qq377c⟩ := isOf hZ eq376 F361
                        obtain ⟨_, _, ⟨T377, L377, k377, n377⟩, -, X377, ⟨Lc377, hQ377, l377, y377, z377⟩, st377⟩ := X376.virtualBack hx (y := (⟨"com/example/nested_keyspace/nestedkeyspace/ScanOptions", "fromKey", "()[B"⟩ : MethodName)) (z := (⟨"com/example/nested_keyspace/nestedkeyspace/ScanOptions", "fromKey", "()[B"⟩ : MethodName)) hown (mvT hZ (hwd 40 rfl)) (mvT hZ (hwd 41 rfl)) (notFace_of_selects (args := #[]) (mvT hZ (hwd 43 rfl))) (mvT hZ (hwd 43 rfl)) (mvT hZ (hwd 42 rfl)) (by decide) (backOf (W := 0) (rmfromKeyR l Z A0 hw [] b342 b358 T357.heap n0 Z357 F362) hZ (hwd 44 rfl) (hwd 8 rfl) (by decide) (by decide)) qq377a qq377c (g := (mkF m 242 #[.val (.int p0), .val (.int p1), .val (.int p2), .val (.long q3), .second, .val (.int z8), .val (.int (0 : Int32)), .val (.int (1 : Int32)), .val (.int (0 : Int32)), .val (.int z46), .val (.ref b49), .val (.ref b58), .val (.long v66), .second, .val (.ref b341), .val (.ref b358), .val (.ref b49), .val .null, .val (.long y374), .second] [(.ref b358)])) rfl (by rw [hml]; rfl) (Steps.refl _) (argsL := []) (rest := []) (lenOf pd_40 rfl) rfl (by show 2 * 0 + _ ≤ _; exact Nat.le_of_eq rfl) (hb hby at_242) (fun _ _ => ⟨rfl, eq376, (by decide : 8 + 0 ≤ _), (by decide : 34 + 0 ≤ _)⟩)
                        dsimp only [Pt.U, Pt.locs, Pt.cells, Pt.slots] at X377 l377 y377 z377 st377 hQ377
                        subst l377 y377 z377
                        obtain ⟨rfl, Nq377, eq377⟩ := hQ377
                        have N377 := Fr.app N376 Nq377
                        refine own_by (fun _ k => st377.trans k) ?_
                        show own_Go p e below _ (T377.setTop (mkF m 245 #[.val (.int p0), .val (.int p1), .val (.int p2), .val (.long q3), .second, .val (.int z8), .val (.int (0 : Int32)), .val (.int (1 : Int32)), .val (.int (0 : Int32)), .val (.int z46), .val (.ref b49), .val (.ref b58), .val (.long v66), .second, .val (.ref b341), .val (.ref b358), .val (.ref b49), .val .null, .val (.long y374), .second] [(.ref b342)]))
                        refine own_by (fun _ k => XS.aload X377.here hx rfl (hb hby at_245) rfl rfl k) ?_
                        show own_Go p e below _ (T377.setTop (mkF m 247 #[.val (.int p0), .val (.int p1), .val (.int p2), .val (.long q3), .second, .val (.int z8), .val (.int (0 : Int32)), .val (.int (1 : Int32)), .val (.int (0 : Int32)), .val (.int z46), .val (.ref b49), .val (.ref b58), .val (.long v66), .second, .val (.ref b341), .val (.ref b358), .val (.ref b49), .val .null, .val (.long y374), .second] [(.ref b49), (.ref b342)]))
                        have F378 : own_Arf Z T357.heap b342 b343 .byte (((p0.toUInt32 >>> ((5 : Int32) &&& 31).toUInt32).toInt32) &&& (3 : Int32)) (fun i => .int (b51 i)) := (F354.keep Kq357 nin0)
                        have F379 : own_Arf Z T357.heap b49 b50 .byte (((p0.toUInt32 >>> ((5 : Int32) &&& 31).toUInt32).toInt32) &&& (3 : Int32)) (fun i => .int (b51 i)) := ((F150.keep Kq340 nin0).keep Kq357 nin0)
                        obtain ⟨_, _, ⟨T380, L380, k380, n380⟩, -, X380, ⟨Lc380, hQ380, l380, y380, z380⟩, st380⟩ := Jvm.LawKit.callS X377 hx (y := (⟨"com/example/nested_keyspace/nestedkeyspace/ScanOptionsReversePinLaw", "sameBytes", "([B[B)Z"⟩ : MethodName)) hown (mvT hZ (hwd 47 rfl)) (mvT hZ (hwd 48 rfl)) (mvT hZ (hwd 2 rfl)) (mvT hZ (hwd 49 rfl)) (by decide) (backOf (W := 0) (rmsbRR l Z A0 hw [] b342 b49 b343 (((p0.toUInt32 >>> ((5 : Int32) &&& 31).toUInt32).toInt32) &&& (3 : Int32)) b51 b50 (((p0.toUInt32 >>> ((5 : Int32) &&& 31).toUInt32).toInt32) &&& (3 : Int32)) b51 T357.heap n0 Z357 F378 F379) hZ (hwd 49 rfl) (hwd 2 rfl) (by decide) (by decide)) (g := (mkF m 247 #[.val (.int p0), .val (.int p1), .val (.int p2), .val (.long q3), .second, .val (.int z8), .val (.int (0 : Int32)), .val (.int (1 : Int32)), .val (.int (0 : Int32)), .val (.int z46), .val (.ref b49), .val (.ref b58), .val (.long v66), .second, .val (.ref b341), .val (.ref b358), .val (.ref b49), .val .null, .val (.long y374), .second] [(.ref b49), (.ref b342)])) rfl (by rw [hml]; rfl) (argsL := [(.ref b342), (.ref b49)]) (rest := []) (lenOf pd_47 rfl) rfl (by show 2 * 0 + _ ≤ _; exact Nat.le_of_eq rfl) (hb hby at_247) (fun _ _ => ⟨rfl, eq377, (by decide : 8 + 0 ≤ _), (by decide : 34 + 0 ≤ _)⟩)
                        dsimp only [Pt.U, Pt.locs, Pt.cells, Pt.slots] at X380 l380 y380 z380 st380 hQ380
                        subst l380 y380 z380
                        obtain ⟨o381, rfl, Nq380, eq380, hp382⟩ := hQ380
                        have N380 := Fr.app N377 Nq380
                        refine own_by st380 ?_
                        show own_Go p e below _ (T380.setTop (mkF m 250 #[.val (.int p0), .val (.int p1), .val (.int p2), .val (.long q3), .second, .val (.int z8), .val (.int (0 : Int32)), .val (.int (1 : Int32)), .val (.int (0 : Int32)), .val (.int z46), .val (.ref b49), .val (.ref b58), .val (.long v66), .second, .val (.ref b341), .val (.ref b358), .val (.ref b49), .val .null, .val (.long y374), .second] [(.int o381)]))
                        by_cases c383 : o381 = (0 : Int32)
                        · skip
                          refine own_by (fun _ k => XS.ifYes X380.here hx rfl (pc0 := 250) (pc' := 301) rfl (hb hby at_250) rfl ((if0 _ _).trans (teq c383).1) (by decide) (by decide) k) ?_
                          show own_Go p e below _ (T380.setTop (mkF m 301 #[.val (.int p0), .val (.int p1), .val (.int p2), .val (.long q3), .second, .val (.int z8), .val (.int (0 : Int32)), .val (.int (1 : Int32)), .val (.int (0 : Int32)), .val (.int z46), .val (.ref b49), .val (.ref b58), .val (.long v66), .second, .val (.ref b341), .val (.ref b358), .val (.ref b49), .val .null, .val (.long y374), .second] []))
                          refine own_by (fun _ k => XS.iconst X380.here hx rfl (hb hby at_301) k) ?_
                          show own_Go p e below _ (T380.setTop (mkF m 302 #[.val (.int p0), .val (.int p1), .val (.int p2), .val (.long q3), .second, .val (.int z8), .val (.int (0 : Int32)), .val (.int (1 : Int32)), .val (.int (0 : Int32)), .val (.int z46), .val (.ref b49), .val (.ref b58), .val (.long v66), .second, .val (.ref b341), .val (.ref b358), .val (.ref b49), .val .null, .val (.long y374), .second] [(.int (0 : Int32))]))
                          exact own_retN X380 hx (t := .boolean) Bd.returns (by simp) (hb hby at_302) hlk eq380 ⟨((ob_0_53 p0 p1 p2 q3 z8 z46 b51 b60 v66 y94 z146 y374 o381 hj9 hj18 hj28 hj38 hj47 hp56 hp65 hv66 hj126 hj178 hj375 hp382 c383)).elim, N380⟩ (by decide) (by decide)
                        · skip
                          refine own_by (fun _ k => XS.ifNo X380.here hx rfl (hb hby at_250) rfl ((if0 _ _).trans (feq c383).1) k) ?_
                          show own_Go p e below _ (T380.setTop (mkF m 253 #[.val (.int p0), .val (.int p1), .val (.int p2), .val (.long q3), .second, .val (.int z8), .val (.int (0 : Int32)), .val (.int (1 : Int32)), .val (.int (0 : Int32)), .val (.int z46), .val (.ref b49), .val (.ref b58), .val (.long v66), .second, .val (.ref b341), .val (.ref b358), .val (.ref b49), .val .null, .val (.long y374), .second] []))
                          refine own_by (fun _ k => XS.aload X380.here hx rfl (hb hby at_253) rfl rfl k) ?_
                          show own_Go p e below _ (T380.setTop (mkF m 255 #[.val (.int p0), .val (.int p1), .val (.int p2), .val (.long q3), .second, .val (.int z8), .val (.int (0 : Int32)), .val (.int (1 : Int32)), .val (.int (0 : Int32)), .val (.int z46), .val (.ref b49), .val (.ref b58), .val (.long v66), .second, .val (.ref b341), .val (.ref b358), .val (.ref b49), .val .null, .val (.long y374), .second] [(.ref b358)]))
                          obtain ⟨cq384, kq384, qq384a, qq384b, qq384c⟩ := isOf hZ eq380 F361
                          obtain ⟨_, _, ⟨T384, L384, k384, n384⟩, -, X384, ⟨Lc384, hQ384, l384, y384, z384⟩, st384⟩ := X380.virtualBack hx (y := (⟨"com/example/nested_keyspace/nestedkeyspace/ScanOptions", "toKey", "()[B"⟩ : MethodName)) (z := (⟨"com/example/nested_keyspace/nestedkeyspace/ScanOptions", "toKey", "()[B"⟩ : MethodName)) hown (mvT hZ (hwd 50 rfl)) (mvT hZ (hwd 51 rfl)) (notFace_of_selects (args := #[]) (mvT hZ (hwd 53 rfl))) (mvT hZ (hwd 53 rfl)) (mvT hZ (hwd 52 rfl)) (by decide) (backOf (W := 0) (rmtoKeyN l Z A0 hw [] b358 T357.heap n0 Z357 F363) hZ (hwd 54 rfl) (hwd 8 rfl) (by decide) (by decide)) qq384a qq384c (g := (mkF m 255 #[.val (.int p0), .val (.int p1), .val (.int p2), .val (.long q3), .second, .val (.int z8), .val (.int (0 : Int32)), .val (.int (1 : Int32)), .val (.int (0 : Int32)), .val (.int z46), .val (.ref b49), .val (.ref b58), .val (.long v66), .second, .val (.ref b341), .val (.ref b358), .val (.ref b49), .val .null, .val (.long y374), .second] [(.ref b358)])) rfl (by rw [hml]; rfl) (Steps.refl _) (argsL := []) (rest := []) (lenOf pd_40 rfl) rfl (by show 2 * 0 + _ ≤ _; exact Nat.le_of_eq rfl) (hb hby at_255) (fun _ _ => ⟨rfl, eq380, (by decide : 8 + 0 ≤ _), (by decide : 34 + 0 ≤ _)⟩)
                          dsimp only [Pt.U, Pt.locs, Pt.cells, Pt.slots] at X384 l384 y384 z384 st384 hQ384
                          subst l384 y384 z384
                          obtain ⟨rfl, Nq384, eq384⟩ := hQ384
                          have N384 := Fr.app N380 Nq384
                          refine own_by (fun _ k => st384.trans k) ?_
                          show own_Go p e below _ (T384.setTop (mkF m 258 #[.val (.int p0), .val (.int p1), .val (.int p2), .val (.long q3), .second, .val (.int z8), .val (.int (0 : Int32)), .val (.int (1 : Int32)), .val (.int (0 : Int32)), .val (.int z46), .val (.ref b49), .val (.ref b58), .val (.long v66), .second, .val (.ref b341), .val (.ref b358), .val (.ref b49), .val .null, .val (.long y374), .second] [.null]))
                          refine own_by (fun _ k => XS.aload X384.here hx rfl (hb hby at_258) rfl rfl k) ?_
                          show own_Go p e below _ (T384.setTop (mkF m 260 #[.val (.int p0), .val (.int p1), .val (.int p2), .val (.long q3), .second, .val (.int z8), .val (.int (0 : Int32)), .val (.int (1 : Int32)), .val (.int (0 : Int32)), .val (.int z46), .val (.ref b49), .val (.ref b58), .val (.long v66), .second, .val (.ref b341), .val (.ref b358), .val (.ref b49), .val .null, .val (.long y374), .second] [.null, .null]))
                          obtain ⟨_, _, ⟨T385, L385, k385, n385⟩, -, X385, ⟨Lc385, hQ385, l385, y385, z385⟩, st385⟩ := Jvm.LawKit.callS X384 hx (y := (⟨"com/example/nested_keyspace/nestedkeyspace/ScanOptionsReversePinLaw", "sameBytes", "([B[B)Z"⟩ : MethodName)) hown (mvT hZ (hwd 47 rfl)) (mvT hZ (hwd 48 rfl)) (mvT hZ (hwd 2 rfl)) (mvT hZ (hwd 49 rfl)) (by decide) (backOf (W := 0) (rmsbNN l Z A0 hw []  T357.heap n0 Z357 ) hZ (hwd 49 rfl) (hwd 2 rfl) (by decide) (by decide)) (g := (mkF m 260 #[.val (.int p0), .val (.int p1), .val (.int p2), .val (.long q3), .second, .val (.int z8), .val (.int (0 : Int32)), .val (.int (1 : Int32)), .val (.int (0 : Int32)), .val (.int z46), .val (.ref b49), .val (.ref b58), .val (.long v66), .second, .val (.ref b341), .val (.ref b358), .val (.ref b49), .val .null, .val (.long y374), .second] [.null, .null])) rfl (by rw [hml]; rfl) (argsL := [.null, .null]) (rest := []) (lenOf pd_47 rfl) rfl (by show 2 * 0 + _ ≤ _; exact Nat.le_of_eq rfl) (hb hby at_260) (fun _ _ => ⟨rfl, eq384, (by decide : 8 + 0 ≤ _), (by decide : 34 + 0 ≤ _)⟩)
                          dsimp only [Pt.U, Pt.locs, Pt.cells, Pt.slots] at X385 l385 y385 z385 st385 hQ385
                          subst l385 y385 z385
                          obtain ⟨rfl, Nq385, eq385⟩ := hQ385
                          have N385 := Fr.app N384 Nq385
                          refine own_by st385 ?_
                          show own_Go p e below _ (T385.setTop (mkF m 263 #[.val (.int p0), .val (.int p1), .val (.int p2), .val (.long q3), .second, .val (.int z8), .val (.int (0 : Int32)), .val (.int (1 : Int32)), .val (.int (0 : Int32)), .val (.int z46), .val (.ref b49), .val (.ref b58), .val (.long v66), .second, .val (.ref b341), .val (.ref b358), .val (.ref b49), .val .null, .val (.long y374), .second] [(.int (1 : Int32))]))
                          refine own_by (fun _ k => XS.ifNo X385.here hx rfl (hb hby at_263) rfl ((if0 _ _).trans (feq (by decide : ¬ ((1 : Int32) = (0 : Int32)))).1) k) ?_
                          show own_Go p e below _ (T385.setTop (mkF m 266 #[.val (.int p0), .val (.int p1), .val (.int p2), .val (.long q3), .second, .val (.int z8), .val (.int (0 : Int32)), .val (.int (1 : Int32)), .val (.int (0 : Int32)), .val (.int z46), .val (.ref b49), .val (.ref b58), .val (.long v66), .second, .val (.ref b341), .val (.ref b358), .val (.ref b49), .val .null, .val (.long y374), .second] []))
                          refine own_by (fun _ k => XS.aload X385.here hx rfl (hb hby at_266) rfl rfl k) ?_
                          show own_Go p e below _ (T385.setTop (mkF m 268 #[.val (.int p0), .val (.int p1), .val (.int p2), .val (.long q3), .second, .val (.int z8), .val (.int (0 : Int32)), .val (.int (1 : Int32)), .val (.int (0 : Int32)), .val (.int z46), .val (.ref b49), .val (.ref b58), .val (.long v66), .second, .val (.ref b341), .val (.ref b358), .val (.ref b49), .val .null, .val (.long y374), .second] [(.ref b358)]))
                          obtain ⟨cq386, kq386, qq386a, qq386b, qq386c⟩ := isOf hZ eq385 F361
                          obtain ⟨_, _, ⟨T386, L386, k386, n386⟩, -, X386, ⟨Lc386, hQ386, l386, y386, z386⟩, st386⟩ := X385.virtualBack hx (y := (⟨"com/example/nested_keyspace/nestedkeyspace/ScanOptions", "readsSubtree", "()Z"⟩ : MethodName)) (z := (⟨"com/example/nested_keyspace/nestedkeyspace/ScanOptions", "readsSubtree", "()Z"⟩ : MethodName)) hown (mvT hZ (hwd 55 rfl)) (mvT hZ (hwd 56 rfl)) (notFace_of_selects (args := #[]) (mvT hZ (hwd 58 rfl))) (mvT hZ (hwd 58 rfl)) (mvT hZ (hwd 57 rfl)) (by decide) (backOf (W := 0) (rm10 l Z A0 hw [] b358 (0 : Int32) T357.heap n0 Z357 F364) hZ (hwd 59 rfl) (hwd 8 rfl) (by decide) (by decide)) qq386a qq386c (g := (mkF m 268 #[.val (.int p0), .val (.int p1), .val (.int p2), .val (.long q3), .second, .val (.int z8), .val (.int (0 : Int32)), .val (.int (1 : Int32)), .val (.int (0 : Int32)), .val (.int z46), .val (.ref b49), .val (.ref b58), .val (.long v66), .second, .val (.ref b341), .val (.ref b358), .val (.ref b49), .val .null, .val (.long y374), .second] [(.ref b358)])) rfl (by rw [hml]; rfl) (Steps.refl _) (argsL := []) (rest := []) (lenOf pd_35 rfl) rfl (by show 2 * 0 + _ ≤ _; exact Nat.le_of_eq rfl) (hb hby at_268) (fun _ _ => ⟨rfl, eq385, (by decide : 8 + 0 ≤ _), (by decide : 34 + 0 ≤ _)⟩)
                          dsimp only [Pt.U, Pt.locs, Pt.cells, Pt.slots] at X386 l386 y386 z386 st386 hQ386
                          subst l386 y386 z386
                          obtain ⟨rfl, Nq386, eq386⟩ := hQ386
                          have N386 := Fr.app N385 Nq386
                          refine own_by (fun _ k => st386.trans k) ?_
                          show own_Go p e below _ (T386.setTop (mkF m 271 #[.val (.int p0), .val (.int p1), .val (.int p2), .val (.long q3), .second, .val (.int z8), .val (.int (0 : Int32)), .val (.int (1 : Int32)), .val (.int (0 : Int32)), .val (.int z46), .val (.ref b49), .val (.ref b58), .val (.long v66), .second, .val (.ref b341), .val (.ref b358), .val (.ref b49), .val .null, .val (.long y374), .second] [(.int (0 : Int32))]))
                          refine own_by (fun _ k => XS.iload X386.here hx rfl (hb hby at_271) rfl k) ?_
                          show own_Go p e below _ (T386.setTop (mkF m 273 #[.val (.int p0), .val (.int p1), .val (.int p2), .val (.long q3), .second, .val (.int z8), .val (.int (0 : Int32)), .val (.int (1 : Int32)), .val (.int (0 : Int32)), .val (.int z46), .val (.ref b49), .val (.ref b58), .val (.long v66), .second, .val (.ref b341), .val (.ref b358), .val (.ref b49), .val .null, .val (.long y374), .second] [(.int (0 : Int32)), (.int (0 : Int32))]))
                          refine own_by (fun _ k => XS.icmpNo X386.here hx rfl (hb hby at_273) rfl (teq (by decide : (0 : Int32) = (0 : Int32))).2 k) ?_
                          show own_Go p e below _ (T386.setTop (mkF m 276 #[.val (.int p0), .val (.int p1), .val (.int p2), .val (.long q3), .second, .val (.int z8), .val (.int (0 : Int32)), .val (.int (1 : Int32)), .val (.int (0 : Int32)), .val (.int z46), .val (.ref b49), .val (.ref b58), .val (.long v66), .second, .val (.ref b341), .val (.ref b358), .val (.ref b49), .val .null, .val (.long y374), .second] []))
                          refine own_by (fun _ k => XS.aload X386.here hx rfl (hb hby at_276) rfl rfl k) ?_
                          show own_Go p e below _ (T386.setTop (mkF m 278 #[.val (.int p0), .val (.int p1), .val (.int p2), .val (.long q3), .second, .val (.int z8), .val (.int (0 : Int32)), .val (.int (1 : Int32)), .val (.int (0 : Int32)), .val (.int z46), .val (.ref b49), .val (.ref b58), .val (.long v66), .second, .val (.ref b341), .val (.ref b358), .val (.ref b49), .val .null, .val (.long y374), .second] [(.ref b358)]))
                          obtain ⟨cq387, kq387, qq387a, qq387b, qq387c⟩ := isOf hZ eq386 F361
                          obtain ⟨_, _, ⟨T387, L387, k387, n387⟩, -, X387, ⟨Lc387, hQ387, l387, y387, z387⟩, st387⟩ := X386.virtualBack hx (y := (⟨"com/example/nested_keyspace/nestedkeyspace/ScanOptions", "maxEntries", "()J"⟩ : MethodName)) (z := (⟨"com/example/nested_keyspace/nestedkeyspace/ScanOptions", "maxEntries", "()J"⟩ : MethodName)) hown (mvT hZ (hwd 60 rfl)) (mvT hZ (hwd 61 rfl)) (notFace_of_selects (args := #[]) (mvT hZ (hwd 63 rfl))) (mvT hZ (hwd 63 rfl)) (mvT hZ (hwd 62 rfl)) (by decide) (backOf (W := 0) (rm11 l Z A0 hw [] b358 y94 T357.heap n0 Z357 F366) hZ (hwd 64 rfl) (hwd 8 rfl) (by decide) (by decide)) qq387a qq387c (g := (mkF m 278 #[.val (.int p0), .val (.int p1), .val (.int p2), .val (.long q3), .second, .val (.int z8), .val (.int (0 : Int32)), .val (.int (1 : Int32)), .val (.int (0 : Int32)), .val (.int z46), .val (.ref b49), .val (.ref b58), .val (.long v66), .second, .val (.ref b341), .val (.ref b358), .val (.ref b49), .val .null, .val (.long y374), .second] [(.ref b358)])) rfl (by rw [hml]; rfl) (Steps.refl _) (argsL := []) (rest := []) (lenOf pd_60 rfl) rfl (by show 2 * 0 + _ ≤ _; exact Nat.le_of_eq rfl) (hb hby at_278) (fun _ _ => ⟨rfl, eq386, (by decide : 8 + 0 ≤ _), (by decide : 34 + 0 ≤ _)⟩)
                          dsimp only [Pt.U, Pt.locs, Pt.cells, Pt.slots] at X387 l387 y387 z387 st387 hQ387
                          subst l387 y387 z387
                          obtain ⟨rfl, Nq387, eq387⟩ := hQ387
                          have N387 := Fr.app N386 Nq387
                          refine own_by (fun _ k => st387.trans k) ?_
                          show own_Go p e below _ (T387.setTop (mkF m 281 #[.val (.int p0), .val (.int p1), .val (.int p2), .val (.long q3), .second, .val (.int z8), .val (.int (0 : Int32)), .val (.int (1 : Int32)), .val (.int (0 : Int32)), .val (.int z46), .val (.ref b49), .val (.ref b58), .val (.long v66), .second, .val (.ref b341), .val (.ref b358), .val (.ref b49), .val .null, .val (.long y374), .second] [(.long y94)]))
                          refine own_by (fun _ k => XS.lload X387.here hx rfl (hb hby at_281) rfl k) ?_
                          show own_Go p e below _ (T387.setTop (mkF m 283 #[.val (.int p0), .val (.int p1), .val (.int p2), .val (.long q3), .second, .val (.int z8), .val (.int (0 : Int32)), .val (.int (1 : Int32)), .val (.int (0 : Int32)), .val (.int z46), .val (.ref b49), .val (.ref b58), .val (.long v66), .second, .val (.ref b341), .val (.ref b358), .val (.ref b49), .val .null, .val (.long y374), .second] [(.long y374), (.long y94)]))
                          refine own_by (fun _ k => XS.lcmp X387.here hx rfl (hb hby at_283) rfl k) ?_
                          show own_Go p e below _ (T387.setTop (mkF m 284 #[.val (.int p0), .val (.int p1), .val (.int p2), .val (.long q3), .second, .val (.int z8), .val (.int (0 : Int32)), .val (.int (1 : Int32)), .val (.int (0 : Int32)), .val (.int z46), .val (.ref b49), .val (.ref b58), .val (.long v66), .second, .val (.ref b341), .val (.ref b358), .val (.ref b49), .val .null, .val (.long y374), .second] [(.int (lcmpW y94 y374))]))
                          by_cases c388 : y94 = y374
                          · skip
                            refine own_by (fun _ k => XS.ifNo X387.here hx rfl (hb hby at_284) rfl ((if0 _ _).trans (teq ((lw_eq _ _).mpr c388)).2) k) ?_
                            show own_Go p e below _ (T387.setTop (mkF m 287 #[.val (.int p0), .val (.int p1), .val (.int p2), .val (.long q3), .second, .val (.int z8), .val (.int (0 : Int32)), .val (.int (1 : Int32)), .val (.int (0 : Int32)), .val (.int z46), .val (.ref b49), .val (.ref b58), .val (.long v66), .second, .val (.ref b341), .val (.ref b358), .val (.ref b49), .val .null, .val (.long y374), .second] []))
                            refine own_by (fun _ k => XS.aload X387.here hx rfl (hb hby at_287) rfl rfl k) ?_
                            show own_Go p e below _ (T387.setTop (mkF m 289 #[.val (.int p0), .val (.int p1), .val (.int p2), .val (.long q3), .second, .val (.int z8), .val (.int (0 : Int32)), .val (.int (1 : Int32)), .val (.int (0 : Int32)), .val (.int z46), .val (.ref b49), .val (.ref b58), .val (.long v66), .second, .val (.ref b341), .val (.ref b358), .val (.ref b49), .val .null, .val (.long y374), .second] [(.ref b341)]))
                            have F389 : Fld Z T357.heap b341 "com/example/nested_keyspace/nestedkeyspace/ScanOptions" "reverse" "Z" (.int (nar .boolean z146)) := (F350.keep Kq357 nin0)
                            have F391 : Exa Z T357.heap b341 "com/example/nested_keyspace/nestedkeyspace/ScanOptions" := (F346.keep Kq357)
                            obtain ⟨cq390, kq390, qq390a, qq390b, qq390c⟩ := isOf hZ eq387 F391
                            obtain ⟨_, _, ⟨T390, L390, k390, n390⟩, -, X390, ⟨Lc390, hQ390, l390, y390, z390⟩, st390⟩ := X387.virtualBack hx (y := (⟨"com/example/nested_keyspace/nestedkeyspace/ScanOptions", "readsInReverse", "()Z"⟩ : MethodName)) (z := (⟨"com/example/nested_keyspace/nestedkeyspace/ScanOptions", "readsInReverse", "()Z"⟩ : MethodName)) hown (mvT hZ (hwd 35 rfl)) (mvT hZ (hwd 36 rfl)) (notFace_of_selects (args := #[]) (mvT hZ (hwd 38 rfl))) (mvT hZ (hwd 38 rfl)) (mvT hZ (hwd 37 rfl)) (by decide) (backOf (W := 0) (rm6 l Z A0 hw [] b341 (nar .boolean z146) T357.heap n0 Z357 F389) hZ (hwd 39 rfl) (hwd 8 rfl) (by decide) (by decide)) qq390a qq390c (g := (mkF m 289 #[.val (.int p0), .val (.int p1), .val (.int p2), .val (.long q3), .second, .val (.int z8), .val (.int (0 : Int32)), .val (.int (1 : Int32)), .val (.int (0 : Int32)), .val (.int z46), .val (.ref b49), .val (.ref b58), .val (.long v66), .second, .val (.ref b341), .val (.ref b358), .val (.ref b49), .val .null, .val (.long y374), .second] [(.ref b341)])) rfl (by rw [hml]; rfl) (Steps.refl _) (argsL := []) (rest := []) (lenOf pd_35 rfl) rfl (by show 2 * 0 + _ ≤ _; exact Nat.le_of_eq rfl) (hb hby at_289) (fun _ _ => ⟨rfl, eq387, (by decide : 8 + 0 ≤ _), (by decide : 34 + 0 ≤ _)⟩)
                            dsimp only [Pt.U, Pt.locs, Pt.cells, Pt.slots] at X390 l390 y390 z390 st390 hQ390
                            subst l390 y390 z390
                            obtain ⟨rfl, Nq390, eq390⟩ := hQ390
                            have N390 := Fr.app N387 Nq390
                            refine own_by (fun _ k => st390.trans k) ?_
                            show own_Go p e below _ (T390.setTop (mkF m 292 #[.val (.int p0), .val (.int p1), .val (.int p2), .val (.long q3), .second, .val (.int z8), .val (.int (0 : Int32)), .val (.int (1 : Int32)), .val (.int (0 : Int32)), .val (.int z46), .val (.ref b49), .val (.ref b58), .val (.long v66), .second, .val (.ref b341), .val (.ref b358), .val (.ref b49), .val .null, .val (.long y374), .second] [(.int (nar .boolean (nar .boolean z146)))]))
                            refine own_by (fun _ k => XS.iload X390.here hx rfl (hb hby at_292) rfl k) ?_
                            show own_Go p e below _ (T390.setTop (mkF m 294 #[.val (.int p0), .val (.int p1), .val (.int p2), .val (.long q3), .second, .val (.int z8), .val (.int (0 : Int32)), .val (.int (1 : Int32)), .val (.int (0 : Int32)), .val (.int z46), .val (.ref b49), .val (.ref b58), .val (.long v66), .second, .val (.ref b341), .val (.ref b358), .val (.ref b49), .val .null, .val (.long y374), .second] [(.int z46), (.int (nar .boolean (nar .boolean z146)))]))
                            by_cases c392 : (nar .boolean (nar .boolean z146)) = z46
                            · skip
                              refine own_by (fun _ k => XS.icmpNo X390.here hx rfl (hb hby at_294) rfl (teq c392).2 k) ?_
                              show own_Go p e below _ (T390.setTop (mkF m 297 #[.val (.int p0), .val (.int p1), .val (.int p2), .val (.long q3), .second, .val (.int z8), .val (.int (0 : Int32)), .val (.int (1 : Int32)), .val (.int (0 : Int32)), .val (.int z46), .val (.ref b49), .val (.ref b58), .val (.long v66), .second, .val (.ref b341), .val (.ref b358), .val (.ref b49), .val .null, .val (.long y374), .second] []))
                              refine own_by (fun _ k => XS.iconst X390.here hx rfl (hb hby at_297) k) ?_
                              show own_Go p e below _ (T390.setTop (mkF m 298 #[.val (.int p0), .val (.int p1), .val (.int p2), .val (.long q3), .second, .val (.int z8), .val (.int (0 : Int32)), .val (.int (1 : Int32)), .val (.int (0 : Int32)), .val (.int z46), .val (.ref b49), .val (.ref b58), .val (.long v66), .second, .val (.ref b341), .val (.ref b358), .val (.ref b49), .val .null, .val (.long y374), .second] [(.int (1 : Int32))]))
                              refine own_by (fun _ k => XS.goto X390.here hx rfl (pc0 := 298) (pc' := 302) rfl (hb hby at_298) (by decide) (by decide) k) ?_
                              show own_Go p e below _ (T390.setTop (mkF m 302 #[.val (.int p0), .val (.int p1), .val (.int p2), .val (.long q3), .second, .val (.int z8), .val (.int (0 : Int32)), .val (.int (1 : Int32)), .val (.int (0 : Int32)), .val (.int z46), .val (.ref b49), .val (.ref b58), .val (.long v66), .second, .val (.ref b341), .val (.ref b358), .val (.ref b49), .val .null, .val (.long y374), .second] [(.int (1 : Int32))]))
                              exact own_retN X390 hx (t := .boolean) Bd.returns (by simp) (hb hby at_302) hlk eq390 ⟨rfl, N390⟩ (by decide) (by decide)
                            · skip
                              refine own_by (fun _ k => XS.icmpYes X390.here hx rfl (pc0 := 294) (pc' := 301) rfl (hb hby at_294) rfl (feq c392).2 (by decide) (by decide) k) ?_
                              show own_Go p e below _ (T390.setTop (mkF m 301 #[.val (.int p0), .val (.int p1), .val (.int p2), .val (.long q3), .second, .val (.int z8), .val (.int (0 : Int32)), .val (.int (1 : Int32)), .val (.int (0 : Int32)), .val (.int z46), .val (.ref b49), .val (.ref b58), .val (.long v66), .second, .val (.ref b341), .val (.ref b358), .val (.ref b49), .val .null, .val (.long y374), .second] []))
                              refine own_by (fun _ k => XS.iconst X390.here hx rfl (hb hby at_301) k) ?_
                              show own_Go p e below _ (T390.setTop (mkF m 302 #[.val (.int p0), .val (.int p1), .val (.int p2), .val (.long q3), .second, .val (.int z8), .val (.int (0 : Int32)), .val (.int (1 : Int32)), .val (.int (0 : Int32)), .val (.int z46), .val (.ref b49), .val (.ref b58), .val (.long v66), .second, .val (.ref b341), .val (.ref b358), .val (.ref b49), .val .null, .val (.long y374), .second] [(.int (0 : Int32))]))
                              exact own_retN X390 hx (t := .boolean) Bd.returns (by simp) (hb hby at_302) hlk eq390 ⟨((ob_0_54 p0 p1 p2 q3 z8 z46 b51 b60 v66 y94 z146 y374 o381 hj9 hj18 hj28 hj38 hj47 hp56 hp65 hv66 hj126 hj178 hj375 hp382 c383 c388 c392)).elim, N390⟩ (by decide) (by decide)
                          · skip
                            refine own_by (fun _ k => XS.ifYes X387.here hx rfl (pc0 := 284) (pc' := 301) rfl (hb hby at_284) rfl ((if0 _ _).trans (feq (fun q => c388 ((lw_eq _ _).mp q))).2) (by decide) (by decide) k) ?_
                            show own_Go p e below _ (T387.setTop (mkF m 301 #[.val (.int p0), .val (.int p1), .val (.int p2), .val (.long q3), .second, .val (.int z8), .val (.int (0 : Int32)), .val (.int (1 : Int32)), .val (.int (0 : Int32)), .val (.int z46), .val (.ref b49), .val (.ref b58), .val (.long v66), .second, .val (.ref b341), .val (.ref b358), .val (.ref b49), .val .null, .val (.long y374), .second] []))
                            refine own_by (fun _ k => XS.iconst X387.here hx rfl (hb hby at_301) k) ?_
                            show own_Go p e below _ (T387.setTop (mkF m 302 #[.val (.int p0), .val (.int p1), .val (.int p2), .val (.long q3), .second, .val (.int z8), .val (.int (0 : Int32)), .val (.int (1 : Int32)), .val (.int (0 : Int32)), .val (.int z46), .val (.ref b49), .val (.ref b58), .val (.long v66), .second, .val (.ref b341), .val (.ref b358), .val (.ref b49), .val .null, .val (.long y374), .second] [(.int (0 : Int32))]))
                            exact own_retN X387 hx (t := .boolean) Bd.returns (by simp) (hb hby at_302) hlk eq387 ⟨((ob_0_55 p0 p1 p2 q3 z8 z46 b51 b60 v66 y94 z146 y374 o381 hj9 hj18 hj28 hj38 hj47 hp56 hp65 hv66 hj126 hj178 hj375 hp382 c383 c388)).elim, N387⟩ (by decide) (by decide)
                      by_cases c367 : z8 = (0 : Int32)
                      · skip
                        refine own_by (fun _ k => XS.ifYes X357.here hx rfl (pc0 := 219) (pc' := 227) rfl (hb hby at_219) rfl ((if0 _ _).trans (teq c367).1) (by decide) (by decide) k) ?_
                        show own_Go p e below _ (T357.setTop (mkF m 227 #[.val (.int p0), .val (.int p1), .val (.int p2), .val (.long q3), .second, .val (.int z8), .val (.int (0 : Int32)), .val (.int (1 : Int32)), .val (.int (0 : Int32)), .val (.int z46), .val (.ref b49), .val (.ref b58), .val (.long v66), .second, .val (.ref b341), .val (.ref b358), .val (.ref b49), .val .null, .unset, .unset] []))
                        refine own_by (fun t k => X357.ldc2Long hx hown (mvT hZ (hwd 5 rfl)) (g := (mkF m 227 #[.val (.int p0), .val (.int p1), .val (.int p2), .val (.long q3), .second, .val (.int z8), .val (.int (0 : Int32)), .val (.int (1 : Int32)), .val (.int (0 : Int32)), .val (.int z46), .val (.ref b49), .val (.ref b58), .val (.long v66), .second, .val (.ref b341), .val (.ref b358), .val (.ref b49), .val .null, .unset, .unset] [])) rfl (hb hby at_227) _ k) ?_
                        show own_Go p e below _ (T357.setTop (mkF m 230 #[.val (.int p0), .val (.int p1), .val (.int p2), .val (.long q3), .second, .val (.int z8), .val (.int (0 : Int32)), .val (.int (1 : Int32)), .val (.int (0 : Int32)), .val (.int z46), .val (.ref b49), .val (.ref b58), .val (.long v66), .second, .val (.ref b341), .val (.ref b358), .val (.ref b49), .val .null, .unset, .unset] [(.long (9223372036854775807 : Int64))]))
                        exact J368 _ _ (9223372036854775807 : Int64) X357 rfl N357 (Or.inl ⟨c367, rfl⟩)
                      · skip
                        refine own_by (fun _ k => XS.ifNo X357.here hx rfl (hb hby at_219) rfl ((if0 _ _).trans (feq c367).1) k) ?_
                        show own_Go p e below _ (T357.setTop (mkF m 222 #[.val (.int p0), .val (.int p1), .val (.int p2), .val (.long q3), .second, .val (.int z8), .val (.int (0 : Int32)), .val (.int (1 : Int32)), .val (.int (0 : Int32)), .val (.int z46), .val (.ref b49), .val (.ref b58), .val (.long v66), .second, .val (.ref b341), .val (.ref b358), .val (.ref b49), .val .null, .unset, .unset] []))
                        refine own_by (fun _ k => XS.lload X357.here hx rfl (hb hby at_222) rfl k) ?_
                        show own_Go p e below _ (T357.setTop (mkF m 224 #[.val (.int p0), .val (.int p1), .val (.int p2), .val (.long q3), .second, .val (.int z8), .val (.int (0 : Int32)), .val (.int (1 : Int32)), .val (.int (0 : Int32)), .val (.int z46), .val (.ref b49), .val (.ref b58), .val (.long v66), .second, .val (.ref b341), .val (.ref b358), .val (.ref b49), .val .null, .unset, .unset] [(.long v66)]))
                        refine own_by (fun _ k => XS.goto X357.here hx rfl (pc0 := 224) (pc' := 230) rfl (hb hby at_224) (by decide) (by decide) k) ?_
                        show own_Go p e below _ (T357.setTop (mkF m 230 #[.val (.int p0), .val (.int p1), .val (.int p2), .val (.long q3), .second, .val (.int z8), .val (.int (0 : Int32)), .val (.int (1 : Int32)), .val (.int (0 : Int32)), .val (.int z46), .val (.ref b49), .val (.ref b58), .val (.long v66), .second, .val (.ref b341), .val (.ref b358), .val (.ref b49), .val .null, .unset, .unset] [(.long v66)]))
                        exact J368 _ _ v66 X357 rfl N357 (Or.inr (⟨c367, rfl⟩))
                  · skip
                    show own_Go p e below _ (T340.setTop (mkF m 156 #[.val (.int p0), .val (.int p1), .val (.int p2), .val (.long q3), .second, .val (.int z8), .val (.int z17), .val (.int (1 : Int32)), .val (.int (1 : Int32)), .val (.int z46), .val (.ref b49), .val (.ref b58), .val (.long v66), .second, .val (.ref b341), .unset, .unset, .unset, .unset, .unset] []))
                    refine own_by (fun _ k => XS.iload X340.here hx rfl (hb hby at_156) rfl k) ?_
                    show own_Go p e below _ (T340.setTop (mkF m 158 #[.val (.int p0), .val (.int p1), .val (.int p2), .val (.long q3), .second, .val (.int z8), .val (.int z17), .val (.int (1 : Int32)), .val (.int (1 : Int32)), .val (.int z46), .val (.ref b49), .val (.ref b58), .val (.long v66), .second, .val (.ref b341), .unset, .unset, .unset, .unset, .unset] [(.int (1 : Int32))]))
                    refine own_by (fun _ k => XS.ifNo X340.here hx rfl (hb hby at_158) rfl ((if0 _ _).trans (feq (by decide : ¬ ((1 : Int32) = (0 : Int32)))).1) k) ?_
                    show own_Go p e below _ (T340.setTop (mkF m 161 #[.val (.int p0), .val (.int p1), .val (.int p2), .val (.long q3), .second, .val (.int z8), .val (.int z17), .val (.int (1 : Int32)), .val (.int (1 : Int32)), .val (.int z46), .val (.ref b49), .val (.ref b58), .val (.long v66), .second, .val (.ref b341), .unset, .unset, .unset, .unset, .unset] []))
                    refine own_by (fun _ k => XS.aload X340.here hx rfl (hb hby at_161) rfl rfl k) ?_
                    show own_Go p e below _ (T340.setTop (mkF m 163 #[.val (.int p0), .val (.int p1), .val (.int p2), .val (.long q3), .second, .val (.int z8), .val (.int z17), .val (.int (1 : Int32)), .val (.int (1 : Int32)), .val (.int z46), .val (.ref b49), .val (.ref b58), .val (.long v66), .second, .val (.ref b341), .unset, .unset, .unset, .unset, .unset] [(.ref b341)]))
                    refine own_by (fun _ k => XS.aload X340.here hx rfl (hb hby at_163) rfl rfl k) ?_
                    show own_Go p e below _ (T340.setTop (mkF m 165 #[.val (.int p0), .val (.int p1), .val (.int p2), .val (.long q3), .second, .val (.int z8), .val (.int z17), .val (.int (1 : Int32)), .val (.int (1 : Int32)), .val (.int z46), .val (.ref b49), .val (.ref b58), .val (.long v66), .second, .val (.ref b341), .unset, .unset, .unset, .unset, .unset] [(.ref b58), (.ref b341)]))
                    have F393 : own_Arf Z T340.heap b58 b59 .byte (((p0.toUInt32 >>> ((7 : Int32) &&& 31).toUInt32).toInt32) &&& (3 : Int32)) (fun i => .int (b60 i)) := (F152.keep Kq340 nin0)
                    have F394 : Exa Z T340.heap b58 "[B" := (F151.keep Kq340)
                    obtain ⟨cq395, kq395, qq395a, qq395b, qq395c⟩ := isOf hZ rfl F346
                    obtain ⟨_, _, ⟨T395, L395, k395, n395⟩, -, X395, ⟨Lc395, hQ395, l395, y395, z395⟩, st395⟩ := X340.virtualBack hx (y := (⟨"com/example/nested_keyspace/nestedkeyspace/ScanOptions", "to", "([B)Lcom/example/nested_keyspace/nestedkeyspace/ScanOptions;"⟩ : MethodName)) (z := (⟨"com/example/nested_keyspace/nestedkeyspace/ScanOptions", "to", "([B)Lcom/example/nested_keyspace/nestedkeyspace/ScanOptions;"⟩ : MethodName)) hown (mvT hZ (hwd 93 rfl)) (mvT hZ (hwd 94 rfl)) (notFace_of_selects (args := #[]) (mvT hZ (hwd 96 rfl))) (mvT hZ (hwd 96 rfl)) (mvT hZ (hwd 95 rfl)) (by decide) (backOf (W := 0) (rm16 l Z A0 hw [] b341 b58 (.ref b342) b59 (((p0.toUInt32 >>> ((7 : Int32) &&& 31).toUInt32).toInt32) &&& (3 : Int32)) b60 (nar .boolean z146) y94 T340.heap n0 Z340 F349 F346 rfl F347 F393 F394 (ob_0_56 p0 p1 p2 q3 z8 z17 z46 b51 b60 v66 y94 z146 hj9 hj18 hj28 hj38 hj47 hp56 hp65 hv66 hj126 hj178) F350 F351) hZ (hwd 97 rfl) (hwd 8 rfl) (by decide) (by decide)) qq395a qq395c (g := (mkF m 165 #[.val (.int p0), .val (.int p1), .val (.int p2), .val (.long q3), .second, .val (.int z8), .val (.int z17), .val (.int (1 : Int32)), .val (.int (1 : Int32)), .val (.int z46), .val (.ref b49), .val (.ref b58), .val (.long v66), .second, .val (.ref b341), .unset, .unset, .unset, .unset, .unset] [(.ref b58), (.ref b341)])) rfl (by rw [hml]; rfl) (Steps.refl _) (argsL := [(.ref b58)]) (rest := []) (lenOf pd_65 rfl) rfl (by show 2 * 0 + _ ≤ _; exact Nat.le_of_eq rfl) (hb hby at_165) (fun _ _ => ⟨rfl, rfl, (by decide : 7 + 2 ≤ _), (by decide : 29 + 8 ≤ _)⟩)
                    dsimp only [Pt.U, Pt.locs, Pt.cells, Pt.slots] at X395 l395 y395 z395 st395 hQ395
                    subst l395 y395 z395
                    obtain ⟨b396, b397, b398, rfl, Nq395, Kq395, hp399, hp400, F401, F402, F403, F404, F405, F406, hp407, hp408, F409, F410, hp411⟩ := hQ395
                    have N395 := Fr.app N340 Nq395
                    have K395 : Keep h0 T395.heap [] := K340.trans Kq395 (all0)
                    have Z395 : n0 ≤ T395.heap.size := Nat.le_trans Z340 Kq395.1
                    have sz_b396 : h0.size ≤ b396 := Nat.le_trans K340.1 hp400
                    have sz_b397 : h0.size ≤ b397 := Nat.le_trans K340.1 hp408
                    refine own_by (fun _ k => st395.trans k) ?_
                    show own_Go p e below _ (T395.setTop (mkF m 168 #[.val (.int p0), .val (.int p1), .val (.int p2), .val (.long q3), .second, .val (.int z8), .val (.int z17), .val (.int (1 : Int32)), .val (.int (1 : Int32)), .val (.int z46), .val (.ref b49), .val (.ref b58), .val (.long v66), .second, .val (.ref b341), .unset, .unset, .unset, .unset, .unset] [(.ref b396)]))
                    refine own_by (fun _ k => XS.astore X395.here hx rfl (hb hby at_168) rfl rfl (l' := #[.val (.int p0), .val (.int p1), .val (.int p2), .val (.long q3), .second, .val (.int z8), .val (.int z17), .val (.int (1 : Int32)), .val (.int (1 : Int32)), .val (.int z46), .val (.ref b49), .val (.ref b58), .val (.long v66), .second, .val (.ref b396), .unset, .unset, .unset, .unset, .unset]) rfl k) ?_
                    show own_Go p e below _ (T395.setTop (mkF m 170 #[.val (.int p0), .val (.int p1), .val (.int p2), .val (.long q3), .second, .val (.int z8), .val (.int z17), .val (.int (1 : Int32)), .val (.int (1 : Int32)), .val (.int z46), .val (.ref b49), .val (.ref b58), .val (.long v66), .second, .val (.ref b396), .unset, .unset, .unset, .unset, .unset] []))
                    have hs_z17 := (ob_0_57 p0 p1 p2 q3 z8 z17 z46 b51 b60 v66 y94 z146 hj9 hj18 hj28 hj38 hj47 hp56 hp65 hv66 hj126 hj178)
                    rcases hs_z17 with rfl
                    · skip
                      show own_Go p e below _ (T395.setTop (mkF m 170 #[.val (.int p0), .val (.int p1), .val (.int p2), .val (.long q3), .second, .val (.int z8), .val (.int (0 : Int32)), .val (.int (1 : Int32)), .val (.int (1 : Int32)), .val (.int z46), .val (.ref b49), .val (.ref b58), .val (.long v66), .second, .val (.ref b396), .unset, .unset, .unset, .unset, .unset] []))
                      refine own_by (fun _ k => XS.iload X395.here hx rfl (hb hby at_170) rfl k) ?_
                      show own_Go p e below _ (T395.setTop (mkF m 172 #[.val (.int p0), .val (.int p1), .val (.int p2), .val (.long q3), .second, .val (.int z8), .val (.int (0 : Int32)), .val (.int (1 : Int32)), .val (.int (1 : Int32)), .val (.int z46), .val (.ref b49), .val (.ref b58), .val (.long v66), .second, .val (.ref b396), .unset, .unset, .unset, .unset, .unset] [(.int (0 : Int32))]))
                      refine own_by (fun _ k => XS.ifYes X395.here hx rfl (pc0 := 172) (pc' := 182) rfl (hb hby at_172) rfl ((if0 _ _).trans (teq (by decide : (0 : Int32) = (0 : Int32))).1) (by decide) (by decide) k) ?_
                      show own_Go p e below _ (T395.setTop (mkF m 182 #[.val (.int p0), .val (.int p1), .val (.int p2), .val (.long q3), .second, .val (.int z8), .val (.int (0 : Int32)), .val (.int (1 : Int32)), .val (.int (1 : Int32)), .val (.int z46), .val (.ref b49), .val (.ref b58), .val (.long v66), .second, .val (.ref b396), .unset, .unset, .unset, .unset, .unset] []))
                      refine own_by (fun _ k => XS.aload X395.here hx rfl (hb hby at_182) rfl rfl k) ?_
                      show own_Go p e below _ (T395.setTop (mkF m 184 #[.val (.int p0), .val (.int p1), .val (.int p2), .val (.long q3), .second, .val (.int z8), .val (.int (0 : Int32)), .val (.int (1 : Int32)), .val (.int (1 : Int32)), .val (.int z46), .val (.ref b49), .val (.ref b58), .val (.long v66), .second, .val (.ref b396), .unset, .unset, .unset, .unset, .unset] [(.ref b396)]))
                      obtain ⟨cq412, kq412, qq412a, qq412b, qq412c⟩ := isOf hZ rfl F401
                      obtain ⟨_, _, ⟨T412, L412, k412, n412⟩, -, X412, ⟨Lc412, hQ412, l412, y412, z412⟩, st412⟩ := X395.virtualBack hx (y := (⟨"com/example/nested_keyspace/nestedkeyspace/ScanOptions", "reverse", "()Lcom/example/nested_keyspace/nestedkeyspace/ScanOptions;"⟩ : MethodName)) (z := (⟨"com/example/nested_keyspace/nestedkeyspace/ScanOptions", "reverse", "()Lcom/example/nested_keyspace/nestedkeyspace/ScanOptions;"⟩ : MethodName)) hown (mvT hZ (hwd 29 rfl)) (mvT hZ (hwd 30 rfl)) (notFace_of_selects (args := #[]) (mvT hZ (hwd 32 rfl))) (mvT hZ (hwd 32 rfl)) (mvT hZ (hwd 31 rfl)) (by decide) (backOf (W := 0) (rm5 l Z A0 hw [] b396 (.ref b342) (.ref b397) (0 : Int32) y94 T395.heap n0 Z395 rfl F402 rfl F403 F404 F406) hZ (hwd 33 rfl) (hwd 8 rfl) (by decide) (by decide)) qq412a qq412c (g := (mkF m 184 #[.val (.int p0), .val (.int p1), .val (.int p2), .val (.long q3), .second, .val (.int z8), .val (.int (0 : Int32)), .val (.int (1 : Int32)), .val (.int (1 : Int32)), .val (.int z46), .val (.ref b49), .val (.ref b58), .val (.long v66), .second, .val (.ref b396), .unset, .unset, .unset, .unset, .unset] [(.ref b396)])) rfl (by rw [hml]; rfl) (Steps.refl _) (argsL := []) (rest := []) (lenOf pd_29 rfl) rfl (by show 2 * 0 + _ ≤ _; exact Nat.le_of_eq rfl) (hb hby at_184) (fun _ _ => ⟨rfl, rfl, (by decide : 9 + 1 ≤ _), (by decide : 37 + 5 ≤ _)⟩)
                      dsimp only [Pt.U, Pt.locs, Pt.cells, Pt.slots] at X412 l412 y412 z412 st412 hQ412
                      subst l412 y412 z412
                      obtain ⟨b413, rfl, Nq412, Kq412, hp414, hp415, F416, F417, F418, F419, F420, F421⟩ := hQ412
                      have N412 := Fr.app N395 Nq412
                      have K412 : Keep h0 T412.heap [] := K395.trans Kq412 (all0)
                      have Z412 : n0 ≤ T412.heap.size := Nat.le_trans Z395 Kq412.1
                      have sz_b413 : h0.size ≤ b413 := Nat.le_trans K395.1 hp415
                      refine own_by (fun _ k => st412.trans k) ?_
                      show own_Go p e below _ (T412.setTop (mkF m 187 #[.val (.int p0), .val (.int p1), .val (.int p2), .val (.long q3), .second, .val (.int z8), .val (.int (0 : Int32)), .val (.int (1 : Int32)), .val (.int (1 : Int32)), .val (.int z46), .val (.ref b49), .val (.ref b58), .val (.long v66), .second, .val (.ref b396), .unset, .unset, .unset, .unset, .unset] [(.ref b413)]))
                      refine own_by (fun _ k => XS.astore X412.here hx rfl (hb hby at_187) rfl rfl (l' := #[.val (.int p0), .val (.int p1), .val (.int p2), .val (.long q3), .second, .val (.int z8), .val (.int (0 : Int32)), .val (.int (1 : Int32)), .val (.int (1 : Int32)), .val (.int z46), .val (.ref b49), .val (.ref b58), .val (.long v66), .second, .val (.ref b396), .val (.ref b413), .unset, .unset, .unset, .unset]) rfl k) ?_
                      show own_Go p e below _ (T412.setTop (mkF m 189 #[.val (.int p0), .val (.int p1), .val (.int p2), .val (.long q3), .second, .val (.int z8), .val (.int (0 : Int32)), .val (.int (1 : Int32)), .val (.int (1 : Int32)), .val (.int z46), .val (.ref b49), .val (.ref b58), .val (.long v66), .second, .val (.ref b396), .val (.ref b413), .unset, .unset, .unset, .unset] []))
                      refine own_by (fun _ k => XS.iload X412.here hx rfl (hb hby at_189) rfl k) ?_
                      show own_Go p e below _ (T412.setTop (mkF m 191 #[.val (.int p0), .val (.int p1), .val (.int p2), .val (.long q3), .second, .val (.int z8), .val (.int (0 : Int32)), .val (.int (1 : Int32)), .val (.int (1 : Int32)), .val (.int z46), .val (.ref b49), .val (.ref b58), .val (.long v66), .second, .val (.ref b396), .val (.ref b413), .unset, .unset, .unset, .unset] [(.int (1 : Int32))]))
                      refine own_by (fun _ k => XS.ifNo X412.here hx rfl (hb hby at_191) rfl ((if0 _ _).trans (feq (by decide : ¬ ((1 : Int32) = (0 : Int32)))).1) k) ?_
                      show own_Go p e below _ (T412.setTop (mkF m 194 #[.val (.int p0), .val (.int p1), .val (.int p2), .val (.long q3), .second, .val (.int z8), .val (.int (0 : Int32)), .val (.int (1 : Int32)), .val (.int (1 : Int32)), .val (.int z46), .val (.ref b49), .val (.ref b58), .val (.long v66), .second, .val (.ref b396), .val (.ref b413), .unset, .unset, .unset, .unset] []))
                      refine own_by (fun _ k => XS.aload X412.here hx rfl (hb hby at_194) rfl rfl k) ?_
                      show own_Go p e below _ (T412.setTop (mkF m 196 #[.val (.int p0), .val (.int p1), .val (.int p2), .val (.long q3), .second, .val (.int z8), .val (.int (0 : Int32)), .val (.int (1 : Int32)), .val (.int (1 : Int32)), .val (.int z46), .val (.ref b49), .val (.ref b58), .val (.long v66), .second, .val (.ref b396), .val (.ref b413), .unset, .unset, .unset, .unset] [(.ref b49)]))
                      refine own_by (fun _ k => XS.goto X412.here hx rfl (pc0 := 196) (pc' := 202) rfl (hb hby at_196) (by decide) (by decide) k) ?_
                      show own_Go p e below _ (T412.setTop (mkF m 202 #[.val (.int p0), .val (.int p1), .val (.int p2), .val (.long q3), .second, .val (.int z8), .val (.int (0 : Int32)), .val (.int (1 : Int32)), .val (.int (1 : Int32)), .val (.int z46), .val (.ref b49), .val (.ref b58), .val (.long v66), .second, .val (.ref b396), .val (.ref b413), .unset, .unset, .unset, .unset] [(.ref b49)]))
                      refine own_by (fun _ k => XS.astore X412.here hx rfl (hb hby at_202) rfl rfl (l' := #[.val (.int p0), .val (.int p1), .val (.int p2), .val (.long q3), .second, .val (.int z8), .val (.int (0 : Int32)), .val (.int (1 : Int32)), .val (.int (1 : Int32)), .val (.int z46), .val (.ref b49), .val (.ref b58), .val (.long v66), .second, .val (.ref b396), .val (.ref b413), .val (.ref b49), .unset, .unset, .unset]) rfl k) ?_
                      show own_Go p e below _ (T412.setTop (mkF m 204 #[.val (.int p0), .val (.int p1), .val (.int p2), .val (.long q3), .second, .val (.int z8), .val (.int (0 : Int32)), .val (.int (1 : Int32)), .val (.int (1 : Int32)), .val (.int z46), .val (.ref b49), .val (.ref b58), .val (.long v66), .second, .val (.ref b396), .val (.ref b413), .val (.ref b49), .unset, .unset, .unset] []))
                      refine own_by (fun _ k => XS.iload X412.here hx rfl (hb hby at_204) rfl k) ?_
                      show own_Go p e below _ (T412.setTop (mkF m 206 #[.val (.int p0), .val (.int p1), .val (.int p2), .val (.long q3), .second, .val (.int z8), .val (.int (0 : Int32)), .val (.int (1 : Int32)), .val (.int (1 : Int32)), .val (.int z46), .val (.ref b49), .val (.ref b58), .val (.long v66), .second, .val (.ref b396), .val (.ref b413), .val (.ref b49), .unset, .unset, .unset] [(.int (1 : Int32))]))
                      refine own_by (fun _ k => XS.ifNo X412.here hx rfl (hb hby at_206) rfl ((if0 _ _).trans (feq (by decide : ¬ ((1 : Int32) = (0 : Int32)))).1) k) ?_
                      show own_Go p e below _ (T412.setTop (mkF m 209 #[.val (.int p0), .val (.int p1), .val (.int p2), .val (.long q3), .second, .val (.int z8), .val (.int (0 : Int32)), .val (.int (1 : Int32)), .val (.int (1 : Int32)), .val (.int z46), .val (.ref b49), .val (.ref b58), .val (.long v66), .second, .val (.ref b396), .val (.ref b413), .val (.ref b49), .unset, .unset, .unset] []))
                      refine own_by (fun _ k => XS.aload X412.here hx rfl (hb hby at_209) rfl rfl k) ?_
                      show own_Go p e below _ (T412.setTop (mkF m 211 #[.val (.int p0), .val (.int p1), .val (.int p2), .val (.long q3), .second, .val (.int z8), .val (.int (0 : Int32)), .val (.int (1 : Int32)), .val (.int (1 : Int32)), .val (.int z46), .val (.ref b49), .val (.ref b58), .val (.long v66), .second, .val (.ref b396), .val (.ref b413), .val (.ref b49), .unset, .unset, .unset] [(.ref b58)]))
                      refine own_by (fun _ k => XS.goto X412.here hx rfl (pc0 := 211) (pc' := 215) rfl (hb hby at_211) (by decide) (by decide) k) ?_
                      show own_Go p e below _ (T412.setTop (mkF m 215 #[.val (.int p0), .val (.int p1), .val (.int p2), .val (.long q3), .second, .val (.int z8), .val (.int (0 : Int32)), .val (.int (1 : Int32)), .val (.int (1 : Int32)), .val (.int z46), .val (.ref b49), .val (.ref b58), .val (.long v66), .second, .val (.ref b396), .val (.ref b413), .val (.ref b49), .unset, .unset, .unset] [(.ref b58)]))
                      refine own_by (fun _ k => XS.astore X412.here hx rfl (hb hby at_215) rfl rfl (l' := #[.val (.int p0), .val (.int p1), .val (.int p2), .val (.long q3), .second, .val (.int z8), .val (.int (0 : Int32)), .val (.int (1 : Int32)), .val (.int (1 : Int32)), .val (.int z46), .val (.ref b49), .val (.ref b58), .val (.long v66), .second, .val (.ref b396), .val (.ref b413), .val (.ref b49), .val (.ref b58), .unset, .unset]) rfl k) ?_
                      show own_Go p e below _ (T412.setTop (mkF m 217 #[.val (.int p0), .val (.int p1), .val (.int p2), .val (.long q3), .second, .val (.int z8), .val (.int (0 : Int32)), .val (.int (1 : Int32)), .val (.int (1 : Int32)), .val (.int z46), .val (.ref b49), .val (.ref b58), .val (.long v66), .second, .val (.ref b396), .val (.ref b413), .val (.ref b49), .val (.ref b58), .unset, .unset] []))
                      refine own_by (fun _ k => XS.iload X412.here hx rfl (hb hby at_217) rfl k) ?_
                      show own_Go p e below _ (T412.setTop (mkF m 219 #[.val (.int p0), .val (.int p1), .val (.int p2), .val (.long q3), .second, .val (.int z8), .val (.int (0 : Int32)), .val (.int (1 : Int32)), .val (.int (1 : Int32)), .val (.int z46), .val (.ref b49), .val (.ref b58), .val (.long v66), .second, .val (.ref b396), .val (.ref b413), .val (.ref b49), .val (.ref b58), .unset, .unset] [(.int z8)]))
                      have J423 : ∀ (T424 : State) (L425 : List Loc) (y429 : Int64), Stand p l e room_1 s m #[(.int p0), (.int p1), (.int p2), (.long q3)] below meth c T424 L425 10 42 → T424.heap = T412.heap → Fr n0 L425 → (((z8 = (0 : Int32)) ∧ y429 = (9223372036854775807 : Int64)) ∨ ((¬ (z8 = (0 : Int32))) ∧ y429 = v66)) → own_Go p e below (own_Fin s 32 192 (Q0 Z f_EMPTY_KEY k_f_EMPTY_KEY fn_f_EMPTY_KEY p0 p1 p2 q3 h0 n0)) (T424.setTop (mkF m 230 #[.val (.int p0), .val (.int p1), .val (.int p2), .val (.long q3), .second, .val (.int z8), .val (.int (0 : Int32)), .val (.int (1 : Int32)), .val (.int (1 : Int32)), .val (.int z46), .val (.ref b49), .val (.ref b58), .val (.long v66), .second, .val (.ref b396), .val (.ref b413), .val (.ref b49), .val (.ref b58), .unset, .unset] [(.long y429)])) := by
                        intro T424 L425 y429 X426 e427 N428 hj430
                        refine own_by (fun _ k => XS.lstore X426.here hx rfl (hb hby at_230) rfl (l' := #[.val (.int p0), .val (.int p1), .val (.int p2), .val (.long q3), .second, .val (.int z8), .val (.int (0 : Int32)), .val (.int (1 : Int32)), .val (.int (1 : Int32)), .val (.int z46), .val (.ref b49), .val (.ref b58), .val (.long v66), .second, .val (.ref b396), .val (.ref b413), .val (.ref b49), .val (.ref b58), .val (.long y429), .second]) rfl k) ?_
                        show own_Go p e below _ (T424.setTop (mkF m 232 #[.val (.int p0), .val (.int p1), .val (.int p2), .val (.long q3), .second, .val (.int z8), .val (.int (0 : Int32)), .val (.int (1 : Int32)), .val (.int (1 : Int32)), .val (.int z46), .val (.ref b49), .val (.ref b58), .val (.long v66), .second, .val (.ref b396), .val (.ref b413), .val (.ref b49), .val (.ref b58), .val (.long y429), .second] []))
                        refine own_by (fun _ k => XS.aload X426.here hx rfl (hb hby at_232) rfl rfl k) ?_
                        show own_Go p e below _ (T424.setTop (mkF m 234 #[.val (.int p0), .val (.int p1), .val (.int p2), .val (.long q3), .second, .val (.int z8), .val (.int (0 : Int32)), .val (.int (1 : Int32)), .val (.int (1 : Int32)), .val (.int z46), .val (.ref b49), .val (.ref b58), .val (.long v66), .second, .val (.ref b396), .val (.ref b413), .val (.ref b49), .val (.ref b58), .val (.long y429), .second] [(.ref b413)]))
                        obtain ⟨cq431, kq431, qq431a, qq431b, qq431c⟩ := isOf hZ e427 F416
                        obtain ⟨_, _, ⟨T431, L431, k431, n431⟩, -, X431, ⟨Lc431, hQ431, l431, y431, z431⟩, st431⟩ := X426.virtualBack hx (y := (⟨"com/example/nested_keyspace/nestedkeyspace/ScanOptions", "readsInReverse", "()Z"⟩ : MethodName)) (z := (⟨"com/example/nested_keyspace/nestedkeyspace/ScanOptions", "readsInReverse", "()Z"⟩ : MethodName)) hown (mvT hZ (hwd 35 rfl)) (mvT hZ (hwd 36 rfl)) (notFace_of_selects (args := #[]) (mvT hZ (hwd 38 rfl))) (mvT hZ (hwd 38 rfl)) (mvT hZ (hwd 37 rfl)) (by decide) (backOf (W := 0) (rm6 l Z A0 hw [] b413 (1 : Int32) T412.heap n0 Z412 F420) hZ (hwd 39 rfl) (hwd 8 rfl) (by decide) (by decide)) qq431a qq431c (g := (mkF m 234 #[.val (.int p0), .val (.int p1), .val (.int p2), .val (.long q3), .second, .val (.int z8), .val (.int (0 : Int32)), .val (.int (1 : Int32)), .val (.int (1 : Int32)), .val (.int z46), .val (.ref b49), .val (.ref b58), .val (.long v66), .second, .val (.ref b396), .val (.ref b413), .val (.ref b49), .val (.ref b58), .val (.long y429), .second] [(.ref b413)])) rfl (by rw [hml]; rfl) (Steps.refl _) (argsL := []) (rest := []) (lenOf pd_35 rfl) rfl (by show 2 * 0 + _ ≤ _; exact Nat.le_of_eq rfl) (hb hby at_234) (fun _ _ => ⟨rfl, e427, (by decide : 10 + 0 ≤ _), (by decide : 42 + 0 ≤ _)⟩)
                        dsimp only [Pt.U, Pt.locs, Pt.cells, Pt.slots] at X431 l431 y431 z431 st431 hQ431
                        subst l431 y431 z431
                        obtain ⟨rfl, Nq431, eq431⟩ := hQ431
                        have N431 := Fr.app N428 Nq431
                        refine own_by (fun _ k => st431.trans k) ?_
                        show own_Go p e below _ (T431.setTop (mkF m 237 #[.val (.int p0), .val (.int p1), .val (.int p2), .val (.long q3), .second, .val (.int z8), .val (.int (0 : Int32)), .val (.int (1 : Int32)), .val (.int (1 : Int32)), .val (.int z46), .val (.ref b49), .val (.ref b58), .val (.long v66), .second, .val (.ref b396), .val (.ref b413), .val (.ref b49), .val (.ref b58), .val (.long y429), .second] [(.int (1 : Int32))]))
                        refine own_by (fun _ k => XS.ifNo X431.here hx rfl (hb hby at_237) rfl ((if0 _ _).trans (feq (by decide : ¬ ((1 : Int32) = (0 : Int32)))).1) k) ?_
                        show own_Go p e below _ (T431.setTop (mkF m 240 #[.val (.int p0), .val (.int p1), .val (.int p2), .val (.long q3), .second, .val (.int z8), .val (.int (0 : Int32)), .val (.int (1 : Int32)), .val (.int (1 : Int32)), .val (.int z46), .val (.ref b49), .val (.ref b58), .val (.long v66), .second, .val (.ref b396), .val (.ref b413), .val (.ref b49), .val (.ref b58), .val (.long y429), .second] []))
                        refine own_by (fun _ k => XS.aload X431.here hx rfl (hb hby at_240) rfl rfl k) ?_
                        show own_Go p e below _ (T431.setTop (mkF m 242 #[.val (.int p0), .val (.int p1), .val (.int p2), .val (.long q3), .second, .val (.int z8), .val (.int (0 : Int32)), .val (.int (1 : Int32)), .val (.int (1 : Int32)), .val (.int z46), .val (.ref b49), .val (.ref b58), .val (.long v66), .second, .val (.ref b396), .val (.ref b413), .val (.ref b49), .val (.ref b58), .val (.long y429), .second] [(.ref b413)]))
                        obtain ⟨cq432, kq432, qq432a, qq432b, qq432c⟩ := isOf hZ eq431 F416
                        obtain ⟨_, _, ⟨T432, L432, k432, n432⟩, -, X432, ⟨Lc432, hQ432, l432, y432, z432⟩, st432⟩ := X431.virtualBack hx (y := (⟨"com/example/nested_keyspace/nestedkeyspace/ScanOptions", "fromKey", "()[B"⟩ : MethodName)) (z := (⟨"com/example/nested_keyspace/nestedkeyspace/ScanOptions", "fromKey", "()[B"⟩ : MethodName)) hown (mvT hZ (hwd 40 rfl)) (mvT hZ (hwd 41 rfl)) (notFace_of_selects (args := #[]) (mvT hZ (hwd 43 rfl))) (mvT hZ (hwd 43 rfl)) (mvT hZ (hwd 42 rfl)) (by decide) (backOf (W := 0) (rmfromKeyR l Z A0 hw [] b342 b413 T412.heap n0 Z412 F417) hZ (hwd 44 rfl) (hwd 8 rfl) (by decide) (by decide)) qq432a qq432c (g := (mkF m 242 #[.val (.int p0), .val (.int p1), .val (.int p2), .val (.long q3), .second, .val (.int z8), .val (.int (0 : Int32)), .val (.int (1 : Int32)), .val (.int (1 : Int32)), .val (.int z46), .val (.ref b49), .val (.ref b58), .val (.long v66), .second, .val (.ref b396), .val (.ref b413), .val (.ref b49), .val (.ref b58), .val (.long y429), .second] [(.ref b413)])) rfl (by rw [hml]; rfl) (Steps.refl _) (argsL := []) (rest := []) (lenOf pd_40 rfl) rfl (by show 2 * 0 + _ ≤ _; exact Nat.le_of_eq rfl) (hb hby at_242) (fun _ _ => ⟨rfl, eq431, (by decide : 10 + 0 ≤ _), (by decide : 42 + 0 ≤ _)⟩)
                        dsimp only [Pt.U, Pt.locs, Pt.cells, Pt.slots] at X432 l432 y432 z432 st432 hQ432
                        subst l432 y432 z432
                        obtain ⟨rfl, Nq432, eq432⟩ := hQ432
                        have N432 := Fr.app N431 Nq432
                        refine own_by (fun _ k => st432.trans k) ?_
                        show own_Go p e below _ (T432.setTop (mkF m 245 #[.val (.int p0), .val (.int p1), .val (.int p2), .val (.long q3), .second, .val (.int z8), .val (.int (0 : Int32)), .val (.int (1 : Int32)), .val (.int (1 : Int32)), .val (.int z46), .val (.ref b49), .val (.ref b58), .val (.long v66), .second, .val (.ref b396), .val (.ref b413), .val (.ref b49), .val (.ref b58), .val (.long y429), .second] [(.ref b342)]))
                        refine own_by (fun _ k => XS.aload X432.here hx rfl (hb hby at_245) rfl rfl k) ?_
                        show own_Go p e below _ (T432.setTop (mkF m 247 #[.val (.int p0), .val (.int p1), .val (.int p2), .val (.long q3), .second, .val (.int z8), .val (.int (0 : Int32)), .val (.int (1 : Int32)), .val (.int (1 : Int32)), .val (.int z46), .val (.ref b49), .val (.ref b58), .val (.long v66), .second, .val (.ref b396), .val (.ref b413), .val (.ref b49), .val (.ref b58), .val (.long y429), .second] [(.ref b49), (.ref b342)]))
                        have F433 : own_Arf Z T412.heap b342 b343 .byte (((p0.toUInt32 >>> ((5 : Int32) &&& 31).toUInt32).toInt32) &&& (3 : Int32)) (fun i => .int (b51 i)) := ((F354.keep Kq395 nin0).keep Kq412 nin0)
                        have F434 : own_Arf Z T412.heap b49 b50 .byte (((p0.toUInt32 >>> ((5 : Int32) &&& 31).toUInt32).toInt32) &&& (3 : Int32)) (fun i => .int (b51 i)) := (((F150.keep Kq340 nin0).keep Kq395 nin0).keep Kq412 nin0)
                        obtain ⟨_, _, ⟨T435, L435, k435, n435⟩, -, X435, ⟨Lc435, hQ435, l435, y435, z435⟩, st435⟩ := Jvm.LawKit.callS X432 hx (y := (⟨"com/example/nested_keyspace/nestedkeyspace/ScanOptionsReversePinLaw", "sameBytes", "([B[B)Z"⟩ : MethodName)) hown (mvT hZ (hwd 47 rfl)) (mvT hZ (hwd 48 rfl)) (mvT hZ (hwd 2 rfl)) (mvT hZ (hwd 49 rfl)) (by decide) (backOf (W := 0) (rmsbRR l Z A0 hw [] b342 b49 b343 (((p0.toUInt32 >>> ((5 : Int32) &&& 31).toUInt32).toInt32) &&& (3 : Int32)) b51 b50 (((p0.toUInt32 >>> ((5 : Int32) &&& 31).toUInt32).toInt32) &&& (3 : Int32)) b51 T412.heap n0 Z412 F433 F434) hZ (hwd 49 rfl) (hwd 2 rfl) (by decide) (by decide)) (g := (mkF m 247 #[.val (.int p0), .val (.int p1), .val (.int p2), .val (.long q3), .second, .val (.int z8), .val (.int (0 : Int32)), .val (.int (1 : Int32)), .val (.int (1 : Int32)), .val (.int z46), .val (.ref b49), .val (.ref b58), .val (.long v66), .second, .val (.ref b396), .val (.ref b413), .val (.ref b49), .val (.ref b58), .val (.long y429), .second] [(.ref b49), (.ref b342)])) rfl (by rw [hml]; rfl) (argsL := [(.ref b342), (.ref b49)]) (rest := []) (lenOf pd_47 rfl) rfl (by show 2 * 0 + _ ≤ _; exact Nat.le_of_eq rfl) (hb hby at_247) (fun _ _ => ⟨rfl, eq432, (by decide : 10 + 0 ≤ _), (by decide : 42 + 0 ≤ _)⟩)
                        dsimp only [Pt.U, Pt.locs, Pt.cells, Pt.slots] at X435 l435 y435 z435 st435 hQ435
                        subst l435 y435 z435
                        obtain ⟨o436, rfl, Nq435, eq435, hp437⟩ := hQ435
                        have N435 := Fr.app N432 Nq435
                        refine own_by st435 ?_
                        show own_Go p e below _ (T435.setTop (mkF m 250 #[.val (.int p0), .val (.int p1), .val (.int p2), .val (.long q3), .second, .val (.int z8), .val (.int (0 : Int32)), .val (.int (1 : Int32)), .val (.int (1 : Int32)), .val (.int z46), .val (.ref b49), .val (.ref b58), .val (.long v66), .second, .val (.ref b396), .val (.ref b413), .val (.ref b49), .val (.ref b58), .val (.long y429), .second] [(.int o436)]))
                        by_cases c438 : o436 = (0 : Int32)
                        · skip
                          refine own_by (fun _ k => XS.ifYes X435.here hx rfl (pc0 := 250) (pc' := 301) rfl (hb hby at_250) rfl ((if0 _ _).trans (teq c438).1) (by decide) (by decide) k) ?_
                          show own_Go p e below _ (T435.setTop (mkF m 301 #[.val (.int p0), .val (.int p1), .val (.int p2), .val (.long q3), .second, .val (.int z8), .val (.int (0 : Int32)), .val (.int (1 : Int32)), .val (.int (1 : Int32)), .val (.int z46), .val (.ref b49), .val (.ref b58), .val (.long v66), .second, .val (.ref b396), .val (.ref b413), .val (.ref b49), .val (.ref b58), .val (.long y429), .second] []))
                          refine own_by (fun _ k => XS.iconst X435.here hx rfl (hb hby at_301) k) ?_
                          show own_Go p e below _ (T435.setTop (mkF m 302 #[.val (.int p0), .val (.int p1), .val (.int p2), .val (.long q3), .second, .val (.int z8), .val (.int (0 : Int32)), .val (.int (1 : Int32)), .val (.int (1 : Int32)), .val (.int z46), .val (.ref b49), .val (.ref b58), .val (.long v66), .second, .val (.ref b396), .val (.ref b413), .val (.ref b49), .val (.ref b58), .val (.long y429), .second] [(.int (0 : Int32))]))
                          exact own_retN X435 hx (t := .boolean) Bd.returns (by simp) (hb hby at_302) hlk eq435 ⟨((ob_0_58 p0 p1 p2 q3 z8 z46 b51 b60 v66 y94 z146 y429 o436 hj9 hj18 hj28 hj38 hj47 hp56 hp65 hv66 hj126 hj178 hj430 hp437 c438)).elim, N435⟩ (by decide) (by decide)
                        · skip
                          refine own_by (fun _ k => XS.ifNo X435.here hx rfl (hb hby at_250) rfl ((if0 _ _).trans (feq c438).1) k) ?_
                          show own_Go p e below _ (T435.setTop (mkF m 253 #[.val (.int p0), .val (.int p1), .val (.int p2), .val (.long q3), .second, .val (.int z8), .val (.int (0 : Int32)), .val (.int (1 : Int32)), .val (.int (1 : Int32)), .val (.int z46), .val (.ref b49), .val (.ref b58), .val (.long v66), .second, .val (.ref b396), .val (.ref b413), .val (.ref b49), .val (.ref b58), .val (.long y429), .second] []))
                          refine own_by (fun _ k => XS.aload X435.here hx rfl (hb hby at_253) rfl rfl k) ?_
                          show own_Go p e below _ (T435.setTop (mkF m 255 #[.val (.int p0), .val (.int p1), .val (.int p2), .val (.long q3), .second, .val (.int z8), .val (.int (0 : Int32)), .val (.int (1 : Int32)), .val (.int (1 : Int32)), .val (.int z46), .val (.ref b49), .val (.ref b58), .val (.long v66), .second, .val (.ref b396), .val (.ref b413), .val (.ref b49), .val (.ref b58), .val (.long y429), .second] [(.ref b413)]))
                          obtain ⟨cq439, kq439, qq439a, qq439b, qq439c⟩ := isOf hZ eq435 F416
                          obtain ⟨_, _, ⟨T439, L439, k439, n439⟩, -, X439, ⟨Lc439, hQ439, l439, y439, z439⟩, st439⟩ := X435.virtualBack hx (y := (⟨"com/example/nested_keyspace/nestedkeyspace/ScanOptions", "toKey", "()[B"⟩ : MethodName)) (z := (⟨"com/example/nested_keyspace/nestedkeyspace/ScanOptions", "toKey", "()[B"⟩ : MethodName)) hown (mvT hZ (hwd 50 rfl)) (mvT hZ (hwd 51 rfl)) (notFace_of_selects (args := #[]) (mvT hZ (hwd 53 rfl))) (mvT hZ (hwd 53 rfl)) (mvT hZ (hwd 52 rfl)) (by decide) (backOf (W := 0) (rmtoKeyR l Z A0 hw [] b397 b413 T412.heap n0 Z412 F418) hZ (hwd 54 rfl) (hwd 8 rfl) (by decide) (by decide)) qq439a qq439c (g := (mkF m 255 #[.val (.int p0), .val (.int p1), .val (.int p2), .val (.long q3), .second, .val (.int z8), .val (.int (0 : Int32)), .val (.int (1 : Int32)), .val (.int (1 : Int32)), .val (.int z46), .val (.ref b49), .val (.ref b58), .val (.long v66), .second, .val (.ref b396), .val (.ref b413), .val (.ref b49), .val (.ref b58), .val (.long y429), .second] [(.ref b413)])) rfl (by rw [hml]; rfl) (Steps.refl _) (argsL := []) (rest := []) (lenOf pd_40 rfl) rfl (by show 2 * 0 + _ ≤ _; exact Nat.le_of_eq rfl) (hb hby at_255) (fun _ _ => ⟨rfl, eq435, (by decide : 10 + 0 ≤ _), (by decide : 42 + 0 ≤ _)⟩)
                          dsimp only [Pt.U, Pt.locs, Pt.cells, Pt.slots] at X439 l439 y439 z439 st439 hQ439
                          subst l439 y439 z439
                          obtain ⟨rfl, Nq439, eq439⟩ := hQ439
                          have N439 := Fr.app N435 Nq439
                          refine own_by (fun _ k => st439.trans k) ?_
                          show own_Go p e below _ (T439.setTop (mkF m 258 #[.val (.int p0), .val (.int p1), .val (.int p2), .val (.long q3), .second, .val (.int z8), .val (.int (0 : Int32)), .val (.int (1 : Int32)), .val (.int (1 : Int32)), .val (.int z46), .val (.ref b49), .val (.ref b58), .val (.long v66), .second, .val (.ref b396), .val (.ref b413), .val (.ref b49), .val (.ref b58), .val (.long y429), .second] [(.ref b397)]))
                          refine own_by (fun _ k => XS.aload X439.here hx rfl (hb hby at_258) rfl rfl k) ?_
                          show own_Go p e below _ (T439.setTop (mkF m 260 #[.val (.int p0), .val (.int p1), .val (.int p2), .val (.long q3), .second, .val (.int z8), .val (.int (0 : Int32)), .val (.int (1 : Int32)), .val (.int (1 : Int32)), .val (.int z46), .val (.ref b49), .val (.ref b58), .val (.long v66), .second, .val (.ref b396), .val (.ref b413), .val (.ref b49), .val (.ref b58), .val (.long y429), .second] [(.ref b58), (.ref b397)]))
                          have F440 : own_Arf Z T412.heap b397 b398 .byte (((p0.toUInt32 >>> ((7 : Int32) &&& 31).toUInt32).toInt32) &&& (3 : Int32)) (fun i => .int (b60 i)) := (F409.keep Kq412 nin0)
                          have F441 : own_Arf Z T412.heap b58 b59 .byte (((p0.toUInt32 >>> ((7 : Int32) &&& 31).toUInt32).toInt32) &&& (3 : Int32)) (fun i => .int (b60 i)) := ((F393.keep Kq395 nin0).keep Kq412 nin0)
                          obtain ⟨_, _, ⟨T442, L442, k442, n442⟩, -, X442, ⟨Lc442, hQ442, l442, y442, z442⟩, st442⟩ := Jvm.LawKit.callS X439 hx (y := (⟨"com/example/nested_keyspace/nestedkeyspace/ScanOptionsReversePinLaw", "sameBytes", "([B[B)Z"⟩ : MethodName)) hown (mvT hZ (hwd 47 rfl)) (mvT hZ (hwd 48 rfl)) (mvT hZ (hwd 2 rfl)) (mvT hZ (hwd 49 rfl)) (by decide) (backOf (W := 0) (rmsbRR l Z A0 hw [] b397 b58 b398 (((p0.toUInt32 >>> ((7 : Int32) &&& 31).toUInt32).toInt32) &&& (3 : Int32)) b60 b59 (((p0.toUInt32 >>> ((7 : Int32) &&& 31).toUInt32).toInt32) &&& (3 : Int32)) b60 T412.heap n0 Z412 F440 F441) hZ (hwd 49 rfl) (hwd 2 rfl) (by decide) (by decide)) (g := (mkF m 260 #[.val (.int p0), .val (.int p1), .val (.int p2), .val (.long q3), .second, .val (.int z8), .val (.int (0 : Int32)), .val (.int (1 : Int32)), .val (.int (1 : Int32)), .val (.int z46), .val (.ref b49), .val (.ref b58), .val (.long v66), .second, .val (.ref b396), .val (.ref b413), .val (.ref b49), .val (.ref b58), .val (.long y429), .second] [(.ref b58), (.ref b397)])) rfl (by rw [hml]; rfl) (argsL := [(.ref b397), (.ref b58)]) (rest := []) (lenOf pd_47 rfl) rfl (by show 2 * 0 + _ ≤ _; exact Nat.le_of_eq rfl) (hb hby at_260) (fun _ _ => ⟨rfl, eq439, (by decide : 10 + 0 ≤ _), (by decide : 42 + 0 ≤ _)⟩)
                          dsimp only [Pt.U, Pt.locs, Pt.cells, Pt.slots] at X442 l442 y442 z442 st442 hQ442
                          subst l442 y442 z442
                          obtain ⟨o443, rfl, Nq442, eq442, hp444⟩ := hQ442
                          have N442 := Fr.app N439 Nq442
                          refine own_by st442 ?_
                          show own_Go p e below _ (T442.setTop (mkF m 263 #[.val (.int p0), .val (.int p1), .val (.int p2), .val (.long q3), .second, .val (.int z8), .val (.int (0 : Int32)), .val (.int (1 : Int32)), .val (.int (1 : Int32)), .val (.int z46), .val (.ref b49), .val (.ref b58), .val (.long v66), .second, .val (.ref b396), .val (.ref b413), .val (.ref b49), .val (.ref b58), .val (.long y429), .second] [(.int o443)]))
                          by_cases c445 : o443 = (0 : Int32)
                          · skip
                            refine own_by (fun _ k => XS.ifYes X442.here hx rfl (pc0 := 263) (pc' := 301) rfl (hb hby at_263) rfl ((if0 _ _).trans (teq c445).1) (by decide) (by decide) k) ?_
                            show own_Go p e below _ (T442.setTop (mkF m 301 #[.val (.int p0), .val (.int p1), .val (.int p2), .val (.long q3), .second, .val (.int z8), .val (.int (0 : Int32)), .val (.int (1 : Int32)), .val (.int (1 : Int32)), .val (.int z46), .val (.ref b49), .val (.ref b58), .val (.long v66), .second, .val (.ref b396), .val (.ref b413), .val (.ref b49), .val (.ref b58), .val (.long y429), .second] []))
                            refine own_by (fun _ k => XS.iconst X442.here hx rfl (hb hby at_301) k) ?_
                            show own_Go p e below _ (T442.setTop (mkF m 302 #[.val (.int p0), .val (.int p1), .val (.int p2), .val (.long q3), .second, .val (.int z8), .val (.int (0 : Int32)), .val (.int (1 : Int32)), .val (.int (1 : Int32)), .val (.int z46), .val (.ref b49), .val (.ref b58), .val (.long v66), .second, .val (.ref b396), .val (.ref b413), .val (.ref b49), .val (.ref b58), .val (.long y429), .second] [(.int (0 : Int32))]))
                            exact own_retN X442 hx (t := .boolean) Bd.returns (by simp) (hb hby at_302) hlk eq442 ⟨((ob_0_59 p0 p1 p2 q3 z8 z46 b51 b60 v66 y94 z146 y429 o436 o443 hj9 hj18 hj28 hj38 hj47 hp56 hp65 hv66 hj126 hj178 hj430 hp437 c438 hp444 c445)).elim, N442⟩ (by decide) (by decide)
                          · skip
                            refine own_by (fun _ k => XS.ifNo X442.here hx rfl (hb hby at_263) rfl ((if0 _ _).trans (feq c445).1) k) ?_
                            show own_Go p e below _ (T442.setTop (mkF m 266 #[.val (.int p0), .val (.int p1), .val (.int p2), .val (.long q3), .second, .val (.int z8), .val (.int (0 : Int32)), .val (.int (1 : Int32)), .val (.int (1 : Int32)), .val (.int z46), .val (.ref b49), .val (.ref b58), .val (.long v66), .second, .val (.ref b396), .val (.ref b413), .val (.ref b49), .val (.ref b58), .val (.long y429), .second] []))
                            refine own_by (fun _ k => XS.aload X442.here hx rfl (hb hby at_266) rfl rfl k) ?_
                            show own_Go p e below _ (T442.setTop (mkF m 268 #[.val (.int p0), .val (.int p1), .val (.int p2), .val (.long q3), .second, .val (.int z8), .val (.int (0 : Int32)), .val (.int (1 : Int32)), .val (.int (1 : Int32)), .val (.int z46), .val (.ref b49), .val (.ref b58), .val (.long v66), .second, .val (.ref b396), .val (.ref b413), .val (.ref b49), .val (.ref b58), .val (.long y429), .second] [(.ref b413)]))
                            obtain ⟨cq446, kq446, qq446a, qq446b, qq446c⟩ := isOf hZ eq442 F416
                            obtain ⟨_, _, ⟨T446, L446, k446, n446⟩, -, X446, ⟨Lc446, hQ446, l446, y446, z446⟩, st446⟩ := X442.virtualBack hx (y := (⟨"com/example/nested_keyspace/nestedkeyspace/ScanOptions", "readsSubtree", "()Z"⟩ : MethodName)) (z := (⟨"com/example/nested_keyspace/nestedkeyspace/ScanOptions", "readsSubtree", "()Z"⟩ : MethodName)) hown (mvT hZ (hwd 55 rfl)) (mvT hZ (hwd 56 rfl)) (notFace_of_selects (args := #[]) (mvT hZ (hwd 58 rfl))) (mvT hZ (hwd 58 rfl)) (mvT hZ (hwd 57 rfl)) (by decide) (backOf (W := 0) (rm10 l Z A0 hw [] b413 (0 : Int32) T412.heap n0 Z412 F419) hZ (hwd 59 rfl) (hwd 8 rfl) (by decide) (by decide)) qq446a qq446c (g := (mkF m 268 #[.val (.int p0), .val (.int p1), .val (.int p2), .val (.long q3), .second, .val (.int z8), .val (.int (0 : Int32)), .val (.int (1 : Int32)), .val (.int (1 : Int32)), .val (.int z46), .val (.ref b49), .val (.ref b58), .val (.long v66), .second, .val (.ref b396), .val (.ref b413), .val (.ref b49), .val (.ref b58), .val (.long y429), .second] [(.ref b413)])) rfl (by rw [hml]; rfl) (Steps.refl _) (argsL := []) (rest := []) (lenOf pd_35 rfl) rfl (by show 2 * 0 + _ ≤ _; exact Nat.le_of_eq rfl) (hb hby at_268) (fun _ _ => ⟨rfl, eq442, (by decide : 10 + 0 ≤ _), (by decide : 42 + 0 ≤ _)⟩)
                            dsimp only [Pt.U, Pt.locs, Pt.cells, Pt.slots] at X446 l446 y446 z446 st446 hQ446
                            subst l446 y446 z446
                            obtain ⟨rfl, Nq446, eq446⟩ := hQ446
                            have N446 := Fr.app N442 Nq446
                            refine own_by (fun _ k => st446.trans k) ?_
                            show own_Go p e below _ (T446.setTop (mkF m 271 #[.val (.int p0), .val (.int p1), .val (.int p2), .val (.long q3), .second, .val (.int z8), .val (.int (0 : Int32)), .val (.int (1 : Int32)), .val (.int (1 : Int32)), .val (.int z46), .val (.ref b49), .val (.ref b58), .val (.long v66), .second, .val (.ref b396), .val (.ref b413), .val (.ref b49), .val (.ref b58), .val (.long y429), .second] [(.int (0 : Int32))]))
                            refine own_by (fun _ k => XS.iload X446.here hx rfl (hb hby at_271) rfl k) ?_
                            show own_Go p e below _ (T446.setTop (mkF m 273 #[.val (.int p0), .val (.int p1), .val (.int p2), .val (.long q3), .second, .val (.int z8), .val (.int (0 : Int32)), .val (.int (1 : Int32)), .val (.int (1 : Int32)), .val (.int z46), .val (.ref b49), .val (.ref b58), .val (.long v66), .second, .val (.ref b396), .val (.ref b413), .val (.ref b49), .val (.ref b58), .val (.long y429), .second] [(.int (0 : Int32)), (.int (0 : Int32))]))
                            refine own_by (fun _ k => XS.icmpNo X446.here hx rfl (hb hby at_273) rfl (teq (by decide : (0 : Int32) = (0 : Int32))).2 k) ?_
                            show own_Go p e below _ (T446.setTop (mkF m 276 #[.val (.int p0), .val (.int p1), .val (.int p2), .val (.long q3), .second, .val (.int z8), .val (.int (0 : Int32)), .val (.int (1 : Int32)), .val (.int (1 : Int32)), .val (.int z46), .val (.ref b49), .val (.ref b58), .val (.long v66), .second, .val (.ref b396), .val (.ref b413), .val (.ref b49), .val (.ref b58), .val (.long y429), .second] []))
                            refine own_by (fun _ k => XS.aload X446.here hx rfl (hb hby at_276) rfl rfl k) ?_
                            show own_Go p e below _ (T446.setTop (mkF m 278 #[.val (.int p0), .val (.int p1), .val (.int p2), .val (.long q3), .second, .val (.int z8), .val (.int (0 : Int32)), .val (.int (1 : Int32)), .val (.int (1 : Int32)), .val (.int z46), .val (.ref b49), .val (.ref b58), .val (.long v66), .second, .val (.ref b396), .val (.ref b413), .val (.ref b49), .val (.ref b58), .val (.long y429), .second] [(.ref b413)]))
                            obtain ⟨cq447, kq447, qq447a, qq447b, qq447c⟩ := isOf hZ eq446 F416
                            obtain ⟨_, _, ⟨T447, L447, k447, n447⟩, -, X447, ⟨Lc447, hQ447, l447, y447, z447⟩, st447⟩ := X446.virtualBack hx (y := (⟨"com/example/nested_keyspace/nestedkeyspace/ScanOptions", "maxEntries", "()J"⟩ : MethodName)) (z := (⟨"com/example/nested_keyspace/nestedkeyspace/ScanOptions", "maxEntries", "()J"⟩ : MethodName)) hown (mvT hZ (hwd 60 rfl)) (mvT hZ (hwd 61 rfl)) (notFace_of_selects (args := #[]) (mvT hZ (hwd 63 rfl))) (mvT hZ (hwd 63 rfl)) (mvT hZ (hwd 62 rfl)) (by decide) (backOf (W := 0) (rm11 l Z A0 hw [] b413 y94 T412.heap n0 Z412 F421) hZ (hwd 64 rfl) (hwd 8 rfl) (by decide) (by decide)) qq447a qq447c (g := (mkF m 278 #[.val (.int p0), .val (.int p1), .val (.int p2), .val (.long q3), .second, .val (.int z8), .val (.int (0 : Int32)), .val (.int (1 : Int32)), .val (.int (1 : Int32)), .val (.int z46), .val (.ref b49), .val (.ref b58), .val (.long v66), .second, .val (.ref b396), .val (.ref b413), .val (.ref b49), .val (.ref b58), .val (.long y429), .second] [(.ref b413)])) rfl (by rw [hml]; rfl) (Steps.refl _) (argsL := []) (rest := []) (lenOf pd_60 rfl) rfl (by show 2 * 0 + _ ≤ _; exact Nat.le_of_eq rfl) (hb hby at_278) (fun _ _ => ⟨rfl, eq446, (by decide : 10 + 0 ≤ _), (by decide : 42 + 0 ≤ _)⟩)
                            dsimp only [Pt.U, Pt.locs, Pt.cells, Pt.slots] at X447 l447 y447 z447 st447 hQ447
                            subst l447 y447 z447
                            obtain ⟨rfl, Nq447, eq447⟩ := hQ447
                            have N447 := Fr.app N446 Nq447
                            refine own_by (fun _ k => st447.trans k) ?_
                            show own_Go p e below _ (T447.setTop (mkF m 281 #[.val (.int p0), .val (.int p1), .val (.int p2), .val (.long q3), .second, .val (.int z8), .val (.int (0 : Int32)), .val (.int (1 : Int32)), .val (.int (1 : Int32)), .val (.int z46), .val (.ref b49), .val (.ref b58), .val (.long v66), .second, .val (.ref b396), .val (.ref b413), .val (.ref b49), .val (.ref b58), .val (.long y429), .second] [(.long y94)]))
                            refine own_by (fun _ k => XS.lload X447.here hx rfl (hb hby at_281) rfl k) ?_
                            show own_Go p e below _ (T447.setTop (mkF m 283 #[.val (.int p0), .val (.int p1), .val (.int p2), .val (.long q3), .second, .val (.int z8), .val (.int (0 : Int32)), .val (.int (1 : Int32)), .val (.int (1 : Int32)), .val (.int z46), .val (.ref b49), .val (.ref b58), .val (.long v66), .second, .val (.ref b396), .val (.ref b413), .val (.ref b49), .val (.ref b58), .val (.long y429), .second] [(.long y429), (.long y94)]))
                            refine own_by (fun _ k => XS.lcmp X447.here hx rfl (hb hby at_283) rfl k) ?_
                            show own_Go p e below _ (T447.setTop (mkF m 284 #[.val (.int p0), .val (.int p1), .val (.int p2), .val (.long q3), .second, .val (.int z8), .val (.int (0 : Int32)), .val (.int (1 : Int32)), .val (.int (1 : Int32)), .val (.int z46), .val (.ref b49), .val (.ref b58), .val (.long v66), .second, .val (.ref b396), .val (.ref b413), .val (.ref b49), .val (.ref b58), .val (.long y429), .second] [(.int (lcmpW y94 y429))]))
                            by_cases c448 : y94 = y429
                            · skip
                              refine own_by (fun _ k => XS.ifNo X447.here hx rfl (hb hby at_284) rfl ((if0 _ _).trans (teq ((lw_eq _ _).mpr c448)).2) k) ?_
                              show own_Go p e below _ (T447.setTop (mkF m 287 #[.val (.int p0), .val (.int p1), .val (.int p2), .val (.long q3), .second, .val (.int z8), .val (.int (0 : Int32)), .val (.int (1 : Int32)), .val (.int (1 : Int32)), .val (.int z46), .val (.ref b49), .val (.ref b58), .val (.long v66), .second, .val (.ref b396), .val (.ref b413), .val (.ref b49), .val (.ref b58), .val (.long y429), .second] []))
                              refine own_by (fun _ k => XS.aload X447.here hx rfl (hb hby at_287) rfl rfl k) ?_
                              show own_Go p e below _ (T447.setTop (mkF m 289 #[.val (.int p0), .val (.int p1), .val (.int p2), .val (.long q3), .second, .val (.int z8), .val (.int (0 : Int32)), .val (.int (1 : Int32)), .val (.int (1 : Int32)), .val (.int z46), .val (.ref b49), .val (.ref b58), .val (.long v66), .second, .val (.ref b396), .val (.ref b413), .val (.ref b49), .val (.ref b58), .val (.long y429), .second] [(.ref b396)]))
                              have F449 : Fld Z T412.heap b396 "com/example/nested_keyspace/nestedkeyspace/ScanOptions" "reverse" "Z" (.int (nar .boolean (nar .boolean z146))) := (F405.keep Kq412 nin0)
                              have F451 : Exa Z T412.heap b396 "com/example/nested_keyspace/nestedkeyspace/ScanOptions" := (F401.keep Kq412)
                              obtain ⟨cq450, kq450, qq450a, qq450b, qq450c⟩ := isOf hZ eq447 F451
                              obtain ⟨_, _, ⟨T450, L450, k450, n450⟩, -, X450, ⟨Lc450, hQ450, l450, y450, z450⟩, st450⟩ := X447.virtualBack hx (y := (⟨"com/example/nested_keyspace/nestedkeyspace/ScanOptions", "readsInReverse", "()Z"⟩ : MethodName)) (z := (⟨"com/example/nested_keyspace/nestedkeyspace/ScanOptions", "readsInReverse", "()Z"⟩ : MethodName)) hown (mvT hZ (hwd 35 rfl)) (mvT hZ (hwd 36 rfl)) (notFace_of_selects (args := #[]) (mvT hZ (hwd 38 rfl))) (mvT hZ (hwd 38 rfl)) (mvT hZ (hwd 37 rfl)) (by decide) (backOf (W := 0) (rm6 l Z A0 hw [] b396 (nar .boolean (nar .boolean z146)) T412.heap n0 Z412 F449) hZ (hwd 39 rfl) (hwd 8 rfl) (by decide) (by decide)) qq450a qq450c (g := (mkF m 289 #[.val (.int p0), .val (.int p1), .val (.int p2), .val (.long q3), .second, .val (.int z8), .val (.int (0 : Int32)), .val (.int (1 : Int32)), .val (.int (1 : Int32)), .val (.int z46), .val (.ref b49), .val (.ref b58), .val (.long v66), .second, .val (.ref b396), .val (.ref b413), .val (.ref b49), .val (.ref b58), .val (.long y429), .second] [(.ref b396)])) rfl (by rw [hml]; rfl) (Steps.refl _) (argsL := []) (rest := []) (lenOf pd_35 rfl) rfl (by show 2 * 0 + _ ≤ _; exact Nat.le_of_eq rfl) (hb hby at_289) (fun _ _ => ⟨rfl, eq447, (by decide : 10 + 0 ≤ _), (by decide : 42 + 0 ≤ _)⟩)
                              dsimp only [Pt.U, Pt.locs, Pt.cells, Pt.slots] at X450 l450 y450 z450 st450 hQ450
                              subst l450 y450 z450
                              obtain ⟨rfl, Nq450, eq450⟩ := hQ450
                              have N450 := Fr.app N447 Nq450
                              refine own_by (fun _ k => st450.trans k) ?_
                              show own_Go p e below _ (T450.setTop (mkF m 292 #[.val (.int p0), .val (.int p1), .val (.int p2), .val (.long q3), .second, .val (.int z8), .val (.int (0 : Int32)), .val (.int (1 : Int32)), .val (.int (1 : Int32)), .val (.int z46), .val (.ref b49), .val (.ref b58), .val (.long v66), .second, .val (.ref b396), .val (.ref b413), .val (.ref b49), .val (.ref b58), .val (.long y429), .second] [(.int (nar .boolean (nar .boolean (nar .boolean z146))))]))
                              refine own_by (fun _ k => XS.iload X450.here hx rfl (hb hby at_292) rfl k) ?_
                              show own_Go p e below _ (T450.setTop (mkF m 294 #[.val (.int p0), .val (.int p1), .val (.int p2), .val (.long q3), .second, .val (.int z8), .val (.int (0 : Int32)), .val (.int (1 : Int32)), .val (.int (1 : Int32)), .val (.int z46), .val (.ref b49), .val (.ref b58), .val (.long v66), .second, .val (.ref b396), .val (.ref b413), .val (.ref b49), .val (.ref b58), .val (.long y429), .second] [(.int z46), (.int (nar .boolean (nar .boolean (nar .boolean z146))))]))
                              by_cases c452 : (nar .boolean (nar .boolean (nar .boolean z146))) = z46
                              · skip
                                refine own_by (fun _ k => XS.icmpNo X450.here hx rfl (hb hby at_294) rfl (teq c452).2 k) ?_
                                show own_Go p e below _ (T450.setTop (mkF m 297 #[.val (.int p0), .val (.int p1), .val (.int p2), .val (.long q3), .second, .val (.int z8), .val (.int (0 : Int32)), .val (.int (1 : Int32)), .val (.int (1 : Int32)), .val (.int z46), .val (.ref b49), .val (.ref b58), .val (.long v66), .second, .val (.ref b396), .val (.ref b413), .val (.ref b49), .val (.ref b58), .val (.long y429), .second] []))
                                refine own_by (fun _ k => XS.iconst X450.here hx rfl (hb hby at_297) k) ?_
                                show own_Go p e below _ (T450.setTop (mkF m 298 #[.val (.int p0), .val (.int p1), .val (.int p2), .val (.long q3), .second, .val (.int z8), .val (.int (0 : Int32)), .val (.int (1 : Int32)), .val (.int (1 : Int32)), .val (.int z46), .val (.ref b49), .val (.ref b58), .val (.long v66), .second, .val (.ref b396), .val (.ref b413), .val (.ref b49), .val (.ref b58), .val (.long y429), .second] [(.int (1 : Int32))]))
                                refine own_by (fun _ k => XS.goto X450.here hx rfl (pc0 := 298) (pc' := 302) rfl (hb hby at_298) (by decide) (by decide) k) ?_
                                show own_Go p e below _ (T450.setTop (mkF m 302 #[.val (.int p0), .val (.int p1), .val (.int p2), .val (.long q3), .second, .val (.int z8), .val (.int (0 : Int32)), .val (.int (1 : Int32)), .val (.int (1 : Int32)), .val (.int z46), .val (.ref b49), .val (.ref b58), .val (.long v66), .second, .val (.ref b396), .val (.ref b413), .val (.ref b49), .val (.ref b58), .val (.long y429), .second] [(.int (1 : Int32))]))
                                exact own_retN X450 hx (t := .boolean) Bd.returns (by simp) (hb hby at_302) hlk eq450 ⟨rfl, N450⟩ (by decide) (by decide)
                              · skip
                                refine own_by (fun _ k => XS.icmpYes X450.here hx rfl (pc0 := 294) (pc' := 301) rfl (hb hby at_294) rfl (feq c452).2 (by decide) (by decide) k) ?_
                                show own_Go p e below _ (T450.setTop (mkF m 301 #[.val (.int p0), .val (.int p1), .val (.int p2), .val (.long q3), .second, .val (.int z8), .val (.int (0 : Int32)), .val (.int (1 : Int32)), .val (.int (1 : Int32)), .val (.int z46), .val (.ref b49), .val (.ref b58), .val (.long v66), .second, .val (.ref b396), .val (.ref b413), .val (.ref b49), .val (.ref b58), .val (.long y429), .second] []))
                                refine own_by (fun _ k => XS.iconst X450.here hx rfl (hb hby at_301) k) ?_
                                show own_Go p e below _ (T450.setTop (mkF m 302 #[.val (.int p0), .val (.int p1), .val (.int p2), .val (.long q3), .second, .val (.int z8), .val (.int (0 : Int32)), .val (.int (1 : Int32)), .val (.int (1 : Int32)), .val (.int z46), .val (.ref b49), .val (.ref b58), .val (.long v66), .second, .val (.ref b396), .val (.ref b413), .val (.ref b49), .val (.ref b58), .val (.long y429), .second] [(.int (0 : Int32))]))
                                exact own_retN X450 hx (t := .boolean) Bd.returns (by simp) (hb hby at_302) hlk eq450 ⟨((ob_0_60 p0 p1 p2 q3 z8 z46 b51 b60 v66 y94 z146 y429 o436 o443 hj9 hj18 hj28 hj38 hj47 hp56 hp65 hv66 hj126 hj178 hj430 hp437 c438 hp444 c445 c448 c452)).elim, N450⟩ (by decide) (by decide)
                            · skip
                              refine own_by (fun _ k => XS.ifYes X447.here hx rfl (pc0 := 284) (pc' := 301) rfl (hb hby at_284) rfl ((if0 _ _).trans (feq (fun q => c448 ((lw_eq _ _).mp q))).2) (by decide) (by decide) k) ?_
                              show own_Go p e below _ (T447.setTop (mkF m 301 #[.val (.int p0), .val (.int p1), .val (.int p2), .val (.long q3), .second, .val (.int z8), .val (.int (0 : Int32)), .val (.int (1 : Int32)), .val (.int (1 : Int32)), .val (.int z46), .val (.ref b49), .val (.ref b58), .val (.long v66), .second, .val (.ref b396), .val (.ref b413), .val (.ref b49), .val (.ref b58), .val (.long y429), .second] []))
                              refine own_by (fun _ k => XS.iconst X447.here hx rfl (hb hby at_301) k) ?_
                              show own_Go p e below _ (T447.setTop (mkF m 302 #[.val (.int p0), .val (.int p1), .val (.int p2), .val (.long q3), .second, .val (.int z8), .val (.int (0 : Int32)), .val (.int (1 : Int32)), .val (.int (1 : Int32)), .val (.int z46), .val (.ref b49), .val (.ref b58), .val (.long v66), .second, .val (.ref b396), .val (.ref b413), .val (.ref b49), .val (.ref b58), .val (.long y429), .second] [(.int (0 : Int32))]))
                              exact own_retN X447 hx (t := .boolean) Bd.returns (by simp) (hb hby at_302) hlk eq447 ⟨((ob_0_61 p0 p1 p2 q3 z8 z46 b51 b60 v66 y94 z146 y429 o436 o443 hj9 hj18 hj28 hj38 hj47 hp56 hp65 hv66 hj126 hj178 hj430 hp437 c438 hp444 c445 c448)).elim, N447⟩ (by decide) (by decide)
                      by_cases c422 : z8 = (0 : Int32)
                      · skip
                        refine own_by (fun _ k => XS.ifYes X412.here hx rfl (pc0 := 219) (pc' := 227) rfl (hb hby at_219) rfl ((if0 _ _).trans (teq c422).1) (by decide) (by decide) k) ?_
                        show own_Go p e below _ (T412.setTop (mkF m 227 #[.val (.int p0), .val (.int p1), .val (.int p2), .val (.long q3), .second, .val (.int z8), .val (.int (0 : Int32)), .val (.int (1 : Int32)), .val (.int (1 : Int32)), .val (.int z46), .val (.ref b49), .val (.ref b58), .val (.long v66), .second, .val (.ref b396), .val (.ref b413), .val (.ref b49), .val (.ref b58), .unset, .unset] []))
                        refine own_by (fun t k => X412.ldc2Long hx hown (mvT hZ (hwd 5 rfl)) (g := (mkF m 227 #[.val (.int p0), .val (.int p1), .val (.int p2), .val (.long q3), .second, .val (.int z8), .val (.int (0 : Int32)), .val (.int (1 : Int32)), .val (.int (1 : Int32)), .val (.int z46), .val (.ref b49), .val (.ref b58), .val (.long v66), .second, .val (.ref b396), .val (.ref b413), .val (.ref b49), .val (.ref b58), .unset, .unset] [])) rfl (hb hby at_227) _ k) ?_
                        show own_Go p e below _ (T412.setTop (mkF m 230 #[.val (.int p0), .val (.int p1), .val (.int p2), .val (.long q3), .second, .val (.int z8), .val (.int (0 : Int32)), .val (.int (1 : Int32)), .val (.int (1 : Int32)), .val (.int z46), .val (.ref b49), .val (.ref b58), .val (.long v66), .second, .val (.ref b396), .val (.ref b413), .val (.ref b49), .val (.ref b58), .unset, .unset] [(.long (9223372036854775807 : Int64))]))
                        exact J423 _ _ (9223372036854775807 : Int64) X412 rfl N412 (Or.inl ⟨c422, rfl⟩)
                      · skip
                        refine own_by (fun _ k => XS.ifNo X412.here hx rfl (hb hby at_219) rfl ((if0 _ _).trans (feq c422).1) k) ?_
                        show own_Go p e below _ (T412.setTop (mkF m 222 #[.val (.int p0), .val (.int p1), .val (.int p2), .val (.long q3), .second, .val (.int z8), .val (.int (0 : Int32)), .val (.int (1 : Int32)), .val (.int (1 : Int32)), .val (.int z46), .val (.ref b49), .val (.ref b58), .val (.long v66), .second, .val (.ref b396), .val (.ref b413), .val (.ref b49), .val (.ref b58), .unset, .unset] []))
                        refine own_by (fun _ k => XS.lload X412.here hx rfl (hb hby at_222) rfl k) ?_
                        show own_Go p e below _ (T412.setTop (mkF m 224 #[.val (.int p0), .val (.int p1), .val (.int p2), .val (.long q3), .second, .val (.int z8), .val (.int (0 : Int32)), .val (.int (1 : Int32)), .val (.int (1 : Int32)), .val (.int z46), .val (.ref b49), .val (.ref b58), .val (.long v66), .second, .val (.ref b396), .val (.ref b413), .val (.ref b49), .val (.ref b58), .unset, .unset] [(.long v66)]))
                        refine own_by (fun _ k => XS.goto X412.here hx rfl (pc0 := 224) (pc' := 230) rfl (hb hby at_224) (by decide) (by decide) k) ?_
                        show own_Go p e below _ (T412.setTop (mkF m 230 #[.val (.int p0), .val (.int p1), .val (.int p2), .val (.long q3), .second, .val (.int z8), .val (.int (0 : Int32)), .val (.int (1 : Int32)), .val (.int (1 : Int32)), .val (.int z46), .val (.ref b49), .val (.ref b58), .val (.long v66), .second, .val (.ref b396), .val (.ref b413), .val (.ref b49), .val (.ref b58), .unset, .unset] [(.long v66)]))
                        exact J423 _ _ v66 X412 rfl N412 (Or.inr (⟨c422, rfl⟩))
              by_cases c127 : z46 = (0 : Int32)
              · skip
                refine own_by (fun _ k => XS.ifYes X89.here hx rfl (pc0 := 132) (pc' := 142) rfl (hb hby at_132) rfl ((if0 _ _).trans (teq c127).1) (by decide) (by decide) k) ?_
                show own_Go p e below _ (T87.setTop (mkF m 142 #[.val (.int p0), .val (.int p1), .val (.int p2), .val (.long q3), .second, .val (.int z8), .val (.int z17), .val (.int z27), .val (.int z37), .val (.int z46), .val (.ref b49), .val (.ref b58), .val (.long v66), .second, .val (.ref r92), .unset, .unset, .unset, .unset, .unset] []))
                exact J138 _ _ _ r92 (0 : Int32) (own_mono X89 (by decide) (by decide)) e90 N91 K95 Z96 F97 F98 F99 F100 F101 F102 F103 F104 F105 F106 F107 F108 F109 F110 F111 F112 F113 F108 F109 F110 F111 F112 F113 F114 ge115 sz116 ne123 ne124 ne125 (Or.inl ⟨c127, rfl⟩)
              · skip
                refine own_by (fun _ k => XS.ifNo X89.here hx rfl (hb hby at_132) rfl ((if0 _ _).trans (feq c127).1) k) ?_
                show own_Go p e below _ (T87.setTop (mkF m 135 #[.val (.int p0), .val (.int p1), .val (.int p2), .val (.long q3), .second, .val (.int z8), .val (.int z17), .val (.int z27), .val (.int z37), .val (.int z46), .val (.ref b49), .val (.ref b58), .val (.long v66), .second, .val (.ref r92), .unset, .unset, .unset, .unset, .unset] []))
                refine own_by (fun _ k => XS.aload X89.here hx rfl (hb hby at_135) rfl rfl k) ?_
                show own_Go p e below _ (T87.setTop (mkF m 137 #[.val (.int p0), .val (.int p1), .val (.int p2), .val (.long q3), .second, .val (.int z8), .val (.int z17), .val (.int z27), .val (.int z37), .val (.int z46), .val (.ref b49), .val (.ref b58), .val (.long v66), .second, .val (.ref r92), .unset, .unset, .unset, .unset, .unset] [(.ref r92)]))
                obtain ⟨cq128, kq128, qq128a, qq128b, qq128c⟩ := isOf hZ e90 F108
                obtain ⟨_, _, ⟨T128, L128, k128, n128⟩, -, X128, ⟨Lc128, hQ128, l128, y128, z128⟩, st128⟩ := X89.virtualBack hx (y := (⟨"com/example/nested_keyspace/nestedkeyspace/ScanOptions", "reverse", "()Lcom/example/nested_keyspace/nestedkeyspace/ScanOptions;"⟩ : MethodName)) (z := (⟨"com/example/nested_keyspace/nestedkeyspace/ScanOptions", "reverse", "()Lcom/example/nested_keyspace/nestedkeyspace/ScanOptions;"⟩ : MethodName)) hown (mvT hZ (hwd 29 rfl)) (mvT hZ (hwd 30 rfl)) (notFace_of_selects (args := #[]) (mvT hZ (hwd 32 rfl))) (mvT hZ (hwd 32 rfl)) (mvT hZ (hwd 31 rfl)) (by decide) (backOf (W := 0) (rm5 l Z A0 hw [] r92 (.null) (.null) (0 : Int32) y94 h93 n0 Z96 rfl F109 rfl F110 F111 F113) hZ (hwd 33 rfl) (hwd 8 rfl) (by decide) (by decide)) qq128a qq128c (g := (mkF m 137 #[.val (.int p0), .val (.int p1), .val (.int p2), .val (.long q3), .second, .val (.int z8), .val (.int z17), .val (.int z27), .val (.int z37), .val (.int z46), .val (.ref b49), .val (.ref b58), .val (.long v66), .second, .val (.ref r92), .unset, .unset, .unset, .unset, .unset] [(.ref r92)])) rfl (by rw [hml]; rfl) (Steps.refl _) (argsL := []) (rest := []) (lenOf pd_29 rfl) rfl (by show 2 * 0 + _ ≤ _; exact Nat.le_of_eq rfl) (hb hby at_137) (fun _ _ => ⟨rfl, e90, (by decide : 4 + 1 ≤ _), (by decide : 16 + 5 ≤ _)⟩)
                dsimp only [Pt.U, Pt.locs, Pt.cells, Pt.slots] at X128 l128 y128 z128 st128 hQ128
                subst l128 y128 z128
                obtain ⟨b129, rfl, Nq128, Kq128, hp130, hp131, F132, F133, F134, F135, F136, F137⟩ := hQ128
                have N128 := Fr.app N91 Nq128
                have K128 : Keep h0 T128.heap [] := K95.trans Kq128 (all0)
                have Z128 : n0 ≤ T128.heap.size := Nat.le_trans Z96 Kq128.1
                have sz_b129 : h0.size ≤ b129 := Nat.le_trans K95.1 hp131
                refine own_by (fun _ k => st128.trans k) ?_
                show own_Go p e below _ (T128.setTop (mkF m 140 #[.val (.int p0), .val (.int p1), .val (.int p2), .val (.long q3), .second, .val (.int z8), .val (.int z17), .val (.int z27), .val (.int z37), .val (.int z46), .val (.ref b49), .val (.ref b58), .val (.long v66), .second, .val (.ref r92), .unset, .unset, .unset, .unset, .unset] [(.ref b129)]))
                refine own_by (fun _ k => XS.astore X128.here hx rfl (hb hby at_140) rfl rfl (l' := #[.val (.int p0), .val (.int p1), .val (.int p2), .val (.long q3), .second, .val (.int z8), .val (.int z17), .val (.int z27), .val (.int z37), .val (.int z46), .val (.ref b49), .val (.ref b58), .val (.long v66), .second, .val (.ref b129), .unset, .unset, .unset, .unset, .unset]) rfl k) ?_
                show own_Go p e below _ (T128.setTop (mkF m 142 #[.val (.int p0), .val (.int p1), .val (.int p2), .val (.long q3), .second, .val (.int z8), .val (.int z17), .val (.int z27), .val (.int z37), .val (.int z46), .val (.ref b49), .val (.ref b58), .val (.long v66), .second, .val (.ref b129), .unset, .unset, .unset, .unset, .unset] []))
                have F138 : Exa Z T128.heap b49 "[B" := (F97.keep Kq128)
                have F139 : own_Arf Z T128.heap b49 b50 .byte (((p0.toUInt32 >>> ((5 : Int32) &&& 31).toUInt32).toInt32) &&& (3 : Int32)) (fun i => .int (b51 i)) := (F98.keep Kq128 nin0)
                have F140 : Exa Z T128.heap b58 "[B" := (F99.keep Kq128)
                have F141 : own_Arf Z T128.heap b58 b59 .byte (((p0.toUInt32 >>> ((7 : Int32) &&& 31).toUInt32).toInt32) &&& (3 : Int32)) (fun i => .int (b60 i)) := (F100.keep Kq128 nin0)
                have F142 : Exa Z T128.heap b67 "com/example/nested_keyspace/nestedkeyspace/ScanOptions" := (F101.keep Kq128)
                have F143 : Fld Z T128.heap b67 "com/example/nested_keyspace/nestedkeyspace/ScanOptions" "from" "[B" .null := (F102.keep Kq128 nin0)
                have F144 : Fld Z T128.heap b67 "com/example/nested_keyspace/nestedkeyspace/ScanOptions" "to" "[B" .null := (F103.keep Kq128 nin0)
                have F145 : Fld Z T128.heap b67 "com/example/nested_keyspace/nestedkeyspace/ScanOptions" "subtree" "Z" (.int (0 : Int32)) := (F104.keep Kq128 nin0)
                have F146 : Fld Z T128.heap b67 "com/example/nested_keyspace/nestedkeyspace/ScanOptions" "reverse" "Z" (.int (0 : Int32)) := (F105.keep Kq128 nin0)
                have F147 : Fld Z T128.heap b67 "com/example/nested_keyspace/nestedkeyspace/ScanOptions" "limit" "J" (.long (9223372036854775807 : Int64)) := (F106.keep Kq128 nin0)
                have F148 : own_Arf Z T128.heap f_EMPTY_KEY k_f_EMPTY_KEY .byte (0 : Int32) (fun i => .int (fn_f_EMPTY_KEY i)) := (F107.keep Kq128 nin0)
                have F149 : Exa Z T128.heap r92 "com/example/nested_keyspace/nestedkeyspace/ScanOptions" := (F108.keep Kq128)
                have F150 : Fld Z T128.heap r92 "com/example/nested_keyspace/nestedkeyspace/ScanOptions" "from" "[B" .null := (F109.keep Kq128 nin0)
                have F151 : Fld Z T128.heap r92 "com/example/nested_keyspace/nestedkeyspace/ScanOptions" "to" "[B" .null := (F110.keep Kq128 nin0)
                have F152 : Fld Z T128.heap r92 "com/example/nested_keyspace/nestedkeyspace/ScanOptions" "subtree" "Z" (.int (0 : Int32)) := (F111.keep Kq128 nin0)
                have F153 : Fld Z T128.heap r92 "com/example/nested_keyspace/nestedkeyspace/ScanOptions" "reverse" "Z" (.int (0 : Int32)) := (F112.keep Kq128 nin0)
                have F154 : Fld Z T128.heap r92 "com/example/nested_keyspace/nestedkeyspace/ScanOptions" "limit" "J" (.long y94) := (F113.keep Kq128 nin0)
                have F155 : Sta Z T128.heap "com/example/nested_keyspace/nestedkeyspace/ScanOptions" "EMPTY_KEY" "[B" (.ref f_EMPTY_KEY) := (own_staKeep F114 Kq128 all0)
                exact J138 _ _ _ b129 (1 : Int32) X128 rfl N128 K128 Z128 F138 F139 F140 F141 F142 F143 F144 F145 F146 F147 F148 F149 F150 F151 F152 F153 F154 F132 F133 F134 F135 F136 F137 F155 hp130 sz_b129 (Nat.ne_of_lt (Nat.lt_of_lt_of_le (F98).lt hp131)) (Nat.ne_of_lt (Nat.lt_of_lt_of_le (F100).lt hp131)) (Nat.ne_of_lt (Nat.lt_of_lt_of_le (F107).lt hp131)) (Or.inr (⟨c127, rfl⟩))
            by_cases c75 : z8 = (0 : Int32)
            · skip
              refine own_by (fun _ k => XS.ifYes X68.here hx rfl (pc0 := 118) (pc' := 130) rfl (hb hby at_118) rfl ((if0 _ _).trans (teq c75).1) (by decide) (by decide) k) ?_
              show own_Go p e below _ (T68.setTop (mkF m 130 #[.val (.int p0), .val (.int p1), .val (.int p2), .val (.long q3), .second, .val (.int z8), .val (.int z17), .val (.int z27), .val (.int z37), .val (.int z46), .val (.ref b49), .val (.ref b58), .val (.long v66), .second, .val (.ref b67), .unset, .unset, .unset, .unset, .unset] []))
              have F76 : Exa Z T68.heap b49 "[B" := (((F54.keep Kq57).ext E67).keep Kq68)
              have F77 : own_Arf Z T68.heap b49 b50 .byte (((p0.toUInt32 >>> ((5 : Int32) &&& 31).toUInt32).toInt32) &&& (3 : Int32)) (fun i => .int (b51 i)) := (((F55.keep Kq57 nin0).ext E67).keep Kq68 (ninS (Nat.ne_of_lt (Nat.lt_of_lt_of_le ((F55.keep Kq57 nin0)).lt (Nat.le_of_eq g67.symm))) nin0))
              have F78 : Exa Z T68.heap b58 "[B" := ((F63.ext E67).keep Kq68)
              have F79 : own_Arf Z T68.heap b58 b59 .byte (((p0.toUInt32 >>> ((7 : Int32) &&& 31).toUInt32).toInt32) &&& (3 : Int32)) (fun i => .int (b60 i)) := ((F64.ext E67).keep Kq68 (ninS (Nat.ne_of_lt (Nat.lt_of_lt_of_le (F64).lt (Nat.le_of_eq g67.symm))) nin0))
              have F80 : own_Arf Z T68.heap f_EMPTY_KEY k_f_EMPTY_KEY .byte (0 : Int32) (fun i => .int (fn_f_EMPTY_KEY i)) := ((((P_V_f_EMPTY_KEY.keep Kq48 nin0).keep Kq57 nin0).ext E67).keep Kq68 (ninS (Nat.ne_of_lt (Nat.lt_of_lt_of_le (((P_V_f_EMPTY_KEY.keep Kq48 nin0).keep Kq57 nin0)).lt (Nat.le_of_eq g67.symm))) nin0))
              have F81 : Sta Z T68.heap "com/example/nested_keyspace/nestedkeyspace/ScanOptions" "EMPTY_KEY" "[B" (.ref f_EMPTY_KEY) := (own_staKeep ((own_staKeep (own_staKeep P_S_EMPTY_KEY Kq48 all0) Kq57 all0).ext E67) Kq68 (allS (own_exaPlain A67) all0))
              exact J86 _ _ _ b67 (9223372036854775807 : Int64) (own_mono X68 (by decide) (by decide)) rfl N68 K68 Z68 F76 F77 F78 F79 F69 F70 F71 F72 F73 F74 F80 F69 F70 F71 F72 F73 F74 F81 ge_b67 sz_b67 (Nat.ne_of_lt (Nat.lt_of_lt_of_le (F55).lt hp62)) (Nat.ne_of_lt (Nat.lt_of_lt_of_le ((F55.keep Kq57 nin0)).lt (Nat.le_of_eq g67.symm))) (Nat.ne_of_lt (Nat.lt_of_lt_of_le (F64).lt (Nat.le_of_eq g67.symm))) (Ne.symm (Nat.ne_of_lt (Nat.lt_of_lt_of_le (P_V_f_EMPTY_KEY).lt hp53))) (Ne.symm (Nat.ne_of_lt (Nat.lt_of_lt_of_le ((P_V_f_EMPTY_KEY.keep Kq48 nin0)).lt hp62))) (Ne.symm (Nat.ne_of_lt (Nat.lt_of_lt_of_le (((P_V_f_EMPTY_KEY.keep Kq48 nin0).keep Kq57 nin0)).lt (Nat.le_of_eq g67.symm)))) (Nat.ne_of_lt (Nat.lt_of_lt_of_le ((F55.keep Kq57 nin0)).lt (Nat.le_of_eq g67.symm))) (Nat.ne_of_lt (Nat.lt_of_lt_of_le (F64).lt (Nat.le_of_eq g67.symm))) (Nat.ne_of_lt (Nat.lt_of_lt_of_le (((P_V_f_EMPTY_KEY.keep Kq48 nin0).keep Kq57 nin0)).lt (Nat.le_of_eq g67.symm))) (Or.inl ⟨c75, rfl⟩)
            · skip
              refine own_by (fun _ k => XS.ifNo X68.here hx rfl (hb hby at_118) rfl ((if0 _ _).trans (feq c75).1) k) ?_
              show own_Go p e below _ (T68.setTop (mkF m 121 #[.val (.int p0), .val (.int p1), .val (.int p2), .val (.long q3), .second, .val (.int z8), .val (.int z17), .val (.int z27), .val (.int z37), .val (.int z46), .val (.ref b49), .val (.ref b58), .val (.long v66), .second, .val (.ref b67), .unset, .unset, .unset, .unset, .unset] []))
              refine own_by (fun _ k => XS.aload X68.here hx rfl (hb hby at_121) rfl rfl k) ?_
              show own_Go p e below _ (T68.setTop (mkF m 123 #[.val (.int p0), .val (.int p1), .val (.int p2), .val (.long q3), .second, .val (.int z8), .val (.int z17), .val (.int z27), .val (.int z37), .val (.int z46), .val (.ref b49), .val (.ref b58), .val (.long v66), .second, .val (.ref b67), .unset, .unset, .unset, .unset, .unset] [(.ref b67)]))
              refine own_by (fun _ k => XS.lload X68.here hx rfl (hb hby at_123) rfl k) ?_
              show own_Go p e below _ (T68.setTop (mkF m 125 #[.val (.int p0), .val (.int p1), .val (.int p2), .val (.long q3), .second, .val (.int z8), .val (.int z17), .val (.int z27), .val (.int z37), .val (.int z46), .val (.ref b49), .val (.ref b58), .val (.long v66), .second, .val (.ref b67), .unset, .unset, .unset, .unset, .unset] [(.long v66), (.ref b67)]))
              obtain ⟨cq76, kq76, qq76a, qq76b, qq76c⟩ := isOf hZ rfl F69
              obtain ⟨_, _, ⟨T76, L76, k76, n76⟩, -, X76, ⟨Lc76, hQ76, l76, y76, z76⟩, st76⟩ := X68.virtualBack hx (y := (⟨"com/example/nested_keyspace/nestedkeyspace/ScanOptions", "limit", "(J)Lcom/example/nested_keyspace/nestedkeyspace/ScanOptions;"⟩ : MethodName)) (z := (⟨"com/example/nested_keyspace/nestedkeyspace/ScanOptions", "limit", "(J)Lcom/example/nested_keyspace/nestedkeyspace/ScanOptions;"⟩ : MethodName)) hown (mvT hZ (hwd 88 rfl)) (mvT hZ (hwd 89 rfl)) (notFace_of_selects (args := #[]) (mvT hZ (hwd 91 rfl))) (mvT hZ (hwd 91 rfl)) (mvT hZ (hwd 90 rfl)) (by decide) (backOf (W := 0) (rm15 l Z A0 hw [] b67 v66 (.null) (.null) (0 : Int32) T68.heap n0 Z68 F72 (ob_0_62 p0 p1 p2 q3 z8 z17 z27 z37 z46 b51 b60 v66 hj9 hj18 hj28 hj38 hj47 hp56 hp65 hv66 c75) rfl F70 rfl F71 F73) hZ (hwd 92 rfl) (hwd 8 rfl) (by decide) (by decide)) qq76a qq76c (g := (mkF m 125 #[.val (.int p0), .val (.int p1), .val (.int p2), .val (.long q3), .second, .val (.int z8), .val (.int z17), .val (.int z27), .val (.int z37), .val (.int z46), .val (.ref b49), .val (.ref b58), .val (.long v66), .second, .val (.ref b67), .unset, .unset, .unset, .unset, .unset] [(.long v66), (.ref b67)])) rfl (by rw [hml]; rfl) (Steps.refl _) (argsL := [(.long v66)]) (rest := []) (lenOf pd_88 rfl) rfl (by show 2 * 0 + _ ≤ _; exact Nat.le_of_eq rfl) (hb hby at_125) (fun _ _ => ⟨rfl, rfl, (by decide : 3 + 1 ≤ _), (by decide : 11 + 5 ≤ _)⟩)
              dsimp only [Pt.U, Pt.locs, Pt.cells, Pt.slots] at X76 l76 y76 z76 st76 hQ76
              subst l76 y76 z76
              obtain ⟨b77, rfl, Nq76, Kq76, hp78, hp79, F80, F81, F82, F83, F84, F85⟩ := hQ76
              have N76 := Fr.app N68 Nq76
              have K76 : Keep h0 T76.heap [] := K68.trans Kq76 (all0)
              have Z76 : n0 ≤ T76.heap.size := Nat.le_trans Z68 Kq76.1
              have sz_b77 : h0.size ≤ b77 := Nat.le_trans K68.1 hp79
              refine own_by (fun _ k => st76.trans k) ?_
              show own_Go p e below _ (T76.setTop (mkF m 128 #[.val (.int p0), .val (.int p1), .val (.int p2), .val (.long q3), .second, .val (.int z8), .val (.int z17), .val (.int z27), .val (.int z37), .val (.int z46), .val (.ref b49), .val (.ref b58), .val (.long v66), .second, .val (.ref b67), .unset, .unset, .unset, .unset, .unset] [(.ref b77)]))
              refine own_by (fun _ k => XS.astore X76.here hx rfl (hb hby at_128) rfl rfl (l' := #[.val (.int p0), .val (.int p1), .val (.int p2), .val (.long q3), .second, .val (.int z8), .val (.int z17), .val (.int z27), .val (.int z37), .val (.int z46), .val (.ref b49), .val (.ref b58), .val (.long v66), .second, .val (.ref b77), .unset, .unset, .unset, .unset, .unset]) rfl k) ?_
              show own_Go p e below _ (T76.setTop (mkF m 130 #[.val (.int p0), .val (.int p1), .val (.int p2), .val (.long q3), .second, .val (.int z8), .val (.int z17), .val (.int z27), .val (.int z37), .val (.int z46), .val (.ref b49), .val (.ref b58), .val (.long v66), .second, .val (.ref b77), .unset, .unset, .unset, .unset, .unset] []))
              have F86 : Exa Z T76.heap b49 "[B" := ((((F54.keep Kq57).ext E67).keep Kq68).keep Kq76)
              have F87 : own_Arf Z T76.heap b49 b50 .byte (((p0.toUInt32 >>> ((5 : Int32) &&& 31).toUInt32).toInt32) &&& (3 : Int32)) (fun i => .int (b51 i)) := ((((F55.keep Kq57 nin0).ext E67).keep Kq68 (ninS (Nat.ne_of_lt (Nat.lt_of_lt_of_le ((F55.keep Kq57 nin0)).lt (Nat.le_of_eq g67.symm))) nin0)).keep Kq76 nin0)
              have F88 : Exa Z T76.heap b58 "[B" := (((F63.ext E67).keep Kq68).keep Kq76)
              have F89 : own_Arf Z T76.heap b58 b59 .byte (((p0.toUInt32 >>> ((7 : Int32) &&& 31).toUInt32).toInt32) &&& (3 : Int32)) (fun i => .int (b60 i)) := (((F64.ext E67).keep Kq68 (ninS (Nat.ne_of_lt (Nat.lt_of_lt_of_le (F64).lt (Nat.le_of_eq g67.symm))) nin0)).keep Kq76 nin0)
              have F90 : Exa Z T76.heap b67 "com/example/nested_keyspace/nestedkeyspace/ScanOptions" := (F69.keep Kq76)
              have F91 : Fld Z T76.heap b67 "com/example/nested_keyspace/nestedkeyspace/ScanOptions" "from" "[B" .null := (F70.keep Kq76 nin0)
              have F92 : Fld Z T76.heap b67 "com/example/nested_keyspace/nestedkeyspace/ScanOptions" "to" "[B" .null := (F71.keep Kq76 nin0)
              have F93 : Fld Z T76.heap b67 "com/example/nested_keyspace/nestedkeyspace/ScanOptions" "subtree" "Z" (.int (0 : Int32)) := (F72.keep Kq76 nin0)
              have F94 : Fld Z T76.heap b67 "com/example/nested_keyspace/nestedkeyspace/ScanOptions" "reverse" "Z" (.int (0 : Int32)) := (F73.keep Kq76 nin0)
              have F95 : Fld Z T76.heap b67 "com/example/nested_keyspace/nestedkeyspace/ScanOptions" "limit" "J" (.long (9223372036854775807 : Int64)) := (F74.keep Kq76 nin0)
              have F96 : own_Arf Z T76.heap f_EMPTY_KEY k_f_EMPTY_KEY .byte (0 : Int32) (fun i => .int (fn_f_EMPTY_KEY i)) := (((((P_V_f_EMPTY_KEY.keep Kq48 nin0).keep Kq57 nin0).ext E67).keep Kq68 (ninS (Nat.ne_of_lt (Nat.lt_of_lt_of_le (((P_V_f_EMPTY_KEY.keep Kq48 nin0).keep Kq57 nin0)).lt (Nat.le_of_eq g67.symm))) nin0)).keep Kq76 nin0)
              have F97 : Sta Z T76.heap "com/example/nested_keyspace/nestedkeyspace/ScanOptions" "EMPTY_KEY" "[B" (.ref f_EMPTY_KEY) := (own_staKeep (own_staKeep ((own_staKeep (own_staKeep P_S_EMPTY_KEY Kq48 all0) Kq57 all0).ext E67) Kq68 (allS (own_exaPlain A67) all0)) Kq76 all0)
              exact J86 _ _ _ b77 v66 X76 rfl N76 K76 Z76 F86 F87 F88 F89 F90 F91 F92 F93 F94 F95 F96 F80 F81 F82 F83 F84 F85 F97 hp78 sz_b77 (Nat.ne_of_lt (Nat.lt_of_lt_of_le (F55).lt hp62)) (Nat.ne_of_lt (Nat.lt_of_lt_of_le ((F55.keep Kq57 nin0)).lt (Nat.le_of_eq g67.symm))) (Nat.ne_of_lt (Nat.lt_of_lt_of_le (F64).lt (Nat.le_of_eq g67.symm))) (Ne.symm (Nat.ne_of_lt (Nat.lt_of_lt_of_le (P_V_f_EMPTY_KEY).lt hp53))) (Ne.symm (Nat.ne_of_lt (Nat.lt_of_lt_of_le ((P_V_f_EMPTY_KEY.keep Kq48 nin0)).lt hp62))) (Ne.symm (Nat.ne_of_lt (Nat.lt_of_lt_of_le (((P_V_f_EMPTY_KEY.keep Kq48 nin0).keep Kq57 nin0)).lt (Nat.le_of_eq g67.symm)))) (Nat.ne_of_lt (Nat.lt_of_lt_of_le ((((F55.keep Kq57 nin0).ext E67).keep Kq68 (ninS (Nat.ne_of_lt (Nat.lt_of_lt_of_le ((F55.keep Kq57 nin0)).lt (Nat.le_of_eq g67.symm))) nin0))).lt hp79)) (Nat.ne_of_lt (Nat.lt_of_lt_of_le (((F64.ext E67).keep Kq68 (ninS (Nat.ne_of_lt (Nat.lt_of_lt_of_le (F64).lt (Nat.le_of_eq g67.symm))) nin0))).lt hp79)) (Nat.ne_of_lt (Nat.lt_of_lt_of_le (((((P_V_f_EMPTY_KEY.keep Kq48 nin0).keep Kq57 nin0).ext E67).keep Kq68 (ninS (Nat.ne_of_lt (Nat.lt_of_lt_of_le (((P_V_f_EMPTY_KEY.keep Kq48 nin0).keep Kq57 nin0)).lt (Nat.le_of_eq g67.symm))) nin0))).lt hp79)) (Or.inr (⟨c75, rfl⟩))
          by_cases c39 : (p0 &&& (16 : Int32)) = (0 : Int32)
          · skip
            refine own_by (fun _ k => XS.ifYes X34.here hx rfl (pc0 := 67) (pc' := 74) rfl (hb hby at_67) rfl ((if0 _ _).trans (teq c39).1) (by decide) (by decide) k) ?_
            show own_Go p e below _ (T32.setTop (mkF m 74 #[.val (.int p0), .val (.int p1), .val (.int p2), .val (.long q3), .second, .val (.int z8), .val (.int z17), .val (.int z27), .val (.int z37), .unset, .unset, .unset, .unset, .unset, .unset, .unset, .unset, .unset, .unset, .unset] []))
            refine own_by (fun _ k => XS.iconst X34.here hx rfl (hb hby at_74) k) ?_
            show own_Go p e below _ (T32.setTop (mkF m 75 #[.val (.int p0), .val (.int p1), .val (.int p2), .val (.long q3), .second, .val (.int z8), .val (.int z17), .val (.int z27), .val (.int z37), .unset, .unset, .unset, .unset, .unset, .unset, .unset, .unset, .unset, .unset, .unset] [(.int (0 : Int32))]))
            exact J40 _ _ (0 : Int32) X34 e35 N36 (Or.inl ⟨c39, rfl⟩)
          · skip
            refine own_by (fun _ k => XS.ifNo X34.here hx rfl (hb hby at_67) rfl ((if0 _ _).trans (feq c39).1) k) ?_
            show own_Go p e below _ (T32.setTop (mkF m 70 #[.val (.int p0), .val (.int p1), .val (.int p2), .val (.long q3), .second, .val (.int z8), .val (.int z17), .val (.int z27), .val (.int z37), .unset, .unset, .unset, .unset, .unset, .unset, .unset, .unset, .unset, .unset, .unset] []))
            refine own_by (fun _ k => XS.iconst X34.here hx rfl (hb hby at_70) k) ?_
            show own_Go p e below _ (T32.setTop (mkF m 71 #[.val (.int p0), .val (.int p1), .val (.int p2), .val (.long q3), .second, .val (.int z8), .val (.int z17), .val (.int z27), .val (.int z37), .unset, .unset, .unset, .unset, .unset, .unset, .unset, .unset, .unset, .unset, .unset] [(.int (1 : Int32))]))
            refine own_by (fun _ k => XS.goto X34.here hx rfl (pc0 := 71) (pc' := 75) rfl (hb hby at_71) (by decide) (by decide) k) ?_
            show own_Go p e below _ (T32.setTop (mkF m 75 #[.val (.int p0), .val (.int p1), .val (.int p2), .val (.long q3), .second, .val (.int z8), .val (.int z17), .val (.int z27), .val (.int z37), .unset, .unset, .unset, .unset, .unset, .unset, .unset, .unset, .unset, .unset, .unset] [(.int (1 : Int32))]))
            exact J40 _ _ (1 : Int32) X34 e35 N36 (Or.inr (⟨c39, rfl⟩))
        by_cases c29 : z17 = (0 : Int32)
        · skip
          refine own_by (fun _ k => XS.ifNo X24.here hx rfl (hb hby at_46) rfl ((if0 _ _).trans (teq c29).2) k) ?_
          show own_Go p e below _ (T22.setTop (mkF m 49 #[.val (.int p0), .val (.int p1), .val (.int p2), .val (.long q3), .second, .val (.int z8), .val (.int z17), .val (.int z27), .unset, .unset, .unset, .unset, .unset, .unset, .unset, .unset, .unset, .unset, .unset, .unset] []))
          refine own_by (fun _ k => XS.iloadN X24.here hx rfl (hb hby at_49) rfl k) ?_
          show own_Go p e below _ (T22.setTop (mkF m 50 #[.val (.int p0), .val (.int p1), .val (.int p2), .val (.long q3), .second, .val (.int z8), .val (.int z17), .val (.int z27), .unset, .unset, .unset, .unset, .unset, .unset, .unset, .unset, .unset, .unset, .unset, .unset] [(.int p0)]))
          refine own_by (fun _ k => XS.bipush X24.here hx rfl (hb hby at_50) k) ?_
          show own_Go p e below _ (T22.setTop (mkF m 52 #[.val (.int p0), .val (.int p1), .val (.int p2), .val (.long q3), .second, .val (.int z8), .val (.int z17), .val (.int z27), .unset, .unset, .unset, .unset, .unset, .unset, .unset, .unset, .unset, .unset, .unset, .unset] [(.int (8 : Int32)), (.int p0)]))
          refine own_by (fun _ k => XS.iand X24.here hx rfl (hb hby at_52) rfl k) ?_
          show own_Go p e below _ (T22.setTop (mkF m 53 #[.val (.int p0), .val (.int p1), .val (.int p2), .val (.long q3), .second, .val (.int z8), .val (.int z17), .val (.int z27), .unset, .unset, .unset, .unset, .unset, .unset, .unset, .unset, .unset, .unset, .unset, .unset] [(.int (p0 &&& (8 : Int32)))]))
          by_cases c30 : (p0 &&& (8 : Int32)) = (0 : Int32)
          · skip
            refine own_by (fun _ k => XS.ifYes X24.here hx rfl (pc0 := 53) (pc' := 60) rfl (hb hby at_53) rfl ((if0 _ _).trans (teq c30).1) (by decide) (by decide) k) ?_
            show own_Go p e below _ (T22.setTop (mkF m 60 #[.val (.int p0), .val (.int p1), .val (.int p2), .val (.long q3), .second, .val (.int z8), .val (.int z17), .val (.int z27), .unset, .unset, .unset, .unset, .unset, .unset, .unset, .unset, .unset, .unset, .unset, .unset] []))
            refine own_by (fun _ k => XS.iconst X24.here hx rfl (hb hby at_60) k) ?_
            show own_Go p e below _ (T22.setTop (mkF m 61 #[.val (.int p0), .val (.int p1), .val (.int p2), .val (.long q3), .second, .val (.int z8), .val (.int z17), .val (.int z27), .unset, .unset, .unset, .unset, .unset, .unset, .unset, .unset, .unset, .unset, .unset, .unset] [(.int (0 : Int32))]))
            exact J31 _ _ (0 : Int32) X24 e25 N26 (Or.inl ⟨c29, c30, rfl⟩)
          · skip
            refine own_by (fun _ k => XS.ifNo X24.here hx rfl (hb hby at_53) rfl ((if0 _ _).trans (feq c30).1) k) ?_
            show own_Go p e below _ (T22.setTop (mkF m 56 #[.val (.int p0), .val (.int p1), .val (.int p2), .val (.long q3), .second, .val (.int z8), .val (.int z17), .val (.int z27), .unset, .unset, .unset, .unset, .unset, .unset, .unset, .unset, .unset, .unset, .unset, .unset] []))
            refine own_by (fun _ k => XS.iconst X24.here hx rfl (hb hby at_56) k) ?_
            show own_Go p e below _ (T22.setTop (mkF m 57 #[.val (.int p0), .val (.int p1), .val (.int p2), .val (.long q3), .second, .val (.int z8), .val (.int z17), .val (.int z27), .unset, .unset, .unset, .unset, .unset, .unset, .unset, .unset, .unset, .unset, .unset, .unset] [(.int (1 : Int32))]))
            refine own_by (fun _ k => XS.goto X24.here hx rfl (pc0 := 57) (pc' := 61) rfl (hb hby at_57) (by decide) (by decide) k) ?_
            show own_Go p e below _ (T22.setTop (mkF m 61 #[.val (.int p0), .val (.int p1), .val (.int p2), .val (.long q3), .second, .val (.int z8), .val (.int z17), .val (.int z27), .unset, .unset, .unset, .unset, .unset, .unset, .unset, .unset, .unset, .unset, .unset, .unset] [(.int (1 : Int32))]))
            exact J31 _ _ (1 : Int32) X24 e25 N26 (Or.inr (Or.inl ⟨c29, c30, rfl⟩))
        · skip
          refine own_by (fun _ k => XS.ifYes X24.here hx rfl (pc0 := 46) (pc' := 60) rfl (hb hby at_46) rfl ((if0 _ _).trans (feq c29).2) (by decide) (by decide) k) ?_
          show own_Go p e below _ (T22.setTop (mkF m 60 #[.val (.int p0), .val (.int p1), .val (.int p2), .val (.long q3), .second, .val (.int z8), .val (.int z17), .val (.int z27), .unset, .unset, .unset, .unset, .unset, .unset, .unset, .unset, .unset, .unset, .unset, .unset] []))
          refine own_by (fun _ k => XS.iconst X24.here hx rfl (hb hby at_60) k) ?_
          show own_Go p e below _ (T22.setTop (mkF m 61 #[.val (.int p0), .val (.int p1), .val (.int p2), .val (.long q3), .second, .val (.int z8), .val (.int z17), .val (.int z27), .unset, .unset, .unset, .unset, .unset, .unset, .unset, .unset, .unset, .unset, .unset, .unset] [(.int (0 : Int32))]))
          exact J31 _ _ (0 : Int32) X24 e25 N26 (Or.inr (Or.inr (⟨c29, rfl⟩)))
      by_cases c19 : z17 = (0 : Int32)
      · skip
        refine own_by (fun _ k => XS.ifNo X14.here hx rfl (hb hby at_28) rfl ((if0 _ _).trans (teq c19).2) k) ?_
        show own_Go p e below _ (T12.setTop (mkF m 31 #[.val (.int p0), .val (.int p1), .val (.int p2), .val (.long q3), .second, .val (.int z8), .val (.int z17), .unset, .unset, .unset, .unset, .unset, .unset, .unset, .unset, .unset, .unset, .unset, .unset, .unset] []))
        refine own_by (fun _ k => XS.iloadN X14.here hx rfl (hb hby at_31) rfl k) ?_
        show own_Go p e below _ (T12.setTop (mkF m 32 #[.val (.int p0), .val (.int p1), .val (.int p2), .val (.long q3), .second, .val (.int z8), .val (.int z17), .unset, .unset, .unset, .unset, .unset, .unset, .unset, .unset, .unset, .unset, .unset, .unset, .unset] [(.int p0)]))
        refine own_by (fun _ k => XS.iconst X14.here hx rfl (hb hby at_32) k) ?_
        show own_Go p e below _ (T12.setTop (mkF m 33 #[.val (.int p0), .val (.int p1), .val (.int p2), .val (.long q3), .second, .val (.int z8), .val (.int z17), .unset, .unset, .unset, .unset, .unset, .unset, .unset, .unset, .unset, .unset, .unset, .unset, .unset] [(.int (4 : Int32)), (.int p0)]))
        refine own_by (fun _ k => XS.iand X14.here hx rfl (hb hby at_33) rfl k) ?_
        show own_Go p e below _ (T12.setTop (mkF m 34 #[.val (.int p0), .val (.int p1), .val (.int p2), .val (.long q3), .second, .val (.int z8), .val (.int z17), .unset, .unset, .unset, .unset, .unset, .unset, .unset, .unset, .unset, .unset, .unset, .unset, .unset] [(.int (p0 &&& (4 : Int32)))]))
        by_cases c20 : (p0 &&& (4 : Int32)) = (0 : Int32)
        · skip
          refine own_by (fun _ k => XS.ifYes X14.here hx rfl (pc0 := 34) (pc' := 41) rfl (hb hby at_34) rfl ((if0 _ _).trans (teq c20).1) (by decide) (by decide) k) ?_
          show own_Go p e below _ (T12.setTop (mkF m 41 #[.val (.int p0), .val (.int p1), .val (.int p2), .val (.long q3), .second, .val (.int z8), .val (.int z17), .unset, .unset, .unset, .unset, .unset, .unset, .unset, .unset, .unset, .unset, .unset, .unset, .unset] []))
          refine own_by (fun _ k => XS.iconst X14.here hx rfl (hb hby at_41) k) ?_
          show own_Go p e below _ (T12.setTop (mkF m 42 #[.val (.int p0), .val (.int p1), .val (.int p2), .val (.long q3), .second, .val (.int z8), .val (.int z17), .unset, .unset, .unset, .unset, .unset, .unset, .unset, .unset, .unset, .unset, .unset, .unset, .unset] [(.int (0 : Int32))]))
          exact J21 _ _ (0 : Int32) X14 e15 N16 (Or.inl ⟨c19, c20, rfl⟩)
        · skip
          refine own_by (fun _ k => XS.ifNo X14.here hx rfl (hb hby at_34) rfl ((if0 _ _).trans (feq c20).1) k) ?_
          show own_Go p e below _ (T12.setTop (mkF m 37 #[.val (.int p0), .val (.int p1), .val (.int p2), .val (.long q3), .second, .val (.int z8), .val (.int z17), .unset, .unset, .unset, .unset, .unset, .unset, .unset, .unset, .unset, .unset, .unset, .unset, .unset] []))
          refine own_by (fun _ k => XS.iconst X14.here hx rfl (hb hby at_37) k) ?_
          show own_Go p e below _ (T12.setTop (mkF m 38 #[.val (.int p0), .val (.int p1), .val (.int p2), .val (.long q3), .second, .val (.int z8), .val (.int z17), .unset, .unset, .unset, .unset, .unset, .unset, .unset, .unset, .unset, .unset, .unset, .unset, .unset] [(.int (1 : Int32))]))
          refine own_by (fun _ k => XS.goto X14.here hx rfl (pc0 := 38) (pc' := 42) rfl (hb hby at_38) (by decide) (by decide) k) ?_
          show own_Go p e below _ (T12.setTop (mkF m 42 #[.val (.int p0), .val (.int p1), .val (.int p2), .val (.long q3), .second, .val (.int z8), .val (.int z17), .unset, .unset, .unset, .unset, .unset, .unset, .unset, .unset, .unset, .unset, .unset, .unset, .unset] [(.int (1 : Int32))]))
          exact J21 _ _ (1 : Int32) X14 e15 N16 (Or.inr (Or.inl ⟨c19, c20, rfl⟩))
      · skip
        refine own_by (fun _ k => XS.ifYes X14.here hx rfl (pc0 := 28) (pc' := 41) rfl (hb hby at_28) rfl ((if0 _ _).trans (feq c19).2) (by decide) (by decide) k) ?_
        show own_Go p e below _ (T12.setTop (mkF m 41 #[.val (.int p0), .val (.int p1), .val (.int p2), .val (.long q3), .second, .val (.int z8), .val (.int z17), .unset, .unset, .unset, .unset, .unset, .unset, .unset, .unset, .unset, .unset, .unset, .unset, .unset] []))
        refine own_by (fun _ k => XS.iconst X14.here hx rfl (hb hby at_41) k) ?_
        show own_Go p e below _ (T12.setTop (mkF m 42 #[.val (.int p0), .val (.int p1), .val (.int p2), .val (.long q3), .second, .val (.int z8), .val (.int z17), .unset, .unset, .unset, .unset, .unset, .unset, .unset, .unset, .unset, .unset, .unset, .unset, .unset] [(.int (0 : Int32))]))
        exact J21 _ _ (0 : Int32) X14 e15 N16 (Or.inr (Or.inr (⟨c19, rfl⟩)))
    by_cases c10 : (p0 &&& (2 : Int32)) = (0 : Int32)
    · skip
      refine own_by (fun _ k => XS.ifYes X5.here hx rfl (pc0 := 16) (pc' := 23) rfl (hb hby at_16) rfl ((if0 _ _).trans (teq c10).1) (by decide) (by decide) k) ?_
      show own_Go p e below _ (T3.setTop (mkF m 23 #[.val (.int p0), .val (.int p1), .val (.int p2), .val (.long q3), .second, .val (.int z8), .unset, .unset, .unset, .unset, .unset, .unset, .unset, .unset, .unset, .unset, .unset, .unset, .unset, .unset] []))
      refine own_by (fun _ k => XS.iconst X5.here hx rfl (hb hby at_23) k) ?_
      show own_Go p e below _ (T3.setTop (mkF m 24 #[.val (.int p0), .val (.int p1), .val (.int p2), .val (.long q3), .second, .val (.int z8), .unset, .unset, .unset, .unset, .unset, .unset, .unset, .unset, .unset, .unset, .unset, .unset, .unset, .unset] [(.int (0 : Int32))]))
      exact J11 _ _ (0 : Int32) X5 e6 N7 (Or.inl ⟨c10, rfl⟩)
    · skip
      refine own_by (fun _ k => XS.ifNo X5.here hx rfl (hb hby at_16) rfl ((if0 _ _).trans (feq c10).1) k) ?_
      show own_Go p e below _ (T3.setTop (mkF m 19 #[.val (.int p0), .val (.int p1), .val (.int p2), .val (.long q3), .second, .val (.int z8), .unset, .unset, .unset, .unset, .unset, .unset, .unset, .unset, .unset, .unset, .unset, .unset, .unset, .unset] []))
      refine own_by (fun _ k => XS.iconst X5.here hx rfl (hb hby at_19) k) ?_
      show own_Go p e below _ (T3.setTop (mkF m 20 #[.val (.int p0), .val (.int p1), .val (.int p2), .val (.long q3), .second, .val (.int z8), .unset, .unset, .unset, .unset, .unset, .unset, .unset, .unset, .unset, .unset, .unset, .unset, .unset, .unset] [(.int (1 : Int32))]))
      refine own_by (fun _ k => XS.goto X5.here hx rfl (pc0 := 20) (pc' := 24) rfl (hb hby at_20) (by decide) (by decide) k) ?_
      show own_Go p e below _ (T3.setTop (mkF m 24 #[.val (.int p0), .val (.int p1), .val (.int p2), .val (.long q3), .second, .val (.int z8), .unset, .unset, .unset, .unset, .unset, .unset, .unset, .unset, .unset, .unset, .unset, .unset, .unset, .unset] [(.int (1 : Int32))]))
      exact J11 _ _ (1 : Int32) X5 e6 N7 (Or.inr (⟨c10, rfl⟩))
  by_cases c1 : (p0 &&& (1 : Int32)) = (0 : Int32)
  · skip
    refine own_by (fun _ k => XS.ifYes X0.here hx rfl (pc0 := 3) (pc' := 10) rfl (hb hby at_3) rfl ((if0 _ _).trans (teq c1).1) (by decide) (by decide) k) ?_
    show own_Go p e below _ (s₁.setTop (mkF m 10 #[.val (.int p0), .val (.int p1), .val (.int p2), .val (.long q3), .second, .unset, .unset, .unset, .unset, .unset, .unset, .unset, .unset, .unset, .unset, .unset, .unset, .unset, .unset, .unset] []))
    refine own_by (fun _ k => XS.iconst X0.here hx rfl (hb hby at_10) k) ?_
    show own_Go p e below _ (s₁.setTop (mkF m 11 #[.val (.int p0), .val (.int p1), .val (.int p2), .val (.long q3), .second, .unset, .unset, .unset, .unset, .unset, .unset, .unset, .unset, .unset, .unset, .unset, .unset, .unset, .unset, .unset] [(.int (0 : Int32))]))
    exact J2 _ _ (0 : Int32) X0 e0 N0 (Or.inl ⟨c1, rfl⟩)
  · skip
    refine own_by (fun _ k => XS.ifNo X0.here hx rfl (hb hby at_3) rfl ((if0 _ _).trans (feq c1).1) k) ?_
    show own_Go p e below _ (s₁.setTop (mkF m 6 #[.val (.int p0), .val (.int p1), .val (.int p2), .val (.long q3), .second, .unset, .unset, .unset, .unset, .unset, .unset, .unset, .unset, .unset, .unset, .unset, .unset, .unset, .unset, .unset] []))
    refine own_by (fun _ k => XS.iconst X0.here hx rfl (hb hby at_6) k) ?_
    show own_Go p e below _ (s₁.setTop (mkF m 7 #[.val (.int p0), .val (.int p1), .val (.int p2), .val (.long q3), .second, .unset, .unset, .unset, .unset, .unset, .unset, .unset, .unset, .unset, .unset, .unset, .unset, .unset, .unset, .unset] [(.int (1 : Int32))]))
    refine own_by (fun _ k => XS.goto X0.here hx rfl (pc0 := 7) (pc' := 11) rfl (hb hby at_7) (by decide) (by decide) k) ?_
    show own_Go p e below _ (s₁.setTop (mkF m 11 #[.val (.int p0), .val (.int p1), .val (.int p2), .val (.long q3), .second, .unset, .unset, .unset, .unset, .unset, .unset, .unset, .unset, .unset, .unset, .unset, .unset, .unset, .unset, .unset] [(.int (1 : Int32))]))
    exact J2 _ _ (1 : Int32) X0 e0 N0 (Or.inr (⟨c1, rfl⟩))
set_option maxRecDepth 65536 in
set_option maxHeartbeats 40000000 in
theorem comes_1 {Post : Tables → Env → Array Value → State → Outcome → State → Prop} (hpost : ∀ tb e args s v u, (limb_1_1.after args s (.returned v) u = true ∧ limb_1_2.after args s (.returned v) u = true ∧ True) → FrameEnd s (.returned v) u (Jvm.fieldLocs frame_1_writes args s ++ Jvm.arrayLocs frame_1_arrays args s ++ Jvm.staticLocs frame_1_statics s) 32 192 → Post tb e args s (.returned v) u) :
    ArmFor flags0 classFile x code maxLocals ret World_1 tables_1 room_1 Calls_1 rest_1 Pre_1 Post := by
  intro l hfl _ _ p e ha hc hk s m args below hf hA hF happ hP
  obtain ⟨hcalls, hrest, hpre⟩ := hP
  obtain ⟨-, -, -, hnamed, -, -, -, hat⟩ := (Spec.applies_iff hf).mp happ
  obtain ⟨hg, hn⟩ := and_e (Cond.before_iff.mp (show (Jvm.Cond.and given_1 narrow_1).before args s = true from hpre))
  obtain ⟨g0, r0⟩ := and_e hg
  obtain ⟨ga0, r1⟩ := and_e r0
  obtain ⟨ga1, r2⟩ := and_e r1
  obtain ⟨ga2, r3⟩ := and_e r2
  obtain ⟨w0, w1, w2, w3, rfl⟩ : ∃ w0 w1 w2 w3 : Value, args = #[w0, w1, w2, w3] := by
    have hs : args.size = 4 := by simpa [Cond.value, given_1] using g0
    obtain ⟨L⟩ := args
    match L, hs with
    | [w0, w1, w2, w3], _ => exact ⟨w0, w1, w2, w3, rfl⟩
  have hw := fun d (hd : d ∈ tables_1) => atoms_spec (ws := Jvm.Cond.code x code maxLocals ret :: tables_1) hat d (List.mem_cons_of_mem _ hd)
  have hwd := fun i {d : Jvm.Cond} (h : tables_1[i]? = some d) => hw d (List.mem_of_getElem? h)
  have hfit : Fit s := fun {y c} hc i hi => by
    obtain ⟨ha, rfl⟩ := Array.getElem?_eq_some_iff.mp hc
    have q := List.all_eq_true.mp ((Array.all_eq_true_iff_forall_mem.mp hF) _ (Array.getElem_mem ha)) i (List.mem_range.mpr hi)
    simpa [Array.getElem?_eq_getElem hi] using q
  obtain ⟨i0, ei0⟩ := is_v ga0
  obtain rfl : w0 = (.int i0) := Option.some.inj ei0
  obtain ⟨i1, ei1⟩ := is_v ga1
  obtain rfl : w1 = (.int i1) := Option.some.inj ei1
  obtain ⟨i2, ei2⟩ := is_v ga2
  obtain rfl : w2 = (.int i2) := Option.some.inj ei2
  obtain ⟨i3, ei3⟩ := isL_v r3
  obtain rfl : w3 = (.long i3) := Option.some.inj ei3
  obtain ⟨xn0, rn0⟩ := and_e hn
  obtain ⟨f_EMPTY_KEY, ev0⟩ := arr_v xn0
  obtain ⟨kE, hE⟩ := own_empty xn0 rn0 ev0
  obtain ⟨n, o, h1, h2, h3, _, L, rfl, ⟨rfl, N⟩, hq⟩ := rm0 l s _ hw tables_1 f_EMPTY_KEY kE (fun _ => (0 : Int32)) i0 i1 i2 i3 s.heap s.heap.size (Nat.le_refl _) (Sta.start ev0 (Or.inr ⟨(hwd 8 rfl), (hwd 46 rfl)⟩)) (hE _) p e ha hc hk s m _ below hf ((Spec.applies_iff_loose hf).mp happ).1 ⟨rfl, State.Warmed39.refl s, rfl⟩ trivial
  refine ⟨n, _, h1, h2, h3, hpost _ _ _ _ _ _ ⟨Cond.after_iff.mpr rfl, Cond.after_iff.mpr (eq_i res_at (Term.int_eval (1)) rfl), trivial⟩ ⟨hq.1, hq.2.1, (hq.2.2.sift fun y hy => Or.inr (N y hy)).mono (by decide) (by decide)⟩⟩
theorem main_1_1 : Claimed_1_1 := comes_1 fun _ _ _ _ _ _ h hF => ⟨h.1, hF⟩
theorem main_1_2 : Claimed_1_2 := comes_1 fun _ _ _ _ _ _ h hF => ⟨h.2.1, hF⟩
end Jvm.Pilot.@@N@@
namespace Jvm.Pilot.@@N@@
open Jvm Jvm.ClassFile Sem Op Lib Jvm.Free Jvm.Stand Jvm.Pilot.@@N@@.Jvm.D
/-! MADE BY PROGRAM (witnessworld.py) out of the Statement's table words and the real class files: 9 classes; the members and pool entries that the words name. The judged class is class 1, her method 1. -/
namespace start1
open Jvm.ClassFile
def u (s : String) : CpInfo := .utf8 (stringToUtf16 s)
/-- a pool by its gaps: so many unusable entries, then the entry; so many at the end -/
def gap : Nat → List CpInfo → List CpInfo
  | 0, r => r
  | n + 1, r => .unusable :: gap n r
def poolList (es : List (Nat × CpInfo)) (last : Nat) : List CpInfo := es.foldr (fun e r => gap e.1 (e.2 :: r)) (gap last [])
def pool (es : List (Nat × CpInfo)) (last : Nat) : Array CpInfo := ⟨poolList es last⟩
def fileOf (pool : Array CpInfo) (this : Nat) (attrs : Array Attribute := #[]) (ms : Array MethodInfo := #[]) (fl : Nat := 33) (sup : Nat := 0) (ifs : Array Nat := #[]) (fds : Array FieldInfo := #[]) : ClassFile where
  minorVersion := 0
  majorVersion := 65
  constantPool := pool
  accessFlags := fl
  thisClass := this
  superClass := sup
  interfaces := ifs
  fields := fds
  methods := ms
  attributes := attrs
def plain (name : String) (sup : Option ClassId) : Class where
  name := name
  kind := .ordinary
  loader := none
  accessFlags := 33
  super := sup
  interfaces := #[]
  cf := none
  fields := #[]
  methods := #[]
  instanceTypes := #[]
  staticTypes := #[]
  resolved := #[]
  callSites := []
  init := .initialized
  statics := none
  mirror := none

def pool0 : Array CpInfo := pool [(5, u "<init>"), (0, u "()V"), (1, .class_ 10), (1, u "java/lang/Object"), (85, u "clone"), (0, u "()Ljava/lang/Object;")] 26

def k0c0 : Code := { maxStack := 0, maxLocals := 1, code := object_method_1_code, exceptionTable := #[], attributes := #[] }
def k0m0 : Method := { name := "<init>", desc := "()V", sig := { parameters := [], returnType := none }, accessFlags := 1, code := some k0c0 }
def k0m1 : Method := { name := "clone", desc := "()Ljava/lang/Object;", sig := { parameters := [], returnType := some (.object "java/lang/Object") }, accessFlags := 260, code := none }
/-- java/lang/Object -/
def k0 : Class := { plain "java/lang/Object" none with
  accessFlags := 33
  interfaces := #[]
  cf := some (fileOf pool0 8 #[] #[{ accessFlags := 1, nameIndex := 5, descriptorIndex := 6, attributes := #[] }, { accessFlags := 260, nameIndex := 96, descriptorIndex := 97, attributes := #[] }] 33 0 #[] #[])
  fields := #[]
  methods := #[k0m0, k0m1]
  instanceTypes := #[]
  staticTypes := #[]
  resolved := Array.replicate 124 none
  statics := none }

def pool1 : Array CpInfo := pool [(2, .class_ 4), (0, .nameAndType 5 6), (0, u "java/lang/Object"), (0, u "<init>"), (0, u "()V"), (0, .methodref 8 9), (0, .class_ 10), (0, .nameAndType 11 12), (0, u "com/example/nested_keyspace/nestedkeyspace/ScanOptionsReversePinLaw"), (0, u "key"), (0, u "(II)[B"), (2, .long 9223372036854775807), (1, .class_ 18), (0, u "com/example/nested_keyspace/nestedkeyspace/ScanOptions"), (0, .methodref 17 3), (0, .methodref 17 21), (0, .nameAndType 22 23), (0, u "limit"), (0, u "(J)Lcom/example/nested_keyspace/nestedkeyspace/ScanOptions;"), (0, .methodref 17 25), (0, .nameAndType 26 27), (0, u "reverse"), (0, u "()Lcom/example/nested_keyspace/nestedkeyspace/ScanOptions;"), (0, .methodref 17 29), (0, .nameAndType 30 31), (0, u "from"), (0, u "([B)Lcom/example/nested_keyspace/nestedkeyspace/ScanOptions;"), (0, .methodref 17 33), (0, .nameAndType 34 31), (0, u "to"), (0, .methodref 17 36), (0, .nameAndType 37 27), (0, u "subtree"), (0, .methodref 17 39), (0, .nameAndType 40 41), (0, u "readsInReverse"), (0, u "()Z"), (0, .methodref 17 43), (0, .nameAndType 44 45), (0, u "fromKey"), (0, u "()[B"), (0, .methodref 8 47), (0, .nameAndType 48 49), (0, u "sameBytes"), (0, u "([B[B)Z"), (0, .methodref 17 51), (0, .nameAndType 52 45), (0, u "toKey"), (0, .methodref 17 54), (0, .nameAndType 55 41), (0, u "readsSubtree"), (0, .methodref 17 57), (0, .nameAndType 58 59), (0, u "maxEntries"), (0, u "()J"), (2, u "law"), (0, u "(IIIJ)Z")] 5

def k1m0 : Method := { name := "<init>", desc := "()V", sig := { parameters := [], returnType := none }, accessFlags := 1, code := none }
def k1c1 : Code := { maxStack := 4, maxLocals := 20, code := code, exceptionTable := #[], attributes := #[] }
def k1m1 : Method := { name := "law", desc := "(IIIJ)Z", sig := { parameters := [.int, .int, .int, .long], returnType := some .boolean }, accessFlags := 9, code := some k1c1 }
def k1c2 : Code := { maxStack := 4, maxLocals := 3, code := method_3_code, exceptionTable := #[], attributes := #[] }
def k1m2 : Method := { name := "key", desc := "(II)[B", sig := { parameters := [.int, .int], returnType := some (.array .byte) }, accessFlags := 10, code := some k1c2 }
def k1c3 : Code := { maxStack := 3, maxLocals := 2, code := method_4_code, exceptionTable := #[], attributes := #[] }
def k1m3 : Method := { name := "sameBytes", desc := "([B[B)Z", sig := { parameters := [(.array .byte), (.array .byte)], returnType := some .boolean }, accessFlags := 10, code := some k1c3 }
/-- com/example/nested_keyspace/nestedkeyspace/ScanOptionsReversePinLaw -/
def k1 : Class := { plain "com/example/nested_keyspace/nestedkeyspace/ScanOptionsReversePinLaw" (some 0) with
  accessFlags := 49
  interfaces := #[]
  cf := some (fileOf pool1 8 #[] #[{ accessFlags := 1, nameIndex := 5, descriptorIndex := 6, attributes := #[] }, { accessFlags := 9, nameIndex := 62, descriptorIndex := 63, attributes := #[] }, { accessFlags := 10, nameIndex := 11, descriptorIndex := 12, attributes := #[] }, { accessFlags := 10, nameIndex := 48, descriptorIndex := 49, attributes := #[] }] 49 2 #[] #[])
  fields := #[]
  methods := #[k1m0, k1m1, k1m2, k1m3]
  instanceTypes := #[]
  staticTypes := #[]
  resolved := Array.replicate 69 none
  statics := none }

def pool2 : Array CpInfo := pool [(3, .long 9223372036854775807), (1, .methodref 6 7), (0, .class_ 8), (0, .nameAndType 9 10), (0, u "com/example/nested_keyspace/nestedkeyspace/ScanOptions"), (0, u "<init>"), (0, u "([B[BZZJ)V"), (0, .methodref 12 13), (0, .class_ 14), (0, .nameAndType 9 15), (0, u "java/lang/Object"), (0, u "()V"), (0, .fieldref 6 17), (0, .nameAndType 18 19), (0, u "from"), (0, u "[B"), (0, .fieldref 6 21), (0, .nameAndType 22 19), (0, u "to"), (0, .fieldref 6 24), (0, .nameAndType 25 26), (0, u "subtree"), (0, u "Z"), (0, .fieldref 6 28), (0, .nameAndType 29 26), (0, u "reverse"), (0, .fieldref 6 31), (0, .nameAndType 32 33), (0, u "limit"), (0, u "J"), (0, .methodref 6 35), (0, .nameAndType 36 15), (0, u "refuseWithSubtree"), (0, .methodref 38 39), (0, .class_ 19), (0, .nameAndType 40 41), (0, u "clone"), (0, u "()Ljava/lang/Object;"), (13, .fieldref 6 56), (0, .nameAndType 57 19), (0, u "EMPTY_KEY"), (4, u "([B)Lcom/example/nested_keyspace/nestedkeyspace/ScanOptions;"), (0, u "()Lcom/example/nested_keyspace/nestedkeyspace/ScanOptions;"), (1, u "(J)Lcom/example/nested_keyspace/nestedkeyspace/ScanOptions;"), (0, u "fromKey"), (0, u "()[B"), (0, u "toKey"), (0, u "readsSubtree"), (0, u "()Z"), (0, u "readsInReverse"), (0, u "maxEntries"), (0, u "()J")] 18

def k2c0 : Code := { maxStack := 7, maxLocals := 1, code := prog_13_method_1_code, exceptionTable := #[], attributes := #[] }
def k2m0 : Method := { name := "<init>", desc := "()V", sig := { parameters := [], returnType := none }, accessFlags := 1, code := some k2c0 }
def k2c1 : Code := { maxStack := 3, maxLocals := 7, code := prog_13_method_2_code, exceptionTable := #[], attributes := #[] }
def k2m1 : Method := { name := "<init>", desc := "([B[BZZJ)V", sig := { parameters := [(.array .byte), (.array .byte), .boolean, .boolean, .long], returnType := none }, accessFlags := 2, code := some k2c1 }
def k2c2 : Code := { maxStack := 8, maxLocals := 2, code := prog_13_method_3_code, exceptionTable := #[], attributes := #[] }
def k2m2 : Method := { name := "from", desc := "([B)Lcom/example/nested_keyspace/nestedkeyspace/ScanOptions;", sig := { parameters := [(.array .byte)], returnType := some (.object "com/example/nested_keyspace/nestedkeyspace/ScanOptions") }, accessFlags := 1, code := some k2c2 }
def k2c3 : Code := { maxStack := 8, maxLocals := 2, code := prog_13_method_4_code, exceptionTable := #[], attributes := #[] }
def k2m3 : Method := { name := "to", desc := "([B)Lcom/example/nested_keyspace/nestedkeyspace/ScanOptions;", sig := { parameters := [(.array .byte)], returnType := some (.object "com/example/nested_keyspace/nestedkeyspace/ScanOptions") }, accessFlags := 1, code := some k2c3 }
def k2c4 : Code := { maxStack := 8, maxLocals := 1, code := prog_13_method_5_code, exceptionTable := #[], attributes := #[] }
def k2m4 : Method := { name := "subtree", desc := "()Lcom/example/nested_keyspace/nestedkeyspace/ScanOptions;", sig := { parameters := [], returnType := some (.object "com/example/nested_keyspace/nestedkeyspace/ScanOptions") }, accessFlags := 1, code := some k2c4 }
def k2c5 : Code := { maxStack := 8, maxLocals := 1, code := prog_13_method_6_code, exceptionTable := #[], attributes := #[] }
def k2m5 : Method := { name := "reverse", desc := "()Lcom/example/nested_keyspace/nestedkeyspace/ScanOptions;", sig := { parameters := [], returnType := some (.object "com/example/nested_keyspace/nestedkeyspace/ScanOptions") }, accessFlags := 1, code := some k2c5 }
def k2c6 : Code := { maxStack := 8, maxLocals := 3, code := prog_13_method_7_code, exceptionTable := #[], attributes := #[] }
def k2m6 : Method := { name := "limit", desc := "(J)Lcom/example/nested_keyspace/nestedkeyspace/ScanOptions;", sig := { parameters := [.long], returnType := some (.object "com/example/nested_keyspace/nestedkeyspace/ScanOptions") }, accessFlags := 1, code := some k2c6 }
def k2c7 : Code := { maxStack := 1, maxLocals := 1, code := prog_13_method_8_code, exceptionTable := #[], attributes := #[] }
def k2m7 : Method := { name := "fromKey", desc := "()[B", sig := { parameters := [], returnType := some (.array .byte) }, accessFlags := 0, code := some k2c7 }
def k2c8 : Code := { maxStack := 1, maxLocals := 1, code := prog_13_method_9_code, exceptionTable := #[], attributes := #[] }
def k2m8 : Method := { name := "toKey", desc := "()[B", sig := { parameters := [], returnType := some (.array .byte) }, accessFlags := 0, code := some k2c8 }
def k2c9 : Code := { maxStack := 1, maxLocals := 1, code := prog_13_method_10_code, exceptionTable := #[], attributes := #[] }
def k2m9 : Method := { name := "readsSubtree", desc := "()Z", sig := { parameters := [], returnType := some .boolean }, accessFlags := 0, code := some k2c9 }
def k2c10 : Code := { maxStack := 1, maxLocals := 1, code := prog_13_method_11_code, exceptionTable := #[], attributes := #[] }
def k2m10 : Method := { name := "readsInReverse", desc := "()Z", sig := { parameters := [], returnType := some .boolean }, accessFlags := 0, code := some k2c10 }
def k2c11 : Code := { maxStack := 2, maxLocals := 1, code := prog_13_method_12_code, exceptionTable := #[], attributes := #[] }
def k2m11 : Method := { name := "maxEntries", desc := "()J", sig := { parameters := [], returnType := some .long }, accessFlags := 0, code := some k2c11 }
def k2c12 : Code := { maxStack := 1, maxLocals := 1, code := prog_13_method_13_code, exceptionTable := #[], attributes := #[] }
def k2m12 : Method := { name := "refuseWithSubtree", desc := "()V", sig := { parameters := [], returnType := none }, accessFlags := 2, code := some k2c12 }
/-- com/example/nested_keyspace/nestedkeyspace/ScanOptions -/
def k2 : Class := { plain "com/example/nested_keyspace/nestedkeyspace/ScanOptions" (some 0) with
  accessFlags := 33
  interfaces := #[]
  cf := some (fileOf pool2 6 #[] #[{ accessFlags := 1, nameIndex := 9, descriptorIndex := 15, attributes := #[] }, { accessFlags := 2, nameIndex := 9, descriptorIndex := 10, attributes := #[] }, { accessFlags := 1, nameIndex := 18, descriptorIndex := 62, attributes := #[] }, { accessFlags := 1, nameIndex := 22, descriptorIndex := 62, attributes := #[] }, { accessFlags := 1, nameIndex := 25, descriptorIndex := 63, attributes := #[] }, { accessFlags := 1, nameIndex := 29, descriptorIndex := 63, attributes := #[] }, { accessFlags := 1, nameIndex := 32, descriptorIndex := 65, attributes := #[] }, { accessFlags := 0, nameIndex := 66, descriptorIndex := 67, attributes := #[] }, { accessFlags := 0, nameIndex := 68, descriptorIndex := 67, attributes := #[] }, { accessFlags := 0, nameIndex := 69, descriptorIndex := 70, attributes := #[] }, { accessFlags := 0, nameIndex := 71, descriptorIndex := 70, attributes := #[] }, { accessFlags := 0, nameIndex := 72, descriptorIndex := 73, attributes := #[] }, { accessFlags := 2, nameIndex := 36, descriptorIndex := 15, attributes := #[] }] 33 12 #[] #[{ accessFlags := 26, nameIndex := 57, descriptorIndex := 19, attributes := #[] }, { accessFlags := 18, nameIndex := 18, descriptorIndex := 19, attributes := #[] }, { accessFlags := 18, nameIndex := 22, descriptorIndex := 19, attributes := #[] }, { accessFlags := 18, nameIndex := 25, descriptorIndex := 26, attributes := #[] }, { accessFlags := 18, nameIndex := 29, descriptorIndex := 26, attributes := #[] }, { accessFlags := 18, nameIndex := 32, descriptorIndex := 33, attributes := #[] }])
  fields := #[{ name := "EMPTY_KEY", type := (.array .byte), accessFlags := 26, slot := 0, constantValue := 0 }, { name := "from", type := (.array .byte), accessFlags := 18, slot := 0, constantValue := 0 }, { name := "to", type := (.array .byte), accessFlags := 18, slot := 1, constantValue := 0 }, { name := "subtree", type := .boolean, accessFlags := 18, slot := 2, constantValue := 0 }, { name := "reverse", type := .boolean, accessFlags := 18, slot := 3, constantValue := 0 }, { name := "limit", type := .long, accessFlags := 18, slot := 4, constantValue := 0 }]
  methods := #[k2m0, k2m1, k2m2, k2m3, k2m4, k2m5, k2m6, k2m7, k2m8, k2m9, k2m10, k2m11, k2m12]
  instanceTypes := #[(.array .byte), (.array .byte), .boolean, .boolean, .long]
  staticTypes := #[(.array .byte)]
  resolved := Array.replicate 92 none
  statics := some 0 }

def pool3 : Array CpInfo := pool [(1, .class_ 2), (0, u "java/lang/Cloneable"), (0, .class_ 4), (0, u "java/lang/Object")] 2

/-- java/lang/Cloneable -/
def k3 : Class := { plain "java/lang/Cloneable" (some 0) with
  accessFlags := 1537
  interfaces := #[]
  cf := some (fileOf pool3 1 #[] #[] 1537 3 #[] #[])
  fields := #[]
  methods := #[]
  instanceTypes := #[]
  staticTypes := #[]
  resolved := Array.replicate 7 none
  statics := none }

def pool4 : Array CpInfo := pool [(1, u "java/io/Serializable"), (0, .class_ 1), (0, u "java/lang/Object"), (0, .class_ 3)] 3

/-- java/io/Serializable -/
def k4 : Class := { plain "java/io/Serializable" (some 0) with
  accessFlags := 1537
  interfaces := #[]
  cf := some (fileOf pool4 2 #[] #[] 1537 4 #[] #[])
  fields := #[]
  methods := #[]
  instanceTypes := #[]
  staticTypes := #[]
  resolved := Array.replicate 8 none
  statics := none }

/-- the primitive byte -/
def k5 : Class := { plain "byte" none with kind := .primitive 'B', accessFlags := 0x411 }
/-- [B -/
def k6 : Class := { plain "[B" (some 0) with kind := .array 5 .byte, interfaces := #[3, 4], accessFlags := 1041 }

/-- the primitive int -/
def k7 : Class := { plain "int" none with kind := .primitive 'I', accessFlags := 0x411 }
/-- [I -/
def k8 : Class := { plain "[I" (some 0) with kind := .array 7 .int, interfaces := #[3, 4], accessFlags := 1041 }

def heap : Heap := #[{ cls := 2, slots := #[.ref 1], vm := .statics 2 },
  { cls := 6, slots := #[], vm := .none }]
def classes : Array Class := #[k0, k1, k2, k3, k4, k5, k6, k7, k8]
def interned : List (Array UInt16 × Addr) := []
def slotsUsed : Nat := 1
def theMethod : MethodId := ⟨1, 1⟩
def args0 : Array Value := #[.int 3, .int 5, .int 3, .long 4]
def aboutOver (below : List Frame) : State where
  vm := { classes := classes, interned := interned.toArray }
  heap := heap
  slotsUsed := slotsUsed
  threads := #[{ frames := .invoking theMethod args0 :: below }]
def below0 : List Frame := [.native { method := ⟨0, 0⟩, args := #[] }]
def about1 : State := aboutOver below0
def p0 : Program := .bare "" "" ""
def e0 : Env := launch0.env 0 0 0
theorem w_frames : about1.frames = Frame.invoking theMethod args0 :: below0 := rfl
set_option maxRecDepth 65536 in
theorem w_args : argsFit about1.vm theMethod args0 = true := by decide +kernel
set_option maxRecDepth 65536 in
theorem w_heap : heapFits about1 = true := by decide +kernel
set_option maxRecDepth 65536 in
theorem w_runnable : about1.curStatus? = some .runnable := by decide +kernel
set_option maxRecDepth 65536 in
theorem w_alone : about1.alone = true := by decide +kernel
set_option maxRecDepth 65536 in
theorem w_named : about1.methodNamed? x = some theMethod := by decide +kernel
set_option maxRecDepth 65536 in
theorem w_hears : about1.hears theMethod below0 = true := by decide +kernel
set_option maxRecDepth 65536 in
theorem w_ripe : about1.ripe theMethod args0 below0 = true := by decide +kernel
theorem w_running : about1.status = .running := rfl
set_option maxRecDepth 65536 in
theorem w_room : about1.hasRoom e0.platform room_1 = true :=
  launch0.hasRoom_least _ room_1 (by decide +kernel) (by decide +kernel) (by decide +kernel) (by decide +kernel) (by decide +kernel) (by decide +kernel)
theorem allAtoms_all (ts : List Jvm.Cond) (a : Array Jvm.Value) (st : Jvm.State) : (allAtoms ts).before a st = ts.all (fun c => c.before a st) := by
  induction ts with
  | nil => rfl
  | cons c t ih =>
    show (Jvm.Cond.and c (allAtoms t)).before a st = _
    rw [Jvm.Cond.before_and, ih, List.all_cons]
def words1 : List Jvm.Cond := Jvm.Cond.code x code maxLocals ret :: tables_1
/-- a 'code' word, met by the world's own term for the bytes: nothing is compared byte by byte -/
theorem code_word {y : MethodName} {bytes : ByteArray} {mx : Nat} {rt : Option FieldType} {a : Array Value} {s : State} {m : MethodId} {meth : Method} {c : Code} (h1 : s.methodNamed? y = some m) (h2 : s.vm.method? m = some meth) (h3 : meth.code = some c) (h4 : c.code = bytes)
    (h5 : (c.maxLocals == mx && c.exceptionTable.isEmpty && decide (c.maxStack ≤ mostOperands) && decide (meth.sig.returnType = rt) && !meth.locks && decide (parseMethodDescriptor y.desc = some meth.sig)) = true) : (Jvm.Cond.code y bytes mx rt).before a s = true := by
  simp only [Bool.and_eq_true, beq_iff_eq, Bool.not_eq_true', decide_eq_true_eq] at h5
  obtain ⟨⟨⟨⟨⟨g1, g2⟩, g3⟩, g4⟩, g5⟩, g6⟩ := h5
  simp [Cond.before, Cond.holds, Cond.value, h1, h2, h3, h4, g1, g2, g3, g4, g5, g6]
def isCode : Jvm.Cond → Bool
  | .code _ _ _ _ => true
  | _ => false
theorem all_split {L : List Jvm.Cond} {P : Jvm.Cond → Bool} (h1 : L.all (fun c => isCode c || P c) = true) (h2 : ∀ c ∈ L.filter isCode, P c = true) : L.all P = true := by
  refine List.all_eq_true.mpr fun c hc => ?_
  have h := List.all_eq_true.mp h1 c hc
  rcases Bool.eq_false_or_eq_true (isCode c) with hi | hi
  · exact h2 c (List.mem_filter.mpr ⟨hc, hi⟩)
  · simpa [hi] using h
set_option maxRecDepth 65536 in
theorem w_c0 : (Jvm.Cond.code x code maxLocals ret).before args0 about1 = true := code_word (m := ⟨1, 1⟩) (meth := k1m1) (c := k1c1) (by decide +kernel) rfl rfl rfl (by decide +kernel)
set_option maxRecDepth 65536 in
theorem w_c1 : (Jvm.Cond.code ({ cls := "com/example/nested_keyspace/nestedkeyspace/ScanOptionsReversePinLaw", name := "key", desc := "(II)[B" } : Jvm.MethodName) method_3_code (3 : Nat) (Option.some (Jvm.ClassFile.FieldType.array Jvm.ClassFile.FieldType.byte))).before args0 about1 = true := code_word (m := ⟨1, 2⟩) (meth := k1m2) (c := k1c2) (by decide +kernel) rfl rfl rfl (by decide +kernel)
set_option maxRecDepth 65536 in
theorem w_c2 : (Jvm.Cond.code ({ cls := "com/example/nested_keyspace/nestedkeyspace/ScanOptions", name := "<init>", desc := "()V" } : Jvm.MethodName) prog_13_method_1_code (1 : Nat) (Option.none : Option Jvm.ClassFile.FieldType)).before args0 about1 = true := code_word (m := ⟨2, 0⟩) (meth := k2m0) (c := k2c0) (by decide +kernel) rfl rfl rfl (by decide +kernel)
set_option maxRecDepth 65536 in
theorem w_c3 : (Jvm.Cond.code ({ cls := "com/example/nested_keyspace/nestedkeyspace/ScanOptions", name := "<init>", desc := "([B[BZZJ)V" } : Jvm.MethodName) prog_13_method_2_code (7 : Nat) (Option.none : Option Jvm.ClassFile.FieldType)).before args0 about1 = true := code_word (m := ⟨2, 1⟩) (meth := k2m1) (c := k2c1) (by decide +kernel) rfl rfl rfl (by decide +kernel)
set_option maxRecDepth 65536 in
theorem w_c4 : (Jvm.Cond.code ({ cls := "java/lang/Object", name := "<init>", desc := "()V" } : Jvm.MethodName) object_method_1_code (1 : Nat) (Option.none : Option Jvm.ClassFile.FieldType)).before args0 about1 = true := code_word (m := ⟨0, 0⟩) (meth := k0m0) (c := k0c0) (by decide +kernel) rfl rfl rfl (by decide +kernel)
set_option maxRecDepth 65536 in
theorem w_c5 : (Jvm.Cond.code ({ cls := "com/example/nested_keyspace/nestedkeyspace/ScanOptions", name := "reverse", desc := "()Lcom/example/nested_keyspace/nestedkeyspace/ScanOptions;" } : Jvm.MethodName) prog_13_method_6_code (1 : Nat) (Option.some (Jvm.ClassFile.FieldType.object "com/example/nested_keyspace/nestedkeyspace/ScanOptions"))).before args0 about1 = true := code_word (m := ⟨2, 5⟩) (meth := k2m5) (c := k2c5) (by decide +kernel) rfl rfl rfl (by decide +kernel)
set_option maxRecDepth 65536 in
theorem w_c6 : (Jvm.Cond.code ({ cls := "com/example/nested_keyspace/nestedkeyspace/ScanOptions", name := "readsInReverse", desc := "()Z" } : Jvm.MethodName) prog_13_method_11_code (1 : Nat) (Option.some Jvm.ClassFile.FieldType.boolean)).before args0 about1 = true := code_word (m := ⟨2, 10⟩) (meth := k2m10) (c := k2c10) (by decide +kernel) rfl rfl rfl (by decide +kernel)
set_option maxRecDepth 65536 in
theorem w_c7 : (Jvm.Cond.code ({ cls := "com/example/nested_keyspace/nestedkeyspace/ScanOptions", name := "fromKey", desc := "()[B" } : Jvm.MethodName) prog_13_method_8_code (1 : Nat) (Option.some (Jvm.ClassFile.FieldType.array Jvm.ClassFile.FieldType.byte))).before args0 about1 = true := code_word (m := ⟨2, 7⟩) (meth := k2m7) (c := k2c7) (by decide +kernel) rfl rfl rfl (by decide +kernel)
set_option maxRecDepth 65536 in
theorem w_c8 : (Jvm.Cond.code ({ cls := "com/example/nested_keyspace/nestedkeyspace/ScanOptionsReversePinLaw", name := "sameBytes", desc := "([B[B)Z" } : Jvm.MethodName) method_4_code (2 : Nat) (Option.some Jvm.ClassFile.FieldType.boolean)).before args0 about1 = true := code_word (m := ⟨1, 3⟩) (meth := k1m3) (c := k1c3) (by decide +kernel) rfl rfl rfl (by decide +kernel)
set_option maxRecDepth 65536 in
theorem w_c9 : (Jvm.Cond.code ({ cls := "com/example/nested_keyspace/nestedkeyspace/ScanOptions", name := "toKey", desc := "()[B" } : Jvm.MethodName) prog_13_method_9_code (1 : Nat) (Option.some (Jvm.ClassFile.FieldType.array Jvm.ClassFile.FieldType.byte))).before args0 about1 = true := code_word (m := ⟨2, 8⟩) (meth := k2m8) (c := k2c8) (by decide +kernel) rfl rfl rfl (by decide +kernel)
set_option maxRecDepth 65536 in
theorem w_c10 : (Jvm.Cond.code ({ cls := "com/example/nested_keyspace/nestedkeyspace/ScanOptions", name := "readsSubtree", desc := "()Z" } : Jvm.MethodName) prog_13_method_10_code (1 : Nat) (Option.some Jvm.ClassFile.FieldType.boolean)).before args0 about1 = true := code_word (m := ⟨2, 9⟩) (meth := k2m9) (c := k2c9) (by decide +kernel) rfl rfl rfl (by decide +kernel)
set_option maxRecDepth 65536 in
theorem w_c11 : (Jvm.Cond.code ({ cls := "com/example/nested_keyspace/nestedkeyspace/ScanOptions", name := "maxEntries", desc := "()J" } : Jvm.MethodName) prog_13_method_12_code (1 : Nat) (Option.some Jvm.ClassFile.FieldType.long)).before args0 about1 = true := code_word (m := ⟨2, 11⟩) (meth := k2m11) (c := k2c11) (by decide +kernel) rfl rfl rfl (by decide +kernel)
set_option maxRecDepth 65536 in
theorem w_c12 : (Jvm.Cond.code ({ cls := "com/example/nested_keyspace/nestedkeyspace/ScanOptions", name := "from", desc := "([B)Lcom/example/nested_keyspace/nestedkeyspace/ScanOptions;" } : Jvm.MethodName) prog_13_method_3_code (2 : Nat) (Option.some (Jvm.ClassFile.FieldType.object "com/example/nested_keyspace/nestedkeyspace/ScanOptions"))).before args0 about1 = true := code_word (m := ⟨2, 2⟩) (meth := k2m2) (c := k2c2) (by decide +kernel) rfl rfl rfl (by decide +kernel)
set_option maxRecDepth 65536 in
theorem w_c13 : (Jvm.Cond.code ({ cls := "com/example/nested_keyspace/nestedkeyspace/ScanOptions", name := "refuseWithSubtree", desc := "()V" } : Jvm.MethodName) prog_13_method_13_code (1 : Nat) (Option.none : Option Jvm.ClassFile.FieldType)).before args0 about1 = true := code_word (m := ⟨2, 12⟩) (meth := k2m12) (c := k2c12) (by decide +kernel) rfl rfl rfl (by decide +kernel)
set_option maxRecDepth 65536 in
theorem w_c14 : (Jvm.Cond.code ({ cls := "com/example/nested_keyspace/nestedkeyspace/ScanOptions", name := "subtree", desc := "()Lcom/example/nested_keyspace/nestedkeyspace/ScanOptions;" } : Jvm.MethodName) prog_13_method_5_code (1 : Nat) (Option.some (Jvm.ClassFile.FieldType.object "com/example/nested_keyspace/nestedkeyspace/ScanOptions"))).before args0 about1 = true := code_word (m := ⟨2, 4⟩) (meth := k2m4) (c := k2c4) (by decide +kernel) rfl rfl rfl (by decide +kernel)
set_option maxRecDepth 65536 in
theorem w_c15 : (Jvm.Cond.code ({ cls := "com/example/nested_keyspace/nestedkeyspace/ScanOptions", name := "limit", desc := "(J)Lcom/example/nested_keyspace/nestedkeyspace/ScanOptions;" } : Jvm.MethodName) prog_13_method_7_code (3 : Nat) (Option.some (Jvm.ClassFile.FieldType.object "com/example/nested_keyspace/nestedkeyspace/ScanOptions"))).before args0 about1 = true := code_word (m := ⟨2, 6⟩) (meth := k2m6) (c := k2c6) (by decide +kernel) rfl rfl rfl (by decide +kernel)
set_option maxRecDepth 65536 in
theorem w_c16 : (Jvm.Cond.code ({ cls := "com/example/nested_keyspace/nestedkeyspace/ScanOptions", name := "to", desc := "([B)Lcom/example/nested_keyspace/nestedkeyspace/ScanOptions;" } : Jvm.MethodName) prog_13_method_4_code (2 : Nat) (Option.some (Jvm.ClassFile.FieldType.object "com/example/nested_keyspace/nestedkeyspace/ScanOptions"))).before args0 about1 = true := code_word (m := ⟨2, 3⟩) (meth := k2m3) (c := k2c3) (by decide +kernel) rfl rfl rfl (by decide +kernel)
def codes1 : List Jvm.Cond := [Jvm.Cond.code x code maxLocals ret, Jvm.Cond.code ({ cls := "com/example/nested_keyspace/nestedkeyspace/ScanOptionsReversePinLaw", name := "key", desc := "(II)[B" } : Jvm.MethodName) method_3_code (3 : Nat) (Option.some (Jvm.ClassFile.FieldType.array Jvm.ClassFile.FieldType.byte)), Jvm.Cond.code ({ cls := "com/example/nested_keyspace/nestedkeyspace/ScanOptions", name := "<init>", desc := "()V" } : Jvm.MethodName) prog_13_method_1_code (1 : Nat) (Option.none : Option Jvm.ClassFile.FieldType), Jvm.Cond.code ({ cls := "com/example/nested_keyspace/nestedkeyspace/ScanOptions", name := "<init>", desc := "([B[BZZJ)V" } : Jvm.MethodName) prog_13_method_2_code (7 : Nat) (Option.none : Option Jvm.ClassFile.FieldType), Jvm.Cond.code ({ cls := "java/lang/Object", name := "<init>", desc := "()V" } : Jvm.MethodName) object_method_1_code (1 : Nat) (Option.none : Option Jvm.ClassFile.FieldType), Jvm.Cond.code ({ cls := "com/example/nested_keyspace/nestedkeyspace/ScanOptions", name := "reverse", desc := "()Lcom/example/nested_keyspace/nestedkeyspace/ScanOptions;" } : Jvm.MethodName) prog_13_method_6_code (1 : Nat) (Option.some (Jvm.ClassFile.FieldType.object "com/example/nested_keyspace/nestedkeyspace/ScanOptions")), Jvm.Cond.code ({ cls := "com/example/nested_keyspace/nestedkeyspace/ScanOptions", name := "readsInReverse", desc := "()Z" } : Jvm.MethodName) prog_13_method_11_code (1 : Nat) (Option.some Jvm.ClassFile.FieldType.boolean), Jvm.Cond.code ({ cls := "com/example/nested_keyspace/nestedkeyspace/ScanOptions", name := "fromKey", desc := "()[B" } : Jvm.MethodName) prog_13_method_8_code (1 : Nat) (Option.some (Jvm.ClassFile.FieldType.array Jvm.ClassFile.FieldType.byte)), Jvm.Cond.code ({ cls := "com/example/nested_keyspace/nestedkeyspace/ScanOptionsReversePinLaw", name := "sameBytes", desc := "([B[B)Z" } : Jvm.MethodName) method_4_code (2 : Nat) (Option.some Jvm.ClassFile.FieldType.boolean), Jvm.Cond.code ({ cls := "com/example/nested_keyspace/nestedkeyspace/ScanOptions", name := "toKey", desc := "()[B" } : Jvm.MethodName) prog_13_method_9_code (1 : Nat) (Option.some (Jvm.ClassFile.FieldType.array Jvm.ClassFile.FieldType.byte)), Jvm.Cond.code ({ cls := "com/example/nested_keyspace/nestedkeyspace/ScanOptions", name := "readsSubtree", desc := "()Z" } : Jvm.MethodName) prog_13_method_10_code (1 : Nat) (Option.some Jvm.ClassFile.FieldType.boolean), Jvm.Cond.code ({ cls := "com/example/nested_keyspace/nestedkeyspace/ScanOptions", name := "maxEntries", desc := "()J" } : Jvm.MethodName) prog_13_method_12_code (1 : Nat) (Option.some Jvm.ClassFile.FieldType.long), Jvm.Cond.code ({ cls := "com/example/nested_keyspace/nestedkeyspace/ScanOptions", name := "from", desc := "([B)Lcom/example/nested_keyspace/nestedkeyspace/ScanOptions;" } : Jvm.MethodName) prog_13_method_3_code (2 : Nat) (Option.some (Jvm.ClassFile.FieldType.object "com/example/nested_keyspace/nestedkeyspace/ScanOptions")), Jvm.Cond.code ({ cls := "com/example/nested_keyspace/nestedkeyspace/ScanOptions", name := "refuseWithSubtree", desc := "()V" } : Jvm.MethodName) prog_13_method_13_code (1 : Nat) (Option.none : Option Jvm.ClassFile.FieldType), Jvm.Cond.code ({ cls := "com/example/nested_keyspace/nestedkeyspace/ScanOptions", name := "subtree", desc := "()Lcom/example/nested_keyspace/nestedkeyspace/ScanOptions;" } : Jvm.MethodName) prog_13_method_5_code (1 : Nat) (Option.some (Jvm.ClassFile.FieldType.object "com/example/nested_keyspace/nestedkeyspace/ScanOptions")), Jvm.Cond.code ({ cls := "com/example/nested_keyspace/nestedkeyspace/ScanOptions", name := "limit", desc := "(J)Lcom/example/nested_keyspace/nestedkeyspace/ScanOptions;" } : Jvm.MethodName) prog_13_method_7_code (3 : Nat) (Option.some (Jvm.ClassFile.FieldType.object "com/example/nested_keyspace/nestedkeyspace/ScanOptions")), Jvm.Cond.code ({ cls := "com/example/nested_keyspace/nestedkeyspace/ScanOptions", name := "to", desc := "([B)Lcom/example/nested_keyspace/nestedkeyspace/ScanOptions;" } : Jvm.MethodName) prog_13_method_4_code (2 : Nat) (Option.some (Jvm.ClassFile.FieldType.object "com/example/nested_keyspace/nestedkeyspace/ScanOptions"))]
set_option maxRecDepth 65536 in
theorem codes_eq : words1.filter isCode = codes1 := rfl
theorem w_codes : ∀ c ∈ words1.filter isCode, c.before args0 about1 = true := by
  rw [codes_eq]
  intro c hc
  simp only [codes1, List.mem_cons, List.not_mem_nil, or_false] at hc
  rcases hc with rfl | rfl | rfl | rfl | rfl | rfl | rfl | rfl | rfl | rfl | rfl | rfl | rfl | rfl | rfl | rfl | rfl
  · exact w_c0
  · exact w_c1
  · exact w_c2
  · exact w_c3
  · exact w_c4
  · exact w_c5
  · exact w_c6
  · exact w_c7
  · exact w_c8
  · exact w_c9
  · exact w_c10
  · exact w_c11
  · exact w_c12
  · exact w_c13
  · exact w_c14
  · exact w_c15
  · exact w_c16
set_option maxRecDepth 65536 in
theorem w_t1 : (words1.take 24).all (fun c => isCode c || c.before args0 about1) = true := by decide +kernel
set_option maxRecDepth 65536 in
theorem w_t2 : ((words1.drop 24).take 24).all (fun c => isCode c || c.before args0 about1) = true := by decide +kernel
set_option maxRecDepth 65536 in
theorem w_t3 : (((words1.drop 24).drop 24).take 24).all (fun c => isCode c || c.before args0 about1) = true := by decide +kernel
set_option maxRecDepth 65536 in
theorem w_t4 : ((((words1.drop 24).drop 24).drop 24).take 24).all (fun c => isCode c || c.before args0 about1) = true := by decide +kernel
set_option maxRecDepth 65536 in
theorem w_t5 : ((((words1.drop 24).drop 24).drop 24).drop 24).all (fun c => isCode c || c.before args0 about1) = true := by decide +kernel
theorem w_tables : (allAtoms (Jvm.Cond.code x code maxLocals ret :: tables_1)).before args0 about1 = true := by
  rw [allAtoms_all]
  show words1.all (fun c => c.before args0 about1) = true
  refine all_split ?_ w_codes
  rw [← List.take_append_drop 24 words1, List.all_append, w_t1, ← List.take_append_drop 24 (words1.drop 24), List.all_append, w_t2, ← List.take_append_drop 24 ((words1.drop 24).drop 24), List.all_append, w_t3, ← List.take_append_drop 24 (((words1.drop 24).drop 24).drop 24), List.all_append, w_t4, w_t5]
  rfl
set_option maxRecDepth 65536 in
theorem w_case : (Jvm.Cond.and given_1 narrow_1).before args0 about1 = true := by decide +kernel
theorem w_applies : (headSpec (Jvm.Cond.code x code maxLocals ret :: tables_1) room_1).applies x e0.platform about1 = true :=
  (Spec.applies_iff w_frames).mpr ⟨w_running, w_runnable, w_alone, w_named, w_hears, w_ripe, w_room, w_tables⟩
theorem atStart : AtStart classFile x code maxLocals ret World_1 tables_1 room_1 Calls_1 rest_1 Pre_1 launch0 p0 e0 about1 theMethod args0 below0 :=
  ⟨lists_1, trivial, launch0.admits_env _ _ _, launch0.least_env, fairChoices_fair.cas, fairChoices_fair.clock, w_frames, w_args, w_heap, w_applies, trivial, trivial, w_case⟩
end start1
theorem witness_1 : WitnessClaimed_1 := ⟨start1.p0, start1.e0, start1.about1, start1.theMethod, start1.args0, start1.below0, start1.atStart⟩
end Jvm.Pilot.@@N@@
