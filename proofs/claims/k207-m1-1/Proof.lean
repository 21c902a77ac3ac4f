import JvmDerived
import JvmDerived.Pilot.@@N@@Statement
import JvmDerived.Pilot.@@N@@Code
set_option linter.unusedVariables false
set_option linter.unusedSimpArgs false
namespace Jvm.Pilot.@@N@@
open Jvm Jvm.ClassFile Sem Op Lib Jvm.Free Jvm.Stand Jvm.LawKit Jvm.RoadKit Bundle Jvm.Pilot.@@N@@.Jvm.D
def own_Go (p : Program) (e : Env) (below : List Frame) (P : Outcome → State → Prop) (st : State) : Prop :=
  ∃ s₂ o, Steps p.tables e below st s₂ ∧ s₂.status = .running ∧ Ended s₂ below o ∧ P o s₂
def own_Fin (s : State) (C S : Nat) (Q : Option Value → Heap → List Loc → Prop) (o : Outcome) (U : State) : Prop := ∃ v L, o = .returned v ∧ Q v U.heap L ∧ FrameEnd s o U L C S
def own_upd {α : Type} (f : Nat → α) (j : Nat) (v : α) : Nat → α := fun i => if i = j then v else f i
def own_Arf (Z : State) (h : Heap) (a : Addr) (k : ClassId) (ty : FieldType) (n : Int32) (f : Nat → Value) : Prop := ∃ c : Cell, Arr Z h a c ty ∧ c.cls = k ∧ c.slots.size = n.toNatClampNeg ∧ ¬ n < 0 ∧ (∀ i, i < c.slots.size → c.slots[i]? = some (f i)) ∧ ∀ i, i < c.slots.size → fits ty (f i) = true
section OwnKit
variable {p : Program} {l : Launch} {e : Env} {R : Room} {s : State} {m : MethodId} {args : Array Value} {below : List Frame} {meth : Method} {c : Code} {T : State} {locs : List Loc} {cells slots C S : Nat} {P : Outcome → State → Prop} {Q : Option Value → Heap → List Loc → Prop} {Z : State} {h h' : Heap} {a b : Addr} {k : ClassId} {ty : FieldType} {n : Int32} {ws : List Addr}
theorem own_by {st st' : State} (f : ∀ t, Steps p.tables e below st' t → Steps p.tables e below st t) (g : own_Go p e below P st') : own_Go p e below P st := by
  obtain ⟨s₂, o, h1, h2⟩ := g
  exact ⟨s₂, o, f _ h1, h2⟩
theorem own_mono (X : Stand p l e R s m args below meth c T locs cells slots) {c' s' : Nat} (hc : cells ≤ c') (hs : slots ≤ s') : Stand p l e R s m args below meth c T locs c' s' := { X with same := X.same.mono hc hs }
theorem own_end (X : Stand p l e R s m args below meth c T locs cells slots) {v : Option Value} (hv : meth.sig.returnType = none → v = none) (hlk : meth.locks = false) (eT : T.heap = h) (hQ : Q v h locs) (hc : cells ≤ C) (hs : slots ≤ S)
    {g : JFrame} (st : ∀ fs, (∀ (f : JFrame) (acts : List Action), f.method = m → f.locked = none → f.entered = [] → (doReturn e (T.setTop f) acts v).1 = T.setFrames fs) → Steps p.tables e below (T.setTop g) (T.setFrames fs)) : own_Go p e below (own_Fin s C S Q) (T.setTop g) := by
  obtain ⟨fs, hr, hrun, hended, hW, hsame⟩ := X.leave (v := v) hv hlk
  refine ⟨_, _, st fs hr, hrun, hended, v, locs, rfl, ?_, ⟨_, rfl⟩, hW, hsame.mono hc hs⟩
  show Q v T.heap locs
  rw [eT]; exact hQ
theorem own_retN (X : Stand p l e R s m args below meth c T locs cells slots) (hx : p.tables.exec = Jvm.exec) {pc : Nat} {Ls : Array Slot} {z : Int32} {t : FieldType} {rest : List Value} (hret : meth.sig.returnType = some t) (ht : t = .boolean ∨ t = .byte ∨ t = .char ∨ t = .short) (hd : decode c.code pc = .ok (.ireturn, 1)) (hlk : meth.locks = false) (eT : T.heap = h) (hQ : Q (some (.int (nar t z))) h locs) (hc : cells ≤ C) (hs : slots ≤ S) : own_Go p e below (own_Fin s C S Q) (T.setTop (mkF m pc Ls (.int z :: rest))) :=
  own_end X (fun h => by rw [hret] at h; cases h) hlk eT hQ hc hs fun fs hr => retN X hx hret ht hd hr
theorem own_retI (X : Stand p l e R s m args below meth c T locs cells slots) (hx : p.tables.exec = Jvm.exec) {pc : Nat} {Ls : Array Slot} {z : Int32} {rest : List Value} (hret : meth.sig.returnType = some .int) (hd : decode c.code pc = .ok (.ireturn, 1)) (hlk : meth.locks = false) (eT : T.heap = h) (hQ : Q (some (.int z)) h locs) (hc : cells ≤ C) (hs : slots ≤ S) : own_Go p e below (own_Fin s C S Q) (T.setTop (mkF m pc Ls (.int z :: rest))) :=
  own_end X (fun h => by rw [hret] at h; cases h) hlk eT hQ hc hs fun fs hr => retOut X hx hret rfl (Or.inl ⟨rfl, Or.inl rfl, _, rfl⟩) hd hr
theorem own_retJ (X : Stand p l e R s m args below meth c T locs cells slots) (hx : p.tables.exec = Jvm.exec) {pc : Nat} {Ls : Array Slot} {z : Int64} {rest : List Value} (hret : meth.sig.returnType = some .long) (hd : decode c.code pc = .ok (.lreturn, 1)) (hlk : meth.locks = false) (eT : T.heap = h) (hQ : Q (some (.long z)) h locs) (hc : cells ≤ C) (hs : slots ≤ S) : own_Go p e below (own_Fin s C S Q) (T.setTop (mkF m pc Ls (.long z :: rest))) :=
  own_end X (fun h => by rw [hret] at h; cases h) hlk eT hQ hc hs fun fs hr => retOut X hx hret rfl (Or.inr (Or.inl ⟨rfl, rfl, _, rfl⟩)) hd hr
theorem own_retD (X : Stand p l e R s m args below meth c T locs cells slots) (hx : p.tables.exec = Jvm.exec) {pc : Nat} {Ls : Array Slot} {z : UInt64} {rest : List Value} (hret : meth.sig.returnType = some .double) (hd : decode c.code pc = .ok (.dreturn, 1)) (hlk : meth.locks = false) (eT : T.heap = h) (hQ : Q (some (.double z)) h locs) (hc : cells ≤ C) (hs : slots ≤ S) : own_Go p e below (own_Fin s C S Q) (T.setTop (mkF m pc Ls (.double z :: rest))) :=
  own_end X (fun h => by rw [hret] at h; cases h) hlk eT hQ hc hs fun fs hr => retOut X hx hret rfl (Or.inr (Or.inr (Or.inl ⟨rfl, rfl, _, rfl⟩))) hd hr
theorem own_retR (X : Stand p l e R s m args below meth c T locs cells slots) (hx : p.tables.exec = Jvm.exec) {pc : Nat} {Ls : Array Slot} {w : Value} {t : FieldType} {rest : List Value} (hret : meth.sig.returnType = some t) (ht : t.isReference = true) (hw : w.isRef = true) (hd : decode c.code pc = .ok (.areturn, 1)) (hlk : meth.locks = false) (eT : T.heap = h) (hQ : Q (some w) h locs) (hc : cells ≤ C) (hs : slots ≤ S) : own_Go p e below (own_Fin s C S Q) (T.setTop (mkF m pc Ls (w :: rest))) :=
  own_end X (fun h => by rw [hret] at h; cases h) hlk eT hQ hc hs fun fs hr => retOut X hx hret (by cases t <;> first | rfl | (cases w <;> first | rfl | cases hw) | (cases ht)) (Or.inr (Or.inr (Or.inr (Or.inr ⟨rfl, ht, hw⟩)))) hd hr
theorem own_ret0 (X : Stand p l e R s m args below meth c T locs cells slots) (hx : p.tables.exec = Jvm.exec) {pc : Nat} {Ls : Array Slot} (hret : meth.sig.returnType = none) (hd : decode c.code pc = .ok (.return_, 1)) (hlk : meth.locks = false) (eT : T.heap = h) (hQ : Q none h locs) (hc : cells ≤ C) (hs : slots ≤ S) : own_Go p e below (own_Fin s C S Q) (T.setTop (mkF m pc Ls [])) :=
  own_end X (fun _ => rfl) hlk eT hQ hc hs fun fs hr => X.returnOut hx hret hd hr
theorem own_one {z : Int32} (q : z = 1) : (some (.int (nar .boolean z)) : Option Value) = some (.int 1) := by subst q; rfl
theorem own_lrem {g : JFrame} {target : State} (hh : At T m c below) (hx : p.tables.exec = Jvm.exec) (hg : g.method = m) {x y : Int64} {rest : List Value} (hd : decode c.code g.pc = .ok (.lrem, 1)) (hs : g.stack = .long y :: .long x :: rest) (hy : y ≠ 0)
    (hr : Steps p.tables e below (T.setTop { g with pc := g.pc + 1, stack := .long (x % y) :: rest }) target) : Steps p.tables e below (T.setTop g) target :=
  XS.lrem hh hx hg hd hs hy (by rw [lrem_mod]; exact hr)
theorem own_Arf.lt {f : Nat → Value} (F : own_Arf Z h a k ty n f) : a < h.size := by obtain ⟨c, A, -⟩ := F; exact A.lt
theorem own_Arf.ext {f : Nat → Value} (F : own_Arf Z h a k ty n f) (E : Ext h h') : own_Arf Z h' a k ty n f := by obtain ⟨c, A, r⟩ := F; exact ⟨c, A.ext E, r⟩
theorem own_Arf.other {f : Nat → Value} {sl : Nat} {v : Value} (F : own_Arf Z h b k ty n f) (W : Wr h h' a sl v) (q : b ≠ a) : own_Arf Z h' b k ty n f := by obtain ⟨c, A, r⟩ := F; exact ⟨c, A.other W q, r⟩
theorem own_Arf.keep {f : Nat → Value} (F : own_Arf Z h a k ty n f) (K : Keep h h' ws) (q : a ∉ ws) : own_Arf Z h' a k ty n f := by obtain ⟨c, A, r⟩ := F; exact ⟨c, ⟨K.2.1 a c A.1 q, A.2⟩, r⟩
theorem own_arfNew (A : Arr Z h a (newA k ty n) ty) (q : ¬ n < 0) : own_Arf Z h a k ty n (fun _ => defaultValue ty) := ⟨_, A, rfl, sz_new _ _ _, q, fun i hi => by
  rw [sz_new] at hi; simp [newA, hi], fun i _ => by cases ty <;> rfl⟩
theorem own_arfSet {cl : Cell} {f : Nat → Value} {j : Nat} {v : Value} (A : Arr Z h a cl ty) (q1 : cl.cls = k) (S : cl.slots.size = n.toNatClampNeg) (q3 : ¬ n < 0) (H : ∀ i, i < cl.slots.size → cl.slots[i]? = some (f i)) (G : ∀ i, i < cl.slots.size → fits ty (f i) = true) (hv : fits ty v = true) (W : Wr h h' a j v) : own_Arf Z h' a k ty n (own_upd f j v) := by
  refine ⟨_, A.same W, q1, by rw [sz_set]; exact S, q3, fun i hi => ?_, fun i hi => ?_⟩
  · rw [sz_set] at hi
    by_cases u : j = i
    · subst u; simp [Cell.setSlot, hi, own_upd]
    · have := H i hi; simp only [Cell.setSlot] at this ⊢
      rw [Array.getElem?_setIfInBounds_ne u, this]; simp [own_upd, Ne.symm u]
  · rw [sz_set] at hi
    by_cases u : j = i
    · subst u; simpa [own_upd] using hv
    · have := G i hi; simpa [own_upd, Ne.symm u] using this
theorem own_arfSetI {cl : Cell} {f : Nat → Int32} {j : Nat} {v : Int32} (A : Arr Z h a cl ty) (q1 : cl.cls = k) (S : cl.slots.size = n.toNatClampNeg) (q3 : ¬ n < 0) (H : ∀ i, i < cl.slots.size → cl.slots[i]? = some (.int (f i))) (G : ∀ i, i < cl.slots.size → fits ty (.int (f i)) = true) (hv : fits ty (.int v) = true) (W : Wr h h' a j (.int v)) : own_Arf Z h' a k ty n (fun i => .int (own_upd f j v i)) := by
  have q := own_arfSet (f := fun i => .int (f i)) A q1 S q3 H G hv W
  have e : (own_upd (fun i => Value.int (f i)) j (.int v)) = (fun i => .int (own_upd f j v i)) := by funext i; simp only [own_upd]; split <;> rfl
  rw [← e]; exact q
theorem own_arfSetJ {cl : Cell} {f : Nat → Int64} {j : Nat} {v : Int64} (A : Arr Z h a cl ty) (q1 : cl.cls = k) (S : cl.slots.size = n.toNatClampNeg) (q3 : ¬ n < 0) (H : ∀ i, i < cl.slots.size → cl.slots[i]? = some (.long (f i))) (G : ∀ i, i < cl.slots.size → fits ty (.long (f i)) = true) (hv : fits ty (.long v) = true) (W : Wr h h' a j (.long v)) : own_Arf Z h' a k ty n (fun i => .long (own_upd f j v i)) := by
  have q := own_arfSet (f := fun i => .long (f i)) A q1 S q3 H G hv W
  have e : (own_upd (fun i => Value.long (f i)) j (.long v)) = (fun i => .long (own_upd f j v i)) := by funext i; simp only [own_upd]; split <;> rfl
  rw [← e]; exact q
theorem own_arfSetD {cl : Cell} {f : Nat → UInt64} {j : Nat} {v : UInt64} (A : Arr Z h a cl ty) (q1 : cl.cls = k) (S : cl.slots.size = n.toNatClampNeg) (q3 : ¬ n < 0) (H : ∀ i, i < cl.slots.size → cl.slots[i]? = some (.double (f i))) (G : ∀ i, i < cl.slots.size → fits ty (.double (f i)) = true) (hv : fits ty (.double v) = true) (W : Wr h h' a j (.double v)) : own_Arf Z h' a k ty n (fun i => .double (own_upd f j v i)) := by
  have q := own_arfSet (f := fun i => .double (f i)) A q1 S q3 H G hv W
  have e : (own_upd (fun i => Value.double (f i)) j (.double v)) = (fun i => .double (own_upd f j v i)) := by funext i; simp only [own_upd]; split <;> rfl
  rw [← e]; exact q
theorem own_neArr {A0 : Array Value} {C : String} {kk : Nat} {f : Nat → Value} (F : Exa Z h a C) (wi : (Cond.instantiable C kk).before A0 Z = true) (G : own_Arf Z h b k ty n f) : a ≠ b := by
  obtain ⟨c, A, -⟩ := G
  exact ne_arr F wi A
theorem own_selPriv {Z s : State} {A0 args : Array Value} {y : MethodName} {n : Nat} (hZ : Z.Warmed39 s.vm) (wi : (Cond.instantiable y.cls n).before A0 Z = true) (wp : (Cond.privateMethod y).before A0 Z = true) (wm : (Cond.instanceMethod y).before A0 Z = true) (hy : y.cls ≠ "java/lang/invoke/MethodHandle" ∧ y.cls ≠ "java/lang/invoke/VarHandle") : (Cond.selects y.cls y y).before args s = true := by
  have wi' : (Cond.instantiable y.cls n).before args s = true := mvT hZ wi
  obtain ⟨c, k, h1, h2, h3, h4, -⟩ := Cond.instantiable_spec wi'
  refine selects_self_of_private h1 h2 ?_ (Cond.privateMethod_at (mvP hZ wp (args := args))) (mvT hZ wm) hy
  cases hi : k.isInterface <;> simp_all
theorem own_fitR {t : FieldType} {v : Value} (h : v.isRef = true) : fits (.array t) v = true := by cases v <;> first | rfl | cases h
theorem own_fitO {t : String} {v : Value} (h : v.isRef = true) : fits (.object t) v = true := by cases v <;> first | rfl | cases h
theorem own_exaPlain {C : String} (E : Exa Z h a C) : ∀ c : Cell, h[a]? = some c → c.vm.isStatics = false := fun c hc => by
  obtain ⟨cell, k, h1, -, -, h4, -⟩ := E
  cases h1.symm.trans hc; exact h4
theorem own_arfPlain {f : Nat → Value} (F : own_Arf Z h a k ty n f) : ∀ c : Cell, h[a]? = some c → c.vm.isStatics = false := fun c hc => by
  obtain ⟨cell, A, -⟩ := F
  cases A.1.symm.trans hc; exact A.plain
theorem own_staKeep {C nn d : String} {w : Value} (F : Sta Z h C nn d w) (K : Keep h h' ws) (hp : ∀ x ∈ ws, ∀ c : Cell, h[x]? = some c → c.vm.isStatics = false) : Sta Z h' C nn d w := by
  obtain ⟨cf, i, k, f, st, cell, h1, h2, h3, h4, h5, h6, h7⟩ := F
  have hn : st ∉ ws := fun hm => by have := hp st hm cell h5; rw [h6] at this; cases this
  exact ⟨cf, i, k, f, st, cell, h1, h2, h3, h4, K.2.1 st cell h5 hn, h6, h7⟩
theorem own_cat1 {v : Value} (h : v.isRef = true) : v.category = 1 := by cases v <;> first | rfl | cases h
end OwnKit

theorem own_landNN (x : Int64) : ¬ ((x &&& (9223372036854775807 : Int64)) < (0 : Int64)) := by
  have h := (c_andSL x 9223372036854775807).2.2 (by decide)
  rw [Int64.lt_iff_toInt_lt]
  have e : (0 : Int64).toInt = 0 := rfl
  omega
theorem own_rem (x : Int32) (d : Int) (y : Int32) (hy : y.toInt = d) (h0 : 0 < d) : 0 ≤ ((x &&& 2147483647) % y).toInt ∧ ((x &&& 2147483647) % y).toInt < d := by
  have h1 := c_and x 2147483647 (by decide)
  have h2 := (c_irem (x &&& 2147483647) y d hy).1 h1.1
  rw [h2]; exact ⟨Int.emod_nonneg _ (by omega), Int.emod_lt_of_pos _ h0⟩
theorem own_fldEq {args : Array Value} {s : State} {t : Term} {a : Addr} {C n d : String} {k : Int32} (h : (Jvm.Cond.eq (Term.field t C n d) (Term.int k)).value args s none s [] = some true) (ev : t.eval args s none [] s = some (.ref a)) : Fld s s.heap a C n d (.int k) := by
  refine Fld.start ?_
  have e1 := fld_at (C := C) (n := n) (dd := d) ev
  have e2 : (Term.int k).eval args s none [] s = some (.int k) := rfl
  simp only [Cond.value, e1, e2] at h
  cases hf : s.fieldOf? a C n d with
  | none => rw [hf] at h; simp at h
  | some v =>
    rw [hf] at h
    cases v <;> simp_all
theorem own_s16 (x : Int32) (h1 : -32768 ≤ x.toInt) (h2 : x.toInt < 32768) : x.toInt16.toInt32 = x := by
  have h := c_i2s x
  apply Int32.toInt_inj.mp
  omega
open Jvm.Free.Fl in
theorem own_b31 (x : Int32) : -2147483648 ≤ x.toInt64.toInt ∧ x.toInt64.toInt ≤ 2147483647 := by
  have h := c_i2l x
  have r := rng32 x
  omega
def own_bd (k : Int) (a : Int64) : Prop := -(k * 2147483648) ≤ a.toInt ∧ a.toInt ≤ k * 2147483648
theorem own_bd53 {k : Int} {a : Int64} (h : own_bd k a) (hk : k ≤ 8) (h0 : 0 ≤ k) : B53 a := by
  obtain ⟨h1, h2⟩ := h
  constructor <;> omega
theorem own_s0 (x : Int32) : FP.dadd (0 : UInt64) (FP.i2d x) = FP.l2d x.toInt64 ∧ own_bd 1 x.toInt64 := by
  have b := own_b31 x
  have hb : own_bd 1 x.toInt64 := ⟨by omega, by omega⟩
  refine ⟨?_, hb⟩
  have h0 : own_bd 0 0 := by unfold own_bd; decide
  have h := dadd_w (own_bd53 h0 (by decide) (by decide)) (own_bd53 hb (by decide) (by decide))
  rw [l2d_zero] at h
  rw [i2d_w, h]
  congr 1
  exact Int64.zero_add _
theorem own_s1 {u : UInt64} {S : Int64} {k : Int} (h : u = FP.l2d S ∧ own_bd k S) (hk : k ≤ 5) (h0 : 0 ≤ k) (x : Int32) : FP.dadd u (FP.i2d x) = FP.l2d (S + x.toInt64) ∧ own_bd (k + 1) (S + x.toInt64) := by
  obtain ⟨rfl, hS⟩ := h
  have b := own_b31 x
  have hb : own_bd 1 x.toInt64 := ⟨by omega, by omega⟩
  have b1 := own_bd53 hS (by omega) h0
  have b2 := own_bd53 hb (by decide) (by decide)
  refine ⟨by rw [i2d_w]; exact dadd_w b1 b2, ?_⟩
  have e := add64 b1 b2
  obtain ⟨h1, h2⟩ := hS
  constructor <;> omega
theorem own_sn {u : UInt64} {S : Int64} {k : Int} (h : u = FP.l2d S ∧ own_bd k S) : Fl.NoNaN64 u := nn_w h.1
theorem own_v5 (p v : Int32) (h : ((p &&& (2147483647 : Int32)) % (5 : Int32)) = v) : 0 ≤ v.toInt ∧ v.toInt ≤ 4 := by
  have h1 := c_and p 2147483647 (by decide)
  have h2 := (c_irem (p &&& 2147483647) 5 5 rfl).1 h1.1
  rw [h] at h2
  omega
theorem own_dn (a k : Int64) (hk : k ≠ 0) : Fl.NoNaN64 (FP.ddiv (FP.l2d a) (FP.l2d k)) := by
  exact ((ddiv_mag (Fl.l2d_mag a) (l2d_big hk) (by decide) (by decide)).fin (by decide)).noNaN
theorem d1_0 : decode prog_30_method_1_code 0 = .ok (.aload_n 0, 1) := by decide +kernel
theorem d1_1 : decode prog_30_method_1_code 1 = .ok (.invokespecial 1, 3) := by decide +kernel
theorem d1_4 : decode prog_30_method_1_code 4 = .ok (.return_, 1) := by decide +kernel
theorem pn_1 : plainName "com/example/credence/credence/sim/Mean" = true := by first | (simp [plainName, overriddenIn]; done) | decide +kernel
theorem ef_1 (m : MethodId) (a0 : Addr) : entryFrame m #[(.ref a0)] 1 = mkF m 0 #[.val (.ref a0)] [] := by first | (simp [entryFrame, mkF, argsToLocals, Value.category]; done) | rfl
def Q1 (Z : State) (a0 : Addr) (h0 : Heap) (n0 : Nat) (v : Option Value) (h : Heap) (L : List Loc) : Prop := v = none ∧ Fr n0 L ∧ h = h0
set_option maxRecDepth 65536 in
set_option maxHeartbeats 40000000 in
theorem rm1 (l : Launch) (Z : State) (A0 : Array Value) (hw : ∀ d ∈ tables_1, d.before A0 Z = true) (ws : List Jvm.Cond) (a0 : Addr) (h0 : Heap) (n0 : Nat) (Z0 : n0 ≤ h0.size) :
    MetFree l (⟨"com/example/credence/credence/sim/Mean", "<init>", "()V"⟩ : MethodName) (head1 (Jvm.Cond.code (⟨"com/example/credence/credence/sim/Mean", "<init>", "()V"⟩ : MethodName) prog_30_method_1_code 1 none :: ws) ({ frames := 1, cells := 0, slots := 0, locals := 12 } : Room)) (fun a U => a = #[(.ref a0)] ∧ Z.Warmed39 U.vm ∧ U.heap = h0) (fun _ _ _ _ _ => True) (fun _ U o U' => ∃ v L, o = .returned v ∧ Q1 Z a0 h0 n0 v U'.heap L ∧ FrameEnd U o U' L 0 0) := by
  refine MetFree.of_bodySF (plainFor_of_name pn_1) hisR ?_
  intro p e s m args below meth c s₁ Bd hml0 hP hK
  obtain ⟨rfl, hZ, hh⟩ := hP
  have hwd := fun i {d : Jvm.Cond} (h : tables_1[i]? = some d) => hw d (List.mem_of_getElem? h)
  have hx := Bd.exec
  have hby := Bd.bytes
  have hml : c.maxLocals = 1 := hml0
  have hlk : meth.locks = false := Bd.notSynchronized
  have hown : s.vm.findClass "com/example/credence/credence/sim/Mean" = some m.cls := findClass_of_methodNamed Bd.named
  have hnm := (name_of_methodNamed Bd.named Bd.method).1
  have X0 : Stand p l e ({ frames := 1, cells := 0, slots := 0, locals := 12 } : Room) s m #[(.ref a0)] below meth c s₁ [] 0 0 := Stand.of_body Bd
  have e0 : s₁.heap = h0 := by rw [← hh, Bd.state]; rfl
  have N0 := Fr.nil n0
  show own_Go p e below (own_Fin s 0 0 (Q1 Z a0 h0 n0)) _
  refine own_by (fun t k => castTop (ef_1 m a0) k) ?_
  show own_Go p e below _ (s₁.setTop (mkF m 0 #[.val (.ref a0)] []))
  refine own_by (fun _ k => XS.aloadN X0.here hx rfl (hb hby d1_0) rfl rfl k) ?_
  show own_Go p e below _ (s₁.setTop (mkF m 1 #[.val (.ref a0)] [(.ref a0)]))
  obtain ⟨T1, X1, e1, st1⟩ := initO X0 hx hZ hown (hwd 7 rfl) (hwd 8 rfl) (hwd 9 rfl) e0 (g := (mkF m 1 #[.val (.ref a0)] [(.ref a0)])) rfl (by rw [hml]; rfl) rfl (hb hby d1_1) (by decide) (W := 0) (by show 2 * 0 + _ ≤ _; exact Nat.le_of_eq rfl) (by decide)
  refine own_by st1 ?_
  show own_Go p e below _ (T1.setTop (mkF m 4 #[.val (.ref a0)] []))
  exact own_ret0 X1 hx Bd.returns (hb hby d1_4) hlk e1 ⟨rfl, N0, rfl⟩ (by decide) (by decide)
theorem d8_0 : decode jdk_2648_method_3_code 0 = .ok (.aload_n 0, 1) := by decide +kernel
theorem d8_1 : decode jdk_2648_method_3_code 1 = .ok (.invokespecial 1, 3) := by decide +kernel
theorem d8_4 : decode jdk_2648_method_3_code 4 = .ok (.aload_n 0, 1) := by decide +kernel
theorem d8_5 : decode jdk_2648_method_3_code 5 = .ok (.iconst 1, 1) := by decide +kernel
theorem d8_6 : decode jdk_2648_method_3_code 6 = .ok (.putfield 7, 3) := by decide +kernel
theorem d8_9 : decode jdk_2648_method_3_code 9 = .ok (.aload_n 0, 1) := by decide +kernel
theorem d8_10 : decode jdk_2648_method_3_code 10 = .ok (.dload_n 1, 1) := by decide +kernel
theorem d8_11 : decode jdk_2648_method_3_code 11 = .ok (.putfield 17, 3) := by decide +kernel
theorem d8_14 : decode jdk_2648_method_3_code 14 = .ok (.return_, 1) := by decide +kernel
theorem pn_8 : plainName "java/util/OptionalDouble" = true := by first | (simp [plainName, overriddenIn]; done) | decide +kernel
theorem ef_8 (m : MethodId) (a0 : Addr) (d1 : UInt64) : entryFrame m #[(.ref a0), (.double d1)] 3 = mkF m 0 #[.val (.ref a0), .val (.double d1), .second] [] := by first | (simp [entryFrame, mkF, argsToLocals, Value.category]; done) | rfl
def Q8 (Z : State) (a0 : Addr) (d1 : UInt64) (f_a0_isPresent : Int32) (f_a0_value : UInt64) (h0 : Heap) (n0 : Nat) (v : Option Value) (h : Heap) (L : List Loc) : Prop := v = none ∧ Fr n0 L ∧ Keep h0 h [a0] ∧ Exa Z h a0 "java/util/OptionalDouble" ∧ Fld Z h a0 "java/util/OptionalDouble" "isPresent" "Z" (.int (1 : Int32)) ∧ Fld Z h a0 "java/util/OptionalDouble" "value" "D" (.double d1)
set_option maxRecDepth 65536 in
set_option maxHeartbeats 40000000 in
theorem rm8 (l : Launch) (Z : State) (A0 : Array Value) (hw : ∀ d ∈ tables_1, d.before A0 Z = true) (ws : List Jvm.Cond) (a0 : Addr) (d1 : UInt64) (f_a0_isPresent : Int32) (f_a0_value : UInt64) (h0 : Heap) (n0 : Nat) (Z0 : n0 ≤ h0.size) (P_E_a0 : Exa Z h0 a0 "java/util/OptionalDouble") (P_F_a0_isPresent : Fld Z h0 a0 "java/util/OptionalDouble" "isPresent" "Z" (.int f_a0_isPresent)) (g_a0 : n0 ≤ a0) (P_F_a0_value : Fld Z h0 a0 "java/util/OptionalDouble" "value" "D" (.double f_a0_value)) :
    MetFree l (⟨"java/util/OptionalDouble", "<init>", "(D)V"⟩ : MethodName) (head1 (Jvm.Cond.code (⟨"java/util/OptionalDouble", "<init>", "(D)V"⟩ : MethodName) jdk_2648_method_3_code 3 none :: ws) ({ frames := 1, cells := 0, slots := 0, locals := 12 } : Room)) (fun a U => a = #[(.ref a0), (.double d1)] ∧ Z.Warmed39 U.vm ∧ U.heap = h0) (fun _ _ _ _ _ => True) (fun _ U o U' => ∃ v L, o = .returned v ∧ Q8 Z a0 d1 f_a0_isPresent f_a0_value h0 n0 v U'.heap L ∧ FrameEnd U o U' L 0 0) := by
  refine MetFree.of_bodySF (plainFor_of_name pn_8) hisR ?_
  intro p e s m args below meth c s₁ Bd hml0 hP hK
  obtain ⟨rfl, hZ, hh⟩ := hP
  have hwd := fun i {d : Jvm.Cond} (h : tables_1[i]? = some d) => hw d (List.mem_of_getElem? h)
  have hx := Bd.exec
  have hby := Bd.bytes
  have hml : c.maxLocals = 3 := hml0
  have hlk : meth.locks = false := Bd.notSynchronized
  have hown : s.vm.findClass "java/util/OptionalDouble" = some m.cls := findClass_of_methodNamed Bd.named
  have hnm := (name_of_methodNamed Bd.named Bd.method).1
  have X0 : Stand p l e ({ frames := 1, cells := 0, slots := 0, locals := 12 } : Room) s m #[(.ref a0), (.double d1)] below meth c s₁ [] 0 0 := Stand.of_body Bd
  have e0 : s₁.heap = h0 := by rw [← hh, Bd.state]; rfl
  have N0 := Fr.nil n0
  show own_Go p e below (own_Fin s 0 0 (Q8 Z a0 d1 f_a0_isPresent f_a0_value h0 n0)) _
  refine own_by (fun t k => castTop (ef_8 m a0 d1) k) ?_
  show own_Go p e below _ (s₁.setTop (mkF m 0 #[.val (.ref a0), .val (.double d1), .second] []))
  refine own_by (fun _ k => XS.aloadN X0.here hx rfl (hb hby d8_0) rfl rfl k) ?_
  show own_Go p e below _ (s₁.setTop (mkF m 1 #[.val (.ref a0), .val (.double d1), .second] [(.ref a0)]))
  obtain ⟨T1, X1, e1, st1⟩ := initO X0 hx hZ hown (hwd 45 rfl) (hwd 8 rfl) (hwd 9 rfl) e0 (g := (mkF m 1 #[.val (.ref a0), .val (.double d1), .second] [(.ref a0)])) rfl (by rw [hml]; rfl) rfl (hb hby d8_1) (by decide) (W := 0) (by show 2 * 0 + _ ≤ _; exact Nat.le_of_eq rfl) (by decide)
  refine own_by st1 ?_
  show own_Go p e below _ (T1.setTop (mkF m 4 #[.val (.ref a0), .val (.double d1), .second] []))
  refine own_by (fun _ k => XS.aloadN X1.here hx rfl (hb hby d8_4) rfl rfl k) ?_
  show own_Go p e below _ (T1.setTop (mkF m 5 #[.val (.ref a0), .val (.double d1), .second] [(.ref a0)]))
  refine own_by (fun _ k => XS.iconst X1.here hx rfl (hb hby d8_5) k) ?_
  show own_Go p e below _ (T1.setTop (mkF m 6 #[.val (.ref a0), .val (.double d1), .second] [(.int (1 : Int32)), (.ref a0)]))
  obtain ⟨T2, h2, X2, e2, W2, st2⟩ := putFN X1 hx hZ hown (hwd 27 rfl) Via.refl e1 P_F_a0_isPresent P_E_a0 (Or.inr ⟨(hwd 28 rfl), rfl, hnm⟩) (hwd 40 rfl) (ty := .boolean) (v' := (.int (1 : Int32))) (by decide) rfl rfl (g := (mkF m 6 #[.val (.ref a0), .val (.double d1), .second] [(.int (1 : Int32)), (.ref a0)])) rfl rfl (hb hby d8_6)
  have Fw2 : Fld Z h2 a0 "java/util/OptionalDouble" "isPresent" "Z" (.int (1 : Int32)) := P_F_a0_isPresent.same W2
  have K2 : Keep h0 h2 [a0] := (Keep.refl h0 [a0]).wr W2 (Or.inl (List.mem_of_getElem? (i := 0) rfl))
  have Z2 : n0 ≤ h2.size := Nat.le_trans Z0 (Keep.of_wr W2).1
  have N2 := Fr.snoc X2 N0 g_a0
  refine own_by st2 ?_
  show own_Go p e below _ (T2.setTop (mkF m 9 #[.val (.ref a0), .val (.double d1), .second] []))
  refine own_by (fun _ k => XS.aloadN X2.here hx rfl (hb hby d8_9) rfl rfl k) ?_
  show own_Go p e below _ (T2.setTop (mkF m 10 #[.val (.ref a0), .val (.double d1), .second] [(.ref a0)]))
  refine own_by (fun _ k => XS.dloadN X2.here hx rfl (hb hby d8_10) rfl k) ?_
  show own_Go p e below _ (T2.setTop (mkF m 11 #[.val (.ref a0), .val (.double d1), .second] [(.double d1), (.ref a0)]))
  have F3 : Exa Z h2 a0 "java/util/OptionalDouble" := (P_E_a0.wr W2)
  have F4 : Fld Z h2 a0 "java/util/OptionalDouble" "value" "D" (.double f_a0_value) := (P_F_a0_value.other W2 (Or.inr (slot_ne (Or.inr (hwd 47 rfl)) (Or.inr (hwd 28 rfl)) (by decide) (t := .double) (t' := .boolean) (by decide) (by decide))))
  obtain ⟨T5, h5, X5, e5, W5, st5⟩ := putF X2 hx hZ hown (host := "") (Or.inl (hwd 46 rfl)) Via.refl e2 F4 F3 (Or.inr ⟨(hwd 47 rfl), rfl, hnm⟩) (hwd 40 rfl) (ty := .double) (by decide) rfl rfl (g := (mkF m 11 #[.val (.ref a0), .val (.double d1), .second] [(.double d1), (.ref a0)])) rfl rfl (hb hby d8_11)
  have Fw5 : Fld Z h5 a0 "java/util/OptionalDouble" "value" "D" (.double d1) := F4.same W5
  have K5 : Keep h0 h5 [a0] := K2.wr W5 (Or.inl (List.mem_of_getElem? (i := 0) rfl))
  have Z5 : n0 ≤ h5.size := Nat.le_trans Z2 (Keep.of_wr W5).1
  have N5 := Fr.snoc X5 N2 g_a0
  refine own_by st5 ?_
  show own_Go p e below _ (T5.setTop (mkF m 14 #[.val (.ref a0), .val (.double d1), .second] []))
  have F6 : Exa Z h5 a0 "java/util/OptionalDouble" := (F3.wr W5)
  have F7 : Fld Z h5 a0 "java/util/OptionalDouble" "isPresent" "Z" (.int (1 : Int32)) := (Fw2.other W5 (Or.inr (slot_ne (Or.inr (hwd 28 rfl)) (Or.inr (hwd 47 rfl)) (by decide) (t := .boolean) (t' := .double) (by decide) (by decide))))
  exact own_ret0 X5 hx Bd.returns (hb hby d8_14) hlk e5 ⟨rfl, N5, K5, F6, F7, Fw5⟩ (by decide) (by decide)
theorem pd_29 : parseMethodDescriptor "(D)V" = some ⟨[.double], none⟩ := by decide +kernel
theorem d7_0 : decode jdk_2648_method_4_code 0 = .ok (.new 8, 3) := by decide +kernel
theorem d7_3 : decode jdk_2648_method_4_code 3 = .ok (.dup, 1) := by decide +kernel
theorem d7_4 : decode jdk_2648_method_4_code 4 = .ok (.dload_n 0, 1) := by decide +kernel
theorem d7_5 : decode jdk_2648_method_4_code 5 = .ok (.invokespecial 25, 3) := by decide +kernel
theorem d7_8 : decode jdk_2648_method_4_code 8 = .ok (.areturn, 1) := by decide +kernel
theorem pn_7 : plainName "java/util/OptionalDouble" = true := by first | (simp [plainName, overriddenIn]; done) | decide +kernel
theorem ef_7 (m : MethodId) (d0 : UInt64) : entryFrame m #[(.double d0)] 2 = mkF m 0 #[.val (.double d0), .second] [] := by first | (simp [entryFrame, mkF, argsToLocals, Value.category]; done) | rfl
def Q7 (Z : State) (d0 : UInt64) (h0 : Heap) (n0 : Nat) (v : Option Value) (h : Heap) (L : List Loc) : Prop := ∃ (b1 : Addr), v = some (.ref b1) ∧ Fr n0 L ∧ Keep h0 h [] ∧ (n0 ≤ b1) ∧ (h0.size ≤ b1) ∧ Exa Z h b1 "java/util/OptionalDouble" ∧ Fld Z h b1 "java/util/OptionalDouble" "isPresent" "Z" (.int (1 : Int32)) ∧ Fld Z h b1 "java/util/OptionalDouble" "value" "D" (.double d0)
set_option maxRecDepth 65536 in
set_option maxHeartbeats 40000000 in
theorem rm7 (l : Launch) (Z : State) (A0 : Array Value) (hw : ∀ d ∈ tables_1, d.before A0 Z = true) (ws : List Jvm.Cond) (d0 : UInt64) (h0 : Heap) (n0 : Nat) (Z0 : n0 ≤ h0.size) :
    MetFree l (⟨"java/util/OptionalDouble", "of", "(D)Ljava/util/OptionalDouble;"⟩ : MethodName) (head1 (Jvm.Cond.code (⟨"java/util/OptionalDouble", "of", "(D)Ljava/util/OptionalDouble;"⟩ : MethodName) jdk_2648_method_4_code 2 (some (.object "java/util/OptionalDouble")) :: ws) ({ frames := 2, cells := 1, slots := 2, locals := 27 } : Room)) (fun a U => a = #[(.double d0)] ∧ Z.Warmed39 U.vm ∧ U.heap = h0) (fun _ _ _ _ _ => True) (fun _ U o U' => ∃ v L, o = .returned v ∧ Q7 Z d0 h0 n0 v U'.heap L ∧ FrameEnd U o U' L 1 2) := by
  refine MetFree.of_bodySF (plainFor_of_name pn_7) hisR ?_
  intro p e s m args below meth c s₁ Bd hml0 hP hK
  obtain ⟨rfl, hZ, hh⟩ := hP
  have hwd := fun i {d : Jvm.Cond} (h : tables_1[i]? = some d) => hw d (List.mem_of_getElem? h)
  have hx := Bd.exec
  have hby := Bd.bytes
  have hml : c.maxLocals = 2 := hml0
  have hlk : meth.locks = false := Bd.notSynchronized
  have hown : s.vm.findClass "java/util/OptionalDouble" = some m.cls := findClass_of_methodNamed Bd.named
  have hnm := (name_of_methodNamed Bd.named Bd.method).1
  have X0 : Stand p l e ({ frames := 2, cells := 1, slots := 2, locals := 27 } : Room) s m #[(.double d0)] below meth c s₁ [] 0 0 := Stand.of_body Bd
  have e0 : s₁.heap = h0 := by rw [← hh, Bd.state]; rfl
  have N0 := Fr.nil n0
  show own_Go p e below (own_Fin s 1 2 (Q7 Z d0 h0 n0)) _
  refine own_by (fun t k => castTop (ef_7 m d0) k) ?_
  show own_Go p e below _ (s₁.setTop (mkF m 0 #[.val (.double d0), .second] []))
  obtain ⟨T1, h1, X1, e1, E1, A1, D1, -, st1⟩ := newO X0 hx hZ hown (hwd 39 rfl) (hwd 40 rfl) (hwd 19 rfl) e0 (g := (mkF m 0 #[.val (.double d0), .second] [])) rfl (hb hby d7_0) (by decide) (by decide)
  obtain ⟨b1, g1⟩ : ∃ z, z = h0.size := ⟨_, rfl⟩
  have ge_b1 : n0 ≤ b1 := Nat.le_trans Z0 (Nat.le_of_eq g1.symm)
  have sz_b1 : h0.size ≤ b1 := Nat.le_trans (Keep.refl h0 []).1 (Nat.le_of_eq g1.symm)
  have K1 : Keep h0 h1 [] := (Keep.refl h0 []).ext E1
  have Z1 : n0 ≤ h1.size := Nat.le_trans Z0 E1.1
  rw [← g1] at A1 D1 st1
  have F_isPresent_b1 : Fld Z h1 b1 "java/util/OptionalDouble" "isPresent" "Z" (.int (0 : Int32)) := D1 (Or.inr (hwd 28 rfl)) (ty := .boolean) (by decide)
  have F_value_b1 : Fld Z h1 b1 "java/util/OptionalDouble" "value" "D" (.double (0 : UInt64)) := D1 (Or.inr (hwd 47 rfl)) (ty := .double) (by decide)
  refine own_by st1 ?_
  show own_Go p e below _ (T1.setTop (mkF m 3 #[.val (.double d0), .second] [(.ref b1)]))
  refine own_by (fun _ k => XS.dup X1.here hx rfl (hb hby d7_3) rfl rfl k) ?_
  show own_Go p e below _ (T1.setTop (mkF m 4 #[.val (.double d0), .second] [(.ref b1), (.ref b1)]))
  refine own_by (fun _ k => XS.dloadN X1.here hx rfl (hb hby d7_4) rfl k) ?_
  show own_Go p e below _ (T1.setTop (mkF m 5 #[.val (.double d0), .second] [(.double d0), (.ref b1), (.ref b1)]))
  obtain ⟨_, _, ⟨T2, L2, k2, n2⟩, -, X2, ⟨Lc2, hQ2, l2, y2, z2⟩, st2⟩ := X1.specialBack hx (y := (⟨"java/util/OptionalDouble", "<init>", "(D)V"⟩ : MethodName)) rfl hown (mvT hZ (hwd 41 rfl)) (mvT hZ (hwd 42 rfl)) (mvT hZ (hwd 44 rfl)) (by decide) (backOf (W := 1) (rm8 l Z A0 hw [] b1 d0 (0 : Int32) (0 : UInt64) h1 n0 Z1 A1 F_isPresent_b1 ge_b1 F_value_b1) hZ (hwd 44 rfl) (hwd 19 rfl) (by decide) (by decide)) (g := (mkF m 5 #[.val (.double d0), .second] [(.double d0), (.ref b1), (.ref b1)])) rfl (by rw [hml]; rfl) (Steps.refl _) (a := b1) (argsL := [(.double d0)]) (rest := [(.ref b1)]) (lenOf pd_29 rfl) rfl (by show 2 * 0 + _ ≤ _; exact Nat.le_of_eq rfl) (hb hby d7_5) (fun _ _ => ⟨rfl, e1, (by decide : 1 + 0 ≤ _), (by decide : 2 + 0 ≤ _)⟩)
  dsimp only [Pt.U, Pt.locs, Pt.cells, Pt.slots] at X2 l2 y2 z2 st2 hQ2
  subst l2 y2 z2
  obtain ⟨rfl, Nq2, Kq2, F3, F4, F5⟩ := hQ2
  have N2 := Fr.app N0 Nq2
  have K2 : Keep h0 T2.heap [] := K1.trans Kq2 ((allS (Or.inr sz_b1) all0))
  have Z2 : n0 ≤ T2.heap.size := Nat.le_trans Z1 Kq2.1
  refine own_by (fun _ k => st2.trans k) ?_
  show own_Go p e below _ (T2.setTop (mkF m 8 #[.val (.double d0), .second] [(.ref b1)]))
  exact own_retR X2 hx Bd.returns (by decide) rfl (hb hby d7_8) hlk rfl ⟨_, rfl, N2, K2, ge_b1, sz_b1, F3, F4, F5⟩ (by decide) (by decide)
theorem d4_0 : decode jdk_2648_method_2_code 0 = .ok (.getstatic 21, 3) := by decide +kernel
theorem d4_3 : decode jdk_2648_method_2_code 3 = .ok (.areturn, 1) := by decide +kernel
theorem pn_4 : plainName "java/util/OptionalDouble" = true := by first | (simp [plainName, overriddenIn]; done) | decide +kernel
theorem ef_4 (m : MethodId)  : entryFrame m #[] 0 = mkF m 0 #[] [] := by first | (simp [entryFrame, mkF, argsToLocals, Value.category]; done) | rfl
def Q4 (Z : State) (f_EMPTY : Addr) (h0 : Heap) (n0 : Nat) (v : Option Value) (h : Heap) (L : List Loc) : Prop := v = some (.ref f_EMPTY) ∧ Fr n0 L ∧ h = h0
set_option maxRecDepth 65536 in
set_option maxHeartbeats 40000000 in
theorem rm4 (l : Launch) (Z : State) (A0 : Array Value) (hw : ∀ d ∈ tables_1, d.before A0 Z = true) (ws : List Jvm.Cond) (f_EMPTY : Addr) (h0 : Heap) (n0 : Nat) (Z0 : n0 ≤ h0.size) (P_S_java_util_OptionalDouble_EMPTY : Sta Z h0 "java/util/OptionalDouble" "EMPTY" "Ljava/util/OptionalDouble;" (.ref f_EMPTY)) :
    MetFree l (⟨"java/util/OptionalDouble", "empty", "()Ljava/util/OptionalDouble;"⟩ : MethodName) (head1 (Jvm.Cond.code (⟨"java/util/OptionalDouble", "empty", "()Ljava/util/OptionalDouble;"⟩ : MethodName) jdk_2648_method_2_code 0 (some (.object "java/util/OptionalDouble")) :: ws) ({ frames := 0, cells := 0, slots := 0, locals := 0 } : Room)) (fun a U => a = #[] ∧ Z.Warmed39 U.vm ∧ U.heap = h0) (fun _ _ _ _ _ => True) (fun _ U o U' => ∃ v L, o = .returned v ∧ Q4 Z f_EMPTY h0 n0 v U'.heap L ∧ FrameEnd U o U' L 0 0) := by
  refine MetFree.of_bodySF (plainFor_of_name pn_4) hisR ?_
  intro p e s m args below meth c s₁ Bd hml0 hP hK
  obtain ⟨rfl, hZ, hh⟩ := hP
  have hwd := fun i {d : Jvm.Cond} (h : tables_1[i]? = some d) => hw d (List.mem_of_getElem? h)
  have hx := Bd.exec
  have hby := Bd.bytes
  have hml : c.maxLocals = 0 := hml0
  have hlk : meth.locks = false := Bd.notSynchronized
  have hown : s.vm.findClass "java/util/OptionalDouble" = some m.cls := findClass_of_methodNamed Bd.named
  have hnm := (name_of_methodNamed Bd.named Bd.method).1
  have X0 : Stand p l e ({ frames := 0, cells := 0, slots := 0, locals := 0 } : Room) s m #[] below meth c s₁ [] 0 0 := Stand.of_body Bd
  have e0 : s₁.heap = h0 := by rw [← hh, Bd.state]; rfl
  have N0 := Fr.nil n0
  show own_Go p e below (own_Fin s 0 0 (Q4 Z f_EMPTY h0 n0)) _
  refine own_by (fun t k => castTop (ef_4 m ) k) ?_
  show own_Go p e below _ (s₁.setTop (mkF m 0 #[] []))
  obtain ⟨T1, X1, e1, st1⟩ := getS2 X0 hx hZ hown (host := "") (Or.inl (hwd 21 rfl)) Via.refl e0 P_S_java_util_OptionalDouble_EMPTY (g := (mkF m 0 #[] [])) rfl (hb hby d4_0)
  refine own_by st1 ?_
  show own_Go p e below _ (T1.setTop (mkF m 3 #[] [(.ref f_EMPTY)]))
  exact own_retR X1 hx Bd.returns (by decide) rfl (hb hby d4_3) hlk e1 ⟨rfl, N0, rfl⟩ (by decide) (by decide)
theorem d5_0 : decode jdk_2648_method_6_code 0 = .ok (.aload_n 0, 1) := by decide +kernel
theorem d5_1 : decode jdk_2648_method_6_code 1 = .ok (.getfield 7, 3) := by decide +kernel
theorem d5_4 : decode jdk_2648_method_6_code 4 = .ok (.ireturn, 1) := by decide +kernel
theorem pn_5 : plainName "java/util/OptionalDouble" = true := by first | (simp [plainName, overriddenIn]; done) | decide +kernel
theorem ef_5 (m : MethodId) (a0 : Addr) : entryFrame m #[(.ref a0)] 1 = mkF m 0 #[.val (.ref a0)] [] := by first | (simp [entryFrame, mkF, argsToLocals, Value.category]; done) | rfl
def Q5 (Z : State) (a0 : Addr) (f_a0_isPresent : Int32) (h0 : Heap) (n0 : Nat) (v : Option Value) (h : Heap) (L : List Loc) : Prop := v = some (.int (nar .boolean f_a0_isPresent)) ∧ Fr n0 L ∧ h = h0
set_option maxRecDepth 65536 in
set_option maxHeartbeats 40000000 in
theorem rm5 (l : Launch) (Z : State) (A0 : Array Value) (hw : ∀ d ∈ tables_1, d.before A0 Z = true) (ws : List Jvm.Cond) (a0 : Addr) (f_a0_isPresent : Int32) (h0 : Heap) (n0 : Nat) (Z0 : n0 ≤ h0.size) (P_F_a0_isPresent : Fld Z h0 a0 "java/util/OptionalDouble" "isPresent" "Z" (.int f_a0_isPresent)) :
    MetFree l (⟨"java/util/OptionalDouble", "isPresent", "()Z"⟩ : MethodName) (head1 (Jvm.Cond.code (⟨"java/util/OptionalDouble", "isPresent", "()Z"⟩ : MethodName) jdk_2648_method_6_code 1 (some .boolean) :: ws) ({ frames := 0, cells := 0, slots := 0, locals := 0 } : Room)) (fun a U => a = #[(.ref a0)] ∧ Z.Warmed39 U.vm ∧ U.heap = h0) (fun _ _ _ _ _ => True) (fun _ U o U' => ∃ v L, o = .returned v ∧ Q5 Z a0 f_a0_isPresent h0 n0 v U'.heap L ∧ FrameEnd U o U' L 0 0) := by
  refine MetFree.of_bodySF (plainFor_of_name pn_5) hisR ?_
  intro p e s m args below meth c s₁ Bd hml0 hP hK
  obtain ⟨rfl, hZ, hh⟩ := hP
  have hwd := fun i {d : Jvm.Cond} (h : tables_1[i]? = some d) => hw d (List.mem_of_getElem? h)
  have hx := Bd.exec
  have hby := Bd.bytes
  have hml : c.maxLocals = 1 := hml0
  have hlk : meth.locks = false := Bd.notSynchronized
  have hown : s.vm.findClass "java/util/OptionalDouble" = some m.cls := findClass_of_methodNamed Bd.named
  have hnm := (name_of_methodNamed Bd.named Bd.method).1
  have X0 : Stand p l e ({ frames := 0, cells := 0, slots := 0, locals := 0 } : Room) s m #[(.ref a0)] below meth c s₁ [] 0 0 := Stand.of_body Bd
  have e0 : s₁.heap = h0 := by rw [← hh, Bd.state]; rfl
  have N0 := Fr.nil n0
  show own_Go p e below (own_Fin s 0 0 (Q5 Z a0 f_a0_isPresent h0 n0)) _
  refine own_by (fun t k => castTop (ef_5 m a0) k) ?_
  show own_Go p e below _ (s₁.setTop (mkF m 0 #[.val (.ref a0)] []))
  refine own_by (fun _ k => XS.aloadN X0.here hx rfl (hb hby d5_0) rfl rfl k) ?_
  show own_Go p e below _ (s₁.setTop (mkF m 1 #[.val (.ref a0)] [(.ref a0)]))
  obtain ⟨T1, X1, e1, st1⟩ := getF X0 hx hZ hown (host := "") (Or.inl (hwd 27 rfl)) Via.refl e0 P_F_a0_isPresent (g := (mkF m 1 #[.val (.ref a0)] [(.ref a0)])) rfl rfl (hb hby d5_1)
  refine own_by st1 ?_
  show own_Go p e below _ (T1.setTop (mkF m 4 #[.val (.ref a0)] [(.int f_a0_isPresent)]))
  exact own_retN X1 hx (t := .boolean) Bd.returns (by simp) (hb hby d5_4) hlk e1 ⟨rfl, N0, rfl⟩ (by decide) (by decide)
theorem d9_0 : decode jdk_2648_method_5_code 0 = .ok (.aload_n 0, 1) := by decide +kernel
theorem d9_1 : decode jdk_2648_method_5_code 1 = .ok (.getfield 7, 3) := by decide +kernel
theorem d9_4 : decode jdk_2648_method_5_code 4 = .ok (.ifCond .ne 13, 3) := by decide +kernel
theorem d9_17 : decode jdk_2648_method_5_code 17 = .ok (.aload_n 0, 1) := by decide +kernel
theorem d9_18 : decode jdk_2648_method_5_code 18 = .ok (.getfield 17, 3) := by decide +kernel
theorem d9_21 : decode jdk_2648_method_5_code 21 = .ok (.dreturn, 1) := by decide +kernel
theorem pn_9 : plainName "java/util/OptionalDouble" = true := by first | (simp [plainName, overriddenIn]; done) | decide +kernel
theorem ef_9 (m : MethodId) (a0 : Addr) : entryFrame m #[(.ref a0)] 1 = mkF m 0 #[.val (.ref a0)] [] := by first | (simp [entryFrame, mkF, argsToLocals, Value.category]; done) | rfl
def Q9 (Z : State) (a0 : Addr) (f_a0_isPresent : Int32) (f_a0_value : UInt64) (h0 : Heap) (n0 : Nat) (v : Option Value) (h : Heap) (L : List Loc) : Prop := v = some (.double f_a0_value) ∧ Fr n0 L ∧ h = h0
set_option maxRecDepth 65536 in
set_option maxHeartbeats 40000000 in
theorem rm9 (l : Launch) (Z : State) (A0 : Array Value) (hw : ∀ d ∈ tables_1, d.before A0 Z = true) (ws : List Jvm.Cond) (a0 : Addr) (f_a0_isPresent : Int32) (f_a0_value : UInt64) (h0 : Heap) (n0 : Nat) (Z0 : n0 ≤ h0.size) (P_F_a0_isPresent : Fld Z h0 a0 "java/util/OptionalDouble" "isPresent" "Z" (.int f_a0_isPresent)) (hc4 : ¬ (f_a0_isPresent = (0 : Int32))) (P_F_a0_value : Fld Z h0 a0 "java/util/OptionalDouble" "value" "D" (.double f_a0_value)) :
    MetFree l (⟨"java/util/OptionalDouble", "getAsDouble", "()D"⟩ : MethodName) (head1 (Jvm.Cond.code (⟨"java/util/OptionalDouble", "getAsDouble", "()D"⟩ : MethodName) jdk_2648_method_5_code 1 (some .double) :: ws) ({ frames := 0, cells := 0, slots := 0, locals := 0 } : Room)) (fun a U => a = #[(.ref a0)] ∧ Z.Warmed39 U.vm ∧ U.heap = h0) (fun _ _ _ _ _ => True) (fun _ U o U' => ∃ v L, o = .returned v ∧ Q9 Z a0 f_a0_isPresent f_a0_value h0 n0 v U'.heap L ∧ FrameEnd U o U' L 0 0) := by
  refine MetFree.of_bodySF (plainFor_of_name pn_9) hisR ?_
  intro p e s m args below meth c s₁ Bd hml0 hP hK
  obtain ⟨rfl, hZ, hh⟩ := hP
  have hwd := fun i {d : Jvm.Cond} (h : tables_1[i]? = some d) => hw d (List.mem_of_getElem? h)
  have hx := Bd.exec
  have hby := Bd.bytes
  have hml : c.maxLocals = 1 := hml0
  have hlk : meth.locks = false := Bd.notSynchronized
  have hown : s.vm.findClass "java/util/OptionalDouble" = some m.cls := findClass_of_methodNamed Bd.named
  have hnm := (name_of_methodNamed Bd.named Bd.method).1
  have X0 : Stand p l e ({ frames := 0, cells := 0, slots := 0, locals := 0 } : Room) s m #[(.ref a0)] below meth c s₁ [] 0 0 := Stand.of_body Bd
  have e0 : s₁.heap = h0 := by rw [← hh, Bd.state]; rfl
  have N0 := Fr.nil n0
  show own_Go p e below (own_Fin s 0 0 (Q9 Z a0 f_a0_isPresent f_a0_value h0 n0)) _
  refine own_by (fun t k => castTop (ef_9 m a0) k) ?_
  show own_Go p e below _ (s₁.setTop (mkF m 0 #[.val (.ref a0)] []))
  refine own_by (fun _ k => XS.aloadN X0.here hx rfl (hb hby d9_0) rfl rfl k) ?_
  show own_Go p e below _ (s₁.setTop (mkF m 1 #[.val (.ref a0)] [(.ref a0)]))
  obtain ⟨T1, X1, e1, st1⟩ := getF X0 hx hZ hown (host := "") (Or.inl (hwd 27 rfl)) Via.refl e0 P_F_a0_isPresent (g := (mkF m 1 #[.val (.ref a0)] [(.ref a0)])) rfl rfl (hb hby d9_1)
  refine own_by st1 ?_
  show own_Go p e below _ (T1.setTop (mkF m 4 #[.val (.ref a0)] [(.int f_a0_isPresent)]))
  refine own_by (fun _ k => XS.ifYes X1.here hx rfl (pc0 := 4) (pc' := 17) rfl (hb hby d9_4) rfl ((if0 _ _).trans (feq hc4).2) (by decide) (by decide) k) ?_
  show own_Go p e below _ (T1.setTop (mkF m 17 #[.val (.ref a0)] []))
  refine own_by (fun _ k => XS.aloadN X1.here hx rfl (hb hby d9_17) rfl rfl k) ?_
  show own_Go p e below _ (T1.setTop (mkF m 18 #[.val (.ref a0)] [(.ref a0)]))
  obtain ⟨T2, X2, e2, st2⟩ := getF X1 hx hZ hown (host := "") (Or.inl (hwd 46 rfl)) Via.refl e1 P_F_a0_value (g := (mkF m 18 #[.val (.ref a0)] [(.ref a0)])) rfl rfl (hb hby d9_18)
  refine own_by st2 ?_
  show own_Go p e below _ (T2.setTop (mkF m 21 #[.val (.ref a0)] [(.double f_a0_value)]))
  exact own_retD X2 hx Bd.returns (hb hby d9_21) hlk e2 ⟨rfl, N0, rfl⟩ (by decide) (by decide)
theorem d6_0 : decode prog_30_method_4_code 0 = .ok (.aload_n 0, 1) := by decide +kernel
theorem d6_1 : decode prog_30_method_4_code 1 = .ok (.dup, 1) := by decide +kernel
theorem d6_2 : decode prog_30_method_4_code 2 = .ok (.getfield 56, 3) := by decide +kernel
theorem d6_5 : decode prog_30_method_4_code 5 = .ok (.dload_n 1, 1) := by decide +kernel
theorem d6_6 : decode prog_30_method_4_code 6 = .ok (.dadd, 1) := by decide +kernel
theorem d6_7 : decode prog_30_method_4_code 7 = .ok (.putfield 56, 3) := by decide +kernel
theorem d6_10 : decode prog_30_method_4_code 10 = .ok (.aload_n 0, 1) := by decide +kernel
theorem d6_11 : decode prog_30_method_4_code 11 = .ok (.dup, 1) := by decide +kernel
theorem d6_12 : decode prog_30_method_4_code 12 = .ok (.getfield 60, 3) := by decide +kernel
theorem d6_15 : decode prog_30_method_4_code 15 = .ok (.lconst 1, 1) := by decide +kernel
theorem d6_16 : decode prog_30_method_4_code 16 = .ok (.ladd, 1) := by decide +kernel
theorem d6_17 : decode prog_30_method_4_code 17 = .ok (.putfield 60, 3) := by decide +kernel
theorem d6_20 : decode prog_30_method_4_code 20 = .ok (.return_, 1) := by decide +kernel
theorem pn_6 : plainName "com/example/credence/credence/sim/Mean" = true := by first | (simp [plainName, overriddenIn]; done) | decide +kernel
theorem ef_6 (m : MethodId) (a0 : Addr) (d1 : UInt64) : entryFrame m #[(.ref a0), (.double d1)] 3 = mkF m 0 #[.val (.ref a0), .val (.double d1), .second] [] := by first | (simp [entryFrame, mkF, argsToLocals, Value.category]; done) | rfl
def Q6 (Z : State) (a0 : Addr) (d1 : UInt64) (f_a0_sum : UInt64) (f_a0_count : Int64) (h0 : Heap) (n0 : Nat) (v : Option Value) (h : Heap) (L : List Loc) : Prop := v = none ∧ Fr n0 L ∧ Keep h0 h [a0] ∧ Fld Z h a0 "com/example/credence/credence/sim/Mean" "sum" "D" (.double (FP.dadd f_a0_sum d1)) ∧ Exa Z h a0 "com/example/credence/credence/sim/Mean" ∧ Fld Z h a0 "com/example/credence/credence/sim/Mean" "count" "J" (.long (f_a0_count + (1 : Int64)))
set_option maxRecDepth 65536 in
set_option maxHeartbeats 40000000 in
theorem rm6 (l : Launch) (Z : State) (A0 : Array Value) (hw : ∀ d ∈ tables_1, d.before A0 Z = true) (ws : List Jvm.Cond) (a0 : Addr) (d1 : UInt64) (f_a0_sum : UInt64) (f_a0_count : Int64) (h0 : Heap) (n0 : Nat) (Z0 : n0 ≤ h0.size) (P_F_a0_sum : Fld Z h0 a0 "com/example/credence/credence/sim/Mean" "sum" "D" (.double f_a0_sum)) (hp_0 : Fl.NoNaN64 (FP.dadd f_a0_sum d1)) (P_E_a0 : Exa Z h0 a0 "com/example/credence/credence/sim/Mean") (g_a0 : n0 ≤ a0) (P_F_a0_count : Fld Z h0 a0 "com/example/credence/credence/sim/Mean" "count" "J" (.long f_a0_count)) :
    MetFree l (⟨"com/example/credence/credence/sim/Mean", "add", "(D)V"⟩ : MethodName) (head1 (Jvm.Cond.code (⟨"com/example/credence/credence/sim/Mean", "add", "(D)V"⟩ : MethodName) prog_30_method_4_code 3 none :: ws) ({ frames := 0, cells := 0, slots := 0, locals := 0 } : Room)) (fun a U => a = #[(.ref a0), (.double d1)] ∧ Z.Warmed39 U.vm ∧ U.heap = h0) (fun _ _ _ _ _ => True) (fun _ U o U' => ∃ v L, o = .returned v ∧ Q6 Z a0 d1 f_a0_sum f_a0_count h0 n0 v U'.heap L ∧ FrameEnd U o U' L 0 0) := by
  refine MetFree.of_bodySF (plainFor_of_name pn_6) hisR ?_
  intro p e s m args below meth c s₁ Bd hml0 hP hK
  obtain ⟨rfl, hZ, hh⟩ := hP
  have hwd := fun i {d : Jvm.Cond} (h : tables_1[i]? = some d) => hw d (List.mem_of_getElem? h)
  have hx := Bd.exec
  have hby := Bd.bytes
  have hml : c.maxLocals = 3 := hml0
  have hlk : meth.locks = false := Bd.notSynchronized
  have hown : s.vm.findClass "com/example/credence/credence/sim/Mean" = some m.cls := findClass_of_methodNamed Bd.named
  have hnm := (name_of_methodNamed Bd.named Bd.method).1
  have X0 : Stand p l e ({ frames := 0, cells := 0, slots := 0, locals := 0 } : Room) s m #[(.ref a0), (.double d1)] below meth c s₁ [] 0 0 := Stand.of_body Bd
  have e0 : s₁.heap = h0 := by rw [← hh, Bd.state]; rfl
  have N0 := Fr.nil n0
  show own_Go p e below (own_Fin s 0 0 (Q6 Z a0 d1 f_a0_sum f_a0_count h0 n0)) _
  refine own_by (fun t k => castTop (ef_6 m a0 d1) k) ?_
  show own_Go p e below _ (s₁.setTop (mkF m 0 #[.val (.ref a0), .val (.double d1), .second] []))
  refine own_by (fun _ k => XS.aloadN X0.here hx rfl (hb hby d6_0) rfl rfl k) ?_
  show own_Go p e below _ (s₁.setTop (mkF m 1 #[.val (.ref a0), .val (.double d1), .second] [(.ref a0)]))
  refine own_by (fun _ k => XS.dup X0.here hx rfl (hb hby d6_1) rfl rfl k) ?_
  show own_Go p e below _ (s₁.setTop (mkF m 2 #[.val (.ref a0), .val (.double d1), .second] [(.ref a0), (.ref a0)]))
  obtain ⟨T1, X1, e1, st1⟩ := getF X0 hx hZ hown (host := "") (Or.inl (hwd 34 rfl)) Via.refl e0 P_F_a0_sum (g := (mkF m 2 #[.val (.ref a0), .val (.double d1), .second] [(.ref a0), (.ref a0)])) rfl rfl (hb hby d6_2)
  refine own_by st1 ?_
  show own_Go p e below _ (T1.setTop (mkF m 5 #[.val (.ref a0), .val (.double d1), .second] [(.double f_a0_sum), (.ref a0)]))
  refine own_by (fun _ k => XS.dloadN X1.here hx rfl (hb hby d6_5) rfl k) ?_
  show own_Go p e below _ (T1.setTop (mkF m 6 #[.val (.ref a0), .val (.double d1), .second] [(.double d1), (.double f_a0_sum), (.ref a0)]))
  refine own_by (fun _ k => XS.daddS X1.here hx rfl (hb hby d6_6) rfl hp_0 rfl k) ?_
  show own_Go p e below _ (T1.setTop (mkF m 7 #[.val (.ref a0), .val (.double d1), .second] [(.double (FP.dadd f_a0_sum d1)), (.ref a0)]))
  obtain ⟨T2, h2, X2, e2, W2, st2⟩ := putF X1 hx hZ hown (host := "") (Or.inl (hwd 34 rfl)) Via.refl e1 P_F_a0_sum P_E_a0 (Or.inl (hwd 35 rfl)) (hwd 2 rfl) (ty := .double) (by decide) rfl rfl (g := (mkF m 7 #[.val (.ref a0), .val (.double d1), .second] [(.double (FP.dadd f_a0_sum d1)), (.ref a0)])) rfl rfl (hb hby d6_7)
  have Fw2 : Fld Z h2 a0 "com/example/credence/credence/sim/Mean" "sum" "D" (.double (FP.dadd f_a0_sum d1)) := P_F_a0_sum.same W2
  have K2 : Keep h0 h2 [a0] := (Keep.refl h0 [a0]).wr W2 (Or.inl (List.mem_of_getElem? (i := 0) rfl))
  have Z2 : n0 ≤ h2.size := Nat.le_trans Z0 (Keep.of_wr W2).1
  have N2 := Fr.snoc X2 N0 g_a0
  refine own_by st2 ?_
  show own_Go p e below _ (T2.setTop (mkF m 10 #[.val (.ref a0), .val (.double d1), .second] []))
  refine own_by (fun _ k => XS.aloadN X2.here hx rfl (hb hby d6_10) rfl rfl k) ?_
  show own_Go p e below _ (T2.setTop (mkF m 11 #[.val (.ref a0), .val (.double d1), .second] [(.ref a0)]))
  refine own_by (fun _ k => XS.dup X2.here hx rfl (hb hby d6_11) rfl rfl k) ?_
  show own_Go p e below _ (T2.setTop (mkF m 12 #[.val (.ref a0), .val (.double d1), .second] [(.ref a0), (.ref a0)]))
  have F3 : Fld Z h2 a0 "com/example/credence/credence/sim/Mean" "count" "J" (.long f_a0_count) := (P_F_a0_count.other W2 (Or.inr (slot_ne (Or.inl (hwd 16 rfl)) (Or.inl (hwd 35 rfl)) (by decide) (t := .long) (t' := .double) (by decide) (by decide))))
  obtain ⟨T4, X4, e4, st4⟩ := getF X2 hx hZ hown (host := "") (Or.inl (hwd 15 rfl)) Via.refl e2 F3 (g := (mkF m 12 #[.val (.ref a0), .val (.double d1), .second] [(.ref a0), (.ref a0)])) rfl rfl (hb hby d6_12)
  refine own_by st4 ?_
  show own_Go p e below _ (T4.setTop (mkF m 15 #[.val (.ref a0), .val (.double d1), .second] [(.long f_a0_count), (.ref a0)]))
  refine own_by (fun _ k => XS.lconst X4.here hx rfl (hb hby d6_15) k) ?_
  show own_Go p e below _ (T4.setTop (mkF m 16 #[.val (.ref a0), .val (.double d1), .second] [(.long (1 : Int64)), (.long f_a0_count), (.ref a0)]))
  refine own_by (fun _ k => XS.ladd X4.here hx rfl (hb hby d6_16) rfl k) ?_
  show own_Go p e below _ (T4.setTop (mkF m 17 #[.val (.ref a0), .val (.double d1), .second] [(.long (f_a0_count + (1 : Int64))), (.ref a0)]))
  have F5 : Exa Z h2 a0 "com/example/credence/credence/sim/Mean" := (P_E_a0.wr W2)
  obtain ⟨T6, h6, X6, e6, W6, st6⟩ := putF X4 hx hZ hown (host := "") (Or.inl (hwd 15 rfl)) Via.refl e4 F3 F5 (Or.inl (hwd 16 rfl)) (hwd 2 rfl) (ty := .long) (by decide) rfl rfl (g := (mkF m 17 #[.val (.ref a0), .val (.double d1), .second] [(.long (f_a0_count + (1 : Int64))), (.ref a0)])) rfl rfl (hb hby d6_17)
  have Fw6 : Fld Z h6 a0 "com/example/credence/credence/sim/Mean" "count" "J" (.long (f_a0_count + (1 : Int64))) := F3.same W6
  have K6 : Keep h0 h6 [a0] := K2.wr W6 (Or.inl (List.mem_of_getElem? (i := 0) rfl))
  have Z6 : n0 ≤ h6.size := Nat.le_trans Z2 (Keep.of_wr W6).1
  have N6 := Fr.snoc X6 N2 g_a0
  refine own_by st6 ?_
  show own_Go p e below _ (T6.setTop (mkF m 20 #[.val (.ref a0), .val (.double d1), .second] []))
  have F7 : Fld Z h6 a0 "com/example/credence/credence/sim/Mean" "sum" "D" (.double (FP.dadd f_a0_sum d1)) := (Fw2.other W6 (Or.inr (slot_ne (Or.inl (hwd 35 rfl)) (Or.inl (hwd 16 rfl)) (by decide) (t := .double) (t' := .long) (by decide) (by decide))))
  have F8 : Exa Z h6 a0 "com/example/credence/credence/sim/Mean" := (F5.wr W6)
  exact own_ret0 X6 hx Bd.returns (hb hby d6_20) hlk e6 ⟨rfl, N6, K6, F7, F8, Fw6⟩ (by decide) (by decide)
theorem pd_10 : parseMethodDescriptor "()Ljava/util/OptionalDouble;" = some ⟨[], some (.object "java/util/OptionalDouble")⟩ := by decide +kernel
theorem d3_0 : decode prog_30_method_5_code 0 = .ok (.aload_n 0, 1) := by decide +kernel
theorem d3_1 : decode prog_30_method_5_code 1 = .ok (.getfield 60, 3) := by decide +kernel
theorem d3_4 : decode prog_30_method_5_code 4 = .ok (.lconst 0, 1) := by decide +kernel
theorem d3_5 : decode prog_30_method_5_code 5 = .ok (.lcmp, 1) := by decide +kernel
theorem d3_6 : decode prog_30_method_5_code 6 = .ok (.ifCond .ne 9, 3) := by decide +kernel
theorem d3_9 : decode prog_30_method_5_code 9 = .ok (.invokestatic 64, 3) := by decide +kernel
theorem d3_12 : decode prog_30_method_5_code 12 = .ok (.goto 16, 3) := by decide +kernel
theorem d3_28 : decode prog_30_method_5_code 28 = .ok (.areturn, 1) := by decide +kernel
theorem pn_v0 : plainName "com/example/credence/credence/sim/Mean" = true := by first | (simp [plainName, overriddenIn]; done) | decide +kernel
theorem ef_v0 (m : MethodId) (a0 : Addr) : entryFrame m #[(.ref a0)] 1 = mkF m 0 #[.val (.ref a0)] [] := by first | (simp [entryFrame, mkF, argsToLocals, Value.category]; done) | rfl
def Qv0 (Z : State) (a0 : Addr) (f_EMPTY : Addr) (h0 : Heap) (n0 : Nat) (v : Option Value) (h : Heap) (L : List Loc) : Prop := v = some (.ref f_EMPTY) ∧ Fr n0 L ∧ h = h0
set_option maxRecDepth 65536 in
set_option maxHeartbeats 40000000 in
theorem rmv0 (l : Launch) (Z : State) (A0 : Array Value) (hw : ∀ d ∈ tables_1, d.before A0 Z = true) (ws : List Jvm.Cond) (a0 : Addr) (f_EMPTY : Addr) (h0 : Heap) (n0 : Nat) (Z0 : n0 ≤ h0.size) (P_F_a0_count : Fld Z h0 a0 "com/example/credence/credence/sim/Mean" "count" "J" (.long (0 : Int64))) (P_S_java_util_OptionalDouble_EMPTY : Sta Z h0 "java/util/OptionalDouble" "EMPTY" "Ljava/util/OptionalDouble;" (.ref f_EMPTY)) :
    MetFree l (⟨"com/example/credence/credence/sim/Mean", "value", "()Ljava/util/OptionalDouble;"⟩ : MethodName) (head1 (Jvm.Cond.code (⟨"com/example/credence/credence/sim/Mean", "value", "()Ljava/util/OptionalDouble;"⟩ : MethodName) prog_30_method_5_code 1 (some (.object "java/util/OptionalDouble")) :: ws) ({ frames := 1, cells := 0, slots := 0, locals := 11 } : Room)) (fun a U => a = #[(.ref a0)] ∧ Z.Warmed39 U.vm ∧ U.heap = h0) (fun _ _ _ _ _ => True) (fun _ U o U' => ∃ v L, o = .returned v ∧ Qv0 Z a0 f_EMPTY h0 n0 v U'.heap L ∧ FrameEnd U o U' L 0 0) := by
  refine MetFree.of_bodySF (plainFor_of_name pn_v0) hisR ?_
  intro p e s m args below meth c s₁ Bd hml0 hP hK
  obtain ⟨rfl, hZ, hh⟩ := hP
  have hwd := fun i {d : Jvm.Cond} (h : tables_1[i]? = some d) => hw d (List.mem_of_getElem? h)
  have hx := Bd.exec
  have hby := Bd.bytes
  have hml : c.maxLocals = 1 := hml0
  have hlk : meth.locks = false := Bd.notSynchronized
  have hown : s.vm.findClass "com/example/credence/credence/sim/Mean" = some m.cls := findClass_of_methodNamed Bd.named
  have hnm := (name_of_methodNamed Bd.named Bd.method).1
  have X0 : Stand p l e ({ frames := 1, cells := 0, slots := 0, locals := 11 } : Room) s m #[(.ref a0)] below meth c s₁ [] 0 0 := Stand.of_body Bd
  have e0 : s₁.heap = h0 := by rw [← hh, Bd.state]; rfl
  have N0 := Fr.nil n0
  show own_Go p e below (own_Fin s 0 0 (Qv0 Z a0 f_EMPTY h0 n0)) _
  refine own_by (fun t k => castTop (ef_v0 m a0) k) ?_
  show own_Go p e below _ (s₁.setTop (mkF m 0 #[.val (.ref a0)] []))
  refine own_by (fun _ k => XS.aloadN X0.here hx rfl (hb hby d3_0) rfl rfl k) ?_
  show own_Go p e below _ (s₁.setTop (mkF m 1 #[.val (.ref a0)] [(.ref a0)]))
  obtain ⟨T1, X1, e1, st1⟩ := getF X0 hx hZ hown (host := "") (Or.inl (hwd 15 rfl)) Via.refl e0 P_F_a0_count (g := (mkF m 1 #[.val (.ref a0)] [(.ref a0)])) rfl rfl (hb hby d3_1)
  refine own_by st1 ?_
  show own_Go p e below _ (T1.setTop (mkF m 4 #[.val (.ref a0)] [(.long (0 : Int64))]))
  refine own_by (fun _ k => XS.lconst X1.here hx rfl (hb hby d3_4) k) ?_
  show own_Go p e below _ (T1.setTop (mkF m 5 #[.val (.ref a0)] [(.long (0 : Int64)), (.long (0 : Int64))]))
  refine own_by (fun _ k => XS.lcmp X1.here hx rfl (hb hby d3_5) rfl k) ?_
  show own_Go p e below _ (T1.setTop (mkF m 6 #[.val (.ref a0)] [(.int (lcmpW (0 : Int64) (0 : Int64)))]))
  refine own_by (fun _ k => XS.ifNo X1.here hx rfl (hb hby d3_6) rfl ((if0 _ _).trans (teq ((lw_eq _ _).mpr (by decide : (0 : Int64) = (0 : Int64)))).2) k) ?_
  show own_Go p e below _ (T1.setTop (mkF m 9 #[.val (.ref a0)] []))
  obtain ⟨_, _, ⟨T2, L2, k2, n2⟩, -, X2, ⟨Lc2, hQ2, l2, y2, z2⟩, st2⟩ := Jvm.LawKit.callS X1 hx (y := (⟨"java/util/OptionalDouble", "empty", "()Ljava/util/OptionalDouble;"⟩ : MethodName)) hown (mvT hZ (hwd 17 rfl)) (mvT hZ (hwd 18 rfl)) (mvT hZ (hwd 19 rfl)) (mvT hZ (hwd 20 rfl)) (by decide) (backOf (W := 0) (rm4 l Z A0 hw [] f_EMPTY h0 n0 Z0 P_S_java_util_OptionalDouble_EMPTY) hZ (hwd 20 rfl) (hwd 19 rfl) (by decide) (by decide)) (g := (mkF m 9 #[.val (.ref a0)] [])) rfl (by rw [hml]; rfl) (argsL := []) (rest := []) (lenOf pd_10 rfl) rfl (by show 2 * 0 + _ ≤ _; exact Nat.le_of_eq rfl) (hb hby d3_9) (fun _ _ => ⟨rfl, e1, (by decide : 0 + 0 ≤ _), (by decide : 0 + 0 ≤ _)⟩)
  dsimp only [Pt.U, Pt.locs, Pt.cells, Pt.slots] at X2 l2 y2 z2 st2 hQ2
  subst l2 y2 z2
  obtain ⟨rfl, Nq2, eq2⟩ := hQ2
  have N2 := Fr.app N0 Nq2
  refine own_by st2 ?_
  show own_Go p e below _ (T2.setTop (mkF m 12 #[.val (.ref a0)] [(.ref f_EMPTY)]))
  refine own_by (fun _ k => XS.goto X2.here hx rfl (pc0 := 12) (pc' := 28) rfl (hb hby d3_12) (by decide) (by decide) k) ?_
  show own_Go p e below _ (T2.setTop (mkF m 28 #[.val (.ref a0)] [(.ref f_EMPTY)]))
  exact own_retR X2 hx Bd.returns (by decide) rfl (hb hby d3_28) hlk eq2 ⟨rfl, N2, rfl⟩ (by decide) (by decide)
theorem pd_36 : parseMethodDescriptor "(D)Ljava/util/OptionalDouble;" = some ⟨[.double], some (.object "java/util/OptionalDouble")⟩ := by decide +kernel
theorem d3_15 : decode prog_30_method_5_code 15 = .ok (.aload_n 0, 1) := by decide +kernel
theorem d3_16 : decode prog_30_method_5_code 16 = .ok (.getfield 56, 3) := by decide +kernel
theorem d3_19 : decode prog_30_method_5_code 19 = .ok (.aload_n 0, 1) := by decide +kernel
theorem d3_20 : decode prog_30_method_5_code 20 = .ok (.getfield 60, 3) := by decide +kernel
theorem d3_23 : decode prog_30_method_5_code 23 = .ok (.l2d, 1) := by decide +kernel
theorem d3_24 : decode prog_30_method_5_code 24 = .ok (.ddiv, 1) := by decide +kernel
theorem d3_25 : decode prog_30_method_5_code 25 = .ok (.invokestatic 67, 3) := by decide +kernel
theorem pn_vN : plainName "com/example/credence/credence/sim/Mean" = true := by first | (simp [plainName, overriddenIn]; done) | decide +kernel
theorem ef_vN (m : MethodId) (a0 : Addr) : entryFrame m #[(.ref a0)] 1 = mkF m 0 #[.val (.ref a0)] [] := by first | (simp [entryFrame, mkF, argsToLocals, Value.category]; done) | rfl
def QvN (Z : State) (a0 : Addr) (f_a0_count : Int64) (f_a0_sum : UInt64) (h0 : Heap) (n0 : Nat) (v : Option Value) (h : Heap) (L : List Loc) : Prop := ∃ (b5 : Addr), v = some (.ref b5) ∧ Fr n0 L ∧ Keep h0 h [] ∧ (n0 ≤ b5) ∧ (h0.size ≤ b5) ∧ Exa Z h b5 "java/util/OptionalDouble" ∧ Fld Z h b5 "java/util/OptionalDouble" "isPresent" "Z" (.int (1 : Int32)) ∧ Fld Z h b5 "java/util/OptionalDouble" "value" "D" (.double (FP.ddiv f_a0_sum (FP.l2d f_a0_count)))
set_option maxRecDepth 65536 in
set_option maxHeartbeats 40000000 in
theorem rmvN (l : Launch) (Z : State) (A0 : Array Value) (hw : ∀ d ∈ tables_1, d.before A0 Z = true) (ws : List Jvm.Cond) (a0 : Addr) (f_a0_count : Int64) (f_a0_sum : UInt64) (h0 : Heap) (n0 : Nat) (Z0 : n0 ≤ h0.size) (P_F_a0_count : Fld Z h0 a0 "com/example/credence/credence/sim/Mean" "count" "J" (.long f_a0_count)) (ha6 : ¬ (f_a0_count = (0 : Int64))) (P_F_a0_sum : Fld Z h0 a0 "com/example/credence/credence/sim/Mean" "sum" "D" (.double f_a0_sum)) (hp_1 : Fl.NoNaN64 (FP.ddiv f_a0_sum (FP.l2d f_a0_count))) :
    MetFree l (⟨"com/example/credence/credence/sim/Mean", "value", "()Ljava/util/OptionalDouble;"⟩ : MethodName) (head1 (Jvm.Cond.code (⟨"com/example/credence/credence/sim/Mean", "value", "()Ljava/util/OptionalDouble;"⟩ : MethodName) prog_30_method_5_code 1 (some (.object "java/util/OptionalDouble")) :: ws) ({ frames := 3, cells := 1, slots := 2, locals := 40 } : Room)) (fun a U => a = #[(.ref a0)] ∧ Z.Warmed39 U.vm ∧ U.heap = h0) (fun _ _ _ _ _ => True) (fun _ U o U' => ∃ v L, o = .returned v ∧ QvN Z a0 f_a0_count f_a0_sum h0 n0 v U'.heap L ∧ FrameEnd U o U' L 1 2) := by
  refine MetFree.of_bodySF (plainFor_of_name pn_vN) hisR ?_
  intro p e s m args below meth c s₁ Bd hml0 hP hK
  obtain ⟨rfl, hZ, hh⟩ := hP
  have hwd := fun i {d : Jvm.Cond} (h : tables_1[i]? = some d) => hw d (List.mem_of_getElem? h)
  have hx := Bd.exec
  have hby := Bd.bytes
  have hml : c.maxLocals = 1 := hml0
  have hlk : meth.locks = false := Bd.notSynchronized
  have hown : s.vm.findClass "com/example/credence/credence/sim/Mean" = some m.cls := findClass_of_methodNamed Bd.named
  have hnm := (name_of_methodNamed Bd.named Bd.method).1
  have X0 : Stand p l e ({ frames := 3, cells := 1, slots := 2, locals := 40 } : Room) s m #[(.ref a0)] below meth c s₁ [] 0 0 := Stand.of_body Bd
  have e0 : s₁.heap = h0 := by rw [← hh, Bd.state]; rfl
  have N0 := Fr.nil n0
  show own_Go p e below (own_Fin s 1 2 (QvN Z a0 f_a0_count f_a0_sum h0 n0)) _
  refine own_by (fun t k => castTop (ef_vN m a0) k) ?_
  show own_Go p e below _ (s₁.setTop (mkF m 0 #[.val (.ref a0)] []))
  refine own_by (fun _ k => XS.aloadN X0.here hx rfl (hb hby d3_0) rfl rfl k) ?_
  show own_Go p e below _ (s₁.setTop (mkF m 1 #[.val (.ref a0)] [(.ref a0)]))
  obtain ⟨T1, X1, e1, st1⟩ := getF X0 hx hZ hown (host := "") (Or.inl (hwd 15 rfl)) Via.refl e0 P_F_a0_count (g := (mkF m 1 #[.val (.ref a0)] [(.ref a0)])) rfl rfl (hb hby d3_1)
  refine own_by st1 ?_
  show own_Go p e below _ (T1.setTop (mkF m 4 #[.val (.ref a0)] [(.long f_a0_count)]))
  refine own_by (fun _ k => XS.lconst X1.here hx rfl (hb hby d3_4) k) ?_
  show own_Go p e below _ (T1.setTop (mkF m 5 #[.val (.ref a0)] [(.long (0 : Int64)), (.long f_a0_count)]))
  refine own_by (fun _ k => XS.lcmp X1.here hx rfl (hb hby d3_5) rfl k) ?_
  show own_Go p e below _ (T1.setTop (mkF m 6 #[.val (.ref a0)] [(.int (lcmpW f_a0_count (0 : Int64)))]))
  refine own_by (fun _ k => XS.ifYes X1.here hx rfl (pc0 := 6) (pc' := 15) rfl (hb hby d3_6) rfl ((if0 _ _).trans (feq (fun q => ha6 ((lw_eq _ _).mp q))).2) (by decide) (by decide) k) ?_
  show own_Go p e below _ (T1.setTop (mkF m 15 #[.val (.ref a0)] []))
  refine own_by (fun _ k => XS.aloadN X1.here hx rfl (hb hby d3_15) rfl rfl k) ?_
  show own_Go p e below _ (T1.setTop (mkF m 16 #[.val (.ref a0)] [(.ref a0)]))
  obtain ⟨T2, X2, e2, st2⟩ := getF X1 hx hZ hown (host := "") (Or.inl (hwd 34 rfl)) Via.refl e1 P_F_a0_sum (g := (mkF m 16 #[.val (.ref a0)] [(.ref a0)])) rfl rfl (hb hby d3_16)
  refine own_by st2 ?_
  show own_Go p e below _ (T2.setTop (mkF m 19 #[.val (.ref a0)] [(.double f_a0_sum)]))
  refine own_by (fun _ k => XS.aloadN X2.here hx rfl (hb hby d3_19) rfl rfl k) ?_
  show own_Go p e below _ (T2.setTop (mkF m 20 #[.val (.ref a0)] [(.ref a0), (.double f_a0_sum)]))
  obtain ⟨T3, X3, e3, st3⟩ := getF X2 hx hZ hown (host := "") (Or.inl (hwd 15 rfl)) Via.refl e2 P_F_a0_count (g := (mkF m 20 #[.val (.ref a0)] [(.ref a0), (.double f_a0_sum)])) rfl rfl (hb hby d3_20)
  refine own_by st3 ?_
  show own_Go p e below _ (T3.setTop (mkF m 23 #[.val (.ref a0)] [(.long f_a0_count), (.double f_a0_sum)]))
  refine own_by (fun _ k => XS.l2dS X3.here hx rfl (hb hby d3_23) rfl rfl k) ?_
  show own_Go p e below _ (T3.setTop (mkF m 24 #[.val (.ref a0)] [(.double (FP.l2d f_a0_count)), (.double f_a0_sum)]))
  refine own_by (fun _ k => XS.ddivS X3.here hx rfl (hb hby d3_24) rfl hp_1 rfl k) ?_
  show own_Go p e below _ (T3.setTop (mkF m 25 #[.val (.ref a0)] [(.double (FP.ddiv f_a0_sum (FP.l2d f_a0_count)))]))
  obtain ⟨_, _, ⟨T4, L4, k4, n4⟩, -, X4, ⟨Lc4, hQ4, l4, y4, z4⟩, st4⟩ := Jvm.LawKit.callS X3 hx (y := (⟨"java/util/OptionalDouble", "of", "(D)Ljava/util/OptionalDouble;"⟩ : MethodName)) hown (mvT hZ (hwd 36 rfl)) (mvT hZ (hwd 37 rfl)) (mvT hZ (hwd 19 rfl)) (mvT hZ (hwd 38 rfl)) (by decide) (backOf (W := 0) (rm7 l Z A0 hw [] (FP.ddiv f_a0_sum (FP.l2d f_a0_count)) h0 n0 Z0 ) hZ (hwd 38 rfl) (hwd 19 rfl) (by decide) (by decide)) (g := (mkF m 25 #[.val (.ref a0)] [(.double (FP.ddiv f_a0_sum (FP.l2d f_a0_count)))])) rfl (by rw [hml]; rfl) (argsL := [(.double (FP.ddiv f_a0_sum (FP.l2d f_a0_count)))]) (rest := []) (lenOf pd_36 rfl) rfl (by show 2 * 0 + _ ≤ _; exact Nat.le_of_eq rfl) (hb hby d3_25) (fun _ _ => ⟨rfl, e3, (by decide : 0 + 1 ≤ _), (by decide : 0 + 2 ≤ _)⟩)
  dsimp only [Pt.U, Pt.locs, Pt.cells, Pt.slots] at X4 l4 y4 z4 st4 hQ4
  subst l4 y4 z4
  obtain ⟨b5, rfl, Nq4, Kq4, hp6, hp7, F8, F9, F10⟩ := hQ4
  have N4 := Fr.app N0 Nq4
  have K4 : Keep h0 T4.heap [] := (Keep.refl h0 []).trans Kq4 (all0)
  have Z4 : n0 ≤ T4.heap.size := Nat.le_trans Z0 Kq4.1
  have sz_b5 : h0.size ≤ b5 := Nat.le_trans (Keep.refl h0 []).1 hp7
  refine own_by st4 ?_
  show own_Go p e below _ (T4.setTop (mkF m 28 #[.val (.ref a0)] [(.ref b5)]))
  exact own_retR X4 hx Bd.returns (by decide) rfl (hb hby d3_28) hlk rfl ⟨_, rfl, N4, K4, hp6, sz_b5, F8, F9, F10⟩ (by decide) (by decide)
theorem pd_4 : parseMethodDescriptor "()V" = some ⟨[], none⟩ := by decide +kernel
theorem pd_22 : parseMethodDescriptor "()Z" = some ⟨[], some .boolean⟩ := by decide +kernel
theorem pd_48 : parseMethodDescriptor "()D" = some ⟨[], some .double⟩ := by decide +kernel
theorem pn_0 : plainName "com/example/credence/credence/sim/MeanAddPinLaw" = true := by first | (simp [plainName, overriddenIn]; done) | decide +kernel
theorem ef_0 (m : MethodId) (p0 : Int32) (p1 : Int32) (p2 : Int32) (p3 : Int32) (p4 : Int32) : entryFrame m #[(.int p0), (.int p1), (.int p2), (.int p3), (.int p4)] maxLocals = mkF m 0 #[.val (.int p0), .val (.int p1), .val (.int p2), .val (.int p3), .val (.int p4), .unset, .unset, .unset, .unset, .unset, .unset, .unset] [] := by first | (simp [entryFrame, mkF, argsToLocals, Value.category, maxLocals]; done) | rfl
theorem ob_0_1 (p0 : Int32) (v1 : Int32) (hv1 : ((p0 &&& (2147483647 : Int32)) % (5 : Int32)) = v1) : v1 = (0 : Int32) ∨ v1 = (1 : Int32) ∨ v1 = (2 : Int32) ∨ v1 = (3 : Int32) ∨ v1 = (4 : Int32) := by
  obtain ⟨b2, b3⟩ := own_v5 _ _ hv1
  by_cases h0 : v1.toInt = 0
  · have := Int32.toInt_inj.mp (h0.trans (show (0 : Int) = (0 : Int32).toInt from rfl)); subst this; simp
  by_cases h1 : v1.toInt = 1
  · have := Int32.toInt_inj.mp (h1.trans (show (1 : Int) = (1 : Int32).toInt from rfl)); subst this; simp
  by_cases h2 : v1.toInt = 2
  · have := Int32.toInt_inj.mp (h2.trans (show (2 : Int) = (2 : Int32).toInt from rfl)); subst this; simp
  by_cases h3 : v1.toInt = 3
  · have := Int32.toInt_inj.mp (h3.trans (show (3 : Int) = (3 : Int32).toInt from rfl)); subst this; simp
  by_cases h4 : v1.toInt = 4
  · have := Int32.toInt_inj.mp (h4.trans (show (4 : Int) = (4 : Int32).toInt from rfl)); subst this; simp
  omega
theorem ob_0_2 (p0 : Int32) (p1 : Int32) (hv1 : ((p0 &&& (2147483647 : Int32)) % (5 : Int32)) = (1 : Int32)) : Fl.NoNaN64 (FP.dadd (0 : UInt64) (FP.i2d p1)) := by
  exact own_sn (own_s0 p1)
theorem ob_0_3 (p0 : Int32) (p1 : Int32) (hv1 : ((p0 &&& (2147483647 : Int32)) % (5 : Int32)) = (1 : Int32)) : Fl.NoNaN64 (FP.ddiv (FP.dadd (0 : UInt64) (FP.i2d p1)) (FP.l2d (1 : Int64))) := by
  rw [(own_s0 p1).1]
  exact own_dn _ _ (by decide)
theorem ob_0_4 (p0 : Int32) (p1 : Int32) (hv1 : ((p0 &&& (2147483647 : Int32)) % (5 : Int32)) = (1 : Int32)) : Fl.NoNaN64 (FP.ddiv (FP.l2d (p1.toInt64)) (FP.i2d (1 : Int32))) := by
  rw [i2d_w]
  exact own_dn _ _ (by decide)
theorem ob_0_5 (p0 : Int32) (p1 : Int32) (hv1 : ((p0 &&& (2147483647 : Int32)) % (5 : Int32)) = (1 : Int32)) (c24 : ¬ ((cmpValue (FP.dcmp (FP.ddiv (FP.dadd (0 : UInt64) (FP.i2d p1)) (FP.l2d (1 : Int64))) (FP.ddiv (FP.l2d (p1.toInt64)) (FP.i2d (1 : Int32)))) .l) = (0 : Int32))) : False := by
  rw [(own_s0 p1).1, i2d_w] at c24
  exact c24 (dcmpV_self (own_dn _ _ (by decide)) _)
theorem ob_0_6 (p0 : Int32) (p1 : Int32) (hv1 : ((p0 &&& (2147483647 : Int32)) % (5 : Int32)) = (2 : Int32)) : Fl.NoNaN64 (FP.dadd (0 : UInt64) (FP.i2d p1)) := by
  exact own_sn (own_s0 p1)
theorem ob_0_7 (p0 : Int32) (p1 : Int32) (p2 : Int32) (hv1 : ((p0 &&& (2147483647 : Int32)) % (5 : Int32)) = (2 : Int32)) : Fl.NoNaN64 (FP.dadd (FP.dadd (0 : UInt64) (FP.i2d p1)) (FP.i2d p2)) := by
  exact own_sn (own_s1 (own_s0 p1) (by decide) (by decide) p2)
theorem ob_0_8 (p0 : Int32) (p1 : Int32) (p2 : Int32) (hv1 : ((p0 &&& (2147483647 : Int32)) % (5 : Int32)) = (2 : Int32)) : Fl.NoNaN64 (FP.ddiv (FP.dadd (FP.dadd (0 : UInt64) (FP.i2d p1)) (FP.i2d p2)) (FP.l2d (2 : Int64))) := by
  rw [(own_s1 (own_s0 p1) (by decide) (by decide) p2).1]
  exact own_dn _ _ (by decide)
theorem ob_0_9 (p0 : Int32) (p1 : Int32) (p2 : Int32) (hv1 : ((p0 &&& (2147483647 : Int32)) % (5 : Int32)) = (2 : Int32)) : Fl.NoNaN64 (FP.ddiv (FP.l2d ((p1.toInt64) + (p2.toInt64))) (FP.i2d (2 : Int32))) := by
  rw [i2d_w]
  exact own_dn _ _ (by decide)
theorem ob_0_10 (p0 : Int32) (p1 : Int32) (p2 : Int32) (hv1 : ((p0 &&& (2147483647 : Int32)) % (5 : Int32)) = (2 : Int32)) (c44 : ¬ ((cmpValue (FP.dcmp (FP.ddiv (FP.dadd (FP.dadd (0 : UInt64) (FP.i2d p1)) (FP.i2d p2)) (FP.l2d (2 : Int64))) (FP.ddiv (FP.l2d ((p1.toInt64) + (p2.toInt64))) (FP.i2d (2 : Int32)))) .l) = (0 : Int32))) : False := by
  rw [(own_s1 (own_s0 p1) (by decide) (by decide) p2).1, i2d_w] at c44
  exact c44 (dcmpV_self (own_dn _ _ (by decide)) _)
theorem ob_0_11 (p0 : Int32) (p1 : Int32) (hv1 : ((p0 &&& (2147483647 : Int32)) % (5 : Int32)) = (3 : Int32)) : Fl.NoNaN64 (FP.dadd (0 : UInt64) (FP.i2d p1)) := by
  exact own_sn (own_s0 p1)
theorem ob_0_12 (p0 : Int32) (p1 : Int32) (p2 : Int32) (hv1 : ((p0 &&& (2147483647 : Int32)) % (5 : Int32)) = (3 : Int32)) : Fl.NoNaN64 (FP.dadd (FP.dadd (0 : UInt64) (FP.i2d p1)) (FP.i2d p2)) := by
  exact own_sn (own_s1 (own_s0 p1) (by decide) (by decide) p2)
theorem ob_0_13 (p0 : Int32) (p1 : Int32) (p2 : Int32) (p3 : Int32) (hv1 : ((p0 &&& (2147483647 : Int32)) % (5 : Int32)) = (3 : Int32)) : Fl.NoNaN64 (FP.dadd (FP.dadd (FP.dadd (0 : UInt64) (FP.i2d p1)) (FP.i2d p2)) (FP.i2d p3)) := by
  exact own_sn (own_s1 (own_s1 (own_s0 p1) (by decide) (by decide) p2) (by decide) (by decide) p3)
theorem ob_0_14 (p0 : Int32) (p1 : Int32) (p2 : Int32) (p3 : Int32) (hv1 : ((p0 &&& (2147483647 : Int32)) % (5 : Int32)) = (3 : Int32)) : Fl.NoNaN64 (FP.ddiv (FP.dadd (FP.dadd (FP.dadd (0 : UInt64) (FP.i2d p1)) (FP.i2d p2)) (FP.i2d p3)) (FP.l2d (3 : Int64))) := by
  rw [(own_s1 (own_s1 (own_s0 p1) (by decide) (by decide) p2) (by decide) (by decide) p3).1]
  exact own_dn _ _ (by decide)
theorem ob_0_15 (p0 : Int32) (p1 : Int32) (p2 : Int32) (p3 : Int32) (hv1 : ((p0 &&& (2147483647 : Int32)) % (5 : Int32)) = (3 : Int32)) : Fl.NoNaN64 (FP.ddiv (FP.l2d (((p1.toInt64) + (p2.toInt64)) + (p3.toInt64))) (FP.i2d (3 : Int32))) := by
  rw [i2d_w]
  exact own_dn _ _ (by decide)
theorem ob_0_16 (p0 : Int32) (p1 : Int32) (p2 : Int32) (p3 : Int32) (hv1 : ((p0 &&& (2147483647 : Int32)) % (5 : Int32)) = (3 : Int32)) (c68 : ¬ ((cmpValue (FP.dcmp (FP.ddiv (FP.dadd (FP.dadd (FP.dadd (0 : UInt64) (FP.i2d p1)) (FP.i2d p2)) (FP.i2d p3)) (FP.l2d (3 : Int64))) (FP.ddiv (FP.l2d (((p1.toInt64) + (p2.toInt64)) + (p3.toInt64))) (FP.i2d (3 : Int32)))) .l) = (0 : Int32))) : False := by
  rw [(own_s1 (own_s1 (own_s0 p1) (by decide) (by decide) p2) (by decide) (by decide) p3).1, i2d_w] at c68
  exact c68 (dcmpV_self (own_dn _ _ (by decide)) _)
theorem ob_0_17 (p0 : Int32) (p1 : Int32) (hv1 : ((p0 &&& (2147483647 : Int32)) % (5 : Int32)) = (4 : Int32)) : Fl.NoNaN64 (FP.dadd (0 : UInt64) (FP.i2d p1)) := by
  exact own_sn (own_s0 p1)
theorem ob_0_18 (p0 : Int32) (p1 : Int32) (p2 : Int32) (hv1 : ((p0 &&& (2147483647 : Int32)) % (5 : Int32)) = (4 : Int32)) : Fl.NoNaN64 (FP.dadd (FP.dadd (0 : UInt64) (FP.i2d p1)) (FP.i2d p2)) := by
  exact own_sn (own_s1 (own_s0 p1) (by decide) (by decide) p2)
theorem ob_0_19 (p0 : Int32) (p1 : Int32) (p2 : Int32) (p3 : Int32) (hv1 : ((p0 &&& (2147483647 : Int32)) % (5 : Int32)) = (4 : Int32)) : Fl.NoNaN64 (FP.dadd (FP.dadd (FP.dadd (0 : UInt64) (FP.i2d p1)) (FP.i2d p2)) (FP.i2d p3)) := by
  exact own_sn (own_s1 (own_s1 (own_s0 p1) (by decide) (by decide) p2) (by decide) (by decide) p3)
theorem ob_0_20 (p0 : Int32) (p1 : Int32) (p2 : Int32) (p3 : Int32) (p4 : Int32) (hv1 : ((p0 &&& (2147483647 : Int32)) % (5 : Int32)) = (4 : Int32)) : Fl.NoNaN64 (FP.dadd (FP.dadd (FP.dadd (FP.dadd (0 : UInt64) (FP.i2d p1)) (FP.i2d p2)) (FP.i2d p3)) (FP.i2d p4)) := by
  exact own_sn (own_s1 (own_s1 (own_s1 (own_s0 p1) (by decide) (by decide) p2) (by decide) (by decide) p3) (by decide) (by decide) p4)
theorem ob_0_21 (p0 : Int32) (p1 : Int32) (p2 : Int32) (p3 : Int32) (p4 : Int32) (hv1 : ((p0 &&& (2147483647 : Int32)) % (5 : Int32)) = (4 : Int32)) : Fl.NoNaN64 (FP.ddiv (FP.dadd (FP.dadd (FP.dadd (FP.dadd (0 : UInt64) (FP.i2d p1)) (FP.i2d p2)) (FP.i2d p3)) (FP.i2d p4)) (FP.l2d (4 : Int64))) := by
  rw [(own_s1 (own_s1 (own_s1 (own_s0 p1) (by decide) (by decide) p2) (by decide) (by decide) p3) (by decide) (by decide) p4).1]
  exact own_dn _ _ (by decide)
theorem ob_0_22 (p0 : Int32) (p1 : Int32) (p2 : Int32) (p3 : Int32) (p4 : Int32) (hv1 : ((p0 &&& (2147483647 : Int32)) % (5 : Int32)) = (4 : Int32)) : Fl.NoNaN64 (FP.ddiv (FP.l2d ((((p1.toInt64) + (p2.toInt64)) + (p3.toInt64)) + (p4.toInt64))) (FP.i2d (4 : Int32))) := by
  rw [i2d_w]
  exact own_dn _ _ (by decide)
theorem ob_0_23 (p0 : Int32) (p1 : Int32) (p2 : Int32) (p3 : Int32) (p4 : Int32) (hv1 : ((p0 &&& (2147483647 : Int32)) % (5 : Int32)) = (4 : Int32)) (c96 : ¬ ((cmpValue (FP.dcmp (FP.ddiv (FP.dadd (FP.dadd (FP.dadd (FP.dadd (0 : UInt64) (FP.i2d p1)) (FP.i2d p2)) (FP.i2d p3)) (FP.i2d p4)) (FP.l2d (4 : Int64))) (FP.ddiv (FP.l2d ((((p1.toInt64) + (p2.toInt64)) + (p3.toInt64)) + (p4.toInt64))) (FP.i2d (4 : Int32)))) .l) = (0 : Int32))) : False := by
  rw [(own_s1 (own_s1 (own_s1 (own_s0 p1) (by decide) (by decide) p2) (by decide) (by decide) p3) (by decide) (by decide) p4).1, i2d_w] at c96
  exact c96 (dcmpV_self (own_dn _ _ (by decide)) _)
def Q0 (Z : State) (f_EMPTY : Addr) (p0 : Int32) (p1 : Int32) (p2 : Int32) (p3 : Int32) (p4 : Int32) (h0 : Heap) (n0 : Nat) (v : Option Value) (h : Heap) (L : List Loc) : Prop := v = some (.int (1 : Int32)) ∧ Fr n0 L
set_option maxRecDepth 65536 in
set_option maxHeartbeats 40000000 in
theorem rm0 (l : Launch) (Z : State) (A0 : Array Value) (hw : ∀ d ∈ tables_1, d.before A0 Z = true) (ws : List Jvm.Cond) (f_EMPTY : Addr) (p0 : Int32) (p1 : Int32) (p2 : Int32) (p3 : Int32) (p4 : Int32) (h0 : Heap) (n0 : Nat) (Z0 : n0 ≤ h0.size) (P_S_EMPTY : Sta Z h0 "java/util/OptionalDouble" "EMPTY" "Ljava/util/OptionalDouble;" (.ref f_EMPTY)) (P_E_f_EMPTY : Exa Z h0 f_EMPTY "java/util/OptionalDouble") (P_F_f_EMPTY_isPresent : Fld Z h0 f_EMPTY "java/util/OptionalDouble" "isPresent" "Z" (.int (0 : Int32))) :
    MetFree l x (head1 (Jvm.Cond.code x code maxLocals ret :: ws) room_1) (fun a U => a = #[(.int p0), (.int p1), (.int p2), (.int p3), (.int p4)] ∧ Z.Warmed39 U.vm ∧ U.heap = h0) (fun _ _ _ _ _ => True) (fun _ U o U' => ∃ v L, o = .returned v ∧ Q0 Z f_EMPTY p0 p1 p2 p3 p4 h0 n0 v U'.heap L ∧ FrameEnd U o U' L 16 128) := by
  refine MetFree.of_bodySF (plainFor_of_name pn_0) hisR ?_
  intro p e s m args below meth c s₁ Bd hml0 hP hK
  obtain ⟨rfl, hZ, hh⟩ := hP
  have hwd := fun i {d : Jvm.Cond} (h : tables_1[i]? = some d) => hw d (List.mem_of_getElem? h)
  have hx := Bd.exec
  have hby := Bd.bytes
  have hml : c.maxLocals = 12 := hml0
  have hlk : meth.locks = false := Bd.notSynchronized
  have hown : s.vm.findClass "com/example/credence/credence/sim/MeanAddPinLaw" = some m.cls := findClass_of_methodNamed Bd.named
  have hnm := (name_of_methodNamed Bd.named Bd.method).1
  have X0 : Stand p l e room_1 s m #[(.int p0), (.int p1), (.int p2), (.int p3), (.int p4)] below meth c s₁ [] 0 0 := Stand.of_body Bd
  have e0 : s₁.heap = h0 := by rw [← hh, Bd.state]; rfl
  have N0 := Fr.nil n0
  show own_Go p e below (own_Fin s 16 128 (Q0 Z f_EMPTY p0 p1 p2 p3 p4 h0 n0)) _
  refine own_by (fun t k => castTop (ef_0 m p0 p1 p2 p3 p4) k) ?_
  show own_Go p e below _ (s₁.setTop (mkF m 0 #[.val (.int p0), .val (.int p1), .val (.int p2), .val (.int p3), .val (.int p4), .unset, .unset, .unset, .unset, .unset, .unset, .unset] []))
  refine own_by (fun _ k => XS.iloadN X0.here hx rfl (hb hby at_0) rfl k) ?_
  show own_Go p e below _ (s₁.setTop (mkF m 1 #[.val (.int p0), .val (.int p1), .val (.int p2), .val (.int p3), .val (.int p4), .unset, .unset, .unset, .unset, .unset, .unset, .unset] [(.int p0)]))
  refine own_by (fun t k => X0.ldcInt hx hown (mvT hZ (hwd 0 rfl)) (g := (mkF m 1 #[.val (.int p0), .val (.int p1), .val (.int p2), .val (.int p3), .val (.int p4), .unset, .unset, .unset, .unset, .unset, .unset, .unset] [(.int p0)])) rfl (hb hby at_1) _ k) ?_
  show own_Go p e below _ (s₁.setTop (mkF m 3 #[.val (.int p0), .val (.int p1), .val (.int p2), .val (.int p3), .val (.int p4), .unset, .unset, .unset, .unset, .unset, .unset, .unset] [(.int (2147483647 : Int32)), (.int p0)]))
  refine own_by (fun _ k => XS.iand X0.here hx rfl (hb hby at_3) rfl k) ?_
  show own_Go p e below _ (s₁.setTop (mkF m 4 #[.val (.int p0), .val (.int p1), .val (.int p2), .val (.int p3), .val (.int p4), .unset, .unset, .unset, .unset, .unset, .unset, .unset] [(.int (p0 &&& (2147483647 : Int32)))]))
  refine own_by (fun _ k => XS.iconst X0.here hx rfl (hb hby at_4) k) ?_
  show own_Go p e below _ (s₁.setTop (mkF m 5 #[.val (.int p0), .val (.int p1), .val (.int p2), .val (.int p3), .val (.int p4), .unset, .unset, .unset, .unset, .unset, .unset, .unset] [(.int (5 : Int32)), (.int (p0 &&& (2147483647 : Int32)))]))
  refine own_by (fun _ k => iremM X0 hx rfl (hb hby at_5) rfl (by decide) k) ?_
  show own_Go p e below _ (s₁.setTop (mkF m 6 #[.val (.int p0), .val (.int p1), .val (.int p2), .val (.int p3), .val (.int p4), .unset, .unset, .unset, .unset, .unset, .unset, .unset] [(.int ((p0 &&& (2147483647 : Int32)) % (5 : Int32)))]))
  refine own_by (fun _ k => XS.istore X0.here hx rfl (hb hby at_6) rfl (l' := #[.val (.int p0), .val (.int p1), .val (.int p2), .val (.int p3), .val (.int p4), .val (.int ((p0 &&& (2147483647 : Int32)) % (5 : Int32))), .unset, .unset, .unset, .unset, .unset, .unset]) rfl k) ?_
  show own_Go p e below _ (s₁.setTop (mkF m 8 #[.val (.int p0), .val (.int p1), .val (.int p2), .val (.int p3), .val (.int p4), .val (.int ((p0 &&& (2147483647 : Int32)) % (5 : Int32))), .unset, .unset, .unset, .unset, .unset, .unset] []))
  generalize hv1 : ((p0 &&& (2147483647 : Int32)) % (5 : Int32)) = v1
  show own_Go p e below _ (s₁.setTop (mkF m 8 #[.val (.int p0), .val (.int p1), .val (.int p2), .val (.int p3), .val (.int p4), .val (.int v1), .unset, .unset, .unset, .unset, .unset, .unset] []))
  have hs_v1 := (ob_0_1 p0 v1 hv1)
  rcases hs_v1 with rfl | rfl | rfl | rfl | rfl
  · skip
    show own_Go p e below _ (s₁.setTop (mkF m 8 #[.val (.int p0), .val (.int p1), .val (.int p2), .val (.int p3), .val (.int p4), .val (.int (0 : Int32)), .unset, .unset, .unset, .unset, .unset, .unset] []))
    obtain ⟨T2, h2, X2, e2, E2, A2, D2, -, st2⟩ := newO X0 hx hZ hown (hwd 1 rfl) (hwd 2 rfl) (hwd 3 rfl) e0 (g := (mkF m 8 #[.val (.int p0), .val (.int p1), .val (.int p2), .val (.int p3), .val (.int p4), .val (.int (0 : Int32)), .unset, .unset, .unset, .unset, .unset, .unset] [])) rfl (hb hby at_8) (by decide) (by decide)
    obtain ⟨b2, g2⟩ : ∃ z, z = h0.size := ⟨_, rfl⟩
    have ge_b2 : n0 ≤ b2 := Nat.le_trans Z0 (Nat.le_of_eq g2.symm)
    have sz_b2 : h0.size ≤ b2 := Nat.le_trans (Keep.refl h0 []).1 (Nat.le_of_eq g2.symm)
    have K2 : Keep h0 h2 [] := (Keep.refl h0 []).ext E2
    have Z2 : n0 ≤ h2.size := Nat.le_trans Z0 E2.1
    rw [← g2] at A2 D2 st2
    have F_count_b2 : Fld Z h2 b2 "com/example/credence/credence/sim/Mean" "count" "J" (.long (0 : Int64)) := D2 (Or.inl (hwd 16 rfl)) (ty := .long) (by decide)
    have F_sum_b2 : Fld Z h2 b2 "com/example/credence/credence/sim/Mean" "sum" "D" (.double (0 : UInt64)) := D2 (Or.inl (hwd 35 rfl)) (ty := .double) (by decide)
    refine own_by st2 ?_
    show own_Go p e below _ (T2.setTop (mkF m 11 #[.val (.int p0), .val (.int p1), .val (.int p2), .val (.int p3), .val (.int p4), .val (.int (0 : Int32)), .unset, .unset, .unset, .unset, .unset, .unset] [(.ref b2)]))
    refine own_by (fun _ k => XS.dup X2.here hx rfl (hb hby at_11) rfl rfl k) ?_
    show own_Go p e below _ (T2.setTop (mkF m 12 #[.val (.int p0), .val (.int p1), .val (.int p2), .val (.int p3), .val (.int p4), .val (.int (0 : Int32)), .unset, .unset, .unset, .unset, .unset, .unset] [(.ref b2), (.ref b2)]))
    obtain ⟨_, _, ⟨T3, L3, k3, n3⟩, -, X3, ⟨Lc3, hQ3, l3, y3, z3⟩, st3⟩ := X2.specialBack hx (y := (⟨"com/example/credence/credence/sim/Mean", "<init>", "()V"⟩ : MethodName)) rfl hown (mvT hZ (hwd 4 rfl)) (mvT hZ (hwd 5 rfl)) (mvT hZ (hwd 6 rfl)) (by decide) (backOf (W := 1) (rm1 l Z A0 hw [] b2 h2 n0 Z2 ) hZ (hwd 6 rfl) (hwd 3 rfl) (by decide) (by decide)) (g := (mkF m 12 #[.val (.int p0), .val (.int p1), .val (.int p2), .val (.int p3), .val (.int p4), .val (.int (0 : Int32)), .unset, .unset, .unset, .unset, .unset, .unset] [(.ref b2), (.ref b2)])) rfl (by rw [hml]; rfl) (Steps.refl _) (a := b2) (argsL := []) (rest := [(.ref b2)]) (lenOf pd_4 rfl) rfl (by show 2 * 0 + _ ≤ _; exact Nat.le_of_eq rfl) (hb hby at_12) (fun _ _ => ⟨rfl, e2, (by decide : 1 + 0 ≤ _), (by decide : 2 + 0 ≤ _)⟩)
    dsimp only [Pt.U, Pt.locs, Pt.cells, Pt.slots] at X3 l3 y3 z3 st3 hQ3
    subst l3 y3 z3
    obtain ⟨rfl, Nq3, eq3⟩ := hQ3
    have N3 := Fr.app N0 Nq3
    refine own_by (fun _ k => st3.trans k) ?_
    show own_Go p e below _ (T3.setTop (mkF m 15 #[.val (.int p0), .val (.int p1), .val (.int p2), .val (.int p3), .val (.int p4), .val (.int (0 : Int32)), .unset, .unset, .unset, .unset, .unset, .unset] [(.ref b2)]))
    refine own_by (fun _ k => XS.astore X3.here hx rfl (hb hby at_15) rfl rfl (l' := #[.val (.int p0), .val (.int p1), .val (.int p2), .val (.int p3), .val (.int p4), .val (.int (0 : Int32)), .val (.ref b2), .unset, .unset, .unset, .unset, .unset]) rfl k) ?_
    show own_Go p e below _ (T3.setTop (mkF m 17 #[.val (.int p0), .val (.int p1), .val (.int p2), .val (.int p3), .val (.int p4), .val (.int (0 : Int32)), .val (.ref b2), .unset, .unset, .unset, .unset, .unset] []))
    refine own_by (fun _ k => XS.iload X3.here hx rfl (hb hby at_17) rfl k) ?_
    show own_Go p e below _ (T3.setTop (mkF m 19 #[.val (.int p0), .val (.int p1), .val (.int p2), .val (.int p3), .val (.int p4), .val (.int (0 : Int32)), .val (.ref b2), .unset, .unset, .unset, .unset, .unset] [(.int (0 : Int32))]))
    refine own_by (fun _ k => XS.iconst X3.here hx rfl (hb hby at_19) k) ?_
    show own_Go p e below _ (T3.setTop (mkF m 20 #[.val (.int p0), .val (.int p1), .val (.int p2), .val (.int p3), .val (.int p4), .val (.int (0 : Int32)), .val (.ref b2), .unset, .unset, .unset, .unset, .unset] [(.int (1 : Int32)), (.int (0 : Int32))]))
    refine own_by (fun _ k => XS.icmpYes X3.here hx rfl (pc0 := 20) (pc' := 30) rfl (hb hby at_20) rfl (tlt (by decide : (0 : Int32) < (1 : Int32))).1 (by decide) (by decide) k) ?_
    show own_Go p e below _ (T3.setTop (mkF m 30 #[.val (.int p0), .val (.int p1), .val (.int p2), .val (.int p3), .val (.int p4), .val (.int (0 : Int32)), .val (.ref b2), .unset, .unset, .unset, .unset, .unset] []))
    refine own_by (fun _ k => XS.iload X3.here hx rfl (hb hby at_30) rfl k) ?_
    show own_Go p e below _ (T3.setTop (mkF m 32 #[.val (.int p0), .val (.int p1), .val (.int p2), .val (.int p3), .val (.int p4), .val (.int (0 : Int32)), .val (.ref b2), .unset, .unset, .unset, .unset, .unset] [(.int (0 : Int32))]))
    refine own_by (fun _ k => XS.iconst X3.here hx rfl (hb hby at_32) k) ?_
    show own_Go p e below _ (T3.setTop (mkF m 33 #[.val (.int p0), .val (.int p1), .val (.int p2), .val (.int p3), .val (.int p4), .val (.int (0 : Int32)), .val (.ref b2), .unset, .unset, .unset, .unset, .unset] [(.int (2 : Int32)), (.int (0 : Int32))]))
    refine own_by (fun _ k => XS.icmpYes X3.here hx rfl (pc0 := 33) (pc' := 43) rfl (hb hby at_33) rfl (tlt (by decide : (0 : Int32) < (2 : Int32))).1 (by decide) (by decide) k) ?_
    show own_Go p e below _ (T3.setTop (mkF m 43 #[.val (.int p0), .val (.int p1), .val (.int p2), .val (.int p3), .val (.int p4), .val (.int (0 : Int32)), .val (.ref b2), .unset, .unset, .unset, .unset, .unset] []))
    refine own_by (fun _ k => XS.iload X3.here hx rfl (hb hby at_43) rfl k) ?_
    show own_Go p e below _ (T3.setTop (mkF m 45 #[.val (.int p0), .val (.int p1), .val (.int p2), .val (.int p3), .val (.int p4), .val (.int (0 : Int32)), .val (.ref b2), .unset, .unset, .unset, .unset, .unset] [(.int (0 : Int32))]))
    refine own_by (fun _ k => XS.iconst X3.here hx rfl (hb hby at_45) k) ?_
    show own_Go p e below _ (T3.setTop (mkF m 46 #[.val (.int p0), .val (.int p1), .val (.int p2), .val (.int p3), .val (.int p4), .val (.int (0 : Int32)), .val (.ref b2), .unset, .unset, .unset, .unset, .unset] [(.int (3 : Int32)), (.int (0 : Int32))]))
    refine own_by (fun _ k => XS.icmpYes X3.here hx rfl (pc0 := 46) (pc' := 56) rfl (hb hby at_46) rfl (tlt (by decide : (0 : Int32) < (3 : Int32))).1 (by decide) (by decide) k) ?_
    show own_Go p e below _ (T3.setTop (mkF m 56 #[.val (.int p0), .val (.int p1), .val (.int p2), .val (.int p3), .val (.int p4), .val (.int (0 : Int32)), .val (.ref b2), .unset, .unset, .unset, .unset, .unset] []))
    refine own_by (fun _ k => XS.iload X3.here hx rfl (hb hby at_56) rfl k) ?_
    show own_Go p e below _ (T3.setTop (mkF m 58 #[.val (.int p0), .val (.int p1), .val (.int p2), .val (.int p3), .val (.int p4), .val (.int (0 : Int32)), .val (.ref b2), .unset, .unset, .unset, .unset, .unset] [(.int (0 : Int32))]))
    refine own_by (fun _ k => XS.iconst X3.here hx rfl (hb hby at_58) k) ?_
    show own_Go p e below _ (T3.setTop (mkF m 59 #[.val (.int p0), .val (.int p1), .val (.int p2), .val (.int p3), .val (.int p4), .val (.int (0 : Int32)), .val (.ref b2), .unset, .unset, .unset, .unset, .unset] [(.int (4 : Int32)), (.int (0 : Int32))]))
    refine own_by (fun _ k => XS.icmpYes X3.here hx rfl (pc0 := 59) (pc' := 70) rfl (hb hby at_59) rfl (tlt (by decide : (0 : Int32) < (4 : Int32))).1 (by decide) (by decide) k) ?_
    show own_Go p e below _ (T3.setTop (mkF m 70 #[.val (.int p0), .val (.int p1), .val (.int p2), .val (.int p3), .val (.int p4), .val (.int (0 : Int32)), .val (.ref b2), .unset, .unset, .unset, .unset, .unset] []))
    refine own_by (fun _ k => XS.aload X3.here hx rfl (hb hby at_70) rfl rfl k) ?_
    show own_Go p e below _ (T3.setTop (mkF m 72 #[.val (.int p0), .val (.int p1), .val (.int p2), .val (.int p3), .val (.int p4), .val (.int (0 : Int32)), .val (.ref b2), .unset, .unset, .unset, .unset, .unset] [(.ref b2)]))
    have F4 : Sta Z h2 "java/util/OptionalDouble" "EMPTY" "Ljava/util/OptionalDouble;" (.ref f_EMPTY) := (P_S_EMPTY.ext E2)
    obtain ⟨cq5, kq5, qq5a, qq5b, qq5c⟩ := isOf hZ eq3 A2
    obtain ⟨_, _, ⟨T5, L5, k5, n5⟩, -, X5, ⟨Lc5, hQ5, l5, y5, z5⟩, st5⟩ := X3.virtualBack hx (y := (⟨"com/example/credence/credence/sim/Mean", "value", "()Ljava/util/OptionalDouble;"⟩ : MethodName)) (z := (⟨"com/example/credence/credence/sim/Mean", "value", "()Ljava/util/OptionalDouble;"⟩ : MethodName)) hown (mvT hZ (hwd 10 rfl)) (mvT hZ (hwd 11 rfl)) (notFace_of_selects (args := #[]) (mvT hZ (hwd 13 rfl))) (mvT hZ (hwd 13 rfl)) (mvT hZ (hwd 12 rfl)) (by decide) (backOf (W := 0) (rmv0 l Z A0 hw [] b2 f_EMPTY h2 n0 Z2 F_count_b2 F4) hZ (hwd 14 rfl) (hwd 3 rfl) (by decide) (by decide)) qq5a qq5c (g := (mkF m 72 #[.val (.int p0), .val (.int p1), .val (.int p2), .val (.int p3), .val (.int p4), .val (.int (0 : Int32)), .val (.ref b2), .unset, .unset, .unset, .unset, .unset] [(.ref b2)])) rfl (by rw [hml]; rfl) (Steps.refl _) (argsL := []) (rest := []) (lenOf pd_10 rfl) rfl (by show 2 * 0 + _ ≤ _; exact Nat.le_of_eq rfl) (hb hby at_72) (fun _ _ => ⟨rfl, eq3, (by decide : 1 + 0 ≤ _), (by decide : 2 + 0 ≤ _)⟩)
    dsimp only [Pt.U, Pt.locs, Pt.cells, Pt.slots] at X5 l5 y5 z5 st5 hQ5
    subst l5 y5 z5
    obtain ⟨rfl, Nq5, eq5⟩ := hQ5
    have N5 := Fr.app N3 Nq5
    refine own_by (fun _ k => st5.trans k) ?_
    show own_Go p e below _ (T5.setTop (mkF m 75 #[.val (.int p0), .val (.int p1), .val (.int p2), .val (.int p3), .val (.int p4), .val (.int (0 : Int32)), .val (.ref b2), .unset, .unset, .unset, .unset, .unset] [(.ref f_EMPTY)]))
    refine own_by (fun _ k => XS.astore X5.here hx rfl (hb hby at_75) rfl rfl (l' := #[.val (.int p0), .val (.int p1), .val (.int p2), .val (.int p3), .val (.int p4), .val (.int (0 : Int32)), .val (.ref b2), .val (.ref f_EMPTY), .unset, .unset, .unset, .unset]) rfl k) ?_
    show own_Go p e below _ (T5.setTop (mkF m 77 #[.val (.int p0), .val (.int p1), .val (.int p2), .val (.int p3), .val (.int p4), .val (.int (0 : Int32)), .val (.ref b2), .val (.ref f_EMPTY), .unset, .unset, .unset, .unset] []))
    refine own_by (fun _ k => XS.iload X5.here hx rfl (hb hby at_77) rfl k) ?_
    show own_Go p e below _ (T5.setTop (mkF m 79 #[.val (.int p0), .val (.int p1), .val (.int p2), .val (.int p3), .val (.int p4), .val (.int (0 : Int32)), .val (.ref b2), .val (.ref f_EMPTY), .unset, .unset, .unset, .unset] [(.int (0 : Int32))]))
    refine own_by (fun _ k => XS.ifNo X5.here hx rfl (hb hby at_79) rfl ((if0 _ _).trans (teq (by decide : (0 : Int32) = (0 : Int32))).2) k) ?_
    show own_Go p e below _ (T5.setTop (mkF m 82 #[.val (.int p0), .val (.int p1), .val (.int p2), .val (.int p3), .val (.int p4), .val (.int (0 : Int32)), .val (.ref b2), .val (.ref f_EMPTY), .unset, .unset, .unset, .unset] []))
    refine own_by (fun _ k => XS.aload X5.here hx rfl (hb hby at_82) rfl rfl k) ?_
    show own_Go p e below _ (T5.setTop (mkF m 84 #[.val (.int p0), .val (.int p1), .val (.int p2), .val (.int p3), .val (.int p4), .val (.int (0 : Int32)), .val (.ref b2), .val (.ref f_EMPTY), .unset, .unset, .unset, .unset] [(.ref f_EMPTY)]))
    have F6 : Fld Z h2 f_EMPTY "java/util/OptionalDouble" "isPresent" "Z" (.int (0 : Int32)) := (P_F_f_EMPTY_isPresent.ext E2)
    have F8 : Exa Z h2 f_EMPTY "java/util/OptionalDouble" := (P_E_f_EMPTY.ext E2)
    obtain ⟨cq7, kq7, qq7a, qq7b, qq7c⟩ := isOf hZ eq5 F8
    obtain ⟨_, _, ⟨T7, L7, k7, n7⟩, -, X7, ⟨Lc7, hQ7, l7, y7, z7⟩, st7⟩ := X5.virtualBack hx (y := (⟨"java/util/OptionalDouble", "isPresent", "()Z"⟩ : MethodName)) (z := (⟨"java/util/OptionalDouble", "isPresent", "()Z"⟩ : MethodName)) hown (mvT hZ (hwd 22 rfl)) (mvT hZ (hwd 23 rfl)) (notFace_of_selects (args := #[]) (mvT hZ (hwd 25 rfl))) (mvT hZ (hwd 25 rfl)) (mvT hZ (hwd 24 rfl)) (by decide) (backOf (W := 0) (rm5 l Z A0 hw [] f_EMPTY (0 : Int32) h2 n0 Z2 F6) hZ (hwd 26 rfl) (hwd 19 rfl) (by decide) (by decide)) qq7a qq7c (g := (mkF m 84 #[.val (.int p0), .val (.int p1), .val (.int p2), .val (.int p3), .val (.int p4), .val (.int (0 : Int32)), .val (.ref b2), .val (.ref f_EMPTY), .unset, .unset, .unset, .unset] [(.ref f_EMPTY)])) rfl (by rw [hml]; rfl) (Steps.refl _) (argsL := []) (rest := []) (lenOf pd_22 rfl) rfl (by show 2 * 0 + _ ≤ _; exact Nat.le_of_eq rfl) (hb hby at_84) (fun _ _ => ⟨rfl, eq5, (by decide : 1 + 0 ≤ _), (by decide : 2 + 0 ≤ _)⟩)
    dsimp only [Pt.U, Pt.locs, Pt.cells, Pt.slots] at X7 l7 y7 z7 st7 hQ7
    subst l7 y7 z7
    obtain ⟨rfl, Nq7, eq7⟩ := hQ7
    have N7 := Fr.app N5 Nq7
    refine own_by (fun _ k => st7.trans k) ?_
    show own_Go p e below _ (T7.setTop (mkF m 87 #[.val (.int p0), .val (.int p1), .val (.int p2), .val (.int p3), .val (.int p4), .val (.int (0 : Int32)), .val (.ref b2), .val (.ref f_EMPTY), .unset, .unset, .unset, .unset] [(.int (0 : Int32))]))
    refine own_by (fun _ k => XS.ifNo X7.here hx rfl (hb hby at_87) rfl ((if0 _ _).trans (teq (by decide : (0 : Int32) = (0 : Int32))).2) k) ?_
    show own_Go p e below _ (T7.setTop (mkF m 90 #[.val (.int p0), .val (.int p1), .val (.int p2), .val (.int p3), .val (.int p4), .val (.int (0 : Int32)), .val (.ref b2), .val (.ref f_EMPTY), .unset, .unset, .unset, .unset] []))
    refine own_by (fun _ k => XS.iconst X7.here hx rfl (hb hby at_90) k) ?_
    show own_Go p e below _ (T7.setTop (mkF m 91 #[.val (.int p0), .val (.int p1), .val (.int p2), .val (.int p3), .val (.int p4), .val (.int (0 : Int32)), .val (.ref b2), .val (.ref f_EMPTY), .unset, .unset, .unset, .unset] [(.int (1 : Int32))]))
    refine own_by (fun _ k => XS.goto X7.here hx rfl (pc0 := 91) (pc' := 95) rfl (hb hby at_91) (by decide) (by decide) k) ?_
    show own_Go p e below _ (T7.setTop (mkF m 95 #[.val (.int p0), .val (.int p1), .val (.int p2), .val (.int p3), .val (.int p4), .val (.int (0 : Int32)), .val (.ref b2), .val (.ref f_EMPTY), .unset, .unset, .unset, .unset] [(.int (1 : Int32))]))
    exact own_retN X7 hx (t := .boolean) Bd.returns (by simp) (hb hby at_95) hlk eq7 ⟨rfl, N7⟩ (by decide) (by decide)
  · skip
    show own_Go p e below _ (s₁.setTop (mkF m 8 #[.val (.int p0), .val (.int p1), .val (.int p2), .val (.int p3), .val (.int p4), .val (.int (1 : Int32)), .unset, .unset, .unset, .unset, .unset, .unset] []))
    obtain ⟨T9, h9, X9, e9, E9, A9, D9, -, st9⟩ := newO X0 hx hZ hown (hwd 1 rfl) (hwd 2 rfl) (hwd 3 rfl) e0 (g := (mkF m 8 #[.val (.int p0), .val (.int p1), .val (.int p2), .val (.int p3), .val (.int p4), .val (.int (1 : Int32)), .unset, .unset, .unset, .unset, .unset, .unset] [])) rfl (hb hby at_8) (by decide) (by decide)
    obtain ⟨b9, g9⟩ : ∃ z, z = h0.size := ⟨_, rfl⟩
    have ge_b9 : n0 ≤ b9 := Nat.le_trans Z0 (Nat.le_of_eq g9.symm)
    have sz_b9 : h0.size ≤ b9 := Nat.le_trans (Keep.refl h0 []).1 (Nat.le_of_eq g9.symm)
    have K9 : Keep h0 h9 [] := (Keep.refl h0 []).ext E9
    have Z9 : n0 ≤ h9.size := Nat.le_trans Z0 E9.1
    rw [← g9] at A9 D9 st9
    have F_count_b9 : Fld Z h9 b9 "com/example/credence/credence/sim/Mean" "count" "J" (.long (0 : Int64)) := D9 (Or.inl (hwd 16 rfl)) (ty := .long) (by decide)
    have F_sum_b9 : Fld Z h9 b9 "com/example/credence/credence/sim/Mean" "sum" "D" (.double (0 : UInt64)) := D9 (Or.inl (hwd 35 rfl)) (ty := .double) (by decide)
    refine own_by st9 ?_
    show own_Go p e below _ (T9.setTop (mkF m 11 #[.val (.int p0), .val (.int p1), .val (.int p2), .val (.int p3), .val (.int p4), .val (.int (1 : Int32)), .unset, .unset, .unset, .unset, .unset, .unset] [(.ref b9)]))
    refine own_by (fun _ k => XS.dup X9.here hx rfl (hb hby at_11) rfl rfl k) ?_
    show own_Go p e below _ (T9.setTop (mkF m 12 #[.val (.int p0), .val (.int p1), .val (.int p2), .val (.int p3), .val (.int p4), .val (.int (1 : Int32)), .unset, .unset, .unset, .unset, .unset, .unset] [(.ref b9), (.ref b9)]))
    obtain ⟨_, _, ⟨T10, L10, k10, n10⟩, -, X10, ⟨Lc10, hQ10, l10, y10, z10⟩, st10⟩ := X9.specialBack hx (y := (⟨"com/example/credence/credence/sim/Mean", "<init>", "()V"⟩ : MethodName)) rfl hown (mvT hZ (hwd 4 rfl)) (mvT hZ (hwd 5 rfl)) (mvT hZ (hwd 6 rfl)) (by decide) (backOf (W := 1) (rm1 l Z A0 hw [] b9 h9 n0 Z9 ) hZ (hwd 6 rfl) (hwd 3 rfl) (by decide) (by decide)) (g := (mkF m 12 #[.val (.int p0), .val (.int p1), .val (.int p2), .val (.int p3), .val (.int p4), .val (.int (1 : Int32)), .unset, .unset, .unset, .unset, .unset, .unset] [(.ref b9), (.ref b9)])) rfl (by rw [hml]; rfl) (Steps.refl _) (a := b9) (argsL := []) (rest := [(.ref b9)]) (lenOf pd_4 rfl) rfl (by show 2 * 0 + _ ≤ _; exact Nat.le_of_eq rfl) (hb hby at_12) (fun _ _ => ⟨rfl, e9, (by decide : 1 + 0 ≤ _), (by decide : 2 + 0 ≤ _)⟩)
    dsimp only [Pt.U, Pt.locs, Pt.cells, Pt.slots] at X10 l10 y10 z10 st10 hQ10
    subst l10 y10 z10
    obtain ⟨rfl, Nq10, eq10⟩ := hQ10
    have N10 := Fr.app N0 Nq10
    refine own_by (fun _ k => st10.trans k) ?_
    show own_Go p e below _ (T10.setTop (mkF m 15 #[.val (.int p0), .val (.int p1), .val (.int p2), .val (.int p3), .val (.int p4), .val (.int (1 : Int32)), .unset, .unset, .unset, .unset, .unset, .unset] [(.ref b9)]))
    refine own_by (fun _ k => XS.astore X10.here hx rfl (hb hby at_15) rfl rfl (l' := #[.val (.int p0), .val (.int p1), .val (.int p2), .val (.int p3), .val (.int p4), .val (.int (1 : Int32)), .val (.ref b9), .unset, .unset, .unset, .unset, .unset]) rfl k) ?_
    show own_Go p e below _ (T10.setTop (mkF m 17 #[.val (.int p0), .val (.int p1), .val (.int p2), .val (.int p3), .val (.int p4), .val (.int (1 : Int32)), .val (.ref b9), .unset, .unset, .unset, .unset, .unset] []))
    refine own_by (fun _ k => XS.iload X10.here hx rfl (hb hby at_17) rfl k) ?_
    show own_Go p e below _ (T10.setTop (mkF m 19 #[.val (.int p0), .val (.int p1), .val (.int p2), .val (.int p3), .val (.int p4), .val (.int (1 : Int32)), .val (.ref b9), .unset, .unset, .unset, .unset, .unset] [(.int (1 : Int32))]))
    refine own_by (fun _ k => XS.iconst X10.here hx rfl (hb hby at_19) k) ?_
    show own_Go p e below _ (T10.setTop (mkF m 20 #[.val (.int p0), .val (.int p1), .val (.int p2), .val (.int p3), .val (.int p4), .val (.int (1 : Int32)), .val (.ref b9), .unset, .unset, .unset, .unset, .unset] [(.int (1 : Int32)), (.int (1 : Int32))]))
    refine own_by (fun _ k => XS.icmpNo X10.here hx rfl (hb hby at_20) rfl (flt (by decide : ¬ ((1 : Int32) < (1 : Int32)))).1 k) ?_
    show own_Go p e below _ (T10.setTop (mkF m 23 #[.val (.int p0), .val (.int p1), .val (.int p2), .val (.int p3), .val (.int p4), .val (.int (1 : Int32)), .val (.ref b9), .unset, .unset, .unset, .unset, .unset] []))
    refine own_by (fun _ k => XS.aload X10.here hx rfl (hb hby at_23) rfl rfl k) ?_
    show own_Go p e below _ (T10.setTop (mkF m 25 #[.val (.int p0), .val (.int p1), .val (.int p2), .val (.int p3), .val (.int p4), .val (.int (1 : Int32)), .val (.ref b9), .unset, .unset, .unset, .unset, .unset] [(.ref b9)]))
    refine own_by (fun _ k => XS.iloadN X10.here hx rfl (hb hby at_25) rfl k) ?_
    show own_Go p e below _ (T10.setTop (mkF m 26 #[.val (.int p0), .val (.int p1), .val (.int p2), .val (.int p3), .val (.int p4), .val (.int (1 : Int32)), .val (.ref b9), .unset, .unset, .unset, .unset, .unset] [(.int p1), (.ref b9)]))
    refine own_by (fun _ k => XS.i2dS X10.here hx rfl (hb hby at_26) rfl rfl k) ?_
    show own_Go p e below _ (T10.setTop (mkF m 27 #[.val (.int p0), .val (.int p1), .val (.int p2), .val (.int p3), .val (.int p4), .val (.int (1 : Int32)), .val (.ref b9), .unset, .unset, .unset, .unset, .unset] [(.double (FP.i2d p1)), (.ref b9)]))
    obtain ⟨cq11, kq11, qq11a, qq11b, qq11c⟩ := isOf hZ eq10 A9
    obtain ⟨_, _, ⟨T11, L11, k11, n11⟩, -, X11, ⟨Lc11, hQ11, l11, y11, z11⟩, st11⟩ := X10.virtualBack hx (y := (⟨"com/example/credence/credence/sim/Mean", "add", "(D)V"⟩ : MethodName)) (z := (⟨"com/example/credence/credence/sim/Mean", "add", "(D)V"⟩ : MethodName)) hown (mvT hZ (hwd 29 rfl)) (mvT hZ (hwd 30 rfl)) (notFace_of_selects (args := #[]) (mvT hZ (hwd 32 rfl))) (mvT hZ (hwd 32 rfl)) (mvT hZ (hwd 31 rfl)) (by decide) (backOf (W := 0) (rm6 l Z A0 hw [] b9 (FP.i2d p1) (0 : UInt64) (0 : Int64) h9 n0 Z9 F_sum_b9 (ob_0_2 p0 p1 hv1) A9 ge_b9 F_count_b9) hZ (hwd 33 rfl) (hwd 3 rfl) (by decide) (by decide)) qq11a qq11c (g := (mkF m 27 #[.val (.int p0), .val (.int p1), .val (.int p2), .val (.int p3), .val (.int p4), .val (.int (1 : Int32)), .val (.ref b9), .unset, .unset, .unset, .unset, .unset] [(.double (FP.i2d p1)), (.ref b9)])) rfl (by rw [hml]; rfl) (Steps.refl _) (argsL := [(.double (FP.i2d p1))]) (rest := []) (lenOf pd_29 rfl) rfl (by show 2 * 0 + _ ≤ _; exact Nat.le_of_eq rfl) (hb hby at_27) (fun _ _ => ⟨rfl, eq10, (by decide : 1 + 0 ≤ _), (by decide : 2 + 0 ≤ _)⟩)
    dsimp only [Pt.U, Pt.locs, Pt.cells, Pt.slots] at X11 l11 y11 z11 st11 hQ11
    subst l11 y11 z11
    obtain ⟨rfl, Nq11, Kq11, F12, F13, F14⟩ := hQ11
    have N11 := Fr.app N10 Nq11
    have K11 : Keep h0 T11.heap [] := K9.trans Kq11 ((allS (Or.inr sz_b9) all0))
    have Z11 : n0 ≤ T11.heap.size := Nat.le_trans Z9 Kq11.1
    refine own_by (fun _ k => st11.trans k) ?_
    show own_Go p e below _ (T11.setTop (mkF m 30 #[.val (.int p0), .val (.int p1), .val (.int p2), .val (.int p3), .val (.int p4), .val (.int (1 : Int32)), .val (.ref b9), .unset, .unset, .unset, .unset, .unset] []))
    refine own_by (fun _ k => XS.iload X11.here hx rfl (hb hby at_30) rfl k) ?_
    show own_Go p e below _ (T11.setTop (mkF m 32 #[.val (.int p0), .val (.int p1), .val (.int p2), .val (.int p3), .val (.int p4), .val (.int (1 : Int32)), .val (.ref b9), .unset, .unset, .unset, .unset, .unset] [(.int (1 : Int32))]))
    refine own_by (fun _ k => XS.iconst X11.here hx rfl (hb hby at_32) k) ?_
    show own_Go p e below _ (T11.setTop (mkF m 33 #[.val (.int p0), .val (.int p1), .val (.int p2), .val (.int p3), .val (.int p4), .val (.int (1 : Int32)), .val (.ref b9), .unset, .unset, .unset, .unset, .unset] [(.int (2 : Int32)), (.int (1 : Int32))]))
    refine own_by (fun _ k => XS.icmpYes X11.here hx rfl (pc0 := 33) (pc' := 43) rfl (hb hby at_33) rfl (tlt (by decide : (1 : Int32) < (2 : Int32))).1 (by decide) (by decide) k) ?_
    show own_Go p e below _ (T11.setTop (mkF m 43 #[.val (.int p0), .val (.int p1), .val (.int p2), .val (.int p3), .val (.int p4), .val (.int (1 : Int32)), .val (.ref b9), .unset, .unset, .unset, .unset, .unset] []))
    refine own_by (fun _ k => XS.iload X11.here hx rfl (hb hby at_43) rfl k) ?_
    show own_Go p e below _ (T11.setTop (mkF m 45 #[.val (.int p0), .val (.int p1), .val (.int p2), .val (.int p3), .val (.int p4), .val (.int (1 : Int32)), .val (.ref b9), .unset, .unset, .unset, .unset, .unset] [(.int (1 : Int32))]))
    refine own_by (fun _ k => XS.iconst X11.here hx rfl (hb hby at_45) k) ?_
    show own_Go p e below _ (T11.setTop (mkF m 46 #[.val (.int p0), .val (.int p1), .val (.int p2), .val (.int p3), .val (.int p4), .val (.int (1 : Int32)), .val (.ref b9), .unset, .unset, .unset, .unset, .unset] [(.int (3 : Int32)), (.int (1 : Int32))]))
    refine own_by (fun _ k => XS.icmpYes X11.here hx rfl (pc0 := 46) (pc' := 56) rfl (hb hby at_46) rfl (tlt (by decide : (1 : Int32) < (3 : Int32))).1 (by decide) (by decide) k) ?_
    show own_Go p e below _ (T11.setTop (mkF m 56 #[.val (.int p0), .val (.int p1), .val (.int p2), .val (.int p3), .val (.int p4), .val (.int (1 : Int32)), .val (.ref b9), .unset, .unset, .unset, .unset, .unset] []))
    refine own_by (fun _ k => XS.iload X11.here hx rfl (hb hby at_56) rfl k) ?_
    show own_Go p e below _ (T11.setTop (mkF m 58 #[.val (.int p0), .val (.int p1), .val (.int p2), .val (.int p3), .val (.int p4), .val (.int (1 : Int32)), .val (.ref b9), .unset, .unset, .unset, .unset, .unset] [(.int (1 : Int32))]))
    refine own_by (fun _ k => XS.iconst X11.here hx rfl (hb hby at_58) k) ?_
    show own_Go p e below _ (T11.setTop (mkF m 59 #[.val (.int p0), .val (.int p1), .val (.int p2), .val (.int p3), .val (.int p4), .val (.int (1 : Int32)), .val (.ref b9), .unset, .unset, .unset, .unset, .unset] [(.int (4 : Int32)), (.int (1 : Int32))]))
    refine own_by (fun _ k => XS.icmpYes X11.here hx rfl (pc0 := 59) (pc' := 70) rfl (hb hby at_59) rfl (tlt (by decide : (1 : Int32) < (4 : Int32))).1 (by decide) (by decide) k) ?_
    show own_Go p e below _ (T11.setTop (mkF m 70 #[.val (.int p0), .val (.int p1), .val (.int p2), .val (.int p3), .val (.int p4), .val (.int (1 : Int32)), .val (.ref b9), .unset, .unset, .unset, .unset, .unset] []))
    refine own_by (fun _ k => XS.aload X11.here hx rfl (hb hby at_70) rfl rfl k) ?_
    show own_Go p e below _ (T11.setTop (mkF m 72 #[.val (.int p0), .val (.int p1), .val (.int p2), .val (.int p3), .val (.int p4), .val (.int (1 : Int32)), .val (.ref b9), .unset, .unset, .unset, .unset, .unset] [(.ref b9)]))
    obtain ⟨cq15, kq15, qq15a, qq15b, qq15c⟩ := isOf hZ rfl F13
    obtain ⟨_, _, ⟨T15, L15, k15, n15⟩, -, X15, ⟨Lc15, hQ15, l15, y15, z15⟩, st15⟩ := X11.virtualBack hx (y := (⟨"com/example/credence/credence/sim/Mean", "value", "()Ljava/util/OptionalDouble;"⟩ : MethodName)) (z := (⟨"com/example/credence/credence/sim/Mean", "value", "()Ljava/util/OptionalDouble;"⟩ : MethodName)) hown (mvT hZ (hwd 10 rfl)) (mvT hZ (hwd 11 rfl)) (notFace_of_selects (args := #[]) (mvT hZ (hwd 13 rfl))) (mvT hZ (hwd 13 rfl)) (mvT hZ (hwd 12 rfl)) (by decide) (backOf (W := 0) (rmvN l Z A0 hw [] b9 (1 : Int64) (FP.dadd (0 : UInt64) (FP.i2d p1)) T11.heap n0 Z11 F14 (by decide) F12 (ob_0_3 p0 p1 hv1)) hZ (hwd 14 rfl) (hwd 3 rfl) (by decide) (by decide)) qq15a qq15c (g := (mkF m 72 #[.val (.int p0), .val (.int p1), .val (.int p2), .val (.int p3), .val (.int p4), .val (.int (1 : Int32)), .val (.ref b9), .unset, .unset, .unset, .unset, .unset] [(.ref b9)])) rfl (by rw [hml]; rfl) (Steps.refl _) (argsL := []) (rest := []) (lenOf pd_10 rfl) rfl (by show 2 * 0 + _ ≤ _; exact Nat.le_of_eq rfl) (hb hby at_72) (fun _ _ => ⟨rfl, rfl, (by decide : 1 + 1 ≤ _), (by decide : 2 + 2 ≤ _)⟩)
    dsimp only [Pt.U, Pt.locs, Pt.cells, Pt.slots] at X15 l15 y15 z15 st15 hQ15
    subst l15 y15 z15
    obtain ⟨b16, rfl, Nq15, Kq15, hp17, hp18, F19, F20, F21⟩ := hQ15
    have N15 := Fr.app N11 Nq15
    have K15 : Keep h0 T15.heap [] := K11.trans Kq15 (all0)
    have Z15 : n0 ≤ T15.heap.size := Nat.le_trans Z11 Kq15.1
    have sz_b16 : h0.size ≤ b16 := Nat.le_trans K11.1 hp18
    refine own_by (fun _ k => st15.trans k) ?_
    show own_Go p e below _ (T15.setTop (mkF m 75 #[.val (.int p0), .val (.int p1), .val (.int p2), .val (.int p3), .val (.int p4), .val (.int (1 : Int32)), .val (.ref b9), .unset, .unset, .unset, .unset, .unset] [(.ref b16)]))
    refine own_by (fun _ k => XS.astore X15.here hx rfl (hb hby at_75) rfl rfl (l' := #[.val (.int p0), .val (.int p1), .val (.int p2), .val (.int p3), .val (.int p4), .val (.int (1 : Int32)), .val (.ref b9), .val (.ref b16), .unset, .unset, .unset, .unset]) rfl k) ?_
    show own_Go p e below _ (T15.setTop (mkF m 77 #[.val (.int p0), .val (.int p1), .val (.int p2), .val (.int p3), .val (.int p4), .val (.int (1 : Int32)), .val (.ref b9), .val (.ref b16), .unset, .unset, .unset, .unset] []))
    refine own_by (fun _ k => XS.iload X15.here hx rfl (hb hby at_77) rfl k) ?_
    show own_Go p e below _ (T15.setTop (mkF m 79 #[.val (.int p0), .val (.int p1), .val (.int p2), .val (.int p3), .val (.int p4), .val (.int (1 : Int32)), .val (.ref b9), .val (.ref b16), .unset, .unset, .unset, .unset] [(.int (1 : Int32))]))
    refine own_by (fun _ k => XS.ifYes X15.here hx rfl (pc0 := 79) (pc' := 96) rfl (hb hby at_79) rfl ((if0 _ _).trans (feq (by decide : ¬ ((1 : Int32) = (0 : Int32)))).2) (by decide) (by decide) k) ?_
    show own_Go p e below _ (T15.setTop (mkF m 96 #[.val (.int p0), .val (.int p1), .val (.int p2), .val (.int p3), .val (.int p4), .val (.int (1 : Int32)), .val (.ref b9), .val (.ref b16), .unset, .unset, .unset, .unset] []))
    refine own_by (fun _ k => XS.iloadN X15.here hx rfl (hb hby at_96) rfl k) ?_
    show own_Go p e below _ (T15.setTop (mkF m 97 #[.val (.int p0), .val (.int p1), .val (.int p2), .val (.int p3), .val (.int p4), .val (.int (1 : Int32)), .val (.ref b9), .val (.ref b16), .unset, .unset, .unset, .unset] [(.int p1)]))
    refine own_by (fun _ k => XS.i2l X15.here hx rfl (hb hby at_97) rfl k) ?_
    show own_Go p e below _ (T15.setTop (mkF m 98 #[.val (.int p0), .val (.int p1), .val (.int p2), .val (.int p3), .val (.int p4), .val (.int (1 : Int32)), .val (.ref b9), .val (.ref b16), .unset, .unset, .unset, .unset] [(.long (p1.toInt64))]))
    refine own_by (fun _ k => XS.lstore X15.here hx rfl (hb hby at_98) rfl (l' := #[.val (.int p0), .val (.int p1), .val (.int p2), .val (.int p3), .val (.int p4), .val (.int (1 : Int32)), .val (.ref b9), .val (.ref b16), .val (.long (p1.toInt64)), .second, .unset, .unset]) rfl k) ?_
    show own_Go p e below _ (T15.setTop (mkF m 100 #[.val (.int p0), .val (.int p1), .val (.int p2), .val (.int p3), .val (.int p4), .val (.int (1 : Int32)), .val (.ref b9), .val (.ref b16), .val (.long (p1.toInt64)), .second, .unset, .unset] []))
    refine own_by (fun _ k => XS.iload X15.here hx rfl (hb hby at_100) rfl k) ?_
    show own_Go p e below _ (T15.setTop (mkF m 102 #[.val (.int p0), .val (.int p1), .val (.int p2), .val (.int p3), .val (.int p4), .val (.int (1 : Int32)), .val (.ref b9), .val (.ref b16), .val (.long (p1.toInt64)), .second, .unset, .unset] [(.int (1 : Int32))]))
    refine own_by (fun _ k => XS.iconst X15.here hx rfl (hb hby at_102) k) ?_
    show own_Go p e below _ (T15.setTop (mkF m 103 #[.val (.int p0), .val (.int p1), .val (.int p2), .val (.int p3), .val (.int p4), .val (.int (1 : Int32)), .val (.ref b9), .val (.ref b16), .val (.long (p1.toInt64)), .second, .unset, .unset] [(.int (2 : Int32)), (.int (1 : Int32))]))
    refine own_by (fun _ k => XS.icmpYes X15.here hx rfl (pc0 := 103) (pc' := 113) rfl (hb hby at_103) rfl (tlt (by decide : (1 : Int32) < (2 : Int32))).1 (by decide) (by decide) k) ?_
    show own_Go p e below _ (T15.setTop (mkF m 113 #[.val (.int p0), .val (.int p1), .val (.int p2), .val (.int p3), .val (.int p4), .val (.int (1 : Int32)), .val (.ref b9), .val (.ref b16), .val (.long (p1.toInt64)), .second, .unset, .unset] []))
    refine own_by (fun _ k => XS.iload X15.here hx rfl (hb hby at_113) rfl k) ?_
    show own_Go p e below _ (T15.setTop (mkF m 115 #[.val (.int p0), .val (.int p1), .val (.int p2), .val (.int p3), .val (.int p4), .val (.int (1 : Int32)), .val (.ref b9), .val (.ref b16), .val (.long (p1.toInt64)), .second, .unset, .unset] [(.int (1 : Int32))]))
    refine own_by (fun _ k => XS.iconst X15.here hx rfl (hb hby at_115) k) ?_
    show own_Go p e below _ (T15.setTop (mkF m 116 #[.val (.int p0), .val (.int p1), .val (.int p2), .val (.int p3), .val (.int p4), .val (.int (1 : Int32)), .val (.ref b9), .val (.ref b16), .val (.long (p1.toInt64)), .second, .unset, .unset] [(.int (3 : Int32)), (.int (1 : Int32))]))
    refine own_by (fun _ k => XS.icmpYes X15.here hx rfl (pc0 := 116) (pc' := 126) rfl (hb hby at_116) rfl (tlt (by decide : (1 : Int32) < (3 : Int32))).1 (by decide) (by decide) k) ?_
    show own_Go p e below _ (T15.setTop (mkF m 126 #[.val (.int p0), .val (.int p1), .val (.int p2), .val (.int p3), .val (.int p4), .val (.int (1 : Int32)), .val (.ref b9), .val (.ref b16), .val (.long (p1.toInt64)), .second, .unset, .unset] []))
    refine own_by (fun _ k => XS.iload X15.here hx rfl (hb hby at_126) rfl k) ?_
    show own_Go p e below _ (T15.setTop (mkF m 128 #[.val (.int p0), .val (.int p1), .val (.int p2), .val (.int p3), .val (.int p4), .val (.int (1 : Int32)), .val (.ref b9), .val (.ref b16), .val (.long (p1.toInt64)), .second, .unset, .unset] [(.int (1 : Int32))]))
    refine own_by (fun _ k => XS.iconst X15.here hx rfl (hb hby at_128) k) ?_
    show own_Go p e below _ (T15.setTop (mkF m 129 #[.val (.int p0), .val (.int p1), .val (.int p2), .val (.int p3), .val (.int p4), .val (.int (1 : Int32)), .val (.ref b9), .val (.ref b16), .val (.long (p1.toInt64)), .second, .unset, .unset] [(.int (4 : Int32)), (.int (1 : Int32))]))
    refine own_by (fun _ k => XS.icmpYes X15.here hx rfl (pc0 := 129) (pc' := 140) rfl (hb hby at_129) rfl (tlt (by decide : (1 : Int32) < (4 : Int32))).1 (by decide) (by decide) k) ?_
    show own_Go p e below _ (T15.setTop (mkF m 140 #[.val (.int p0), .val (.int p1), .val (.int p2), .val (.int p3), .val (.int p4), .val (.int (1 : Int32)), .val (.ref b9), .val (.ref b16), .val (.long (p1.toInt64)), .second, .unset, .unset] []))
    refine own_by (fun _ k => XS.lload X15.here hx rfl (hb hby at_140) rfl k) ?_
    show own_Go p e below _ (T15.setTop (mkF m 142 #[.val (.int p0), .val (.int p1), .val (.int p2), .val (.int p3), .val (.int p4), .val (.int (1 : Int32)), .val (.ref b9), .val (.ref b16), .val (.long (p1.toInt64)), .second, .unset, .unset] [(.long (p1.toInt64))]))
    refine own_by (fun _ k => XS.l2dS X15.here hx rfl (hb hby at_142) rfl rfl k) ?_
    show own_Go p e below _ (T15.setTop (mkF m 143 #[.val (.int p0), .val (.int p1), .val (.int p2), .val (.int p3), .val (.int p4), .val (.int (1 : Int32)), .val (.ref b9), .val (.ref b16), .val (.long (p1.toInt64)), .second, .unset, .unset] [(.double (FP.l2d (p1.toInt64)))]))
    refine own_by (fun _ k => XS.iload X15.here hx rfl (hb hby at_143) rfl k) ?_
    show own_Go p e below _ (T15.setTop (mkF m 145 #[.val (.int p0), .val (.int p1), .val (.int p2), .val (.int p3), .val (.int p4), .val (.int (1 : Int32)), .val (.ref b9), .val (.ref b16), .val (.long (p1.toInt64)), .second, .unset, .unset] [(.int (1 : Int32)), (.double (FP.l2d (p1.toInt64)))]))
    refine own_by (fun _ k => XS.i2dS X15.here hx rfl (hb hby at_145) rfl rfl k) ?_
    show own_Go p e below _ (T15.setTop (mkF m 146 #[.val (.int p0), .val (.int p1), .val (.int p2), .val (.int p3), .val (.int p4), .val (.int (1 : Int32)), .val (.ref b9), .val (.ref b16), .val (.long (p1.toInt64)), .second, .unset, .unset] [(.double (FP.i2d (1 : Int32))), (.double (FP.l2d (p1.toInt64)))]))
    refine own_by (fun _ k => XS.ddivS X15.here hx rfl (hb hby at_146) rfl (ob_0_4 p0 p1 hv1) rfl k) ?_
    show own_Go p e below _ (T15.setTop (mkF m 147 #[.val (.int p0), .val (.int p1), .val (.int p2), .val (.int p3), .val (.int p4), .val (.int (1 : Int32)), .val (.ref b9), .val (.ref b16), .val (.long (p1.toInt64)), .second, .unset, .unset] [(.double (FP.ddiv (FP.l2d (p1.toInt64)) (FP.i2d (1 : Int32))))]))
    refine own_by (fun _ k => XS.dstore X15.here hx rfl (hb hby at_147) rfl (l' := #[.val (.int p0), .val (.int p1), .val (.int p2), .val (.int p3), .val (.int p4), .val (.int (1 : Int32)), .val (.ref b9), .val (.ref b16), .val (.long (p1.toInt64)), .second, .val (.double (FP.ddiv (FP.l2d (p1.toInt64)) (FP.i2d (1 : Int32)))), .second]) rfl k) ?_
    show own_Go p e below _ (T15.setTop (mkF m 149 #[.val (.int p0), .val (.int p1), .val (.int p2), .val (.int p3), .val (.int p4), .val (.int (1 : Int32)), .val (.ref b9), .val (.ref b16), .val (.long (p1.toInt64)), .second, .val (.double (FP.ddiv (FP.l2d (p1.toInt64)) (FP.i2d (1 : Int32)))), .second] []))
    refine own_by (fun _ k => XS.aload X15.here hx rfl (hb hby at_149) rfl rfl k) ?_
    show own_Go p e below _ (T15.setTop (mkF m 151 #[.val (.int p0), .val (.int p1), .val (.int p2), .val (.int p3), .val (.int p4), .val (.int (1 : Int32)), .val (.ref b9), .val (.ref b16), .val (.long (p1.toInt64)), .second, .val (.double (FP.ddiv (FP.l2d (p1.toInt64)) (FP.i2d (1 : Int32)))), .second] [(.ref b16)]))
    obtain ⟨cq22, kq22, qq22a, qq22b, qq22c⟩ := isOf hZ rfl F19
    obtain ⟨_, _, ⟨T22, L22, k22, n22⟩, -, X22, ⟨Lc22, hQ22, l22, y22, z22⟩, st22⟩ := X15.virtualBack hx (y := (⟨"java/util/OptionalDouble", "isPresent", "()Z"⟩ : MethodName)) (z := (⟨"java/util/OptionalDouble", "isPresent", "()Z"⟩ : MethodName)) hown (mvT hZ (hwd 22 rfl)) (mvT hZ (hwd 23 rfl)) (notFace_of_selects (args := #[]) (mvT hZ (hwd 25 rfl))) (mvT hZ (hwd 25 rfl)) (mvT hZ (hwd 24 rfl)) (by decide) (backOf (W := 0) (rm5 l Z A0 hw [] b16 (1 : Int32) T15.heap n0 Z15 F20) hZ (hwd 26 rfl) (hwd 19 rfl) (by decide) (by decide)) qq22a qq22c (g := (mkF m 151 #[.val (.int p0), .val (.int p1), .val (.int p2), .val (.int p3), .val (.int p4), .val (.int (1 : Int32)), .val (.ref b9), .val (.ref b16), .val (.long (p1.toInt64)), .second, .val (.double (FP.ddiv (FP.l2d (p1.toInt64)) (FP.i2d (1 : Int32)))), .second] [(.ref b16)])) rfl (by rw [hml]; rfl) (Steps.refl _) (argsL := []) (rest := []) (lenOf pd_22 rfl) rfl (by show 2 * 0 + _ ≤ _; exact Nat.le_of_eq rfl) (hb hby at_151) (fun _ _ => ⟨rfl, rfl, (by decide : 2 + 0 ≤ _), (by decide : 4 + 0 ≤ _)⟩)
    dsimp only [Pt.U, Pt.locs, Pt.cells, Pt.slots] at X22 l22 y22 z22 st22 hQ22
    subst l22 y22 z22
    obtain ⟨rfl, Nq22, eq22⟩ := hQ22
    have N22 := Fr.app N15 Nq22
    refine own_by (fun _ k => st22.trans k) ?_
    show own_Go p e below _ (T22.setTop (mkF m 154 #[.val (.int p0), .val (.int p1), .val (.int p2), .val (.int p3), .val (.int p4), .val (.int (1 : Int32)), .val (.ref b9), .val (.ref b16), .val (.long (p1.toInt64)), .second, .val (.double (FP.ddiv (FP.l2d (p1.toInt64)) (FP.i2d (1 : Int32)))), .second] [(.int (1 : Int32))]))
    refine own_by (fun _ k => XS.ifNo X22.here hx rfl (hb hby at_154) rfl ((if0 _ _).trans (feq (by decide : ¬ ((1 : Int32) = (0 : Int32)))).1) k) ?_
    show own_Go p e below _ (T22.setTop (mkF m 157 #[.val (.int p0), .val (.int p1), .val (.int p2), .val (.int p3), .val (.int p4), .val (.int (1 : Int32)), .val (.ref b9), .val (.ref b16), .val (.long (p1.toInt64)), .second, .val (.double (FP.ddiv (FP.l2d (p1.toInt64)) (FP.i2d (1 : Int32)))), .second] []))
    refine own_by (fun _ k => XS.aload X22.here hx rfl (hb hby at_157) rfl rfl k) ?_
    show own_Go p e below _ (T22.setTop (mkF m 159 #[.val (.int p0), .val (.int p1), .val (.int p2), .val (.int p3), .val (.int p4), .val (.int (1 : Int32)), .val (.ref b9), .val (.ref b16), .val (.long (p1.toInt64)), .second, .val (.double (FP.ddiv (FP.l2d (p1.toInt64)) (FP.i2d (1 : Int32)))), .second] [(.ref b16)]))
    obtain ⟨cq23, kq23, qq23a, qq23b, qq23c⟩ := isOf hZ eq22 F19
    obtain ⟨_, _, ⟨T23, L23, k23, n23⟩, -, X23, ⟨Lc23, hQ23, l23, y23, z23⟩, st23⟩ := X22.virtualBack hx (y := (⟨"java/util/OptionalDouble", "getAsDouble", "()D"⟩ : MethodName)) (z := (⟨"java/util/OptionalDouble", "getAsDouble", "()D"⟩ : MethodName)) hown (mvT hZ (hwd 48 rfl)) (mvT hZ (hwd 49 rfl)) (notFace_of_selects (args := #[]) (mvT hZ (hwd 51 rfl))) (mvT hZ (hwd 51 rfl)) (mvT hZ (hwd 50 rfl)) (by decide) (backOf (W := 0) (rm9 l Z A0 hw [] b16 (1 : Int32) (FP.ddiv (FP.dadd (0 : UInt64) (FP.i2d p1)) (FP.l2d (1 : Int64))) T15.heap n0 Z15 F20 (by decide) F21) hZ (hwd 52 rfl) (hwd 19 rfl) (by decide) (by decide)) qq23a qq23c (g := (mkF m 159 #[.val (.int p0), .val (.int p1), .val (.int p2), .val (.int p3), .val (.int p4), .val (.int (1 : Int32)), .val (.ref b9), .val (.ref b16), .val (.long (p1.toInt64)), .second, .val (.double (FP.ddiv (FP.l2d (p1.toInt64)) (FP.i2d (1 : Int32)))), .second] [(.ref b16)])) rfl (by rw [hml]; rfl) (Steps.refl _) (argsL := []) (rest := []) (lenOf pd_48 rfl) rfl (by show 2 * 0 + _ ≤ _; exact Nat.le_of_eq rfl) (hb hby at_159) (fun _ _ => ⟨rfl, eq22, (by decide : 2 + 0 ≤ _), (by decide : 4 + 0 ≤ _)⟩)
    dsimp only [Pt.U, Pt.locs, Pt.cells, Pt.slots] at X23 l23 y23 z23 st23 hQ23
    subst l23 y23 z23
    obtain ⟨rfl, Nq23, eq23⟩ := hQ23
    have N23 := Fr.app N22 Nq23
    refine own_by (fun _ k => st23.trans k) ?_
    show own_Go p e below _ (T23.setTop (mkF m 162 #[.val (.int p0), .val (.int p1), .val (.int p2), .val (.int p3), .val (.int p4), .val (.int (1 : Int32)), .val (.ref b9), .val (.ref b16), .val (.long (p1.toInt64)), .second, .val (.double (FP.ddiv (FP.l2d (p1.toInt64)) (FP.i2d (1 : Int32)))), .second] [(.double (FP.ddiv (FP.dadd (0 : UInt64) (FP.i2d p1)) (FP.l2d (1 : Int64))))]))
    refine own_by (fun _ k => XS.dload X23.here hx rfl (hb hby at_162) rfl k) ?_
    show own_Go p e below _ (T23.setTop (mkF m 164 #[.val (.int p0), .val (.int p1), .val (.int p2), .val (.int p3), .val (.int p4), .val (.int (1 : Int32)), .val (.ref b9), .val (.ref b16), .val (.long (p1.toInt64)), .second, .val (.double (FP.ddiv (FP.l2d (p1.toInt64)) (FP.i2d (1 : Int32)))), .second] [(.double (FP.ddiv (FP.l2d (p1.toInt64)) (FP.i2d (1 : Int32)))), (.double (FP.ddiv (FP.dadd (0 : UInt64) (FP.i2d p1)) (FP.l2d (1 : Int64))))]))
    refine own_by (fun _ k => XS.dcmpS X23.here hx rfl (hb hby at_164) rfl rfl k) ?_
    show own_Go p e below _ (T23.setTop (mkF m 165 #[.val (.int p0), .val (.int p1), .val (.int p2), .val (.int p3), .val (.int p4), .val (.int (1 : Int32)), .val (.ref b9), .val (.ref b16), .val (.long (p1.toInt64)), .second, .val (.double (FP.ddiv (FP.l2d (p1.toInt64)) (FP.i2d (1 : Int32)))), .second] [(.int (cmpValue (FP.dcmp (FP.ddiv (FP.dadd (0 : UInt64) (FP.i2d p1)) (FP.l2d (1 : Int64))) (FP.ddiv (FP.l2d (p1.toInt64)) (FP.i2d (1 : Int32)))) .l))]))
    by_cases c24 : (cmpValue (FP.dcmp (FP.ddiv (FP.dadd (0 : UInt64) (FP.i2d p1)) (FP.l2d (1 : Int64))) (FP.ddiv (FP.l2d (p1.toInt64)) (FP.i2d (1 : Int32)))) .l) = (0 : Int32)
    · skip
      refine own_by (fun _ k => XS.ifNo X23.here hx rfl (hb hby at_165) rfl ((if0 _ _).trans (teq c24).2) k) ?_
      show own_Go p e below _ (T23.setTop (mkF m 168 #[.val (.int p0), .val (.int p1), .val (.int p2), .val (.int p3), .val (.int p4), .val (.int (1 : Int32)), .val (.ref b9), .val (.ref b16), .val (.long (p1.toInt64)), .second, .val (.double (FP.ddiv (FP.l2d (p1.toInt64)) (FP.i2d (1 : Int32)))), .second] []))
      refine own_by (fun _ k => XS.iconst X23.here hx rfl (hb hby at_168) k) ?_
      show own_Go p e below _ (T23.setTop (mkF m 169 #[.val (.int p0), .val (.int p1), .val (.int p2), .val (.int p3), .val (.int p4), .val (.int (1 : Int32)), .val (.ref b9), .val (.ref b16), .val (.long (p1.toInt64)), .second, .val (.double (FP.ddiv (FP.l2d (p1.toInt64)) (FP.i2d (1 : Int32)))), .second] [(.int (1 : Int32))]))
      refine own_by (fun _ k => XS.goto X23.here hx rfl (pc0 := 169) (pc' := 173) rfl (hb hby at_169) (by decide) (by decide) k) ?_
      show own_Go p e below _ (T23.setTop (mkF m 173 #[.val (.int p0), .val (.int p1), .val (.int p2), .val (.int p3), .val (.int p4), .val (.int (1 : Int32)), .val (.ref b9), .val (.ref b16), .val (.long (p1.toInt64)), .second, .val (.double (FP.ddiv (FP.l2d (p1.toInt64)) (FP.i2d (1 : Int32)))), .second] [(.int (1 : Int32))]))
      exact own_retN X23 hx (t := .boolean) Bd.returns (by simp) (hb hby at_173) hlk eq23 ⟨rfl, N23⟩ (by decide) (by decide)
    · skip
      refine own_by (fun _ k => XS.ifYes X23.here hx rfl (pc0 := 165) (pc' := 172) rfl (hb hby at_165) rfl ((if0 _ _).trans (feq c24).2) (by decide) (by decide) k) ?_
      show own_Go p e below _ (T23.setTop (mkF m 172 #[.val (.int p0), .val (.int p1), .val (.int p2), .val (.int p3), .val (.int p4), .val (.int (1 : Int32)), .val (.ref b9), .val (.ref b16), .val (.long (p1.toInt64)), .second, .val (.double (FP.ddiv (FP.l2d (p1.toInt64)) (FP.i2d (1 : Int32)))), .second] []))
      refine own_by (fun _ k => XS.iconst X23.here hx rfl (hb hby at_172) k) ?_
      show own_Go p e below _ (T23.setTop (mkF m 173 #[.val (.int p0), .val (.int p1), .val (.int p2), .val (.int p3), .val (.int p4), .val (.int (1 : Int32)), .val (.ref b9), .val (.ref b16), .val (.long (p1.toInt64)), .second, .val (.double (FP.ddiv (FP.l2d (p1.toInt64)) (FP.i2d (1 : Int32)))), .second] [(.int (0 : Int32))]))
      exact own_retN X23 hx (t := .boolean) Bd.returns (by simp) (hb hby at_173) hlk eq23 ⟨((ob_0_5 p0 p1 hv1 c24)).elim, N23⟩ (by decide) (by decide)
  · skip
    show own_Go p e below _ (s₁.setTop (mkF m 8 #[.val (.int p0), .val (.int p1), .val (.int p2), .val (.int p3), .val (.int p4), .val (.int (2 : Int32)), .unset, .unset, .unset, .unset, .unset, .unset] []))
    obtain ⟨T25, h25, X25, e25, E25, A25, D25, -, st25⟩ := newO X0 hx hZ hown (hwd 1 rfl) (hwd 2 rfl) (hwd 3 rfl) e0 (g := (mkF m 8 #[.val (.int p0), .val (.int p1), .val (.int p2), .val (.int p3), .val (.int p4), .val (.int (2 : Int32)), .unset, .unset, .unset, .unset, .unset, .unset] [])) rfl (hb hby at_8) (by decide) (by decide)
    obtain ⟨b25, g25⟩ : ∃ z, z = h0.size := ⟨_, rfl⟩
    have ge_b25 : n0 ≤ b25 := Nat.le_trans Z0 (Nat.le_of_eq g25.symm)
    have sz_b25 : h0.size ≤ b25 := Nat.le_trans (Keep.refl h0 []).1 (Nat.le_of_eq g25.symm)
    have K25 : Keep h0 h25 [] := (Keep.refl h0 []).ext E25
    have Z25 : n0 ≤ h25.size := Nat.le_trans Z0 E25.1
    rw [← g25] at A25 D25 st25
    have F_count_b25 : Fld Z h25 b25 "com/example/credence/credence/sim/Mean" "count" "J" (.long (0 : Int64)) := D25 (Or.inl (hwd 16 rfl)) (ty := .long) (by decide)
    have F_sum_b25 : Fld Z h25 b25 "com/example/credence/credence/sim/Mean" "sum" "D" (.double (0 : UInt64)) := D25 (Or.inl (hwd 35 rfl)) (ty := .double) (by decide)
    refine own_by st25 ?_
    show own_Go p e below _ (T25.setTop (mkF m 11 #[.val (.int p0), .val (.int p1), .val (.int p2), .val (.int p3), .val (.int p4), .val (.int (2 : Int32)), .unset, .unset, .unset, .unset, .unset, .unset] [(.ref b25)]))
    refine own_by (fun _ k => XS.dup X25.here hx rfl (hb hby at_11) rfl rfl k) ?_
    show own_Go p e below _ (T25.setTop (mkF m 12 #[.val (.int p0), .val (.int p1), .val (.int p2), .val (.int p3), .val (.int p4), .val (.int (2 : Int32)), .unset, .unset, .unset, .unset, .unset, .unset] [(.ref b25), (.ref b25)]))
    obtain ⟨_, _, ⟨T26, L26, k26, n26⟩, -, X26, ⟨Lc26, hQ26, l26, y26, z26⟩, st26⟩ := X25.specialBack hx (y := (⟨"com/example/credence/credence/sim/Mean", "<init>", "()V"⟩ : MethodName)) rfl hown (mvT hZ (hwd 4 rfl)) (mvT hZ (hwd 5 rfl)) (mvT hZ (hwd 6 rfl)) (by decide) (backOf (W := 1) (rm1 l Z A0 hw [] b25 h25 n0 Z25 ) hZ (hwd 6 rfl) (hwd 3 rfl) (by decide) (by decide)) (g := (mkF m 12 #[.val (.int p0), .val (.int p1), .val (.int p2), .val (.int p3), .val (.int p4), .val (.int (2 : Int32)), .unset, .unset, .unset, .unset, .unset, .unset] [(.ref b25), (.ref b25)])) rfl (by rw [hml]; rfl) (Steps.refl _) (a := b25) (argsL := []) (rest := [(.ref b25)]) (lenOf pd_4 rfl) rfl (by show 2 * 0 + _ ≤ _; exact Nat.le_of_eq rfl) (hb hby at_12) (fun _ _ => ⟨rfl, e25, (by decide : 1 + 0 ≤ _), (by decide : 2 + 0 ≤ _)⟩)
    dsimp only [Pt.U, Pt.locs, Pt.cells, Pt.slots] at X26 l26 y26 z26 st26 hQ26
    subst l26 y26 z26
    obtain ⟨rfl, Nq26, eq26⟩ := hQ26
    have N26 := Fr.app N0 Nq26
    refine own_by (fun _ k => st26.trans k) ?_
    show own_Go p e below _ (T26.setTop (mkF m 15 #[.val (.int p0), .val (.int p1), .val (.int p2), .val (.int p3), .val (.int p4), .val (.int (2 : Int32)), .unset, .unset, .unset, .unset, .unset, .unset] [(.ref b25)]))
    refine own_by (fun _ k => XS.astore X26.here hx rfl (hb hby at_15) rfl rfl (l' := #[.val (.int p0), .val (.int p1), .val (.int p2), .val (.int p3), .val (.int p4), .val (.int (2 : Int32)), .val (.ref b25), .unset, .unset, .unset, .unset, .unset]) rfl k) ?_
    show own_Go p e below _ (T26.setTop (mkF m 17 #[.val (.int p0), .val (.int p1), .val (.int p2), .val (.int p3), .val (.int p4), .val (.int (2 : Int32)), .val (.ref b25), .unset, .unset, .unset, .unset, .unset] []))
    refine own_by (fun _ k => XS.iload X26.here hx rfl (hb hby at_17) rfl k) ?_
    show own_Go p e below _ (T26.setTop (mkF m 19 #[.val (.int p0), .val (.int p1), .val (.int p2), .val (.int p3), .val (.int p4), .val (.int (2 : Int32)), .val (.ref b25), .unset, .unset, .unset, .unset, .unset] [(.int (2 : Int32))]))
    refine own_by (fun _ k => XS.iconst X26.here hx rfl (hb hby at_19) k) ?_
    show own_Go p e below _ (T26.setTop (mkF m 20 #[.val (.int p0), .val (.int p1), .val (.int p2), .val (.int p3), .val (.int p4), .val (.int (2 : Int32)), .val (.ref b25), .unset, .unset, .unset, .unset, .unset] [(.int (1 : Int32)), (.int (2 : Int32))]))
    refine own_by (fun _ k => XS.icmpNo X26.here hx rfl (hb hby at_20) rfl (flt (by decide : ¬ ((2 : Int32) < (1 : Int32)))).1 k) ?_
    show own_Go p e below _ (T26.setTop (mkF m 23 #[.val (.int p0), .val (.int p1), .val (.int p2), .val (.int p3), .val (.int p4), .val (.int (2 : Int32)), .val (.ref b25), .unset, .unset, .unset, .unset, .unset] []))
    refine own_by (fun _ k => XS.aload X26.here hx rfl (hb hby at_23) rfl rfl k) ?_
    show own_Go p e below _ (T26.setTop (mkF m 25 #[.val (.int p0), .val (.int p1), .val (.int p2), .val (.int p3), .val (.int p4), .val (.int (2 : Int32)), .val (.ref b25), .unset, .unset, .unset, .unset, .unset] [(.ref b25)]))
    refine own_by (fun _ k => XS.iloadN X26.here hx rfl (hb hby at_25) rfl k) ?_
    show own_Go p e below _ (T26.setTop (mkF m 26 #[.val (.int p0), .val (.int p1), .val (.int p2), .val (.int p3), .val (.int p4), .val (.int (2 : Int32)), .val (.ref b25), .unset, .unset, .unset, .unset, .unset] [(.int p1), (.ref b25)]))
    refine own_by (fun _ k => XS.i2dS X26.here hx rfl (hb hby at_26) rfl rfl k) ?_
    show own_Go p e below _ (T26.setTop (mkF m 27 #[.val (.int p0), .val (.int p1), .val (.int p2), .val (.int p3), .val (.int p4), .val (.int (2 : Int32)), .val (.ref b25), .unset, .unset, .unset, .unset, .unset] [(.double (FP.i2d p1)), (.ref b25)]))
    obtain ⟨cq27, kq27, qq27a, qq27b, qq27c⟩ := isOf hZ eq26 A25
    obtain ⟨_, _, ⟨T27, L27, k27, n27⟩, -, X27, ⟨Lc27, hQ27, l27, y27, z27⟩, st27⟩ := X26.virtualBack hx (y := (⟨"com/example/credence/credence/sim/Mean", "add", "(D)V"⟩ : MethodName)) (z := (⟨"com/example/credence/credence/sim/Mean", "add", "(D)V"⟩ : MethodName)) hown (mvT hZ (hwd 29 rfl)) (mvT hZ (hwd 30 rfl)) (notFace_of_selects (args := #[]) (mvT hZ (hwd 32 rfl))) (mvT hZ (hwd 32 rfl)) (mvT hZ (hwd 31 rfl)) (by decide) (backOf (W := 0) (rm6 l Z A0 hw [] b25 (FP.i2d p1) (0 : UInt64) (0 : Int64) h25 n0 Z25 F_sum_b25 (ob_0_6 p0 p1 hv1) A25 ge_b25 F_count_b25) hZ (hwd 33 rfl) (hwd 3 rfl) (by decide) (by decide)) qq27a qq27c (g := (mkF m 27 #[.val (.int p0), .val (.int p1), .val (.int p2), .val (.int p3), .val (.int p4), .val (.int (2 : Int32)), .val (.ref b25), .unset, .unset, .unset, .unset, .unset] [(.double (FP.i2d p1)), (.ref b25)])) rfl (by rw [hml]; rfl) (Steps.refl _) (argsL := [(.double (FP.i2d p1))]) (rest := []) (lenOf pd_29 rfl) rfl (by show 2 * 0 + _ ≤ _; exact Nat.le_of_eq rfl) (hb hby at_27) (fun _ _ => ⟨rfl, eq26, (by decide : 1 + 0 ≤ _), (by decide : 2 + 0 ≤ _)⟩)
    dsimp only [Pt.U, Pt.locs, Pt.cells, Pt.slots] at X27 l27 y27 z27 st27 hQ27
    subst l27 y27 z27
    obtain ⟨rfl, Nq27, Kq27, F28, F29, F30⟩ := hQ27
    have N27 := Fr.app N26 Nq27
    have K27 : Keep h0 T27.heap [] := K25.trans Kq27 ((allS (Or.inr sz_b25) all0))
    have Z27 : n0 ≤ T27.heap.size := Nat.le_trans Z25 Kq27.1
    refine own_by (fun _ k => st27.trans k) ?_
    show own_Go p e below _ (T27.setTop (mkF m 30 #[.val (.int p0), .val (.int p1), .val (.int p2), .val (.int p3), .val (.int p4), .val (.int (2 : Int32)), .val (.ref b25), .unset, .unset, .unset, .unset, .unset] []))
    refine own_by (fun _ k => XS.iload X27.here hx rfl (hb hby at_30) rfl k) ?_
    show own_Go p e below _ (T27.setTop (mkF m 32 #[.val (.int p0), .val (.int p1), .val (.int p2), .val (.int p3), .val (.int p4), .val (.int (2 : Int32)), .val (.ref b25), .unset, .unset, .unset, .unset, .unset] [(.int (2 : Int32))]))
    refine own_by (fun _ k => XS.iconst X27.here hx rfl (hb hby at_32) k) ?_
    show own_Go p e below _ (T27.setTop (mkF m 33 #[.val (.int p0), .val (.int p1), .val (.int p2), .val (.int p3), .val (.int p4), .val (.int (2 : Int32)), .val (.ref b25), .unset, .unset, .unset, .unset, .unset] [(.int (2 : Int32)), (.int (2 : Int32))]))
    refine own_by (fun _ k => XS.icmpNo X27.here hx rfl (hb hby at_33) rfl (flt (by decide : ¬ ((2 : Int32) < (2 : Int32)))).1 k) ?_
    show own_Go p e below _ (T27.setTop (mkF m 36 #[.val (.int p0), .val (.int p1), .val (.int p2), .val (.int p3), .val (.int p4), .val (.int (2 : Int32)), .val (.ref b25), .unset, .unset, .unset, .unset, .unset] []))
    refine own_by (fun _ k => XS.aload X27.here hx rfl (hb hby at_36) rfl rfl k) ?_
    show own_Go p e below _ (T27.setTop (mkF m 38 #[.val (.int p0), .val (.int p1), .val (.int p2), .val (.int p3), .val (.int p4), .val (.int (2 : Int32)), .val (.ref b25), .unset, .unset, .unset, .unset, .unset] [(.ref b25)]))
    refine own_by (fun _ k => XS.iloadN X27.here hx rfl (hb hby at_38) rfl k) ?_
    show own_Go p e below _ (T27.setTop (mkF m 39 #[.val (.int p0), .val (.int p1), .val (.int p2), .val (.int p3), .val (.int p4), .val (.int (2 : Int32)), .val (.ref b25), .unset, .unset, .unset, .unset, .unset] [(.int p2), (.ref b25)]))
    refine own_by (fun _ k => XS.i2dS X27.here hx rfl (hb hby at_39) rfl rfl k) ?_
    show own_Go p e below _ (T27.setTop (mkF m 40 #[.val (.int p0), .val (.int p1), .val (.int p2), .val (.int p3), .val (.int p4), .val (.int (2 : Int32)), .val (.ref b25), .unset, .unset, .unset, .unset, .unset] [(.double (FP.i2d p2)), (.ref b25)]))
    obtain ⟨cq31, kq31, qq31a, qq31b, qq31c⟩ := isOf hZ rfl F29
    obtain ⟨_, _, ⟨T31, L31, k31, n31⟩, -, X31, ⟨Lc31, hQ31, l31, y31, z31⟩, st31⟩ := X27.virtualBack hx (y := (⟨"com/example/credence/credence/sim/Mean", "add", "(D)V"⟩ : MethodName)) (z := (⟨"com/example/credence/credence/sim/Mean", "add", "(D)V"⟩ : MethodName)) hown (mvT hZ (hwd 29 rfl)) (mvT hZ (hwd 30 rfl)) (notFace_of_selects (args := #[]) (mvT hZ (hwd 32 rfl))) (mvT hZ (hwd 32 rfl)) (mvT hZ (hwd 31 rfl)) (by decide) (backOf (W := 0) (rm6 l Z A0 hw [] b25 (FP.i2d p2) (FP.dadd (0 : UInt64) (FP.i2d p1)) (1 : Int64) T27.heap n0 Z27 F28 (ob_0_7 p0 p1 p2 hv1) F29 ge_b25 F30) hZ (hwd 33 rfl) (hwd 3 rfl) (by decide) (by decide)) qq31a qq31c (g := (mkF m 40 #[.val (.int p0), .val (.int p1), .val (.int p2), .val (.int p3), .val (.int p4), .val (.int (2 : Int32)), .val (.ref b25), .unset, .unset, .unset, .unset, .unset] [(.double (FP.i2d p2)), (.ref b25)])) rfl (by rw [hml]; rfl) (Steps.refl _) (argsL := [(.double (FP.i2d p2))]) (rest := []) (lenOf pd_29 rfl) rfl (by show 2 * 0 + _ ≤ _; exact Nat.le_of_eq rfl) (hb hby at_40) (fun _ _ => ⟨rfl, rfl, (by decide : 1 + 0 ≤ _), (by decide : 2 + 0 ≤ _)⟩)
    dsimp only [Pt.U, Pt.locs, Pt.cells, Pt.slots] at X31 l31 y31 z31 st31 hQ31
    subst l31 y31 z31
    obtain ⟨rfl, Nq31, Kq31, F32, F33, F34⟩ := hQ31
    have N31 := Fr.app N27 Nq31
    have K31 : Keep h0 T31.heap [] := K27.trans Kq31 ((allS (Or.inr sz_b25) all0))
    have Z31 : n0 ≤ T31.heap.size := Nat.le_trans Z27 Kq31.1
    refine own_by (fun _ k => st31.trans k) ?_
    show own_Go p e below _ (T31.setTop (mkF m 43 #[.val (.int p0), .val (.int p1), .val (.int p2), .val (.int p3), .val (.int p4), .val (.int (2 : Int32)), .val (.ref b25), .unset, .unset, .unset, .unset, .unset] []))
    refine own_by (fun _ k => XS.iload X31.here hx rfl (hb hby at_43) rfl k) ?_
    show own_Go p e below _ (T31.setTop (mkF m 45 #[.val (.int p0), .val (.int p1), .val (.int p2), .val (.int p3), .val (.int p4), .val (.int (2 : Int32)), .val (.ref b25), .unset, .unset, .unset, .unset, .unset] [(.int (2 : Int32))]))
    refine own_by (fun _ k => XS.iconst X31.here hx rfl (hb hby at_45) k) ?_
    show own_Go p e below _ (T31.setTop (mkF m 46 #[.val (.int p0), .val (.int p1), .val (.int p2), .val (.int p3), .val (.int p4), .val (.int (2 : Int32)), .val (.ref b25), .unset, .unset, .unset, .unset, .unset] [(.int (3 : Int32)), (.int (2 : Int32))]))
    refine own_by (fun _ k => XS.icmpYes X31.here hx rfl (pc0 := 46) (pc' := 56) rfl (hb hby at_46) rfl (tlt (by decide : (2 : Int32) < (3 : Int32))).1 (by decide) (by decide) k) ?_
    show own_Go p e below _ (T31.setTop (mkF m 56 #[.val (.int p0), .val (.int p1), .val (.int p2), .val (.int p3), .val (.int p4), .val (.int (2 : Int32)), .val (.ref b25), .unset, .unset, .unset, .unset, .unset] []))
    refine own_by (fun _ k => XS.iload X31.here hx rfl (hb hby at_56) rfl k) ?_
    show own_Go p e below _ (T31.setTop (mkF m 58 #[.val (.int p0), .val (.int p1), .val (.int p2), .val (.int p3), .val (.int p4), .val (.int (2 : Int32)), .val (.ref b25), .unset, .unset, .unset, .unset, .unset] [(.int (2 : Int32))]))
    refine own_by (fun _ k => XS.iconst X31.here hx rfl (hb hby at_58) k) ?_
    show own_Go p e below _ (T31.setTop (mkF m 59 #[.val (.int p0), .val (.int p1), .val (.int p2), .val (.int p3), .val (.int p4), .val (.int (2 : Int32)), .val (.ref b25), .unset, .unset, .unset, .unset, .unset] [(.int (4 : Int32)), (.int (2 : Int32))]))
    refine own_by (fun _ k => XS.icmpYes X31.here hx rfl (pc0 := 59) (pc' := 70) rfl (hb hby at_59) rfl (tlt (by decide : (2 : Int32) < (4 : Int32))).1 (by decide) (by decide) k) ?_
    show own_Go p e below _ (T31.setTop (mkF m 70 #[.val (.int p0), .val (.int p1), .val (.int p2), .val (.int p3), .val (.int p4), .val (.int (2 : Int32)), .val (.ref b25), .unset, .unset, .unset, .unset, .unset] []))
    refine own_by (fun _ k => XS.aload X31.here hx rfl (hb hby at_70) rfl rfl k) ?_
    show own_Go p e below _ (T31.setTop (mkF m 72 #[.val (.int p0), .val (.int p1), .val (.int p2), .val (.int p3), .val (.int p4), .val (.int (2 : Int32)), .val (.ref b25), .unset, .unset, .unset, .unset, .unset] [(.ref b25)]))
    obtain ⟨cq35, kq35, qq35a, qq35b, qq35c⟩ := isOf hZ rfl F33
    obtain ⟨_, _, ⟨T35, L35, k35, n35⟩, -, X35, ⟨Lc35, hQ35, l35, y35, z35⟩, st35⟩ := X31.virtualBack hx (y := (⟨"com/example/credence/credence/sim/Mean", "value", "()Ljava/util/OptionalDouble;"⟩ : MethodName)) (z := (⟨"com/example/credence/credence/sim/Mean", "value", "()Ljava/util/OptionalDouble;"⟩ : MethodName)) hown (mvT hZ (hwd 10 rfl)) (mvT hZ (hwd 11 rfl)) (notFace_of_selects (args := #[]) (mvT hZ (hwd 13 rfl))) (mvT hZ (hwd 13 rfl)) (mvT hZ (hwd 12 rfl)) (by decide) (backOf (W := 0) (rmvN l Z A0 hw [] b25 (2 : Int64) (FP.dadd (FP.dadd (0 : UInt64) (FP.i2d p1)) (FP.i2d p2)) T31.heap n0 Z31 F34 (by decide) F32 (ob_0_8 p0 p1 p2 hv1)) hZ (hwd 14 rfl) (hwd 3 rfl) (by decide) (by decide)) qq35a qq35c (g := (mkF m 72 #[.val (.int p0), .val (.int p1), .val (.int p2), .val (.int p3), .val (.int p4), .val (.int (2 : Int32)), .val (.ref b25), .unset, .unset, .unset, .unset, .unset] [(.ref b25)])) rfl (by rw [hml]; rfl) (Steps.refl _) (argsL := []) (rest := []) (lenOf pd_10 rfl) rfl (by show 2 * 0 + _ ≤ _; exact Nat.le_of_eq rfl) (hb hby at_72) (fun _ _ => ⟨rfl, rfl, (by decide : 1 + 1 ≤ _), (by decide : 2 + 2 ≤ _)⟩)
    dsimp only [Pt.U, Pt.locs, Pt.cells, Pt.slots] at X35 l35 y35 z35 st35 hQ35
    subst l35 y35 z35
    obtain ⟨b36, rfl, Nq35, Kq35, hp37, hp38, F39, F40, F41⟩ := hQ35
    have N35 := Fr.app N31 Nq35
    have K35 : Keep h0 T35.heap [] := K31.trans Kq35 (all0)
    have Z35 : n0 ≤ T35.heap.size := Nat.le_trans Z31 Kq35.1
    have sz_b36 : h0.size ≤ b36 := Nat.le_trans K31.1 hp38
    refine own_by (fun _ k => st35.trans k) ?_
    show own_Go p e below _ (T35.setTop (mkF m 75 #[.val (.int p0), .val (.int p1), .val (.int p2), .val (.int p3), .val (.int p4), .val (.int (2 : Int32)), .val (.ref b25), .unset, .unset, .unset, .unset, .unset] [(.ref b36)]))
    refine own_by (fun _ k => XS.astore X35.here hx rfl (hb hby at_75) rfl rfl (l' := #[.val (.int p0), .val (.int p1), .val (.int p2), .val (.int p3), .val (.int p4), .val (.int (2 : Int32)), .val (.ref b25), .val (.ref b36), .unset, .unset, .unset, .unset]) rfl k) ?_
    show own_Go p e below _ (T35.setTop (mkF m 77 #[.val (.int p0), .val (.int p1), .val (.int p2), .val (.int p3), .val (.int p4), .val (.int (2 : Int32)), .val (.ref b25), .val (.ref b36), .unset, .unset, .unset, .unset] []))
    refine own_by (fun _ k => XS.iload X35.here hx rfl (hb hby at_77) rfl k) ?_
    show own_Go p e below _ (T35.setTop (mkF m 79 #[.val (.int p0), .val (.int p1), .val (.int p2), .val (.int p3), .val (.int p4), .val (.int (2 : Int32)), .val (.ref b25), .val (.ref b36), .unset, .unset, .unset, .unset] [(.int (2 : Int32))]))
    refine own_by (fun _ k => XS.ifYes X35.here hx rfl (pc0 := 79) (pc' := 96) rfl (hb hby at_79) rfl ((if0 _ _).trans (feq (by decide : ¬ ((2 : Int32) = (0 : Int32)))).2) (by decide) (by decide) k) ?_
    show own_Go p e below _ (T35.setTop (mkF m 96 #[.val (.int p0), .val (.int p1), .val (.int p2), .val (.int p3), .val (.int p4), .val (.int (2 : Int32)), .val (.ref b25), .val (.ref b36), .unset, .unset, .unset, .unset] []))
    refine own_by (fun _ k => XS.iloadN X35.here hx rfl (hb hby at_96) rfl k) ?_
    show own_Go p e below _ (T35.setTop (mkF m 97 #[.val (.int p0), .val (.int p1), .val (.int p2), .val (.int p3), .val (.int p4), .val (.int (2 : Int32)), .val (.ref b25), .val (.ref b36), .unset, .unset, .unset, .unset] [(.int p1)]))
    refine own_by (fun _ k => XS.i2l X35.here hx rfl (hb hby at_97) rfl k) ?_
    show own_Go p e below _ (T35.setTop (mkF m 98 #[.val (.int p0), .val (.int p1), .val (.int p2), .val (.int p3), .val (.int p4), .val (.int (2 : Int32)), .val (.ref b25), .val (.ref b36), .unset, .unset, .unset, .unset] [(.long (p1.toInt64))]))
    refine own_by (fun _ k => XS.lstore X35.here hx rfl (hb hby at_98) rfl (l' := #[.val (.int p0), .val (.int p1), .val (.int p2), .val (.int p3), .val (.int p4), .val (.int (2 : Int32)), .val (.ref b25), .val (.ref b36), .val (.long (p1.toInt64)), .second, .unset, .unset]) rfl k) ?_
    show own_Go p e below _ (T35.setTop (mkF m 100 #[.val (.int p0), .val (.int p1), .val (.int p2), .val (.int p3), .val (.int p4), .val (.int (2 : Int32)), .val (.ref b25), .val (.ref b36), .val (.long (p1.toInt64)), .second, .unset, .unset] []))
    refine own_by (fun _ k => XS.iload X35.here hx rfl (hb hby at_100) rfl k) ?_
    show own_Go p e below _ (T35.setTop (mkF m 102 #[.val (.int p0), .val (.int p1), .val (.int p2), .val (.int p3), .val (.int p4), .val (.int (2 : Int32)), .val (.ref b25), .val (.ref b36), .val (.long (p1.toInt64)), .second, .unset, .unset] [(.int (2 : Int32))]))
    refine own_by (fun _ k => XS.iconst X35.here hx rfl (hb hby at_102) k) ?_
    show own_Go p e below _ (T35.setTop (mkF m 103 #[.val (.int p0), .val (.int p1), .val (.int p2), .val (.int p3), .val (.int p4), .val (.int (2 : Int32)), .val (.ref b25), .val (.ref b36), .val (.long (p1.toInt64)), .second, .unset, .unset] [(.int (2 : Int32)), (.int (2 : Int32))]))
    refine own_by (fun _ k => XS.icmpNo X35.here hx rfl (hb hby at_103) rfl (flt (by decide : ¬ ((2 : Int32) < (2 : Int32)))).1 k) ?_
    show own_Go p e below _ (T35.setTop (mkF m 106 #[.val (.int p0), .val (.int p1), .val (.int p2), .val (.int p3), .val (.int p4), .val (.int (2 : Int32)), .val (.ref b25), .val (.ref b36), .val (.long (p1.toInt64)), .second, .unset, .unset] []))
    refine own_by (fun _ k => XS.lload X35.here hx rfl (hb hby at_106) rfl k) ?_
    show own_Go p e below _ (T35.setTop (mkF m 108 #[.val (.int p0), .val (.int p1), .val (.int p2), .val (.int p3), .val (.int p4), .val (.int (2 : Int32)), .val (.ref b25), .val (.ref b36), .val (.long (p1.toInt64)), .second, .unset, .unset] [(.long (p1.toInt64))]))
    refine own_by (fun _ k => XS.iloadN X35.here hx rfl (hb hby at_108) rfl k) ?_
    show own_Go p e below _ (T35.setTop (mkF m 109 #[.val (.int p0), .val (.int p1), .val (.int p2), .val (.int p3), .val (.int p4), .val (.int (2 : Int32)), .val (.ref b25), .val (.ref b36), .val (.long (p1.toInt64)), .second, .unset, .unset] [(.int p2), (.long (p1.toInt64))]))
    refine own_by (fun _ k => XS.i2l X35.here hx rfl (hb hby at_109) rfl k) ?_
    show own_Go p e below _ (T35.setTop (mkF m 110 #[.val (.int p0), .val (.int p1), .val (.int p2), .val (.int p3), .val (.int p4), .val (.int (2 : Int32)), .val (.ref b25), .val (.ref b36), .val (.long (p1.toInt64)), .second, .unset, .unset] [(.long (p2.toInt64)), (.long (p1.toInt64))]))
    refine own_by (fun _ k => XS.ladd X35.here hx rfl (hb hby at_110) rfl k) ?_
    show own_Go p e below _ (T35.setTop (mkF m 111 #[.val (.int p0), .val (.int p1), .val (.int p2), .val (.int p3), .val (.int p4), .val (.int (2 : Int32)), .val (.ref b25), .val (.ref b36), .val (.long (p1.toInt64)), .second, .unset, .unset] [(.long ((p1.toInt64) + (p2.toInt64)))]))
    refine own_by (fun _ k => XS.lstore X35.here hx rfl (hb hby at_111) rfl (l' := #[.val (.int p0), .val (.int p1), .val (.int p2), .val (.int p3), .val (.int p4), .val (.int (2 : Int32)), .val (.ref b25), .val (.ref b36), .val (.long ((p1.toInt64) + (p2.toInt64))), .second, .unset, .unset]) rfl k) ?_
    show own_Go p e below _ (T35.setTop (mkF m 113 #[.val (.int p0), .val (.int p1), .val (.int p2), .val (.int p3), .val (.int p4), .val (.int (2 : Int32)), .val (.ref b25), .val (.ref b36), .val (.long ((p1.toInt64) + (p2.toInt64))), .second, .unset, .unset] []))
    refine own_by (fun _ k => XS.iload X35.here hx rfl (hb hby at_113) rfl k) ?_
    show own_Go p e below _ (T35.setTop (mkF m 115 #[.val (.int p0), .val (.int p1), .val (.int p2), .val (.int p3), .val (.int p4), .val (.int (2 : Int32)), .val (.ref b25), .val (.ref b36), .val (.long ((p1.toInt64) + (p2.toInt64))), .second, .unset, .unset] [(.int (2 : Int32))]))
    refine own_by (fun _ k => XS.iconst X35.here hx rfl (hb hby at_115) k) ?_
    show own_Go p e below _ (T35.setTop (mkF m 116 #[.val (.int p0), .val (.int p1), .val (.int p2), .val (.int p3), .val (.int p4), .val (.int (2 : Int32)), .val (.ref b25), .val (.ref b36), .val (.long ((p1.toInt64) + (p2.toInt64))), .second, .unset, .unset] [(.int (3 : Int32)), (.int (2 : Int32))]))
    refine own_by (fun _ k => XS.icmpYes X35.here hx rfl (pc0 := 116) (pc' := 126) rfl (hb hby at_116) rfl (tlt (by decide : (2 : Int32) < (3 : Int32))).1 (by decide) (by decide) k) ?_
    show own_Go p e below _ (T35.setTop (mkF m 126 #[.val (.int p0), .val (.int p1), .val (.int p2), .val (.int p3), .val (.int p4), .val (.int (2 : Int32)), .val (.ref b25), .val (.ref b36), .val (.long ((p1.toInt64) + (p2.toInt64))), .second, .unset, .unset] []))
    refine own_by (fun _ k => XS.iload X35.here hx rfl (hb hby at_126) rfl k) ?_
    show own_Go p e below _ (T35.setTop (mkF m 128 #[.val (.int p0), .val (.int p1), .val (.int p2), .val (.int p3), .val (.int p4), .val (.int (2 : Int32)), .val (.ref b25), .val (.ref b36), .val (.long ((p1.toInt64) + (p2.toInt64))), .second, .unset, .unset] [(.int (2 : Int32))]))
    refine own_by (fun _ k => XS.iconst X35.here hx rfl (hb hby at_128) k) ?_
    show own_Go p e below _ (T35.setTop (mkF m 129 #[.val (.int p0), .val (.int p1), .val (.int p2), .val (.int p3), .val (.int p4), .val (.int (2 : Int32)), .val (.ref b25), .val (.ref b36), .val (.long ((p1.toInt64) + (p2.toInt64))), .second, .unset, .unset] [(.int (4 : Int32)), (.int (2 : Int32))]))
    refine own_by (fun _ k => XS.icmpYes X35.here hx rfl (pc0 := 129) (pc' := 140) rfl (hb hby at_129) rfl (tlt (by decide : (2 : Int32) < (4 : Int32))).1 (by decide) (by decide) k) ?_
    show own_Go p e below _ (T35.setTop (mkF m 140 #[.val (.int p0), .val (.int p1), .val (.int p2), .val (.int p3), .val (.int p4), .val (.int (2 : Int32)), .val (.ref b25), .val (.ref b36), .val (.long ((p1.toInt64) + (p2.toInt64))), .second, .unset, .unset] []))
    refine own_by (fun _ k => XS.lload X35.here hx rfl (hb hby at_140) rfl k) ?_
    show own_Go p e below _ (T35.setTop (mkF m 142 #[.val (.int p0), .val (.int p1), .val (.int p2), .val (.int p3), .val (.int p4), .val (.int (2 : Int32)), .val (.ref b25), .val (.ref b36), .val (.long ((p1.toInt64) + (p2.toInt64))), .second, .unset, .unset] [(.long ((p1.toInt64) + (p2.toInt64)))]))
    refine own_by (fun _ k => XS.l2dS X35.here hx rfl (hb hby at_142) rfl rfl k) ?_
    show own_Go p e below _ (T35.setTop (mkF m 143 #[.val (.int p0), .val (.int p1), .val (.int p2), .val (.int p3), .val (.int p4), .val (.int (2 : Int32)), .val (.ref b25), .val (.ref b36), .val (.long ((p1.toInt64) + (p2.toInt64))), .second, .unset, .unset] [(.double (FP.l2d ((p1.toInt64) + (p2.toInt64))))]))
    refine own_by (fun _ k => XS.iload X35.here hx rfl (hb hby at_143) rfl k) ?_
    show own_Go p e below _ (T35.setTop (mkF m 145 #[.val (.int p0), .val (.int p1), .val (.int p2), .val (.int p3), .val (.int p4), .val (.int (2 : Int32)), .val (.ref b25), .val (.ref b36), .val (.long ((p1.toInt64) + (p2.toInt64))), .second, .unset, .unset] [(.int (2 : Int32)), (.double (FP.l2d ((p1.toInt64) + (p2.toInt64))))]))
    refine own_by (fun _ k => XS.i2dS X35.here hx rfl (hb hby at_145) rfl rfl k) ?_
    show own_Go p e below _ (T35.setTop (mkF m 146 #[.val (.int p0), .val (.int p1), .val (.int p2), .val (.int p3), .val (.int p4), .val (.int (2 : Int32)), .val (.ref b25), .val (.ref b36), .val (.long ((p1.toInt64) + (p2.toInt64))), .second, .unset, .unset] [(.double (FP.i2d (2 : Int32))), (.double (FP.l2d ((p1.toInt64) + (p2.toInt64))))]))
    refine own_by (fun _ k => XS.ddivS X35.here hx rfl (hb hby at_146) rfl (ob_0_9 p0 p1 p2 hv1) rfl k) ?_
    show own_Go p e below _ (T35.setTop (mkF m 147 #[.val (.int p0), .val (.int p1), .val (.int p2), .val (.int p3), .val (.int p4), .val (.int (2 : Int32)), .val (.ref b25), .val (.ref b36), .val (.long ((p1.toInt64) + (p2.toInt64))), .second, .unset, .unset] [(.double (FP.ddiv (FP.l2d ((p1.toInt64) + (p2.toInt64))) (FP.i2d (2 : Int32))))]))
    refine own_by (fun _ k => XS.dstore X35.here hx rfl (hb hby at_147) rfl (l' := #[.val (.int p0), .val (.int p1), .val (.int p2), .val (.int p3), .val (.int p4), .val (.int (2 : Int32)), .val (.ref b25), .val (.ref b36), .val (.long ((p1.toInt64) + (p2.toInt64))), .second, .val (.double (FP.ddiv (FP.l2d ((p1.toInt64) + (p2.toInt64))) (FP.i2d (2 : Int32)))), .second]) rfl k) ?_
    show own_Go p e below _ (T35.setTop (mkF m 149 #[.val (.int p0), .val (.int p1), .val (.int p2), .val (.int p3), .val (.int p4), .val (.int (2 : Int32)), .val (.ref b25), .val (.ref b36), .val (.long ((p1.toInt64) + (p2.toInt64))), .second, .val (.double (FP.ddiv (FP.l2d ((p1.toInt64) + (p2.toInt64))) (FP.i2d (2 : Int32)))), .second] []))
    refine own_by (fun _ k => XS.aload X35.here hx rfl (hb hby at_149) rfl rfl k) ?_
    show own_Go p e below _ (T35.setTop (mkF m 151 #[.val (.int p0), .val (.int p1), .val (.int p2), .val (.int p3), .val (.int p4), .val (.int (2 : Int32)), .val (.ref b25), .val (.ref b36), .val (.long ((p1.toInt64) + (p2.toInt64))), .second, .val (.double (FP.ddiv (FP.l2d ((p1.toInt64) + (p2.toInt64))) (FP.i2d (2 : Int32)))), .second] [(.ref b36)]))
    obtain ⟨cq42, kq42, qq42a, qq42b, qq42c⟩ := isOf hZ rfl F39
    obtain ⟨_, _, ⟨T42, L42, k42, n42⟩, -, X42, ⟨Lc42, hQ42, l42, y42, z42⟩, st42⟩ := X35.virtualBack hx (y := (⟨"java/util/OptionalDouble", "isPresent", "()Z"⟩ : MethodName)) (z := (⟨"java/util/OptionalDouble", "isPresent", "()Z"⟩ : MethodName)) hown (mvT hZ (hwd 22 rfl)) (mvT hZ (hwd 23 rfl)) (notFace_of_selects (args := #[]) (mvT hZ (hwd 25 rfl))) (mvT hZ (hwd 25 rfl)) (mvT hZ (hwd 24 rfl)) (by decide) (backOf (W := 0) (rm5 l Z A0 hw [] b36 (1 : Int32) T35.heap n0 Z35 F40) hZ (hwd 26 rfl) (hwd 19 rfl) (by decide) (by decide)) qq42a qq42c (g := (mkF m 151 #[.val (.int p0), .val (.int p1), .val (.int p2), .val (.int p3), .val (.int p4), .val (.int (2 : Int32)), .val (.ref b25), .val (.ref b36), .val (.long ((p1.toInt64) + (p2.toInt64))), .second, .val (.double (FP.ddiv (FP.l2d ((p1.toInt64) + (p2.toInt64))) (FP.i2d (2 : Int32)))), .second] [(.ref b36)])) rfl (by rw [hml]; rfl) (Steps.refl _) (argsL := []) (rest := []) (lenOf pd_22 rfl) rfl (by show 2 * 0 + _ ≤ _; exact Nat.le_of_eq rfl) (hb hby at_151) (fun _ _ => ⟨rfl, rfl, (by decide : 2 + 0 ≤ _), (by decide : 4 + 0 ≤ _)⟩)
    dsimp only [Pt.U, Pt.locs, Pt.cells, Pt.slots] at X42 l42 y42 z42 st42 hQ42
    subst l42 y42 z42
    obtain ⟨rfl, Nq42, eq42⟩ := hQ42
    have N42 := Fr.app N35 Nq42
    refine own_by (fun _ k => st42.trans k) ?_
    show own_Go p e below _ (T42.setTop (mkF m 154 #[.val (.int p0), .val (.int p1), .val (.int p2), .val (.int p3), .val (.int p4), .val (.int (2 : Int32)), .val (.ref b25), .val (.ref b36), .val (.long ((p1.toInt64) + (p2.toInt64))), .second, .val (.double (FP.ddiv (FP.l2d ((p1.toInt64) + (p2.toInt64))) (FP.i2d (2 : Int32)))), .second] [(.int (1 : Int32))]))
    refine own_by (fun _ k => XS.ifNo X42.here hx rfl (hb hby at_154) rfl ((if0 _ _).trans (feq (by decide : ¬ ((1 : Int32) = (0 : Int32)))).1) k) ?_
    show own_Go p e below _ (T42.setTop (mkF m 157 #[.val (.int p0), .val (.int p1), .val (.int p2), .val (.int p3), .val (.int p4), .val (.int (2 : Int32)), .val (.ref b25), .val (.ref b36), .val (.long ((p1.toInt64) + (p2.toInt64))), .second, .val (.double (FP.ddiv (FP.l2d ((p1.toInt64) + (p2.toInt64))) (FP.i2d (2 : Int32)))), .second] []))
    refine own_by (fun _ k => XS.aload X42.here hx rfl (hb hby at_157) rfl rfl k) ?_
    show own_Go p e below _ (T42.setTop (mkF m 159 #[.val (.int p0), .val (.int p1), .val (.int p2), .val (.int p3), .val (.int p4), .val (.int (2 : Int32)), .val (.ref b25), .val (.ref b36), .val (.long ((p1.toInt64) + (p2.toInt64))), .second, .val (.double (FP.ddiv (FP.l2d ((p1.toInt64) + (p2.toInt64))) (FP.i2d (2 : Int32)))), .second] [(.ref b36)]))
    obtain ⟨cq43, kq43, qq43a, qq43b, qq43c⟩ := isOf hZ eq42 F39
    obtain ⟨_, _, ⟨T43, L43, k43, n43⟩, -, X43, ⟨Lc43, hQ43, l43, y43, z43⟩, st43⟩ := X42.virtualBack hx (y := (⟨"java/util/OptionalDouble", "getAsDouble", "()D"⟩ : MethodName)) (z := (⟨"java/util/OptionalDouble", "getAsDouble", "()D"⟩ : MethodName)) hown (mvT hZ (hwd 48 rfl)) (mvT hZ (hwd 49 rfl)) (notFace_of_selects (args := #[]) (mvT hZ (hwd 51 rfl))) (mvT hZ (hwd 51 rfl)) (mvT hZ (hwd 50 rfl)) (by decide) (backOf (W := 0) (rm9 l Z A0 hw [] b36 (1 : Int32) (FP.ddiv (FP.dadd (FP.dadd (0 : UInt64) (FP.i2d p1)) (FP.i2d p2)) (FP.l2d (2 : Int64))) T35.heap n0 Z35 F40 (by decide) F41) hZ (hwd 52 rfl) (hwd 19 rfl) (by decide) (by decide)) qq43a qq43c (g := (mkF m 159 #[.val (.int p0), .val (.int p1), .val (.int p2), .val (.int p3), .val (.int p4), .val (.int (2 : Int32)), .val (.ref b25), .val (.ref b36), .val (.long ((p1.toInt64) + (p2.toInt64))), .second, .val (.double (FP.ddiv (FP.l2d ((p1.toInt64) + (p2.toInt64))) (FP.i2d (2 : Int32)))), .second] [(.ref b36)])) rfl (by rw [hml]; rfl) (Steps.refl _) (argsL := []) (rest := []) (lenOf pd_48 rfl) rfl (by show 2 * 0 + _ ≤ _; exact Nat.le_of_eq rfl) (hb hby at_159) (fun _ _ => ⟨rfl, eq42, (by decide : 2 + 0 ≤ _), (by decide : 4 + 0 ≤ _)⟩)
    dsimp only [Pt.U, Pt.locs, Pt.cells, Pt.slots] at X43 l43 y43 z43 st43 hQ43
    subst l43 y43 z43
    obtain ⟨rfl, Nq43, eq43⟩ := hQ43
    have N43 := Fr.app N42 Nq43
    refine own_by (fun _ k => st43.trans k) ?_
    show own_Go p e below _ (T43.setTop (mkF m 162 #[.val (.int p0), .val (.int p1), .val (.int p2), .val (.int p3), .val (.int p4), .val (.int (2 : Int32)), .val (.ref b25), .val (.ref b36), .val (.long ((p1.toInt64) + (p2.toInt64))), .second, .val (.double (FP.ddiv (FP.l2d ((p1.toInt64) + (p2.toInt64))) (FP.i2d (2 : Int32)))), .second] [(.double (FP.ddiv (FP.dadd (FP.dadd (0 : UInt64) (FP.i2d p1)) (FP.i2d p2)) (FP.l2d (2 : Int64))))]))
    refine own_by (fun _ k => XS.dload X43.here hx rfl (hb hby at_162) rfl k) ?_
    show own_Go p e below _ (T43.setTop (mkF m 164 #[.val (.int p0), .val (.int p1), .val (.int p2), .val (.int p3), .val (.int p4), .val (.int (2 : Int32)), .val (.ref b25), .val (.ref b36), .val (.long ((p1.toInt64) + (p2.toInt64))), .second, .val (.double (FP.ddiv (FP.l2d ((p1.toInt64) + (p2.toInt64))) (FP.i2d (2 : Int32)))), .second] [(.double (FP.ddiv (FP.l2d ((p1.toInt64) + (p2.toInt64))) (FP.i2d (2 : Int32)))), (.double (FP.ddiv (FP.dadd (FP.dadd (0 : UInt64) (FP.i2d p1)) (FP.i2d p2)) (FP.l2d (2 : Int64))))]))
    refine own_by (fun _ k => XS.dcmpS X43.here hx rfl (hb hby at_164) rfl rfl k) ?_
    show own_Go p e below _ (T43.setTop (mkF m 165 #[.val (.int p0), .val (.int p1), .val (.int p2), .val (.int p3), .val (.int p4), .val (.int (2 : Int32)), .val (.ref b25), .val (.ref b36), .val (.long ((p1.toInt64) + (p2.toInt64))), .second, .val (.double (FP.ddiv (FP.l2d ((p1.toInt64) + (p2.toInt64))) (FP.i2d (2 : Int32)))), .second] [(.int (cmpValue (FP.dcmp (FP.ddiv (FP.dadd (FP.dadd (0 : UInt64) (FP.i2d p1)) (FP.i2d p2)) (FP.l2d (2 : Int64))) (FP.ddiv (FP.l2d ((p1.toInt64) + (p2.toInt64))) (FP.i2d (2 : Int32)))) .l))]))
    by_cases c44 : (cmpValue (FP.dcmp (FP.ddiv (FP.dadd (FP.dadd (0 : UInt64) (FP.i2d p1)) (FP.i2d p2)) (FP.l2d (2 : Int64))) (FP.ddiv (FP.l2d ((p1.toInt64) + (p2.toInt64))) (FP.i2d (2 : Int32)))) .l) = (0 : Int32)
    · skip
      refine own_by (fun _ k => XS.ifNo X43.here hx rfl (hb hby at_165) rfl ((if0 _ _).trans (teq c44).2) k) ?_
      show own_Go p e below _ (T43.setTop (mkF m 168 #[.val (.int p0), .val (.int p1), .val (.int p2), .val (.int p3), .val (.int p4), .val (.int (2 : Int32)), .val (.ref b25), .val (.ref b36), .val (.long ((p1.toInt64) + (p2.toInt64))), .second, .val (.double (FP.ddiv (FP.l2d ((p1.toInt64) + (p2.toInt64))) (FP.i2d (2 : Int32)))), .second] []))
      refine own_by (fun _ k => XS.iconst X43.here hx rfl (hb hby at_168) k) ?_
      show own_Go p e below _ (T43.setTop (mkF m 169 #[.val (.int p0), .val (.int p1), .val (.int p2), .val (.int p3), .val (.int p4), .val (.int (2 : Int32)), .val (.ref b25), .val (.ref b36), .val (.long ((p1.toInt64) + (p2.toInt64))), .second, .val (.double (FP.ddiv (FP.l2d ((p1.toInt64) + (p2.toInt64))) (FP.i2d (2 : Int32)))), .second] [(.int (1 : Int32))]))
      refine own_by (fun _ k => XS.goto X43.here hx rfl (pc0 := 169) (pc' := 173) rfl (hb hby at_169) (by decide) (by decide) k) ?_
      show own_Go p e below _ (T43.setTop (mkF m 173 #[.val (.int p0), .val (.int p1), .val (.int p2), .val (.int p3), .val (.int p4), .val (.int (2 : Int32)), .val (.ref b25), .val (.ref b36), .val (.long ((p1.toInt64) + (p2.toInt64))), .second, .val (.double (FP.ddiv (FP.l2d ((p1.toInt64) + (p2.toInt64))) (FP.i2d (2 : Int32)))), .second] [(.int (1 : Int32))]))
      exact own_retN X43 hx (t := .boolean) Bd.returns (by simp) (hb hby at_173) hlk eq43 ⟨rfl, N43⟩ (by decide) (by decide)
    · skip
      refine own_by (fun _ k => XS.ifYes X43.here hx rfl (pc0 := 165) (pc' := 172) rfl (hb hby at_165) rfl ((if0 _ _).trans (feq c44).2) (by decide) (by decide) k) ?_
      show own_Go p e below _ (T43.setTop (mkF m 172 #[.val (.int p0), .val (.int p1), .val (.int p2), .val (.int p3), .val (.int p4), .val (.int (2 : Int32)), .val (.ref b25), .val (.ref b36), .val (.long ((p1.toInt64) + (p2.toInt64))), .second, .val (.double (FP.ddiv (FP.l2d ((p1.toInt64) + (p2.toInt64))) (FP.i2d (2 : Int32)))), .second] []))
      refine own_by (fun _ k => XS.iconst X43.here hx rfl (hb hby at_172) k) ?_
      show own_Go p e below _ (T43.setTop (mkF m 173 #[.val (.int p0), .val (.int p1), .val (.int p2), .val (.int p3), .val (.int p4), .val (.int (2 : Int32)), .val (.ref b25), .val (.ref b36), .val (.long ((p1.toInt64) + (p2.toInt64))), .second, .val (.double (FP.ddiv (FP.l2d ((p1.toInt64) + (p2.toInt64))) (FP.i2d (2 : Int32)))), .second] [(.int (0 : Int32))]))
      exact own_retN X43 hx (t := .boolean) Bd.returns (by simp) (hb hby at_173) hlk eq43 ⟨((ob_0_10 p0 p1 p2 hv1 c44)).elim, N43⟩ (by decide) (by decide)
  · skip
    show own_Go p e below _ (s₁.setTop (mkF m 8 #[.val (.int p0), .val (.int p1), .val (.int p2), .val (.int p3), .val (.int p4), .val (.int (3 : Int32)), .unset, .unset, .unset, .unset, .unset, .unset] []))
    obtain ⟨T45, h45, X45, e45, E45, A45, D45, -, st45⟩ := newO X0 hx hZ hown (hwd 1 rfl) (hwd 2 rfl) (hwd 3 rfl) e0 (g := (mkF m 8 #[.val (.int p0), .val (.int p1), .val (.int p2), .val (.int p3), .val (.int p4), .val (.int (3 : Int32)), .unset, .unset, .unset, .unset, .unset, .unset] [])) rfl (hb hby at_8) (by decide) (by decide)
    obtain ⟨b45, g45⟩ : ∃ z, z = h0.size := ⟨_, rfl⟩
    have ge_b45 : n0 ≤ b45 := Nat.le_trans Z0 (Nat.le_of_eq g45.symm)
    have sz_b45 : h0.size ≤ b45 := Nat.le_trans (Keep.refl h0 []).1 (Nat.le_of_eq g45.symm)
    have K45 : Keep h0 h45 [] := (Keep.refl h0 []).ext E45
    have Z45 : n0 ≤ h45.size := Nat.le_trans Z0 E45.1
    rw [← g45] at A45 D45 st45
    have F_count_b45 : Fld Z h45 b45 "com/example/credence/credence/sim/Mean" "count" "J" (.long (0 : Int64)) := D45 (Or.inl (hwd 16 rfl)) (ty := .long) (by decide)
    have F_sum_b45 : Fld Z h45 b45 "com/example/credence/credence/sim/Mean" "sum" "D" (.double (0 : UInt64)) := D45 (Or.inl (hwd 35 rfl)) (ty := .double) (by decide)
    refine own_by st45 ?_
    show own_Go p e below _ (T45.setTop (mkF m 11 #[.val (.int p0), .val (.int p1), .val (.int p2), .val (.int p3), .val (.int p4), .val (.int (3 : Int32)), .unset, .unset, .unset, .unset, .unset, .unset] [(.ref b45)]))
    refine own_by (fun _ k => XS.dup X45.here hx rfl (hb hby at_11) rfl rfl k) ?_
    show own_Go p e below _ (T45.setTop (mkF m 12 #[.val (.int p0), .val (.int p1), .val (.int p2), .val (.int p3), .val (.int p4), .val (.int (3 : Int32)), .unset, .unset, .unset, .unset, .unset, .unset] [(.ref b45), (.ref b45)]))
    obtain ⟨_, _, ⟨T46, L46, k46, n46⟩, -, X46, ⟨Lc46, hQ46, l46, y46, z46⟩, st46⟩ := X45.specialBack hx (y := (⟨"com/example/credence/credence/sim/Mean", "<init>", "()V"⟩ : MethodName)) rfl hown (mvT hZ (hwd 4 rfl)) (mvT hZ (hwd 5 rfl)) (mvT hZ (hwd 6 rfl)) (by decide) (backOf (W := 1) (rm1 l Z A0 hw [] b45 h45 n0 Z45 ) hZ (hwd 6 rfl) (hwd 3 rfl) (by decide) (by decide)) (g := (mkF m 12 #[.val (.int p0), .val (.int p1), .val (.int p2), .val (.int p3), .val (.int p4), .val (.int (3 : Int32)), .unset, .unset, .unset, .unset, .unset, .unset] [(.ref b45), (.ref b45)])) rfl (by rw [hml]; rfl) (Steps.refl _) (a := b45) (argsL := []) (rest := [(.ref b45)]) (lenOf pd_4 rfl) rfl (by show 2 * 0 + _ ≤ _; exact Nat.le_of_eq rfl) (hb hby at_12) (fun _ _ => ⟨rfl, e45, (by decide : 1 + 0 ≤ _), (by decide : 2 + 0 ≤ _)⟩)
    dsimp only [Pt.U, Pt.locs, Pt.cells, Pt.slots] at X46 l46 y46 z46 st46 hQ46
    subst l46 y46 z46
    obtain ⟨rfl, Nq46, eq46⟩ := hQ46
    have N46 := Fr.app N0 Nq46
    refine own_by (fun _ k => st46.trans k) ?_
    show own_Go p e below _ (T46.setTop (mkF m 15 #[.val (.int p0), .val (.int p1), .val (.int p2), .val (.int p3), .val (.int p4), .val (.int (3 : Int32)), .unset, .unset, .unset, .unset, .unset, .unset] [(.ref b45)]))
    refine own_by (fun _ k => XS.astore X46.here hx rfl (hb hby at_15) rfl rfl (l' := #[.val (.int p0), .val (.int p1), .val (.int p2), .val (.int p3), .val (.int p4), .val (.int (3 : Int32)), .val (.ref b45), .unset, .unset, .unset, .unset, .unset]) rfl k) ?_
    show own_Go p e below _ (T46.setTop (mkF m 17 #[.val (.int p0), .val (.int p1), .val (.int p2), .val (.int p3), .val (.int p4), .val (.int (3 : Int32)), .val (.ref b45), .unset, .unset, .unset, .unset, .unset] []))
    refine own_by (fun _ k => XS.iload X46.here hx rfl (hb hby at_17) rfl k) ?_
    show own_Go p e below _ (T46.setTop (mkF m 19 #[.val (.int p0), .val (.int p1), .val (.int p2), .val (.int p3), .val (.int p4), .val (.int (3 : Int32)), .val (.ref b45), .unset, .unset, .unset, .unset, .unset] [(.int (3 : Int32))]))
    refine own_by (fun _ k => XS.iconst X46.here hx rfl (hb hby at_19) k) ?_
    show own_Go p e below _ (T46.setTop (mkF m 20 #[.val (.int p0), .val (.int p1), .val (.int p2), .val (.int p3), .val (.int p4), .val (.int (3 : Int32)), .val (.ref b45), .unset, .unset, .unset, .unset, .unset] [(.int (1 : Int32)), (.int (3 : Int32))]))
    refine own_by (fun _ k => XS.icmpNo X46.here hx rfl (hb hby at_20) rfl (flt (by decide : ¬ ((3 : Int32) < (1 : Int32)))).1 k) ?_
    show own_Go p e below _ (T46.setTop (mkF m 23 #[.val (.int p0), .val (.int p1), .val (.int p2), .val (.int p3), .val (.int p4), .val (.int (3 : Int32)), .val (.ref b45), .unset, .unset, .unset, .unset, .unset] []))
    refine own_by (fun _ k => XS.aload X46.here hx rfl (hb hby at_23) rfl rfl k) ?_
    show own_Go p e below _ (T46.setTop (mkF m 25 #[.val (.int p0), .val (.int p1), .val (.int p2), .val (.int p3), .val (.int p4), .val (.int (3 : Int32)), .val (.ref b45), .unset, .unset, .unset, .unset, .unset] [(.ref b45)]))
    refine own_by (fun _ k => XS.iloadN X46.here hx rfl (hb hby at_25) rfl k) ?_
    show own_Go p e below _ (T46.setTop (mkF m 26 #[.val (.int p0), .val (.int p1), .val (.int p2), .val (.int p3), .val (.int p4), .val (.int (3 : Int32)), .val (.ref b45), .unset, .unset, .unset, .unset, .unset] [(.int p1), (.ref b45)]))
    refine own_by (fun _ k => XS.i2dS X46.here hx rfl (hb hby at_26) rfl rfl k) ?_
    show own_Go p e below _ (T46.setTop (mkF m 27 #[.val (.int p0), .val (.int p1), .val (.int p2), .val (.int p3), .val (.int p4), .val (.int (3 : Int32)), .val (.ref b45), .unset, .unset, .unset, .unset, .unset] [(.double (FP.i2d p1)), (.ref b45)]))
    obtain ⟨cq47, kq47, qq47a, qq47b, qq47c⟩ := isOf hZ eq46 A45
    obtain ⟨_, _, ⟨T47, L47, k47, n47⟩, -, X47, ⟨Lc47, hQ47, l47, y47, z47⟩, st47⟩ := X46.virtualBack hx (y := (⟨"com/example/credence/credence/sim/Mean", "add", "(D)V"⟩ : MethodName)) (z := (⟨"com/example/credence/credence/sim/Mean", "add", "(D)V"⟩ : MethodName)) hown (mvT hZ (hwd 29 rfl)) (mvT hZ (hwd 30 rfl)) (notFace_of_selects (args := #[]) (mvT hZ (hwd 32 rfl))) (mvT hZ (hwd 32 rfl)) (mvT hZ (hwd 31 rfl)) (by decide) (backOf (W := 0) (rm6 l Z A0 hw [] b45 (FP.i2d p1) (0 : UInt64) (0 : Int64) h45 n0 Z45 F_sum_b45 (ob_0_11 p0 p1 hv1) A45 ge_b45 F_count_b45) hZ (hwd 33 rfl) (hwd 3 rfl) (by decide) (by decide)) qq47a qq47c (g := (mkF m 27 #[.val (.int p0), .val (.int p1), .val (.int p2), .val (.int p3), .val (.int p4), .val (.int (3 : Int32)), .val (.ref b45), .unset, .unset, .unset, .unset, .unset] [(.double (FP.i2d p1)), (.ref b45)])) rfl (by rw [hml]; rfl) (Steps.refl _) (argsL := [(.double (FP.i2d p1))]) (rest := []) (lenOf pd_29 rfl) rfl (by show 2 * 0 + _ ≤ _; exact Nat.le_of_eq rfl) (hb hby at_27) (fun _ _ => ⟨rfl, eq46, (by decide : 1 + 0 ≤ _), (by decide : 2 + 0 ≤ _)⟩)
    dsimp only [Pt.U, Pt.locs, Pt.cells, Pt.slots] at X47 l47 y47 z47 st47 hQ47
    subst l47 y47 z47
    obtain ⟨rfl, Nq47, Kq47, F48, F49, F50⟩ := hQ47
    have N47 := Fr.app N46 Nq47
    have K47 : Keep h0 T47.heap [] := K45.trans Kq47 ((allS (Or.inr sz_b45) all0))
    have Z47 : n0 ≤ T47.heap.size := Nat.le_trans Z45 Kq47.1
    refine own_by (fun _ k => st47.trans k) ?_
    show own_Go p e below _ (T47.setTop (mkF m 30 #[.val (.int p0), .val (.int p1), .val (.int p2), .val (.int p3), .val (.int p4), .val (.int (3 : Int32)), .val (.ref b45), .unset, .unset, .unset, .unset, .unset] []))
    refine own_by (fun _ k => XS.iload X47.here hx rfl (hb hby at_30) rfl k) ?_
    show own_Go p e below _ (T47.setTop (mkF m 32 #[.val (.int p0), .val (.int p1), .val (.int p2), .val (.int p3), .val (.int p4), .val (.int (3 : Int32)), .val (.ref b45), .unset, .unset, .unset, .unset, .unset] [(.int (3 : Int32))]))
    refine own_by (fun _ k => XS.iconst X47.here hx rfl (hb hby at_32) k) ?_
    show own_Go p e below _ (T47.setTop (mkF m 33 #[.val (.int p0), .val (.int p1), .val (.int p2), .val (.int p3), .val (.int p4), .val (.int (3 : Int32)), .val (.ref b45), .unset, .unset, .unset, .unset, .unset] [(.int (2 : Int32)), (.int (3 : Int32))]))
    refine own_by (fun _ k => XS.icmpNo X47.here hx rfl (hb hby at_33) rfl (flt (by decide : ¬ ((3 : Int32) < (2 : Int32)))).1 k) ?_
    show own_Go p e below _ (T47.setTop (mkF m 36 #[.val (.int p0), .val (.int p1), .val (.int p2), .val (.int p3), .val (.int p4), .val (.int (3 : Int32)), .val (.ref b45), .unset, .unset, .unset, .unset, .unset] []))
    refine own_by (fun _ k => XS.aload X47.here hx rfl (hb hby at_36) rfl rfl k) ?_
    show own_Go p e below _ (T47.setTop (mkF m 38 #[.val (.int p0), .val (.int p1), .val (.int p2), .val (.int p3), .val (.int p4), .val (.int (3 : Int32)), .val (.ref b45), .unset, .unset, .unset, .unset, .unset] [(.ref b45)]))
    refine own_by (fun _ k => XS.iloadN X47.here hx rfl (hb hby at_38) rfl k) ?_
    show own_Go p e below _ (T47.setTop (mkF m 39 #[.val (.int p0), .val (.int p1), .val (.int p2), .val (.int p3), .val (.int p4), .val (.int (3 : Int32)), .val (.ref b45), .unset, .unset, .unset, .unset, .unset] [(.int p2), (.ref b45)]))
    refine own_by (fun _ k => XS.i2dS X47.here hx rfl (hb hby at_39) rfl rfl k) ?_
    show own_Go p e below _ (T47.setTop (mkF m 40 #[.val (.int p0), .val (.int p1), .val (.int p2), .val (.int p3), .val (.int p4), .val (.int (3 : Int32)), .val (.ref b45), .unset, .unset, .unset, .unset, .unset] [(.double (FP.i2d p2)), (.ref b45)]))
    obtain ⟨cq51, kq51, qq51a, qq51b, qq51c⟩ := isOf hZ rfl F49
    obtain ⟨_, _, ⟨T51, L51, k51, n51⟩, -, X51, ⟨Lc51, hQ51, l51, y51, z51⟩, st51⟩ := X47.virtualBack hx (y := (⟨"com/example/credence/credence/sim/Mean", "add", "(D)V"⟩ : MethodName)) (z := (⟨"com/example/credence/credence/sim/Mean", "add", "(D)V"⟩ : MethodName)) hown (mvT hZ (hwd 29 rfl)) (mvT hZ (hwd 30 rfl)) (notFace_of_selects (args := #[]) (mvT hZ (hwd 32 rfl))) (mvT hZ (hwd 32 rfl)) (mvT hZ (hwd 31 rfl)) (by decide) (backOf (W := 0) (rm6 l Z A0 hw [] b45 (FP.i2d p2) (FP.dadd (0 : UInt64) (FP.i2d p1)) (1 : Int64) T47.heap n0 Z47 F48 (ob_0_12 p0 p1 p2 hv1) F49 ge_b45 F50) hZ (hwd 33 rfl) (hwd 3 rfl) (by decide) (by decide)) qq51a qq51c (g := (mkF m 40 #[.val (.int p0), .val (.int p1), .val (.int p2), .val (.int p3), .val (.int p4), .val (.int (3 : Int32)), .val (.ref b45), .unset, .unset, .unset, .unset, .unset] [(.double (FP.i2d p2)), (.ref b45)])) rfl (by rw [hml]; rfl) (Steps.refl _) (argsL := [(.double (FP.i2d p2))]) (rest := []) (lenOf pd_29 rfl) rfl (by show 2 * 0 + _ ≤ _; exact Nat.le_of_eq rfl) (hb hby at_40) (fun _ _ => ⟨rfl, rfl, (by decide : 1 + 0 ≤ _), (by decide : 2 + 0 ≤ _)⟩)
    dsimp only [Pt.U, Pt.locs, Pt.cells, Pt.slots] at X51 l51 y51 z51 st51 hQ51
    subst l51 y51 z51
    obtain ⟨rfl, Nq51, Kq51, F52, F53, F54⟩ := hQ51
    have N51 := Fr.app N47 Nq51
    have K51 : Keep h0 T51.heap [] := K47.trans Kq51 ((allS (Or.inr sz_b45) all0))
    have Z51 : n0 ≤ T51.heap.size := Nat.le_trans Z47 Kq51.1
    refine own_by (fun _ k => st51.trans k) ?_
    show own_Go p e below _ (T51.setTop (mkF m 43 #[.val (.int p0), .val (.int p1), .val (.int p2), .val (.int p3), .val (.int p4), .val (.int (3 : Int32)), .val (.ref b45), .unset, .unset, .unset, .unset, .unset] []))
    refine own_by (fun _ k => XS.iload X51.here hx rfl (hb hby at_43) rfl k) ?_
    show own_Go p e below _ (T51.setTop (mkF m 45 #[.val (.int p0), .val (.int p1), .val (.int p2), .val (.int p3), .val (.int p4), .val (.int (3 : Int32)), .val (.ref b45), .unset, .unset, .unset, .unset, .unset] [(.int (3 : Int32))]))
    refine own_by (fun _ k => XS.iconst X51.here hx rfl (hb hby at_45) k) ?_
    show own_Go p e below _ (T51.setTop (mkF m 46 #[.val (.int p0), .val (.int p1), .val (.int p2), .val (.int p3), .val (.int p4), .val (.int (3 : Int32)), .val (.ref b45), .unset, .unset, .unset, .unset, .unset] [(.int (3 : Int32)), (.int (3 : Int32))]))
    refine own_by (fun _ k => XS.icmpNo X51.here hx rfl (hb hby at_46) rfl (flt (by decide : ¬ ((3 : Int32) < (3 : Int32)))).1 k) ?_
    show own_Go p e below _ (T51.setTop (mkF m 49 #[.val (.int p0), .val (.int p1), .val (.int p2), .val (.int p3), .val (.int p4), .val (.int (3 : Int32)), .val (.ref b45), .unset, .unset, .unset, .unset, .unset] []))
    refine own_by (fun _ k => XS.aload X51.here hx rfl (hb hby at_49) rfl rfl k) ?_
    show own_Go p e below _ (T51.setTop (mkF m 51 #[.val (.int p0), .val (.int p1), .val (.int p2), .val (.int p3), .val (.int p4), .val (.int (3 : Int32)), .val (.ref b45), .unset, .unset, .unset, .unset, .unset] [(.ref b45)]))
    refine own_by (fun _ k => XS.iloadN X51.here hx rfl (hb hby at_51) rfl k) ?_
    show own_Go p e below _ (T51.setTop (mkF m 52 #[.val (.int p0), .val (.int p1), .val (.int p2), .val (.int p3), .val (.int p4), .val (.int (3 : Int32)), .val (.ref b45), .unset, .unset, .unset, .unset, .unset] [(.int p3), (.ref b45)]))
    refine own_by (fun _ k => XS.i2dS X51.here hx rfl (hb hby at_52) rfl rfl k) ?_
    show own_Go p e below _ (T51.setTop (mkF m 53 #[.val (.int p0), .val (.int p1), .val (.int p2), .val (.int p3), .val (.int p4), .val (.int (3 : Int32)), .val (.ref b45), .unset, .unset, .unset, .unset, .unset] [(.double (FP.i2d p3)), (.ref b45)]))
    obtain ⟨cq55, kq55, qq55a, qq55b, qq55c⟩ := isOf hZ rfl F53
    obtain ⟨_, _, ⟨T55, L55, k55, n55⟩, -, X55, ⟨Lc55, hQ55, l55, y55, z55⟩, st55⟩ := X51.virtualBack hx (y := (⟨"com/example/credence/credence/sim/Mean", "add", "(D)V"⟩ : MethodName)) (z := (⟨"com/example/credence/credence/sim/Mean", "add", "(D)V"⟩ : MethodName)) hown (mvT hZ (hwd 29 rfl)) (mvT hZ (hwd 30 rfl)) (notFace_of_selects (args := #[]) (mvT hZ (hwd 32 rfl))) (mvT hZ (hwd 32 rfl)) (mvT hZ (hwd 31 rfl)) (by decide) (backOf (W := 0) (rm6 l Z A0 hw [] b45 (FP.i2d p3) (FP.dadd (FP.dadd (0 : UInt64) (FP.i2d p1)) (FP.i2d p2)) (2 : Int64) T51.heap n0 Z51 F52 (ob_0_13 p0 p1 p2 p3 hv1) F53 ge_b45 F54) hZ (hwd 33 rfl) (hwd 3 rfl) (by decide) (by decide)) qq55a qq55c (g := (mkF m 53 #[.val (.int p0), .val (.int p1), .val (.int p2), .val (.int p3), .val (.int p4), .val (.int (3 : Int32)), .val (.ref b45), .unset, .unset, .unset, .unset, .unset] [(.double (FP.i2d p3)), (.ref b45)])) rfl (by rw [hml]; rfl) (Steps.refl _) (argsL := [(.double (FP.i2d p3))]) (rest := []) (lenOf pd_29 rfl) rfl (by show 2 * 0 + _ ≤ _; exact Nat.le_of_eq rfl) (hb hby at_53) (fun _ _ => ⟨rfl, rfl, (by decide : 1 + 0 ≤ _), (by decide : 2 + 0 ≤ _)⟩)
    dsimp only [Pt.U, Pt.locs, Pt.cells, Pt.slots] at X55 l55 y55 z55 st55 hQ55
    subst l55 y55 z55
    obtain ⟨rfl, Nq55, Kq55, F56, F57, F58⟩ := hQ55
    have N55 := Fr.app N51 Nq55
    have K55 : Keep h0 T55.heap [] := K51.trans Kq55 ((allS (Or.inr sz_b45) all0))
    have Z55 : n0 ≤ T55.heap.size := Nat.le_trans Z51 Kq55.1
    refine own_by (fun _ k => st55.trans k) ?_
    show own_Go p e below _ (T55.setTop (mkF m 56 #[.val (.int p0), .val (.int p1), .val (.int p2), .val (.int p3), .val (.int p4), .val (.int (3 : Int32)), .val (.ref b45), .unset, .unset, .unset, .unset, .unset] []))
    refine own_by (fun _ k => XS.iload X55.here hx rfl (hb hby at_56) rfl k) ?_
    show own_Go p e below _ (T55.setTop (mkF m 58 #[.val (.int p0), .val (.int p1), .val (.int p2), .val (.int p3), .val (.int p4), .val (.int (3 : Int32)), .val (.ref b45), .unset, .unset, .unset, .unset, .unset] [(.int (3 : Int32))]))
    refine own_by (fun _ k => XS.iconst X55.here hx rfl (hb hby at_58) k) ?_
    show own_Go p e below _ (T55.setTop (mkF m 59 #[.val (.int p0), .val (.int p1), .val (.int p2), .val (.int p3), .val (.int p4), .val (.int (3 : Int32)), .val (.ref b45), .unset, .unset, .unset, .unset, .unset] [(.int (4 : Int32)), (.int (3 : Int32))]))
    refine own_by (fun _ k => XS.icmpYes X55.here hx rfl (pc0 := 59) (pc' := 70) rfl (hb hby at_59) rfl (tlt (by decide : (3 : Int32) < (4 : Int32))).1 (by decide) (by decide) k) ?_
    show own_Go p e below _ (T55.setTop (mkF m 70 #[.val (.int p0), .val (.int p1), .val (.int p2), .val (.int p3), .val (.int p4), .val (.int (3 : Int32)), .val (.ref b45), .unset, .unset, .unset, .unset, .unset] []))
    refine own_by (fun _ k => XS.aload X55.here hx rfl (hb hby at_70) rfl rfl k) ?_
    show own_Go p e below _ (T55.setTop (mkF m 72 #[.val (.int p0), .val (.int p1), .val (.int p2), .val (.int p3), .val (.int p4), .val (.int (3 : Int32)), .val (.ref b45), .unset, .unset, .unset, .unset, .unset] [(.ref b45)]))
    obtain ⟨cq59, kq59, qq59a, qq59b, qq59c⟩ := isOf hZ rfl F57
    obtain ⟨_, _, ⟨T59, L59, k59, n59⟩, -, X59, ⟨Lc59, hQ59, l59, y59, z59⟩, st59⟩ := X55.virtualBack hx (y := (⟨"com/example/credence/credence/sim/Mean", "value", "()Ljava/util/OptionalDouble;"⟩ : MethodName)) (z := (⟨"com/example/credence/credence/sim/Mean", "value", "()Ljava/util/OptionalDouble;"⟩ : MethodName)) hown (mvT hZ (hwd 10 rfl)) (mvT hZ (hwd 11 rfl)) (notFace_of_selects (args := #[]) (mvT hZ (hwd 13 rfl))) (mvT hZ (hwd 13 rfl)) (mvT hZ (hwd 12 rfl)) (by decide) (backOf (W := 0) (rmvN l Z A0 hw [] b45 (3 : Int64) (FP.dadd (FP.dadd (FP.dadd (0 : UInt64) (FP.i2d p1)) (FP.i2d p2)) (FP.i2d p3)) T55.heap n0 Z55 F58 (by decide) F56 (ob_0_14 p0 p1 p2 p3 hv1)) hZ (hwd 14 rfl) (hwd 3 rfl) (by decide) (by decide)) qq59a qq59c (g := (mkF m 72 #[.val (.int p0), .val (.int p1), .val (.int p2), .val (.int p3), .val (.int p4), .val (.int (3 : Int32)), .val (.ref b45), .unset, .unset, .unset, .unset, .unset] [(.ref b45)])) rfl (by rw [hml]; rfl) (Steps.refl _) (argsL := []) (rest := []) (lenOf pd_10 rfl) rfl (by show 2 * 0 + _ ≤ _; exact Nat.le_of_eq rfl) (hb hby at_72) (fun _ _ => ⟨rfl, rfl, (by decide : 1 + 1 ≤ _), (by decide : 2 + 2 ≤ _)⟩)
    dsimp only [Pt.U, Pt.locs, Pt.cells, Pt.slots] at X59 l59 y59 z59 st59 hQ59
    subst l59 y59 z59
    obtain ⟨b60, rfl, Nq59, Kq59, hp61, hp62, F63, F64, F65⟩ := hQ59
    have N59 := Fr.app N55 Nq59
    have K59 : Keep h0 T59.heap [] := K55.trans Kq59 (all0)
    have Z59 : n0 ≤ T59.heap.size := Nat.le_trans Z55 Kq59.1
    have sz_b60 : h0.size ≤ b60 := Nat.le_trans K55.1 hp62
    refine own_by (fun _ k => st59.trans k) ?_
    show own_Go p e below _ (T59.setTop (mkF m 75 #[.val (.int p0), .val (.int p1), .val (.int p2), .val (.int p3), .val (.int p4), .val (.int (3 : Int32)), .val (.ref b45), .unset, .unset, .unset, .unset, .unset] [(.ref b60)]))
    refine own_by (fun _ k => XS.astore X59.here hx rfl (hb hby at_75) rfl rfl (l' := #[.val (.int p0), .val (.int p1), .val (.int p2), .val (.int p3), .val (.int p4), .val (.int (3 : Int32)), .val (.ref b45), .val (.ref b60), .unset, .unset, .unset, .unset]) rfl k) ?_
    show own_Go p e below _ (T59.setTop (mkF m 77 #[.val (.int p0), .val (.int p1), .val (.int p2), .val (.int p3), .val (.int p4), .val (.int (3 : Int32)), .val (.ref b45), .val (.ref b60), .unset, .unset, .unset, .unset] []))
    refine own_by (fun _ k => XS.iload X59.here hx rfl (hb hby at_77) rfl k) ?_
    show own_Go p e below _ (T59.setTop (mkF m 79 #[.val (.int p0), .val (.int p1), .val (.int p2), .val (.int p3), .val (.int p4), .val (.int (3 : Int32)), .val (.ref b45), .val (.ref b60), .unset, .unset, .unset, .unset] [(.int (3 : Int32))]))
    refine own_by (fun _ k => XS.ifYes X59.here hx rfl (pc0 := 79) (pc' := 96) rfl (hb hby at_79) rfl ((if0 _ _).trans (feq (by decide : ¬ ((3 : Int32) = (0 : Int32)))).2) (by decide) (by decide) k) ?_
    show own_Go p e below _ (T59.setTop (mkF m 96 #[.val (.int p0), .val (.int p1), .val (.int p2), .val (.int p3), .val (.int p4), .val (.int (3 : Int32)), .val (.ref b45), .val (.ref b60), .unset, .unset, .unset, .unset] []))
    refine own_by (fun _ k => XS.iloadN X59.here hx rfl (hb hby at_96) rfl k) ?_
    show own_Go p e below _ (T59.setTop (mkF m 97 #[.val (.int p0), .val (.int p1), .val (.int p2), .val (.int p3), .val (.int p4), .val (.int (3 : Int32)), .val (.ref b45), .val (.ref b60), .unset, .unset, .unset, .unset] [(.int p1)]))
    refine own_by (fun _ k => XS.i2l X59.here hx rfl (hb hby at_97) rfl k) ?_
    show own_Go p e below _ (T59.setTop (mkF m 98 #[.val (.int p0), .val (.int p1), .val (.int p2), .val (.int p3), .val (.int p4), .val (.int (3 : Int32)), .val (.ref b45), .val (.ref b60), .unset, .unset, .unset, .unset] [(.long (p1.toInt64))]))
    refine own_by (fun _ k => XS.lstore X59.here hx rfl (hb hby at_98) rfl (l' := #[.val (.int p0), .val (.int p1), .val (.int p2), .val (.int p3), .val (.int p4), .val (.int (3 : Int32)), .val (.ref b45), .val (.ref b60), .val (.long (p1.toInt64)), .second, .unset, .unset]) rfl k) ?_
    show own_Go p e below _ (T59.setTop (mkF m 100 #[.val (.int p0), .val (.int p1), .val (.int p2), .val (.int p3), .val (.int p4), .val (.int (3 : Int32)), .val (.ref b45), .val (.ref b60), .val (.long (p1.toInt64)), .second, .unset, .unset] []))
    refine own_by (fun _ k => XS.iload X59.here hx rfl (hb hby at_100) rfl k) ?_
    show own_Go p e below _ (T59.setTop (mkF m 102 #[.val (.int p0), .val (.int p1), .val (.int p2), .val (.int p3), .val (.int p4), .val (.int (3 : Int32)), .val (.ref b45), .val (.ref b60), .val (.long (p1.toInt64)), .second, .unset, .unset] [(.int (3 : Int32))]))
    refine own_by (fun _ k => XS.iconst X59.here hx rfl (hb hby at_102) k) ?_
    show own_Go p e below _ (T59.setTop (mkF m 103 #[.val (.int p0), .val (.int p1), .val (.int p2), .val (.int p3), .val (.int p4), .val (.int (3 : Int32)), .val (.ref b45), .val (.ref b60), .val (.long (p1.toInt64)), .second, .unset, .unset] [(.int (2 : Int32)), (.int (3 : Int32))]))
    refine own_by (fun _ k => XS.icmpNo X59.here hx rfl (hb hby at_103) rfl (flt (by decide : ¬ ((3 : Int32) < (2 : Int32)))).1 k) ?_
    show own_Go p e below _ (T59.setTop (mkF m 106 #[.val (.int p0), .val (.int p1), .val (.int p2), .val (.int p3), .val (.int p4), .val (.int (3 : Int32)), .val (.ref b45), .val (.ref b60), .val (.long (p1.toInt64)), .second, .unset, .unset] []))
    refine own_by (fun _ k => XS.lload X59.here hx rfl (hb hby at_106) rfl k) ?_
    show own_Go p e below _ (T59.setTop (mkF m 108 #[.val (.int p0), .val (.int p1), .val (.int p2), .val (.int p3), .val (.int p4), .val (.int (3 : Int32)), .val (.ref b45), .val (.ref b60), .val (.long (p1.toInt64)), .second, .unset, .unset] [(.long (p1.toInt64))]))
    refine own_by (fun _ k => XS.iloadN X59.here hx rfl (hb hby at_108) rfl k) ?_
    show own_Go p e below _ (T59.setTop (mkF m 109 #[.val (.int p0), .val (.int p1), .val (.int p2), .val (.int p3), .val (.int p4), .val (.int (3 : Int32)), .val (.ref b45), .val (.ref b60), .val (.long (p1.toInt64)), .second, .unset, .unset] [(.int p2), (.long (p1.toInt64))]))
    refine own_by (fun _ k => XS.i2l X59.here hx rfl (hb hby at_109) rfl k) ?_
    show own_Go p e below _ (T59.setTop (mkF m 110 #[.val (.int p0), .val (.int p1), .val (.int p2), .val (.int p3), .val (.int p4), .val (.int (3 : Int32)), .val (.ref b45), .val (.ref b60), .val (.long (p1.toInt64)), .second, .unset, .unset] [(.long (p2.toInt64)), (.long (p1.toInt64))]))
    refine own_by (fun _ k => XS.ladd X59.here hx rfl (hb hby at_110) rfl k) ?_
    show own_Go p e below _ (T59.setTop (mkF m 111 #[.val (.int p0), .val (.int p1), .val (.int p2), .val (.int p3), .val (.int p4), .val (.int (3 : Int32)), .val (.ref b45), .val (.ref b60), .val (.long (p1.toInt64)), .second, .unset, .unset] [(.long ((p1.toInt64) + (p2.toInt64)))]))
    refine own_by (fun _ k => XS.lstore X59.here hx rfl (hb hby at_111) rfl (l' := #[.val (.int p0), .val (.int p1), .val (.int p2), .val (.int p3), .val (.int p4), .val (.int (3 : Int32)), .val (.ref b45), .val (.ref b60), .val (.long ((p1.toInt64) + (p2.toInt64))), .second, .unset, .unset]) rfl k) ?_
    show own_Go p e below _ (T59.setTop (mkF m 113 #[.val (.int p0), .val (.int p1), .val (.int p2), .val (.int p3), .val (.int p4), .val (.int (3 : Int32)), .val (.ref b45), .val (.ref b60), .val (.long ((p1.toInt64) + (p2.toInt64))), .second, .unset, .unset] []))
    refine own_by (fun _ k => XS.iload X59.here hx rfl (hb hby at_113) rfl k) ?_
    show own_Go p e below _ (T59.setTop (mkF m 115 #[.val (.int p0), .val (.int p1), .val (.int p2), .val (.int p3), .val (.int p4), .val (.int (3 : Int32)), .val (.ref b45), .val (.ref b60), .val (.long ((p1.toInt64) + (p2.toInt64))), .second, .unset, .unset] [(.int (3 : Int32))]))
    refine own_by (fun _ k => XS.iconst X59.here hx rfl (hb hby at_115) k) ?_
    show own_Go p e below _ (T59.setTop (mkF m 116 #[.val (.int p0), .val (.int p1), .val (.int p2), .val (.int p3), .val (.int p4), .val (.int (3 : Int32)), .val (.ref b45), .val (.ref b60), .val (.long ((p1.toInt64) + (p2.toInt64))), .second, .unset, .unset] [(.int (3 : Int32)), (.int (3 : Int32))]))
    refine own_by (fun _ k => XS.icmpNo X59.here hx rfl (hb hby at_116) rfl (flt (by decide : ¬ ((3 : Int32) < (3 : Int32)))).1 k) ?_
    show own_Go p e below _ (T59.setTop (mkF m 119 #[.val (.int p0), .val (.int p1), .val (.int p2), .val (.int p3), .val (.int p4), .val (.int (3 : Int32)), .val (.ref b45), .val (.ref b60), .val (.long ((p1.toInt64) + (p2.toInt64))), .second, .unset, .unset] []))
    refine own_by (fun _ k => XS.lload X59.here hx rfl (hb hby at_119) rfl k) ?_
    show own_Go p e below _ (T59.setTop (mkF m 121 #[.val (.int p0), .val (.int p1), .val (.int p2), .val (.int p3), .val (.int p4), .val (.int (3 : Int32)), .val (.ref b45), .val (.ref b60), .val (.long ((p1.toInt64) + (p2.toInt64))), .second, .unset, .unset] [(.long ((p1.toInt64) + (p2.toInt64)))]))
    refine own_by (fun _ k => XS.iloadN X59.here hx rfl (hb hby at_121) rfl k) ?_
    show own_Go p e below _ (T59.setTop (mkF m 122 #[.val (.int p0), .val (.int p1), .val (.int p2), .val (.int p3), .val (.int p4), .val (.int (3 : Int32)), .val (.ref b45), .val (.ref b60), .val (.long ((p1.toInt64) + (p2.toInt64))), .second, .unset, .unset] [(.int p3), (.long ((p1.toInt64) + (p2.toInt64)))]))
    refine own_by (fun _ k => XS.i2l X59.here hx rfl (hb hby at_122) rfl k) ?_
    show own_Go p e below _ (T59.setTop (mkF m 123 #[.val (.int p0), .val (.int p1), .val (.int p2), .val (.int p3), .val (.int p4), .val (.int (3 : Int32)), .val (.ref b45), .val (.ref b60), .val (.long ((p1.toInt64) + (p2.toInt64))), .second, .unset, .unset] [(.long (p3.toInt64)), (.long ((p1.toInt64) + (p2.toInt64)))]))
    refine own_by (fun _ k => XS.ladd X59.here hx rfl (hb hby at_123) rfl k) ?_
    show own_Go p e below _ (T59.setTop (mkF m 124 #[.val (.int p0), .val (.int p1), .val (.int p2), .val (.int p3), .val (.int p4), .val (.int (3 : Int32)), .val (.ref b45), .val (.ref b60), .val (.long ((p1.toInt64) + (p2.toInt64))), .second, .unset, .unset] [(.long (((p1.toInt64) + (p2.toInt64)) + (p3.toInt64)))]))
    refine own_by (fun _ k => XS.lstore X59.here hx rfl (hb hby at_124) rfl (l' := #[.val (.int p0), .val (.int p1), .val (.int p2), .val (.int p3), .val (.int p4), .val (.int (3 : Int32)), .val (.ref b45), .val (.ref b60), .val (.long (((p1.toInt64) + (p2.toInt64)) + (p3.toInt64))), .second, .unset, .unset]) rfl k) ?_
    show own_Go p e below _ (T59.setTop (mkF m 126 #[.val (.int p0), .val (.int p1), .val (.int p2), .val (.int p3), .val (.int p4), .val (.int (3 : Int32)), .val (.ref b45), .val (.ref b60), .val (.long (((p1.toInt64) + (p2.toInt64)) + (p3.toInt64))), .second, .unset, .unset] []))
    refine own_by (fun _ k => XS.iload X59.here hx rfl (hb hby at_126) rfl k) ?_
    show own_Go p e below _ (T59.setTop (mkF m 128 #[.val (.int p0), .val (.int p1), .val (.int p2), .val (.int p3), .val (.int p4), .val (.int (3 : Int32)), .val (.ref b45), .val (.ref b60), .val (.long (((p1.toInt64) + (p2.toInt64)) + (p3.toInt64))), .second, .unset, .unset] [(.int (3 : Int32))]))
    refine own_by (fun _ k => XS.iconst X59.here hx rfl (hb hby at_128) k) ?_
    show own_Go p e below _ (T59.setTop (mkF m 129 #[.val (.int p0), .val (.int p1), .val (.int p2), .val (.int p3), .val (.int p4), .val (.int (3 : Int32)), .val (.ref b45), .val (.ref b60), .val (.long (((p1.toInt64) + (p2.toInt64)) + (p3.toInt64))), .second, .unset, .unset] [(.int (4 : Int32)), (.int (3 : Int32))]))
    refine own_by (fun _ k => XS.icmpYes X59.here hx rfl (pc0 := 129) (pc' := 140) rfl (hb hby at_129) rfl (tlt (by decide : (3 : Int32) < (4 : Int32))).1 (by decide) (by decide) k) ?_
    show own_Go p e below _ (T59.setTop (mkF m 140 #[.val (.int p0), .val (.int p1), .val (.int p2), .val (.int p3), .val (.int p4), .val (.int (3 : Int32)), .val (.ref b45), .val (.ref b60), .val (.long (((p1.toInt64) + (p2.toInt64)) + (p3.toInt64))), .second, .unset, .unset] []))
    refine own_by (fun _ k => XS.lload X59.here hx rfl (hb hby at_140) rfl k) ?_
    show own_Go p e below _ (T59.setTop (mkF m 142 #[.val (.int p0), .val (.int p1), .val (.int p2), .val (.int p3), .val (.int p4), .val (.int (3 : Int32)), .val (.ref b45), .val (.ref b60), .val (.long (((p1.toInt64) + (p2.toInt64)) + (p3.toInt64))), .second, .unset, .unset] [(.long (((p1.toInt64) + (p2.toInt64)) + (p3.toInt64)))]))
    refine own_by (fun _ k => XS.l2dS X59.here hx rfl (hb hby at_142) rfl rfl k) ?_
    show own_Go p e below _ (T59.setTop (mkF m 143 #[.val (.int p0), .val (.int p1), .val (.int p2), .val (.int p3), .val (.int p4), .val (.int (3 : Int32)), .val (.ref b45), .val (.ref b60), .val (.long (((p1.toInt64) + (p2.toInt64)) + (p3.toInt64))), .second, .unset, .unset] [(.double (FP.l2d (((p1.toInt64) + (p2.toInt64)) + (p3.toInt64))))]))
    refine own_by (fun _ k => XS.iload X59.here hx rfl (hb hby at_143) rfl k) ?_
    show own_Go p e below _ (T59.setTop (mkF m 145 #[.val (.int p0), .val (.int p1), .val (.int p2), .val (.int p3), .val (.int p4), .val (.int (3 : Int32)), .val (.ref b45), .val (.ref b60), .val (.long (((p1.toInt64) + (p2.toInt64)) + (p3.toInt64))), .second, .unset, .unset] [(.int (3 : Int32)), (.double (FP.l2d (((p1.toInt64) + (p2.toInt64)) + (p3.toInt64))))]))
    refine own_by (fun _ k => XS.i2dS X59.here hx rfl (hb hby at_145) rfl rfl k) ?_
    show own_Go p e below _ (T59.setTop (mkF m 146 #[.val (.int p0), .val (.int p1), .val (.int p2), .val (.int p3), .val (.int p4), .val (.int (3 : Int32)), .val (.ref b45), .val (.ref b60), .val (.long (((p1.toInt64) + (p2.toInt64)) + (p3.toInt64))), .second, .unset, .unset] [(.double (FP.i2d (3 : Int32))), (.double (FP.l2d (((p1.toInt64) + (p2.toInt64)) + (p3.toInt64))))]))
    refine own_by (fun _ k => XS.ddivS X59.here hx rfl (hb hby at_146) rfl (ob_0_15 p0 p1 p2 p3 hv1) rfl k) ?_
    show own_Go p e below _ (T59.setTop (mkF m 147 #[.val (.int p0), .val (.int p1), .val (.int p2), .val (.int p3), .val (.int p4), .val (.int (3 : Int32)), .val (.ref b45), .val (.ref b60), .val (.long (((p1.toInt64) + (p2.toInt64)) + (p3.toInt64))), .second, .unset, .unset] [(.double (FP.ddiv (FP.l2d (((p1.toInt64) + (p2.toInt64)) + (p3.toInt64))) (FP.i2d (3 : Int32))))]))
    refine own_by (fun _ k => XS.dstore X59.here hx rfl (hb hby at_147) rfl (l' := #[.val (.int p0), .val (.int p1), .val (.int p2), .val (.int p3), .val (.int p4), .val (.int (3 : Int32)), .val (.ref b45), .val (.ref b60), .val (.long (((p1.toInt64) + (p2.toInt64)) + (p3.toInt64))), .second, .val (.double (FP.ddiv (FP.l2d (((p1.toInt64) + (p2.toInt64)) + (p3.toInt64))) (FP.i2d (3 : Int32)))), .second]) rfl k) ?_
    show own_Go p e below _ (T59.setTop (mkF m 149 #[.val (.int p0), .val (.int p1), .val (.int p2), .val (.int p3), .val (.int p4), .val (.int (3 : Int32)), .val (.ref b45), .val (.ref b60), .val (.long (((p1.toInt64) + (p2.toInt64)) + (p3.toInt64))), .second, .val (.double (FP.ddiv (FP.l2d (((p1.toInt64) + (p2.toInt64)) + (p3.toInt64))) (FP.i2d (3 : Int32)))), .second] []))
    refine own_by (fun _ k => XS.aload X59.here hx rfl (hb hby at_149) rfl rfl k) ?_
    show own_Go p e below _ (T59.setTop (mkF m 151 #[.val (.int p0), .val (.int p1), .val (.int p2), .val (.int p3), .val (.int p4), .val (.int (3 : Int32)), .val (.ref b45), .val (.ref b60), .val (.long (((p1.toInt64) + (p2.toInt64)) + (p3.toInt64))), .second, .val (.double (FP.ddiv (FP.l2d (((p1.toInt64) + (p2.toInt64)) + (p3.toInt64))) (FP.i2d (3 : Int32)))), .second] [(.ref b60)]))
    obtain ⟨cq66, kq66, qq66a, qq66b, qq66c⟩ := isOf hZ rfl F63
    obtain ⟨_, _, ⟨T66, L66, k66, n66⟩, -, X66, ⟨Lc66, hQ66, l66, y66, z66⟩, st66⟩ := X59.virtualBack hx (y := (⟨"java/util/OptionalDouble", "isPresent", "()Z"⟩ : MethodName)) (z := (⟨"java/util/OptionalDouble", "isPresent", "()Z"⟩ : MethodName)) hown (mvT hZ (hwd 22 rfl)) (mvT hZ (hwd 23 rfl)) (notFace_of_selects (args := #[]) (mvT hZ (hwd 25 rfl))) (mvT hZ (hwd 25 rfl)) (mvT hZ (hwd 24 rfl)) (by decide) (backOf (W := 0) (rm5 l Z A0 hw [] b60 (1 : Int32) T59.heap n0 Z59 F64) hZ (hwd 26 rfl) (hwd 19 rfl) (by decide) (by decide)) qq66a qq66c (g := (mkF m 151 #[.val (.int p0), .val (.int p1), .val (.int p2), .val (.int p3), .val (.int p4), .val (.int (3 : Int32)), .val (.ref b45), .val (.ref b60), .val (.long (((p1.toInt64) + (p2.toInt64)) + (p3.toInt64))), .second, .val (.double (FP.ddiv (FP.l2d (((p1.toInt64) + (p2.toInt64)) + (p3.toInt64))) (FP.i2d (3 : Int32)))), .second] [(.ref b60)])) rfl (by rw [hml]; rfl) (Steps.refl _) (argsL := []) (rest := []) (lenOf pd_22 rfl) rfl (by show 2 * 0 + _ ≤ _; exact Nat.le_of_eq rfl) (hb hby at_151) (fun _ _ => ⟨rfl, rfl, (by decide : 2 + 0 ≤ _), (by decide : 4 + 0 ≤ _)⟩)
    dsimp only [Pt.U, Pt.locs, Pt.cells, Pt.slots] at X66 l66 y66 z66 st66 hQ66
    subst l66 y66 z66
    obtain ⟨rfl, Nq66, eq66⟩ := hQ66
    have N66 := Fr.app N59 Nq66
    refine own_by (fun _ k => st66.trans k) ?_
    show own_Go p e below _ (T66.setTop (mkF m 154 #[.val (.int p0), .val (.int p1), .val (.int p2), .val (.int p3), .val (.int p4), .val (.int (3 : Int32)), .val (.ref b45), .val (.ref b60), .val (.long (((p1.toInt64) + (p2.toInt64)) + (p3.toInt64))), .second, .val (.double (FP.ddiv (FP.l2d (((p1.toInt64) + (p2.toInt64)) + (p3.toInt64))) (FP.i2d (3 : Int32)))), .second] [(.int (1 : Int32))]))
    refine own_by (fun _ k => XS.ifNo X66.here hx rfl (hb hby at_154) rfl ((if0 _ _).trans (feq (by decide : ¬ ((1 : Int32) = (0 : Int32)))).1) k) ?_
    show own_Go p e below _ (T66.setTop (mkF m 157 #[.val (.int p0), .val (.int p1), .val (.int p2), .val (.int p3), .val (.int p4), .val (.int (3 : Int32)), .val (.ref b45), .val (.ref b60), .val (.long (((p1.toInt64) + (p2.toInt64)) + (p3.toInt64))), .second, .val (.double (FP.ddiv (FP.l2d (((p1.toInt64) + (p2.toInt64)) + (p3.toInt64))) (FP.i2d (3 : Int32)))), .second] []))
    refine own_by (fun _ k => XS.aload X66.here hx rfl (hb hby at_157) rfl rfl k) ?_
    show own_Go p e below _ (T66.setTop (mkF m 159 #[.val (.int p0), .val (.int p1), .val (.int p2), .val (.int p3), .val (.int p4), .val (.int (3 : Int32)), .val (.ref b45), .val (.ref b60), .val (.long (((p1.toInt64) + (p2.toInt64)) + (p3.toInt64))), .second, .val (.double (FP.ddiv (FP.l2d (((p1.toInt64) + (p2.toInt64)) + (p3.toInt64))) (FP.i2d (3 : Int32)))), .second] [(.ref b60)]))
    obtain ⟨cq67, kq67, qq67a, qq67b, qq67c⟩ := isOf hZ eq66 F63
    obtain ⟨_, _, ⟨T67, L67, k67, n67⟩, -, X67, ⟨Lc67, hQ67, l67, y67, z67⟩, st67⟩ := X66.virtualBack hx (y := (⟨"java/util/OptionalDouble", "getAsDouble", "()D"⟩ : MethodName)) (z := (⟨"java/util/OptionalDouble", "getAsDouble", "()D"⟩ : MethodName)) hown (mvT hZ (hwd 48 rfl)) (mvT hZ (hwd 49 rfl)) (notFace_of_selects (args := #[]) (mvT hZ (hwd 51 rfl))) (mvT hZ (hwd 51 rfl)) (mvT hZ (hwd 50 rfl)) (by decide) (backOf (W := 0) (rm9 l Z A0 hw [] b60 (1 : Int32) (FP.ddiv (FP.dadd (FP.dadd (FP.dadd (0 : UInt64) (FP.i2d p1)) (FP.i2d p2)) (FP.i2d p3)) (FP.l2d (3 : Int64))) T59.heap n0 Z59 F64 (by decide) F65) hZ (hwd 52 rfl) (hwd 19 rfl) (by decide) (by decide)) qq67a qq67c (g := (mkF m 159 #[.val (.int p0), .val (.int p1), .val (.int p2), .val (.int p3), .val (.int p4), .val (.int (3 : Int32)), .val (.ref b45), .val (.ref b60), .val (.long (((p1.toInt64) + (p2.toInt64)) + (p3.toInt64))), .second, .val (.double (FP.ddiv (FP.l2d (((p1.toInt64) + (p2.toInt64)) + (p3.toInt64))) (FP.i2d (3 : Int32)))), .second] [(.ref b60)])) rfl (by rw [hml]; rfl) (Steps.refl _) (argsL := []) (rest := []) (lenOf pd_48 rfl) rfl (by show 2 * 0 + _ ≤ _; exact Nat.le_of_eq rfl) (hb hby at_159) (fun _ _ => ⟨rfl, eq66, (by decide : 2 + 0 ≤ _), (by decide : 4 + 0 ≤ _)⟩)
    dsimp only [Pt.U, Pt.locs, Pt.cells, Pt.slots] at X67 l67 y67 z67 st67 hQ67
    subst l67 y67 z67
    obtain ⟨rfl, Nq67, eq67⟩ := hQ67
    have N67 := Fr.app N66 Nq67
    refine own_by (fun _ k => st67.trans k) ?_
    show own_Go p e below _ (T67.setTop (mkF m 162 #[.val (.int p0), .val (.int p1), .val (.int p2), .val (.int p3), .val (.int p4), .val (.int (3 : Int32)), .val (.ref b45), .val (.ref b60), .val (.long (((p1.toInt64) + (p2.toInt64)) + (p3.toInt64))), .second, .val (.double (FP.ddiv (FP.l2d (((p1.toInt64) + (p2.toInt64)) + (p3.toInt64))) (FP.i2d (3 : Int32)))), .second] [(.double (FP.ddiv (FP.dadd (FP.dadd (FP.dadd (0 : UInt64) (FP.i2d p1)) (FP.i2d p2)) (FP.i2d p3)) (FP.l2d (3 : Int64))))]))
    refine own_by (fun _ k => XS.dload X67.here hx rfl (hb hby at_162) rfl k) ?_
    show own_Go p e below _ (T67.setTop (mkF m 164 #[.val (.int p0), .val (.int p1), .val (.int p2), .val (.int p3), .val (.int p4), .val (.int (3 : Int32)), .val (.ref b45), .val (.ref b60), .val (.long (((p1.toInt64) + (p2.toInt64)) + (p3.toInt64))), .second, .val (.double (FP.ddiv (FP.l2d (((p1.toInt64) + (p2.toInt64)) + (p3.toInt64))) (FP.i2d (3 : Int32)))), .second] [(.double (FP.ddiv (FP.l2d (((p1.toInt64) + (p2.toInt64)) + (p3.toInt64))) (FP.i2d (3 : Int32)))), (.double (FP.ddiv (FP.dadd (FP.dadd (FP.dadd (0 : UInt64) (FP.i2d p1)) (FP.i2d p2)) (FP.i2d p3)) (FP.l2d (3 : Int64))))]))
    refine own_by (fun _ k => XS.dcmpS X67.here hx rfl (hb hby at_164) rfl rfl k) ?_
    show own_Go p e below _ (T67.setTop (mkF m 165 #[.val (.int p0), .val (.int p1), .val (.int p2), .val (.int p3), .val (.int p4), .val (.int (3 : Int32)), .val (.ref b45), .val (.ref b60), .val (.long (((p1.toInt64) + (p2.toInt64)) + (p3.toInt64))), .second, .val (.double (FP.ddiv (FP.l2d (((p1.toInt64) + (p2.toInt64)) + (p3.toInt64))) (FP.i2d (3 : Int32)))), .second] [(.int (cmpValue (FP.dcmp (FP.ddiv (FP.dadd (FP.dadd (FP.dadd (0 : UInt64) (FP.i2d p1)) (FP.i2d p2)) (FP.i2d p3)) (FP.l2d (3 : Int64))) (FP.ddiv (FP.l2d (((p1.toInt64) + (p2.toInt64)) + (p3.toInt64))) (FP.i2d (3 : Int32)))) .l))]))
    by_cases c68 : (cmpValue (FP.dcmp (FP.ddiv (FP.dadd (FP.dadd (FP.dadd (0 : UInt64) (FP.i2d p1)) (FP.i2d p2)) (FP.i2d p3)) (FP.l2d (3 : Int64))) (FP.ddiv (FP.l2d (((p1.toInt64) + (p2.toInt64)) + (p3.toInt64))) (FP.i2d (3 : Int32)))) .l) = (0 : Int32)
    · skip
      refine own_by (fun _ k => XS.ifNo X67.here hx rfl (hb hby at_165) rfl ((if0 _ _).trans (teq c68).2) k) ?_
      show own_Go p e below _ (T67.setTop (mkF m 168 #[.val (.int p0), .val (.int p1), .val (.int p2), .val (.int p3), .val (.int p4), .val (.int (3 : Int32)), .val (.ref b45), .val (.ref b60), .val (.long (((p1.toInt64) + (p2.toInt64)) + (p3.toInt64))), .second, .val (.double (FP.ddiv (FP.l2d (((p1.toInt64) + (p2.toInt64)) + (p3.toInt64))) (FP.i2d (3 : Int32)))), .second] []))
      refine own_by (fun _ k => XS.iconst X67.here hx rfl (hb hby at_168) k) ?_
      show own_Go p e below _ (T67.setTop (mkF m 169 #[.val (.int p0), .val (.int p1), .val (.int p2), .val (.int p3), .val (.int p4), .val (.int (3 : Int32)), .val (.ref b45), .val (.ref b60), .val (.long (((p1.toInt64) + (p2.toInt64)) + (p3.toInt64))), .second, .val (.double (FP.ddiv (FP.l2d (((p1.toInt64) + (p2.toInt64)) + (p3.toInt64))) (FP.i2d (3 : Int32)))), .second] [(.int (1 : Int32))]))
      refine own_by (fun _ k => XS.goto X67.here hx rfl (pc0 := 169) (pc' := 173) rfl (hb hby at_169) (by decide) (by decide) k) ?_
      show own_Go p e below _ (T67.setTop (mkF m 173 #[.val (.int p0), .val (.int p1), .val (.int p2), .val (.int p3), .val (.int p4), .val (.int (3 : Int32)), .val (.ref b45), .val (.ref b60), .val (.long (((p1.toInt64) + (p2.toInt64)) + (p3.toInt64))), .second, .val (.double (FP.ddiv (FP.l2d (((p1.toInt64) + (p2.toInt64)) + (p3.toInt64))) (FP.i2d (3 : Int32)))), .second] [(.int (1 : Int32))]))
      exact own_retN X67 hx (t := .boolean) Bd.returns (by simp) (hb hby at_173) hlk eq67 ⟨rfl, N67⟩ (by decide) (by decide)
    · skip
      refine own_by (fun _ k => XS.ifYes X67.here hx rfl (pc0 := 165) (pc' := 172) rfl (hb hby at_165) rfl ((if0 _ _).trans (feq c68).2) (by decide) (by decide) k) ?_
      show own_Go p e below _ (T67.setTop (mkF m 172 #[.val (.int p0), .val (.int p1), .val (.int p2), .val (.int p3), .val (.int p4), .val (.int (3 : Int32)), .val (.ref b45), .val (.ref b60), .val (.long (((p1.toInt64) + (p2.toInt64)) + (p3.toInt64))), .second, .val (.double (FP.ddiv (FP.l2d (((p1.toInt64) + (p2.toInt64)) + (p3.toInt64))) (FP.i2d (3 : Int32)))), .second] []))
      refine own_by (fun _ k => XS.iconst X67.here hx rfl (hb hby at_172) k) ?_
      show own_Go p e below _ (T67.setTop (mkF m 173 #[.val (.int p0), .val (.int p1), .val (.int p2), .val (.int p3), .val (.int p4), .val (.int (3 : Int32)), .val (.ref b45), .val (.ref b60), .val (.long (((p1.toInt64) + (p2.toInt64)) + (p3.toInt64))), .second, .val (.double (FP.ddiv (FP.l2d (((p1.toInt64) + (p2.toInt64)) + (p3.toInt64))) (FP.i2d (3 : Int32)))), .second] [(.int (0 : Int32))]))
      exact own_retN X67 hx (t := .boolean) Bd.returns (by simp) (hb hby at_173) hlk eq67 ⟨((ob_0_16 p0 p1 p2 p3 hv1 c68)).elim, N67⟩ (by decide) (by decide)
  · skip
    show own_Go p e below _ (s₁.setTop (mkF m 8 #[.val (.int p0), .val (.int p1), .val (.int p2), .val (.int p3), .val (.int p4), .val (.int (4 : Int32)), .unset, .unset, .unset, .unset, .unset, .unset] []))
    obtain ⟨T69, h69, X69, e69, E69, A69, D69, -, st69⟩ := newO X0 hx hZ hown (hwd 1 rfl) (hwd 2 rfl) (hwd 3 rfl) e0 (g := (mkF m 8 #[.val (.int p0), .val (.int p1), .val (.int p2), .val (.int p3), .val (.int p4), .val (.int (4 : Int32)), .unset, .unset, .unset, .unset, .unset, .unset] [])) rfl (hb hby at_8) (by decide) (by decide)
    obtain ⟨b69, g69⟩ : ∃ z, z = h0.size := ⟨_, rfl⟩
    have ge_b69 : n0 ≤ b69 := Nat.le_trans Z0 (Nat.le_of_eq g69.symm)
    have sz_b69 : h0.size ≤ b69 := Nat.le_trans (Keep.refl h0 []).1 (Nat.le_of_eq g69.symm)
    have K69 : Keep h0 h69 [] := (Keep.refl h0 []).ext E69
    have Z69 : n0 ≤ h69.size := Nat.le_trans Z0 E69.1
    rw [← g69] at A69 D69 st69
    have F_count_b69 : Fld Z h69 b69 "com/example/credence/credence/sim/Mean" "count" "J" (.long (0 : Int64)) := D69 (Or.inl (hwd 16 rfl)) (ty := .long) (by decide)
    have F_sum_b69 : Fld Z h69 b69 "com/example/credence/credence/sim/Mean" "sum" "D" (.double (0 : UInt64)) := D69 (Or.inl (hwd 35 rfl)) (ty := .double) (by decide)
    refine own_by st69 ?_
    show own_Go p e below _ (T69.setTop (mkF m 11 #[.val (.int p0), .val (.int p1), .val (.int p2), .val (.int p3), .val (.int p4), .val (.int (4 : Int32)), .unset, .unset, .unset, .unset, .unset, .unset] [(.ref b69)]))
    refine own_by (fun _ k => XS.dup X69.here hx rfl (hb hby at_11) rfl rfl k) ?_
    show own_Go p e below _ (T69.setTop (mkF m 12 #[.val (.int p0), .val (.int p1), .val (.int p2), .val (.int p3), .val (.int p4), .val (.int (4 : Int32)), .unset, .unset, .unset, .unset, .unset, .unset] [(.ref b69), (.ref b69)]))
    obtain ⟨_, _, ⟨T70, L70, k70, n70⟩, -, X70, ⟨Lc70, hQ70, l70, y70, z70⟩, st70⟩ := X69.specialBack hx (y := (⟨"com/example/credence/credence/sim/Mean", "<init>", "()V"⟩ : MethodName)) rfl hown (mvT hZ (hwd 4 rfl)) (mvT hZ (hwd 5 rfl)) (mvT hZ (hwd 6 rfl)) (by decide) (backOf (W := 1) (rm1 l Z A0 hw [] b69 h69 n0 Z69 ) hZ (hwd 6 rfl) (hwd 3 rfl) (by decide) (by decide)) (g := (mkF m 12 #[.val (.int p0), .val (.int p1), .val (.int p2), .val (.int p3), .val (.int p4), .val (.int (4 : Int32)), .unset, .unset, .unset, .unset, .unset, .unset] [(.ref b69), (.ref b69)])) rfl (by rw [hml]; rfl) (Steps.refl _) (a := b69) (argsL := []) (rest := [(.ref b69)]) (lenOf pd_4 rfl) rfl (by show 2 * 0 + _ ≤ _; exact Nat.le_of_eq rfl) (hb hby at_12) (fun _ _ => ⟨rfl, e69, (by decide : 1 + 0 ≤ _), (by decide : 2 + 0 ≤ _)⟩)
    dsimp only [Pt.U, Pt.locs, Pt.cells, Pt.slots] at X70 l70 y70 z70 st70 hQ70
    subst l70 y70 z70
    obtain ⟨rfl, Nq70, eq70⟩ := hQ70
    have N70 := Fr.app N0 Nq70
    refine own_by (fun _ k => st70.trans k) ?_
    show own_Go p e below _ (T70.setTop (mkF m 15 #[.val (.int p0), .val (.int p1), .val (.int p2), .val (.int p3), .val (.int p4), .val (.int (4 : Int32)), .unset, .unset, .unset, .unset, .unset, .unset] [(.ref b69)]))
    refine own_by (fun _ k => XS.astore X70.here hx rfl (hb hby at_15) rfl rfl (l' := #[.val (.int p0), .val (.int p1), .val (.int p2), .val (.int p3), .val (.int p4), .val (.int (4 : Int32)), .val (.ref b69), .unset, .unset, .unset, .unset, .unset]) rfl k) ?_
    show own_Go p e below _ (T70.setTop (mkF m 17 #[.val (.int p0), .val (.int p1), .val (.int p2), .val (.int p3), .val (.int p4), .val (.int (4 : Int32)), .val (.ref b69), .unset, .unset, .unset, .unset, .unset] []))
    refine own_by (fun _ k => XS.iload X70.here hx rfl (hb hby at_17) rfl k) ?_
    show own_Go p e below _ (T70.setTop (mkF m 19 #[.val (.int p0), .val (.int p1), .val (.int p2), .val (.int p3), .val (.int p4), .val (.int (4 : Int32)), .val (.ref b69), .unset, .unset, .unset, .unset, .unset] [(.int (4 : Int32))]))
    refine own_by (fun _ k => XS.iconst X70.here hx rfl (hb hby at_19) k) ?_
    show own_Go p e below _ (T70.setTop (mkF m 20 #[.val (.int p0), .val (.int p1), .val (.int p2), .val (.int p3), .val (.int p4), .val (.int (4 : Int32)), .val (.ref b69), .unset, .unset, .unset, .unset, .unset] [(.int (1 : Int32)), (.int (4 : Int32))]))
    refine own_by (fun _ k => XS.icmpNo X70.here hx rfl (hb hby at_20) rfl (flt (by decide : ¬ ((4 : Int32) < (1 : Int32)))).1 k) ?_
    show own_Go p e below _ (T70.setTop (mkF m 23 #[.val (.int p0), .val (.int p1), .val (.int p2), .val (.int p3), .val (.int p4), .val (.int (4 : Int32)), .val (.ref b69), .unset, .unset, .unset, .unset, .unset] []))
    refine own_by (fun _ k => XS.aload X70.here hx rfl (hb hby at_23) rfl rfl k) ?_
    show own_Go p e below _ (T70.setTop (mkF m 25 #[.val (.int p0), .val (.int p1), .val (.int p2), .val (.int p3), .val (.int p4), .val (.int (4 : Int32)), .val (.ref b69), .unset, .unset, .unset, .unset, .unset] [(.ref b69)]))
    refine own_by (fun _ k => XS.iloadN X70.here hx rfl (hb hby at_25) rfl k) ?_
    show own_Go p e below _ (T70.setTop (mkF m 26 #[.val (.int p0), .val (.int p1), .val (.int p2), .val (.int p3), .val (.int p4), .val (.int (4 : Int32)), .val (.ref b69), .unset, .unset, .unset, .unset, .unset] [(.int p1), (.ref b69)]))
    refine own_by (fun _ k => XS.i2dS X70.here hx rfl (hb hby at_26) rfl rfl k) ?_
    show own_Go p e below _ (T70.setTop (mkF m 27 #[.val (.int p0), .val (.int p1), .val (.int p2), .val (.int p3), .val (.int p4), .val (.int (4 : Int32)), .val (.ref b69), .unset, .unset, .unset, .unset, .unset] [(.double (FP.i2d p1)), (.ref b69)]))
    obtain ⟨cq71, kq71, qq71a, qq71b, qq71c⟩ := isOf hZ eq70 A69
    obtain ⟨_, _, ⟨T71, L71, k71, n71⟩, -, X71, ⟨Lc71, hQ71, l71, y71, z71⟩, st71⟩ := X70.virtualBack hx (y := (⟨"com/example/credence/credence/sim/Mean", "add", "(D)V"⟩ : MethodName)) (z := (⟨"com/example/credence/credence/sim/Mean", "add", "(D)V"⟩ : MethodName)) hown (mvT hZ (hwd 29 rfl)) (mvT hZ (hwd 30 rfl)) (notFace_of_selects (args := #[]) (mvT hZ (hwd 32 rfl))) (mvT hZ (hwd 32 rfl)) (mvT hZ (hwd 31 rfl)) (by decide) (backOf (W := 0) (rm6 l Z A0 hw [] b69 (FP.i2d p1) (0 : UInt64) (0 : Int64) h69 n0 Z69 F_sum_b69 (ob_0_17 p0 p1 hv1) A69 ge_b69 F_count_b69) hZ (hwd 33 rfl) (hwd 3 rfl) (by decide) (by decide)) qq71a qq71c (g := (mkF m 27 #[.val (.int p0), .val (.int p1), .val (.int p2), .val (.int p3), .val (.int p4), .val (.int (4 : Int32)), .val (.ref b69), .unset, .unset, .unset, .unset, .unset] [(.double (FP.i2d p1)), (.ref b69)])) rfl (by rw [hml]; rfl) (Steps.refl _) (argsL := [(.double (FP.i2d p1))]) (rest := []) (lenOf pd_29 rfl) rfl (by show 2 * 0 + _ ≤ _; exact Nat.le_of_eq rfl) (hb hby at_27) (fun _ _ => ⟨rfl, eq70, (by decide : 1 + 0 ≤ _), (by decide : 2 + 0 ≤ _)⟩)
    dsimp only [Pt.U, Pt.locs, Pt.cells, Pt.slots] at X71 l71 y71 z71 st71 hQ71
    subst l71 y71 z71
    obtain ⟨rfl, Nq71, Kq71, F72, F73, F74⟩ := hQ71
    have N71 := Fr.app N70 Nq71
    have K71 : Keep h0 T71.heap [] := K69.trans Kq71 ((allS (Or.inr sz_b69) all0))
    have Z71 : n0 ≤ T71.heap.size := Nat.le_trans Z69 Kq71.1
    refine own_by (fun _ k => st71.trans k) ?_
    show own_Go p e below _ (T71.setTop (mkF m 30 #[.val (.int p0), .val (.int p1), .val (.int p2), .val (.int p3), .val (.int p4), .val (.int (4 : Int32)), .val (.ref b69), .unset, .unset, .unset, .unset, .unset] []))
    refine own_by (fun _ k => XS.iload X71.here hx rfl (hb hby at_30) rfl k) ?_
    show own_Go p e below _ (T71.setTop (mkF m 32 #[.val (.int p0), .val (.int p1), .val (.int p2), .val (.int p3), .val (.int p4), .val (.int (4 : Int32)), .val (.ref b69), .unset, .unset, .unset, .unset, .unset] [(.int (4 : Int32))]))
    refine own_by (fun _ k => XS.iconst X71.here hx rfl (hb hby at_32) k) ?_
    show own_Go p e below _ (T71.setTop (mkF m 33 #[.val (.int p0), .val (.int p1), .val (.int p2), .val (.int p3), .val (.int p4), .val (.int (4 : Int32)), .val (.ref b69), .unset, .unset, .unset, .unset, .unset] [(.int (2 : Int32)), (.int (4 : Int32))]))
    refine own_by (fun _ k => XS.icmpNo X71.here hx rfl (hb hby at_33) rfl (flt (by decide : ¬ ((4 : Int32) < (2 : Int32)))).1 k) ?_
    show own_Go p e below _ (T71.setTop (mkF m 36 #[.val (.int p0), .val (.int p1), .val (.int p2), .val (.int p3), .val (.int p4), .val (.int (4 : Int32)), .val (.ref b69), .unset, .unset, .unset, .unset, .unset] []))
    refine own_by (fun _ k => XS.aload X71.here hx rfl (hb hby at_36) rfl rfl k) ?_
    show own_Go p e below _ (T71.setTop (mkF m 38 #[.val (.int p0), .val (.int p1), .val (.int p2), .val (.int p3), .val (.int p4), .val (.int (4 : Int32)), .val (.ref b69), .unset, .unset, .unset, .unset, .unset] [(.ref b69)]))
    refine own_by (fun _ k => XS.iloadN X71.here hx rfl (hb hby at_38) rfl k) ?_
    show own_Go p e below _ (T71.setTop (mkF m 39 #[.val (.int p0), .val (.int p1), .val (.int p2), .val (.int p3), .val (.int p4), .val (.int (4 : Int32)), .val (.ref b69), .unset, .unset, .unset, .unset, .unset] [(.int p2), (.ref b69)]))
    refine own_by (fun _ k => XS.i2dS X71.here hx rfl (hb hby at_39) rfl rfl k) ?_
    show own_Go p e below _ (T71.setTop (mkF m 40 #[.val (.int p0), .val (.int p1), .val (.int p2), .val (.int p3), .val (.int p4), .val (.int (4 : Int32)), .val (.ref b69), .unset, .unset, .unset, .unset, .unset] [(.double (FP.i2d p2)), (.ref b69)]))
    obtain ⟨cq75, kq75, qq75a, qq75b, qq75c⟩ := isOf hZ rfl F73
    obtain ⟨_, _, ⟨T75, L75, k75, n75⟩, -, X75, ⟨Lc75, hQ75, l75, y75, z75⟩, st75⟩ := X71.virtualBack hx (y := (⟨"com/example/credence/credence/sim/Mean", "add", "(D)V"⟩ : MethodName)) (z := (⟨"com/example/credence/credence/sim/Mean", "add", "(D)V"⟩ : MethodName)) hown (mvT hZ (hwd 29 rfl)) (mvT hZ (hwd 30 rfl)) (notFace_of_selects (args := #[]) (mvT hZ (hwd 32 rfl))) (mvT hZ (hwd 32 rfl)) (mvT hZ (hwd 31 rfl)) (by decide) (backOf (W := 0) (rm6 l Z A0 hw [] b69 (FP.i2d p2) (FP.dadd (0 : UInt64) (FP.i2d p1)) (1 : Int64) T71.heap n0 Z71 F72 (ob_0_18 p0 p1 p2 hv1) F73 ge_b69 F74) hZ (hwd 33 rfl) (hwd 3 rfl) (by decide) (by decide)) qq75a qq75c (g := (mkF m 40 #[.val (.int p0), .val (.int p1), .val (.int p2), .val (.int p3), .val (.int p4), .val (.int (4 : Int32)), .val (.ref b69), .unset, .unset, .unset, .unset, .unset] [(.double (FP.i2d p2)), (.ref b69)])) rfl (by rw [hml]; rfl) (Steps.refl _) (argsL := [(.double (FP.i2d p2))]) (rest := []) (lenOf pd_29 rfl) rfl (by show 2 * 0 + _ ≤ _; exact Nat.le_of_eq rfl) (hb hby at_40) (fun _ _ => ⟨rfl, rfl, (by decide : 1 + 0 ≤ _), (by decide : 2 + 0 ≤ _)⟩)
    dsimp only [Pt.U, Pt.locs, Pt.cells, Pt.slots] at X75 l75 y75 z75 st75 hQ75
    subst l75 y75 z75
    obtain ⟨rfl, Nq75, Kq75, F76, F77, F78⟩ := hQ75
    have N75 := Fr.app N71 Nq75
    have K75 : Keep h0 T75.heap [] := K71.trans Kq75 ((allS (Or.inr sz_b69) all0))
    have Z75 : n0 ≤ T75.heap.size := Nat.le_trans Z71 Kq75.1
    refine own_by (fun _ k => st75.trans k) ?_
    show own_Go p e below _ (T75.setTop (mkF m 43 #[.val (.int p0), .val (.int p1), .val (.int p2), .val (.int p3), .val (.int p4), .val (.int (4 : Int32)), .val (.ref b69), .unset, .unset, .unset, .unset, .unset] []))
    refine own_by (fun _ k => XS.iload X75.here hx rfl (hb hby at_43) rfl k) ?_
    show own_Go p e below _ (T75.setTop (mkF m 45 #[.val (.int p0), .val (.int p1), .val (.int p2), .val (.int p3), .val (.int p4), .val (.int (4 : Int32)), .val (.ref b69), .unset, .unset, .unset, .unset, .unset] [(.int (4 : Int32))]))
    refine own_by (fun _ k => XS.iconst X75.here hx rfl (hb hby at_45) k) ?_
    show own_Go p e below _ (T75.setTop (mkF m 46 #[.val (.int p0), .val (.int p1), .val (.int p2), .val (.int p3), .val (.int p4), .val (.int (4 : Int32)), .val (.ref b69), .unset, .unset, .unset, .unset, .unset] [(.int (3 : Int32)), (.int (4 : Int32))]))
    refine own_by (fun _ k => XS.icmpNo X75.here hx rfl (hb hby at_46) rfl (flt (by decide : ¬ ((4 : Int32) < (3 : Int32)))).1 k) ?_
    show own_Go p e below _ (T75.setTop (mkF m 49 #[.val (.int p0), .val (.int p1), .val (.int p2), .val (.int p3), .val (.int p4), .val (.int (4 : Int32)), .val (.ref b69), .unset, .unset, .unset, .unset, .unset] []))
    refine own_by (fun _ k => XS.aload X75.here hx rfl (hb hby at_49) rfl rfl k) ?_
    show own_Go p e below _ (T75.setTop (mkF m 51 #[.val (.int p0), .val (.int p1), .val (.int p2), .val (.int p3), .val (.int p4), .val (.int (4 : Int32)), .val (.ref b69), .unset, .unset, .unset, .unset, .unset] [(.ref b69)]))
    refine own_by (fun _ k => XS.iloadN X75.here hx rfl (hb hby at_51) rfl k) ?_
    show own_Go p e below _ (T75.setTop (mkF m 52 #[.val (.int p0), .val (.int p1), .val (.int p2), .val (.int p3), .val (.int p4), .val (.int (4 : Int32)), .val (.ref b69), .unset, .unset, .unset, .unset, .unset] [(.int p3), (.ref b69)]))
    refine own_by (fun _ k => XS.i2dS X75.here hx rfl (hb hby at_52) rfl rfl k) ?_
    show own_Go p e below _ (T75.setTop (mkF m 53 #[.val (.int p0), .val (.int p1), .val (.int p2), .val (.int p3), .val (.int p4), .val (.int (4 : Int32)), .val (.ref b69), .unset, .unset, .unset, .unset, .unset] [(.double (FP.i2d p3)), (.ref b69)]))
    obtain ⟨cq79, kq79, qq79a, qq79b, qq79c⟩ := isOf hZ rfl F77
    obtain ⟨_, _, ⟨T79, L79, k79, n79⟩, -, X79, ⟨Lc79, hQ79, l79, y79, z79⟩, st79⟩ := X75.virtualBack hx (y := (⟨"com/example/credence/credence/sim/Mean", "add", "(D)V"⟩ : MethodName)) (z := (⟨"com/example/credence/credence/sim/Mean", "add", "(D)V"⟩ : MethodName)) hown (mvT hZ (hwd 29 rfl)) (mvT hZ (hwd 30 rfl)) (notFace_of_selects (args := #[]) (mvT hZ (hwd 32 rfl))) (mvT hZ (hwd 32 rfl)) (mvT hZ (hwd 31 rfl)) (by decide) (backOf (W := 0) (rm6 l Z A0 hw [] b69 (FP.i2d p3) (FP.dadd (FP.dadd (0 : UInt64) (FP.i2d p1)) (FP.i2d p2)) (2 : Int64) T75.heap n0 Z75 F76 (ob_0_19 p0 p1 p2 p3 hv1) F77 ge_b69 F78) hZ (hwd 33 rfl) (hwd 3 rfl) (by decide) (by decide)) qq79a qq79c (g := (mkF m 53 #[.val (.int p0), .val (.int p1), .val (.int p2), .val (.int p3), .val (.int p4), .val (.int (4 : Int32)), .val (.ref b69), .unset, .unset, .unset, .unset, .unset] [(.double (FP.i2d p3)), (.ref b69)])) rfl (by rw [hml]; rfl) (Steps.refl _) (argsL := [(.double (FP.i2d p3))]) (rest := []) (lenOf pd_29 rfl) rfl (by show 2 * 0 + _ ≤ _; exact Nat.le_of_eq rfl) (hb hby at_53) (fun _ _ => ⟨rfl, rfl, (by decide : 1 + 0 ≤ _), (by decide : 2 + 0 ≤ _)⟩)
    dsimp only [Pt.U, Pt.locs, Pt.cells, Pt.slots] at X79 l79 y79 z79 st79 hQ79
    subst l79 y79 z79
    obtain ⟨rfl, Nq79, Kq79, F80, F81, F82⟩ := hQ79
    have N79 := Fr.app N75 Nq79
    have K79 : Keep h0 T79.heap [] := K75.trans Kq79 ((allS (Or.inr sz_b69) all0))
    have Z79 : n0 ≤ T79.heap.size := Nat.le_trans Z75 Kq79.1
    refine own_by (fun _ k => st79.trans k) ?_
    show own_Go p e below _ (T79.setTop (mkF m 56 #[.val (.int p0), .val (.int p1), .val (.int p2), .val (.int p3), .val (.int p4), .val (.int (4 : Int32)), .val (.ref b69), .unset, .unset, .unset, .unset, .unset] []))
    refine own_by (fun _ k => XS.iload X79.here hx rfl (hb hby at_56) rfl k) ?_
    show own_Go p e below _ (T79.setTop (mkF m 58 #[.val (.int p0), .val (.int p1), .val (.int p2), .val (.int p3), .val (.int p4), .val (.int (4 : Int32)), .val (.ref b69), .unset, .unset, .unset, .unset, .unset] [(.int (4 : Int32))]))
    refine own_by (fun _ k => XS.iconst X79.here hx rfl (hb hby at_58) k) ?_
    show own_Go p e below _ (T79.setTop (mkF m 59 #[.val (.int p0), .val (.int p1), .val (.int p2), .val (.int p3), .val (.int p4), .val (.int (4 : Int32)), .val (.ref b69), .unset, .unset, .unset, .unset, .unset] [(.int (4 : Int32)), (.int (4 : Int32))]))
    refine own_by (fun _ k => XS.icmpNo X79.here hx rfl (hb hby at_59) rfl (flt (by decide : ¬ ((4 : Int32) < (4 : Int32)))).1 k) ?_
    show own_Go p e below _ (T79.setTop (mkF m 62 #[.val (.int p0), .val (.int p1), .val (.int p2), .val (.int p3), .val (.int p4), .val (.int (4 : Int32)), .val (.ref b69), .unset, .unset, .unset, .unset, .unset] []))
    refine own_by (fun _ k => XS.aload X79.here hx rfl (hb hby at_62) rfl rfl k) ?_
    show own_Go p e below _ (T79.setTop (mkF m 64 #[.val (.int p0), .val (.int p1), .val (.int p2), .val (.int p3), .val (.int p4), .val (.int (4 : Int32)), .val (.ref b69), .unset, .unset, .unset, .unset, .unset] [(.ref b69)]))
    refine own_by (fun _ k => XS.iload X79.here hx rfl (hb hby at_64) rfl k) ?_
    show own_Go p e below _ (T79.setTop (mkF m 66 #[.val (.int p0), .val (.int p1), .val (.int p2), .val (.int p3), .val (.int p4), .val (.int (4 : Int32)), .val (.ref b69), .unset, .unset, .unset, .unset, .unset] [(.int p4), (.ref b69)]))
    refine own_by (fun _ k => XS.i2dS X79.here hx rfl (hb hby at_66) rfl rfl k) ?_
    show own_Go p e below _ (T79.setTop (mkF m 67 #[.val (.int p0), .val (.int p1), .val (.int p2), .val (.int p3), .val (.int p4), .val (.int (4 : Int32)), .val (.ref b69), .unset, .unset, .unset, .unset, .unset] [(.double (FP.i2d p4)), (.ref b69)]))
    obtain ⟨cq83, kq83, qq83a, qq83b, qq83c⟩ := isOf hZ rfl F81
    obtain ⟨_, _, ⟨T83, L83, k83, n83⟩, -, X83, ⟨Lc83, hQ83, l83, y83, z83⟩, st83⟩ := X79.virtualBack hx (y := (⟨"com/example/credence/credence/sim/Mean", "add", "(D)V"⟩ : MethodName)) (z := (⟨"com/example/credence/credence/sim/Mean", "add", "(D)V"⟩ : MethodName)) hown (mvT hZ (hwd 29 rfl)) (mvT hZ (hwd 30 rfl)) (notFace_of_selects (args := #[]) (mvT hZ (hwd 32 rfl))) (mvT hZ (hwd 32 rfl)) (mvT hZ (hwd 31 rfl)) (by decide) (backOf (W := 0) (rm6 l Z A0 hw [] b69 (FP.i2d p4) (FP.dadd (FP.dadd (FP.dadd (0 : UInt64) (FP.i2d p1)) (FP.i2d p2)) (FP.i2d p3)) (3 : Int64) T79.heap n0 Z79 F80 (ob_0_20 p0 p1 p2 p3 p4 hv1) F81 ge_b69 F82) hZ (hwd 33 rfl) (hwd 3 rfl) (by decide) (by decide)) qq83a qq83c (g := (mkF m 67 #[.val (.int p0), .val (.int p1), .val (.int p2), .val (.int p3), .val (.int p4), .val (.int (4 : Int32)), .val (.ref b69), .unset, .unset, .unset, .unset, .unset] [(.double (FP.i2d p4)), (.ref b69)])) rfl (by rw [hml]; rfl) (Steps.refl _) (argsL := [(.double (FP.i2d p4))]) (rest := []) (lenOf pd_29 rfl) rfl (by show 2 * 0 + _ ≤ _; exact Nat.le_of_eq rfl) (hb hby at_67) (fun _ _ => ⟨rfl, rfl, (by decide : 1 + 0 ≤ _), (by decide : 2 + 0 ≤ _)⟩)
    dsimp only [Pt.U, Pt.locs, Pt.cells, Pt.slots] at X83 l83 y83 z83 st83 hQ83
    subst l83 y83 z83
    obtain ⟨rfl, Nq83, Kq83, F84, F85, F86⟩ := hQ83
    have N83 := Fr.app N79 Nq83
    have K83 : Keep h0 T83.heap [] := K79.trans Kq83 ((allS (Or.inr sz_b69) all0))
    have Z83 : n0 ≤ T83.heap.size := Nat.le_trans Z79 Kq83.1
    refine own_by (fun _ k => st83.trans k) ?_
    show own_Go p e below _ (T83.setTop (mkF m 70 #[.val (.int p0), .val (.int p1), .val (.int p2), .val (.int p3), .val (.int p4), .val (.int (4 : Int32)), .val (.ref b69), .unset, .unset, .unset, .unset, .unset] []))
    refine own_by (fun _ k => XS.aload X83.here hx rfl (hb hby at_70) rfl rfl k) ?_
    show own_Go p e below _ (T83.setTop (mkF m 72 #[.val (.int p0), .val (.int p1), .val (.int p2), .val (.int p3), .val (.int p4), .val (.int (4 : Int32)), .val (.ref b69), .unset, .unset, .unset, .unset, .unset] [(.ref b69)]))
    obtain ⟨cq87, kq87, qq87a, qq87b, qq87c⟩ := isOf hZ rfl F85
    obtain ⟨_, _, ⟨T87, L87, k87, n87⟩, -, X87, ⟨Lc87, hQ87, l87, y87, z87⟩, st87⟩ := X83.virtualBack hx (y := (⟨"com/example/credence/credence/sim/Mean", "value", "()Ljava/util/OptionalDouble;"⟩ : MethodName)) (z := (⟨"com/example/credence/credence/sim/Mean", "value", "()Ljava/util/OptionalDouble;"⟩ : MethodName)) hown (mvT hZ (hwd 10 rfl)) (mvT hZ (hwd 11 rfl)) (notFace_of_selects (args := #[]) (mvT hZ (hwd 13 rfl))) (mvT hZ (hwd 13 rfl)) (mvT hZ (hwd 12 rfl)) (by decide) (backOf (W := 0) (rmvN l Z A0 hw [] b69 (4 : Int64) (FP.dadd (FP.dadd (FP.dadd (FP.dadd (0 : UInt64) (FP.i2d p1)) (FP.i2d p2)) (FP.i2d p3)) (FP.i2d p4)) T83.heap n0 Z83 F86 (by decide) F84 (ob_0_21 p0 p1 p2 p3 p4 hv1)) hZ (hwd 14 rfl) (hwd 3 rfl) (by decide) (by decide)) qq87a qq87c (g := (mkF m 72 #[.val (.int p0), .val (.int p1), .val (.int p2), .val (.int p3), .val (.int p4), .val (.int (4 : Int32)), .val (.ref b69), .unset, .unset, .unset, .unset, .unset] [(.ref b69)])) rfl (by rw [hml]; rfl) (Steps.refl _) (argsL := []) (rest := []) (lenOf pd_10 rfl) rfl (by show 2 * 0 + _ ≤ _; exact Nat.le_of_eq rfl) (hb hby at_72) (fun _ _ => ⟨rfl, rfl, (by decide : 1 + 1 ≤ _), (by decide : 2 + 2 ≤ _)⟩)
    dsimp only [Pt.U, Pt.locs, Pt.cells, Pt.slots] at X87 l87 y87 z87 st87 hQ87
    subst l87 y87 z87
    obtain ⟨b88, rfl, Nq87, Kq87, hp89, hp90, F91, F92, F93⟩ := hQ87
    have N87 := Fr.app N83 Nq87
    have K87 : Keep h0 T87.heap [] := K83.trans Kq87 (all0)
    have Z87 : n0 ≤ T87.heap.size := Nat.le_trans Z83 Kq87.1
    have sz_b88 : h0.size ≤ b88 := Nat.le_trans K83.1 hp90
    refine own_by (fun _ k => st87.trans k) ?_
    show own_Go p e below _ (T87.setTop (mkF m 75 #[.val (.int p0), .val (.int p1), .val (.int p2), .val (.int p3), .val (.int p4), .val (.int (4 : Int32)), .val (.ref b69), .unset, .unset, .unset, .unset, .unset] [(.ref b88)]))
    refine own_by (fun _ k => XS.astore X87.here hx rfl (hb hby at_75) rfl rfl (l' := #[.val (.int p0), .val (.int p1), .val (.int p2), .val (.int p3), .val (.int p4), .val (.int (4 : Int32)), .val (.ref b69), .val (.ref b88), .unset, .unset, .unset, .unset]) rfl k) ?_
    show own_Go p e below _ (T87.setTop (mkF m 77 #[.val (.int p0), .val (.int p1), .val (.int p2), .val (.int p3), .val (.int p4), .val (.int (4 : Int32)), .val (.ref b69), .val (.ref b88), .unset, .unset, .unset, .unset] []))
    refine own_by (fun _ k => XS.iload X87.here hx rfl (hb hby at_77) rfl k) ?_
    show own_Go p e below _ (T87.setTop (mkF m 79 #[.val (.int p0), .val (.int p1), .val (.int p2), .val (.int p3), .val (.int p4), .val (.int (4 : Int32)), .val (.ref b69), .val (.ref b88), .unset, .unset, .unset, .unset] [(.int (4 : Int32))]))
    refine own_by (fun _ k => XS.ifYes X87.here hx rfl (pc0 := 79) (pc' := 96) rfl (hb hby at_79) rfl ((if0 _ _).trans (feq (by decide : ¬ ((4 : Int32) = (0 : Int32)))).2) (by decide) (by decide) k) ?_
    show own_Go p e below _ (T87.setTop (mkF m 96 #[.val (.int p0), .val (.int p1), .val (.int p2), .val (.int p3), .val (.int p4), .val (.int (4 : Int32)), .val (.ref b69), .val (.ref b88), .unset, .unset, .unset, .unset] []))
    refine own_by (fun _ k => XS.iloadN X87.here hx rfl (hb hby at_96) rfl k) ?_
    show own_Go p e below _ (T87.setTop (mkF m 97 #[.val (.int p0), .val (.int p1), .val (.int p2), .val (.int p3), .val (.int p4), .val (.int (4 : Int32)), .val (.ref b69), .val (.ref b88), .unset, .unset, .unset, .unset] [(.int p1)]))
    refine own_by (fun _ k => XS.i2l X87.here hx rfl (hb hby at_97) rfl k) ?_
    show own_Go p e below _ (T87.setTop (mkF m 98 #[.val (.int p0), .val (.int p1), .val (.int p2), .val (.int p3), .val (.int p4), .val (.int (4 : Int32)), .val (.ref b69), .val (.ref b88), .unset, .unset, .unset, .unset] [(.long (p1.toInt64))]))
    refine own_by (fun _ k => XS.lstore X87.here hx rfl (hb hby at_98) rfl (l' := #[.val (.int p0), .val (.int p1), .val (.int p2), .val (.int p3), .val (.int p4), .val (.int (4 : Int32)), .val (.ref b69), .val (.ref b88), .val (.long (p1.toInt64)), .second, .unset, .unset]) rfl k) ?_
    show own_Go p e below _ (T87.setTop (mkF m 100 #[.val (.int p0), .val (.int p1), .val (.int p2), .val (.int p3), .val (.int p4), .val (.int (4 : Int32)), .val (.ref b69), .val (.ref b88), .val (.long (p1.toInt64)), .second, .unset, .unset] []))
    refine own_by (fun _ k => XS.iload X87.here hx rfl (hb hby at_100) rfl k) ?_
    show own_Go p e below _ (T87.setTop (mkF m 102 #[.val (.int p0), .val (.int p1), .val (.int p2), .val (.int p3), .val (.int p4), .val (.int (4 : Int32)), .val (.ref b69), .val (.ref b88), .val (.long (p1.toInt64)), .second, .unset, .unset] [(.int (4 : Int32))]))
    refine own_by (fun _ k => XS.iconst X87.here hx rfl (hb hby at_102) k) ?_
    show own_Go p e below _ (T87.setTop (mkF m 103 #[.val (.int p0), .val (.int p1), .val (.int p2), .val (.int p3), .val (.int p4), .val (.int (4 : Int32)), .val (.ref b69), .val (.ref b88), .val (.long (p1.toInt64)), .second, .unset, .unset] [(.int (2 : Int32)), (.int (4 : Int32))]))
    refine own_by (fun _ k => XS.icmpNo X87.here hx rfl (hb hby at_103) rfl (flt (by decide : ¬ ((4 : Int32) < (2 : Int32)))).1 k) ?_
    show own_Go p e below _ (T87.setTop (mkF m 106 #[.val (.int p0), .val (.int p1), .val (.int p2), .val (.int p3), .val (.int p4), .val (.int (4 : Int32)), .val (.ref b69), .val (.ref b88), .val (.long (p1.toInt64)), .second, .unset, .unset] []))
    refine own_by (fun _ k => XS.lload X87.here hx rfl (hb hby at_106) rfl k) ?_
    show own_Go p e below _ (T87.setTop (mkF m 108 #[.val (.int p0), .val (.int p1), .val (.int p2), .val (.int p3), .val (.int p4), .val (.int (4 : Int32)), .val (.ref b69), .val (.ref b88), .val (.long (p1.toInt64)), .second, .unset, .unset] [(.long (p1.toInt64))]))
    refine own_by (fun _ k => XS.iloadN X87.here hx rfl (hb hby at_108) rfl k) ?_
    show own_Go p e below _ (T87.setTop (mkF m 109 #[.val (.int p0), .val (.int p1), .val (.int p2), .val (.int p3), .val (.int p4), .val (.int (4 : Int32)), .val (.ref b69), .val (.ref b88), .val (.long (p1.toInt64)), .second, .unset, .unset] [(.int p2), (.long (p1.toInt64))]))
    refine own_by (fun _ k => XS.i2l X87.here hx rfl (hb hby at_109) rfl k) ?_
    show own_Go p e below _ (T87.setTop (mkF m 110 #[.val (.int p0), .val (.int p1), .val (.int p2), .val (.int p3), .val (.int p4), .val (.int (4 : Int32)), .val (.ref b69), .val (.ref b88), .val (.long (p1.toInt64)), .second, .unset, .unset] [(.long (p2.toInt64)), (.long (p1.toInt64))]))
    refine own_by (fun _ k => XS.ladd X87.here hx rfl (hb hby at_110) rfl k) ?_
    show own_Go p e below _ (T87.setTop (mkF m 111 #[.val (.int p0), .val (.int p1), .val (.int p2), .val (.int p3), .val (.int p4), .val (.int (4 : Int32)), .val (.ref b69), .val (.ref b88), .val (.long (p1.toInt64)), .second, .unset, .unset] [(.long ((p1.toInt64) + (p2.toInt64)))]))
    refine own_by (fun _ k => XS.lstore X87.here hx rfl (hb hby at_111) rfl (l' := #[.val (.int p0), .val (.int p1), .val (.int p2), .val (.int p3), .val (.int p4), .val (.int (4 : Int32)), .val (.ref b69), .val (.ref b88), .val (.long ((p1.toInt64) + (p2.toInt64))), .second, .unset, .unset]) rfl k) ?_
    show own_Go p e below _ (T87.setTop (mkF m 113 #[.val (.int p0), .val (.int p1), .val (.int p2), .val (.int p3), .val (.int p4), .val (.int (4 : Int32)), .val (.ref b69), .val (.ref b88), .val (.long ((p1.toInt64) + (p2.toInt64))), .second, .unset, .unset] []))
    refine own_by (fun _ k => XS.iload X87.here hx rfl (hb hby at_113) rfl k) ?_
    show own_Go p e below _ (T87.setTop (mkF m 115 #[.val (.int p0), .val (.int p1), .val (.int p2), .val (.int p3), .val (.int p4), .val (.int (4 : Int32)), .val (.ref b69), .val (.ref b88), .val (.long ((p1.toInt64) + (p2.toInt64))), .second, .unset, .unset] [(.int (4 : Int32))]))
    refine own_by (fun _ k => XS.iconst X87.here hx rfl (hb hby at_115) k) ?_
    show own_Go p e below _ (T87.setTop (mkF m 116 #[.val (.int p0), .val (.int p1), .val (.int p2), .val (.int p3), .val (.int p4), .val (.int (4 : Int32)), .val (.ref b69), .val (.ref b88), .val (.long ((p1.toInt64) + (p2.toInt64))), .second, .unset, .unset] [(.int (3 : Int32)), (.int (4 : Int32))]))
    refine own_by (fun _ k => XS.icmpNo X87.here hx rfl (hb hby at_116) rfl (flt (by decide : ¬ ((4 : Int32) < (3 : Int32)))).1 k) ?_
    show own_Go p e below _ (T87.setTop (mkF m 119 #[.val (.int p0), .val (.int p1), .val (.int p2), .val (.int p3), .val (.int p4), .val (.int (4 : Int32)), .val (.ref b69), .val (.ref b88), .val (.long ((p1.toInt64) + (p2.toInt64))), .second, .unset, .unset] []))
    refine own_by (fun _ k => XS.lload X87.here hx rfl (hb hby at_119) rfl k) ?_
    show own_Go p e below _ (T87.setTop (mkF m 121 #[.val (.int p0), .val (.int p1), .val (.int p2), .val (.int p3), .val (.int p4), .val (.int (4 : Int32)), .val (.ref b69), .val (.ref b88), .val (.long ((p1.toInt64) + (p2.toInt64))), .second, .unset, .unset] [(.long ((p1.toInt64) + (p2.toInt64)))]))
    refine own_by (fun _ k => XS.iloadN X87.here hx rfl (hb hby at_121) rfl k) ?_
    show own_Go p e below _ (T87.setTop (mkF m 122 #[.val (.int p0), .val (.int p1), .val (.int p2), .val (.int p3), .val (.int p4), .val (.int (4 : Int32)), .val (.ref b69), .val (.ref b88), .val (.long ((p1.toInt64) + (p2.toInt64))), .second, .unset, .unset] [(.int p3), (.long ((p1.toInt64) + (p2.toInt64)))]))
    refine own_by (fun _ k => XS.i2l X87.here hx rfl (hb hby at_122) rfl k) ?_
    show own_Go p e below _ (T87.setTop (mkF m 123 #[.val (.int p0), .val (.int p1), .val (.int p2), .val (.int p3), .val (.int p4), .val (.int (4 : Int32)), .val (.ref b69), .val (.ref b88), .val (.long ((p1.toInt64) + (p2.toInt64))), .second, .unset, .unset] [(.long (p3.toInt64)), (.long ((p1.toInt64) + (p2.toInt64)))]))
    refine own_by (fun _ k => XS.ladd X87.here hx rfl (hb hby at_123) rfl k) ?_
    show own_Go p e below _ (T87.setTop (mkF m 124 #[.val (.int p0), .val (.int p1), .val (.int p2), .val (.int p3), .val (.int p4), .val (.int (4 : Int32)), .val (.ref b69), .val (.ref b88), .val (.long ((p1.toInt64) + (p2.toInt64))), .second, .unset, .unset] [(.long (((p1.toInt64) + (p2.toInt64)) + (p3.toInt64)))]))
    refine own_by (fun _ k => XS.lstore X87.here hx rfl (hb hby at_124) rfl (l' := #[.val (.int p0), .val (.int p1), .val (.int p2), .val (.int p3), .val (.int p4), .val (.int (4 : Int32)), .val (.ref b69), .val (.ref b88), .val (.long (((p1.toInt64) + (p2.toInt64)) + (p3.toInt64))), .second, .unset, .unset]) rfl k) ?_
    show own_Go p e below _ (T87.setTop (mkF m 126 #[.val (.int p0), .val (.int p1), .val (.int p2), .val (.int p3), .val (.int p4), .val (.int (4 : Int32)), .val (.ref b69), .val (.ref b88), .val (.long (((p1.toInt64) + (p2.toInt64)) + (p3.toInt64))), .second, .unset, .unset] []))
    refine own_by (fun _ k => XS.iload X87.here hx rfl (hb hby at_126) rfl k) ?_
    show own_Go p e below _ (T87.setTop (mkF m 128 #[.val (.int p0), .val (.int p1), .val (.int p2), .val (.int p3), .val (.int p4), .val (.int (4 : Int32)), .val (.ref b69), .val (.ref b88), .val (.long (((p1.toInt64) + (p2.toInt64)) + (p3.toInt64))), .second, .unset, .unset] [(.int (4 : Int32))]))
    refine own_by (fun _ k => XS.iconst X87.here hx rfl (hb hby at_128) k) ?_
    show own_Go p e below _ (T87.setTop (mkF m 129 #[.val (.int p0), .val (.int p1), .val (.int p2), .val (.int p3), .val (.int p4), .val (.int (4 : Int32)), .val (.ref b69), .val (.ref b88), .val (.long (((p1.toInt64) + (p2.toInt64)) + (p3.toInt64))), .second, .unset, .unset] [(.int (4 : Int32)), (.int (4 : Int32))]))
    refine own_by (fun _ k => XS.icmpNo X87.here hx rfl (hb hby at_129) rfl (flt (by decide : ¬ ((4 : Int32) < (4 : Int32)))).1 k) ?_
    show own_Go p e below _ (T87.setTop (mkF m 132 #[.val (.int p0), .val (.int p1), .val (.int p2), .val (.int p3), .val (.int p4), .val (.int (4 : Int32)), .val (.ref b69), .val (.ref b88), .val (.long (((p1.toInt64) + (p2.toInt64)) + (p3.toInt64))), .second, .unset, .unset] []))
    refine own_by (fun _ k => XS.lload X87.here hx rfl (hb hby at_132) rfl k) ?_
    show own_Go p e below _ (T87.setTop (mkF m 134 #[.val (.int p0), .val (.int p1), .val (.int p2), .val (.int p3), .val (.int p4), .val (.int (4 : Int32)), .val (.ref b69), .val (.ref b88), .val (.long (((p1.toInt64) + (p2.toInt64)) + (p3.toInt64))), .second, .unset, .unset] [(.long (((p1.toInt64) + (p2.toInt64)) + (p3.toInt64)))]))
    refine own_by (fun _ k => XS.iload X87.here hx rfl (hb hby at_134) rfl k) ?_
    show own_Go p e below _ (T87.setTop (mkF m 136 #[.val (.int p0), .val (.int p1), .val (.int p2), .val (.int p3), .val (.int p4), .val (.int (4 : Int32)), .val (.ref b69), .val (.ref b88), .val (.long (((p1.toInt64) + (p2.toInt64)) + (p3.toInt64))), .second, .unset, .unset] [(.int p4), (.long (((p1.toInt64) + (p2.toInt64)) + (p3.toInt64)))]))
    refine own_by (fun _ k => XS.i2l X87.here hx rfl (hb hby at_136) rfl k) ?_
    show own_Go p e below _ (T87.setTop (mkF m 137 #[.val (.int p0), .val (.int p1), .val (.int p2), .val (.int p3), .val (.int p4), .val (.int (4 : Int32)), .val (.ref b69), .val (.ref b88), .val (.long (((p1.toInt64) + (p2.toInt64)) + (p3.toInt64))), .second, .unset, .unset] [(.long (p4.toInt64)), (.long (((p1.toInt64) + (p2.toInt64)) + (p3.toInt64)))]))
    refine own_by (fun _ k => XS.ladd X87.here hx rfl (hb hby at_137) rfl k) ?_
    show own_Go p e below _ (T87.setTop (mkF m 138 #[.val (.int p0), .val (.int p1), .val (.int p2), .val (.int p3), .val (.int p4), .val (.int (4 : Int32)), .val (.ref b69), .val (.ref b88), .val (.long (((p1.toInt64) + (p2.toInt64)) + (p3.toInt64))), .second, .unset, .unset] [(.long ((((p1.toInt64) + (p2.toInt64)) + (p3.toInt64)) + (p4.toInt64)))]))
    refine own_by (fun _ k => XS.lstore X87.here hx rfl (hb hby at_138) rfl (l' := #[.val (.int p0), .val (.int p1), .val (.int p2), .val (.int p3), .val (.int p4), .val (.int (4 : Int32)), .val (.ref b69), .val (.ref b88), .val (.long ((((p1.toInt64) + (p2.toInt64)) + (p3.toInt64)) + (p4.toInt64))), .second, .unset, .unset]) rfl k) ?_
    show own_Go p e below _ (T87.setTop (mkF m 140 #[.val (.int p0), .val (.int p1), .val (.int p2), .val (.int p3), .val (.int p4), .val (.int (4 : Int32)), .val (.ref b69), .val (.ref b88), .val (.long ((((p1.toInt64) + (p2.toInt64)) + (p3.toInt64)) + (p4.toInt64))), .second, .unset, .unset] []))
    refine own_by (fun _ k => XS.lload X87.here hx rfl (hb hby at_140) rfl k) ?_
    show own_Go p e below _ (T87.setTop (mkF m 142 #[.val (.int p0), .val (.int p1), .val (.int p2), .val (.int p3), .val (.int p4), .val (.int (4 : Int32)), .val (.ref b69), .val (.ref b88), .val (.long ((((p1.toInt64) + (p2.toInt64)) + (p3.toInt64)) + (p4.toInt64))), .second, .unset, .unset] [(.long ((((p1.toInt64) + (p2.toInt64)) + (p3.toInt64)) + (p4.toInt64)))]))
    refine own_by (fun _ k => XS.l2dS X87.here hx rfl (hb hby at_142) rfl rfl k) ?_
    show own_Go p e below _ (T87.setTop (mkF m 143 #[.val (.int p0), .val (.int p1), .val (.int p2), .val (.int p3), .val (.int p4), .val (.int (4 : Int32)), .val (.ref b69), .val (.ref b88), .val (.long ((((p1.toInt64) + (p2.toInt64)) + (p3.toInt64)) + (p4.toInt64))), .second, .unset, .unset] [(.double (FP.l2d ((((p1.toInt64) + (p2.toInt64)) + (p3.toInt64)) + (p4.toInt64))))]))
    refine own_by (fun _ k => XS.iload X87.here hx rfl (hb hby at_143) rfl k) ?_
    show own_Go p e below _ (T87.setTop (mkF m 145 #[.val (.int p0), .val (.int p1), .val (.int p2), .val (.int p3), .val (.int p4), .val (.int (4 : Int32)), .val (.ref b69), .val (.ref b88), .val (.long ((((p1.toInt64) + (p2.toInt64)) + (p3.toInt64)) + (p4.toInt64))), .second, .unset, .unset] [(.int (4 : Int32)), (.double (FP.l2d ((((p1.toInt64) + (p2.toInt64)) + (p3.toInt64)) + (p4.toInt64))))]))
    refine own_by (fun _ k => XS.i2dS X87.here hx rfl (hb hby at_145) rfl rfl k) ?_
    show own_Go p e below _ (T87.setTop (mkF m 146 #[.val (.int p0), .val (.int p1), .val (.int p2), .val (.int p3), .val (.int p4), .val (.int (4 : Int32)), .val (.ref b69), .val (.ref b88), .val (.long ((((p1.toInt64) + (p2.toInt64)) + (p3.toInt64)) + (p4.toInt64))), .second, .unset, .unset] [(.double (FP.i2d (4 : Int32))), (.double (FP.l2d ((((p1.toInt64) + (p2.toInt64)) + (p3.toInt64)) + (p4.toInt64))))]))
    refine own_by (fun _ k => XS.ddivS X87.here hx rfl (hb hby at_146) rfl (ob_0_22 p0 p1 p2 p3 p4 hv1) rfl k) ?_
    show own_Go p e below _ (T87.setTop (mkF m 147 #[.val (.int p0), .val (.int p1), .val (.int p2), .val (.int p3), .val (.int p4), .val (.int (4 : Int32)), .val (.ref b69), .val (.ref b88), .val (.long ((((p1.toInt64) + (p2.toInt64)) + (p3.toInt64)) + (p4.toInt64))), .second, .unset, .unset] [(.double (FP.ddiv (FP.l2d ((((p1.toInt64) + (p2.toInt64)) + (p3.toInt64)) + (p4.toInt64))) (FP.i2d (4 : Int32))))]))
    refine own_by (fun _ k => XS.dstore X87.here hx rfl (hb hby at_147) rfl (l' := #[.val (.int p0), .val (.int p1), .val (.int p2), .val (.int p3), .val (.int p4), .val (.int (4 : Int32)), .val (.ref b69), .val (.ref b88), .val (.long ((((p1.toInt64) + (p2.toInt64)) + (p3.toInt64)) + (p4.toInt64))), .second, .val (.double (FP.ddiv (FP.l2d ((((p1.toInt64) + (p2.toInt64)) + (p3.toInt64)) + (p4.toInt64))) (FP.i2d (4 : Int32)))), .second]) rfl k) ?_
    show own_Go p e below _ (T87.setTop (mkF m 149 #[.val (.int p0), .val (.int p1), .val (.int p2), .val (.int p3), .val (.int p4), .val (.int (4 : Int32)), .val (.ref b69), .val (.ref b88), .val (.long ((((p1.toInt64) + (p2.toInt64)) + (p3.toInt64)) + (p4.toInt64))), .second, .val (.double (FP.ddiv (FP.l2d ((((p1.toInt64) + (p2.toInt64)) + (p3.toInt64)) + (p4.toInt64))) (FP.i2d (4 : Int32)))), .second] []))
    refine own_by (fun _ k => XS.aload X87.here hx rfl (hb hby at_149) rfl rfl k) ?_
    show own_Go p e below _ (T87.setTop (mkF m 151 #[.val (.int p0), .val (.int p1), .val (.int p2), .val (.int p3), .val (.int p4), .val (.int (4 : Int32)), .val (.ref b69), .val (.ref b88), .val (.long ((((p1.toInt64) + (p2.toInt64)) + (p3.toInt64)) + (p4.toInt64))), .second, .val (.double (FP.ddiv (FP.l2d ((((p1.toInt64) + (p2.toInt64)) + (p3.toInt64)) + (p4.toInt64))) (FP.i2d (4 : Int32)))), .second] [(.ref b88)]))
    obtain ⟨cq94, kq94, qq94a, qq94b, qq94c⟩ := isOf hZ rfl F91
    obtain ⟨_, _, ⟨T94, L94, k94, n94⟩, -, X94, ⟨Lc94, hQ94, l94, y94, z94⟩, st94⟩ := X87.virtualBack hx (y := (⟨"java/util/OptionalDouble", "isPresent", "()Z"⟩ : MethodName)) (z := (⟨"java/util/OptionalDouble", "isPresent", "()Z"⟩ : MethodName)) hown (mvT hZ (hwd 22 rfl)) (mvT hZ (hwd 23 rfl)) (notFace_of_selects (args := #[]) (mvT hZ (hwd 25 rfl))) (mvT hZ (hwd 25 rfl)) (mvT hZ (hwd 24 rfl)) (by decide) (backOf (W := 0) (rm5 l Z A0 hw [] b88 (1 : Int32) T87.heap n0 Z87 F92) hZ (hwd 26 rfl) (hwd 19 rfl) (by decide) (by decide)) qq94a qq94c (g := (mkF m 151 #[.val (.int p0), .val (.int p1), .val (.int p2), .val (.int p3), .val (.int p4), .val (.int (4 : Int32)), .val (.ref b69), .val (.ref b88), .val (.long ((((p1.toInt64) + (p2.toInt64)) + (p3.toInt64)) + (p4.toInt64))), .second, .val (.double (FP.ddiv (FP.l2d ((((p1.toInt64) + (p2.toInt64)) + (p3.toInt64)) + (p4.toInt64))) (FP.i2d (4 : Int32)))), .second] [(.ref b88)])) rfl (by rw [hml]; rfl) (Steps.refl _) (argsL := []) (rest := []) (lenOf pd_22 rfl) rfl (by show 2 * 0 + _ ≤ _; exact Nat.le_of_eq rfl) (hb hby at_151) (fun _ _ => ⟨rfl, rfl, (by decide : 2 + 0 ≤ _), (by decide : 4 + 0 ≤ _)⟩)
    dsimp only [Pt.U, Pt.locs, Pt.cells, Pt.slots] at X94 l94 y94 z94 st94 hQ94
    subst l94 y94 z94
    obtain ⟨rfl, Nq94, eq94⟩ := hQ94
    have N94 := Fr.app N87 Nq94
    refine own_by (fun _ k => st94.trans k) ?_
    show own_Go p e below _ (T94.setTop (mkF m 154 #[.val (.int p0), .val (.int p1), .val (.int p2), .val (.int p3), .val (.int p4), .val (.int (4 : Int32)), .val (.ref b69), .val (.ref b88), .val (.long ((((p1.toInt64) + (p2.toInt64)) + (p3.toInt64)) + (p4.toInt64))), .second, .val (.double (FP.ddiv (FP.l2d ((((p1.toInt64) + (p2.toInt64)) + (p3.toInt64)) + (p4.toInt64))) (FP.i2d (4 : Int32)))), .second] [(.int (1 : Int32))]))
    refine own_by (fun _ k => XS.ifNo X94.here hx rfl (hb hby at_154) rfl ((if0 _ _).trans (feq (by decide : ¬ ((1 : Int32) = (0 : Int32)))).1) k) ?_
    show own_Go p e below _ (T94.setTop (mkF m 157 #[.val (.int p0), .val (.int p1), .val (.int p2), .val (.int p3), .val (.int p4), .val (.int (4 : Int32)), .val (.ref b69), .val (.ref b88), .val (.long ((((p1.toInt64) + (p2.toInt64)) + (p3.toInt64)) + (p4.toInt64))), .second, .val (.double (FP.ddiv (FP.l2d ((((p1.toInt64) + (p2.toInt64)) + (p3.toInt64)) + (p4.toInt64))) (FP.i2d (4 : Int32)))), .second] []))
    refine own_by (fun _ k => XS.aload X94.here hx rfl (hb hby at_157) rfl rfl k) ?_
    show own_Go p e below _ (T94.setTop (mkF m 159 #[.val (.int p0), .val (.int p1), .val (.int p2), .val (.int p3), .val (.int p4), .val (.int (4 : Int32)), .val (.ref b69), .val (.ref b88), .val (.long ((((p1.toInt64) + (p2.toInt64)) + (p3.toInt64)) + (p4.toInt64))), .second, .val (.double (FP.ddiv (FP.l2d ((((p1.toInt64) + (p2.toInt64)) + (p3.toInt64)) + (p4.toInt64))) (FP.i2d (4 : Int32)))), .second] [(.ref b88)]))
    obtain ⟨cq95, kq95, qq95a, qq95b, qq95c⟩ := isOf hZ eq94 F91
    obtain ⟨_, _, ⟨T95, L95, k95, n95⟩, -, X95, ⟨Lc95, hQ95, l95, y95, z95⟩, st95⟩ := X94.virtualBack hx (y := (⟨"java/util/OptionalDouble", "getAsDouble", "()D"⟩ : MethodName)) (z := (⟨"java/util/OptionalDouble", "getAsDouble", "()D"⟩ : MethodName)) hown (mvT hZ (hwd 48 rfl)) (mvT hZ (hwd 49 rfl)) (notFace_of_selects (args := #[]) (mvT hZ (hwd 51 rfl))) (mvT hZ (hwd 51 rfl)) (mvT hZ (hwd 50 rfl)) (by decide) (backOf (W := 0) (rm9 l Z A0 hw [] b88 (1 : Int32) (FP.ddiv (FP.dadd (FP.dadd (FP.dadd (FP.dadd (0 : UInt64) (FP.i2d p1)) (FP.i2d p2)) (FP.i2d p3)) (FP.i2d p4)) (FP.l2d (4 : Int64))) T87.heap n0 Z87 F92 (by decide) F93) hZ (hwd 52 rfl) (hwd 19 rfl) (by decide) (by decide)) qq95a qq95c (g := (mkF m 159 #[.val (.int p0), .val (.int p1), .val (.int p2), .val (.int p3), .val (.int p4), .val (.int (4 : Int32)), .val (.ref b69), .val (.ref b88), .val (.long ((((p1.toInt64) + (p2.toInt64)) + (p3.toInt64)) + (p4.toInt64))), .second, .val (.double (FP.ddiv (FP.l2d ((((p1.toInt64) + (p2.toInt64)) + (p3.toInt64)) + (p4.toInt64))) (FP.i2d (4 : Int32)))), .second] [(.ref b88)])) rfl (by rw [hml]; rfl) (Steps.refl _) (argsL := []) (rest := []) (lenOf pd_48 rfl) rfl (by show 2 * 0 + _ ≤ _; exact Nat.le_of_eq rfl) (hb hby at_159) (fun _ _ => ⟨rfl, eq94, (by decide : 2 + 0 ≤ _), (by decide : 4 + 0 ≤ _)⟩)
    dsimp only [Pt.U, Pt.locs, Pt.cells, Pt.slots] at X95 l95 y95 z95 st95 hQ95
    subst l95 y95 z95
    obtain ⟨rfl, Nq95, eq95⟩ := hQ95
    have N95 := Fr.app N94 Nq95
    refine own_by (fun _ k => st95.trans k) ?_
    show own_Go p e below _ (T95.setTop (mkF m 162 #[.val (.int p0), .val (.int p1), .val (.int p2), .val (.int p3), .val (.int p4), .val (.int (4 : Int32)), .val (.ref b69), .val (.ref b88), .val (.long ((((p1.toInt64) + (p2.toInt64)) + (p3.toInt64)) + (p4.toInt64))), .second, .val (.double (FP.ddiv (FP.l2d ((((p1.toInt64) + (p2.toInt64)) + (p3.toInt64)) + (p4.toInt64))) (FP.i2d (4 : Int32)))), .second] [(.double (FP.ddiv (FP.dadd (FP.dadd (FP.dadd (FP.dadd (0 : UInt64) (FP.i2d p1)) (FP.i2d p2)) (FP.i2d p3)) (FP.i2d p4)) (FP.l2d (4 : Int64))))]))
    refine own_by (fun _ k => XS.dload X95.here hx rfl (hb hby at_162) rfl k) ?_
    show own_Go p e below _ (T95.setTop (mkF m 164 #[.val (.int p0), .val (.int p1), .val (.int p2), .val (.int p3), .val (.int p4), .val (.int (4 : Int32)), .val (.ref b69), .val (.ref b88), .val (.long ((((p1.toInt64) + (p2.toInt64)) + (p3.toInt64)) + (p4.toInt64))), .second, .val (.double (FP.ddiv (FP.l2d ((((p1.toInt64) + (p2.toInt64)) + (p3.toInt64)) + (p4.toInt64))) (FP.i2d (4 : Int32)))), .second] [(.double (FP.ddiv (FP.l2d ((((p1.toInt64) + (p2.toInt64)) + (p3.toInt64)) + (p4.toInt64))) (FP.i2d (4 : Int32)))), (.double (FP.ddiv (FP.dadd (FP.dadd (FP.dadd (FP.dadd (0 : UInt64) (FP.i2d p1)) (FP.i2d p2)) (FP.i2d p3)) (FP.i2d p4)) (FP.l2d (4 : Int64))))]))
    refine own_by (fun _ k => XS.dcmpS X95.here hx rfl (hb hby at_164) rfl rfl k) ?_
    show own_Go p e below _ (T95.setTop (mkF m 165 #[.val (.int p0), .val (.int p1), .val (.int p2), .val (.int p3), .val (.int p4), .val (.int (4 : Int32)), .val (.ref b69), .val (.ref b88), .val (.long ((((p1.toInt64) + (p2.toInt64)) + (p3.toInt64)) + (p4.toInt64))), .second, .val (.double (FP.ddiv (FP.l2d ((((p1.toInt64) + (p2.toInt64)) + (p3.toInt64)) + (p4.toInt64))) (FP.i2d (4 : Int32)))), .second] [(.int (cmpValue (FP.dcmp (FP.ddiv (FP.dadd (FP.dadd (FP.dadd (FP.dadd (0 : UInt64) (FP.i2d p1)) (FP.i2d p2)) (FP.i2d p3)) (FP.i2d p4)) (FP.l2d (4 : Int64))) (FP.ddiv (FP.l2d ((((p1.toInt64) + (p2.toInt64)) + (p3.toInt64)) + (p4.toInt64))) (FP.i2d (4 : Int32)))) .l))]))
    by_cases c96 : (cmpValue (FP.dcmp (FP.ddiv (FP.dadd (FP.dadd (FP.dadd (FP.dadd (0 : UInt64) (FP.i2d p1)) (FP.i2d p2)) (FP.i2d p3)) (FP.i2d p4)) (FP.l2d (4 : Int64))) (FP.ddiv (FP.l2d ((((p1.toInt64) + (p2.toInt64)) + (p3.toInt64)) + (p4.toInt64))) (FP.i2d (4 : Int32)))) .l) = (0 : Int32)
    · skip
      refine own_by (fun _ k => XS.ifNo X95.here hx rfl (hb hby at_165) rfl ((if0 _ _).trans (teq c96).2) k) ?_
      show own_Go p e below _ (T95.setTop (mkF m 168 #[.val (.int p0), .val (.int p1), .val (.int p2), .val (.int p3), .val (.int p4), .val (.int (4 : Int32)), .val (.ref b69), .val (.ref b88), .val (.long ((((p1.toInt64) + (p2.toInt64)) + (p3.toInt64)) + (p4.toInt64))), .second, .val (.double (FP.ddiv (FP.l2d ((((p1.toInt64) + (p2.toInt64)) + (p3.toInt64)) + (p4.toInt64))) (FP.i2d (4 : Int32)))), .second] []))
      refine own_by (fun _ k => XS.iconst X95.here hx rfl (hb hby at_168) k) ?_
      show own_Go p e below _ (T95.setTop (mkF m 169 #[.val (.int p0), .val (.int p1), .val (.int p2), .val (.int p3), .val (.int p4), .val (.int (4 : Int32)), .val (.ref b69), .val (.ref b88), .val (.long ((((p1.toInt64) + (p2.toInt64)) + (p3.toInt64)) + (p4.toInt64))), .second, .val (.double (FP.ddiv (FP.l2d ((((p1.toInt64) + (p2.toInt64)) + (p3.toInt64)) + (p4.toInt64))) (FP.i2d (4 : Int32)))), .second] [(.int (1 : Int32))]))
      refine own_by (fun _ k => XS.goto X95.here hx rfl (pc0 := 169) (pc' := 173) rfl (hb hby at_169) (by decide) (by decide) k) ?_
      show own_Go p e below _ (T95.setTop (mkF m 173 #[.val (.int p0), .val (.int p1), .val (.int p2), .val (.int p3), .val (.int p4), .val (.int (4 : Int32)), .val (.ref b69), .val (.ref b88), .val (.long ((((p1.toInt64) + (p2.toInt64)) + (p3.toInt64)) + (p4.toInt64))), .second, .val (.double (FP.ddiv (FP.l2d ((((p1.toInt64) + (p2.toInt64)) + (p3.toInt64)) + (p4.toInt64))) (FP.i2d (4 : Int32)))), .second] [(.int (1 : Int32))]))
      exact own_retN X95 hx (t := .boolean) Bd.returns (by simp) (hb hby at_173) hlk eq95 ⟨rfl, N95⟩ (by decide) (by decide)
    · skip
      refine own_by (fun _ k => XS.ifYes X95.here hx rfl (pc0 := 165) (pc' := 172) rfl (hb hby at_165) rfl ((if0 _ _).trans (feq c96).2) (by decide) (by decide) k) ?_
      show own_Go p e below _ (T95.setTop (mkF m 172 #[.val (.int p0), .val (.int p1), .val (.int p2), .val (.int p3), .val (.int p4), .val (.int (4 : Int32)), .val (.ref b69), .val (.ref b88), .val (.long ((((p1.toInt64) + (p2.toInt64)) + (p3.toInt64)) + (p4.toInt64))), .second, .val (.double (FP.ddiv (FP.l2d ((((p1.toInt64) + (p2.toInt64)) + (p3.toInt64)) + (p4.toInt64))) (FP.i2d (4 : Int32)))), .second] []))
      refine own_by (fun _ k => XS.iconst X95.here hx rfl (hb hby at_172) k) ?_
      show own_Go p e below _ (T95.setTop (mkF m 173 #[.val (.int p0), .val (.int p1), .val (.int p2), .val (.int p3), .val (.int p4), .val (.int (4 : Int32)), .val (.ref b69), .val (.ref b88), .val (.long ((((p1.toInt64) + (p2.toInt64)) + (p3.toInt64)) + (p4.toInt64))), .second, .val (.double (FP.ddiv (FP.l2d ((((p1.toInt64) + (p2.toInt64)) + (p3.toInt64)) + (p4.toInt64))) (FP.i2d (4 : Int32)))), .second] [(.int (0 : Int32))]))
      exact own_retN X95 hx (t := .boolean) Bd.returns (by simp) (hb hby at_173) hlk eq95 ⟨((ob_0_23 p0 p1 p2 p3 p4 hv1 c96)).elim, N95⟩ (by decide) (by decide)
set_option maxRecDepth 65536 in
set_option maxHeartbeats 40000000 in
theorem comes_1 {Post : Tables → Env → Array Value → State → Outcome → State → Prop} (hpost : ∀ tb e args s v u, (limb_1_1.after args s (.returned v) u = true ∧ limb_1_2.after args s (.returned v) u = true ∧ True) → FrameEnd s (.returned v) u (Jvm.fieldLocs frame_1_writes args s ++ Jvm.arrayLocs frame_1_arrays args s ++ Jvm.staticLocs frame_1_statics s) 16 128 → Post tb e args s (.returned v) u) :
    ArmFor flags0 classFile x code maxLocals ret World_1 tables_1 room_1 Calls_1 rest_1 Pre_1 Post := by
  intro l hfl _ _ p e ha hc hk s m args below hf hA hF happ hP
  obtain ⟨hcalls, hrest, hpre⟩ := hP
  obtain ⟨-, -, -, hnamed, -, -, -, hat⟩ := (Spec.applies_iff hf).mp happ
  obtain ⟨hg, hn⟩ := and_e (Cond.before_iff.mp (show (Jvm.Cond.and given_1 narrow_1).before args s = true from hpre))
  obtain ⟨g0, r0⟩ := and_e hg
  obtain ⟨ga0, r1⟩ := and_e r0
  obtain ⟨ga1, r2⟩ := and_e r1
  obtain ⟨ga2, r3⟩ := and_e r2
  obtain ⟨ga3, r4⟩ := and_e r3
  obtain ⟨w0, w1, w2, w3, w4, rfl⟩ : ∃ w0 w1 w2 w3 w4 : Value, args = #[w0, w1, w2, w3, w4] := by
    have hs : args.size = 5 := by simpa [Cond.value, given_1] using g0
    obtain ⟨L⟩ := args
    match L, hs with
    | [w0, w1, w2, w3, w4], _ => exact ⟨w0, w1, w2, w3, w4, rfl⟩
  have hw := fun d (hd : d ∈ tables_1) => atoms_spec (ws := Jvm.Cond.code x code maxLocals ret :: tables_1) hat d (List.mem_cons_of_mem _ hd)
  have hwd := fun i {d : Jvm.Cond} (h : tables_1[i]? = some d) => hw d (List.mem_of_getElem? h)
  have hfit : Fit s := fun {y c} hc i hi => by
    obtain ⟨ha, rfl⟩ := Array.getElem?_eq_some_iff.mp hc
    have q := List.all_eq_true.mp ((Array.all_eq_true_iff_forall_mem.mp hF) _ (Array.getElem_mem ha)) i (List.mem_range.mpr hi)
    simpa [Array.getElem?_eq_getElem hi] using q
  obtain ⟨i0, ei0⟩ := is_v ga0
  obtain rfl : w0 = (.int i0) := Option.some.inj ei0
  obtain ⟨i1, ei1⟩ := is_v ga1
  obtain rfl : w1 = (.int i1) := Option.some.inj ei1
  obtain ⟨i2, ei2⟩ := is_v ga2
  obtain rfl : w2 = (.int i2) := Option.some.inj ei2
  obtain ⟨i3, ei3⟩ := is_v ga3
  obtain rfl : w3 = (.int i3) := Option.some.inj ei3
  obtain ⟨i4, ei4⟩ := is_v r4
  obtain rfl : w4 = (.int i4) := Option.some.inj ei4
  obtain ⟨hsets, hown0⟩ := atoms_of _ (rest_1_c_eq ▸ (show rest_1_c.before _ s = true from hrest))
  have se1 := hsets _ (List.mem_of_getElem? (i := 1) rfl)
  have se2 := hsets _ (List.mem_of_getElem? (i := 2) rfl)
  have se3 := hsets _ (List.mem_of_getElem? (i := 3) rfl)
  obtain ⟨f_EMPTY, ev0⟩ := exa_v (Cond.before_iff.mp se2)
  obtain ⟨n, o, h1, h2, h3, _, L, rfl, ⟨rfl, N⟩, hq⟩ := rm0 l s _ hw tables_1 f_EMPTY i0 i1 i2 i3 i4 s.heap s.heap.size (Nat.le_refl _) (Sta.start ev0 (Or.inl se1)) (Exa.start ev0 (Cond.before_iff.mp se2)) (own_fldEq (Cond.before_iff.mp se3) ev0) p e ha hc hk s m _ below hf ((Spec.applies_iff_loose hf).mp happ).1 ⟨rfl, State.Warmed39.refl s, rfl⟩ trivial
  refine ⟨n, _, h1, h2, h3, hpost _ _ _ _ _ _ ⟨Cond.after_iff.mpr rfl, Cond.after_iff.mpr (eq_i res_at (Term.int_eval (1)) rfl), trivial⟩ ⟨hq.1, hq.2.1, (hq.2.2.sift fun y hy => Or.inr (N y hy)).mono (by decide) (by decide)⟩⟩
theorem main_1_1 : Claimed_1_1 := comes_1 fun _ _ _ _ _ _ h hF => ⟨h.1, hF⟩
theorem main_1_2 : Claimed_1_2 := comes_1 fun _ _ _ _ _ _ h hF => ⟨h.2.1, hF⟩
end Jvm.Pilot.@@N@@
namespace Jvm.Pilot.@@N@@
open Jvm Jvm.ClassFile Sem Op Lib Jvm.Free Jvm.Stand Jvm.Pilot.@@N@@.Jvm.D
/-! MADE BY PROGRAM (witnessworld.py) out of the Statement's table words and the real class files: 10 classes; the members and pool entries that the words name. The judged class is class 1, her method 1. -/
namespace start1
open Jvm.ClassFile
def u (s : String) : CpInfo := .utf8 (stringToUtf16 s)
/-- a pool by its gaps: so many unusable entries, then the entry; so many at the end -/
def gap : Nat → List CpInfo → List CpInfo
  | 0, r => r
  | n + 1, r => .unusable :: gap n r
def poolList (es : List (Nat × CpInfo)) (last : Nat) : List CpInfo := es.foldr (fun e r => gap e.1 (e.2 :: r)) (gap last [])
def pool (es : List (Nat × CpInfo)) (last : Nat) : Array CpInfo := ⟨poolList es last⟩
def fileOf (pool : Array CpInfo) (this : Nat) (attrs : Array Attribute := #[]) (ms : Array MethodInfo := #[]) (fl : Nat := 33) (sup : Nat := 0) (ifs : Array Nat := #[]) (fds : Array FieldInfo := #[]) : ClassFile where
  minorVersion := 0
  majorVersion := 65
  constantPool := pool
  accessFlags := fl
  thisClass := this
  superClass := sup
  interfaces := ifs
  fields := fds
  methods := ms
  attributes := attrs
def plain (name : String) (sup : Option ClassId) : Class where
  name := name
  kind := .ordinary
  loader := none
  accessFlags := 33
  super := sup
  interfaces := #[]
  cf := none
  fields := #[]
  methods := #[]
  instanceTypes := #[]
  staticTypes := #[]
  resolved := #[]
  callSites := []
  init := .initialized
  statics := none
  mirror := none

def pool0 : Array CpInfo := pool [(5, u "<init>"), (0, u "()V"), (1, .class_ 10), (1, u "java/lang/Object")] 113

def k0c0 : Code := { maxStack := 0, maxLocals := 1, code := object_method_1_code, exceptionTable := #[], attributes := #[] }
def k0m0 : Method := { name := "<init>", desc := "()V", sig := { parameters := [], returnType := none }, accessFlags := 1, code := some k0c0 }
/-- java/lang/Object -/
def k0 : Class := { plain "java/lang/Object" none with
  accessFlags := 33
  interfaces := #[]
  cf := some (fileOf pool0 8 #[] #[{ accessFlags := 1, nameIndex := 5, descriptorIndex := 6, attributes := #[] }] 33 0 #[] #[])
  fields := #[]
  methods := #[k0m0]
  instanceTypes := #[]
  staticTypes := #[]
  resolved := Array.replicate 124 none
  statics := none }

def pool1 : Array CpInfo := pool [(2, .class_ 4), (0, .nameAndType 5 6), (0, u "java/lang/Object"), (0, u "<init>"), (0, u "()V"), (0, .integer 2147483647), (0, .class_ 9), (0, u "com/example/credence/credence/sim/Mean"), (0, .methodref 8 3), (0, .methodref 8 12), (0, .nameAndType 13 14), (0, u "add"), (0, u "(D)V"), (0, .methodref 8 16), (0, .nameAndType 17 18), (0, u "value"), (0, u "()Ljava/util/OptionalDouble;"), (0, .methodref 20 21), (0, .class_ 22), (0, .nameAndType 23 24), (0, u "java/util/OptionalDouble"), (0, u "isPresent"), (0, u "()Z"), (0, .methodref 20 26), (0, .nameAndType 27 28), (0, u "getAsDouble"), (0, u "()D"), (0, .class_ 30), (0, u "com/example/credence/credence/sim/MeanAddPinLaw"), (2, u "law"), (0, u "(IIIII)Z")] 3

def k1m0 : Method := { name := "<init>", desc := "()V", sig := { parameters := [], returnType := none }, accessFlags := 2, code := none }
def k1c1 : Code := { maxStack := 4, maxLocals := 12, code := code, exceptionTable := #[], attributes := #[] }
def k1m1 : Method := { name := "law", desc := "(IIIII)Z", sig := { parameters := [.int, .int, .int, .int, .int], returnType := some .boolean }, accessFlags := 9, code := some k1c1 }
/-- com/example/credence/credence/sim/MeanAddPinLaw -/
def k1 : Class := { plain "com/example/credence/credence/sim/MeanAddPinLaw" (some 0) with
  accessFlags := 49
  interfaces := #[]
  cf := some (fileOf pool1 29 #[] #[{ accessFlags := 2, nameIndex := 5, descriptorIndex := 6, attributes := #[] }, { accessFlags := 9, nameIndex := 33, descriptorIndex := 34, attributes := #[] }] 49 2 #[] #[])
  fields := #[]
  methods := #[k1m0, k1m1]
  instanceTypes := #[]
  staticTypes := #[]
  resolved := Array.replicate 38 none
  statics := none }

def pool2 : Array CpInfo := pool [(1, .methodref 2 3), (0, .class_ 4), (0, .nameAndType 5 6), (0, u "java/lang/Object"), (0, u "<init>"), (0, u "()V"), (0, .class_ 8), (0, u "com/example/credence/credence/sim/Mean"), (25, u "add"), (0, u "(D)V"), (2, u "value"), (0, u "()Ljava/util/OptionalDouble;"), (0, .class_ 41), (0, u "java/util/OptionalDouble"), (14, .fieldref 7 57), (0, .nameAndType 58 59), (0, u "sum"), (0, u "D"), (0, .fieldref 7 61), (0, .nameAndType 62 63), (0, u "count"), (0, u "J"), (0, .methodref 40 65), (0, .nameAndType 66 39), (0, u "empty"), (0, .methodref 40 68), (0, .nameAndType 69 70), (0, u "of"), (0, u "(D)Ljava/util/OptionalDouble;")] 26

def k2c0 : Code := { maxStack := 1, maxLocals := 1, code := prog_30_method_1_code, exceptionTable := #[], attributes := #[] }
def k2m0 : Method := { name := "<init>", desc := "()V", sig := { parameters := [], returnType := none }, accessFlags := 0, code := some k2c0 }
def k2c1 : Code := { maxStack := 5, maxLocals := 3, code := prog_30_method_4_code, exceptionTable := #[], attributes := #[] }
def k2m1 : Method := { name := "add", desc := "(D)V", sig := { parameters := [.double], returnType := none }, accessFlags := 0, code := some k2c1 }
def k2c2 : Code := { maxStack := 4, maxLocals := 1, code := prog_30_method_5_code, exceptionTable := #[], attributes := #[] }
def k2m2 : Method := { name := "value", desc := "()Ljava/util/OptionalDouble;", sig := { parameters := [], returnType := some (.object "java/util/OptionalDouble") }, accessFlags := 0, code := some k2c2 }
/-- com/example/credence/credence/sim/Mean -/
def k2 : Class := { plain "com/example/credence/credence/sim/Mean" (some 0) with
  accessFlags := 48
  interfaces := #[]
  cf := some (fileOf pool2 7 #[] #[{ accessFlags := 0, nameIndex := 5, descriptorIndex := 6, attributes := #[] }, { accessFlags := 0, nameIndex := 34, descriptorIndex := 35, attributes := #[] }, { accessFlags := 0, nameIndex := 38, descriptorIndex := 39, attributes := #[] }] 48 2 #[] #[{ accessFlags := 2, nameIndex := 58, descriptorIndex := 59, attributes := #[] }, { accessFlags := 2, nameIndex := 62, descriptorIndex := 63, attributes := #[] }])
  fields := #[{ name := "sum", type := .double, accessFlags := 2, slot := 0, constantValue := 0 }, { name := "count", type := .long, accessFlags := 2, slot := 1, constantValue := 0 }]
  methods := #[k2m0, k2m1, k2m2]
  instanceTypes := #[.double, .long]
  staticTypes := #[]
  resolved := Array.replicate 97 none
  statics := none }

def pool3 : Array CpInfo := pool [(1, .methodref 2 3), (0, .class_ 4), (0, .nameAndType 5 6), (0, u "java/lang/Object"), (0, u "<init>"), (0, u "()V"), (0, .fieldref 8 9), (0, .class_ 10), (0, .nameAndType 11 12), (0, u "java/util/OptionalDouble"), (0, u "isPresent"), (0, u "Z"), (4, .fieldref 8 18), (0, .nameAndType 19 20), (0, u "value"), (0, u "D"), (0, .fieldref 8 22), (0, .nameAndType 23 24), (0, u "EMPTY"), (0, u "Ljava/util/OptionalDouble;"), (0, .methodref 8 26), (0, .nameAndType 5 27), (0, u "(D)V"), (21, u "of"), (3, u "empty"), (5, u "getAsDouble"), (0, u "()D"), (41, u "()Ljava/util/OptionalDouble;"), (0, u "(D)Ljava/util/OptionalDouble;"), (1, u "()Z")] 38

def k3m0 : Method := { name := "<init>", desc := "()V", sig := { parameters := [], returnType := none }, accessFlags := 2, code := none }
def k3c1 : Code := { maxStack := 1, maxLocals := 0, code := jdk_2648_method_2_code, exceptionTable := #[], attributes := #[] }
def k3m1 : Method := { name := "empty", desc := "()Ljava/util/OptionalDouble;", sig := { parameters := [], returnType := some (.object "java/util/OptionalDouble") }, accessFlags := 9, code := some k3c1 }
def k3c2 : Code := { maxStack := 3, maxLocals := 3, code := jdk_2648_method_3_code, exceptionTable := #[], attributes := #[] }
def k3m2 : Method := { name := "<init>", desc := "(D)V", sig := { parameters := [.double], returnType := none }, accessFlags := 2, code := some k3c2 }
def k3c3 : Code := { maxStack := 4, maxLocals := 2, code := jdk_2648_method_4_code, exceptionTable := #[], attributes := #[] }
def k3m3 : Method := { name := "of", desc := "(D)Ljava/util/OptionalDouble;", sig := { parameters := [.double], returnType := some (.object "java/util/OptionalDouble") }, accessFlags := 9, code := some k3c3 }
def k3c4 : Code := { maxStack := 3, maxLocals := 1, code := jdk_2648_method_5_code, exceptionTable := #[], attributes := #[] }
def k3m4 : Method := { name := "getAsDouble", desc := "()D", sig := { parameters := [], returnType := some .double }, accessFlags := 1, code := some k3c4 }
def k3c5 : Code := { maxStack := 1, maxLocals := 1, code := jdk_2648_method_6_code, exceptionTable := #[], attributes := #[] }
def k3m5 : Method := { name := "isPresent", desc := "()Z", sig := { parameters := [], returnType := some .boolean }, accessFlags := 1, code := some k3c5 }
/-- java/util/OptionalDouble -/
def k3 : Class := { plain "java/util/OptionalDouble" (some 0) with
  accessFlags := 49
  interfaces := #[]
  cf := some (fileOf pool3 8 #[] #[{ accessFlags := 2, nameIndex := 5, descriptorIndex := 6, attributes := #[] }, { accessFlags := 9, nameIndex := 53, descriptorIndex := 102, attributes := #[] }, { accessFlags := 2, nameIndex := 5, descriptorIndex := 27, attributes := #[] }, { accessFlags := 9, nameIndex := 49, descriptorIndex := 103, attributes := #[] }, { accessFlags := 1, nameIndex := 59, descriptorIndex := 60, attributes := #[] }, { accessFlags := 1, nameIndex := 11, descriptorIndex := 105, attributes := #[] }] 49 2 #[] #[{ accessFlags := 26, nameIndex := 23, descriptorIndex := 24, attributes := #[] }, { accessFlags := 18, nameIndex := 11, descriptorIndex := 12, attributes := #[] }, { accessFlags := 18, nameIndex := 19, descriptorIndex := 20, attributes := #[] }])
  fields := #[{ name := "EMPTY", type := (.object "java/util/OptionalDouble"), accessFlags := 26, slot := 0, constantValue := 0 }, { name := "isPresent", type := .boolean, accessFlags := 18, slot := 0, constantValue := 0 }, { name := "value", type := .double, accessFlags := 18, slot := 1, constantValue := 0 }]
  methods := #[k3m0, k3m1, k3m2, k3m3, k3m4, k3m5]
  instanceTypes := #[.boolean, .double]
  staticTypes := #[(.object "java/util/OptionalDouble")]
  resolved := Array.replicate 144 none
  statics := some 0 }

def pool4 : Array CpInfo := pool [(1, u "java/lang/Cloneable"), (0, .class_ 1), (0, u "java/lang/Object"), (0, .class_ 3)] 3

/-- java/lang/Cloneable -/
def k4 : Class := { plain "java/lang/Cloneable" (some 0) with
  accessFlags := 1537
  interfaces := #[]
  cf := some (fileOf pool4 2 #[] #[] 1537 4 #[] #[])
  fields := #[]
  methods := #[]
  instanceTypes := #[]
  staticTypes := #[]
  resolved := Array.replicate 8 none
  statics := none }

def pool5 : Array CpInfo := pool [(1, u "java/io/Serializable"), (0, .class_ 1), (0, u "java/lang/Object"), (0, .class_ 3)] 3

/-- java/io/Serializable -/
def k5 : Class := { plain "java/io/Serializable" (some 0) with
  accessFlags := 1537
  interfaces := #[]
  cf := some (fileOf pool5 2 #[] #[] 1537 4 #[] #[])
  fields := #[]
  methods := #[]
  instanceTypes := #[]
  staticTypes := #[]
  resolved := Array.replicate 8 none
  statics := none }

/-- the primitive byte -/
def k6 : Class := { plain "byte" none with kind := .primitive 'B', accessFlags := 0x411 }
/-- [B -/
def k7 : Class := { plain "[B" (some 0) with kind := .array 6 .byte, interfaces := #[4, 5], accessFlags := 1041 }

/-- the primitive int -/
def k8 : Class := { plain "int" none with kind := .primitive 'I', accessFlags := 0x411 }
/-- [I -/
def k9 : Class := { plain "[I" (some 0) with kind := .array 8 .int, interfaces := #[4, 5], accessFlags := 1041 }

def heap : Heap := #[{ cls := 3, slots := #[.ref 1], vm := .statics 3 },
  { cls := 3, slots := #[.int 0, .double 0], vm := .none }]
def classes : Array Class := #[k0, k1, k2, k3, k4, k5, k6, k7, k8, k9]
def interned : List (Array UInt16 × Addr) := []
def slotsUsed : Nat := 3
def theMethod : MethodId := ⟨1, 1⟩
def args0 : Array Value := #[.int 3, .int 4, .int 5, .int 6, .int 7]
def aboutOver (below : List Frame) : State where
  vm := { classes := classes, interned := interned.toArray }
  heap := heap
  slotsUsed := slotsUsed
  threads := #[{ frames := .invoking theMethod args0 :: below }]
def below0 : List Frame := [.native { method := ⟨0, 0⟩, args := #[] }]
def about1 : State := aboutOver below0
def p0 : Program := .bare "" "" ""
def e0 : Env := launch0.env 0 0 0
theorem w_frames : about1.frames = Frame.invoking theMethod args0 :: below0 := rfl
set_option maxRecDepth 65536 in
theorem w_args : argsFit about1.vm theMethod args0 = true := by decide +kernel
set_option maxRecDepth 65536 in
theorem w_heap : heapFits about1 = true := by decide +kernel
set_option maxRecDepth 65536 in
theorem w_runnable : about1.curStatus? = some .runnable := by decide +kernel
set_option maxRecDepth 65536 in
theorem w_alone : about1.alone = true := by decide +kernel
set_option maxRecDepth 65536 in
theorem w_named : about1.methodNamed? x = some theMethod := by decide +kernel
set_option maxRecDepth 65536 in
theorem w_hears : about1.hears theMethod below0 = true := by decide +kernel
set_option maxRecDepth 65536 in
theorem w_ripe : about1.ripe theMethod args0 below0 = true := by decide +kernel
theorem w_running : about1.status = .running := rfl
set_option maxRecDepth 65536 in
theorem w_room : about1.hasRoom e0.platform room_1 = true :=
  launch0.hasRoom_least _ room_1 (by decide +kernel) (by decide +kernel) (by decide +kernel) (by decide +kernel) (by decide +kernel) (by decide +kernel)
theorem allAtoms_all (ts : List Jvm.Cond) (a : Array Jvm.Value) (st : Jvm.State) : (allAtoms ts).before a st = ts.all (fun c => c.before a st) := by
  induction ts with
  | nil => rfl
  | cons c t ih =>
    show (Jvm.Cond.and c (allAtoms t)).before a st = _
    rw [Jvm.Cond.before_and, ih, List.all_cons]
def words1 : List Jvm.Cond := Jvm.Cond.code x code maxLocals ret :: tables_1
/-- a 'code' word, met by the world's own term for the bytes: nothing is compared byte by byte -/
theorem code_word {y : MethodName} {bytes : ByteArray} {mx : Nat} {rt : Option FieldType} {a : Array Value} {s : State} {m : MethodId} {meth : Method} {c : Code} (h1 : s.methodNamed? y = some m) (h2 : s.vm.method? m = some meth) (h3 : meth.code = some c) (h4 : c.code = bytes)
    (h5 : (c.maxLocals == mx && c.exceptionTable.isEmpty && decide (c.maxStack ≤ mostOperands) && decide (meth.sig.returnType = rt) && !meth.locks && decide (parseMethodDescriptor y.desc = some meth.sig)) = true) : (Jvm.Cond.code y bytes mx rt).before a s = true := by
  simp only [Bool.and_eq_true, beq_iff_eq, Bool.not_eq_true', decide_eq_true_eq] at h5
  obtain ⟨⟨⟨⟨⟨g1, g2⟩, g3⟩, g4⟩, g5⟩, g6⟩ := h5
  simp [Cond.before, Cond.holds, Cond.value, h1, h2, h3, h4, g1, g2, g3, g4, g5, g6]
def isCode : Jvm.Cond → Bool
  | .code _ _ _ _ => true
  | _ => false
theorem all_split {L : List Jvm.Cond} {P : Jvm.Cond → Bool} (h1 : L.all (fun c => isCode c || P c) = true) (h2 : ∀ c ∈ L.filter isCode, P c = true) : L.all P = true := by
  refine List.all_eq_true.mpr fun c hc => ?_
  have h := List.all_eq_true.mp h1 c hc
  rcases Bool.eq_false_or_eq_true (isCode c) with hi | hi
  · exact h2 c (List.mem_filter.mpr ⟨hc, hi⟩)
  · simpa [hi] using h
set_option maxRecDepth 65536 in
theorem w_c0 : (Jvm.Cond.code x code maxLocals ret).before args0 about1 = true := code_word (m := ⟨1, 1⟩) (meth := k1m1) (c := k1c1) (by decide +kernel) rfl rfl rfl (by decide +kernel)
set_option maxRecDepth 65536 in
theorem w_c1 : (Jvm.Cond.code ({ cls := "com/example/credence/credence/sim/Mean", name := "<init>", desc := "()V" } : Jvm.MethodName) prog_30_method_1_code (1 : Nat) (Option.none : Option Jvm.ClassFile.FieldType)).before args0 about1 = true := code_word (m := ⟨2, 0⟩) (meth := k2m0) (c := k2c0) (by decide +kernel) rfl rfl rfl (by decide +kernel)
set_option maxRecDepth 65536 in
theorem w_c2 : (Jvm.Cond.code ({ cls := "java/lang/Object", name := "<init>", desc := "()V" } : Jvm.MethodName) object_method_1_code (1 : Nat) (Option.none : Option Jvm.ClassFile.FieldType)).before args0 about1 = true := code_word (m := ⟨0, 0⟩) (meth := k0m0) (c := k0c0) (by decide +kernel) rfl rfl rfl (by decide +kernel)
set_option maxRecDepth 65536 in
theorem w_c3 : (Jvm.Cond.code ({ cls := "com/example/credence/credence/sim/Mean", name := "value", desc := "()Ljava/util/OptionalDouble;" } : Jvm.MethodName) prog_30_method_5_code (1 : Nat) (Option.some (Jvm.ClassFile.FieldType.object "java/util/OptionalDouble"))).before args0 about1 = true := code_word (m := ⟨2, 2⟩) (meth := k2m2) (c := k2c2) (by decide +kernel) rfl rfl rfl (by decide +kernel)
set_option maxRecDepth 65536 in
theorem w_c4 : (Jvm.Cond.code ({ cls := "java/util/OptionalDouble", name := "empty", desc := "()Ljava/util/OptionalDouble;" } : Jvm.MethodName) jdk_2648_method_2_code (0 : Nat) (Option.some (Jvm.ClassFile.FieldType.object "java/util/OptionalDouble"))).before args0 about1 = true := code_word (m := ⟨3, 1⟩) (meth := k3m1) (c := k3c1) (by decide +kernel) rfl rfl rfl (by decide +kernel)
set_option maxRecDepth 65536 in
theorem w_c5 : (Jvm.Cond.code ({ cls := "java/util/OptionalDouble", name := "isPresent", desc := "()Z" } : Jvm.MethodName) jdk_2648_method_6_code (1 : Nat) (Option.some Jvm.ClassFile.FieldType.boolean)).before args0 about1 = true := code_word (m := ⟨3, 5⟩) (meth := k3m5) (c := k3c5) (by decide +kernel) rfl rfl rfl (by decide +kernel)
set_option maxRecDepth 65536 in
theorem w_c6 : (Jvm.Cond.code ({ cls := "com/example/credence/credence/sim/Mean", name := "add", desc := "(D)V" } : Jvm.MethodName) prog_30_method_4_code (3 : Nat) (Option.none : Option Jvm.ClassFile.FieldType)).before args0 about1 = true := code_word (m := ⟨2, 1⟩) (meth := k2m1) (c := k2c1) (by decide +kernel) rfl rfl rfl (by decide +kernel)
set_option maxRecDepth 65536 in
theorem w_c7 : (Jvm.Cond.code ({ cls := "java/util/OptionalDouble", name := "of", desc := "(D)Ljava/util/OptionalDouble;" } : Jvm.MethodName) jdk_2648_method_4_code (2 : Nat) (Option.some (Jvm.ClassFile.FieldType.object "java/util/OptionalDouble"))).before args0 about1 = true := code_word (m := ⟨3, 3⟩) (meth := k3m3) (c := k3c3) (by decide +kernel) rfl rfl rfl (by decide +kernel)
set_option maxRecDepth 65536 in
theorem w_c8 : (Jvm.Cond.code ({ cls := "java/util/OptionalDouble", name := "<init>", desc := "(D)V" } : Jvm.MethodName) jdk_2648_method_3_code (3 : Nat) (Option.none : Option Jvm.ClassFile.FieldType)).before args0 about1 = true := code_word (m := ⟨3, 2⟩) (meth := k3m2) (c := k3c2) (by decide +kernel) rfl rfl rfl (by decide +kernel)
set_option maxRecDepth 65536 in
theorem w_c9 : (Jvm.Cond.code ({ cls := "java/util/OptionalDouble", name := "getAsDouble", desc := "()D" } : Jvm.MethodName) jdk_2648_method_5_code (1 : Nat) (Option.some Jvm.ClassFile.FieldType.double)).before args0 about1 = true := code_word (m := ⟨3, 4⟩) (meth := k3m4) (c := k3c4) (by decide +kernel) rfl rfl rfl (by decide +kernel)
def codes1 : List Jvm.Cond := [Jvm.Cond.code x code maxLocals ret, Jvm.Cond.code ({ cls := "com/example/credence/credence/sim/Mean", name := "<init>", desc := "()V" } : Jvm.MethodName) prog_30_method_1_code (1 : Nat) (Option.none : Option Jvm.ClassFile.FieldType), Jvm.Cond.code ({ cls := "java/lang/Object", name := "<init>", desc := "()V" } : Jvm.MethodName) object_method_1_code (1 : Nat) (Option.none : Option Jvm.ClassFile.FieldType), Jvm.Cond.code ({ cls := "com/example/credence/credence/sim/Mean", name := "value", desc := "()Ljava/util/OptionalDouble;" } : Jvm.MethodName) prog_30_method_5_code (1 : Nat) (Option.some (Jvm.ClassFile.FieldType.object "java/util/OptionalDouble")), Jvm.Cond.code ({ cls := "java/util/OptionalDouble", name := "empty", desc := "()Ljava/util/OptionalDouble;" } : Jvm.MethodName) jdk_2648_method_2_code (0 : Nat) (Option.some (Jvm.ClassFile.FieldType.object "java/util/OptionalDouble")), Jvm.Cond.code ({ cls := "java/util/OptionalDouble", name := "isPresent", desc := "()Z" } : Jvm.MethodName) jdk_2648_method_6_code (1 : Nat) (Option.some Jvm.ClassFile.FieldType.boolean), Jvm.Cond.code ({ cls := "com/example/credence/credence/sim/Mean", name := "add", desc := "(D)V" } : Jvm.MethodName) prog_30_method_4_code (3 : Nat) (Option.none : Option Jvm.ClassFile.FieldType), Jvm.Cond.code ({ cls := "java/util/OptionalDouble", name := "of", desc := "(D)Ljava/util/OptionalDouble;" } : Jvm.MethodName) jdk_2648_method_4_code (2 : Nat) (Option.some (Jvm.ClassFile.FieldType.object "java/util/OptionalDouble")), Jvm.Cond.code ({ cls := "java/util/OptionalDouble", name := "<init>", desc := "(D)V" } : Jvm.MethodName) jdk_2648_method_3_code (3 : Nat) (Option.none : Option Jvm.ClassFile.FieldType), Jvm.Cond.code ({ cls := "java/util/OptionalDouble", name := "getAsDouble", desc := "()D" } : Jvm.MethodName) jdk_2648_method_5_code (1 : Nat) (Option.some Jvm.ClassFile.FieldType.double)]
set_option maxRecDepth 65536 in
theorem codes_eq : words1.filter isCode = codes1 := rfl
theorem w_codes : ∀ c ∈ words1.filter isCode, c.before args0 about1 = true := by
  rw [codes_eq]
  intro c hc
  simp only [codes1, List.mem_cons, List.not_mem_nil, or_false] at hc
  rcases hc with rfl | rfl | rfl | rfl | rfl | rfl | rfl | rfl | rfl | rfl
  · exact w_c0
  · exact w_c1
  · exact w_c2
  · exact w_c3
  · exact w_c4
  · exact w_c5
  · exact w_c6
  · exact w_c7
  · exact w_c8
  · exact w_c9
set_option maxRecDepth 65536 in
theorem w_t1 : (words1.take 24).all (fun c => isCode c || c.before args0 about1) = true := by decide +kernel
set_option maxRecDepth 65536 in
theorem w_t2 : ((words1.drop 24).take 24).all (fun c => isCode c || c.before args0 about1) = true := by decide +kernel
set_option maxRecDepth 65536 in
theorem w_t3 : ((words1.drop 24).drop 24).all (fun c => isCode c || c.before args0 about1) = true := by decide +kernel
theorem w_tables : (allAtoms (Jvm.Cond.code x code maxLocals ret :: tables_1)).before args0 about1 = true := by
  rw [allAtoms_all]
  show words1.all (fun c => c.before args0 about1) = true
  refine all_split ?_ w_codes
  rw [← List.take_append_drop 24 words1, List.all_append, w_t1, ← List.take_append_drop 24 (words1.drop 24), List.all_append, w_t2, w_t3]
  rfl
set_option maxRecDepth 65536 in
theorem w_rest : rest_1_c.before args0 about1 = true := by decide +kernel
set_option maxRecDepth 65536 in
theorem w_case : (Jvm.Cond.and given_1 narrow_1).before args0 about1 = true := by decide +kernel
theorem w_applies : (headSpec (Jvm.Cond.code x code maxLocals ret :: tables_1) room_1).applies x e0.platform about1 = true :=
  (Spec.applies_iff w_frames).mpr ⟨w_running, w_runnable, w_alone, w_named, w_hears, w_ripe, w_room, w_tables⟩
theorem atStart : AtStart classFile x code maxLocals ret World_1 tables_1 room_1 Calls_1 rest_1 Pre_1 launch0 p0 e0 about1 theMethod args0 below0 :=
  ⟨lists_1, trivial, launch0.admits_env _ _ _, launch0.least_env, fairChoices_fair.cas, fairChoices_fair.clock, w_frames, w_args, w_heap, w_applies, trivial, w_rest, w_case⟩
end start1
theorem witness_1 : WitnessClaimed_1 := ⟨start1.p0, start1.e0, start1.about1, start1.theMethod, start1.args0, start1.below0, start1.atStart⟩
end Jvm.Pilot.@@N@@
