import JvmDerived
import JvmDerived.Pilot.@@N@@Statement
import JvmDerived.Pilot.@@N@@Code
set_option linter.unusedVariables false
set_option linter.unusedSimpArgs false
@@BLOCK:TracedD.lean.txt@@
namespace Jvm.Pilot.@@N@@
open Jvm Jvm.ClassFile Sem Op Lib Jvm.Free Jvm.Stand Jvm.LawKit Jvm.RoadKit Bundle Jvm.Pilot.@@N@@.Jvm.D
def own_Go (p : Program) (e : Env) (below : List Frame) (P : Outcome → State → Prop) (st : State) : Prop :=
  ∃ s₂ o, Steps p.tables e below st s₂ ∧ s₂.status = .running ∧ Ended s₂ below o ∧ P o s₂
def own_Fin (s : State) (C S : Nat) (Q : Option Value → Heap → List Loc → Prop) (o : Outcome) (U : State) : Prop := ∃ v L, o = .returned v ∧ Q v U.heap L ∧ FrameEnd s o U L C S
def own_upd {α : Type} (f : Nat → α) (j : Nat) (v : α) : Nat → α := fun i => if i = j then v else f i
def own_Arf (Z : State) (h : Heap) (a : Addr) (k : ClassId) (ty : FieldType) (n : Int32) (f : Nat → Value) : Prop := ∃ c : Cell, Arr Z h a c ty ∧ c.cls = k ∧ c.slots.size = n.toNatClampNeg ∧ ¬ n < 0 ∧ (∀ i, i < c.slots.size → c.slots[i]? = some (f i)) ∧ ∀ i, i < c.slots.size → fits ty (f i) = true
section OwnKit
variable {p : Program} {l : Launch} {e : Env} {R : Room} {s : State} {m : MethodId} {args : Array Value} {below : List Frame} {meth : Method} {c : Code} {T : State} {locs : List Loc} {cells slots C S : Nat} {P : Outcome → State → Prop} {Q : Option Value → Heap → List Loc → Prop} {Z : State} {h h' : Heap} {a b : Addr} {k : ClassId} {ty : FieldType} {n : Int32} {ws : List Addr}
theorem own_by {st st' : State} (f : ∀ t, Steps p.tables e below st' t → Steps p.tables e below st t) (g : own_Go p e below P st') : own_Go p e below P st := by
  obtain ⟨s₂, o, h1, h2⟩ := g
  exact ⟨s₂, o, f _ h1, h2⟩
theorem own_mono (X : Stand p l e R s m args below meth c T locs cells slots) {c' s' : Nat} (hc : cells ≤ c') (hs : slots ≤ s') : Stand p l e R s m args below meth c T locs c' s' := { X with same := X.same.mono hc hs }
theorem own_end (X : Stand p l e R s m args below meth c T locs cells slots) {v : Option Value} (hv : meth.sig.returnType = none → v = none) (hlk : meth.locks = false) (eT : T.heap = h) (hQ : Q v h locs) (hc : cells ≤ C) (hs : slots ≤ S)
    {g : JFrame} (st : ∀ fs, (∀ (f : JFrame) (acts : List Action), f.method = m → f.locked = none → f.entered = [] → (doReturn e (T.setTop f) acts v).1 = T.setFrames fs) → Steps p.tables e below (T.setTop g) (T.setFrames fs)) : own_Go p e below (own_Fin s C S Q) (T.setTop g) := by
  obtain ⟨fs, hr, hrun, hended, hW, hsame⟩ := X.leave (v := v) hv hlk
  refine ⟨_, _, st fs hr, hrun, hended, v, locs, rfl, ?_, ⟨_, rfl⟩, hW, hsame.mono hc hs⟩
  show Q v T.heap locs
  rw [eT]; exact hQ
theorem own_retN (X : Stand p l e R s m args below meth c T locs cells slots) (hx : p.tables.exec = Jvm.exec) {pc : Nat} {Ls : Array Slot} {z : Int32} {t : FieldType} {rest : List Value} (hret : meth.sig.returnType = some t) (ht : t = .boolean ∨ t = .byte ∨ t = .char ∨ t = .short) (hd : decode c.code pc = .ok (.ireturn, 1)) (hlk : meth.locks = false) (eT : T.heap = h) (hQ : Q (some (.int (nar t z))) h locs) (hc : cells ≤ C) (hs : slots ≤ S) : own_Go p e below (own_Fin s C S Q) (T.setTop (mkF m pc Ls (.int z :: rest))) :=
  own_end X (fun h => by rw [hret] at h; cases h) hlk eT hQ hc hs fun fs hr => retN X hx hret ht hd hr
theorem own_retI (X : Stand p l e R s m args below meth c T locs cells slots) (hx : p.tables.exec = Jvm.exec) {pc : Nat} {Ls : Array Slot} {z : Int32} {rest : List Value} (hret : meth.sig.returnType = some .int) (hd : decode c.code pc = .ok (.ireturn, 1)) (hlk : meth.locks = false) (eT : T.heap = h) (hQ : Q (some (.int z)) h locs) (hc : cells ≤ C) (hs : slots ≤ S) : own_Go p e below (own_Fin s C S Q) (T.setTop (mkF m pc Ls (.int z :: rest))) :=
  own_end X (fun h => by rw [hret] at h; cases h) hlk eT hQ hc hs fun fs hr => retOut X hx hret rfl (Or.inl ⟨rfl, Or.inl rfl, _, rfl⟩) hd hr
theorem own_retJ (X : Stand p l e R s m args below meth c T locs cells slots) (hx : p.tables.exec = Jvm.exec) {pc : Nat} {Ls : Array Slot} {z : Int64} {rest : List Value} (hret : meth.sig.returnType = some .long) (hd : decode c.code pc = .ok (.lreturn, 1)) (hlk : meth.locks = false) (eT : T.heap = h) (hQ : Q (some (.long z)) h locs) (hc : cells ≤ C) (hs : slots ≤ S) : own_Go p e below (own_Fin s C S Q) (T.setTop (mkF m pc Ls (.long z :: rest))) :=
  own_end X (fun h => by rw [hret] at h; cases h) hlk eT hQ hc hs fun fs hr => retOut X hx hret rfl (Or.inr (Or.inl ⟨rfl, rfl, _, rfl⟩)) hd hr
theorem own_retD (X : Stand p l e R s m args below meth c T locs cells slots) (hx : p.tables.exec = Jvm.exec) {pc : Nat} {Ls : Array Slot} {z : UInt64} {rest : List Value} (hret : meth.sig.returnType = some .double) (hd : decode c.code pc = .ok (.dreturn, 1)) (hlk : meth.locks = false) (eT : T.heap = h) (hQ : Q (some (.double z)) h locs) (hc : cells ≤ C) (hs : slots ≤ S) : own_Go p e below (own_Fin s C S Q) (T.setTop (mkF m pc Ls (.double z :: rest))) :=
  own_end X (fun h => by rw [hret] at h; cases h) hlk eT hQ hc hs fun fs hr => retOut X hx hret rfl (Or.inr (Or.inr (Or.inl ⟨rfl, rfl, _, rfl⟩))) hd hr
theorem own_retR (X : Stand p l e R s m args below meth c T locs cells slots) (hx : p.tables.exec = Jvm.exec) {pc : Nat} {Ls : Array Slot} {w : Value} {t : FieldType} {rest : List Value} (hret : meth.sig.returnType = some t) (ht : t.isReference = true) (hw : w.isRef = true) (hd : decode c.code pc = .ok (.areturn, 1)) (hlk : meth.locks = false) (eT : T.heap = h) (hQ : Q (some w) h locs) (hc : cells ≤ C) (hs : slots ≤ S) : own_Go p e below (own_Fin s C S Q) (T.setTop (mkF m pc Ls (w :: rest))) :=
  own_end X (fun h => by rw [hret] at h; cases h) hlk eT hQ hc hs fun fs hr => retOut X hx hret (by cases t <;> first | rfl | (cases w <;> first | rfl | cases hw) | (cases ht)) (Or.inr (Or.inr (Or.inr (Or.inr ⟨rfl, ht, hw⟩)))) hd hr
theorem own_ret0 (X : Stand p l e R s m args below meth c T locs cells slots) (hx : p.tables.exec = Jvm.exec) {pc : Nat} {Ls : Array Slot} (hret : meth.sig.returnType = none) (hd : decode c.code pc = .ok (.return_, 1)) (hlk : meth.locks = false) (eT : T.heap = h) (hQ : Q none h locs) (hc : cells ≤ C) (hs : slots ≤ S) : own_Go p e below (own_Fin s C S Q) (T.setTop (mkF m pc Ls [])) :=
  own_end X (fun _ => rfl) hlk eT hQ hc hs fun fs hr => X.returnOut hx hret hd hr
theorem own_one {z : Int32} (q : z = 1) : (some (.int (nar .boolean z)) : Option Value) = some (.int 1) := by subst q; rfl
theorem own_lrem {g : JFrame} {target : State} (hh : At T m c below) (hx : p.tables.exec = Jvm.exec) (hg : g.method = m) {x y : Int64} {rest : List Value} (hd : decode c.code g.pc = .ok (.lrem, 1)) (hs : g.stack = .long y :: .long x :: rest) (hy : y ≠ 0)
    (hr : Steps p.tables e below (T.setTop { g with pc := g.pc + 1, stack := .long (x % y) :: rest }) target) : Steps p.tables e below (T.setTop g) target :=
  XS.lrem hh hx hg hd hs hy (by rw [lrem_mod]; exact hr)
theorem own_Arf.lt {f : Nat → Value} (F : own_Arf Z h a k ty n f) : a < h.size := by obtain ⟨c, A, -⟩ := F; exact A.lt
theorem own_Arf.ext {f : Nat → Value} (F : own_Arf Z h a k ty n f) (E : Ext h h') : own_Arf Z h' a k ty n f := by obtain ⟨c, A, r⟩ := F; exact ⟨c, A.ext E, r⟩
theorem own_Arf.other {f : Nat → Value} {sl : Nat} {v : Value} (F : own_Arf Z h b k ty n f) (W : Wr h h' a sl v) (q : b ≠ a) : own_Arf Z h' b k ty n f := by obtain ⟨c, A, r⟩ := F; exact ⟨c, A.other W q, r⟩
theorem own_Arf.keep {f : Nat → Value} (F : own_Arf Z h a k ty n f) (K : Keep h h' ws) (q : a ∉ ws) : own_Arf Z h' a k ty n f := by obtain ⟨c, A, r⟩ := F; exact ⟨c, ⟨K.2.1 a c A.1 q, A.2⟩, r⟩
theorem own_arfNew (A : Arr Z h a (newA k ty n) ty) (q : ¬ n < 0) : own_Arf Z h a k ty n (fun _ => defaultValue ty) := ⟨_, A, rfl, sz_new _ _ _, q, fun i hi => by
  rw [sz_new] at hi; simp [newA, hi], fun i _ => by cases ty <;> rfl⟩
theorem own_arfSet {cl : Cell} {f : Nat → Value} {j : Nat} {v : Value} (A : Arr Z h a cl ty) (q1 : cl.cls = k) (S : cl.slots.size = n.toNatClampNeg) (q3 : ¬ n < 0) (H : ∀ i, i < cl.slots.size → cl.slots[i]? = some (f i)) (G : ∀ i, i < cl.slots.size → fits ty (f i) = true) (hv : fits ty v = true) (W : Wr h h' a j v) : own_Arf Z h' a k ty n (own_upd f j v) := by
  refine ⟨_, A.same W, q1, by rw [sz_set]; exact S, q3, fun i hi => ?_, fun i hi => ?_⟩
  · rw [sz_set] at hi
    by_cases u : j = i
    · subst u; simp [Cell.setSlot, hi, own_upd]
    · have := H i hi; simp only [Cell.setSlot] at this ⊢
      rw [Array.getElem?_setIfInBounds_ne u, this]; simp [own_upd, Ne.symm u]
  · rw [sz_set] at hi
    by_cases u : j = i
    · subst u; simpa [own_upd] using hv
    · have := G i hi; simpa [own_upd, Ne.symm u] using this
theorem own_arfSetI {cl : Cell} {f : Nat → Int32} {j : Nat} {v : Int32} (A : Arr Z h a cl ty) (q1 : cl.cls = k) (S : cl.slots.size = n.toNatClampNeg) (q3 : ¬ n < 0) (H : ∀ i, i < cl.slots.size → cl.slots[i]? = some (.int (f i))) (G : ∀ i, i < cl.slots.size → fits ty (.int (f i)) = true) (hv : fits ty (.int v) = true) (W : Wr h h' a j (.int v)) : own_Arf Z h' a k ty n (fun i => .int (own_upd f j v i)) := by
  have q := own_arfSet (f := fun i => .int (f i)) A q1 S q3 H G hv W
  have e : (own_upd (fun i => Value.int (f i)) j (.int v)) = (fun i => .int (own_upd f j v i)) := by funext i; simp only [own_upd]; split <;> rfl
  rw [← e]; exact q
theorem own_arfSetJ {cl : Cell} {f : Nat → Int64} {j : Nat} {v : Int64} (A : Arr Z h a cl ty) (q1 : cl.cls = k) (S : cl.slots.size = n.toNatClampNeg) (q3 : ¬ n < 0) (H : ∀ i, i < cl.slots.size → cl.slots[i]? = some (.long (f i))) (G : ∀ i, i < cl.slots.size → fits ty (.long (f i)) = true) (hv : fits ty (.long v) = true) (W : Wr h h' a j (.long v)) : own_Arf Z h' a k ty n (fun i => .long (own_upd f j v i)) := by
  have q := own_arfSet (f := fun i => .long (f i)) A q1 S q3 H G hv W
  have e : (own_upd (fun i => Value.long (f i)) j (.long v)) = (fun i => .long (own_upd f j v i)) := by funext i; simp only [own_upd]; split <;> rfl
  rw [← e]; exact q
theorem own_arfSetD {cl : Cell} {f : Nat → UInt64} {j : Nat} {v : UInt64} (A : Arr Z h a cl ty) (q1 : cl.cls = k) (S : cl.slots.size = n.toNatClampNeg) (q3 : ¬ n < 0) (H : ∀ i, i < cl.slots.size → cl.slots[i]? = some (.double (f i))) (G : ∀ i, i < cl.slots.size → fits ty (.double (f i)) = true) (hv : fits ty (.double v) = true) (W : Wr h h' a j (.double v)) : own_Arf Z h' a k ty n (fun i => .double (own_upd f j v i)) := by
  have q := own_arfSet (f := fun i => .double (f i)) A q1 S q3 H G hv W
  have e : (own_upd (fun i => Value.double (f i)) j (.double v)) = (fun i => .double (own_upd f j v i)) := by funext i; simp only [own_upd]; split <;> rfl
  rw [← e]; exact q
theorem own_neArr {A0 : Array Value} {C : String} {kk : Nat} {f : Nat → Value} (F : Exa Z h a C) (wi : (Cond.instantiable C kk).before A0 Z = true) (G : own_Arf Z h b k ty n f) : a ≠ b := by
  obtain ⟨c, A, -⟩ := G
  exact ne_arr F wi A
theorem own_selPriv {Z s : State} {A0 args : Array Value} {y : MethodName} {n : Nat} (hZ : Z.Warmed39 s.vm) (wi : (Cond.instantiable y.cls n).before A0 Z = true) (wp : (Cond.privateMethod y).before A0 Z = true) (wm : (Cond.instanceMethod y).before A0 Z = true) (hy : y.cls ≠ "java/lang/invoke/MethodHandle" ∧ y.cls ≠ "java/lang/invoke/VarHandle") : (Cond.selects y.cls y y).before args s = true := by
  have wi' : (Cond.instantiable y.cls n).before args s = true := mvT hZ wi
  obtain ⟨c, k, h1, h2, h3, h4, -⟩ := Cond.instantiable_spec wi'
  refine selects_self_of_private h1 h2 ?_ (Cond.privateMethod_at (mvP hZ wp (args := args))) (mvT hZ wm) hy
  cases hi : k.isInterface <;> simp_all
theorem own_fitR {t : FieldType} {v : Value} (h : v.isRef = true) : fits (.array t) v = true := by cases v <;> first | rfl | cases h
theorem own_fitO {t : String} {v : Value} (h : v.isRef = true) : fits (.object t) v = true := by cases v <;> first | rfl | cases h
theorem own_exaPlain {C : String} (E : Exa Z h a C) : ∀ c : Cell, h[a]? = some c → c.vm.isStatics = false := fun c hc => by
  obtain ⟨cell, k, h1, -, -, h4, -⟩ := E
  cases h1.symm.trans hc; exact h4
theorem own_arfPlain {f : Nat → Value} (F : own_Arf Z h a k ty n f) : ∀ c : Cell, h[a]? = some c → c.vm.isStatics = false := fun c hc => by
  obtain ⟨cell, A, -⟩ := F
  cases A.1.symm.trans hc; exact A.plain
theorem own_staKeep {C nn d : String} {w : Value} (F : Sta Z h C nn d w) (K : Keep h h' ws) (hp : ∀ x ∈ ws, ∀ c : Cell, h[x]? = some c → c.vm.isStatics = false) : Sta Z h' C nn d w := by
  obtain ⟨cf, i, k, f, st, cell, h1, h2, h3, h4, h5, h6, h7⟩ := F
  have hn : st ∉ ws := fun hm => by have := hp st hm cell h5; rw [h6] at this; cases this
  exact ⟨cf, i, k, f, st, cell, h1, h2, h3, h4, K.2.1 st cell h5 hn, h6, h7⟩
theorem own_cat1 {v : Value} (h : v.isRef = true) : v.category = 1 := by cases v <;> first | rfl | cases h
end OwnKit

def own_FinW (Z : State) (EL : List (String × Nat)) (s : State) (C S : Nat) (Q : Option Value → Heap → List Loc → Prop) (o : Outcome) (U : State) : Prop := ∃ v L, o = .returned v ∧ Q v U.heap L ∧ CHr Z EL s.vm s.heap U.vm U.heap ∧ ReturnedEndW s o U L C S
def own_li (l : List Int32) : Nat → Int32 := fun i => l.getD i 0
section OwnCold
variable {p : Program} {l : Launch} {e : Env} {R : Room} {s : State} {m : MethodId} {args : Array Value} {below : List Frame} {meth : Method} {c : Code} {T : State} {locs : List Loc} {cells slots C S : Nat} {Q : Option Value → Heap → List Loc → Prop} {Z : State} {h h' h0 : Heap} {a b : Addr} {k : ClassId} {ty : FieldType} {n : Int32} {ws : List Addr} {a0 : Array Value} {EL : List (String × Nat)} {vm0 : Vm} {k0 : Nat}
theorem own_endW (X : Stand p l e R (s.setVm vm0) m args below meth c T locs cells slots) (hS : s.Since vm0 k0) (hk : k0 ≤ h.size) (hZ : Z.Warmed39 vm0) (hEL : EW Z a0 EL) (hh : s.heap = h0) (CR : CHr Z EL s.vm h0 vm0 h) {v : Option Value} (hv : meth.sig.returnType = none → v = none) (hlk : meth.locks = false) (eT : T.heap = h) (hQ : Q v h locs) (hc : cells ≤ C) (hs : slots ≤ S)
    {g : JFrame} (st : ∀ fs, (∀ (f : JFrame) (acts : List Action), f.method = m → f.locked = none → f.entered = [] → (doReturn e (T.setTop f) acts v).1 = T.setFrames fs) → Steps p.tables e below (T.setTop g) (T.setFrames fs)) : own_Go p e below (own_FinW Z EL s C S Q) (T.setTop g) := by
  obtain ⟨fs, hr, hrun, hended, hret, hW, hB, hsame⟩ := X.leaveW hS (by rw [eT]; exact hk) (v := v) hv hlk
  refine ⟨_, _, st fs hr, hrun, hended, v, locs, rfl, ?_, ?_, ⟨_, rfl⟩, hW, hB, hsame.mono hc hs⟩
  · show Q v T.heap locs
    rw [eT]; exact hQ
  · show CHr Z EL s.vm s.heap T.vm T.heap
    rw [hh, eT]; exact CR.trans (CHv.at X hZ hEL CR.1)
theorem own_retNW (X : Stand p l e R (s.setVm vm0) m args below meth c T locs cells slots) (hx : p.tables.exec = Jvm.exec) (hS : s.Since vm0 k0) (hk : k0 ≤ h.size) (hZ : Z.Warmed39 vm0) (hEL : EW Z a0 EL) (hh : s.heap = h0) (CR : CHr Z EL s.vm h0 vm0 h) {pc : Nat} {Ls : Array Slot} {z : Int32} {t : FieldType} {rest : List Value} (hret : meth.sig.returnType = some t) (ht : t = .boolean ∨ t = .byte ∨ t = .char ∨ t = .short) (hd : decode c.code pc = .ok (.ireturn, 1)) (hlk : meth.locks = false) (eT : T.heap = h) (hQ : Q (some (.int (nar t z))) h locs) (hc : cells ≤ C) (hs : slots ≤ S) : own_Go p e below (own_FinW Z EL s C S Q) (T.setTop (mkF m pc Ls (.int z :: rest))) :=
  own_endW X hS hk hZ hEL hh CR (fun h => by rw [hret] at h; cases h) hlk eT hQ hc hs fun fs hr => retN X hx hret ht hd hr
theorem own_retRW (X : Stand p l e R (s.setVm vm0) m args below meth c T locs cells slots) (hx : p.tables.exec = Jvm.exec) (hS : s.Since vm0 k0) (hk : k0 ≤ h.size) (hZ : Z.Warmed39 vm0) (hEL : EW Z a0 EL) (hh : s.heap = h0) (CR : CHr Z EL s.vm h0 vm0 h) {pc : Nat} {Ls : Array Slot} {w : Value} {t : FieldType} {rest : List Value} (hret : meth.sig.returnType = some t) (ht : t.isReference = true) (hw : w.isRef = true) (hd : decode c.code pc = .ok (.areturn, 1)) (hlk : meth.locks = false) (eT : T.heap = h) (hQ : Q (some w) h locs) (hc : cells ≤ C) (hs : slots ≤ S) : own_Go p e below (own_FinW Z EL s C S Q) (T.setTop (mkF m pc Ls (w :: rest))) :=
  own_endW X hS hk hZ hEL hh CR (fun h => by rw [hret] at h; cases h) hlk eT hQ hc hs fun fs hr => retOut X hx hret (by cases t <;> first | rfl | (cases w <;> first | rfl | cases hw) | (cases ht)) (Or.inr (Or.inr (Or.inr (Or.inr ⟨rfl, ht, hw⟩)))) hd hr
theorem own_ret0W (X : Stand p l e R (s.setVm vm0) m args below meth c T locs cells slots) (hx : p.tables.exec = Jvm.exec) (hS : s.Since vm0 k0) (hk : k0 ≤ h.size) (hZ : Z.Warmed39 vm0) (hEL : EW Z a0 EL) (hh : s.heap = h0) (CR : CHr Z EL s.vm h0 vm0 h) {pc : Nat} {Ls : Array Slot} (hret : meth.sig.returnType = none) (hd : decode c.code pc = .ok (.return_, 1)) (hlk : meth.locks = false) (eT : T.heap = h) (hQ : Q none h locs) (hc : cells ≤ C) (hs : slots ≤ S) : own_Go p e below (own_FinW Z EL s C S Q) (T.setTop (mkF m pc Ls [])) :=
  own_endW X hS hk hZ hEL hh CR (fun _ => rfl) hlk eT hQ hc hs fun fs hr => X.returnOut hx hret hd hr
theorem own_arfSafe {f : Nat → Value} {vm : Vm} (F : own_Arf Z h a k ty n f) (hal : Z.vm.Alike vm) (ht : ty ≠ .byte) : Safe Z EL vm h a := by
  obtain ⟨c, A, -⟩ := F
  exact Safe.arr hal A ht
theorem own_arfLi {vs : List Int32} (V : Arv Z h b k ty n (vs.map Value.int) (.int 0)) : own_Arf Z h b k ty n (fun i => .int (own_li vs i)) := by
  obtain ⟨c, A, q1, q2, q3, H, G⟩ := V
  have e : ∀ i, (vs.map Value.int).getD i (.int 0) = .int (own_li vs i) := fun i => by
    simp only [own_li, List.getD_eq_getElem?_getD, List.getElem?_map]
    cases vs[i]? <;> rfl
  exact ⟨c, A, q1, q2, q3, fun i hi => by rw [H i hi, e], fun i hi => by show fits ty (.int (own_li vs i)) = true; rw [← e]; exact G i hi⟩
/-- one object, two sets of facts: they agree -/
theorem own_fldEqV {C n d : String} {v w : Value} (F : Fld Z h a C n d v) (G : Fld Z h a C n d w) : v = w := Classical.byContradiction fun q => F.ne G q rfl
theorem own_arfSame {f g : Nat → Value} {k' : ClassId} {n' : Int32} (F : own_Arf Z h a k ty n f) (G : own_Arf Z h a k' ty n' g) : n.toNatClampNeg = n'.toNatClampNeg ∧ ∀ i, i < n.toNatClampNeg → f i = g i := by
  obtain ⟨c, A, -, q2, -, H, -⟩ := F
  obtain ⟨c', A', -, q2', -, H', -⟩ := G
  cases A.1.symm.trans A'.1
  refine ⟨q2.symm.trans q2', fun i hi => ?_⟩
  have h1 := H i (by rw [q2]; exact hi)
  have h2 := H' i (by rw [q2]; exact hi)
  exact Option.some.inj (h1.symm.trans h2)
theorem own_since (s : State) (n : Nat) : s.Since s.vm n := (State.WarmedH.refl s).since n
end OwnCold
theorem own_landNN (x : Int64) : ¬ ((x &&& (9223372036854775807 : Int64)) < (0 : Int64)) := by
  have h := (c_andSL x 9223372036854775807).2.2 (by decide)
  rw [Int64.lt_iff_toInt_lt]
  have e : (0 : Int64).toInt = 0 := rfl
  omega
theorem own_rem (x : Int32) (d : Int) (y : Int32) (hy : y.toInt = d) (h0 : 0 < d) : 0 ≤ ((x &&& 2147483647) % y).toInt ∧ ((x &&& 2147483647) % y).toInt < d := by
  have h1 := c_and x 2147483647 (by decide)
  have h2 := (c_irem (x &&& 2147483647) y d hy).1 h1.1
  rw [h2]; exact ⟨Int.emod_nonneg _ (by omega), Int.emod_lt_of_pos _ h0⟩
theorem own_fldEq {args : Array Value} {s : State} {t : Term} {a : Addr} {C n d : String} {k : Int32} (h : (Jvm.Cond.eq (Term.field t C n d) (Term.int k)).value args s none s [] = some true) (ev : t.eval args s none [] s = some (.ref a)) : Fld s s.heap a C n d (.int k) := by
  refine Fld.start ?_
  have e1 := fld_at (C := C) (n := n) (dd := d) ev
  have e2 : (Term.int k).eval args s none [] s = some (.int k) := rfl
  simp only [Cond.value, e1, e2] at h
  cases hf : s.fieldOf? a C n d with
  | none => rw [hf] at h; simp at h
  | some v =>
    rw [hf] at h
    cases v <;> simp_all
theorem own_s16 (x : Int32) (h1 : -32768 ≤ x.toInt) (h2 : x.toInt < 32768) : x.toInt16.toInt32 = x := by
  have h := c_i2s x
  apply Int32.toInt_inj.mp
  omega
theorem own_swn (k : Int32) {a : Int32} {A : Int} (e : a.toInt = A) (h : ¬ (k = a)) : (A == k.toInt) = false := by
  apply Bool.eq_false_iff.mpr
  intro q
  exact h (Int32.toInt_inj.mp ((beq_iff_eq.mp q).symm.trans e.symm))
def own_cp {α : Type} (f : Nat → α) (sp : Nat) (g : Nat → α) (dp n : Nat) : Nat → α := fun i => if dp ≤ i ∧ i < dp + n then f (sp + (i - dp)) else g i
section OwnNat
variable {p : Program} {l : Launch} {e : Env} {R : Room} {s : State} {m : MethodId} {args : Array Value} {below : List Frame} {meth : Method} {c : Code} {T : State} {locs : List Loc} {cells slots : Nat} {Z : State} {h h' : Heap} {a b : Addr} {A0 : Array Value}
theorem own_d2bits (X : Stand p l e R s m args below meth c T locs cells slots) (hx : p.tables.exec = Jvm.exec) (hZ : Z.Warmed39 s.vm) {own : String} {index : Nat} (hown : s.vm.findClass own = some m.cls)
    (w1 : (Cond.methodLink own index NT.doubleBitsN).before A0 Z = true) (w2 : (Cond.native NT.doubleBitsN).before A0 Z = true) (w3 : (Cond.static NT.doubleBitsN).before A0 Z = true) (w4 : (Cond.initialized "java/lang/Double").before A0 Z = true) (eT : T.heap = h)
    {g : JFrame} (hg : g.method = m) (hsize : g.locals.size = c.maxLocals) {x : UInt64} {rest : List Value} (hs : g.stack = .double x :: rest) (hd : decode c.code g.pc = .ok (.invokestatic index, 3))
    (hf : 1 ≤ R.frames) {W : Nat} (hW : 2 * g.monitorRoom + (rest.map fun v => v.category).sum ≤ W) (hlo : W + 15 ≤ R.locals) :
    ∃ T', Stand p l e R s m args below meth c T' locs cells slots ∧ T'.heap = h ∧ ∀ target, Steps p.tables e below (T'.setTop { g with pc := g.pc + 3, stack := .long x.toInt64 :: rest }) target → Steps p.tables e below (T.setTop g) target := by
  have c2 : (Cond.native NT.doubleBitsN).before args s = true := mvT hZ w2
  obtain ⟨mk, mm, hn, hm, -, -, -, hsig⟩ := Cond.native_spec c2
  obtain ⟨v, vm1, B, hW1, X', ⟨hB, hv⟩, st⟩ := Stand.staticBack (args := args) X hx hown (mvT hZ w1) (mvT hZ w3) (mvT hZ w4) hn hm hsig (by decide) (NT.DoubleBits.pays (len := 3) (W := W) c2 (mvT hZ w3) hf hlo) hg hsize (Steps.refl _) (argsL := [.double x]) (rest := rest) (lenOf NT.descDJ rfl) hs hW hd (fun _ _ => ⟨x, rfl⟩)
  obtain rfl := hv x rfl
  subst hB
  exact ⟨_, X', eT, fun target k => st.trans k⟩
theorem own_bits2d (X : Stand p l e R s m args below meth c T locs cells slots) (hx : p.tables.exec = Jvm.exec) (hZ : Z.Warmed39 s.vm) {own : String} {index : Nat} (hown : s.vm.findClass own = some m.cls)
    (w1 : (Cond.methodLink own index NT.longBitsN).before A0 Z = true) (w2 : (Cond.native NT.longBitsN).before A0 Z = true) (w3 : (Cond.static NT.longBitsN).before A0 Z = true) (w4 : (Cond.initialized "java/lang/Double").before A0 Z = true) (eT : T.heap = h)
    {g : JFrame} (hg : g.method = m) (hsize : g.locals.size = c.maxLocals) {x : Int64} {rest : List Value} (hq : (decide (x.toUInt64 &&& 9223372036854775807 > 9218868437227405312) && x.toUInt64 &&& 2251799813685248 == 0) = false) (hs : g.stack = .long x :: rest) (hd : decode c.code g.pc = .ok (.invokestatic index, 3))
    (hf : 1 ≤ R.frames) {W : Nat} (hW : 2 * g.monitorRoom + (rest.map fun v => v.category).sum ≤ W) (hlo : W + 15 ≤ R.locals) :
    ∃ T', Stand p l e R s m args below meth c T' locs cells slots ∧ T'.heap = h ∧ ∀ target, Steps p.tables e below (T'.setTop { g with pc := g.pc + 3, stack := .double x.toUInt64 :: rest }) target → Steps p.tables e below (T.setTop g) target := by
  have c2 : (Cond.native NT.longBitsN).before args s = true := mvT hZ w2
  obtain ⟨mk, mm, hn, hm, -, -, -, hsig⟩ := Cond.native_spec c2
  obtain ⟨v, vm1, B, hW1, X', ⟨hB, hv⟩, st⟩ := Stand.staticBack (args := args) X hx hown (mvT hZ w1) (mvT hZ w3) (mvT hZ w4) hn hm hsig (by decide) (NT.LongBits.pays (len := 3) (W := W) c2 (mvT hZ w3) hf hlo) hg hsize (Steps.refl _) (argsL := [.long x]) (rest := rest) (lenOf NT.descJD rfl) hs hW hd (fun _ _ => ⟨x, rfl, hq⟩)
  obtain rfl := hv x ⟨rfl, hq⟩
  subst hB
  exact ⟨_, X', eT, fun target k => st.trans k⟩
theorem own_arfArv {k : ClassId} {ty : FieldType} {n : Int32} {f : Nat → Value} (F : own_Arf Z h a k ty n f) (dv : Value) : Arv Z h a k ty n ((List.range n.toNatClampNeg).map f) dv := by
  obtain ⟨cl, A, q, S, M, H, G⟩ := F
  have key : ∀ i, i < cl.slots.size → ((List.range n.toNatClampNeg).map f).getD i dv = f i := fun i hi => by
    rw [S] at hi
    simp [List.getD_eq_getElem?_getD, hi]
  exact ⟨cl, A, q, S, M, fun i hi => by rw [key i hi]; exact H i hi, fun i hi => by rw [key i hi]; exact G i hi⟩
theorem own_arvArf {k : ClassId} {ty : FieldType} {n : Int32} {vs : List Value} {dv : Value} {f : Nat → Value} (F : Arv Z h a k ty n vs dv) (hf : ∀ i, i < n.toNatClampNeg → vs.getD i dv = f i) : own_Arf Z h a k ty n f := by
  obtain ⟨cl, A, q, S, M, H, G⟩ := F
  exact ⟨cl, A, q, S, M, fun i hi => by rw [← hf i (S ▸ hi)]; exact H i hi, fun i hi => by rw [← hf i (S ▸ hi)]; exact G i hi⟩
theorem own_cpA (X : Stand p l e R s m args below meth c T locs cells slots) (hx : p.tables.exec = Jvm.exec) (hZ : Z.Warmed39 s.vm) {own : String} {index : Nat} (hown : s.vm.findClass own = some m.cls)
    (w1 : (Cond.methodLink own index Jvm.Stand.acN).before A0 Z = true) (w2 : (Cond.native Jvm.Stand.acN).before A0 Z = true) (w3 : (Cond.static Jvm.Stand.acN).before A0 Z = true) (w4 : (Cond.initialized "java/lang/System").before A0 Z = true) (eT : T.heap = h)
    {k k' : ClassId} {ty : FieldType} {z z' sp dp nn : Int32} {f f' : Nat → Value} (A : own_Arf Z h a k ty z f) (B : own_Arf Z h b k' ty z' f') (hty : refKind ty = false)
    (h1 : ¬ sp < 0) (h2 : ¬ dp < 0) (h3 : ¬ nn < 0) (h4 : sp.toNatClampNeg + nn.toNatClampNeg ≤ z.toNatClampNeg) (h5 : dp.toNatClampNeg + nn.toNatClampNeg ≤ z'.toNatClampNeg) {n0 : Nat} (N : Fr n0 locs) (ge : n0 ≤ b)
    {g : JFrame} (hg : g.method = m) (hsize : g.locals.size = c.maxLocals) {rest : List Value} (hs : g.stack = .int nn :: .int dp :: .ref b :: .int sp :: .ref a :: rest) (hd : decode c.code g.pc = .ok (.invokestatic index, 3))
    (hf : 1 ≤ R.frames) {W : Nat} (hW : 2 * g.monitorRoom + (rest.map fun v => v.category).sum ≤ W) (hlo : W + (nativeFrameWords "java/lang/System" "arraycopy" 5 + 11) ≤ R.locals) :
    ∃ T' h' L, Stand p l e R s m args below meth c T' L cells slots ∧ T'.heap = h' ∧ Fr n0 L ∧ Keep h h' [b] ∧ own_Arf Z h' b k' ty z' (own_cp f sp.toNatClampNeg f' dp.toNatClampNeg nn.toNatClampNeg) ∧
      ∀ target, Steps p.tables e below (T'.setTop { g with pc := g.pc + 3, stack := rest }) target → Steps p.tables e below (T.setTop g) target := by
  obtain ⟨T', h', L, X', e', N', K, V, st⟩ := cpA X hx hZ hown w1 w2 w3 w4 eT (own_arfArv A .null) (own_arfArv B .null) (Or.inl ⟨rfl, hty⟩) h1 h2 h3 h4 h5 rfl (by simp; exact h5) N ge hg hsize hs hd hf hW hlo
  refine ⟨T', h', L, X', e', N', K, own_arvArf V fun i hi => ?_, st⟩
  simp only [own_cp, List.getD_eq_getElem?_getD]
  by_cases c1 : i < dp.toNatClampNeg
  · rw [List.append_assoc, List.getElem?_append_left (by simp; omega)]
    simp [c1, hi, show ¬ dp.toNatClampNeg ≤ i by omega]
  · by_cases c2 : i < dp.toNatClampNeg + nn.toNatClampNeg
    · rw [List.append_assoc, List.getElem?_append_right (by simp; omega), List.getElem?_append_left (by simp; omega)]
      have hm : min dp.toNatClampNeg z'.toNatClampNeg = dp.toNatClampNeg := by omega
      simp only [List.length_take, List.length_map, List.length_range, hm]
      have e1 : i - dp.toNatClampNeg < nn.toNatClampNeg := by omega
      have e2 : sp.toNatClampNeg + (i - dp.toNatClampNeg) < z.toNatClampNeg := by omega
      simp [e1, e2, c2, show dp.toNatClampNeg ≤ i by omega]
    · rw [List.getElem?_append_right (by simp; omega)]
      have hm : min dp.toNatClampNeg z'.toNatClampNeg = dp.toNatClampNeg := by omega
      simp only [List.length_append, List.length_take, List.length_map, List.length_range, hm]
      rw [List.getElem?_drop]
      have e1 : dp.toNatClampNeg + nn.toNatClampNeg + (i - (dp.toNatClampNeg + nn.toNatClampNeg)) = i := by omega
      rw [e1]
      simp [hi, c2]
theorem own_cpJ (f : Nat → Int64) (sp : Nat) (g : Nat → Int64) (dp n : Nat) : own_cp (fun i => Value.long (f i)) sp (fun i => .long (g i)) dp n = (fun i => .long (own_cp f sp g dp n i)) := by funext i; simp only [own_cp]; split <;> rfl
theorem own_cpI (f : Nat → Int32) (sp : Nat) (g : Nat → Int32) (dp n : Nat) : own_cp (fun i => Value.int (f i)) sp (fun i => .int (g i)) dp n = (fun i => .int (own_cp f sp g dp n i)) := by funext i; simp only [own_cp]; split <;> rfl
theorem own_clone (X : Stand p l e R s m args below meth c T locs cells slots) (hx : p.tables.exec = Jvm.exec) (hZ : Z.Warmed39 s.vm) {own ad : String} {index : Nat} (hown : s.vm.findClass own = some m.cls)
    (w1 : (Cond.methodLink own index ⟨ad, "clone", "()Ljava/lang/Object;"⟩).before A0 Z = true) (w2 : (Cond.sameMethod ad "java/lang/Object" "clone" "()Ljava/lang/Object;").before A0 Z = true) (w3 : (Cond.native ⟨"java/lang/Object", "clone", "()Ljava/lang/Object;"⟩).before A0 Z = true)
    (w4 : (Cond.instanceMethod ⟨"java/lang/Object", "clone", "()Ljava/lang/Object;"⟩).before A0 Z = true) (w5 : (Cond.selects ad ⟨ad, "clone", "()Ljava/lang/Object;"⟩ ⟨"java/lang/Object", "clone", "()Ljava/lang/Object;"⟩).before A0 Z = true) (w6 : (Cond.castable ad "java/lang/Cloneable").before A0 Z = true)
    (eT : T.heap = h) {k : ClassId} {ty : FieldType} {z : Int32} {f : Nat → Value} (F : own_Arf Z h a k ty z f) (E : Exa Z h a ad) {g : JFrame} (hg : g.method = m) (hsize : g.locals.size = c.maxLocals) {rest : List Value} (hst : g.stack = .ref a :: rest) (hd : decode c.code g.pc = .ok (.invokevirtual index, 3))
    (hf : 1 ≤ R.frames) {W cap : Nat} (hW : 2 * g.monitorRoom + (rest.map fun v => v.category).sum ≤ W) (hl : W + 14 ≤ R.locals) (hcap : z.toNatClampNeg ≤ cap) (hc : cells + 1 ≤ R.cells) (hsl : slots + cap ≤ R.slots) :
    ∃ T' h', Stand p l e R s m args below meth c T' locs (cells + 1) (slots + cap) ∧ T'.heap = h' ∧ Ext h h' ∧ own_Arf Z h' h.size k ty z f ∧ Exa Z h' h.size ad ∧
      ∀ target, Steps p.tables e below (T'.setTop { g with pc := g.pc + 3, stack := .ref h.size :: rest }) target → Steps p.tables e below (T.setTop g) target := by
  obtain ⟨T', h', X', e', ex, A', E', st⟩ := cloneH X hx hZ hown w1 w2 w3 w4 w5 w6 eT (own_arfArv F .null).arh E hg hsize hst hd hf hW hl hcap hc hsl
  refine ⟨T', h', X', e', ex, own_arvArf (vs := (List.range z.toNatClampNeg).map f) (dv := .null) A' fun i hi => ?_, E', st⟩
  simp [List.getD_eq_getElem?_getD, hi]
end OwnNat
section OwnExc
variable {p : Program} {l : Launch} {e : Env} {R : Room} {s : State} {m : MethodId} {args : Array Value} {below : List Frame} {Z : State} {a0 : Array Value} {EL : List (String × Nat)} {h : Heap} {vm0 : Vm} {C : String} {y y' : MethodName}
theorem own_sf0 : ∀ x ∈ ([] : List Addr), x < h.size ∧ Safe Z EL vm0 h x := fun _ q => nomatch q
theorem own_sfS {a : Addr} {ws : List Addr} (hl : a < h.size) (n : Safe Z EL vm0 h a) (r : ∀ x ∈ ws, x < h.size ∧ Safe Z EL vm0 h x) : ∀ x ∈ a :: ws, x < h.size ∧ Safe Z EL vm0 h x := fun x q => by
  rcases List.mem_cons.mp q with rfl | q
  · exact ⟨hl, n⟩
  · exact r x q
/-- a callee that may intern, and that writes cells which are no constant's -/
theorem own_backSH {bytes : ByteArray} {maxL : Nat} {ret : Option FieldType} {rm : Room} {len W : Nat} {as' : Array Value} {Q : Option Value → Heap → List Loc → Prop} {xs : List Addr}
    (hM : MetFree l y (head1 [Cond.code y bytes maxL ret] rm) (fun a U => a = as' ∧ Z.Warmed39 U.vm ∧ U.heap = h ∧ CHv Z EL U.vm h ∧ ∀ x ∈ xs, Safe Z EL U.vm h x) (fun _ _ _ _ _ => True) (fun _ U o U' => ∃ v L, o = .returned v ∧ Q v U'.heap L ∧ CHr Z EL U.vm U.heap U'.vm U'.heap ∧ ReturnedEndW U o U' L rm.cells rm.slots))
    (hZ : Z.Warmed39 vm0) (wc : (Cond.code y bytes maxL ret).before a0 Z = true) (wz : (Cond.initialized y.cls).before a0 Z = true) (hf : rm.frames + 1 ≤ R.frames) (hl : W + (maxL + 11) + rm.locals ≤ R.locals) (hEL : EW Z a0 EL) (H : CHv Z EL vm0 h) (hs : ∀ x ∈ xs, x < h.size ∧ Safe Z EL vm0 h x) :
    BackS l R p e below (s.setVm vm0) args y len W (fun A a => a = as' ∧ A.U.heap = h ∧ A.cells + rm.cells ≤ R.cells ∧ A.slots + rm.slots ≤ R.slots)
      (fun A _ v B => ∃ L, Q v B.U.heap L ∧ B.locs = A.locs ++ L ∧ B.cells = A.cells + rm.cells ∧ B.slots = A.slots + rm.slots ∧ CHr Z EL vm0 h B.U.vm B.U.heap) :=
  BackS.of_freeW (bytes := bytes) (maxL := maxL) (ret := ret) (E := fun _ first o t L k n => k = rm.cells ∧ n = rm.slots ∧ (∃ v, o = .returned v ∧ Q v t.heap L) ∧ CHr Z EL first.vm first.heap t.vm t.heap) hM hf hl
    (fun m meth c A a Y hp => have hU : Z.Warmed39 A.U.vm := wtrans (s := s.setVm vm0) hZ Y.warmed
      ⟨by show (Cond.and _ .tt).before a A.U = true; rw [Cond.before_and, mv hU wc]; rfl, mv hU wc, mv hU wz, hp.2.2.1, hp.2.2.2⟩)
    (fun m meth c A a g mk Y hp => ⟨hp.1, wtrans (s := s.setVm vm0) hZ Y.warmed, hp.2.1, (CHv.at Y hZ hEL H).1, fun x hx => (CHv.at Y hZ hEL H).safe (hs x hx).1 (hs x hx).2⟩) (fun _ _ _ _ _ _ _ _ _ => trivial)
    (fun _ _ _ _ ⟨v, L, h1, h2, h3, h4⟩ => ⟨L, _, _, h4, rfl, rfl, ⟨v, h1, h2⟩, h3⟩)
    (fun m meth c A a g mk v t L k n Y hp _ _ ⟨e1, e2, ⟨v', e3, e4⟩, e5⟩ => by
      cases e3; subst e1 e2
      refine ⟨L, e4, rfl, rfl, rfl, (CHv.at Y hZ hEL H).trans ?_⟩
      rw [← hp.2.1]; exact e5)
theorem own_notFace (hsel : (Cond.selects C y' y').before args s = true) (hc : y'.cls = y.cls) : NotFace s y := fun r0 h0 => by
  obtain ⟨c2, r2, m2, q1, q2, q3, q4, kP, hkP, hkPi⟩ := Cond.selects_spec hsel
  have e1 := findClass_of_methodNamed h0
  have e2 := findClass_of_methodNamed q3
  rw [hc, e1] at e2
  exact ⟨kP, by rw [Option.some.inj e2]; exact hkP, hkPi⟩
theorem own_selPriv2 (hZ : Z.Warmed39 s.vm) (wsel : (Cond.selects C y y).before a0 Z = true) (wp : (Cond.privateMethod y).before a0 Z = true) (wm : (Cond.instanceMethod y).before a0 Z = true) (hy : y.cls ≠ "java/lang/invoke/MethodHandle" ∧ y.cls ≠ "java/lang/invoke/VarHandle") : (Cond.selects y.cls y y).before args s = true := by
  have ws : (Cond.selects C y y).before args s = true := mvT hZ wsel
  obtain ⟨c2, r2, m2, q1, q2, q3, q4, kP, hkP, hkPi⟩ := Cond.selects_spec ws
  exact selects_self_of_private (findClass_of_methodNamed q3) hkP hkPi (Cond.privateMethod_at (mvP hZ wp (args := args))) (mvT hZ wm) hy
theorem own_same (wm : (Cond.instanceMethod y).before a0 Z = true) (ws : (Cond.selects C y' y').before a0 Z = true) (hc : y'.cls = y.cls) (hy : y.cls ≠ "java/lang/invoke/MethodHandle" ∧ y.cls ≠ "java/lang/invoke/VarHandle") : (Cond.sameMethod y.cls y.cls y.name y.desc).before a0 Z = true := by
  obtain ⟨mk, methM, hnamed, hmethM, -, -⟩ := Cond.instanceMethod_spec wm
  obtain ⟨kr, hkr, hni⟩ := own_notFace ws hc mk hnamed
  have h1 := findClass_of_methodNamed hnamed
  have h2 := State.methodFound?_of_named hnamed hy
  have h3 : Z.methodNamed? ⟨y.cls, y.name, y.desc⟩ = some mk := hnamed
  simp [Cond.before, Cond.holds, Cond.value, h1, h2, h3, hkr, hni]
end OwnExc
theorem own_ishl0 (x : Int32) : x <<< ((0 : Int32) &&& 31) = x := by
  have e : ((0 : Int32) &&& 31) = 0 := rfl
  rw [e]
  exact Int32.shiftLeft_zero
theorem own_ishr0 (x : Int32) : x >>> ((0 : Int32) &&& 31) = x := by
  have e : ((0 : Int32) &&& 31) = 0 := rfl
  rw [e]
  exact Int32.shiftRight_zero
theorem own_isub0 (x : Int32) : x - (0 : Int32) = x := Int32.sub_zero x
theorem own_iadd0 (x : Int32) : x + (0 : Int32) = x := Int32.add_zero x
theorem own_0iadd (x : Int32) : (0 : Int32) + x = x := Int32.zero_add x
section OwnThr
open Jvm.Free.Exc Jvm.Free.Str LibCode.Throwable
variable {p : Program} {l : Launch} {e : Env} {R : Room} {s : State} {m : MethodId} {args : Array Value} {below : List Frame} {meth : Method} {c : Code} {T U : State} {locs L : List Loc} {cells slots : Nat} {Z : State} {a0 : Array Value} {h h' : Heap}
/-- what the walk through Throwable.fillInStackTrace asks of the tables, on a receiver of class rc -/
def own_thrA (rc : String) : List Cond := [
  .initialized tN, .superclass tN "java/lang/Object", .instanceMethod tFill, .codeSync tFill Fill.code 1 (some (.object tN)), .instanceMethod tFill0, .native tFill0,
  .instanceMethod oInit, .code oInit ⟨#[0xb1]⟩ 1 none, .methodLink tN 1 oInit, .methodLink tN 27 tFill, .methodLink tN 202 tFill0,
  .fieldLink tN 7 tN "cause" thD, .fieldLink tN 17 tN "stackTrace" steD, .fieldLink tN 24 tN "suppressedExceptions" listD,
  .fieldLink tN 13 tN "UNASSIGNED_STACK" steD, .laysStatic tN "UNASSIGNED_STACK" steD, .fieldLink tN 20 tN "SUPPRESSED_SENTINEL" listD, .laysStatic tN "SUPPRESSED_SENTINEL" listD,
  .declares tFill, .selects rc tFill0 tFill0, .selects rc tFill tFill,
  .lays rc tN "cause" thD, .lays rc tN "stackTrace" steD, .lays rc tN "suppressedExceptions" listD, .lays rc tN "backtrace" obD, .lays rc tN "depth" "I",
  .fieldLink tN 198 tN "backtrace" obD, .arrayOver (.object "java/lang/Object"), .soleField tN "backtrace", .soleField tN "depth", .lays rc tN "detailMessage" msgD]
theorem own_arrRef {t : Term} {ty : FieldType} (h : (Cond.arrayOf t ty).value args s none s [] = some true) : ∃ b, t.eval args s none [] s = some (.ref b) := by
  cases e : t.eval args s none [] s with
  | none => simp [Cond.value, e] at h
  | some v => cases v with
    | ref b => exact ⟨b, rfl⟩
    | _ => simp [Cond.value, e] at h
theorem own_thrOk (rc : String) : (own_thrA rc).all xOk = true := rfl
theorem own_params {x : MethodName} {sg : MethodDescriptor} (q : parseMethodDescriptor x.desc = some sg) {ps : List FieldType} (k : (parseMethodDescriptor x.desc).map (·.parameters) = some ps) : sg.parameters = ps := by
  rw [q] at k; exact Option.some.inj k
set_option maxHeartbeats 4000000 in
theorem own_TC {pl : Platform} {rc : String} (howns : pl.frameOwnsMonitors = true) (hfin : pl.finalization = false) (hpl : pl.magicAccessors = ({} : Platform).magicAccessors) (W : ∀ d ∈ own_thrA rc, d.before args s = true) :
    ∃ T : ThrowableC, T.Links pl s ∧ s.vm.findClass tN = some T.cT ∧ s.methodNamed? tFill = some T.fill ∧ s.methodNamed? tFill0 = some T.fill0 ∧
      s.fieldFound? tN "stackTrace" steD = some (T.cT, T.kT, T.i17, T.fStack) ∧ s.fieldFound? tN "UNASSIGNED_STACK" steD = some (T.cT, T.kT, T.i13, T.fUnassigned) ∧ T.fStack.type = .array (.object "java/lang/StackTraceElement") := by
  have w : ∀ (i : Nat) {d : Cond}, (own_thrA rc)[i]? = some d → d.holds args s none s [] = true := fun i _ q => W _ (List.mem_of_getElem? q)
  obtain ⟨⟨c, i0⟩, nat0, n1, n2, n3, n4, n5, n6⟩ := Cond.native_spec (w 5 rfl)
  have hc : s.vm.findClass tN = some c := findClass_of_methodNamed n1
  obtain ⟨k, hk, kn⟩ := Vm.findClass_spec hc
  obtain ⟨_, _, _, _, k1, -, -, -, -, k2⟩ := Cond.superclass_spec hc (w 1 rfl)
  cases hk.symm.trans k1
  obtain ⟨_, _, a1, a2, a3, a4, a5, a6, a7⟩ := Cond.ownMethod (x := tFill0) hc hk (w 4 rfl)
  cases n1.symm.trans a1
  cases n2.symm.trans a2
  obtain ⟨fi, fm, b1, b2, b3, b4, b5, -, -⟩ := Cond.ownMethod (x := tFill) hc hk (w 2 rfl)
  obtain ⟨_, fc, c1, c2, c3, c4, c5, c6, -, c7⟩ := Cond.codeSync_spec b1 (w 3 rfl)
  cases b2.symm.trans c1
  obtain ⟨om, omt, d1, d2, d3, d4⟩ := Cond.instanceMethod_spec (w 6 rfl)
  obtain ⟨_, oc, e1, e2, e3, e4, -, e5, -, e6⟩ := Cond.code_spec d1 (w 7 rfl)
  cases d2.symm.trans e1
  obtain ⟨ok, o1, o2⟩ := Vm.findClass_spec (findClass_of_methodNamed d1)
  obtain ⟨o3, o4⟩ := name_of_methodNamed d1 d2
  obtain ⟨x1, y1, cf, l1, r1, f1, p1⟩ := Cond.linkedMethod hc hk d1 (w 8 rfl) pl hpl
  obtain ⟨x2, y2, _, l2, r2, f2, p2⟩ := Cond.linkedMethod hc hk b1 (w 9 rfl) pl hpl
  obtain ⟨x3, y3, _, l3, r3, f3, p3⟩ := Cond.linkedMethod hc hk n1 (w 10 rfl) pl hpl
  cases f1.symm.trans f2
  cases f1.symm.trans f3
  obtain ⟨q1, j1, g1, h11, h12, h13, h14, h15, -, -, -⟩ := Cond.ownField (t := .object tN) hc hk (by decide +kernel) (w 11 rfl) (w 21 rfl) pl hpl
  obtain ⟨q2, j2, g2, h21, h22, h23, h24, h25, h26, h27, h28⟩ := Cond.ownField (t := .array (.object "java/lang/StackTraceElement")) hc hk (by decide +kernel) (w 12 rfl) (w 22 rfl) pl hpl
  obtain ⟨q3, j3, g3, h31, h32, h33, h34, h35, h36, -, h38⟩ := Cond.ownField (t := .object "java/util/List") hc hk (by decide +kernel) (w 13 rfl) (w 23 rfl) pl hpl
  obtain ⟨q4, j4, g4, aS, _, h41, h42, h43, h44, -, -, h45, -, -, -, -, h46⟩ := Cond.ownStatic (t := .array (.object "java/lang/StackTraceElement")) hc hk (by decide +kernel) (w 14 rfl) (w 15 rfl) pl hpl
  obtain ⟨q5, j5, g5, _, _, h51, h52, h53, h54, -⟩ := Cond.ownStatic (t := .object "java/util/List") hc hk (by decide +kernel) (w 16 rfl) (w 17 rfl) pl hpl
  obtain ⟨cX, kX, _, _, _, _, v1, v2, -⟩ := Cond.lays_spec (w 22 rfl)
  obtain ⟨-, _, s1, s2⟩ := Cond.laysAt v1 v2 h28 (w 22 rfl)
  obtain ⟨-, _, s3, s4⟩ := Cond.laysAt v1 v2 h38 (w 23 rfl)
  have apart : g2.slot ≠ g3.slot := Cond.laysApart s1 s3 s2 s4 (by rw [h26, h36]; decide)
  have op : omt.sig.parameters = [] := own_params (x := oInit) e6 (by decide +kernel)
  refine ⟨{ cT := c, kT := k, cO := c, aS := aS, fillIdx := fi, fill0Idx := i0, initSIdx := fi, obj := om, kObj := ok, methFill := fm, methFill0 := nat0, methInitS := fm, methObj := omt, codeFill := fc, codeInitS := fc, codeObj := oc, fBack := g1, fDepth := g1, fStack := g2, fCause := g1, fSupp := g3, fMsg := g1, fUnassigned := g4, fSentinel := g5, cfT := cf, ci1 := x1, n1 := y1, ci27 := x2, n27 := y2, ci202 := x3, n202 := y3, ci7 := q1, i7 := j1, ci13 := q4, i13 := j4, ci17 := q2, i17 := j2, ci20 := q5, i20 := j5, ci24 := q3, i24 := j3 }, ?_, hc, b1, n1, h28, h46, h27⟩
  constructor <;> (try dsimp only) <;> first | assumption | exact Vm.findClass_boot hc hk | exact Cond.initialized_spec hc hk (w 0 rfl) | exact own_params (x := tFill) c7 (by decide +kernel) | exact own_params (x := tFill0) n6 (by decide +kernel) | (rw [o4]; exact lookupSpecial_of_named d1 d2 d3) | (rw [op]; rfl)
set_option maxHeartbeats 8000000 in
/-- 'invokevirtual 27' in Throwable's constructor: fillInStackTrace() on an object that the walk has made -/
theorem own_fillL (X : Stand p l e R s m args below meth c T locs cells slots) (hx : p.tables.exec = Jvm.exec) (hl : l.stackTraces = true) (hZ : Z.Warmed39 s.vm) (hown : s.vm.findClass tN = some m.cls) {rc : String} {n : Nat} (wA : ∀ d ∈ own_thrA rc, d.before a0 Z = true) (wi : (Cond.instantiable rc n).before a0 Z = true)
    (hT0 : ThS Z s.heap) (hT : ThS Z h) (hTK : s.vm.MethodsKnown) (hBelow : s.vm.FramesKnown below) (eT : T.heap = h) {a u : Addr} (E : Exa Z h a rc) (N : Unt h a) (B : Fld Z h a tN "backtrace" obD .null) (F : Fld Z h a tN "stackTrace" steD (.ref u)) (S : Sta Z h tN "UNASSIGNED_STACK" steD (.ref u))
    {g : JFrame} (hg : g.method = m) (hsize : g.locals.size = c.maxLocals) {rest : List Value} (hs : g.stack = .ref a :: rest) (hd : decode c.code g.pc = .ok (.invokevirtual 27, 3))
    (hf : 3 ≤ R.frames) (hlo : 2 * g.monitorRoom + (rest.map fun v => v.category).sum + 42 ≤ R.locals) (hc : cells + 1 ≤ R.cells) (hsl : slots + 2752 ≤ R.slots) :
    ∃ (T' : State) (h' : Heap), Stand p l e R s m args below meth c T' (locs ++ sixLocs Z a) (cells + 1) (slots + 2752) ∧ T'.heap = h' ∧ Kp Z h h' a ∧ Exa Z h' a rc ∧ Unt h' a ∧ ThS Z h' ∧ (∀ v, Fld Z h a tN "detailMessage" msgD v → Fld Z h' a tN "detailMessage" msgD v) ∧
      Steps p.tables e below (T.setTop g) (T'.setTop { g with pc := g.pc + 3, stack := .ref a :: rest }) := by
  have W : ∀ d ∈ own_thrA rc, d.before args s = true := fun d q => mvX hT0 hZ (List.all_eq_true.mp (own_thrOk rc) d q) (wA d q)
  have w : ∀ (i : Nat) {d : Cond}, (own_thrA rc)[i]? = some d → d.before args s = true := fun i _ q => W _ (List.mem_of_getElem? q)
  have hpl : e.platform.magicAccessors = ({} : Platform).magicAccessors := by rw [X.admits.platform]
  have htr : e.platform.stackTraces = true := by rw [X.admits.platform]; exact hl
  obtain ⟨TC, K, t1, t2, t3, t4, t5, t6⟩ := own_TC (pl := e.platform) (by rw [X.admits.platform]) (by rw [X.admits.platform]) hpl W
  have hal := hZ.alike
  obtain ⟨cell, kc, e1, e2, e3, -, e5⟩ := id E
  obtain ⟨_, u1, u2, u3⟩ := id N
  cases e1.symm.trans u1
  obtain ⟨_, _, i1, i2, i3, -⟩ := Cond.instantiable_spec wi
  cases e2.symm.trans i1
  cases e3.symm.trans i2
  obtain ⟨kX, x1, x2⟩ := hal.2.2 _ _ e3
  have fnd : s.vm.findClass rc = some cell.cls := by rw [hal.findClass]; exact e2
  have ord : kX.kind = .ordinary := by rw [x2]; exact i3
  have siz : cell.slots.size = kX.instanceTypes.size := by rw [x2]; exact e5 i3
  have sel0 : selectMethod e.platform s.vm cell.cls TC.fill0 = .method TC.fill0 := by
    obtain ⟨_, _, _, q1, q2, q3, q4, -⟩ := Cond.selects_spec (w 19 rfl)
    cases q1.symm.trans fnd
    cases q2.symm.trans (State.methodFound?_of_named t3 (by decide))
    cases q3.symm.trans t3
    rw [Launch.admits_selectMethod X.admits]; exact q4
  obtain ⟨cf, i, k, f, sa, cS, s1, s2, s3, s4, s5, s6, s7⟩ := S
  obtain ⟨k', y1, y2⟩ := State.fieldFound?_setVm (s := Z) hal s1
  cases (show s.fieldFound? tN "UNASSIGNED_STACK" steD = _ from y1).symm.trans t5
  obtain rfl : sa = TC.aS := Option.some.inj ((show TC.kT.statics = some sa by rw [y2]; exact s4).symm.trans K.statics)
  have hne : TC.aS ≠ a := fun q => by rw [q, e1] at s5; cases s5; rw [u2] at s6; cases s6
  obtain ⟨c1, j1, fB, b1, b2, b3, b4, -, b5, b6, b7⟩ := Cond.ownField (t := .object "java/lang/Object") t1 K.cls (by decide +kernel) (w 26 rfl) (w 24 rfl) e.platform hpl
  obtain ⟨_, _, _, _, jD, fD, -, -, d3, d4, -⟩ := Cond.lays_spec (w 25 rfl)
  cases (Cond.lays_declared (w 25 rfl) d3).symm.trans t1
  obtain ⟨d5, d6⟩ := State.fieldFound?_spec d3
  cases d5.symm.trans K.cls
  obtain ⟨d7, d8⟩ := State.fieldFound?_type d3 (t := .int) (by decide +kernel)
  obtain ⟨cO, aO, kO, -, -, o1, o2, o3⟩ := Cond.arrayOver_spec (w 27 rfl)
  have slot : ∀ {nn d : String} {v : Value} {fx : Field} {cx ix : Nat} {kx : Class}, Fld Z h a tN nn d v → s.fieldFound? tN nn d = some (cx, kx, ix, fx) → cell.slots[fx.slot]? = some v := fun {nn d v fx cx ix kx} Fl hfx => by
    obtain ⟨c2, cf2, k2, i2, f2, z1, z2, -, -, -, -, z7⟩ := Fl
    cases e1.symm.trans z1
    obtain ⟨k3, z8, -⟩ := State.fieldFound?_setVm (s := Z) hal z2
    cases (show s.fieldFound? tN nn d = _ from z8).symm.trans hfx
    exact z7
  have tk : ∀ {fx : Field} {v : Value}, kX.instanceTypes[fx.slot]? = some fx.type → fits fx.type v = true → Jvm.Takes s cell fx v := fun {fx v} q1 q2 => by
    obtain ⟨z1, z2⟩ := Takes.of_laid (v := v) x1 ord q1 q2
    exact ⟨by rw [siz]; simpa using z1, by rw [u2]; exact z2⟩
  have vS := w 20 rfl
  obtain ⟨v6, vm6, ⟨T6, L6, c6, n6⟩, hW6, X6, ⟨hv6, vm', lines, hlen, -, hU, hL6, hc6, hn6⟩, come⟩ := X.virtualBack hx (own := tN) (C := rc) (index := 27) (y := tFill) (z := tFill) hown (w 9 rfl) (w 18 rfl) (notFace_of_selects vS) vS (w 2 rfl) (by decide)
    (fillPays (l := l) (W := 2 * g.monitorRoom + (rest.map fun v => v.category).sum) hx htr TC K t2 (u0 := ⟨.ref u, rfl⟩) (by simp) (self := a) (cell := cell) (cellS := cS) (fun _ => by rw [u2]; simp) (by rw [u2]; simp) (by rw [u3]) (by rw [u3]) (slot F t4) sel0 hne (fun q => by rw [q] at s6; cases s6) s7
      (tk (Cond.laysAt fnd x1 t4 (w 22 rfl)).1 (by rw [t6]; rfl)) ⟨{ ci198 := c1, i198 := j1, fBack := fB }, ⟨b1, b2, b3, b4⟩, slot B b7⟩ hTK hBelow t1 o3 o1 o2 (Cond.soleField_find t1 K.cls (w 28 rfl) b3 b5 b4) (Cond.soleField_find t1 K.cls (w 29 rfl) d6 d7 d4)
      (fun _ => tk (Cond.laysAt fnd x1 b7 (w 24 rfl)).1 (by rw [b6]; rfl)) (fun _ => tk (Cond.laysAt fnd x1 d3 (w 25 rfl)).1 (by rw [d8]; rfl)) (by omega) (by omega))
    (b := a) (cB := cell.cls) fnd ⟨cell, by rw [eT]; exact e1, rfl, by rw [u2]; rfl⟩ (g := g) hg hsize (Steps.refl _) (argsL := []) (rest := rest)
    (fun sig q => by rw [show parseMethodDescriptor tFill.desc = some ⟨[], some (.object tN)⟩ from by decide +kernel] at q; rw [← Option.some.inj q]; rfl) hs (Nat.le_refl _) hd
    (fun vmx hWx => ⟨rfl, hc, hsl, by show T.heap[a]? = _; rw [eT]; exact e1, by show T.heap[_]? = _; rw [eT]; exact s5⟩)
  dsimp only [Pt.U, Pt.locs, Pt.cells, Pt.slots] at X6 hU hL6 hc6 hn6 come
  subst hv6 hL6 hc6 hn6
  have six : ∀ x ∈ [(⟨a, fB.slot⟩ : Loc), ⟨a, fD.slot⟩, ⟨a, TC.fStack.slot⟩], Six s a x := fun x q => by
    simp only [List.mem_cons, List.not_mem_nil, or_false] at q
    rcases q with q | q | q
    · exact ⟨("backtrace", obD), _, by simp [sixNames], ⟨_, _, _, b7⟩, q⟩
    · exact ⟨("depth", "I"), _, by simp [sixNames], ⟨_, _, _, d3⟩, q⟩
    · exact ⟨("stackTrace", steD), _, by simp [sixNames], ⟨_, _, _, t4⟩, q⟩
  have kept : Jvm.Free.Exc.Kept T T6 [(⟨a, fB.slot⟩ : Loc), ⟨a, fD.slot⟩, ⟨a, TC.fStack.slot⟩] := fun y cy hy => by
    have lt : y < T.heap.size := (Array.getElem?_eq_some_iff.mp hy).1
    have la : a < T.heap.size := by rw [eT]; exact (Array.getElem?_eq_some_iff.mp e1).1
    by_cases q : y = a
    · subst q
      rw [eT] at hy; cases e1.symm.trans hy
      refine ⟨_, by rw [hU]; exact heapAt_setCell_self _ (by show y < (T.heap.push _).size; rw [Array.size_push]; exact Nat.lt_succ_of_lt lt), rfl, by simp [filledOn, Cell.setSlot], fun i hi => ?_⟩
      simp only [List.mem_cons, Loc.mk.injEq, true_and, List.not_mem_nil, or_false, not_or] at hi
      simp [filledOn, Cell.setSlot, Array.getElem?_setIfInBounds, Ne.symm hi.1, Ne.symm hi.2.1, Ne.symm hi.2.2]
    · refine ⟨cy, ?_, rfl, rfl, fun _ _ => rfl⟩
      rw [hU, State.heap_setCell_other (Ne.symm q)]
      show (T.heap.push _)[y]? = _
      rw [Array.getElem?_push_lt lt, ← hy, Array.getElem?_eq_getElem lt]
  have kp := kp_of hZ eT six kept
  refine ⟨T6, T6.heap, (wider X6 hZ six).more (Nat.le_refl _) (Nat.add_le_add_left (traceHolder_size_le _ hlen) _), rfl, kp, E.kp kp, N.kp kp, hT.kp kp N, fun v Fl => ?_, come⟩
  obtain ⟨c2, cf2, k2, i2, f2, z1, z2, z3, z4, z5, z6, z7⟩ := Fl
  obtain ⟨c', p1, p2, -, p4⟩ := kept a c2 (by rw [eT]; exact z1)
  obtain ⟨k3, z8, -⟩ := State.fieldFound?_setVm (s := Z) hal z2
  have z9 : s.fieldFound? tN "detailMessage" msgD = some (cf2, k3, i2, f2) := z8
  have nm := (State.fieldFound?_type z9 (t := .object "java/lang/String") (by decide +kernel)).1
  have nS := (State.fieldFound?_type t4 (t := .array (.object "java/lang/StackTraceElement")) (by decide +kernel)).1
  obtain ⟨-, _, m1, m2⟩ := Cond.laysAt fnd x1 z9 (w 30 rfl)
  obtain ⟨-, _, m3, m4⟩ := Cond.laysAt fnd x1 b7 (w 24 rfl)
  obtain ⟨-, _, m5, m6⟩ := Cond.laysAt fnd x1 d3 (w 25 rfl)
  obtain ⟨-, _, m7, m8⟩ := Cond.laysAt fnd x1 t4 (w 22 rfl)
  have y3 := Cond.laysApart m1 m3 m2 m4 (by rw [nm, b5]; decide)
  have y4 := Cond.laysApart m1 m5 m2 m6 (by rw [nm, d7]; decide)
  have y5 := Cond.laysApart m1 m7 m2 m8 (by rw [nm, nS]; decide)
  refine ⟨c', cf2, k2, i2, f2, p1, z2, z3, by rw [p2]; exact z4, by rw [p2]; exact z5, by rw [p2]; exact z6, ?_⟩
  rw [p4 f2.slot (by simp [y3, y4, y5])]; exact z7
end OwnThr
def own_len (x : Int32) : Int32 := ((x.toUInt32 >>> ((24 : Int32) &&& 31).toUInt32).toInt32) &&& (3 : Int32)
def own_B (y : Int32) : Int32 := nar .byte ((nar .char ((y &&& (255 : Int32)).toUInt32.toUInt16.toUInt32.toInt32)).toInt8.toInt32)
def own_draw (x n : Int32) (g : Nat → Int32) : Prop := n = own_len x ∧ ((0 : Int32) < n → g 0 = own_B x) ∧ ((1 : Int32) < n → g 1 = own_B ((x.toUInt32 >>> ((8 : Int32) &&& 31).toUInt32).toInt32)) ∧ ((2 : Int32) < n → g 2 = own_B ((x.toUInt32 >>> ((16 : Int32) &&& 31).toUInt32).toInt32))
def own_exp (i w m z : Int32) : Prop := (i < ((w.toUInt32 >>> ((24 : Int32) &&& 31).toUInt32).toInt32) &&& (3 : Int32) ∧ z = nar .char ((((w.toUInt32 >>> (((8 : Int32) * i) &&& 31).toUInt32).toInt32) &&& (255 : Int32)).toUInt32.toUInt16.toUInt32.toInt32)) ∨ (¬ (i < ((w.toUInt32 >>> ((24 : Int32) &&& 31).toUInt32).toInt32) &&& (3 : Int32)) ∧ i = ((w.toUInt32 >>> ((24 : Int32) &&& 31).toUInt32).toInt32) &&& (3 : Int32) ∧ z = (58 : Int32)) ∨ (¬ (i < ((w.toUInt32 >>> ((24 : Int32) &&& 31).toUInt32).toInt32) &&& (3 : Int32)) ∧ ¬ (i = ((w.toUInt32 >>> ((24 : Int32) &&& 31).toUInt32).toInt32) &&& (3 : Int32)) ∧ i = (((w.toUInt32 >>> ((24 : Int32) &&& 31).toUInt32).toInt32) &&& (3 : Int32)) + (1 : Int32) ∧ z = (32 : Int32)) ∨ (¬ (i < ((w.toUInt32 >>> ((24 : Int32) &&& 31).toUInt32).toInt32) &&& (3 : Int32)) ∧ ¬ (i = ((w.toUInt32 >>> ((24 : Int32) &&& 31).toUInt32).toInt32) &&& (3 : Int32)) ∧ ¬ (i = (((w.toUInt32 >>> ((24 : Int32) &&& 31).toUInt32).toInt32) &&& (3 : Int32)) + (1 : Int32)) ∧ z = nar .char ((((m.toUInt32 >>> (((8 : Int32) * ((i - (((w.toUInt32 >>> ((24 : Int32) &&& 31).toUInt32).toInt32) &&& (3 : Int32))) - (2 : Int32))) &&& 31).toUInt32).toInt32) &&& (255 : Int32)).toUInt32.toUInt16.toUInt32.toInt32))
def own_expF (n i w m : Int32) : Int32 := if i < n then nar .char ((((w.toUInt32 >>> (((8 : Int32) * i) &&& 31).toUInt32).toInt32) &&& (255 : Int32)).toUInt32.toUInt16.toUInt32.toInt32) else if i = n then (58 : Int32) else if i = n + 1 then (32 : Int32) else nar .char ((((m.toUInt32 >>> (((8 : Int32) * ((i - n) - (2 : Int32))) &&& 31).toUInt32).toInt32) &&& (255 : Int32)).toUInt32.toUInt16.toUInt32.toInt32)
theorem own_expI {i w m z : Int32} (h : own_exp i w m z) : z = own_expF (own_len w) i w m := by
  unfold own_exp at h
  unfold own_expF own_len
  rcases h with ⟨a, b⟩ | ⟨a, b, c⟩ | ⟨a, b, c, d⟩ | ⟨a, b, c, d⟩
  · rw [if_pos a]; exact b
  · rw [if_neg a, if_pos b]; exact c
  · rw [if_neg a, if_neg b, if_pos c]; exact d
  · rw [if_neg a, if_neg b, if_neg c]; exact d
theorem own_lenC (x : Int32) : own_len x = 0 ∨ own_len x = 1 ∨ own_len x = 2 ∨ own_len x = 3 := by
  have h := c_and ((x.toUInt32 >>> ((24 : Int32) &&& 31).toUInt32).toInt32) 3 (by decide)
  have e0 : (0 : Int32).toInt = 0 := rfl
  have e1 : (1 : Int32).toInt = 1 := rfl
  have e2 : (2 : Int32).toInt = 2 := rfl
  have e3 : (3 : Int32).toInt = 3 := rfl
  show (((x.toUInt32 >>> ((24 : Int32) &&& 31).toUInt32).toInt32) &&& (3 : Int32)) = 0 ∨ (((x.toUInt32 >>> ((24 : Int32) &&& 31).toUInt32).toInt32) &&& (3 : Int32)) = 1 ∨ (((x.toUInt32 >>> ((24 : Int32) &&& 31).toUInt32).toInt32) &&& (3 : Int32)) = 2 ∨ (((x.toUInt32 >>> ((24 : Int32) &&& 31).toUInt32).toInt32) &&& (3 : Int32)) = 3
  generalize (((x.toUInt32 >>> ((24 : Int32) &&& 31).toUInt32).toInt32) &&& (3 : Int32)) = z at h
  simp only [← Int32.toInt_inj]
  omega
theorem own_len4 {x n : Int32} (h : n = own_len x) : n = 0 ∨ n = 1 ∨ n = 2 ∨ n = 3 := by
  rw [h]; exact own_lenC x
theorem own_len3 (x : Int32) (h0 : ¬ (((x.toUInt32 >>> ((24 : Int32) &&& 31).toUInt32).toInt32) &&& (3 : Int32)) = 0) (h1 : ¬ (((x.toUInt32 >>> ((24 : Int32) &&& 31).toUInt32).toInt32) &&& (3 : Int32)) = 1) (h2 : ¬ (((x.toUInt32 >>> ((24 : Int32) &&& 31).toUInt32).toInt32) &&& (3 : Int32)) = 2) : 3 = own_len x := by
  rcases own_lenC x with h | h | h | h
  · exact absurd h h0
  · exact absurd h h1
  · exact absurd h h2
  · exact h.symm
theorem own_ch (x : Int32) : ¬ (255 : Int32) < nar .char ((x &&& (255 : Int32)).toUInt32.toUInt16.toUInt32.toInt32) := by
  have h1 := c_and x 255 (by decide)
  have h2 := c_i2c (x &&& 255)
  have h3 := c_i2c ((x &&& 255).toUInt32.toUInt16.toUInt32.toInt32)
  have e : (255 : Int32).toInt = 255 := rfl
  rw [Int32.lt_iff_toInt_lt]
  show ¬ (255 : Int32).toInt < (((x &&& 255).toUInt32.toUInt16.toUInt32.toInt32).toUInt32.toUInt16.toUInt32.toInt32).toInt
  omega
theorem own_and255 (x : Int32) : (x &&& (255 : Int32)).toInt = x.toInt % 256 := by
  have h : (x &&& (255 : Int32)).toBitVec.toNat = x.toBitVec.toNat % 256 := by
    rw [Int32.toBitVec_and, BitVec.toNat_and]
    exact Nat.and_two_pow_sub_one_eq_mod _ 8
  have e : (x &&& (255 : Int32)).toInt = (x &&& (255 : Int32)).toBitVec.toInt := rfl
  have e2 : x.toInt = x.toBitVec.toInt := rfl
  rw [e, e2, BitVec.toInt_eq_toNat_of_lt (by omega), h, BitVec.toInt_eq_toNat_cond]
  split <;> omega
theorem own_c1 {y g : Int32} (h : g = own_B y) : nar .char (nar .char ((g &&& (255 : Int32)).toUInt32.toUInt16.toUInt32.toInt32)) = nar .char ((y &&& (255 : Int32)).toUInt32.toUInt16.toUInt32.toInt32) := by
  have e : (255 : Int32).toInt = 255 := rfl
  have h0 := c_and y 255 (by decide)
  have h1 := c_i2c (y &&& 255)
  have h2 := c_i2c ((y &&& 255).toUInt32.toUInt16.toUInt32.toInt32)
  have h3 := c_i2b (((y &&& 255).toUInt32.toUInt16.toUInt32.toInt32).toUInt32.toUInt16.toUInt32.toInt32)
  have h4 := c_i2b ((((y &&& 255).toUInt32.toUInt16.toUInt32.toInt32).toUInt32.toUInt16.toUInt32.toInt32).toInt8.toInt32)
  have hg : g = ((((y &&& 255).toUInt32.toUInt16.toUInt32.toInt32).toUInt32.toUInt16.toUInt32.toInt32).toInt8.toInt32).toInt8.toInt32 := h
  rw [← hg] at h4
  clear h hg
  have h5 := own_and255 g
  have h6 := c_i2c (g &&& 255)
  have h7 := c_i2c ((g &&& 255).toUInt32.toUInt16.toUInt32.toInt32)
  have h8 := c_i2c (((g &&& 255).toUInt32.toUInt16.toUInt32.toInt32).toUInt32.toUInt16.toUInt32.toInt32)
  show ((((g &&& 255).toUInt32.toUInt16.toUInt32.toInt32).toUInt32.toUInt16.toUInt32.toInt32).toUInt32.toUInt16.toUInt32.toInt32) = ((y &&& 255).toUInt32.toUInt16.toUInt32.toInt32).toUInt32.toUInt16.toUInt32.toInt32
  rw [← Int32.toInt_inj]
  omega
theorem own_sh0 (x : Int32) : (x.toUInt32 >>> (((8 : Int32) * (0 : Int32)) &&& 31).toUInt32).toInt32 = x := by
  have e : (((8 : Int32) * (0 : Int32)) &&& 31).toUInt32 = 0 := by decide
  rw [e, UInt32.shiftRight_zero]
  exact Int32.toInt32_toUInt32 x
theorem own_c0 {y g : Int32} (h : g = own_B y) : nar .char (nar .char ((g &&& (255 : Int32)).toUInt32.toUInt16.toUInt32.toInt32)) = nar .char ((((y.toUInt32 >>> (((8 : Int32) * (0 : Int32)) &&& 31).toUInt32).toInt32) &&& (255 : Int32)).toUInt32.toUInt16.toUInt32.toInt32) := by
  rw [own_sh0]; exact own_c1 h
theorem own_lenF {p0 p1 n1 n2 v1 v2 : Int32} {g1 g2 : Nat → Int32} (h1 : own_draw p0 n1 g1) (h2 : own_draw p1 n2 g2) (e1 : own_len p0 = v1) (e2 : own_len p1 = v2) (ne : ¬ (((((0 : Int32) + n1) + (2 : Int32)) + n2) = ((v1 + (2 : Int32)) + v2))) : False := by
  apply ne
  rw [h1.1, h2.1, e1, e2, Int32.zero_add]
theorem own_conj5 {a b c d r : Cond} {A0 : Array Value} {Z : State} (h1 : a.before A0 Z = true) (h2 : b.before A0 Z = true) (h3 : c.before A0 Z = true) (h4 : d.before A0 Z = true) (h5 : r.before A0 Z = true) : (Jvm.Free.Exc.conj [a, b, c, d, r]).before A0 Z = true := conj_of fun x hx => by
  simp only [List.mem_cons, List.not_mem_nil, or_false] at hx
  rcases hx with rfl | rfl | rfl | rfl | rfl <;> assumption
theorem own_ne0 {args : Array Value} {s : State} {t : Term} {z : Int32} (h : (Jvm.Cond.not (Jvm.Cond.eq t (Jvm.Term.int (0 : Int32)))).value args s none s [] = some true) (ev : t.eval args s none [] s = some (.int z)) : ¬ (z = (0 : Int32)) := fun q => by
  subst q
  have e2 : (Term.int (0 : Int32)).eval args s none [] s = some (.int 0) := rfl
  simp [Cond.value, ev, e2] at h
theorem own_refV {args : Array Value} {s : State} {t : Term} (h : (Jvm.Cond.isRef t).value args s none s [] = some true) : ∃ v, t.eval args s none [] s = some v ∧ v.isRef = true := by
  cases e : t.eval args s none [] s with
  | none => simp [Cond.value, e] at h
  | some v => exact ⟨v, rfl, by cases v <;> first | rfl | simp [Cond.value, e] at h⟩
theorem own_tr {g x e r : Int32} (h1 : g = x) (h2 : nar .char (nar .char (((x) &&& (255 : Int32)).toUInt32.toUInt16.toUInt32.toInt32)) = r) (h3 : e = r) : nar .char (nar .char (((g) &&& (255 : Int32)).toUInt32.toUInt16.toUInt32.toInt32)) = e := by rw [h1, h2, h3]
theorem own_s0 {p0 p1 n1 n2 o : Int32} {g1 g2 : Nat → Int32} (h1 : own_draw p0 n1 g1) (h2 : own_draw p1 n2 g2) (hlt : (0 : Int32) < ((((0 : Int32) + n1) + (2 : Int32)) + n2)) (he : own_exp (0 : Int32) p0 p1 o) : nar .char (nar .char ((((own_cp (own_cp g2 0 (own_cp (own_li [58, 32]) 0 (own_cp g1 0 (fun _ => (0 : Int32)) 0 (n1).toNatClampNeg) (((0 : Int32) + n1)).toNatClampNeg 2) ((((0 : Int32) + n1) + (2 : Int32))).toNatClampNeg (n2).toNatClampNeg) 0 (fun _ => (0 : Int32)) 0 (((((0 : Int32) + n1) + (2 : Int32)) + n2)).toNatClampNeg) 0) &&& (255 : Int32)).toUInt32.toUInt16.toUInt32.toInt32)) = o := by
  obtain ⟨e1, a0, a1, a2⟩ := h1
  obtain ⟨e2, c0, c1, c2⟩ := h2
  have he := own_expI he
  rw [← e1] at he
  subst he
  have q1 := own_len4 e1
  have q2 := own_len4 e2
  clear e1 e2
  rcases q1 with rfl | rfl | rfl | rfl
  · rcases q2 with rfl | rfl | rfl | rfl
    · exact own_tr (x := (58 : Int32)) (r := (58 : Int32)) rfl rfl rfl
    · exact own_tr (x := (58 : Int32)) (r := (58 : Int32)) rfl rfl rfl
    · exact own_tr (x := (58 : Int32)) (r := (58 : Int32)) rfl rfl rfl
    · exact own_tr (x := (58 : Int32)) (r := (58 : Int32)) rfl rfl rfl
  · rcases q2 with rfl | rfl | rfl | rfl
    · exact own_tr (x := g1 0) (r := nar .char ((((p0.toUInt32 >>> (((8 : Int32) * (0 : Int32)) &&& 31).toUInt32).toInt32) &&& (255 : Int32)).toUInt32.toUInt16.toUInt32.toInt32)) rfl (own_c0 (a0 (by decide))) rfl
    · exact own_tr (x := g1 0) (r := nar .char ((((p0.toUInt32 >>> (((8 : Int32) * (0 : Int32)) &&& 31).toUInt32).toInt32) &&& (255 : Int32)).toUInt32.toUInt16.toUInt32.toInt32)) rfl (own_c0 (a0 (by decide))) rfl
    · exact own_tr (x := g1 0) (r := nar .char ((((p0.toUInt32 >>> (((8 : Int32) * (0 : Int32)) &&& 31).toUInt32).toInt32) &&& (255 : Int32)).toUInt32.toUInt16.toUInt32.toInt32)) rfl (own_c0 (a0 (by decide))) rfl
    · exact own_tr (x := g1 0) (r := nar .char ((((p0.toUInt32 >>> (((8 : Int32) * (0 : Int32)) &&& 31).toUInt32).toInt32) &&& (255 : Int32)).toUInt32.toUInt16.toUInt32.toInt32)) rfl (own_c0 (a0 (by decide))) rfl
  · rcases q2 with rfl | rfl | rfl | rfl
    · exact own_tr (x := g1 0) (r := nar .char ((((p0.toUInt32 >>> (((8 : Int32) * (0 : Int32)) &&& 31).toUInt32).toInt32) &&& (255 : Int32)).toUInt32.toUInt16.toUInt32.toInt32)) rfl (own_c0 (a0 (by decide))) rfl
    · exact own_tr (x := g1 0) (r := nar .char ((((p0.toUInt32 >>> (((8 : Int32) * (0 : Int32)) &&& 31).toUInt32).toInt32) &&& (255 : Int32)).toUInt32.toUInt16.toUInt32.toInt32)) rfl (own_c0 (a0 (by decide))) rfl
    · exact own_tr (x := g1 0) (r := nar .char ((((p0.toUInt32 >>> (((8 : Int32) * (0 : Int32)) &&& 31).toUInt32).toInt32) &&& (255 : Int32)).toUInt32.toUInt16.toUInt32.toInt32)) rfl (own_c0 (a0 (by decide))) rfl
    · exact own_tr (x := g1 0) (r := nar .char ((((p0.toUInt32 >>> (((8 : Int32) * (0 : Int32)) &&& 31).toUInt32).toInt32) &&& (255 : Int32)).toUInt32.toUInt16.toUInt32.toInt32)) rfl (own_c0 (a0 (by decide))) rfl
  · rcases q2 with rfl | rfl | rfl | rfl
    · exact own_tr (x := g1 0) (r := nar .char ((((p0.toUInt32 >>> (((8 : Int32) * (0 : Int32)) &&& 31).toUInt32).toInt32) &&& (255 : Int32)).toUInt32.toUInt16.toUInt32.toInt32)) rfl (own_c0 (a0 (by decide))) rfl
    · exact own_tr (x := g1 0) (r := nar .char ((((p0.toUInt32 >>> (((8 : Int32) * (0 : Int32)) &&& 31).toUInt32).toInt32) &&& (255 : Int32)).toUInt32.toUInt16.toUInt32.toInt32)) rfl (own_c0 (a0 (by decide))) rfl
    · exact own_tr (x := g1 0) (r := nar .char ((((p0.toUInt32 >>> (((8 : Int32) * (0 : Int32)) &&& 31).toUInt32).toInt32) &&& (255 : Int32)).toUInt32.toUInt16.toUInt32.toInt32)) rfl (own_c0 (a0 (by decide))) rfl
    · exact own_tr (x := g1 0) (r := nar .char ((((p0.toUInt32 >>> (((8 : Int32) * (0 : Int32)) &&& 31).toUInt32).toInt32) &&& (255 : Int32)).toUInt32.toUInt16.toUInt32.toInt32)) rfl (own_c0 (a0 (by decide))) rfl
theorem own_s1 {p0 p1 n1 n2 o : Int32} {g1 g2 : Nat → Int32} (h1 : own_draw p0 n1 g1) (h2 : own_draw p1 n2 g2) (hlt : (1 : Int32) < ((((0 : Int32) + n1) + (2 : Int32)) + n2)) (he : own_exp (1 : Int32) p0 p1 o) : nar .char (nar .char ((((own_cp (own_cp g2 0 (own_cp (own_li [58, 32]) 0 (own_cp g1 0 (fun _ => (0 : Int32)) 0 (n1).toNatClampNeg) (((0 : Int32) + n1)).toNatClampNeg 2) ((((0 : Int32) + n1) + (2 : Int32))).toNatClampNeg (n2).toNatClampNeg) 0 (fun _ => (0 : Int32)) 0 (((((0 : Int32) + n1) + (2 : Int32)) + n2)).toNatClampNeg) 1) &&& (255 : Int32)).toUInt32.toUInt16.toUInt32.toInt32)) = o := by
  obtain ⟨e1, a0, a1, a2⟩ := h1
  obtain ⟨e2, c0, c1, c2⟩ := h2
  have he := own_expI he
  rw [← e1] at he
  subst he
  have q1 := own_len4 e1
  have q2 := own_len4 e2
  clear e1 e2
  rcases q1 with rfl | rfl | rfl | rfl
  · rcases q2 with rfl | rfl | rfl | rfl
    · exact own_tr (x := (32 : Int32)) (r := (32 : Int32)) rfl rfl rfl
    · exact own_tr (x := (32 : Int32)) (r := (32 : Int32)) rfl rfl rfl
    · exact own_tr (x := (32 : Int32)) (r := (32 : Int32)) rfl rfl rfl
    · exact own_tr (x := (32 : Int32)) (r := (32 : Int32)) rfl rfl rfl
  · rcases q2 with rfl | rfl | rfl | rfl
    · exact own_tr (x := (58 : Int32)) (r := (58 : Int32)) rfl rfl rfl
    · exact own_tr (x := (58 : Int32)) (r := (58 : Int32)) rfl rfl rfl
    · exact own_tr (x := (58 : Int32)) (r := (58 : Int32)) rfl rfl rfl
    · exact own_tr (x := (58 : Int32)) (r := (58 : Int32)) rfl rfl rfl
  · rcases q2 with rfl | rfl | rfl | rfl
    · exact own_tr (x := g1 1) (r := nar .char ((((p0.toUInt32 >>> (((8 : Int32) * (1 : Int32)) &&& 31).toUInt32).toInt32) &&& (255 : Int32)).toUInt32.toUInt16.toUInt32.toInt32)) rfl (own_c1 (y := ((p0.toUInt32 >>> (((8 : Int32) * (1 : Int32)) &&& 31).toUInt32).toInt32)) (a1 (by decide))) rfl
    · exact own_tr (x := g1 1) (r := nar .char ((((p0.toUInt32 >>> (((8 : Int32) * (1 : Int32)) &&& 31).toUInt32).toInt32) &&& (255 : Int32)).toUInt32.toUInt16.toUInt32.toInt32)) rfl (own_c1 (y := ((p0.toUInt32 >>> (((8 : Int32) * (1 : Int32)) &&& 31).toUInt32).toInt32)) (a1 (by decide))) rfl
    · exact own_tr (x := g1 1) (r := nar .char ((((p0.toUInt32 >>> (((8 : Int32) * (1 : Int32)) &&& 31).toUInt32).toInt32) &&& (255 : Int32)).toUInt32.toUInt16.toUInt32.toInt32)) rfl (own_c1 (y := ((p0.toUInt32 >>> (((8 : Int32) * (1 : Int32)) &&& 31).toUInt32).toInt32)) (a1 (by decide))) rfl
    · exact own_tr (x := g1 1) (r := nar .char ((((p0.toUInt32 >>> (((8 : Int32) * (1 : Int32)) &&& 31).toUInt32).toInt32) &&& (255 : Int32)).toUInt32.toUInt16.toUInt32.toInt32)) rfl (own_c1 (y := ((p0.toUInt32 >>> (((8 : Int32) * (1 : Int32)) &&& 31).toUInt32).toInt32)) (a1 (by decide))) rfl
  · rcases q2 with rfl | rfl | rfl | rfl
    · exact own_tr (x := g1 1) (r := nar .char ((((p0.toUInt32 >>> (((8 : Int32) * (1 : Int32)) &&& 31).toUInt32).toInt32) &&& (255 : Int32)).toUInt32.toUInt16.toUInt32.toInt32)) rfl (own_c1 (y := ((p0.toUInt32 >>> (((8 : Int32) * (1 : Int32)) &&& 31).toUInt32).toInt32)) (a1 (by decide))) rfl
    · exact own_tr (x := g1 1) (r := nar .char ((((p0.toUInt32 >>> (((8 : Int32) * (1 : Int32)) &&& 31).toUInt32).toInt32) &&& (255 : Int32)).toUInt32.toUInt16.toUInt32.toInt32)) rfl (own_c1 (y := ((p0.toUInt32 >>> (((8 : Int32) * (1 : Int32)) &&& 31).toUInt32).toInt32)) (a1 (by decide))) rfl
    · exact own_tr (x := g1 1) (r := nar .char ((((p0.toUInt32 >>> (((8 : Int32) * (1 : Int32)) &&& 31).toUInt32).toInt32) &&& (255 : Int32)).toUInt32.toUInt16.toUInt32.toInt32)) rfl (own_c1 (y := ((p0.toUInt32 >>> (((8 : Int32) * (1 : Int32)) &&& 31).toUInt32).toInt32)) (a1 (by decide))) rfl
    · exact own_tr (x := g1 1) (r := nar .char ((((p0.toUInt32 >>> (((8 : Int32) * (1 : Int32)) &&& 31).toUInt32).toInt32) &&& (255 : Int32)).toUInt32.toUInt16.toUInt32.toInt32)) rfl (own_c1 (y := ((p0.toUInt32 >>> (((8 : Int32) * (1 : Int32)) &&& 31).toUInt32).toInt32)) (a1 (by decide))) rfl
theorem own_s2 {p0 p1 n1 n2 o : Int32} {g1 g2 : Nat → Int32} (h1 : own_draw p0 n1 g1) (h2 : own_draw p1 n2 g2) (hlt : (2 : Int32) < ((((0 : Int32) + n1) + (2 : Int32)) + n2)) (he : own_exp (2 : Int32) p0 p1 o) : nar .char (nar .char ((((own_cp (own_cp g2 0 (own_cp (own_li [58, 32]) 0 (own_cp g1 0 (fun _ => (0 : Int32)) 0 (n1).toNatClampNeg) (((0 : Int32) + n1)).toNatClampNeg 2) ((((0 : Int32) + n1) + (2 : Int32))).toNatClampNeg (n2).toNatClampNeg) 0 (fun _ => (0 : Int32)) 0 (((((0 : Int32) + n1) + (2 : Int32)) + n2)).toNatClampNeg) 2) &&& (255 : Int32)).toUInt32.toUInt16.toUInt32.toInt32)) = o := by
  obtain ⟨e1, a0, a1, a2⟩ := h1
  obtain ⟨e2, c0, c1, c2⟩ := h2
  have he := own_expI he
  rw [← e1] at he
  subst he
  have q1 := own_len4 e1
  have q2 := own_len4 e2
  clear e1 e2
  rcases q1 with rfl | rfl | rfl | rfl
  · rcases q2 with rfl | rfl | rfl | rfl
    · exact absurd hlt (by decide)
    · exact own_tr (x := g2 0) (r := nar .char ((((p1.toUInt32 >>> (((8 : Int32) * (0 : Int32)) &&& 31).toUInt32).toInt32) &&& (255 : Int32)).toUInt32.toUInt16.toUInt32.toInt32)) rfl (own_c0 (c0 (by decide))) rfl
    · exact own_tr (x := g2 0) (r := nar .char ((((p1.toUInt32 >>> (((8 : Int32) * (0 : Int32)) &&& 31).toUInt32).toInt32) &&& (255 : Int32)).toUInt32.toUInt16.toUInt32.toInt32)) rfl (own_c0 (c0 (by decide))) rfl
    · exact own_tr (x := g2 0) (r := nar .char ((((p1.toUInt32 >>> (((8 : Int32) * (0 : Int32)) &&& 31).toUInt32).toInt32) &&& (255 : Int32)).toUInt32.toUInt16.toUInt32.toInt32)) rfl (own_c0 (c0 (by decide))) rfl
  · rcases q2 with rfl | rfl | rfl | rfl
    · exact own_tr (x := (32 : Int32)) (r := (32 : Int32)) rfl rfl rfl
    · exact own_tr (x := (32 : Int32)) (r := (32 : Int32)) rfl rfl rfl
    · exact own_tr (x := (32 : Int32)) (r := (32 : Int32)) rfl rfl rfl
    · exact own_tr (x := (32 : Int32)) (r := (32 : Int32)) rfl rfl rfl
  · rcases q2 with rfl | rfl | rfl | rfl
    · exact own_tr (x := (58 : Int32)) (r := (58 : Int32)) rfl rfl rfl
    · exact own_tr (x := (58 : Int32)) (r := (58 : Int32)) rfl rfl rfl
    · exact own_tr (x := (58 : Int32)) (r := (58 : Int32)) rfl rfl rfl
    · exact own_tr (x := (58 : Int32)) (r := (58 : Int32)) rfl rfl rfl
  · rcases q2 with rfl | rfl | rfl | rfl
    · exact own_tr (x := g1 2) (r := nar .char ((((p0.toUInt32 >>> (((8 : Int32) * (2 : Int32)) &&& 31).toUInt32).toInt32) &&& (255 : Int32)).toUInt32.toUInt16.toUInt32.toInt32)) rfl (own_c1 (y := ((p0.toUInt32 >>> (((8 : Int32) * (2 : Int32)) &&& 31).toUInt32).toInt32)) (a2 (by decide))) rfl
    · exact own_tr (x := g1 2) (r := nar .char ((((p0.toUInt32 >>> (((8 : Int32) * (2 : Int32)) &&& 31).toUInt32).toInt32) &&& (255 : Int32)).toUInt32.toUInt16.toUInt32.toInt32)) rfl (own_c1 (y := ((p0.toUInt32 >>> (((8 : Int32) * (2 : Int32)) &&& 31).toUInt32).toInt32)) (a2 (by decide))) rfl
    · exact own_tr (x := g1 2) (r := nar .char ((((p0.toUInt32 >>> (((8 : Int32) * (2 : Int32)) &&& 31).toUInt32).toInt32) &&& (255 : Int32)).toUInt32.toUInt16.toUInt32.toInt32)) rfl (own_c1 (y := ((p0.toUInt32 >>> (((8 : Int32) * (2 : Int32)) &&& 31).toUInt32).toInt32)) (a2 (by decide))) rfl
    · exact own_tr (x := g1 2) (r := nar .char ((((p0.toUInt32 >>> (((8 : Int32) * (2 : Int32)) &&& 31).toUInt32).toInt32) &&& (255 : Int32)).toUInt32.toUInt16.toUInt32.toInt32)) rfl (own_c1 (y := ((p0.toUInt32 >>> (((8 : Int32) * (2 : Int32)) &&& 31).toUInt32).toInt32)) (a2 (by decide))) rfl
theorem own_s3 {p0 p1 n1 n2 o : Int32} {g1 g2 : Nat → Int32} (h1 : own_draw p0 n1 g1) (h2 : own_draw p1 n2 g2) (hlt : (3 : Int32) < ((((0 : Int32) + n1) + (2 : Int32)) + n2)) (he : own_exp (3 : Int32) p0 p1 o) : nar .char (nar .char ((((own_cp (own_cp g2 0 (own_cp (own_li [58, 32]) 0 (own_cp g1 0 (fun _ => (0 : Int32)) 0 (n1).toNatClampNeg) (((0 : Int32) + n1)).toNatClampNeg 2) ((((0 : Int32) + n1) + (2 : Int32))).toNatClampNeg (n2).toNatClampNeg) 0 (fun _ => (0 : Int32)) 0 (((((0 : Int32) + n1) + (2 : Int32)) + n2)).toNatClampNeg) 3) &&& (255 : Int32)).toUInt32.toUInt16.toUInt32.toInt32)) = o := by
  obtain ⟨e1, a0, a1, a2⟩ := h1
  obtain ⟨e2, c0, c1, c2⟩ := h2
  have he := own_expI he
  rw [← e1] at he
  subst he
  have q1 := own_len4 e1
  have q2 := own_len4 e2
  clear e1 e2
  rcases q1 with rfl | rfl | rfl | rfl
  · rcases q2 with rfl | rfl | rfl | rfl
    · exact absurd hlt (by decide)
    · exact absurd hlt (by decide)
    · exact own_tr (x := g2 1) (r := nar .char ((((p1.toUInt32 >>> (((8 : Int32) * (1 : Int32)) &&& 31).toUInt32).toInt32) &&& (255 : Int32)).toUInt32.toUInt16.toUInt32.toInt32)) rfl (own_c1 (y := ((p1.toUInt32 >>> (((8 : Int32) * (1 : Int32)) &&& 31).toUInt32).toInt32)) (c1 (by decide))) rfl
    · exact own_tr (x := g2 1) (r := nar .char ((((p1.toUInt32 >>> (((8 : Int32) * (1 : Int32)) &&& 31).toUInt32).toInt32) &&& (255 : Int32)).toUInt32.toUInt16.toUInt32.toInt32)) rfl (own_c1 (y := ((p1.toUInt32 >>> (((8 : Int32) * (1 : Int32)) &&& 31).toUInt32).toInt32)) (c1 (by decide))) rfl
  · rcases q2 with rfl | rfl | rfl | rfl
    · exact absurd hlt (by decide)
    · exact own_tr (x := g2 0) (r := nar .char ((((p1.toUInt32 >>> (((8 : Int32) * (0 : Int32)) &&& 31).toUInt32).toInt32) &&& (255 : Int32)).toUInt32.toUInt16.toUInt32.toInt32)) rfl (own_c0 (c0 (by decide))) rfl
    · exact own_tr (x := g2 0) (r := nar .char ((((p1.toUInt32 >>> (((8 : Int32) * (0 : Int32)) &&& 31).toUInt32).toInt32) &&& (255 : Int32)).toUInt32.toUInt16.toUInt32.toInt32)) rfl (own_c0 (c0 (by decide))) rfl
    · exact own_tr (x := g2 0) (r := nar .char ((((p1.toUInt32 >>> (((8 : Int32) * (0 : Int32)) &&& 31).toUInt32).toInt32) &&& (255 : Int32)).toUInt32.toUInt16.toUInt32.toInt32)) rfl (own_c0 (c0 (by decide))) rfl
  · rcases q2 with rfl | rfl | rfl | rfl
    · exact own_tr (x := (32 : Int32)) (r := (32 : Int32)) rfl rfl rfl
    · exact own_tr (x := (32 : Int32)) (r := (32 : Int32)) rfl rfl rfl
    · exact own_tr (x := (32 : Int32)) (r := (32 : Int32)) rfl rfl rfl
    · exact own_tr (x := (32 : Int32)) (r := (32 : Int32)) rfl rfl rfl
  · rcases q2 with rfl | rfl | rfl | rfl
    · exact own_tr (x := (58 : Int32)) (r := (58 : Int32)) rfl rfl rfl
    · exact own_tr (x := (58 : Int32)) (r := (58 : Int32)) rfl rfl rfl
    · exact own_tr (x := (58 : Int32)) (r := (58 : Int32)) rfl rfl rfl
    · exact own_tr (x := (58 : Int32)) (r := (58 : Int32)) rfl rfl rfl
theorem own_s4 {p0 p1 n1 n2 o : Int32} {g1 g2 : Nat → Int32} (h1 : own_draw p0 n1 g1) (h2 : own_draw p1 n2 g2) (hlt : (4 : Int32) < ((((0 : Int32) + n1) + (2 : Int32)) + n2)) (he : own_exp (4 : Int32) p0 p1 o) : nar .char (nar .char ((((own_cp (own_cp g2 0 (own_cp (own_li [58, 32]) 0 (own_cp g1 0 (fun _ => (0 : Int32)) 0 (n1).toNatClampNeg) (((0 : Int32) + n1)).toNatClampNeg 2) ((((0 : Int32) + n1) + (2 : Int32))).toNatClampNeg (n2).toNatClampNeg) 0 (fun _ => (0 : Int32)) 0 (((((0 : Int32) + n1) + (2 : Int32)) + n2)).toNatClampNeg) 4) &&& (255 : Int32)).toUInt32.toUInt16.toUInt32.toInt32)) = o := by
  obtain ⟨e1, a0, a1, a2⟩ := h1
  obtain ⟨e2, c0, c1, c2⟩ := h2
  have he := own_expI he
  rw [← e1] at he
  subst he
  have q1 := own_len4 e1
  have q2 := own_len4 e2
  clear e1 e2
  rcases q1 with rfl | rfl | rfl | rfl
  · rcases q2 with rfl | rfl | rfl | rfl
    · exact absurd hlt (by decide)
    · exact absurd hlt (by decide)
    · exact absurd hlt (by decide)
    · exact own_tr (x := g2 2) (r := nar .char ((((p1.toUInt32 >>> (((8 : Int32) * (2 : Int32)) &&& 31).toUInt32).toInt32) &&& (255 : Int32)).toUInt32.toUInt16.toUInt32.toInt32)) rfl (own_c1 (y := ((p1.toUInt32 >>> (((8 : Int32) * (2 : Int32)) &&& 31).toUInt32).toInt32)) (c2 (by decide))) rfl
  · rcases q2 with rfl | rfl | rfl | rfl
    · exact absurd hlt (by decide)
    · exact absurd hlt (by decide)
    · exact own_tr (x := g2 1) (r := nar .char ((((p1.toUInt32 >>> (((8 : Int32) * (1 : Int32)) &&& 31).toUInt32).toInt32) &&& (255 : Int32)).toUInt32.toUInt16.toUInt32.toInt32)) rfl (own_c1 (y := ((p1.toUInt32 >>> (((8 : Int32) * (1 : Int32)) &&& 31).toUInt32).toInt32)) (c1 (by decide))) rfl
    · exact own_tr (x := g2 1) (r := nar .char ((((p1.toUInt32 >>> (((8 : Int32) * (1 : Int32)) &&& 31).toUInt32).toInt32) &&& (255 : Int32)).toUInt32.toUInt16.toUInt32.toInt32)) rfl (own_c1 (y := ((p1.toUInt32 >>> (((8 : Int32) * (1 : Int32)) &&& 31).toUInt32).toInt32)) (c1 (by decide))) rfl
  · rcases q2 with rfl | rfl | rfl | rfl
    · exact absurd hlt (by decide)
    · exact own_tr (x := g2 0) (r := nar .char ((((p1.toUInt32 >>> (((8 : Int32) * (0 : Int32)) &&& 31).toUInt32).toInt32) &&& (255 : Int32)).toUInt32.toUInt16.toUInt32.toInt32)) rfl (own_c0 (c0 (by decide))) rfl
    · exact own_tr (x := g2 0) (r := nar .char ((((p1.toUInt32 >>> (((8 : Int32) * (0 : Int32)) &&& 31).toUInt32).toInt32) &&& (255 : Int32)).toUInt32.toUInt16.toUInt32.toInt32)) rfl (own_c0 (c0 (by decide))) rfl
    · exact own_tr (x := g2 0) (r := nar .char ((((p1.toUInt32 >>> (((8 : Int32) * (0 : Int32)) &&& 31).toUInt32).toInt32) &&& (255 : Int32)).toUInt32.toUInt16.toUInt32.toInt32)) rfl (own_c0 (c0 (by decide))) rfl
  · rcases q2 with rfl | rfl | rfl | rfl
    · exact own_tr (x := (32 : Int32)) (r := (32 : Int32)) rfl rfl rfl
    · exact own_tr (x := (32 : Int32)) (r := (32 : Int32)) rfl rfl rfl
    · exact own_tr (x := (32 : Int32)) (r := (32 : Int32)) rfl rfl rfl
    · exact own_tr (x := (32 : Int32)) (r := (32 : Int32)) rfl rfl rfl
theorem own_s5 {p0 p1 n1 n2 o : Int32} {g1 g2 : Nat → Int32} (h1 : own_draw p0 n1 g1) (h2 : own_draw p1 n2 g2) (hlt : (5 : Int32) < ((((0 : Int32) + n1) + (2 : Int32)) + n2)) (he : own_exp (5 : Int32) p0 p1 o) : nar .char (nar .char ((((own_cp (own_cp g2 0 (own_cp (own_li [58, 32]) 0 (own_cp g1 0 (fun _ => (0 : Int32)) 0 (n1).toNatClampNeg) (((0 : Int32) + n1)).toNatClampNeg 2) ((((0 : Int32) + n1) + (2 : Int32))).toNatClampNeg (n2).toNatClampNeg) 0 (fun _ => (0 : Int32)) 0 (((((0 : Int32) + n1) + (2 : Int32)) + n2)).toNatClampNeg) 5) &&& (255 : Int32)).toUInt32.toUInt16.toUInt32.toInt32)) = o := by
  obtain ⟨e1, a0, a1, a2⟩ := h1
  obtain ⟨e2, c0, c1, c2⟩ := h2
  have he := own_expI he
  rw [← e1] at he
  subst he
  have q1 := own_len4 e1
  have q2 := own_len4 e2
  clear e1 e2
  rcases q1 with rfl | rfl | rfl | rfl
  · rcases q2 with rfl | rfl | rfl | rfl
    · exact absurd hlt (by decide)
    · exact absurd hlt (by decide)
    · exact absurd hlt (by decide)
    · exact absurd hlt (by decide)
  · rcases q2 with rfl | rfl | rfl | rfl
    · exact absurd hlt (by decide)
    · exact absurd hlt (by decide)
    · exact absurd hlt (by decide)
    · exact own_tr (x := g2 2) (r := nar .char ((((p1.toUInt32 >>> (((8 : Int32) * (2 : Int32)) &&& 31).toUInt32).toInt32) &&& (255 : Int32)).toUInt32.toUInt16.toUInt32.toInt32)) rfl (own_c1 (y := ((p1.toUInt32 >>> (((8 : Int32) * (2 : Int32)) &&& 31).toUInt32).toInt32)) (c2 (by decide))) rfl
  · rcases q2 with rfl | rfl | rfl | rfl
    · exact absurd hlt (by decide)
    · exact absurd hlt (by decide)
    · exact own_tr (x := g2 1) (r := nar .char ((((p1.toUInt32 >>> (((8 : Int32) * (1 : Int32)) &&& 31).toUInt32).toInt32) &&& (255 : Int32)).toUInt32.toUInt16.toUInt32.toInt32)) rfl (own_c1 (y := ((p1.toUInt32 >>> (((8 : Int32) * (1 : Int32)) &&& 31).toUInt32).toInt32)) (c1 (by decide))) rfl
    · exact own_tr (x := g2 1) (r := nar .char ((((p1.toUInt32 >>> (((8 : Int32) * (1 : Int32)) &&& 31).toUInt32).toInt32) &&& (255 : Int32)).toUInt32.toUInt16.toUInt32.toInt32)) rfl (own_c1 (y := ((p1.toUInt32 >>> (((8 : Int32) * (1 : Int32)) &&& 31).toUInt32).toInt32)) (c1 (by decide))) rfl
  · rcases q2 with rfl | rfl | rfl | rfl
    · exact absurd hlt (by decide)
    · exact own_tr (x := g2 0) (r := nar .char ((((p1.toUInt32 >>> (((8 : Int32) * (0 : Int32)) &&& 31).toUInt32).toInt32) &&& (255 : Int32)).toUInt32.toUInt16.toUInt32.toInt32)) rfl (own_c0 (c0 (by decide))) rfl
    · exact own_tr (x := g2 0) (r := nar .char ((((p1.toUInt32 >>> (((8 : Int32) * (0 : Int32)) &&& 31).toUInt32).toInt32) &&& (255 : Int32)).toUInt32.toUInt16.toUInt32.toInt32)) rfl (own_c0 (c0 (by decide))) rfl
    · exact own_tr (x := g2 0) (r := nar .char ((((p1.toUInt32 >>> (((8 : Int32) * (0 : Int32)) &&& 31).toUInt32).toInt32) &&& (255 : Int32)).toUInt32.toUInt16.toUInt32.toInt32)) rfl (own_c0 (c0 (by decide))) rfl
theorem own_s6 {p0 p1 n1 n2 o : Int32} {g1 g2 : Nat → Int32} (h1 : own_draw p0 n1 g1) (h2 : own_draw p1 n2 g2) (hlt : (6 : Int32) < ((((0 : Int32) + n1) + (2 : Int32)) + n2)) (he : own_exp (6 : Int32) p0 p1 o) : nar .char (nar .char ((((own_cp (own_cp g2 0 (own_cp (own_li [58, 32]) 0 (own_cp g1 0 (fun _ => (0 : Int32)) 0 (n1).toNatClampNeg) (((0 : Int32) + n1)).toNatClampNeg 2) ((((0 : Int32) + n1) + (2 : Int32))).toNatClampNeg (n2).toNatClampNeg) 0 (fun _ => (0 : Int32)) 0 (((((0 : Int32) + n1) + (2 : Int32)) + n2)).toNatClampNeg) 6) &&& (255 : Int32)).toUInt32.toUInt16.toUInt32.toInt32)) = o := by
  obtain ⟨e1, a0, a1, a2⟩ := h1
  obtain ⟨e2, c0, c1, c2⟩ := h2
  have he := own_expI he
  rw [← e1] at he
  subst he
  have q1 := own_len4 e1
  have q2 := own_len4 e2
  clear e1 e2
  rcases q1 with rfl | rfl | rfl | rfl
  · rcases q2 with rfl | rfl | rfl | rfl
    · exact absurd hlt (by decide)
    · exact absurd hlt (by decide)
    · exact absurd hlt (by decide)
    · exact absurd hlt (by decide)
  · rcases q2 with rfl | rfl | rfl | rfl
    · exact absurd hlt (by decide)
    · exact absurd hlt (by decide)
    · exact absurd hlt (by decide)
    · exact absurd hlt (by decide)
  · rcases q2 with rfl | rfl | rfl | rfl
    · exact absurd hlt (by decide)
    · exact absurd hlt (by decide)
    · exact absurd hlt (by decide)
    · exact own_tr (x := g2 2) (r := nar .char ((((p1.toUInt32 >>> (((8 : Int32) * (2 : Int32)) &&& 31).toUInt32).toInt32) &&& (255 : Int32)).toUInt32.toUInt16.toUInt32.toInt32)) rfl (own_c1 (y := ((p1.toUInt32 >>> (((8 : Int32) * (2 : Int32)) &&& 31).toUInt32).toInt32)) (c2 (by decide))) rfl
  · rcases q2 with rfl | rfl | rfl | rfl
    · exact absurd hlt (by decide)
    · exact absurd hlt (by decide)
    · exact own_tr (x := g2 1) (r := nar .char ((((p1.toUInt32 >>> (((8 : Int32) * (1 : Int32)) &&& 31).toUInt32).toInt32) &&& (255 : Int32)).toUInt32.toUInt16.toUInt32.toInt32)) rfl (own_c1 (y := ((p1.toUInt32 >>> (((8 : Int32) * (1 : Int32)) &&& 31).toUInt32).toInt32)) (c1 (by decide))) rfl
    · exact own_tr (x := g2 1) (r := nar .char ((((p1.toUInt32 >>> (((8 : Int32) * (1 : Int32)) &&& 31).toUInt32).toInt32) &&& (255 : Int32)).toUInt32.toUInt16.toUInt32.toInt32)) rfl (own_c1 (y := ((p1.toUInt32 >>> (((8 : Int32) * (1 : Int32)) &&& 31).toUInt32).toInt32)) (c1 (by decide))) rfl
theorem own_s7 {p0 p1 n1 n2 o : Int32} {g1 g2 : Nat → Int32} (h1 : own_draw p0 n1 g1) (h2 : own_draw p1 n2 g2) (hlt : (7 : Int32) < ((((0 : Int32) + n1) + (2 : Int32)) + n2)) (he : own_exp (7 : Int32) p0 p1 o) : nar .char (nar .char ((((own_cp (own_cp g2 0 (own_cp (own_li [58, 32]) 0 (own_cp g1 0 (fun _ => (0 : Int32)) 0 (n1).toNatClampNeg) (((0 : Int32) + n1)).toNatClampNeg 2) ((((0 : Int32) + n1) + (2 : Int32))).toNatClampNeg (n2).toNatClampNeg) 0 (fun _ => (0 : Int32)) 0 (((((0 : Int32) + n1) + (2 : Int32)) + n2)).toNatClampNeg) 7) &&& (255 : Int32)).toUInt32.toUInt16.toUInt32.toInt32)) = o := by
  obtain ⟨e1, a0, a1, a2⟩ := h1
  obtain ⟨e2, c0, c1, c2⟩ := h2
  have he := own_expI he
  rw [← e1] at he
  subst he
  have q1 := own_len4 e1
  have q2 := own_len4 e2
  clear e1 e2
  rcases q1 with rfl | rfl | rfl | rfl
  · rcases q2 with rfl | rfl | rfl | rfl
    · exact absurd hlt (by decide)
    · exact absurd hlt (by decide)
    · exact absurd hlt (by decide)
    · exact absurd hlt (by decide)
  · rcases q2 with rfl | rfl | rfl | rfl
    · exact absurd hlt (by decide)
    · exact absurd hlt (by decide)
    · exact absurd hlt (by decide)
    · exact absurd hlt (by decide)
  · rcases q2 with rfl | rfl | rfl | rfl
    · exact absurd hlt (by decide)
    · exact absurd hlt (by decide)
    · exact absurd hlt (by decide)
    · exact absurd hlt (by decide)
  · rcases q2 with rfl | rfl | rfl | rfl
    · exact absurd hlt (by decide)
    · exact absurd hlt (by decide)
    · exact absurd hlt (by decide)
    · exact own_tr (x := g2 2) (r := nar .char ((((p1.toUInt32 >>> (((8 : Int32) * (2 : Int32)) &&& 31).toUInt32).toInt32) &&& (255 : Int32)).toUInt32.toUInt16.toUInt32.toInt32)) rfl (own_c1 (y := ((p1.toUInt32 >>> (((8 : Int32) * (2 : Int32)) &&& 31).toUInt32).toInt32)) (c2 (by decide))) rfl
abbrev vI (x : Int32) : Slot := Slot.val (Value.int x)
abbrev vJ (x : Int64) : Slot := Slot.val (Value.long x)
abbrev vR (x : Addr) : Slot := Slot.val (Value.ref x)
abbrev vD (x : UInt64) : Slot := Slot.val (Value.double x)
theorem own_atoms : ∀ a ∈ Bundle.stringAtoms, a ∈ tables_1 := by decide +kernel
theorem own_EW {Z : State} {A0 : Array Value} (hw : ∀ d ∈ tables_1, d.before A0 Z = true) : EW Z A0 consts_1 := (EW.cons (hw _ (List.mem_of_getElem? (i := 99) rfl)) (by decide) (EW.cons (hw _ (List.mem_of_getElem? (i := 18) rfl)) (by decide) EW.nil))
theorem d42_0 : decode jdk_52_method_21_code 0 = .ok (.iconst 0, 1) := by decide +kernel
theorem d42_1 : decode jdk_52_method_21_code 1 = .ok (.istore 5, 2) := by decide +kernel
theorem d42_3 : decode jdk_52_method_21_code 3 = .ok (.iload 5, 2) := by decide +kernel
theorem d42_5 : decode jdk_52_method_21_code 5 = .ok (.iload 4, 2) := by decide +kernel
theorem d42_7 : decode jdk_52_method_21_code 7 = .ok (.if_icmp .ge 37, 3) := by decide +kernel
theorem d42_10 : decode jdk_52_method_21_code 10 = .ok (.aload_n 0, 1) := by decide +kernel
theorem d42_11 : decode jdk_52_method_21_code 11 = .ok (.iload_n 1, 1) := by decide +kernel
theorem d42_12 : decode jdk_52_method_21_code 12 = .ok (.caload, 1) := by decide +kernel
theorem d42_13 : decode jdk_52_method_21_code 13 = .ok (.istore 6, 2) := by decide +kernel
theorem d42_15 : decode jdk_52_method_21_code 15 = .ok (.iload 6, 2) := by decide +kernel
theorem d42_17 : decode jdk_52_method_21_code 17 = .ok (.sipush 255, 3) := by decide +kernel
theorem d42_20 : decode jdk_52_method_21_code 20 = .ok (.if_icmp .le 6, 3) := by decide +kernel
theorem d42_26 : decode jdk_52_method_21_code 26 = .ok (.aload_n 2, 1) := by decide +kernel
theorem d42_27 : decode jdk_52_method_21_code 27 = .ok (.iload_n 3, 1) := by decide +kernel
theorem d42_28 : decode jdk_52_method_21_code 28 = .ok (.iload 6, 2) := by decide +kernel
theorem d42_30 : decode jdk_52_method_21_code 30 = .ok (.i2b, 1) := by decide +kernel
theorem d42_31 : decode jdk_52_method_21_code 31 = .ok (.bastore, 1) := by decide +kernel
theorem d42_32 : decode jdk_52_method_21_code 32 = .ok (.iinc 1 1, 3) := by decide +kernel
theorem d42_35 : decode jdk_52_method_21_code 35 = .ok (.iinc 3 1, 3) := by decide +kernel
theorem d42_38 : decode jdk_52_method_21_code 38 = .ok (.iinc 5 1, 3) := by decide +kernel
theorem d42_41 : decode jdk_52_method_21_code 41 = .ok (.goto (-38), 3) := by decide +kernel
theorem d42_44 : decode jdk_52_method_21_code 44 = .ok (.iload 4, 2) := by decide +kernel
theorem d42_46 : decode jdk_52_method_21_code 46 = .ok (.ireturn, 1) := by decide +kernel
theorem pn_cmp1 : plainName "java/lang/StringUTF16" = true := by first | (simp [plainName, overriddenIn]; done) | decide +kernel
theorem ef_cmp1 (m : MethodId) (a0 : Addr) (a2 : Addr) : entryFrame m #[(.ref a0), (.int (0 : Int32)), (.ref a2), (.int (0 : Int32)), (.int (1 : Int32))] 7 = mkF m 0 #[vR a0, vI (0 : Int32), vR a2, vI (0 : Int32), vI (1 : Int32), .unset, .unset] [] := by first | (simp [entryFrame, mkF, argsToLocals, Value.category]; done) | rfl
def Qcmp1 (Z : State) (k_a0 : ClassId) (fn_a0 : Nat → Int32) (k_a2 : ClassId) (fn_a2 : Nat → Int32) (a0 : Addr) (a2 : Addr) (h0 : Heap) (n0 : Nat) (v : Option Value) (h : Heap) (L : List Loc) : Prop := v = some (.int (1 : Int32)) ∧ Fr n0 L ∧ Keep h0 h [a2] ∧ own_Arf Z h a2 k_a2 .byte (1 : Int32) (fun i => .int ((own_upd fn_a2 0 (nar .byte ((fn_a0 0).toInt8.toInt32))) i))
set_option maxRecDepth 65536 in
set_option maxHeartbeats 40000000 in
theorem rmcmp1 (l : Launch) (Z : State) (A0 : Array Value) (hw : ∀ d ∈ tables_1, d.before A0 Z = true) (ws : List Jvm.Cond) (k_a0 : ClassId) (fn_a0 : Nat → Int32) (k_a2 : ClassId) (fn_a2 : Nat → Int32) (a0 : Addr) (a2 : Addr) (h0 : Heap) (n0 : Nat) (Z0 : n0 ≤ h0.size) (P_V_a0 : own_Arf Z h0 a0 k_a0 .char (1 : Int32) (fun i => .int (fn_a0 i))) (P_V_a2 : own_Arf Z h0 a2 k_a2 .byte (1 : Int32) (fun i => .int (fn_a2 i))) (hle_0 : ¬ ((255 : Int32) < (fn_a0 0))) (g_a2 : n0 ≤ a2) :
    MetFree l (⟨"java/lang/StringUTF16", "compress", "([CI[BII)I"⟩ : MethodName) (head1 (Jvm.Cond.code (⟨"java/lang/StringUTF16", "compress", "([CI[BII)I"⟩ : MethodName) jdk_52_method_21_code 7 (some .int) :: ws) ({ frames := 0, cells := 0, slots := 0, locals := 0 } : Room)) (fun a U => a = #[(.ref a0), (.int (0 : Int32)), (.ref a2), (.int (0 : Int32)), (.int (1 : Int32))] ∧ Z.Warmed39 U.vm ∧ U.heap = h0) (fun _ _ _ _ _ => True) (fun _ U o U' => ∃ v L, o = .returned v ∧ Qcmp1 Z k_a0 fn_a0 k_a2 fn_a2 a0 a2 h0 n0 v U'.heap L ∧ FrameEnd U o U' L 0 0) := by
 refine MetFree.of_bodySF (plainFor_of_name pn_cmp1) hisR ?_
 intro p e s m args below meth c s₁ Bd hml0 hP hK
 obtain ⟨rfl, hZ, hh⟩ := hP
 have hwd := fun i {d : Jvm.Cond} (h : tables_1[i]? = some d) => hw d (List.mem_of_getElem? h)
 have hx := Bd.exec
 have hby := Bd.bytes
 have hml : c.maxLocals = 7 := hml0
 have hlk : meth.locks = false := Bd.notSynchronized
 have hown : s.vm.findClass "java/lang/StringUTF16" = some m.cls := findClass_of_methodNamed Bd.named
 have hnm := (name_of_methodNamed Bd.named Bd.method).1
 have X0 : Stand p l e ({ frames := 0, cells := 0, slots := 0, locals := 0 } : Room) s m #[(.ref a0), (.int (0 : Int32)), (.ref a2), (.int (0 : Int32)), (.int (1 : Int32))] below meth c s₁ [] 0 0 := Stand.of_body Bd
 have e0 : s₁.heap = h0 := by rw [← hh, Bd.state]; rfl
 have N0 := Fr.nil n0
 show own_Go p e below (own_Fin s 0 0 (Qcmp1 Z k_a0 fn_a0 k_a2 fn_a2 a0 a2 h0 n0)) _
 refine own_by (fun t k => castTop (ef_cmp1 m a0 a2) k) ?_
 show own_Go p e below _ (s₁.setTop (mkF m 0 #[vR a0, vI (0 : Int32), vR a2, vI (0 : Int32), vI (1 : Int32), .unset, .unset] []))
 refine own_by (fun _ k => XS.iconst X0.here hx rfl (hb hby d42_0) k) ?_
 refine own_by (fun _ k => XS.istore X0.here hx rfl (hb hby d42_1) rfl (l' := #[vR a0, vI (0 : Int32), vR a2, vI (0 : Int32), vI (1 : Int32), vI (0 : Int32), .unset]) rfl k) ?_
 show own_Go p e below _ (s₁.setTop (mkF m 3 #[vR a0, vI (0 : Int32), vR a2, vI (0 : Int32), vI (1 : Int32), vI (0 : Int32), .unset] []))
 refine own_by (fun _ k => XS.iload X0.here hx rfl (hb hby d42_3) rfl k) ?_
 refine own_by (fun _ k => XS.iload X0.here hx rfl (hb hby d42_5) rfl k) ?_
 refine own_by (fun _ k => XS.icmpNo X0.here hx rfl (hb hby d42_7) rfl (tlt (by decide : (0 : Int32) < (1 : Int32))).2.1 k) ?_
 show own_Go p e below _ (s₁.setTop (mkF m 10 #[vR a0, vI (0 : Int32), vR a2, vI (0 : Int32), vI (1 : Int32), vI (0 : Int32), .unset] []))
 refine own_by (fun _ k => XS.aloadN X0.here hx rfl (hb hby d42_10) rfl rfl k) ?_
 refine own_by (fun _ k => XS.iloadN X0.here hx rfl (hb hby d42_11) rfl k) ?_
 obtain ⟨cl1, Ar1, qq1, S1, M1, H1, G1⟩ := id P_V_a0
 have hin1 : ¬ ((0 : Int32) < 0 ∨ cl1.slots.size ≤ ((0 : Int32)).toNatClampNeg) := inb_of S1 ⟨by decide, by decide⟩
 refine own_by (fun t k => X0.caload hx (j := (0 : Int32)) (v := (.int (fn_a0 0))) (by rw [e0]; exact Ar1.1) (State.isArrayOf_alike hZ.alike Ar1.2.1) Ar1.2.2 hin1 (H1 _ (Nat.lt_of_not_le fun y => hin1 (Or.inr y))) (g := (mkF m 12 #[vR a0, vI (0 : Int32), vR a2, vI (0 : Int32), vI (1 : Int32), vI (0 : Int32), .unset] [(.int (0 : Int32)), (.ref a0)])) rfl rfl (hb hby d42_12) _ k) ?_
 show own_Go p e below _ (s₁.setTop (mkF m 13 #[vR a0, vI (0 : Int32), vR a2, vI (0 : Int32), vI (1 : Int32), vI (0 : Int32), .unset] [(.int (fn_a0 0))]))
 refine own_by (fun _ k => XS.istore X0.here hx rfl (hb hby d42_13) rfl (l' := #[vR a0, vI (0 : Int32), vR a2, vI (0 : Int32), vI (1 : Int32), vI (0 : Int32), vI (fn_a0 0)]) rfl k) ?_
 show own_Go p e below _ (s₁.setTop (mkF m 15 #[vR a0, vI (0 : Int32), vR a2, vI (0 : Int32), vI (1 : Int32), vI (0 : Int32), vI (fn_a0 0)] []))
 refine own_by (fun _ k => XS.iload X0.here hx rfl (hb hby d42_15) rfl k) ?_
 refine own_by (fun _ k => XS.sipush X0.here hx rfl (hb hby d42_17) k) ?_
 refine own_by (fun _ k => XS.icmpYes X0.here hx rfl (pc0 := 20) (pc' := 26) rfl (hb hby d42_20) rfl (flt hle_0).2.2.2 (by decide) (by decide) k) ?_
 show own_Go p e below _ (s₁.setTop (mkF m 26 #[vR a0, vI (0 : Int32), vR a2, vI (0 : Int32), vI (1 : Int32), vI (0 : Int32), vI (fn_a0 0)] []))
 refine own_by (fun _ k => XS.aloadN X0.here hx rfl (hb hby d42_26) rfl rfl k) ?_
 refine own_by (fun _ k => XS.iloadN X0.here hx rfl (hb hby d42_27) rfl k) ?_
 refine own_by (fun _ k => XS.iload X0.here hx rfl (hb hby d42_28) rfl k) ?_
 refine own_by (fun _ k => XS.i2b X0.here hx rfl (hb hby d42_30) rfl k) ?_
 show own_Go p e below _ (s₁.setTop (mkF m 31 #[vR a0, vI (0 : Int32), vR a2, vI (0 : Int32), vI (1 : Int32), vI (0 : Int32), vI (fn_a0 0)] [(.int ((fn_a0 0).toInt8.toInt32)), (.int (0 : Int32)), (.ref a2)]))
 obtain ⟨cl2, Ar2, qq2, S2, M2, H2, G2⟩ := id P_V_a2
 have hin2 : ¬ ((0 : Int32) < 0 ∨ cl2.slots.size ≤ ((0 : Int32)).toNatClampNeg) := inb_of S2 ⟨by decide, by decide⟩
 obtain ⟨T3, h3, X3, e3, W3, st3⟩ := stB X0 hx hZ e0 Ar2 (j := (0 : Int32)) hin2 (g := (mkF m 31 #[vR a0, vI (0 : Int32), vR a2, vI (0 : Int32), vI (1 : Int32), vI (0 : Int32), vI (fn_a0 0)] [(.int ((fn_a0 0).toInt8.toInt32)), (.int (0 : Int32)), (.ref a2)])) rfl rfl (hb hby d42_31)
 have V3 : own_Arf Z h3 a2 k_a2 .byte (1 : Int32) (fun i => .int ((own_upd fn_a2 0 (nar .byte ((fn_a0 0).toInt8.toInt32))) i)) := own_arfSetI Ar2 qq2 S2 M2 H2 G2 (fits_nar_byte _) W3
 have K3 : Keep h0 h3 [a2] := (Keep.refl h0 [a2]).wr W3 (Or.inl (List.mem_of_getElem? (i := 0) rfl))
 have Z3 : n0 ≤ h3.size := Nat.le_trans Z0 (Keep.of_wr W3).1
 have N3 := Fr.snoc X3 N0 g_a2
 refine own_by st3 ?_
 show own_Go p e below _ (T3.setTop (mkF m 32 #[vR a0, vI (0 : Int32), vR a2, vI (0 : Int32), vI (1 : Int32), vI (0 : Int32), vI (fn_a0 0)] []))
 refine own_by (fun _ k => XS.iinc X3.here hx rfl (hb hby d42_32) rfl (l' := #[vR a0, vI (1 : Int32), vR a2, vI (0 : Int32), vI (1 : Int32), vI (0 : Int32), vI (fn_a0 0)]) rfl k) ?_
 show own_Go p e below _ (T3.setTop (mkF m 35 #[vR a0, vI (1 : Int32), vR a2, vI (0 : Int32), vI (1 : Int32), vI (0 : Int32), vI (fn_a0 0)] []))
 refine own_by (fun _ k => XS.iinc X3.here hx rfl (hb hby d42_35) rfl (l' := #[vR a0, vI (1 : Int32), vR a2, vI (1 : Int32), vI (1 : Int32), vI (0 : Int32), vI (fn_a0 0)]) rfl k) ?_
 show own_Go p e below _ (T3.setTop (mkF m 38 #[vR a0, vI (1 : Int32), vR a2, vI (1 : Int32), vI (1 : Int32), vI (0 : Int32), vI (fn_a0 0)] []))
 refine own_by (fun _ k => XS.iinc X3.here hx rfl (hb hby d42_38) rfl (l' := #[vR a0, vI (1 : Int32), vR a2, vI (1 : Int32), vI (1 : Int32), vI (1 : Int32), vI (fn_a0 0)]) rfl k) ?_
 show own_Go p e below _ (T3.setTop (mkF m 41 #[vR a0, vI (1 : Int32), vR a2, vI (1 : Int32), vI (1 : Int32), vI (1 : Int32), vI (fn_a0 0)] []))
 refine own_by (fun _ k => XS.goto X3.here hx rfl (pc0 := 41) (pc' := 3) rfl (hb hby d42_41) (by decide) (by decide) k) ?_
 show own_Go p e below _ (T3.setTop (mkF m 3 #[vR a0, vI (1 : Int32), vR a2, vI (1 : Int32), vI (1 : Int32), vI (1 : Int32), vI (fn_a0 0)] []))
 refine own_by (fun _ k => XS.iload X3.here hx rfl (hb hby d42_3) rfl k) ?_
 refine own_by (fun _ k => XS.iload X3.here hx rfl (hb hby d42_5) rfl k) ?_
 refine own_by (fun _ k => XS.icmpYes X3.here hx rfl (pc0 := 7) (pc' := 44) rfl (hb hby d42_7) rfl (flt (by decide : ¬ ((1 : Int32) < (1 : Int32)))).2.1 (by decide) (by decide) k) ?_
 show own_Go p e below _ (T3.setTop (mkF m 44 #[vR a0, vI (1 : Int32), vR a2, vI (1 : Int32), vI (1 : Int32), vI (1 : Int32), vI (fn_a0 0)] []))
 refine own_by (fun _ k => XS.iload X3.here hx rfl (hb hby d42_44) rfl k) ?_
 exact own_retI X3 hx Bd.returns (hb hby d42_46) hlk e3 ⟨rfl, N3, K3, V3⟩ (by decide) (by decide)
theorem pd_247 : parseMethodDescriptor "([CI[BII)I" = some ⟨[(.array .char), .int, (.array .byte), .int, .int], some .int⟩ := by decide +kernel
theorem d41_0 : decode jdk_52_method_16_code 0 = .ok (.iload_n 2, 1) := by decide +kernel
theorem d41_1 : decode jdk_52_method_16_code 1 = .ok (.newarray .byte, 2) := by decide +kernel
theorem d41_3 : decode jdk_52_method_16_code 3 = .ok (.astore_n 3, 1) := by decide +kernel
theorem d41_4 : decode jdk_52_method_16_code 4 = .ok (.aload_n 0, 1) := by decide +kernel
theorem d41_5 : decode jdk_52_method_16_code 5 = .ok (.iload_n 1, 1) := by decide +kernel
theorem d41_6 : decode jdk_52_method_16_code 6 = .ok (.aload_n 3, 1) := by decide +kernel
theorem d41_7 : decode jdk_52_method_16_code 7 = .ok (.iconst 0, 1) := by decide +kernel
theorem d41_8 : decode jdk_52_method_16_code 8 = .ok (.iload_n 2, 1) := by decide +kernel
theorem d41_9 : decode jdk_52_method_16_code 9 = .ok (.invokestatic 115, 3) := by decide +kernel
theorem d41_12 : decode jdk_52_method_16_code 12 = .ok (.istore 4, 2) := by decide +kernel
theorem d41_14 : decode jdk_52_method_16_code 14 = .ok (.iload 4, 2) := by decide +kernel
theorem d41_16 : decode jdk_52_method_16_code 16 = .ok (.iload_n 2, 1) := by decide +kernel
theorem d41_17 : decode jdk_52_method_16_code 17 = .ok (.if_icmp .eq 40, 3) := by decide +kernel
theorem d41_57 : decode jdk_52_method_16_code 57 = .ok (.aload_n 3, 1) := by decide +kernel
theorem d41_58 : decode jdk_52_method_16_code 58 = .ok (.areturn, 1) := by decide +kernel
theorem pn_cmpB1 : plainName "java/lang/StringUTF16" = true := by first | (simp [plainName, overriddenIn]; done) | decide +kernel
theorem ef_cmpB1 (m : MethodId) (a0 : Addr) : entryFrame m #[(.ref a0), (.int (0 : Int32)), (.int (1 : Int32))] 6 = mkF m 0 #[vR a0, vI (0 : Int32), vI (1 : Int32), .unset, .unset, .unset] [] := by first | (simp [entryFrame, mkF, argsToLocals, Value.category]; done) | rfl
def QcmpB1 (Z : State) (k_a0 : ClassId) (fn_a0 : Nat → Int32) (a0 : Addr) (h0 : Heap) (n0 : Nat) (v : Option Value) (h : Heap) (L : List Loc) : Prop := ∃ (b1 : Addr) (k1 : ClassId), v = some (.ref b1) ∧ Fr n0 L ∧ Keep h0 h [] ∧ (n0 ≤ b1) ∧ (h0.size ≤ b1) ∧ own_Arf Z h b1 k1 .byte (1 : Int32) (fun i => .int ((own_upd (fun _ => (0 : Int32)) 0 (nar .byte ((fn_a0 0).toInt8.toInt32))) i))
set_option maxRecDepth 65536 in
set_option maxHeartbeats 40000000 in
theorem rmcmpB1 (l : Launch) (Z : State) (A0 : Array Value) (hw : ∀ d ∈ tables_1, d.before A0 Z = true) (ws : List Jvm.Cond) (k_a0 : ClassId) (fn_a0 : Nat → Int32) (a0 : Addr) (h0 : Heap) (n0 : Nat) (Z0 : n0 ≤ h0.size) (P_V_a0 : own_Arf Z h0 a0 k_a0 .char (1 : Int32) (fun i => .int (fn_a0 i))) (hle_0 : ¬ ((255 : Int32) < (fn_a0 0))) :
    MetFree l (⟨"java/lang/StringUTF16", "compress", "([CII)[B"⟩ : MethodName) (head1 (Jvm.Cond.code (⟨"java/lang/StringUTF16", "compress", "([CII)[B"⟩ : MethodName) jdk_52_method_16_code 6 (some (.array .byte)) :: ws) ({ frames := 1, cells := 1, slots := 1, locals := 18 } : Room)) (fun a U => a = #[(.ref a0), (.int (0 : Int32)), (.int (1 : Int32))] ∧ Z.Warmed39 U.vm ∧ U.heap = h0) (fun _ _ _ _ _ => True) (fun _ U o U' => ∃ v L, o = .returned v ∧ QcmpB1 Z k_a0 fn_a0 a0 h0 n0 v U'.heap L ∧ FrameEnd U o U' L 1 1) := by
 refine MetFree.of_bodySF (plainFor_of_name pn_cmpB1) hisR ?_
 intro p e s m args below meth c s₁ Bd hml0 hP hK
 obtain ⟨rfl, hZ, hh⟩ := hP
 have hwd := fun i {d : Jvm.Cond} (h : tables_1[i]? = some d) => hw d (List.mem_of_getElem? h)
 have hx := Bd.exec
 have hby := Bd.bytes
 have hml : c.maxLocals = 6 := hml0
 have hlk : meth.locks = false := Bd.notSynchronized
 have hown : s.vm.findClass "java/lang/StringUTF16" = some m.cls := findClass_of_methodNamed Bd.named
 have hnm := (name_of_methodNamed Bd.named Bd.method).1
 have X0 : Stand p l e ({ frames := 1, cells := 1, slots := 1, locals := 18 } : Room) s m #[(.ref a0), (.int (0 : Int32)), (.int (1 : Int32))] below meth c s₁ [] 0 0 := Stand.of_body Bd
 have e0 : s₁.heap = h0 := by rw [← hh, Bd.state]; rfl
 have N0 := Fr.nil n0
 show own_Go p e below (own_Fin s 1 1 (QcmpB1 Z k_a0 fn_a0 a0 h0 n0)) _
 refine own_by (fun t k => castTop (ef_cmpB1 m a0) k) ?_
 show own_Go p e below _ (s₁.setTop (mkF m 0 #[vR a0, vI (0 : Int32), vI (1 : Int32), .unset, .unset, .unset] []))
 refine own_by (fun _ k => XS.iloadN X0.here hx rfl (hb hby d41_0) rfl k) ?_
 obtain ⟨T1, h1, k1, X1, e1, E1, A1, st1⟩ := newP X0 hx hZ (hwd 19 rfl) e0 (g := (mkF m 1 #[vR a0, vI (0 : Int32), vI (1 : Int32), .unset, .unset, .unset] [(.int (1 : Int32))])) rfl (hb hby d41_1) rfl (by decide) (cap := 1) (by decide) (by decide) (by decide) (by decide)
 obtain ⟨b1, g1⟩ : ∃ z, z = h0.size := ⟨_, rfl⟩
 have ge_b1 : n0 ≤ b1 := Nat.le_trans Z0 (Nat.le_of_eq g1.symm)
 have sz_b1 : h0.size ≤ b1 := Nat.le_trans (Keep.refl h0 []).1 (Nat.le_of_eq g1.symm)
 have K1 : Keep h0 h1 [] := (Keep.refl h0 []).ext E1
 have Z1 : n0 ≤ h1.size := Nat.le_trans Z0 E1.1
 rw [← g1] at A1 st1
 have V1 : own_Arf Z h1 b1 k1 .byte (1 : Int32) (fun i => .int ((fun _ => (0 : Int32)) i)) := own_arfNew A1 (by decide)
 refine own_by st1 ?_
 show own_Go p e below _ (T1.setTop (mkF m 3 #[vR a0, vI (0 : Int32), vI (1 : Int32), .unset, .unset, .unset] [(.ref b1)]))
 refine own_by (fun _ k => XS.astoreN X1.here hx rfl (hb hby d41_3) rfl rfl (l' := #[vR a0, vI (0 : Int32), vI (1 : Int32), vR b1, .unset, .unset]) rfl k) ?_
 show own_Go p e below _ (T1.setTop (mkF m 4 #[vR a0, vI (0 : Int32), vI (1 : Int32), vR b1, .unset, .unset] []))
 refine own_by (fun _ k => XS.aloadN X1.here hx rfl (hb hby d41_4) rfl rfl k) ?_
 refine own_by (fun _ k => XS.iloadN X1.here hx rfl (hb hby d41_5) rfl k) ?_
 refine own_by (fun _ k => XS.aloadN X1.here hx rfl (hb hby d41_6) rfl rfl k) ?_
 refine own_by (fun _ k => XS.iconst X1.here hx rfl (hb hby d41_7) k) ?_
 refine own_by (fun _ k => XS.iloadN X1.here hx rfl (hb hby d41_8) rfl k) ?_
 have F2 : own_Arf Z h1 a0 k_a0 .char (1 : Int32) (fun i => .int (fn_a0 i)) := (P_V_a0.ext E1)
 obtain ⟨_, _, ⟨T3, L3, k3, n3⟩, -, X3, ⟨Lc3, hQ3, l3, y3, z3⟩, st3⟩ := Jvm.LawKit.callS X1 hx (y := (⟨"java/lang/StringUTF16", "compress", "([CI[BII)I"⟩ : MethodName)) hown (mvT hZ (hwd 247 rfl)) (mvT hZ (hwd 248 rfl)) (mvT hZ (hwd 245 rfl)) (mvT hZ (hwd 249 rfl)) (by decide) (backOf (W := 0) (rmcmp1 l Z A0 hw [] k_a0 fn_a0 k1 (fun _ => (0 : Int32)) a0 b1 h1 n0 Z1 F2 V1 hle_0 ge_b1) hZ (hwd 249 rfl) (hwd 245 rfl) (by decide) (by decide)) (g := (mkF m 9 #[vR a0, vI (0 : Int32), vI (1 : Int32), vR b1, .unset, .unset] [(.int (1 : Int32)), (.int (0 : Int32)), (.ref b1), (.int (0 : Int32)), (.ref a0)])) rfl (by rw [hml]; rfl) (argsL := [(.ref a0), (.int (0 : Int32)), (.ref b1), (.int (0 : Int32)), (.int (1 : Int32))]) (rest := []) (lenOf pd_247 rfl) rfl (by show 2 * 0 + _ ≤ _; exact Nat.le_of_eq rfl) (hb hby d41_9) (fun _ _ => ⟨rfl, e1, (by decide : 1 + 0 ≤ _), (by decide : 1 + 0 ≤ _)⟩)
 dsimp only [Pt.U, Pt.locs, Pt.cells, Pt.slots] at X3 l3 y3 z3 st3 hQ3
 subst l3 y3 z3
 obtain ⟨rfl, Nq3, Kq3, F4⟩ := hQ3
 have N3 := Fr.app N0 Nq3
 have K3 : Keep h0 T3.heap [] := K1.trans Kq3 ((allS (Or.inr sz_b1) all0))
 have Z3 : n0 ≤ T3.heap.size := Nat.le_trans Z1 Kq3.1
 refine own_by st3 ?_
 show own_Go p e below _ (T3.setTop (mkF m 12 #[vR a0, vI (0 : Int32), vI (1 : Int32), vR b1, .unset, .unset] [(.int (1 : Int32))]))
 refine own_by (fun _ k => XS.istore X3.here hx rfl (hb hby d41_12) rfl (l' := #[vR a0, vI (0 : Int32), vI (1 : Int32), vR b1, vI (1 : Int32), .unset]) rfl k) ?_
 show own_Go p e below _ (T3.setTop (mkF m 14 #[vR a0, vI (0 : Int32), vI (1 : Int32), vR b1, vI (1 : Int32), .unset] []))
 refine own_by (fun _ k => XS.iload X3.here hx rfl (hb hby d41_14) rfl k) ?_
 refine own_by (fun _ k => XS.iloadN X3.here hx rfl (hb hby d41_16) rfl k) ?_
 refine own_by (fun _ k => XS.icmpYes X3.here hx rfl (pc0 := 17) (pc' := 57) rfl (hb hby d41_17) rfl (teq (by decide : (1 : Int32) = (1 : Int32))).1 (by decide) (by decide) k) ?_
 show own_Go p e below _ (T3.setTop (mkF m 57 #[vR a0, vI (0 : Int32), vI (1 : Int32), vR b1, vI (1 : Int32), .unset] []))
 refine own_by (fun _ k => XS.aloadN X3.here hx rfl (hb hby d41_57) rfl rfl k) ?_
 exact own_retR X3 hx Bd.returns (by decide) rfl (hb hby d41_58) hlk rfl ⟨_, _, rfl, N3, K3, ge_b1, sz_b1, F4⟩ (by decide) (by decide)
theorem d43_0 : decode jdk_52_method_15_code 0 = .ok (.iload_n 1, 1) := by decide +kernel
theorem d43_1 : decode jdk_52_method_15_code 1 = .ok (.aload_n 0, 1) := by decide +kernel
theorem d43_2 : decode jdk_52_method_15_code 2 = .ok (.arraylength, 1) := by decide +kernel
theorem d43_3 : decode jdk_52_method_15_code 3 = .ok (.isub, 1) := by decide +kernel
theorem d43_4 : decode jdk_52_method_15_code 4 = .ok (.bipush 31, 2) := by decide +kernel
theorem d43_6 : decode jdk_52_method_15_code 6 = .ok (.iushr, 1) := by decide +kernel
theorem d43_7 : decode jdk_52_method_15_code 7 = .ok (.i2b, 1) := by decide +kernel
theorem d43_8 : decode jdk_52_method_15_code 8 = .ok (.ireturn, 1) := by decide +kernel
theorem pn_cfa1 : plainName "java/lang/StringUTF16" = true := by first | (simp [plainName, overriddenIn]; done) | decide +kernel
theorem ef_cfa1 (m : MethodId) (a0 : Addr) : entryFrame m #[(.ref a0), (.int (1 : Int32))] 2 = mkF m 0 #[vR a0, vI (1 : Int32)] [] := by first | (simp [entryFrame, mkF, argsToLocals, Value.category]; done) | rfl
def Qcfa1 (Z : State) (k_a0 : ClassId) (fn_a0 : Nat → Int32) (a0 : Addr) (h0 : Heap) (n0 : Nat) (v : Option Value) (h : Heap) (L : List Loc) : Prop := v = some (.int (nar .byte (0 : Int32))) ∧ Fr n0 L ∧ h = h0
set_option maxRecDepth 65536 in
set_option maxHeartbeats 40000000 in
theorem rmcfa1 (l : Launch) (Z : State) (A0 : Array Value) (hw : ∀ d ∈ tables_1, d.before A0 Z = true) (ws : List Jvm.Cond) (k_a0 : ClassId) (fn_a0 : Nat → Int32) (a0 : Addr) (h0 : Heap) (n0 : Nat) (Z0 : n0 ≤ h0.size) (P_V_a0 : own_Arf Z h0 a0 k_a0 .byte (1 : Int32) (fun i => .int (fn_a0 i))) :
    MetFree l (⟨"java/lang/StringUTF16", "coderFromArrayLen", "([BI)B"⟩ : MethodName) (head1 (Jvm.Cond.code (⟨"java/lang/StringUTF16", "coderFromArrayLen", "([BI)B"⟩ : MethodName) jdk_52_method_15_code 2 (some .byte) :: ws) ({ frames := 0, cells := 0, slots := 0, locals := 0 } : Room)) (fun a U => a = #[(.ref a0), (.int (1 : Int32))] ∧ Z.Warmed39 U.vm ∧ U.heap = h0) (fun _ _ _ _ _ => True) (fun _ U o U' => ∃ v L, o = .returned v ∧ Qcfa1 Z k_a0 fn_a0 a0 h0 n0 v U'.heap L ∧ FrameEnd U o U' L 0 0) := by
 refine MetFree.of_bodySF (plainFor_of_name pn_cfa1) hisR ?_
 intro p e s m args below meth c s₁ Bd hml0 hP hK
 obtain ⟨rfl, hZ, hh⟩ := hP
 have hwd := fun i {d : Jvm.Cond} (h : tables_1[i]? = some d) => hw d (List.mem_of_getElem? h)
 have hx := Bd.exec
 have hby := Bd.bytes
 have hml : c.maxLocals = 2 := hml0
 have hlk : meth.locks = false := Bd.notSynchronized
 have hown : s.vm.findClass "java/lang/StringUTF16" = some m.cls := findClass_of_methodNamed Bd.named
 have hnm := (name_of_methodNamed Bd.named Bd.method).1
 have X0 : Stand p l e ({ frames := 0, cells := 0, slots := 0, locals := 0 } : Room) s m #[(.ref a0), (.int (1 : Int32))] below meth c s₁ [] 0 0 := Stand.of_body Bd
 have e0 : s₁.heap = h0 := by rw [← hh, Bd.state]; rfl
 have N0 := Fr.nil n0
 show own_Go p e below (own_Fin s 0 0 (Qcfa1 Z k_a0 fn_a0 a0 h0 n0)) _
 refine own_by (fun t k => castTop (ef_cfa1 m a0) k) ?_
 show own_Go p e below _ (s₁.setTop (mkF m 0 #[vR a0, vI (1 : Int32)] []))
 refine own_by (fun _ k => XS.iloadN X0.here hx rfl (hb hby d43_0) rfl k) ?_
 refine own_by (fun _ k => XS.aloadN X0.here hx rfl (hb hby d43_1) rfl rfl k) ?_
 obtain ⟨cl1, Ar1, qq1, S1, M1, H1, G1⟩ := id P_V_a0
 refine own_by (fun t k => X0.arraylength hx (by rw [e0]; exact Ar1.1) (State.isArrayOf_alike hZ.alike Ar1.2.1) (g := (mkF m 2 #[vR a0, vI (1 : Int32)] [(.ref a0), (.int (1 : Int32))])) rfl rfl (hb hby d43_2) _ k) ?_
 rw [len_of S1 M1]
 show own_Go p e below _ (s₁.setTop (mkF m 3 #[vR a0, vI (1 : Int32)] [(.int (1 : Int32)), (.int (1 : Int32))]))
 refine own_by (fun _ k => XS.isub X0.here hx rfl (hb hby d43_3) rfl k) ?_
 show own_Go p e below _ (s₁.setTop (mkF m 4 #[vR a0, vI (1 : Int32)] [(.int (0 : Int32))]))
 refine own_by (fun _ k => XS.bipush X0.here hx rfl (hb hby d43_4) k) ?_
 refine own_by (fun _ k => XS.iushr X0.here hx rfl (hb hby d43_6) rfl k) ?_
 show own_Go p e below _ (s₁.setTop (mkF m 7 #[vR a0, vI (1 : Int32)] [(.int (0 : Int32))]))
 refine own_by (fun _ k => XS.i2b X0.here hx rfl (hb hby d43_7) rfl k) ?_
 show own_Go p e below _ (s₁.setTop (mkF m 8 #[vR a0, vI (1 : Int32)] [(.int (0 : Int32))]))
 exact own_retN X0 hx (t := .byte) Bd.returns (by simp) (hb hby d43_8) hlk e0 ⟨rfl, N0, rfl⟩ (by decide) (by decide)
theorem pd_243 : parseMethodDescriptor "([CII)[B" = some ⟨[(.array .char), .int, .int], some (.array .byte)⟩ := by decide +kernel
theorem pd_250 : parseMethodDescriptor "([BI)B" = some ⟨[(.array .byte), .int], some .byte⟩ := by decide +kernel
theorem d3_0 : decode jdk_42_method_149_code 0 = .ok (.aload_n 0, 1) := by decide +kernel
theorem d3_1 : decode jdk_42_method_149_code 1 = .ok (.invokespecial 1, 3) := by decide +kernel
theorem d3_4 : decode jdk_42_method_149_code 4 = .ok (.iload_n 3, 1) := by decide +kernel
theorem d3_5 : decode jdk_42_method_149_code 5 = .ok (.ifCond .ne 22, 3) := by decide +kernel
theorem d3_27 : decode jdk_42_method_149_code 27 = .ok (.getstatic 38, 3) := by decide +kernel
theorem d3_30 : decode jdk_42_method_149_code 30 = .ok (.ifCond .eq 28, 3) := by decide +kernel
theorem d3_33 : decode jdk_42_method_149_code 33 = .ok (.aload_n 1, 1) := by decide +kernel
theorem d3_34 : decode jdk_42_method_149_code 34 = .ok (.iload_n 2, 1) := by decide +kernel
theorem d3_35 : decode jdk_42_method_149_code 35 = .ok (.iload_n 3, 1) := by decide +kernel
theorem d3_36 : decode jdk_42_method_149_code 36 = .ok (.invokestatic 177, 3) := by decide +kernel
theorem d3_39 : decode jdk_42_method_149_code 39 = .ok (.astore 5, 2) := by decide +kernel
theorem d3_41 : decode jdk_42_method_149_code 41 = .ok (.aload_n 0, 1) := by decide +kernel
theorem d3_42 : decode jdk_42_method_149_code 42 = .ok (.aload 5, 2) := by decide +kernel
theorem d3_44 : decode jdk_42_method_149_code 44 = .ok (.iload_n 3, 1) := by decide +kernel
theorem d3_45 : decode jdk_42_method_149_code 45 = .ok (.invokestatic 47, 3) := by decide +kernel
theorem d3_48 : decode jdk_42_method_149_code 48 = .ok (.putfield 15, 3) := by decide +kernel
theorem d3_51 : decode jdk_42_method_149_code 51 = .ok (.aload_n 0, 1) := by decide +kernel
theorem d3_52 : decode jdk_42_method_149_code 52 = .ok (.aload 5, 2) := by decide +kernel
theorem d3_54 : decode jdk_42_method_149_code 54 = .ok (.putfield 9, 3) := by decide +kernel
theorem d3_57 : decode jdk_42_method_149_code 57 = .ok (.return_, 1) := by decide +kernel
theorem pn_si4_1 : plainName "java/lang/String" = true := by first | (simp [plainName, overriddenIn]; done) | decide +kernel
theorem ef_si4_1 (m : MethodId) (a0 : Addr) (a1 : Addr) : entryFrame m #[(.ref a0), (.ref a1), (.int (0 : Int32)), (.int (1 : Int32)), .null] 6 = mkF m 0 #[vR a0, vR a1, vI (0 : Int32), vI (1 : Int32), .val .null, .unset] [] := by first | (simp [entryFrame, mkF, argsToLocals, Value.category]; done) | rfl
def Qsi4_1 (Z : State) (k_a1 : ClassId) (fn_a1 : Nat → Int32) (f_CS : Int32) (a0 : Addr) (a1 : Addr) (f_a0_coder : Int32) (f_a0_value : Value) (h0 : Heap) (n0 : Nat) (v : Option Value) (h : Heap) (L : List Loc) : Prop := ∃ (b4 : Addr) (b5 : ClassId), v = none ∧ Fr n0 L ∧ Keep h0 h [a0] ∧ Exa Z h a0 "java/lang/String" ∧ Fld Z h a0 "java/lang/String" "coder" "B" (.int (nar .byte (0 : Int32))) ∧ Fld Z h a0 "java/lang/String" "value" "[B" (.ref b4) ∧ (n0 ≤ b4) ∧ (h0.size ≤ b4) ∧ own_Arf Z h b4 b5 .byte (1 : Int32) (fun i => .int ((own_upd (fun _ => (0 : Int32)) 0 (nar .byte ((fn_a1 0).toInt8.toInt32))) i))
set_option maxRecDepth 65536 in
set_option maxHeartbeats 40000000 in
theorem rmsi4_1 (l : Launch) (Z : State) (A0 : Array Value) (hw : ∀ d ∈ tables_1, d.before A0 Z = true) (ws : List Jvm.Cond) (k_a1 : ClassId) (fn_a1 : Nat → Int32) (f_CS : Int32) (a0 : Addr) (a1 : Addr) (f_a0_coder : Int32) (f_a0_value : Value) (h0 : Heap) (n0 : Nat) (Z0 : n0 ≤ h0.size) (P_V_a1 : own_Arf Z h0 a1 k_a1 .char (1 : Int32) (fun i => .int (fn_a1 i))) (P_S_CS : Sta Z h0 "java/lang/String" "COMPACT_STRINGS" "Z" (.int f_CS)) (hn_CS : ¬ (f_CS = (0 : Int32))) (hle_0 : ¬ ((255 : Int32) < (fn_a1 0))) (P_E_a0 : Exa Z h0 a0 "java/lang/String") (P_F_a0_coder : Fld Z h0 a0 "java/lang/String" "coder" "B" (.int f_a0_coder)) (g_a0 : n0 ≤ a0) (P_F_a0_value : Fld Z h0 a0 "java/lang/String" "value" "[B" f_a0_value) :
    MetFree l (⟨"java/lang/String", "<init>", "([CIILjava/lang/Void;)V"⟩ : MethodName) (head1 (Jvm.Cond.code (⟨"java/lang/String", "<init>", "([CIILjava/lang/Void;)V"⟩ : MethodName) jdk_42_method_149_code 6 none :: ws) ({ frames := 2, cells := 1, slots := 1, locals := 35 } : Room)) (fun a U => a = #[(.ref a0), (.ref a1), (.int (0 : Int32)), (.int (1 : Int32)), .null] ∧ Z.Warmed39 U.vm ∧ U.heap = h0) (fun _ _ _ _ _ => True) (fun _ U o U' => ∃ v L, o = .returned v ∧ Qsi4_1 Z k_a1 fn_a1 f_CS a0 a1 f_a0_coder f_a0_value h0 n0 v U'.heap L ∧ FrameEnd U o U' L 1 1) := by
 refine MetFree.of_bodySF (plainFor_of_name pn_si4_1) hisR ?_
 intro p e s m args below meth c s₁ Bd hml0 hP hK
 obtain ⟨rfl, hZ, hh⟩ := hP
 have hwd := fun i {d : Jvm.Cond} (h : tables_1[i]? = some d) => hw d (List.mem_of_getElem? h)
 have hx := Bd.exec
 have hby := Bd.bytes
 have hml : c.maxLocals = 6 := hml0
 have hlk : meth.locks = false := Bd.notSynchronized
 have hown : s.vm.findClass "java/lang/String" = some m.cls := findClass_of_methodNamed Bd.named
 have hnm := (name_of_methodNamed Bd.named Bd.method).1
 have X0 : Stand p l e ({ frames := 2, cells := 1, slots := 1, locals := 35 } : Room) s m #[(.ref a0), (.ref a1), (.int (0 : Int32)), (.int (1 : Int32)), .null] below meth c s₁ [] 0 0 := Stand.of_body Bd
 have e0 : s₁.heap = h0 := by rw [← hh, Bd.state]; rfl
 have N0 := Fr.nil n0
 show own_Go p e below (own_Fin s 1 1 (Qsi4_1 Z k_a1 fn_a1 f_CS a0 a1 f_a0_coder f_a0_value h0 n0)) _
 refine own_by (fun t k => castTop (ef_si4_1 m a0 a1) k) ?_
 show own_Go p e below _ (s₁.setTop (mkF m 0 #[vR a0, vR a1, vI (0 : Int32), vI (1 : Int32), .val .null, .unset] []))
 refine own_by (fun _ k => XS.aloadN X0.here hx rfl (hb hby d3_0) rfl rfl k) ?_
 obtain ⟨T1, X1, e1, st1⟩ := initO X0 hx hZ hown (hwd 15 rfl) (hwd 16 rfl) (hwd 17 rfl) e0 (g := (mkF m 1 #[vR a0, vR a1, vI (0 : Int32), vI (1 : Int32), .val .null, .unset] [(.ref a0)])) rfl (by rw [hml]; rfl) rfl (hb hby d3_1) (by decide) (W := 0) (by show 2 * 0 + _ ≤ _; exact Nat.le_of_eq rfl) (by decide)
 refine own_by st1 ?_
 show own_Go p e below _ (T1.setTop (mkF m 4 #[vR a0, vR a1, vI (0 : Int32), vI (1 : Int32), .val .null, .unset] []))
 refine own_by (fun _ k => XS.iloadN X1.here hx rfl (hb hby d3_4) rfl k) ?_
 refine own_by (fun _ k => XS.ifYes X1.here hx rfl (pc0 := 5) (pc' := 27) rfl (hb hby d3_5) rfl ((if0 _ _).trans (feq (by decide : ¬ ((1 : Int32) = (0 : Int32)))).2) (by decide) (by decide) k) ?_
 show own_Go p e below _ (T1.setTop (mkF m 27 #[vR a0, vR a1, vI (0 : Int32), vI (1 : Int32), .val .null, .unset] []))
 obtain ⟨T2, X2, e2, st2⟩ := getS2 X1 hx hZ hown (host := "") (Or.inl (hwd 71 rfl)) Via.refl e1 P_S_CS (g := (mkF m 27 #[vR a0, vR a1, vI (0 : Int32), vI (1 : Int32), .val .null, .unset] [])) rfl (hb hby d3_27)
 refine own_by st2 ?_
 show own_Go p e below _ (T2.setTop (mkF m 30 #[vR a0, vR a1, vI (0 : Int32), vI (1 : Int32), .val .null, .unset] [(.int f_CS)]))
 refine own_by (fun _ k => XS.ifNo X2.here hx rfl (hb hby d3_30) rfl ((if0 _ _).trans (feq hn_CS).1) k) ?_
 show own_Go p e below _ (T2.setTop (mkF m 33 #[vR a0, vR a1, vI (0 : Int32), vI (1 : Int32), .val .null, .unset] []))
 refine own_by (fun _ k => XS.aloadN X2.here hx rfl (hb hby d3_33) rfl rfl k) ?_
 refine own_by (fun _ k => XS.iloadN X2.here hx rfl (hb hby d3_34) rfl k) ?_
 refine own_by (fun _ k => XS.iloadN X2.here hx rfl (hb hby d3_35) rfl k) ?_
 obtain ⟨_, _, ⟨T3, L3, k3, n3⟩, -, X3, ⟨Lc3, hQ3, l3, y3, z3⟩, st3⟩ := Jvm.LawKit.callS X2 hx (y := (⟨"java/lang/StringUTF16", "compress", "([CII)[B"⟩ : MethodName)) hown (mvT hZ (hwd 243 rfl)) (mvT hZ (hwd 244 rfl)) (mvT hZ (hwd 245 rfl)) (mvT hZ (hwd 246 rfl)) (by decide) (backOf (W := 0) (rmcmpB1 l Z A0 hw [] k_a1 fn_a1 a1 h0 n0 Z0 P_V_a1 hle_0) hZ (hwd 246 rfl) (hwd 245 rfl) (by decide) (by decide)) (g := (mkF m 36 #[vR a0, vR a1, vI (0 : Int32), vI (1 : Int32), .val .null, .unset] [(.int (1 : Int32)), (.int (0 : Int32)), (.ref a1)])) rfl (by rw [hml]; rfl) (argsL := [(.ref a1), (.int (0 : Int32)), (.int (1 : Int32))]) (rest := []) (lenOf pd_243 rfl) rfl (by show 2 * 0 + _ ≤ _; exact Nat.le_of_eq rfl) (hb hby d3_36) (fun _ _ => ⟨rfl, e2, (by decide : 0 + 1 ≤ _), (by decide : 0 + 1 ≤ _)⟩)
 dsimp only [Pt.U, Pt.locs, Pt.cells, Pt.slots] at X3 l3 y3 z3 st3 hQ3
 subst l3 y3 z3
 obtain ⟨b4, b5, rfl, Nq3, Kq3, hp6, hp7, F8⟩ := hQ3
 have N3 := Fr.app N0 Nq3
 have K3 : Keep h0 T3.heap [a0] := (Keep.refl h0 [a0]).trans Kq3 (all0)
 have Z3 : n0 ≤ T3.heap.size := Nat.le_trans Z0 Kq3.1
 have sz_b4 : h0.size ≤ b4 := Nat.le_trans (Keep.refl h0 [a0]).1 hp7
 refine own_by st3 ?_
 show own_Go p e below _ (T3.setTop (mkF m 39 #[vR a0, vR a1, vI (0 : Int32), vI (1 : Int32), .val .null, .unset] [(.ref b4)]))
 refine own_by (fun _ k => XS.astore X3.here hx rfl (hb hby d3_39) rfl rfl (l' := #[vR a0, vR a1, vI (0 : Int32), vI (1 : Int32), .val .null, vR b4]) rfl k) ?_
 show own_Go p e below _ (T3.setTop (mkF m 41 #[vR a0, vR a1, vI (0 : Int32), vI (1 : Int32), .val .null, vR b4] []))
 refine own_by (fun _ k => XS.aloadN X3.here hx rfl (hb hby d3_41) rfl rfl k) ?_
 refine own_by (fun _ k => XS.aload X3.here hx rfl (hb hby d3_42) rfl rfl k) ?_
 refine own_by (fun _ k => XS.iloadN X3.here hx rfl (hb hby d3_44) rfl k) ?_
 obtain ⟨_, _, ⟨T9, L9, k9, n9⟩, -, X9, ⟨Lc9, hQ9, l9, y9, z9⟩, st9⟩ := Jvm.LawKit.callS X3 hx (y := (⟨"java/lang/StringUTF16", "coderFromArrayLen", "([BI)B"⟩ : MethodName)) hown (mvT hZ (hwd 250 rfl)) (mvT hZ (hwd 251 rfl)) (mvT hZ (hwd 245 rfl)) (mvT hZ (hwd 252 rfl)) (by decide) (backOf (W := 1) (rmcfa1 l Z A0 hw [] b5 (own_upd (fun _ => (0 : Int32)) 0 (nar .byte ((fn_a1 0).toInt8.toInt32))) b4 T3.heap n0 Z3 F8) hZ (hwd 252 rfl) (hwd 245 rfl) (by decide) (by decide)) (g := (mkF m 45 #[vR a0, vR a1, vI (0 : Int32), vI (1 : Int32), .val .null, vR b4] [(.int (1 : Int32)), (.ref b4), (.ref a0)])) rfl (by rw [hml]; rfl) (argsL := [(.ref b4), (.int (1 : Int32))]) (rest := [(.ref a0)]) (lenOf pd_250 rfl) rfl (by show 2 * 0 + _ ≤ _; exact Nat.le_of_eq rfl) (hb hby d3_45) (fun _ _ => ⟨rfl, rfl, (by decide : 1 + 0 ≤ _), (by decide : 1 + 0 ≤ _)⟩)
 dsimp only [Pt.U, Pt.locs, Pt.cells, Pt.slots] at X9 l9 y9 z9 st9 hQ9
 subst l9 y9 z9
 obtain ⟨rfl, Nq9, eq9⟩ := hQ9
 have N9 := Fr.app N3 Nq9
 refine own_by st9 ?_
 show own_Go p e below _ (T9.setTop (mkF m 48 #[vR a0, vR a1, vI (0 : Int32), vI (1 : Int32), .val .null, vR b4] [(.int (0 : Int32)), (.ref a0)]))
 have F10 : Exa Z T3.heap a0 "java/lang/String" := (P_E_a0.keep Kq3)
 have F11 : Fld Z T3.heap a0 "java/lang/String" "coder" "B" (.int f_a0_coder) := (P_F_a0_coder.keep Kq3 nin0)
 obtain ⟨T12, h12, X12, e12, W12, st12⟩ := putFN X9 hx hZ hown (hwd 25 rfl) Via.refl eq9 F11 F10 (Or.inr ⟨(hwd 21 rfl), rfl, hnm⟩) (hwd 5 rfl) (ty := .byte) (v' := (.int (nar .byte (0 : Int32)))) (by decide) rfl (fits_nar_byte _) (g := (mkF m 48 #[vR a0, vR a1, vI (0 : Int32), vI (1 : Int32), .val .null, vR b4] [(.int (0 : Int32)), (.ref a0)])) rfl rfl (hb hby d3_48)
 have Fw12 : Fld Z h12 a0 "java/lang/String" "coder" "B" (.int (nar .byte (0 : Int32))) := F11.same W12
 have K12 : Keep h0 h12 [a0] := K3.wr W12 (Or.inl (List.mem_of_getElem? (i := 0) rfl))
 have Z12 : n0 ≤ h12.size := Nat.le_trans Z3 (Keep.of_wr W12).1
 have N12 := Fr.snoc X12 N9 g_a0
 refine own_by st12 ?_
 show own_Go p e below _ (T12.setTop (mkF m 51 #[vR a0, vR a1, vI (0 : Int32), vI (1 : Int32), .val .null, vR b4] []))
 refine own_by (fun _ k => XS.aloadN X12.here hx rfl (hb hby d3_51) rfl rfl k) ?_
 refine own_by (fun _ k => XS.aload X12.here hx rfl (hb hby d3_52) rfl rfl k) ?_
 have F13 : Exa Z h12 a0 "java/lang/String" := (F10.wr W12)
 have F14 : Fld Z h12 a0 "java/lang/String" "value" "[B" f_a0_value := ((P_F_a0_value.keep Kq3 nin0).other W12 (Or.inr (slot_ne (Or.inr (hwd 20 rfl)) (Or.inr (hwd 21 rfl)) (by decide) (t := (.array .byte)) (t' := .byte) (by decide) (by decide))))
 obtain ⟨T15, h15, X15, e15, W15, st15⟩ := putF X12 hx hZ hown (host := "") (Or.inl (hwd 24 rfl)) Via.refl e12 F14 F13 (Or.inr ⟨(hwd 20 rfl), rfl, hnm⟩) (hwd 5 rfl) (ty := (.array .byte)) (by decide) rfl rfl (g := (mkF m 54 #[vR a0, vR a1, vI (0 : Int32), vI (1 : Int32), .val .null, vR b4] [(.ref b4), (.ref a0)])) rfl rfl (hb hby d3_54)
 have Fw15 : Fld Z h15 a0 "java/lang/String" "value" "[B" (.ref b4) := F14.same W15
 have K15 : Keep h0 h15 [a0] := K12.wr W15 (Or.inl (List.mem_of_getElem? (i := 0) rfl))
 have Z15 : n0 ≤ h15.size := Nat.le_trans Z12 (Keep.of_wr W15).1
 have N15 := Fr.snoc X15 N12 g_a0
 refine own_by st15 ?_
 show own_Go p e below _ (T15.setTop (mkF m 57 #[vR a0, vR a1, vI (0 : Int32), vI (1 : Int32), .val .null, vR b4] []))
 have F16 : Exa Z h15 a0 "java/lang/String" := (F13.wr W15)
 have F17 : Fld Z h15 a0 "java/lang/String" "coder" "B" (.int (nar .byte (0 : Int32))) := (Fw12.other W15 (Or.inr (slot_ne (Or.inr (hwd 21 rfl)) (Or.inr (hwd 20 rfl)) (by decide) (t := .byte) (t' := (.array .byte)) (by decide) (by decide))))
 have F18 : own_Arf Z h15 b4 b5 .byte (1 : Int32) (fun i => .int ((own_upd (fun _ => (0 : Int32)) 0 (nar .byte ((fn_a1 0).toInt8.toInt32))) i)) := ((F8.other W12 (Ne.symm (Nat.ne_of_lt (Nat.lt_of_lt_of_le (P_E_a0).lt hp7)))).other W15 (Ne.symm (Nat.ne_of_lt (Nat.lt_of_lt_of_le (P_E_a0).lt hp7))))
 exact own_ret0 X15 hx Bd.returns (hb hby d3_57) hlk e15 ⟨_, _, rfl, N15, K15, F16, F17, Fw15, hp6, sz_b4, F18⟩ (by decide) (by decide)
theorem pd_11 : parseMethodDescriptor "([CIILjava/lang/Void;)V" = some ⟨[(.array .char), .int, .int, (.object "java/lang/Void")], none⟩ := by decide +kernel
theorem d2_0 : decode jdk_42_method_3_code 0 = .ok (.aload_n 0, 1) := by decide +kernel
theorem d2_1 : decode jdk_42_method_3_code 1 = .ok (.aload_n 1, 1) := by decide +kernel
theorem d2_2 : decode jdk_42_method_3_code 2 = .ok (.iconst 0, 1) := by decide +kernel
theorem d2_3 : decode jdk_42_method_3_code 3 = .ok (.aload_n 1, 1) := by decide +kernel
theorem d2_4 : decode jdk_42_method_3_code 4 = .ok (.arraylength, 1) := by decide +kernel
theorem d2_5 : decode jdk_42_method_3_code 5 = .ok (.aconst_null, 1) := by decide +kernel
theorem d2_6 : decode jdk_42_method_3_code 6 = .ok (.invokespecial 27, 3) := by decide +kernel
theorem d2_9 : decode jdk_42_method_3_code 9 = .ok (.return_, 1) := by decide +kernel
theorem pn_si1 : plainName "java/lang/String" = true := by first | (simp [plainName, overriddenIn]; done) | decide +kernel
theorem ef_si1 (m : MethodId) (a0 : Addr) (a1 : Addr) : entryFrame m #[(.ref a0), (.ref a1)] 2 = mkF m 0 #[vR a0, vR a1] [] := by first | (simp [entryFrame, mkF, argsToLocals, Value.category]; done) | rfl
def Qsi1 (Z : State) (k_a1 : ClassId) (fn_a1 : Nat → Int32) (f_CS : Int32) (a0 : Addr) (a1 : Addr) (f_a0_coder : Int32) (f_a0_value : Value) (h0 : Heap) (n0 : Nat) (v : Option Value) (h : Heap) (L : List Loc) : Prop := ∃ (b3 : Addr) (b4 : ClassId), v = none ∧ Fr n0 L ∧ Keep h0 h [a0] ∧ Exa Z h a0 "java/lang/String" ∧ Fld Z h a0 "java/lang/String" "coder" "B" (.int (0 : Int32)) ∧ Fld Z h a0 "java/lang/String" "value" "[B" (.ref b3) ∧ (n0 ≤ b3) ∧ (h0.size ≤ b3) ∧ own_Arf Z h b3 b4 .byte (1 : Int32) (fun i => .int ((own_upd (fun _ => (0 : Int32)) 0 (nar .byte ((fn_a1 0).toInt8.toInt32))) i))
set_option maxRecDepth 65536 in
set_option maxHeartbeats 40000000 in
theorem rmsi1 (l : Launch) (Z : State) (A0 : Array Value) (hw : ∀ d ∈ tables_1, d.before A0 Z = true) (ws : List Jvm.Cond) (k_a1 : ClassId) (fn_a1 : Nat → Int32) (f_CS : Int32) (a0 : Addr) (a1 : Addr) (f_a0_coder : Int32) (f_a0_value : Value) (h0 : Heap) (n0 : Nat) (Z0 : n0 ≤ h0.size) (P_V_a1 : own_Arf Z h0 a1 k_a1 .char (1 : Int32) (fun i => .int (fn_a1 i))) (P_S_CS : Sta Z h0 "java/lang/String" "COMPACT_STRINGS" "Z" (.int f_CS)) (hn_CS : ¬ (f_CS = (0 : Int32))) (hle_0 : ¬ ((255 : Int32) < (fn_a1 0))) (P_E_a0 : Exa Z h0 a0 "java/lang/String") (P_F_a0_coder : Fld Z h0 a0 "java/lang/String" "coder" "B" (.int f_a0_coder)) (P_F_a0_value : Fld Z h0 a0 "java/lang/String" "value" "[B" f_a0_value) (g_a0 : n0 ≤ a0) :
    MetFree l (⟨"java/lang/String", "<init>", "([C)V"⟩ : MethodName) (head1 (Jvm.Cond.code (⟨"java/lang/String", "<init>", "([C)V"⟩ : MethodName) jdk_42_method_3_code 2 none :: ws) ({ frames := 3, cells := 1, slots := 1, locals := 52 } : Room)) (fun a U => a = #[(.ref a0), (.ref a1)] ∧ Z.Warmed39 U.vm ∧ U.heap = h0) (fun _ _ _ _ _ => True) (fun _ U o U' => ∃ v L, o = .returned v ∧ Qsi1 Z k_a1 fn_a1 f_CS a0 a1 f_a0_coder f_a0_value h0 n0 v U'.heap L ∧ FrameEnd U o U' L 1 1) := by
 refine MetFree.of_bodySF (plainFor_of_name pn_si1) hisR ?_
 intro p e s m args below meth c s₁ Bd hml0 hP hK
 obtain ⟨rfl, hZ, hh⟩ := hP
 have hwd := fun i {d : Jvm.Cond} (h : tables_1[i]? = some d) => hw d (List.mem_of_getElem? h)
 have hx := Bd.exec
 have hby := Bd.bytes
 have hml : c.maxLocals = 2 := hml0
 have hlk : meth.locks = false := Bd.notSynchronized
 have hown : s.vm.findClass "java/lang/String" = some m.cls := findClass_of_methodNamed Bd.named
 have hnm := (name_of_methodNamed Bd.named Bd.method).1
 have X0 : Stand p l e ({ frames := 3, cells := 1, slots := 1, locals := 52 } : Room) s m #[(.ref a0), (.ref a1)] below meth c s₁ [] 0 0 := Stand.of_body Bd
 have e0 : s₁.heap = h0 := by rw [← hh, Bd.state]; rfl
 have N0 := Fr.nil n0
 show own_Go p e below (own_Fin s 1 1 (Qsi1 Z k_a1 fn_a1 f_CS a0 a1 f_a0_coder f_a0_value h0 n0)) _
 refine own_by (fun t k => castTop (ef_si1 m a0 a1) k) ?_
 show own_Go p e below _ (s₁.setTop (mkF m 0 #[vR a0, vR a1] []))
 refine own_by (fun _ k => XS.aloadN X0.here hx rfl (hb hby d2_0) rfl rfl k) ?_
 refine own_by (fun _ k => XS.aloadN X0.here hx rfl (hb hby d2_1) rfl rfl k) ?_
 refine own_by (fun _ k => XS.iconst X0.here hx rfl (hb hby d2_2) k) ?_
 refine own_by (fun _ k => XS.aloadN X0.here hx rfl (hb hby d2_3) rfl rfl k) ?_
 obtain ⟨cl1, Ar1, qq1, S1, M1, H1, G1⟩ := id P_V_a1
 refine own_by (fun t k => X0.arraylength hx (by rw [e0]; exact Ar1.1) (State.isArrayOf_alike hZ.alike Ar1.2.1) (g := (mkF m 4 #[vR a0, vR a1] [(.ref a1), (.int (0 : Int32)), (.ref a1), (.ref a0)])) rfl rfl (hb hby d2_4) _ k) ?_
 rw [len_of S1 M1]
 show own_Go p e below _ (s₁.setTop (mkF m 5 #[vR a0, vR a1] [(.int (1 : Int32)), (.int (0 : Int32)), (.ref a1), (.ref a0)]))
 refine own_by (fun _ k => XS.aconstNull X0.here hx rfl (hb hby d2_5) k) ?_
 show own_Go p e below _ (s₁.setTop (mkF m 6 #[vR a0, vR a1] [.null, (.int (1 : Int32)), (.int (0 : Int32)), (.ref a1), (.ref a0)]))
 obtain ⟨_, _, ⟨T2, L2, k2, n2⟩, -, X2, ⟨Lc2, hQ2, l2, y2, z2⟩, st2⟩ := X0.specialBack hx (y := (⟨"java/lang/String", "<init>", "([CIILjava/lang/Void;)V"⟩ : MethodName)) rfl hown (mvT hZ (hwd 11 rfl)) (mvT hZ (hwd 12 rfl)) (mvT hZ (hwd 14 rfl)) (by decide) (backOf (W := 0) (rmsi4_1 l Z A0 hw [] k_a1 fn_a1 f_CS a0 a1 f_a0_coder f_a0_value h0 n0 Z0 P_V_a1 P_S_CS hn_CS hle_0 P_E_a0 P_F_a0_coder g_a0 P_F_a0_value) hZ (hwd 14 rfl) (hwd 6 rfl) (by decide) (by decide)) (g := (mkF m 6 #[vR a0, vR a1] [.null, (.int (1 : Int32)), (.int (0 : Int32)), (.ref a1), (.ref a0)])) rfl (by rw [hml]; rfl) (Steps.refl _) (a := a0) (argsL := [(.ref a1), (.int (0 : Int32)), (.int (1 : Int32)), .null]) (rest := []) (lenOf pd_11 rfl) rfl (by show 2 * 0 + _ ≤ _; exact Nat.le_of_eq rfl) (hb hby d2_6) (fun _ _ => ⟨rfl, e0, (by decide : 0 + 1 ≤ _), (by decide : 0 + 1 ≤ _)⟩)
 dsimp only [Pt.U, Pt.locs, Pt.cells, Pt.slots] at X2 l2 y2 z2 st2 hQ2
 subst l2 y2 z2
 obtain ⟨b3, b4, rfl, Nq2, Kq2, F5, F6, F7, hp8, hp9, F10⟩ := hQ2
 have N2 := Fr.app N0 Nq2
 have K2 : Keep h0 T2.heap [a0] := (Keep.refl h0 [a0]).trans Kq2 ((allS (Or.inl (List.mem_of_getElem? (i := 0) rfl)) all0))
 have Z2 : n0 ≤ T2.heap.size := Nat.le_trans Z0 Kq2.1
 have sz_b3 : h0.size ≤ b3 := Nat.le_trans (Keep.refl h0 [a0]).1 hp9
 refine own_by (fun _ k => st2.trans k) ?_
 show own_Go p e below _ (T2.setTop (mkF m 9 #[vR a0, vR a1] []))
 exact own_ret0 X2 hx Bd.returns (hb hby d2_9) hlk rfl ⟨_, _, rfl, N2, K2, F5, F6, F7, hp8, sz_b3, F10⟩ (by decide) (by decide)
theorem pn_cmp2 : plainName "java/lang/StringUTF16" = true := by first | (simp [plainName, overriddenIn]; done) | decide +kernel
theorem ef_cmp2 (m : MethodId) (a0 : Addr) (a2 : Addr) : entryFrame m #[(.ref a0), (.int (0 : Int32)), (.ref a2), (.int (0 : Int32)), (.int (2 : Int32))] 7 = mkF m 0 #[vR a0, vI (0 : Int32), vR a2, vI (0 : Int32), vI (2 : Int32), .unset, .unset] [] := by first | (simp [entryFrame, mkF, argsToLocals, Value.category]; done) | rfl
def Qcmp2 (Z : State) (k_a0 : ClassId) (fn_a0 : Nat → Int32) (k_a2 : ClassId) (fn_a2 : Nat → Int32) (a0 : Addr) (a2 : Addr) (h0 : Heap) (n0 : Nat) (v : Option Value) (h : Heap) (L : List Loc) : Prop := v = some (.int (2 : Int32)) ∧ Fr n0 L ∧ Keep h0 h [a2] ∧ own_Arf Z h a2 k_a2 .byte (2 : Int32) (fun i => .int ((own_upd (own_upd fn_a2 0 (nar .byte ((fn_a0 0).toInt8.toInt32))) 1 (nar .byte ((fn_a0 1).toInt8.toInt32))) i))
set_option maxRecDepth 65536 in
set_option maxHeartbeats 40000000 in
theorem rmcmp2 (l : Launch) (Z : State) (A0 : Array Value) (hw : ∀ d ∈ tables_1, d.before A0 Z = true) (ws : List Jvm.Cond) (k_a0 : ClassId) (fn_a0 : Nat → Int32) (k_a2 : ClassId) (fn_a2 : Nat → Int32) (a0 : Addr) (a2 : Addr) (h0 : Heap) (n0 : Nat) (Z0 : n0 ≤ h0.size) (P_V_a0 : own_Arf Z h0 a0 k_a0 .char (2 : Int32) (fun i => .int (fn_a0 i))) (P_V_a2 : own_Arf Z h0 a2 k_a2 .byte (2 : Int32) (fun i => .int (fn_a2 i))) (hle_0 : ¬ ((255 : Int32) < (fn_a0 0))) (hle_1 : ¬ ((255 : Int32) < (fn_a0 1))) (g_a2 : n0 ≤ a2) (ne_a0_a2 : a0 ≠ a2) :
    MetFree l (⟨"java/lang/StringUTF16", "compress", "([CI[BII)I"⟩ : MethodName) (head1 (Jvm.Cond.code (⟨"java/lang/StringUTF16", "compress", "([CI[BII)I"⟩ : MethodName) jdk_52_method_21_code 7 (some .int) :: ws) ({ frames := 0, cells := 0, slots := 0, locals := 0 } : Room)) (fun a U => a = #[(.ref a0), (.int (0 : Int32)), (.ref a2), (.int (0 : Int32)), (.int (2 : Int32))] ∧ Z.Warmed39 U.vm ∧ U.heap = h0) (fun _ _ _ _ _ => True) (fun _ U o U' => ∃ v L, o = .returned v ∧ Qcmp2 Z k_a0 fn_a0 k_a2 fn_a2 a0 a2 h0 n0 v U'.heap L ∧ FrameEnd U o U' L 0 0) := by
 refine MetFree.of_bodySF (plainFor_of_name pn_cmp2) hisR ?_
 intro p e s m args below meth c s₁ Bd hml0 hP hK
 obtain ⟨rfl, hZ, hh⟩ := hP
 have hwd := fun i {d : Jvm.Cond} (h : tables_1[i]? = some d) => hw d (List.mem_of_getElem? h)
 have hx := Bd.exec
 have hby := Bd.bytes
 have hml : c.maxLocals = 7 := hml0
 have hlk : meth.locks = false := Bd.notSynchronized
 have hown : s.vm.findClass "java/lang/StringUTF16" = some m.cls := findClass_of_methodNamed Bd.named
 have hnm := (name_of_methodNamed Bd.named Bd.method).1
 have X0 : Stand p l e ({ frames := 0, cells := 0, slots := 0, locals := 0 } : Room) s m #[(.ref a0), (.int (0 : Int32)), (.ref a2), (.int (0 : Int32)), (.int (2 : Int32))] below meth c s₁ [] 0 0 := Stand.of_body Bd
 have e0 : s₁.heap = h0 := by rw [← hh, Bd.state]; rfl
 have N0 := Fr.nil n0
 show own_Go p e below (own_Fin s 0 0 (Qcmp2 Z k_a0 fn_a0 k_a2 fn_a2 a0 a2 h0 n0)) _
 refine own_by (fun t k => castTop (ef_cmp2 m a0 a2) k) ?_
 show own_Go p e below _ (s₁.setTop (mkF m 0 #[vR a0, vI (0 : Int32), vR a2, vI (0 : Int32), vI (2 : Int32), .unset, .unset] []))
 refine own_by (fun _ k => XS.iconst X0.here hx rfl (hb hby d42_0) k) ?_
 refine own_by (fun _ k => XS.istore X0.here hx rfl (hb hby d42_1) rfl (l' := #[vR a0, vI (0 : Int32), vR a2, vI (0 : Int32), vI (2 : Int32), vI (0 : Int32), .unset]) rfl k) ?_
 show own_Go p e below _ (s₁.setTop (mkF m 3 #[vR a0, vI (0 : Int32), vR a2, vI (0 : Int32), vI (2 : Int32), vI (0 : Int32), .unset] []))
 refine own_by (fun _ k => XS.iload X0.here hx rfl (hb hby d42_3) rfl k) ?_
 refine own_by (fun _ k => XS.iload X0.here hx rfl (hb hby d42_5) rfl k) ?_
 refine own_by (fun _ k => XS.icmpNo X0.here hx rfl (hb hby d42_7) rfl (tlt (by decide : (0 : Int32) < (2 : Int32))).2.1 k) ?_
 show own_Go p e below _ (s₁.setTop (mkF m 10 #[vR a0, vI (0 : Int32), vR a2, vI (0 : Int32), vI (2 : Int32), vI (0 : Int32), .unset] []))
 refine own_by (fun _ k => XS.aloadN X0.here hx rfl (hb hby d42_10) rfl rfl k) ?_
 refine own_by (fun _ k => XS.iloadN X0.here hx rfl (hb hby d42_11) rfl k) ?_
 obtain ⟨cl1, Ar1, qq1, S1, M1, H1, G1⟩ := id P_V_a0
 have hin1 : ¬ ((0 : Int32) < 0 ∨ cl1.slots.size ≤ ((0 : Int32)).toNatClampNeg) := inb_of S1 ⟨by decide, by decide⟩
 refine own_by (fun t k => X0.caload hx (j := (0 : Int32)) (v := (.int (fn_a0 0))) (by rw [e0]; exact Ar1.1) (State.isArrayOf_alike hZ.alike Ar1.2.1) Ar1.2.2 hin1 (H1 _ (Nat.lt_of_not_le fun y => hin1 (Or.inr y))) (g := (mkF m 12 #[vR a0, vI (0 : Int32), vR a2, vI (0 : Int32), vI (2 : Int32), vI (0 : Int32), .unset] [(.int (0 : Int32)), (.ref a0)])) rfl rfl (hb hby d42_12) _ k) ?_
 show own_Go p e below _ (s₁.setTop (mkF m 13 #[vR a0, vI (0 : Int32), vR a2, vI (0 : Int32), vI (2 : Int32), vI (0 : Int32), .unset] [(.int (fn_a0 0))]))
 refine own_by (fun _ k => XS.istore X0.here hx rfl (hb hby d42_13) rfl (l' := #[vR a0, vI (0 : Int32), vR a2, vI (0 : Int32), vI (2 : Int32), vI (0 : Int32), vI (fn_a0 0)]) rfl k) ?_
 show own_Go p e below _ (s₁.setTop (mkF m 15 #[vR a0, vI (0 : Int32), vR a2, vI (0 : Int32), vI (2 : Int32), vI (0 : Int32), vI (fn_a0 0)] []))
 refine own_by (fun _ k => XS.iload X0.here hx rfl (hb hby d42_15) rfl k) ?_
 refine own_by (fun _ k => XS.sipush X0.here hx rfl (hb hby d42_17) k) ?_
 refine own_by (fun _ k => XS.icmpYes X0.here hx rfl (pc0 := 20) (pc' := 26) rfl (hb hby d42_20) rfl (flt hle_0).2.2.2 (by decide) (by decide) k) ?_
 show own_Go p e below _ (s₁.setTop (mkF m 26 #[vR a0, vI (0 : Int32), vR a2, vI (0 : Int32), vI (2 : Int32), vI (0 : Int32), vI (fn_a0 0)] []))
 refine own_by (fun _ k => XS.aloadN X0.here hx rfl (hb hby d42_26) rfl rfl k) ?_
 refine own_by (fun _ k => XS.iloadN X0.here hx rfl (hb hby d42_27) rfl k) ?_
 refine own_by (fun _ k => XS.iload X0.here hx rfl (hb hby d42_28) rfl k) ?_
 refine own_by (fun _ k => XS.i2b X0.here hx rfl (hb hby d42_30) rfl k) ?_
 show own_Go p e below _ (s₁.setTop (mkF m 31 #[vR a0, vI (0 : Int32), vR a2, vI (0 : Int32), vI (2 : Int32), vI (0 : Int32), vI (fn_a0 0)] [(.int ((fn_a0 0).toInt8.toInt32)), (.int (0 : Int32)), (.ref a2)]))
 obtain ⟨cl2, Ar2, qq2, S2, M2, H2, G2⟩ := id P_V_a2
 have hin2 : ¬ ((0 : Int32) < 0 ∨ cl2.slots.size ≤ ((0 : Int32)).toNatClampNeg) := inb_of S2 ⟨by decide, by decide⟩
 obtain ⟨T3, h3, X3, e3, W3, st3⟩ := stB X0 hx hZ e0 Ar2 (j := (0 : Int32)) hin2 (g := (mkF m 31 #[vR a0, vI (0 : Int32), vR a2, vI (0 : Int32), vI (2 : Int32), vI (0 : Int32), vI (fn_a0 0)] [(.int ((fn_a0 0).toInt8.toInt32)), (.int (0 : Int32)), (.ref a2)])) rfl rfl (hb hby d42_31)
 have V3 : own_Arf Z h3 a2 k_a2 .byte (2 : Int32) (fun i => .int ((own_upd fn_a2 0 (nar .byte ((fn_a0 0).toInt8.toInt32))) i)) := own_arfSetI Ar2 qq2 S2 M2 H2 G2 (fits_nar_byte _) W3
 have K3 : Keep h0 h3 [a2] := (Keep.refl h0 [a2]).wr W3 (Or.inl (List.mem_of_getElem? (i := 0) rfl))
 have Z3 : n0 ≤ h3.size := Nat.le_trans Z0 (Keep.of_wr W3).1
 have N3 := Fr.snoc X3 N0 g_a2
 refine own_by st3 ?_
 show own_Go p e below _ (T3.setTop (mkF m 32 #[vR a0, vI (0 : Int32), vR a2, vI (0 : Int32), vI (2 : Int32), vI (0 : Int32), vI (fn_a0 0)] []))
 refine own_by (fun _ k => XS.iinc X3.here hx rfl (hb hby d42_32) rfl (l' := #[vR a0, vI (1 : Int32), vR a2, vI (0 : Int32), vI (2 : Int32), vI (0 : Int32), vI (fn_a0 0)]) rfl k) ?_
 show own_Go p e below _ (T3.setTop (mkF m 35 #[vR a0, vI (1 : Int32), vR a2, vI (0 : Int32), vI (2 : Int32), vI (0 : Int32), vI (fn_a0 0)] []))
 refine own_by (fun _ k => XS.iinc X3.here hx rfl (hb hby d42_35) rfl (l' := #[vR a0, vI (1 : Int32), vR a2, vI (1 : Int32), vI (2 : Int32), vI (0 : Int32), vI (fn_a0 0)]) rfl k) ?_
 show own_Go p e below _ (T3.setTop (mkF m 38 #[vR a0, vI (1 : Int32), vR a2, vI (1 : Int32), vI (2 : Int32), vI (0 : Int32), vI (fn_a0 0)] []))
 refine own_by (fun _ k => XS.iinc X3.here hx rfl (hb hby d42_38) rfl (l' := #[vR a0, vI (1 : Int32), vR a2, vI (1 : Int32), vI (2 : Int32), vI (1 : Int32), vI (fn_a0 0)]) rfl k) ?_
 show own_Go p e below _ (T3.setTop (mkF m 41 #[vR a0, vI (1 : Int32), vR a2, vI (1 : Int32), vI (2 : Int32), vI (1 : Int32), vI (fn_a0 0)] []))
 refine own_by (fun _ k => XS.goto X3.here hx rfl (pc0 := 41) (pc' := 3) rfl (hb hby d42_41) (by decide) (by decide) k) ?_
 show own_Go p e below _ (T3.setTop (mkF m 3 #[vR a0, vI (1 : Int32), vR a2, vI (1 : Int32), vI (2 : Int32), vI (1 : Int32), vI (fn_a0 0)] []))
 refine own_by (fun _ k => XS.iload X3.here hx rfl (hb hby d42_3) rfl k) ?_
 refine own_by (fun _ k => XS.iload X3.here hx rfl (hb hby d42_5) rfl k) ?_
 refine own_by (fun _ k => XS.icmpNo X3.here hx rfl (hb hby d42_7) rfl (tlt (by decide : (1 : Int32) < (2 : Int32))).2.1 k) ?_
 show own_Go p e below _ (T3.setTop (mkF m 10 #[vR a0, vI (1 : Int32), vR a2, vI (1 : Int32), vI (2 : Int32), vI (1 : Int32), vI (fn_a0 0)] []))
 refine own_by (fun _ k => XS.aloadN X3.here hx rfl (hb hby d42_10) rfl rfl k) ?_
 refine own_by (fun _ k => XS.iloadN X3.here hx rfl (hb hby d42_11) rfl k) ?_
 have F4 : own_Arf Z h3 a0 k_a0 .char (2 : Int32) (fun i => .int (fn_a0 i)) := (P_V_a0.other W3 ne_a0_a2)
 obtain ⟨cl5, Ar5, qq5, S5, M5, H5, G5⟩ := id F4
 have hin5 : ¬ ((1 : Int32) < 0 ∨ cl5.slots.size ≤ ((1 : Int32)).toNatClampNeg) := inb_of S5 ⟨by decide, by decide⟩
 refine own_by (fun t k => X3.caload hx (j := (1 : Int32)) (v := (.int (fn_a0 1))) (by rw [e3]; exact Ar5.1) (State.isArrayOf_alike hZ.alike Ar5.2.1) Ar5.2.2 hin5 (H5 _ (Nat.lt_of_not_le fun y => hin5 (Or.inr y))) (g := (mkF m 12 #[vR a0, vI (1 : Int32), vR a2, vI (1 : Int32), vI (2 : Int32), vI (1 : Int32), vI (fn_a0 0)] [(.int (1 : Int32)), (.ref a0)])) rfl rfl (hb hby d42_12) _ k) ?_
 show own_Go p e below _ (T3.setTop (mkF m 13 #[vR a0, vI (1 : Int32), vR a2, vI (1 : Int32), vI (2 : Int32), vI (1 : Int32), vI (fn_a0 0)] [(.int (fn_a0 1))]))
 refine own_by (fun _ k => XS.istore X3.here hx rfl (hb hby d42_13) rfl (l' := #[vR a0, vI (1 : Int32), vR a2, vI (1 : Int32), vI (2 : Int32), vI (1 : Int32), vI (fn_a0 1)]) rfl k) ?_
 show own_Go p e below _ (T3.setTop (mkF m 15 #[vR a0, vI (1 : Int32), vR a2, vI (1 : Int32), vI (2 : Int32), vI (1 : Int32), vI (fn_a0 1)] []))
 refine own_by (fun _ k => XS.iload X3.here hx rfl (hb hby d42_15) rfl k) ?_
 refine own_by (fun _ k => XS.sipush X3.here hx rfl (hb hby d42_17) k) ?_
 refine own_by (fun _ k => XS.icmpYes X3.here hx rfl (pc0 := 20) (pc' := 26) rfl (hb hby d42_20) rfl (flt hle_1).2.2.2 (by decide) (by decide) k) ?_
 show own_Go p e below _ (T3.setTop (mkF m 26 #[vR a0, vI (1 : Int32), vR a2, vI (1 : Int32), vI (2 : Int32), vI (1 : Int32), vI (fn_a0 1)] []))
 refine own_by (fun _ k => XS.aloadN X3.here hx rfl (hb hby d42_26) rfl rfl k) ?_
 refine own_by (fun _ k => XS.iloadN X3.here hx rfl (hb hby d42_27) rfl k) ?_
 refine own_by (fun _ k => XS.iload X3.here hx rfl (hb hby d42_28) rfl k) ?_
 refine own_by (fun _ k => XS.i2b X3.here hx rfl (hb hby d42_30) rfl k) ?_
 show own_Go p e below _ (T3.setTop (mkF m 31 #[vR a0, vI (1 : Int32), vR a2, vI (1 : Int32), vI (2 : Int32), vI (1 : Int32), vI (fn_a0 1)] [(.int ((fn_a0 1).toInt8.toInt32)), (.int (1 : Int32)), (.ref a2)]))
 obtain ⟨cl6, Ar6, qq6, S6, M6, H6, G6⟩ := id V3
 have hin6 : ¬ ((1 : Int32) < 0 ∨ cl6.slots.size ≤ ((1 : Int32)).toNatClampNeg) := inb_of S6 ⟨by decide, by decide⟩
 obtain ⟨T7, h7, X7, e7, W7, st7⟩ := stB X3 hx hZ e3 Ar6 (j := (1 : Int32)) hin6 (g := (mkF m 31 #[vR a0, vI (1 : Int32), vR a2, vI (1 : Int32), vI (2 : Int32), vI (1 : Int32), vI (fn_a0 1)] [(.int ((fn_a0 1).toInt8.toInt32)), (.int (1 : Int32)), (.ref a2)])) rfl rfl (hb hby d42_31)
 have V7 : own_Arf Z h7 a2 k_a2 .byte (2 : Int32) (fun i => .int ((own_upd (own_upd fn_a2 0 (nar .byte ((fn_a0 0).toInt8.toInt32))) 1 (nar .byte ((fn_a0 1).toInt8.toInt32))) i)) := own_arfSetI Ar6 qq6 S6 M6 H6 G6 (fits_nar_byte _) W7
 have K7 : Keep h0 h7 [a2] := K3.wr W7 (Or.inl (List.mem_of_getElem? (i := 0) rfl))
 have Z7 : n0 ≤ h7.size := Nat.le_trans Z3 (Keep.of_wr W7).1
 have N7 := Fr.snoc X7 N3 g_a2
 refine own_by st7 ?_
 show own_Go p e below _ (T7.setTop (mkF m 32 #[vR a0, vI (1 : Int32), vR a2, vI (1 : Int32), vI (2 : Int32), vI (1 : Int32), vI (fn_a0 1)] []))
 refine own_by (fun _ k => XS.iinc X7.here hx rfl (hb hby d42_32) rfl (l' := #[vR a0, vI (2 : Int32), vR a2, vI (1 : Int32), vI (2 : Int32), vI (1 : Int32), vI (fn_a0 1)]) rfl k) ?_
 show own_Go p e below _ (T7.setTop (mkF m 35 #[vR a0, vI (2 : Int32), vR a2, vI (1 : Int32), vI (2 : Int32), vI (1 : Int32), vI (fn_a0 1)] []))
 refine own_by (fun _ k => XS.iinc X7.here hx rfl (hb hby d42_35) rfl (l' := #[vR a0, vI (2 : Int32), vR a2, vI (2 : Int32), vI (2 : Int32), vI (1 : Int32), vI (fn_a0 1)]) rfl k) ?_
 show own_Go p e below _ (T7.setTop (mkF m 38 #[vR a0, vI (2 : Int32), vR a2, vI (2 : Int32), vI (2 : Int32), vI (1 : Int32), vI (fn_a0 1)] []))
 refine own_by (fun _ k => XS.iinc X7.here hx rfl (hb hby d42_38) rfl (l' := #[vR a0, vI (2 : Int32), vR a2, vI (2 : Int32), vI (2 : Int32), vI (2 : Int32), vI (fn_a0 1)]) rfl k) ?_
 show own_Go p e below _ (T7.setTop (mkF m 41 #[vR a0, vI (2 : Int32), vR a2, vI (2 : Int32), vI (2 : Int32), vI (2 : Int32), vI (fn_a0 1)] []))
 refine own_by (fun _ k => XS.goto X7.here hx rfl (pc0 := 41) (pc' := 3) rfl (hb hby d42_41) (by decide) (by decide) k) ?_
 show own_Go p e below _ (T7.setTop (mkF m 3 #[vR a0, vI (2 : Int32), vR a2, vI (2 : Int32), vI (2 : Int32), vI (2 : Int32), vI (fn_a0 1)] []))
 refine own_by (fun _ k => XS.iload X7.here hx rfl (hb hby d42_3) rfl k) ?_
 refine own_by (fun _ k => XS.iload X7.here hx rfl (hb hby d42_5) rfl k) ?_
 refine own_by (fun _ k => XS.icmpYes X7.here hx rfl (pc0 := 7) (pc' := 44) rfl (hb hby d42_7) rfl (flt (by decide : ¬ ((2 : Int32) < (2 : Int32)))).2.1 (by decide) (by decide) k) ?_
 show own_Go p e below _ (T7.setTop (mkF m 44 #[vR a0, vI (2 : Int32), vR a2, vI (2 : Int32), vI (2 : Int32), vI (2 : Int32), vI (fn_a0 1)] []))
 refine own_by (fun _ k => XS.iload X7.here hx rfl (hb hby d42_44) rfl k) ?_
 exact own_retI X7 hx Bd.returns (hb hby d42_46) hlk e7 ⟨rfl, N7, K7, V7⟩ (by decide) (by decide)
theorem pn_cmpB2 : plainName "java/lang/StringUTF16" = true := by first | (simp [plainName, overriddenIn]; done) | decide +kernel
theorem ef_cmpB2 (m : MethodId) (a0 : Addr) : entryFrame m #[(.ref a0), (.int (0 : Int32)), (.int (2 : Int32))] 6 = mkF m 0 #[vR a0, vI (0 : Int32), vI (2 : Int32), .unset, .unset, .unset] [] := by first | (simp [entryFrame, mkF, argsToLocals, Value.category]; done) | rfl
def QcmpB2 (Z : State) (k_a0 : ClassId) (fn_a0 : Nat → Int32) (a0 : Addr) (h0 : Heap) (n0 : Nat) (v : Option Value) (h : Heap) (L : List Loc) : Prop := ∃ (b1 : Addr) (k1 : ClassId), v = some (.ref b1) ∧ Fr n0 L ∧ Keep h0 h [] ∧ (n0 ≤ b1) ∧ (h0.size ≤ b1) ∧ own_Arf Z h b1 k1 .byte (2 : Int32) (fun i => .int ((own_upd (own_upd (fun _ => (0 : Int32)) 0 (nar .byte ((fn_a0 0).toInt8.toInt32))) 1 (nar .byte ((fn_a0 1).toInt8.toInt32))) i))
set_option maxRecDepth 65536 in
set_option maxHeartbeats 40000000 in
theorem rmcmpB2 (l : Launch) (Z : State) (A0 : Array Value) (hw : ∀ d ∈ tables_1, d.before A0 Z = true) (ws : List Jvm.Cond) (k_a0 : ClassId) (fn_a0 : Nat → Int32) (a0 : Addr) (h0 : Heap) (n0 : Nat) (Z0 : n0 ≤ h0.size) (P_V_a0 : own_Arf Z h0 a0 k_a0 .char (2 : Int32) (fun i => .int (fn_a0 i))) (hle_0 : ¬ ((255 : Int32) < (fn_a0 0))) (hle_1 : ¬ ((255 : Int32) < (fn_a0 1))) :
    MetFree l (⟨"java/lang/StringUTF16", "compress", "([CII)[B"⟩ : MethodName) (head1 (Jvm.Cond.code (⟨"java/lang/StringUTF16", "compress", "([CII)[B"⟩ : MethodName) jdk_52_method_16_code 6 (some (.array .byte)) :: ws) ({ frames := 1, cells := 1, slots := 2, locals := 18 } : Room)) (fun a U => a = #[(.ref a0), (.int (0 : Int32)), (.int (2 : Int32))] ∧ Z.Warmed39 U.vm ∧ U.heap = h0) (fun _ _ _ _ _ => True) (fun _ U o U' => ∃ v L, o = .returned v ∧ QcmpB2 Z k_a0 fn_a0 a0 h0 n0 v U'.heap L ∧ FrameEnd U o U' L 1 2) := by
 refine MetFree.of_bodySF (plainFor_of_name pn_cmpB2) hisR ?_
 intro p e s m args below meth c s₁ Bd hml0 hP hK
 obtain ⟨rfl, hZ, hh⟩ := hP
 have hwd := fun i {d : Jvm.Cond} (h : tables_1[i]? = some d) => hw d (List.mem_of_getElem? h)
 have hx := Bd.exec
 have hby := Bd.bytes
 have hml : c.maxLocals = 6 := hml0
 have hlk : meth.locks = false := Bd.notSynchronized
 have hown : s.vm.findClass "java/lang/StringUTF16" = some m.cls := findClass_of_methodNamed Bd.named
 have hnm := (name_of_methodNamed Bd.named Bd.method).1
 have X0 : Stand p l e ({ frames := 1, cells := 1, slots := 2, locals := 18 } : Room) s m #[(.ref a0), (.int (0 : Int32)), (.int (2 : Int32))] below meth c s₁ [] 0 0 := Stand.of_body Bd
 have e0 : s₁.heap = h0 := by rw [← hh, Bd.state]; rfl
 have N0 := Fr.nil n0
 show own_Go p e below (own_Fin s 1 2 (QcmpB2 Z k_a0 fn_a0 a0 h0 n0)) _
 refine own_by (fun t k => castTop (ef_cmpB2 m a0) k) ?_
 show own_Go p e below _ (s₁.setTop (mkF m 0 #[vR a0, vI (0 : Int32), vI (2 : Int32), .unset, .unset, .unset] []))
 refine own_by (fun _ k => XS.iloadN X0.here hx rfl (hb hby d41_0) rfl k) ?_
 obtain ⟨T1, h1, k1, X1, e1, E1, A1, st1⟩ := newP X0 hx hZ (hwd 19 rfl) e0 (g := (mkF m 1 #[vR a0, vI (0 : Int32), vI (2 : Int32), .unset, .unset, .unset] [(.int (2 : Int32))])) rfl (hb hby d41_1) rfl (by decide) (cap := 2) (by decide) (by decide) (by decide) (by decide)
 obtain ⟨b1, g1⟩ : ∃ z, z = h0.size := ⟨_, rfl⟩
 have ge_b1 : n0 ≤ b1 := Nat.le_trans Z0 (Nat.le_of_eq g1.symm)
 have sz_b1 : h0.size ≤ b1 := Nat.le_trans (Keep.refl h0 []).1 (Nat.le_of_eq g1.symm)
 have K1 : Keep h0 h1 [] := (Keep.refl h0 []).ext E1
 have Z1 : n0 ≤ h1.size := Nat.le_trans Z0 E1.1
 rw [← g1] at A1 st1
 have V1 : own_Arf Z h1 b1 k1 .byte (2 : Int32) (fun i => .int ((fun _ => (0 : Int32)) i)) := own_arfNew A1 (by decide)
 refine own_by st1 ?_
 show own_Go p e below _ (T1.setTop (mkF m 3 #[vR a0, vI (0 : Int32), vI (2 : Int32), .unset, .unset, .unset] [(.ref b1)]))
 refine own_by (fun _ k => XS.astoreN X1.here hx rfl (hb hby d41_3) rfl rfl (l' := #[vR a0, vI (0 : Int32), vI (2 : Int32), vR b1, .unset, .unset]) rfl k) ?_
 show own_Go p e below _ (T1.setTop (mkF m 4 #[vR a0, vI (0 : Int32), vI (2 : Int32), vR b1, .unset, .unset] []))
 refine own_by (fun _ k => XS.aloadN X1.here hx rfl (hb hby d41_4) rfl rfl k) ?_
 refine own_by (fun _ k => XS.iloadN X1.here hx rfl (hb hby d41_5) rfl k) ?_
 refine own_by (fun _ k => XS.aloadN X1.here hx rfl (hb hby d41_6) rfl rfl k) ?_
 refine own_by (fun _ k => XS.iconst X1.here hx rfl (hb hby d41_7) k) ?_
 refine own_by (fun _ k => XS.iloadN X1.here hx rfl (hb hby d41_8) rfl k) ?_
 have F2 : own_Arf Z h1 a0 k_a0 .char (2 : Int32) (fun i => .int (fn_a0 i)) := (P_V_a0.ext E1)
 obtain ⟨_, _, ⟨T3, L3, k3, n3⟩, -, X3, ⟨Lc3, hQ3, l3, y3, z3⟩, st3⟩ := Jvm.LawKit.callS X1 hx (y := (⟨"java/lang/StringUTF16", "compress", "([CI[BII)I"⟩ : MethodName)) hown (mvT hZ (hwd 247 rfl)) (mvT hZ (hwd 248 rfl)) (mvT hZ (hwd 245 rfl)) (mvT hZ (hwd 249 rfl)) (by decide) (backOf (W := 0) (rmcmp2 l Z A0 hw [] k_a0 fn_a0 k1 (fun _ => (0 : Int32)) a0 b1 h1 n0 Z1 F2 V1 hle_0 hle_1 ge_b1 (Nat.ne_of_lt (Nat.lt_of_lt_of_le (P_V_a0).lt (Nat.le_of_eq g1.symm)))) hZ (hwd 249 rfl) (hwd 245 rfl) (by decide) (by decide)) (g := (mkF m 9 #[vR a0, vI (0 : Int32), vI (2 : Int32), vR b1, .unset, .unset] [(.int (2 : Int32)), (.int (0 : Int32)), (.ref b1), (.int (0 : Int32)), (.ref a0)])) rfl (by rw [hml]; rfl) (argsL := [(.ref a0), (.int (0 : Int32)), (.ref b1), (.int (0 : Int32)), (.int (2 : Int32))]) (rest := []) (lenOf pd_247 rfl) rfl (by show 2 * 0 + _ ≤ _; exact Nat.le_of_eq rfl) (hb hby d41_9) (fun _ _ => ⟨rfl, e1, (by decide : 1 + 0 ≤ _), (by decide : 2 + 0 ≤ _)⟩)
 dsimp only [Pt.U, Pt.locs, Pt.cells, Pt.slots] at X3 l3 y3 z3 st3 hQ3
 subst l3 y3 z3
 obtain ⟨rfl, Nq3, Kq3, F4⟩ := hQ3
 have N3 := Fr.app N0 Nq3
 have K3 : Keep h0 T3.heap [] := K1.trans Kq3 ((allS (Or.inr sz_b1) all0))
 have Z3 : n0 ≤ T3.heap.size := Nat.le_trans Z1 Kq3.1
 refine own_by st3 ?_
 show own_Go p e below _ (T3.setTop (mkF m 12 #[vR a0, vI (0 : Int32), vI (2 : Int32), vR b1, .unset, .unset] [(.int (2 : Int32))]))
 refine own_by (fun _ k => XS.istore X3.here hx rfl (hb hby d41_12) rfl (l' := #[vR a0, vI (0 : Int32), vI (2 : Int32), vR b1, vI (2 : Int32), .unset]) rfl k) ?_
 show own_Go p e below _ (T3.setTop (mkF m 14 #[vR a0, vI (0 : Int32), vI (2 : Int32), vR b1, vI (2 : Int32), .unset] []))
 refine own_by (fun _ k => XS.iload X3.here hx rfl (hb hby d41_14) rfl k) ?_
 refine own_by (fun _ k => XS.iloadN X3.here hx rfl (hb hby d41_16) rfl k) ?_
 refine own_by (fun _ k => XS.icmpYes X3.here hx rfl (pc0 := 17) (pc' := 57) rfl (hb hby d41_17) rfl (teq (by decide : (2 : Int32) = (2 : Int32))).1 (by decide) (by decide) k) ?_
 show own_Go p e below _ (T3.setTop (mkF m 57 #[vR a0, vI (0 : Int32), vI (2 : Int32), vR b1, vI (2 : Int32), .unset] []))
 refine own_by (fun _ k => XS.aloadN X3.here hx rfl (hb hby d41_57) rfl rfl k) ?_
 exact own_retR X3 hx Bd.returns (by decide) rfl (hb hby d41_58) hlk rfl ⟨_, _, rfl, N3, K3, ge_b1, sz_b1, F4⟩ (by decide) (by decide)
theorem pn_cfa2 : plainName "java/lang/StringUTF16" = true := by first | (simp [plainName, overriddenIn]; done) | decide +kernel
theorem ef_cfa2 (m : MethodId) (a0 : Addr) : entryFrame m #[(.ref a0), (.int (2 : Int32))] 2 = mkF m 0 #[vR a0, vI (2 : Int32)] [] := by first | (simp [entryFrame, mkF, argsToLocals, Value.category]; done) | rfl
def Qcfa2 (Z : State) (k_a0 : ClassId) (fn_a0 : Nat → Int32) (a0 : Addr) (h0 : Heap) (n0 : Nat) (v : Option Value) (h : Heap) (L : List Loc) : Prop := v = some (.int (nar .byte (0 : Int32))) ∧ Fr n0 L ∧ h = h0
set_option maxRecDepth 65536 in
set_option maxHeartbeats 40000000 in
theorem rmcfa2 (l : Launch) (Z : State) (A0 : Array Value) (hw : ∀ d ∈ tables_1, d.before A0 Z = true) (ws : List Jvm.Cond) (k_a0 : ClassId) (fn_a0 : Nat → Int32) (a0 : Addr) (h0 : Heap) (n0 : Nat) (Z0 : n0 ≤ h0.size) (P_V_a0 : own_Arf Z h0 a0 k_a0 .byte (2 : Int32) (fun i => .int (fn_a0 i))) :
    MetFree l (⟨"java/lang/StringUTF16", "coderFromArrayLen", "([BI)B"⟩ : MethodName) (head1 (Jvm.Cond.code (⟨"java/lang/StringUTF16", "coderFromArrayLen", "([BI)B"⟩ : MethodName) jdk_52_method_15_code 2 (some .byte) :: ws) ({ frames := 0, cells := 0, slots := 0, locals := 0 } : Room)) (fun a U => a = #[(.ref a0), (.int (2 : Int32))] ∧ Z.Warmed39 U.vm ∧ U.heap = h0) (fun _ _ _ _ _ => True) (fun _ U o U' => ∃ v L, o = .returned v ∧ Qcfa2 Z k_a0 fn_a0 a0 h0 n0 v U'.heap L ∧ FrameEnd U o U' L 0 0) := by
 refine MetFree.of_bodySF (plainFor_of_name pn_cfa2) hisR ?_
 intro p e s m args below meth c s₁ Bd hml0 hP hK
 obtain ⟨rfl, hZ, hh⟩ := hP
 have hwd := fun i {d : Jvm.Cond} (h : tables_1[i]? = some d) => hw d (List.mem_of_getElem? h)
 have hx := Bd.exec
 have hby := Bd.bytes
 have hml : c.maxLocals = 2 := hml0
 have hlk : meth.locks = false := Bd.notSynchronized
 have hown : s.vm.findClass "java/lang/StringUTF16" = some m.cls := findClass_of_methodNamed Bd.named
 have hnm := (name_of_methodNamed Bd.named Bd.method).1
 have X0 : Stand p l e ({ frames := 0, cells := 0, slots := 0, locals := 0 } : Room) s m #[(.ref a0), (.int (2 : Int32))] below meth c s₁ [] 0 0 := Stand.of_body Bd
 have e0 : s₁.heap = h0 := by rw [← hh, Bd.state]; rfl
 have N0 := Fr.nil n0
 show own_Go p e below (own_Fin s 0 0 (Qcfa2 Z k_a0 fn_a0 a0 h0 n0)) _
 refine own_by (fun t k => castTop (ef_cfa2 m a0) k) ?_
 show own_Go p e below _ (s₁.setTop (mkF m 0 #[vR a0, vI (2 : Int32)] []))
 refine own_by (fun _ k => XS.iloadN X0.here hx rfl (hb hby d43_0) rfl k) ?_
 refine own_by (fun _ k => XS.aloadN X0.here hx rfl (hb hby d43_1) rfl rfl k) ?_
 obtain ⟨cl1, Ar1, qq1, S1, M1, H1, G1⟩ := id P_V_a0
 refine own_by (fun t k => X0.arraylength hx (by rw [e0]; exact Ar1.1) (State.isArrayOf_alike hZ.alike Ar1.2.1) (g := (mkF m 2 #[vR a0, vI (2 : Int32)] [(.ref a0), (.int (2 : Int32))])) rfl rfl (hb hby d43_2) _ k) ?_
 rw [len_of S1 M1]
 show own_Go p e below _ (s₁.setTop (mkF m 3 #[vR a0, vI (2 : Int32)] [(.int (2 : Int32)), (.int (2 : Int32))]))
 refine own_by (fun _ k => XS.isub X0.here hx rfl (hb hby d43_3) rfl k) ?_
 show own_Go p e below _ (s₁.setTop (mkF m 4 #[vR a0, vI (2 : Int32)] [(.int (0 : Int32))]))
 refine own_by (fun _ k => XS.bipush X0.here hx rfl (hb hby d43_4) k) ?_
 refine own_by (fun _ k => XS.iushr X0.here hx rfl (hb hby d43_6) rfl k) ?_
 show own_Go p e below _ (s₁.setTop (mkF m 7 #[vR a0, vI (2 : Int32)] [(.int (0 : Int32))]))
 refine own_by (fun _ k => XS.i2b X0.here hx rfl (hb hby d43_7) rfl k) ?_
 show own_Go p e below _ (s₁.setTop (mkF m 8 #[vR a0, vI (2 : Int32)] [(.int (0 : Int32))]))
 exact own_retN X0 hx (t := .byte) Bd.returns (by simp) (hb hby d43_8) hlk e0 ⟨rfl, N0, rfl⟩ (by decide) (by decide)
theorem pn_si4_2 : plainName "java/lang/String" = true := by first | (simp [plainName, overriddenIn]; done) | decide +kernel
theorem ef_si4_2 (m : MethodId) (a0 : Addr) (a1 : Addr) : entryFrame m #[(.ref a0), (.ref a1), (.int (0 : Int32)), (.int (2 : Int32)), .null] 6 = mkF m 0 #[vR a0, vR a1, vI (0 : Int32), vI (2 : Int32), .val .null, .unset] [] := by first | (simp [entryFrame, mkF, argsToLocals, Value.category]; done) | rfl
def Qsi4_2 (Z : State) (k_a1 : ClassId) (fn_a1 : Nat → Int32) (f_CS : Int32) (a0 : Addr) (a1 : Addr) (f_a0_coder : Int32) (f_a0_value : Value) (h0 : Heap) (n0 : Nat) (v : Option Value) (h : Heap) (L : List Loc) : Prop := ∃ (b4 : Addr) (b5 : ClassId), v = none ∧ Fr n0 L ∧ Keep h0 h [a0] ∧ Exa Z h a0 "java/lang/String" ∧ Fld Z h a0 "java/lang/String" "coder" "B" (.int (nar .byte (0 : Int32))) ∧ Fld Z h a0 "java/lang/String" "value" "[B" (.ref b4) ∧ (n0 ≤ b4) ∧ (h0.size ≤ b4) ∧ own_Arf Z h b4 b5 .byte (2 : Int32) (fun i => .int ((own_upd (own_upd (fun _ => (0 : Int32)) 0 (nar .byte ((fn_a1 0).toInt8.toInt32))) 1 (nar .byte ((fn_a1 1).toInt8.toInt32))) i))
set_option maxRecDepth 65536 in
set_option maxHeartbeats 40000000 in
theorem rmsi4_2 (l : Launch) (Z : State) (A0 : Array Value) (hw : ∀ d ∈ tables_1, d.before A0 Z = true) (ws : List Jvm.Cond) (k_a1 : ClassId) (fn_a1 : Nat → Int32) (f_CS : Int32) (a0 : Addr) (a1 : Addr) (f_a0_coder : Int32) (f_a0_value : Value) (h0 : Heap) (n0 : Nat) (Z0 : n0 ≤ h0.size) (P_V_a1 : own_Arf Z h0 a1 k_a1 .char (2 : Int32) (fun i => .int (fn_a1 i))) (P_S_CS : Sta Z h0 "java/lang/String" "COMPACT_STRINGS" "Z" (.int f_CS)) (hn_CS : ¬ (f_CS = (0 : Int32))) (hle_0 : ¬ ((255 : Int32) < (fn_a1 0))) (hle_1 : ¬ ((255 : Int32) < (fn_a1 1))) (P_E_a0 : Exa Z h0 a0 "java/lang/String") (P_F_a0_coder : Fld Z h0 a0 "java/lang/String" "coder" "B" (.int f_a0_coder)) (g_a0 : n0 ≤ a0) (P_F_a0_value : Fld Z h0 a0 "java/lang/String" "value" "[B" f_a0_value) :
    MetFree l (⟨"java/lang/String", "<init>", "([CIILjava/lang/Void;)V"⟩ : MethodName) (head1 (Jvm.Cond.code (⟨"java/lang/String", "<init>", "([CIILjava/lang/Void;)V"⟩ : MethodName) jdk_42_method_149_code 6 none :: ws) ({ frames := 2, cells := 1, slots := 2, locals := 35 } : Room)) (fun a U => a = #[(.ref a0), (.ref a1), (.int (0 : Int32)), (.int (2 : Int32)), .null] ∧ Z.Warmed39 U.vm ∧ U.heap = h0) (fun _ _ _ _ _ => True) (fun _ U o U' => ∃ v L, o = .returned v ∧ Qsi4_2 Z k_a1 fn_a1 f_CS a0 a1 f_a0_coder f_a0_value h0 n0 v U'.heap L ∧ FrameEnd U o U' L 1 2) := by
 refine MetFree.of_bodySF (plainFor_of_name pn_si4_2) hisR ?_
 intro p e s m args below meth c s₁ Bd hml0 hP hK
 obtain ⟨rfl, hZ, hh⟩ := hP
 have hwd := fun i {d : Jvm.Cond} (h : tables_1[i]? = some d) => hw d (List.mem_of_getElem? h)
 have hx := Bd.exec
 have hby := Bd.bytes
 have hml : c.maxLocals = 6 := hml0
 have hlk : meth.locks = false := Bd.notSynchronized
 have hown : s.vm.findClass "java/lang/String" = some m.cls := findClass_of_methodNamed Bd.named
 have hnm := (name_of_methodNamed Bd.named Bd.method).1
 have X0 : Stand p l e ({ frames := 2, cells := 1, slots := 2, locals := 35 } : Room) s m #[(.ref a0), (.ref a1), (.int (0 : Int32)), (.int (2 : Int32)), .null] below meth c s₁ [] 0 0 := Stand.of_body Bd
 have e0 : s₁.heap = h0 := by rw [← hh, Bd.state]; rfl
 have N0 := Fr.nil n0
 show own_Go p e below (own_Fin s 1 2 (Qsi4_2 Z k_a1 fn_a1 f_CS a0 a1 f_a0_coder f_a0_value h0 n0)) _
 refine own_by (fun t k => castTop (ef_si4_2 m a0 a1) k) ?_
 show own_Go p e below _ (s₁.setTop (mkF m 0 #[vR a0, vR a1, vI (0 : Int32), vI (2 : Int32), .val .null, .unset] []))
 refine own_by (fun _ k => XS.aloadN X0.here hx rfl (hb hby d3_0) rfl rfl k) ?_
 obtain ⟨T1, X1, e1, st1⟩ := initO X0 hx hZ hown (hwd 15 rfl) (hwd 16 rfl) (hwd 17 rfl) e0 (g := (mkF m 1 #[vR a0, vR a1, vI (0 : Int32), vI (2 : Int32), .val .null, .unset] [(.ref a0)])) rfl (by rw [hml]; rfl) rfl (hb hby d3_1) (by decide) (W := 0) (by show 2 * 0 + _ ≤ _; exact Nat.le_of_eq rfl) (by decide)
 refine own_by st1 ?_
 show own_Go p e below _ (T1.setTop (mkF m 4 #[vR a0, vR a1, vI (0 : Int32), vI (2 : Int32), .val .null, .unset] []))
 refine own_by (fun _ k => XS.iloadN X1.here hx rfl (hb hby d3_4) rfl k) ?_
 refine own_by (fun _ k => XS.ifYes X1.here hx rfl (pc0 := 5) (pc' := 27) rfl (hb hby d3_5) rfl ((if0 _ _).trans (feq (by decide : ¬ ((2 : Int32) = (0 : Int32)))).2) (by decide) (by decide) k) ?_
 show own_Go p e below _ (T1.setTop (mkF m 27 #[vR a0, vR a1, vI (0 : Int32), vI (2 : Int32), .val .null, .unset] []))
 obtain ⟨T2, X2, e2, st2⟩ := getS2 X1 hx hZ hown (host := "") (Or.inl (hwd 71 rfl)) Via.refl e1 P_S_CS (g := (mkF m 27 #[vR a0, vR a1, vI (0 : Int32), vI (2 : Int32), .val .null, .unset] [])) rfl (hb hby d3_27)
 refine own_by st2 ?_
 show own_Go p e below _ (T2.setTop (mkF m 30 #[vR a0, vR a1, vI (0 : Int32), vI (2 : Int32), .val .null, .unset] [(.int f_CS)]))
 refine own_by (fun _ k => XS.ifNo X2.here hx rfl (hb hby d3_30) rfl ((if0 _ _).trans (feq hn_CS).1) k) ?_
 show own_Go p e below _ (T2.setTop (mkF m 33 #[vR a0, vR a1, vI (0 : Int32), vI (2 : Int32), .val .null, .unset] []))
 refine own_by (fun _ k => XS.aloadN X2.here hx rfl (hb hby d3_33) rfl rfl k) ?_
 refine own_by (fun _ k => XS.iloadN X2.here hx rfl (hb hby d3_34) rfl k) ?_
 refine own_by (fun _ k => XS.iloadN X2.here hx rfl (hb hby d3_35) rfl k) ?_
 obtain ⟨_, _, ⟨T3, L3, k3, n3⟩, -, X3, ⟨Lc3, hQ3, l3, y3, z3⟩, st3⟩ := Jvm.LawKit.callS X2 hx (y := (⟨"java/lang/StringUTF16", "compress", "([CII)[B"⟩ : MethodName)) hown (mvT hZ (hwd 243 rfl)) (mvT hZ (hwd 244 rfl)) (mvT hZ (hwd 245 rfl)) (mvT hZ (hwd 246 rfl)) (by decide) (backOf (W := 0) (rmcmpB2 l Z A0 hw [] k_a1 fn_a1 a1 h0 n0 Z0 P_V_a1 hle_0 hle_1) hZ (hwd 246 rfl) (hwd 245 rfl) (by decide) (by decide)) (g := (mkF m 36 #[vR a0, vR a1, vI (0 : Int32), vI (2 : Int32), .val .null, .unset] [(.int (2 : Int32)), (.int (0 : Int32)), (.ref a1)])) rfl (by rw [hml]; rfl) (argsL := [(.ref a1), (.int (0 : Int32)), (.int (2 : Int32))]) (rest := []) (lenOf pd_243 rfl) rfl (by show 2 * 0 + _ ≤ _; exact Nat.le_of_eq rfl) (hb hby d3_36) (fun _ _ => ⟨rfl, e2, (by decide : 0 + 1 ≤ _), (by decide : 0 + 2 ≤ _)⟩)
 dsimp only [Pt.U, Pt.locs, Pt.cells, Pt.slots] at X3 l3 y3 z3 st3 hQ3
 subst l3 y3 z3
 obtain ⟨b4, b5, rfl, Nq3, Kq3, hp6, hp7, F8⟩ := hQ3
 have N3 := Fr.app N0 Nq3
 have K3 : Keep h0 T3.heap [a0] := (Keep.refl h0 [a0]).trans Kq3 (all0)
 have Z3 : n0 ≤ T3.heap.size := Nat.le_trans Z0 Kq3.1
 have sz_b4 : h0.size ≤ b4 := Nat.le_trans (Keep.refl h0 [a0]).1 hp7
 refine own_by st3 ?_
 show own_Go p e below _ (T3.setTop (mkF m 39 #[vR a0, vR a1, vI (0 : Int32), vI (2 : Int32), .val .null, .unset] [(.ref b4)]))
 refine own_by (fun _ k => XS.astore X3.here hx rfl (hb hby d3_39) rfl rfl (l' := #[vR a0, vR a1, vI (0 : Int32), vI (2 : Int32), .val .null, vR b4]) rfl k) ?_
 show own_Go p e below _ (T3.setTop (mkF m 41 #[vR a0, vR a1, vI (0 : Int32), vI (2 : Int32), .val .null, vR b4] []))
 refine own_by (fun _ k => XS.aloadN X3.here hx rfl (hb hby d3_41) rfl rfl k) ?_
 refine own_by (fun _ k => XS.aload X3.here hx rfl (hb hby d3_42) rfl rfl k) ?_
 refine own_by (fun _ k => XS.iloadN X3.here hx rfl (hb hby d3_44) rfl k) ?_
 obtain ⟨_, _, ⟨T9, L9, k9, n9⟩, -, X9, ⟨Lc9, hQ9, l9, y9, z9⟩, st9⟩ := Jvm.LawKit.callS X3 hx (y := (⟨"java/lang/StringUTF16", "coderFromArrayLen", "([BI)B"⟩ : MethodName)) hown (mvT hZ (hwd 250 rfl)) (mvT hZ (hwd 251 rfl)) (mvT hZ (hwd 245 rfl)) (mvT hZ (hwd 252 rfl)) (by decide) (backOf (W := 1) (rmcfa2 l Z A0 hw [] b5 (own_upd (own_upd (fun _ => (0 : Int32)) 0 (nar .byte ((fn_a1 0).toInt8.toInt32))) 1 (nar .byte ((fn_a1 1).toInt8.toInt32))) b4 T3.heap n0 Z3 F8) hZ (hwd 252 rfl) (hwd 245 rfl) (by decide) (by decide)) (g := (mkF m 45 #[vR a0, vR a1, vI (0 : Int32), vI (2 : Int32), .val .null, vR b4] [(.int (2 : Int32)), (.ref b4), (.ref a0)])) rfl (by rw [hml]; rfl) (argsL := [(.ref b4), (.int (2 : Int32))]) (rest := [(.ref a0)]) (lenOf pd_250 rfl) rfl (by show 2 * 0 + _ ≤ _; exact Nat.le_of_eq rfl) (hb hby d3_45) (fun _ _ => ⟨rfl, rfl, (by decide : 1 + 0 ≤ _), (by decide : 2 + 0 ≤ _)⟩)
 dsimp only [Pt.U, Pt.locs, Pt.cells, Pt.slots] at X9 l9 y9 z9 st9 hQ9
 subst l9 y9 z9
 obtain ⟨rfl, Nq9, eq9⟩ := hQ9
 have N9 := Fr.app N3 Nq9
 refine own_by st9 ?_
 show own_Go p e below _ (T9.setTop (mkF m 48 #[vR a0, vR a1, vI (0 : Int32), vI (2 : Int32), .val .null, vR b4] [(.int (0 : Int32)), (.ref a0)]))
 have F10 : Exa Z T3.heap a0 "java/lang/String" := (P_E_a0.keep Kq3)
 have F11 : Fld Z T3.heap a0 "java/lang/String" "coder" "B" (.int f_a0_coder) := (P_F_a0_coder.keep Kq3 nin0)
 obtain ⟨T12, h12, X12, e12, W12, st12⟩ := putFN X9 hx hZ hown (hwd 25 rfl) Via.refl eq9 F11 F10 (Or.inr ⟨(hwd 21 rfl), rfl, hnm⟩) (hwd 5 rfl) (ty := .byte) (v' := (.int (nar .byte (0 : Int32)))) (by decide) rfl (fits_nar_byte _) (g := (mkF m 48 #[vR a0, vR a1, vI (0 : Int32), vI (2 : Int32), .val .null, vR b4] [(.int (0 : Int32)), (.ref a0)])) rfl rfl (hb hby d3_48)
 have Fw12 : Fld Z h12 a0 "java/lang/String" "coder" "B" (.int (nar .byte (0 : Int32))) := F11.same W12
 have K12 : Keep h0 h12 [a0] := K3.wr W12 (Or.inl (List.mem_of_getElem? (i := 0) rfl))
 have Z12 : n0 ≤ h12.size := Nat.le_trans Z3 (Keep.of_wr W12).1
 have N12 := Fr.snoc X12 N9 g_a0
 refine own_by st12 ?_
 show own_Go p e below _ (T12.setTop (mkF m 51 #[vR a0, vR a1, vI (0 : Int32), vI (2 : Int32), .val .null, vR b4] []))
 refine own_by (fun _ k => XS.aloadN X12.here hx rfl (hb hby d3_51) rfl rfl k) ?_
 refine own_by (fun _ k => XS.aload X12.here hx rfl (hb hby d3_52) rfl rfl k) ?_
 have F13 : Exa Z h12 a0 "java/lang/String" := (F10.wr W12)
 have F14 : Fld Z h12 a0 "java/lang/String" "value" "[B" f_a0_value := ((P_F_a0_value.keep Kq3 nin0).other W12 (Or.inr (slot_ne (Or.inr (hwd 20 rfl)) (Or.inr (hwd 21 rfl)) (by decide) (t := (.array .byte)) (t' := .byte) (by decide) (by decide))))
 obtain ⟨T15, h15, X15, e15, W15, st15⟩ := putF X12 hx hZ hown (host := "") (Or.inl (hwd 24 rfl)) Via.refl e12 F14 F13 (Or.inr ⟨(hwd 20 rfl), rfl, hnm⟩) (hwd 5 rfl) (ty := (.array .byte)) (by decide) rfl rfl (g := (mkF m 54 #[vR a0, vR a1, vI (0 : Int32), vI (2 : Int32), .val .null, vR b4] [(.ref b4), (.ref a0)])) rfl rfl (hb hby d3_54)
 have Fw15 : Fld Z h15 a0 "java/lang/String" "value" "[B" (.ref b4) := F14.same W15
 have K15 : Keep h0 h15 [a0] := K12.wr W15 (Or.inl (List.mem_of_getElem? (i := 0) rfl))
 have Z15 : n0 ≤ h15.size := Nat.le_trans Z12 (Keep.of_wr W15).1
 have N15 := Fr.snoc X15 N12 g_a0
 refine own_by st15 ?_
 show own_Go p e below _ (T15.setTop (mkF m 57 #[vR a0, vR a1, vI (0 : Int32), vI (2 : Int32), .val .null, vR b4] []))
 have F16 : Exa Z h15 a0 "java/lang/String" := (F13.wr W15)
 have F17 : Fld Z h15 a0 "java/lang/String" "coder" "B" (.int (nar .byte (0 : Int32))) := (Fw12.other W15 (Or.inr (slot_ne (Or.inr (hwd 21 rfl)) (Or.inr (hwd 20 rfl)) (by decide) (t := .byte) (t' := (.array .byte)) (by decide) (by decide))))
 have F18 : own_Arf Z h15 b4 b5 .byte (2 : Int32) (fun i => .int ((own_upd (own_upd (fun _ => (0 : Int32)) 0 (nar .byte ((fn_a1 0).toInt8.toInt32))) 1 (nar .byte ((fn_a1 1).toInt8.toInt32))) i)) := ((F8.other W12 (Ne.symm (Nat.ne_of_lt (Nat.lt_of_lt_of_le (P_E_a0).lt hp7)))).other W15 (Ne.symm (Nat.ne_of_lt (Nat.lt_of_lt_of_le (P_E_a0).lt hp7))))
 exact own_ret0 X15 hx Bd.returns (hb hby d3_57) hlk e15 ⟨_, _, rfl, N15, K15, F16, F17, Fw15, hp6, sz_b4, F18⟩ (by decide) (by decide)
theorem pn_si2 : plainName "java/lang/String" = true := by first | (simp [plainName, overriddenIn]; done) | decide +kernel
theorem ef_si2 (m : MethodId) (a0 : Addr) (a1 : Addr) : entryFrame m #[(.ref a0), (.ref a1)] 2 = mkF m 0 #[vR a0, vR a1] [] := by first | (simp [entryFrame, mkF, argsToLocals, Value.category]; done) | rfl
def Qsi2 (Z : State) (k_a1 : ClassId) (fn_a1 : Nat → Int32) (f_CS : Int32) (a0 : Addr) (a1 : Addr) (f_a0_coder : Int32) (f_a0_value : Value) (h0 : Heap) (n0 : Nat) (v : Option Value) (h : Heap) (L : List Loc) : Prop := ∃ (b3 : Addr) (b4 : ClassId), v = none ∧ Fr n0 L ∧ Keep h0 h [a0] ∧ Exa Z h a0 "java/lang/String" ∧ Fld Z h a0 "java/lang/String" "coder" "B" (.int (0 : Int32)) ∧ Fld Z h a0 "java/lang/String" "value" "[B" (.ref b3) ∧ (n0 ≤ b3) ∧ (h0.size ≤ b3) ∧ own_Arf Z h b3 b4 .byte (2 : Int32) (fun i => .int ((own_upd (own_upd (fun _ => (0 : Int32)) 0 (nar .byte ((fn_a1 0).toInt8.toInt32))) 1 (nar .byte ((fn_a1 1).toInt8.toInt32))) i))
set_option maxRecDepth 65536 in
set_option maxHeartbeats 40000000 in
theorem rmsi2 (l : Launch) (Z : State) (A0 : Array Value) (hw : ∀ d ∈ tables_1, d.before A0 Z = true) (ws : List Jvm.Cond) (k_a1 : ClassId) (fn_a1 : Nat → Int32) (f_CS : Int32) (a0 : Addr) (a1 : Addr) (f_a0_coder : Int32) (f_a0_value : Value) (h0 : Heap) (n0 : Nat) (Z0 : n0 ≤ h0.size) (P_V_a1 : own_Arf Z h0 a1 k_a1 .char (2 : Int32) (fun i => .int (fn_a1 i))) (P_S_CS : Sta Z h0 "java/lang/String" "COMPACT_STRINGS" "Z" (.int f_CS)) (hn_CS : ¬ (f_CS = (0 : Int32))) (hle_0 : ¬ ((255 : Int32) < (fn_a1 0))) (hle_1 : ¬ ((255 : Int32) < (fn_a1 1))) (P_E_a0 : Exa Z h0 a0 "java/lang/String") (P_F_a0_coder : Fld Z h0 a0 "java/lang/String" "coder" "B" (.int f_a0_coder)) (P_F_a0_value : Fld Z h0 a0 "java/lang/String" "value" "[B" f_a0_value) (g_a0 : n0 ≤ a0) :
    MetFree l (⟨"java/lang/String", "<init>", "([C)V"⟩ : MethodName) (head1 (Jvm.Cond.code (⟨"java/lang/String", "<init>", "([C)V"⟩ : MethodName) jdk_42_method_3_code 2 none :: ws) ({ frames := 3, cells := 1, slots := 2, locals := 52 } : Room)) (fun a U => a = #[(.ref a0), (.ref a1)] ∧ Z.Warmed39 U.vm ∧ U.heap = h0) (fun _ _ _ _ _ => True) (fun _ U o U' => ∃ v L, o = .returned v ∧ Qsi2 Z k_a1 fn_a1 f_CS a0 a1 f_a0_coder f_a0_value h0 n0 v U'.heap L ∧ FrameEnd U o U' L 1 2) := by
 refine MetFree.of_bodySF (plainFor_of_name pn_si2) hisR ?_
 intro p e s m args below meth c s₁ Bd hml0 hP hK
 obtain ⟨rfl, hZ, hh⟩ := hP
 have hwd := fun i {d : Jvm.Cond} (h : tables_1[i]? = some d) => hw d (List.mem_of_getElem? h)
 have hx := Bd.exec
 have hby := Bd.bytes
 have hml : c.maxLocals = 2 := hml0
 have hlk : meth.locks = false := Bd.notSynchronized
 have hown : s.vm.findClass "java/lang/String" = some m.cls := findClass_of_methodNamed Bd.named
 have hnm := (name_of_methodNamed Bd.named Bd.method).1
 have X0 : Stand p l e ({ frames := 3, cells := 1, slots := 2, locals := 52 } : Room) s m #[(.ref a0), (.ref a1)] below meth c s₁ [] 0 0 := Stand.of_body Bd
 have e0 : s₁.heap = h0 := by rw [← hh, Bd.state]; rfl
 have N0 := Fr.nil n0
 show own_Go p e below (own_Fin s 1 2 (Qsi2 Z k_a1 fn_a1 f_CS a0 a1 f_a0_coder f_a0_value h0 n0)) _
 refine own_by (fun t k => castTop (ef_si2 m a0 a1) k) ?_
 show own_Go p e below _ (s₁.setTop (mkF m 0 #[vR a0, vR a1] []))
 refine own_by (fun _ k => XS.aloadN X0.here hx rfl (hb hby d2_0) rfl rfl k) ?_
 refine own_by (fun _ k => XS.aloadN X0.here hx rfl (hb hby d2_1) rfl rfl k) ?_
 refine own_by (fun _ k => XS.iconst X0.here hx rfl (hb hby d2_2) k) ?_
 refine own_by (fun _ k => XS.aloadN X0.here hx rfl (hb hby d2_3) rfl rfl k) ?_
 obtain ⟨cl1, Ar1, qq1, S1, M1, H1, G1⟩ := id P_V_a1
 refine own_by (fun t k => X0.arraylength hx (by rw [e0]; exact Ar1.1) (State.isArrayOf_alike hZ.alike Ar1.2.1) (g := (mkF m 4 #[vR a0, vR a1] [(.ref a1), (.int (0 : Int32)), (.ref a1), (.ref a0)])) rfl rfl (hb hby d2_4) _ k) ?_
 rw [len_of S1 M1]
 show own_Go p e below _ (s₁.setTop (mkF m 5 #[vR a0, vR a1] [(.int (2 : Int32)), (.int (0 : Int32)), (.ref a1), (.ref a0)]))
 refine own_by (fun _ k => XS.aconstNull X0.here hx rfl (hb hby d2_5) k) ?_
 show own_Go p e below _ (s₁.setTop (mkF m 6 #[vR a0, vR a1] [.null, (.int (2 : Int32)), (.int (0 : Int32)), (.ref a1), (.ref a0)]))
 obtain ⟨_, _, ⟨T2, L2, k2, n2⟩, -, X2, ⟨Lc2, hQ2, l2, y2, z2⟩, st2⟩ := X0.specialBack hx (y := (⟨"java/lang/String", "<init>", "([CIILjava/lang/Void;)V"⟩ : MethodName)) rfl hown (mvT hZ (hwd 11 rfl)) (mvT hZ (hwd 12 rfl)) (mvT hZ (hwd 14 rfl)) (by decide) (backOf (W := 0) (rmsi4_2 l Z A0 hw [] k_a1 fn_a1 f_CS a0 a1 f_a0_coder f_a0_value h0 n0 Z0 P_V_a1 P_S_CS hn_CS hle_0 hle_1 P_E_a0 P_F_a0_coder g_a0 P_F_a0_value) hZ (hwd 14 rfl) (hwd 6 rfl) (by decide) (by decide)) (g := (mkF m 6 #[vR a0, vR a1] [.null, (.int (2 : Int32)), (.int (0 : Int32)), (.ref a1), (.ref a0)])) rfl (by rw [hml]; rfl) (Steps.refl _) (a := a0) (argsL := [(.ref a1), (.int (0 : Int32)), (.int (2 : Int32)), .null]) (rest := []) (lenOf pd_11 rfl) rfl (by show 2 * 0 + _ ≤ _; exact Nat.le_of_eq rfl) (hb hby d2_6) (fun _ _ => ⟨rfl, e0, (by decide : 0 + 1 ≤ _), (by decide : 0 + 2 ≤ _)⟩)
 dsimp only [Pt.U, Pt.locs, Pt.cells, Pt.slots] at X2 l2 y2 z2 st2 hQ2
 subst l2 y2 z2
 obtain ⟨b3, b4, rfl, Nq2, Kq2, F5, F6, F7, hp8, hp9, F10⟩ := hQ2
 have N2 := Fr.app N0 Nq2
 have K2 : Keep h0 T2.heap [a0] := (Keep.refl h0 [a0]).trans Kq2 ((allS (Or.inl (List.mem_of_getElem? (i := 0) rfl)) all0))
 have Z2 : n0 ≤ T2.heap.size := Nat.le_trans Z0 Kq2.1
 have sz_b3 : h0.size ≤ b3 := Nat.le_trans (Keep.refl h0 [a0]).1 hp9
 refine own_by (fun _ k => st2.trans k) ?_
 show own_Go p e below _ (T2.setTop (mkF m 9 #[vR a0, vR a1] []))
 exact own_ret0 X2 hx Bd.returns (hb hby d2_9) hlk rfl ⟨_, _, rfl, N2, K2, F5, F6, F7, hp8, sz_b3, F10⟩ (by decide) (by decide)
theorem pn_cmp3 : plainName "java/lang/StringUTF16" = true := by first | (simp [plainName, overriddenIn]; done) | decide +kernel
theorem ef_cmp3 (m : MethodId) (a0 : Addr) (a2 : Addr) : entryFrame m #[(.ref a0), (.int (0 : Int32)), (.ref a2), (.int (0 : Int32)), (.int (3 : Int32))] 7 = mkF m 0 #[vR a0, vI (0 : Int32), vR a2, vI (0 : Int32), vI (3 : Int32), .unset, .unset] [] := by first | (simp [entryFrame, mkF, argsToLocals, Value.category]; done) | rfl
def Qcmp3 (Z : State) (k_a0 : ClassId) (fn_a0 : Nat → Int32) (k_a2 : ClassId) (fn_a2 : Nat → Int32) (a0 : Addr) (a2 : Addr) (h0 : Heap) (n0 : Nat) (v : Option Value) (h : Heap) (L : List Loc) : Prop := v = some (.int (3 : Int32)) ∧ Fr n0 L ∧ Keep h0 h [a2] ∧ own_Arf Z h a2 k_a2 .byte (3 : Int32) (fun i => .int ((own_upd (own_upd (own_upd fn_a2 0 (nar .byte ((fn_a0 0).toInt8.toInt32))) 1 (nar .byte ((fn_a0 1).toInt8.toInt32))) 2 (nar .byte ((fn_a0 2).toInt8.toInt32))) i))
set_option maxRecDepth 65536 in
set_option maxHeartbeats 40000000 in
theorem rmcmp3 (l : Launch) (Z : State) (A0 : Array Value) (hw : ∀ d ∈ tables_1, d.before A0 Z = true) (ws : List Jvm.Cond) (k_a0 : ClassId) (fn_a0 : Nat → Int32) (k_a2 : ClassId) (fn_a2 : Nat → Int32) (a0 : Addr) (a2 : Addr) (h0 : Heap) (n0 : Nat) (Z0 : n0 ≤ h0.size) (P_V_a0 : own_Arf Z h0 a0 k_a0 .char (3 : Int32) (fun i => .int (fn_a0 i))) (P_V_a2 : own_Arf Z h0 a2 k_a2 .byte (3 : Int32) (fun i => .int (fn_a2 i))) (hle_0 : ¬ ((255 : Int32) < (fn_a0 0))) (hle_1 : ¬ ((255 : Int32) < (fn_a0 1))) (hle_2 : ¬ ((255 : Int32) < (fn_a0 2))) (g_a2 : n0 ≤ a2) (ne_a0_a2 : a0 ≠ a2) :
    MetFree l (⟨"java/lang/StringUTF16", "compress", "([CI[BII)I"⟩ : MethodName) (head1 (Jvm.Cond.code (⟨"java/lang/StringUTF16", "compress", "([CI[BII)I"⟩ : MethodName) jdk_52_method_21_code 7 (some .int) :: ws) ({ frames := 0, cells := 0, slots := 0, locals := 0 } : Room)) (fun a U => a = #[(.ref a0), (.int (0 : Int32)), (.ref a2), (.int (0 : Int32)), (.int (3 : Int32))] ∧ Z.Warmed39 U.vm ∧ U.heap = h0) (fun _ _ _ _ _ => True) (fun _ U o U' => ∃ v L, o = .returned v ∧ Qcmp3 Z k_a0 fn_a0 k_a2 fn_a2 a0 a2 h0 n0 v U'.heap L ∧ FrameEnd U o U' L 0 0) := by
 refine MetFree.of_bodySF (plainFor_of_name pn_cmp3) hisR ?_
 intro p e s m args below meth c s₁ Bd hml0 hP hK
 obtain ⟨rfl, hZ, hh⟩ := hP
 have hwd := fun i {d : Jvm.Cond} (h : tables_1[i]? = some d) => hw d (List.mem_of_getElem? h)
 have hx := Bd.exec
 have hby := Bd.bytes
 have hml : c.maxLocals = 7 := hml0
 have hlk : meth.locks = false := Bd.notSynchronized
 have hown : s.vm.findClass "java/lang/StringUTF16" = some m.cls := findClass_of_methodNamed Bd.named
 have hnm := (name_of_methodNamed Bd.named Bd.method).1
 have X0 : Stand p l e ({ frames := 0, cells := 0, slots := 0, locals := 0 } : Room) s m #[(.ref a0), (.int (0 : Int32)), (.ref a2), (.int (0 : Int32)), (.int (3 : Int32))] below meth c s₁ [] 0 0 := Stand.of_body Bd
 have e0 : s₁.heap = h0 := by rw [← hh, Bd.state]; rfl
 have N0 := Fr.nil n0
 show own_Go p e below (own_Fin s 0 0 (Qcmp3 Z k_a0 fn_a0 k_a2 fn_a2 a0 a2 h0 n0)) _
 refine own_by (fun t k => castTop (ef_cmp3 m a0 a2) k) ?_
 show own_Go p e below _ (s₁.setTop (mkF m 0 #[vR a0, vI (0 : Int32), vR a2, vI (0 : Int32), vI (3 : Int32), .unset, .unset] []))
 refine own_by (fun _ k => XS.iconst X0.here hx rfl (hb hby d42_0) k) ?_
 refine own_by (fun _ k => XS.istore X0.here hx rfl (hb hby d42_1) rfl (l' := #[vR a0, vI (0 : Int32), vR a2, vI (0 : Int32), vI (3 : Int32), vI (0 : Int32), .unset]) rfl k) ?_
 show own_Go p e below _ (s₁.setTop (mkF m 3 #[vR a0, vI (0 : Int32), vR a2, vI (0 : Int32), vI (3 : Int32), vI (0 : Int32), .unset] []))
 refine own_by (fun _ k => XS.iload X0.here hx rfl (hb hby d42_3) rfl k) ?_
 refine own_by (fun _ k => XS.iload X0.here hx rfl (hb hby d42_5) rfl k) ?_
 refine own_by (fun _ k => XS.icmpNo X0.here hx rfl (hb hby d42_7) rfl (tlt (by decide : (0 : Int32) < (3 : Int32))).2.1 k) ?_
 show own_Go p e below _ (s₁.setTop (mkF m 10 #[vR a0, vI (0 : Int32), vR a2, vI (0 : Int32), vI (3 : Int32), vI (0 : Int32), .unset] []))
 refine own_by (fun _ k => XS.aloadN X0.here hx rfl (hb hby d42_10) rfl rfl k) ?_
 refine own_by (fun _ k => XS.iloadN X0.here hx rfl (hb hby d42_11) rfl k) ?_
 obtain ⟨cl1, Ar1, qq1, S1, M1, H1, G1⟩ := id P_V_a0
 have hin1 : ¬ ((0 : Int32) < 0 ∨ cl1.slots.size ≤ ((0 : Int32)).toNatClampNeg) := inb_of S1 ⟨by decide, by decide⟩
 refine own_by (fun t k => X0.caload hx (j := (0 : Int32)) (v := (.int (fn_a0 0))) (by rw [e0]; exact Ar1.1) (State.isArrayOf_alike hZ.alike Ar1.2.1) Ar1.2.2 hin1 (H1 _ (Nat.lt_of_not_le fun y => hin1 (Or.inr y))) (g := (mkF m 12 #[vR a0, vI (0 : Int32), vR a2, vI (0 : Int32), vI (3 : Int32), vI (0 : Int32), .unset] [(.int (0 : Int32)), (.ref a0)])) rfl rfl (hb hby d42_12) _ k) ?_
 show own_Go p e below _ (s₁.setTop (mkF m 13 #[vR a0, vI (0 : Int32), vR a2, vI (0 : Int32), vI (3 : Int32), vI (0 : Int32), .unset] [(.int (fn_a0 0))]))
 refine own_by (fun _ k => XS.istore X0.here hx rfl (hb hby d42_13) rfl (l' := #[vR a0, vI (0 : Int32), vR a2, vI (0 : Int32), vI (3 : Int32), vI (0 : Int32), vI (fn_a0 0)]) rfl k) ?_
 show own_Go p e below _ (s₁.setTop (mkF m 15 #[vR a0, vI (0 : Int32), vR a2, vI (0 : Int32), vI (3 : Int32), vI (0 : Int32), vI (fn_a0 0)] []))
 refine own_by (fun _ k => XS.iload X0.here hx rfl (hb hby d42_15) rfl k) ?_
 refine own_by (fun _ k => XS.sipush X0.here hx rfl (hb hby d42_17) k) ?_
 refine own_by (fun _ k => XS.icmpYes X0.here hx rfl (pc0 := 20) (pc' := 26) rfl (hb hby d42_20) rfl (flt hle_0).2.2.2 (by decide) (by decide) k) ?_
 show own_Go p e below _ (s₁.setTop (mkF m 26 #[vR a0, vI (0 : Int32), vR a2, vI (0 : Int32), vI (3 : Int32), vI (0 : Int32), vI (fn_a0 0)] []))
 refine own_by (fun _ k => XS.aloadN X0.here hx rfl (hb hby d42_26) rfl rfl k) ?_
 refine own_by (fun _ k => XS.iloadN X0.here hx rfl (hb hby d42_27) rfl k) ?_
 refine own_by (fun _ k => XS.iload X0.here hx rfl (hb hby d42_28) rfl k) ?_
 refine own_by (fun _ k => XS.i2b X0.here hx rfl (hb hby d42_30) rfl k) ?_
 show own_Go p e below _ (s₁.setTop (mkF m 31 #[vR a0, vI (0 : Int32), vR a2, vI (0 : Int32), vI (3 : Int32), vI (0 : Int32), vI (fn_a0 0)] [(.int ((fn_a0 0).toInt8.toInt32)), (.int (0 : Int32)), (.ref a2)]))
 obtain ⟨cl2, Ar2, qq2, S2, M2, H2, G2⟩ := id P_V_a2
 have hin2 : ¬ ((0 : Int32) < 0 ∨ cl2.slots.size ≤ ((0 : Int32)).toNatClampNeg) := inb_of S2 ⟨by decide, by decide⟩
 obtain ⟨T3, h3, X3, e3, W3, st3⟩ := stB X0 hx hZ e0 Ar2 (j := (0 : Int32)) hin2 (g := (mkF m 31 #[vR a0, vI (0 : Int32), vR a2, vI (0 : Int32), vI (3 : Int32), vI (0 : Int32), vI (fn_a0 0)] [(.int ((fn_a0 0).toInt8.toInt32)), (.int (0 : Int32)), (.ref a2)])) rfl rfl (hb hby d42_31)
 have V3 : own_Arf Z h3 a2 k_a2 .byte (3 : Int32) (fun i => .int ((own_upd fn_a2 0 (nar .byte ((fn_a0 0).toInt8.toInt32))) i)) := own_arfSetI Ar2 qq2 S2 M2 H2 G2 (fits_nar_byte _) W3
 have K3 : Keep h0 h3 [a2] := (Keep.refl h0 [a2]).wr W3 (Or.inl (List.mem_of_getElem? (i := 0) rfl))
 have Z3 : n0 ≤ h3.size := Nat.le_trans Z0 (Keep.of_wr W3).1
 have N3 := Fr.snoc X3 N0 g_a2
 refine own_by st3 ?_
 show own_Go p e below _ (T3.setTop (mkF m 32 #[vR a0, vI (0 : Int32), vR a2, vI (0 : Int32), vI (3 : Int32), vI (0 : Int32), vI (fn_a0 0)] []))
 refine own_by (fun _ k => XS.iinc X3.here hx rfl (hb hby d42_32) rfl (l' := #[vR a0, vI (1 : Int32), vR a2, vI (0 : Int32), vI (3 : Int32), vI (0 : Int32), vI (fn_a0 0)]) rfl k) ?_
 show own_Go p e below _ (T3.setTop (mkF m 35 #[vR a0, vI (1 : Int32), vR a2, vI (0 : Int32), vI (3 : Int32), vI (0 : Int32), vI (fn_a0 0)] []))
 refine own_by (fun _ k => XS.iinc X3.here hx rfl (hb hby d42_35) rfl (l' := #[vR a0, vI (1 : Int32), vR a2, vI (1 : Int32), vI (3 : Int32), vI (0 : Int32), vI (fn_a0 0)]) rfl k) ?_
 show own_Go p e below _ (T3.setTop (mkF m 38 #[vR a0, vI (1 : Int32), vR a2, vI (1 : Int32), vI (3 : Int32), vI (0 : Int32), vI (fn_a0 0)] []))
 refine own_by (fun _ k => XS.iinc X3.here hx rfl (hb hby d42_38) rfl (l' := #[vR a0, vI (1 : Int32), vR a2, vI (1 : Int32), vI (3 : Int32), vI (1 : Int32), vI (fn_a0 0)]) rfl k) ?_
 show own_Go p e below _ (T3.setTop (mkF m 41 #[vR a0, vI (1 : Int32), vR a2, vI (1 : Int32), vI (3 : Int32), vI (1 : Int32), vI (fn_a0 0)] []))
 refine own_by (fun _ k => XS.goto X3.here hx rfl (pc0 := 41) (pc' := 3) rfl (hb hby d42_41) (by decide) (by decide) k) ?_
 show own_Go p e below _ (T3.setTop (mkF m 3 #[vR a0, vI (1 : Int32), vR a2, vI (1 : Int32), vI (3 : Int32), vI (1 : Int32), vI (fn_a0 0)] []))
 refine own_by (fun _ k => XS.iload X3.here hx rfl (hb hby d42_3) rfl k) ?_
 refine own_by (fun _ k => XS.iload X3.here hx rfl (hb hby d42_5) rfl k) ?_
 refine own_by (fun _ k => XS.icmpNo X3.here hx rfl (hb hby d42_7) rfl (tlt (by decide : (1 : Int32) < (3 : Int32))).2.1 k) ?_
 show own_Go p e below _ (T3.setTop (mkF m 10 #[vR a0, vI (1 : Int32), vR a2, vI (1 : Int32), vI (3 : Int32), vI (1 : Int32), vI (fn_a0 0)] []))
 refine own_by (fun _ k => XS.aloadN X3.here hx rfl (hb hby d42_10) rfl rfl k) ?_
 refine own_by (fun _ k => XS.iloadN X3.here hx rfl (hb hby d42_11) rfl k) ?_
 have F4 : own_Arf Z h3 a0 k_a0 .char (3 : Int32) (fun i => .int (fn_a0 i)) := (P_V_a0.other W3 ne_a0_a2)
 obtain ⟨cl5, Ar5, qq5, S5, M5, H5, G5⟩ := id F4
 have hin5 : ¬ ((1 : Int32) < 0 ∨ cl5.slots.size ≤ ((1 : Int32)).toNatClampNeg) := inb_of S5 ⟨by decide, by decide⟩
 refine own_by (fun t k => X3.caload hx (j := (1 : Int32)) (v := (.int (fn_a0 1))) (by rw [e3]; exact Ar5.1) (State.isArrayOf_alike hZ.alike Ar5.2.1) Ar5.2.2 hin5 (H5 _ (Nat.lt_of_not_le fun y => hin5 (Or.inr y))) (g := (mkF m 12 #[vR a0, vI (1 : Int32), vR a2, vI (1 : Int32), vI (3 : Int32), vI (1 : Int32), vI (fn_a0 0)] [(.int (1 : Int32)), (.ref a0)])) rfl rfl (hb hby d42_12) _ k) ?_
 show own_Go p e below _ (T3.setTop (mkF m 13 #[vR a0, vI (1 : Int32), vR a2, vI (1 : Int32), vI (3 : Int32), vI (1 : Int32), vI (fn_a0 0)] [(.int (fn_a0 1))]))
 refine own_by (fun _ k => XS.istore X3.here hx rfl (hb hby d42_13) rfl (l' := #[vR a0, vI (1 : Int32), vR a2, vI (1 : Int32), vI (3 : Int32), vI (1 : Int32), vI (fn_a0 1)]) rfl k) ?_
 show own_Go p e below _ (T3.setTop (mkF m 15 #[vR a0, vI (1 : Int32), vR a2, vI (1 : Int32), vI (3 : Int32), vI (1 : Int32), vI (fn_a0 1)] []))
 refine own_by (fun _ k => XS.iload X3.here hx rfl (hb hby d42_15) rfl k) ?_
 refine own_by (fun _ k => XS.sipush X3.here hx rfl (hb hby d42_17) k) ?_
 refine own_by (fun _ k => XS.icmpYes X3.here hx rfl (pc0 := 20) (pc' := 26) rfl (hb hby d42_20) rfl (flt hle_1).2.2.2 (by decide) (by decide) k) ?_
 show own_Go p e below _ (T3.setTop (mkF m 26 #[vR a0, vI (1 : Int32), vR a2, vI (1 : Int32), vI (3 : Int32), vI (1 : Int32), vI (fn_a0 1)] []))
 refine own_by (fun _ k => XS.aloadN X3.here hx rfl (hb hby d42_26) rfl rfl k) ?_
 refine own_by (fun _ k => XS.iloadN X3.here hx rfl (hb hby d42_27) rfl k) ?_
 refine own_by (fun _ k => XS.iload X3.here hx rfl (hb hby d42_28) rfl k) ?_
 refine own_by (fun _ k => XS.i2b X3.here hx rfl (hb hby d42_30) rfl k) ?_
 show own_Go p e below _ (T3.setTop (mkF m 31 #[vR a0, vI (1 : Int32), vR a2, vI (1 : Int32), vI (3 : Int32), vI (1 : Int32), vI (fn_a0 1)] [(.int ((fn_a0 1).toInt8.toInt32)), (.int (1 : Int32)), (.ref a2)]))
 obtain ⟨cl6, Ar6, qq6, S6, M6, H6, G6⟩ := id V3
 have hin6 : ¬ ((1 : Int32) < 0 ∨ cl6.slots.size ≤ ((1 : Int32)).toNatClampNeg) := inb_of S6 ⟨by decide, by decide⟩
 obtain ⟨T7, h7, X7, e7, W7, st7⟩ := stB X3 hx hZ e3 Ar6 (j := (1 : Int32)) hin6 (g := (mkF m 31 #[vR a0, vI (1 : Int32), vR a2, vI (1 : Int32), vI (3 : Int32), vI (1 : Int32), vI (fn_a0 1)] [(.int ((fn_a0 1).toInt8.toInt32)), (.int (1 : Int32)), (.ref a2)])) rfl rfl (hb hby d42_31)
 have V7 : own_Arf Z h7 a2 k_a2 .byte (3 : Int32) (fun i => .int ((own_upd (own_upd fn_a2 0 (nar .byte ((fn_a0 0).toInt8.toInt32))) 1 (nar .byte ((fn_a0 1).toInt8.toInt32))) i)) := own_arfSetI Ar6 qq6 S6 M6 H6 G6 (fits_nar_byte _) W7
 have K7 : Keep h0 h7 [a2] := K3.wr W7 (Or.inl (List.mem_of_getElem? (i := 0) rfl))
 have Z7 : n0 ≤ h7.size := Nat.le_trans Z3 (Keep.of_wr W7).1
 have N7 := Fr.snoc X7 N3 g_a2
 refine own_by st7 ?_
 show own_Go p e below _ (T7.setTop (mkF m 32 #[vR a0, vI (1 : Int32), vR a2, vI (1 : Int32), vI (3 : Int32), vI (1 : Int32), vI (fn_a0 1)] []))
 refine own_by (fun _ k => XS.iinc X7.here hx rfl (hb hby d42_32) rfl (l' := #[vR a0, vI (2 : Int32), vR a2, vI (1 : Int32), vI (3 : Int32), vI (1 : Int32), vI (fn_a0 1)]) rfl k) ?_
 show own_Go p e below _ (T7.setTop (mkF m 35 #[vR a0, vI (2 : Int32), vR a2, vI (1 : Int32), vI (3 : Int32), vI (1 : Int32), vI (fn_a0 1)] []))
 refine own_by (fun _ k => XS.iinc X7.here hx rfl (hb hby d42_35) rfl (l' := #[vR a0, vI (2 : Int32), vR a2, vI (2 : Int32), vI (3 : Int32), vI (1 : Int32), vI (fn_a0 1)]) rfl k) ?_
 show own_Go p e below _ (T7.setTop (mkF m 38 #[vR a0, vI (2 : Int32), vR a2, vI (2 : Int32), vI (3 : Int32), vI (1 : Int32), vI (fn_a0 1)] []))
 refine own_by (fun _ k => XS.iinc X7.here hx rfl (hb hby d42_38) rfl (l' := #[vR a0, vI (2 : Int32), vR a2, vI (2 : Int32), vI (3 : Int32), vI (2 : Int32), vI (fn_a0 1)]) rfl k) ?_
 show own_Go p e below _ (T7.setTop (mkF m 41 #[vR a0, vI (2 : Int32), vR a2, vI (2 : Int32), vI (3 : Int32), vI (2 : Int32), vI (fn_a0 1)] []))
 refine own_by (fun _ k => XS.goto X7.here hx rfl (pc0 := 41) (pc' := 3) rfl (hb hby d42_41) (by decide) (by decide) k) ?_
 show own_Go p e below _ (T7.setTop (mkF m 3 #[vR a0, vI (2 : Int32), vR a2, vI (2 : Int32), vI (3 : Int32), vI (2 : Int32), vI (fn_a0 1)] []))
 refine own_by (fun _ k => XS.iload X7.here hx rfl (hb hby d42_3) rfl k) ?_
 refine own_by (fun _ k => XS.iload X7.here hx rfl (hb hby d42_5) rfl k) ?_
 refine own_by (fun _ k => XS.icmpNo X7.here hx rfl (hb hby d42_7) rfl (tlt (by decide : (2 : Int32) < (3 : Int32))).2.1 k) ?_
 show own_Go p e below _ (T7.setTop (mkF m 10 #[vR a0, vI (2 : Int32), vR a2, vI (2 : Int32), vI (3 : Int32), vI (2 : Int32), vI (fn_a0 1)] []))
 refine own_by (fun _ k => XS.aloadN X7.here hx rfl (hb hby d42_10) rfl rfl k) ?_
 refine own_by (fun _ k => XS.iloadN X7.here hx rfl (hb hby d42_11) rfl k) ?_
 have F8 : own_Arf Z h7 a0 k_a0 .char (3 : Int32) (fun i => .int (fn_a0 i)) := (F4.other W7 ne_a0_a2)
 obtain ⟨cl9, Ar9, qq9, S9, M9, H9, G9⟩ := id F8
 have hin9 : ¬ ((2 : Int32) < 0 ∨ cl9.slots.size ≤ ((2 : Int32)).toNatClampNeg) := inb_of S9 ⟨by decide, by decide⟩
 refine own_by (fun t k => X7.caload hx (j := (2 : Int32)) (v := (.int (fn_a0 2))) (by rw [e7]; exact Ar9.1) (State.isArrayOf_alike hZ.alike Ar9.2.1) Ar9.2.2 hin9 (H9 _ (Nat.lt_of_not_le fun y => hin9 (Or.inr y))) (g := (mkF m 12 #[vR a0, vI (2 : Int32), vR a2, vI (2 : Int32), vI (3 : Int32), vI (2 : Int32), vI (fn_a0 1)] [(.int (2 : Int32)), (.ref a0)])) rfl rfl (hb hby d42_12) _ k) ?_
 show own_Go p e below _ (T7.setTop (mkF m 13 #[vR a0, vI (2 : Int32), vR a2, vI (2 : Int32), vI (3 : Int32), vI (2 : Int32), vI (fn_a0 1)] [(.int (fn_a0 2))]))
 refine own_by (fun _ k => XS.istore X7.here hx rfl (hb hby d42_13) rfl (l' := #[vR a0, vI (2 : Int32), vR a2, vI (2 : Int32), vI (3 : Int32), vI (2 : Int32), vI (fn_a0 2)]) rfl k) ?_
 show own_Go p e below _ (T7.setTop (mkF m 15 #[vR a0, vI (2 : Int32), vR a2, vI (2 : Int32), vI (3 : Int32), vI (2 : Int32), vI (fn_a0 2)] []))
 refine own_by (fun _ k => XS.iload X7.here hx rfl (hb hby d42_15) rfl k) ?_
 refine own_by (fun _ k => XS.sipush X7.here hx rfl (hb hby d42_17) k) ?_
 refine own_by (fun _ k => XS.icmpYes X7.here hx rfl (pc0 := 20) (pc' := 26) rfl (hb hby d42_20) rfl (flt hle_2).2.2.2 (by decide) (by decide) k) ?_
 show own_Go p e below _ (T7.setTop (mkF m 26 #[vR a0, vI (2 : Int32), vR a2, vI (2 : Int32), vI (3 : Int32), vI (2 : Int32), vI (fn_a0 2)] []))
 refine own_by (fun _ k => XS.aloadN X7.here hx rfl (hb hby d42_26) rfl rfl k) ?_
 refine own_by (fun _ k => XS.iloadN X7.here hx rfl (hb hby d42_27) rfl k) ?_
 refine own_by (fun _ k => XS.iload X7.here hx rfl (hb hby d42_28) rfl k) ?_
 refine own_by (fun _ k => XS.i2b X7.here hx rfl (hb hby d42_30) rfl k) ?_
 show own_Go p e below _ (T7.setTop (mkF m 31 #[vR a0, vI (2 : Int32), vR a2, vI (2 : Int32), vI (3 : Int32), vI (2 : Int32), vI (fn_a0 2)] [(.int ((fn_a0 2).toInt8.toInt32)), (.int (2 : Int32)), (.ref a2)]))
 obtain ⟨cl10, Ar10, qq10, S10, M10, H10, G10⟩ := id V7
 have hin10 : ¬ ((2 : Int32) < 0 ∨ cl10.slots.size ≤ ((2 : Int32)).toNatClampNeg) := inb_of S10 ⟨by decide, by decide⟩
 obtain ⟨T11, h11, X11, e11, W11, st11⟩ := stB X7 hx hZ e7 Ar10 (j := (2 : Int32)) hin10 (g := (mkF m 31 #[vR a0, vI (2 : Int32), vR a2, vI (2 : Int32), vI (3 : Int32), vI (2 : Int32), vI (fn_a0 2)] [(.int ((fn_a0 2).toInt8.toInt32)), (.int (2 : Int32)), (.ref a2)])) rfl rfl (hb hby d42_31)
 have V11 : own_Arf Z h11 a2 k_a2 .byte (3 : Int32) (fun i => .int ((own_upd (own_upd (own_upd fn_a2 0 (nar .byte ((fn_a0 0).toInt8.toInt32))) 1 (nar .byte ((fn_a0 1).toInt8.toInt32))) 2 (nar .byte ((fn_a0 2).toInt8.toInt32))) i)) := own_arfSetI Ar10 qq10 S10 M10 H10 G10 (fits_nar_byte _) W11
 have K11 : Keep h0 h11 [a2] := K7.wr W11 (Or.inl (List.mem_of_getElem? (i := 0) rfl))
 have Z11 : n0 ≤ h11.size := Nat.le_trans Z7 (Keep.of_wr W11).1
 have N11 := Fr.snoc X11 N7 g_a2
 refine own_by st11 ?_
 show own_Go p e below _ (T11.setTop (mkF m 32 #[vR a0, vI (2 : Int32), vR a2, vI (2 : Int32), vI (3 : Int32), vI (2 : Int32), vI (fn_a0 2)] []))
 refine own_by (fun _ k => XS.iinc X11.here hx rfl (hb hby d42_32) rfl (l' := #[vR a0, vI (3 : Int32), vR a2, vI (2 : Int32), vI (3 : Int32), vI (2 : Int32), vI (fn_a0 2)]) rfl k) ?_
 show own_Go p e below _ (T11.setTop (mkF m 35 #[vR a0, vI (3 : Int32), vR a2, vI (2 : Int32), vI (3 : Int32), vI (2 : Int32), vI (fn_a0 2)] []))
 refine own_by (fun _ k => XS.iinc X11.here hx rfl (hb hby d42_35) rfl (l' := #[vR a0, vI (3 : Int32), vR a2, vI (3 : Int32), vI (3 : Int32), vI (2 : Int32), vI (fn_a0 2)]) rfl k) ?_
 show own_Go p e below _ (T11.setTop (mkF m 38 #[vR a0, vI (3 : Int32), vR a2, vI (3 : Int32), vI (3 : Int32), vI (2 : Int32), vI (fn_a0 2)] []))
 refine own_by (fun _ k => XS.iinc X11.here hx rfl (hb hby d42_38) rfl (l' := #[vR a0, vI (3 : Int32), vR a2, vI (3 : Int32), vI (3 : Int32), vI (3 : Int32), vI (fn_a0 2)]) rfl k) ?_
 show own_Go p e below _ (T11.setTop (mkF m 41 #[vR a0, vI (3 : Int32), vR a2, vI (3 : Int32), vI (3 : Int32), vI (3 : Int32), vI (fn_a0 2)] []))
 refine own_by (fun _ k => XS.goto X11.here hx rfl (pc0 := 41) (pc' := 3) rfl (hb hby d42_41) (by decide) (by decide) k) ?_
 show own_Go p e below _ (T11.setTop (mkF m 3 #[vR a0, vI (3 : Int32), vR a2, vI (3 : Int32), vI (3 : Int32), vI (3 : Int32), vI (fn_a0 2)] []))
 refine own_by (fun _ k => XS.iload X11.here hx rfl (hb hby d42_3) rfl k) ?_
 refine own_by (fun _ k => XS.iload X11.here hx rfl (hb hby d42_5) rfl k) ?_
 refine own_by (fun _ k => XS.icmpYes X11.here hx rfl (pc0 := 7) (pc' := 44) rfl (hb hby d42_7) rfl (flt (by decide : ¬ ((3 : Int32) < (3 : Int32)))).2.1 (by decide) (by decide) k) ?_
 show own_Go p e below _ (T11.setTop (mkF m 44 #[vR a0, vI (3 : Int32), vR a2, vI (3 : Int32), vI (3 : Int32), vI (3 : Int32), vI (fn_a0 2)] []))
 refine own_by (fun _ k => XS.iload X11.here hx rfl (hb hby d42_44) rfl k) ?_
 exact own_retI X11 hx Bd.returns (hb hby d42_46) hlk e11 ⟨rfl, N11, K11, V11⟩ (by decide) (by decide)
theorem pn_cmpB3 : plainName "java/lang/StringUTF16" = true := by first | (simp [plainName, overriddenIn]; done) | decide +kernel
theorem ef_cmpB3 (m : MethodId) (a0 : Addr) : entryFrame m #[(.ref a0), (.int (0 : Int32)), (.int (3 : Int32))] 6 = mkF m 0 #[vR a0, vI (0 : Int32), vI (3 : Int32), .unset, .unset, .unset] [] := by first | (simp [entryFrame, mkF, argsToLocals, Value.category]; done) | rfl
def QcmpB3 (Z : State) (k_a0 : ClassId) (fn_a0 : Nat → Int32) (a0 : Addr) (h0 : Heap) (n0 : Nat) (v : Option Value) (h : Heap) (L : List Loc) : Prop := ∃ (b1 : Addr) (k1 : ClassId), v = some (.ref b1) ∧ Fr n0 L ∧ Keep h0 h [] ∧ (n0 ≤ b1) ∧ (h0.size ≤ b1) ∧ own_Arf Z h b1 k1 .byte (3 : Int32) (fun i => .int ((own_upd (own_upd (own_upd (fun _ => (0 : Int32)) 0 (nar .byte ((fn_a0 0).toInt8.toInt32))) 1 (nar .byte ((fn_a0 1).toInt8.toInt32))) 2 (nar .byte ((fn_a0 2).toInt8.toInt32))) i))
set_option maxRecDepth 65536 in
set_option maxHeartbeats 40000000 in
theorem rmcmpB3 (l : Launch) (Z : State) (A0 : Array Value) (hw : ∀ d ∈ tables_1, d.before A0 Z = true) (ws : List Jvm.Cond) (k_a0 : ClassId) (fn_a0 : Nat → Int32) (a0 : Addr) (h0 : Heap) (n0 : Nat) (Z0 : n0 ≤ h0.size) (P_V_a0 : own_Arf Z h0 a0 k_a0 .char (3 : Int32) (fun i => .int (fn_a0 i))) (hle_0 : ¬ ((255 : Int32) < (fn_a0 0))) (hle_1 : ¬ ((255 : Int32) < (fn_a0 1))) (hle_2 : ¬ ((255 : Int32) < (fn_a0 2))) :
    MetFree l (⟨"java/lang/StringUTF16", "compress", "([CII)[B"⟩ : MethodName) (head1 (Jvm.Cond.code (⟨"java/lang/StringUTF16", "compress", "([CII)[B"⟩ : MethodName) jdk_52_method_16_code 6 (some (.array .byte)) :: ws) ({ frames := 1, cells := 1, slots := 3, locals := 18 } : Room)) (fun a U => a = #[(.ref a0), (.int (0 : Int32)), (.int (3 : Int32))] ∧ Z.Warmed39 U.vm ∧ U.heap = h0) (fun _ _ _ _ _ => True) (fun _ U o U' => ∃ v L, o = .returned v ∧ QcmpB3 Z k_a0 fn_a0 a0 h0 n0 v U'.heap L ∧ FrameEnd U o U' L 1 3) := by
 refine MetFree.of_bodySF (plainFor_of_name pn_cmpB3) hisR ?_
 intro p e s m args below meth c s₁ Bd hml0 hP hK
 obtain ⟨rfl, hZ, hh⟩ := hP
 have hwd := fun i {d : Jvm.Cond} (h : tables_1[i]? = some d) => hw d (List.mem_of_getElem? h)
 have hx := Bd.exec
 have hby := Bd.bytes
 have hml : c.maxLocals = 6 := hml0
 have hlk : meth.locks = false := Bd.notSynchronized
 have hown : s.vm.findClass "java/lang/StringUTF16" = some m.cls := findClass_of_methodNamed Bd.named
 have hnm := (name_of_methodNamed Bd.named Bd.method).1
 have X0 : Stand p l e ({ frames := 1, cells := 1, slots := 3, locals := 18 } : Room) s m #[(.ref a0), (.int (0 : Int32)), (.int (3 : Int32))] below meth c s₁ [] 0 0 := Stand.of_body Bd
 have e0 : s₁.heap = h0 := by rw [← hh, Bd.state]; rfl
 have N0 := Fr.nil n0
 show own_Go p e below (own_Fin s 1 3 (QcmpB3 Z k_a0 fn_a0 a0 h0 n0)) _
 refine own_by (fun t k => castTop (ef_cmpB3 m a0) k) ?_
 show own_Go p e below _ (s₁.setTop (mkF m 0 #[vR a0, vI (0 : Int32), vI (3 : Int32), .unset, .unset, .unset] []))
 refine own_by (fun _ k => XS.iloadN X0.here hx rfl (hb hby d41_0) rfl k) ?_
 obtain ⟨T1, h1, k1, X1, e1, E1, A1, st1⟩ := newP X0 hx hZ (hwd 19 rfl) e0 (g := (mkF m 1 #[vR a0, vI (0 : Int32), vI (3 : Int32), .unset, .unset, .unset] [(.int (3 : Int32))])) rfl (hb hby d41_1) rfl (by decide) (cap := 3) (by decide) (by decide) (by decide) (by decide)
 obtain ⟨b1, g1⟩ : ∃ z, z = h0.size := ⟨_, rfl⟩
 have ge_b1 : n0 ≤ b1 := Nat.le_trans Z0 (Nat.le_of_eq g1.symm)
 have sz_b1 : h0.size ≤ b1 := Nat.le_trans (Keep.refl h0 []).1 (Nat.le_of_eq g1.symm)
 have K1 : Keep h0 h1 [] := (Keep.refl h0 []).ext E1
 have Z1 : n0 ≤ h1.size := Nat.le_trans Z0 E1.1
 rw [← g1] at A1 st1
 have V1 : own_Arf Z h1 b1 k1 .byte (3 : Int32) (fun i => .int ((fun _ => (0 : Int32)) i)) := own_arfNew A1 (by decide)
 refine own_by st1 ?_
 show own_Go p e below _ (T1.setTop (mkF m 3 #[vR a0, vI (0 : Int32), vI (3 : Int32), .unset, .unset, .unset] [(.ref b1)]))
 refine own_by (fun _ k => XS.astoreN X1.here hx rfl (hb hby d41_3) rfl rfl (l' := #[vR a0, vI (0 : Int32), vI (3 : Int32), vR b1, .unset, .unset]) rfl k) ?_
 show own_Go p e below _ (T1.setTop (mkF m 4 #[vR a0, vI (0 : Int32), vI (3 : Int32), vR b1, .unset, .unset] []))
 refine own_by (fun _ k => XS.aloadN X1.here hx rfl (hb hby d41_4) rfl rfl k) ?_
 refine own_by (fun _ k => XS.iloadN X1.here hx rfl (hb hby d41_5) rfl k) ?_
 refine own_by (fun _ k => XS.aloadN X1.here hx rfl (hb hby d41_6) rfl rfl k) ?_
 refine own_by (fun _ k => XS.iconst X1.here hx rfl (hb hby d41_7) k) ?_
 refine own_by (fun _ k => XS.iloadN X1.here hx rfl (hb hby d41_8) rfl k) ?_
 have F2 : own_Arf Z h1 a0 k_a0 .char (3 : Int32) (fun i => .int (fn_a0 i)) := (P_V_a0.ext E1)
 obtain ⟨_, _, ⟨T3, L3, k3, n3⟩, -, X3, ⟨Lc3, hQ3, l3, y3, z3⟩, st3⟩ := Jvm.LawKit.callS X1 hx (y := (⟨"java/lang/StringUTF16", "compress", "([CI[BII)I"⟩ : MethodName)) hown (mvT hZ (hwd 247 rfl)) (mvT hZ (hwd 248 rfl)) (mvT hZ (hwd 245 rfl)) (mvT hZ (hwd 249 rfl)) (by decide) (backOf (W := 0) (rmcmp3 l Z A0 hw [] k_a0 fn_a0 k1 (fun _ => (0 : Int32)) a0 b1 h1 n0 Z1 F2 V1 hle_0 hle_1 hle_2 ge_b1 (Nat.ne_of_lt (Nat.lt_of_lt_of_le (P_V_a0).lt (Nat.le_of_eq g1.symm)))) hZ (hwd 249 rfl) (hwd 245 rfl) (by decide) (by decide)) (g := (mkF m 9 #[vR a0, vI (0 : Int32), vI (3 : Int32), vR b1, .unset, .unset] [(.int (3 : Int32)), (.int (0 : Int32)), (.ref b1), (.int (0 : Int32)), (.ref a0)])) rfl (by rw [hml]; rfl) (argsL := [(.ref a0), (.int (0 : Int32)), (.ref b1), (.int (0 : Int32)), (.int (3 : Int32))]) (rest := []) (lenOf pd_247 rfl) rfl (by show 2 * 0 + _ ≤ _; exact Nat.le_of_eq rfl) (hb hby d41_9) (fun _ _ => ⟨rfl, e1, (by decide : 1 + 0 ≤ _), (by decide : 3 + 0 ≤ _)⟩)
 dsimp only [Pt.U, Pt.locs, Pt.cells, Pt.slots] at X3 l3 y3 z3 st3 hQ3
 subst l3 y3 z3
 obtain ⟨rfl, Nq3, Kq3, F4⟩ := hQ3
 have N3 := Fr.app N0 Nq3
 have K3 : Keep h0 T3.heap [] := K1.trans Kq3 ((allS (Or.inr sz_b1) all0))
 have Z3 : n0 ≤ T3.heap.size := Nat.le_trans Z1 Kq3.1
 refine own_by st3 ?_
 show own_Go p e below _ (T3.setTop (mkF m 12 #[vR a0, vI (0 : Int32), vI (3 : Int32), vR b1, .unset, .unset] [(.int (3 : Int32))]))
 refine own_by (fun _ k => XS.istore X3.here hx rfl (hb hby d41_12) rfl (l' := #[vR a0, vI (0 : Int32), vI (3 : Int32), vR b1, vI (3 : Int32), .unset]) rfl k) ?_
 show own_Go p e below _ (T3.setTop (mkF m 14 #[vR a0, vI (0 : Int32), vI (3 : Int32), vR b1, vI (3 : Int32), .unset] []))
 refine own_by (fun _ k => XS.iload X3.here hx rfl (hb hby d41_14) rfl k) ?_
 refine own_by (fun _ k => XS.iloadN X3.here hx rfl (hb hby d41_16) rfl k) ?_
 refine own_by (fun _ k => XS.icmpYes X3.here hx rfl (pc0 := 17) (pc' := 57) rfl (hb hby d41_17) rfl (teq (by decide : (3 : Int32) = (3 : Int32))).1 (by decide) (by decide) k) ?_
 show own_Go p e below _ (T3.setTop (mkF m 57 #[vR a0, vI (0 : Int32), vI (3 : Int32), vR b1, vI (3 : Int32), .unset] []))
 refine own_by (fun _ k => XS.aloadN X3.here hx rfl (hb hby d41_57) rfl rfl k) ?_
 exact own_retR X3 hx Bd.returns (by decide) rfl (hb hby d41_58) hlk rfl ⟨_, _, rfl, N3, K3, ge_b1, sz_b1, F4⟩ (by decide) (by decide)
theorem pn_cfa3 : plainName "java/lang/StringUTF16" = true := by first | (simp [plainName, overriddenIn]; done) | decide +kernel
theorem ef_cfa3 (m : MethodId) (a0 : Addr) : entryFrame m #[(.ref a0), (.int (3 : Int32))] 2 = mkF m 0 #[vR a0, vI (3 : Int32)] [] := by first | (simp [entryFrame, mkF, argsToLocals, Value.category]; done) | rfl
def Qcfa3 (Z : State) (k_a0 : ClassId) (fn_a0 : Nat → Int32) (a0 : Addr) (h0 : Heap) (n0 : Nat) (v : Option Value) (h : Heap) (L : List Loc) : Prop := v = some (.int (nar .byte (0 : Int32))) ∧ Fr n0 L ∧ h = h0
set_option maxRecDepth 65536 in
set_option maxHeartbeats 40000000 in
theorem rmcfa3 (l : Launch) (Z : State) (A0 : Array Value) (hw : ∀ d ∈ tables_1, d.before A0 Z = true) (ws : List Jvm.Cond) (k_a0 : ClassId) (fn_a0 : Nat → Int32) (a0 : Addr) (h0 : Heap) (n0 : Nat) (Z0 : n0 ≤ h0.size) (P_V_a0 : own_Arf Z h0 a0 k_a0 .byte (3 : Int32) (fun i => .int (fn_a0 i))) :
    MetFree l (⟨"java/lang/StringUTF16", "coderFromArrayLen", "([BI)B"⟩ : MethodName) (head1 (Jvm.Cond.code (⟨"java/lang/StringUTF16", "coderFromArrayLen", "([BI)B"⟩ : MethodName) jdk_52_method_15_code 2 (some .byte) :: ws) ({ frames := 0, cells := 0, slots := 0, locals := 0 } : Room)) (fun a U => a = #[(.ref a0), (.int (3 : Int32))] ∧ Z.Warmed39 U.vm ∧ U.heap = h0) (fun _ _ _ _ _ => True) (fun _ U o U' => ∃ v L, o = .returned v ∧ Qcfa3 Z k_a0 fn_a0 a0 h0 n0 v U'.heap L ∧ FrameEnd U o U' L 0 0) := by
 refine MetFree.of_bodySF (plainFor_of_name pn_cfa3) hisR ?_
 intro p e s m args below meth c s₁ Bd hml0 hP hK
 obtain ⟨rfl, hZ, hh⟩ := hP
 have hwd := fun i {d : Jvm.Cond} (h : tables_1[i]? = some d) => hw d (List.mem_of_getElem? h)
 have hx := Bd.exec
 have hby := Bd.bytes
 have hml : c.maxLocals = 2 := hml0
 have hlk : meth.locks = false := Bd.notSynchronized
 have hown : s.vm.findClass "java/lang/StringUTF16" = some m.cls := findClass_of_methodNamed Bd.named
 have hnm := (name_of_methodNamed Bd.named Bd.method).1
 have X0 : Stand p l e ({ frames := 0, cells := 0, slots := 0, locals := 0 } : Room) s m #[(.ref a0), (.int (3 : Int32))] below meth c s₁ [] 0 0 := Stand.of_body Bd
 have e0 : s₁.heap = h0 := by rw [← hh, Bd.state]; rfl
 have N0 := Fr.nil n0
 show own_Go p e below (own_Fin s 0 0 (Qcfa3 Z k_a0 fn_a0 a0 h0 n0)) _
 refine own_by (fun t k => castTop (ef_cfa3 m a0) k) ?_
 show own_Go p e below _ (s₁.setTop (mkF m 0 #[vR a0, vI (3 : Int32)] []))
 refine own_by (fun _ k => XS.iloadN X0.here hx rfl (hb hby d43_0) rfl k) ?_
 refine own_by (fun _ k => XS.aloadN X0.here hx rfl (hb hby d43_1) rfl rfl k) ?_
 obtain ⟨cl1, Ar1, qq1, S1, M1, H1, G1⟩ := id P_V_a0
 refine own_by (fun t k => X0.arraylength hx (by rw [e0]; exact Ar1.1) (State.isArrayOf_alike hZ.alike Ar1.2.1) (g := (mkF m 2 #[vR a0, vI (3 : Int32)] [(.ref a0), (.int (3 : Int32))])) rfl rfl (hb hby d43_2) _ k) ?_
 rw [len_of S1 M1]
 show own_Go p e below _ (s₁.setTop (mkF m 3 #[vR a0, vI (3 : Int32)] [(.int (3 : Int32)), (.int (3 : Int32))]))
 refine own_by (fun _ k => XS.isub X0.here hx rfl (hb hby d43_3) rfl k) ?_
 show own_Go p e below _ (s₁.setTop (mkF m 4 #[vR a0, vI (3 : Int32)] [(.int (0 : Int32))]))
 refine own_by (fun _ k => XS.bipush X0.here hx rfl (hb hby d43_4) k) ?_
 refine own_by (fun _ k => XS.iushr X0.here hx rfl (hb hby d43_6) rfl k) ?_
 show own_Go p e below _ (s₁.setTop (mkF m 7 #[vR a0, vI (3 : Int32)] [(.int (0 : Int32))]))
 refine own_by (fun _ k => XS.i2b X0.here hx rfl (hb hby d43_7) rfl k) ?_
 show own_Go p e below _ (s₁.setTop (mkF m 8 #[vR a0, vI (3 : Int32)] [(.int (0 : Int32))]))
 exact own_retN X0 hx (t := .byte) Bd.returns (by simp) (hb hby d43_8) hlk e0 ⟨rfl, N0, rfl⟩ (by decide) (by decide)
theorem pn_si4_3 : plainName "java/lang/String" = true := by first | (simp [plainName, overriddenIn]; done) | decide +kernel
theorem ef_si4_3 (m : MethodId) (a0 : Addr) (a1 : Addr) : entryFrame m #[(.ref a0), (.ref a1), (.int (0 : Int32)), (.int (3 : Int32)), .null] 6 = mkF m 0 #[vR a0, vR a1, vI (0 : Int32), vI (3 : Int32), .val .null, .unset] [] := by first | (simp [entryFrame, mkF, argsToLocals, Value.category]; done) | rfl
def Qsi4_3 (Z : State) (k_a1 : ClassId) (fn_a1 : Nat → Int32) (f_CS : Int32) (a0 : Addr) (a1 : Addr) (f_a0_coder : Int32) (f_a0_value : Value) (h0 : Heap) (n0 : Nat) (v : Option Value) (h : Heap) (L : List Loc) : Prop := ∃ (b4 : Addr) (b5 : ClassId), v = none ∧ Fr n0 L ∧ Keep h0 h [a0] ∧ Exa Z h a0 "java/lang/String" ∧ Fld Z h a0 "java/lang/String" "coder" "B" (.int (nar .byte (0 : Int32))) ∧ Fld Z h a0 "java/lang/String" "value" "[B" (.ref b4) ∧ (n0 ≤ b4) ∧ (h0.size ≤ b4) ∧ own_Arf Z h b4 b5 .byte (3 : Int32) (fun i => .int ((own_upd (own_upd (own_upd (fun _ => (0 : Int32)) 0 (nar .byte ((fn_a1 0).toInt8.toInt32))) 1 (nar .byte ((fn_a1 1).toInt8.toInt32))) 2 (nar .byte ((fn_a1 2).toInt8.toInt32))) i))
set_option maxRecDepth 65536 in
set_option maxHeartbeats 40000000 in
theorem rmsi4_3 (l : Launch) (Z : State) (A0 : Array Value) (hw : ∀ d ∈ tables_1, d.before A0 Z = true) (ws : List Jvm.Cond) (k_a1 : ClassId) (fn_a1 : Nat → Int32) (f_CS : Int32) (a0 : Addr) (a1 : Addr) (f_a0_coder : Int32) (f_a0_value : Value) (h0 : Heap) (n0 : Nat) (Z0 : n0 ≤ h0.size) (P_V_a1 : own_Arf Z h0 a1 k_a1 .char (3 : Int32) (fun i => .int (fn_a1 i))) (P_S_CS : Sta Z h0 "java/lang/String" "COMPACT_STRINGS" "Z" (.int f_CS)) (hn_CS : ¬ (f_CS = (0 : Int32))) (hle_0 : ¬ ((255 : Int32) < (fn_a1 0))) (hle_1 : ¬ ((255 : Int32) < (fn_a1 1))) (hle_2 : ¬ ((255 : Int32) < (fn_a1 2))) (P_E_a0 : Exa Z h0 a0 "java/lang/String") (P_F_a0_coder : Fld Z h0 a0 "java/lang/String" "coder" "B" (.int f_a0_coder)) (g_a0 : n0 ≤ a0) (P_F_a0_value : Fld Z h0 a0 "java/lang/String" "value" "[B" f_a0_value) :
    MetFree l (⟨"java/lang/String", "<init>", "([CIILjava/lang/Void;)V"⟩ : MethodName) (head1 (Jvm.Cond.code (⟨"java/lang/String", "<init>", "([CIILjava/lang/Void;)V"⟩ : MethodName) jdk_42_method_149_code 6 none :: ws) ({ frames := 2, cells := 1, slots := 3, locals := 35 } : Room)) (fun a U => a = #[(.ref a0), (.ref a1), (.int (0 : Int32)), (.int (3 : Int32)), .null] ∧ Z.Warmed39 U.vm ∧ U.heap = h0) (fun _ _ _ _ _ => True) (fun _ U o U' => ∃ v L, o = .returned v ∧ Qsi4_3 Z k_a1 fn_a1 f_CS a0 a1 f_a0_coder f_a0_value h0 n0 v U'.heap L ∧ FrameEnd U o U' L 1 3) := by
 refine MetFree.of_bodySF (plainFor_of_name pn_si4_3) hisR ?_
 intro p e s m args below meth c s₁ Bd hml0 hP hK
 obtain ⟨rfl, hZ, hh⟩ := hP
 have hwd := fun i {d : Jvm.Cond} (h : tables_1[i]? = some d) => hw d (List.mem_of_getElem? h)
 have hx := Bd.exec
 have hby := Bd.bytes
 have hml : c.maxLocals = 6 := hml0
 have hlk : meth.locks = false := Bd.notSynchronized
 have hown : s.vm.findClass "java/lang/String" = some m.cls := findClass_of_methodNamed Bd.named
 have hnm := (name_of_methodNamed Bd.named Bd.method).1
 have X0 : Stand p l e ({ frames := 2, cells := 1, slots := 3, locals := 35 } : Room) s m #[(.ref a0), (.ref a1), (.int (0 : Int32)), (.int (3 : Int32)), .null] below meth c s₁ [] 0 0 := Stand.of_body Bd
 have e0 : s₁.heap = h0 := by rw [← hh, Bd.state]; rfl
 have N0 := Fr.nil n0
 show own_Go p e below (own_Fin s 1 3 (Qsi4_3 Z k_a1 fn_a1 f_CS a0 a1 f_a0_coder f_a0_value h0 n0)) _
 refine own_by (fun t k => castTop (ef_si4_3 m a0 a1) k) ?_
 show own_Go p e below _ (s₁.setTop (mkF m 0 #[vR a0, vR a1, vI (0 : Int32), vI (3 : Int32), .val .null, .unset] []))
 refine own_by (fun _ k => XS.aloadN X0.here hx rfl (hb hby d3_0) rfl rfl k) ?_
 obtain ⟨T1, X1, e1, st1⟩ := initO X0 hx hZ hown (hwd 15 rfl) (hwd 16 rfl) (hwd 17 rfl) e0 (g := (mkF m 1 #[vR a0, vR a1, vI (0 : Int32), vI (3 : Int32), .val .null, .unset] [(.ref a0)])) rfl (by rw [hml]; rfl) rfl (hb hby d3_1) (by decide) (W := 0) (by show 2 * 0 + _ ≤ _; exact Nat.le_of_eq rfl) (by decide)
 refine own_by st1 ?_
 show own_Go p e below _ (T1.setTop (mkF m 4 #[vR a0, vR a1, vI (0 : Int32), vI (3 : Int32), .val .null, .unset] []))
 refine own_by (fun _ k => XS.iloadN X1.here hx rfl (hb hby d3_4) rfl k) ?_
 refine own_by (fun _ k => XS.ifYes X1.here hx rfl (pc0 := 5) (pc' := 27) rfl (hb hby d3_5) rfl ((if0 _ _).trans (feq (by decide : ¬ ((3 : Int32) = (0 : Int32)))).2) (by decide) (by decide) k) ?_
 show own_Go p e below _ (T1.setTop (mkF m 27 #[vR a0, vR a1, vI (0 : Int32), vI (3 : Int32), .val .null, .unset] []))
 obtain ⟨T2, X2, e2, st2⟩ := getS2 X1 hx hZ hown (host := "") (Or.inl (hwd 71 rfl)) Via.refl e1 P_S_CS (g := (mkF m 27 #[vR a0, vR a1, vI (0 : Int32), vI (3 : Int32), .val .null, .unset] [])) rfl (hb hby d3_27)
 refine own_by st2 ?_
 show own_Go p e below _ (T2.setTop (mkF m 30 #[vR a0, vR a1, vI (0 : Int32), vI (3 : Int32), .val .null, .unset] [(.int f_CS)]))
 refine own_by (fun _ k => XS.ifNo X2.here hx rfl (hb hby d3_30) rfl ((if0 _ _).trans (feq hn_CS).1) k) ?_
 show own_Go p e below _ (T2.setTop (mkF m 33 #[vR a0, vR a1, vI (0 : Int32), vI (3 : Int32), .val .null, .unset] []))
 refine own_by (fun _ k => XS.aloadN X2.here hx rfl (hb hby d3_33) rfl rfl k) ?_
 refine own_by (fun _ k => XS.iloadN X2.here hx rfl (hb hby d3_34) rfl k) ?_
 refine own_by (fun _ k => XS.iloadN X2.here hx rfl (hb hby d3_35) rfl k) ?_
 obtain ⟨_, _, ⟨T3, L3, k3, n3⟩, -, X3, ⟨Lc3, hQ3, l3, y3, z3⟩, st3⟩ := Jvm.LawKit.callS X2 hx (y := (⟨"java/lang/StringUTF16", "compress", "([CII)[B"⟩ : MethodName)) hown (mvT hZ (hwd 243 rfl)) (mvT hZ (hwd 244 rfl)) (mvT hZ (hwd 245 rfl)) (mvT hZ (hwd 246 rfl)) (by decide) (backOf (W := 0) (rmcmpB3 l Z A0 hw [] k_a1 fn_a1 a1 h0 n0 Z0 P_V_a1 hle_0 hle_1 hle_2) hZ (hwd 246 rfl) (hwd 245 rfl) (by decide) (by decide)) (g := (mkF m 36 #[vR a0, vR a1, vI (0 : Int32), vI (3 : Int32), .val .null, .unset] [(.int (3 : Int32)), (.int (0 : Int32)), (.ref a1)])) rfl (by rw [hml]; rfl) (argsL := [(.ref a1), (.int (0 : Int32)), (.int (3 : Int32))]) (rest := []) (lenOf pd_243 rfl) rfl (by show 2 * 0 + _ ≤ _; exact Nat.le_of_eq rfl) (hb hby d3_36) (fun _ _ => ⟨rfl, e2, (by decide : 0 + 1 ≤ _), (by decide : 0 + 3 ≤ _)⟩)
 dsimp only [Pt.U, Pt.locs, Pt.cells, Pt.slots] at X3 l3 y3 z3 st3 hQ3
 subst l3 y3 z3
 obtain ⟨b4, b5, rfl, Nq3, Kq3, hp6, hp7, F8⟩ := hQ3
 have N3 := Fr.app N0 Nq3
 have K3 : Keep h0 T3.heap [a0] := (Keep.refl h0 [a0]).trans Kq3 (all0)
 have Z3 : n0 ≤ T3.heap.size := Nat.le_trans Z0 Kq3.1
 have sz_b4 : h0.size ≤ b4 := Nat.le_trans (Keep.refl h0 [a0]).1 hp7
 refine own_by st3 ?_
 show own_Go p e below _ (T3.setTop (mkF m 39 #[vR a0, vR a1, vI (0 : Int32), vI (3 : Int32), .val .null, .unset] [(.ref b4)]))
 refine own_by (fun _ k => XS.astore X3.here hx rfl (hb hby d3_39) rfl rfl (l' := #[vR a0, vR a1, vI (0 : Int32), vI (3 : Int32), .val .null, vR b4]) rfl k) ?_
 show own_Go p e below _ (T3.setTop (mkF m 41 #[vR a0, vR a1, vI (0 : Int32), vI (3 : Int32), .val .null, vR b4] []))
 refine own_by (fun _ k => XS.aloadN X3.here hx rfl (hb hby d3_41) rfl rfl k) ?_
 refine own_by (fun _ k => XS.aload X3.here hx rfl (hb hby d3_42) rfl rfl k) ?_
 refine own_by (fun _ k => XS.iloadN X3.here hx rfl (hb hby d3_44) rfl k) ?_
 obtain ⟨_, _, ⟨T9, L9, k9, n9⟩, -, X9, ⟨Lc9, hQ9, l9, y9, z9⟩, st9⟩ := Jvm.LawKit.callS X3 hx (y := (⟨"java/lang/StringUTF16", "coderFromArrayLen", "([BI)B"⟩ : MethodName)) hown (mvT hZ (hwd 250 rfl)) (mvT hZ (hwd 251 rfl)) (mvT hZ (hwd 245 rfl)) (mvT hZ (hwd 252 rfl)) (by decide) (backOf (W := 1) (rmcfa3 l Z A0 hw [] b5 (own_upd (own_upd (own_upd (fun _ => (0 : Int32)) 0 (nar .byte ((fn_a1 0).toInt8.toInt32))) 1 (nar .byte ((fn_a1 1).toInt8.toInt32))) 2 (nar .byte ((fn_a1 2).toInt8.toInt32))) b4 T3.heap n0 Z3 F8) hZ (hwd 252 rfl) (hwd 245 rfl) (by decide) (by decide)) (g := (mkF m 45 #[vR a0, vR a1, vI (0 : Int32), vI (3 : Int32), .val .null, vR b4] [(.int (3 : Int32)), (.ref b4), (.ref a0)])) rfl (by rw [hml]; rfl) (argsL := [(.ref b4), (.int (3 : Int32))]) (rest := [(.ref a0)]) (lenOf pd_250 rfl) rfl (by show 2 * 0 + _ ≤ _; exact Nat.le_of_eq rfl) (hb hby d3_45) (fun _ _ => ⟨rfl, rfl, (by decide : 1 + 0 ≤ _), (by decide : 3 + 0 ≤ _)⟩)
 dsimp only [Pt.U, Pt.locs, Pt.cells, Pt.slots] at X9 l9 y9 z9 st9 hQ9
 subst l9 y9 z9
 obtain ⟨rfl, Nq9, eq9⟩ := hQ9
 have N9 := Fr.app N3 Nq9
 refine own_by st9 ?_
 show own_Go p e below _ (T9.setTop (mkF m 48 #[vR a0, vR a1, vI (0 : Int32), vI (3 : Int32), .val .null, vR b4] [(.int (0 : Int32)), (.ref a0)]))
 have F10 : Exa Z T3.heap a0 "java/lang/String" := (P_E_a0.keep Kq3)
 have F11 : Fld Z T3.heap a0 "java/lang/String" "coder" "B" (.int f_a0_coder) := (P_F_a0_coder.keep Kq3 nin0)
 obtain ⟨T12, h12, X12, e12, W12, st12⟩ := putFN X9 hx hZ hown (hwd 25 rfl) Via.refl eq9 F11 F10 (Or.inr ⟨(hwd 21 rfl), rfl, hnm⟩) (hwd 5 rfl) (ty := .byte) (v' := (.int (nar .byte (0 : Int32)))) (by decide) rfl (fits_nar_byte _) (g := (mkF m 48 #[vR a0, vR a1, vI (0 : Int32), vI (3 : Int32), .val .null, vR b4] [(.int (0 : Int32)), (.ref a0)])) rfl rfl (hb hby d3_48)
 have Fw12 : Fld Z h12 a0 "java/lang/String" "coder" "B" (.int (nar .byte (0 : Int32))) := F11.same W12
 have K12 : Keep h0 h12 [a0] := K3.wr W12 (Or.inl (List.mem_of_getElem? (i := 0) rfl))
 have Z12 : n0 ≤ h12.size := Nat.le_trans Z3 (Keep.of_wr W12).1
 have N12 := Fr.snoc X12 N9 g_a0
 refine own_by st12 ?_
 show own_Go p e below _ (T12.setTop (mkF m 51 #[vR a0, vR a1, vI (0 : Int32), vI (3 : Int32), .val .null, vR b4] []))
 refine own_by (fun _ k => XS.aloadN X12.here hx rfl (hb hby d3_51) rfl rfl k) ?_
 refine own_by (fun _ k => XS.aload X12.here hx rfl (hb hby d3_52) rfl rfl k) ?_
 have F13 : Exa Z h12 a0 "java/lang/String" := (F10.wr W12)
 have F14 : Fld Z h12 a0 "java/lang/String" "value" "[B" f_a0_value := ((P_F_a0_value.keep Kq3 nin0).other W12 (Or.inr (slot_ne (Or.inr (hwd 20 rfl)) (Or.inr (hwd 21 rfl)) (by decide) (t := (.array .byte)) (t' := .byte) (by decide) (by decide))))
 obtain ⟨T15, h15, X15, e15, W15, st15⟩ := putF X12 hx hZ hown (host := "") (Or.inl (hwd 24 rfl)) Via.refl e12 F14 F13 (Or.inr ⟨(hwd 20 rfl), rfl, hnm⟩) (hwd 5 rfl) (ty := (.array .byte)) (by decide) rfl rfl (g := (mkF m 54 #[vR a0, vR a1, vI (0 : Int32), vI (3 : Int32), .val .null, vR b4] [(.ref b4), (.ref a0)])) rfl rfl (hb hby d3_54)
 have Fw15 : Fld Z h15 a0 "java/lang/String" "value" "[B" (.ref b4) := F14.same W15
 have K15 : Keep h0 h15 [a0] := K12.wr W15 (Or.inl (List.mem_of_getElem? (i := 0) rfl))
 have Z15 : n0 ≤ h15.size := Nat.le_trans Z12 (Keep.of_wr W15).1
 have N15 := Fr.snoc X15 N12 g_a0
 refine own_by st15 ?_
 show own_Go p e below _ (T15.setTop (mkF m 57 #[vR a0, vR a1, vI (0 : Int32), vI (3 : Int32), .val .null, vR b4] []))
 have F16 : Exa Z h15 a0 "java/lang/String" := (F13.wr W15)
 have F17 : Fld Z h15 a0 "java/lang/String" "coder" "B" (.int (nar .byte (0 : Int32))) := (Fw12.other W15 (Or.inr (slot_ne (Or.inr (hwd 21 rfl)) (Or.inr (hwd 20 rfl)) (by decide) (t := .byte) (t' := (.array .byte)) (by decide) (by decide))))
 have F18 : own_Arf Z h15 b4 b5 .byte (3 : Int32) (fun i => .int ((own_upd (own_upd (own_upd (fun _ => (0 : Int32)) 0 (nar .byte ((fn_a1 0).toInt8.toInt32))) 1 (nar .byte ((fn_a1 1).toInt8.toInt32))) 2 (nar .byte ((fn_a1 2).toInt8.toInt32))) i)) := ((F8.other W12 (Ne.symm (Nat.ne_of_lt (Nat.lt_of_lt_of_le (P_E_a0).lt hp7)))).other W15 (Ne.symm (Nat.ne_of_lt (Nat.lt_of_lt_of_le (P_E_a0).lt hp7))))
 exact own_ret0 X15 hx Bd.returns (hb hby d3_57) hlk e15 ⟨_, _, rfl, N15, K15, F16, F17, Fw15, hp6, sz_b4, F18⟩ (by decide) (by decide)
theorem pn_si3 : plainName "java/lang/String" = true := by first | (simp [plainName, overriddenIn]; done) | decide +kernel
theorem ef_si3 (m : MethodId) (a0 : Addr) (a1 : Addr) : entryFrame m #[(.ref a0), (.ref a1)] 2 = mkF m 0 #[vR a0, vR a1] [] := by first | (simp [entryFrame, mkF, argsToLocals, Value.category]; done) | rfl
def Qsi3 (Z : State) (k_a1 : ClassId) (fn_a1 : Nat → Int32) (f_CS : Int32) (a0 : Addr) (a1 : Addr) (f_a0_coder : Int32) (f_a0_value : Value) (h0 : Heap) (n0 : Nat) (v : Option Value) (h : Heap) (L : List Loc) : Prop := ∃ (b3 : Addr) (b4 : ClassId), v = none ∧ Fr n0 L ∧ Keep h0 h [a0] ∧ Exa Z h a0 "java/lang/String" ∧ Fld Z h a0 "java/lang/String" "coder" "B" (.int (0 : Int32)) ∧ Fld Z h a0 "java/lang/String" "value" "[B" (.ref b3) ∧ (n0 ≤ b3) ∧ (h0.size ≤ b3) ∧ own_Arf Z h b3 b4 .byte (3 : Int32) (fun i => .int ((own_upd (own_upd (own_upd (fun _ => (0 : Int32)) 0 (nar .byte ((fn_a1 0).toInt8.toInt32))) 1 (nar .byte ((fn_a1 1).toInt8.toInt32))) 2 (nar .byte ((fn_a1 2).toInt8.toInt32))) i))
set_option maxRecDepth 65536 in
set_option maxHeartbeats 40000000 in
theorem rmsi3 (l : Launch) (Z : State) (A0 : Array Value) (hw : ∀ d ∈ tables_1, d.before A0 Z = true) (ws : List Jvm.Cond) (k_a1 : ClassId) (fn_a1 : Nat → Int32) (f_CS : Int32) (a0 : Addr) (a1 : Addr) (f_a0_coder : Int32) (f_a0_value : Value) (h0 : Heap) (n0 : Nat) (Z0 : n0 ≤ h0.size) (P_V_a1 : own_Arf Z h0 a1 k_a1 .char (3 : Int32) (fun i => .int (fn_a1 i))) (P_S_CS : Sta Z h0 "java/lang/String" "COMPACT_STRINGS" "Z" (.int f_CS)) (hn_CS : ¬ (f_CS = (0 : Int32))) (hle_0 : ¬ ((255 : Int32) < (fn_a1 0))) (hle_1 : ¬ ((255 : Int32) < (fn_a1 1))) (hle_2 : ¬ ((255 : Int32) < (fn_a1 2))) (P_E_a0 : Exa Z h0 a0 "java/lang/String") (P_F_a0_coder : Fld Z h0 a0 "java/lang/String" "coder" "B" (.int f_a0_coder)) (P_F_a0_value : Fld Z h0 a0 "java/lang/String" "value" "[B" f_a0_value) (g_a0 : n0 ≤ a0) :
    MetFree l (⟨"java/lang/String", "<init>", "([C)V"⟩ : MethodName) (head1 (Jvm.Cond.code (⟨"java/lang/String", "<init>", "([C)V"⟩ : MethodName) jdk_42_method_3_code 2 none :: ws) ({ frames := 3, cells := 1, slots := 3, locals := 52 } : Room)) (fun a U => a = #[(.ref a0), (.ref a1)] ∧ Z.Warmed39 U.vm ∧ U.heap = h0) (fun _ _ _ _ _ => True) (fun _ U o U' => ∃ v L, o = .returned v ∧ Qsi3 Z k_a1 fn_a1 f_CS a0 a1 f_a0_coder f_a0_value h0 n0 v U'.heap L ∧ FrameEnd U o U' L 1 3) := by
 refine MetFree.of_bodySF (plainFor_of_name pn_si3) hisR ?_
 intro p e s m args below meth c s₁ Bd hml0 hP hK
 obtain ⟨rfl, hZ, hh⟩ := hP
 have hwd := fun i {d : Jvm.Cond} (h : tables_1[i]? = some d) => hw d (List.mem_of_getElem? h)
 have hx := Bd.exec
 have hby := Bd.bytes
 have hml : c.maxLocals = 2 := hml0
 have hlk : meth.locks = false := Bd.notSynchronized
 have hown : s.vm.findClass "java/lang/String" = some m.cls := findClass_of_methodNamed Bd.named
 have hnm := (name_of_methodNamed Bd.named Bd.method).1
 have X0 : Stand p l e ({ frames := 3, cells := 1, slots := 3, locals := 52 } : Room) s m #[(.ref a0), (.ref a1)] below meth c s₁ [] 0 0 := Stand.of_body Bd
 have e0 : s₁.heap = h0 := by rw [← hh, Bd.state]; rfl
 have N0 := Fr.nil n0
 show own_Go p e below (own_Fin s 1 3 (Qsi3 Z k_a1 fn_a1 f_CS a0 a1 f_a0_coder f_a0_value h0 n0)) _
 refine own_by (fun t k => castTop (ef_si3 m a0 a1) k) ?_
 show own_Go p e below _ (s₁.setTop (mkF m 0 #[vR a0, vR a1] []))
 refine own_by (fun _ k => XS.aloadN X0.here hx rfl (hb hby d2_0) rfl rfl k) ?_
 refine own_by (fun _ k => XS.aloadN X0.here hx rfl (hb hby d2_1) rfl rfl k) ?_
 refine own_by (fun _ k => XS.iconst X0.here hx rfl (hb hby d2_2) k) ?_
 refine own_by (fun _ k => XS.aloadN X0.here hx rfl (hb hby d2_3) rfl rfl k) ?_
 obtain ⟨cl1, Ar1, qq1, S1, M1, H1, G1⟩ := id P_V_a1
 refine own_by (fun t k => X0.arraylength hx (by rw [e0]; exact Ar1.1) (State.isArrayOf_alike hZ.alike Ar1.2.1) (g := (mkF m 4 #[vR a0, vR a1] [(.ref a1), (.int (0 : Int32)), (.ref a1), (.ref a0)])) rfl rfl (hb hby d2_4) _ k) ?_
 rw [len_of S1 M1]
 show own_Go p e below _ (s₁.setTop (mkF m 5 #[vR a0, vR a1] [(.int (3 : Int32)), (.int (0 : Int32)), (.ref a1), (.ref a0)]))
 refine own_by (fun _ k => XS.aconstNull X0.here hx rfl (hb hby d2_5) k) ?_
 show own_Go p e below _ (s₁.setTop (mkF m 6 #[vR a0, vR a1] [.null, (.int (3 : Int32)), (.int (0 : Int32)), (.ref a1), (.ref a0)]))
 obtain ⟨_, _, ⟨T2, L2, k2, n2⟩, -, X2, ⟨Lc2, hQ2, l2, y2, z2⟩, st2⟩ := X0.specialBack hx (y := (⟨"java/lang/String", "<init>", "([CIILjava/lang/Void;)V"⟩ : MethodName)) rfl hown (mvT hZ (hwd 11 rfl)) (mvT hZ (hwd 12 rfl)) (mvT hZ (hwd 14 rfl)) (by decide) (backOf (W := 0) (rmsi4_3 l Z A0 hw [] k_a1 fn_a1 f_CS a0 a1 f_a0_coder f_a0_value h0 n0 Z0 P_V_a1 P_S_CS hn_CS hle_0 hle_1 hle_2 P_E_a0 P_F_a0_coder g_a0 P_F_a0_value) hZ (hwd 14 rfl) (hwd 6 rfl) (by decide) (by decide)) (g := (mkF m 6 #[vR a0, vR a1] [.null, (.int (3 : Int32)), (.int (0 : Int32)), (.ref a1), (.ref a0)])) rfl (by rw [hml]; rfl) (Steps.refl _) (a := a0) (argsL := [(.ref a1), (.int (0 : Int32)), (.int (3 : Int32)), .null]) (rest := []) (lenOf pd_11 rfl) rfl (by show 2 * 0 + _ ≤ _; exact Nat.le_of_eq rfl) (hb hby d2_6) (fun _ _ => ⟨rfl, e0, (by decide : 0 + 1 ≤ _), (by decide : 0 + 3 ≤ _)⟩)
 dsimp only [Pt.U, Pt.locs, Pt.cells, Pt.slots] at X2 l2 y2 z2 st2 hQ2
 subst l2 y2 z2
 obtain ⟨b3, b4, rfl, Nq2, Kq2, F5, F6, F7, hp8, hp9, F10⟩ := hQ2
 have N2 := Fr.app N0 Nq2
 have K2 : Keep h0 T2.heap [a0] := (Keep.refl h0 [a0]).trans Kq2 ((allS (Or.inl (List.mem_of_getElem? (i := 0) rfl)) all0))
 have Z2 : n0 ≤ T2.heap.size := Nat.le_trans Z0 Kq2.1
 have sz_b3 : h0.size ≤ b3 := Nat.le_trans (Keep.refl h0 [a0]).1 hp9
 refine own_by (fun _ k => st2.trans k) ?_
 show own_Go p e below _ (T2.setTop (mkF m 9 #[vR a0, vR a1] []))
 exact own_ret0 X2 hx Bd.returns (hb hby d2_9) hlk rfl ⟨_, _, rfl, N2, K2, F5, F6, F7, hp8, sz_b3, F10⟩ (by decide) (by decide)
theorem d3_8 : decode jdk_42_method_149_code 8 = .ok (.aload_n 0, 1) := by decide +kernel
theorem d3_9 : decode jdk_42_method_149_code 9 = .ok (.ldc 7, 2) := by decide +kernel
theorem d3_11 : decode jdk_42_method_149_code 11 = .ok (.getfield 9, 3) := by decide +kernel
theorem d3_14 : decode jdk_42_method_149_code 14 = .ok (.putfield 9, 3) := by decide +kernel
theorem d3_17 : decode jdk_42_method_149_code 17 = .ok (.aload_n 0, 1) := by decide +kernel
theorem d3_18 : decode jdk_42_method_149_code 18 = .ok (.ldc 7, 2) := by decide +kernel
theorem d3_20 : decode jdk_42_method_149_code 20 = .ok (.getfield 15, 3) := by decide +kernel
theorem d3_23 : decode jdk_42_method_149_code 23 = .ok (.putfield 15, 3) := by decide +kernel
theorem d3_26 : decode jdk_42_method_149_code 26 = .ok (.return_, 1) := by decide +kernel
theorem pn_si4_0 : plainName "java/lang/String" = true := by first | (simp [plainName, overriddenIn]; done) | decide +kernel
theorem ef_si4_0 (m : MethodId) (a0 : Addr) (a1 : Addr) : entryFrame m #[(.ref a0), (.ref a1), (.int (0 : Int32)), (.int (0 : Int32)), .null] 6 = mkF m 0 #[vR a0, vR a1, vI (0 : Int32), vI (0 : Int32), .val .null, .unset] [] := by first | (simp [entryFrame, mkF, argsToLocals, Value.category]; done) | rfl
def Qsi4_0 (Z : State) (a0 : Addr) (a1 : Addr) (f_a0_value : Value) (f_a0_coder : Int32) (h0 : Heap) (n0 : Nat) (v : Option Value) (h : Heap) (L : List Loc) : Prop := ∃ (r5001 : Addr) (kk5002 : ClassId), v = none ∧ Fr n0 L ∧ Keep h0 h [a0] ∧ Exa Z h a0 "java/lang/String" ∧ Fld Z h a0 "java/lang/String" "value" "[B" (.ref r5001) ∧ Fld Z h a0 "java/lang/String" "coder" "B" (.int (nar .byte (0 : Int32))) ∧ own_Arf Z h r5001 kk5002 .byte (0 : Int32) (fun i => .int ((own_li []) i)) ∧ ((True))
set_option maxRecDepth 65536 in
set_option maxHeartbeats 40000000 in
theorem rmsi4_0 (l : Launch) (Z : State) (A0 : Array Value) (hw : ∀ d ∈ tables_1, d.before A0 Z = true) (ws : List Jvm.Cond) (a0 : Addr) (a1 : Addr) (f_a0_value : Value) (f_a0_coder : Int32) (h0 : Heap) (n0 : Nat) (Z0 : n0 ≤ h0.size) (P_E_a0 : Exa Z h0 a0 "java/lang/String") (P_F_a0_value : Fld Z h0 a0 "java/lang/String" "value" "[B" f_a0_value) (g_a0 : n0 ≤ a0) (P_F_a0_coder : Fld Z h0 a0 "java/lang/String" "coder" "B" (.int f_a0_coder)) :
    MetFree l (⟨"java/lang/String", "<init>", "([CIILjava/lang/Void;)V"⟩ : MethodName) (head1 (Jvm.Cond.code (⟨"java/lang/String", "<init>", "([CIILjava/lang/Void;)V"⟩ : MethodName) jdk_42_method_149_code 6 none :: ws) ({ frames := 1, cells := 4, slots := 8, locals := 12 } : Room)) (fun a U => a = #[(.ref a0), (.ref a1), (.int (0 : Int32)), (.int (0 : Int32)), .null] ∧ Z.Warmed39 U.vm ∧ U.heap = h0 ∧ CHv Z consts_1 U.vm h0 ∧ ∀ x ∈ [a0], Safe Z consts_1 U.vm h0 x) (fun _ _ _ _ _ => True) (fun _ U o U' => ∃ v L, o = .returned v ∧ Qsi4_0 Z a0 a1 f_a0_value f_a0_coder h0 n0 v U'.heap L ∧ CHr Z consts_1 U.vm U.heap U'.vm U'.heap ∧ ReturnedEndW U o U' L 4 8) := by
 refine MetFree.of_bodySF (plainFor_of_name pn_si4_0) hisR ?_
 intro p e s m args below meth c s₁ Bd hml0 hP hK
 obtain ⟨rfl, hZ, hh, hC0, hsf⟩ := hP
 have hwd := fun i {d : Jvm.Cond} (h : tables_1[i]? = some d) => hw d (List.mem_of_getElem? h)
 have hx := Bd.exec
 have hby := Bd.bytes
 have hml : c.maxLocals = 6 := hml0
 have hlk : meth.locks = false := Bd.notSynchronized
 have hown : s.vm.findClass "java/lang/String" = some m.cls := findClass_of_methodNamed Bd.named
 have hnm := (name_of_methodNamed Bd.named Bd.method).1
 have X0 : Stand p l e ({ frames := 1, cells := 4, slots := 8, locals := 12 } : Room) (s.setVm s.vm) m #[(.ref a0), (.ref a1), (.int (0 : Int32)), (.int (0 : Int32)), .null] below meth c s₁ [] 0 0 := Stand.of_body Bd
 have e0 : s₁.heap = h0 := by rw [← hh, Bd.state]; rfl
 have N0 := Fr.nil n0
 have hEL := own_EW hw
 have hwS := fun a ha => hw a (own_atoms a ha)
 have CR0 : CHr Z consts_1 s.vm h0 s.vm h0 := CHr.refl hC0
 obtain ⟨kc0, hkc0⟩ : ∃ z, z = h0.size := ⟨_, rfl⟩
 have hk0 : kc0 ≤ h0.size := Nat.le_of_eq hkc0
 have hS : s.Since s.vm kc0 := own_since s kc0
 show own_Go p e below (own_FinW Z consts_1 s 4 8 (Qsi4_0 Z a0 a1 f_a0_value f_a0_coder h0 n0)) _
 refine own_by (fun t k => castTop (ef_si4_0 m a0 a1) k) ?_
 show own_Go p e below _ (s₁.setTop (mkF m 0 #[vR a0, vR a1, vI (0 : Int32), vI (0 : Int32), .val .null, .unset] []))
 refine own_by (fun _ k => XS.aloadN X0.here hx rfl (hb hby d3_0) rfl rfl k) ?_
 obtain ⟨T1, X1, e1, st1⟩ := initO X0 hx hZ hown (hwd 15 rfl) (hwd 16 rfl) (hwd 17 rfl) e0 (g := (mkF m 1 #[vR a0, vR a1, vI (0 : Int32), vI (0 : Int32), .val .null, .unset] [(.ref a0)])) rfl (by rw [hml]; rfl) rfl (hb hby d3_1) (by decide) (W := 0) (by show 2 * 0 + _ ≤ _; exact Nat.le_of_eq rfl) (by decide)
 refine own_by st1 ?_
 show own_Go p e below _ (T1.setTop (mkF m 4 #[vR a0, vR a1, vI (0 : Int32), vI (0 : Int32), .val .null, .unset] []))
 refine own_by (fun _ k => XS.iloadN X1.here hx rfl (hb hby d3_4) rfl k) ?_
 refine own_by (fun _ k => XS.ifNo X1.here hx rfl (hb hby d3_5) rfl ((if0 _ _).trans (teq (by decide : (0 : Int32) = (0 : Int32))).2) k) ?_
 show own_Go p e below _ (T1.setTop (mkF m 8 #[vR a0, vR a1, vI (0 : Int32), vI (0 : Int32), .val .null, .unset] []))
 refine own_by (fun _ k => XS.aloadN X1.here hx rfl (hb hby d3_8) rfl rfl k) ?_
 obtain ⟨b2, T2, h2, kc2, t2, kk2, X2, e2, E2, hS, hk2, hZ, hown, A2, C2, F2, V2, lt2, ltb2, R2, Li2, -, st2⟩ := ldcCH X1 hx hZ hown (hwd 18 rfl) hwS e1 hS hk0 hEL (by decide) CR0.1 (vs := ([] : List Int32).map Value.int) (z := (0 : Int32)) ⟨by decide, by decide⟩ (by decide) (by decide) (g := (mkF m 9 #[vR a0, vR a1, vI (0 : Int32), vI (0 : Int32), .val .null, .unset] [(.ref a0)])) rfl (hb hby d3_9) (n := 0) (by decide) (by decide) (by decide) (by decide)
 have V2' : own_Arf Z h2 t2 kk2 .byte (0 : Int32) (fun i => .int ((own_li []) i)) := own_arfLi V2
 have CR2 : CHr Z consts_1 s.vm h0 T2.vm h2 := CR0.trans R2
 have K2 : Keep h0 h2 [a0] := (Keep.refl h0 [a0]).ext E2
 have Z2 : n0 ≤ h2.size := Nat.le_trans Z0 E2.1
 refine own_by st2 ?_
 show own_Go p e below _ (T2.setTop (mkF m 11 #[vR a0, vR a1, vI (0 : Int32), vI (0 : Int32), .val .null, .unset] [(.ref b2), (.ref a0)]))
 obtain ⟨T3, X3, e3, st3⟩ := getF X2 hx hZ hown (host := "") (Or.inl (hwd 24 rfl)) Via.refl e2 F2 (g := (mkF m 11 #[vR a0, vR a1, vI (0 : Int32), vI (0 : Int32), .val .null, .unset] [(.ref b2), (.ref a0)])) rfl rfl (hb hby d3_11)
 refine own_by st3 ?_
 show own_Go p e below _ (T3.setTop (mkF m 14 #[vR a0, vR a1, vI (0 : Int32), vI (0 : Int32), .val .null, .unset] [(.ref t2), (.ref a0)]))
 have F4 : Exa Z h2 a0 "java/lang/String" := (P_E_a0.ext E2)
 have F5 : Fld Z h2 a0 "java/lang/String" "value" "[B" f_a0_value := (P_F_a0_value.ext E2)
 obtain ⟨T6, h6, X6, e6, W6, st6⟩ := putF X3 hx hZ hown (host := "") (Or.inl (hwd 24 rfl)) Via.refl e3 F5 F4 (Or.inr ⟨(hwd 20 rfl), rfl, hnm⟩) (hwd 5 rfl) (ty := (.array .byte)) (by decide) rfl rfl (g := (mkF m 14 #[vR a0, vR a1, vI (0 : Int32), vI (0 : Int32), .val .null, .unset] [(.ref t2), (.ref a0)])) rfl rfl (hb hby d3_14)
 have Fw6 : Fld Z h6 a0 "java/lang/String" "value" "[B" (.ref t2) := F5.same W6
 have R6 : CHr Z consts_1 T2.vm h2 T2.vm h6 := CHr.wr W6 (CHr.safe CR2 P_E_a0.lt (hsf a0 (List.mem_of_getElem? (i := 0) rfl))) CR2.1
 have CR6 : CHr Z consts_1 s.vm h0 T2.vm h6 := CR2.trans R6
 have hk6 : kc2 ≤ h6.size := Nat.le_trans hk2 (Keep.of_wr W6).1
 have K6 : Keep h0 h6 [a0] := K2.wr W6 (Or.inl (List.mem_of_getElem? (i := 0) rfl))
 have Z6 : n0 ≤ h6.size := Nat.le_trans Z2 (Keep.of_wr W6).1
 have N6 := Fr.snoc X6 N0 g_a0
 refine own_by st6 ?_
 show own_Go p e below _ (T6.setTop (mkF m 17 #[vR a0, vR a1, vI (0 : Int32), vI (0 : Int32), .val .null, .unset] []))
 refine own_by (fun _ k => XS.aloadN X6.here hx rfl (hb hby d3_17) rfl rfl k) ?_
 obtain ⟨b7, T7, h7, kc7, t7, kk7, X7, e7, E7, hS, hk7, hZ, hown, A7, C7, F7, V7, lt7, ltb7, R7, Li7, -, st7⟩ := ldcCH X6 hx hZ hown (hwd 18 rfl) hwS e6 hS hk6 hEL (by decide) CR6.1 (vs := ([] : List Int32).map Value.int) (z := (0 : Int32)) ⟨by decide, by decide⟩ (by decide) (by decide) (g := (mkF m 18 #[vR a0, vR a1, vI (0 : Int32), vI (0 : Int32), .val .null, .unset] [(.ref a0)])) rfl (hb hby d3_18) (n := 0) (by decide) (by decide) (by decide) (by decide)
 have V7' : own_Arf Z h7 t7 kk7 .byte (0 : Int32) (fun i => .int ((own_li []) i)) := own_arfLi V7
 have CR7 : CHr Z consts_1 s.vm h0 T7.vm h7 := CR6.trans R7
 have K7 : Keep h0 h7 [a0] := K6.ext E7
 have Z7 : n0 ≤ h7.size := Nat.le_trans Z6 E7.1
 refine own_by st7 ?_
 show own_Go p e below _ (T7.setTop (mkF m 20 #[vR a0, vR a1, vI (0 : Int32), vI (0 : Int32), .val .null, .unset] [(.ref b7), (.ref a0)]))
 obtain ⟨T8, X8, e8, st8⟩ := getF X7 hx hZ hown (host := "") (Or.inl (hwd 25 rfl)) Via.refl e7 C7 (g := (mkF m 20 #[vR a0, vR a1, vI (0 : Int32), vI (0 : Int32), .val .null, .unset] [(.ref b7), (.ref a0)])) rfl rfl (hb hby d3_20)
 refine own_by st8 ?_
 show own_Go p e below _ (T8.setTop (mkF m 23 #[vR a0, vR a1, vI (0 : Int32), vI (0 : Int32), .val .null, .unset] [(.int (0 : Int32)), (.ref a0)]))
 have F9 : Exa Z h7 a0 "java/lang/String" := ((F4.wr W6).ext E7)
 have F10 : Fld Z h7 a0 "java/lang/String" "coder" "B" (.int f_a0_coder) := (((P_F_a0_coder.ext E2).other W6 (Or.inr (slot_ne (Or.inr (hwd 21 rfl)) (Or.inr (hwd 20 rfl)) (by decide) (t := .byte) (t' := (.array .byte)) (by decide) (by decide)))).ext E7)
 obtain ⟨T11, h11, X11, e11, W11, st11⟩ := putFN X8 hx hZ hown (hwd 25 rfl) Via.refl e8 F10 F9 (Or.inr ⟨(hwd 21 rfl), rfl, hnm⟩) (hwd 5 rfl) (ty := .byte) (v' := (.int (nar .byte (0 : Int32)))) (by decide) rfl (fits_nar_byte _) (g := (mkF m 23 #[vR a0, vR a1, vI (0 : Int32), vI (0 : Int32), .val .null, .unset] [(.int (0 : Int32)), (.ref a0)])) rfl rfl (hb hby d3_23)
 have Fw11 : Fld Z h11 a0 "java/lang/String" "coder" "B" (.int (nar .byte (0 : Int32))) := F10.same W11
 have R11 : CHr Z consts_1 T7.vm h7 T7.vm h11 := CHr.wr W11 (CHr.safe CR7 P_E_a0.lt (hsf a0 (List.mem_of_getElem? (i := 0) rfl))) CR7.1
 have CR11 : CHr Z consts_1 s.vm h0 T7.vm h11 := CR7.trans R11
 have hk11 : kc7 ≤ h11.size := Nat.le_trans hk7 (Keep.of_wr W11).1
 have K11 : Keep h0 h11 [a0] := K7.wr W11 (Or.inl (List.mem_of_getElem? (i := 0) rfl))
 have Z11 : n0 ≤ h11.size := Nat.le_trans Z7 (Keep.of_wr W11).1
 have N11 := Fr.snoc X11 N6 g_a0
 refine own_by st11 ?_
 show own_Go p e below _ (T11.setTop (mkF m 26 #[vR a0, vR a1, vI (0 : Int32), vI (0 : Int32), .val .null, .unset] []))
 have F12 : Exa Z h11 a0 "java/lang/String" := (F9.wr W11)
 have F13 : Fld Z h11 a0 "java/lang/String" "value" "[B" (.ref t2) := ((Fw6.ext E7).other W11 (Or.inr (slot_ne (Or.inr (hwd 20 rfl)) (Or.inr (hwd 21 rfl)) (by decide) (t := (.array .byte)) (t' := .byte) (by decide) (by decide))))
 have F14 : own_Arf Z h11 t2 kk2 .byte (0 : Int32) (fun i => .int ((own_li []) i)) := (((V2'.other W6 (Ne.symm (own_neArr (P_E_a0.ext E2) (hwd 5 rfl) V2'))).ext E7).other W11 (Ne.symm (own_neArr (P_E_a0.ext E2) (hwd 5 rfl) V2')))
 exact own_ret0W X11 hx hS hk11 hZ hEL hh CR11 Bd.returns (hb hby d3_26) hlk e11 ⟨t2, kk2, rfl, N11, K11, F12, F13, Fw11, F14, trivial⟩ (by decide) (by decide)
theorem pn_si0 : plainName "java/lang/String" = true := by first | (simp [plainName, overriddenIn]; done) | decide +kernel
theorem ef_si0 (m : MethodId) (a0 : Addr) (a1 : Addr) : entryFrame m #[(.ref a0), (.ref a1)] 2 = mkF m 0 #[vR a0, vR a1] [] := by first | (simp [entryFrame, mkF, argsToLocals, Value.category]; done) | rfl
def Qsi0 (Z : State) (k_a1 : ClassId) (fn_a1 : Nat → Int32) (a0 : Addr) (a1 : Addr) (f_a0_value : Value) (f_a0_coder : Int32) (h0 : Heap) (n0 : Nat) (v : Option Value) (h : Heap) (L : List Loc) : Prop := ∃ (r5001 : Addr) (kk5002 : ClassId), v = none ∧ Fr n0 L ∧ Keep h0 h [a0] ∧ Exa Z h a0 "java/lang/String" ∧ Fld Z h a0 "java/lang/String" "value" "[B" (.ref r5001) ∧ Fld Z h a0 "java/lang/String" "coder" "B" (.int (0 : Int32)) ∧ own_Arf Z h r5001 kk5002 .byte (0 : Int32) (fun i => .int ((own_li []) i)) ∧ ((((True))))
set_option maxRecDepth 65536 in
set_option maxHeartbeats 40000000 in
theorem rmsi0 (l : Launch) (Z : State) (A0 : Array Value) (hw : ∀ d ∈ tables_1, d.before A0 Z = true) (ws : List Jvm.Cond) (k_a1 : ClassId) (fn_a1 : Nat → Int32) (a0 : Addr) (a1 : Addr) (f_a0_value : Value) (f_a0_coder : Int32) (h0 : Heap) (n0 : Nat) (Z0 : n0 ≤ h0.size) (P_E_a0 : Exa Z h0 a0 "java/lang/String") (P_V_a1 : own_Arf Z h0 a1 k_a1 .char (0 : Int32) (fun i => .int (fn_a1 i))) (P_F_a0_value : Fld Z h0 a0 "java/lang/String" "value" "[B" f_a0_value) (P_F_a0_coder : Fld Z h0 a0 "java/lang/String" "coder" "B" (.int f_a0_coder)) (g_a0 : n0 ≤ a0) :
    MetFree l (⟨"java/lang/String", "<init>", "([C)V"⟩ : MethodName) (head1 (Jvm.Cond.code (⟨"java/lang/String", "<init>", "([C)V"⟩ : MethodName) jdk_42_method_3_code 2 none :: ws) ({ frames := 2, cells := 4, slots := 8, locals := 29 } : Room)) (fun a U => a = #[(.ref a0), (.ref a1)] ∧ Z.Warmed39 U.vm ∧ U.heap = h0 ∧ CHv Z consts_1 U.vm h0 ∧ ∀ x ∈ [a0], Safe Z consts_1 U.vm h0 x) (fun _ _ _ _ _ => True) (fun _ U o U' => ∃ v L, o = .returned v ∧ Qsi0 Z k_a1 fn_a1 a0 a1 f_a0_value f_a0_coder h0 n0 v U'.heap L ∧ CHr Z consts_1 U.vm U.heap U'.vm U'.heap ∧ ReturnedEndW U o U' L 4 8) := by
 refine MetFree.of_bodySF (plainFor_of_name pn_si0) hisR ?_
 intro p e s m args below meth c s₁ Bd hml0 hP hK
 obtain ⟨rfl, hZ, hh, hC0, hsf⟩ := hP
 have hwd := fun i {d : Jvm.Cond} (h : tables_1[i]? = some d) => hw d (List.mem_of_getElem? h)
 have hx := Bd.exec
 have hby := Bd.bytes
 have hml : c.maxLocals = 2 := hml0
 have hlk : meth.locks = false := Bd.notSynchronized
 have hown : s.vm.findClass "java/lang/String" = some m.cls := findClass_of_methodNamed Bd.named
 have hnm := (name_of_methodNamed Bd.named Bd.method).1
 have X0 : Stand p l e ({ frames := 2, cells := 4, slots := 8, locals := 29 } : Room) (s.setVm s.vm) m #[(.ref a0), (.ref a1)] below meth c s₁ [] 0 0 := Stand.of_body Bd
 have e0 : s₁.heap = h0 := by rw [← hh, Bd.state]; rfl
 have N0 := Fr.nil n0
 have hEL := own_EW hw
 have hwS := fun a ha => hw a (own_atoms a ha)
 have CR0 : CHr Z consts_1 s.vm h0 s.vm h0 := CHr.refl hC0
 obtain ⟨kc0, hkc0⟩ : ∃ z, z = h0.size := ⟨_, rfl⟩
 have hk0 : kc0 ≤ h0.size := Nat.le_of_eq hkc0
 have hS : s.Since s.vm kc0 := own_since s kc0
 show own_Go p e below (own_FinW Z consts_1 s 4 8 (Qsi0 Z k_a1 fn_a1 a0 a1 f_a0_value f_a0_coder h0 n0)) _
 refine own_by (fun t k => castTop (ef_si0 m a0 a1) k) ?_
 show own_Go p e below _ (s₁.setTop (mkF m 0 #[vR a0, vR a1] []))
 refine own_by (fun _ k => XS.aloadN X0.here hx rfl (hb hby d2_0) rfl rfl k) ?_
 refine own_by (fun _ k => XS.aloadN X0.here hx rfl (hb hby d2_1) rfl rfl k) ?_
 refine own_by (fun _ k => XS.iconst X0.here hx rfl (hb hby d2_2) k) ?_
 refine own_by (fun _ k => XS.aloadN X0.here hx rfl (hb hby d2_3) rfl rfl k) ?_
 obtain ⟨cl1, Ar1, qq1, S1, M1, H1, G1⟩ := id P_V_a1
 refine own_by (fun t k => X0.arraylength hx (by rw [e0]; exact Ar1.1) (State.isArrayOf_alike hZ.alike Ar1.2.1) (g := (mkF m 4 #[vR a0, vR a1] [(.ref a1), (.int (0 : Int32)), (.ref a1), (.ref a0)])) rfl rfl (hb hby d2_4) _ k) ?_
 rw [len_of S1 M1]
 show own_Go p e below _ (s₁.setTop (mkF m 5 #[vR a0, vR a1] [(.int (0 : Int32)), (.int (0 : Int32)), (.ref a1), (.ref a0)]))
 refine own_by (fun _ k => XS.aconstNull X0.here hx rfl (hb hby d2_5) k) ?_
 show own_Go p e below _ (s₁.setTop (mkF m 6 #[vR a0, vR a1] [.null, (.int (0 : Int32)), (.int (0 : Int32)), (.ref a1), (.ref a0)]))
 obtain ⟨_, _, ⟨T2, L2, k2, n2⟩, -, X2', hSq2, hgr2, ⟨Lc2, hQ2, l2, y2, z2, R2⟩, st2⟩ := X0.specialBackS hx (y := (⟨"java/lang/String", "<init>", "([CIILjava/lang/Void;)V"⟩ : MethodName)) rfl hown (mvT hZ (hwd 11 rfl)) (mvT hZ (hwd 12 rfl)) (mvT hZ (hwd 14 rfl)) (by decide) (own_backSH (W := 0) (rmsi4_0 l Z A0 hw [] a0 a1 f_a0_value f_a0_coder h0 n0 Z0 P_E_a0 P_F_a0_value g_a0 P_F_a0_coder) hZ (hwd 14 rfl) (hwd 6 rfl) (by decide) (by decide) hEL CR0.1 (own_sfS P_E_a0.lt (hsf a0 (List.mem_of_getElem? (i := 0) rfl)) own_sf0)) (g := (mkF m 6 #[vR a0, vR a1] [.null, (.int (0 : Int32)), (.int (0 : Int32)), (.ref a1), (.ref a0)])) rfl (by rw [hml]; rfl) (Steps.refl _) (a := a0) (argsL := [(.ref a1), (.int (0 : Int32)), (.int (0 : Int32)), .null]) (rest := []) (lenOf pd_11 rfl) rfl (by show 2 * 0 + _ ≤ _; exact Nat.le_of_eq rfl) (hb hby d2_6) (fun _ _ => ⟨rfl, e0, (by decide : 0 + 4 ≤ _), (by decide : 0 + 8 ≤ _)⟩)
 dsimp only [Pt.U, Pt.locs, Pt.cells, Pt.slots] at X2' l2 y2 z2 st2 hQ2 hSq2 hgr2 R2
 subst l2 y2 z2
 obtain ⟨X2, hS, hZ, hown⟩ := rebS hS (by rw [e0]; exact hk0) X2' hSq2 hgr2 hZ hown
 obtain ⟨kc2, hkc2⟩ : ∃ z, z = T2.heap.size := ⟨_, rfl⟩
 rw [← hkc2] at hS
 have hk2 : kc2 ≤ T2.heap.size := Nat.le_of_eq hkc2
 have CR2 : CHr Z consts_1 s.vm h0 T2.vm T2.heap := CR0.trans R2
 obtain ⟨b3, b4, rfl, Nq2, Kq2, F5, F6, F7, F8, hp9⟩ := hQ2
 have N2 := Fr.app N0 Nq2
 have K2 : Keep h0 T2.heap [a0] := (Keep.refl h0 [a0]).trans Kq2 ((allS (Or.inl (List.mem_of_getElem? (i := 0) rfl)) all0))
 have Z2 : n0 ≤ T2.heap.size := Nat.le_trans Z0 Kq2.1
 refine own_by (fun _ k => st2.trans k) ?_
 show own_Go p e below _ (T2.setTop (mkF m 9 #[vR a0, vR a1] []))
 exact own_ret0W X2 hx hS hk2 hZ hEL hh CR2 Bd.returns (hb hby d2_9) hlk rfl ⟨b3, b4, rfl, N2, K2, F5, F6, F7, F8, hp9⟩ (by decide) (by decide)
theorem pd_8 : parseMethodDescriptor "([C)V" = some ⟨[(.array .char)], none⟩ := by decide +kernel
theorem d1_0 : decode method_3_code 0 = .ok (.iload_n 0, 1) := by decide +kernel
theorem d1_1 : decode method_3_code 1 = .ok (.bipush 24, 2) := by decide +kernel
theorem d1_3 : decode method_3_code 3 = .ok (.iushr, 1) := by decide +kernel
theorem d1_4 : decode method_3_code 4 = .ok (.iconst 3, 1) := by decide +kernel
theorem d1_5 : decode method_3_code 5 = .ok (.iand, 1) := by decide +kernel
theorem d1_6 : decode method_3_code 6 = .ok (.istore_n 1, 1) := by decide +kernel
theorem d1_7 : decode method_3_code 7 = .ok (.iload_n 0, 1) := by decide +kernel
theorem d1_8 : decode method_3_code 8 = .ok (.sipush 255, 3) := by decide +kernel
theorem d1_11 : decode method_3_code 11 = .ok (.iand, 1) := by decide +kernel
theorem d1_12 : decode method_3_code 12 = .ok (.i2c, 1) := by decide +kernel
theorem d1_13 : decode method_3_code 13 = .ok (.istore_n 2, 1) := by decide +kernel
theorem d1_14 : decode method_3_code 14 = .ok (.iload_n 0, 1) := by decide +kernel
theorem d1_15 : decode method_3_code 15 = .ok (.bipush 8, 2) := by decide +kernel
theorem d1_17 : decode method_3_code 17 = .ok (.iushr, 1) := by decide +kernel
theorem d1_18 : decode method_3_code 18 = .ok (.sipush 255, 3) := by decide +kernel
theorem d1_21 : decode method_3_code 21 = .ok (.iand, 1) := by decide +kernel
theorem d1_22 : decode method_3_code 22 = .ok (.i2c, 1) := by decide +kernel
theorem d1_23 : decode method_3_code 23 = .ok (.istore_n 3, 1) := by decide +kernel
theorem d1_24 : decode method_3_code 24 = .ok (.iload_n 0, 1) := by decide +kernel
theorem d1_25 : decode method_3_code 25 = .ok (.bipush 16, 2) := by decide +kernel
theorem d1_27 : decode method_3_code 27 = .ok (.iushr, 1) := by decide +kernel
theorem d1_28 : decode method_3_code 28 = .ok (.sipush 255, 3) := by decide +kernel
theorem d1_31 : decode method_3_code 31 = .ok (.iand, 1) := by decide +kernel
theorem d1_32 : decode method_3_code 32 = .ok (.i2c, 1) := by decide +kernel
theorem d1_33 : decode method_3_code 33 = .ok (.istore 4, 2) := by decide +kernel
theorem d1_35 : decode method_3_code 35 = .ok (.iload_n 1, 1) := by decide +kernel
theorem d1_36 : decode method_3_code 36 = .ok (.ifCond .ne 14, 3) := by decide +kernel
theorem d1_39 : decode method_3_code 39 = .ok (.new 26, 3) := by decide +kernel
theorem d1_42 : decode method_3_code 42 = .ok (.dup, 1) := by decide +kernel
theorem d1_43 : decode method_3_code 43 = .ok (.iconst 0, 1) := by decide +kernel
theorem d1_44 : decode method_3_code 44 = .ok (.newarray .char, 2) := by decide +kernel
theorem d1_46 : decode method_3_code 46 = .ok (.invokespecial 35, 3) := by decide +kernel
theorem d1_49 : decode method_3_code 49 = .ok (.areturn, 1) := by decide +kernel
theorem d1_50 : decode method_3_code 50 = .ok (.iload_n 1, 1) := by decide +kernel
theorem d1_51 : decode method_3_code 51 = .ok (.iconst 1, 1) := by decide +kernel
theorem d1_52 : decode method_3_code 52 = .ok (.if_icmp .ne 18, 3) := by decide +kernel
theorem d1_55 : decode method_3_code 55 = .ok (.new 26, 3) := by decide +kernel
theorem d1_58 : decode method_3_code 58 = .ok (.dup, 1) := by decide +kernel
theorem d1_59 : decode method_3_code 59 = .ok (.iconst 1, 1) := by decide +kernel
theorem d1_60 : decode method_3_code 60 = .ok (.newarray .char, 2) := by decide +kernel
theorem d1_62 : decode method_3_code 62 = .ok (.dup, 1) := by decide +kernel
theorem d1_63 : decode method_3_code 63 = .ok (.iconst 0, 1) := by decide +kernel
theorem d1_64 : decode method_3_code 64 = .ok (.iload_n 2, 1) := by decide +kernel
theorem d1_65 : decode method_3_code 65 = .ok (.castore, 1) := by decide +kernel
theorem d1_66 : decode method_3_code 66 = .ok (.invokespecial 35, 3) := by decide +kernel
theorem d1_69 : decode method_3_code 69 = .ok (.areturn, 1) := by decide +kernel
theorem d1_70 : decode method_3_code 70 = .ok (.iload_n 1, 1) := by decide +kernel
theorem d1_71 : decode method_3_code 71 = .ok (.iconst 2, 1) := by decide +kernel
theorem d1_72 : decode method_3_code 72 = .ok (.if_icmp .ne 22, 3) := by decide +kernel
theorem d1_75 : decode method_3_code 75 = .ok (.new 26, 3) := by decide +kernel
theorem d1_78 : decode method_3_code 78 = .ok (.dup, 1) := by decide +kernel
theorem d1_79 : decode method_3_code 79 = .ok (.iconst 2, 1) := by decide +kernel
theorem d1_80 : decode method_3_code 80 = .ok (.newarray .char, 2) := by decide +kernel
theorem d1_82 : decode method_3_code 82 = .ok (.dup, 1) := by decide +kernel
theorem d1_83 : decode method_3_code 83 = .ok (.iconst 0, 1) := by decide +kernel
theorem d1_84 : decode method_3_code 84 = .ok (.iload_n 2, 1) := by decide +kernel
theorem d1_85 : decode method_3_code 85 = .ok (.castore, 1) := by decide +kernel
theorem d1_86 : decode method_3_code 86 = .ok (.dup, 1) := by decide +kernel
theorem d1_87 : decode method_3_code 87 = .ok (.iconst 1, 1) := by decide +kernel
theorem d1_88 : decode method_3_code 88 = .ok (.iload_n 3, 1) := by decide +kernel
theorem d1_89 : decode method_3_code 89 = .ok (.castore, 1) := by decide +kernel
theorem d1_90 : decode method_3_code 90 = .ok (.invokespecial 35, 3) := by decide +kernel
theorem d1_93 : decode method_3_code 93 = .ok (.areturn, 1) := by decide +kernel
theorem d1_94 : decode method_3_code 94 = .ok (.new 26, 3) := by decide +kernel
theorem d1_97 : decode method_3_code 97 = .ok (.dup, 1) := by decide +kernel
theorem d1_98 : decode method_3_code 98 = .ok (.iconst 3, 1) := by decide +kernel
theorem d1_99 : decode method_3_code 99 = .ok (.newarray .char, 2) := by decide +kernel
theorem d1_101 : decode method_3_code 101 = .ok (.dup, 1) := by decide +kernel
theorem d1_102 : decode method_3_code 102 = .ok (.iconst 0, 1) := by decide +kernel
theorem d1_103 : decode method_3_code 103 = .ok (.iload_n 2, 1) := by decide +kernel
theorem d1_104 : decode method_3_code 104 = .ok (.castore, 1) := by decide +kernel
theorem d1_105 : decode method_3_code 105 = .ok (.dup, 1) := by decide +kernel
theorem d1_106 : decode method_3_code 106 = .ok (.iconst 1, 1) := by decide +kernel
theorem d1_107 : decode method_3_code 107 = .ok (.iload_n 3, 1) := by decide +kernel
theorem d1_108 : decode method_3_code 108 = .ok (.castore, 1) := by decide +kernel
theorem d1_109 : decode method_3_code 109 = .ok (.dup, 1) := by decide +kernel
theorem d1_110 : decode method_3_code 110 = .ok (.iconst 2, 1) := by decide +kernel
theorem d1_111 : decode method_3_code 111 = .ok (.iload 4, 2) := by decide +kernel
theorem d1_113 : decode method_3_code 113 = .ok (.castore, 1) := by decide +kernel
theorem d1_114 : decode method_3_code 114 = .ok (.invokespecial 35, 3) := by decide +kernel
theorem d1_117 : decode method_3_code 117 = .ok (.areturn, 1) := by decide +kernel
theorem pn_draw : plainName "com/example/model_check_sql/modelchecksql/model/ModelReadingLocatedPinLaw" = true := by first | (simp [plainName, overriddenIn]; done) | decide +kernel
theorem ef_draw (m : MethodId) (p0 : Int32) : entryFrame m #[(.int p0)] 5 = mkF m 0 #[vI p0, .unset, .unset, .unset, .unset] [] := by first | (simp [entryFrame, mkF, argsToLocals, Value.category]; done) | rfl
theorem ob_draw_1 (f_CS : Int32) (p0 : Int32) (hn_CS : ¬ (f_CS = (0 : Int32))) (hp_1 : ¬ ((255 : Int32) < (nar .char ((p0 &&& (255 : Int32)).toUInt32.toUInt16.toUInt32.toInt32)))) (hp_2 : ¬ ((255 : Int32) < (nar .char ((((p0.toUInt32 >>> ((8 : Int32) &&& 31).toUInt32).toInt32) &&& (255 : Int32)).toUInt32.toUInt16.toUInt32.toInt32)))) (hp_3 : ¬ ((255 : Int32) < (nar .char ((((p0.toUInt32 >>> ((16 : Int32) &&& 31).toUInt32).toInt32) &&& (255 : Int32)).toUInt32.toUInt16.toUInt32.toInt32)))) (c1 : (((p0.toUInt32 >>> ((24 : Int32) &&& 31).toUInt32).toInt32) &&& (3 : Int32)) = (0 : Int32)) (hp14 : (((True)))) : own_draw p0 (0 : Int32) (own_li []) := by
  refine ⟨c1.symm, ?_, ?_, ?_⟩ <;> intro h <;> first | exact absurd h (by decide) | rfl
theorem ob_draw_2 (f_CS : Int32) (p0 : Int32) (hn_CS : ¬ (f_CS = (0 : Int32))) (hp_1 : ¬ ((255 : Int32) < (nar .char ((p0 &&& (255 : Int32)).toUInt32.toUInt16.toUInt32.toInt32)))) (hp_2 : ¬ ((255 : Int32) < (nar .char ((((p0.toUInt32 >>> ((8 : Int32) &&& 31).toUInt32).toInt32) &&& (255 : Int32)).toUInt32.toUInt16.toUInt32.toInt32)))) (hp_3 : ¬ ((255 : Int32) < (nar .char ((((p0.toUInt32 >>> ((16 : Int32) &&& 31).toUInt32).toInt32) &&& (255 : Int32)).toUInt32.toUInt16.toUInt32.toInt32)))) (c1 : ¬ ((((p0.toUInt32 >>> ((24 : Int32) &&& 31).toUInt32).toInt32) &&& (3 : Int32)) = (0 : Int32))) (c15 : (((p0.toUInt32 >>> ((24 : Int32) &&& 31).toUInt32).toInt32) &&& (3 : Int32)) = (1 : Int32)) : own_draw p0 (1 : Int32) (own_upd (fun _ => (0 : Int32)) 0 (nar .byte ((nar .char ((p0 &&& (255 : Int32)).toUInt32.toUInt16.toUInt32.toInt32)).toInt8.toInt32))) := by
  refine ⟨c15.symm, ?_, ?_, ?_⟩ <;> intro h <;> first | exact absurd h (by decide) | rfl
theorem ob_draw_3 (f_CS : Int32) (p0 : Int32) (hn_CS : ¬ (f_CS = (0 : Int32))) (hp_1 : ¬ ((255 : Int32) < (nar .char ((p0 &&& (255 : Int32)).toUInt32.toUInt16.toUInt32.toInt32)))) (hp_2 : ¬ ((255 : Int32) < (nar .char ((((p0.toUInt32 >>> ((8 : Int32) &&& 31).toUInt32).toInt32) &&& (255 : Int32)).toUInt32.toUInt16.toUInt32.toInt32)))) (hp_3 : ¬ ((255 : Int32) < (nar .char ((((p0.toUInt32 >>> ((16 : Int32) &&& 31).toUInt32).toInt32) &&& (255 : Int32)).toUInt32.toUInt16.toUInt32.toInt32)))) (c1 : ¬ ((((p0.toUInt32 >>> ((24 : Int32) &&& 31).toUInt32).toInt32) &&& (3 : Int32)) = (0 : Int32))) (c15 : ¬ ((((p0.toUInt32 >>> ((24 : Int32) &&& 31).toUInt32).toInt32) &&& (3 : Int32)) = (1 : Int32))) (c33 : (((p0.toUInt32 >>> ((24 : Int32) &&& 31).toUInt32).toInt32) &&& (3 : Int32)) = (2 : Int32)) : own_draw p0 (2 : Int32) (own_upd (own_upd (fun _ => (0 : Int32)) 0 (nar .byte ((nar .char ((p0 &&& (255 : Int32)).toUInt32.toUInt16.toUInt32.toInt32)).toInt8.toInt32))) 1 (nar .byte ((nar .char ((((p0.toUInt32 >>> ((8 : Int32) &&& 31).toUInt32).toInt32) &&& (255 : Int32)).toUInt32.toUInt16.toUInt32.toInt32)).toInt8.toInt32))) := by
  refine ⟨c33.symm, ?_, ?_, ?_⟩ <;> intro h <;> first | exact absurd h (by decide) | rfl
theorem ob_draw_4 (f_CS : Int32) (p0 : Int32) (hn_CS : ¬ (f_CS = (0 : Int32))) (hp_1 : ¬ ((255 : Int32) < (nar .char ((p0 &&& (255 : Int32)).toUInt32.toUInt16.toUInt32.toInt32)))) (hp_2 : ¬ ((255 : Int32) < (nar .char ((((p0.toUInt32 >>> ((8 : Int32) &&& 31).toUInt32).toInt32) &&& (255 : Int32)).toUInt32.toUInt16.toUInt32.toInt32)))) (hp_3 : ¬ ((255 : Int32) < (nar .char ((((p0.toUInt32 >>> ((16 : Int32) &&& 31).toUInt32).toInt32) &&& (255 : Int32)).toUInt32.toUInt16.toUInt32.toInt32)))) (c1 : ¬ ((((p0.toUInt32 >>> ((24 : Int32) &&& 31).toUInt32).toInt32) &&& (3 : Int32)) = (0 : Int32))) (c15 : ¬ ((((p0.toUInt32 >>> ((24 : Int32) &&& 31).toUInt32).toInt32) &&& (3 : Int32)) = (1 : Int32))) (c33 : ¬ ((((p0.toUInt32 >>> ((24 : Int32) &&& 31).toUInt32).toInt32) &&& (3 : Int32)) = (2 : Int32))) : own_draw p0 (3 : Int32) (own_upd (own_upd (own_upd (fun _ => (0 : Int32)) 0 (nar .byte ((nar .char ((p0 &&& (255 : Int32)).toUInt32.toUInt16.toUInt32.toInt32)).toInt8.toInt32))) 1 (nar .byte ((nar .char ((((p0.toUInt32 >>> ((8 : Int32) &&& 31).toUInt32).toInt32) &&& (255 : Int32)).toUInt32.toUInt16.toUInt32.toInt32)).toInt8.toInt32))) 2 (nar .byte ((nar .char ((((p0.toUInt32 >>> ((16 : Int32) &&& 31).toUInt32).toInt32) &&& (255 : Int32)).toUInt32.toUInt16.toUInt32.toInt32)).toInt8.toInt32))) := by
  refine ⟨own_len3 _ c1 c15 c33, ?_, ?_, ?_⟩ <;> intro h <;> first | exact absurd h (by decide) | rfl
def Qdraw (Z : State) (f_CS : Int32) (p0 : Int32) (h0 : Heap) (n0 : Nat) (v : Option Value) (h : Heap) (L : List Loc) : Prop := ∃ (rr : Addr) (r5001 : Addr) (kk5002 : ClassId) (nn5003 : Int32) (gg5004 : Nat → Int32), v = some (.ref rr) ∧ Fr n0 L ∧ Keep h0 h [] ∧ (n0 ≤ rr) ∧ (h0.size ≤ rr) ∧ (rr ≠ r5001) ∧ Exa Z h rr "java/lang/String" ∧ Fld Z h rr "java/lang/String" "value" "[B" (.ref r5001) ∧ Fld Z h rr "java/lang/String" "coder" "B" (.int (0 : Int32)) ∧ own_Arf Z h r5001 kk5002 .byte nn5003 (fun i => .int (gg5004 i)) ∧ (own_draw p0 nn5003 gg5004)
set_option maxRecDepth 65536 in
set_option maxHeartbeats 40000000 in
theorem rmdraw (l : Launch) (Z : State) (A0 : Array Value) (hw : ∀ d ∈ tables_1, d.before A0 Z = true) (ws : List Jvm.Cond) (f_CS : Int32) (p0 : Int32) (h0 : Heap) (n0 : Nat) (Z0 : n0 ≤ h0.size) (P_S_CS : Sta Z h0 "java/lang/String" "COMPACT_STRINGS" "Z" (.int f_CS)) (hn_CS : ¬ (f_CS = (0 : Int32))) (hp_1 : ¬ ((255 : Int32) < (nar .char ((p0 &&& (255 : Int32)).toUInt32.toUInt16.toUInt32.toInt32)))) (hp_2 : ¬ ((255 : Int32) < (nar .char ((((p0.toUInt32 >>> ((8 : Int32) &&& 31).toUInt32).toInt32) &&& (255 : Int32)).toUInt32.toUInt16.toUInt32.toInt32)))) (hp_3 : ¬ ((255 : Int32) < (nar .char ((((p0.toUInt32 >>> ((16 : Int32) &&& 31).toUInt32).toInt32) &&& (255 : Int32)).toUInt32.toUInt16.toUInt32.toInt32)))) :
    MetFree l (⟨"com/example/model_check_sql/modelchecksql/model/ModelReadingLocatedPinLaw", "draw", "(I)Ljava/lang/String;"⟩ : MethodName) (head1 (Jvm.Cond.code (⟨"com/example/model_check_sql/modelchecksql/model/ModelReadingLocatedPinLaw", "draw", "(I)Ljava/lang/String;"⟩ : MethodName) method_3_code 5 (some (.object "java/lang/String")) :: ws) ({ frames := 4, cells := 6, slots := 12, locals := 66 } : Room)) (fun a U => a = #[(.int p0)] ∧ Z.Warmed39 U.vm ∧ U.heap = h0 ∧ CHv Z consts_1 U.vm h0) (fun _ _ _ _ _ => True) (fun _ U o U' => ∃ v L, o = .returned v ∧ Qdraw Z f_CS p0 h0 n0 v U'.heap L ∧ CHr Z consts_1 U.vm U.heap U'.vm U'.heap ∧ ReturnedEndW U o U' L 6 12) := by
 refine MetFree.of_bodySF (plainFor_of_name pn_draw) hisR ?_
 intro p e s m args below meth c s₁ Bd hml0 hP hK
 obtain ⟨rfl, hZ, hh, hC0⟩ := hP
 have hwd := fun i {d : Jvm.Cond} (h : tables_1[i]? = some d) => hw d (List.mem_of_getElem? h)
 have hx := Bd.exec
 have hby := Bd.bytes
 have hml : c.maxLocals = 5 := hml0
 have hlk : meth.locks = false := Bd.notSynchronized
 have hown : s.vm.findClass "com/example/model_check_sql/modelchecksql/model/ModelReadingLocatedPinLaw" = some m.cls := findClass_of_methodNamed Bd.named
 have hnm := (name_of_methodNamed Bd.named Bd.method).1
 have X0 : Stand p l e ({ frames := 4, cells := 6, slots := 12, locals := 66 } : Room) (s.setVm s.vm) m #[(.int p0)] below meth c s₁ [] 0 0 := Stand.of_body Bd
 have e0 : s₁.heap = h0 := by rw [← hh, Bd.state]; rfl
 have N0 := Fr.nil n0
 have hEL := own_EW hw
 have hwS := fun a ha => hw a (own_atoms a ha)
 have CR0 : CHr Z consts_1 s.vm h0 s.vm h0 := CHr.refl hC0
 obtain ⟨kc0, hkc0⟩ : ∃ z, z = h0.size := ⟨_, rfl⟩
 have hk0 : kc0 ≤ h0.size := Nat.le_of_eq hkc0
 have hS : s.Since s.vm kc0 := own_since s kc0
 show own_Go p e below (own_FinW Z consts_1 s 6 12 (Qdraw Z f_CS p0 h0 n0)) _
 refine own_by (fun t k => castTop (ef_draw m p0) k) ?_
 show own_Go p e below _ (s₁.setTop (mkF m 0 #[vI p0, .unset, .unset, .unset, .unset] []))
 refine own_by (fun _ k => XS.iloadN X0.here hx rfl (hb hby d1_0) rfl k) ?_
 refine own_by (fun _ k => XS.bipush X0.here hx rfl (hb hby d1_1) k) ?_
 refine own_by (fun _ k => XS.iushr X0.here hx rfl (hb hby d1_3) rfl k) ?_
 show own_Go p e below _ (s₁.setTop (mkF m 4 #[vI p0, .unset, .unset, .unset, .unset] [(.int ((p0.toUInt32 >>> ((24 : Int32) &&& 31).toUInt32).toInt32))]))
 refine own_by (fun _ k => XS.iconst X0.here hx rfl (hb hby d1_4) k) ?_
 refine own_by (fun _ k => XS.iand X0.here hx rfl (hb hby d1_5) rfl k) ?_
 show own_Go p e below _ (s₁.setTop (mkF m 6 #[vI p0, .unset, .unset, .unset, .unset] [(.int (((p0.toUInt32 >>> ((24 : Int32) &&& 31).toUInt32).toInt32) &&& (3 : Int32)))]))
 refine own_by (fun _ k => XS.istoreN X0.here hx rfl (hb hby d1_6) rfl (l' := #[vI p0, vI (((p0.toUInt32 >>> ((24 : Int32) &&& 31).toUInt32).toInt32) &&& (3 : Int32)), .unset, .unset, .unset]) rfl k) ?_
 show own_Go p e below _ (s₁.setTop (mkF m 7 #[vI p0, vI (((p0.toUInt32 >>> ((24 : Int32) &&& 31).toUInt32).toInt32) &&& (3 : Int32)), .unset, .unset, .unset] []))
 refine own_by (fun _ k => XS.iloadN X0.here hx rfl (hb hby d1_7) rfl k) ?_
 refine own_by (fun _ k => XS.sipush X0.here hx rfl (hb hby d1_8) k) ?_
 refine own_by (fun _ k => XS.iand X0.here hx rfl (hb hby d1_11) rfl k) ?_
 show own_Go p e below _ (s₁.setTop (mkF m 12 #[vI p0, vI (((p0.toUInt32 >>> ((24 : Int32) &&& 31).toUInt32).toInt32) &&& (3 : Int32)), .unset, .unset, .unset] [(.int (p0 &&& (255 : Int32)))]))
 refine own_by (fun _ k => XS.i2c X0.here hx rfl (hb hby d1_12) rfl k) ?_
 show own_Go p e below _ (s₁.setTop (mkF m 13 #[vI p0, vI (((p0.toUInt32 >>> ((24 : Int32) &&& 31).toUInt32).toInt32) &&& (3 : Int32)), .unset, .unset, .unset] [(.int ((p0 &&& (255 : Int32)).toUInt32.toUInt16.toUInt32.toInt32))]))
 refine own_by (fun _ k => XS.istoreN X0.here hx rfl (hb hby d1_13) rfl (l' := #[vI p0, vI (((p0.toUInt32 >>> ((24 : Int32) &&& 31).toUInt32).toInt32) &&& (3 : Int32)), vI ((p0 &&& (255 : Int32)).toUInt32.toUInt16.toUInt32.toInt32), .unset, .unset]) rfl k) ?_
 show own_Go p e below _ (s₁.setTop (mkF m 14 #[vI p0, vI (((p0.toUInt32 >>> ((24 : Int32) &&& 31).toUInt32).toInt32) &&& (3 : Int32)), vI ((p0 &&& (255 : Int32)).toUInt32.toUInt16.toUInt32.toInt32), .unset, .unset] []))
 refine own_by (fun _ k => XS.iloadN X0.here hx rfl (hb hby d1_14) rfl k) ?_
 refine own_by (fun _ k => XS.bipush X0.here hx rfl (hb hby d1_15) k) ?_
 refine own_by (fun _ k => XS.iushr X0.here hx rfl (hb hby d1_17) rfl k) ?_
 show own_Go p e below _ (s₁.setTop (mkF m 18 #[vI p0, vI (((p0.toUInt32 >>> ((24 : Int32) &&& 31).toUInt32).toInt32) &&& (3 : Int32)), vI ((p0 &&& (255 : Int32)).toUInt32.toUInt16.toUInt32.toInt32), .unset, .unset] [(.int ((p0.toUInt32 >>> ((8 : Int32) &&& 31).toUInt32).toInt32))]))
 refine own_by (fun _ k => XS.sipush X0.here hx rfl (hb hby d1_18) k) ?_
 refine own_by (fun _ k => XS.iand X0.here hx rfl (hb hby d1_21) rfl k) ?_
 show own_Go p e below _ (s₁.setTop (mkF m 22 #[vI p0, vI (((p0.toUInt32 >>> ((24 : Int32) &&& 31).toUInt32).toInt32) &&& (3 : Int32)), vI ((p0 &&& (255 : Int32)).toUInt32.toUInt16.toUInt32.toInt32), .unset, .unset] [(.int (((p0.toUInt32 >>> ((8 : Int32) &&& 31).toUInt32).toInt32) &&& (255 : Int32)))]))
 refine own_by (fun _ k => XS.i2c X0.here hx rfl (hb hby d1_22) rfl k) ?_
 show own_Go p e below _ (s₁.setTop (mkF m 23 #[vI p0, vI (((p0.toUInt32 >>> ((24 : Int32) &&& 31).toUInt32).toInt32) &&& (3 : Int32)), vI ((p0 &&& (255 : Int32)).toUInt32.toUInt16.toUInt32.toInt32), .unset, .unset] [(.int ((((p0.toUInt32 >>> ((8 : Int32) &&& 31).toUInt32).toInt32) &&& (255 : Int32)).toUInt32.toUInt16.toUInt32.toInt32))]))
 refine own_by (fun _ k => XS.istoreN X0.here hx rfl (hb hby d1_23) rfl (l' := #[vI p0, vI (((p0.toUInt32 >>> ((24 : Int32) &&& 31).toUInt32).toInt32) &&& (3 : Int32)), vI ((p0 &&& (255 : Int32)).toUInt32.toUInt16.toUInt32.toInt32), vI ((((p0.toUInt32 >>> ((8 : Int32) &&& 31).toUInt32).toInt32) &&& (255 : Int32)).toUInt32.toUInt16.toUInt32.toInt32), .unset]) rfl k) ?_
 show own_Go p e below _ (s₁.setTop (mkF m 24 #[vI p0, vI (((p0.toUInt32 >>> ((24 : Int32) &&& 31).toUInt32).toInt32) &&& (3 : Int32)), vI ((p0 &&& (255 : Int32)).toUInt32.toUInt16.toUInt32.toInt32), vI ((((p0.toUInt32 >>> ((8 : Int32) &&& 31).toUInt32).toInt32) &&& (255 : Int32)).toUInt32.toUInt16.toUInt32.toInt32), .unset] []))
 refine own_by (fun _ k => XS.iloadN X0.here hx rfl (hb hby d1_24) rfl k) ?_
 refine own_by (fun _ k => XS.bipush X0.here hx rfl (hb hby d1_25) k) ?_
 refine own_by (fun _ k => XS.iushr X0.here hx rfl (hb hby d1_27) rfl k) ?_
 show own_Go p e below _ (s₁.setTop (mkF m 28 #[vI p0, vI (((p0.toUInt32 >>> ((24 : Int32) &&& 31).toUInt32).toInt32) &&& (3 : Int32)), vI ((p0 &&& (255 : Int32)).toUInt32.toUInt16.toUInt32.toInt32), vI ((((p0.toUInt32 >>> ((8 : Int32) &&& 31).toUInt32).toInt32) &&& (255 : Int32)).toUInt32.toUInt16.toUInt32.toInt32), .unset] [(.int ((p0.toUInt32 >>> ((16 : Int32) &&& 31).toUInt32).toInt32))]))
 refine own_by (fun _ k => XS.sipush X0.here hx rfl (hb hby d1_28) k) ?_
 refine own_by (fun _ k => XS.iand X0.here hx rfl (hb hby d1_31) rfl k) ?_
 show own_Go p e below _ (s₁.setTop (mkF m 32 #[vI p0, vI (((p0.toUInt32 >>> ((24 : Int32) &&& 31).toUInt32).toInt32) &&& (3 : Int32)), vI ((p0 &&& (255 : Int32)).toUInt32.toUInt16.toUInt32.toInt32), vI ((((p0.toUInt32 >>> ((8 : Int32) &&& 31).toUInt32).toInt32) &&& (255 : Int32)).toUInt32.toUInt16.toUInt32.toInt32), .unset] [(.int (((p0.toUInt32 >>> ((16 : Int32) &&& 31).toUInt32).toInt32) &&& (255 : Int32)))]))
 refine own_by (fun _ k => XS.i2c X0.here hx rfl (hb hby d1_32) rfl k) ?_
 show own_Go p e below _ (s₁.setTop (mkF m 33 #[vI p0, vI (((p0.toUInt32 >>> ((24 : Int32) &&& 31).toUInt32).toInt32) &&& (3 : Int32)), vI ((p0 &&& (255 : Int32)).toUInt32.toUInt16.toUInt32.toInt32), vI ((((p0.toUInt32 >>> ((8 : Int32) &&& 31).toUInt32).toInt32) &&& (255 : Int32)).toUInt32.toUInt16.toUInt32.toInt32), .unset] [(.int ((((p0.toUInt32 >>> ((16 : Int32) &&& 31).toUInt32).toInt32) &&& (255 : Int32)).toUInt32.toUInt16.toUInt32.toInt32))]))
 refine own_by (fun _ k => XS.istore X0.here hx rfl (hb hby d1_33) rfl (l' := #[vI p0, vI (((p0.toUInt32 >>> ((24 : Int32) &&& 31).toUInt32).toInt32) &&& (3 : Int32)), vI ((p0 &&& (255 : Int32)).toUInt32.toUInt16.toUInt32.toInt32), vI ((((p0.toUInt32 >>> ((8 : Int32) &&& 31).toUInt32).toInt32) &&& (255 : Int32)).toUInt32.toUInt16.toUInt32.toInt32), vI ((((p0.toUInt32 >>> ((16 : Int32) &&& 31).toUInt32).toInt32) &&& (255 : Int32)).toUInt32.toUInt16.toUInt32.toInt32)]) rfl k) ?_
 show own_Go p e below _ (s₁.setTop (mkF m 35 #[vI p0, vI (((p0.toUInt32 >>> ((24 : Int32) &&& 31).toUInt32).toInt32) &&& (3 : Int32)), vI ((p0 &&& (255 : Int32)).toUInt32.toUInt16.toUInt32.toInt32), vI ((((p0.toUInt32 >>> ((8 : Int32) &&& 31).toUInt32).toInt32) &&& (255 : Int32)).toUInt32.toUInt16.toUInt32.toInt32), vI ((((p0.toUInt32 >>> ((16 : Int32) &&& 31).toUInt32).toInt32) &&& (255 : Int32)).toUInt32.toUInt16.toUInt32.toInt32)] []))
 refine own_by (fun _ k => XS.iloadN X0.here hx rfl (hb hby d1_35) rfl k) ?_
 by_cases c1 : (((p0.toUInt32 >>> ((24 : Int32) &&& 31).toUInt32).toInt32) &&& (3 : Int32)) = (0 : Int32)
 ·skip
  refine own_by (fun _ k => XS.ifNo X0.here hx rfl (hb hby d1_36) rfl ((if0 _ _).trans (teq c1).2) k) ?_
  show own_Go p e below _ (s₁.setTop (mkF m 39 #[vI p0, vI (((p0.toUInt32 >>> ((24 : Int32) &&& 31).toUInt32).toInt32) &&& (3 : Int32)), vI ((p0 &&& (255 : Int32)).toUInt32.toUInt16.toUInt32.toInt32), vI ((((p0.toUInt32 >>> ((8 : Int32) &&& 31).toUInt32).toInt32) &&& (255 : Int32)).toUInt32.toUInt16.toUInt32.toInt32), vI ((((p0.toUInt32 >>> ((16 : Int32) &&& 31).toUInt32).toInt32) &&& (255 : Int32)).toUInt32.toUInt16.toUInt32.toInt32)] []))
  obtain ⟨T2, h2, X2, e2, E2, A2, D2, -, st2⟩ := newO X0 hx hZ hown (hwd 4 rfl) (hwd 5 rfl) (hwd 6 rfl) e0 (g := (mkF m 39 #[vI p0, vI (((p0.toUInt32 >>> ((24 : Int32) &&& 31).toUInt32).toInt32) &&& (3 : Int32)), vI ((p0 &&& (255 : Int32)).toUInt32.toUInt16.toUInt32.toInt32), vI ((((p0.toUInt32 >>> ((8 : Int32) &&& 31).toUInt32).toInt32) &&& (255 : Int32)).toUInt32.toUInt16.toUInt32.toInt32), vI ((((p0.toUInt32 >>> ((16 : Int32) &&& 31).toUInt32).toInt32) &&& (255 : Int32)).toUInt32.toUInt16.toUInt32.toInt32)] [])) rfl (hb hby d1_39) (by decide) (by decide)
  obtain ⟨b2, g2⟩ : ∃ z, z = h0.size := ⟨_, rfl⟩
  have ge_b2 : n0 ≤ b2 := Nat.le_trans Z0 (Nat.le_of_eq g2.symm)
  have sz_b2 : h0.size ≤ b2 := Nat.le_trans (Keep.refl h0 []).1 (Nat.le_of_eq g2.symm)
  have R2 : CHr Z consts_1 s.vm h0 s.vm h2 := CHr.ext E2 CR0.1
  have CR2 : CHr Z consts_1 s.vm h0 s.vm h2 := CR0.trans R2
  have hk2 : kc0 ≤ h2.size := Nat.le_trans hk0 E2.1
  have S_b2 : Safe Z consts_1 s.vm h2 b2 := Safe.ext E2 CR0.1 (Safe.new (Nat.le_of_eq g2.symm))
  have K2 : Keep h0 h2 [] := (Keep.refl h0 []).ext E2
  have Z2 : n0 ≤ h2.size := Nat.le_trans Z0 E2.1
  rw [← g2] at A2 D2 st2
  have lt_b2 := A2.lt
  have F_value_b2 : Fld Z h2 b2 "java/lang/String" "value" "[B" .null := D2 (Or.inr (hwd 20 rfl)) (ty := (.array .byte)) (by decide)
  have F_coder_b2 : Fld Z h2 b2 "java/lang/String" "coder" "B" (.int (0 : Int32)) := D2 (Or.inr (hwd 21 rfl)) (ty := .byte) (by decide)
  refine own_by st2 ?_
  show own_Go p e below _ (T2.setTop (mkF m 42 #[vI p0, vI (((p0.toUInt32 >>> ((24 : Int32) &&& 31).toUInt32).toInt32) &&& (3 : Int32)), vI ((p0 &&& (255 : Int32)).toUInt32.toUInt16.toUInt32.toInt32), vI ((((p0.toUInt32 >>> ((8 : Int32) &&& 31).toUInt32).toInt32) &&& (255 : Int32)).toUInt32.toUInt16.toUInt32.toInt32), vI ((((p0.toUInt32 >>> ((16 : Int32) &&& 31).toUInt32).toInt32) &&& (255 : Int32)).toUInt32.toUInt16.toUInt32.toInt32)] [(.ref b2)]))
  refine own_by (fun _ k => XS.dup X2.here hx rfl (hb hby d1_42) rfl rfl k) ?_
  show own_Go p e below _ (T2.setTop (mkF m 43 #[vI p0, vI (((p0.toUInt32 >>> ((24 : Int32) &&& 31).toUInt32).toInt32) &&& (3 : Int32)), vI ((p0 &&& (255 : Int32)).toUInt32.toUInt16.toUInt32.toInt32), vI ((((p0.toUInt32 >>> ((8 : Int32) &&& 31).toUInt32).toInt32) &&& (255 : Int32)).toUInt32.toUInt16.toUInt32.toInt32), vI ((((p0.toUInt32 >>> ((16 : Int32) &&& 31).toUInt32).toInt32) &&& (255 : Int32)).toUInt32.toUInt16.toUInt32.toInt32)] [(.ref b2), (.ref b2)]))
  refine own_by (fun _ k => XS.iconst X2.here hx rfl (hb hby d1_43) k) ?_
  obtain ⟨T3, h3, k3, X3, e3, E3, A3, st3⟩ := newP X2 hx hZ (hwd 7 rfl) e2 (g := (mkF m 44 #[vI p0, vI (((p0.toUInt32 >>> ((24 : Int32) &&& 31).toUInt32).toInt32) &&& (3 : Int32)), vI ((p0 &&& (255 : Int32)).toUInt32.toUInt16.toUInt32.toInt32), vI ((((p0.toUInt32 >>> ((8 : Int32) &&& 31).toUInt32).toInt32) &&& (255 : Int32)).toUInt32.toUInt16.toUInt32.toInt32), vI ((((p0.toUInt32 >>> ((16 : Int32) &&& 31).toUInt32).toInt32) &&& (255 : Int32)).toUInt32.toUInt16.toUInt32.toInt32)] [(.int (0 : Int32)), (.ref b2), (.ref b2)])) rfl (hb hby d1_44) rfl (by decide) (cap := 0) (by decide) (by decide) (by decide) (by decide)
  obtain ⟨b3, g3⟩ : ∃ z, z = h2.size := ⟨_, rfl⟩
  have ge_b3 : n0 ≤ b3 := Nat.le_trans Z2 (Nat.le_of_eq g3.symm)
  have sz_b3 : h0.size ≤ b3 := Nat.le_trans K2.1 (Nat.le_of_eq g3.symm)
  have R3 : CHr Z consts_1 s.vm h2 s.vm h3 := CHr.ext E3 CR2.1
  have CR3 : CHr Z consts_1 s.vm h0 s.vm h3 := CR2.trans R3
  have hk3 : kc0 ≤ h3.size := Nat.le_trans hk2 E3.1
  have S_b3 : Safe Z consts_1 s.vm h3 b3 := Safe.ext E3 CR2.1 (Safe.new (Nat.le_of_eq g3.symm))
  have K3 : Keep h0 h3 [] := K2.ext E3
  have Z3 : n0 ≤ h3.size := Nat.le_trans Z2 E3.1
  rw [← g3] at A3 st3
  have V3 : own_Arf Z h3 b3 k3 .char (0 : Int32) (fun i => .int ((fun _ => (0 : Int32)) i)) := own_arfNew A3 (by decide)
  refine own_by st3 ?_
  show own_Go p e below _ (T3.setTop (mkF m 46 #[vI p0, vI (((p0.toUInt32 >>> ((24 : Int32) &&& 31).toUInt32).toInt32) &&& (3 : Int32)), vI ((p0 &&& (255 : Int32)).toUInt32.toUInt16.toUInt32.toInt32), vI ((((p0.toUInt32 >>> ((8 : Int32) &&& 31).toUInt32).toInt32) &&& (255 : Int32)).toUInt32.toUInt16.toUInt32.toInt32), vI ((((p0.toUInt32 >>> ((16 : Int32) &&& 31).toUInt32).toInt32) &&& (255 : Int32)).toUInt32.toUInt16.toUInt32.toInt32)] [(.ref b3), (.ref b2), (.ref b2)]))
  have F4 : Exa Z h3 b2 "java/lang/String" := (A2.ext E3)
  have F5 : Fld Z h3 b2 "java/lang/String" "value" "[B" .null := (F_value_b2.ext E3)
  have F6 : Fld Z h3 b2 "java/lang/String" "coder" "B" (.int (0 : Int32)) := (F_coder_b2.ext E3)
  obtain ⟨_, _, ⟨T7, L7, k7, n7⟩, -, X7', hSq7, hgr7, ⟨Lc7, hQ7, l7, y7, z7, R7⟩, st7⟩ := X3.specialBackS hx (y := (⟨"java/lang/String", "<init>", "([C)V"⟩ : MethodName)) rfl hown (mvT hZ (hwd 8 rfl)) (mvT hZ (hwd 9 rfl)) (mvT hZ (hwd 10 rfl)) (by decide) (own_backSH (W := 1) (rmsi0 l Z A0 hw [] k3 (fun _ => (0 : Int32)) b2 b3 (.null) (0 : Int32) h3 n0 Z3 F4 V3 F5 F6 ge_b2) hZ (hwd 10 rfl) (hwd 6 rfl) (by decide) (by decide) hEL CR3.1 (own_sfS F4.lt (CHr.safe R3 lt_b2 S_b2) own_sf0)) (g := (mkF m 46 #[vI p0, vI (((p0.toUInt32 >>> ((24 : Int32) &&& 31).toUInt32).toInt32) &&& (3 : Int32)), vI ((p0 &&& (255 : Int32)).toUInt32.toUInt16.toUInt32.toInt32), vI ((((p0.toUInt32 >>> ((8 : Int32) &&& 31).toUInt32).toInt32) &&& (255 : Int32)).toUInt32.toUInt16.toUInt32.toInt32), vI ((((p0.toUInt32 >>> ((16 : Int32) &&& 31).toUInt32).toInt32) &&& (255 : Int32)).toUInt32.toUInt16.toUInt32.toInt32)] [(.ref b3), (.ref b2), (.ref b2)])) rfl (by rw [hml]; rfl) (Steps.refl _) (a := b2) (argsL := [(.ref b3)]) (rest := [(.ref b2)]) (lenOf pd_8 rfl) rfl (by show 2 * 0 + _ ≤ _; exact Nat.le_of_eq rfl) (hb hby d1_46) (fun _ _ => ⟨rfl, e3, (by decide : 2 + 4 ≤ _), (by decide : 4 + 8 ≤ _)⟩)
  dsimp only [Pt.U, Pt.locs, Pt.cells, Pt.slots] at X7' l7 y7 z7 st7 hQ7 hSq7 hgr7 R7
  subst l7 y7 z7
  obtain ⟨X7, hS, hZ, hown⟩ := rebS hS (by rw [e3]; exact hk3) X7' hSq7 hgr7 hZ hown
  obtain ⟨kc7, hkc7⟩ : ∃ z, z = T7.heap.size := ⟨_, rfl⟩
  rw [← hkc7] at hS
  have hk7 : kc7 ≤ T7.heap.size := Nat.le_of_eq hkc7
  have CR7 : CHr Z consts_1 s.vm h0 T7.vm T7.heap := CR3.trans R7
  obtain ⟨b8, b9, rfl, Nq7, Kq7, F10, F11, F12, F13, hp14⟩ := hQ7
  have N7 := Fr.app N0 Nq7
  have K7 : Keep h0 T7.heap [] := K3.trans Kq7 ((allS (Or.inr sz_b2) all0))
  have Z7 : n0 ≤ T7.heap.size := Nat.le_trans Z3 Kq7.1
  refine own_by (fun _ k => st7.trans k) ?_
  show own_Go p e below _ (T7.setTop (mkF m 49 #[vI p0, vI (((p0.toUInt32 >>> ((24 : Int32) &&& 31).toUInt32).toInt32) &&& (3 : Int32)), vI ((p0 &&& (255 : Int32)).toUInt32.toUInt16.toUInt32.toInt32), vI ((((p0.toUInt32 >>> ((8 : Int32) &&& 31).toUInt32).toInt32) &&& (255 : Int32)).toUInt32.toUInt16.toUInt32.toInt32), vI ((((p0.toUInt32 >>> ((16 : Int32) &&& 31).toUInt32).toInt32) &&& (255 : Int32)).toUInt32.toUInt16.toUInt32.toInt32)] [(.ref b2)]))
  exact own_retRW X7 hx hS hk7 hZ hEL hh CR7 Bd.returns (by decide) rfl (hb hby d1_49) hlk rfl ⟨b2, b8, b9, (0 : Int32), (own_li []), rfl, N7, K7, ge_b2, sz_b2, (Ne.symm (Ne.symm (own_neArr ((A2.ext E3).keep Kq7) (hwd 5 rfl) F13))), F10, F11, F12, F13, (ob_draw_1 f_CS p0 hn_CS hp_1 hp_2 hp_3 c1 hp14)⟩ (by decide) (by decide)
 ·skip
  refine own_by (fun _ k => XS.ifYes X0.here hx rfl (pc0 := 36) (pc' := 50) rfl (hb hby d1_36) rfl ((if0 _ _).trans (feq c1).2) (by decide) (by decide) k) ?_
  show own_Go p e below _ (s₁.setTop (mkF m 50 #[vI p0, vI (((p0.toUInt32 >>> ((24 : Int32) &&& 31).toUInt32).toInt32) &&& (3 : Int32)), vI ((p0 &&& (255 : Int32)).toUInt32.toUInt16.toUInt32.toInt32), vI ((((p0.toUInt32 >>> ((8 : Int32) &&& 31).toUInt32).toInt32) &&& (255 : Int32)).toUInt32.toUInt16.toUInt32.toInt32), vI ((((p0.toUInt32 >>> ((16 : Int32) &&& 31).toUInt32).toInt32) &&& (255 : Int32)).toUInt32.toUInt16.toUInt32.toInt32)] []))
  refine own_by (fun _ k => XS.iloadN X0.here hx rfl (hb hby d1_50) rfl k) ?_
  refine own_by (fun _ k => XS.iconst X0.here hx rfl (hb hby d1_51) k) ?_
  by_cases c15 : (((p0.toUInt32 >>> ((24 : Int32) &&& 31).toUInt32).toInt32) &&& (3 : Int32)) = (1 : Int32)
  ·skip
   refine own_by (fun _ k => XS.icmpNo X0.here hx rfl (hb hby d1_52) rfl (teq c15).2 k) ?_
   show own_Go p e below _ (s₁.setTop (mkF m 55 #[vI p0, vI (((p0.toUInt32 >>> ((24 : Int32) &&& 31).toUInt32).toInt32) &&& (3 : Int32)), vI ((p0 &&& (255 : Int32)).toUInt32.toUInt16.toUInt32.toInt32), vI ((((p0.toUInt32 >>> ((8 : Int32) &&& 31).toUInt32).toInt32) &&& (255 : Int32)).toUInt32.toUInt16.toUInt32.toInt32), vI ((((p0.toUInt32 >>> ((16 : Int32) &&& 31).toUInt32).toInt32) &&& (255 : Int32)).toUInt32.toUInt16.toUInt32.toInt32)] []))
   obtain ⟨T16, h16, X16, e16, E16, A16, D16, -, st16⟩ := newO X0 hx hZ hown (hwd 4 rfl) (hwd 5 rfl) (hwd 6 rfl) e0 (g := (mkF m 55 #[vI p0, vI (((p0.toUInt32 >>> ((24 : Int32) &&& 31).toUInt32).toInt32) &&& (3 : Int32)), vI ((p0 &&& (255 : Int32)).toUInt32.toUInt16.toUInt32.toInt32), vI ((((p0.toUInt32 >>> ((8 : Int32) &&& 31).toUInt32).toInt32) &&& (255 : Int32)).toUInt32.toUInt16.toUInt32.toInt32), vI ((((p0.toUInt32 >>> ((16 : Int32) &&& 31).toUInt32).toInt32) &&& (255 : Int32)).toUInt32.toUInt16.toUInt32.toInt32)] [])) rfl (hb hby d1_55) (by decide) (by decide)
   obtain ⟨b16, g16⟩ : ∃ z, z = h0.size := ⟨_, rfl⟩
   have ge_b16 : n0 ≤ b16 := Nat.le_trans Z0 (Nat.le_of_eq g16.symm)
   have sz_b16 : h0.size ≤ b16 := Nat.le_trans (Keep.refl h0 []).1 (Nat.le_of_eq g16.symm)
   have R16 : CHr Z consts_1 s.vm h0 s.vm h16 := CHr.ext E16 CR0.1
   have CR16 : CHr Z consts_1 s.vm h0 s.vm h16 := CR0.trans R16
   have hk16 : kc0 ≤ h16.size := Nat.le_trans hk0 E16.1
   have S_b16 : Safe Z consts_1 s.vm h16 b16 := Safe.ext E16 CR0.1 (Safe.new (Nat.le_of_eq g16.symm))
   have K16 : Keep h0 h16 [] := (Keep.refl h0 []).ext E16
   have Z16 : n0 ≤ h16.size := Nat.le_trans Z0 E16.1
   rw [← g16] at A16 D16 st16
   have lt_b16 := A16.lt
   have F_value_b16 : Fld Z h16 b16 "java/lang/String" "value" "[B" .null := D16 (Or.inr (hwd 20 rfl)) (ty := (.array .byte)) (by decide)
   have F_coder_b16 : Fld Z h16 b16 "java/lang/String" "coder" "B" (.int (0 : Int32)) := D16 (Or.inr (hwd 21 rfl)) (ty := .byte) (by decide)
   refine own_by st16 ?_
   show own_Go p e below _ (T16.setTop (mkF m 58 #[vI p0, vI (((p0.toUInt32 >>> ((24 : Int32) &&& 31).toUInt32).toInt32) &&& (3 : Int32)), vI ((p0 &&& (255 : Int32)).toUInt32.toUInt16.toUInt32.toInt32), vI ((((p0.toUInt32 >>> ((8 : Int32) &&& 31).toUInt32).toInt32) &&& (255 : Int32)).toUInt32.toUInt16.toUInt32.toInt32), vI ((((p0.toUInt32 >>> ((16 : Int32) &&& 31).toUInt32).toInt32) &&& (255 : Int32)).toUInt32.toUInt16.toUInt32.toInt32)] [(.ref b16)]))
   refine own_by (fun _ k => XS.dup X16.here hx rfl (hb hby d1_58) rfl rfl k) ?_
   show own_Go p e below _ (T16.setTop (mkF m 59 #[vI p0, vI (((p0.toUInt32 >>> ((24 : Int32) &&& 31).toUInt32).toInt32) &&& (3 : Int32)), vI ((p0 &&& (255 : Int32)).toUInt32.toUInt16.toUInt32.toInt32), vI ((((p0.toUInt32 >>> ((8 : Int32) &&& 31).toUInt32).toInt32) &&& (255 : Int32)).toUInt32.toUInt16.toUInt32.toInt32), vI ((((p0.toUInt32 >>> ((16 : Int32) &&& 31).toUInt32).toInt32) &&& (255 : Int32)).toUInt32.toUInt16.toUInt32.toInt32)] [(.ref b16), (.ref b16)]))
   refine own_by (fun _ k => XS.iconst X16.here hx rfl (hb hby d1_59) k) ?_
   obtain ⟨T17, h17, k17, X17, e17, E17, A17, st17⟩ := newP X16 hx hZ (hwd 7 rfl) e16 (g := (mkF m 60 #[vI p0, vI (((p0.toUInt32 >>> ((24 : Int32) &&& 31).toUInt32).toInt32) &&& (3 : Int32)), vI ((p0 &&& (255 : Int32)).toUInt32.toUInt16.toUInt32.toInt32), vI ((((p0.toUInt32 >>> ((8 : Int32) &&& 31).toUInt32).toInt32) &&& (255 : Int32)).toUInt32.toUInt16.toUInt32.toInt32), vI ((((p0.toUInt32 >>> ((16 : Int32) &&& 31).toUInt32).toInt32) &&& (255 : Int32)).toUInt32.toUInt16.toUInt32.toInt32)] [(.int (1 : Int32)), (.ref b16), (.ref b16)])) rfl (hb hby d1_60) rfl (by decide) (cap := 1) (by decide) (by decide) (by decide) (by decide)
   obtain ⟨b17, g17⟩ : ∃ z, z = h16.size := ⟨_, rfl⟩
   have ge_b17 : n0 ≤ b17 := Nat.le_trans Z16 (Nat.le_of_eq g17.symm)
   have sz_b17 : h0.size ≤ b17 := Nat.le_trans K16.1 (Nat.le_of_eq g17.symm)
   have R17 : CHr Z consts_1 s.vm h16 s.vm h17 := CHr.ext E17 CR16.1
   have CR17 : CHr Z consts_1 s.vm h0 s.vm h17 := CR16.trans R17
   have hk17 : kc0 ≤ h17.size := Nat.le_trans hk16 E17.1
   have S_b17 : Safe Z consts_1 s.vm h17 b17 := Safe.ext E17 CR16.1 (Safe.new (Nat.le_of_eq g17.symm))
   have K17 : Keep h0 h17 [] := K16.ext E17
   have Z17 : n0 ≤ h17.size := Nat.le_trans Z16 E17.1
   rw [← g17] at A17 st17
   have V17 : own_Arf Z h17 b17 k17 .char (1 : Int32) (fun i => .int ((fun _ => (0 : Int32)) i)) := own_arfNew A17 (by decide)
   refine own_by st17 ?_
   show own_Go p e below _ (T17.setTop (mkF m 62 #[vI p0, vI (((p0.toUInt32 >>> ((24 : Int32) &&& 31).toUInt32).toInt32) &&& (3 : Int32)), vI ((p0 &&& (255 : Int32)).toUInt32.toUInt16.toUInt32.toInt32), vI ((((p0.toUInt32 >>> ((8 : Int32) &&& 31).toUInt32).toInt32) &&& (255 : Int32)).toUInt32.toUInt16.toUInt32.toInt32), vI ((((p0.toUInt32 >>> ((16 : Int32) &&& 31).toUInt32).toInt32) &&& (255 : Int32)).toUInt32.toUInt16.toUInt32.toInt32)] [(.ref b17), (.ref b16), (.ref b16)]))
   refine own_by (fun _ k => XS.dup X17.here hx rfl (hb hby d1_62) rfl rfl k) ?_
   show own_Go p e below _ (T17.setTop (mkF m 63 #[vI p0, vI (((p0.toUInt32 >>> ((24 : Int32) &&& 31).toUInt32).toInt32) &&& (3 : Int32)), vI ((p0 &&& (255 : Int32)).toUInt32.toUInt16.toUInt32.toInt32), vI ((((p0.toUInt32 >>> ((8 : Int32) &&& 31).toUInt32).toInt32) &&& (255 : Int32)).toUInt32.toUInt16.toUInt32.toInt32), vI ((((p0.toUInt32 >>> ((16 : Int32) &&& 31).toUInt32).toInt32) &&& (255 : Int32)).toUInt32.toUInt16.toUInt32.toInt32)] [(.ref b17), (.ref b17), (.ref b16), (.ref b16)]))
   refine own_by (fun _ k => XS.iconst X17.here hx rfl (hb hby d1_63) k) ?_
   refine own_by (fun _ k => XS.iloadN X17.here hx rfl (hb hby d1_64) rfl k) ?_
   obtain ⟨cl18, Ar18, qq18, S18, M18, H18, G18⟩ := id V17
   have hin18 : ¬ ((0 : Int32) < 0 ∨ cl18.slots.size ≤ ((0 : Int32)).toNatClampNeg) := inb_of S18 ⟨by decide, by decide⟩
   obtain ⟨T19, h19, X19, e19, W19, st19⟩ := stC X17 hx hZ e17 Ar18 (j := (0 : Int32)) hin18 (g := (mkF m 65 #[vI p0, vI (((p0.toUInt32 >>> ((24 : Int32) &&& 31).toUInt32).toInt32) &&& (3 : Int32)), vI ((p0 &&& (255 : Int32)).toUInt32.toUInt16.toUInt32.toInt32), vI ((((p0.toUInt32 >>> ((8 : Int32) &&& 31).toUInt32).toInt32) &&& (255 : Int32)).toUInt32.toUInt16.toUInt32.toInt32), vI ((((p0.toUInt32 >>> ((16 : Int32) &&& 31).toUInt32).toInt32) &&& (255 : Int32)).toUInt32.toUInt16.toUInt32.toInt32)] [(.int ((p0 &&& (255 : Int32)).toUInt32.toUInt16.toUInt32.toInt32)), (.int (0 : Int32)), (.ref b17), (.ref b17), (.ref b16), (.ref b16)])) rfl rfl (hb hby d1_65)
   have V19 : own_Arf Z h19 b17 k17 .char (1 : Int32) (fun i => .int ((own_upd (fun _ => (0 : Int32)) 0 (nar .char ((p0 &&& (255 : Int32)).toUInt32.toUInt16.toUInt32.toInt32))) i)) := own_arfSetI Ar18 qq18 S18 M18 H18 G18 (fits_nar_char _) W19
   have R19 : CHr Z consts_1 s.vm h17 s.vm h19 := CHr.wr W19 (own_arfSafe V17 hZ.alike (by decide)) CR17.1
   have CR19 : CHr Z consts_1 s.vm h0 s.vm h19 := CR17.trans R19
   have hk19 : kc0 ≤ h19.size := Nat.le_trans hk17 (Keep.of_wr W19).1
   have K19 : Keep h0 h19 [] := K17.wr W19 (Or.inr sz_b17)
   have Z19 : n0 ≤ h19.size := Nat.le_trans Z17 (Keep.of_wr W19).1
   have N19 := Fr.snoc X19 N0 ge_b17
   refine own_by st19 ?_
   show own_Go p e below _ (T19.setTop (mkF m 66 #[vI p0, vI (((p0.toUInt32 >>> ((24 : Int32) &&& 31).toUInt32).toInt32) &&& (3 : Int32)), vI ((p0 &&& (255 : Int32)).toUInt32.toUInt16.toUInt32.toInt32), vI ((((p0.toUInt32 >>> ((8 : Int32) &&& 31).toUInt32).toInt32) &&& (255 : Int32)).toUInt32.toUInt16.toUInt32.toInt32), vI ((((p0.toUInt32 >>> ((16 : Int32) &&& 31).toUInt32).toInt32) &&& (255 : Int32)).toUInt32.toUInt16.toUInt32.toInt32)] [(.ref b17), (.ref b16), (.ref b16)]))
   have F20 : Sta Z h19 "java/lang/String" "COMPACT_STRINGS" "Z" (.int f_CS) := (((P_S_CS.ext E16).ext E17).wr W19)
   have F21 : Exa Z h19 b16 "java/lang/String" := ((A16.ext E17).wr W19)
   have F22 : Fld Z h19 b16 "java/lang/String" "coder" "B" (.int (0 : Int32)) := ((F_coder_b16.ext E17).other W19 (Or.inl (Nat.ne_of_lt (Nat.lt_of_lt_of_le (A16).lt (Nat.le_of_eq g17.symm)))))
   have F23 : Fld Z h19 b16 "java/lang/String" "value" "[B" .null := ((F_value_b16.ext E17).other W19 (Or.inl (Nat.ne_of_lt (Nat.lt_of_lt_of_le (A16).lt (Nat.le_of_eq g17.symm)))))
   obtain ⟨_, _, ⟨T24, L24, k24, n24⟩, -, X24, ⟨Lc24, hQ24, l24, y24, z24⟩, st24⟩ := X19.specialBack hx (y := (⟨"java/lang/String", "<init>", "([C)V"⟩ : MethodName)) rfl hown (mvT hZ (hwd 8 rfl)) (mvT hZ (hwd 9 rfl)) (mvT hZ (hwd 10 rfl)) (by decide) (backOf (W := 1) (rmsi1 l Z A0 hw [] k17 (own_upd (fun _ => (0 : Int32)) 0 (nar .char ((p0 &&& (255 : Int32)).toUInt32.toUInt16.toUInt32.toInt32))) f_CS b16 b17 (0 : Int32) (.null) h19 n0 Z19 V19 F20 hn_CS hp_1 F21 F22 F23 ge_b16) hZ (hwd 10 rfl) (hwd 6 rfl) (by decide) (by decide)) (g := (mkF m 66 #[vI p0, vI (((p0.toUInt32 >>> ((24 : Int32) &&& 31).toUInt32).toInt32) &&& (3 : Int32)), vI ((p0 &&& (255 : Int32)).toUInt32.toUInt16.toUInt32.toInt32), vI ((((p0.toUInt32 >>> ((8 : Int32) &&& 31).toUInt32).toInt32) &&& (255 : Int32)).toUInt32.toUInt16.toUInt32.toInt32), vI ((((p0.toUInt32 >>> ((16 : Int32) &&& 31).toUInt32).toInt32) &&& (255 : Int32)).toUInt32.toUInt16.toUInt32.toInt32)] [(.ref b17), (.ref b16), (.ref b16)])) rfl (by rw [hml]; rfl) (Steps.refl _) (a := b16) (argsL := [(.ref b17)]) (rest := [(.ref b16)]) (lenOf pd_8 rfl) rfl (by show 2 * 0 + _ ≤ _; exact Nat.le_of_eq rfl) (hb hby d1_66) (fun _ _ => ⟨rfl, e19, (by decide : 2 + 1 ≤ _), (by decide : 5 + 1 ≤ _)⟩)
   dsimp only [Pt.U, Pt.locs, Pt.cells, Pt.slots] at X24 l24 y24 z24 st24 hQ24
   subst l24 y24 z24
   obtain ⟨b25, b26, rfl, Nq24, Kq24, F27, F28, F29, hp30, hp31, F32⟩ := hQ24
   have N24 := Fr.app N19 Nq24
   have R24 : CHr Z consts_1 s.vm h19 s.vm T24.heap := CHr.keep Kq24 ((allS (CHr.safe (R17.trans R19) lt_b16 S_b16) all0)) CR19.1
   have CR24 : CHr Z consts_1 s.vm h0 s.vm T24.heap := CR19.trans R24
   have hk24 : kc0 ≤ T24.heap.size := Nat.le_trans hk19 Kq24.1
   have K24 : Keep h0 T24.heap [] := K19.trans Kq24 ((allS (Or.inr sz_b16) all0))
   have Z24 : n0 ≤ T24.heap.size := Nat.le_trans Z19 Kq24.1
   have sz_b25 : h0.size ≤ b25 := Nat.le_trans K19.1 hp31
   have S_b25 : Safe Z consts_1 s.vm T24.heap b25 := Safe.keep Kq24 ((allS (CHr.safe (R17.trans R19) lt_b16 S_b16) all0)) CR19.1 (Safe.new hp31)
   have lt_b25 := F32.lt
   refine own_by (fun _ k => st24.trans k) ?_
   show own_Go p e below _ (T24.setTop (mkF m 69 #[vI p0, vI (((p0.toUInt32 >>> ((24 : Int32) &&& 31).toUInt32).toInt32) &&& (3 : Int32)), vI ((p0 &&& (255 : Int32)).toUInt32.toUInt16.toUInt32.toInt32), vI ((((p0.toUInt32 >>> ((8 : Int32) &&& 31).toUInt32).toInt32) &&& (255 : Int32)).toUInt32.toUInt16.toUInt32.toInt32), vI ((((p0.toUInt32 >>> ((16 : Int32) &&& 31).toUInt32).toInt32) &&& (255 : Int32)).toUInt32.toUInt16.toUInt32.toInt32)] [(.ref b16)]))
   exact own_retRW X24 hx hS hk24 hZ hEL hh CR24 Bd.returns (by decide) rfl (hb hby d1_69) hlk rfl ⟨b16, b25, b26, (1 : Int32), (own_upd (fun _ => (0 : Int32)) 0 (nar .byte ((nar .char ((p0 &&& (255 : Int32)).toUInt32.toUInt16.toUInt32.toInt32)).toInt8.toInt32))), rfl, N24, K24, ge_b16, sz_b16, (Nat.ne_of_lt (Nat.lt_of_lt_of_le (F21).lt hp31)), F27, F29, F28, F32, (ob_draw_2 f_CS p0 hn_CS hp_1 hp_2 hp_3 c1 c15)⟩ (by decide) (by decide)
  ·skip
   refine own_by (fun _ k => XS.icmpYes X0.here hx rfl (pc0 := 52) (pc' := 70) rfl (hb hby d1_52) rfl (feq c15).2 (by decide) (by decide) k) ?_
   show own_Go p e below _ (s₁.setTop (mkF m 70 #[vI p0, vI (((p0.toUInt32 >>> ((24 : Int32) &&& 31).toUInt32).toInt32) &&& (3 : Int32)), vI ((p0 &&& (255 : Int32)).toUInt32.toUInt16.toUInt32.toInt32), vI ((((p0.toUInt32 >>> ((8 : Int32) &&& 31).toUInt32).toInt32) &&& (255 : Int32)).toUInt32.toUInt16.toUInt32.toInt32), vI ((((p0.toUInt32 >>> ((16 : Int32) &&& 31).toUInt32).toInt32) &&& (255 : Int32)).toUInt32.toUInt16.toUInt32.toInt32)] []))
   refine own_by (fun _ k => XS.iloadN X0.here hx rfl (hb hby d1_70) rfl k) ?_
   refine own_by (fun _ k => XS.iconst X0.here hx rfl (hb hby d1_71) k) ?_
   by_cases c33 : (((p0.toUInt32 >>> ((24 : Int32) &&& 31).toUInt32).toInt32) &&& (3 : Int32)) = (2 : Int32)
   ·skip
    refine own_by (fun _ k => XS.icmpNo X0.here hx rfl (hb hby d1_72) rfl (teq c33).2 k) ?_
    show own_Go p e below _ (s₁.setTop (mkF m 75 #[vI p0, vI (((p0.toUInt32 >>> ((24 : Int32) &&& 31).toUInt32).toInt32) &&& (3 : Int32)), vI ((p0 &&& (255 : Int32)).toUInt32.toUInt16.toUInt32.toInt32), vI ((((p0.toUInt32 >>> ((8 : Int32) &&& 31).toUInt32).toInt32) &&& (255 : Int32)).toUInt32.toUInt16.toUInt32.toInt32), vI ((((p0.toUInt32 >>> ((16 : Int32) &&& 31).toUInt32).toInt32) &&& (255 : Int32)).toUInt32.toUInt16.toUInt32.toInt32)] []))
    obtain ⟨T34, h34, X34, e34, E34, A34, D34, -, st34⟩ := newO X0 hx hZ hown (hwd 4 rfl) (hwd 5 rfl) (hwd 6 rfl) e0 (g := (mkF m 75 #[vI p0, vI (((p0.toUInt32 >>> ((24 : Int32) &&& 31).toUInt32).toInt32) &&& (3 : Int32)), vI ((p0 &&& (255 : Int32)).toUInt32.toUInt16.toUInt32.toInt32), vI ((((p0.toUInt32 >>> ((8 : Int32) &&& 31).toUInt32).toInt32) &&& (255 : Int32)).toUInt32.toUInt16.toUInt32.toInt32), vI ((((p0.toUInt32 >>> ((16 : Int32) &&& 31).toUInt32).toInt32) &&& (255 : Int32)).toUInt32.toUInt16.toUInt32.toInt32)] [])) rfl (hb hby d1_75) (by decide) (by decide)
    obtain ⟨b34, g34⟩ : ∃ z, z = h0.size := ⟨_, rfl⟩
    have ge_b34 : n0 ≤ b34 := Nat.le_trans Z0 (Nat.le_of_eq g34.symm)
    have sz_b34 : h0.size ≤ b34 := Nat.le_trans (Keep.refl h0 []).1 (Nat.le_of_eq g34.symm)
    have R34 : CHr Z consts_1 s.vm h0 s.vm h34 := CHr.ext E34 CR0.1
    have CR34 : CHr Z consts_1 s.vm h0 s.vm h34 := CR0.trans R34
    have hk34 : kc0 ≤ h34.size := Nat.le_trans hk0 E34.1
    have S_b34 : Safe Z consts_1 s.vm h34 b34 := Safe.ext E34 CR0.1 (Safe.new (Nat.le_of_eq g34.symm))
    have K34 : Keep h0 h34 [] := (Keep.refl h0 []).ext E34
    have Z34 : n0 ≤ h34.size := Nat.le_trans Z0 E34.1
    rw [← g34] at A34 D34 st34
    have lt_b34 := A34.lt
    have F_value_b34 : Fld Z h34 b34 "java/lang/String" "value" "[B" .null := D34 (Or.inr (hwd 20 rfl)) (ty := (.array .byte)) (by decide)
    have F_coder_b34 : Fld Z h34 b34 "java/lang/String" "coder" "B" (.int (0 : Int32)) := D34 (Or.inr (hwd 21 rfl)) (ty := .byte) (by decide)
    refine own_by st34 ?_
    show own_Go p e below _ (T34.setTop (mkF m 78 #[vI p0, vI (((p0.toUInt32 >>> ((24 : Int32) &&& 31).toUInt32).toInt32) &&& (3 : Int32)), vI ((p0 &&& (255 : Int32)).toUInt32.toUInt16.toUInt32.toInt32), vI ((((p0.toUInt32 >>> ((8 : Int32) &&& 31).toUInt32).toInt32) &&& (255 : Int32)).toUInt32.toUInt16.toUInt32.toInt32), vI ((((p0.toUInt32 >>> ((16 : Int32) &&& 31).toUInt32).toInt32) &&& (255 : Int32)).toUInt32.toUInt16.toUInt32.toInt32)] [(.ref b34)]))
    refine own_by (fun _ k => XS.dup X34.here hx rfl (hb hby d1_78) rfl rfl k) ?_
    show own_Go p e below _ (T34.setTop (mkF m 79 #[vI p0, vI (((p0.toUInt32 >>> ((24 : Int32) &&& 31).toUInt32).toInt32) &&& (3 : Int32)), vI ((p0 &&& (255 : Int32)).toUInt32.toUInt16.toUInt32.toInt32), vI ((((p0.toUInt32 >>> ((8 : Int32) &&& 31).toUInt32).toInt32) &&& (255 : Int32)).toUInt32.toUInt16.toUInt32.toInt32), vI ((((p0.toUInt32 >>> ((16 : Int32) &&& 31).toUInt32).toInt32) &&& (255 : Int32)).toUInt32.toUInt16.toUInt32.toInt32)] [(.ref b34), (.ref b34)]))
    refine own_by (fun _ k => XS.iconst X34.here hx rfl (hb hby d1_79) k) ?_
    obtain ⟨T35, h35, k35, X35, e35, E35, A35, st35⟩ := newP X34 hx hZ (hwd 7 rfl) e34 (g := (mkF m 80 #[vI p0, vI (((p0.toUInt32 >>> ((24 : Int32) &&& 31).toUInt32).toInt32) &&& (3 : Int32)), vI ((p0 &&& (255 : Int32)).toUInt32.toUInt16.toUInt32.toInt32), vI ((((p0.toUInt32 >>> ((8 : Int32) &&& 31).toUInt32).toInt32) &&& (255 : Int32)).toUInt32.toUInt16.toUInt32.toInt32), vI ((((p0.toUInt32 >>> ((16 : Int32) &&& 31).toUInt32).toInt32) &&& (255 : Int32)).toUInt32.toUInt16.toUInt32.toInt32)] [(.int (2 : Int32)), (.ref b34), (.ref b34)])) rfl (hb hby d1_80) rfl (by decide) (cap := 2) (by decide) (by decide) (by decide) (by decide)
    obtain ⟨b35, g35⟩ : ∃ z, z = h34.size := ⟨_, rfl⟩
    have ge_b35 : n0 ≤ b35 := Nat.le_trans Z34 (Nat.le_of_eq g35.symm)
    have sz_b35 : h0.size ≤ b35 := Nat.le_trans K34.1 (Nat.le_of_eq g35.symm)
    have R35 : CHr Z consts_1 s.vm h34 s.vm h35 := CHr.ext E35 CR34.1
    have CR35 : CHr Z consts_1 s.vm h0 s.vm h35 := CR34.trans R35
    have hk35 : kc0 ≤ h35.size := Nat.le_trans hk34 E35.1
    have S_b35 : Safe Z consts_1 s.vm h35 b35 := Safe.ext E35 CR34.1 (Safe.new (Nat.le_of_eq g35.symm))
    have K35 : Keep h0 h35 [] := K34.ext E35
    have Z35 : n0 ≤ h35.size := Nat.le_trans Z34 E35.1
    rw [← g35] at A35 st35
    have V35 : own_Arf Z h35 b35 k35 .char (2 : Int32) (fun i => .int ((fun _ => (0 : Int32)) i)) := own_arfNew A35 (by decide)
    refine own_by st35 ?_
    show own_Go p e below _ (T35.setTop (mkF m 82 #[vI p0, vI (((p0.toUInt32 >>> ((24 : Int32) &&& 31).toUInt32).toInt32) &&& (3 : Int32)), vI ((p0 &&& (255 : Int32)).toUInt32.toUInt16.toUInt32.toInt32), vI ((((p0.toUInt32 >>> ((8 : Int32) &&& 31).toUInt32).toInt32) &&& (255 : Int32)).toUInt32.toUInt16.toUInt32.toInt32), vI ((((p0.toUInt32 >>> ((16 : Int32) &&& 31).toUInt32).toInt32) &&& (255 : Int32)).toUInt32.toUInt16.toUInt32.toInt32)] [(.ref b35), (.ref b34), (.ref b34)]))
    refine own_by (fun _ k => XS.dup X35.here hx rfl (hb hby d1_82) rfl rfl k) ?_
    show own_Go p e below _ (T35.setTop (mkF m 83 #[vI p0, vI (((p0.toUInt32 >>> ((24 : Int32) &&& 31).toUInt32).toInt32) &&& (3 : Int32)), vI ((p0 &&& (255 : Int32)).toUInt32.toUInt16.toUInt32.toInt32), vI ((((p0.toUInt32 >>> ((8 : Int32) &&& 31).toUInt32).toInt32) &&& (255 : Int32)).toUInt32.toUInt16.toUInt32.toInt32), vI ((((p0.toUInt32 >>> ((16 : Int32) &&& 31).toUInt32).toInt32) &&& (255 : Int32)).toUInt32.toUInt16.toUInt32.toInt32)] [(.ref b35), (.ref b35), (.ref b34), (.ref b34)]))
    refine own_by (fun _ k => XS.iconst X35.here hx rfl (hb hby d1_83) k) ?_
    refine own_by (fun _ k => XS.iloadN X35.here hx rfl (hb hby d1_84) rfl k) ?_
    obtain ⟨cl36, Ar36, qq36, S36, M36, H36, G36⟩ := id V35
    have hin36 : ¬ ((0 : Int32) < 0 ∨ cl36.slots.size ≤ ((0 : Int32)).toNatClampNeg) := inb_of S36 ⟨by decide, by decide⟩
    obtain ⟨T37, h37, X37, e37, W37, st37⟩ := stC X35 hx hZ e35 Ar36 (j := (0 : Int32)) hin36 (g := (mkF m 85 #[vI p0, vI (((p0.toUInt32 >>> ((24 : Int32) &&& 31).toUInt32).toInt32) &&& (3 : Int32)), vI ((p0 &&& (255 : Int32)).toUInt32.toUInt16.toUInt32.toInt32), vI ((((p0.toUInt32 >>> ((8 : Int32) &&& 31).toUInt32).toInt32) &&& (255 : Int32)).toUInt32.toUInt16.toUInt32.toInt32), vI ((((p0.toUInt32 >>> ((16 : Int32) &&& 31).toUInt32).toInt32) &&& (255 : Int32)).toUInt32.toUInt16.toUInt32.toInt32)] [(.int ((p0 &&& (255 : Int32)).toUInt32.toUInt16.toUInt32.toInt32)), (.int (0 : Int32)), (.ref b35), (.ref b35), (.ref b34), (.ref b34)])) rfl rfl (hb hby d1_85)
    have V37 : own_Arf Z h37 b35 k35 .char (2 : Int32) (fun i => .int ((own_upd (fun _ => (0 : Int32)) 0 (nar .char ((p0 &&& (255 : Int32)).toUInt32.toUInt16.toUInt32.toInt32))) i)) := own_arfSetI Ar36 qq36 S36 M36 H36 G36 (fits_nar_char _) W37
    have R37 : CHr Z consts_1 s.vm h35 s.vm h37 := CHr.wr W37 (own_arfSafe V35 hZ.alike (by decide)) CR35.1
    have CR37 : CHr Z consts_1 s.vm h0 s.vm h37 := CR35.trans R37
    have hk37 : kc0 ≤ h37.size := Nat.le_trans hk35 (Keep.of_wr W37).1
    have K37 : Keep h0 h37 [] := K35.wr W37 (Or.inr sz_b35)
    have Z37 : n0 ≤ h37.size := Nat.le_trans Z35 (Keep.of_wr W37).1
    have N37 := Fr.snoc X37 N0 ge_b35
    refine own_by st37 ?_
    show own_Go p e below _ (T37.setTop (mkF m 86 #[vI p0, vI (((p0.toUInt32 >>> ((24 : Int32) &&& 31).toUInt32).toInt32) &&& (3 : Int32)), vI ((p0 &&& (255 : Int32)).toUInt32.toUInt16.toUInt32.toInt32), vI ((((p0.toUInt32 >>> ((8 : Int32) &&& 31).toUInt32).toInt32) &&& (255 : Int32)).toUInt32.toUInt16.toUInt32.toInt32), vI ((((p0.toUInt32 >>> ((16 : Int32) &&& 31).toUInt32).toInt32) &&& (255 : Int32)).toUInt32.toUInt16.toUInt32.toInt32)] [(.ref b35), (.ref b34), (.ref b34)]))
    refine own_by (fun _ k => XS.dup X37.here hx rfl (hb hby d1_86) rfl rfl k) ?_
    show own_Go p e below _ (T37.setTop (mkF m 87 #[vI p0, vI (((p0.toUInt32 >>> ((24 : Int32) &&& 31).toUInt32).toInt32) &&& (3 : Int32)), vI ((p0 &&& (255 : Int32)).toUInt32.toUInt16.toUInt32.toInt32), vI ((((p0.toUInt32 >>> ((8 : Int32) &&& 31).toUInt32).toInt32) &&& (255 : Int32)).toUInt32.toUInt16.toUInt32.toInt32), vI ((((p0.toUInt32 >>> ((16 : Int32) &&& 31).toUInt32).toInt32) &&& (255 : Int32)).toUInt32.toUInt16.toUInt32.toInt32)] [(.ref b35), (.ref b35), (.ref b34), (.ref b34)]))
    refine own_by (fun _ k => XS.iconst X37.here hx rfl (hb hby d1_87) k) ?_
    refine own_by (fun _ k => XS.iloadN X37.here hx rfl (hb hby d1_88) rfl k) ?_
    obtain ⟨cl38, Ar38, qq38, S38, M38, H38, G38⟩ := id V37
    have hin38 : ¬ ((1 : Int32) < 0 ∨ cl38.slots.size ≤ ((1 : Int32)).toNatClampNeg) := inb_of S38 ⟨by decide, by decide⟩
    obtain ⟨T39, h39, X39, e39, W39, st39⟩ := stC X37 hx hZ e37 Ar38 (j := (1 : Int32)) hin38 (g := (mkF m 89 #[vI p0, vI (((p0.toUInt32 >>> ((24 : Int32) &&& 31).toUInt32).toInt32) &&& (3 : Int32)), vI ((p0 &&& (255 : Int32)).toUInt32.toUInt16.toUInt32.toInt32), vI ((((p0.toUInt32 >>> ((8 : Int32) &&& 31).toUInt32).toInt32) &&& (255 : Int32)).toUInt32.toUInt16.toUInt32.toInt32), vI ((((p0.toUInt32 >>> ((16 : Int32) &&& 31).toUInt32).toInt32) &&& (255 : Int32)).toUInt32.toUInt16.toUInt32.toInt32)] [(.int ((((p0.toUInt32 >>> ((8 : Int32) &&& 31).toUInt32).toInt32) &&& (255 : Int32)).toUInt32.toUInt16.toUInt32.toInt32)), (.int (1 : Int32)), (.ref b35), (.ref b35), (.ref b34), (.ref b34)])) rfl rfl (hb hby d1_89)
    have V39 : own_Arf Z h39 b35 k35 .char (2 : Int32) (fun i => .int ((own_upd (own_upd (fun _ => (0 : Int32)) 0 (nar .char ((p0 &&& (255 : Int32)).toUInt32.toUInt16.toUInt32.toInt32))) 1 (nar .char ((((p0.toUInt32 >>> ((8 : Int32) &&& 31).toUInt32).toInt32) &&& (255 : Int32)).toUInt32.toUInt16.toUInt32.toInt32))) i)) := own_arfSetI Ar38 qq38 S38 M38 H38 G38 (fits_nar_char _) W39
    have R39 : CHr Z consts_1 s.vm h37 s.vm h39 := CHr.wr W39 (own_arfSafe V37 hZ.alike (by decide)) CR37.1
    have CR39 : CHr Z consts_1 s.vm h0 s.vm h39 := CR37.trans R39
    have hk39 : kc0 ≤ h39.size := Nat.le_trans hk37 (Keep.of_wr W39).1
    have K39 : Keep h0 h39 [] := K37.wr W39 (Or.inr sz_b35)
    have Z39 : n0 ≤ h39.size := Nat.le_trans Z37 (Keep.of_wr W39).1
    have N39 := Fr.snoc X39 N37 ge_b35
    refine own_by st39 ?_
    show own_Go p e below _ (T39.setTop (mkF m 90 #[vI p0, vI (((p0.toUInt32 >>> ((24 : Int32) &&& 31).toUInt32).toInt32) &&& (3 : Int32)), vI ((p0 &&& (255 : Int32)).toUInt32.toUInt16.toUInt32.toInt32), vI ((((p0.toUInt32 >>> ((8 : Int32) &&& 31).toUInt32).toInt32) &&& (255 : Int32)).toUInt32.toUInt16.toUInt32.toInt32), vI ((((p0.toUInt32 >>> ((16 : Int32) &&& 31).toUInt32).toInt32) &&& (255 : Int32)).toUInt32.toUInt16.toUInt32.toInt32)] [(.ref b35), (.ref b34), (.ref b34)]))
    have F40 : Sta Z h39 "java/lang/String" "COMPACT_STRINGS" "Z" (.int f_CS) := ((((P_S_CS.ext E34).ext E35).wr W37).wr W39)
    have F41 : Exa Z h39 b34 "java/lang/String" := (((A34.ext E35).wr W37).wr W39)
    have F42 : Fld Z h39 b34 "java/lang/String" "coder" "B" (.int (0 : Int32)) := (((F_coder_b34.ext E35).other W37 (Or.inl (Nat.ne_of_lt (Nat.lt_of_lt_of_le (A34).lt (Nat.le_of_eq g35.symm))))).other W39 (Or.inl (Nat.ne_of_lt (Nat.lt_of_lt_of_le (A34).lt (Nat.le_of_eq g35.symm)))))
    have F43 : Fld Z h39 b34 "java/lang/String" "value" "[B" .null := (((F_value_b34.ext E35).other W37 (Or.inl (Nat.ne_of_lt (Nat.lt_of_lt_of_le (A34).lt (Nat.le_of_eq g35.symm))))).other W39 (Or.inl (Nat.ne_of_lt (Nat.lt_of_lt_of_le (A34).lt (Nat.le_of_eq g35.symm)))))
    obtain ⟨_, _, ⟨T44, L44, k44, n44⟩, -, X44, ⟨Lc44, hQ44, l44, y44, z44⟩, st44⟩ := X39.specialBack hx (y := (⟨"java/lang/String", "<init>", "([C)V"⟩ : MethodName)) rfl hown (mvT hZ (hwd 8 rfl)) (mvT hZ (hwd 9 rfl)) (mvT hZ (hwd 10 rfl)) (by decide) (backOf (W := 1) (rmsi2 l Z A0 hw [] k35 (own_upd (own_upd (fun _ => (0 : Int32)) 0 (nar .char ((p0 &&& (255 : Int32)).toUInt32.toUInt16.toUInt32.toInt32))) 1 (nar .char ((((p0.toUInt32 >>> ((8 : Int32) &&& 31).toUInt32).toInt32) &&& (255 : Int32)).toUInt32.toUInt16.toUInt32.toInt32))) f_CS b34 b35 (0 : Int32) (.null) h39 n0 Z39 V39 F40 hn_CS hp_1 hp_2 F41 F42 F43 ge_b34) hZ (hwd 10 rfl) (hwd 6 rfl) (by decide) (by decide)) (g := (mkF m 90 #[vI p0, vI (((p0.toUInt32 >>> ((24 : Int32) &&& 31).toUInt32).toInt32) &&& (3 : Int32)), vI ((p0 &&& (255 : Int32)).toUInt32.toUInt16.toUInt32.toInt32), vI ((((p0.toUInt32 >>> ((8 : Int32) &&& 31).toUInt32).toInt32) &&& (255 : Int32)).toUInt32.toUInt16.toUInt32.toInt32), vI ((((p0.toUInt32 >>> ((16 : Int32) &&& 31).toUInt32).toInt32) &&& (255 : Int32)).toUInt32.toUInt16.toUInt32.toInt32)] [(.ref b35), (.ref b34), (.ref b34)])) rfl (by rw [hml]; rfl) (Steps.refl _) (a := b34) (argsL := [(.ref b35)]) (rest := [(.ref b34)]) (lenOf pd_8 rfl) rfl (by show 2 * 0 + _ ≤ _; exact Nat.le_of_eq rfl) (hb hby d1_90) (fun _ _ => ⟨rfl, e39, (by decide : 2 + 1 ≤ _), (by decide : 6 + 2 ≤ _)⟩)
    dsimp only [Pt.U, Pt.locs, Pt.cells, Pt.slots] at X44 l44 y44 z44 st44 hQ44
    subst l44 y44 z44
    obtain ⟨b45, b46, rfl, Nq44, Kq44, F47, F48, F49, hp50, hp51, F52⟩ := hQ44
    have N44 := Fr.app N39 Nq44
    have R44 : CHr Z consts_1 s.vm h39 s.vm T44.heap := CHr.keep Kq44 ((allS (CHr.safe (R35.trans (R37.trans R39)) lt_b34 S_b34) all0)) CR39.1
    have CR44 : CHr Z consts_1 s.vm h0 s.vm T44.heap := CR39.trans R44
    have hk44 : kc0 ≤ T44.heap.size := Nat.le_trans hk39 Kq44.1
    have K44 : Keep h0 T44.heap [] := K39.trans Kq44 ((allS (Or.inr sz_b34) all0))
    have Z44 : n0 ≤ T44.heap.size := Nat.le_trans Z39 Kq44.1
    have sz_b45 : h0.size ≤ b45 := Nat.le_trans K39.1 hp51
    have S_b45 : Safe Z consts_1 s.vm T44.heap b45 := Safe.keep Kq44 ((allS (CHr.safe (R35.trans (R37.trans R39)) lt_b34 S_b34) all0)) CR39.1 (Safe.new hp51)
    have lt_b45 := F52.lt
    refine own_by (fun _ k => st44.trans k) ?_
    show own_Go p e below _ (T44.setTop (mkF m 93 #[vI p0, vI (((p0.toUInt32 >>> ((24 : Int32) &&& 31).toUInt32).toInt32) &&& (3 : Int32)), vI ((p0 &&& (255 : Int32)).toUInt32.toUInt16.toUInt32.toInt32), vI ((((p0.toUInt32 >>> ((8 : Int32) &&& 31).toUInt32).toInt32) &&& (255 : Int32)).toUInt32.toUInt16.toUInt32.toInt32), vI ((((p0.toUInt32 >>> ((16 : Int32) &&& 31).toUInt32).toInt32) &&& (255 : Int32)).toUInt32.toUInt16.toUInt32.toInt32)] [(.ref b34)]))
    exact own_retRW X44 hx hS hk44 hZ hEL hh CR44 Bd.returns (by decide) rfl (hb hby d1_93) hlk rfl ⟨b34, b45, b46, (2 : Int32), (own_upd (own_upd (fun _ => (0 : Int32)) 0 (nar .byte ((nar .char ((p0 &&& (255 : Int32)).toUInt32.toUInt16.toUInt32.toInt32)).toInt8.toInt32))) 1 (nar .byte ((nar .char ((((p0.toUInt32 >>> ((8 : Int32) &&& 31).toUInt32).toInt32) &&& (255 : Int32)).toUInt32.toUInt16.toUInt32.toInt32)).toInt8.toInt32))), rfl, N44, K44, ge_b34, sz_b34, (Nat.ne_of_lt (Nat.lt_of_lt_of_le (F41).lt hp51)), F47, F49, F48, F52, (ob_draw_3 f_CS p0 hn_CS hp_1 hp_2 hp_3 c1 c15 c33)⟩ (by decide) (by decide)
   ·skip
    refine own_by (fun _ k => XS.icmpYes X0.here hx rfl (pc0 := 72) (pc' := 94) rfl (hb hby d1_72) rfl (feq c33).2 (by decide) (by decide) k) ?_
    show own_Go p e below _ (s₁.setTop (mkF m 94 #[vI p0, vI (((p0.toUInt32 >>> ((24 : Int32) &&& 31).toUInt32).toInt32) &&& (3 : Int32)), vI ((p0 &&& (255 : Int32)).toUInt32.toUInt16.toUInt32.toInt32), vI ((((p0.toUInt32 >>> ((8 : Int32) &&& 31).toUInt32).toInt32) &&& (255 : Int32)).toUInt32.toUInt16.toUInt32.toInt32), vI ((((p0.toUInt32 >>> ((16 : Int32) &&& 31).toUInt32).toInt32) &&& (255 : Int32)).toUInt32.toUInt16.toUInt32.toInt32)] []))
    obtain ⟨T53, h53, X53, e53, E53, A53, D53, -, st53⟩ := newO X0 hx hZ hown (hwd 4 rfl) (hwd 5 rfl) (hwd 6 rfl) e0 (g := (mkF m 94 #[vI p0, vI (((p0.toUInt32 >>> ((24 : Int32) &&& 31).toUInt32).toInt32) &&& (3 : Int32)), vI ((p0 &&& (255 : Int32)).toUInt32.toUInt16.toUInt32.toInt32), vI ((((p0.toUInt32 >>> ((8 : Int32) &&& 31).toUInt32).toInt32) &&& (255 : Int32)).toUInt32.toUInt16.toUInt32.toInt32), vI ((((p0.toUInt32 >>> ((16 : Int32) &&& 31).toUInt32).toInt32) &&& (255 : Int32)).toUInt32.toUInt16.toUInt32.toInt32)] [])) rfl (hb hby d1_94) (by decide) (by decide)
    obtain ⟨b53, g53⟩ : ∃ z, z = h0.size := ⟨_, rfl⟩
    have ge_b53 : n0 ≤ b53 := Nat.le_trans Z0 (Nat.le_of_eq g53.symm)
    have sz_b53 : h0.size ≤ b53 := Nat.le_trans (Keep.refl h0 []).1 (Nat.le_of_eq g53.symm)
    have R53 : CHr Z consts_1 s.vm h0 s.vm h53 := CHr.ext E53 CR0.1
    have CR53 : CHr Z consts_1 s.vm h0 s.vm h53 := CR0.trans R53
    have hk53 : kc0 ≤ h53.size := Nat.le_trans hk0 E53.1
    have S_b53 : Safe Z consts_1 s.vm h53 b53 := Safe.ext E53 CR0.1 (Safe.new (Nat.le_of_eq g53.symm))
    have K53 : Keep h0 h53 [] := (Keep.refl h0 []).ext E53
    have Z53 : n0 ≤ h53.size := Nat.le_trans Z0 E53.1
    rw [← g53] at A53 D53 st53
    have lt_b53 := A53.lt
    have F_value_b53 : Fld Z h53 b53 "java/lang/String" "value" "[B" .null := D53 (Or.inr (hwd 20 rfl)) (ty := (.array .byte)) (by decide)
    have F_coder_b53 : Fld Z h53 b53 "java/lang/String" "coder" "B" (.int (0 : Int32)) := D53 (Or.inr (hwd 21 rfl)) (ty := .byte) (by decide)
    refine own_by st53 ?_
    show own_Go p e below _ (T53.setTop (mkF m 97 #[vI p0, vI (((p0.toUInt32 >>> ((24 : Int32) &&& 31).toUInt32).toInt32) &&& (3 : Int32)), vI ((p0 &&& (255 : Int32)).toUInt32.toUInt16.toUInt32.toInt32), vI ((((p0.toUInt32 >>> ((8 : Int32) &&& 31).toUInt32).toInt32) &&& (255 : Int32)).toUInt32.toUInt16.toUInt32.toInt32), vI ((((p0.toUInt32 >>> ((16 : Int32) &&& 31).toUInt32).toInt32) &&& (255 : Int32)).toUInt32.toUInt16.toUInt32.toInt32)] [(.ref b53)]))
    refine own_by (fun _ k => XS.dup X53.here hx rfl (hb hby d1_97) rfl rfl k) ?_
    show own_Go p e below _ (T53.setTop (mkF m 98 #[vI p0, vI (((p0.toUInt32 >>> ((24 : Int32) &&& 31).toUInt32).toInt32) &&& (3 : Int32)), vI ((p0 &&& (255 : Int32)).toUInt32.toUInt16.toUInt32.toInt32), vI ((((p0.toUInt32 >>> ((8 : Int32) &&& 31).toUInt32).toInt32) &&& (255 : Int32)).toUInt32.toUInt16.toUInt32.toInt32), vI ((((p0.toUInt32 >>> ((16 : Int32) &&& 31).toUInt32).toInt32) &&& (255 : Int32)).toUInt32.toUInt16.toUInt32.toInt32)] [(.ref b53), (.ref b53)]))
    refine own_by (fun _ k => XS.iconst X53.here hx rfl (hb hby d1_98) k) ?_
    obtain ⟨T54, h54, k54, X54, e54, E54, A54, st54⟩ := newP X53 hx hZ (hwd 7 rfl) e53 (g := (mkF m 99 #[vI p0, vI (((p0.toUInt32 >>> ((24 : Int32) &&& 31).toUInt32).toInt32) &&& (3 : Int32)), vI ((p0 &&& (255 : Int32)).toUInt32.toUInt16.toUInt32.toInt32), vI ((((p0.toUInt32 >>> ((8 : Int32) &&& 31).toUInt32).toInt32) &&& (255 : Int32)).toUInt32.toUInt16.toUInt32.toInt32), vI ((((p0.toUInt32 >>> ((16 : Int32) &&& 31).toUInt32).toInt32) &&& (255 : Int32)).toUInt32.toUInt16.toUInt32.toInt32)] [(.int (3 : Int32)), (.ref b53), (.ref b53)])) rfl (hb hby d1_99) rfl (by decide) (cap := 3) (by decide) (by decide) (by decide) (by decide)
    obtain ⟨b54, g54⟩ : ∃ z, z = h53.size := ⟨_, rfl⟩
    have ge_b54 : n0 ≤ b54 := Nat.le_trans Z53 (Nat.le_of_eq g54.symm)
    have sz_b54 : h0.size ≤ b54 := Nat.le_trans K53.1 (Nat.le_of_eq g54.symm)
    have R54 : CHr Z consts_1 s.vm h53 s.vm h54 := CHr.ext E54 CR53.1
    have CR54 : CHr Z consts_1 s.vm h0 s.vm h54 := CR53.trans R54
    have hk54 : kc0 ≤ h54.size := Nat.le_trans hk53 E54.1
    have S_b54 : Safe Z consts_1 s.vm h54 b54 := Safe.ext E54 CR53.1 (Safe.new (Nat.le_of_eq g54.symm))
    have K54 : Keep h0 h54 [] := K53.ext E54
    have Z54 : n0 ≤ h54.size := Nat.le_trans Z53 E54.1
    rw [← g54] at A54 st54
    have V54 : own_Arf Z h54 b54 k54 .char (3 : Int32) (fun i => .int ((fun _ => (0 : Int32)) i)) := own_arfNew A54 (by decide)
    refine own_by st54 ?_
    show own_Go p e below _ (T54.setTop (mkF m 101 #[vI p0, vI (((p0.toUInt32 >>> ((24 : Int32) &&& 31).toUInt32).toInt32) &&& (3 : Int32)), vI ((p0 &&& (255 : Int32)).toUInt32.toUInt16.toUInt32.toInt32), vI ((((p0.toUInt32 >>> ((8 : Int32) &&& 31).toUInt32).toInt32) &&& (255 : Int32)).toUInt32.toUInt16.toUInt32.toInt32), vI ((((p0.toUInt32 >>> ((16 : Int32) &&& 31).toUInt32).toInt32) &&& (255 : Int32)).toUInt32.toUInt16.toUInt32.toInt32)] [(.ref b54), (.ref b53), (.ref b53)]))
    refine own_by (fun _ k => XS.dup X54.here hx rfl (hb hby d1_101) rfl rfl k) ?_
    show own_Go p e below _ (T54.setTop (mkF m 102 #[vI p0, vI (((p0.toUInt32 >>> ((24 : Int32) &&& 31).toUInt32).toInt32) &&& (3 : Int32)), vI ((p0 &&& (255 : Int32)).toUInt32.toUInt16.toUInt32.toInt32), vI ((((p0.toUInt32 >>> ((8 : Int32) &&& 31).toUInt32).toInt32) &&& (255 : Int32)).toUInt32.toUInt16.toUInt32.toInt32), vI ((((p0.toUInt32 >>> ((16 : Int32) &&& 31).toUInt32).toInt32) &&& (255 : Int32)).toUInt32.toUInt16.toUInt32.toInt32)] [(.ref b54), (.ref b54), (.ref b53), (.ref b53)]))
    refine own_by (fun _ k => XS.iconst X54.here hx rfl (hb hby d1_102) k) ?_
    refine own_by (fun _ k => XS.iloadN X54.here hx rfl (hb hby d1_103) rfl k) ?_
    obtain ⟨cl55, Ar55, qq55, S55, M55, H55, G55⟩ := id V54
    have hin55 : ¬ ((0 : Int32) < 0 ∨ cl55.slots.size ≤ ((0 : Int32)).toNatClampNeg) := inb_of S55 ⟨by decide, by decide⟩
    obtain ⟨T56, h56, X56, e56, W56, st56⟩ := stC X54 hx hZ e54 Ar55 (j := (0 : Int32)) hin55 (g := (mkF m 104 #[vI p0, vI (((p0.toUInt32 >>> ((24 : Int32) &&& 31).toUInt32).toInt32) &&& (3 : Int32)), vI ((p0 &&& (255 : Int32)).toUInt32.toUInt16.toUInt32.toInt32), vI ((((p0.toUInt32 >>> ((8 : Int32) &&& 31).toUInt32).toInt32) &&& (255 : Int32)).toUInt32.toUInt16.toUInt32.toInt32), vI ((((p0.toUInt32 >>> ((16 : Int32) &&& 31).toUInt32).toInt32) &&& (255 : Int32)).toUInt32.toUInt16.toUInt32.toInt32)] [(.int ((p0 &&& (255 : Int32)).toUInt32.toUInt16.toUInt32.toInt32)), (.int (0 : Int32)), (.ref b54), (.ref b54), (.ref b53), (.ref b53)])) rfl rfl (hb hby d1_104)
    have V56 : own_Arf Z h56 b54 k54 .char (3 : Int32) (fun i => .int ((own_upd (fun _ => (0 : Int32)) 0 (nar .char ((p0 &&& (255 : Int32)).toUInt32.toUInt16.toUInt32.toInt32))) i)) := own_arfSetI Ar55 qq55 S55 M55 H55 G55 (fits_nar_char _) W56
    have R56 : CHr Z consts_1 s.vm h54 s.vm h56 := CHr.wr W56 (own_arfSafe V54 hZ.alike (by decide)) CR54.1
    have CR56 : CHr Z consts_1 s.vm h0 s.vm h56 := CR54.trans R56
    have hk56 : kc0 ≤ h56.size := Nat.le_trans hk54 (Keep.of_wr W56).1
    have K56 : Keep h0 h56 [] := K54.wr W56 (Or.inr sz_b54)
    have Z56 : n0 ≤ h56.size := Nat.le_trans Z54 (Keep.of_wr W56).1
    have N56 := Fr.snoc X56 N0 ge_b54
    refine own_by st56 ?_
    show own_Go p e below _ (T56.setTop (mkF m 105 #[vI p0, vI (((p0.toUInt32 >>> ((24 : Int32) &&& 31).toUInt32).toInt32) &&& (3 : Int32)), vI ((p0 &&& (255 : Int32)).toUInt32.toUInt16.toUInt32.toInt32), vI ((((p0.toUInt32 >>> ((8 : Int32) &&& 31).toUInt32).toInt32) &&& (255 : Int32)).toUInt32.toUInt16.toUInt32.toInt32), vI ((((p0.toUInt32 >>> ((16 : Int32) &&& 31).toUInt32).toInt32) &&& (255 : Int32)).toUInt32.toUInt16.toUInt32.toInt32)] [(.ref b54), (.ref b53), (.ref b53)]))
    refine own_by (fun _ k => XS.dup X56.here hx rfl (hb hby d1_105) rfl rfl k) ?_
    show own_Go p e below _ (T56.setTop (mkF m 106 #[vI p0, vI (((p0.toUInt32 >>> ((24 : Int32) &&& 31).toUInt32).toInt32) &&& (3 : Int32)), vI ((p0 &&& (255 : Int32)).toUInt32.toUInt16.toUInt32.toInt32), vI ((((p0.toUInt32 >>> ((8 : Int32) &&& 31).toUInt32).toInt32) &&& (255 : Int32)).toUInt32.toUInt16.toUInt32.toInt32), vI ((((p0.toUInt32 >>> ((16 : Int32) &&& 31).toUInt32).toInt32) &&& (255 : Int32)).toUInt32.toUInt16.toUInt32.toInt32)] [(.ref b54), (.ref b54), (.ref b53), (.ref b53)]))
    refine own_by (fun _ k => XS.iconst X56.here hx rfl (hb hby d1_106) k) ?_
    refine own_by (fun _ k => XS.iloadN X56.here hx rfl (hb hby d1_107) rfl k) ?_
    obtain ⟨cl57, Ar57, qq57, S57, M57, H57, G57⟩ := id V56
    have hin57 : ¬ ((1 : Int32) < 0 ∨ cl57.slots.size ≤ ((1 : Int32)).toNatClampNeg) := inb_of S57 ⟨by decide, by decide⟩
    obtain ⟨T58, h58, X58, e58, W58, st58⟩ := stC X56 hx hZ e56 Ar57 (j := (1 : Int32)) hin57 (g := (mkF m 108 #[vI p0, vI (((p0.toUInt32 >>> ((24 : Int32) &&& 31).toUInt32).toInt32) &&& (3 : Int32)), vI ((p0 &&& (255 : Int32)).toUInt32.toUInt16.toUInt32.toInt32), vI ((((p0.toUInt32 >>> ((8 : Int32) &&& 31).toUInt32).toInt32) &&& (255 : Int32)).toUInt32.toUInt16.toUInt32.toInt32), vI ((((p0.toUInt32 >>> ((16 : Int32) &&& 31).toUInt32).toInt32) &&& (255 : Int32)).toUInt32.toUInt16.toUInt32.toInt32)] [(.int ((((p0.toUInt32 >>> ((8 : Int32) &&& 31).toUInt32).toInt32) &&& (255 : Int32)).toUInt32.toUInt16.toUInt32.toInt32)), (.int (1 : Int32)), (.ref b54), (.ref b54), (.ref b53), (.ref b53)])) rfl rfl (hb hby d1_108)
    have V58 : own_Arf Z h58 b54 k54 .char (3 : Int32) (fun i => .int ((own_upd (own_upd (fun _ => (0 : Int32)) 0 (nar .char ((p0 &&& (255 : Int32)).toUInt32.toUInt16.toUInt32.toInt32))) 1 (nar .char ((((p0.toUInt32 >>> ((8 : Int32) &&& 31).toUInt32).toInt32) &&& (255 : Int32)).toUInt32.toUInt16.toUInt32.toInt32))) i)) := own_arfSetI Ar57 qq57 S57 M57 H57 G57 (fits_nar_char _) W58
    have R58 : CHr Z consts_1 s.vm h56 s.vm h58 := CHr.wr W58 (own_arfSafe V56 hZ.alike (by decide)) CR56.1
    have CR58 : CHr Z consts_1 s.vm h0 s.vm h58 := CR56.trans R58
    have hk58 : kc0 ≤ h58.size := Nat.le_trans hk56 (Keep.of_wr W58).1
    have K58 : Keep h0 h58 [] := K56.wr W58 (Or.inr sz_b54)
    have Z58 : n0 ≤ h58.size := Nat.le_trans Z56 (Keep.of_wr W58).1
    have N58 := Fr.snoc X58 N56 ge_b54
    refine own_by st58 ?_
    show own_Go p e below _ (T58.setTop (mkF m 109 #[vI p0, vI (((p0.toUInt32 >>> ((24 : Int32) &&& 31).toUInt32).toInt32) &&& (3 : Int32)), vI ((p0 &&& (255 : Int32)).toUInt32.toUInt16.toUInt32.toInt32), vI ((((p0.toUInt32 >>> ((8 : Int32) &&& 31).toUInt32).toInt32) &&& (255 : Int32)).toUInt32.toUInt16.toUInt32.toInt32), vI ((((p0.toUInt32 >>> ((16 : Int32) &&& 31).toUInt32).toInt32) &&& (255 : Int32)).toUInt32.toUInt16.toUInt32.toInt32)] [(.ref b54), (.ref b53), (.ref b53)]))
    refine own_by (fun _ k => XS.dup X58.here hx rfl (hb hby d1_109) rfl rfl k) ?_
    show own_Go p e below _ (T58.setTop (mkF m 110 #[vI p0, vI (((p0.toUInt32 >>> ((24 : Int32) &&& 31).toUInt32).toInt32) &&& (3 : Int32)), vI ((p0 &&& (255 : Int32)).toUInt32.toUInt16.toUInt32.toInt32), vI ((((p0.toUInt32 >>> ((8 : Int32) &&& 31).toUInt32).toInt32) &&& (255 : Int32)).toUInt32.toUInt16.toUInt32.toInt32), vI ((((p0.toUInt32 >>> ((16 : Int32) &&& 31).toUInt32).toInt32) &&& (255 : Int32)).toUInt32.toUInt16.toUInt32.toInt32)] [(.ref b54), (.ref b54), (.ref b53), (.ref b53)]))
    refine own_by (fun _ k => XS.iconst X58.here hx rfl (hb hby d1_110) k) ?_
    refine own_by (fun _ k => XS.iload X58.here hx rfl (hb hby d1_111) rfl k) ?_
    obtain ⟨cl59, Ar59, qq59, S59, M59, H59, G59⟩ := id V58
    have hin59 : ¬ ((2 : Int32) < 0 ∨ cl59.slots.size ≤ ((2 : Int32)).toNatClampNeg) := inb_of S59 ⟨by decide, by decide⟩
    obtain ⟨T60, h60, X60, e60, W60, st60⟩ := stC X58 hx hZ e58 Ar59 (j := (2 : Int32)) hin59 (g := (mkF m 113 #[vI p0, vI (((p0.toUInt32 >>> ((24 : Int32) &&& 31).toUInt32).toInt32) &&& (3 : Int32)), vI ((p0 &&& (255 : Int32)).toUInt32.toUInt16.toUInt32.toInt32), vI ((((p0.toUInt32 >>> ((8 : Int32) &&& 31).toUInt32).toInt32) &&& (255 : Int32)).toUInt32.toUInt16.toUInt32.toInt32), vI ((((p0.toUInt32 >>> ((16 : Int32) &&& 31).toUInt32).toInt32) &&& (255 : Int32)).toUInt32.toUInt16.toUInt32.toInt32)] [(.int ((((p0.toUInt32 >>> ((16 : Int32) &&& 31).toUInt32).toInt32) &&& (255 : Int32)).toUInt32.toUInt16.toUInt32.toInt32)), (.int (2 : Int32)), (.ref b54), (.ref b54), (.ref b53), (.ref b53)])) rfl rfl (hb hby d1_113)
    have V60 : own_Arf Z h60 b54 k54 .char (3 : Int32) (fun i => .int ((own_upd (own_upd (own_upd (fun _ => (0 : Int32)) 0 (nar .char ((p0 &&& (255 : Int32)).toUInt32.toUInt16.toUInt32.toInt32))) 1 (nar .char ((((p0.toUInt32 >>> ((8 : Int32) &&& 31).toUInt32).toInt32) &&& (255 : Int32)).toUInt32.toUInt16.toUInt32.toInt32))) 2 (nar .char ((((p0.toUInt32 >>> ((16 : Int32) &&& 31).toUInt32).toInt32) &&& (255 : Int32)).toUInt32.toUInt16.toUInt32.toInt32))) i)) := own_arfSetI Ar59 qq59 S59 M59 H59 G59 (fits_nar_char _) W60
    have R60 : CHr Z consts_1 s.vm h58 s.vm h60 := CHr.wr W60 (own_arfSafe V58 hZ.alike (by decide)) CR58.1
    have CR60 : CHr Z consts_1 s.vm h0 s.vm h60 := CR58.trans R60
    have hk60 : kc0 ≤ h60.size := Nat.le_trans hk58 (Keep.of_wr W60).1
    have K60 : Keep h0 h60 [] := K58.wr W60 (Or.inr sz_b54)
    have Z60 : n0 ≤ h60.size := Nat.le_trans Z58 (Keep.of_wr W60).1
    have N60 := Fr.snoc X60 N58 ge_b54
    refine own_by st60 ?_
    show own_Go p e below _ (T60.setTop (mkF m 114 #[vI p0, vI (((p0.toUInt32 >>> ((24 : Int32) &&& 31).toUInt32).toInt32) &&& (3 : Int32)), vI ((p0 &&& (255 : Int32)).toUInt32.toUInt16.toUInt32.toInt32), vI ((((p0.toUInt32 >>> ((8 : Int32) &&& 31).toUInt32).toInt32) &&& (255 : Int32)).toUInt32.toUInt16.toUInt32.toInt32), vI ((((p0.toUInt32 >>> ((16 : Int32) &&& 31).toUInt32).toInt32) &&& (255 : Int32)).toUInt32.toUInt16.toUInt32.toInt32)] [(.ref b54), (.ref b53), (.ref b53)]))
    have F61 : Sta Z h60 "java/lang/String" "COMPACT_STRINGS" "Z" (.int f_CS) := (((((P_S_CS.ext E53).ext E54).wr W56).wr W58).wr W60)
    have F62 : Exa Z h60 b53 "java/lang/String" := ((((A53.ext E54).wr W56).wr W58).wr W60)
    have F63 : Fld Z h60 b53 "java/lang/String" "coder" "B" (.int (0 : Int32)) := ((((F_coder_b53.ext E54).other W56 (Or.inl (Nat.ne_of_lt (Nat.lt_of_lt_of_le (A53).lt (Nat.le_of_eq g54.symm))))).other W58 (Or.inl (Nat.ne_of_lt (Nat.lt_of_lt_of_le (A53).lt (Nat.le_of_eq g54.symm))))).other W60 (Or.inl (Nat.ne_of_lt (Nat.lt_of_lt_of_le (A53).lt (Nat.le_of_eq g54.symm)))))
    have F64 : Fld Z h60 b53 "java/lang/String" "value" "[B" .null := ((((F_value_b53.ext E54).other W56 (Or.inl (Nat.ne_of_lt (Nat.lt_of_lt_of_le (A53).lt (Nat.le_of_eq g54.symm))))).other W58 (Or.inl (Nat.ne_of_lt (Nat.lt_of_lt_of_le (A53).lt (Nat.le_of_eq g54.symm))))).other W60 (Or.inl (Nat.ne_of_lt (Nat.lt_of_lt_of_le (A53).lt (Nat.le_of_eq g54.symm)))))
    obtain ⟨_, _, ⟨T65, L65, k65, n65⟩, -, X65, ⟨Lc65, hQ65, l65, y65, z65⟩, st65⟩ := X60.specialBack hx (y := (⟨"java/lang/String", "<init>", "([C)V"⟩ : MethodName)) rfl hown (mvT hZ (hwd 8 rfl)) (mvT hZ (hwd 9 rfl)) (mvT hZ (hwd 10 rfl)) (by decide) (backOf (W := 1) (rmsi3 l Z A0 hw [] k54 (own_upd (own_upd (own_upd (fun _ => (0 : Int32)) 0 (nar .char ((p0 &&& (255 : Int32)).toUInt32.toUInt16.toUInt32.toInt32))) 1 (nar .char ((((p0.toUInt32 >>> ((8 : Int32) &&& 31).toUInt32).toInt32) &&& (255 : Int32)).toUInt32.toUInt16.toUInt32.toInt32))) 2 (nar .char ((((p0.toUInt32 >>> ((16 : Int32) &&& 31).toUInt32).toInt32) &&& (255 : Int32)).toUInt32.toUInt16.toUInt32.toInt32))) f_CS b53 b54 (0 : Int32) (.null) h60 n0 Z60 V60 F61 hn_CS hp_1 hp_2 hp_3 F62 F63 F64 ge_b53) hZ (hwd 10 rfl) (hwd 6 rfl) (by decide) (by decide)) (g := (mkF m 114 #[vI p0, vI (((p0.toUInt32 >>> ((24 : Int32) &&& 31).toUInt32).toInt32) &&& (3 : Int32)), vI ((p0 &&& (255 : Int32)).toUInt32.toUInt16.toUInt32.toInt32), vI ((((p0.toUInt32 >>> ((8 : Int32) &&& 31).toUInt32).toInt32) &&& (255 : Int32)).toUInt32.toUInt16.toUInt32.toInt32), vI ((((p0.toUInt32 >>> ((16 : Int32) &&& 31).toUInt32).toInt32) &&& (255 : Int32)).toUInt32.toUInt16.toUInt32.toInt32)] [(.ref b54), (.ref b53), (.ref b53)])) rfl (by rw [hml]; rfl) (Steps.refl _) (a := b53) (argsL := [(.ref b54)]) (rest := [(.ref b53)]) (lenOf pd_8 rfl) rfl (by show 2 * 0 + _ ≤ _; exact Nat.le_of_eq rfl) (hb hby d1_114) (fun _ _ => ⟨rfl, e60, (by decide : 2 + 1 ≤ _), (by decide : 7 + 3 ≤ _)⟩)
    dsimp only [Pt.U, Pt.locs, Pt.cells, Pt.slots] at X65 l65 y65 z65 st65 hQ65
    subst l65 y65 z65
    obtain ⟨b66, b67, rfl, Nq65, Kq65, F68, F69, F70, hp71, hp72, F73⟩ := hQ65
    have N65 := Fr.app N60 Nq65
    have R65 : CHr Z consts_1 s.vm h60 s.vm T65.heap := CHr.keep Kq65 ((allS (CHr.safe (R54.trans (R56.trans (R58.trans R60))) lt_b53 S_b53) all0)) CR60.1
    have CR65 : CHr Z consts_1 s.vm h0 s.vm T65.heap := CR60.trans R65
    have hk65 : kc0 ≤ T65.heap.size := Nat.le_trans hk60 Kq65.1
    have K65 : Keep h0 T65.heap [] := K60.trans Kq65 ((allS (Or.inr sz_b53) all0))
    have Z65 : n0 ≤ T65.heap.size := Nat.le_trans Z60 Kq65.1
    have sz_b66 : h0.size ≤ b66 := Nat.le_trans K60.1 hp72
    have S_b66 : Safe Z consts_1 s.vm T65.heap b66 := Safe.keep Kq65 ((allS (CHr.safe (R54.trans (R56.trans (R58.trans R60))) lt_b53 S_b53) all0)) CR60.1 (Safe.new hp72)
    have lt_b66 := F73.lt
    refine own_by (fun _ k => st65.trans k) ?_
    show own_Go p e below _ (T65.setTop (mkF m 117 #[vI p0, vI (((p0.toUInt32 >>> ((24 : Int32) &&& 31).toUInt32).toInt32) &&& (3 : Int32)), vI ((p0 &&& (255 : Int32)).toUInt32.toUInt16.toUInt32.toInt32), vI ((((p0.toUInt32 >>> ((8 : Int32) &&& 31).toUInt32).toInt32) &&& (255 : Int32)).toUInt32.toUInt16.toUInt32.toInt32), vI ((((p0.toUInt32 >>> ((16 : Int32) &&& 31).toUInt32).toInt32) &&& (255 : Int32)).toUInt32.toUInt16.toUInt32.toInt32)] [(.ref b53)]))
    exact own_retRW X65 hx hS hk65 hZ hEL hh CR65 Bd.returns (by decide) rfl (hb hby d1_117) hlk rfl ⟨b53, b66, b67, (3 : Int32), (own_upd (own_upd (own_upd (fun _ => (0 : Int32)) 0 (nar .byte ((nar .char ((p0 &&& (255 : Int32)).toUInt32.toUInt16.toUInt32.toInt32)).toInt8.toInt32))) 1 (nar .byte ((nar .char ((((p0.toUInt32 >>> ((8 : Int32) &&& 31).toUInt32).toInt32) &&& (255 : Int32)).toUInt32.toUInt16.toUInt32.toInt32)).toInt8.toInt32))) 2 (nar .byte ((nar .char ((((p0.toUInt32 >>> ((16 : Int32) &&& 31).toUInt32).toInt32) &&& (255 : Int32)).toUInt32.toUInt16.toUInt32.toInt32)).toInt8.toInt32))), rfl, N65, K65, ge_b53, sz_b53, (Nat.ne_of_lt (Nat.lt_of_lt_of_le (F62).lt hp72)), F68, F70, F69, F73, (ob_draw_4 f_CS p0 hn_CS hp_1 hp_2 hp_3 c1 c15 c33)⟩ (by decide) (by decide)
theorem d11_0 : decode jdk_42_method_152_code 0 = .ok (.getstatic 38, 3) := by decide +kernel
theorem d11_3 : decode jdk_42_method_152_code 3 = .ok (.ifCond .eq 10, 3) := by decide +kernel
theorem d11_6 : decode jdk_42_method_152_code 6 = .ok (.aload_n 0, 1) := by decide +kernel
theorem d11_7 : decode jdk_42_method_152_code 7 = .ok (.getfield 15, 3) := by decide +kernel
theorem d11_10 : decode jdk_42_method_152_code 10 = .ok (.goto 4, 3) := by decide +kernel
theorem d11_14 : decode jdk_42_method_152_code 14 = .ok (.ireturn, 1) := by decide +kernel
theorem pn_coder : plainName "java/lang/String" = true := by first | (simp [plainName, overriddenIn]; done) | decide +kernel
theorem ef_coder (m : MethodId) (a0 : Addr) : entryFrame m #[(.ref a0)] 1 = mkF m 0 #[vR a0] [] := by first | (simp [entryFrame, mkF, argsToLocals, Value.category]; done) | rfl
def Qcoder (Z : State) (f_CS : Int32) (a0 : Addr) (h0 : Heap) (n0 : Nat) (v : Option Value) (h : Heap) (L : List Loc) : Prop := v = some (.int (nar .byte (0 : Int32))) ∧ Fr n0 L ∧ h = h0
set_option maxRecDepth 65536 in
set_option maxHeartbeats 40000000 in
theorem rmcoder (l : Launch) (Z : State) (A0 : Array Value) (hw : ∀ d ∈ tables_1, d.before A0 Z = true) (ws : List Jvm.Cond) (f_CS : Int32) (a0 : Addr) (h0 : Heap) (n0 : Nat) (Z0 : n0 ≤ h0.size) (P_E_a0 : Exa Z h0 a0 "java/lang/String") (P_F_a0_coder : Fld Z h0 a0 "java/lang/String" "coder" "B" (.int (0 : Int32))) (P_S_CS : Sta Z h0 "java/lang/String" "COMPACT_STRINGS" "Z" (.int f_CS)) (hn_CS : ¬ (f_CS = (0 : Int32))) :
    MetFree l (⟨"java/lang/String", "coder", "()B"⟩ : MethodName) (head1 (Jvm.Cond.code (⟨"java/lang/String", "coder", "()B"⟩ : MethodName) jdk_42_method_152_code 1 (some .byte) :: ws) ({ frames := 0, cells := 0, slots := 0, locals := 0 } : Room)) (fun a U => a = #[(.ref a0)] ∧ Z.Warmed39 U.vm ∧ U.heap = h0) (fun _ _ _ _ _ => True) (fun _ U o U' => ∃ v L, o = .returned v ∧ Qcoder Z f_CS a0 h0 n0 v U'.heap L ∧ FrameEnd U o U' L 0 0) := by
 refine MetFree.of_bodySF (plainFor_of_name pn_coder) hisR ?_
 intro p e s m args below meth c s₁ Bd hml0 hP hK
 obtain ⟨rfl, hZ, hh⟩ := hP
 have hwd := fun i {d : Jvm.Cond} (h : tables_1[i]? = some d) => hw d (List.mem_of_getElem? h)
 have hx := Bd.exec
 have hby := Bd.bytes
 have hml : c.maxLocals = 1 := hml0
 have hlk : meth.locks = false := Bd.notSynchronized
 have hown : s.vm.findClass "java/lang/String" = some m.cls := findClass_of_methodNamed Bd.named
 have hnm := (name_of_methodNamed Bd.named Bd.method).1
 have X0 : Stand p l e ({ frames := 0, cells := 0, slots := 0, locals := 0 } : Room) s m #[(.ref a0)] below meth c s₁ [] 0 0 := Stand.of_body Bd
 have e0 : s₁.heap = h0 := by rw [← hh, Bd.state]; rfl
 have N0 := Fr.nil n0
 show own_Go p e below (own_Fin s 0 0 (Qcoder Z f_CS a0 h0 n0)) _
 refine own_by (fun t k => castTop (ef_coder m a0) k) ?_
 show own_Go p e below _ (s₁.setTop (mkF m 0 #[vR a0] []))
 obtain ⟨T1, X1, e1, st1⟩ := getS2 X0 hx hZ hown (host := "") (Or.inl (hwd 71 rfl)) Via.refl e0 P_S_CS (g := (mkF m 0 #[vR a0] [])) rfl (hb hby d11_0)
 refine own_by st1 ?_
 show own_Go p e below _ (T1.setTop (mkF m 3 #[vR a0] [(.int f_CS)]))
 refine own_by (fun _ k => XS.ifNo X1.here hx rfl (hb hby d11_3) rfl ((if0 _ _).trans (feq hn_CS).1) k) ?_
 show own_Go p e below _ (T1.setTop (mkF m 6 #[vR a0] []))
 refine own_by (fun _ k => XS.aloadN X1.here hx rfl (hb hby d11_6) rfl rfl k) ?_
 obtain ⟨T2, X2, e2, st2⟩ := getF X1 hx hZ hown (host := "") (Or.inl (hwd 25 rfl)) Via.refl e1 P_F_a0_coder (g := (mkF m 7 #[vR a0] [(.ref a0)])) rfl rfl (hb hby d11_7)
 refine own_by st2 ?_
 show own_Go p e below _ (T2.setTop (mkF m 10 #[vR a0] [(.int (0 : Int32))]))
 refine own_by (fun _ k => XS.goto X2.here hx rfl (pc0 := 10) (pc' := 14) rfl (hb hby d11_10) (by decide) (by decide) k) ?_
 show own_Go p e below _ (T2.setTop (mkF m 14 #[vR a0] [(.int (0 : Int32))]))
 exact own_retN X2 hx (t := .byte) Bd.returns (by simp) (hb hby d11_14) hlk e2 ⟨rfl, N0, rfl⟩ (by decide) (by decide)
theorem d36_0 : decode jdk_42_method_154_code 0 = .ok (.getstatic 38, 3) := by decide +kernel
theorem d36_3 : decode jdk_42_method_154_code 3 = .ok (.ifCond .eq 14, 3) := by decide +kernel
theorem d36_6 : decode jdk_42_method_154_code 6 = .ok (.aload_n 0, 1) := by decide +kernel
theorem d36_7 : decode jdk_42_method_154_code 7 = .ok (.getfield 15, 3) := by decide +kernel
theorem d36_10 : decode jdk_42_method_154_code 10 = .ok (.ifCond .ne 7, 3) := by decide +kernel
theorem d36_13 : decode jdk_42_method_154_code 13 = .ok (.iconst 1, 1) := by decide +kernel
theorem d36_14 : decode jdk_42_method_154_code 14 = .ok (.goto 4, 3) := by decide +kernel
theorem d36_18 : decode jdk_42_method_154_code 18 = .ok (.ireturn, 1) := by decide +kernel
theorem pn_isl : plainName "java/lang/String" = true := by first | (simp [plainName, overriddenIn]; done) | decide +kernel
theorem ef_isl (m : MethodId) (a0 : Addr) : entryFrame m #[(.ref a0)] 1 = mkF m 0 #[vR a0] [] := by first | (simp [entryFrame, mkF, argsToLocals, Value.category]; done) | rfl
def Qisl (Z : State) (f_CS : Int32) (a0 : Addr) (h0 : Heap) (n0 : Nat) (v : Option Value) (h : Heap) (L : List Loc) : Prop := v = some (.int (1 : Int32)) ∧ Fr n0 L ∧ h = h0
set_option maxRecDepth 65536 in
set_option maxHeartbeats 40000000 in
theorem rmisl (l : Launch) (Z : State) (A0 : Array Value) (hw : ∀ d ∈ tables_1, d.before A0 Z = true) (ws : List Jvm.Cond) (f_CS : Int32) (a0 : Addr) (h0 : Heap) (n0 : Nat) (Z0 : n0 ≤ h0.size) (P_E_a0 : Exa Z h0 a0 "java/lang/String") (P_F_a0_coder : Fld Z h0 a0 "java/lang/String" "coder" "B" (.int (0 : Int32))) (P_S_CS : Sta Z h0 "java/lang/String" "COMPACT_STRINGS" "Z" (.int f_CS)) (hn_CS : ¬ (f_CS = (0 : Int32))) :
    MetFree l (⟨"java/lang/String", "isLatin1", "()Z"⟩ : MethodName) (head1 (Jvm.Cond.code (⟨"java/lang/String", "isLatin1", "()Z"⟩ : MethodName) jdk_42_method_154_code 1 (some .boolean) :: ws) ({ frames := 0, cells := 0, slots := 0, locals := 0 } : Room)) (fun a U => a = #[(.ref a0)] ∧ Z.Warmed39 U.vm ∧ U.heap = h0) (fun _ _ _ _ _ => True) (fun _ U o U' => ∃ v L, o = .returned v ∧ Qisl Z f_CS a0 h0 n0 v U'.heap L ∧ FrameEnd U o U' L 0 0) := by
 refine MetFree.of_bodySF (plainFor_of_name pn_isl) hisR ?_
 intro p e s m args below meth c s₁ Bd hml0 hP hK
 obtain ⟨rfl, hZ, hh⟩ := hP
 have hwd := fun i {d : Jvm.Cond} (h : tables_1[i]? = some d) => hw d (List.mem_of_getElem? h)
 have hx := Bd.exec
 have hby := Bd.bytes
 have hml : c.maxLocals = 1 := hml0
 have hlk : meth.locks = false := Bd.notSynchronized
 have hown : s.vm.findClass "java/lang/String" = some m.cls := findClass_of_methodNamed Bd.named
 have hnm := (name_of_methodNamed Bd.named Bd.method).1
 have X0 : Stand p l e ({ frames := 0, cells := 0, slots := 0, locals := 0 } : Room) s m #[(.ref a0)] below meth c s₁ [] 0 0 := Stand.of_body Bd
 have e0 : s₁.heap = h0 := by rw [← hh, Bd.state]; rfl
 have N0 := Fr.nil n0
 show own_Go p e below (own_Fin s 0 0 (Qisl Z f_CS a0 h0 n0)) _
 refine own_by (fun t k => castTop (ef_isl m a0) k) ?_
 show own_Go p e below _ (s₁.setTop (mkF m 0 #[vR a0] []))
 obtain ⟨T1, X1, e1, st1⟩ := getS2 X0 hx hZ hown (host := "") (Or.inl (hwd 71 rfl)) Via.refl e0 P_S_CS (g := (mkF m 0 #[vR a0] [])) rfl (hb hby d36_0)
 refine own_by st1 ?_
 show own_Go p e below _ (T1.setTop (mkF m 3 #[vR a0] [(.int f_CS)]))
 refine own_by (fun _ k => XS.ifNo X1.here hx rfl (hb hby d36_3) rfl ((if0 _ _).trans (feq hn_CS).1) k) ?_
 show own_Go p e below _ (T1.setTop (mkF m 6 #[vR a0] []))
 refine own_by (fun _ k => XS.aloadN X1.here hx rfl (hb hby d36_6) rfl rfl k) ?_
 obtain ⟨T2, X2, e2, st2⟩ := getF X1 hx hZ hown (host := "") (Or.inl (hwd 25 rfl)) Via.refl e1 P_F_a0_coder (g := (mkF m 7 #[vR a0] [(.ref a0)])) rfl rfl (hb hby d36_7)
 refine own_by st2 ?_
 show own_Go p e below _ (T2.setTop (mkF m 10 #[vR a0] [(.int (0 : Int32))]))
 refine own_by (fun _ k => XS.ifNo X2.here hx rfl (hb hby d36_10) rfl ((if0 _ _).trans (teq (by decide : (0 : Int32) = (0 : Int32))).2) k) ?_
 show own_Go p e below _ (T2.setTop (mkF m 13 #[vR a0] []))
 refine own_by (fun _ k => XS.iconst X2.here hx rfl (hb hby d36_13) k) ?_
 refine own_by (fun _ k => XS.goto X2.here hx rfl (pc0 := 14) (pc' := 18) rfl (hb hby d36_14) (by decide) (by decide) k) ?_
 show own_Go p e below _ (T2.setTop (mkF m 18 #[vR a0] [(.int (1 : Int32))]))
 exact own_retN X2 hx (t := .boolean) Bd.returns (by simp) (hb hby d36_18) hlk e2 ⟨rfl, N0, rfl⟩ (by decide) (by decide)
theorem pd_66 : parseMethodDescriptor "()B" = some ⟨[], some .byte⟩ := by decide +kernel
theorem d10_0 : decode jdk_42_method_54_code 0 = .ok (.aload_n 0, 1) := by decide +kernel
theorem d10_1 : decode jdk_42_method_54_code 1 = .ok (.getfield 9, 3) := by decide +kernel
theorem d10_4 : decode jdk_42_method_54_code 4 = .ok (.arraylength, 1) := by decide +kernel
theorem d10_5 : decode jdk_42_method_54_code 5 = .ok (.aload_n 0, 1) := by decide +kernel
theorem d10_6 : decode jdk_42_method_54_code 6 = .ok (.invokevirtual 335, 3) := by decide +kernel
theorem d10_9 : decode jdk_42_method_54_code 9 = .ok (.ishr, 1) := by decide +kernel
theorem d10_10 : decode jdk_42_method_54_code 10 = .ok (.ireturn, 1) := by decide +kernel
theorem pn_len : plainName "java/lang/String" = true := by first | (simp [plainName, overriddenIn]; done) | decide +kernel
theorem ef_len (m : MethodId) (a0 : Addr) : entryFrame m #[(.ref a0)] 1 = mkF m 0 #[vR a0] [] := by first | (simp [entryFrame, mkF, argsToLocals, Value.category]; done) | rfl
def Qlen (Z : State) (t_a0 : Addr) (k_t_a0 : ClassId) (n_t_a0 : Int32) (fn_t_a0 : Nat → Int32) (f_CS : Int32) (a0 : Addr) (h0 : Heap) (n0 : Nat) (v : Option Value) (h : Heap) (L : List Loc) : Prop := v = some (.int n_t_a0) ∧ Fr n0 L ∧ h = h0
set_option maxRecDepth 65536 in
set_option maxHeartbeats 40000000 in
theorem rmlen (l : Launch) (Z : State) (A0 : Array Value) (hw : ∀ d ∈ tables_1, d.before A0 Z = true) (ws : List Jvm.Cond) (t_a0 : Addr) (k_t_a0 : ClassId) (n_t_a0 : Int32) (fn_t_a0 : Nat → Int32) (f_CS : Int32) (a0 : Addr) (h0 : Heap) (n0 : Nat) (Z0 : n0 ≤ h0.size) (P_E_a0 : Exa Z h0 a0 "java/lang/String") (P_F_a0_coder : Fld Z h0 a0 "java/lang/String" "coder" "B" (.int (0 : Int32))) (P_F_a0_value : Fld Z h0 a0 "java/lang/String" "value" "[B" (.ref t_a0)) (P_V_t_a0 : own_Arf Z h0 t_a0 k_t_a0 .byte n_t_a0 (fun i => .int (fn_t_a0 i))) (P_S_CS : Sta Z h0 "java/lang/String" "COMPACT_STRINGS" "Z" (.int f_CS)) (hn_CS : ¬ (f_CS = (0 : Int32))) :
    MetFree l (⟨"java/lang/String", "length", "()I"⟩ : MethodName) (head1 (Jvm.Cond.code (⟨"java/lang/String", "length", "()I"⟩ : MethodName) jdk_42_method_54_code 1 (some .int) :: ws) ({ frames := 1, cells := 0, slots := 0, locals := 13 } : Room)) (fun a U => a = #[(.ref a0)] ∧ Z.Warmed39 U.vm ∧ U.heap = h0) (fun _ _ _ _ _ => True) (fun _ U o U' => ∃ v L, o = .returned v ∧ Qlen Z t_a0 k_t_a0 n_t_a0 fn_t_a0 f_CS a0 h0 n0 v U'.heap L ∧ FrameEnd U o U' L 0 0) := by
 refine MetFree.of_bodySF (plainFor_of_name pn_len) hisR ?_
 intro p e s m args below meth c s₁ Bd hml0 hP hK
 obtain ⟨rfl, hZ, hh⟩ := hP
 have hwd := fun i {d : Jvm.Cond} (h : tables_1[i]? = some d) => hw d (List.mem_of_getElem? h)
 have hx := Bd.exec
 have hby := Bd.bytes
 have hml : c.maxLocals = 1 := hml0
 have hlk : meth.locks = false := Bd.notSynchronized
 have hown : s.vm.findClass "java/lang/String" = some m.cls := findClass_of_methodNamed Bd.named
 have hnm := (name_of_methodNamed Bd.named Bd.method).1
 have X0 : Stand p l e ({ frames := 1, cells := 0, slots := 0, locals := 13 } : Room) s m #[(.ref a0)] below meth c s₁ [] 0 0 := Stand.of_body Bd
 have e0 : s₁.heap = h0 := by rw [← hh, Bd.state]; rfl
 have N0 := Fr.nil n0
 show own_Go p e below (own_Fin s 0 0 (Qlen Z t_a0 k_t_a0 n_t_a0 fn_t_a0 f_CS a0 h0 n0)) _
 refine own_by (fun t k => castTop (ef_len m a0) k) ?_
 show own_Go p e below _ (s₁.setTop (mkF m 0 #[vR a0] []))
 refine own_by (fun _ k => XS.aloadN X0.here hx rfl (hb hby d10_0) rfl rfl k) ?_
 obtain ⟨T1, X1, e1, st1⟩ := getF X0 hx hZ hown (host := "") (Or.inl (hwd 24 rfl)) Via.refl e0 P_F_a0_value (g := (mkF m 1 #[vR a0] [(.ref a0)])) rfl rfl (hb hby d10_1)
 refine own_by st1 ?_
 show own_Go p e below _ (T1.setTop (mkF m 4 #[vR a0] [(.ref t_a0)]))
 obtain ⟨cl2, Ar2, qq2, S2, M2, H2, G2⟩ := id P_V_t_a0
 refine own_by (fun t k => X1.arraylength hx (by rw [e1]; exact Ar2.1) (State.isArrayOf_alike hZ.alike Ar2.2.1) (g := (mkF m 4 #[vR a0] [(.ref t_a0)])) rfl rfl (hb hby d10_4) _ k) ?_
 rw [len_of S2 M2]
 show own_Go p e below _ (T1.setTop (mkF m 5 #[vR a0] [(.int n_t_a0)]))
 refine own_by (fun _ k => XS.aloadN X1.here hx rfl (hb hby d10_5) rfl rfl k) ?_
 obtain ⟨cq3, kq3, qq3a, qq3b, qq3c⟩ := isOf hZ e1 P_E_a0
 obtain ⟨_, _, ⟨T3, L3, k3, n3⟩, -, X3, ⟨Lc3, hQ3, l3, y3, z3⟩, st3⟩ := X1.virtualBack hx (y := (⟨"java/lang/String", "coder", "()B"⟩ : MethodName)) (z := (⟨"java/lang/String", "coder", "()B"⟩ : MethodName)) hown (mvT hZ (hwd 66 rfl)) (mvT hZ (hwd 67 rfl)) (notFace_of_selects (args := #[]) (mvT hZ (hwd 69 rfl))) (mvT hZ (hwd 69 rfl)) (mvT hZ (hwd 68 rfl)) (by decide) (backOf (W := 1) (rmcoder l Z A0 hw [] f_CS a0 h0 n0 Z0 P_E_a0 P_F_a0_coder P_S_CS hn_CS) hZ (hwd 70 rfl) (hwd 6 rfl) (by decide) (by decide)) qq3a qq3c (g := (mkF m 6 #[vR a0] [(.ref a0), (.int n_t_a0)])) rfl (by rw [hml]; rfl) (Steps.refl _) (argsL := []) (rest := [(.int n_t_a0)]) (lenOf pd_66 rfl) rfl (by show 2 * 0 + _ ≤ _; exact Nat.le_of_eq rfl) (hb hby d10_6) (fun _ _ => ⟨rfl, e1, (by decide : 0 + 0 ≤ _), (by decide : 0 + 0 ≤ _)⟩)
 dsimp only [Pt.U, Pt.locs, Pt.cells, Pt.slots] at X3 l3 y3 z3 st3 hQ3
 subst l3 y3 z3
 obtain ⟨rfl, Nq3, eq3⟩ := hQ3
 have N3 := Fr.app N0 Nq3
 refine own_by (fun _ k => st3.trans k) ?_
 show own_Go p e below _ (T3.setTop (mkF m 9 #[vR a0] [(.int (0 : Int32)), (.int n_t_a0)]))
 refine own_by (fun _ k => XS.ishr X3.here hx rfl (hb hby d10_9) rfl k) ?_
 show own_Go p e below _ (T3.setTop (mkF m 10 #[vR a0] [(.int (n_t_a0 >>> ((0 : Int32) &&& 31)))]))
 rw [own_ishr0]
 show own_Go p e below _ (T3.setTop (mkF m 10 #[vR a0] [(.int n_t_a0)]))
 exact own_retI X3 hx Bd.returns (hb hby d10_10) hlk eq3 ⟨rfl, N3, rfl⟩ (by decide) (by decide)
theorem d39_0 : decode jdk_41_method_11_code 0 = .ok (.iload_n 0, 1) := by decide +kernel
theorem d39_1 : decode jdk_41_method_11_code 1 = .ok (.ifCond .lt 8, 3) := by decide +kernel
theorem d39_4 : decode jdk_41_method_11_code 4 = .ok (.iload_n 0, 1) := by decide +kernel
theorem d39_5 : decode jdk_41_method_11_code 5 = .ok (.iload_n 1, 1) := by decide +kernel
theorem d39_6 : decode jdk_41_method_11_code 6 = .ok (.if_icmp .lt 10, 3) := by decide +kernel
theorem d39_16 : decode jdk_41_method_11_code 16 = .ok (.iload_n 0, 1) := by decide +kernel
theorem d39_17 : decode jdk_41_method_11_code 17 = .ok (.ireturn, 1) := by decide +kernel
theorem pn_pci : plainName "jdk/internal/util/Preconditions" = true := by first | (simp [plainName, overriddenIn]; done) | decide +kernel
theorem ef_pci (m : MethodId) (p0 : Int32) (p1 : Int32) (r2 : Value) (hr_r2 : r2.isRef = true) : entryFrame m #[(.int p0), (.int p1), r2] 3 = mkF m 0 #[vI p0, vI p1, .val r2] [] := by
  rcases ref_cases hr_r2 with rfl | ⟨_, rfl⟩ <;> first | (simp [entryFrame, mkF, argsToLocals, Value.category]; done) | rfl
def Qpci (Z : State) (p0 : Int32) (p1 : Int32) (r2 : Value) (h0 : Heap) (n0 : Nat) (v : Option Value) (h : Heap) (L : List Loc) : Prop := v = some (.int p0) ∧ Fr n0 L ∧ h = h0
set_option maxRecDepth 65536 in
set_option maxHeartbeats 40000000 in
theorem rmpci (l : Launch) (Z : State) (A0 : Array Value) (hw : ∀ d ∈ tables_1, d.before A0 Z = true) (ws : List Jvm.Cond) (p0 : Int32) (p1 : Int32) (r2 : Value) (h0 : Heap) (n0 : Nat) (Z0 : n0 ≤ h0.size) (hr_r2 : r2.isRef = true) (hc1 : ¬ (p0 < (0 : Int32))) (hc6 : p0 < p1) :
    MetFree l (⟨"jdk/internal/util/Preconditions", "checkIndex", "(IILjava/util/function/BiFunction;)I"⟩ : MethodName) (head1 (Jvm.Cond.code (⟨"jdk/internal/util/Preconditions", "checkIndex", "(IILjava/util/function/BiFunction;)I"⟩ : MethodName) jdk_41_method_11_code 3 (some .int) :: ws) ({ frames := 0, cells := 0, slots := 0, locals := 0 } : Room)) (fun a U => a = #[(.int p0), (.int p1), r2] ∧ Z.Warmed39 U.vm ∧ U.heap = h0) (fun _ _ _ _ _ => True) (fun _ U o U' => ∃ v L, o = .returned v ∧ Qpci Z p0 p1 r2 h0 n0 v U'.heap L ∧ FrameEnd U o U' L 0 0) := by
 refine MetFree.of_bodySF (plainFor_of_name pn_pci) hisR ?_
 intro p e s m args below meth c s₁ Bd hml0 hP hK
 obtain ⟨rfl, hZ, hh⟩ := hP
 have hwd := fun i {d : Jvm.Cond} (h : tables_1[i]? = some d) => hw d (List.mem_of_getElem? h)
 have hx := Bd.exec
 have hby := Bd.bytes
 have hml : c.maxLocals = 3 := hml0
 have hlk : meth.locks = false := Bd.notSynchronized
 have hown : s.vm.findClass "jdk/internal/util/Preconditions" = some m.cls := findClass_of_methodNamed Bd.named
 have hnm := (name_of_methodNamed Bd.named Bd.method).1
 have X0 : Stand p l e ({ frames := 0, cells := 0, slots := 0, locals := 0 } : Room) s m #[(.int p0), (.int p1), r2] below meth c s₁ [] 0 0 := Stand.of_body Bd
 have e0 : s₁.heap = h0 := by rw [← hh, Bd.state]; rfl
 have N0 := Fr.nil n0
 show own_Go p e below (own_Fin s 0 0 (Qpci Z p0 p1 r2 h0 n0)) _
 refine own_by (fun t k => castTop (ef_pci m p0 p1 r2 hr_r2) k) ?_
 show own_Go p e below _ (s₁.setTop (mkF m 0 #[vI p0, vI p1, .val r2] []))
 refine own_by (fun _ k => XS.iloadN X0.here hx rfl (hb hby d39_0) rfl k) ?_
 refine own_by (fun _ k => XS.ifNo X0.here hx rfl (hb hby d39_1) rfl ((if0 _ _).trans (flt hc1).1) k) ?_
 show own_Go p e below _ (s₁.setTop (mkF m 4 #[vI p0, vI p1, .val r2] []))
 refine own_by (fun _ k => XS.iloadN X0.here hx rfl (hb hby d39_4) rfl k) ?_
 refine own_by (fun _ k => XS.iloadN X0.here hx rfl (hb hby d39_5) rfl k) ?_
 refine own_by (fun _ k => XS.icmpYes X0.here hx rfl (pc0 := 6) (pc' := 16) rfl (hb hby d39_6) rfl (tlt hc6).1 (by decide) (by decide) k) ?_
 show own_Go p e below _ (s₁.setTop (mkF m 16 #[vI p0, vI p1, .val r2] []))
 refine own_by (fun _ k => XS.iloadN X0.here hx rfl (hb hby d39_16) rfl k) ?_
 exact own_retI X0 hx Bd.returns (hb hby d39_17) hlk e0 ⟨rfl, N0, rfl⟩ (by decide) (by decide)
theorem pd_237 : parseMethodDescriptor "(IILjava/util/function/BiFunction;)I" = some ⟨[.int, .int, (.object "java/util/function/BiFunction")], some .int⟩ := by decide +kernel
theorem d38_0 : decode jdk_42_method_155_code 0 = .ok (.iload_n 0, 1) := by decide +kernel
theorem d38_1 : decode jdk_42_method_155_code 1 = .ok (.iload_n 1, 1) := by decide +kernel
theorem d38_2 : decode jdk_42_method_155_code 2 = .ok (.getstatic 1053, 3) := by decide +kernel
theorem d38_5 : decode jdk_42_method_155_code 5 = .ok (.invokestatic 1059, 3) := by decide +kernel
theorem d38_8 : decode jdk_42_method_155_code 8 = .ok (.pop, 1) := by decide +kernel
theorem d38_9 : decode jdk_42_method_155_code 9 = .ok (.return_, 1) := by decide +kernel
theorem pn_sci : plainName "java/lang/String" = true := by first | (simp [plainName, overriddenIn]; done) | decide +kernel
theorem ef_sci (m : MethodId) (p0 : Int32) (p1 : Int32) : entryFrame m #[(.int p0), (.int p1)] 2 = mkF m 0 #[vI p0, vI p1] [] := by first | (simp [entryFrame, mkF, argsToLocals, Value.category]; done) | rfl
def Qsci (Z : State) (f_SF : Value) (p0 : Int32) (p1 : Int32) (h0 : Heap) (n0 : Nat) (v : Option Value) (h : Heap) (L : List Loc) : Prop := v = none ∧ Fr n0 L ∧ h = h0
set_option maxRecDepth 65536 in
set_option maxHeartbeats 40000000 in
theorem rmsci (l : Launch) (Z : State) (A0 : Array Value) (hw : ∀ d ∈ tables_1, d.before A0 Z = true) (ws : List Jvm.Cond) (f_SF : Value) (p0 : Int32) (p1 : Int32) (h0 : Heap) (n0 : Nat) (Z0 : n0 ≤ h0.size) (P_S_SF : Sta Z h0 "jdk/internal/util/Preconditions" "SIOOBE_FORMATTER" "Ljava/util/function/BiFunction;" f_SF) (hr_f_SF : f_SF.isRef = true) (hp_1 : ¬ (p0 < (0 : Int32))) (hp_2 : p0 < p1) :
    MetFree l (⟨"java/lang/String", "checkIndex", "(II)V"⟩ : MethodName) (head1 (Jvm.Cond.code (⟨"java/lang/String", "checkIndex", "(II)V"⟩ : MethodName) jdk_42_method_155_code 2 none :: ws) ({ frames := 1, cells := 0, slots := 0, locals := 14 } : Room)) (fun a U => a = #[(.int p0), (.int p1)] ∧ Z.Warmed39 U.vm ∧ U.heap = h0) (fun _ _ _ _ _ => True) (fun _ U o U' => ∃ v L, o = .returned v ∧ Qsci Z f_SF p0 p1 h0 n0 v U'.heap L ∧ FrameEnd U o U' L 0 0) := by
 refine MetFree.of_bodySF (plainFor_of_name pn_sci) hisR ?_
 intro p e s m args below meth c s₁ Bd hml0 hP hK
 obtain ⟨rfl, hZ, hh⟩ := hP
 have hwd := fun i {d : Jvm.Cond} (h : tables_1[i]? = some d) => hw d (List.mem_of_getElem? h)
 have hx := Bd.exec
 have hby := Bd.bytes
 have hml : c.maxLocals = 2 := hml0
 have hlk : meth.locks = false := Bd.notSynchronized
 have hown : s.vm.findClass "java/lang/String" = some m.cls := findClass_of_methodNamed Bd.named
 have hnm := (name_of_methodNamed Bd.named Bd.method).1
 have X0 : Stand p l e ({ frames := 1, cells := 0, slots := 0, locals := 14 } : Room) s m #[(.int p0), (.int p1)] below meth c s₁ [] 0 0 := Stand.of_body Bd
 have e0 : s₁.heap = h0 := by rw [← hh, Bd.state]; rfl
 have N0 := Fr.nil n0
 show own_Go p e below (own_Fin s 0 0 (Qsci Z f_SF p0 p1 h0 n0)) _
 refine own_by (fun t k => castTop (ef_sci m p0 p1) k) ?_
 show own_Go p e below _ (s₁.setTop (mkF m 0 #[vI p0, vI p1] []))
 refine own_by (fun _ k => XS.iloadN X0.here hx rfl (hb hby d38_0) rfl k) ?_
 refine own_by (fun _ k => XS.iloadN X0.here hx rfl (hb hby d38_1) rfl k) ?_
 obtain ⟨T1, X1, e1, st1⟩ := getS2 X0 hx hZ hown (host := "") (Or.inl (hwd 235 rfl)) Via.refl e0 P_S_SF (g := (mkF m 2 #[vI p0, vI p1] [(.int p1), (.int p0)])) rfl (hb hby d38_2)
 refine own_by st1 ?_
 show own_Go p e below _ (T1.setTop (mkF m 5 #[vI p0, vI p1] [f_SF, (.int p1), (.int p0)]))
 obtain ⟨_, _, ⟨T2, L2, k2, n2⟩, -, X2, ⟨Lc2, hQ2, l2, y2, z2⟩, st2⟩ := Jvm.LawKit.callS X1 hx (y := (⟨"jdk/internal/util/Preconditions", "checkIndex", "(IILjava/util/function/BiFunction;)I"⟩ : MethodName)) hown (mvT hZ (hwd 237 rfl)) (mvT hZ (hwd 238 rfl)) (mvT hZ (hwd 236 rfl)) (mvT hZ (hwd 239 rfl)) (by decide) (backOf (W := 0) (rmpci l Z A0 hw [] p0 p1 f_SF h0 n0 Z0 hr_f_SF hp_1 hp_2) hZ (hwd 239 rfl) (hwd 236 rfl) (by decide) (by decide)) (g := (mkF m 5 #[vI p0, vI p1] [f_SF, (.int p1), (.int p0)])) rfl (by rw [hml]; rfl) (argsL := [(.int p0), (.int p1), f_SF]) (rest := []) (lenOf pd_237 rfl) rfl (by show 2 * 0 + _ ≤ _; exact Nat.le_of_eq rfl) (hb hby d38_5) (fun _ _ => ⟨rfl, e1, (by decide : 0 + 0 ≤ _), (by decide : 0 + 0 ≤ _)⟩)
 dsimp only [Pt.U, Pt.locs, Pt.cells, Pt.slots] at X2 l2 y2 z2 st2 hQ2
 subst l2 y2 z2
 obtain ⟨rfl, Nq2, eq2⟩ := hQ2
 have N2 := Fr.app N0 Nq2
 refine own_by st2 ?_
 show own_Go p e below _ (T2.setTop (mkF m 8 #[vI p0, vI p1] [(.int p0)]))
 refine own_by (fun _ k => XS.pop X2.here hx rfl (hb hby d38_8) rfl rfl k) ?_
 show own_Go p e below _ (T2.setTop (mkF m 9 #[vI p0, vI p1] []))
 exact own_ret0 X2 hx Bd.returns (hb hby d38_9) hlk eq2 ⟨rfl, N2, rfl⟩ (by decide) (by decide)
theorem pd_137 : parseMethodDescriptor "(II)V" = some ⟨[.int, .int], none⟩ := by decide +kernel
theorem d37_0 : decode jdk_43_method_2_code 0 = .ok (.iload_n 1, 1) := by decide +kernel
theorem d37_1 : decode jdk_43_method_2_code 1 = .ok (.aload_n 0, 1) := by decide +kernel
theorem d37_2 : decode jdk_43_method_2_code 2 = .ok (.arraylength, 1) := by decide +kernel
theorem d37_3 : decode jdk_43_method_2_code 3 = .ok (.invokestatic 9, 3) := by decide +kernel
theorem d37_6 : decode jdk_43_method_2_code 6 = .ok (.aload_n 0, 1) := by decide +kernel
theorem d37_7 : decode jdk_43_method_2_code 7 = .ok (.iload_n 1, 1) := by decide +kernel
theorem d37_8 : decode jdk_43_method_2_code 8 = .ok (.baload, 1) := by decide +kernel
theorem d37_9 : decode jdk_43_method_2_code 9 = .ok (.sipush 255, 3) := by decide +kernel
theorem d37_12 : decode jdk_43_method_2_code 12 = .ok (.iand, 1) := by decide +kernel
theorem d37_13 : decode jdk_43_method_2_code 13 = .ok (.i2c, 1) := by decide +kernel
theorem d37_14 : decode jdk_43_method_2_code 14 = .ok (.ireturn, 1) := by decide +kernel
theorem pn_lca : plainName "java/lang/StringLatin1" = true := by first | (simp [plainName, overriddenIn]; done) | decide +kernel
theorem ef_lca (m : MethodId) (a0 : Addr) (p1 : Int32) : entryFrame m #[(.ref a0), (.int p1)] 2 = mkF m 0 #[vR a0, vI p1] [] := by first | (simp [entryFrame, mkF, argsToLocals, Value.category]; done) | rfl
def Qlca (Z : State) (k_a0 : ClassId) (n_a0 : Int32) (fn_a0 : Nat → Int32) (f_SF : Value) (a0 : Addr) (p1 : Int32) (h0 : Heap) (n0 : Nat) (v : Option Value) (h : Heap) (L : List Loc) : Prop := v = some (.int (nar .char (((fn_a0 (p1).toNatClampNeg) &&& (255 : Int32)).toUInt32.toUInt16.toUInt32.toInt32))) ∧ Fr n0 L ∧ h = h0
set_option maxRecDepth 65536 in
set_option maxHeartbeats 40000000 in
theorem rmlca (l : Launch) (Z : State) (A0 : Array Value) (hw : ∀ d ∈ tables_1, d.before A0 Z = true) (ws : List Jvm.Cond) (k_a0 : ClassId) (n_a0 : Int32) (fn_a0 : Nat → Int32) (f_SF : Value) (a0 : Addr) (p1 : Int32) (h0 : Heap) (n0 : Nat) (Z0 : n0 ≤ h0.size) (P_V_a0 : own_Arf Z h0 a0 k_a0 .byte n_a0 (fun i => .int (fn_a0 i))) (P_S_SF : Sta Z h0 "jdk/internal/util/Preconditions" "SIOOBE_FORMATTER" "Ljava/util/function/BiFunction;" f_SF) (hr_f_SF : f_SF.isRef = true) (hp_1 : ¬ (p1 < (0 : Int32))) (hp_2 : p1 < n_a0) (hi_8_5 : (¬ p1 < 0) ∧ p1 < n_a0) :
    MetFree l (⟨"java/lang/StringLatin1", "charAt", "([BI)C"⟩ : MethodName) (head1 (Jvm.Cond.code (⟨"java/lang/StringLatin1", "charAt", "([BI)C"⟩ : MethodName) jdk_43_method_2_code 2 (some .char) :: ws) ({ frames := 2, cells := 0, slots := 0, locals := 27 } : Room)) (fun a U => a = #[(.ref a0), (.int p1)] ∧ Z.Warmed39 U.vm ∧ U.heap = h0) (fun _ _ _ _ _ => True) (fun _ U o U' => ∃ v L, o = .returned v ∧ Qlca Z k_a0 n_a0 fn_a0 f_SF a0 p1 h0 n0 v U'.heap L ∧ FrameEnd U o U' L 0 0) := by
 refine MetFree.of_bodySF (plainFor_of_name pn_lca) hisR ?_
 intro p e s m args below meth c s₁ Bd hml0 hP hK
 obtain ⟨rfl, hZ, hh⟩ := hP
 have hwd := fun i {d : Jvm.Cond} (h : tables_1[i]? = some d) => hw d (List.mem_of_getElem? h)
 have hx := Bd.exec
 have hby := Bd.bytes
 have hml : c.maxLocals = 2 := hml0
 have hlk : meth.locks = false := Bd.notSynchronized
 have hown : s.vm.findClass "java/lang/StringLatin1" = some m.cls := findClass_of_methodNamed Bd.named
 have hnm := (name_of_methodNamed Bd.named Bd.method).1
 have X0 : Stand p l e ({ frames := 2, cells := 0, slots := 0, locals := 27 } : Room) s m #[(.ref a0), (.int p1)] below meth c s₁ [] 0 0 := Stand.of_body Bd
 have e0 : s₁.heap = h0 := by rw [← hh, Bd.state]; rfl
 have N0 := Fr.nil n0
 show own_Go p e below (own_Fin s 0 0 (Qlca Z k_a0 n_a0 fn_a0 f_SF a0 p1 h0 n0)) _
 refine own_by (fun t k => castTop (ef_lca m a0 p1) k) ?_
 show own_Go p e below _ (s₁.setTop (mkF m 0 #[vR a0, vI p1] []))
 refine own_by (fun _ k => XS.iloadN X0.here hx rfl (hb hby d37_0) rfl k) ?_
 refine own_by (fun _ k => XS.aloadN X0.here hx rfl (hb hby d37_1) rfl rfl k) ?_
 obtain ⟨cl1, Ar1, qq1, S1, M1, H1, G1⟩ := id P_V_a0
 refine own_by (fun t k => X0.arraylength hx (by rw [e0]; exact Ar1.1) (State.isArrayOf_alike hZ.alike Ar1.2.1) (g := (mkF m 2 #[vR a0, vI p1] [(.ref a0), (.int p1)])) rfl rfl (hb hby d37_2) _ k) ?_
 rw [len_of S1 M1]
 show own_Go p e below _ (s₁.setTop (mkF m 3 #[vR a0, vI p1] [(.int n_a0), (.int p1)]))
 obtain ⟨_, _, ⟨T2, L2, k2, n2⟩, -, X2, ⟨Lc2, hQ2, l2, y2, z2⟩, st2⟩ := Jvm.LawKit.callS X0 hx (y := (⟨"java/lang/String", "checkIndex", "(II)V"⟩ : MethodName)) hown (mvT hZ (hwd 232 rfl)) (mvT hZ (hwd 233 rfl)) (mvT hZ (hwd 6 rfl)) (mvT hZ (hwd 234 rfl)) (by decide) (backOf (W := 0) (rmsci l Z A0 hw [] f_SF p1 n_a0 h0 n0 Z0 P_S_SF hr_f_SF hp_1 hp_2) hZ (hwd 234 rfl) (hwd 6 rfl) (by decide) (by decide)) (g := (mkF m 3 #[vR a0, vI p1] [(.int n_a0), (.int p1)])) rfl (by rw [hml]; rfl) (argsL := [(.int p1), (.int n_a0)]) (rest := []) (lenOf pd_137 rfl) rfl (by show 2 * 0 + _ ≤ _; exact Nat.le_of_eq rfl) (hb hby d37_3) (fun _ _ => ⟨rfl, e0, (by decide : 0 + 0 ≤ _), (by decide : 0 + 0 ≤ _)⟩)
 dsimp only [Pt.U, Pt.locs, Pt.cells, Pt.slots] at X2 l2 y2 z2 st2 hQ2
 subst l2 y2 z2
 obtain ⟨rfl, Nq2, eq2⟩ := hQ2
 have N2 := Fr.app N0 Nq2
 refine own_by st2 ?_
 show own_Go p e below _ (T2.setTop (mkF m 6 #[vR a0, vI p1] []))
 refine own_by (fun _ k => XS.aloadN X2.here hx rfl (hb hby d37_6) rfl rfl k) ?_
 refine own_by (fun _ k => XS.iloadN X2.here hx rfl (hb hby d37_7) rfl k) ?_
 obtain ⟨cl3, Ar3, qq3, S3, M3, H3, G3⟩ := id P_V_a0
 have hin3 : ¬ (p1 < 0 ∨ cl3.slots.size ≤ (p1).toNatClampNeg) := inb_of S3 hi_8_5
 refine own_by (fun t k => X2.baloadBytes hx (j := p1) (v := (.int (fn_a0 (p1).toNatClampNeg))) (by rw [eq2]; exact Ar3.1) (State.isArrayOf_alike hZ.alike Ar3.2.1) Ar3.2.2 hin3 (H3 _ (Nat.lt_of_not_le fun y => hin3 (Or.inr y))) (g := (mkF m 8 #[vR a0, vI p1] [(.int p1), (.ref a0)])) rfl rfl (hb hby d37_8) _ k) ?_
 show own_Go p e below _ (T2.setTop (mkF m 9 #[vR a0, vI p1] [(.int (fn_a0 (p1).toNatClampNeg))]))
 refine own_by (fun _ k => XS.sipush X2.here hx rfl (hb hby d37_9) k) ?_
 refine own_by (fun _ k => XS.iand X2.here hx rfl (hb hby d37_12) rfl k) ?_
 show own_Go p e below _ (T2.setTop (mkF m 13 #[vR a0, vI p1] [(.int ((fn_a0 (p1).toNatClampNeg) &&& (255 : Int32)))]))
 refine own_by (fun _ k => XS.i2c X2.here hx rfl (hb hby d37_13) rfl k) ?_
 show own_Go p e below _ (T2.setTop (mkF m 14 #[vR a0, vI p1] [(.int (((fn_a0 (p1).toNatClampNeg) &&& (255 : Int32)).toUInt32.toUInt16.toUInt32.toInt32))]))
 exact own_retN X2 hx (t := .char) Bd.returns (by simp) (hb hby d37_14) hlk eq2 ⟨rfl, N2, rfl⟩ (by decide) (by decide)
theorem pd_125 : parseMethodDescriptor "()Z" = some ⟨[], some .boolean⟩ := by decide +kernel
theorem pd_228 : parseMethodDescriptor "([BI)C" = some ⟨[(.array .byte), .int], some .char⟩ := by decide +kernel
theorem d35_0 : decode jdk_42_method_56_code 0 = .ok (.aload_n 0, 1) := by decide +kernel
theorem d35_1 : decode jdk_42_method_56_code 1 = .ok (.invokevirtual 492, 3) := by decide +kernel
theorem d35_4 : decode jdk_42_method_56_code 4 = .ok (.ifCond .eq 12, 3) := by decide +kernel
theorem d35_7 : decode jdk_42_method_56_code 7 = .ok (.aload_n 0, 1) := by decide +kernel
theorem d35_8 : decode jdk_42_method_56_code 8 = .ok (.getfield 9, 3) := by decide +kernel
theorem d35_11 : decode jdk_42_method_56_code 11 = .ok (.iload_n 1, 1) := by decide +kernel
theorem d35_12 : decode jdk_42_method_56_code 12 = .ok (.invokestatic 495, 3) := by decide +kernel
theorem d35_15 : decode jdk_42_method_56_code 15 = .ok (.ireturn, 1) := by decide +kernel
theorem pn_sca : plainName "java/lang/String" = true := by first | (simp [plainName, overriddenIn]; done) | decide +kernel
theorem ef_sca (m : MethodId) (a0 : Addr) (p1 : Int32) : entryFrame m #[(.ref a0), (.int p1)] 2 = mkF m 0 #[vR a0, vI p1] [] := by first | (simp [entryFrame, mkF, argsToLocals, Value.category]; done) | rfl
def Qsca (Z : State) (t_a0 : Addr) (k_t_a0 : ClassId) (n_t_a0 : Int32) (fn_t_a0 : Nat → Int32) (f_CS : Int32) (f_SF : Value) (a0 : Addr) (p1 : Int32) (h0 : Heap) (n0 : Nat) (v : Option Value) (h : Heap) (L : List Loc) : Prop := v = some (.int (nar .char (nar .char (((fn_t_a0 (p1).toNatClampNeg) &&& (255 : Int32)).toUInt32.toUInt16.toUInt32.toInt32)))) ∧ Fr n0 L ∧ h = h0
set_option maxRecDepth 65536 in
set_option maxHeartbeats 40000000 in
theorem rmsca (l : Launch) (Z : State) (A0 : Array Value) (hw : ∀ d ∈ tables_1, d.before A0 Z = true) (ws : List Jvm.Cond) (t_a0 : Addr) (k_t_a0 : ClassId) (n_t_a0 : Int32) (fn_t_a0 : Nat → Int32) (f_CS : Int32) (f_SF : Value) (a0 : Addr) (p1 : Int32) (h0 : Heap) (n0 : Nat) (Z0 : n0 ≤ h0.size) (P_E_a0 : Exa Z h0 a0 "java/lang/String") (P_F_a0_coder : Fld Z h0 a0 "java/lang/String" "coder" "B" (.int (0 : Int32))) (P_F_a0_value : Fld Z h0 a0 "java/lang/String" "value" "[B" (.ref t_a0)) (P_V_t_a0 : own_Arf Z h0 t_a0 k_t_a0 .byte n_t_a0 (fun i => .int (fn_t_a0 i))) (P_S_CS : Sta Z h0 "java/lang/String" "COMPACT_STRINGS" "Z" (.int f_CS)) (hn_CS : ¬ (f_CS = (0 : Int32))) (P_S_SF : Sta Z h0 "jdk/internal/util/Preconditions" "SIOOBE_FORMATTER" "Ljava/util/function/BiFunction;" f_SF) (hr_f_SF : f_SF.isRef = true) (hp_2 : ¬ (p1 < (0 : Int32))) (hp_3 : p1 < n_t_a0) (hp_4 : (¬ p1 < 0) ∧ p1 < n_t_a0) :
    MetFree l (⟨"java/lang/String", "charAt", "(I)C"⟩ : MethodName) (head1 (Jvm.Cond.code (⟨"java/lang/String", "charAt", "(I)C"⟩ : MethodName) jdk_42_method_56_code 2 (some .char) :: ws) ({ frames := 3, cells := 0, slots := 0, locals := 40 } : Room)) (fun a U => a = #[(.ref a0), (.int p1)] ∧ Z.Warmed39 U.vm ∧ U.heap = h0) (fun _ _ _ _ _ => True) (fun _ U o U' => ∃ v L, o = .returned v ∧ Qsca Z t_a0 k_t_a0 n_t_a0 fn_t_a0 f_CS f_SF a0 p1 h0 n0 v U'.heap L ∧ FrameEnd U o U' L 0 0) := by
 refine MetFree.of_bodySF (plainFor_of_name pn_sca) hisR ?_
 intro p e s m args below meth c s₁ Bd hml0 hP hK
 obtain ⟨rfl, hZ, hh⟩ := hP
 have hwd := fun i {d : Jvm.Cond} (h : tables_1[i]? = some d) => hw d (List.mem_of_getElem? h)
 have hx := Bd.exec
 have hby := Bd.bytes
 have hml : c.maxLocals = 2 := hml0
 have hlk : meth.locks = false := Bd.notSynchronized
 have hown : s.vm.findClass "java/lang/String" = some m.cls := findClass_of_methodNamed Bd.named
 have hnm := (name_of_methodNamed Bd.named Bd.method).1
 have X0 : Stand p l e ({ frames := 3, cells := 0, slots := 0, locals := 40 } : Room) s m #[(.ref a0), (.int p1)] below meth c s₁ [] 0 0 := Stand.of_body Bd
 have e0 : s₁.heap = h0 := by rw [← hh, Bd.state]; rfl
 have N0 := Fr.nil n0
 show own_Go p e below (own_Fin s 0 0 (Qsca Z t_a0 k_t_a0 n_t_a0 fn_t_a0 f_CS f_SF a0 p1 h0 n0)) _
 refine own_by (fun t k => castTop (ef_sca m a0 p1) k) ?_
 show own_Go p e below _ (s₁.setTop (mkF m 0 #[vR a0, vI p1] []))
 refine own_by (fun _ k => XS.aloadN X0.here hx rfl (hb hby d35_0) rfl rfl k) ?_
 obtain ⟨cq1, kq1, qq1a, qq1b, qq1c⟩ := isOf hZ e0 P_E_a0
 obtain ⟨_, _, ⟨T1, L1, k1, n1⟩, -, X1, ⟨Lc1, hQ1, l1, y1, z1⟩, st1⟩ := X0.virtualBack hx (y := (⟨"java/lang/String", "isLatin1", "()Z"⟩ : MethodName)) (z := (⟨"java/lang/String", "isLatin1", "()Z"⟩ : MethodName)) hown (mvT hZ (hwd 223 rfl)) (mvT hZ (hwd 224 rfl)) (notFace_of_selects (args := #[]) (mvT hZ (hwd 226 rfl))) (mvT hZ (hwd 226 rfl)) (mvT hZ (hwd 225 rfl)) (by decide) (backOf (W := 0) (rmisl l Z A0 hw [] f_CS a0 h0 n0 Z0 P_E_a0 P_F_a0_coder P_S_CS hn_CS) hZ (hwd 227 rfl) (hwd 6 rfl) (by decide) (by decide)) qq1a qq1c (g := (mkF m 1 #[vR a0, vI p1] [(.ref a0)])) rfl (by rw [hml]; rfl) (Steps.refl _) (argsL := []) (rest := []) (lenOf pd_125 rfl) rfl (by show 2 * 0 + _ ≤ _; exact Nat.le_of_eq rfl) (hb hby d35_1) (fun _ _ => ⟨rfl, e0, (by decide : 0 + 0 ≤ _), (by decide : 0 + 0 ≤ _)⟩)
 dsimp only [Pt.U, Pt.locs, Pt.cells, Pt.slots] at X1 l1 y1 z1 st1 hQ1
 subst l1 y1 z1
 obtain ⟨rfl, Nq1, eq1⟩ := hQ1
 have N1 := Fr.app N0 Nq1
 refine own_by (fun _ k => st1.trans k) ?_
 show own_Go p e below _ (T1.setTop (mkF m 4 #[vR a0, vI p1] [(.int (1 : Int32))]))
 refine own_by (fun _ k => XS.ifNo X1.here hx rfl (hb hby d35_4) rfl ((if0 _ _).trans (feq (by decide : ¬ ((1 : Int32) = (0 : Int32)))).1) k) ?_
 show own_Go p e below _ (T1.setTop (mkF m 7 #[vR a0, vI p1] []))
 refine own_by (fun _ k => XS.aloadN X1.here hx rfl (hb hby d35_7) rfl rfl k) ?_
 obtain ⟨T2, X2, e2, st2⟩ := getF X1 hx hZ hown (host := "") (Or.inl (hwd 24 rfl)) Via.refl eq1 P_F_a0_value (g := (mkF m 8 #[vR a0, vI p1] [(.ref a0)])) rfl rfl (hb hby d35_8)
 refine own_by st2 ?_
 show own_Go p e below _ (T2.setTop (mkF m 11 #[vR a0, vI p1] [(.ref t_a0)]))
 refine own_by (fun _ k => XS.iloadN X2.here hx rfl (hb hby d35_11) rfl k) ?_
 obtain ⟨_, _, ⟨T3, L3, k3, n3⟩, -, X3, ⟨Lc3, hQ3, l3, y3, z3⟩, st3⟩ := Jvm.LawKit.callS X2 hx (y := (⟨"java/lang/StringLatin1", "charAt", "([BI)C"⟩ : MethodName)) hown (mvT hZ (hwd 228 rfl)) (mvT hZ (hwd 229 rfl)) (mvT hZ (hwd 230 rfl)) (mvT hZ (hwd 231 rfl)) (by decide) (backOf (W := 0) (rmlca l Z A0 hw [] k_t_a0 n_t_a0 fn_t_a0 f_SF t_a0 p1 h0 n0 Z0 P_V_t_a0 P_S_SF hr_f_SF hp_2 hp_3 hp_4) hZ (hwd 231 rfl) (hwd 230 rfl) (by decide) (by decide)) (g := (mkF m 12 #[vR a0, vI p1] [(.int p1), (.ref t_a0)])) rfl (by rw [hml]; rfl) (argsL := [(.ref t_a0), (.int p1)]) (rest := []) (lenOf pd_228 rfl) rfl (by show 2 * 0 + _ ≤ _; exact Nat.le_of_eq rfl) (hb hby d35_12) (fun _ _ => ⟨rfl, e2, (by decide : 0 + 0 ≤ _), (by decide : 0 + 0 ≤ _)⟩)
 dsimp only [Pt.U, Pt.locs, Pt.cells, Pt.slots] at X3 l3 y3 z3 st3 hQ3
 subst l3 y3 z3
 obtain ⟨rfl, Nq3, eq3⟩ := hQ3
 have N3 := Fr.app N1 Nq3
 refine own_by st3 ?_
 show own_Go p e below _ (T3.setTop (mkF m 15 #[vR a0, vI p1] [(.int (nar .char (((fn_t_a0 (p1).toNatClampNeg) &&& (255 : Int32)).toUInt32.toUInt16.toUInt32.toInt32)))]))
 exact own_retN X3 hx (t := .char) Bd.returns (by simp) (hb hby d35_15) hlk eq3 ⟨rfl, N3, rfl⟩ (by decide) (by decide)
theorem d7_0 : decode jdk_68_method_2_code 0 = .ok (.aload_n 0, 1) := by decide +kernel
theorem d7_1 : decode jdk_68_method_2_code 1 = .ok (.invokespecial 3, 3) := by decide +kernel
theorem d7_4 : decode jdk_68_method_2_code 4 = .ok (.getstatic 18, 3) := by decide +kernel
theorem d7_7 : decode jdk_68_method_2_code 7 = .ok (.ifCond .eq 18, 3) := by decide +kernel
theorem d7_10 : decode jdk_68_method_2_code 10 = .ok (.aload_n 0, 1) := by decide +kernel
theorem d7_11 : decode jdk_68_method_2_code 11 = .ok (.iload_n 1, 1) := by decide +kernel
theorem d7_12 : decode jdk_68_method_2_code 12 = .ok (.newarray .byte, 2) := by decide +kernel
theorem d7_14 : decode jdk_68_method_2_code 14 = .ok (.putfield 15, 3) := by decide +kernel
theorem d7_17 : decode jdk_68_method_2_code 17 = .ok (.aload_n 0, 1) := by decide +kernel
theorem d7_18 : decode jdk_68_method_2_code 18 = .ok (.iconst 0, 1) := by decide +kernel
theorem d7_19 : decode jdk_68_method_2_code 19 = .ok (.putfield 22, 3) := by decide +kernel
theorem d7_22 : decode jdk_68_method_2_code 22 = .ok (.goto 16, 3) := by decide +kernel
theorem d7_38 : decode jdk_68_method_2_code 38 = .ok (.return_, 1) := by decide +kernel
theorem pn_7 : plainName "java/lang/AbstractStringBuilder" = true := by first | (simp [plainName, overriddenIn]; done) | decide +kernel
theorem ef_7 (m : MethodId) (a0 : Addr) : entryFrame m #[(.ref a0), (.int (16 : Int32))] 2 = mkF m 0 #[vR a0, vI (16 : Int32)] [] := by first | (simp [entryFrame, mkF, argsToLocals, Value.category]; done) | rfl
def Q7 (Z : State) (f_CS : Int32) (a0 : Addr) (f_a0_value : Value) (f_a0_coder : Int32) (f_a0_count : Int32) (h0 : Heap) (n0 : Nat) (v : Option Value) (h : Heap) (L : List Loc) : Prop := ∃ (b3 : Addr) (k3 : ClassId), v = none ∧ Fr n0 L ∧ Keep h0 h [a0] ∧ Exa Z h a0 "java/lang/StringBuilder" ∧ Fld Z h a0 "java/lang/AbstractStringBuilder" "value" "[B" (.ref b3) ∧ Fld Z h a0 "java/lang/AbstractStringBuilder" "coder" "B" (.int (nar .byte (0 : Int32))) ∧ Fld Z h a0 "java/lang/AbstractStringBuilder" "count" "I" (.int f_a0_count) ∧ (n0 ≤ b3) ∧ (h0.size ≤ b3) ∧ own_Arf Z h b3 k3 .byte (16 : Int32) (fun i => .int ((fun _ => (0 : Int32)) i))
set_option maxRecDepth 65536 in
set_option maxHeartbeats 40000000 in
theorem rm7 (l : Launch) (Z : State) (A0 : Array Value) (hw : ∀ d ∈ tables_1, d.before A0 Z = true) (ws : List Jvm.Cond) (f_CS : Int32) (a0 : Addr) (f_a0_value : Value) (f_a0_coder : Int32) (f_a0_count : Int32) (h0 : Heap) (n0 : Nat) (Z0 : n0 ≤ h0.size) (P_E_a0 : Exa Z h0 a0 "java/lang/StringBuilder") (P_S_CS : Sta Z h0 "java/lang/String" "COMPACT_STRINGS" "Z" (.int f_CS)) (hn_CS : ¬ (f_CS = (0 : Int32))) (P_F_a0_value : Fld Z h0 a0 "java/lang/AbstractStringBuilder" "value" "[B" f_a0_value) (g_a0 : n0 ≤ a0) (P_F_a0_coder : Fld Z h0 a0 "java/lang/AbstractStringBuilder" "coder" "B" (.int f_a0_coder)) (P_F_a0_count : Fld Z h0 a0 "java/lang/AbstractStringBuilder" "count" "I" (.int f_a0_count)) :
    MetFree l (⟨"java/lang/AbstractStringBuilder", "<init>", "(I)V"⟩ : MethodName) (head1 (Jvm.Cond.code (⟨"java/lang/AbstractStringBuilder", "<init>", "(I)V"⟩ : MethodName) jdk_68_method_2_code 2 none :: ws) ({ frames := 1, cells := 1, slots := 16, locals := 12 } : Room)) (fun a U => a = #[(.ref a0), (.int (16 : Int32))] ∧ Z.Warmed39 U.vm ∧ U.heap = h0) (fun _ _ _ _ _ => True) (fun _ U o U' => ∃ v L, o = .returned v ∧ Q7 Z f_CS a0 f_a0_value f_a0_coder f_a0_count h0 n0 v U'.heap L ∧ FrameEnd U o U' L 1 16) := by
 refine MetFree.of_bodySF (plainFor_of_name pn_7) hisR ?_
 intro p e s m args below meth c s₁ Bd hml0 hP hK
 obtain ⟨rfl, hZ, hh⟩ := hP
 have hwd := fun i {d : Jvm.Cond} (h : tables_1[i]? = some d) => hw d (List.mem_of_getElem? h)
 have hx := Bd.exec
 have hby := Bd.bytes
 have hml : c.maxLocals = 2 := hml0
 have hlk : meth.locks = false := Bd.notSynchronized
 have hown : s.vm.findClass "java/lang/AbstractStringBuilder" = some m.cls := findClass_of_methodNamed Bd.named
 have hnm := (name_of_methodNamed Bd.named Bd.method).1
 have X0 : Stand p l e ({ frames := 1, cells := 1, slots := 16, locals := 12 } : Room) s m #[(.ref a0), (.int (16 : Int32))] below meth c s₁ [] 0 0 := Stand.of_body Bd
 have e0 : s₁.heap = h0 := by rw [← hh, Bd.state]; rfl
 have N0 := Fr.nil n0
 show own_Go p e below (own_Fin s 1 16 (Q7 Z f_CS a0 f_a0_value f_a0_coder f_a0_count h0 n0)) _
 refine own_by (fun t k => castTop (ef_7 m a0) k) ?_
 show own_Go p e below _ (s₁.setTop (mkF m 0 #[vR a0, vI (16 : Int32)] []))
 refine own_by (fun _ k => XS.aloadN X0.here hx rfl (hb hby d7_0) rfl rfl k) ?_
 obtain ⟨T1, X1, e1, st1⟩ := initO X0 hx hZ hown (hwd 45 rfl) (hwd 16 rfl) (hwd 17 rfl) e0 (g := (mkF m 1 #[vR a0, vI (16 : Int32)] [(.ref a0)])) rfl (by rw [hml]; rfl) rfl (hb hby d7_1) (by decide) (W := 0) (by show 2 * 0 + _ ≤ _; exact Nat.le_of_eq rfl) (by decide)
 refine own_by st1 ?_
 show own_Go p e below _ (T1.setTop (mkF m 4 #[vR a0, vI (16 : Int32)] []))
 obtain ⟨T2, X2, e2, st2⟩ := getS2 X1 hx hZ hown (host := "") (Or.inl (hwd 46 rfl)) Via.refl e1 P_S_CS (g := (mkF m 4 #[vR a0, vI (16 : Int32)] [])) rfl (hb hby d7_4)
 refine own_by st2 ?_
 show own_Go p e below _ (T2.setTop (mkF m 7 #[vR a0, vI (16 : Int32)] [(.int f_CS)]))
 refine own_by (fun _ k => XS.ifNo X2.here hx rfl (hb hby d7_7) rfl ((if0 _ _).trans (feq hn_CS).1) k) ?_
 show own_Go p e below _ (T2.setTop (mkF m 10 #[vR a0, vI (16 : Int32)] []))
 refine own_by (fun _ k => XS.aloadN X2.here hx rfl (hb hby d7_10) rfl rfl k) ?_
 refine own_by (fun _ k => XS.iloadN X2.here hx rfl (hb hby d7_11) rfl k) ?_
 obtain ⟨T3, h3, k3, X3, e3, E3, A3, st3⟩ := newP X2 hx hZ (hwd 19 rfl) e2 (g := (mkF m 12 #[vR a0, vI (16 : Int32)] [(.int (16 : Int32)), (.ref a0)])) rfl (hb hby d7_12) rfl (by decide) (cap := 16) (by decide) (by decide) (by decide) (by decide)
 obtain ⟨b3, g3⟩ : ∃ z, z = h0.size := ⟨_, rfl⟩
 have ge_b3 : n0 ≤ b3 := Nat.le_trans Z0 (Nat.le_of_eq g3.symm)
 have sz_b3 : h0.size ≤ b3 := Nat.le_trans (Keep.refl h0 [a0]).1 (Nat.le_of_eq g3.symm)
 have K3 : Keep h0 h3 [a0] := (Keep.refl h0 [a0]).ext E3
 have Z3 : n0 ≤ h3.size := Nat.le_trans Z0 E3.1
 rw [← g3] at A3 st3
 have V3 : own_Arf Z h3 b3 k3 .byte (16 : Int32) (fun i => .int ((fun _ => (0 : Int32)) i)) := own_arfNew A3 (by decide)
 refine own_by st3 ?_
 show own_Go p e below _ (T3.setTop (mkF m 14 #[vR a0, vI (16 : Int32)] [(.ref b3), (.ref a0)]))
 have F4 : Exa Z h3 a0 "java/lang/StringBuilder" := (P_E_a0.ext E3)
 have F5 : Fld Z h3 a0 "java/lang/AbstractStringBuilder" "value" "[B" f_a0_value := (P_F_a0_value.ext E3)
 obtain ⟨T6, h6, X6, e6, W6, st6⟩ := putF X3 hx hZ hown (host := "") (Or.inl (hwd 47 rfl)) Via.refl e3 F5 F4 (Or.inl (hwd 48 rfl)) (hwd 34 rfl) (ty := (.array .byte)) (by decide) rfl rfl (g := (mkF m 14 #[vR a0, vI (16 : Int32)] [(.ref b3), (.ref a0)])) rfl rfl (hb hby d7_14)
 have Fw6 : Fld Z h6 a0 "java/lang/AbstractStringBuilder" "value" "[B" (.ref b3) := F5.same W6
 have K6 : Keep h0 h6 [a0] := K3.wr W6 (Or.inl (List.mem_of_getElem? (i := 0) rfl))
 have Z6 : n0 ≤ h6.size := Nat.le_trans Z3 (Keep.of_wr W6).1
 have N6 := Fr.snoc X6 N0 g_a0
 refine own_by st6 ?_
 show own_Go p e below _ (T6.setTop (mkF m 17 #[vR a0, vI (16 : Int32)] []))
 refine own_by (fun _ k => XS.aloadN X6.here hx rfl (hb hby d7_17) rfl rfl k) ?_
 refine own_by (fun _ k => XS.iconst X6.here hx rfl (hb hby d7_18) k) ?_
 have F7 : Exa Z h6 a0 "java/lang/StringBuilder" := (F4.wr W6)
 have F8 : Fld Z h6 a0 "java/lang/AbstractStringBuilder" "coder" "B" (.int f_a0_coder) := ((P_F_a0_coder.ext E3).other W6 (Or.inr (slot_ne (Or.inl (hwd 50 rfl)) (Or.inl (hwd 48 rfl)) (by decide) (t := .byte) (t' := (.array .byte)) (by decide) (by decide))))
 obtain ⟨T9, h9, X9, e9, W9, st9⟩ := putFN X6 hx hZ hown (hwd 49 rfl) Via.refl e6 F8 F7 (Or.inl (hwd 50 rfl)) (hwd 34 rfl) (ty := .byte) (v' := (.int (nar .byte (0 : Int32)))) (by decide) rfl (fits_nar_byte _) (g := (mkF m 19 #[vR a0, vI (16 : Int32)] [(.int (0 : Int32)), (.ref a0)])) rfl rfl (hb hby d7_19)
 have Fw9 : Fld Z h9 a0 "java/lang/AbstractStringBuilder" "coder" "B" (.int (nar .byte (0 : Int32))) := F8.same W9
 have K9 : Keep h0 h9 [a0] := K6.wr W9 (Or.inl (List.mem_of_getElem? (i := 0) rfl))
 have Z9 : n0 ≤ h9.size := Nat.le_trans Z6 (Keep.of_wr W9).1
 have N9 := Fr.snoc X9 N6 g_a0
 refine own_by st9 ?_
 show own_Go p e below _ (T9.setTop (mkF m 22 #[vR a0, vI (16 : Int32)] []))
 refine own_by (fun _ k => XS.goto X9.here hx rfl (pc0 := 22) (pc' := 38) rfl (hb hby d7_22) (by decide) (by decide) k) ?_
 show own_Go p e below _ (T9.setTop (mkF m 38 #[vR a0, vI (16 : Int32)] []))
 have F10 : Exa Z h9 a0 "java/lang/StringBuilder" := (F7.wr W9)
 have F11 : Fld Z h9 a0 "java/lang/AbstractStringBuilder" "value" "[B" (.ref b3) := (Fw6.other W9 (Or.inr (slot_ne (Or.inl (hwd 48 rfl)) (Or.inl (hwd 50 rfl)) (by decide) (t := (.array .byte)) (t' := .byte) (by decide) (by decide))))
 have F12 : Fld Z h9 a0 "java/lang/AbstractStringBuilder" "count" "I" (.int f_a0_count) := (((P_F_a0_count.ext E3).other W6 (Or.inr (slot_ne (Or.inl (hwd 73 rfl)) (Or.inl (hwd 48 rfl)) (by decide) (t := .int) (t' := (.array .byte)) (by decide) (by decide)))).other W9 (Or.inr (slot_ne (Or.inl (hwd 73 rfl)) (Or.inl (hwd 50 rfl)) (by decide) (t := .int) (t' := .byte) (by decide) (by decide))))
 have F13 : own_Arf Z h9 b3 k3 .byte (16 : Int32) (fun i => .int ((fun _ => (0 : Int32)) i)) := ((V3.other W6 (Ne.symm (Nat.ne_of_lt (Nat.lt_of_lt_of_le (P_E_a0).lt (Nat.le_of_eq g3.symm))))).other W9 (Ne.symm (Nat.ne_of_lt (Nat.lt_of_lt_of_le (P_E_a0).lt (Nat.le_of_eq g3.symm)))))
 exact own_ret0 X9 hx Bd.returns (hb hby d7_38) hlk e9 ⟨_, _, rfl, N9, K9, F10, F11, Fw9, F12, ge_b3, sz_b3, F13⟩ (by decide) (by decide)
theorem pd_39 : parseMethodDescriptor "(I)V" = some ⟨[.int], none⟩ := by decide +kernel
theorem d6_0 : decode jdk_67_method_1_code 0 = .ok (.aload_n 0, 1) := by decide +kernel
theorem d6_1 : decode jdk_67_method_1_code 1 = .ok (.bipush 16, 2) := by decide +kernel
theorem d6_3 : decode jdk_67_method_1_code 3 = .ok (.invokespecial 1, 3) := by decide +kernel
theorem d6_6 : decode jdk_67_method_1_code 6 = .ok (.return_, 1) := by decide +kernel
theorem pn_6 : plainName "java/lang/StringBuilder" = true := by first | (simp [plainName, overriddenIn]; done) | decide +kernel
theorem ef_6 (m : MethodId) (a0 : Addr) : entryFrame m #[(.ref a0)] 1 = mkF m 0 #[vR a0] [] := by first | (simp [entryFrame, mkF, argsToLocals, Value.category]; done) | rfl
def Q6 (Z : State) (f_CS : Int32) (a0 : Addr) (f_a0_value : Value) (f_a0_coder : Int32) (f_a0_count : Int32) (h0 : Heap) (n0 : Nat) (v : Option Value) (h : Heap) (L : List Loc) : Prop := ∃ (b2 : Addr) (b3 : ClassId), v = none ∧ Fr n0 L ∧ Keep h0 h [a0] ∧ Exa Z h a0 "java/lang/StringBuilder" ∧ Fld Z h a0 "java/lang/AbstractStringBuilder" "value" "[B" (.ref b2) ∧ Fld Z h a0 "java/lang/AbstractStringBuilder" "coder" "B" (.int (0 : Int32)) ∧ Fld Z h a0 "java/lang/AbstractStringBuilder" "count" "I" (.int f_a0_count) ∧ (n0 ≤ b2) ∧ (h0.size ≤ b2) ∧ own_Arf Z h b2 b3 .byte (16 : Int32) (fun i => .int ((fun _ => (0 : Int32)) i))
set_option maxRecDepth 65536 in
set_option maxHeartbeats 40000000 in
theorem rm6 (l : Launch) (Z : State) (A0 : Array Value) (hw : ∀ d ∈ tables_1, d.before A0 Z = true) (ws : List Jvm.Cond) (f_CS : Int32) (a0 : Addr) (f_a0_value : Value) (f_a0_coder : Int32) (f_a0_count : Int32) (h0 : Heap) (n0 : Nat) (Z0 : n0 ≤ h0.size) (P_E_a0 : Exa Z h0 a0 "java/lang/StringBuilder") (P_S_CS : Sta Z h0 "java/lang/String" "COMPACT_STRINGS" "Z" (.int f_CS)) (hn_CS : ¬ (f_CS = (0 : Int32))) (P_F_a0_value : Fld Z h0 a0 "java/lang/AbstractStringBuilder" "value" "[B" f_a0_value) (P_F_a0_coder : Fld Z h0 a0 "java/lang/AbstractStringBuilder" "coder" "B" (.int f_a0_coder)) (P_F_a0_count : Fld Z h0 a0 "java/lang/AbstractStringBuilder" "count" "I" (.int f_a0_count)) (g_a0 : n0 ≤ a0) :
    MetFree l (⟨"java/lang/StringBuilder", "<init>", "()V"⟩ : MethodName) (head1 (Jvm.Cond.code (⟨"java/lang/StringBuilder", "<init>", "()V"⟩ : MethodName) jdk_67_method_1_code 1 none :: ws) ({ frames := 2, cells := 1, slots := 16, locals := 25 } : Room)) (fun a U => a = #[(.ref a0)] ∧ Z.Warmed39 U.vm ∧ U.heap = h0) (fun _ _ _ _ _ => True) (fun _ U o U' => ∃ v L, o = .returned v ∧ Q6 Z f_CS a0 f_a0_value f_a0_coder f_a0_count h0 n0 v U'.heap L ∧ FrameEnd U o U' L 1 16) := by
 refine MetFree.of_bodySF (plainFor_of_name pn_6) hisR ?_
 intro p e s m args below meth c s₁ Bd hml0 hP hK
 obtain ⟨rfl, hZ, hh⟩ := hP
 have hwd := fun i {d : Jvm.Cond} (h : tables_1[i]? = some d) => hw d (List.mem_of_getElem? h)
 have hx := Bd.exec
 have hby := Bd.bytes
 have hml : c.maxLocals = 1 := hml0
 have hlk : meth.locks = false := Bd.notSynchronized
 have hown : s.vm.findClass "java/lang/StringBuilder" = some m.cls := findClass_of_methodNamed Bd.named
 have hnm := (name_of_methodNamed Bd.named Bd.method).1
 have X0 : Stand p l e ({ frames := 2, cells := 1, slots := 16, locals := 25 } : Room) s m #[(.ref a0)] below meth c s₁ [] 0 0 := Stand.of_body Bd
 have e0 : s₁.heap = h0 := by rw [← hh, Bd.state]; rfl
 have N0 := Fr.nil n0
 show own_Go p e below (own_Fin s 1 16 (Q6 Z f_CS a0 f_a0_value f_a0_coder f_a0_count h0 n0)) _
 refine own_by (fun t k => castTop (ef_6 m a0) k) ?_
 show own_Go p e below _ (s₁.setTop (mkF m 0 #[vR a0] []))
 refine own_by (fun _ k => XS.aloadN X0.here hx rfl (hb hby d6_0) rfl rfl k) ?_
 refine own_by (fun _ k => XS.bipush X0.here hx rfl (hb hby d6_1) k) ?_
 obtain ⟨_, _, ⟨T1, L1, k1, n1⟩, -, X1, ⟨Lc1, hQ1, l1, y1, z1⟩, st1⟩ := X0.specialBack hx (y := (⟨"java/lang/AbstractStringBuilder", "<init>", "(I)V"⟩ : MethodName)) rfl hown (mvT hZ (hwd 39 rfl)) (mvT hZ (hwd 40 rfl)) (mvT hZ (hwd 44 rfl)) (by decide) (backOf (W := 0) (rm7 l Z A0 hw [] f_CS a0 f_a0_value f_a0_coder f_a0_count h0 n0 Z0 P_E_a0 P_S_CS hn_CS P_F_a0_value g_a0 P_F_a0_coder P_F_a0_count) hZ (hwd 44 rfl) (hwd 43 rfl) (by decide) (by decide)) (g := (mkF m 3 #[vR a0] [(.int (16 : Int32)), (.ref a0)])) rfl (by rw [hml]; rfl) (Steps.refl _) (a := a0) (argsL := [(.int (16 : Int32))]) (rest := []) (lenOf pd_39 rfl) rfl (by show 2 * 0 + _ ≤ _; exact Nat.le_of_eq rfl) (hb hby d6_3) (fun _ _ => ⟨rfl, e0, (by decide : 0 + 1 ≤ _), (by decide : 0 + 16 ≤ _)⟩)
 dsimp only [Pt.U, Pt.locs, Pt.cells, Pt.slots] at X1 l1 y1 z1 st1 hQ1
 subst l1 y1 z1
 obtain ⟨b2, b3, rfl, Nq1, Kq1, F4, F5, F6, F7, hp8, hp9, F10⟩ := hQ1
 have N1 := Fr.app N0 Nq1
 have K1 : Keep h0 T1.heap [a0] := (Keep.refl h0 [a0]).trans Kq1 ((allS (Or.inl (List.mem_of_getElem? (i := 0) rfl)) all0))
 have Z1 : n0 ≤ T1.heap.size := Nat.le_trans Z0 Kq1.1
 have sz_b2 : h0.size ≤ b2 := Nat.le_trans (Keep.refl h0 [a0]).1 hp9
 refine own_by (fun _ k => st1.trans k) ?_
 show own_Go p e below _ (T1.setTop (mkF m 6 #[vR a0] []))
 exact own_ret0 X1 hx Bd.returns (hb hby d6_6) hlk rfl ⟨_, _, rfl, N1, K1, F4, F5, F6, F7, hp8, sz_b2, F10⟩ (by decide) (by decide)
theorem d12_0 : decode jdk_68_method_9_code 0 = .ok (.aload_n 0, 1) := by decide +kernel
theorem d12_1 : decode jdk_68_method_9_code 1 = .ok (.getfield 15, 3) := by decide +kernel
theorem d12_4 : decode jdk_68_method_9_code 4 = .ok (.arraylength, 1) := by decide +kernel
theorem d12_5 : decode jdk_68_method_9_code 5 = .ok (.aload_n 0, 1) := by decide +kernel
theorem d12_6 : decode jdk_68_method_9_code 6 = .ok (.getfield 22, 3) := by decide +kernel
theorem d12_9 : decode jdk_68_method_9_code 9 = .ok (.ishr, 1) := by decide +kernel
theorem d12_10 : decode jdk_68_method_9_code 10 = .ok (.istore_n 2, 1) := by decide +kernel
theorem d12_11 : decode jdk_68_method_9_code 11 = .ok (.iload_n 1, 1) := by decide +kernel
theorem d12_12 : decode jdk_68_method_9_code 12 = .ok (.iload_n 2, 1) := by decide +kernel
theorem d12_13 : decode jdk_68_method_9_code 13 = .ok (.isub, 1) := by decide +kernel
theorem d12_14 : decode jdk_68_method_9_code 14 = .ok (.ifCond .le 24, 3) := by decide +kernel
theorem d12_38 : decode jdk_68_method_9_code 38 = .ok (.return_, 1) := by decide +kernel
theorem pn_12 : plainName "java/lang/AbstractStringBuilder" = true := by first | (simp [plainName, overriddenIn]; done) | decide +kernel
theorem ef_12 (m : MethodId) (a0 : Addr) (p1 : Int32) : entryFrame m #[(.ref a0), (.int p1)] 3 = mkF m 0 #[vR a0, vI p1, .unset] [] := by first | (simp [entryFrame, mkF, argsToLocals, Value.category]; done) | rfl
def Q12 (Z : State) (t_a0 : Addr) (c_a0 : Int32) (k_t_a0 : ClassId) (fn_t_a0 : Nat → Int32) (a0 : Addr) (p1 : Int32) (h0 : Heap) (n0 : Nat) (v : Option Value) (h : Heap) (L : List Loc) : Prop := v = none ∧ Fr n0 L ∧ h = h0
set_option maxRecDepth 65536 in
set_option maxHeartbeats 40000000 in
theorem rm12 (l : Launch) (Z : State) (A0 : Array Value) (hw : ∀ d ∈ tables_1, d.before A0 Z = true) (ws : List Jvm.Cond) (t_a0 : Addr) (c_a0 : Int32) (k_t_a0 : ClassId) (fn_t_a0 : Nat → Int32) (a0 : Addr) (p1 : Int32) (h0 : Heap) (n0 : Nat) (Z0 : n0 ≤ h0.size) (P_E_a0 : Exa Z h0 a0 "java/lang/StringBuilder") (P_F_a0_coder : Fld Z h0 a0 "java/lang/AbstractStringBuilder" "coder" "B" (.int (0 : Int32))) (P_F_a0_value : Fld Z h0 a0 "java/lang/AbstractStringBuilder" "value" "[B" (.ref t_a0)) (P_F_a0_count : Fld Z h0 a0 "java/lang/AbstractStringBuilder" "count" "I" (.int c_a0)) (P_V_t_a0 : own_Arf Z h0 t_a0 k_t_a0 .byte (16 : Int32) (fun i => .int (fn_t_a0 i))) (ha14 : ¬ ((0 : Int32) < (p1 - (16 : Int32)))) :
    MetFree l (⟨"java/lang/AbstractStringBuilder", "ensureCapacityInternal", "(I)V"⟩ : MethodName) (head1 (Jvm.Cond.code (⟨"java/lang/AbstractStringBuilder", "ensureCapacityInternal", "(I)V"⟩ : MethodName) jdk_68_method_9_code 3 none :: ws) ({ frames := 0, cells := 0, slots := 0, locals := 0 } : Room)) (fun a U => a = #[(.ref a0), (.int p1)] ∧ Z.Warmed39 U.vm ∧ U.heap = h0) (fun _ _ _ _ _ => True) (fun _ U o U' => ∃ v L, o = .returned v ∧ Q12 Z t_a0 c_a0 k_t_a0 fn_t_a0 a0 p1 h0 n0 v U'.heap L ∧ FrameEnd U o U' L 0 0) := by
 refine MetFree.of_bodySF (plainFor_of_name pn_12) hisR ?_
 intro p e s m args below meth c s₁ Bd hml0 hP hK
 obtain ⟨rfl, hZ, hh⟩ := hP
 have hwd := fun i {d : Jvm.Cond} (h : tables_1[i]? = some d) => hw d (List.mem_of_getElem? h)
 have hx := Bd.exec
 have hby := Bd.bytes
 have hml : c.maxLocals = 3 := hml0
 have hlk : meth.locks = false := Bd.notSynchronized
 have hown : s.vm.findClass "java/lang/AbstractStringBuilder" = some m.cls := findClass_of_methodNamed Bd.named
 have hnm := (name_of_methodNamed Bd.named Bd.method).1
 have X0 : Stand p l e ({ frames := 0, cells := 0, slots := 0, locals := 0 } : Room) s m #[(.ref a0), (.int p1)] below meth c s₁ [] 0 0 := Stand.of_body Bd
 have e0 : s₁.heap = h0 := by rw [← hh, Bd.state]; rfl
 have N0 := Fr.nil n0
 show own_Go p e below (own_Fin s 0 0 (Q12 Z t_a0 c_a0 k_t_a0 fn_t_a0 a0 p1 h0 n0)) _
 refine own_by (fun t k => castTop (ef_12 m a0 p1) k) ?_
 show own_Go p e below _ (s₁.setTop (mkF m 0 #[vR a0, vI p1, .unset] []))
 refine own_by (fun _ k => XS.aloadN X0.here hx rfl (hb hby d12_0) rfl rfl k) ?_
 obtain ⟨T1, X1, e1, st1⟩ := getF X0 hx hZ hown (host := "") (Or.inl (hwd 47 rfl)) Via.refl e0 P_F_a0_value (g := (mkF m 1 #[vR a0, vI p1, .unset] [(.ref a0)])) rfl rfl (hb hby d12_1)
 refine own_by st1 ?_
 show own_Go p e below _ (T1.setTop (mkF m 4 #[vR a0, vI p1, .unset] [(.ref t_a0)]))
 obtain ⟨cl2, Ar2, qq2, S2, M2, H2, G2⟩ := id P_V_t_a0
 refine own_by (fun t k => X1.arraylength hx (by rw [e1]; exact Ar2.1) (State.isArrayOf_alike hZ.alike Ar2.2.1) (g := (mkF m 4 #[vR a0, vI p1, .unset] [(.ref t_a0)])) rfl rfl (hb hby d12_4) _ k) ?_
 rw [len_of S2 M2]
 show own_Go p e below _ (T1.setTop (mkF m 5 #[vR a0, vI p1, .unset] [(.int (16 : Int32))]))
 refine own_by (fun _ k => XS.aloadN X1.here hx rfl (hb hby d12_5) rfl rfl k) ?_
 obtain ⟨T3, X3, e3, st3⟩ := getF X1 hx hZ hown (host := "") (Or.inl (hwd 49 rfl)) Via.refl e1 P_F_a0_coder (g := (mkF m 6 #[vR a0, vI p1, .unset] [(.ref a0), (.int (16 : Int32))])) rfl rfl (hb hby d12_6)
 refine own_by st3 ?_
 show own_Go p e below _ (T3.setTop (mkF m 9 #[vR a0, vI p1, .unset] [(.int (0 : Int32)), (.int (16 : Int32))]))
 refine own_by (fun _ k => XS.ishr X3.here hx rfl (hb hby d12_9) rfl k) ?_
 show own_Go p e below _ (T3.setTop (mkF m 10 #[vR a0, vI p1, .unset] [(.int (16 : Int32))]))
 refine own_by (fun _ k => XS.istoreN X3.here hx rfl (hb hby d12_10) rfl (l' := #[vR a0, vI p1, vI (16 : Int32)]) rfl k) ?_
 show own_Go p e below _ (T3.setTop (mkF m 11 #[vR a0, vI p1, vI (16 : Int32)] []))
 refine own_by (fun _ k => XS.iloadN X3.here hx rfl (hb hby d12_11) rfl k) ?_
 refine own_by (fun _ k => XS.iloadN X3.here hx rfl (hb hby d12_12) rfl k) ?_
 refine own_by (fun _ k => XS.isub X3.here hx rfl (hb hby d12_13) rfl k) ?_
 show own_Go p e below _ (T3.setTop (mkF m 14 #[vR a0, vI p1, vI (16 : Int32)] [(.int (p1 - (16 : Int32)))]))
 refine own_by (fun _ k => XS.ifYes X3.here hx rfl (pc0 := 14) (pc' := 38) rfl (hb hby d12_14) rfl ((if0 _ _).trans (flt ha14).2.2.2) (by decide) (by decide) k) ?_
 show own_Go p e below _ (T3.setTop (mkF m 38 #[vR a0, vI p1, vI (16 : Int32)] []))
 exact own_ret0 X3 hx Bd.returns (hb hby d12_38) hlk e3 ⟨rfl, N0, rfl⟩ (by decide) (by decide)
theorem d14_0 : decode jdk_68_method_71_code 0 = .ok (.getstatic 18, 3) := by decide +kernel
theorem d14_3 : decode jdk_68_method_71_code 3 = .ok (.ifCond .eq 18, 3) := by decide +kernel
theorem d14_6 : decode jdk_68_method_71_code 6 = .ok (.aload_n 0, 1) := by decide +kernel
theorem d14_7 : decode jdk_68_method_71_code 7 = .ok (.getfield 22, 3) := by decide +kernel
theorem d14_10 : decode jdk_68_method_71_code 10 = .ok (.aload_n 1, 1) := by decide +kernel
theorem d14_11 : decode jdk_68_method_71_code 11 = .ok (.invokevirtual 40, 3) := by decide +kernel
theorem d14_14 : decode jdk_68_method_71_code 14 = .ok (.if_icmp .eq 7, 3) := by decide +kernel
theorem d14_21 : decode jdk_68_method_71_code 21 = .ok (.return_, 1) := by decide +kernel
theorem pn_14 : plainName "java/lang/AbstractStringBuilder" = true := by first | (simp [plainName, overriddenIn]; done) | decide +kernel
theorem ef_14 (m : MethodId) (a0 : Addr) (a1 : Addr) : entryFrame m #[(.ref a0), (.ref a1)] 2 = mkF m 0 #[vR a0, vR a1] [] := by first | (simp [entryFrame, mkF, argsToLocals, Value.category]; done) | rfl
def Q14 (Z : State) (f_CS : Int32) (a0 : Addr) (a1 : Addr) (h0 : Heap) (n0 : Nat) (v : Option Value) (h : Heap) (L : List Loc) : Prop := v = none ∧ Fr n0 L ∧ h = h0
set_option maxRecDepth 65536 in
set_option maxHeartbeats 40000000 in
theorem rm14 (l : Launch) (Z : State) (A0 : Array Value) (hw : ∀ d ∈ tables_1, d.before A0 Z = true) (ws : List Jvm.Cond) (f_CS : Int32) (a0 : Addr) (a1 : Addr) (h0 : Heap) (n0 : Nat) (Z0 : n0 ≤ h0.size) (P_E_a0 : Exa Z h0 a0 "java/lang/StringBuilder") (P_F_a0_coder : Fld Z h0 a0 "java/lang/AbstractStringBuilder" "coder" "B" (.int (0 : Int32))) (P_E_a1 : Exa Z h0 a1 "java/lang/String") (P_F_a1_coder : Fld Z h0 a1 "java/lang/String" "coder" "B" (.int (0 : Int32))) (P_S_CS : Sta Z h0 "java/lang/String" "COMPACT_STRINGS" "Z" (.int f_CS)) (hn_CS : ¬ (f_CS = (0 : Int32))) :
    MetFree l (⟨"java/lang/AbstractStringBuilder", "inflateIfNeededFor", "(Ljava/lang/String;)V"⟩ : MethodName) (head1 (Jvm.Cond.code (⟨"java/lang/AbstractStringBuilder", "inflateIfNeededFor", "(Ljava/lang/String;)V"⟩ : MethodName) jdk_68_method_71_code 2 none :: ws) ({ frames := 1, cells := 0, slots := 0, locals := 13 } : Room)) (fun a U => a = #[(.ref a0), (.ref a1)] ∧ Z.Warmed39 U.vm ∧ U.heap = h0) (fun _ _ _ _ _ => True) (fun _ U o U' => ∃ v L, o = .returned v ∧ Q14 Z f_CS a0 a1 h0 n0 v U'.heap L ∧ FrameEnd U o U' L 0 0) := by
 refine MetFree.of_bodySF (plainFor_of_name pn_14) hisR ?_
 intro p e s m args below meth c s₁ Bd hml0 hP hK
 obtain ⟨rfl, hZ, hh⟩ := hP
 have hwd := fun i {d : Jvm.Cond} (h : tables_1[i]? = some d) => hw d (List.mem_of_getElem? h)
 have hx := Bd.exec
 have hby := Bd.bytes
 have hml : c.maxLocals = 2 := hml0
 have hlk : meth.locks = false := Bd.notSynchronized
 have hown : s.vm.findClass "java/lang/AbstractStringBuilder" = some m.cls := findClass_of_methodNamed Bd.named
 have hnm := (name_of_methodNamed Bd.named Bd.method).1
 have X0 : Stand p l e ({ frames := 1, cells := 0, slots := 0, locals := 13 } : Room) s m #[(.ref a0), (.ref a1)] below meth c s₁ [] 0 0 := Stand.of_body Bd
 have e0 : s₁.heap = h0 := by rw [← hh, Bd.state]; rfl
 have N0 := Fr.nil n0
 show own_Go p e below (own_Fin s 0 0 (Q14 Z f_CS a0 a1 h0 n0)) _
 refine own_by (fun t k => castTop (ef_14 m a0 a1) k) ?_
 show own_Go p e below _ (s₁.setTop (mkF m 0 #[vR a0, vR a1] []))
 obtain ⟨T1, X1, e1, st1⟩ := getS2 X0 hx hZ hown (host := "") (Or.inl (hwd 46 rfl)) Via.refl e0 P_S_CS (g := (mkF m 0 #[vR a0, vR a1] [])) rfl (hb hby d14_0)
 refine own_by st1 ?_
 show own_Go p e below _ (T1.setTop (mkF m 3 #[vR a0, vR a1] [(.int f_CS)]))
 refine own_by (fun _ k => XS.ifNo X1.here hx rfl (hb hby d14_3) rfl ((if0 _ _).trans (feq hn_CS).1) k) ?_
 show own_Go p e below _ (T1.setTop (mkF m 6 #[vR a0, vR a1] []))
 refine own_by (fun _ k => XS.aloadN X1.here hx rfl (hb hby d14_6) rfl rfl k) ?_
 obtain ⟨T2, X2, e2, st2⟩ := getF X1 hx hZ hown (host := "") (Or.inl (hwd 49 rfl)) Via.refl e1 P_F_a0_coder (g := (mkF m 7 #[vR a0, vR a1] [(.ref a0)])) rfl rfl (hb hby d14_7)
 refine own_by st2 ?_
 show own_Go p e below _ (T2.setTop (mkF m 10 #[vR a0, vR a1] [(.int (0 : Int32))]))
 refine own_by (fun _ k => XS.aloadN X2.here hx rfl (hb hby d14_10) rfl rfl k) ?_
 obtain ⟨cq3, kq3, qq3a, qq3b, qq3c⟩ := isOf hZ e2 P_E_a1
 obtain ⟨_, _, ⟨T3, L3, k3, n3⟩, -, X3, ⟨Lc3, hQ3, l3, y3, z3⟩, st3⟩ := X2.virtualBack hx (y := (⟨"java/lang/String", "coder", "()B"⟩ : MethodName)) (z := (⟨"java/lang/String", "coder", "()B"⟩ : MethodName)) hown (mvT hZ (hwd 89 rfl)) (mvT hZ (hwd 67 rfl)) (notFace_of_selects (args := #[]) (mvT hZ (hwd 69 rfl))) (mvT hZ (hwd 69 rfl)) (mvT hZ (hwd 68 rfl)) (by decide) (backOf (W := 1) (rmcoder l Z A0 hw [] f_CS a1 h0 n0 Z0 P_E_a1 P_F_a1_coder P_S_CS hn_CS) hZ (hwd 70 rfl) (hwd 6 rfl) (by decide) (by decide)) qq3a qq3c (g := (mkF m 11 #[vR a0, vR a1] [(.ref a1), (.int (0 : Int32))])) rfl (by rw [hml]; rfl) (Steps.refl _) (argsL := []) (rest := [(.int (0 : Int32))]) (lenOf pd_66 rfl) rfl (by show 2 * 0 + _ ≤ _; exact Nat.le_of_eq rfl) (hb hby d14_11) (fun _ _ => ⟨rfl, e2, (by decide : 0 + 0 ≤ _), (by decide : 0 + 0 ≤ _)⟩)
 dsimp only [Pt.U, Pt.locs, Pt.cells, Pt.slots] at X3 l3 y3 z3 st3 hQ3
 subst l3 y3 z3
 obtain ⟨rfl, Nq3, eq3⟩ := hQ3
 have N3 := Fr.app N0 Nq3
 refine own_by (fun _ k => st3.trans k) ?_
 show own_Go p e below _ (T3.setTop (mkF m 14 #[vR a0, vR a1] [(.int (0 : Int32)), (.int (0 : Int32))]))
 refine own_by (fun _ k => XS.icmpYes X3.here hx rfl (pc0 := 14) (pc' := 21) rfl (hb hby d14_14) rfl (teq (by decide : (0 : Int32) = (0 : Int32))).1 (by decide) (by decide) k) ?_
 show own_Go p e below _ (T3.setTop (mkF m 21 #[vR a0, vR a1] []))
 exact own_ret0 X3 hx Bd.returns (hb hby d14_21) hlk eq3 ⟨rfl, N3, rfl⟩ (by decide) (by decide)
theorem d15_0 : decode jdk_42_method_147_code 0 = .ok (.aload_n 0, 1) := by decide +kernel
theorem d15_1 : decode jdk_42_method_147_code 1 = .ok (.invokevirtual 335, 3) := by decide +kernel
theorem d15_4 : decode jdk_42_method_147_code 4 = .ok (.iload_n 3, 1) := by decide +kernel
theorem d15_5 : decode jdk_42_method_147_code 5 = .ok (.if_icmp .ne 23, 3) := by decide +kernel
theorem d15_8 : decode jdk_42_method_147_code 8 = .ok (.aload_n 0, 1) := by decide +kernel
theorem d15_9 : decode jdk_42_method_147_code 9 = .ok (.getfield 9, 3) := by decide +kernel
theorem d15_12 : decode jdk_42_method_147_code 12 = .ok (.iconst 0, 1) := by decide +kernel
theorem d15_13 : decode jdk_42_method_147_code 13 = .ok (.aload_n 1, 1) := by decide +kernel
theorem d15_14 : decode jdk_42_method_147_code 14 = .ok (.iload_n 2, 1) := by decide +kernel
theorem d15_15 : decode jdk_42_method_147_code 15 = .ok (.iload_n 3, 1) := by decide +kernel
theorem d15_16 : decode jdk_42_method_147_code 16 = .ok (.ishl, 1) := by decide +kernel
theorem d15_17 : decode jdk_42_method_147_code 17 = .ok (.aload_n 0, 1) := by decide +kernel
theorem d15_18 : decode jdk_42_method_147_code 18 = .ok (.getfield 9, 3) := by decide +kernel
theorem d15_21 : decode jdk_42_method_147_code 21 = .ok (.arraylength, 1) := by decide +kernel
theorem d15_22 : decode jdk_42_method_147_code 22 = .ok (.invokestatic 212, 3) := by decide +kernel
theorem d15_25 : decode jdk_42_method_147_code 25 = .ok (.goto 18, 3) := by decide +kernel
theorem d15_43 : decode jdk_42_method_147_code 43 = .ok (.return_, 1) := by decide +kernel
theorem pn_15 : plainName "java/lang/String" = true := by first | (simp [plainName, overriddenIn]; done) | decide +kernel
theorem ef_15 (m : MethodId) (a0 : Addr) (a1 : Addr) (p2 : Int32) : entryFrame m #[(.ref a0), (.ref a1), (.int p2), (.int (0 : Int32))] 4 = mkF m 0 #[vR a0, vR a1, vI p2, vI (0 : Int32)] [] := by first | (simp [entryFrame, mkF, argsToLocals, Value.category]; done) | rfl
def Q15 (Z : State) (t_a0 : Addr) (k_t_a0 : ClassId) (n_t_a0 : Int32) (fn_t_a0 : Nat → Int32) (k_a1 : ClassId) (fn_a1 : Nat → Int32) (f_CS : Int32) (a0 : Addr) (a1 : Addr) (p2 : Int32) (h0 : Heap) (n0 : Nat) (v : Option Value) (h : Heap) (L : List Loc) : Prop := v = none ∧ Fr n0 L ∧ Keep h0 h [a1] ∧ own_Arf Z h a1 k_a1 .byte (16 : Int32) (fun i => .int ((own_cp fn_t_a0 0 fn_a1 (p2).toNatClampNeg (n_t_a0).toNatClampNeg) i))
set_option maxRecDepth 65536 in
set_option maxHeartbeats 40000000 in
theorem rm15 (l : Launch) (Z : State) (A0 : Array Value) (hw : ∀ d ∈ tables_1, d.before A0 Z = true) (ws : List Jvm.Cond) (t_a0 : Addr) (k_t_a0 : ClassId) (n_t_a0 : Int32) (fn_t_a0 : Nat → Int32) (k_a1 : ClassId) (fn_a1 : Nat → Int32) (f_CS : Int32) (a0 : Addr) (a1 : Addr) (p2 : Int32) (h0 : Heap) (n0 : Nat) (Z0 : n0 ≤ h0.size) (P_E_a0 : Exa Z h0 a0 "java/lang/String") (P_F_a0_coder : Fld Z h0 a0 "java/lang/String" "coder" "B" (.int (0 : Int32))) (P_F_a0_value : Fld Z h0 a0 "java/lang/String" "value" "[B" (.ref t_a0)) (P_V_t_a0 : own_Arf Z h0 t_a0 k_t_a0 .byte n_t_a0 (fun i => .int (fn_t_a0 i))) (P_V_a1 : own_Arf Z h0 a1 k_a1 .byte (16 : Int32) (fun i => .int (fn_a1 i))) (P_S_CS : Sta Z h0 "java/lang/String" "COMPACT_STRINGS" "Z" (.int f_CS)) (hn_CS : ¬ (f_CS = (0 : Int32))) (hp_1 : ¬ p2 < 0) (hp_2 : ¬ n_t_a0 < 0) (hp_3 : ((0 : Int32)).toNatClampNeg + (n_t_a0).toNatClampNeg ≤ (n_t_a0).toNatClampNeg) (hp_4 : (p2).toNatClampNeg + (n_t_a0).toNatClampNeg ≤ ((16 : Int32)).toNatClampNeg) (g_a1 : n0 ≤ a1) :
    MetFree l (⟨"java/lang/String", "getBytes", "([BIB)V"⟩ : MethodName) (head1 (Jvm.Cond.code (⟨"java/lang/String", "getBytes", "([BIB)V"⟩ : MethodName) jdk_42_method_147_code 4 none :: ws) ({ frames := 1, cells := 0, slots := 0, locals := 30 } : Room)) (fun a U => a = #[(.ref a0), (.ref a1), (.int p2), (.int (0 : Int32))] ∧ Z.Warmed39 U.vm ∧ U.heap = h0) (fun _ _ _ _ _ => True) (fun _ U o U' => ∃ v L, o = .returned v ∧ Q15 Z t_a0 k_t_a0 n_t_a0 fn_t_a0 k_a1 fn_a1 f_CS a0 a1 p2 h0 n0 v U'.heap L ∧ FrameEnd U o U' L 0 0) := by
 refine MetFree.of_bodySF (plainFor_of_name pn_15) hisR ?_
 intro p e s m args below meth c s₁ Bd hml0 hP hK
 obtain ⟨rfl, hZ, hh⟩ := hP
 have hwd := fun i {d : Jvm.Cond} (h : tables_1[i]? = some d) => hw d (List.mem_of_getElem? h)
 have hx := Bd.exec
 have hby := Bd.bytes
 have hml : c.maxLocals = 4 := hml0
 have hlk : meth.locks = false := Bd.notSynchronized
 have hown : s.vm.findClass "java/lang/String" = some m.cls := findClass_of_methodNamed Bd.named
 have hnm := (name_of_methodNamed Bd.named Bd.method).1
 have X0 : Stand p l e ({ frames := 1, cells := 0, slots := 0, locals := 30 } : Room) s m #[(.ref a0), (.ref a1), (.int p2), (.int (0 : Int32))] below meth c s₁ [] 0 0 := Stand.of_body Bd
 have e0 : s₁.heap = h0 := by rw [← hh, Bd.state]; rfl
 have N0 := Fr.nil n0
 show own_Go p e below (own_Fin s 0 0 (Q15 Z t_a0 k_t_a0 n_t_a0 fn_t_a0 k_a1 fn_a1 f_CS a0 a1 p2 h0 n0)) _
 refine own_by (fun t k => castTop (ef_15 m a0 a1 p2) k) ?_
 show own_Go p e below _ (s₁.setTop (mkF m 0 #[vR a0, vR a1, vI p2, vI (0 : Int32)] []))
 refine own_by (fun _ k => XS.aloadN X0.here hx rfl (hb hby d15_0) rfl rfl k) ?_
 obtain ⟨cq1, kq1, qq1a, qq1b, qq1c⟩ := isOf hZ e0 P_E_a0
 obtain ⟨_, _, ⟨T1, L1, k1, n1⟩, -, X1, ⟨Lc1, hQ1, l1, y1, z1⟩, st1⟩ := X0.virtualBack hx (y := (⟨"java/lang/String", "coder", "()B"⟩ : MethodName)) (z := (⟨"java/lang/String", "coder", "()B"⟩ : MethodName)) hown (mvT hZ (hwd 66 rfl)) (mvT hZ (hwd 67 rfl)) (notFace_of_selects (args := #[]) (mvT hZ (hwd 69 rfl))) (mvT hZ (hwd 69 rfl)) (mvT hZ (hwd 68 rfl)) (by decide) (backOf (W := 0) (rmcoder l Z A0 hw [] f_CS a0 h0 n0 Z0 P_E_a0 P_F_a0_coder P_S_CS hn_CS) hZ (hwd 70 rfl) (hwd 6 rfl) (by decide) (by decide)) qq1a qq1c (g := (mkF m 1 #[vR a0, vR a1, vI p2, vI (0 : Int32)] [(.ref a0)])) rfl (by rw [hml]; rfl) (Steps.refl _) (argsL := []) (rest := []) (lenOf pd_66 rfl) rfl (by show 2 * 0 + _ ≤ _; exact Nat.le_of_eq rfl) (hb hby d15_1) (fun _ _ => ⟨rfl, e0, (by decide : 0 + 0 ≤ _), (by decide : 0 + 0 ≤ _)⟩)
 dsimp only [Pt.U, Pt.locs, Pt.cells, Pt.slots] at X1 l1 y1 z1 st1 hQ1
 subst l1 y1 z1
 obtain ⟨rfl, Nq1, eq1⟩ := hQ1
 have N1 := Fr.app N0 Nq1
 refine own_by (fun _ k => st1.trans k) ?_
 show own_Go p e below _ (T1.setTop (mkF m 4 #[vR a0, vR a1, vI p2, vI (0 : Int32)] [(.int (0 : Int32))]))
 refine own_by (fun _ k => XS.iloadN X1.here hx rfl (hb hby d15_4) rfl k) ?_
 refine own_by (fun _ k => XS.icmpNo X1.here hx rfl (hb hby d15_5) rfl (teq (by decide : (0 : Int32) = (0 : Int32))).2 k) ?_
 show own_Go p e below _ (T1.setTop (mkF m 8 #[vR a0, vR a1, vI p2, vI (0 : Int32)] []))
 refine own_by (fun _ k => XS.aloadN X1.here hx rfl (hb hby d15_8) rfl rfl k) ?_
 obtain ⟨T2, X2, e2, st2⟩ := getF X1 hx hZ hown (host := "") (Or.inl (hwd 24 rfl)) Via.refl eq1 P_F_a0_value (g := (mkF m 9 #[vR a0, vR a1, vI p2, vI (0 : Int32)] [(.ref a0)])) rfl rfl (hb hby d15_9)
 refine own_by st2 ?_
 show own_Go p e below _ (T2.setTop (mkF m 12 #[vR a0, vR a1, vI p2, vI (0 : Int32)] [(.ref t_a0)]))
 refine own_by (fun _ k => XS.iconst X2.here hx rfl (hb hby d15_12) k) ?_
 refine own_by (fun _ k => XS.aloadN X2.here hx rfl (hb hby d15_13) rfl rfl k) ?_
 refine own_by (fun _ k => XS.iloadN X2.here hx rfl (hb hby d15_14) rfl k) ?_
 refine own_by (fun _ k => XS.iloadN X2.here hx rfl (hb hby d15_15) rfl k) ?_
 refine own_by (fun _ k => XS.ishl X2.here hx rfl (hb hby d15_16) rfl k) ?_
 show own_Go p e below _ (T2.setTop (mkF m 17 #[vR a0, vR a1, vI p2, vI (0 : Int32)] [(.int (p2 <<< ((0 : Int32) &&& 31))), (.ref a1), (.int (0 : Int32)), (.ref t_a0)]))
 rw [own_ishl0]
 show own_Go p e below _ (T2.setTop (mkF m 17 #[vR a0, vR a1, vI p2, vI (0 : Int32)] [(.int p2), (.ref a1), (.int (0 : Int32)), (.ref t_a0)]))
 refine own_by (fun _ k => XS.aloadN X2.here hx rfl (hb hby d15_17) rfl rfl k) ?_
 obtain ⟨T3, X3, e3, st3⟩ := getF X2 hx hZ hown (host := "") (Or.inl (hwd 24 rfl)) Via.refl e2 P_F_a0_value (g := (mkF m 18 #[vR a0, vR a1, vI p2, vI (0 : Int32)] [(.ref a0), (.int p2), (.ref a1), (.int (0 : Int32)), (.ref t_a0)])) rfl rfl (hb hby d15_18)
 refine own_by st3 ?_
 show own_Go p e below _ (T3.setTop (mkF m 21 #[vR a0, vR a1, vI p2, vI (0 : Int32)] [(.ref t_a0), (.int p2), (.ref a1), (.int (0 : Int32)), (.ref t_a0)]))
 obtain ⟨cl4, Ar4, qq4, S4, M4, H4, G4⟩ := id P_V_t_a0
 refine own_by (fun t k => X3.arraylength hx (by rw [e3]; exact Ar4.1) (State.isArrayOf_alike hZ.alike Ar4.2.1) (g := (mkF m 21 #[vR a0, vR a1, vI p2, vI (0 : Int32)] [(.ref t_a0), (.int p2), (.ref a1), (.int (0 : Int32)), (.ref t_a0)])) rfl rfl (hb hby d15_21) _ k) ?_
 rw [len_of S4 M4]
 show own_Go p e below _ (T3.setTop (mkF m 22 #[vR a0, vR a1, vI p2, vI (0 : Int32)] [(.int n_t_a0), (.int p2), (.ref a1), (.int (0 : Int32)), (.ref t_a0)]))
 obtain ⟨T5, h5, L5, X5, e5, N5, Kq5, V5, st5⟩ := own_cpA X3 hx hZ hown (hwd 95 rfl) (hwd 98 rfl) (hwd 96 rfl) (hwd 97 rfl) e3 P_V_t_a0 P_V_a1 (by decide) (by decide) hp_1 hp_2 hp_3 hp_4 N1 g_a1 (g := (mkF m 22 #[vR a0, vR a1, vI p2, vI (0 : Int32)] [(.int n_t_a0), (.int p2), (.ref a1), (.int (0 : Int32)), (.ref t_a0)])) rfl (by rw [hml]; rfl) rfl (hb hby d15_22) (by decide) (W := 0) (by show 2 * 0 + _ ≤ _; exact Nat.le_of_eq rfl) (by decide)
 have V5' : own_Arf Z h5 a1 k_a1 .byte (16 : Int32) (fun i => .int ((own_cp fn_t_a0 0 fn_a1 (p2).toNatClampNeg (n_t_a0).toNatClampNeg) i)) := by rw [← own_cpI]; exact V5
 have K5 : Keep h0 h5 [a1] := (Keep.refl h0 [a1]).trans Kq5 ((allS (Or.inl (List.mem_of_getElem? (i := 0) rfl)) all0))
 have Z5 : n0 ≤ h5.size := Nat.le_trans Z0 Kq5.1
 refine own_by st5 ?_
 show own_Go p e below _ (T5.setTop (mkF m 25 #[vR a0, vR a1, vI p2, vI (0 : Int32)] []))
 refine own_by (fun _ k => XS.goto X5.here hx rfl (pc0 := 25) (pc' := 43) rfl (hb hby d15_25) (by decide) (by decide) k) ?_
 show own_Go p e below _ (T5.setTop (mkF m 43 #[vR a0, vR a1, vI p2, vI (0 : Int32)] []))
 exact own_ret0 X5 hx Bd.returns (hb hby d15_43) hlk e5 ⟨rfl, N5, K5, V5'⟩ (by decide) (by decide)
theorem pd_84 : parseMethodDescriptor "(Ljava/lang/String;)V" = some ⟨[(.object "java/lang/String")], none⟩ := by decide +kernel
theorem pd_90 : parseMethodDescriptor "([BIB)V" = some ⟨[(.array .byte), .int, .byte], none⟩ := by decide +kernel
theorem d13_0 : decode jdk_68_method_73_code 0 = .ok (.aload_n 0, 1) := by decide +kernel
theorem d13_1 : decode jdk_68_method_73_code 1 = .ok (.aload_n 2, 1) := by decide +kernel
theorem d13_2 : decode jdk_68_method_73_code 2 = .ok (.invokevirtual 397, 3) := by decide +kernel
theorem d13_5 : decode jdk_68_method_73_code 5 = .ok (.aload_n 2, 1) := by decide +kernel
theorem d13_6 : decode jdk_68_method_73_code 6 = .ok (.aload_n 0, 1) := by decide +kernel
theorem d13_7 : decode jdk_68_method_73_code 7 = .ok (.getfield 15, 3) := by decide +kernel
theorem d13_10 : decode jdk_68_method_73_code 10 = .ok (.iload_n 1, 1) := by decide +kernel
theorem d13_11 : decode jdk_68_method_73_code 11 = .ok (.aload_n 0, 1) := by decide +kernel
theorem d13_12 : decode jdk_68_method_73_code 12 = .ok (.getfield 22, 3) := by decide +kernel
theorem d13_15 : decode jdk_68_method_73_code 15 = .ok (.invokevirtual 399, 3) := by decide +kernel
theorem d13_18 : decode jdk_68_method_73_code 18 = .ok (.return_, 1) := by decide +kernel
theorem pn_13 : plainName "java/lang/AbstractStringBuilder" = true := by first | (simp [plainName, overriddenIn]; done) | decide +kernel
theorem ef_13 (m : MethodId) (a0 : Addr) (p1 : Int32) (a2 : Addr) : entryFrame m #[(.ref a0), (.int p1), (.ref a2)] 3 = mkF m 0 #[vR a0, vI p1, vR a2] [] := by first | (simp [entryFrame, mkF, argsToLocals, Value.category]; done) | rfl
def Q13 (Z : State) (t_a0 : Addr) (c_a0 : Int32) (k_t_a0 : ClassId) (fn_t_a0 : Nat → Int32) (t_a2 : Addr) (k_t_a2 : ClassId) (n_t_a2 : Int32) (fn_t_a2 : Nat → Int32) (f_CS : Int32) (a0 : Addr) (p1 : Int32) (a2 : Addr) (h0 : Heap) (n0 : Nat) (v : Option Value) (h : Heap) (L : List Loc) : Prop := v = none ∧ Fr n0 L ∧ Keep h0 h [t_a0] ∧ own_Arf Z h t_a0 k_t_a0 .byte (16 : Int32) (fun i => .int ((own_cp fn_t_a2 0 fn_t_a0 (p1).toNatClampNeg (n_t_a2).toNatClampNeg) i))
set_option maxRecDepth 65536 in
set_option maxHeartbeats 40000000 in
theorem rm13 (l : Launch) (Z : State) (A0 : Array Value) (hw : ∀ d ∈ tables_1, d.before A0 Z = true) (ws : List Jvm.Cond) (t_a0 : Addr) (c_a0 : Int32) (k_t_a0 : ClassId) (fn_t_a0 : Nat → Int32) (t_a2 : Addr) (k_t_a2 : ClassId) (n_t_a2 : Int32) (fn_t_a2 : Nat → Int32) (f_CS : Int32) (a0 : Addr) (p1 : Int32) (a2 : Addr) (h0 : Heap) (n0 : Nat) (Z0 : n0 ≤ h0.size) (P_E_a0 : Exa Z h0 a0 "java/lang/StringBuilder") (P_F_a0_coder : Fld Z h0 a0 "java/lang/AbstractStringBuilder" "coder" "B" (.int (0 : Int32))) (P_F_a0_value : Fld Z h0 a0 "java/lang/AbstractStringBuilder" "value" "[B" (.ref t_a0)) (P_F_a0_count : Fld Z h0 a0 "java/lang/AbstractStringBuilder" "count" "I" (.int c_a0)) (P_V_t_a0 : own_Arf Z h0 t_a0 k_t_a0 .byte (16 : Int32) (fun i => .int (fn_t_a0 i))) (P_E_a2 : Exa Z h0 a2 "java/lang/String") (P_F_a2_coder : Fld Z h0 a2 "java/lang/String" "coder" "B" (.int (0 : Int32))) (P_F_a2_value : Fld Z h0 a2 "java/lang/String" "value" "[B" (.ref t_a2)) (P_V_t_a2 : own_Arf Z h0 t_a2 k_t_a2 .byte n_t_a2 (fun i => .int (fn_t_a2 i))) (P_S_CS : Sta Z h0 "java/lang/String" "COMPACT_STRINGS" "Z" (.int f_CS)) (hn_CS : ¬ (f_CS = (0 : Int32))) (hp_1 : ¬ p1 < 0) (hp_2 : ¬ n_t_a2 < 0) (hp_3 : 0 + (n_t_a2).toNatClampNeg ≤ (n_t_a2).toNatClampNeg) (hp_4 : (p1).toNatClampNeg + (n_t_a2).toNatClampNeg ≤ 16) (g_t_a0 : n0 ≤ t_a0) :
    MetFree l (⟨"java/lang/AbstractStringBuilder", "putStringAt", "(ILjava/lang/String;)V"⟩ : MethodName) (head1 (Jvm.Cond.code (⟨"java/lang/AbstractStringBuilder", "putStringAt", "(ILjava/lang/String;)V"⟩ : MethodName) jdk_68_method_73_code 3 none :: ws) ({ frames := 2, cells := 0, slots := 0, locals := 45 } : Room)) (fun a U => a = #[(.ref a0), (.int p1), (.ref a2)] ∧ Z.Warmed39 U.vm ∧ U.heap = h0) (fun _ _ _ _ _ => True) (fun _ U o U' => ∃ v L, o = .returned v ∧ Q13 Z t_a0 c_a0 k_t_a0 fn_t_a0 t_a2 k_t_a2 n_t_a2 fn_t_a2 f_CS a0 p1 a2 h0 n0 v U'.heap L ∧ FrameEnd U o U' L 0 0) := by
 refine MetFree.of_bodySF (plainFor_of_name pn_13) hisR ?_
 intro p e s m args below meth c s₁ Bd hml0 hP hK
 obtain ⟨rfl, hZ, hh⟩ := hP
 have hwd := fun i {d : Jvm.Cond} (h : tables_1[i]? = some d) => hw d (List.mem_of_getElem? h)
 have hx := Bd.exec
 have hby := Bd.bytes
 have hml : c.maxLocals = 3 := hml0
 have hlk : meth.locks = false := Bd.notSynchronized
 have hown : s.vm.findClass "java/lang/AbstractStringBuilder" = some m.cls := findClass_of_methodNamed Bd.named
 have hnm := (name_of_methodNamed Bd.named Bd.method).1
 have X0 : Stand p l e ({ frames := 2, cells := 0, slots := 0, locals := 45 } : Room) s m #[(.ref a0), (.int p1), (.ref a2)] below meth c s₁ [] 0 0 := Stand.of_body Bd
 have e0 : s₁.heap = h0 := by rw [← hh, Bd.state]; rfl
 have N0 := Fr.nil n0
 show own_Go p e below (own_Fin s 0 0 (Q13 Z t_a0 c_a0 k_t_a0 fn_t_a0 t_a2 k_t_a2 n_t_a2 fn_t_a2 f_CS a0 p1 a2 h0 n0)) _
 refine own_by (fun t k => castTop (ef_13 m a0 p1 a2) k) ?_
 show own_Go p e below _ (s₁.setTop (mkF m 0 #[vR a0, vI p1, vR a2] []))
 refine own_by (fun _ k => XS.aloadN X0.here hx rfl (hb hby d13_0) rfl rfl k) ?_
 refine own_by (fun _ k => XS.aloadN X0.here hx rfl (hb hby d13_1) rfl rfl k) ?_
 obtain ⟨cq1, qq1, qq1'⟩ := P_E_a0.cell
 obtain ⟨_, _, ⟨T1, L1, k1, n1⟩, -, X1, ⟨Lc1, hQ1, l1, y1, z1⟩, st1⟩ := X0.privateBack hx (y := (⟨"java/lang/AbstractStringBuilder", "inflateIfNeededFor", "(Ljava/lang/String;)V"⟩ : MethodName)) hown (mvT hZ (hwd 84 rfl)) (mvT hZ (hwd 85 rfl)) (own_selPriv2 hZ (hwd 87 rfl) (hwd 86 rfl) (hwd 85 rfl) (by decide)) (Cond.privateMethod_at (mvP hZ (hwd 86 rfl) (args := #[]))) (mvT hZ (hwd 88 rfl)) (by decide) (backOf (W := 0) (rm14 l Z A0 hw [] f_CS a0 a2 h0 n0 Z0 P_E_a0 P_F_a0_coder P_E_a2 P_F_a2_coder P_S_CS hn_CS) hZ (hwd 88 rfl) (hwd 43 rfl) (by decide) (by decide)) (g := (mkF m 2 #[vR a0, vI p1, vR a2] [(.ref a2), (.ref a0)])) rfl (by rw [hml]; rfl) (Steps.refl _) (a := a0) (by rw [e0]; exact qq1) qq1' (argsL := [(.ref a2)]) (rest := []) (lenOf pd_84 rfl) rfl (by show 2 * 0 + _ ≤ _; exact Nat.le_of_eq rfl) (hb hby d13_2) (fun _ _ => ⟨rfl, e0, (by decide : 0 + 0 ≤ _), (by decide : 0 + 0 ≤ _)⟩)
 dsimp only [Pt.U, Pt.locs, Pt.cells, Pt.slots] at X1 l1 y1 z1 st1 hQ1
 subst l1 y1 z1
 obtain ⟨rfl, Nq1, eq1⟩ := hQ1
 have N1 := Fr.app N0 Nq1
 refine own_by (fun _ k => st1.trans k) ?_
 show own_Go p e below _ (T1.setTop (mkF m 5 #[vR a0, vI p1, vR a2] []))
 refine own_by (fun _ k => XS.aloadN X1.here hx rfl (hb hby d13_5) rfl rfl k) ?_
 refine own_by (fun _ k => XS.aloadN X1.here hx rfl (hb hby d13_6) rfl rfl k) ?_
 obtain ⟨T2, X2, e2, st2⟩ := getF X1 hx hZ hown (host := "") (Or.inl (hwd 47 rfl)) Via.refl eq1 P_F_a0_value (g := (mkF m 7 #[vR a0, vI p1, vR a2] [(.ref a0), (.ref a2)])) rfl rfl (hb hby d13_7)
 refine own_by st2 ?_
 show own_Go p e below _ (T2.setTop (mkF m 10 #[vR a0, vI p1, vR a2] [(.ref t_a0), (.ref a2)]))
 refine own_by (fun _ k => XS.iloadN X2.here hx rfl (hb hby d13_10) rfl k) ?_
 refine own_by (fun _ k => XS.aloadN X2.here hx rfl (hb hby d13_11) rfl rfl k) ?_
 obtain ⟨T3, X3, e3, st3⟩ := getF X2 hx hZ hown (host := "") (Or.inl (hwd 49 rfl)) Via.refl e2 P_F_a0_coder (g := (mkF m 12 #[vR a0, vI p1, vR a2] [(.ref a0), (.int p1), (.ref t_a0), (.ref a2)])) rfl rfl (hb hby d13_12)
 refine own_by st3 ?_
 show own_Go p e below _ (T3.setTop (mkF m 15 #[vR a0, vI p1, vR a2] [(.int (0 : Int32)), (.int p1), (.ref t_a0), (.ref a2)]))
 obtain ⟨cq4, kq4, qq4a, qq4b, qq4c⟩ := isOf hZ e3 P_E_a2
 obtain ⟨_, _, ⟨T4, L4, k4, n4⟩, -, X4, ⟨Lc4, hQ4, l4, y4, z4⟩, st4⟩ := X3.virtualBack hx (y := (⟨"java/lang/String", "getBytes", "([BIB)V"⟩ : MethodName)) (z := (⟨"java/lang/String", "getBytes", "([BIB)V"⟩ : MethodName)) hown (mvT hZ (hwd 90 rfl)) (mvT hZ (hwd 91 rfl)) (notFace_of_selects (args := #[]) (mvT hZ (hwd 93 rfl))) (mvT hZ (hwd 93 rfl)) (mvT hZ (hwd 92 rfl)) (by decide) (backOf (W := 0) (rm15 l Z A0 hw [] t_a2 k_t_a2 n_t_a2 fn_t_a2 k_t_a0 fn_t_a0 f_CS a2 t_a0 p1 h0 n0 Z0 P_E_a2 P_F_a2_coder P_F_a2_value P_V_t_a2 P_V_t_a0 P_S_CS hn_CS hp_1 hp_2 hp_3 hp_4 g_t_a0) hZ (hwd 94 rfl) (hwd 6 rfl) (by decide) (by decide)) qq4a qq4c (g := (mkF m 15 #[vR a0, vI p1, vR a2] [(.int (0 : Int32)), (.int p1), (.ref t_a0), (.ref a2)])) rfl (by rw [hml]; rfl) (Steps.refl _) (argsL := [(.ref t_a0), (.int p1), (.int (0 : Int32))]) (rest := []) (lenOf pd_90 rfl) rfl (by show 2 * 0 + _ ≤ _; exact Nat.le_of_eq rfl) (hb hby d13_15) (fun _ _ => ⟨rfl, e3, (by decide : 0 + 0 ≤ _), (by decide : 0 + 0 ≤ _)⟩)
 dsimp only [Pt.U, Pt.locs, Pt.cells, Pt.slots] at X4 l4 y4 z4 st4 hQ4
 subst l4 y4 z4
 obtain ⟨rfl, Nq4, Kq4, F5⟩ := hQ4
 have N4 := Fr.app N1 Nq4
 have K4 : Keep h0 T4.heap [t_a0] := (Keep.refl h0 [t_a0]).trans Kq4 ((allS (Or.inl (List.mem_of_getElem? (i := 0) rfl)) all0))
 have Z4 : n0 ≤ T4.heap.size := Nat.le_trans Z0 Kq4.1
 refine own_by (fun _ k => st4.trans k) ?_
 show own_Go p e below _ (T4.setTop (mkF m 18 #[vR a0, vI p1, vR a2] []))
 exact own_ret0 X4 hx Bd.returns (hb hby d13_18) hlk rfl ⟨rfl, N4, K4, F5⟩ (by decide) (by decide)
theorem pd_61 : parseMethodDescriptor "()I" = some ⟨[], some .int⟩ := by decide +kernel
theorem pd_79 : parseMethodDescriptor "(ILjava/lang/String;)V" = some ⟨[.int, (.object "java/lang/String")], none⟩ := by decide +kernel
theorem d9_0 : decode jdk_68_method_22_code 0 = .ok (.aload_n 1, 1) := by decide +kernel
theorem d9_1 : decode jdk_68_method_22_code 1 = .ok (.ifnonnull 8, 3) := by decide +kernel
theorem d9_9 : decode jdk_68_method_22_code 9 = .ok (.aload_n 1, 1) := by decide +kernel
theorem d9_10 : decode jdk_68_method_22_code 10 = .ok (.invokevirtual 32, 3) := by decide +kernel
theorem d9_13 : decode jdk_68_method_22_code 13 = .ok (.istore_n 2, 1) := by decide +kernel
theorem d9_14 : decode jdk_68_method_22_code 14 = .ok (.aload_n 0, 1) := by decide +kernel
theorem d9_15 : decode jdk_68_method_22_code 15 = .ok (.aload_n 0, 1) := by decide +kernel
theorem d9_16 : decode jdk_68_method_22_code 16 = .ok (.getfield 79, 3) := by decide +kernel
theorem d9_19 : decode jdk_68_method_22_code 19 = .ok (.iload_n 2, 1) := by decide +kernel
theorem d9_20 : decode jdk_68_method_22_code 20 = .ok (.iadd, 1) := by decide +kernel
theorem d9_21 : decode jdk_68_method_22_code 21 = .ok (.invokevirtual 100, 3) := by decide +kernel
theorem d9_24 : decode jdk_68_method_22_code 24 = .ok (.aload_n 0, 1) := by decide +kernel
theorem d9_25 : decode jdk_68_method_22_code 25 = .ok (.aload_n 0, 1) := by decide +kernel
theorem d9_26 : decode jdk_68_method_22_code 26 = .ok (.getfield 79, 3) := by decide +kernel
theorem d9_29 : decode jdk_68_method_22_code 29 = .ok (.aload_n 1, 1) := by decide +kernel
theorem d9_30 : decode jdk_68_method_22_code 30 = .ok (.invokevirtual 208, 3) := by decide +kernel
theorem d9_33 : decode jdk_68_method_22_code 33 = .ok (.aload_n 0, 1) := by decide +kernel
theorem d9_34 : decode jdk_68_method_22_code 34 = .ok (.dup, 1) := by decide +kernel
theorem d9_35 : decode jdk_68_method_22_code 35 = .ok (.getfield 79, 3) := by decide +kernel
theorem d9_38 : decode jdk_68_method_22_code 38 = .ok (.iload_n 2, 1) := by decide +kernel
theorem d9_39 : decode jdk_68_method_22_code 39 = .ok (.iadd, 1) := by decide +kernel
theorem d9_40 : decode jdk_68_method_22_code 40 = .ok (.putfield 79, 3) := by decide +kernel
theorem d9_43 : decode jdk_68_method_22_code 43 = .ok (.aload_n 0, 1) := by decide +kernel
theorem d9_44 : decode jdk_68_method_22_code 44 = .ok (.areturn, 1) := by decide +kernel
theorem pn_9 : plainName "java/lang/AbstractStringBuilder" = true := by first | (simp [plainName, overriddenIn]; done) | decide +kernel
theorem ef_9 (m : MethodId) (a0 : Addr) (a1 : Addr) : entryFrame m #[(.ref a0), (.ref a1)] 3 = mkF m 0 #[vR a0, vR a1, .unset] [] := by first | (simp [entryFrame, mkF, argsToLocals, Value.category]; done) | rfl
def Q9 (Z : State) (t_a0 : Addr) (c_a0 : Int32) (k_t_a0 : ClassId) (fn_t_a0 : Nat → Int32) (t_a1 : Addr) (k_t_a1 : ClassId) (n_t_a1 : Int32) (fn_t_a1 : Nat → Int32) (f_CS : Int32) (a0 : Addr) (a1 : Addr) (h0 : Heap) (n0 : Nat) (v : Option Value) (h : Heap) (L : List Loc) : Prop := v = some (.ref a0) ∧ Fr n0 L ∧ Keep h0 h [t_a0, a0] ∧ own_Arf Z h t_a0 k_t_a0 .byte (16 : Int32) (fun i => .int ((own_cp fn_t_a1 0 fn_t_a0 (c_a0).toNatClampNeg (n_t_a1).toNatClampNeg) i)) ∧ Exa Z h a0 "java/lang/StringBuilder" ∧ Fld Z h a0 "java/lang/AbstractStringBuilder" "coder" "B" (.int (0 : Int32)) ∧ Fld Z h a0 "java/lang/AbstractStringBuilder" "value" "[B" (.ref t_a0) ∧ Fld Z h a0 "java/lang/AbstractStringBuilder" "count" "I" (.int (c_a0 + n_t_a1))
set_option maxRecDepth 65536 in
set_option maxHeartbeats 40000000 in
theorem rm9 (l : Launch) (Z : State) (A0 : Array Value) (hw : ∀ d ∈ tables_1, d.before A0 Z = true) (ws : List Jvm.Cond) (t_a0 : Addr) (c_a0 : Int32) (k_t_a0 : ClassId) (fn_t_a0 : Nat → Int32) (t_a1 : Addr) (k_t_a1 : ClassId) (n_t_a1 : Int32) (fn_t_a1 : Nat → Int32) (f_CS : Int32) (a0 : Addr) (a1 : Addr) (h0 : Heap) (n0 : Nat) (Z0 : n0 ≤ h0.size) (P_E_a0 : Exa Z h0 a0 "java/lang/StringBuilder") (P_F_a0_coder : Fld Z h0 a0 "java/lang/AbstractStringBuilder" "coder" "B" (.int (0 : Int32))) (P_F_a0_value : Fld Z h0 a0 "java/lang/AbstractStringBuilder" "value" "[B" (.ref t_a0)) (P_F_a0_count : Fld Z h0 a0 "java/lang/AbstractStringBuilder" "count" "I" (.int c_a0)) (P_V_t_a0 : own_Arf Z h0 t_a0 k_t_a0 .byte (16 : Int32) (fun i => .int (fn_t_a0 i))) (P_E_a1 : Exa Z h0 a1 "java/lang/String") (P_F_a1_coder : Fld Z h0 a1 "java/lang/String" "coder" "B" (.int (0 : Int32))) (P_F_a1_value : Fld Z h0 a1 "java/lang/String" "value" "[B" (.ref t_a1)) (P_V_t_a1 : own_Arf Z h0 t_a1 k_t_a1 .byte n_t_a1 (fun i => .int (fn_t_a1 i))) (P_S_CS : Sta Z h0 "java/lang/String" "COMPACT_STRINGS" "Z" (.int f_CS)) (hn_CS : ¬ (f_CS = (0 : Int32))) (hp_1 : ¬ ((0 : Int32) < ((c_a0 + n_t_a1) - (16 : Int32)))) (hp_2 : ¬ c_a0 < 0) (hp_3 : ¬ n_t_a1 < 0) (hp_4 : 0 + (n_t_a1).toNatClampNeg ≤ (n_t_a1).toNatClampNeg) (hp_5 : (c_a0).toNatClampNeg + (n_t_a1).toNatClampNeg ≤ 16) (g_t_a0 : n0 ≤ t_a0) (g_a0 : n0 ≤ a0) :
    MetFree l (⟨"java/lang/AbstractStringBuilder", "append", "(Ljava/lang/String;)Ljava/lang/AbstractStringBuilder;"⟩ : MethodName) (head1 (Jvm.Cond.code (⟨"java/lang/AbstractStringBuilder", "append", "(Ljava/lang/String;)Ljava/lang/AbstractStringBuilder;"⟩ : MethodName) jdk_68_method_22_code 3 (some (.object "java/lang/AbstractStringBuilder")) :: ws) ({ frames := 3, cells := 0, slots := 0, locals := 59 } : Room)) (fun a U => a = #[(.ref a0), (.ref a1)] ∧ Z.Warmed39 U.vm ∧ U.heap = h0) (fun _ _ _ _ _ => True) (fun _ U o U' => ∃ v L, o = .returned v ∧ Q9 Z t_a0 c_a0 k_t_a0 fn_t_a0 t_a1 k_t_a1 n_t_a1 fn_t_a1 f_CS a0 a1 h0 n0 v U'.heap L ∧ FrameEnd U o U' L 0 0) := by
 refine MetFree.of_bodySF (plainFor_of_name pn_9) hisR ?_
 intro p e s m args below meth c s₁ Bd hml0 hP hK
 obtain ⟨rfl, hZ, hh⟩ := hP
 have hwd := fun i {d : Jvm.Cond} (h : tables_1[i]? = some d) => hw d (List.mem_of_getElem? h)
 have hx := Bd.exec
 have hby := Bd.bytes
 have hml : c.maxLocals = 3 := hml0
 have hlk : meth.locks = false := Bd.notSynchronized
 have hown : s.vm.findClass "java/lang/AbstractStringBuilder" = some m.cls := findClass_of_methodNamed Bd.named
 have hnm := (name_of_methodNamed Bd.named Bd.method).1
 have X0 : Stand p l e ({ frames := 3, cells := 0, slots := 0, locals := 59 } : Room) s m #[(.ref a0), (.ref a1)] below meth c s₁ [] 0 0 := Stand.of_body Bd
 have e0 : s₁.heap = h0 := by rw [← hh, Bd.state]; rfl
 have N0 := Fr.nil n0
 show own_Go p e below (own_Fin s 0 0 (Q9 Z t_a0 c_a0 k_t_a0 fn_t_a0 t_a1 k_t_a1 n_t_a1 fn_t_a1 f_CS a0 a1 h0 n0)) _
 refine own_by (fun t k => castTop (ef_9 m a0 a1) k) ?_
 show own_Go p e below _ (s₁.setTop (mkF m 0 #[vR a0, vR a1, .unset] []))
 refine own_by (fun _ k => XS.aloadN X0.here hx rfl (hb hby d9_0) rfl rfl k) ?_
 refine own_by (fun _ k => XS.ifnonnullYes X0.here hx rfl (pc0 := 1) (pc' := 9) rfl (hb hby d9_1) rfl (by decide) (by decide) k) ?_
 show own_Go p e below _ (s₁.setTop (mkF m 9 #[vR a0, vR a1, .unset] []))
 refine own_by (fun _ k => XS.aloadN X0.here hx rfl (hb hby d9_9) rfl rfl k) ?_
 obtain ⟨cq1, kq1, qq1a, qq1b, qq1c⟩ := isOf hZ e0 P_E_a1
 obtain ⟨_, _, ⟨T1, L1, k1, n1⟩, -, X1, ⟨Lc1, hQ1, l1, y1, z1⟩, st1⟩ := X0.virtualBack hx (y := (⟨"java/lang/String", "length", "()I"⟩ : MethodName)) (z := (⟨"java/lang/String", "length", "()I"⟩ : MethodName)) hown (mvT hZ (hwd 61 rfl)) (mvT hZ (hwd 62 rfl)) (notFace_of_selects (args := #[]) (mvT hZ (hwd 64 rfl))) (mvT hZ (hwd 64 rfl)) (mvT hZ (hwd 63 rfl)) (by decide) (backOf (W := 0) (rmlen l Z A0 hw [] t_a1 k_t_a1 n_t_a1 fn_t_a1 f_CS a1 h0 n0 Z0 P_E_a1 P_F_a1_coder P_F_a1_value P_V_t_a1 P_S_CS hn_CS) hZ (hwd 65 rfl) (hwd 6 rfl) (by decide) (by decide)) qq1a qq1c (g := (mkF m 10 #[vR a0, vR a1, .unset] [(.ref a1)])) rfl (by rw [hml]; rfl) (Steps.refl _) (argsL := []) (rest := []) (lenOf pd_61 rfl) rfl (by show 2 * 0 + _ ≤ _; exact Nat.le_of_eq rfl) (hb hby d9_10) (fun _ _ => ⟨rfl, e0, (by decide : 0 + 0 ≤ _), (by decide : 0 + 0 ≤ _)⟩)
 dsimp only [Pt.U, Pt.locs, Pt.cells, Pt.slots] at X1 l1 y1 z1 st1 hQ1
 subst l1 y1 z1
 obtain ⟨rfl, Nq1, eq1⟩ := hQ1
 have N1 := Fr.app N0 Nq1
 refine own_by (fun _ k => st1.trans k) ?_
 show own_Go p e below _ (T1.setTop (mkF m 13 #[vR a0, vR a1, .unset] [(.int n_t_a1)]))
 refine own_by (fun _ k => XS.istoreN X1.here hx rfl (hb hby d9_13) rfl (l' := #[vR a0, vR a1, vI n_t_a1]) rfl k) ?_
 show own_Go p e below _ (T1.setTop (mkF m 14 #[vR a0, vR a1, vI n_t_a1] []))
 refine own_by (fun _ k => XS.aloadN X1.here hx rfl (hb hby d9_14) rfl rfl k) ?_
 refine own_by (fun _ k => XS.aloadN X1.here hx rfl (hb hby d9_15) rfl rfl k) ?_
 obtain ⟨T2, X2, e2, st2⟩ := getF X1 hx hZ hown (host := "") (Or.inl (hwd 72 rfl)) Via.refl eq1 P_F_a0_count (g := (mkF m 16 #[vR a0, vR a1, vI n_t_a1] [(.ref a0), (.ref a0)])) rfl rfl (hb hby d9_16)
 refine own_by st2 ?_
 show own_Go p e below _ (T2.setTop (mkF m 19 #[vR a0, vR a1, vI n_t_a1] [(.int c_a0), (.ref a0)]))
 refine own_by (fun _ k => XS.iloadN X2.here hx rfl (hb hby d9_19) rfl k) ?_
 refine own_by (fun _ k => XS.iadd X2.here hx rfl (hb hby d9_20) rfl k) ?_
 show own_Go p e below _ (T2.setTop (mkF m 21 #[vR a0, vR a1, vI n_t_a1] [(.int (c_a0 + n_t_a1)), (.ref a0)]))
 obtain ⟨cq3, qq3, qq3'⟩ := P_E_a0.cell
 obtain ⟨_, _, ⟨T3, L3, k3, n3⟩, -, X3, ⟨Lc3, hQ3, l3, y3, z3⟩, st3⟩ := X2.privateBack hx (y := (⟨"java/lang/AbstractStringBuilder", "ensureCapacityInternal", "(I)V"⟩ : MethodName)) hown (mvT hZ (hwd 74 rfl)) (mvT hZ (hwd 75 rfl)) (own_selPriv2 hZ (hwd 77 rfl) (hwd 76 rfl) (hwd 75 rfl) (by decide)) (Cond.privateMethod_at (mvP hZ (hwd 76 rfl) (args := #[]))) (mvT hZ (hwd 78 rfl)) (by decide) (backOf (W := 0) (rm12 l Z A0 hw [] t_a0 c_a0 k_t_a0 fn_t_a0 a0 (c_a0 + n_t_a1) h0 n0 Z0 P_E_a0 P_F_a0_coder P_F_a0_value P_F_a0_count P_V_t_a0 hp_1) hZ (hwd 78 rfl) (hwd 43 rfl) (by decide) (by decide)) (g := (mkF m 21 #[vR a0, vR a1, vI n_t_a1] [(.int (c_a0 + n_t_a1)), (.ref a0)])) rfl (by rw [hml]; rfl) (Steps.refl _) (a := a0) (by rw [e2]; exact qq3) qq3' (argsL := [(.int (c_a0 + n_t_a1))]) (rest := []) (lenOf pd_39 rfl) rfl (by show 2 * 0 + _ ≤ _; exact Nat.le_of_eq rfl) (hb hby d9_21) (fun _ _ => ⟨rfl, e2, (by decide : 0 + 0 ≤ _), (by decide : 0 + 0 ≤ _)⟩)
 dsimp only [Pt.U, Pt.locs, Pt.cells, Pt.slots] at X3 l3 y3 z3 st3 hQ3
 subst l3 y3 z3
 obtain ⟨rfl, Nq3, eq3⟩ := hQ3
 have N3 := Fr.app N1 Nq3
 refine own_by (fun _ k => st3.trans k) ?_
 show own_Go p e below _ (T3.setTop (mkF m 24 #[vR a0, vR a1, vI n_t_a1] []))
 refine own_by (fun _ k => XS.aloadN X3.here hx rfl (hb hby d9_24) rfl rfl k) ?_
 refine own_by (fun _ k => XS.aloadN X3.here hx rfl (hb hby d9_25) rfl rfl k) ?_
 obtain ⟨T4, X4, e4, st4⟩ := getF X3 hx hZ hown (host := "") (Or.inl (hwd 72 rfl)) Via.refl eq3 P_F_a0_count (g := (mkF m 26 #[vR a0, vR a1, vI n_t_a1] [(.ref a0), (.ref a0)])) rfl rfl (hb hby d9_26)
 refine own_by st4 ?_
 show own_Go p e below _ (T4.setTop (mkF m 29 #[vR a0, vR a1, vI n_t_a1] [(.int c_a0), (.ref a0)]))
 refine own_by (fun _ k => XS.aloadN X4.here hx rfl (hb hby d9_29) rfl rfl k) ?_
 obtain ⟨cq5, qq5, qq5'⟩ := P_E_a0.cell
 obtain ⟨_, _, ⟨T5, L5, k5, n5⟩, -, X5, ⟨Lc5, hQ5, l5, y5, z5⟩, st5⟩ := X4.privateBack hx (y := (⟨"java/lang/AbstractStringBuilder", "putStringAt", "(ILjava/lang/String;)V"⟩ : MethodName)) hown (mvT hZ (hwd 79 rfl)) (mvT hZ (hwd 80 rfl)) (own_selPriv2 hZ (hwd 82 rfl) (hwd 81 rfl) (hwd 80 rfl) (by decide)) (Cond.privateMethod_at (mvP hZ (hwd 81 rfl) (args := #[]))) (mvT hZ (hwd 83 rfl)) (by decide) (backOf (W := 0) (rm13 l Z A0 hw [] t_a0 c_a0 k_t_a0 fn_t_a0 t_a1 k_t_a1 n_t_a1 fn_t_a1 f_CS a0 c_a0 a1 h0 n0 Z0 P_E_a0 P_F_a0_coder P_F_a0_value P_F_a0_count P_V_t_a0 P_E_a1 P_F_a1_coder P_F_a1_value P_V_t_a1 P_S_CS hn_CS hp_2 hp_3 hp_4 hp_5 g_t_a0) hZ (hwd 83 rfl) (hwd 43 rfl) (by decide) (by decide)) (g := (mkF m 30 #[vR a0, vR a1, vI n_t_a1] [(.ref a1), (.int c_a0), (.ref a0)])) rfl (by rw [hml]; rfl) (Steps.refl _) (a := a0) (by rw [e4]; exact qq5) qq5' (argsL := [(.int c_a0), (.ref a1)]) (rest := []) (lenOf pd_79 rfl) rfl (by show 2 * 0 + _ ≤ _; exact Nat.le_of_eq rfl) (hb hby d9_30) (fun _ _ => ⟨rfl, e4, (by decide : 0 + 0 ≤ _), (by decide : 0 + 0 ≤ _)⟩)
 dsimp only [Pt.U, Pt.locs, Pt.cells, Pt.slots] at X5 l5 y5 z5 st5 hQ5
 subst l5 y5 z5
 obtain ⟨rfl, Nq5, Kq5, F6⟩ := hQ5
 have N5 := Fr.app N3 Nq5
 have K5 : Keep h0 T5.heap [t_a0, a0] := (Keep.refl h0 [t_a0, a0]).trans Kq5 ((allS (Or.inl (List.mem_of_getElem? (i := 0) rfl)) all0))
 have Z5 : n0 ≤ T5.heap.size := Nat.le_trans Z0 Kq5.1
 refine own_by (fun _ k => st5.trans k) ?_
 show own_Go p e below _ (T5.setTop (mkF m 33 #[vR a0, vR a1, vI n_t_a1] []))
 refine own_by (fun _ k => XS.aloadN X5.here hx rfl (hb hby d9_33) rfl rfl k) ?_
 refine own_by (fun _ k => XS.dup X5.here hx rfl (hb hby d9_34) rfl rfl k) ?_
 show own_Go p e below _ (T5.setTop (mkF m 35 #[vR a0, vR a1, vI n_t_a1] [(.ref a0), (.ref a0)]))
 have F7 : Fld Z T5.heap a0 "java/lang/AbstractStringBuilder" "count" "I" (.int c_a0) := (P_F_a0_count.keep Kq5 (ninS (own_neArr (P_E_a0.keep Kq5) (hwd 34 rfl) F6) nin0))
 obtain ⟨T8, X8, e8, st8⟩ := getF X5 hx hZ hown (host := "") (Or.inl (hwd 72 rfl)) Via.refl rfl F7 (g := (mkF m 35 #[vR a0, vR a1, vI n_t_a1] [(.ref a0), (.ref a0)])) rfl rfl (hb hby d9_35)
 refine own_by st8 ?_
 show own_Go p e below _ (T8.setTop (mkF m 38 #[vR a0, vR a1, vI n_t_a1] [(.int c_a0), (.ref a0)]))
 refine own_by (fun _ k => XS.iloadN X8.here hx rfl (hb hby d9_38) rfl k) ?_
 refine own_by (fun _ k => XS.iadd X8.here hx rfl (hb hby d9_39) rfl k) ?_
 show own_Go p e below _ (T8.setTop (mkF m 40 #[vR a0, vR a1, vI n_t_a1] [(.int (c_a0 + n_t_a1)), (.ref a0)]))
 have F9 : Exa Z T5.heap a0 "java/lang/StringBuilder" := (P_E_a0.keep Kq5)
 obtain ⟨T10, h10, X10, e10, W10, st10⟩ := putF X8 hx hZ hown (host := "") (Or.inl (hwd 72 rfl)) Via.refl e8 F7 F9 (Or.inl (hwd 73 rfl)) (hwd 34 rfl) (ty := .int) (by decide) rfl rfl (g := (mkF m 40 #[vR a0, vR a1, vI n_t_a1] [(.int (c_a0 + n_t_a1)), (.ref a0)])) rfl rfl (hb hby d9_40)
 have Fw10 : Fld Z h10 a0 "java/lang/AbstractStringBuilder" "count" "I" (.int (c_a0 + n_t_a1)) := F7.same W10
 have K10 : Keep h0 h10 [t_a0, a0] := K5.wr W10 (Or.inl (List.mem_of_getElem? (i := 1) rfl))
 have Z10 : n0 ≤ h10.size := Nat.le_trans Z5 (Keep.of_wr W10).1
 have N10 := Fr.snoc X10 N5 g_a0
 refine own_by st10 ?_
 show own_Go p e below _ (T10.setTop (mkF m 43 #[vR a0, vR a1, vI n_t_a1] []))
 refine own_by (fun _ k => XS.aloadN X10.here hx rfl (hb hby d9_43) rfl rfl k) ?_
 have F11 : own_Arf Z h10 t_a0 k_t_a0 .byte (16 : Int32) (fun i => .int ((own_cp fn_t_a1 0 fn_t_a0 (c_a0).toNatClampNeg (n_t_a1).toNatClampNeg) i)) := (F6.other W10 (Ne.symm (own_neArr (P_E_a0.keep Kq5) (hwd 34 rfl) F6)))
 have F12 : Exa Z h10 a0 "java/lang/StringBuilder" := (F9.wr W10)
 have F13 : Fld Z h10 a0 "java/lang/AbstractStringBuilder" "coder" "B" (.int (0 : Int32)) := ((P_F_a0_coder.keep Kq5 (ninS (own_neArr ((P_E_a0.keep Kq5).wr W10) (hwd 34 rfl) F11) nin0)).other W10 (Or.inr (slot_ne (Or.inl (hwd 50 rfl)) (Or.inl (hwd 73 rfl)) (by decide) (t := .byte) (t' := .int) (by decide) (by decide))))
 have F14 : Fld Z h10 a0 "java/lang/AbstractStringBuilder" "value" "[B" (.ref t_a0) := ((P_F_a0_value.keep Kq5 (ninS (own_neArr ((P_E_a0.keep Kq5).wr W10) (hwd 34 rfl) F11) nin0)).other W10 (Or.inr (slot_ne (Or.inl (hwd 48 rfl)) (Or.inl (hwd 73 rfl)) (by decide) (t := (.array .byte)) (t' := .int) (by decide) (by decide))))
 exact own_retR X10 hx Bd.returns (by decide) rfl (hb hby d9_44) hlk e10 ⟨rfl, N10, K10, F11, F12, F13, F14, Fw10⟩ (by decide) (by decide)
theorem pd_56 : parseMethodDescriptor "(Ljava/lang/String;)Ljava/lang/AbstractStringBuilder;" = some ⟨[(.object "java/lang/String")], some (.object "java/lang/AbstractStringBuilder")⟩ := by decide +kernel
theorem d8_0 : decode jdk_67_method_7_code 0 = .ok (.aload_n 0, 1) := by decide +kernel
theorem d8_1 : decode jdk_67_method_7_code 1 = .ok (.aload_n 1, 1) := by decide +kernel
theorem d8_2 : decode jdk_67_method_7_code 2 = .ok (.invokespecial 29, 3) := by decide +kernel
theorem d8_5 : decode jdk_67_method_7_code 5 = .ok (.pop, 1) := by decide +kernel
theorem d8_6 : decode jdk_67_method_7_code 6 = .ok (.aload_n 0, 1) := by decide +kernel
theorem d8_7 : decode jdk_67_method_7_code 7 = .ok (.areturn, 1) := by decide +kernel
theorem pn_8 : plainName "java/lang/StringBuilder" = true := by first | (simp [plainName, overriddenIn]; done) | decide +kernel
theorem ef_8 (m : MethodId) (a0 : Addr) (a1 : Addr) : entryFrame m #[(.ref a0), (.ref a1)] 2 = mkF m 0 #[vR a0, vR a1] [] := by first | (simp [entryFrame, mkF, argsToLocals, Value.category]; done) | rfl
def Q8 (Z : State) (t_a0 : Addr) (c_a0 : Int32) (k_t_a0 : ClassId) (fn_t_a0 : Nat → Int32) (t_a1 : Addr) (k_t_a1 : ClassId) (n_t_a1 : Int32) (fn_t_a1 : Nat → Int32) (f_CS : Int32) (a0 : Addr) (a1 : Addr) (h0 : Heap) (n0 : Nat) (v : Option Value) (h : Heap) (L : List Loc) : Prop := v = some (.ref a0) ∧ Fr n0 L ∧ Keep h0 h [a0, t_a0] ∧ Exa Z h a0 "java/lang/StringBuilder" ∧ Fld Z h a0 "java/lang/AbstractStringBuilder" "coder" "B" (.int (0 : Int32)) ∧ Fld Z h a0 "java/lang/AbstractStringBuilder" "value" "[B" (.ref t_a0) ∧ Fld Z h a0 "java/lang/AbstractStringBuilder" "count" "I" (.int (c_a0 + n_t_a1)) ∧ own_Arf Z h t_a0 k_t_a0 .byte (16 : Int32) (fun i => .int ((own_cp fn_t_a1 0 fn_t_a0 (c_a0).toNatClampNeg (n_t_a1).toNatClampNeg) i))
set_option maxRecDepth 65536 in
set_option maxHeartbeats 40000000 in
theorem rm8 (l : Launch) (Z : State) (A0 : Array Value) (hw : ∀ d ∈ tables_1, d.before A0 Z = true) (ws : List Jvm.Cond) (t_a0 : Addr) (c_a0 : Int32) (k_t_a0 : ClassId) (fn_t_a0 : Nat → Int32) (t_a1 : Addr) (k_t_a1 : ClassId) (n_t_a1 : Int32) (fn_t_a1 : Nat → Int32) (f_CS : Int32) (a0 : Addr) (a1 : Addr) (h0 : Heap) (n0 : Nat) (Z0 : n0 ≤ h0.size) (P_E_a0 : Exa Z h0 a0 "java/lang/StringBuilder") (P_F_a0_coder : Fld Z h0 a0 "java/lang/AbstractStringBuilder" "coder" "B" (.int (0 : Int32))) (P_F_a0_value : Fld Z h0 a0 "java/lang/AbstractStringBuilder" "value" "[B" (.ref t_a0)) (P_F_a0_count : Fld Z h0 a0 "java/lang/AbstractStringBuilder" "count" "I" (.int c_a0)) (P_V_t_a0 : own_Arf Z h0 t_a0 k_t_a0 .byte (16 : Int32) (fun i => .int (fn_t_a0 i))) (P_E_a1 : Exa Z h0 a1 "java/lang/String") (P_F_a1_coder : Fld Z h0 a1 "java/lang/String" "coder" "B" (.int (0 : Int32))) (P_F_a1_value : Fld Z h0 a1 "java/lang/String" "value" "[B" (.ref t_a1)) (P_V_t_a1 : own_Arf Z h0 t_a1 k_t_a1 .byte n_t_a1 (fun i => .int (fn_t_a1 i))) (P_S_CS : Sta Z h0 "java/lang/String" "COMPACT_STRINGS" "Z" (.int f_CS)) (hn_CS : ¬ (f_CS = (0 : Int32))) (hp_1 : ¬ ((0 : Int32) < ((c_a0 + n_t_a1) - (16 : Int32)))) (hp_2 : ¬ c_a0 < 0) (hp_3 : ¬ n_t_a1 < 0) (hp_4 : 0 + (n_t_a1).toNatClampNeg ≤ (n_t_a1).toNatClampNeg) (hp_5 : (c_a0).toNatClampNeg + (n_t_a1).toNatClampNeg ≤ 16) (g_t_a0 : n0 ≤ t_a0) (g_a0 : n0 ≤ a0) :
    MetFree l (⟨"java/lang/StringBuilder", "append", "(Ljava/lang/String;)Ljava/lang/StringBuilder;"⟩ : MethodName) (head1 (Jvm.Cond.code (⟨"java/lang/StringBuilder", "append", "(Ljava/lang/String;)Ljava/lang/StringBuilder;"⟩ : MethodName) jdk_67_method_7_code 2 (some (.object "java/lang/StringBuilder")) :: ws) ({ frames := 4, cells := 0, slots := 0, locals := 73 } : Room)) (fun a U => a = #[(.ref a0), (.ref a1)] ∧ Z.Warmed39 U.vm ∧ U.heap = h0) (fun _ _ _ _ _ => True) (fun _ U o U' => ∃ v L, o = .returned v ∧ Q8 Z t_a0 c_a0 k_t_a0 fn_t_a0 t_a1 k_t_a1 n_t_a1 fn_t_a1 f_CS a0 a1 h0 n0 v U'.heap L ∧ FrameEnd U o U' L 0 0) := by
 refine MetFree.of_bodySF (plainFor_of_name pn_8) hisR ?_
 intro p e s m args below meth c s₁ Bd hml0 hP hK
 obtain ⟨rfl, hZ, hh⟩ := hP
 have hwd := fun i {d : Jvm.Cond} (h : tables_1[i]? = some d) => hw d (List.mem_of_getElem? h)
 have hx := Bd.exec
 have hby := Bd.bytes
 have hml : c.maxLocals = 2 := hml0
 have hlk : meth.locks = false := Bd.notSynchronized
 have hown : s.vm.findClass "java/lang/StringBuilder" = some m.cls := findClass_of_methodNamed Bd.named
 have hnm := (name_of_methodNamed Bd.named Bd.method).1
 have X0 : Stand p l e ({ frames := 4, cells := 0, slots := 0, locals := 73 } : Room) s m #[(.ref a0), (.ref a1)] below meth c s₁ [] 0 0 := Stand.of_body Bd
 have e0 : s₁.heap = h0 := by rw [← hh, Bd.state]; rfl
 have N0 := Fr.nil n0
 show own_Go p e below (own_Fin s 0 0 (Q8 Z t_a0 c_a0 k_t_a0 fn_t_a0 t_a1 k_t_a1 n_t_a1 fn_t_a1 f_CS a0 a1 h0 n0)) _
 refine own_by (fun t k => castTop (ef_8 m a0 a1) k) ?_
 show own_Go p e below _ (s₁.setTop (mkF m 0 #[vR a0, vR a1] []))
 refine own_by (fun _ k => XS.aloadN X0.here hx rfl (hb hby d8_0) rfl rfl k) ?_
 refine own_by (fun _ k => XS.aloadN X0.here hx rfl (hb hby d8_1) rfl rfl k) ?_
 obtain ⟨_, _, ⟨T1, L1, k1, n1⟩, -, X1, ⟨Lc1, hQ1, l1, y1, z1⟩, st1⟩ := superBack X0 hx hZ (y := (⟨"java/lang/AbstractStringBuilder", "append", "(Ljava/lang/String;)Ljava/lang/AbstractStringBuilder;"⟩ : MethodName)) hown (hwd 56 rfl) (own_same (hwd 57 rfl) (hwd 77 rfl) rfl (by decide)) (hwd 57 rfl) (hwd 58 rfl) (by decide) (backOf (W := 0) (rm9 l Z A0 hw [] t_a0 c_a0 k_t_a0 fn_t_a0 t_a1 k_t_a1 n_t_a1 fn_t_a1 f_CS a0 a1 h0 n0 Z0 P_E_a0 P_F_a0_coder P_F_a0_value P_F_a0_count P_V_t_a0 P_E_a1 P_F_a1_coder P_F_a1_value P_V_t_a1 P_S_CS hn_CS hp_1 hp_2 hp_3 hp_4 hp_5 g_t_a0 g_a0) hZ (hwd 60 rfl) (hwd 43 rfl) (by decide) (by decide)) e0 (Ins.self P_E_a0) (g := (mkF m 2 #[vR a0, vR a1] [(.ref a1), (.ref a0)])) rfl (by rw [hml]; rfl) (hwd 60 rfl) (argsL := [(.ref a1)]) (rest := []) (lenOf pd_56 rfl) rfl (by show 2 * 0 + _ ≤ _; exact Nat.le_of_eq rfl) (hb hby d8_2) (fun _ _ => ⟨rfl, e0, (by decide : 0 + 0 ≤ _), (by decide : 0 + 0 ≤ _)⟩)
 dsimp only [Pt.U, Pt.locs, Pt.cells, Pt.slots] at X1 l1 y1 z1 st1 hQ1
 subst l1 y1 z1
 obtain ⟨rfl, Nq1, Kq1, F2, F3, F4, F5, F6⟩ := hQ1
 have N1 := Fr.app N0 Nq1
 have K1 : Keep h0 T1.heap [a0, t_a0] := (Keep.refl h0 [a0, t_a0]).trans Kq1 ((allS (Or.inl (List.mem_of_getElem? (i := 1) rfl)) (allS (Or.inl (List.mem_of_getElem? (i := 0) rfl)) all0)))
 have Z1 : n0 ≤ T1.heap.size := Nat.le_trans Z0 Kq1.1
 refine own_by (fun _ k => st1.trans k) ?_
 show own_Go p e below _ (T1.setTop (mkF m 5 #[vR a0, vR a1] [(.ref a0)]))
 refine own_by (fun _ k => XS.pop X1.here hx rfl (hb hby d8_5) rfl rfl k) ?_
 show own_Go p e below _ (T1.setTop (mkF m 6 #[vR a0, vR a1] []))
 refine own_by (fun _ k => XS.aloadN X1.here hx rfl (hb hby d8_6) rfl rfl k) ?_
 exact own_retR X1 hx Bd.returns (by decide) rfl (hb hby d8_7) hlk rfl ⟨rfl, N1, K1, F3, F4, F5, F6, F2⟩ (by decide) (by decide)
theorem d19_0 : decode jdk_68_method_64_code 0 = .ok (.aload_n 0, 1) := by decide +kernel
theorem d19_1 : decode jdk_68_method_64_code 1 = .ok (.getfield 15, 3) := by decide +kernel
theorem d19_4 : decode jdk_68_method_64_code 4 = .ok (.areturn, 1) := by decide +kernel
theorem pn_19 : plainName "java/lang/AbstractStringBuilder" = true := by first | (simp [plainName, overriddenIn]; done) | decide +kernel
theorem ef_19 (m : MethodId) (a0 : Addr) : entryFrame m #[(.ref a0)] 1 = mkF m 0 #[vR a0] [] := by first | (simp [entryFrame, mkF, argsToLocals, Value.category]; done) | rfl
def Q19 (Z : State) (a0 : Addr) (f_a0_value : Addr) (h0 : Heap) (n0 : Nat) (v : Option Value) (h : Heap) (L : List Loc) : Prop := v = some (.ref f_a0_value) ∧ Fr n0 L ∧ h = h0
set_option maxRecDepth 65536 in
set_option maxHeartbeats 40000000 in
theorem rm19 (l : Launch) (Z : State) (A0 : Array Value) (hw : ∀ d ∈ tables_1, d.before A0 Z = true) (ws : List Jvm.Cond) (a0 : Addr) (f_a0_value : Addr) (h0 : Heap) (n0 : Nat) (Z0 : n0 ≤ h0.size) (P_F_a0_value : Fld Z h0 a0 "java/lang/AbstractStringBuilder" "value" "[B" (.ref f_a0_value)) :
    MetFree l (⟨"java/lang/AbstractStringBuilder", "getValue", "()[B"⟩ : MethodName) (head1 (Jvm.Cond.code (⟨"java/lang/AbstractStringBuilder", "getValue", "()[B"⟩ : MethodName) jdk_68_method_64_code 1 (some (.array .byte)) :: ws) ({ frames := 0, cells := 0, slots := 0, locals := 0 } : Room)) (fun a U => a = #[(.ref a0)] ∧ Z.Warmed39 U.vm ∧ U.heap = h0) (fun _ _ _ _ _ => True) (fun _ U o U' => ∃ v L, o = .returned v ∧ Q19 Z a0 f_a0_value h0 n0 v U'.heap L ∧ FrameEnd U o U' L 0 0) := by
 refine MetFree.of_bodySF (plainFor_of_name pn_19) hisR ?_
 intro p e s m args below meth c s₁ Bd hml0 hP hK
 obtain ⟨rfl, hZ, hh⟩ := hP
 have hwd := fun i {d : Jvm.Cond} (h : tables_1[i]? = some d) => hw d (List.mem_of_getElem? h)
 have hx := Bd.exec
 have hby := Bd.bytes
 have hml : c.maxLocals = 1 := hml0
 have hlk : meth.locks = false := Bd.notSynchronized
 have hown : s.vm.findClass "java/lang/AbstractStringBuilder" = some m.cls := findClass_of_methodNamed Bd.named
 have hnm := (name_of_methodNamed Bd.named Bd.method).1
 have X0 : Stand p l e ({ frames := 0, cells := 0, slots := 0, locals := 0 } : Room) s m #[(.ref a0)] below meth c s₁ [] 0 0 := Stand.of_body Bd
 have e0 : s₁.heap = h0 := by rw [← hh, Bd.state]; rfl
 have N0 := Fr.nil n0
 show own_Go p e below (own_Fin s 0 0 (Q19 Z a0 f_a0_value h0 n0)) _
 refine own_by (fun t k => castTop (ef_19 m a0) k) ?_
 show own_Go p e below _ (s₁.setTop (mkF m 0 #[vR a0] []))
 refine own_by (fun _ k => XS.aloadN X0.here hx rfl (hb hby d19_0) rfl rfl k) ?_
 obtain ⟨T1, X1, e1, st1⟩ := getF X0 hx hZ hown (host := "") (Or.inl (hwd 47 rfl)) Via.refl e0 P_F_a0_value (g := (mkF m 1 #[vR a0] [(.ref a0)])) rfl rfl (hb hby d19_1)
 refine own_by st1 ?_
 show own_Go p e below _ (T1.setTop (mkF m 4 #[vR a0] [(.ref f_a0_value)]))
 exact own_retR X1 hx Bd.returns (by decide) rfl (hb hby d19_4) hlk e1 ⟨rfl, N0, rfl⟩ (by decide) (by decide)
theorem d21_0 : decode jdk_68_method_6_code 0 = .ok (.aload_n 0, 1) := by decide +kernel
theorem d21_1 : decode jdk_68_method_6_code 1 = .ok (.getfield 79, 3) := by decide +kernel
theorem d21_4 : decode jdk_68_method_6_code 4 = .ok (.ireturn, 1) := by decide +kernel
theorem pn_21 : plainName "java/lang/AbstractStringBuilder" = true := by first | (simp [plainName, overriddenIn]; done) | decide +kernel
theorem ef_21 (m : MethodId) (a0 : Addr) : entryFrame m #[(.ref a0)] 1 = mkF m 0 #[vR a0] [] := by first | (simp [entryFrame, mkF, argsToLocals, Value.category]; done) | rfl
def Q21 (Z : State) (a0 : Addr) (f_a0_count : Int32) (h0 : Heap) (n0 : Nat) (v : Option Value) (h : Heap) (L : List Loc) : Prop := v = some (.int f_a0_count) ∧ Fr n0 L ∧ h = h0
set_option maxRecDepth 65536 in
set_option maxHeartbeats 40000000 in
theorem rm21 (l : Launch) (Z : State) (A0 : Array Value) (hw : ∀ d ∈ tables_1, d.before A0 Z = true) (ws : List Jvm.Cond) (a0 : Addr) (f_a0_count : Int32) (h0 : Heap) (n0 : Nat) (Z0 : n0 ≤ h0.size) (P_F_a0_count : Fld Z h0 a0 "java/lang/AbstractStringBuilder" "count" "I" (.int f_a0_count)) :
    MetFree l (⟨"java/lang/AbstractStringBuilder", "length", "()I"⟩ : MethodName) (head1 (Jvm.Cond.code (⟨"java/lang/AbstractStringBuilder", "length", "()I"⟩ : MethodName) jdk_68_method_6_code 1 (some .int) :: ws) ({ frames := 0, cells := 0, slots := 0, locals := 0 } : Room)) (fun a U => a = #[(.ref a0)] ∧ Z.Warmed39 U.vm ∧ U.heap = h0) (fun _ _ _ _ _ => True) (fun _ U o U' => ∃ v L, o = .returned v ∧ Q21 Z a0 f_a0_count h0 n0 v U'.heap L ∧ FrameEnd U o U' L 0 0) := by
 refine MetFree.of_bodySF (plainFor_of_name pn_21) hisR ?_
 intro p e s m args below meth c s₁ Bd hml0 hP hK
 obtain ⟨rfl, hZ, hh⟩ := hP
 have hwd := fun i {d : Jvm.Cond} (h : tables_1[i]? = some d) => hw d (List.mem_of_getElem? h)
 have hx := Bd.exec
 have hby := Bd.bytes
 have hml : c.maxLocals = 1 := hml0
 have hlk : meth.locks = false := Bd.notSynchronized
 have hown : s.vm.findClass "java/lang/AbstractStringBuilder" = some m.cls := findClass_of_methodNamed Bd.named
 have hnm := (name_of_methodNamed Bd.named Bd.method).1
 have X0 : Stand p l e ({ frames := 0, cells := 0, slots := 0, locals := 0 } : Room) s m #[(.ref a0)] below meth c s₁ [] 0 0 := Stand.of_body Bd
 have e0 : s₁.heap = h0 := by rw [← hh, Bd.state]; rfl
 have N0 := Fr.nil n0
 show own_Go p e below (own_Fin s 0 0 (Q21 Z a0 f_a0_count h0 n0)) _
 refine own_by (fun t k => castTop (ef_21 m a0) k) ?_
 show own_Go p e below _ (s₁.setTop (mkF m 0 #[vR a0] []))
 refine own_by (fun _ k => XS.aloadN X0.here hx rfl (hb hby d21_0) rfl rfl k) ?_
 obtain ⟨T1, X1, e1, st1⟩ := getF X0 hx hZ hown (host := "") (Or.inl (hwd 72 rfl)) Via.refl e0 P_F_a0_count (g := (mkF m 1 #[vR a0] [(.ref a0)])) rfl rfl (hb hby d21_1)
 refine own_by st1 ?_
 show own_Go p e below _ (T1.setTop (mkF m 4 #[vR a0] [(.int f_a0_count)]))
 exact own_retI X1 hx Bd.returns (hb hby d21_4) hlk e1 ⟨rfl, N0, rfl⟩ (by decide) (by decide)
theorem d20_0 : decode jdk_67_method_93_code 0 = .ok (.aload_n 0, 1) := by decide +kernel
theorem d20_1 : decode jdk_67_method_93_code 1 = .ok (.invokespecial 343, 3) := by decide +kernel
theorem d20_4 : decode jdk_67_method_93_code 4 = .ok (.ireturn, 1) := by decide +kernel
theorem pn_20 : plainName "java/lang/StringBuilder" = true := by first | (simp [plainName, overriddenIn]; done) | decide +kernel
theorem ef_20 (m : MethodId) (a0 : Addr) : entryFrame m #[(.ref a0)] 1 = mkF m 0 #[vR a0] [] := by first | (simp [entryFrame, mkF, argsToLocals, Value.category]; done) | rfl
def Q20 (Z : State) (a0 : Addr) (f_a0_count : Int32) (h0 : Heap) (n0 : Nat) (v : Option Value) (h : Heap) (L : List Loc) : Prop := v = some (.int f_a0_count) ∧ Fr n0 L ∧ h = h0
set_option maxRecDepth 65536 in
set_option maxHeartbeats 40000000 in
theorem rm20 (l : Launch) (Z : State) (A0 : Array Value) (hw : ∀ d ∈ tables_1, d.before A0 Z = true) (ws : List Jvm.Cond) (a0 : Addr) (f_a0_count : Int32) (h0 : Heap) (n0 : Nat) (Z0 : n0 ≤ h0.size) (P_E_a0 : Exa Z h0 a0 "java/lang/StringBuilder") (P_F_a0_count : Fld Z h0 a0 "java/lang/AbstractStringBuilder" "count" "I" (.int f_a0_count)) :
    MetFree l (⟨"java/lang/StringBuilder", "length", "()I"⟩ : MethodName) (head1 (Jvm.Cond.code (⟨"java/lang/StringBuilder", "length", "()I"⟩ : MethodName) jdk_67_method_93_code 1 (some .int) :: ws) ({ frames := 1, cells := 0, slots := 0, locals := 12 } : Room)) (fun a U => a = #[(.ref a0)] ∧ Z.Warmed39 U.vm ∧ U.heap = h0) (fun _ _ _ _ _ => True) (fun _ U o U' => ∃ v L, o = .returned v ∧ Q20 Z a0 f_a0_count h0 n0 v U'.heap L ∧ FrameEnd U o U' L 0 0) := by
 refine MetFree.of_bodySF (plainFor_of_name pn_20) hisR ?_
 intro p e s m args below meth c s₁ Bd hml0 hP hK
 obtain ⟨rfl, hZ, hh⟩ := hP
 have hwd := fun i {d : Jvm.Cond} (h : tables_1[i]? = some d) => hw d (List.mem_of_getElem? h)
 have hx := Bd.exec
 have hby := Bd.bytes
 have hml : c.maxLocals = 1 := hml0
 have hlk : meth.locks = false := Bd.notSynchronized
 have hown : s.vm.findClass "java/lang/StringBuilder" = some m.cls := findClass_of_methodNamed Bd.named
 have hnm := (name_of_methodNamed Bd.named Bd.method).1
 have X0 : Stand p l e ({ frames := 1, cells := 0, slots := 0, locals := 12 } : Room) s m #[(.ref a0)] below meth c s₁ [] 0 0 := Stand.of_body Bd
 have e0 : s₁.heap = h0 := by rw [← hh, Bd.state]; rfl
 have N0 := Fr.nil n0
 show own_Go p e below (own_Fin s 0 0 (Q20 Z a0 f_a0_count h0 n0)) _
 refine own_by (fun t k => castTop (ef_20 m a0) k) ?_
 show own_Go p e below _ (s₁.setTop (mkF m 0 #[vR a0] []))
 refine own_by (fun _ k => XS.aloadN X0.here hx rfl (hb hby d20_0) rfl rfl k) ?_
 obtain ⟨_, _, ⟨T1, L1, k1, n1⟩, -, X1, ⟨Lc1, hQ1, l1, y1, z1⟩, st1⟩ := superBack X0 hx hZ (y := (⟨"java/lang/AbstractStringBuilder", "length", "()I"⟩ : MethodName)) hown (hwd 123 rfl) (own_same (hwd 119 rfl) (hwd 77 rfl) rfl (by decide)) (hwd 119 rfl) (hwd 58 rfl) (by decide) (backOf (W := 0) (rm21 l Z A0 hw [] a0 f_a0_count h0 n0 Z0 P_F_a0_count) hZ (hwd 124 rfl) (hwd 43 rfl) (by decide) (by decide)) e0 (Ins.self P_E_a0) (g := (mkF m 1 #[vR a0] [(.ref a0)])) rfl (by rw [hml]; rfl) (hwd 124 rfl) (argsL := []) (rest := []) (lenOf pd_61 rfl) rfl (by show 2 * 0 + _ ≤ _; exact Nat.le_of_eq rfl) (hb hby d20_1) (fun _ _ => ⟨rfl, e0, (by decide : 0 + 0 ≤ _), (by decide : 0 + 0 ≤ _)⟩)
 dsimp only [Pt.U, Pt.locs, Pt.cells, Pt.slots] at X1 l1 y1 z1 st1 hQ1
 subst l1 y1 z1
 obtain ⟨rfl, Nq1, eq1⟩ := hQ1
 have N1 := Fr.app N0 Nq1
 refine own_by (fun _ k => st1.trans k) ?_
 show own_Go p e below _ (T1.setTop (mkF m 4 #[vR a0] [(.int f_a0_count)]))
 exact own_retI X1 hx Bd.returns (hb hby d20_4) hlk eq1 ⟨rfl, N1, rfl⟩ (by decide) (by decide)
theorem d22_0 : decode jdk_68_method_68_code 0 = .ok (.getstatic 18, 3) := by decide +kernel
theorem d22_3 : decode jdk_68_method_68_code 3 = .ok (.ifCond .eq 14, 3) := by decide +kernel
theorem d22_6 : decode jdk_68_method_68_code 6 = .ok (.aload_n 0, 1) := by decide +kernel
theorem d22_7 : decode jdk_68_method_68_code 7 = .ok (.getfield 22, 3) := by decide +kernel
theorem d22_10 : decode jdk_68_method_68_code 10 = .ok (.ifCond .ne 7, 3) := by decide +kernel
theorem d22_13 : decode jdk_68_method_68_code 13 = .ok (.iconst 1, 1) := by decide +kernel
theorem d22_14 : decode jdk_68_method_68_code 14 = .ok (.goto 4, 3) := by decide +kernel
theorem d22_18 : decode jdk_68_method_68_code 18 = .ok (.ireturn, 1) := by decide +kernel
theorem pn_22 : plainName "java/lang/AbstractStringBuilder" = true := by first | (simp [plainName, overriddenIn]; done) | decide +kernel
theorem ef_22 (m : MethodId) (a0 : Addr) : entryFrame m #[(.ref a0)] 1 = mkF m 0 #[vR a0] [] := by first | (simp [entryFrame, mkF, argsToLocals, Value.category]; done) | rfl
def Q22 (Z : State) (f_CS : Int32) (a0 : Addr) (h0 : Heap) (n0 : Nat) (v : Option Value) (h : Heap) (L : List Loc) : Prop := v = some (.int (1 : Int32)) ∧ Fr n0 L ∧ h = h0
set_option maxRecDepth 65536 in
set_option maxHeartbeats 40000000 in
theorem rm22 (l : Launch) (Z : State) (A0 : Array Value) (hw : ∀ d ∈ tables_1, d.before A0 Z = true) (ws : List Jvm.Cond) (f_CS : Int32) (a0 : Addr) (h0 : Heap) (n0 : Nat) (Z0 : n0 ≤ h0.size) (P_E_a0 : Exa Z h0 a0 "java/lang/StringBuilder") (P_F_a0_coder : Fld Z h0 a0 "java/lang/AbstractStringBuilder" "coder" "B" (.int (0 : Int32))) (P_S_CS : Sta Z h0 "java/lang/String" "COMPACT_STRINGS" "Z" (.int f_CS)) (hn_CS : ¬ (f_CS = (0 : Int32))) :
    MetFree l (⟨"java/lang/AbstractStringBuilder", "isLatin1", "()Z"⟩ : MethodName) (head1 (Jvm.Cond.code (⟨"java/lang/AbstractStringBuilder", "isLatin1", "()Z"⟩ : MethodName) jdk_68_method_68_code 1 (some .boolean) :: ws) ({ frames := 0, cells := 0, slots := 0, locals := 0 } : Room)) (fun a U => a = #[(.ref a0)] ∧ Z.Warmed39 U.vm ∧ U.heap = h0) (fun _ _ _ _ _ => True) (fun _ U o U' => ∃ v L, o = .returned v ∧ Q22 Z f_CS a0 h0 n0 v U'.heap L ∧ FrameEnd U o U' L 0 0) := by
 refine MetFree.of_bodySF (plainFor_of_name pn_22) hisR ?_
 intro p e s m args below meth c s₁ Bd hml0 hP hK
 obtain ⟨rfl, hZ, hh⟩ := hP
 have hwd := fun i {d : Jvm.Cond} (h : tables_1[i]? = some d) => hw d (List.mem_of_getElem? h)
 have hx := Bd.exec
 have hby := Bd.bytes
 have hml : c.maxLocals = 1 := hml0
 have hlk : meth.locks = false := Bd.notSynchronized
 have hown : s.vm.findClass "java/lang/AbstractStringBuilder" = some m.cls := findClass_of_methodNamed Bd.named
 have hnm := (name_of_methodNamed Bd.named Bd.method).1
 have X0 : Stand p l e ({ frames := 0, cells := 0, slots := 0, locals := 0 } : Room) s m #[(.ref a0)] below meth c s₁ [] 0 0 := Stand.of_body Bd
 have e0 : s₁.heap = h0 := by rw [← hh, Bd.state]; rfl
 have N0 := Fr.nil n0
 show own_Go p e below (own_Fin s 0 0 (Q22 Z f_CS a0 h0 n0)) _
 refine own_by (fun t k => castTop (ef_22 m a0) k) ?_
 show own_Go p e below _ (s₁.setTop (mkF m 0 #[vR a0] []))
 obtain ⟨T1, X1, e1, st1⟩ := getS2 X0 hx hZ hown (host := "") (Or.inl (hwd 46 rfl)) Via.refl e0 P_S_CS (g := (mkF m 0 #[vR a0] [])) rfl (hb hby d22_0)
 refine own_by st1 ?_
 show own_Go p e below _ (T1.setTop (mkF m 3 #[vR a0] [(.int f_CS)]))
 refine own_by (fun _ k => XS.ifNo X1.here hx rfl (hb hby d22_3) rfl ((if0 _ _).trans (feq hn_CS).1) k) ?_
 show own_Go p e below _ (T1.setTop (mkF m 6 #[vR a0] []))
 refine own_by (fun _ k => XS.aloadN X1.here hx rfl (hb hby d22_6) rfl rfl k) ?_
 obtain ⟨T2, X2, e2, st2⟩ := getF X1 hx hZ hown (host := "") (Or.inl (hwd 49 rfl)) Via.refl e1 P_F_a0_coder (g := (mkF m 7 #[vR a0] [(.ref a0)])) rfl rfl (hb hby d22_7)
 refine own_by st2 ?_
 show own_Go p e below _ (T2.setTop (mkF m 10 #[vR a0] [(.int (0 : Int32))]))
 refine own_by (fun _ k => XS.ifNo X2.here hx rfl (hb hby d22_10) rfl ((if0 _ _).trans (teq (by decide : (0 : Int32) = (0 : Int32))).2) k) ?_
 show own_Go p e below _ (T2.setTop (mkF m 13 #[vR a0] []))
 refine own_by (fun _ k => XS.iconst X2.here hx rfl (hb hby d22_13) k) ?_
 refine own_by (fun _ k => XS.goto X2.here hx rfl (pc0 := 14) (pc' := 18) rfl (hb hby d22_14) (by decide) (by decide) k) ?_
 show own_Go p e below _ (T2.setTop (mkF m 18 #[vR a0] [(.int (1 : Int32))]))
 exact own_retN X2 hx (t := .boolean) Bd.returns (by simp) (hb hby d22_18) hlk e2 ⟨rfl, N0, rfl⟩ (by decide) (by decide)
theorem d25_0 : decode jdk_65_method_131_code 0 = .ok (.iload_n 1, 1) := by decide +kernel
theorem d25_1 : decode jdk_65_method_131_code 1 = .ok (.iload_n 0, 1) := by decide +kernel
theorem d25_2 : decode jdk_65_method_131_code 2 = .ok (.if_icmp .ge 35, 3) := by decide +kernel
theorem d25_37 : decode jdk_65_method_131_code 37 = .ok (.return_, 1) := by decide +kernel
theorem pn_chk : plainName "java/util/Arrays" = true := by first | (simp [plainName, overriddenIn]; done) | decide +kernel
theorem ef_chk (m : MethodId) (p1 : Int32) : entryFrame m #[(.int (0 : Int32)), (.int p1)] 2 = mkF m 0 #[vI (0 : Int32), vI p1] [] := by first | (simp [entryFrame, mkF, argsToLocals, Value.category]; done) | rfl
def Qchk (Z : State) (p1 : Int32) (h0 : Heap) (n0 : Nat) (v : Option Value) (h : Heap) (L : List Loc) : Prop := v = none ∧ Fr n0 L ∧ h = h0
set_option maxRecDepth 65536 in
set_option maxHeartbeats 40000000 in
theorem rmchk (l : Launch) (Z : State) (A0 : Array Value) (hw : ∀ d ∈ tables_1, d.before A0 Z = true) (ws : List Jvm.Cond) (p1 : Int32) (h0 : Heap) (n0 : Nat) (Z0 : n0 ≤ h0.size) (hc2 : ¬ (p1 < (0 : Int32))) :
    MetFree l (⟨"java/util/Arrays", "checkLength", "(II)V"⟩ : MethodName) (head1 (Jvm.Cond.code (⟨"java/util/Arrays", "checkLength", "(II)V"⟩ : MethodName) jdk_65_method_131_code 2 none :: ws) ({ frames := 0, cells := 0, slots := 0, locals := 0 } : Room)) (fun a U => a = #[(.int (0 : Int32)), (.int p1)] ∧ Z.Warmed39 U.vm ∧ U.heap = h0) (fun _ _ _ _ _ => True) (fun _ U o U' => ∃ v L, o = .returned v ∧ Qchk Z p1 h0 n0 v U'.heap L ∧ FrameEnd U o U' L 0 0) := by
 refine MetFree.of_bodySF (plainFor_of_name pn_chk) hisR ?_
 intro p e s m args below meth c s₁ Bd hml0 hP hK
 obtain ⟨rfl, hZ, hh⟩ := hP
 have hwd := fun i {d : Jvm.Cond} (h : tables_1[i]? = some d) => hw d (List.mem_of_getElem? h)
 have hx := Bd.exec
 have hby := Bd.bytes
 have hml : c.maxLocals = 2 := hml0
 have hlk : meth.locks = false := Bd.notSynchronized
 have hown : s.vm.findClass "java/util/Arrays" = some m.cls := findClass_of_methodNamed Bd.named
 have hnm := (name_of_methodNamed Bd.named Bd.method).1
 have X0 : Stand p l e ({ frames := 0, cells := 0, slots := 0, locals := 0 } : Room) s m #[(.int (0 : Int32)), (.int p1)] below meth c s₁ [] 0 0 := Stand.of_body Bd
 have e0 : s₁.heap = h0 := by rw [← hh, Bd.state]; rfl
 have N0 := Fr.nil n0
 show own_Go p e below (own_Fin s 0 0 (Qchk Z p1 h0 n0)) _
 refine own_by (fun t k => castTop (ef_chk m p1) k) ?_
 show own_Go p e below _ (s₁.setTop (mkF m 0 #[vI (0 : Int32), vI p1] []))
 refine own_by (fun _ k => XS.iloadN X0.here hx rfl (hb hby d25_0) rfl k) ?_
 refine own_by (fun _ k => XS.iloadN X0.here hx rfl (hb hby d25_1) rfl k) ?_
 refine own_by (fun _ k => XS.icmpYes X0.here hx rfl (pc0 := 2) (pc' := 37) rfl (hb hby d25_2) rfl (flt hc2).2.1 (by decide) (by decide) k) ?_
 show own_Go p e below _ (s₁.setTop (mkF m 37 #[vI (0 : Int32), vI p1] []))
 exact own_ret0 X0 hx Bd.returns (hb hby d25_37) hlk e0 ⟨rfl, N0, rfl⟩ (by decide) (by decide)
theorem d26_0 : decode jdk_29_method_69_code 0 = .ok (.iload_n 0, 1) := by decide +kernel
theorem d26_1 : decode jdk_29_method_69_code 1 = .ok (.iload_n 1, 1) := by decide +kernel
theorem d26_2 : decode jdk_29_method_69_code 2 = .ok (.if_icmp .gt 7, 3) := by decide +kernel
theorem d26_9 : decode jdk_29_method_69_code 9 = .ok (.iload_n 1, 1) := by decide +kernel
theorem d26_10 : decode jdk_29_method_69_code 10 = .ok (.ireturn, 1) := by decide +kernel
theorem ef_min16 (m : MethodId) (p1 : Int32) : entryFrame m #[(.int (16 : Int32)), (.int p1)] 2 = mkF m 0 #[vI (16 : Int32), vI p1] [] := by first | (simp [entryFrame, mkF, argsToLocals, Value.category]; done) | rfl
def Qmin16 (Z : State) (p1 : Int32) (h0 : Heap) (n0 : Nat) (v : Option Value) (h : Heap) (L : List Loc) : Prop := v = some (.int p1) ∧ Fr n0 L ∧ h = h0
set_option maxRecDepth 65536 in
set_option maxHeartbeats 40000000 in
theorem rmmin16 (l : Launch) (Z : State) (A0 : Array Value) (hw : ∀ d ∈ tables_1, d.before A0 Z = true) (ws : List Jvm.Cond) (p1 : Int32) (h0 : Heap) (n0 : Nat) (Z0 : n0 ≤ h0.size) (ha2 : p1 < (16 : Int32)) :
    MetFree l (⟨"java/lang/Math", "min", "(II)I"⟩ : MethodName) (head1 (Jvm.Cond.code (⟨"java/lang/Math", "min", "(II)I"⟩ : MethodName) jdk_29_method_69_code 2 (some .int) :: ws) ({ frames := 0, cells := 0, slots := 0, locals := 0 } : Room)) (fun a U => a = #[(.int (16 : Int32)), (.int p1)] ∧ Z.Warmed39 U.vm ∧ U.heap = h0) (fun _ _ _ _ _ => True) (fun _ U o U' => ∃ v L, o = .returned v ∧ Qmin16 Z p1 h0 n0 v U'.heap L ∧ FrameEnd U o U' L 0 0) := by
 refine MetFree.of_bodySF (Jvm.Free.JP.mathPlain rfl (by decide +kernel)) hisR ?_
 intro p e s m args below meth c s₁ Bd hml0 hP hK
 obtain ⟨rfl, hZ, hh⟩ := hP
 have hwd := fun i {d : Jvm.Cond} (h : tables_1[i]? = some d) => hw d (List.mem_of_getElem? h)
 have hx := Bd.exec
 have hby := Bd.bytes
 have hml : c.maxLocals = 2 := hml0
 have hlk : meth.locks = false := Bd.notSynchronized
 have hown : s.vm.findClass "java/lang/Math" = some m.cls := findClass_of_methodNamed Bd.named
 have hnm := (name_of_methodNamed Bd.named Bd.method).1
 have X0 : Stand p l e ({ frames := 0, cells := 0, slots := 0, locals := 0 } : Room) s m #[(.int (16 : Int32)), (.int p1)] below meth c s₁ [] 0 0 := Stand.of_body Bd
 have e0 : s₁.heap = h0 := by rw [← hh, Bd.state]; rfl
 have N0 := Fr.nil n0
 show own_Go p e below (own_Fin s 0 0 (Qmin16 Z p1 h0 n0)) _
 refine own_by (fun t k => castTop (ef_min16 m p1) k) ?_
 show own_Go p e below _ (s₁.setTop (mkF m 0 #[vI (16 : Int32), vI p1] []))
 refine own_by (fun _ k => XS.iloadN X0.here hx rfl (hb hby d26_0) rfl k) ?_
 refine own_by (fun _ k => XS.iloadN X0.here hx rfl (hb hby d26_1) rfl k) ?_
 refine own_by (fun _ k => XS.icmpYes X0.here hx rfl (pc0 := 2) (pc' := 9) rfl (hb hby d26_2) rfl (tlt ha2).2.2.1 (by decide) (by decide) k) ?_
 show own_Go p e below _ (s₁.setTop (mkF m 9 #[vI (16 : Int32), vI p1] []))
 refine own_by (fun _ k => XS.iloadN X0.here hx rfl (hb hby d26_9) rfl k) ?_
 exact own_retI X0 hx Bd.returns (hb hby d26_10) hlk e0 ⟨rfl, N0, rfl⟩ (by decide) (by decide)
theorem pd_140 : parseMethodDescriptor "(II)I" = some ⟨[.int, .int], some .int⟩ := by decide +kernel
theorem d24_0 : decode jdk_65_method_133_code 0 = .ok (.iload_n 1, 1) := by decide +kernel
theorem d24_1 : decode jdk_65_method_133_code 1 = .ok (.iload_n 2, 1) := by decide +kernel
theorem d24_2 : decode jdk_65_method_133_code 2 = .ok (.invokestatic 343, 3) := by decide +kernel
theorem d24_5 : decode jdk_65_method_133_code 5 = .ok (.iload_n 2, 1) := by decide +kernel
theorem d24_6 : decode jdk_65_method_133_code 6 = .ok (.iload_n 1, 1) := by decide +kernel
theorem d24_7 : decode jdk_65_method_133_code 7 = .ok (.isub, 1) := by decide +kernel
theorem d24_8 : decode jdk_65_method_133_code 8 = .ok (.istore_n 3, 1) := by decide +kernel
theorem d24_9 : decode jdk_65_method_133_code 9 = .ok (.iload_n 3, 1) := by decide +kernel
theorem d24_10 : decode jdk_65_method_133_code 10 = .ok (.newarray .byte, 2) := by decide +kernel
theorem d24_12 : decode jdk_65_method_133_code 12 = .ok (.astore 4, 2) := by decide +kernel
theorem d24_14 : decode jdk_65_method_133_code 14 = .ok (.aload_n 0, 1) := by decide +kernel
theorem d24_15 : decode jdk_65_method_133_code 15 = .ok (.iload_n 1, 1) := by decide +kernel
theorem d24_16 : decode jdk_65_method_133_code 16 = .ok (.aload 4, 2) := by decide +kernel
theorem d24_18 : decode jdk_65_method_133_code 18 = .ok (.iconst 0, 1) := by decide +kernel
theorem d24_19 : decode jdk_65_method_133_code 19 = .ok (.aload_n 0, 1) := by decide +kernel
theorem d24_20 : decode jdk_65_method_133_code 20 = .ok (.arraylength, 1) := by decide +kernel
theorem d24_21 : decode jdk_65_method_133_code 21 = .ok (.iload_n 1, 1) := by decide +kernel
theorem d24_22 : decode jdk_65_method_133_code 22 = .ok (.isub, 1) := by decide +kernel
theorem d24_23 : decode jdk_65_method_133_code 23 = .ok (.iload_n 3, 1) := by decide +kernel
theorem d24_24 : decode jdk_65_method_133_code 24 = .ok (.invokestatic 304, 3) := by decide +kernel
theorem d24_27 : decode jdk_65_method_133_code 27 = .ok (.invokestatic 150, 3) := by decide +kernel
theorem d24_30 : decode jdk_65_method_133_code 30 = .ok (.aload 4, 2) := by decide +kernel
theorem d24_32 : decode jdk_65_method_133_code 32 = .ok (.areturn, 1) := by decide +kernel
theorem pn_cob : plainName "java/util/Arrays" = true := by first | (simp [plainName, overriddenIn]; done) | decide +kernel
theorem ef_cob (m : MethodId) (a0 : Addr) (p2 : Int32) : entryFrame m #[(.ref a0), (.int (0 : Int32)), (.int p2)] 5 = mkF m 0 #[vR a0, vI (0 : Int32), vI p2, .unset, .unset] [] := by first | (simp [entryFrame, mkF, argsToLocals, Value.category]; done) | rfl
def Qcob (Z : State) (k_a0 : ClassId) (fn_a0 : Nat → Int32) (a0 : Addr) (p2 : Int32) (h0 : Heap) (n0 : Nat) (v : Option Value) (h : Heap) (L : List Loc) : Prop := ∃ (b2 : Addr) (k2 : ClassId), v = some (.ref b2) ∧ Fr n0 L ∧ Keep h0 h [] ∧ (n0 ≤ b2) ∧ (h0.size ≤ b2) ∧ own_Arf Z h b2 k2 .byte p2 (fun i => .int ((own_cp fn_a0 0 (fun _ => (0 : Int32)) 0 (p2).toNatClampNeg) i))
set_option maxRecDepth 65536 in
set_option maxHeartbeats 40000000 in
theorem rmcob (l : Launch) (Z : State) (A0 : Array Value) (hw : ∀ d ∈ tables_1, d.before A0 Z = true) (ws : List Jvm.Cond) (k_a0 : ClassId) (fn_a0 : Nat → Int32) (a0 : Addr) (p2 : Int32) (h0 : Heap) (n0 : Nat) (Z0 : n0 ≤ h0.size) (P_V_a0 : own_Arf Z h0 a0 k_a0 .byte (16 : Int32) (fun i => .int (fn_a0 i))) (hp_0 : ¬ (p2 < (0 : Int32))) (hp_1 : (p2).toNatClampNeg ≤ 16) (hp_2 : p2 < (16 : Int32)) (hp_3 : ¬ p2 < 0) (hp_4 : ((0 : Int32)).toNatClampNeg + (p2).toNatClampNeg ≤ ((16 : Int32)).toNatClampNeg) (hp_5 : ((0 : Int32)).toNatClampNeg + (p2).toNatClampNeg ≤ (p2).toNatClampNeg) :
    MetFree l (⟨"java/util/Arrays", "copyOfRangeByte", "([BII)[B"⟩ : MethodName) (head1 (Jvm.Cond.code (⟨"java/util/Arrays", "copyOfRangeByte", "([BII)[B"⟩ : MethodName) jdk_65_method_133_code 5 (some (.array .byte)) :: ws) ({ frames := 1, cells := 1, slots := 16, locals := 30 } : Room)) (fun a U => a = #[(.ref a0), (.int (0 : Int32)), (.int p2)] ∧ Z.Warmed39 U.vm ∧ U.heap = h0) (fun _ _ _ _ _ => True) (fun _ U o U' => ∃ v L, o = .returned v ∧ Qcob Z k_a0 fn_a0 a0 p2 h0 n0 v U'.heap L ∧ FrameEnd U o U' L 1 16) := by
 refine MetFree.of_bodySF (plainFor_of_name pn_cob) hisR ?_
 intro p e s m args below meth c s₁ Bd hml0 hP hK
 obtain ⟨rfl, hZ, hh⟩ := hP
 have hwd := fun i {d : Jvm.Cond} (h : tables_1[i]? = some d) => hw d (List.mem_of_getElem? h)
 have hx := Bd.exec
 have hby := Bd.bytes
 have hml : c.maxLocals = 5 := hml0
 have hlk : meth.locks = false := Bd.notSynchronized
 have hown : s.vm.findClass "java/util/Arrays" = some m.cls := findClass_of_methodNamed Bd.named
 have hnm := (name_of_methodNamed Bd.named Bd.method).1
 have X0 : Stand p l e ({ frames := 1, cells := 1, slots := 16, locals := 30 } : Room) s m #[(.ref a0), (.int (0 : Int32)), (.int p2)] below meth c s₁ [] 0 0 := Stand.of_body Bd
 have e0 : s₁.heap = h0 := by rw [← hh, Bd.state]; rfl
 have N0 := Fr.nil n0
 show own_Go p e below (own_Fin s 1 16 (Qcob Z k_a0 fn_a0 a0 p2 h0 n0)) _
 refine own_by (fun t k => castTop (ef_cob m a0 p2) k) ?_
 show own_Go p e below _ (s₁.setTop (mkF m 0 #[vR a0, vI (0 : Int32), vI p2, .unset, .unset] []))
 refine own_by (fun _ k => XS.iloadN X0.here hx rfl (hb hby d24_0) rfl k) ?_
 refine own_by (fun _ k => XS.iloadN X0.here hx rfl (hb hby d24_1) rfl k) ?_
 obtain ⟨_, _, ⟨T1, L1, k1, n1⟩, -, X1, ⟨Lc1, hQ1, l1, y1, z1⟩, st1⟩ := Jvm.LawKit.callS X0 hx (y := (⟨"java/util/Arrays", "checkLength", "(II)V"⟩ : MethodName)) hown (mvT hZ (hwd 137 rfl)) (mvT hZ (hwd 138 rfl)) (mvT hZ (hwd 132 rfl)) (mvT hZ (hwd 139 rfl)) (by decide) (backOf (W := 0) (rmchk l Z A0 hw [] p2 h0 n0 Z0 hp_0) hZ (hwd 139 rfl) (hwd 132 rfl) (by decide) (by decide)) (g := (mkF m 2 #[vR a0, vI (0 : Int32), vI p2, .unset, .unset] [(.int p2), (.int (0 : Int32))])) rfl (by rw [hml]; rfl) (argsL := [(.int (0 : Int32)), (.int p2)]) (rest := []) (lenOf pd_137 rfl) rfl (by show 2 * 0 + _ ≤ _; exact Nat.le_of_eq rfl) (hb hby d24_2) (fun _ _ => ⟨rfl, e0, (by decide : 0 + 0 ≤ _), (by decide : 0 + 0 ≤ _)⟩)
 dsimp only [Pt.U, Pt.locs, Pt.cells, Pt.slots] at X1 l1 y1 z1 st1 hQ1
 subst l1 y1 z1
 obtain ⟨rfl, Nq1, eq1⟩ := hQ1
 have N1 := Fr.app N0 Nq1
 refine own_by st1 ?_
 show own_Go p e below _ (T1.setTop (mkF m 5 #[vR a0, vI (0 : Int32), vI p2, .unset, .unset] []))
 refine own_by (fun _ k => XS.iloadN X1.here hx rfl (hb hby d24_5) rfl k) ?_
 refine own_by (fun _ k => XS.iloadN X1.here hx rfl (hb hby d24_6) rfl k) ?_
 refine own_by (fun _ k => XS.isub X1.here hx rfl (hb hby d24_7) rfl k) ?_
 show own_Go p e below _ (T1.setTop (mkF m 8 #[vR a0, vI (0 : Int32), vI p2, .unset, .unset] [(.int (p2 - (0 : Int32)))]))
 rw [own_isub0]
 show own_Go p e below _ (T1.setTop (mkF m 8 #[vR a0, vI (0 : Int32), vI p2, .unset, .unset] [(.int p2)]))
 refine own_by (fun _ k => XS.istoreN X1.here hx rfl (hb hby d24_8) rfl (l' := #[vR a0, vI (0 : Int32), vI p2, vI p2, .unset]) rfl k) ?_
 show own_Go p e below _ (T1.setTop (mkF m 9 #[vR a0, vI (0 : Int32), vI p2, vI p2, .unset] []))
 refine own_by (fun _ k => XS.iloadN X1.here hx rfl (hb hby d24_9) rfl k) ?_
 obtain ⟨T2, h2, k2, X2, e2, E2, A2, st2⟩ := newP X1 hx hZ (hwd 19 rfl) eq1 (g := (mkF m 10 #[vR a0, vI (0 : Int32), vI p2, vI p2, .unset] [(.int p2)])) rfl (hb hby d24_10) rfl hp_0 (cap := 16) hp_1 (by decide) (by decide) (by decide)
 obtain ⟨b2, g2⟩ : ∃ z, z = h0.size := ⟨_, rfl⟩
 have ge_b2 : n0 ≤ b2 := Nat.le_trans Z0 (Nat.le_of_eq g2.symm)
 have sz_b2 : h0.size ≤ b2 := Nat.le_trans (Keep.refl h0 []).1 (Nat.le_of_eq g2.symm)
 have K2 : Keep h0 h2 [] := (Keep.refl h0 []).ext E2
 have Z2 : n0 ≤ h2.size := Nat.le_trans Z0 E2.1
 rw [← g2] at A2 st2
 have V2 : own_Arf Z h2 b2 k2 .byte p2 (fun i => .int ((fun _ => (0 : Int32)) i)) := own_arfNew A2 hp_0
 refine own_by st2 ?_
 show own_Go p e below _ (T2.setTop (mkF m 12 #[vR a0, vI (0 : Int32), vI p2, vI p2, .unset] [(.ref b2)]))
 refine own_by (fun _ k => XS.astore X2.here hx rfl (hb hby d24_12) rfl rfl (l' := #[vR a0, vI (0 : Int32), vI p2, vI p2, vR b2]) rfl k) ?_
 show own_Go p e below _ (T2.setTop (mkF m 14 #[vR a0, vI (0 : Int32), vI p2, vI p2, vR b2] []))
 refine own_by (fun _ k => XS.aloadN X2.here hx rfl (hb hby d24_14) rfl rfl k) ?_
 refine own_by (fun _ k => XS.iloadN X2.here hx rfl (hb hby d24_15) rfl k) ?_
 refine own_by (fun _ k => XS.aload X2.here hx rfl (hb hby d24_16) rfl rfl k) ?_
 refine own_by (fun _ k => XS.iconst X2.here hx rfl (hb hby d24_18) k) ?_
 refine own_by (fun _ k => XS.aloadN X2.here hx rfl (hb hby d24_19) rfl rfl k) ?_
 have F3 : own_Arf Z h2 a0 k_a0 .byte (16 : Int32) (fun i => .int (fn_a0 i)) := (P_V_a0.ext E2)
 obtain ⟨cl4, Ar4, qq4, S4, M4, H4, G4⟩ := id F3
 refine own_by (fun t k => X2.arraylength hx (by rw [e2]; exact Ar4.1) (State.isArrayOf_alike hZ.alike Ar4.2.1) (g := (mkF m 20 #[vR a0, vI (0 : Int32), vI p2, vI p2, vR b2] [(.ref a0), (.int (0 : Int32)), (.ref b2), (.int (0 : Int32)), (.ref a0)])) rfl rfl (hb hby d24_20) _ k) ?_
 rw [len_of S4 M4]
 show own_Go p e below _ (T2.setTop (mkF m 21 #[vR a0, vI (0 : Int32), vI p2, vI p2, vR b2] [(.int (16 : Int32)), (.int (0 : Int32)), (.ref b2), (.int (0 : Int32)), (.ref a0)]))
 refine own_by (fun _ k => XS.iloadN X2.here hx rfl (hb hby d24_21) rfl k) ?_
 refine own_by (fun _ k => XS.isub X2.here hx rfl (hb hby d24_22) rfl k) ?_
 show own_Go p e below _ (T2.setTop (mkF m 23 #[vR a0, vI (0 : Int32), vI p2, vI p2, vR b2] [(.int (16 : Int32)), (.int (0 : Int32)), (.ref b2), (.int (0 : Int32)), (.ref a0)]))
 refine own_by (fun _ k => XS.iloadN X2.here hx rfl (hb hby d24_23) rfl k) ?_
 obtain ⟨_, _, ⟨T5, L5, k5, n5⟩, -, X5, ⟨Lc5, hQ5, l5, y5, z5⟩, st5⟩ := Jvm.LawKit.callS X2 hx (y := (⟨"java/lang/Math", "min", "(II)I"⟩ : MethodName)) hown (mvT hZ (hwd 140 rfl)) (mvT hZ (hwd 141 rfl)) (mvT hZ (hwd 142 rfl)) (mvT hZ (hwd 143 rfl)) (by decide) (backOf (W := 4) (rmmin16 l Z A0 hw [] p2 h2 n0 Z2 hp_2) hZ (hwd 143 rfl) (hwd 142 rfl) (by decide) (by decide)) (g := (mkF m 24 #[vR a0, vI (0 : Int32), vI p2, vI p2, vR b2] [(.int p2), (.int (16 : Int32)), (.int (0 : Int32)), (.ref b2), (.int (0 : Int32)), (.ref a0)])) rfl (by rw [hml]; rfl) (argsL := [(.int (16 : Int32)), (.int p2)]) (rest := [(.int (0 : Int32)), (.ref b2), (.int (0 : Int32)), (.ref a0)]) (lenOf pd_140 rfl) rfl (by show 2 * 0 + _ ≤ _; exact Nat.le_of_eq rfl) (hb hby d24_24) (fun _ _ => ⟨rfl, e2, (by decide : 1 + 0 ≤ _), (by decide : 16 + 0 ≤ _)⟩)
 dsimp only [Pt.U, Pt.locs, Pt.cells, Pt.slots] at X5 l5 y5 z5 st5 hQ5
 subst l5 y5 z5
 obtain ⟨rfl, Nq5, eq5⟩ := hQ5
 have N5 := Fr.app N1 Nq5
 refine own_by st5 ?_
 show own_Go p e below _ (T5.setTop (mkF m 27 #[vR a0, vI (0 : Int32), vI p2, vI p2, vR b2] [(.int p2), (.int (0 : Int32)), (.ref b2), (.int (0 : Int32)), (.ref a0)]))
 obtain ⟨T6, h6, L6, X6, e6, N6, Kq6, V6, st6⟩ := own_cpA X5 hx hZ hown (hwd 144 rfl) (hwd 98 rfl) (hwd 96 rfl) (hwd 97 rfl) eq5 F3 V2 (by decide) (by decide) (by decide) hp_3 hp_4 hp_5 N5 ge_b2 (g := (mkF m 27 #[vR a0, vI (0 : Int32), vI p2, vI p2, vR b2] [(.int p2), (.int (0 : Int32)), (.ref b2), (.int (0 : Int32)), (.ref a0)])) rfl (by rw [hml]; rfl) rfl (hb hby d24_27) (by decide) (W := 0) (by show 2 * 0 + _ ≤ _; exact Nat.le_of_eq rfl) (by decide)
 have V6' : own_Arf Z h6 b2 k2 .byte p2 (fun i => .int ((own_cp fn_a0 0 (fun _ => (0 : Int32)) 0 (p2).toNatClampNeg) i)) := by rw [← own_cpI]; exact V6
 have K6 : Keep h0 h6 [] := K2.trans Kq6 ((allS (Or.inr sz_b2) all0))
 have Z6 : n0 ≤ h6.size := Nat.le_trans Z2 Kq6.1
 refine own_by st6 ?_
 show own_Go p e below _ (T6.setTop (mkF m 30 #[vR a0, vI (0 : Int32), vI p2, vI p2, vR b2] []))
 refine own_by (fun _ k => XS.aload X6.here hx rfl (hb hby d24_30) rfl rfl k) ?_
 exact own_retR X6 hx Bd.returns (by decide) rfl (hb hby d24_32) hlk e6 ⟨_, _, rfl, N6, K6, ge_b2, sz_b2, V6'⟩ (by decide) (by decide)
theorem pd_130 : parseMethodDescriptor "([BII)[B" = some ⟨[(.array .byte), .int, .int], some (.array .byte)⟩ := by decide +kernel
theorem d23_0 : decode jdk_65_method_132_code 0 = .ok (.iload_n 1, 1) := by decide +kernel
theorem d23_1 : decode jdk_65_method_132_code 1 = .ok (.ifCond .ne 9, 3) := by decide +kernel
theorem d23_4 : decode jdk_65_method_132_code 4 = .ok (.iload_n 2, 1) := by decide +kernel
theorem d23_5 : decode jdk_65_method_132_code 5 = .ok (.aload_n 0, 1) := by decide +kernel
theorem d23_6 : decode jdk_65_method_132_code 6 = .ok (.arraylength, 1) := by decide +kernel
theorem d23_7 : decode jdk_65_method_132_code 7 = .ok (.if_icmp .eq 10, 3) := by decide +kernel
theorem d23_10 : decode jdk_65_method_132_code 10 = .ok (.aload_n 0, 1) := by decide +kernel
theorem d23_11 : decode jdk_65_method_132_code 11 = .ok (.iload_n 1, 1) := by decide +kernel
theorem d23_12 : decode jdk_65_method_132_code 12 = .ok (.iload_n 2, 1) := by decide +kernel
theorem d23_13 : decode jdk_65_method_132_code 13 = .ok (.invokestatic 339, 3) := by decide +kernel
theorem d23_16 : decode jdk_65_method_132_code 16 = .ok (.areturn, 1) := by decide +kernel
theorem pn_cor : plainName "java/util/Arrays" = true := by first | (simp [plainName, overriddenIn]; done) | decide +kernel
theorem ef_cor (m : MethodId) (a0 : Addr) (p2 : Int32) : entryFrame m #[(.ref a0), (.int (0 : Int32)), (.int p2)] 3 = mkF m 0 #[vR a0, vI (0 : Int32), vI p2] [] := by first | (simp [entryFrame, mkF, argsToLocals, Value.category]; done) | rfl
def Qcor (Z : State) (k_a0 : ClassId) (fn_a0 : Nat → Int32) (a0 : Addr) (p2 : Int32) (h0 : Heap) (n0 : Nat) (v : Option Value) (h : Heap) (L : List Loc) : Prop := ∃ (b3 : Addr) (b4 : ClassId), v = some (.ref b3) ∧ Fr n0 L ∧ Keep h0 h [] ∧ (n0 ≤ b3) ∧ (h0.size ≤ b3) ∧ own_Arf Z h b3 b4 .byte p2 (fun i => .int ((own_cp fn_a0 0 (fun _ => (0 : Int32)) 0 (p2).toNatClampNeg) i))
set_option maxRecDepth 65536 in
set_option maxHeartbeats 40000000 in
theorem rmcor (l : Launch) (Z : State) (A0 : Array Value) (hw : ∀ d ∈ tables_1, d.before A0 Z = true) (ws : List Jvm.Cond) (k_a0 : ClassId) (fn_a0 : Nat → Int32) (a0 : Addr) (p2 : Int32) (h0 : Heap) (n0 : Nat) (Z0 : n0 ≤ h0.size) (P_V_a0 : own_Arf Z h0 a0 k_a0 .byte (16 : Int32) (fun i => .int (fn_a0 i))) (ha7 : ¬ (p2 = (16 : Int32))) (hp_1 : ¬ (p2 < (0 : Int32))) (hp_2 : (p2).toNatClampNeg ≤ 16) (hp_3 : p2 < (16 : Int32)) (hp_4 : ¬ p2 < 0) (hp_5 : 0 + (p2).toNatClampNeg ≤ 16) (hp_6 : 0 + (p2).toNatClampNeg ≤ (p2).toNatClampNeg) :
    MetFree l (⟨"java/util/Arrays", "copyOfRange", "([BII)[B"⟩ : MethodName) (head1 (Jvm.Cond.code (⟨"java/util/Arrays", "copyOfRange", "([BII)[B"⟩ : MethodName) jdk_65_method_132_code 3 (some (.array .byte)) :: ws) ({ frames := 2, cells := 1, slots := 16, locals := 46 } : Room)) (fun a U => a = #[(.ref a0), (.int (0 : Int32)), (.int p2)] ∧ Z.Warmed39 U.vm ∧ U.heap = h0) (fun _ _ _ _ _ => True) (fun _ U o U' => ∃ v L, o = .returned v ∧ Qcor Z k_a0 fn_a0 a0 p2 h0 n0 v U'.heap L ∧ FrameEnd U o U' L 1 16) := by
 refine MetFree.of_bodySF (plainFor_of_name pn_cor) hisR ?_
 intro p e s m args below meth c s₁ Bd hml0 hP hK
 obtain ⟨rfl, hZ, hh⟩ := hP
 have hwd := fun i {d : Jvm.Cond} (h : tables_1[i]? = some d) => hw d (List.mem_of_getElem? h)
 have hx := Bd.exec
 have hby := Bd.bytes
 have hml : c.maxLocals = 3 := hml0
 have hlk : meth.locks = false := Bd.notSynchronized
 have hown : s.vm.findClass "java/util/Arrays" = some m.cls := findClass_of_methodNamed Bd.named
 have hnm := (name_of_methodNamed Bd.named Bd.method).1
 have X0 : Stand p l e ({ frames := 2, cells := 1, slots := 16, locals := 46 } : Room) s m #[(.ref a0), (.int (0 : Int32)), (.int p2)] below meth c s₁ [] 0 0 := Stand.of_body Bd
 have e0 : s₁.heap = h0 := by rw [← hh, Bd.state]; rfl
 have N0 := Fr.nil n0
 show own_Go p e below (own_Fin s 1 16 (Qcor Z k_a0 fn_a0 a0 p2 h0 n0)) _
 refine own_by (fun t k => castTop (ef_cor m a0 p2) k) ?_
 show own_Go p e below _ (s₁.setTop (mkF m 0 #[vR a0, vI (0 : Int32), vI p2] []))
 refine own_by (fun _ k => XS.iloadN X0.here hx rfl (hb hby d23_0) rfl k) ?_
 refine own_by (fun _ k => XS.ifNo X0.here hx rfl (hb hby d23_1) rfl ((if0 _ _).trans (teq (by decide : (0 : Int32) = (0 : Int32))).2) k) ?_
 show own_Go p e below _ (s₁.setTop (mkF m 4 #[vR a0, vI (0 : Int32), vI p2] []))
 refine own_by (fun _ k => XS.iloadN X0.here hx rfl (hb hby d23_4) rfl k) ?_
 refine own_by (fun _ k => XS.aloadN X0.here hx rfl (hb hby d23_5) rfl rfl k) ?_
 obtain ⟨cl1, Ar1, qq1, S1, M1, H1, G1⟩ := id P_V_a0
 refine own_by (fun t k => X0.arraylength hx (by rw [e0]; exact Ar1.1) (State.isArrayOf_alike hZ.alike Ar1.2.1) (g := (mkF m 6 #[vR a0, vI (0 : Int32), vI p2] [(.ref a0), (.int p2)])) rfl rfl (hb hby d23_6) _ k) ?_
 rw [len_of S1 M1]
 show own_Go p e below _ (s₁.setTop (mkF m 7 #[vR a0, vI (0 : Int32), vI p2] [(.int (16 : Int32)), (.int p2)]))
 refine own_by (fun _ k => XS.icmpNo X0.here hx rfl (hb hby d23_7) rfl (feq ha7).1 k) ?_
 show own_Go p e below _ (s₁.setTop (mkF m 10 #[vR a0, vI (0 : Int32), vI p2] []))
 refine own_by (fun _ k => XS.aloadN X0.here hx rfl (hb hby d23_10) rfl rfl k) ?_
 refine own_by (fun _ k => XS.iloadN X0.here hx rfl (hb hby d23_11) rfl k) ?_
 refine own_by (fun _ k => XS.iloadN X0.here hx rfl (hb hby d23_12) rfl k) ?_
 obtain ⟨_, _, ⟨T2, L2, k2, n2⟩, -, X2, ⟨Lc2, hQ2, l2, y2, z2⟩, st2⟩ := Jvm.LawKit.callS X0 hx (y := (⟨"java/util/Arrays", "copyOfRangeByte", "([BII)[B"⟩ : MethodName)) hown (mvT hZ (hwd 134 rfl)) (mvT hZ (hwd 135 rfl)) (mvT hZ (hwd 132 rfl)) (mvT hZ (hwd 136 rfl)) (by decide) (backOf (W := 0) (rmcob l Z A0 hw [] k_a0 fn_a0 a0 p2 h0 n0 Z0 P_V_a0 hp_1 hp_2 hp_3 hp_4 hp_5 hp_6) hZ (hwd 136 rfl) (hwd 132 rfl) (by decide) (by decide)) (g := (mkF m 13 #[vR a0, vI (0 : Int32), vI p2] [(.int p2), (.int (0 : Int32)), (.ref a0)])) rfl (by rw [hml]; rfl) (argsL := [(.ref a0), (.int (0 : Int32)), (.int p2)]) (rest := []) (lenOf pd_130 rfl) rfl (by show 2 * 0 + _ ≤ _; exact Nat.le_of_eq rfl) (hb hby d23_13) (fun _ _ => ⟨rfl, e0, (by decide : 0 + 1 ≤ _), (by decide : 0 + 16 ≤ _)⟩)
 dsimp only [Pt.U, Pt.locs, Pt.cells, Pt.slots] at X2 l2 y2 z2 st2 hQ2
 subst l2 y2 z2
 obtain ⟨b3, b4, rfl, Nq2, Kq2, hp5, hp6, F7⟩ := hQ2
 have N2 := Fr.app N0 Nq2
 have K2 : Keep h0 T2.heap [] := (Keep.refl h0 []).trans Kq2 (all0)
 have Z2 : n0 ≤ T2.heap.size := Nat.le_trans Z0 Kq2.1
 have sz_b3 : h0.size ≤ b3 := Nat.le_trans (Keep.refl h0 []).1 hp6
 refine own_by st2 ?_
 show own_Go p e below _ (T2.setTop (mkF m 16 #[vR a0, vI (0 : Int32), vI p2] [(.ref b3)]))
 exact own_retR X2 hx Bd.returns (by decide) rfl (hb hby d23_16) hlk rfl ⟨_, _, rfl, N2, K2, hp5, sz_b3, F7⟩ (by decide) (by decide)
theorem pd_112 : parseMethodDescriptor "()[B" = some ⟨[], some (.array .byte)⟩ := by decide +kernel
theorem d18_0 : decode jdk_42_method_150_code 0 = .ok (.aload_n 0, 1) := by decide +kernel
theorem d18_1 : decode jdk_42_method_150_code 1 = .ok (.invokespecial 1, 3) := by decide +kernel
theorem d18_4 : decode jdk_42_method_150_code 4 = .ok (.aload_n 1, 1) := by decide +kernel
theorem d18_5 : decode jdk_42_method_150_code 5 = .ok (.invokevirtual 552, 3) := by decide +kernel
theorem d18_8 : decode jdk_42_method_150_code 8 = .ok (.astore_n 3, 1) := by decide +kernel
theorem d18_9 : decode jdk_42_method_150_code 9 = .ok (.aload_n 1, 1) := by decide +kernel
theorem d18_10 : decode jdk_42_method_150_code 10 = .ok (.invokevirtual 549, 3) := by decide +kernel
theorem d18_13 : decode jdk_42_method_150_code 13 = .ok (.istore 4, 2) := by decide +kernel
theorem d18_15 : decode jdk_42_method_150_code 15 = .ok (.aload_n 1, 1) := by decide +kernel
theorem d18_16 : decode jdk_42_method_150_code 16 = .ok (.invokevirtual 1047, 3) := by decide +kernel
theorem d18_19 : decode jdk_42_method_150_code 19 = .ok (.ifCond .eq 22, 3) := by decide +kernel
theorem d18_22 : decode jdk_42_method_150_code 22 = .ok (.aload_n 0, 1) := by decide +kernel
theorem d18_23 : decode jdk_42_method_150_code 23 = .ok (.iconst 0, 1) := by decide +kernel
theorem d18_24 : decode jdk_42_method_150_code 24 = .ok (.putfield 15, 3) := by decide +kernel
theorem d18_27 : decode jdk_42_method_150_code 27 = .ok (.aload_n 0, 1) := by decide +kernel
theorem d18_28 : decode jdk_42_method_150_code 28 = .ok (.aload_n 3, 1) := by decide +kernel
theorem d18_29 : decode jdk_42_method_150_code 29 = .ok (.iconst 0, 1) := by decide +kernel
theorem d18_30 : decode jdk_42_method_150_code 30 = .ok (.iload 4, 2) := by decide +kernel
theorem d18_32 : decode jdk_42_method_150_code 32 = .ok (.invokestatic 54, 3) := by decide +kernel
theorem d18_35 : decode jdk_42_method_150_code 35 = .ok (.putfield 9, 3) := by decide +kernel
theorem d18_38 : decode jdk_42_method_150_code 38 = .ok (.goto 59, 3) := by decide +kernel
theorem d18_97 : decode jdk_42_method_150_code 97 = .ok (.return_, 1) := by decide +kernel
theorem pn_sis : plainName "java/lang/String" = true := by first | (simp [plainName, overriddenIn]; done) | decide +kernel
theorem ef_sis (m : MethodId) (a0 : Addr) (a1 : Addr) : entryFrame m #[(.ref a0), (.ref a1), .null] 5 = mkF m 0 #[vR a0, vR a1, .val .null, .unset, .unset] [] := by first | (simp [entryFrame, mkF, argsToLocals, Value.category]; done) | rfl
def Qsis (Z : State) (t_a1 : Addr) (c_a1 : Int32) (k_t_a1 : ClassId) (fn_t_a1 : Nat → Int32) (f_CS : Int32) (a0 : Addr) (a1 : Addr) (f_a0_coder : Int32) (f_a0_value : Value) (h0 : Heap) (n0 : Nat) (v : Option Value) (h : Heap) (L : List Loc) : Prop := ∃ (b8 : Addr) (b9 : ClassId), v = none ∧ Fr n0 L ∧ Keep h0 h [a0] ∧ Exa Z h a0 "java/lang/String" ∧ Fld Z h a0 "java/lang/String" "coder" "B" (.int (nar .byte (0 : Int32))) ∧ Fld Z h a0 "java/lang/String" "value" "[B" (.ref b8) ∧ (n0 ≤ b8) ∧ (h0.size ≤ b8) ∧ own_Arf Z h b8 b9 .byte c_a1 (fun i => .int ((own_cp fn_t_a1 0 (fun _ => (0 : Int32)) 0 (c_a1).toNatClampNeg) i))
set_option maxRecDepth 65536 in
set_option maxHeartbeats 40000000 in
theorem rmsis (l : Launch) (Z : State) (A0 : Array Value) (hw : ∀ d ∈ tables_1, d.before A0 Z = true) (ws : List Jvm.Cond) (t_a1 : Addr) (c_a1 : Int32) (k_t_a1 : ClassId) (fn_t_a1 : Nat → Int32) (f_CS : Int32) (a0 : Addr) (a1 : Addr) (f_a0_coder : Int32) (f_a0_value : Value) (h0 : Heap) (n0 : Nat) (Z0 : n0 ≤ h0.size) (P_E_a0 : Exa Z h0 a0 "java/lang/String") (P_E_a1 : Exa Z h0 a1 "java/lang/StringBuilder") (P_F_a1_coder : Fld Z h0 a1 "java/lang/AbstractStringBuilder" "coder" "B" (.int (0 : Int32))) (P_F_a1_value : Fld Z h0 a1 "java/lang/AbstractStringBuilder" "value" "[B" (.ref t_a1)) (P_F_a1_count : Fld Z h0 a1 "java/lang/AbstractStringBuilder" "count" "I" (.int c_a1)) (P_V_t_a1 : own_Arf Z h0 t_a1 k_t_a1 .byte (16 : Int32) (fun i => .int (fn_t_a1 i))) (P_S_CS : Sta Z h0 "java/lang/String" "COMPACT_STRINGS" "Z" (.int f_CS)) (hn_CS : ¬ (f_CS = (0 : Int32))) (P_F_a0_coder : Fld Z h0 a0 "java/lang/String" "coder" "B" (.int f_a0_coder)) (g_a0 : n0 ≤ a0) (hp_2 : ¬ (c_a1 = (16 : Int32))) (hp_3 : ¬ (c_a1 < (0 : Int32))) (hp_4 : (c_a1).toNatClampNeg ≤ 16) (hp_5 : c_a1 < (16 : Int32)) (hp_6 : ¬ c_a1 < 0) (hp_7 : 0 + (c_a1).toNatClampNeg ≤ 16) (hp_8 : 0 + (c_a1).toNatClampNeg ≤ (c_a1).toNatClampNeg) (P_F_a0_value : Fld Z h0 a0 "java/lang/String" "value" "[B" f_a0_value) :
    MetFree l (⟨"java/lang/String", "<init>", "(Ljava/lang/AbstractStringBuilder;Ljava/lang/Void;)V"⟩ : MethodName) (head1 (Jvm.Cond.code (⟨"java/lang/String", "<init>", "(Ljava/lang/AbstractStringBuilder;Ljava/lang/Void;)V"⟩ : MethodName) jdk_42_method_150_code 5 none :: ws) ({ frames := 3, cells := 1, slots := 16, locals := 61 } : Room)) (fun a U => a = #[(.ref a0), (.ref a1), .null] ∧ Z.Warmed39 U.vm ∧ U.heap = h0) (fun _ _ _ _ _ => True) (fun _ U o U' => ∃ v L, o = .returned v ∧ Qsis Z t_a1 c_a1 k_t_a1 fn_t_a1 f_CS a0 a1 f_a0_coder f_a0_value h0 n0 v U'.heap L ∧ FrameEnd U o U' L 1 16) := by
 refine MetFree.of_bodySF (plainFor_of_name pn_sis) hisR ?_
 intro p e s m args below meth c s₁ Bd hml0 hP hK
 obtain ⟨rfl, hZ, hh⟩ := hP
 have hwd := fun i {d : Jvm.Cond} (h : tables_1[i]? = some d) => hw d (List.mem_of_getElem? h)
 have hx := Bd.exec
 have hby := Bd.bytes
 have hml : c.maxLocals = 5 := hml0
 have hlk : meth.locks = false := Bd.notSynchronized
 have hown : s.vm.findClass "java/lang/String" = some m.cls := findClass_of_methodNamed Bd.named
 have hnm := (name_of_methodNamed Bd.named Bd.method).1
 have X0 : Stand p l e ({ frames := 3, cells := 1, slots := 16, locals := 61 } : Room) s m #[(.ref a0), (.ref a1), .null] below meth c s₁ [] 0 0 := Stand.of_body Bd
 have e0 : s₁.heap = h0 := by rw [← hh, Bd.state]; rfl
 have N0 := Fr.nil n0
 show own_Go p e below (own_Fin s 1 16 (Qsis Z t_a1 c_a1 k_t_a1 fn_t_a1 f_CS a0 a1 f_a0_coder f_a0_value h0 n0)) _
 refine own_by (fun t k => castTop (ef_sis m a0 a1) k) ?_
 show own_Go p e below _ (s₁.setTop (mkF m 0 #[vR a0, vR a1, .val .null, .unset, .unset] []))
 refine own_by (fun _ k => XS.aloadN X0.here hx rfl (hb hby d18_0) rfl rfl k) ?_
 obtain ⟨T1, X1, e1, st1⟩ := initO X0 hx hZ hown (hwd 15 rfl) (hwd 16 rfl) (hwd 17 rfl) e0 (g := (mkF m 1 #[vR a0, vR a1, .val .null, .unset, .unset] [(.ref a0)])) rfl (by rw [hml]; rfl) rfl (hb hby d18_1) (by decide) (W := 0) (by show 2 * 0 + _ ≤ _; exact Nat.le_of_eq rfl) (by decide)
 refine own_by st1 ?_
 show own_Go p e below _ (T1.setTop (mkF m 4 #[vR a0, vR a1, .val .null, .unset, .unset] []))
 refine own_by (fun _ k => XS.aloadN X1.here hx rfl (hb hby d18_4) rfl rfl k) ?_
 obtain ⟨cq2, kq2, qq2a, qq2b, qq2c⟩ := isOf hZ e1 P_E_a1
 obtain ⟨_, _, ⟨T2, L2, k2, n2⟩, -, X2, ⟨Lc2, hQ2, l2, y2, z2⟩, st2⟩ := X1.virtualBack hx (y := (⟨"java/lang/AbstractStringBuilder", "getValue", "()[B"⟩ : MethodName)) (z := (⟨"java/lang/AbstractStringBuilder", "getValue", "()[B"⟩ : MethodName)) hown (mvT hZ (hwd 112 rfl)) (mvT hZ (hwd 113 rfl)) (notFace_of_selects (args := #[]) (mvT hZ (hwd 115 rfl))) (mvT hZ (hwd 115 rfl)) (mvT hZ (hwd 114 rfl)) (by decide) (backOf (W := 0) (rm19 l Z A0 hw [] a1 t_a1 h0 n0 Z0 P_F_a1_value) hZ (hwd 116 rfl) (hwd 43 rfl) (by decide) (by decide)) qq2a qq2c (g := (mkF m 5 #[vR a0, vR a1, .val .null, .unset, .unset] [(.ref a1)])) rfl (by rw [hml]; rfl) (Steps.refl _) (argsL := []) (rest := []) (lenOf pd_112 rfl) rfl (by show 2 * 0 + _ ≤ _; exact Nat.le_of_eq rfl) (hb hby d18_5) (fun _ _ => ⟨rfl, e1, (by decide : 0 + 0 ≤ _), (by decide : 0 + 0 ≤ _)⟩)
 dsimp only [Pt.U, Pt.locs, Pt.cells, Pt.slots] at X2 l2 y2 z2 st2 hQ2
 subst l2 y2 z2
 obtain ⟨rfl, Nq2, eq2⟩ := hQ2
 have N2 := Fr.app N0 Nq2
 refine own_by (fun _ k => st2.trans k) ?_
 show own_Go p e below _ (T2.setTop (mkF m 8 #[vR a0, vR a1, .val .null, .unset, .unset] [(.ref t_a1)]))
 refine own_by (fun _ k => XS.astoreN X2.here hx rfl (hb hby d18_8) rfl rfl (l' := #[vR a0, vR a1, .val .null, vR t_a1, .unset]) rfl k) ?_
 show own_Go p e below _ (T2.setTop (mkF m 9 #[vR a0, vR a1, .val .null, vR t_a1, .unset] []))
 refine own_by (fun _ k => XS.aloadN X2.here hx rfl (hb hby d18_9) rfl rfl k) ?_
 obtain ⟨cq3, kq3, qq3a, qq3b, qq3c⟩ := isOf hZ eq2 P_E_a1
 obtain ⟨_, _, ⟨T3, L3, k3, n3⟩, -, X3, ⟨Lc3, hQ3, l3, y3, z3⟩, st3⟩ := X2.virtualBack hx (y := (⟨"java/lang/AbstractStringBuilder", "length", "()I"⟩ : MethodName)) (z := (⟨"java/lang/StringBuilder", "length", "()I"⟩ : MethodName)) hown (mvT hZ (hwd 117 rfl)) (mvT hZ (hwd 118 rfl)) (own_notFace (args := #[]) (mvT hZ (hwd 77 rfl)) rfl) (mvT hZ (hwd 120 rfl)) (mvT hZ (hwd 121 rfl)) (by decide) (backOf (W := 0) (rm20 l Z A0 hw [] a1 c_a1 h0 n0 Z0 P_E_a1 P_F_a1_count) hZ (hwd 122 rfl) (hwd 35 rfl) (by decide) (by decide)) qq3a qq3c (g := (mkF m 10 #[vR a0, vR a1, .val .null, vR t_a1, .unset] [(.ref a1)])) rfl (by rw [hml]; rfl) (Steps.refl _) (argsL := []) (rest := []) (lenOf pd_61 rfl) rfl (by show 2 * 0 + _ ≤ _; exact Nat.le_of_eq rfl) (hb hby d18_10) (fun _ _ => ⟨rfl, eq2, (by decide : 0 + 0 ≤ _), (by decide : 0 + 0 ≤ _)⟩)
 dsimp only [Pt.U, Pt.locs, Pt.cells, Pt.slots] at X3 l3 y3 z3 st3 hQ3
 subst l3 y3 z3
 obtain ⟨rfl, Nq3, eq3⟩ := hQ3
 have N3 := Fr.app N2 Nq3
 refine own_by (fun _ k => st3.trans k) ?_
 show own_Go p e below _ (T3.setTop (mkF m 13 #[vR a0, vR a1, .val .null, vR t_a1, .unset] [(.int c_a1)]))
 refine own_by (fun _ k => XS.istore X3.here hx rfl (hb hby d18_13) rfl (l' := #[vR a0, vR a1, .val .null, vR t_a1, vI c_a1]) rfl k) ?_
 show own_Go p e below _ (T3.setTop (mkF m 15 #[vR a0, vR a1, .val .null, vR t_a1, vI c_a1] []))
 refine own_by (fun _ k => XS.aloadN X3.here hx rfl (hb hby d18_15) rfl rfl k) ?_
 obtain ⟨cq4, kq4, qq4a, qq4b, qq4c⟩ := isOf hZ eq3 P_E_a1
 obtain ⟨_, _, ⟨T4, L4, k4, n4⟩, -, X4, ⟨Lc4, hQ4, l4, y4, z4⟩, st4⟩ := X3.virtualBack hx (y := (⟨"java/lang/AbstractStringBuilder", "isLatin1", "()Z"⟩ : MethodName)) (z := (⟨"java/lang/AbstractStringBuilder", "isLatin1", "()Z"⟩ : MethodName)) hown (mvT hZ (hwd 125 rfl)) (mvT hZ (hwd 126 rfl)) (notFace_of_selects (args := #[]) (mvT hZ (hwd 128 rfl))) (mvT hZ (hwd 128 rfl)) (mvT hZ (hwd 127 rfl)) (by decide) (backOf (W := 0) (rm22 l Z A0 hw [] f_CS a1 h0 n0 Z0 P_E_a1 P_F_a1_coder P_S_CS hn_CS) hZ (hwd 129 rfl) (hwd 43 rfl) (by decide) (by decide)) qq4a qq4c (g := (mkF m 16 #[vR a0, vR a1, .val .null, vR t_a1, vI c_a1] [(.ref a1)])) rfl (by rw [hml]; rfl) (Steps.refl _) (argsL := []) (rest := []) (lenOf pd_125 rfl) rfl (by show 2 * 0 + _ ≤ _; exact Nat.le_of_eq rfl) (hb hby d18_16) (fun _ _ => ⟨rfl, eq3, (by decide : 0 + 0 ≤ _), (by decide : 0 + 0 ≤ _)⟩)
 dsimp only [Pt.U, Pt.locs, Pt.cells, Pt.slots] at X4 l4 y4 z4 st4 hQ4
 subst l4 y4 z4
 obtain ⟨rfl, Nq4, eq4⟩ := hQ4
 have N4 := Fr.app N3 Nq4
 refine own_by (fun _ k => st4.trans k) ?_
 show own_Go p e below _ (T4.setTop (mkF m 19 #[vR a0, vR a1, .val .null, vR t_a1, vI c_a1] [(.int (1 : Int32))]))
 refine own_by (fun _ k => XS.ifNo X4.here hx rfl (hb hby d18_19) rfl ((if0 _ _).trans (feq (by decide : ¬ ((1 : Int32) = (0 : Int32)))).1) k) ?_
 show own_Go p e below _ (T4.setTop (mkF m 22 #[vR a0, vR a1, .val .null, vR t_a1, vI c_a1] []))
 refine own_by (fun _ k => XS.aloadN X4.here hx rfl (hb hby d18_22) rfl rfl k) ?_
 refine own_by (fun _ k => XS.iconst X4.here hx rfl (hb hby d18_23) k) ?_
 obtain ⟨T5, h5, X5, e5, W5, st5⟩ := putFN X4 hx hZ hown (hwd 25 rfl) Via.refl eq4 P_F_a0_coder P_E_a0 (Or.inr ⟨(hwd 21 rfl), rfl, hnm⟩) (hwd 5 rfl) (ty := .byte) (v' := (.int (nar .byte (0 : Int32)))) (by decide) rfl (fits_nar_byte _) (g := (mkF m 24 #[vR a0, vR a1, .val .null, vR t_a1, vI c_a1] [(.int (0 : Int32)), (.ref a0)])) rfl rfl (hb hby d18_24)
 have Fw5 : Fld Z h5 a0 "java/lang/String" "coder" "B" (.int (nar .byte (0 : Int32))) := P_F_a0_coder.same W5
 have K5 : Keep h0 h5 [a0] := (Keep.refl h0 [a0]).wr W5 (Or.inl (List.mem_of_getElem? (i := 0) rfl))
 have Z5 : n0 ≤ h5.size := Nat.le_trans Z0 (Keep.of_wr W5).1
 have N5 := Fr.snoc X5 N4 g_a0
 refine own_by st5 ?_
 show own_Go p e below _ (T5.setTop (mkF m 27 #[vR a0, vR a1, .val .null, vR t_a1, vI c_a1] []))
 refine own_by (fun _ k => XS.aloadN X5.here hx rfl (hb hby d18_27) rfl rfl k) ?_
 refine own_by (fun _ k => XS.aloadN X5.here hx rfl (hb hby d18_28) rfl rfl k) ?_
 refine own_by (fun _ k => XS.iconst X5.here hx rfl (hb hby d18_29) k) ?_
 refine own_by (fun _ k => XS.iload X5.here hx rfl (hb hby d18_30) rfl k) ?_
 have F6 : own_Arf Z h5 t_a1 k_t_a1 .byte (16 : Int32) (fun i => .int (fn_t_a1 i)) := (P_V_t_a1.other W5 (Ne.symm (own_neArr P_E_a0 (hwd 5 rfl) P_V_t_a1)))
 obtain ⟨_, _, ⟨T7, L7, k7, n7⟩, -, X7, ⟨Lc7, hQ7, l7, y7, z7⟩, st7⟩ := Jvm.LawKit.callS X5 hx (y := (⟨"java/util/Arrays", "copyOfRange", "([BII)[B"⟩ : MethodName)) hown (mvT hZ (hwd 130 rfl)) (mvT hZ (hwd 131 rfl)) (mvT hZ (hwd 132 rfl)) (mvT hZ (hwd 133 rfl)) (by decide) (backOf (W := 1) (rmcor l Z A0 hw [] k_t_a1 fn_t_a1 t_a1 c_a1 h5 n0 Z5 F6 hp_2 hp_3 hp_4 hp_5 hp_6 hp_7 hp_8) hZ (hwd 133 rfl) (hwd 132 rfl) (by decide) (by decide)) (g := (mkF m 32 #[vR a0, vR a1, .val .null, vR t_a1, vI c_a1] [(.int c_a1), (.int (0 : Int32)), (.ref t_a1), (.ref a0)])) rfl (by rw [hml]; rfl) (argsL := [(.ref t_a1), (.int (0 : Int32)), (.int c_a1)]) (rest := [(.ref a0)]) (lenOf pd_130 rfl) rfl (by show 2 * 0 + _ ≤ _; exact Nat.le_of_eq rfl) (hb hby d18_32) (fun _ _ => ⟨rfl, e5, (by decide : 0 + 1 ≤ _), (by decide : 0 + 16 ≤ _)⟩)
 dsimp only [Pt.U, Pt.locs, Pt.cells, Pt.slots] at X7 l7 y7 z7 st7 hQ7
 subst l7 y7 z7
 obtain ⟨b8, b9, rfl, Nq7, Kq7, hp10, hp11, F12⟩ := hQ7
 have N7 := Fr.app N5 Nq7
 have K7 : Keep h0 T7.heap [a0] := K5.trans Kq7 (all0)
 have Z7 : n0 ≤ T7.heap.size := Nat.le_trans Z5 Kq7.1
 have sz_b8 : h0.size ≤ b8 := Nat.le_trans K5.1 hp11
 refine own_by st7 ?_
 show own_Go p e below _ (T7.setTop (mkF m 35 #[vR a0, vR a1, .val .null, vR t_a1, vI c_a1] [(.ref b8), (.ref a0)]))
 have F13 : Exa Z T7.heap a0 "java/lang/String" := ((P_E_a0.wr W5).keep Kq7)
 have F14 : Fld Z T7.heap a0 "java/lang/String" "value" "[B" f_a0_value := ((P_F_a0_value.other W5 (Or.inr (slot_ne (Or.inr (hwd 20 rfl)) (Or.inr (hwd 21 rfl)) (by decide) (t := (.array .byte)) (t' := .byte) (by decide) (by decide)))).keep Kq7 nin0)
 obtain ⟨T15, h15, X15, e15, W15, st15⟩ := putF X7 hx hZ hown (host := "") (Or.inl (hwd 24 rfl)) Via.refl rfl F14 F13 (Or.inr ⟨(hwd 20 rfl), rfl, hnm⟩) (hwd 5 rfl) (ty := (.array .byte)) (by decide) rfl rfl (g := (mkF m 35 #[vR a0, vR a1, .val .null, vR t_a1, vI c_a1] [(.ref b8), (.ref a0)])) rfl rfl (hb hby d18_35)
 have Fw15 : Fld Z h15 a0 "java/lang/String" "value" "[B" (.ref b8) := F14.same W15
 have K15 : Keep h0 h15 [a0] := K7.wr W15 (Or.inl (List.mem_of_getElem? (i := 0) rfl))
 have Z15 : n0 ≤ h15.size := Nat.le_trans Z7 (Keep.of_wr W15).1
 have N15 := Fr.snoc X15 N7 g_a0
 refine own_by st15 ?_
 show own_Go p e below _ (T15.setTop (mkF m 38 #[vR a0, vR a1, .val .null, vR t_a1, vI c_a1] []))
 refine own_by (fun _ k => XS.goto X15.here hx rfl (pc0 := 38) (pc' := 97) rfl (hb hby d18_38) (by decide) (by decide) k) ?_
 show own_Go p e below _ (T15.setTop (mkF m 97 #[vR a0, vR a1, .val .null, vR t_a1, vI c_a1] []))
 have F16 : Exa Z h15 a0 "java/lang/String" := (F13.wr W15)
 have F17 : Fld Z h15 a0 "java/lang/String" "coder" "B" (.int (nar .byte (0 : Int32))) := ((Fw5.keep Kq7 nin0).other W15 (Or.inr (slot_ne (Or.inr (hwd 21 rfl)) (Or.inr (hwd 20 rfl)) (by decide) (t := .byte) (t' := (.array .byte)) (by decide) (by decide))))
 have F18 : own_Arf Z h15 b8 b9 .byte c_a1 (fun i => .int ((own_cp fn_t_a1 0 (fun _ => (0 : Int32)) 0 (c_a1).toNatClampNeg) i)) := (F12.other W15 (Ne.symm (Nat.ne_of_lt (Nat.lt_of_lt_of_le ((P_E_a0.wr W5)).lt hp11))))
 exact own_ret0 X15 hx Bd.returns (hb hby d18_97) hlk e15 ⟨_, _, rfl, N15, K15, F16, F17, Fw15, hp10, sz_b8, F18⟩ (by decide) (by decide)
theorem pd_109 : parseMethodDescriptor "(Ljava/lang/AbstractStringBuilder;Ljava/lang/Void;)V" = some ⟨[(.object "java/lang/AbstractStringBuilder"), (.object "java/lang/Void")], none⟩ := by decide +kernel
theorem d17_0 : decode jdk_42_method_53_code 0 = .ok (.aload_n 0, 1) := by decide +kernel
theorem d17_1 : decode jdk_42_method_53_code 1 = .ok (.aload_n 1, 1) := by decide +kernel
theorem d17_2 : decode jdk_42_method_53_code 2 = .ok (.aconst_null, 1) := by decide +kernel
theorem d17_3 : decode jdk_42_method_53_code 3 = .ok (.invokespecial 489, 3) := by decide +kernel
theorem d17_6 : decode jdk_42_method_53_code 6 = .ok (.return_, 1) := by decide +kernel
theorem pn_sib : plainName "java/lang/String" = true := by first | (simp [plainName, overriddenIn]; done) | decide +kernel
theorem ef_sib (m : MethodId) (a0 : Addr) (a1 : Addr) : entryFrame m #[(.ref a0), (.ref a1)] 2 = mkF m 0 #[vR a0, vR a1] [] := by first | (simp [entryFrame, mkF, argsToLocals, Value.category]; done) | rfl
def Qsib (Z : State) (t_a1 : Addr) (c_a1 : Int32) (k_t_a1 : ClassId) (fn_t_a1 : Nat → Int32) (f_CS : Int32) (a0 : Addr) (a1 : Addr) (f_a0_coder : Int32) (f_a0_value : Value) (h0 : Heap) (n0 : Nat) (v : Option Value) (h : Heap) (L : List Loc) : Prop := ∃ (b2 : Addr) (b3 : ClassId), v = none ∧ Fr n0 L ∧ Keep h0 h [a0] ∧ Exa Z h a0 "java/lang/String" ∧ Fld Z h a0 "java/lang/String" "coder" "B" (.int (0 : Int32)) ∧ Fld Z h a0 "java/lang/String" "value" "[B" (.ref b2) ∧ (n0 ≤ b2) ∧ (h0.size ≤ b2) ∧ own_Arf Z h b2 b3 .byte c_a1 (fun i => .int ((own_cp fn_t_a1 0 (fun _ => (0 : Int32)) 0 (c_a1).toNatClampNeg) i))
set_option maxRecDepth 65536 in
set_option maxHeartbeats 40000000 in
theorem rmsib (l : Launch) (Z : State) (A0 : Array Value) (hw : ∀ d ∈ tables_1, d.before A0 Z = true) (ws : List Jvm.Cond) (t_a1 : Addr) (c_a1 : Int32) (k_t_a1 : ClassId) (fn_t_a1 : Nat → Int32) (f_CS : Int32) (a0 : Addr) (a1 : Addr) (f_a0_coder : Int32) (f_a0_value : Value) (h0 : Heap) (n0 : Nat) (Z0 : n0 ≤ h0.size) (P_E_a0 : Exa Z h0 a0 "java/lang/String") (P_E_a1 : Exa Z h0 a1 "java/lang/StringBuilder") (P_F_a1_coder : Fld Z h0 a1 "java/lang/AbstractStringBuilder" "coder" "B" (.int (0 : Int32))) (P_F_a1_value : Fld Z h0 a1 "java/lang/AbstractStringBuilder" "value" "[B" (.ref t_a1)) (P_F_a1_count : Fld Z h0 a1 "java/lang/AbstractStringBuilder" "count" "I" (.int c_a1)) (P_V_t_a1 : own_Arf Z h0 t_a1 k_t_a1 .byte (16 : Int32) (fun i => .int (fn_t_a1 i))) (P_S_CS : Sta Z h0 "java/lang/String" "COMPACT_STRINGS" "Z" (.int f_CS)) (hn_CS : ¬ (f_CS = (0 : Int32))) (P_F_a0_coder : Fld Z h0 a0 "java/lang/String" "coder" "B" (.int f_a0_coder)) (P_F_a0_value : Fld Z h0 a0 "java/lang/String" "value" "[B" f_a0_value) (g_a0 : n0 ≤ a0) (hp_2 : ¬ (c_a1 = (16 : Int32))) (hp_3 : ¬ (c_a1 < (0 : Int32))) (hp_4 : (c_a1).toNatClampNeg ≤ 16) (hp_5 : c_a1 < (16 : Int32)) (hp_6 : ¬ c_a1 < 0) (hp_7 : 0 + (c_a1).toNatClampNeg ≤ 16) (hp_8 : 0 + (c_a1).toNatClampNeg ≤ (c_a1).toNatClampNeg) :
    MetFree l (⟨"java/lang/String", "<init>", "(Ljava/lang/StringBuilder;)V"⟩ : MethodName) (head1 (Jvm.Cond.code (⟨"java/lang/String", "<init>", "(Ljava/lang/StringBuilder;)V"⟩ : MethodName) jdk_42_method_53_code 2 none :: ws) ({ frames := 4, cells := 1, slots := 16, locals := 77 } : Room)) (fun a U => a = #[(.ref a0), (.ref a1)] ∧ Z.Warmed39 U.vm ∧ U.heap = h0) (fun _ _ _ _ _ => True) (fun _ U o U' => ∃ v L, o = .returned v ∧ Qsib Z t_a1 c_a1 k_t_a1 fn_t_a1 f_CS a0 a1 f_a0_coder f_a0_value h0 n0 v U'.heap L ∧ FrameEnd U o U' L 1 16) := by
 refine MetFree.of_bodySF (plainFor_of_name pn_sib) hisR ?_
 intro p e s m args below meth c s₁ Bd hml0 hP hK
 obtain ⟨rfl, hZ, hh⟩ := hP
 have hwd := fun i {d : Jvm.Cond} (h : tables_1[i]? = some d) => hw d (List.mem_of_getElem? h)
 have hx := Bd.exec
 have hby := Bd.bytes
 have hml : c.maxLocals = 2 := hml0
 have hlk : meth.locks = false := Bd.notSynchronized
 have hown : s.vm.findClass "java/lang/String" = some m.cls := findClass_of_methodNamed Bd.named
 have hnm := (name_of_methodNamed Bd.named Bd.method).1
 have X0 : Stand p l e ({ frames := 4, cells := 1, slots := 16, locals := 77 } : Room) s m #[(.ref a0), (.ref a1)] below meth c s₁ [] 0 0 := Stand.of_body Bd
 have e0 : s₁.heap = h0 := by rw [← hh, Bd.state]; rfl
 have N0 := Fr.nil n0
 show own_Go p e below (own_Fin s 1 16 (Qsib Z t_a1 c_a1 k_t_a1 fn_t_a1 f_CS a0 a1 f_a0_coder f_a0_value h0 n0)) _
 refine own_by (fun t k => castTop (ef_sib m a0 a1) k) ?_
 show own_Go p e below _ (s₁.setTop (mkF m 0 #[vR a0, vR a1] []))
 refine own_by (fun _ k => XS.aloadN X0.here hx rfl (hb hby d17_0) rfl rfl k) ?_
 refine own_by (fun _ k => XS.aloadN X0.here hx rfl (hb hby d17_1) rfl rfl k) ?_
 refine own_by (fun _ k => XS.aconstNull X0.here hx rfl (hb hby d17_2) k) ?_
 show own_Go p e below _ (s₁.setTop (mkF m 3 #[vR a0, vR a1] [.null, (.ref a1), (.ref a0)]))
 obtain ⟨_, _, ⟨T1, L1, k1, n1⟩, -, X1, ⟨Lc1, hQ1, l1, y1, z1⟩, st1⟩ := X0.specialBack hx (y := (⟨"java/lang/String", "<init>", "(Ljava/lang/AbstractStringBuilder;Ljava/lang/Void;)V"⟩ : MethodName)) rfl hown (mvT hZ (hwd 109 rfl)) (mvT hZ (hwd 110 rfl)) (mvT hZ (hwd 111 rfl)) (by decide) (backOf (W := 0) (rmsis l Z A0 hw [] t_a1 c_a1 k_t_a1 fn_t_a1 f_CS a0 a1 f_a0_coder f_a0_value h0 n0 Z0 P_E_a0 P_E_a1 P_F_a1_coder P_F_a1_value P_F_a1_count P_V_t_a1 P_S_CS hn_CS P_F_a0_coder g_a0 hp_2 hp_3 hp_4 hp_5 hp_6 hp_7 hp_8 P_F_a0_value) hZ (hwd 111 rfl) (hwd 6 rfl) (by decide) (by decide)) (g := (mkF m 3 #[vR a0, vR a1] [.null, (.ref a1), (.ref a0)])) rfl (by rw [hml]; rfl) (Steps.refl _) (a := a0) (argsL := [(.ref a1), .null]) (rest := []) (lenOf pd_109 rfl) rfl (by show 2 * 0 + _ ≤ _; exact Nat.le_of_eq rfl) (hb hby d17_3) (fun _ _ => ⟨rfl, e0, (by decide : 0 + 1 ≤ _), (by decide : 0 + 16 ≤ _)⟩)
 dsimp only [Pt.U, Pt.locs, Pt.cells, Pt.slots] at X1 l1 y1 z1 st1 hQ1
 subst l1 y1 z1
 obtain ⟨b2, b3, rfl, Nq1, Kq1, F4, F5, F6, hp7, hp8, F9⟩ := hQ1
 have N1 := Fr.app N0 Nq1
 have K1 : Keep h0 T1.heap [a0] := (Keep.refl h0 [a0]).trans Kq1 ((allS (Or.inl (List.mem_of_getElem? (i := 0) rfl)) all0))
 have Z1 : n0 ≤ T1.heap.size := Nat.le_trans Z0 Kq1.1
 have sz_b2 : h0.size ≤ b2 := Nat.le_trans (Keep.refl h0 [a0]).1 hp8
 refine own_by (fun _ k => st1.trans k) ?_
 show own_Go p e below _ (T1.setTop (mkF m 6 #[vR a0, vR a1] []))
 exact own_ret0 X1 hx Bd.returns (hb hby d17_6) hlk rfl ⟨_, _, rfl, N1, K1, F4, F5, F6, hp7, sz_b2, F9⟩ (by decide) (by decide)
theorem pd_106 : parseMethodDescriptor "(Ljava/lang/StringBuilder;)V" = some ⟨[(.object "java/lang/StringBuilder")], none⟩ := by decide +kernel
theorem d16_0 : decode jdk_67_method_42_code 0 = .ok (.new 18, 3) := by decide +kernel
theorem d16_3 : decode jdk_67_method_42_code 3 = .ok (.dup, 1) := by decide +kernel
theorem d16_4 : decode jdk_67_method_42_code 4 = .ok (.aload_n 0, 1) := by decide +kernel
theorem d16_5 : decode jdk_67_method_42_code 5 = .ok (.invokespecial 137, 3) := by decide +kernel
theorem d16_8 : decode jdk_67_method_42_code 8 = .ok (.areturn, 1) := by decide +kernel
theorem pn_tos : plainName "java/lang/StringBuilder" = true := by first | (simp [plainName, overriddenIn]; done) | decide +kernel
theorem ef_tos (m : MethodId) (a0 : Addr) : entryFrame m #[(.ref a0)] 1 = mkF m 0 #[vR a0] [] := by first | (simp [entryFrame, mkF, argsToLocals, Value.category]; done) | rfl
def Qtos (Z : State) (t_a0 : Addr) (c_a0 : Int32) (k_t_a0 : ClassId) (fn_t_a0 : Nat → Int32) (f_CS : Int32) (a0 : Addr) (h0 : Heap) (n0 : Nat) (v : Option Value) (h : Heap) (L : List Loc) : Prop := ∃ (b1 : Addr) (b9 : Addr) (b10 : ClassId), v = some (.ref b1) ∧ Fr n0 L ∧ Keep h0 h [] ∧ (n0 ≤ b1) ∧ (h0.size ≤ b1) ∧ Exa Z h b1 "java/lang/String" ∧ Fld Z h b1 "java/lang/String" "coder" "B" (.int (0 : Int32)) ∧ Fld Z h b1 "java/lang/String" "value" "[B" (.ref b9) ∧ (n0 ≤ b9) ∧ (h0.size ≤ b9) ∧ own_Arf Z h b9 b10 .byte c_a0 (fun i => .int ((own_cp fn_t_a0 0 (fun _ => (0 : Int32)) 0 (c_a0).toNatClampNeg) i)) ∧ (b1 ≠ b9)
set_option maxRecDepth 65536 in
set_option maxHeartbeats 40000000 in
theorem rmtos (l : Launch) (Z : State) (A0 : Array Value) (hw : ∀ d ∈ tables_1, d.before A0 Z = true) (ws : List Jvm.Cond) (t_a0 : Addr) (c_a0 : Int32) (k_t_a0 : ClassId) (fn_t_a0 : Nat → Int32) (f_CS : Int32) (a0 : Addr) (h0 : Heap) (n0 : Nat) (Z0 : n0 ≤ h0.size) (P_E_a0 : Exa Z h0 a0 "java/lang/StringBuilder") (P_F_a0_coder : Fld Z h0 a0 "java/lang/AbstractStringBuilder" "coder" "B" (.int (0 : Int32))) (P_F_a0_value : Fld Z h0 a0 "java/lang/AbstractStringBuilder" "value" "[B" (.ref t_a0)) (P_F_a0_count : Fld Z h0 a0 "java/lang/AbstractStringBuilder" "count" "I" (.int c_a0)) (P_V_t_a0 : own_Arf Z h0 t_a0 k_t_a0 .byte (16 : Int32) (fun i => .int (fn_t_a0 i))) (P_S_CS : Sta Z h0 "java/lang/String" "COMPACT_STRINGS" "Z" (.int f_CS)) (hn_CS : ¬ (f_CS = (0 : Int32))) (hp_1 : ¬ (c_a0 = (16 : Int32))) (hp_2 : ¬ (c_a0 < (0 : Int32))) (hp_3 : (c_a0).toNatClampNeg ≤ 16) (hp_4 : c_a0 < (16 : Int32)) (hp_5 : ¬ c_a0 < 0) (hp_6 : 0 + (c_a0).toNatClampNeg ≤ 16) (hp_7 : 0 + (c_a0).toNatClampNeg ≤ (c_a0).toNatClampNeg) :
    MetFree l (⟨"java/lang/StringBuilder", "toString", "()Ljava/lang/String;"⟩ : MethodName) (head1 (Jvm.Cond.code (⟨"java/lang/StringBuilder", "toString", "()Ljava/lang/String;"⟩ : MethodName) jdk_67_method_42_code 1 (some (.object "java/lang/String")) :: ws) ({ frames := 5, cells := 2, slots := 20, locals := 91 } : Room)) (fun a U => a = #[(.ref a0)] ∧ Z.Warmed39 U.vm ∧ U.heap = h0) (fun _ _ _ _ _ => True) (fun _ U o U' => ∃ v L, o = .returned v ∧ Qtos Z t_a0 c_a0 k_t_a0 fn_t_a0 f_CS a0 h0 n0 v U'.heap L ∧ FrameEnd U o U' L 2 20) := by
 refine MetFree.of_bodySF (plainFor_of_name pn_tos) hisR ?_
 intro p e s m args below meth c s₁ Bd hml0 hP hK
 obtain ⟨rfl, hZ, hh⟩ := hP
 have hwd := fun i {d : Jvm.Cond} (h : tables_1[i]? = some d) => hw d (List.mem_of_getElem? h)
 have hx := Bd.exec
 have hby := Bd.bytes
 have hml : c.maxLocals = 1 := hml0
 have hlk : meth.locks = false := Bd.notSynchronized
 have hown : s.vm.findClass "java/lang/StringBuilder" = some m.cls := findClass_of_methodNamed Bd.named
 have hnm := (name_of_methodNamed Bd.named Bd.method).1
 have X0 : Stand p l e ({ frames := 5, cells := 2, slots := 20, locals := 91 } : Room) s m #[(.ref a0)] below meth c s₁ [] 0 0 := Stand.of_body Bd
 have e0 : s₁.heap = h0 := by rw [← hh, Bd.state]; rfl
 have N0 := Fr.nil n0
 show own_Go p e below (own_Fin s 2 20 (Qtos Z t_a0 c_a0 k_t_a0 fn_t_a0 f_CS a0 h0 n0)) _
 refine own_by (fun t k => castTop (ef_tos m a0) k) ?_
 show own_Go p e below _ (s₁.setTop (mkF m 0 #[vR a0] []))
 obtain ⟨T1, h1, X1, e1, E1, A1, D1, -, st1⟩ := newO X0 hx hZ hown (hwd 105 rfl) (hwd 5 rfl) (hwd 6 rfl) e0 (g := (mkF m 0 #[vR a0] [])) rfl (hb hby d16_0) (by decide) (by decide)
 obtain ⟨b1, g1⟩ : ∃ z, z = h0.size := ⟨_, rfl⟩
 have ge_b1 : n0 ≤ b1 := Nat.le_trans Z0 (Nat.le_of_eq g1.symm)
 have sz_b1 : h0.size ≤ b1 := Nat.le_trans (Keep.refl h0 []).1 (Nat.le_of_eq g1.symm)
 have K1 : Keep h0 h1 [] := (Keep.refl h0 []).ext E1
 have Z1 : n0 ≤ h1.size := Nat.le_trans Z0 E1.1
 rw [← g1] at A1 D1 st1
 have F_value_b1 : Fld Z h1 b1 "java/lang/String" "value" "[B" .null := D1 (Or.inr (hwd 20 rfl)) (ty := (.array .byte)) (by decide)
 have F_coder_b1 : Fld Z h1 b1 "java/lang/String" "coder" "B" (.int (0 : Int32)) := D1 (Or.inr (hwd 21 rfl)) (ty := .byte) (by decide)
 refine own_by st1 ?_
 show own_Go p e below _ (T1.setTop (mkF m 3 #[vR a0] [(.ref b1)]))
 refine own_by (fun _ k => XS.dup X1.here hx rfl (hb hby d16_3) rfl rfl k) ?_
 show own_Go p e below _ (T1.setTop (mkF m 4 #[vR a0] [(.ref b1), (.ref b1)]))
 refine own_by (fun _ k => XS.aloadN X1.here hx rfl (hb hby d16_4) rfl rfl k) ?_
 have F2 : Exa Z h1 a0 "java/lang/StringBuilder" := (P_E_a0.ext E1)
 have F3 : Fld Z h1 a0 "java/lang/AbstractStringBuilder" "coder" "B" (.int (0 : Int32)) := (P_F_a0_coder.ext E1)
 have F4 : Fld Z h1 a0 "java/lang/AbstractStringBuilder" "value" "[B" (.ref t_a0) := (P_F_a0_value.ext E1)
 have F5 : Fld Z h1 a0 "java/lang/AbstractStringBuilder" "count" "I" (.int c_a0) := (P_F_a0_count.ext E1)
 have F6 : own_Arf Z h1 t_a0 k_t_a0 .byte (16 : Int32) (fun i => .int (fn_t_a0 i)) := (P_V_t_a0.ext E1)
 have F7 : Sta Z h1 "java/lang/String" "COMPACT_STRINGS" "Z" (.int f_CS) := (P_S_CS.ext E1)
 obtain ⟨_, _, ⟨T8, L8, k8, n8⟩, -, X8, ⟨Lc8, hQ8, l8, y8, z8⟩, st8⟩ := X1.specialBack hx (y := (⟨"java/lang/String", "<init>", "(Ljava/lang/StringBuilder;)V"⟩ : MethodName)) rfl hown (mvT hZ (hwd 106 rfl)) (mvT hZ (hwd 107 rfl)) (mvT hZ (hwd 108 rfl)) (by decide) (backOf (W := 1) (rmsib l Z A0 hw [] t_a0 c_a0 k_t_a0 fn_t_a0 f_CS b1 a0 (0 : Int32) (.null) h1 n0 Z1 A1 F2 F3 F4 F5 F6 F7 hn_CS F_coder_b1 F_value_b1 ge_b1 hp_1 hp_2 hp_3 hp_4 hp_5 hp_6 hp_7) hZ (hwd 108 rfl) (hwd 6 rfl) (by decide) (by decide)) (g := (mkF m 5 #[vR a0] [(.ref a0), (.ref b1), (.ref b1)])) rfl (by rw [hml]; rfl) (Steps.refl _) (a := b1) (argsL := [(.ref a0)]) (rest := [(.ref b1)]) (lenOf pd_106 rfl) rfl (by show 2 * 0 + _ ≤ _; exact Nat.le_of_eq rfl) (hb hby d16_5) (fun _ _ => ⟨rfl, e1, (by decide : 1 + 1 ≤ _), (by decide : 4 + 16 ≤ _)⟩)
 dsimp only [Pt.U, Pt.locs, Pt.cells, Pt.slots] at X8 l8 y8 z8 st8 hQ8
 subst l8 y8 z8
 obtain ⟨b9, b10, rfl, Nq8, Kq8, F11, F12, F13, hp14, hp15, F16⟩ := hQ8
 have N8 := Fr.app N0 Nq8
 have K8 : Keep h0 T8.heap [] := K1.trans Kq8 ((allS (Or.inr sz_b1) all0))
 have Z8 : n0 ≤ T8.heap.size := Nat.le_trans Z1 Kq8.1
 have sz_b9 : h0.size ≤ b9 := Nat.le_trans K1.1 hp15
 refine own_by (fun _ k => st8.trans k) ?_
 show own_Go p e below _ (T8.setTop (mkF m 8 #[vR a0] [(.ref b1)]))
 exact own_retR X8 hx Bd.returns (by decide) rfl (hb hby d16_8) hlk rfl ⟨_, _, _, rfl, N8, K8, ge_b1, sz_b1, F11, F12, F13, hp14, sz_b9, F16, (Nat.ne_of_lt (Nat.lt_of_lt_of_le (A1).lt hp15))⟩ (by decide) (by decide)
theorem own_thrIn : ∀ d ∈ own_thrA "com/example/model_check_sql/modelchecksql/model/ModelFormatException", d ∈ tables_1 := by decide +kernel
theorem own_thrW {Z : State} {A0 : Array Value} (hw : ∀ d ∈ tables_1, d.before A0 Z = true) : ∀ d ∈ own_thrA "com/example/model_check_sql/modelchecksql/model/ModelFormatException", d.before A0 Z = true := fun d q => hw d (own_thrIn d q)
theorem d31_0 : decode jdk_78_method_2_code 0 = .ok (.aload_n 0, 1) := by decide +kernel
theorem d31_1 : decode jdk_78_method_2_code 1 = .ok (.invokespecial 1, 3) := by decide +kernel
theorem d31_4 : decode jdk_78_method_2_code 4 = .ok (.aload_n 0, 1) := by decide +kernel
theorem d31_5 : decode jdk_78_method_2_code 5 = .ok (.aload_n 0, 1) := by decide +kernel
theorem d31_6 : decode jdk_78_method_2_code 6 = .ok (.putfield 7, 3) := by decide +kernel
theorem d31_9 : decode jdk_78_method_2_code 9 = .ok (.aload_n 0, 1) := by decide +kernel
theorem d31_10 : decode jdk_78_method_2_code 10 = .ok (.getstatic 13, 3) := by decide +kernel
theorem d31_13 : decode jdk_78_method_2_code 13 = .ok (.putfield 17, 3) := by decide +kernel
theorem d31_16 : decode jdk_78_method_2_code 16 = .ok (.aload_n 0, 1) := by decide +kernel
theorem d31_17 : decode jdk_78_method_2_code 17 = .ok (.getstatic 20, 3) := by decide +kernel
theorem d31_20 : decode jdk_78_method_2_code 20 = .ok (.putfield 24, 3) := by decide +kernel
theorem d31_23 : decode jdk_78_method_2_code 23 = .ok (.aload_n 0, 1) := by decide +kernel
theorem d31_24 : decode jdk_78_method_2_code 24 = .ok (.invokevirtual 27, 3) := by decide +kernel
theorem d31_27 : decode jdk_78_method_2_code 27 = .ok (.pop, 1) := by decide +kernel
theorem d31_28 : decode jdk_78_method_2_code 28 = .ok (.aload_n 0, 1) := by decide +kernel
theorem d31_29 : decode jdk_78_method_2_code 29 = .ok (.aload_n 1, 1) := by decide +kernel
theorem d31_30 : decode jdk_78_method_2_code 30 = .ok (.putfield 31, 3) := by decide +kernel
theorem d31_33 : decode jdk_78_method_2_code 33 = .ok (.return_, 1) := by decide +kernel
theorem pn_31 : plainName "java/lang/Throwable" = true := by first | (simp [plainName, overriddenIn]; done) | decide +kernel
theorem ef_31 (m : MethodId) (a0 : Addr) (a1 : Addr) : entryFrame m #[(.ref a0), (.ref a1)] 2 = mkF m 0 #[vR a0, vR a1] [] := by first | (simp [entryFrame, mkF, argsToLocals, Value.category]; done) | rfl
def Q31 (Z : State) (f_US : Addr) (f_SS : Value) (a0 : Addr) (a1 : Addr) (f_a0_cause : Value) (f_a0_stackTrace : Value) (f_a0_suppressedExceptions : Value) (f_a0_detailMessage : Value) (f_a0_depth : Int32) (h0 : Heap) (n0 : Nat) (v : Option Value) (h : Heap) (L : List Loc) : Prop := v = none ∧ Fr n0 L ∧ Keep h0 h [a0] ∧ Exa Z h a0 "com/example/model_check_sql/modelchecksql/model/ModelFormatException" ∧ Fld Z h a0 "java/lang/Throwable" "detailMessage" "Ljava/lang/String;" (.ref a1)
set_option maxRecDepth 65536 in
set_option maxHeartbeats 40000000 in
theorem rm31 (l : Launch) (Z : State) (A0 : Array Value) (hw : ∀ d ∈ tables_1, d.before A0 Z = true) (ws : List Jvm.Cond) (f_US : Addr) (f_SS : Value) (a0 : Addr) (a1 : Addr) (f_a0_cause : Value) (f_a0_stackTrace : Value) (f_a0_suppressedExceptions : Value) (f_a0_detailMessage : Value) (f_a0_depth : Int32) (h0 : Heap) (n0 : Nat) (Z0 : n0 ≤ h0.size) (P_E_a0 : Exa Z h0 a0 "com/example/model_check_sql/modelchecksql/model/ModelFormatException") (P_U_a0 : Unt h0 a0) (P_F_a0_backtrace : Fld Z h0 a0 "java/lang/Throwable" "backtrace" "Ljava/lang/Object;" .null) (P_S_US : Sta Z h0 "java/lang/Throwable" "UNASSIGNED_STACK" "[Ljava/lang/StackTraceElement;" (.ref f_US)) (P_S_SS : Sta Z h0 "java/lang/Throwable" "SUPPRESSED_SENTINEL" "Ljava/util/List;" f_SS) (hr_f_SS : f_SS.isRef = true) (P_T : ThS Z h0) (P_F_a0_cause : Fld Z h0 a0 "java/lang/Throwable" "cause" "Ljava/lang/Throwable;" f_a0_cause) (g_a0 : n0 ≤ a0) (P_F_a0_stackTrace : Fld Z h0 a0 "java/lang/Throwable" "stackTrace" "[Ljava/lang/StackTraceElement;" f_a0_stackTrace) (P_F_a0_suppressedExceptions : Fld Z h0 a0 "java/lang/Throwable" "suppressedExceptions" "Ljava/util/List;" f_a0_suppressedExceptions) (hl0 : l.stackTraces = true) (hr_f_a0_detailMessage : f_a0_detailMessage.isRef = true) (P_F_a0_detailMessage : Fld Z h0 a0 "java/lang/Throwable" "detailMessage" "Ljava/lang/String;" f_a0_detailMessage) (P_F_a0_depth : Fld Z h0 a0 "java/lang/Throwable" "depth" "I" (.int f_a0_depth)) :
    MetFree l (⟨"java/lang/Throwable", "<init>", "(Ljava/lang/String;)V"⟩ : MethodName) (head1 (Jvm.Cond.code (⟨"java/lang/Throwable", "<init>", "(Ljava/lang/String;)V"⟩ : MethodName) jdk_78_method_2_code 2 none :: ws) ({ frames := 3, cells := 1, slots := 2752, locals := 42 } : Room)) (fun a U => a = #[(.ref a0), (.ref a1)] ∧ Z.Warmed39 U.vm ∧ U.heap = h0) (fun _ _ bl s _ => s.vm.MethodsKnown ∧ s.vm.FramesKnown bl) (fun _ U o U' => ∃ v L, o = .returned v ∧ Q31 Z f_US f_SS a0 a1 f_a0_cause f_a0_stackTrace f_a0_suppressedExceptions f_a0_detailMessage f_a0_depth h0 n0 v U'.heap L ∧ FrameEnd U o U' L 1 2752) := by
 refine MetFree.of_bodySF (plainFor_of_name pn_31) hisR ?_
 intro p e s m args below meth c s₁ Bd hml0 hP hK
 obtain ⟨rfl, hZ, hh⟩ := hP
 have hwd := fun i {d : Jvm.Cond} (h : tables_1[i]? = some d) => hw d (List.mem_of_getElem? h)
 have hx := Bd.exec
 have hby := Bd.bytes
 have hml : c.maxLocals = 2 := hml0
 have hlk : meth.locks = false := Bd.notSynchronized
 have hown : s.vm.findClass "java/lang/Throwable" = some m.cls := findClass_of_methodNamed Bd.named
 have hnm := (name_of_methodNamed Bd.named Bd.method).1
 have X0 : Stand p l e ({ frames := 3, cells := 1, slots := 2752, locals := 42 } : Room) s m #[(.ref a0), (.ref a1)] below meth c s₁ [] 0 0 := Stand.of_body Bd
 have e0 : s₁.heap = h0 := by rw [← hh, Bd.state]; rfl
 have N0 := Fr.nil n0
 show own_Go p e below (own_Fin s 1 2752 (Q31 Z f_US f_SS a0 a1 f_a0_cause f_a0_stackTrace f_a0_suppressedExceptions f_a0_detailMessage f_a0_depth h0 n0)) _
 refine own_by (fun t k => castTop (ef_31 m a0 a1) k) ?_
 show own_Go p e below _ (s₁.setTop (mkF m 0 #[vR a0, vR a1] []))
 refine own_by (fun _ k => XS.aloadN X0.here hx rfl (hb hby d31_0) rfl rfl k) ?_
 obtain ⟨T1, X1, e1, st1⟩ := initO X0 hx hZ hown (hwd 171 rfl) (hwd 16 rfl) (hwd 17 rfl) e0 (g := (mkF m 1 #[vR a0, vR a1] [(.ref a0)])) rfl (by rw [hml]; rfl) rfl (hb hby d31_1) (by decide) (W := 0) (by show 2 * 0 + _ ≤ _; exact Nat.le_of_eq rfl) (by decide)
 refine own_by st1 ?_
 show own_Go p e below _ (T1.setTop (mkF m 4 #[vR a0, vR a1] []))
 refine own_by (fun _ k => XS.aloadN X1.here hx rfl (hb hby d31_4) rfl rfl k) ?_
 refine own_by (fun _ k => XS.aloadN X1.here hx rfl (hb hby d31_5) rfl rfl k) ?_
 obtain ⟨T2, h2, X2, e2, W2, st2⟩ := putF X1 hx hZ hown (host := "") (Or.inl (hwd 172 rfl)) Via.refl e1 P_F_a0_cause P_E_a0 (Or.inl (hwd 173 rfl)) (hwd 31 rfl) (ty := (.object "java/lang/Throwable")) (by decide) rfl rfl (g := (mkF m 6 #[vR a0, vR a1] [(.ref a0), (.ref a0)])) rfl rfl (hb hby d31_6)
 have Fw2 : Fld Z h2 a0 "java/lang/Throwable" "cause" "Ljava/lang/Throwable;" (.ref a0) := P_F_a0_cause.same W2
 have K2 : Keep h0 h2 [a0] := (Keep.refl h0 [a0]).wr W2 (Or.inl (List.mem_of_getElem? (i := 0) rfl))
 have Z2 : n0 ≤ h2.size := Nat.le_trans Z0 (Keep.of_wr W2).1
 have N2 := Fr.snoc X2 N0 g_a0
 refine own_by st2 ?_
 show own_Go p e below _ (T2.setTop (mkF m 9 #[vR a0, vR a1] []))
 refine own_by (fun _ k => XS.aloadN X2.here hx rfl (hb hby d31_9) rfl rfl k) ?_
 have F3 : Sta Z h2 "java/lang/Throwable" "UNASSIGNED_STACK" "[Ljava/lang/StackTraceElement;" (.ref f_US) := (P_S_US.wr W2)
 obtain ⟨T4, X4, e4, st4⟩ := getS2 X2 hx hZ hown (host := "") (Or.inl (hwd 174 rfl)) Via.refl e2 F3 (g := (mkF m 10 #[vR a0, vR a1] [(.ref a0)])) rfl (hb hby d31_10)
 refine own_by st4 ?_
 show own_Go p e below _ (T4.setTop (mkF m 13 #[vR a0, vR a1] [(.ref f_US), (.ref a0)]))
 have F5 : Exa Z h2 a0 "com/example/model_check_sql/modelchecksql/model/ModelFormatException" := (P_E_a0.wr W2)
 have F6 : Fld Z h2 a0 "java/lang/Throwable" "stackTrace" "[Ljava/lang/StackTraceElement;" f_a0_stackTrace := (P_F_a0_stackTrace.other W2 (Or.inr (slot_ne (Or.inl (hwd 176 rfl)) (Or.inl (hwd 173 rfl)) (by decide) (t := (.array (.object "java/lang/StackTraceElement"))) (t' := (.object "java/lang/Throwable")) (by decide) (by decide))))
 obtain ⟨T7, h7, X7, e7, W7, st7⟩ := putF X4 hx hZ hown (host := "") (Or.inl (hwd 175 rfl)) Via.refl e4 F6 F5 (Or.inl (hwd 176 rfl)) (hwd 31 rfl) (ty := (.array (.object "java/lang/StackTraceElement"))) (by decide) rfl rfl (g := (mkF m 13 #[vR a0, vR a1] [(.ref f_US), (.ref a0)])) rfl rfl (hb hby d31_13)
 have Fw7 : Fld Z h7 a0 "java/lang/Throwable" "stackTrace" "[Ljava/lang/StackTraceElement;" (.ref f_US) := F6.same W7
 have K7 : Keep h0 h7 [a0] := K2.wr W7 (Or.inl (List.mem_of_getElem? (i := 0) rfl))
 have Z7 : n0 ≤ h7.size := Nat.le_trans Z2 (Keep.of_wr W7).1
 have N7 := Fr.snoc X7 N2 g_a0
 refine own_by st7 ?_
 show own_Go p e below _ (T7.setTop (mkF m 16 #[vR a0, vR a1] []))
 refine own_by (fun _ k => XS.aloadN X7.here hx rfl (hb hby d31_16) rfl rfl k) ?_
 have F8 : Sta Z h7 "java/lang/Throwable" "SUPPRESSED_SENTINEL" "Ljava/util/List;" f_SS := ((P_S_SS.wr W2).wr W7)
 obtain ⟨T9, X9, e9, st9⟩ := getS2 X7 hx hZ hown (host := "") (Or.inl (hwd 177 rfl)) Via.refl e7 F8 (g := (mkF m 17 #[vR a0, vR a1] [(.ref a0)])) rfl (hb hby d31_17)
 refine own_by st9 ?_
 show own_Go p e below _ (T9.setTop (mkF m 20 #[vR a0, vR a1] [f_SS, (.ref a0)]))
 have F10 : Exa Z h7 a0 "com/example/model_check_sql/modelchecksql/model/ModelFormatException" := (F5.wr W7)
 have F11 : Fld Z h7 a0 "java/lang/Throwable" "suppressedExceptions" "Ljava/util/List;" f_a0_suppressedExceptions := ((P_F_a0_suppressedExceptions.other W2 (Or.inr (slot_ne (Or.inl (hwd 179 rfl)) (Or.inl (hwd 173 rfl)) (by decide) (t := (.object "java/util/List")) (t' := (.object "java/lang/Throwable")) (by decide) (by decide)))).other W7 (Or.inr (slot_ne (Or.inl (hwd 179 rfl)) (Or.inl (hwd 176 rfl)) (by decide) (t := (.object "java/util/List")) (t' := (.array (.object "java/lang/StackTraceElement"))) (by decide) (by decide))))
 obtain ⟨T12, h12, X12, e12, W12, st12⟩ := putF X9 hx hZ hown (host := "") (Or.inl (hwd 178 rfl)) Via.refl e9 F11 F10 (Or.inl (hwd 179 rfl)) (hwd 31 rfl) (ty := (.object "java/util/List")) (by decide) rfl (own_fitO hr_f_SS) (g := (mkF m 20 #[vR a0, vR a1] [f_SS, (.ref a0)])) rfl rfl (hb hby d31_20)
 have Fw12 : Fld Z h12 a0 "java/lang/Throwable" "suppressedExceptions" "Ljava/util/List;" f_SS := F11.same W12
 have K12 : Keep h0 h12 [a0] := K7.wr W12 (Or.inl (List.mem_of_getElem? (i := 0) rfl))
 have Z12 : n0 ≤ h12.size := Nat.le_trans Z7 (Keep.of_wr W12).1
 have N12 := Fr.snoc X12 N7 g_a0
 refine own_by st12 ?_
 show own_Go p e below _ (T12.setTop (mkF m 23 #[vR a0, vR a1] []))
 refine own_by (fun _ k => XS.aloadN X12.here hx rfl (hb hby d31_23) rfl rfl k) ?_
 have F13 : Exa Z h12 a0 "com/example/model_check_sql/modelchecksql/model/ModelFormatException" := (F10.wr W12)
 have F14 : Unt h12 a0 := (((P_U_a0.wr W2).wr W7).wr W12)
 have F15 : Fld Z h12 a0 "java/lang/Throwable" "backtrace" "Ljava/lang/Object;" .null := (((P_F_a0_backtrace.other W2 (Or.inr (slot_ne (Or.inl (hwd 204 rfl)) (Or.inl (hwd 173 rfl)) (by decide) (t := (.object "java/lang/Object")) (t' := (.object "java/lang/Throwable")) (by decide) (by decide)))).other W7 (Or.inr (slot_ne (Or.inl (hwd 204 rfl)) (Or.inl (hwd 176 rfl)) (by decide) (t := (.object "java/lang/Object")) (t' := (.array (.object "java/lang/StackTraceElement"))) (by decide) (by decide)))).other W12 (Or.inr (slot_ne (Or.inl (hwd 204 rfl)) (Or.inl (hwd 179 rfl)) (by decide) (t := (.object "java/lang/Object")) (t' := (.object "java/util/List")) (by decide) (by decide))))
 have F16 : Fld Z h12 a0 "java/lang/Throwable" "stackTrace" "[Ljava/lang/StackTraceElement;" (.ref f_US) := (Fw7.other W12 (Or.inr (slot_ne (Or.inl (hwd 176 rfl)) (Or.inl (hwd 179 rfl)) (by decide) (t := (.array (.object "java/lang/StackTraceElement"))) (t' := (.object "java/util/List")) (by decide) (by decide))))
 have F17 : ThS Z h12 := (((P_T.wr W2).wr W7).wr W12)
 have F18 : Sta Z h12 "java/lang/Throwable" "UNASSIGNED_STACK" "[Ljava/lang/StackTraceElement;" (.ref f_US) := ((F3.wr W7).wr W12)
 have F19 : Fld Z h12 a0 "java/lang/Throwable" "detailMessage" "Ljava/lang/String;" f_a0_detailMessage := (((P_F_a0_detailMessage.other W2 (Or.inr (slot_ne (Or.inl (hwd 203 rfl)) (Or.inl (hwd 173 rfl)) (by decide) (t := (.object "java/lang/String")) (t' := (.object "java/lang/Throwable")) (by decide) (by decide)))).other W7 (Or.inr (slot_ne (Or.inl (hwd 203 rfl)) (Or.inl (hwd 176 rfl)) (by decide) (t := (.object "java/lang/String")) (t' := (.array (.object "java/lang/StackTraceElement"))) (by decide) (by decide)))).other W12 (Or.inr (slot_ne (Or.inl (hwd 203 rfl)) (Or.inl (hwd 179 rfl)) (by decide) (t := (.object "java/lang/String")) (t' := (.object "java/util/List")) (by decide) (by decide))))
 obtain ⟨T20, h20, X20, e20, Kp20, A20, U20, Th20, FM20, st20⟩ := own_fillL X12 hx hl0 hZ hown (rc := "com/example/model_check_sql/modelchecksql/model/ModelFormatException") (own_thrW hw) (hwd 31 rfl) (by rw [hh]; exact P_T) F17 hK.1 hK.2 e12 F13 F14 F15 F16 F18 (g := (mkF m 24 #[vR a0, vR a1] [(.ref a0)])) rfl (by rw [hml]; rfl) (rest := []) rfl (hb hby d31_24) (by decide) (by show 2 * 0 + _ + _ ≤ _; exact Nat.le_of_ble_eq_true rfl) (by decide) (by decide)
 have Kq20 := keep_of_kp Kp20
 have K20 : Keep h0 h20 [a0] := K12.trans Kq20 ((allS (Or.inl (List.mem_of_getElem? (i := 0) rfl)) all0))
 have Z20 : n0 ≤ h20.size := Nat.le_trans Z12 Kq20.1
 have N20 := Fr.six (Z := Z) N12 g_a0
 have F20 := FM20 _ F19
 refine own_by (fun _ k => st20.trans k) ?_
 show own_Go p e below _ (T20.setTop (mkF m 27 #[vR a0, vR a1] [(.ref a0)]))
 refine own_by (fun _ k => XS.pop X20.here hx rfl (hb hby d31_27) rfl rfl k) ?_
 show own_Go p e below _ (T20.setTop (mkF m 28 #[vR a0, vR a1] []))
 refine own_by (fun _ k => XS.aloadN X20.here hx rfl (hb hby d31_28) rfl rfl k) ?_
 refine own_by (fun _ k => XS.aloadN X20.here hx rfl (hb hby d31_29) rfl rfl k) ?_
 obtain ⟨T21, h21, X21, e21, W21, st21⟩ := putF X20 hx hZ hown (host := "") (Or.inl (hwd 207 rfl)) Via.refl e20 F20 A20 (Or.inl (hwd 203 rfl)) (hwd 31 rfl) (ty := (.object "java/lang/String")) (by decide) rfl rfl (g := (mkF m 30 #[vR a0, vR a1] [(.ref a1), (.ref a0)])) rfl rfl (hb hby d31_30)
 have Fw21 : Fld Z h21 a0 "java/lang/Throwable" "detailMessage" "Ljava/lang/String;" (.ref a1) := F20.same W21
 have K21 : Keep h0 h21 [a0] := K20.wr W21 (Or.inl (List.mem_of_getElem? (i := 0) rfl))
 have Z21 : n0 ≤ h21.size := Nat.le_trans Z20 (Keep.of_wr W21).1
 have N21 := Fr.snoc X21 N20 g_a0
 refine own_by st21 ?_
 show own_Go p e below _ (T21.setTop (mkF m 33 #[vR a0, vR a1] []))
 have F22 : Exa Z h21 a0 "com/example/model_check_sql/modelchecksql/model/ModelFormatException" := (A20.wr W21)
 exact own_ret0 X21 hx Bd.returns (hb hby d31_33) hlk e21 ⟨rfl, N21, K21, F22, Fw21⟩ (by decide) (by decide)
theorem d30_0 : decode jdk_59_method_2_code 0 = .ok (.aload_n 0, 1) := by decide +kernel
theorem d30_1 : decode jdk_59_method_2_code 1 = .ok (.aload_n 1, 1) := by decide +kernel
theorem d30_2 : decode jdk_59_method_2_code 2 = .ok (.invokespecial 7, 3) := by decide +kernel
theorem d30_5 : decode jdk_59_method_2_code 5 = .ok (.return_, 1) := by decide +kernel
theorem pn_30 : plainName "java/lang/Exception" = true := by first | (simp [plainName, overriddenIn]; done) | decide +kernel
theorem ef_30 (m : MethodId) (a0 : Addr) (a1 : Addr) : entryFrame m #[(.ref a0), (.ref a1)] 2 = mkF m 0 #[vR a0, vR a1] [] := by first | (simp [entryFrame, mkF, argsToLocals, Value.category]; done) | rfl
def Q30 (Z : State) (f_US : Addr) (f_SS : Value) (a0 : Addr) (a1 : Addr) (f_a0_cause : Value) (f_a0_stackTrace : Value) (f_a0_suppressedExceptions : Value) (f_a0_detailMessage : Value) (f_a0_depth : Int32) (h0 : Heap) (n0 : Nat) (v : Option Value) (h : Heap) (L : List Loc) : Prop := v = none ∧ Fr n0 L ∧ Keep h0 h [a0] ∧ Exa Z h a0 "com/example/model_check_sql/modelchecksql/model/ModelFormatException" ∧ Fld Z h a0 "java/lang/Throwable" "detailMessage" "Ljava/lang/String;" (.ref a1)
set_option maxRecDepth 65536 in
set_option maxHeartbeats 40000000 in
theorem rm30 (l : Launch) (Z : State) (A0 : Array Value) (hw : ∀ d ∈ tables_1, d.before A0 Z = true) (ws : List Jvm.Cond) (f_US : Addr) (f_SS : Value) (a0 : Addr) (a1 : Addr) (f_a0_cause : Value) (f_a0_stackTrace : Value) (f_a0_suppressedExceptions : Value) (f_a0_detailMessage : Value) (f_a0_depth : Int32) (h0 : Heap) (n0 : Nat) (Z0 : n0 ≤ h0.size) (P_E_a0 : Exa Z h0 a0 "com/example/model_check_sql/modelchecksql/model/ModelFormatException") (P_U_a0 : Unt h0 a0) (P_F_a0_backtrace : Fld Z h0 a0 "java/lang/Throwable" "backtrace" "Ljava/lang/Object;" .null) (P_S_US : Sta Z h0 "java/lang/Throwable" "UNASSIGNED_STACK" "[Ljava/lang/StackTraceElement;" (.ref f_US)) (P_S_SS : Sta Z h0 "java/lang/Throwable" "SUPPRESSED_SENTINEL" "Ljava/util/List;" f_SS) (hr_f_SS : f_SS.isRef = true) (P_T : ThS Z h0) (P_F_a0_cause : Fld Z h0 a0 "java/lang/Throwable" "cause" "Ljava/lang/Throwable;" f_a0_cause) (P_F_a0_stackTrace : Fld Z h0 a0 "java/lang/Throwable" "stackTrace" "[Ljava/lang/StackTraceElement;" f_a0_stackTrace) (P_F_a0_suppressedExceptions : Fld Z h0 a0 "java/lang/Throwable" "suppressedExceptions" "Ljava/util/List;" f_a0_suppressedExceptions) (hr_f_a0_detailMessage : f_a0_detailMessage.isRef = true) (P_F_a0_detailMessage : Fld Z h0 a0 "java/lang/Throwable" "detailMessage" "Ljava/lang/String;" f_a0_detailMessage) (P_F_a0_depth : Fld Z h0 a0 "java/lang/Throwable" "depth" "I" (.int f_a0_depth)) (g_a0 : n0 ≤ a0) (hl0 : l.stackTraces = true) :
    MetFree l (⟨"java/lang/Exception", "<init>", "(Ljava/lang/String;)V"⟩ : MethodName) (head1 (Jvm.Cond.code (⟨"java/lang/Exception", "<init>", "(Ljava/lang/String;)V"⟩ : MethodName) jdk_59_method_2_code 2 none :: ws) ({ frames := 4, cells := 1, slots := 2752, locals := 55 } : Room)) (fun a U => a = #[(.ref a0), (.ref a1)] ∧ Z.Warmed39 U.vm ∧ U.heap = h0) (fun _ _ bl s _ => s.vm.MethodsKnown ∧ s.vm.FramesKnown bl) (fun _ U o U' => ∃ v L, o = .returned v ∧ Q30 Z f_US f_SS a0 a1 f_a0_cause f_a0_stackTrace f_a0_suppressedExceptions f_a0_detailMessage f_a0_depth h0 n0 v U'.heap L ∧ FrameEnd U o U' L 1 2752) := by
 refine MetFree.of_bodySF (plainFor_of_name pn_30) hisR ?_
 intro p e s m args below meth c s₁ Bd hml0 hP hK
 obtain ⟨rfl, hZ, hh⟩ := hP
 have hwd := fun i {d : Jvm.Cond} (h : tables_1[i]? = some d) => hw d (List.mem_of_getElem? h)
 have hx := Bd.exec
 have hby := Bd.bytes
 have hml : c.maxLocals = 2 := hml0
 have hlk : meth.locks = false := Bd.notSynchronized
 have hown : s.vm.findClass "java/lang/Exception" = some m.cls := findClass_of_methodNamed Bd.named
 have hnm := (name_of_methodNamed Bd.named Bd.method).1
 have X0 : Stand p l e ({ frames := 4, cells := 1, slots := 2752, locals := 55 } : Room) s m #[(.ref a0), (.ref a1)] below meth c s₁ [] 0 0 := Stand.of_body Bd
 have e0 : s₁.heap = h0 := by rw [← hh, Bd.state]; rfl
 have N0 := Fr.nil n0
 show own_Go p e below (own_Fin s 1 2752 (Q30 Z f_US f_SS a0 a1 f_a0_cause f_a0_stackTrace f_a0_suppressedExceptions f_a0_detailMessage f_a0_depth h0 n0)) _
 refine own_by (fun t k => castTop (ef_30 m a0 a1) k) ?_
 show own_Go p e below _ (s₁.setTop (mkF m 0 #[vR a0, vR a1] []))
 refine own_by (fun _ k => XS.aloadN X0.here hx rfl (hb hby d30_0) rfl rfl k) ?_
 refine own_by (fun _ k => XS.aloadN X0.here hx rfl (hb hby d30_1) rfl rfl k) ?_
 obtain ⟨_, _, ⟨T1, L1, k1, n1⟩, -, X1, ⟨Lc1, hQ1, l1, y1, z1⟩, st1⟩ := X0.specialBack hx (y := (⟨"java/lang/Throwable", "<init>", "(Ljava/lang/String;)V"⟩ : MethodName)) rfl hown (mvT hZ (hwd 165 rfl)) (mvT hZ (hwd 166 rfl)) (mvT hZ (hwd 170 rfl)) (by decide) (backOfKL (W := 0) (rm31 l Z A0 hw [] f_US f_SS a0 a1 f_a0_cause f_a0_stackTrace f_a0_suppressedExceptions f_a0_detailMessage f_a0_depth h0 n0 Z0 P_E_a0 P_U_a0 P_F_a0_backtrace P_S_US P_S_SS hr_f_SS P_T P_F_a0_cause g_a0 P_F_a0_stackTrace P_F_a0_suppressedExceptions hl0 hr_f_a0_detailMessage P_F_a0_detailMessage P_F_a0_depth) hZ (hwd 170 rfl) (hwd 169 rfl) (by decide) (by decide) hK.1 hK.2) (g := (mkF m 2 #[vR a0, vR a1] [(.ref a1), (.ref a0)])) rfl (by rw [hml]; rfl) (Steps.refl _) (a := a0) (argsL := [(.ref a1)]) (rest := []) (lenOf pd_84 rfl) rfl (by show 2 * 0 + _ ≤ _; exact Nat.le_of_eq rfl) (hb hby d30_2) (fun _ _ => ⟨rfl, e0, (by decide : 0 + 1 ≤ _), (by decide : 0 + 2752 ≤ _)⟩)
 dsimp only [Pt.U, Pt.locs, Pt.cells, Pt.slots] at X1 l1 y1 z1 st1 hQ1
 subst l1 y1 z1
 obtain ⟨rfl, Nq1, Kq1, F2, F3⟩ := hQ1
 have N1 := Fr.app N0 Nq1
 have K1 : Keep h0 T1.heap [a0] := (Keep.refl h0 [a0]).trans Kq1 ((allS (Or.inl (List.mem_of_getElem? (i := 0) rfl)) all0))
 have Z1 : n0 ≤ T1.heap.size := Nat.le_trans Z0 Kq1.1
 refine own_by (fun _ k => st1.trans k) ?_
 show own_Go p e below _ (T1.setTop (mkF m 5 #[vR a0, vR a1] []))
 exact own_ret0 X1 hx Bd.returns (hb hby d30_5) hlk rfl ⟨rfl, N1, K1, F2, F3⟩ (by decide) (by decide)
theorem d29_0 : decode jdk_58_method_2_code 0 = .ok (.aload_n 0, 1) := by decide +kernel
theorem d29_1 : decode jdk_58_method_2_code 1 = .ok (.aload_n 1, 1) := by decide +kernel
theorem d29_2 : decode jdk_58_method_2_code 2 = .ok (.invokespecial 7, 3) := by decide +kernel
theorem d29_5 : decode jdk_58_method_2_code 5 = .ok (.return_, 1) := by decide +kernel
theorem pn_29 : plainName "java/lang/RuntimeException" = true := by first | (simp [plainName, overriddenIn]; done) | decide +kernel
theorem ef_29 (m : MethodId) (a0 : Addr) (a1 : Addr) : entryFrame m #[(.ref a0), (.ref a1)] 2 = mkF m 0 #[vR a0, vR a1] [] := by first | (simp [entryFrame, mkF, argsToLocals, Value.category]; done) | rfl
def Q29 (Z : State) (f_US : Addr) (f_SS : Value) (a0 : Addr) (a1 : Addr) (f_a0_cause : Value) (f_a0_stackTrace : Value) (f_a0_suppressedExceptions : Value) (f_a0_detailMessage : Value) (f_a0_depth : Int32) (h0 : Heap) (n0 : Nat) (v : Option Value) (h : Heap) (L : List Loc) : Prop := v = none ∧ Fr n0 L ∧ Keep h0 h [a0] ∧ Exa Z h a0 "com/example/model_check_sql/modelchecksql/model/ModelFormatException" ∧ Fld Z h a0 "java/lang/Throwable" "detailMessage" "Ljava/lang/String;" (.ref a1)
set_option maxRecDepth 65536 in
set_option maxHeartbeats 40000000 in
theorem rm29 (l : Launch) (Z : State) (A0 : Array Value) (hw : ∀ d ∈ tables_1, d.before A0 Z = true) (ws : List Jvm.Cond) (f_US : Addr) (f_SS : Value) (a0 : Addr) (a1 : Addr) (f_a0_cause : Value) (f_a0_stackTrace : Value) (f_a0_suppressedExceptions : Value) (f_a0_detailMessage : Value) (f_a0_depth : Int32) (h0 : Heap) (n0 : Nat) (Z0 : n0 ≤ h0.size) (P_E_a0 : Exa Z h0 a0 "com/example/model_check_sql/modelchecksql/model/ModelFormatException") (P_U_a0 : Unt h0 a0) (P_F_a0_backtrace : Fld Z h0 a0 "java/lang/Throwable" "backtrace" "Ljava/lang/Object;" .null) (P_S_US : Sta Z h0 "java/lang/Throwable" "UNASSIGNED_STACK" "[Ljava/lang/StackTraceElement;" (.ref f_US)) (P_S_SS : Sta Z h0 "java/lang/Throwable" "SUPPRESSED_SENTINEL" "Ljava/util/List;" f_SS) (hr_f_SS : f_SS.isRef = true) (P_T : ThS Z h0) (P_F_a0_cause : Fld Z h0 a0 "java/lang/Throwable" "cause" "Ljava/lang/Throwable;" f_a0_cause) (P_F_a0_stackTrace : Fld Z h0 a0 "java/lang/Throwable" "stackTrace" "[Ljava/lang/StackTraceElement;" f_a0_stackTrace) (P_F_a0_suppressedExceptions : Fld Z h0 a0 "java/lang/Throwable" "suppressedExceptions" "Ljava/util/List;" f_a0_suppressedExceptions) (hr_f_a0_detailMessage : f_a0_detailMessage.isRef = true) (P_F_a0_detailMessage : Fld Z h0 a0 "java/lang/Throwable" "detailMessage" "Ljava/lang/String;" f_a0_detailMessage) (P_F_a0_depth : Fld Z h0 a0 "java/lang/Throwable" "depth" "I" (.int f_a0_depth)) (g_a0 : n0 ≤ a0) (hl0 : l.stackTraces = true) :
    MetFree l (⟨"java/lang/RuntimeException", "<init>", "(Ljava/lang/String;)V"⟩ : MethodName) (head1 (Jvm.Cond.code (⟨"java/lang/RuntimeException", "<init>", "(Ljava/lang/String;)V"⟩ : MethodName) jdk_58_method_2_code 2 none :: ws) ({ frames := 5, cells := 1, slots := 2752, locals := 68 } : Room)) (fun a U => a = #[(.ref a0), (.ref a1)] ∧ Z.Warmed39 U.vm ∧ U.heap = h0) (fun _ _ bl s _ => s.vm.MethodsKnown ∧ s.vm.FramesKnown bl) (fun _ U o U' => ∃ v L, o = .returned v ∧ Q29 Z f_US f_SS a0 a1 f_a0_cause f_a0_stackTrace f_a0_suppressedExceptions f_a0_detailMessage f_a0_depth h0 n0 v U'.heap L ∧ FrameEnd U o U' L 1 2752) := by
 refine MetFree.of_bodySF (plainFor_of_name pn_29) hisR ?_
 intro p e s m args below meth c s₁ Bd hml0 hP hK
 obtain ⟨rfl, hZ, hh⟩ := hP
 have hwd := fun i {d : Jvm.Cond} (h : tables_1[i]? = some d) => hw d (List.mem_of_getElem? h)
 have hx := Bd.exec
 have hby := Bd.bytes
 have hml : c.maxLocals = 2 := hml0
 have hlk : meth.locks = false := Bd.notSynchronized
 have hown : s.vm.findClass "java/lang/RuntimeException" = some m.cls := findClass_of_methodNamed Bd.named
 have hnm := (name_of_methodNamed Bd.named Bd.method).1
 have X0 : Stand p l e ({ frames := 5, cells := 1, slots := 2752, locals := 68 } : Room) s m #[(.ref a0), (.ref a1)] below meth c s₁ [] 0 0 := Stand.of_body Bd
 have e0 : s₁.heap = h0 := by rw [← hh, Bd.state]; rfl
 have N0 := Fr.nil n0
 show own_Go p e below (own_Fin s 1 2752 (Q29 Z f_US f_SS a0 a1 f_a0_cause f_a0_stackTrace f_a0_suppressedExceptions f_a0_detailMessage f_a0_depth h0 n0)) _
 refine own_by (fun t k => castTop (ef_29 m a0 a1) k) ?_
 show own_Go p e below _ (s₁.setTop (mkF m 0 #[vR a0, vR a1] []))
 refine own_by (fun _ k => XS.aloadN X0.here hx rfl (hb hby d29_0) rfl rfl k) ?_
 refine own_by (fun _ k => XS.aloadN X0.here hx rfl (hb hby d29_1) rfl rfl k) ?_
 obtain ⟨_, _, ⟨T1, L1, k1, n1⟩, -, X1, ⟨Lc1, hQ1, l1, y1, z1⟩, st1⟩ := X0.specialBack hx (y := (⟨"java/lang/Exception", "<init>", "(Ljava/lang/String;)V"⟩ : MethodName)) rfl hown (mvT hZ (hwd 159 rfl)) (mvT hZ (hwd 160 rfl)) (mvT hZ (hwd 164 rfl)) (by decide) (backOfKL (W := 0) (rm30 l Z A0 hw [] f_US f_SS a0 a1 f_a0_cause f_a0_stackTrace f_a0_suppressedExceptions f_a0_detailMessage f_a0_depth h0 n0 Z0 P_E_a0 P_U_a0 P_F_a0_backtrace P_S_US P_S_SS hr_f_SS P_T P_F_a0_cause P_F_a0_stackTrace P_F_a0_suppressedExceptions hr_f_a0_detailMessage P_F_a0_detailMessage P_F_a0_depth g_a0 hl0) hZ (hwd 164 rfl) (hwd 163 rfl) (by decide) (by decide) hK.1 hK.2) (g := (mkF m 2 #[vR a0, vR a1] [(.ref a1), (.ref a0)])) rfl (by rw [hml]; rfl) (Steps.refl _) (a := a0) (argsL := [(.ref a1)]) (rest := []) (lenOf pd_84 rfl) rfl (by show 2 * 0 + _ ≤ _; exact Nat.le_of_eq rfl) (hb hby d29_2) (fun _ _ => ⟨rfl, e0, (by decide : 0 + 1 ≤ _), (by decide : 0 + 2752 ≤ _)⟩)
 dsimp only [Pt.U, Pt.locs, Pt.cells, Pt.slots] at X1 l1 y1 z1 st1 hQ1
 subst l1 y1 z1
 obtain ⟨rfl, Nq1, Kq1, F2, F3⟩ := hQ1
 have N1 := Fr.app N0 Nq1
 have K1 : Keep h0 T1.heap [a0] := (Keep.refl h0 [a0]).trans Kq1 ((allS (Or.inl (List.mem_of_getElem? (i := 0) rfl)) all0))
 have Z1 : n0 ≤ T1.heap.size := Nat.le_trans Z0 Kq1.1
 refine own_by (fun _ k => st1.trans k) ?_
 show own_Go p e below _ (T1.setTop (mkF m 5 #[vR a0, vR a1] []))
 exact own_ret0 X1 hx Bd.returns (hb hby d29_5) hlk rfl ⟨rfl, N1, K1, F2, F3⟩ (by decide) (by decide)
theorem d28_0 : decode jdk_57_method_2_code 0 = .ok (.aload_n 0, 1) := by decide +kernel
theorem d28_1 : decode jdk_57_method_2_code 1 = .ok (.aload_n 1, 1) := by decide +kernel
theorem d28_2 : decode jdk_57_method_2_code 2 = .ok (.invokespecial 7, 3) := by decide +kernel
theorem d28_5 : decode jdk_57_method_2_code 5 = .ok (.return_, 1) := by decide +kernel
theorem pn_28 : plainName "java/lang/IllegalArgumentException" = true := by first | (simp [plainName, overriddenIn]; done) | decide +kernel
theorem ef_28 (m : MethodId) (a0 : Addr) (a1 : Addr) : entryFrame m #[(.ref a0), (.ref a1)] 2 = mkF m 0 #[vR a0, vR a1] [] := by first | (simp [entryFrame, mkF, argsToLocals, Value.category]; done) | rfl
def Q28 (Z : State) (f_US : Addr) (f_SS : Value) (a0 : Addr) (a1 : Addr) (f_a0_cause : Value) (f_a0_stackTrace : Value) (f_a0_suppressedExceptions : Value) (f_a0_detailMessage : Value) (f_a0_depth : Int32) (h0 : Heap) (n0 : Nat) (v : Option Value) (h : Heap) (L : List Loc) : Prop := v = none ∧ Fr n0 L ∧ Keep h0 h [a0] ∧ Exa Z h a0 "com/example/model_check_sql/modelchecksql/model/ModelFormatException" ∧ Fld Z h a0 "java/lang/Throwable" "detailMessage" "Ljava/lang/String;" (.ref a1)
set_option maxRecDepth 65536 in
set_option maxHeartbeats 40000000 in
theorem rm28 (l : Launch) (Z : State) (A0 : Array Value) (hw : ∀ d ∈ tables_1, d.before A0 Z = true) (ws : List Jvm.Cond) (f_US : Addr) (f_SS : Value) (a0 : Addr) (a1 : Addr) (f_a0_cause : Value) (f_a0_stackTrace : Value) (f_a0_suppressedExceptions : Value) (f_a0_detailMessage : Value) (f_a0_depth : Int32) (h0 : Heap) (n0 : Nat) (Z0 : n0 ≤ h0.size) (P_E_a0 : Exa Z h0 a0 "com/example/model_check_sql/modelchecksql/model/ModelFormatException") (P_U_a0 : Unt h0 a0) (P_F_a0_backtrace : Fld Z h0 a0 "java/lang/Throwable" "backtrace" "Ljava/lang/Object;" .null) (P_S_US : Sta Z h0 "java/lang/Throwable" "UNASSIGNED_STACK" "[Ljava/lang/StackTraceElement;" (.ref f_US)) (P_S_SS : Sta Z h0 "java/lang/Throwable" "SUPPRESSED_SENTINEL" "Ljava/util/List;" f_SS) (hr_f_SS : f_SS.isRef = true) (P_T : ThS Z h0) (P_F_a0_cause : Fld Z h0 a0 "java/lang/Throwable" "cause" "Ljava/lang/Throwable;" f_a0_cause) (P_F_a0_stackTrace : Fld Z h0 a0 "java/lang/Throwable" "stackTrace" "[Ljava/lang/StackTraceElement;" f_a0_stackTrace) (P_F_a0_suppressedExceptions : Fld Z h0 a0 "java/lang/Throwable" "suppressedExceptions" "Ljava/util/List;" f_a0_suppressedExceptions) (hr_f_a0_detailMessage : f_a0_detailMessage.isRef = true) (P_F_a0_detailMessage : Fld Z h0 a0 "java/lang/Throwable" "detailMessage" "Ljava/lang/String;" f_a0_detailMessage) (P_F_a0_depth : Fld Z h0 a0 "java/lang/Throwable" "depth" "I" (.int f_a0_depth)) (g_a0 : n0 ≤ a0) (hl0 : l.stackTraces = true) :
    MetFree l (⟨"java/lang/IllegalArgumentException", "<init>", "(Ljava/lang/String;)V"⟩ : MethodName) (head1 (Jvm.Cond.code (⟨"java/lang/IllegalArgumentException", "<init>", "(Ljava/lang/String;)V"⟩ : MethodName) jdk_57_method_2_code 2 none :: ws) ({ frames := 6, cells := 1, slots := 2752, locals := 81 } : Room)) (fun a U => a = #[(.ref a0), (.ref a1)] ∧ Z.Warmed39 U.vm ∧ U.heap = h0) (fun _ _ bl s _ => s.vm.MethodsKnown ∧ s.vm.FramesKnown bl) (fun _ U o U' => ∃ v L, o = .returned v ∧ Q28 Z f_US f_SS a0 a1 f_a0_cause f_a0_stackTrace f_a0_suppressedExceptions f_a0_detailMessage f_a0_depth h0 n0 v U'.heap L ∧ FrameEnd U o U' L 1 2752) := by
 refine MetFree.of_bodySF (plainFor_of_name pn_28) hisR ?_
 intro p e s m args below meth c s₁ Bd hml0 hP hK
 obtain ⟨rfl, hZ, hh⟩ := hP
 have hwd := fun i {d : Jvm.Cond} (h : tables_1[i]? = some d) => hw d (List.mem_of_getElem? h)
 have hx := Bd.exec
 have hby := Bd.bytes
 have hml : c.maxLocals = 2 := hml0
 have hlk : meth.locks = false := Bd.notSynchronized
 have hown : s.vm.findClass "java/lang/IllegalArgumentException" = some m.cls := findClass_of_methodNamed Bd.named
 have hnm := (name_of_methodNamed Bd.named Bd.method).1
 have X0 : Stand p l e ({ frames := 6, cells := 1, slots := 2752, locals := 81 } : Room) s m #[(.ref a0), (.ref a1)] below meth c s₁ [] 0 0 := Stand.of_body Bd
 have e0 : s₁.heap = h0 := by rw [← hh, Bd.state]; rfl
 have N0 := Fr.nil n0
 show own_Go p e below (own_Fin s 1 2752 (Q28 Z f_US f_SS a0 a1 f_a0_cause f_a0_stackTrace f_a0_suppressedExceptions f_a0_detailMessage f_a0_depth h0 n0)) _
 refine own_by (fun t k => castTop (ef_28 m a0 a1) k) ?_
 show own_Go p e below _ (s₁.setTop (mkF m 0 #[vR a0, vR a1] []))
 refine own_by (fun _ k => XS.aloadN X0.here hx rfl (hb hby d28_0) rfl rfl k) ?_
 refine own_by (fun _ k => XS.aloadN X0.here hx rfl (hb hby d28_1) rfl rfl k) ?_
 obtain ⟨_, _, ⟨T1, L1, k1, n1⟩, -, X1, ⟨Lc1, hQ1, l1, y1, z1⟩, st1⟩ := X0.specialBack hx (y := (⟨"java/lang/RuntimeException", "<init>", "(Ljava/lang/String;)V"⟩ : MethodName)) rfl hown (mvT hZ (hwd 153 rfl)) (mvT hZ (hwd 154 rfl)) (mvT hZ (hwd 158 rfl)) (by decide) (backOfKL (W := 0) (rm29 l Z A0 hw [] f_US f_SS a0 a1 f_a0_cause f_a0_stackTrace f_a0_suppressedExceptions f_a0_detailMessage f_a0_depth h0 n0 Z0 P_E_a0 P_U_a0 P_F_a0_backtrace P_S_US P_S_SS hr_f_SS P_T P_F_a0_cause P_F_a0_stackTrace P_F_a0_suppressedExceptions hr_f_a0_detailMessage P_F_a0_detailMessage P_F_a0_depth g_a0 hl0) hZ (hwd 158 rfl) (hwd 157 rfl) (by decide) (by decide) hK.1 hK.2) (g := (mkF m 2 #[vR a0, vR a1] [(.ref a1), (.ref a0)])) rfl (by rw [hml]; rfl) (Steps.refl _) (a := a0) (argsL := [(.ref a1)]) (rest := []) (lenOf pd_84 rfl) rfl (by show 2 * 0 + _ ≤ _; exact Nat.le_of_eq rfl) (hb hby d28_2) (fun _ _ => ⟨rfl, e0, (by decide : 0 + 1 ≤ _), (by decide : 0 + 2752 ≤ _)⟩)
 dsimp only [Pt.U, Pt.locs, Pt.cells, Pt.slots] at X1 l1 y1 z1 st1 hQ1
 subst l1 y1 z1
 obtain ⟨rfl, Nq1, Kq1, F2, F3⟩ := hQ1
 have N1 := Fr.app N0 Nq1
 have K1 : Keep h0 T1.heap [a0] := (Keep.refl h0 [a0]).trans Kq1 ((allS (Or.inl (List.mem_of_getElem? (i := 0) rfl)) all0))
 have Z1 : n0 ≤ T1.heap.size := Nat.le_trans Z0 Kq1.1
 refine own_by (fun _ k => st1.trans k) ?_
 show own_Go p e below _ (T1.setTop (mkF m 5 #[vR a0, vR a1] []))
 exact own_ret0 X1 hx Bd.returns (hb hby d28_5) hlk rfl ⟨rfl, N1, K1, F2, F3⟩ (by decide) (by decide)
theorem d27_0 : decode prog_20_method_1_code 0 = .ok (.aload_n 0, 1) := by decide +kernel
theorem d27_1 : decode prog_20_method_1_code 1 = .ok (.aload_n 1, 1) := by decide +kernel
theorem d27_2 : decode prog_20_method_1_code 2 = .ok (.invokespecial 1, 3) := by decide +kernel
theorem d27_5 : decode prog_20_method_1_code 5 = .ok (.return_, 1) := by decide +kernel
theorem pn_27 : plainName "com/example/model_check_sql/modelchecksql/model/ModelFormatException" = true := by first | (simp [plainName, overriddenIn]; done) | decide +kernel
theorem ef_27 (m : MethodId) (a0 : Addr) (a1 : Addr) : entryFrame m #[(.ref a0), (.ref a1)] 2 = mkF m 0 #[vR a0, vR a1] [] := by first | (simp [entryFrame, mkF, argsToLocals, Value.category]; done) | rfl
def Q27 (Z : State) (f_US : Addr) (f_SS : Value) (a0 : Addr) (a1 : Addr) (f_a0_cause : Value) (f_a0_stackTrace : Value) (f_a0_suppressedExceptions : Value) (f_a0_detailMessage : Value) (f_a0_depth : Int32) (h0 : Heap) (n0 : Nat) (v : Option Value) (h : Heap) (L : List Loc) : Prop := v = none ∧ Fr n0 L ∧ Keep h0 h [a0] ∧ Exa Z h a0 "com/example/model_check_sql/modelchecksql/model/ModelFormatException" ∧ Fld Z h a0 "java/lang/Throwable" "detailMessage" "Ljava/lang/String;" (.ref a1)
set_option maxRecDepth 65536 in
set_option maxHeartbeats 40000000 in
theorem rm27 (l : Launch) (Z : State) (A0 : Array Value) (hw : ∀ d ∈ tables_1, d.before A0 Z = true) (ws : List Jvm.Cond) (f_US : Addr) (f_SS : Value) (a0 : Addr) (a1 : Addr) (f_a0_cause : Value) (f_a0_stackTrace : Value) (f_a0_suppressedExceptions : Value) (f_a0_detailMessage : Value) (f_a0_depth : Int32) (h0 : Heap) (n0 : Nat) (Z0 : n0 ≤ h0.size) (P_E_a0 : Exa Z h0 a0 "com/example/model_check_sql/modelchecksql/model/ModelFormatException") (P_U_a0 : Unt h0 a0) (P_F_a0_backtrace : Fld Z h0 a0 "java/lang/Throwable" "backtrace" "Ljava/lang/Object;" .null) (P_S_US : Sta Z h0 "java/lang/Throwable" "UNASSIGNED_STACK" "[Ljava/lang/StackTraceElement;" (.ref f_US)) (P_S_SS : Sta Z h0 "java/lang/Throwable" "SUPPRESSED_SENTINEL" "Ljava/util/List;" f_SS) (hr_f_SS : f_SS.isRef = true) (P_T : ThS Z h0) (P_F_a0_cause : Fld Z h0 a0 "java/lang/Throwable" "cause" "Ljava/lang/Throwable;" f_a0_cause) (P_F_a0_stackTrace : Fld Z h0 a0 "java/lang/Throwable" "stackTrace" "[Ljava/lang/StackTraceElement;" f_a0_stackTrace) (P_F_a0_suppressedExceptions : Fld Z h0 a0 "java/lang/Throwable" "suppressedExceptions" "Ljava/util/List;" f_a0_suppressedExceptions) (hr_f_a0_detailMessage : f_a0_detailMessage.isRef = true) (P_F_a0_detailMessage : Fld Z h0 a0 "java/lang/Throwable" "detailMessage" "Ljava/lang/String;" f_a0_detailMessage) (P_F_a0_depth : Fld Z h0 a0 "java/lang/Throwable" "depth" "I" (.int f_a0_depth)) (g_a0 : n0 ≤ a0) (hl0 : l.stackTraces = true) :
    MetFree l (⟨"com/example/model_check_sql/modelchecksql/model/ModelFormatException", "<init>", "(Ljava/lang/String;)V"⟩ : MethodName) (head1 (Jvm.Cond.code (⟨"com/example/model_check_sql/modelchecksql/model/ModelFormatException", "<init>", "(Ljava/lang/String;)V"⟩ : MethodName) prog_20_method_1_code 2 none :: ws) ({ frames := 7, cells := 1, slots := 2752, locals := 94 } : Room)) (fun a U => a = #[(.ref a0), (.ref a1)] ∧ Z.Warmed39 U.vm ∧ U.heap = h0) (fun _ _ bl s _ => s.vm.MethodsKnown ∧ s.vm.FramesKnown bl) (fun _ U o U' => ∃ v L, o = .returned v ∧ Q27 Z f_US f_SS a0 a1 f_a0_cause f_a0_stackTrace f_a0_suppressedExceptions f_a0_detailMessage f_a0_depth h0 n0 v U'.heap L ∧ FrameEnd U o U' L 1 2752) := by
 refine MetFree.of_bodySF (plainFor_of_name pn_27) hisR ?_
 intro p e s m args below meth c s₁ Bd hml0 hP hK
 obtain ⟨rfl, hZ, hh⟩ := hP
 have hwd := fun i {d : Jvm.Cond} (h : tables_1[i]? = some d) => hw d (List.mem_of_getElem? h)
 have hx := Bd.exec
 have hby := Bd.bytes
 have hml : c.maxLocals = 2 := hml0
 have hlk : meth.locks = false := Bd.notSynchronized
 have hown : s.vm.findClass "com/example/model_check_sql/modelchecksql/model/ModelFormatException" = some m.cls := findClass_of_methodNamed Bd.named
 have hnm := (name_of_methodNamed Bd.named Bd.method).1
 have X0 : Stand p l e ({ frames := 7, cells := 1, slots := 2752, locals := 94 } : Room) s m #[(.ref a0), (.ref a1)] below meth c s₁ [] 0 0 := Stand.of_body Bd
 have e0 : s₁.heap = h0 := by rw [← hh, Bd.state]; rfl
 have N0 := Fr.nil n0
 show own_Go p e below (own_Fin s 1 2752 (Q27 Z f_US f_SS a0 a1 f_a0_cause f_a0_stackTrace f_a0_suppressedExceptions f_a0_detailMessage f_a0_depth h0 n0)) _
 refine own_by (fun t k => castTop (ef_27 m a0 a1) k) ?_
 show own_Go p e below _ (s₁.setTop (mkF m 0 #[vR a0, vR a1] []))
 refine own_by (fun _ k => XS.aloadN X0.here hx rfl (hb hby d27_0) rfl rfl k) ?_
 refine own_by (fun _ k => XS.aloadN X0.here hx rfl (hb hby d27_1) rfl rfl k) ?_
 obtain ⟨_, _, ⟨T1, L1, k1, n1⟩, -, X1, ⟨Lc1, hQ1, l1, y1, z1⟩, st1⟩ := X0.specialBack hx (y := (⟨"java/lang/IllegalArgumentException", "<init>", "(Ljava/lang/String;)V"⟩ : MethodName)) rfl hown (mvT hZ (hwd 148 rfl)) (mvT hZ (hwd 149 rfl)) (mvT hZ (hwd 152 rfl)) (by decide) (backOfKL (W := 0) (rm28 l Z A0 hw [] f_US f_SS a0 a1 f_a0_cause f_a0_stackTrace f_a0_suppressedExceptions f_a0_detailMessage f_a0_depth h0 n0 Z0 P_E_a0 P_U_a0 P_F_a0_backtrace P_S_US P_S_SS hr_f_SS P_T P_F_a0_cause P_F_a0_stackTrace P_F_a0_suppressedExceptions hr_f_a0_detailMessage P_F_a0_detailMessage P_F_a0_depth g_a0 hl0) hZ (hwd 152 rfl) (hwd 151 rfl) (by decide) (by decide) hK.1 hK.2) (g := (mkF m 2 #[vR a0, vR a1] [(.ref a1), (.ref a0)])) rfl (by rw [hml]; rfl) (Steps.refl _) (a := a0) (argsL := [(.ref a1)]) (rest := []) (lenOf pd_84 rfl) rfl (by show 2 * 0 + _ ≤ _; exact Nat.le_of_eq rfl) (hb hby d27_2) (fun _ _ => ⟨rfl, e0, (by decide : 0 + 1 ≤ _), (by decide : 0 + 2752 ≤ _)⟩)
 dsimp only [Pt.U, Pt.locs, Pt.cells, Pt.slots] at X1 l1 y1 z1 st1 hQ1
 subst l1 y1 z1
 obtain ⟨rfl, Nq1, Kq1, F2, F3⟩ := hQ1
 have N1 := Fr.app N0 Nq1
 have K1 : Keep h0 T1.heap [a0] := (Keep.refl h0 [a0]).trans Kq1 ((allS (Or.inl (List.mem_of_getElem? (i := 0) rfl)) all0))
 have Z1 : n0 ≤ T1.heap.size := Nat.le_trans Z0 Kq1.1
 refine own_by (fun _ k => st1.trans k) ?_
 show own_Go p e below _ (T1.setTop (mkF m 5 #[vR a0, vR a1] []))
 exact own_ret0 X1 hx Bd.returns (hb hby d27_5) hlk rfl ⟨rfl, N1, K1, F2, F3⟩ (by decide) (by decide)
theorem pd_15 : parseMethodDescriptor "()V" = some ⟨[], none⟩ := by decide +kernel
theorem pd_51 : parseMethodDescriptor "(Ljava/lang/String;)Ljava/lang/StringBuilder;" = some ⟨[(.object "java/lang/String")], some (.object "java/lang/StringBuilder")⟩ := by decide +kernel
theorem pd_100 : parseMethodDescriptor "()Ljava/lang/String;" = some ⟨[], some (.object "java/lang/String")⟩ := by decide +kernel
theorem d5_0 : decode prog_21_method_6_code 0 = .ok (.new 23, 3) := by decide +kernel
theorem d5_3 : decode prog_21_method_6_code 3 = .ok (.dup, 1) := by decide +kernel
theorem d5_4 : decode prog_21_method_6_code 4 = .ok (.new 82, 3) := by decide +kernel
theorem d5_7 : decode prog_21_method_6_code 7 = .ok (.dup, 1) := by decide +kernel
theorem d5_8 : decode prog_21_method_6_code 8 = .ok (.invokespecial 84, 3) := by decide +kernel
theorem d5_11 : decode prog_21_method_6_code 11 = .ok (.aload_n 0, 1) := by decide +kernel
theorem d5_12 : decode prog_21_method_6_code 12 = .ok (.invokevirtual 85, 3) := by decide +kernel
theorem d5_15 : decode prog_21_method_6_code 15 = .ok (.ldc 95, 2) := by decide +kernel
theorem d5_17 : decode prog_21_method_6_code 17 = .ok (.invokevirtual 85, 3) := by decide +kernel
theorem d5_20 : decode prog_21_method_6_code 20 = .ok (.aload_n 1, 1) := by decide +kernel
theorem d5_21 : decode prog_21_method_6_code 21 = .ok (.invokevirtual 85, 3) := by decide +kernel
theorem d5_24 : decode prog_21_method_6_code 24 = .ok (.invokevirtual 91, 3) := by decide +kernel
theorem d5_27 : decode prog_21_method_6_code 27 = .ok (.invokespecial 92, 3) := by decide +kernel
theorem d5_30 : decode prog_21_method_6_code 30 = .ok (.areturn, 1) := by decide +kernel
theorem pn_loc : plainName "com/example/model_check_sql/modelchecksql/model/ModelReading" = true := by first | (simp [plainName, overriddenIn]; done) | decide +kernel
theorem ef_loc (m : MethodId) (a0 : Addr) (a1 : Addr) : entryFrame m #[(.ref a0), (.ref a1)] 2 = mkF m 0 #[vR a0, vR a1] [] := by first | (simp [entryFrame, mkF, argsToLocals, Value.category]; done) | rfl
def Qloc (Z : State) (t_a0 : Addr) (k_t_a0 : ClassId) (n_t_a0 : Int32) (fn_t_a0 : Nat → Int32) (t_a1 : Addr) (k_t_a1 : ClassId) (n_t_a1 : Int32) (fn_t_a1 : Nat → Int32) (f_CS : Int32) (f_US : Addr) (f_SS : Value) (a0 : Addr) (a1 : Addr) (h0 : Heap) (n0 : Nat) (v : Option Value) (h : Heap) (L : List Loc) : Prop := ∃ (b1 : Addr) (b51 : Addr) (b52 : Addr) (b53 : ClassId), v = some (.ref b1) ∧ Fr n0 L ∧ Keep h0 h [] ∧ (n0 ≤ b1) ∧ (h0.size ≤ b1) ∧ Exa Z h b1 "com/example/model_check_sql/modelchecksql/model/ModelFormatException" ∧ Fld Z h b1 "java/lang/Throwable" "detailMessage" "Ljava/lang/String;" (.ref b51) ∧ (n0 ≤ b51) ∧ (h0.size ≤ b51) ∧ Exa Z h b51 "java/lang/String" ∧ Fld Z h b51 "java/lang/String" "coder" "B" (.int (0 : Int32)) ∧ Fld Z h b51 "java/lang/String" "value" "[B" (.ref b52) ∧ (n0 ≤ b52) ∧ (h0.size ≤ b52) ∧ own_Arf Z h b52 b53 .byte ((((0 : Int32) + n_t_a0) + (2 : Int32)) + n_t_a1) (fun i => .int ((own_cp (own_cp fn_t_a1 0 (own_cp (own_li [58, 32]) 0 (own_cp fn_t_a0 0 (fun _ => (0 : Int32)) 0 (n_t_a0).toNatClampNeg) (((0 : Int32) + n_t_a0)).toNatClampNeg 2) ((((0 : Int32) + n_t_a0) + (2 : Int32))).toNatClampNeg (n_t_a1).toNatClampNeg) 0 (fun _ => (0 : Int32)) 0 (((((0 : Int32) + n_t_a0) + (2 : Int32)) + n_t_a1)).toNatClampNeg) i)) ∧ (b1 ≠ b51) ∧ (b1 ≠ b52) ∧ (b51 ≠ b52)
set_option maxRecDepth 65536 in
set_option maxHeartbeats 40000000 in
theorem rmloc (l : Launch) (Z : State) (A0 : Array Value) (hw : ∀ d ∈ tables_1, d.before A0 Z = true) (ws : List Jvm.Cond) (t_a0 : Addr) (k_t_a0 : ClassId) (n_t_a0 : Int32) (fn_t_a0 : Nat → Int32) (t_a1 : Addr) (k_t_a1 : ClassId) (n_t_a1 : Int32) (fn_t_a1 : Nat → Int32) (f_CS : Int32) (f_US : Addr) (f_SS : Value) (a0 : Addr) (a1 : Addr) (h0 : Heap) (n0 : Nat) (Z0 : n0 ≤ h0.size) (P_E_a0 : Exa Z h0 a0 "java/lang/String") (P_F_a0_coder : Fld Z h0 a0 "java/lang/String" "coder" "B" (.int (0 : Int32))) (P_F_a0_value : Fld Z h0 a0 "java/lang/String" "value" "[B" (.ref t_a0)) (P_V_t_a0 : own_Arf Z h0 t_a0 k_t_a0 .byte n_t_a0 (fun i => .int (fn_t_a0 i))) (P_E_a1 : Exa Z h0 a1 "java/lang/String") (P_F_a1_coder : Fld Z h0 a1 "java/lang/String" "coder" "B" (.int (0 : Int32))) (P_F_a1_value : Fld Z h0 a1 "java/lang/String" "value" "[B" (.ref t_a1)) (P_V_t_a1 : own_Arf Z h0 t_a1 k_t_a1 .byte n_t_a1 (fun i => .int (fn_t_a1 i))) (P_S_CS : Sta Z h0 "java/lang/String" "COMPACT_STRINGS" "Z" (.int f_CS)) (hn_CS : ¬ (f_CS = (0 : Int32))) (P_S_US : Sta Z h0 "java/lang/Throwable" "UNASSIGNED_STACK" "[Ljava/lang/StackTraceElement;" (.ref f_US)) (P_S_SS : Sta Z h0 "java/lang/Throwable" "SUPPRESSED_SENTINEL" "Ljava/util/List;" f_SS) (hr_f_SS : f_SS.isRef = true) (P_T : ThS Z h0) (hp_2 : ¬ ((0 : Int32) < (((0 : Int32) + n_t_a0) - (16 : Int32)))) (hp_3 : ¬ n_t_a0 < 0) (hp_4 : 0 + (n_t_a0).toNatClampNeg ≤ (n_t_a0).toNatClampNeg) (hp_5 : 0 + (n_t_a0).toNatClampNeg ≤ 16) (hp_6 : ¬ ((0 : Int32) < ((((0 : Int32) + n_t_a0) + (2 : Int32)) - (16 : Int32)))) (hp_7 : ¬ ((0 : Int32) + n_t_a0) < 0) (hp_8 : (((0 : Int32) + n_t_a0)).toNatClampNeg + 2 ≤ 16) (hp_9 : ¬ ((0 : Int32) < (((((0 : Int32) + n_t_a0) + (2 : Int32)) + n_t_a1) - (16 : Int32)))) (hp_10 : ¬ (((0 : Int32) + n_t_a0) + (2 : Int32)) < 0) (hp_11 : ¬ n_t_a1 < 0) (hp_12 : 0 + (n_t_a1).toNatClampNeg ≤ (n_t_a1).toNatClampNeg) (hp_13 : ((((0 : Int32) + n_t_a0) + (2 : Int32))).toNatClampNeg + (n_t_a1).toNatClampNeg ≤ 16) (hp_14 : ¬ (((((0 : Int32) + n_t_a0) + (2 : Int32)) + n_t_a1) = (16 : Int32))) (hp_15 : ¬ (((((0 : Int32) + n_t_a0) + (2 : Int32)) + n_t_a1) < (0 : Int32))) (hp_16 : (((((0 : Int32) + n_t_a0) + (2 : Int32)) + n_t_a1)).toNatClampNeg ≤ 16) (hp_17 : ((((0 : Int32) + n_t_a0) + (2 : Int32)) + n_t_a1) < (16 : Int32)) (hp_18 : ¬ ((((0 : Int32) + n_t_a0) + (2 : Int32)) + n_t_a1) < 0) (hp_19 : 0 + (((((0 : Int32) + n_t_a0) + (2 : Int32)) + n_t_a1)).toNatClampNeg ≤ 16) (hp_20 : 0 + (((((0 : Int32) + n_t_a0) + (2 : Int32)) + n_t_a1)).toNatClampNeg ≤ (((((0 : Int32) + n_t_a0) + (2 : Int32)) + n_t_a1)).toNatClampNeg) (hl0 : l.stackTraces = true) :
    MetFree l (⟨"com/example/model_check_sql/modelchecksql/model/ModelReading", "located", "(Ljava/lang/String;Ljava/lang/String;)Lcom/example/model_check_sql/modelchecksql/model/ModelFormatException;"⟩ : MethodName) (head1 (Jvm.Cond.code (⟨"com/example/model_check_sql/modelchecksql/model/ModelReading", "located", "(Ljava/lang/String;Ljava/lang/String;)Lcom/example/model_check_sql/modelchecksql/model/ModelFormatException;"⟩ : MethodName) prog_21_method_6_code 2 (some (.object "com/example/model_check_sql/modelchecksql/model/ModelFormatException")) :: ws) ({ frames := 8, cells := 8, slots := 2810, locals := 108 } : Room)) (fun a U => a = #[(.ref a0), (.ref a1)] ∧ Z.Warmed39 U.vm ∧ U.heap = h0 ∧ CHv Z consts_1 U.vm h0) (fun _ _ bl s _ => s.vm.MethodsKnown ∧ s.vm.FramesKnown bl) (fun _ U o U' => ∃ v L, o = .returned v ∧ Qloc Z t_a0 k_t_a0 n_t_a0 fn_t_a0 t_a1 k_t_a1 n_t_a1 fn_t_a1 f_CS f_US f_SS a0 a1 h0 n0 v U'.heap L ∧ CHr Z consts_1 U.vm U.heap U'.vm U'.heap ∧ ReturnedEndW U o U' L 8 2810) := by
 refine MetFree.of_bodySF (plainFor_of_name pn_loc) hisR ?_
 intro p e s m args below meth c s₁ Bd hml0 hP hK
 obtain ⟨rfl, hZ, hh, hC0⟩ := hP
 have hwd := fun i {d : Jvm.Cond} (h : tables_1[i]? = some d) => hw d (List.mem_of_getElem? h)
 have hx := Bd.exec
 have hby := Bd.bytes
 have hml : c.maxLocals = 2 := hml0
 have hlk : meth.locks = false := Bd.notSynchronized
 have hown : s.vm.findClass "com/example/model_check_sql/modelchecksql/model/ModelReading" = some m.cls := findClass_of_methodNamed Bd.named
 have hnm := (name_of_methodNamed Bd.named Bd.method).1
 have X0 : Stand p l e ({ frames := 8, cells := 8, slots := 2810, locals := 108 } : Room) (s.setVm s.vm) m #[(.ref a0), (.ref a1)] below meth c s₁ [] 0 0 := Stand.of_body Bd
 have e0 : s₁.heap = h0 := by rw [← hh, Bd.state]; rfl
 have N0 := Fr.nil n0
 have hEL := own_EW hw
 have hwS := fun a ha => hw a (own_atoms a ha)
 have CR0 : CHr Z consts_1 s.vm h0 s.vm h0 := CHr.refl hC0
 obtain ⟨kc0, hkc0⟩ : ∃ z, z = h0.size := ⟨_, rfl⟩
 have hk0 : kc0 ≤ h0.size := Nat.le_of_eq hkc0
 have hS : s.Since s.vm kc0 := own_since s kc0
 show own_Go p e below (own_FinW Z consts_1 s 8 2810 (Qloc Z t_a0 k_t_a0 n_t_a0 fn_t_a0 t_a1 k_t_a1 n_t_a1 fn_t_a1 f_CS f_US f_SS a0 a1 h0 n0)) _
 refine own_by (fun t k => castTop (ef_loc m a0 a1) k) ?_
 show own_Go p e below _ (s₁.setTop (mkF m 0 #[vR a0, vR a1] []))
 obtain ⟨T1, h1, X1, e1, E1, A1, D1, U1, st1⟩ := newO X0 hx hZ hown (hwd 30 rfl) (hwd 31 rfl) (hwd 32 rfl) e0 (g := (mkF m 0 #[vR a0, vR a1] [])) rfl (hb hby d5_0) (by decide) (by decide)
 obtain ⟨b1, g1⟩ : ∃ z, z = h0.size := ⟨_, rfl⟩
 have ge_b1 : n0 ≤ b1 := Nat.le_trans Z0 (Nat.le_of_eq g1.symm)
 have sz_b1 : h0.size ≤ b1 := Nat.le_trans (Keep.refl h0 []).1 (Nat.le_of_eq g1.symm)
 have R1 : CHr Z consts_1 s.vm h0 s.vm h1 := CHr.ext E1 CR0.1
 have CR1 : CHr Z consts_1 s.vm h0 s.vm h1 := CR0.trans R1
 have hk1 : kc0 ≤ h1.size := Nat.le_trans hk0 E1.1
 have S_b1 : Safe Z consts_1 s.vm h1 b1 := Safe.ext E1 CR0.1 (Safe.new (Nat.le_of_eq g1.symm))
 have K1 : Keep h0 h1 [] := (Keep.refl h0 []).ext E1
 have Z1 : n0 ≤ h1.size := Nat.le_trans Z0 E1.1
 rw [← g1] at A1 D1 U1 st1
 have U1' : Unt h1 b1 := U1
 have lt_b1 := A1.lt
 have F_cause_b1 : Fld Z h1 b1 "java/lang/Throwable" "cause" "Ljava/lang/Throwable;" .null := D1 (Or.inl (hwd 173 rfl)) (ty := (.object "java/lang/Throwable")) (by decide)
 have F_stackTrace_b1 : Fld Z h1 b1 "java/lang/Throwable" "stackTrace" "[Ljava/lang/StackTraceElement;" .null := D1 (Or.inl (hwd 176 rfl)) (ty := (.array (.object "java/lang/StackTraceElement"))) (by decide)
 have F_suppressedExceptions_b1 : Fld Z h1 b1 "java/lang/Throwable" "suppressedExceptions" "Ljava/util/List;" .null := D1 (Or.inl (hwd 179 rfl)) (ty := (.object "java/util/List")) (by decide)
 have F_detailMessage_b1 : Fld Z h1 b1 "java/lang/Throwable" "detailMessage" "Ljava/lang/String;" .null := D1 (Or.inl (hwd 203 rfl)) (ty := (.object "java/lang/String")) (by decide)
 have F_backtrace_b1 : Fld Z h1 b1 "java/lang/Throwable" "backtrace" "Ljava/lang/Object;" .null := D1 (Or.inl (hwd 204 rfl)) (ty := (.object "java/lang/Object")) (by decide)
 have F_depth_b1 : Fld Z h1 b1 "java/lang/Throwable" "depth" "I" (.int (0 : Int32)) := D1 (Or.inl (hwd 205 rfl)) (ty := .int) (by decide)
 refine own_by st1 ?_
 show own_Go p e below _ (T1.setTop (mkF m 3 #[vR a0, vR a1] [(.ref b1)]))
 refine own_by (fun _ k => XS.dup X1.here hx rfl (hb hby d5_3) rfl rfl k) ?_
 show own_Go p e below _ (T1.setTop (mkF m 4 #[vR a0, vR a1] [(.ref b1), (.ref b1)]))
 obtain ⟨T2, h2, X2, e2, E2, A2, D2, -, st2⟩ := newO X1 hx hZ hown (hwd 33 rfl) (hwd 34 rfl) (hwd 35 rfl) e1 (g := (mkF m 4 #[vR a0, vR a1] [(.ref b1), (.ref b1)])) rfl (hb hby d5_4) (by decide) (by decide)
 obtain ⟨b2, g2⟩ : ∃ z, z = h1.size := ⟨_, rfl⟩
 have ge_b2 : n0 ≤ b2 := Nat.le_trans Z1 (Nat.le_of_eq g2.symm)
 have sz_b2 : h0.size ≤ b2 := Nat.le_trans K1.1 (Nat.le_of_eq g2.symm)
 have R2 : CHr Z consts_1 s.vm h1 s.vm h2 := CHr.ext E2 CR1.1
 have CR2 : CHr Z consts_1 s.vm h0 s.vm h2 := CR1.trans R2
 have hk2 : kc0 ≤ h2.size := Nat.le_trans hk1 E2.1
 have S_b2 : Safe Z consts_1 s.vm h2 b2 := Safe.ext E2 CR1.1 (Safe.new (Nat.le_of_eq g2.symm))
 have K2 : Keep h0 h2 [] := K1.ext E2
 have Z2 : n0 ≤ h2.size := Nat.le_trans Z1 E2.1
 rw [← g2] at A2 D2 st2
 have lt_b2 := A2.lt
 have F_value_b2 : Fld Z h2 b2 "java/lang/AbstractStringBuilder" "value" "[B" .null := D2 (Or.inl (hwd 48 rfl)) (ty := (.array .byte)) (by decide)
 have F_coder_b2 : Fld Z h2 b2 "java/lang/AbstractStringBuilder" "coder" "B" (.int (0 : Int32)) := D2 (Or.inl (hwd 50 rfl)) (ty := .byte) (by decide)
 have F_count_b2 : Fld Z h2 b2 "java/lang/AbstractStringBuilder" "count" "I" (.int (0 : Int32)) := D2 (Or.inl (hwd 73 rfl)) (ty := .int) (by decide)
 refine own_by st2 ?_
 show own_Go p e below _ (T2.setTop (mkF m 7 #[vR a0, vR a1] [(.ref b2), (.ref b1), (.ref b1)]))
 refine own_by (fun _ k => XS.dup X2.here hx rfl (hb hby d5_7) rfl rfl k) ?_
 show own_Go p e below _ (T2.setTop (mkF m 8 #[vR a0, vR a1] [(.ref b2), (.ref b2), (.ref b1), (.ref b1)]))
 have F3 : Sta Z h2 "java/lang/String" "COMPACT_STRINGS" "Z" (.int f_CS) := ((P_S_CS.ext E1).ext E2)
 obtain ⟨_, _, ⟨T4, L4, k4, n4⟩, -, X4, ⟨Lc4, hQ4, l4, y4, z4⟩, st4⟩ := X2.specialBack hx (y := (⟨"java/lang/StringBuilder", "<init>", "()V"⟩ : MethodName)) rfl hown (mvT hZ (hwd 36 rfl)) (mvT hZ (hwd 37 rfl)) (mvT hZ (hwd 38 rfl)) (by decide) (backOf (W := 3) (rm6 l Z A0 hw [] f_CS b2 (.null) (0 : Int32) (0 : Int32) h2 n0 Z2 A2 F3 hn_CS F_value_b2 F_coder_b2 F_count_b2 ge_b2) hZ (hwd 38 rfl) (hwd 35 rfl) (by decide) (by decide)) (g := (mkF m 8 #[vR a0, vR a1] [(.ref b2), (.ref b2), (.ref b1), (.ref b1)])) rfl (by rw [hml]; rfl) (Steps.refl _) (a := b2) (argsL := []) (rest := [(.ref b2), (.ref b1), (.ref b1)]) (lenOf pd_15 rfl) rfl (by show 2 * 0 + _ ≤ _; exact Nat.le_of_eq rfl) (hb hby d5_8) (fun _ _ => ⟨rfl, e2, (by decide : 2 + 1 ≤ _), (by decide : 10 + 16 ≤ _)⟩)
 dsimp only [Pt.U, Pt.locs, Pt.cells, Pt.slots] at X4 l4 y4 z4 st4 hQ4
 subst l4 y4 z4
 obtain ⟨b5, b6, rfl, Nq4, Kq4, F7, F8, F9, F10, hp11, hp12, F13⟩ := hQ4
 have N4 := Fr.app N0 Nq4
 have R4 : CHr Z consts_1 s.vm h2 s.vm T4.heap := CHr.keep Kq4 ((allS (Safe.exa hZ.alike A2 (by decide) (by decide)) all0)) CR2.1
 have CR4 : CHr Z consts_1 s.vm h0 s.vm T4.heap := CR2.trans R4
 have hk4 : kc0 ≤ T4.heap.size := Nat.le_trans hk2 Kq4.1
 have K4 : Keep h0 T4.heap [] := K2.trans Kq4 ((allS (Or.inr sz_b2) all0))
 have Z4 : n0 ≤ T4.heap.size := Nat.le_trans Z2 Kq4.1
 have sz_b5 : h0.size ≤ b5 := Nat.le_trans K2.1 hp12
 have S_b5 : Safe Z consts_1 s.vm T4.heap b5 := Safe.keep Kq4 ((allS (Safe.exa hZ.alike A2 (by decide) (by decide)) all0)) CR2.1 (Safe.new hp12)
 have lt_b5 := F13.lt
 refine own_by (fun _ k => st4.trans k) ?_
 show own_Go p e below _ (T4.setTop (mkF m 11 #[vR a0, vR a1] [(.ref b2), (.ref b1), (.ref b1)]))
 refine own_by (fun _ k => XS.aloadN X4.here hx rfl (hb hby d5_11) rfl rfl k) ?_
 have F14 : Exa Z T4.heap a0 "java/lang/String" := (((P_E_a0.ext E1).ext E2).keep Kq4)
 have F15 : Fld Z T4.heap a0 "java/lang/String" "coder" "B" (.int (0 : Int32)) := (((P_F_a0_coder.ext E1).ext E2).keep Kq4 (ninS (Nat.ne_of_lt (Nat.lt_of_lt_of_le ((P_E_a0.ext E1)).lt (Nat.le_of_eq g2.symm))) nin0))
 have F16 : Fld Z T4.heap a0 "java/lang/String" "value" "[B" (.ref t_a0) := (((P_F_a0_value.ext E1).ext E2).keep Kq4 (ninS (Nat.ne_of_lt (Nat.lt_of_lt_of_le ((P_E_a0.ext E1)).lt (Nat.le_of_eq g2.symm))) nin0))
 have F17 : own_Arf Z T4.heap t_a0 k_t_a0 .byte n_t_a0 (fun i => .int (fn_t_a0 i)) := (((P_V_t_a0.ext E1).ext E2).keep Kq4 (ninS (Nat.ne_of_lt (Nat.lt_of_lt_of_le ((P_V_t_a0.ext E1)).lt (Nat.le_of_eq g2.symm))) nin0))
 have F18 : Sta Z T4.heap "java/lang/String" "COMPACT_STRINGS" "Z" (.int f_CS) := (own_staKeep F3 Kq4 (allS (own_exaPlain A2) all0))
 obtain ⟨cq19, kq19, qq19a, qq19b, qq19c⟩ := isOf hZ rfl F7
 obtain ⟨_, _, ⟨T19, L19, k19, n19⟩, -, X19, ⟨Lc19, hQ19, l19, y19, z19⟩, st19⟩ := X4.virtualBack hx (y := (⟨"java/lang/StringBuilder", "append", "(Ljava/lang/String;)Ljava/lang/StringBuilder;"⟩ : MethodName)) (z := (⟨"java/lang/StringBuilder", "append", "(Ljava/lang/String;)Ljava/lang/StringBuilder;"⟩ : MethodName)) hown (mvT hZ (hwd 51 rfl)) (mvT hZ (hwd 52 rfl)) (notFace_of_selects (args := #[]) (mvT hZ (hwd 54 rfl))) (mvT hZ (hwd 54 rfl)) (mvT hZ (hwd 53 rfl)) (by decide) (backOf (W := 2) (rm8 l Z A0 hw [] b5 (0 : Int32) b6 (fun _ => (0 : Int32)) t_a0 k_t_a0 n_t_a0 fn_t_a0 f_CS b2 a0 T4.heap n0 Z4 F7 F9 F8 F10 F13 F14 F15 F16 F17 F18 hn_CS hp_2 (show ¬ (0 : Int32) < 0 by decide) hp_3 hp_4 hp_5 hp11 ge_b2) hZ (hwd 55 rfl) (hwd 35 rfl) (by decide) (by decide)) qq19a qq19c (g := (mkF m 12 #[vR a0, vR a1] [(.ref a0), (.ref b2), (.ref b1), (.ref b1)])) rfl (by rw [hml]; rfl) (Steps.refl _) (argsL := [(.ref a0)]) (rest := [(.ref b1), (.ref b1)]) (lenOf pd_51 rfl) rfl (by show 2 * 0 + _ ≤ _; exact Nat.le_of_eq rfl) (hb hby d5_12) (fun _ _ => ⟨rfl, rfl, (by decide : 3 + 0 ≤ _), (by decide : 26 + 0 ≤ _)⟩)
 dsimp only [Pt.U, Pt.locs, Pt.cells, Pt.slots] at X19 l19 y19 z19 st19 hQ19
 subst l19 y19 z19
 obtain ⟨rfl, Nq19, Kq19, F20, F21, F22, F23, F24⟩ := hQ19
 have N19 := Fr.app N4 Nq19
 have R19 : CHr Z consts_1 s.vm T4.heap s.vm T19.heap := CHr.keep Kq19 ((allS (Safe.exa hZ.alike F7 (by decide) (by decide)) (allS S_b5 all0))) CR4.1
 have CR19 : CHr Z consts_1 s.vm h0 s.vm T19.heap := CR4.trans R19
 have hk19 : kc0 ≤ T19.heap.size := Nat.le_trans hk4 Kq19.1
 have K19 : Keep h0 T19.heap [] := K4.trans Kq19 ((allS (Or.inr sz_b2) (allS (Or.inr sz_b5) all0)))
 have Z19 : n0 ≤ T19.heap.size := Nat.le_trans Z4 Kq19.1
 refine own_by (fun _ k => st19.trans k) ?_
 show own_Go p e below _ (T19.setTop (mkF m 15 #[vR a0, vR a1] [(.ref b2), (.ref b1), (.ref b1)]))
 obtain ⟨b25, T25, h25, kc25, t25, kk25, X25, e25, E25, hS, hk25, hZ, hown, A25, C25, F25, V25, lt25, ltb25, R25, Li25, -, st25⟩ := ldcCH X19 hx hZ hown (hwd 99 rfl) hwS rfl hS hk19 hEL (by decide) CR19.1 (vs := ([58, 32] : List Int32).map Value.int) (z := (2 : Int32)) ⟨by decide, by decide⟩ (by decide) (by decide) (g := (mkF m 15 #[vR a0, vR a1] [(.ref b2), (.ref b1), (.ref b1)])) rfl (hb hby d5_15) (n := 8) (by decide) (by decide) (by decide) (by decide)
 have V25' : own_Arf Z h25 t25 kk25 .byte (2 : Int32) (fun i => .int ((own_li [58, 32]) i)) := own_arfLi V25
 have CR25 : CHr Z consts_1 s.vm h0 T25.vm h25 := CR19.trans R25
 have K25 : Keep h0 h25 [] := K19.ext E25
 have Z25 : n0 ≤ h25.size := Nat.le_trans Z19 E25.1
 refine own_by st25 ?_
 show own_Go p e below _ (T25.setTop (mkF m 17 #[vR a0, vR a1] [(.ref b25), (.ref b2), (.ref b1), (.ref b1)]))
 have F26 : Exa Z h25 b2 "java/lang/StringBuilder" := (F20.ext E25)
 have F27 : Fld Z h25 b2 "java/lang/AbstractStringBuilder" "coder" "B" (.int (0 : Int32)) := (F21.ext E25)
 have F28 : Fld Z h25 b2 "java/lang/AbstractStringBuilder" "value" "[B" (.ref b5) := (F22.ext E25)
 have F29 : Fld Z h25 b2 "java/lang/AbstractStringBuilder" "count" "I" (.int ((0 : Int32) + n_t_a0)) := (F23.ext E25)
 have F30 : own_Arf Z h25 b5 b6 .byte (16 : Int32) (fun i => .int ((own_cp fn_t_a0 0 (fun _ => (0 : Int32)) 0 (n_t_a0).toNatClampNeg) i)) := (F24.ext E25)
 have F31 : Sta Z h25 "java/lang/String" "COMPACT_STRINGS" "Z" (.int f_CS) := ((own_staKeep F18 Kq19 (allS (own_exaPlain F7) (allS (own_arfPlain F13) all0))).ext E25)
 obtain ⟨cq32, kq32, qq32a, qq32b, qq32c⟩ := isOf hZ e25 F26
 obtain ⟨_, _, ⟨T32, L32, k32, n32⟩, -, X32, ⟨Lc32, hQ32, l32, y32, z32⟩, st32⟩ := X25.virtualBack hx (y := (⟨"java/lang/StringBuilder", "append", "(Ljava/lang/String;)Ljava/lang/StringBuilder;"⟩ : MethodName)) (z := (⟨"java/lang/StringBuilder", "append", "(Ljava/lang/String;)Ljava/lang/StringBuilder;"⟩ : MethodName)) hown (mvT hZ (hwd 51 rfl)) (mvT hZ (hwd 52 rfl)) (notFace_of_selects (args := #[]) (mvT hZ (hwd 54 rfl))) (mvT hZ (hwd 54 rfl)) (mvT hZ (hwd 53 rfl)) (by decide) (backOf (W := 2) (rm8 l Z A0 hw [] b5 ((0 : Int32) + n_t_a0) b6 (own_cp fn_t_a0 0 (fun _ => (0 : Int32)) 0 (n_t_a0).toNatClampNeg) t25 kk25 (2 : Int32) (own_li [58, 32]) f_CS b2 b25 h25 n0 Z25 F26 F27 F28 F29 F30 A25 C25 F25 V25' F31 hn_CS hp_6 hp_7 (show ¬ (2 : Int32) < 0 by decide) (show 0 + 2 ≤ 2 by decide) hp_8 hp11 ge_b2) hZ (hwd 55 rfl) (hwd 35 rfl) (by decide) (by decide)) qq32a qq32c (g := (mkF m 17 #[vR a0, vR a1] [(.ref b25), (.ref b2), (.ref b1), (.ref b1)])) rfl (by rw [hml]; rfl) (Steps.refl _) (argsL := [(.ref b25)]) (rest := [(.ref b1), (.ref b1)]) (lenOf pd_51 rfl) rfl (by show 2 * 0 + _ ≤ _; exact Nat.le_of_eq rfl) (hb hby d5_17) (fun _ _ => ⟨rfl, e25, (by decide : 5 + 0 ≤ _), (by decide : 38 + 0 ≤ _)⟩)
 dsimp only [Pt.U, Pt.locs, Pt.cells, Pt.slots] at X32 l32 y32 z32 st32 hQ32
 subst l32 y32 z32
 obtain ⟨rfl, Nq32, Kq32, F33, F34, F35, F36, F37⟩ := hQ32
 have N32 := Fr.app N19 Nq32
 have R32 : CHr Z consts_1 T25.vm h25 T25.vm T32.heap := CHr.keep Kq32 ((allS (Safe.exa hZ.alike F26 (by decide) (by decide)) (allS (CHr.safe (R19.trans R25) lt_b5 S_b5) all0))) CR25.1
 have CR32 : CHr Z consts_1 s.vm h0 T25.vm T32.heap := CR25.trans R32
 have hk32 : kc25 ≤ T32.heap.size := Nat.le_trans hk25 Kq32.1
 have K32 : Keep h0 T32.heap [] := K25.trans Kq32 ((allS (Or.inr sz_b2) (allS (Or.inr sz_b5) all0)))
 have Z32 : n0 ≤ T32.heap.size := Nat.le_trans Z25 Kq32.1
 refine own_by (fun _ k => st32.trans k) ?_
 show own_Go p e below _ (T32.setTop (mkF m 20 #[vR a0, vR a1] [(.ref b2), (.ref b1), (.ref b1)]))
 refine own_by (fun _ k => XS.aloadN X32.here hx rfl (hb hby d5_20) rfl rfl k) ?_
 have F38 : Exa Z T32.heap a1 "java/lang/String" := ((((((P_E_a1.ext E1).ext E2).keep Kq4).keep Kq19).ext E25).keep Kq32)
 have F39 : Fld Z T32.heap a1 "java/lang/String" "coder" "B" (.int (0 : Int32)) := ((((((P_F_a1_coder.ext E1).ext E2).keep Kq4 (ninS (Nat.ne_of_lt (Nat.lt_of_lt_of_le ((P_E_a1.ext E1)).lt (Nat.le_of_eq g2.symm))) nin0)).keep Kq19 (ninS (Nat.ne_of_lt (Nat.lt_of_lt_of_le ((P_E_a1.ext E1)).lt (Nat.le_of_eq g2.symm))) (ninS (Nat.ne_of_lt (Nat.lt_of_lt_of_le (((P_E_a1.ext E1).ext E2)).lt hp12)) nin0))).ext E25).keep Kq32 (ninS (Nat.ne_of_lt (Nat.lt_of_lt_of_le ((P_E_a1.ext E1)).lt (Nat.le_of_eq g2.symm))) (ninS (Nat.ne_of_lt (Nat.lt_of_lt_of_le (((P_E_a1.ext E1).ext E2)).lt hp12)) nin0)))
 have F40 : Fld Z T32.heap a1 "java/lang/String" "value" "[B" (.ref t_a1) := ((((((P_F_a1_value.ext E1).ext E2).keep Kq4 (ninS (Nat.ne_of_lt (Nat.lt_of_lt_of_le ((P_E_a1.ext E1)).lt (Nat.le_of_eq g2.symm))) nin0)).keep Kq19 (ninS (Nat.ne_of_lt (Nat.lt_of_lt_of_le ((P_E_a1.ext E1)).lt (Nat.le_of_eq g2.symm))) (ninS (Nat.ne_of_lt (Nat.lt_of_lt_of_le (((P_E_a1.ext E1).ext E2)).lt hp12)) nin0))).ext E25).keep Kq32 (ninS (Nat.ne_of_lt (Nat.lt_of_lt_of_le ((P_E_a1.ext E1)).lt (Nat.le_of_eq g2.symm))) (ninS (Nat.ne_of_lt (Nat.lt_of_lt_of_le (((P_E_a1.ext E1).ext E2)).lt hp12)) nin0)))
 have F41 : own_Arf Z T32.heap t_a1 k_t_a1 .byte n_t_a1 (fun i => .int (fn_t_a1 i)) := ((((((P_V_t_a1.ext E1).ext E2).keep Kq4 (ninS (Nat.ne_of_lt (Nat.lt_of_lt_of_le ((P_V_t_a1.ext E1)).lt (Nat.le_of_eq g2.symm))) nin0)).keep Kq19 (ninS (Nat.ne_of_lt (Nat.lt_of_lt_of_le ((P_V_t_a1.ext E1)).lt (Nat.le_of_eq g2.symm))) (ninS (Nat.ne_of_lt (Nat.lt_of_lt_of_le (((P_V_t_a1.ext E1).ext E2)).lt hp12)) nin0))).ext E25).keep Kq32 (ninS (Nat.ne_of_lt (Nat.lt_of_lt_of_le ((P_V_t_a1.ext E1)).lt (Nat.le_of_eq g2.symm))) (ninS (Nat.ne_of_lt (Nat.lt_of_lt_of_le (((P_V_t_a1.ext E1).ext E2)).lt hp12)) nin0)))
 have F42 : Sta Z T32.heap "java/lang/String" "COMPACT_STRINGS" "Z" (.int f_CS) := (own_staKeep F31 Kq32 (allS (own_exaPlain F26) (allS (own_arfPlain F30) all0)))
 obtain ⟨cq43, kq43, qq43a, qq43b, qq43c⟩ := isOf hZ rfl F33
 obtain ⟨_, _, ⟨T43, L43, k43, n43⟩, -, X43, ⟨Lc43, hQ43, l43, y43, z43⟩, st43⟩ := X32.virtualBack hx (y := (⟨"java/lang/StringBuilder", "append", "(Ljava/lang/String;)Ljava/lang/StringBuilder;"⟩ : MethodName)) (z := (⟨"java/lang/StringBuilder", "append", "(Ljava/lang/String;)Ljava/lang/StringBuilder;"⟩ : MethodName)) hown (mvT hZ (hwd 51 rfl)) (mvT hZ (hwd 52 rfl)) (notFace_of_selects (args := #[]) (mvT hZ (hwd 54 rfl))) (mvT hZ (hwd 54 rfl)) (mvT hZ (hwd 53 rfl)) (by decide) (backOf (W := 2) (rm8 l Z A0 hw [] b5 (((0 : Int32) + n_t_a0) + (2 : Int32)) b6 (own_cp (own_li [58, 32]) 0 (own_cp fn_t_a0 0 (fun _ => (0 : Int32)) 0 (n_t_a0).toNatClampNeg) (((0 : Int32) + n_t_a0)).toNatClampNeg 2) t_a1 k_t_a1 n_t_a1 fn_t_a1 f_CS b2 a1 T32.heap n0 Z32 F33 F34 F35 F36 F37 F38 F39 F40 F41 F42 hn_CS hp_9 hp_10 hp_11 hp_12 hp_13 hp11 ge_b2) hZ (hwd 55 rfl) (hwd 35 rfl) (by decide) (by decide)) qq43a qq43c (g := (mkF m 21 #[vR a0, vR a1] [(.ref a1), (.ref b2), (.ref b1), (.ref b1)])) rfl (by rw [hml]; rfl) (Steps.refl _) (argsL := [(.ref a1)]) (rest := [(.ref b1), (.ref b1)]) (lenOf pd_51 rfl) rfl (by show 2 * 0 + _ ≤ _; exact Nat.le_of_eq rfl) (hb hby d5_21) (fun _ _ => ⟨rfl, rfl, (by decide : 5 + 0 ≤ _), (by decide : 38 + 0 ≤ _)⟩)
 dsimp only [Pt.U, Pt.locs, Pt.cells, Pt.slots] at X43 l43 y43 z43 st43 hQ43
 subst l43 y43 z43
 obtain ⟨rfl, Nq43, Kq43, F44, F45, F46, F47, F48⟩ := hQ43
 have N43 := Fr.app N32 Nq43
 have R43 : CHr Z consts_1 T25.vm T32.heap T25.vm T43.heap := CHr.keep Kq43 ((allS (Safe.exa hZ.alike F33 (by decide) (by decide)) (allS (CHr.safe (R19.trans (R25.trans R32)) lt_b5 S_b5) all0))) CR32.1
 have CR43 : CHr Z consts_1 s.vm h0 T25.vm T43.heap := CR32.trans R43
 have hk43 : kc25 ≤ T43.heap.size := Nat.le_trans hk32 Kq43.1
 have K43 : Keep h0 T43.heap [] := K32.trans Kq43 ((allS (Or.inr sz_b2) (allS (Or.inr sz_b5) all0)))
 have Z43 : n0 ≤ T43.heap.size := Nat.le_trans Z32 Kq43.1
 refine own_by (fun _ k => st43.trans k) ?_
 show own_Go p e below _ (T43.setTop (mkF m 24 #[vR a0, vR a1] [(.ref b2), (.ref b1), (.ref b1)]))
 have F49 : Sta Z T43.heap "java/lang/String" "COMPACT_STRINGS" "Z" (.int f_CS) := (own_staKeep F42 Kq43 (allS (own_exaPlain F33) (allS (own_arfPlain F37) all0)))
 obtain ⟨cq50, kq50, qq50a, qq50b, qq50c⟩ := isOf hZ rfl F44
 obtain ⟨_, _, ⟨T50, L50, k50, n50⟩, -, X50, ⟨Lc50, hQ50, l50, y50, z50⟩, st50⟩ := X43.virtualBack hx (y := (⟨"java/lang/StringBuilder", "toString", "()Ljava/lang/String;"⟩ : MethodName)) (z := (⟨"java/lang/StringBuilder", "toString", "()Ljava/lang/String;"⟩ : MethodName)) hown (mvT hZ (hwd 100 rfl)) (mvT hZ (hwd 101 rfl)) (notFace_of_selects (args := #[]) (mvT hZ (hwd 103 rfl))) (mvT hZ (hwd 103 rfl)) (mvT hZ (hwd 102 rfl)) (by decide) (backOf (W := 2) (rmtos l Z A0 hw [] b5 ((((0 : Int32) + n_t_a0) + (2 : Int32)) + n_t_a1) b6 (own_cp fn_t_a1 0 (own_cp (own_li [58, 32]) 0 (own_cp fn_t_a0 0 (fun _ => (0 : Int32)) 0 (n_t_a0).toNatClampNeg) (((0 : Int32) + n_t_a0)).toNatClampNeg 2) ((((0 : Int32) + n_t_a0) + (2 : Int32))).toNatClampNeg (n_t_a1).toNatClampNeg) f_CS b2 T43.heap n0 Z43 F44 F45 F46 F47 F48 F49 hn_CS hp_14 hp_15 hp_16 hp_17 hp_18 hp_19 hp_20) hZ (hwd 104 rfl) (hwd 35 rfl) (by decide) (by decide)) qq50a qq50c (g := (mkF m 24 #[vR a0, vR a1] [(.ref b2), (.ref b1), (.ref b1)])) rfl (by rw [hml]; rfl) (Steps.refl _) (argsL := []) (rest := [(.ref b1), (.ref b1)]) (lenOf pd_100 rfl) rfl (by show 2 * 0 + _ ≤ _; exact Nat.le_of_eq rfl) (hb hby d5_24) (fun _ _ => ⟨rfl, rfl, (by decide : 5 + 2 ≤ _), (by decide : 38 + 20 ≤ _)⟩)
 dsimp only [Pt.U, Pt.locs, Pt.cells, Pt.slots] at X50 l50 y50 z50 st50 hQ50
 subst l50 y50 z50
 obtain ⟨b51, b52, b53, rfl, Nq50, Kq50, hp54, hp55, F56, F57, F58, hp59, hp60, F61, hp62⟩ := hQ50
 have N50 := Fr.app N43 Nq50
 have R50 : CHr Z consts_1 T25.vm T43.heap T25.vm T50.heap := CHr.keep Kq50 (all0) CR43.1
 have CR50 : CHr Z consts_1 s.vm h0 T25.vm T50.heap := CR43.trans R50
 have hk50 : kc25 ≤ T50.heap.size := Nat.le_trans hk43 Kq50.1
 have K50 : Keep h0 T50.heap [] := K43.trans Kq50 (all0)
 have Z50 : n0 ≤ T50.heap.size := Nat.le_trans Z43 Kq50.1
 have sz_b51 : h0.size ≤ b51 := Nat.le_trans K43.1 hp55
 have S_b51 : Safe Z consts_1 T25.vm T50.heap b51 := Safe.keep Kq50 (all0) CR43.1 (Safe.new hp55)
 have lt_b51 := F56.lt
 have sz_b52 : h0.size ≤ b52 := Nat.le_trans K43.1 hp60
 have S_b52 : Safe Z consts_1 T25.vm T50.heap b52 := Safe.keep Kq50 (all0) CR43.1 (Safe.new hp60)
 have lt_b52 := F61.lt
 refine own_by (fun _ k => st50.trans k) ?_
 show own_Go p e below _ (T50.setTop (mkF m 27 #[vR a0, vR a1] [(.ref b51), (.ref b1), (.ref b1)]))
 have F63 : Exa Z T50.heap b1 "com/example/model_check_sql/modelchecksql/model/ModelFormatException" := (((((((A1.ext E2).keep Kq4).keep Kq19).ext E25).keep Kq32).keep Kq43).keep Kq50)
 have F64 : Unt T50.heap b1 := (Unt.keep Kq50 nin0 (Unt.keep Kq43 (ninS (Nat.ne_of_lt (Nat.lt_of_lt_of_le (A1).lt (Nat.le_of_eq g2.symm))) (ninS (Nat.ne_of_lt (Nat.lt_of_lt_of_le ((A1.ext E2)).lt hp12)) nin0)) (Unt.keep Kq32 (ninS (Nat.ne_of_lt (Nat.lt_of_lt_of_le (A1).lt (Nat.le_of_eq g2.symm))) (ninS (Nat.ne_of_lt (Nat.lt_of_lt_of_le ((A1.ext E2)).lt hp12)) nin0)) ((Unt.keep Kq19 (ninS (Nat.ne_of_lt (Nat.lt_of_lt_of_le (A1).lt (Nat.le_of_eq g2.symm))) (ninS (Nat.ne_of_lt (Nat.lt_of_lt_of_le ((A1.ext E2)).lt hp12)) nin0)) (Unt.keep Kq4 (ninS (Nat.ne_of_lt (Nat.lt_of_lt_of_le (A1).lt (Nat.le_of_eq g2.symm))) nin0) (U1'.ext E2))).ext E25))))
 have F65 : Fld Z T50.heap b1 "java/lang/Throwable" "backtrace" "Ljava/lang/Object;" .null := (((((((F_backtrace_b1.ext E2).keep Kq4 (ninS (Nat.ne_of_lt (Nat.lt_of_lt_of_le (A1).lt (Nat.le_of_eq g2.symm))) nin0)).keep Kq19 (ninS (Nat.ne_of_lt (Nat.lt_of_lt_of_le (A1).lt (Nat.le_of_eq g2.symm))) (ninS (Nat.ne_of_lt (Nat.lt_of_lt_of_le ((A1.ext E2)).lt hp12)) nin0))).ext E25).keep Kq32 (ninS (Nat.ne_of_lt (Nat.lt_of_lt_of_le (A1).lt (Nat.le_of_eq g2.symm))) (ninS (Nat.ne_of_lt (Nat.lt_of_lt_of_le ((A1.ext E2)).lt hp12)) nin0))).keep Kq43 (ninS (Nat.ne_of_lt (Nat.lt_of_lt_of_le (A1).lt (Nat.le_of_eq g2.symm))) (ninS (Nat.ne_of_lt (Nat.lt_of_lt_of_le ((A1.ext E2)).lt hp12)) nin0))).keep Kq50 nin0)
 have F66 : Sta Z T50.heap "java/lang/Throwable" "UNASSIGNED_STACK" "[Ljava/lang/StackTraceElement;" (.ref f_US) := (own_staKeep (own_staKeep (own_staKeep ((own_staKeep (own_staKeep ((P_S_US.ext E1).ext E2) Kq4 (allS (own_exaPlain A2) all0)) Kq19 (allS (own_exaPlain F7) (allS (own_arfPlain F13) all0))).ext E25) Kq32 (allS (own_exaPlain F26) (allS (own_arfPlain F30) all0))) Kq43 (allS (own_exaPlain F33) (allS (own_arfPlain F37) all0))) Kq50 all0)
 have F67 : Sta Z T50.heap "java/lang/Throwable" "SUPPRESSED_SENTINEL" "Ljava/util/List;" f_SS := (own_staKeep (own_staKeep (own_staKeep ((own_staKeep (own_staKeep ((P_S_SS.ext E1).ext E2) Kq4 (allS (own_exaPlain A2) all0)) Kq19 (allS (own_exaPlain F7) (allS (own_arfPlain F13) all0))).ext E25) Kq32 (allS (own_exaPlain F26) (allS (own_arfPlain F30) all0))) Kq43 (allS (own_exaPlain F33) (allS (own_arfPlain F37) all0))) Kq50 all0)
 have F68 : ThS Z T50.heap := (ThS.keep Kq50 ns0 (ThS.keep Kq43 (nsS (own_exaPlain F33) (nsS (own_arfPlain F37) ns0)) (ThS.keep Kq32 (nsS (own_exaPlain F26) (nsS (own_arfPlain F30) ns0)) ((ThS.keep Kq19 (nsS (own_exaPlain F7) (nsS (own_arfPlain F13) ns0)) (ThS.keep Kq4 (nsS (own_exaPlain A2) ns0) ((P_T.ext E1).ext E2))).ext E25))))
 have F69 : Fld Z T50.heap b1 "java/lang/Throwable" "cause" "Ljava/lang/Throwable;" .null := (((((((F_cause_b1.ext E2).keep Kq4 (ninS (Nat.ne_of_lt (Nat.lt_of_lt_of_le (A1).lt (Nat.le_of_eq g2.symm))) nin0)).keep Kq19 (ninS (Nat.ne_of_lt (Nat.lt_of_lt_of_le (A1).lt (Nat.le_of_eq g2.symm))) (ninS (Nat.ne_of_lt (Nat.lt_of_lt_of_le ((A1.ext E2)).lt hp12)) nin0))).ext E25).keep Kq32 (ninS (Nat.ne_of_lt (Nat.lt_of_lt_of_le (A1).lt (Nat.le_of_eq g2.symm))) (ninS (Nat.ne_of_lt (Nat.lt_of_lt_of_le ((A1.ext E2)).lt hp12)) nin0))).keep Kq43 (ninS (Nat.ne_of_lt (Nat.lt_of_lt_of_le (A1).lt (Nat.le_of_eq g2.symm))) (ninS (Nat.ne_of_lt (Nat.lt_of_lt_of_le ((A1.ext E2)).lt hp12)) nin0))).keep Kq50 nin0)
 have F70 : Fld Z T50.heap b1 "java/lang/Throwable" "stackTrace" "[Ljava/lang/StackTraceElement;" .null := (((((((F_stackTrace_b1.ext E2).keep Kq4 (ninS (Nat.ne_of_lt (Nat.lt_of_lt_of_le (A1).lt (Nat.le_of_eq g2.symm))) nin0)).keep Kq19 (ninS (Nat.ne_of_lt (Nat.lt_of_lt_of_le (A1).lt (Nat.le_of_eq g2.symm))) (ninS (Nat.ne_of_lt (Nat.lt_of_lt_of_le ((A1.ext E2)).lt hp12)) nin0))).ext E25).keep Kq32 (ninS (Nat.ne_of_lt (Nat.lt_of_lt_of_le (A1).lt (Nat.le_of_eq g2.symm))) (ninS (Nat.ne_of_lt (Nat.lt_of_lt_of_le ((A1.ext E2)).lt hp12)) nin0))).keep Kq43 (ninS (Nat.ne_of_lt (Nat.lt_of_lt_of_le (A1).lt (Nat.le_of_eq g2.symm))) (ninS (Nat.ne_of_lt (Nat.lt_of_lt_of_le ((A1.ext E2)).lt hp12)) nin0))).keep Kq50 nin0)
 have F71 : Fld Z T50.heap b1 "java/lang/Throwable" "suppressedExceptions" "Ljava/util/List;" .null := (((((((F_suppressedExceptions_b1.ext E2).keep Kq4 (ninS (Nat.ne_of_lt (Nat.lt_of_lt_of_le (A1).lt (Nat.le_of_eq g2.symm))) nin0)).keep Kq19 (ninS (Nat.ne_of_lt (Nat.lt_of_lt_of_le (A1).lt (Nat.le_of_eq g2.symm))) (ninS (Nat.ne_of_lt (Nat.lt_of_lt_of_le ((A1.ext E2)).lt hp12)) nin0))).ext E25).keep Kq32 (ninS (Nat.ne_of_lt (Nat.lt_of_lt_of_le (A1).lt (Nat.le_of_eq g2.symm))) (ninS (Nat.ne_of_lt (Nat.lt_of_lt_of_le ((A1.ext E2)).lt hp12)) nin0))).keep Kq43 (ninS (Nat.ne_of_lt (Nat.lt_of_lt_of_le (A1).lt (Nat.le_of_eq g2.symm))) (ninS (Nat.ne_of_lt (Nat.lt_of_lt_of_le ((A1.ext E2)).lt hp12)) nin0))).keep Kq50 nin0)
 have F72 : Fld Z T50.heap b1 "java/lang/Throwable" "detailMessage" "Ljava/lang/String;" .null := (((((((F_detailMessage_b1.ext E2).keep Kq4 (ninS (Nat.ne_of_lt (Nat.lt_of_lt_of_le (A1).lt (Nat.le_of_eq g2.symm))) nin0)).keep Kq19 (ninS (Nat.ne_of_lt (Nat.lt_of_lt_of_le (A1).lt (Nat.le_of_eq g2.symm))) (ninS (Nat.ne_of_lt (Nat.lt_of_lt_of_le ((A1.ext E2)).lt hp12)) nin0))).ext E25).keep Kq32 (ninS (Nat.ne_of_lt (Nat.lt_of_lt_of_le (A1).lt (Nat.le_of_eq g2.symm))) (ninS (Nat.ne_of_lt (Nat.lt_of_lt_of_le ((A1.ext E2)).lt hp12)) nin0))).keep Kq43 (ninS (Nat.ne_of_lt (Nat.lt_of_lt_of_le (A1).lt (Nat.le_of_eq g2.symm))) (ninS (Nat.ne_of_lt (Nat.lt_of_lt_of_le ((A1.ext E2)).lt hp12)) nin0))).keep Kq50 nin0)
 have F73 : Fld Z T50.heap b1 "java/lang/Throwable" "depth" "I" (.int (0 : Int32)) := (((((((F_depth_b1.ext E2).keep Kq4 (ninS (Nat.ne_of_lt (Nat.lt_of_lt_of_le (A1).lt (Nat.le_of_eq g2.symm))) nin0)).keep Kq19 (ninS (Nat.ne_of_lt (Nat.lt_of_lt_of_le (A1).lt (Nat.le_of_eq g2.symm))) (ninS (Nat.ne_of_lt (Nat.lt_of_lt_of_le ((A1.ext E2)).lt hp12)) nin0))).ext E25).keep Kq32 (ninS (Nat.ne_of_lt (Nat.lt_of_lt_of_le (A1).lt (Nat.le_of_eq g2.symm))) (ninS (Nat.ne_of_lt (Nat.lt_of_lt_of_le ((A1.ext E2)).lt hp12)) nin0))).keep Kq43 (ninS (Nat.ne_of_lt (Nat.lt_of_lt_of_le (A1).lt (Nat.le_of_eq g2.symm))) (ninS (Nat.ne_of_lt (Nat.lt_of_lt_of_le ((A1.ext E2)).lt hp12)) nin0))).keep Kq50 nin0)
 obtain ⟨_, _, ⟨T74, L74, k74, n74⟩, -, X74, ⟨Lc74, hQ74, l74, y74, z74⟩, st74⟩ := X50.specialBack hx (y := (⟨"com/example/model_check_sql/modelchecksql/model/ModelFormatException", "<init>", "(Ljava/lang/String;)V"⟩ : MethodName)) rfl hown (mvT hZ (hwd 145 rfl)) (mvT hZ (hwd 146 rfl)) (mvT hZ (hwd 147 rfl)) (by decide) (backOfKL (W := 1) (rm27 l Z A0 hw [] f_US f_SS b1 b51 (.null) (.null) (.null) (.null) (0 : Int32) T50.heap n0 Z50 F63 F64 F65 F66 F67 hr_f_SS F68 F69 F70 F71 rfl F72 F73 ge_b1 hl0) hZ (hwd 147 rfl) (hwd 32 rfl) (by decide) (by decide) (hK.1.alikeC hS.1.alike) (hK.2.alikeC hS.1.alike)) (g := (mkF m 27 #[vR a0, vR a1] [(.ref b51), (.ref b1), (.ref b1)])) rfl (by rw [hml]; rfl) (Steps.refl _) (a := b1) (argsL := [(.ref b51)]) (rest := [(.ref b1)]) (lenOf pd_84 rfl) rfl (by show 2 * 0 + _ ≤ _; exact Nat.le_of_eq rfl) (hb hby d5_27) (fun _ _ => ⟨rfl, rfl, (by decide : 7 + 1 ≤ _), (by decide : 58 + 2752 ≤ _)⟩)
 dsimp only [Pt.U, Pt.locs, Pt.cells, Pt.slots] at X74 l74 y74 z74 st74 hQ74
 subst l74 y74 z74
 obtain ⟨rfl, Nq74, Kq74, F75, F76⟩ := hQ74
 have N74 := Fr.app N50 Nq74
 have R74 : CHr Z consts_1 T25.vm T50.heap T25.vm T74.heap := CHr.keep Kq74 ((allS (Safe.exa hZ.alike F63 (by decide) (by decide)) all0)) CR50.1
 have CR74 : CHr Z consts_1 s.vm h0 T25.vm T74.heap := CR50.trans R74
 have hk74 : kc25 ≤ T74.heap.size := Nat.le_trans hk50 Kq74.1
 have K74 : Keep h0 T74.heap [] := K50.trans Kq74 ((allS (Or.inr sz_b1) all0))
 have Z74 : n0 ≤ T74.heap.size := Nat.le_trans Z50 Kq74.1
 refine own_by (fun _ k => st74.trans k) ?_
 show own_Go p e below _ (T74.setTop (mkF m 30 #[vR a0, vR a1] [(.ref b1)]))
 have F77 : Exa Z T74.heap b51 "java/lang/String" := (F56.keep Kq74)
 have F78 : Fld Z T74.heap b51 "java/lang/String" "coder" "B" (.int (0 : Int32)) := (F57.keep Kq74 (ninS (Ne.symm (Nat.ne_of_lt (Nat.lt_of_lt_of_le (((((((A1.ext E2).keep Kq4).keep Kq19).ext E25).keep Kq32).keep Kq43)).lt hp55))) nin0))
 have F79 : Fld Z T74.heap b51 "java/lang/String" "value" "[B" (.ref b52) := (F58.keep Kq74 (ninS (Ne.symm (Nat.ne_of_lt (Nat.lt_of_lt_of_le (((((((A1.ext E2).keep Kq4).keep Kq19).ext E25).keep Kq32).keep Kq43)).lt hp55))) nin0))
 have F80 : own_Arf Z T74.heap b52 b53 .byte ((((0 : Int32) + n_t_a0) + (2 : Int32)) + n_t_a1) (fun i => .int ((own_cp (own_cp fn_t_a1 0 (own_cp (own_li [58, 32]) 0 (own_cp fn_t_a0 0 (fun _ => (0 : Int32)) 0 (n_t_a0).toNatClampNeg) (((0 : Int32) + n_t_a0)).toNatClampNeg 2) ((((0 : Int32) + n_t_a0) + (2 : Int32))).toNatClampNeg (n_t_a1).toNatClampNeg) 0 (fun _ => (0 : Int32)) 0 (((((0 : Int32) + n_t_a0) + (2 : Int32)) + n_t_a1)).toNatClampNeg) i)) := (F61.keep Kq74 (ninS (Ne.symm (Nat.ne_of_lt (Nat.lt_of_lt_of_le (((((((A1.ext E2).keep Kq4).keep Kq19).ext E25).keep Kq32).keep Kq43)).lt hp60))) nin0))
 exact own_retRW X74 hx hS hk74 hZ hEL hh CR74 Bd.returns (by decide) rfl (hb hby d5_30) hlk rfl ⟨_, _, _, _, rfl, N74, K74, ge_b1, sz_b1, F75, F76, hp54, sz_b51, F77, F78, F79, hp59, sz_b52, F80, (Nat.ne_of_lt (Nat.lt_of_lt_of_le (((((((A1.ext E2).keep Kq4).keep Kq19).ext E25).keep Kq32).keep Kq43)).lt hp55)), (Nat.ne_of_lt (Nat.lt_of_lt_of_le (((((((A1.ext E2).keep Kq4).keep Kq19).ext E25).keep Kq32).keep Kq43)).lt hp60)), hp62⟩ (by decide) (by decide)
theorem d33_0 : decode jdk_78_method_6_code 0 = .ok (.aload_n 0, 1) := by decide +kernel
theorem d33_1 : decode jdk_78_method_6_code 1 = .ok (.getfield 31, 3) := by decide +kernel
theorem d33_4 : decode jdk_78_method_6_code 4 = .ok (.areturn, 1) := by decide +kernel
theorem pn_33 : plainName "java/lang/Throwable" = true := by first | (simp [plainName, overriddenIn]; done) | decide +kernel
theorem ef_33 (m : MethodId) (a0 : Addr) : entryFrame m #[(.ref a0)] 1 = mkF m 0 #[vR a0] [] := by first | (simp [entryFrame, mkF, argsToLocals, Value.category]; done) | rfl
def Q33 (Z : State) (a0 : Addr) (f_a0_detailMessage : Addr) (h0 : Heap) (n0 : Nat) (v : Option Value) (h : Heap) (L : List Loc) : Prop := v = some (.ref f_a0_detailMessage) ∧ Fr n0 L ∧ h = h0
set_option maxRecDepth 65536 in
set_option maxHeartbeats 40000000 in
theorem rm33 (l : Launch) (Z : State) (A0 : Array Value) (hw : ∀ d ∈ tables_1, d.before A0 Z = true) (ws : List Jvm.Cond) (a0 : Addr) (f_a0_detailMessage : Addr) (h0 : Heap) (n0 : Nat) (Z0 : n0 ≤ h0.size) (P_F_a0_detailMessage : Fld Z h0 a0 "java/lang/Throwable" "detailMessage" "Ljava/lang/String;" (.ref f_a0_detailMessage)) :
    MetFree l (⟨"java/lang/Throwable", "getMessage", "()Ljava/lang/String;"⟩ : MethodName) (head1 (Jvm.Cond.code (⟨"java/lang/Throwable", "getMessage", "()Ljava/lang/String;"⟩ : MethodName) jdk_78_method_6_code 1 (some (.object "java/lang/String")) :: ws) ({ frames := 0, cells := 0, slots := 0, locals := 0 } : Room)) (fun a U => a = #[(.ref a0)] ∧ Z.Warmed39 U.vm ∧ U.heap = h0) (fun _ _ _ _ _ => True) (fun _ U o U' => ∃ v L, o = .returned v ∧ Q33 Z a0 f_a0_detailMessage h0 n0 v U'.heap L ∧ FrameEnd U o U' L 0 0) := by
 refine MetFree.of_bodySF (plainFor_of_name pn_33) hisR ?_
 intro p e s m args below meth c s₁ Bd hml0 hP hK
 obtain ⟨rfl, hZ, hh⟩ := hP
 have hwd := fun i {d : Jvm.Cond} (h : tables_1[i]? = some d) => hw d (List.mem_of_getElem? h)
 have hx := Bd.exec
 have hby := Bd.bytes
 have hml : c.maxLocals = 1 := hml0
 have hlk : meth.locks = false := Bd.notSynchronized
 have hown : s.vm.findClass "java/lang/Throwable" = some m.cls := findClass_of_methodNamed Bd.named
 have hnm := (name_of_methodNamed Bd.named Bd.method).1
 have X0 : Stand p l e ({ frames := 0, cells := 0, slots := 0, locals := 0 } : Room) s m #[(.ref a0)] below meth c s₁ [] 0 0 := Stand.of_body Bd
 have e0 : s₁.heap = h0 := by rw [← hh, Bd.state]; rfl
 have N0 := Fr.nil n0
 show own_Go p e below (own_Fin s 0 0 (Q33 Z a0 f_a0_detailMessage h0 n0)) _
 refine own_by (fun t k => castTop (ef_33 m a0) k) ?_
 show own_Go p e below _ (s₁.setTop (mkF m 0 #[vR a0] []))
 refine own_by (fun _ k => XS.aloadN X0.here hx rfl (hb hby d33_0) rfl rfl k) ?_
 obtain ⟨T1, X1, e1, st1⟩ := getF X0 hx hZ hown (host := "") (Or.inl (hwd 207 rfl)) Via.refl e0 P_F_a0_detailMessage (g := (mkF m 1 #[vR a0] [(.ref a0)])) rfl rfl (hb hby d33_1)
 refine own_by st1 ?_
 show own_Go p e below _ (T1.setTop (mkF m 4 #[vR a0] [(.ref f_a0_detailMessage)]))
 exact own_retR X1 hx Bd.returns (by decide) rfl (hb hby d33_4) hlk e1 ⟨rfl, N0, rfl⟩ (by decide) (by decide)
theorem d40_0 : decode method_5_code 0 = .ok (.iload_n 1, 1) := by decide +kernel
theorem d40_1 : decode method_5_code 1 = .ok (.bipush 24, 2) := by decide +kernel
theorem d40_3 : decode method_5_code 3 = .ok (.iushr, 1) := by decide +kernel
theorem d40_4 : decode method_5_code 4 = .ok (.iconst 3, 1) := by decide +kernel
theorem d40_5 : decode method_5_code 5 = .ok (.iand, 1) := by decide +kernel
theorem d40_6 : decode method_5_code 6 = .ok (.istore_n 3, 1) := by decide +kernel
theorem d40_7 : decode method_5_code 7 = .ok (.iload_n 0, 1) := by decide +kernel
theorem d40_8 : decode method_5_code 8 = .ok (.iload_n 3, 1) := by decide +kernel
theorem d40_9 : decode method_5_code 9 = .ok (.if_icmp .ge 15, 3) := by decide +kernel
theorem d40_12 : decode method_5_code 12 = .ok (.iload_n 1, 1) := by decide +kernel
theorem d40_13 : decode method_5_code 13 = .ok (.bipush 8, 2) := by decide +kernel
theorem d40_15 : decode method_5_code 15 = .ok (.iload_n 0, 1) := by decide +kernel
theorem d40_16 : decode method_5_code 16 = .ok (.imul, 1) := by decide +kernel
theorem d40_17 : decode method_5_code 17 = .ok (.iushr, 1) := by decide +kernel
theorem d40_18 : decode method_5_code 18 = .ok (.sipush 255, 3) := by decide +kernel
theorem d40_21 : decode method_5_code 21 = .ok (.iand, 1) := by decide +kernel
theorem d40_22 : decode method_5_code 22 = .ok (.i2c, 1) := by decide +kernel
theorem d40_23 : decode method_5_code 23 = .ok (.ireturn, 1) := by decide +kernel
theorem d40_24 : decode method_5_code 24 = .ok (.iload_n 0, 1) := by decide +kernel
theorem d40_25 : decode method_5_code 25 = .ok (.iload_n 3, 1) := by decide +kernel
theorem d40_26 : decode method_5_code 26 = .ok (.if_icmp .ne 6, 3) := by decide +kernel
theorem d40_29 : decode method_5_code 29 = .ok (.bipush 58, 2) := by decide +kernel
theorem d40_31 : decode method_5_code 31 = .ok (.ireturn, 1) := by decide +kernel
theorem d40_32 : decode method_5_code 32 = .ok (.iload_n 0, 1) := by decide +kernel
theorem d40_33 : decode method_5_code 33 = .ok (.iload_n 3, 1) := by decide +kernel
theorem d40_34 : decode method_5_code 34 = .ok (.iconst 1, 1) := by decide +kernel
theorem d40_35 : decode method_5_code 35 = .ok (.iadd, 1) := by decide +kernel
theorem d40_36 : decode method_5_code 36 = .ok (.if_icmp .ne 6, 3) := by decide +kernel
theorem d40_39 : decode method_5_code 39 = .ok (.bipush 32, 2) := by decide +kernel
theorem d40_41 : decode method_5_code 41 = .ok (.ireturn, 1) := by decide +kernel
theorem d40_42 : decode method_5_code 42 = .ok (.iload_n 0, 1) := by decide +kernel
theorem d40_43 : decode method_5_code 43 = .ok (.iload_n 3, 1) := by decide +kernel
theorem d40_44 : decode method_5_code 44 = .ok (.isub, 1) := by decide +kernel
theorem d40_45 : decode method_5_code 45 = .ok (.iconst 2, 1) := by decide +kernel
theorem d40_46 : decode method_5_code 46 = .ok (.isub, 1) := by decide +kernel
theorem d40_47 : decode method_5_code 47 = .ok (.istore 4, 2) := by decide +kernel
theorem d40_49 : decode method_5_code 49 = .ok (.iload_n 2, 1) := by decide +kernel
theorem d40_50 : decode method_5_code 50 = .ok (.bipush 8, 2) := by decide +kernel
theorem d40_52 : decode method_5_code 52 = .ok (.iload 4, 2) := by decide +kernel
theorem d40_54 : decode method_5_code 54 = .ok (.imul, 1) := by decide +kernel
theorem d40_55 : decode method_5_code 55 = .ok (.iushr, 1) := by decide +kernel
theorem d40_56 : decode method_5_code 56 = .ok (.sipush 255, 3) := by decide +kernel
theorem d40_59 : decode method_5_code 59 = .ok (.iand, 1) := by decide +kernel
theorem d40_60 : decode method_5_code 60 = .ok (.i2c, 1) := by decide +kernel
theorem d40_61 : decode method_5_code 61 = .ok (.ireturn, 1) := by decide +kernel
theorem pn_exp : plainName "com/example/model_check_sql/modelchecksql/model/ModelReadingLocatedPinLaw" = true := by first | (simp [plainName, overriddenIn]; done) | decide +kernel
theorem ef_exp (m : MethodId) (p0 : Int32) (p1 : Int32) (p2 : Int32) : entryFrame m #[(.int p0), (.int p1), (.int p2)] 5 = mkF m 0 #[vI p0, vI p1, vI p2, .unset, .unset] [] := by first | (simp [entryFrame, mkF, argsToLocals, Value.category]; done) | rfl
theorem ob_exp_5 (p0 : Int32) (p1 : Int32) (p2 : Int32) (c1 : p0 < (((p1.toUInt32 >>> ((24 : Int32) &&& 31).toUInt32).toInt32) &&& (3 : Int32))) : own_exp p0 p1 p2 (nar .char ((((p1.toUInt32 >>> (((8 : Int32) * p0) &&& 31).toUInt32).toInt32) &&& (255 : Int32)).toUInt32.toUInt16.toUInt32.toInt32)) := by
  exact Or.inl ⟨c1, rfl⟩
theorem ob_exp_6 (p0 : Int32) (p1 : Int32) (p2 : Int32) (c1 : ¬ (p0 < (((p1.toUInt32 >>> ((24 : Int32) &&& 31).toUInt32).toInt32) &&& (3 : Int32)))) (c2 : p0 = (((p1.toUInt32 >>> ((24 : Int32) &&& 31).toUInt32).toInt32) &&& (3 : Int32))) : own_exp p0 p1 p2 (58 : Int32) := by
  exact Or.inr (Or.inl ⟨c1, c2, rfl⟩)
theorem ob_exp_7 (p0 : Int32) (p1 : Int32) (p2 : Int32) (c1 : ¬ (p0 < (((p1.toUInt32 >>> ((24 : Int32) &&& 31).toUInt32).toInt32) &&& (3 : Int32)))) (c2 : ¬ (p0 = (((p1.toUInt32 >>> ((24 : Int32) &&& 31).toUInt32).toInt32) &&& (3 : Int32)))) (c3 : p0 = ((((p1.toUInt32 >>> ((24 : Int32) &&& 31).toUInt32).toInt32) &&& (3 : Int32)) + (1 : Int32))) : own_exp p0 p1 p2 (32 : Int32) := by
  exact Or.inr (Or.inr (Or.inl ⟨c1, c2, c3, rfl⟩))
theorem ob_exp_8 (p0 : Int32) (p1 : Int32) (p2 : Int32) (c1 : ¬ (p0 < (((p1.toUInt32 >>> ((24 : Int32) &&& 31).toUInt32).toInt32) &&& (3 : Int32)))) (c2 : ¬ (p0 = (((p1.toUInt32 >>> ((24 : Int32) &&& 31).toUInt32).toInt32) &&& (3 : Int32)))) (c3 : ¬ (p0 = ((((p1.toUInt32 >>> ((24 : Int32) &&& 31).toUInt32).toInt32) &&& (3 : Int32)) + (1 : Int32)))) : own_exp p0 p1 p2 (nar .char ((((p2.toUInt32 >>> (((8 : Int32) * ((p0 - (((p1.toUInt32 >>> ((24 : Int32) &&& 31).toUInt32).toInt32) &&& (3 : Int32))) - (2 : Int32))) &&& 31).toUInt32).toInt32) &&& (255 : Int32)).toUInt32.toUInt16.toUInt32.toInt32)) := by
  exact Or.inr (Or.inr (Or.inr ⟨c1, c2, c3, rfl⟩))
def Qexp (Z : State) (p0 : Int32) (p1 : Int32) (p2 : Int32) (h0 : Heap) (n0 : Nat) (v : Option Value) (h : Heap) (L : List Loc) : Prop := ∃ (zz : Int32), v = some (.int zz) ∧ Fr n0 L ∧ h = h0 ∧ (own_exp p0 p1 p2 zz)
set_option maxRecDepth 65536 in
set_option maxHeartbeats 40000000 in
theorem rmexp (l : Launch) (Z : State) (A0 : Array Value) (hw : ∀ d ∈ tables_1, d.before A0 Z = true) (ws : List Jvm.Cond) (p0 : Int32) (p1 : Int32) (p2 : Int32) (h0 : Heap) (n0 : Nat) (Z0 : n0 ≤ h0.size) :
    MetFree l (⟨"com/example/model_check_sql/modelchecksql/model/ModelReadingLocatedPinLaw", "expected", "(III)C"⟩ : MethodName) (head1 (Jvm.Cond.code (⟨"com/example/model_check_sql/modelchecksql/model/ModelReadingLocatedPinLaw", "expected", "(III)C"⟩ : MethodName) method_5_code 5 (some .char) :: ws) ({ frames := 0, cells := 0, slots := 0, locals := 0 } : Room)) (fun a U => a = #[(.int p0), (.int p1), (.int p2)] ∧ Z.Warmed39 U.vm ∧ U.heap = h0) (fun _ _ _ _ _ => True) (fun _ U o U' => ∃ v L, o = .returned v ∧ Qexp Z p0 p1 p2 h0 n0 v U'.heap L ∧ FrameEnd U o U' L 0 0) := by
 refine MetFree.of_bodySF (plainFor_of_name pn_exp) hisR ?_
 intro p e s m args below meth c s₁ Bd hml0 hP hK
 obtain ⟨rfl, hZ, hh⟩ := hP
 have hwd := fun i {d : Jvm.Cond} (h : tables_1[i]? = some d) => hw d (List.mem_of_getElem? h)
 have hx := Bd.exec
 have hby := Bd.bytes
 have hml : c.maxLocals = 5 := hml0
 have hlk : meth.locks = false := Bd.notSynchronized
 have hown : s.vm.findClass "com/example/model_check_sql/modelchecksql/model/ModelReadingLocatedPinLaw" = some m.cls := findClass_of_methodNamed Bd.named
 have hnm := (name_of_methodNamed Bd.named Bd.method).1
 have X0 : Stand p l e ({ frames := 0, cells := 0, slots := 0, locals := 0 } : Room) s m #[(.int p0), (.int p1), (.int p2)] below meth c s₁ [] 0 0 := Stand.of_body Bd
 have e0 : s₁.heap = h0 := by rw [← hh, Bd.state]; rfl
 have N0 := Fr.nil n0
 show own_Go p e below (own_Fin s 0 0 (Qexp Z p0 p1 p2 h0 n0)) _
 refine own_by (fun t k => castTop (ef_exp m p0 p1 p2) k) ?_
 show own_Go p e below _ (s₁.setTop (mkF m 0 #[vI p0, vI p1, vI p2, .unset, .unset] []))
 refine own_by (fun _ k => XS.iloadN X0.here hx rfl (hb hby d40_0) rfl k) ?_
 refine own_by (fun _ k => XS.bipush X0.here hx rfl (hb hby d40_1) k) ?_
 refine own_by (fun _ k => XS.iushr X0.here hx rfl (hb hby d40_3) rfl k) ?_
 show own_Go p e below _ (s₁.setTop (mkF m 4 #[vI p0, vI p1, vI p2, .unset, .unset] [(.int ((p1.toUInt32 >>> ((24 : Int32) &&& 31).toUInt32).toInt32))]))
 refine own_by (fun _ k => XS.iconst X0.here hx rfl (hb hby d40_4) k) ?_
 refine own_by (fun _ k => XS.iand X0.here hx rfl (hb hby d40_5) rfl k) ?_
 show own_Go p e below _ (s₁.setTop (mkF m 6 #[vI p0, vI p1, vI p2, .unset, .unset] [(.int (((p1.toUInt32 >>> ((24 : Int32) &&& 31).toUInt32).toInt32) &&& (3 : Int32)))]))
 refine own_by (fun _ k => XS.istoreN X0.here hx rfl (hb hby d40_6) rfl (l' := #[vI p0, vI p1, vI p2, vI (((p1.toUInt32 >>> ((24 : Int32) &&& 31).toUInt32).toInt32) &&& (3 : Int32)), .unset]) rfl k) ?_
 show own_Go p e below _ (s₁.setTop (mkF m 7 #[vI p0, vI p1, vI p2, vI (((p1.toUInt32 >>> ((24 : Int32) &&& 31).toUInt32).toInt32) &&& (3 : Int32)), .unset] []))
 refine own_by (fun _ k => XS.iloadN X0.here hx rfl (hb hby d40_7) rfl k) ?_
 refine own_by (fun _ k => XS.iloadN X0.here hx rfl (hb hby d40_8) rfl k) ?_
 by_cases c1 : p0 < (((p1.toUInt32 >>> ((24 : Int32) &&& 31).toUInt32).toInt32) &&& (3 : Int32))
 ·skip
  refine own_by (fun _ k => XS.icmpNo X0.here hx rfl (hb hby d40_9) rfl (tlt c1).2.1 k) ?_
  show own_Go p e below _ (s₁.setTop (mkF m 12 #[vI p0, vI p1, vI p2, vI (((p1.toUInt32 >>> ((24 : Int32) &&& 31).toUInt32).toInt32) &&& (3 : Int32)), .unset] []))
  refine own_by (fun _ k => XS.iloadN X0.here hx rfl (hb hby d40_12) rfl k) ?_
  refine own_by (fun _ k => XS.bipush X0.here hx rfl (hb hby d40_13) k) ?_
  refine own_by (fun _ k => XS.iloadN X0.here hx rfl (hb hby d40_15) rfl k) ?_
  refine own_by (fun _ k => XS.imul X0.here hx rfl (hb hby d40_16) rfl k) ?_
  show own_Go p e below _ (s₁.setTop (mkF m 17 #[vI p0, vI p1, vI p2, vI (((p1.toUInt32 >>> ((24 : Int32) &&& 31).toUInt32).toInt32) &&& (3 : Int32)), .unset] [(.int ((8 : Int32) * p0)), (.int p1)]))
  refine own_by (fun _ k => XS.iushr X0.here hx rfl (hb hby d40_17) rfl k) ?_
  show own_Go p e below _ (s₁.setTop (mkF m 18 #[vI p0, vI p1, vI p2, vI (((p1.toUInt32 >>> ((24 : Int32) &&& 31).toUInt32).toInt32) &&& (3 : Int32)), .unset] [(.int ((p1.toUInt32 >>> (((8 : Int32) * p0) &&& 31).toUInt32).toInt32))]))
  refine own_by (fun _ k => XS.sipush X0.here hx rfl (hb hby d40_18) k) ?_
  refine own_by (fun _ k => XS.iand X0.here hx rfl (hb hby d40_21) rfl k) ?_
  show own_Go p e below _ (s₁.setTop (mkF m 22 #[vI p0, vI p1, vI p2, vI (((p1.toUInt32 >>> ((24 : Int32) &&& 31).toUInt32).toInt32) &&& (3 : Int32)), .unset] [(.int (((p1.toUInt32 >>> (((8 : Int32) * p0) &&& 31).toUInt32).toInt32) &&& (255 : Int32)))]))
  refine own_by (fun _ k => XS.i2c X0.here hx rfl (hb hby d40_22) rfl k) ?_
  show own_Go p e below _ (s₁.setTop (mkF m 23 #[vI p0, vI p1, vI p2, vI (((p1.toUInt32 >>> ((24 : Int32) &&& 31).toUInt32).toInt32) &&& (3 : Int32)), .unset] [(.int ((((p1.toUInt32 >>> (((8 : Int32) * p0) &&& 31).toUInt32).toInt32) &&& (255 : Int32)).toUInt32.toUInt16.toUInt32.toInt32))]))
  exact own_retN X0 hx (t := .char) Bd.returns (by simp) (hb hby d40_23) hlk e0 ⟨_, rfl, N0, rfl, (ob_exp_5 p0 p1 p2 c1)⟩ (by decide) (by decide)
 ·skip
  refine own_by (fun _ k => XS.icmpYes X0.here hx rfl (pc0 := 9) (pc' := 24) rfl (hb hby d40_9) rfl (flt c1).2.1 (by decide) (by decide) k) ?_
  show own_Go p e below _ (s₁.setTop (mkF m 24 #[vI p0, vI p1, vI p2, vI (((p1.toUInt32 >>> ((24 : Int32) &&& 31).toUInt32).toInt32) &&& (3 : Int32)), .unset] []))
  refine own_by (fun _ k => XS.iloadN X0.here hx rfl (hb hby d40_24) rfl k) ?_
  refine own_by (fun _ k => XS.iloadN X0.here hx rfl (hb hby d40_25) rfl k) ?_
  by_cases c2 : p0 = (((p1.toUInt32 >>> ((24 : Int32) &&& 31).toUInt32).toInt32) &&& (3 : Int32))
  ·skip
   refine own_by (fun _ k => XS.icmpNo X0.here hx rfl (hb hby d40_26) rfl (teq c2).2 k) ?_
   show own_Go p e below _ (s₁.setTop (mkF m 29 #[vI p0, vI p1, vI p2, vI (((p1.toUInt32 >>> ((24 : Int32) &&& 31).toUInt32).toInt32) &&& (3 : Int32)), .unset] []))
   refine own_by (fun _ k => XS.bipush X0.here hx rfl (hb hby d40_29) k) ?_
   exact own_retN X0 hx (t := .char) Bd.returns (by simp) (hb hby d40_31) hlk e0 ⟨_, rfl, N0, rfl, (ob_exp_6 p0 p1 p2 c1 c2)⟩ (by decide) (by decide)
  ·skip
   refine own_by (fun _ k => XS.icmpYes X0.here hx rfl (pc0 := 26) (pc' := 32) rfl (hb hby d40_26) rfl (feq c2).2 (by decide) (by decide) k) ?_
   show own_Go p e below _ (s₁.setTop (mkF m 32 #[vI p0, vI p1, vI p2, vI (((p1.toUInt32 >>> ((24 : Int32) &&& 31).toUInt32).toInt32) &&& (3 : Int32)), .unset] []))
   refine own_by (fun _ k => XS.iloadN X0.here hx rfl (hb hby d40_32) rfl k) ?_
   refine own_by (fun _ k => XS.iloadN X0.here hx rfl (hb hby d40_33) rfl k) ?_
   refine own_by (fun _ k => XS.iconst X0.here hx rfl (hb hby d40_34) k) ?_
   refine own_by (fun _ k => XS.iadd X0.here hx rfl (hb hby d40_35) rfl k) ?_
   show own_Go p e below _ (s₁.setTop (mkF m 36 #[vI p0, vI p1, vI p2, vI (((p1.toUInt32 >>> ((24 : Int32) &&& 31).toUInt32).toInt32) &&& (3 : Int32)), .unset] [(.int ((((p1.toUInt32 >>> ((24 : Int32) &&& 31).toUInt32).toInt32) &&& (3 : Int32)) + (1 : Int32))), (.int p0)]))
   by_cases c3 : p0 = ((((p1.toUInt32 >>> ((24 : Int32) &&& 31).toUInt32).toInt32) &&& (3 : Int32)) + (1 : Int32))
   ·skip
    refine own_by (fun _ k => XS.icmpNo X0.here hx rfl (hb hby d40_36) rfl (teq c3).2 k) ?_
    show own_Go p e below _ (s₁.setTop (mkF m 39 #[vI p0, vI p1, vI p2, vI (((p1.toUInt32 >>> ((24 : Int32) &&& 31).toUInt32).toInt32) &&& (3 : Int32)), .unset] []))
    refine own_by (fun _ k => XS.bipush X0.here hx rfl (hb hby d40_39) k) ?_
    exact own_retN X0 hx (t := .char) Bd.returns (by simp) (hb hby d40_41) hlk e0 ⟨_, rfl, N0, rfl, (ob_exp_7 p0 p1 p2 c1 c2 c3)⟩ (by decide) (by decide)
   ·skip
    refine own_by (fun _ k => XS.icmpYes X0.here hx rfl (pc0 := 36) (pc' := 42) rfl (hb hby d40_36) rfl (feq c3).2 (by decide) (by decide) k) ?_
    show own_Go p e below _ (s₁.setTop (mkF m 42 #[vI p0, vI p1, vI p2, vI (((p1.toUInt32 >>> ((24 : Int32) &&& 31).toUInt32).toInt32) &&& (3 : Int32)), .unset] []))
    refine own_by (fun _ k => XS.iloadN X0.here hx rfl (hb hby d40_42) rfl k) ?_
    refine own_by (fun _ k => XS.iloadN X0.here hx rfl (hb hby d40_43) rfl k) ?_
    refine own_by (fun _ k => XS.isub X0.here hx rfl (hb hby d40_44) rfl k) ?_
    show own_Go p e below _ (s₁.setTop (mkF m 45 #[vI p0, vI p1, vI p2, vI (((p1.toUInt32 >>> ((24 : Int32) &&& 31).toUInt32).toInt32) &&& (3 : Int32)), .unset] [(.int (p0 - (((p1.toUInt32 >>> ((24 : Int32) &&& 31).toUInt32).toInt32) &&& (3 : Int32))))]))
    refine own_by (fun _ k => XS.iconst X0.here hx rfl (hb hby d40_45) k) ?_
    refine own_by (fun _ k => XS.isub X0.here hx rfl (hb hby d40_46) rfl k) ?_
    show own_Go p e below _ (s₁.setTop (mkF m 47 #[vI p0, vI p1, vI p2, vI (((p1.toUInt32 >>> ((24 : Int32) &&& 31).toUInt32).toInt32) &&& (3 : Int32)), .unset] [(.int ((p0 - (((p1.toUInt32 >>> ((24 : Int32) &&& 31).toUInt32).toInt32) &&& (3 : Int32))) - (2 : Int32)))]))
    refine own_by (fun _ k => XS.istore X0.here hx rfl (hb hby d40_47) rfl (l' := #[vI p0, vI p1, vI p2, vI (((p1.toUInt32 >>> ((24 : Int32) &&& 31).toUInt32).toInt32) &&& (3 : Int32)), vI ((p0 - (((p1.toUInt32 >>> ((24 : Int32) &&& 31).toUInt32).toInt32) &&& (3 : Int32))) - (2 : Int32))]) rfl k) ?_
    show own_Go p e below _ (s₁.setTop (mkF m 49 #[vI p0, vI p1, vI p2, vI (((p1.toUInt32 >>> ((24 : Int32) &&& 31).toUInt32).toInt32) &&& (3 : Int32)), vI ((p0 - (((p1.toUInt32 >>> ((24 : Int32) &&& 31).toUInt32).toInt32) &&& (3 : Int32))) - (2 : Int32))] []))
    refine own_by (fun _ k => XS.iloadN X0.here hx rfl (hb hby d40_49) rfl k) ?_
    refine own_by (fun _ k => XS.bipush X0.here hx rfl (hb hby d40_50) k) ?_
    refine own_by (fun _ k => XS.iload X0.here hx rfl (hb hby d40_52) rfl k) ?_
    refine own_by (fun _ k => XS.imul X0.here hx rfl (hb hby d40_54) rfl k) ?_
    show own_Go p e below _ (s₁.setTop (mkF m 55 #[vI p0, vI p1, vI p2, vI (((p1.toUInt32 >>> ((24 : Int32) &&& 31).toUInt32).toInt32) &&& (3 : Int32)), vI ((p0 - (((p1.toUInt32 >>> ((24 : Int32) &&& 31).toUInt32).toInt32) &&& (3 : Int32))) - (2 : Int32))] [(.int ((8 : Int32) * ((p0 - (((p1.toUInt32 >>> ((24 : Int32) &&& 31).toUInt32).toInt32) &&& (3 : Int32))) - (2 : Int32)))), (.int p2)]))
    refine own_by (fun _ k => XS.iushr X0.here hx rfl (hb hby d40_55) rfl k) ?_
    show own_Go p e below _ (s₁.setTop (mkF m 56 #[vI p0, vI p1, vI p2, vI (((p1.toUInt32 >>> ((24 : Int32) &&& 31).toUInt32).toInt32) &&& (3 : Int32)), vI ((p0 - (((p1.toUInt32 >>> ((24 : Int32) &&& 31).toUInt32).toInt32) &&& (3 : Int32))) - (2 : Int32))] [(.int ((p2.toUInt32 >>> (((8 : Int32) * ((p0 - (((p1.toUInt32 >>> ((24 : Int32) &&& 31).toUInt32).toInt32) &&& (3 : Int32))) - (2 : Int32))) &&& 31).toUInt32).toInt32))]))
    refine own_by (fun _ k => XS.sipush X0.here hx rfl (hb hby d40_56) k) ?_
    refine own_by (fun _ k => XS.iand X0.here hx rfl (hb hby d40_59) rfl k) ?_
    show own_Go p e below _ (s₁.setTop (mkF m 60 #[vI p0, vI p1, vI p2, vI (((p1.toUInt32 >>> ((24 : Int32) &&& 31).toUInt32).toInt32) &&& (3 : Int32)), vI ((p0 - (((p1.toUInt32 >>> ((24 : Int32) &&& 31).toUInt32).toInt32) &&& (3 : Int32))) - (2 : Int32))] [(.int (((p2.toUInt32 >>> (((8 : Int32) * ((p0 - (((p1.toUInt32 >>> ((24 : Int32) &&& 31).toUInt32).toInt32) &&& (3 : Int32))) - (2 : Int32))) &&& 31).toUInt32).toInt32) &&& (255 : Int32)))]))
    refine own_by (fun _ k => XS.i2c X0.here hx rfl (hb hby d40_60) rfl k) ?_
    show own_Go p e below _ (s₁.setTop (mkF m 61 #[vI p0, vI p1, vI p2, vI (((p1.toUInt32 >>> ((24 : Int32) &&& 31).toUInt32).toInt32) &&& (3 : Int32)), vI ((p0 - (((p1.toUInt32 >>> ((24 : Int32) &&& 31).toUInt32).toInt32) &&& (3 : Int32))) - (2 : Int32))] [(.int ((((p2.toUInt32 >>> (((8 : Int32) * ((p0 - (((p1.toUInt32 >>> ((24 : Int32) &&& 31).toUInt32).toInt32) &&& (3 : Int32))) - (2 : Int32))) &&& 31).toUInt32).toInt32) &&& (255 : Int32)).toUInt32.toUInt16.toUInt32.toInt32))]))
    exact own_retN X0 hx (t := .char) Bd.returns (by simp) (hb hby d40_61) hlk e0 ⟨_, rfl, N0, rfl, (ob_exp_8 p0 p1 p2 c1 c2 c3)⟩ (by decide) (by decide)
theorem pd_218 : parseMethodDescriptor "(I)C" = some ⟨[.int], some .char⟩ := by decide +kernel
theorem pd_240 : parseMethodDescriptor "(III)C" = some ⟨[.int, .int, .int], some .char⟩ := by decide +kernel
theorem d34_0 : decode method_4_code 0 = .ok (.iload_n 1, 1) := by decide +kernel
theorem d34_1 : decode method_4_code 1 = .ok (.aload_n 0, 1) := by decide +kernel
theorem d34_2 : decode method_4_code 2 = .ok (.invokevirtual 25, 3) := by decide +kernel
theorem d34_5 : decode method_4_code 5 = .ok (.if_icmp .lt 5, 3) := by decide +kernel
theorem d34_8 : decode method_4_code 8 = .ok (.iconst 1, 1) := by decide +kernel
theorem d34_9 : decode method_4_code 9 = .ok (.ireturn, 1) := by decide +kernel
theorem d34_10 : decode method_4_code 10 = .ok (.aload_n 0, 1) := by decide +kernel
theorem d34_11 : decode method_4_code 11 = .ok (.iload_n 1, 1) := by decide +kernel
theorem d34_12 : decode method_4_code 12 = .ok (.invokevirtual 38, 3) := by decide +kernel
theorem d34_15 : decode method_4_code 15 = .ok (.iload_n 1, 1) := by decide +kernel
theorem d34_16 : decode method_4_code 16 = .ok (.iload_n 2, 1) := by decide +kernel
theorem d34_17 : decode method_4_code 17 = .ok (.iload_n 3, 1) := by decide +kernel
theorem d34_18 : decode method_4_code 18 = .ok (.invokestatic 42, 3) := by decide +kernel
theorem d34_21 : decode method_4_code 21 = .ok (.if_icmp .ne 7, 3) := by decide +kernel
theorem d34_24 : decode method_4_code 24 = .ok (.iconst 1, 1) := by decide +kernel
theorem d34_25 : decode method_4_code 25 = .ok (.goto 4, 3) := by decide +kernel
theorem d34_28 : decode method_4_code 28 = .ok (.iconst 0, 1) := by decide +kernel
theorem d34_29 : decode method_4_code 29 = .ok (.ireturn, 1) := by decide +kernel
theorem pn_same : plainName "com/example/model_check_sql/modelchecksql/model/ModelReadingLocatedPinLaw" = true := by first | (simp [plainName, overriddenIn]; done) | decide +kernel
theorem ef_same (m : MethodId) (a0 : Addr) (p1 : Int32) (p2 : Int32) (p3 : Int32) : entryFrame m #[(.ref a0), (.int p1), (.int p2), (.int p3)] 4 = mkF m 0 #[vR a0, vI p1, vI p2, vI p3] [] := by first | (simp [entryFrame, mkF, argsToLocals, Value.category]; done) | rfl
theorem ob_same_9 (n_t_a0 : Int32) (f_CS : Int32) (f_SF : Value) (p1 : Int32) (hn_CS : ¬ (f_CS = (0 : Int32))) (hr_f_SF : f_SF.isRef = true) (hi0 : ¬ (p1 < (0 : Int32))) (c2 : p1 < n_t_a0) : (¬ p1 < 0) ∧ p1 < n_t_a0 := by
  first | assumption | exact ⟨by assumption, by assumption⟩
def Qsame (Z : State) (t_a0 : Addr) (k_t_a0 : ClassId) (n_t_a0 : Int32) (fn_t_a0 : Nat → Int32) (f_CS : Int32) (f_SF : Value) (a0 : Addr) (p1 : Int32) (p2 : Int32) (p3 : Int32) (h0 : Heap) (n0 : Nat) (v : Option Value) (h : Heap) (L : List Loc) : Prop := ∃ (zz : Int32), v = some (.int zz) ∧ Fr n0 L ∧ h = h0 ∧ ((∃ (o5_same : Int32), (p1 < n_t_a0) ∧ (own_exp p1 p2 p3 o5_same) ∧ ((nar .char (nar .char (((fn_t_a0 (p1).toNatClampNeg) &&& (255 : Int32)).toUInt32.toUInt16.toUInt32.toInt32))) = o5_same) ∧ zz = (1 : Int32)) ∨ (∃ (o5_same : Int32), (p1 < n_t_a0) ∧ (own_exp p1 p2 p3 o5_same) ∧ (¬ ((nar .char (nar .char (((fn_t_a0 (p1).toNatClampNeg) &&& (255 : Int32)).toUInt32.toUInt16.toUInt32.toInt32))) = o5_same)) ∧ zz = (0 : Int32)) ∨ ((¬ (p1 < n_t_a0)) ∧ zz = (1 : Int32)))
set_option maxRecDepth 65536 in
set_option maxHeartbeats 40000000 in
theorem rmsame (l : Launch) (Z : State) (A0 : Array Value) (hw : ∀ d ∈ tables_1, d.before A0 Z = true) (ws : List Jvm.Cond) (t_a0 : Addr) (k_t_a0 : ClassId) (n_t_a0 : Int32) (fn_t_a0 : Nat → Int32) (f_CS : Int32) (f_SF : Value) (a0 : Addr) (p1 : Int32) (p2 : Int32) (p3 : Int32) (h0 : Heap) (n0 : Nat) (Z0 : n0 ≤ h0.size) (P_E_a0 : Exa Z h0 a0 "java/lang/String") (P_F_a0_coder : Fld Z h0 a0 "java/lang/String" "coder" "B" (.int (0 : Int32))) (P_F_a0_value : Fld Z h0 a0 "java/lang/String" "value" "[B" (.ref t_a0)) (P_V_t_a0 : own_Arf Z h0 t_a0 k_t_a0 .byte n_t_a0 (fun i => .int (fn_t_a0 i))) (P_S_CS : Sta Z h0 "java/lang/String" "COMPACT_STRINGS" "Z" (.int f_CS)) (hn_CS : ¬ (f_CS = (0 : Int32))) (P_S_SF : Sta Z h0 "jdk/internal/util/Preconditions" "SIOOBE_FORMATTER" "Ljava/util/function/BiFunction;" f_SF) (hr_f_SF : f_SF.isRef = true) (hi0 : ¬ (p1 < (0 : Int32))) :
    MetFree l (⟨"com/example/model_check_sql/modelchecksql/model/ModelReadingLocatedPinLaw", "same", "(Ljava/lang/String;III)Z"⟩ : MethodName) (head1 (Jvm.Cond.code (⟨"com/example/model_check_sql/modelchecksql/model/ModelReadingLocatedPinLaw", "same", "(Ljava/lang/String;III)Z"⟩ : MethodName) method_4_code 4 (some .boolean) :: ws) ({ frames := 4, cells := 0, slots := 0, locals := 53 } : Room)) (fun a U => a = #[(.ref a0), (.int p1), (.int p2), (.int p3)] ∧ Z.Warmed39 U.vm ∧ U.heap = h0) (fun _ _ _ _ _ => True) (fun _ U o U' => ∃ v L, o = .returned v ∧ Qsame Z t_a0 k_t_a0 n_t_a0 fn_t_a0 f_CS f_SF a0 p1 p2 p3 h0 n0 v U'.heap L ∧ FrameEnd U o U' L 0 0) := by
 refine MetFree.of_bodySF (plainFor_of_name pn_same) hisR ?_
 intro p e s m args below meth c s₁ Bd hml0 hP hK
 obtain ⟨rfl, hZ, hh⟩ := hP
 have hwd := fun i {d : Jvm.Cond} (h : tables_1[i]? = some d) => hw d (List.mem_of_getElem? h)
 have hx := Bd.exec
 have hby := Bd.bytes
 have hml : c.maxLocals = 4 := hml0
 have hlk : meth.locks = false := Bd.notSynchronized
 have hown : s.vm.findClass "com/example/model_check_sql/modelchecksql/model/ModelReadingLocatedPinLaw" = some m.cls := findClass_of_methodNamed Bd.named
 have hnm := (name_of_methodNamed Bd.named Bd.method).1
 have X0 : Stand p l e ({ frames := 4, cells := 0, slots := 0, locals := 53 } : Room) s m #[(.ref a0), (.int p1), (.int p2), (.int p3)] below meth c s₁ [] 0 0 := Stand.of_body Bd
 have e0 : s₁.heap = h0 := by rw [← hh, Bd.state]; rfl
 have N0 := Fr.nil n0
 show own_Go p e below (own_Fin s 0 0 (Qsame Z t_a0 k_t_a0 n_t_a0 fn_t_a0 f_CS f_SF a0 p1 p2 p3 h0 n0)) _
 refine own_by (fun t k => castTop (ef_same m a0 p1 p2 p3) k) ?_
 show own_Go p e below _ (s₁.setTop (mkF m 0 #[vR a0, vI p1, vI p2, vI p3] []))
 refine own_by (fun _ k => XS.iloadN X0.here hx rfl (hb hby d34_0) rfl k) ?_
 refine own_by (fun _ k => XS.aloadN X0.here hx rfl (hb hby d34_1) rfl rfl k) ?_
 obtain ⟨cq1, kq1, qq1a, qq1b, qq1c⟩ := isOf hZ e0 P_E_a0
 obtain ⟨_, _, ⟨T1, L1, k1, n1⟩, -, X1, ⟨Lc1, hQ1, l1, y1, z1⟩, st1⟩ := X0.virtualBack hx (y := (⟨"java/lang/String", "length", "()I"⟩ : MethodName)) (z := (⟨"java/lang/String", "length", "()I"⟩ : MethodName)) hown (mvT hZ (hwd 214 rfl)) (mvT hZ (hwd 62 rfl)) (notFace_of_selects (args := #[]) (mvT hZ (hwd 64 rfl))) (mvT hZ (hwd 64 rfl)) (mvT hZ (hwd 63 rfl)) (by decide) (backOf (W := 1) (rmlen l Z A0 hw [] t_a0 k_t_a0 n_t_a0 fn_t_a0 f_CS a0 h0 n0 Z0 P_E_a0 P_F_a0_coder P_F_a0_value P_V_t_a0 P_S_CS hn_CS) hZ (hwd 65 rfl) (hwd 6 rfl) (by decide) (by decide)) qq1a qq1c (g := (mkF m 2 #[vR a0, vI p1, vI p2, vI p3] [(.ref a0), (.int p1)])) rfl (by rw [hml]; rfl) (Steps.refl _) (argsL := []) (rest := [(.int p1)]) (lenOf pd_61 rfl) rfl (by show 2 * 0 + _ ≤ _; exact Nat.le_of_eq rfl) (hb hby d34_2) (fun _ _ => ⟨rfl, e0, (by decide : 0 + 0 ≤ _), (by decide : 0 + 0 ≤ _)⟩)
 dsimp only [Pt.U, Pt.locs, Pt.cells, Pt.slots] at X1 l1 y1 z1 st1 hQ1
 subst l1 y1 z1
 obtain ⟨rfl, Nq1, eq1⟩ := hQ1
 have N1 := Fr.app N0 Nq1
 refine own_by (fun _ k => st1.trans k) ?_
 show own_Go p e below _ (T1.setTop (mkF m 5 #[vR a0, vI p1, vI p2, vI p3] [(.int n_t_a0), (.int p1)]))
 by_cases c2 : p1 < n_t_a0
 ·skip
  refine own_by (fun _ k => XS.icmpYes X1.here hx rfl (pc0 := 5) (pc' := 10) rfl (hb hby d34_5) rfl (tlt c2).1 (by decide) (by decide) k) ?_
  show own_Go p e below _ (T1.setTop (mkF m 10 #[vR a0, vI p1, vI p2, vI p3] []))
  refine own_by (fun _ k => XS.aloadN X1.here hx rfl (hb hby d34_10) rfl rfl k) ?_
  refine own_by (fun _ k => XS.iloadN X1.here hx rfl (hb hby d34_11) rfl k) ?_
  obtain ⟨cq3, kq3, qq3a, qq3b, qq3c⟩ := isOf hZ eq1 P_E_a0
  obtain ⟨_, _, ⟨T3, L3, k3, n3⟩, -, X3, ⟨Lc3, hQ3, l3, y3, z3⟩, st3⟩ := X1.virtualBack hx (y := (⟨"java/lang/String", "charAt", "(I)C"⟩ : MethodName)) (z := (⟨"java/lang/String", "charAt", "(I)C"⟩ : MethodName)) hown (mvT hZ (hwd 218 rfl)) (mvT hZ (hwd 219 rfl)) (notFace_of_selects (args := #[]) (mvT hZ (hwd 221 rfl))) (mvT hZ (hwd 221 rfl)) (mvT hZ (hwd 220 rfl)) (by decide) (backOf (W := 0) (rmsca l Z A0 hw [] t_a0 k_t_a0 n_t_a0 fn_t_a0 f_CS f_SF a0 p1 h0 n0 Z0 P_E_a0 P_F_a0_coder P_F_a0_value P_V_t_a0 P_S_CS hn_CS P_S_SF hr_f_SF hi0 c2 (ob_same_9 n_t_a0 f_CS f_SF p1 hn_CS hr_f_SF hi0 c2)) hZ (hwd 222 rfl) (hwd 6 rfl) (by decide) (by decide)) qq3a qq3c (g := (mkF m 12 #[vR a0, vI p1, vI p2, vI p3] [(.int p1), (.ref a0)])) rfl (by rw [hml]; rfl) (Steps.refl _) (argsL := [(.int p1)]) (rest := []) (lenOf pd_218 rfl) rfl (by show 2 * 0 + _ ≤ _; exact Nat.le_of_eq rfl) (hb hby d34_12) (fun _ _ => ⟨rfl, eq1, (by decide : 0 + 0 ≤ _), (by decide : 0 + 0 ≤ _)⟩)
  dsimp only [Pt.U, Pt.locs, Pt.cells, Pt.slots] at X3 l3 y3 z3 st3 hQ3
  subst l3 y3 z3
  obtain ⟨rfl, Nq3, eq3⟩ := hQ3
  have N3 := Fr.app N1 Nq3
  refine own_by (fun _ k => st3.trans k) ?_
  show own_Go p e below _ (T3.setTop (mkF m 15 #[vR a0, vI p1, vI p2, vI p3] [(.int (nar .char (nar .char (((fn_t_a0 (p1).toNatClampNeg) &&& (255 : Int32)).toUInt32.toUInt16.toUInt32.toInt32))))]))
  refine own_by (fun _ k => XS.iloadN X3.here hx rfl (hb hby d34_15) rfl k) ?_
  refine own_by (fun _ k => XS.iloadN X3.here hx rfl (hb hby d34_16) rfl k) ?_
  refine own_by (fun _ k => XS.iloadN X3.here hx rfl (hb hby d34_17) rfl k) ?_
  obtain ⟨_, _, ⟨T4, L4, k4, n4⟩, -, X4, ⟨Lc4, hQ4, l4, y4, z4⟩, st4⟩ := Jvm.LawKit.callS X3 hx (y := (⟨"com/example/model_check_sql/modelchecksql/model/ModelReadingLocatedPinLaw", "expected", "(III)C"⟩ : MethodName)) hown (mvT hZ (hwd 240 rfl)) (mvT hZ (hwd 241 rfl)) (mvT hZ (hwd 2 rfl)) (mvT hZ (hwd 242 rfl)) (by decide) (backOf (W := 1) (rmexp l Z A0 hw [] p1 p2 p3 h0 n0 Z0 ) hZ (hwd 242 rfl) (hwd 2 rfl) (by decide) (by decide)) (g := (mkF m 18 #[vR a0, vI p1, vI p2, vI p3] [(.int p3), (.int p2), (.int p1), (.int (nar .char (nar .char (((fn_t_a0 (p1).toNatClampNeg) &&& (255 : Int32)).toUInt32.toUInt16.toUInt32.toInt32))))])) rfl (by rw [hml]; rfl) (argsL := [(.int p1), (.int p2), (.int p3)]) (rest := [(.int (nar .char (nar .char (((fn_t_a0 (p1).toNatClampNeg) &&& (255 : Int32)).toUInt32.toUInt16.toUInt32.toInt32))))]) (lenOf pd_240 rfl) rfl (by show 2 * 0 + _ ≤ _; exact Nat.le_of_eq rfl) (hb hby d34_18) (fun _ _ => ⟨rfl, eq3, (by decide : 0 + 0 ≤ _), (by decide : 0 + 0 ≤ _)⟩)
  dsimp only [Pt.U, Pt.locs, Pt.cells, Pt.slots] at X4 l4 y4 z4 st4 hQ4
  subst l4 y4 z4
  obtain ⟨o5, rfl, Nq4, eq4, hp6⟩ := hQ4
  have N4 := Fr.app N3 Nq4
  refine own_by st4 ?_
  show own_Go p e below _ (T4.setTop (mkF m 21 #[vR a0, vI p1, vI p2, vI p3] [(.int o5), (.int (nar .char (nar .char (((fn_t_a0 (p1).toNatClampNeg) &&& (255 : Int32)).toUInt32.toUInt16.toUInt32.toInt32))))]))
  by_cases c7 : (nar .char (nar .char (((fn_t_a0 (p1).toNatClampNeg) &&& (255 : Int32)).toUInt32.toUInt16.toUInt32.toInt32))) = o5
  ·skip
   refine own_by (fun _ k => XS.icmpNo X4.here hx rfl (hb hby d34_21) rfl (teq c7).2 k) ?_
   show own_Go p e below _ (T4.setTop (mkF m 24 #[vR a0, vI p1, vI p2, vI p3] []))
   refine own_by (fun _ k => XS.iconst X4.here hx rfl (hb hby d34_24) k) ?_
   refine own_by (fun _ k => XS.goto X4.here hx rfl (pc0 := 25) (pc' := 29) rfl (hb hby d34_25) (by decide) (by decide) k) ?_
   show own_Go p e below _ (T4.setTop (mkF m 29 #[vR a0, vI p1, vI p2, vI p3] [(.int (1 : Int32))]))
   exact own_retN X4 hx (t := .boolean) Bd.returns (by simp) (hb hby d34_29) hlk eq4 ⟨_, rfl, N4, rfl, (Or.inl ⟨o5, c2, hp6, c7, rfl⟩)⟩ (by decide) (by decide)
  ·skip
   refine own_by (fun _ k => XS.icmpYes X4.here hx rfl (pc0 := 21) (pc' := 28) rfl (hb hby d34_21) rfl (feq c7).2 (by decide) (by decide) k) ?_
   show own_Go p e below _ (T4.setTop (mkF m 28 #[vR a0, vI p1, vI p2, vI p3] []))
   refine own_by (fun _ k => XS.iconst X4.here hx rfl (hb hby d34_28) k) ?_
   exact own_retN X4 hx (t := .boolean) Bd.returns (by simp) (hb hby d34_29) hlk eq4 ⟨_, rfl, N4, rfl, (Or.inr (Or.inl ⟨o5, c2, hp6, c7, rfl⟩))⟩ (by decide) (by decide)
 ·skip
  refine own_by (fun _ k => XS.icmpNo X1.here hx rfl (hb hby d34_5) rfl (flt c2).1 k) ?_
  show own_Go p e below _ (T1.setTop (mkF m 8 #[vR a0, vI p1, vI p2, vI p3] []))
  refine own_by (fun _ k => XS.iconst X1.here hx rfl (hb hby d34_8) k) ?_
  exact own_retN X1 hx (t := .boolean) Bd.returns (by simp) (hb hby d34_9) hlk eq1 ⟨_, rfl, N1, rfl, (Or.inr (Or.inr (⟨c2, rfl⟩)))⟩ (by decide) (by decide)
theorem pd_0 : parseMethodDescriptor "(I)Ljava/lang/String;" = some ⟨[.int], some (.object "java/lang/String")⟩ := by decide +kernel
theorem pd_26 : parseMethodDescriptor "(Ljava/lang/String;Ljava/lang/String;)Lcom/example/model_check_sql/modelchecksql/model/ModelFormatException;" = some ⟨[(.object "java/lang/String"), (.object "java/lang/String")], some (.object "com/example/model_check_sql/modelchecksql/model/ModelFormatException")⟩ := by decide +kernel
theorem pd_215 : parseMethodDescriptor "(Ljava/lang/String;III)Z" = some ⟨[(.object "java/lang/String"), .int, .int, .int], some .boolean⟩ := by decide +kernel
theorem pn_0 : plainName "com/example/model_check_sql/modelchecksql/model/ModelReadingLocatedPinLaw" = true := by first | (simp [plainName, overriddenIn]; done) | decide +kernel
theorem ef_0 (m : MethodId) (p0 : Int32) (p1 : Int32) : entryFrame m #[(.int p0), (.int p1)] maxLocals = mkF m 0 #[vI p0, vI p1, .unset, .unset, .unset, .unset, .unset, .unset] [] := by first | (simp [entryFrame, mkF, argsToLocals, Value.category, maxLocals]; done) | rfl
theorem ob_0_10 (f_CS : Int32) (f_SF : Value) (f_SS : Value) (p0 : Int32) (hn_CS : ¬ (f_CS = (0 : Int32))) (hr_f_SF : f_SF.isRef = true) (hr_f_SS : f_SS.isRef = true) : ¬ ((255 : Int32) < (nar .char ((p0 &&& (255 : Int32)).toUInt32.toUInt16.toUInt32.toInt32))) := by
  exact own_ch _
theorem ob_0_11 (f_CS : Int32) (f_SF : Value) (f_SS : Value) (p0 : Int32) (hn_CS : ¬ (f_CS = (0 : Int32))) (hr_f_SF : f_SF.isRef = true) (hr_f_SS : f_SS.isRef = true) : ¬ ((255 : Int32) < (nar .char ((((p0.toUInt32 >>> ((8 : Int32) &&& 31).toUInt32).toInt32) &&& (255 : Int32)).toUInt32.toUInt16.toUInt32.toInt32))) := by
  exact own_ch _
theorem ob_0_12 (f_CS : Int32) (f_SF : Value) (f_SS : Value) (p0 : Int32) (hn_CS : ¬ (f_CS = (0 : Int32))) (hr_f_SF : f_SF.isRef = true) (hr_f_SS : f_SS.isRef = true) : ¬ ((255 : Int32) < (nar .char ((((p0.toUInt32 >>> ((16 : Int32) &&& 31).toUInt32).toInt32) &&& (255 : Int32)).toUInt32.toUInt16.toUInt32.toInt32))) := by
  exact own_ch _
theorem ob_0_13 (f_CS : Int32) (f_SF : Value) (f_SS : Value) (p0 : Int32) (p1 : Int32) (o5 : Int32) (b6 : Nat → Int32) (hn_CS : ¬ (f_CS = (0 : Int32))) (hr_f_SF : f_SF.isRef = true) (hr_f_SS : f_SS.isRef = true) (hp14 : own_draw p0 o5 b6) : ¬ ((255 : Int32) < (nar .char ((p1 &&& (255 : Int32)).toUInt32.toUInt16.toUInt32.toInt32))) := by
  exact own_ch _
theorem ob_0_14 (f_CS : Int32) (f_SF : Value) (f_SS : Value) (p0 : Int32) (p1 : Int32) (o5 : Int32) (b6 : Nat → Int32) (hn_CS : ¬ (f_CS = (0 : Int32))) (hr_f_SF : f_SF.isRef = true) (hr_f_SS : f_SS.isRef = true) (hp14 : own_draw p0 o5 b6) : ¬ ((255 : Int32) < (nar .char ((((p1.toUInt32 >>> ((8 : Int32) &&& 31).toUInt32).toInt32) &&& (255 : Int32)).toUInt32.toUInt16.toUInt32.toInt32))) := by
  exact own_ch _
theorem ob_0_15 (f_CS : Int32) (f_SF : Value) (f_SS : Value) (p0 : Int32) (p1 : Int32) (o5 : Int32) (b6 : Nat → Int32) (hn_CS : ¬ (f_CS = (0 : Int32))) (hr_f_SF : f_SF.isRef = true) (hr_f_SS : f_SS.isRef = true) (hp14 : own_draw p0 o5 b6) : ¬ ((255 : Int32) < (nar .char ((((p1.toUInt32 >>> ((16 : Int32) &&& 31).toUInt32).toInt32) &&& (255 : Int32)).toUInt32.toUInt16.toUInt32.toInt32))) := by
  exact own_ch _
theorem ob_0_16 (f_CS : Int32) (f_SF : Value) (f_SS : Value) (p0 : Int32) (p1 : Int32) (o5 : Int32) (b6 : Nat → Int32) (o20 : Int32) (b21 : Nat → Int32) (hn_CS : ¬ (f_CS = (0 : Int32))) (hr_f_SF : f_SF.isRef = true) (hr_f_SS : f_SS.isRef = true) (hp14 : own_draw p0 o5 b6) (hp29 : own_draw p1 o20 b21) : ¬ ((0 : Int32) < (((0 : Int32) + o5) - (16 : Int32))) := by
  have hn0 := own_len4 hp14.1
  clear hp14
  rcases hn0 with rfl | rfl | rfl | rfl <;> decide
theorem ob_0_17 (f_CS : Int32) (f_SF : Value) (f_SS : Value) (p0 : Int32) (p1 : Int32) (o5 : Int32) (b6 : Nat → Int32) (o20 : Int32) (b21 : Nat → Int32) (hn_CS : ¬ (f_CS = (0 : Int32))) (hr_f_SF : f_SF.isRef = true) (hr_f_SS : f_SS.isRef = true) (hp14 : own_draw p0 o5 b6) (hp29 : own_draw p1 o20 b21) : ¬ o5 < 0 := by
  have hn0 := own_len4 hp14.1
  clear hp14
  rcases hn0 with rfl | rfl | rfl | rfl <;> decide
theorem ob_0_18 (f_CS : Int32) (f_SF : Value) (f_SS : Value) (p0 : Int32) (p1 : Int32) (o5 : Int32) (b6 : Nat → Int32) (o20 : Int32) (b21 : Nat → Int32) (hn_CS : ¬ (f_CS = (0 : Int32))) (hr_f_SF : f_SF.isRef = true) (hr_f_SS : f_SS.isRef = true) (hp14 : own_draw p0 o5 b6) (hp29 : own_draw p1 o20 b21) : 0 + (o5).toNatClampNeg ≤ (o5).toNatClampNeg := by
  have hn0 := own_len4 hp14.1
  clear hp14
  rcases hn0 with rfl | rfl | rfl | rfl <;> decide
theorem ob_0_19 (f_CS : Int32) (f_SF : Value) (f_SS : Value) (p0 : Int32) (p1 : Int32) (o5 : Int32) (b6 : Nat → Int32) (o20 : Int32) (b21 : Nat → Int32) (hn_CS : ¬ (f_CS = (0 : Int32))) (hr_f_SF : f_SF.isRef = true) (hr_f_SS : f_SS.isRef = true) (hp14 : own_draw p0 o5 b6) (hp29 : own_draw p1 o20 b21) : 0 + (o5).toNatClampNeg ≤ 16 := by
  have hn0 := own_len4 hp14.1
  clear hp14
  rcases hn0 with rfl | rfl | rfl | rfl <;> decide
theorem ob_0_20 (f_CS : Int32) (f_SF : Value) (f_SS : Value) (p0 : Int32) (p1 : Int32) (o5 : Int32) (b6 : Nat → Int32) (o20 : Int32) (b21 : Nat → Int32) (hn_CS : ¬ (f_CS = (0 : Int32))) (hr_f_SF : f_SF.isRef = true) (hr_f_SS : f_SS.isRef = true) (hp14 : own_draw p0 o5 b6) (hp29 : own_draw p1 o20 b21) : ¬ ((0 : Int32) < ((((0 : Int32) + o5) + (2 : Int32)) - (16 : Int32))) := by
  have hn0 := own_len4 hp14.1
  clear hp14
  rcases hn0 with rfl | rfl | rfl | rfl <;> decide
theorem ob_0_21 (f_CS : Int32) (f_SF : Value) (f_SS : Value) (p0 : Int32) (p1 : Int32) (o5 : Int32) (b6 : Nat → Int32) (o20 : Int32) (b21 : Nat → Int32) (hn_CS : ¬ (f_CS = (0 : Int32))) (hr_f_SF : f_SF.isRef = true) (hr_f_SS : f_SS.isRef = true) (hp14 : own_draw p0 o5 b6) (hp29 : own_draw p1 o20 b21) : ¬ ((0 : Int32) + o5) < 0 := by
  have hn0 := own_len4 hp14.1
  clear hp14
  rcases hn0 with rfl | rfl | rfl | rfl <;> decide
theorem ob_0_22 (f_CS : Int32) (f_SF : Value) (f_SS : Value) (p0 : Int32) (p1 : Int32) (o5 : Int32) (b6 : Nat → Int32) (o20 : Int32) (b21 : Nat → Int32) (hn_CS : ¬ (f_CS = (0 : Int32))) (hr_f_SF : f_SF.isRef = true) (hr_f_SS : f_SS.isRef = true) (hp14 : own_draw p0 o5 b6) (hp29 : own_draw p1 o20 b21) : (((0 : Int32) + o5)).toNatClampNeg + 2 ≤ 16 := by
  have hn0 := own_len4 hp14.1
  clear hp14
  rcases hn0 with rfl | rfl | rfl | rfl <;> decide
theorem ob_0_23 (f_CS : Int32) (f_SF : Value) (f_SS : Value) (p0 : Int32) (p1 : Int32) (o5 : Int32) (b6 : Nat → Int32) (o20 : Int32) (b21 : Nat → Int32) (hn_CS : ¬ (f_CS = (0 : Int32))) (hr_f_SF : f_SF.isRef = true) (hr_f_SS : f_SS.isRef = true) (hp14 : own_draw p0 o5 b6) (hp29 : own_draw p1 o20 b21) : ¬ ((0 : Int32) < (((((0 : Int32) + o5) + (2 : Int32)) + o20) - (16 : Int32))) := by
  have hn0 := own_len4 hp14.1
  clear hp14
  have hn1 := own_len4 hp29.1
  clear hp29
  rcases hn0 with rfl | rfl | rfl | rfl <;> rcases hn1 with rfl | rfl | rfl | rfl <;> decide
theorem ob_0_24 (f_CS : Int32) (f_SF : Value) (f_SS : Value) (p0 : Int32) (p1 : Int32) (o5 : Int32) (b6 : Nat → Int32) (o20 : Int32) (b21 : Nat → Int32) (hn_CS : ¬ (f_CS = (0 : Int32))) (hr_f_SF : f_SF.isRef = true) (hr_f_SS : f_SS.isRef = true) (hp14 : own_draw p0 o5 b6) (hp29 : own_draw p1 o20 b21) : ¬ (((0 : Int32) + o5) + (2 : Int32)) < 0 := by
  have hn0 := own_len4 hp14.1
  clear hp14
  rcases hn0 with rfl | rfl | rfl | rfl <;> decide
theorem ob_0_25 (f_CS : Int32) (f_SF : Value) (f_SS : Value) (p0 : Int32) (p1 : Int32) (o5 : Int32) (b6 : Nat → Int32) (o20 : Int32) (b21 : Nat → Int32) (hn_CS : ¬ (f_CS = (0 : Int32))) (hr_f_SF : f_SF.isRef = true) (hr_f_SS : f_SS.isRef = true) (hp14 : own_draw p0 o5 b6) (hp29 : own_draw p1 o20 b21) : ¬ o20 < 0 := by
  have hn0 := own_len4 hp29.1
  clear hp29
  rcases hn0 with rfl | rfl | rfl | rfl <;> decide
theorem ob_0_26 (f_CS : Int32) (f_SF : Value) (f_SS : Value) (p0 : Int32) (p1 : Int32) (o5 : Int32) (b6 : Nat → Int32) (o20 : Int32) (b21 : Nat → Int32) (hn_CS : ¬ (f_CS = (0 : Int32))) (hr_f_SF : f_SF.isRef = true) (hr_f_SS : f_SS.isRef = true) (hp14 : own_draw p0 o5 b6) (hp29 : own_draw p1 o20 b21) : 0 + (o20).toNatClampNeg ≤ (o20).toNatClampNeg := by
  have hn0 := own_len4 hp29.1
  clear hp29
  rcases hn0 with rfl | rfl | rfl | rfl <;> decide
theorem ob_0_27 (f_CS : Int32) (f_SF : Value) (f_SS : Value) (p0 : Int32) (p1 : Int32) (o5 : Int32) (b6 : Nat → Int32) (o20 : Int32) (b21 : Nat → Int32) (hn_CS : ¬ (f_CS = (0 : Int32))) (hr_f_SF : f_SF.isRef = true) (hr_f_SS : f_SS.isRef = true) (hp14 : own_draw p0 o5 b6) (hp29 : own_draw p1 o20 b21) : ((((0 : Int32) + o5) + (2 : Int32))).toNatClampNeg + (o20).toNatClampNeg ≤ 16 := by
  have hn0 := own_len4 hp14.1
  clear hp14
  have hn1 := own_len4 hp29.1
  clear hp29
  rcases hn0 with rfl | rfl | rfl | rfl <;> rcases hn1 with rfl | rfl | rfl | rfl <;> decide
theorem ob_0_28 (f_CS : Int32) (f_SF : Value) (f_SS : Value) (p0 : Int32) (p1 : Int32) (o5 : Int32) (b6 : Nat → Int32) (o20 : Int32) (b21 : Nat → Int32) (hn_CS : ¬ (f_CS = (0 : Int32))) (hr_f_SF : f_SF.isRef = true) (hr_f_SS : f_SS.isRef = true) (hp14 : own_draw p0 o5 b6) (hp29 : own_draw p1 o20 b21) : ¬ (((((0 : Int32) + o5) + (2 : Int32)) + o20) = (16 : Int32)) := by
  have hn0 := own_len4 hp14.1
  clear hp14
  have hn1 := own_len4 hp29.1
  clear hp29
  rcases hn0 with rfl | rfl | rfl | rfl <;> rcases hn1 with rfl | rfl | rfl | rfl <;> decide
theorem ob_0_29 (f_CS : Int32) (f_SF : Value) (f_SS : Value) (p0 : Int32) (p1 : Int32) (o5 : Int32) (b6 : Nat → Int32) (o20 : Int32) (b21 : Nat → Int32) (hn_CS : ¬ (f_CS = (0 : Int32))) (hr_f_SF : f_SF.isRef = true) (hr_f_SS : f_SS.isRef = true) (hp14 : own_draw p0 o5 b6) (hp29 : own_draw p1 o20 b21) : ¬ (((((0 : Int32) + o5) + (2 : Int32)) + o20) < (0 : Int32)) := by
  have hn0 := own_len4 hp14.1
  clear hp14
  have hn1 := own_len4 hp29.1
  clear hp29
  rcases hn0 with rfl | rfl | rfl | rfl <;> rcases hn1 with rfl | rfl | rfl | rfl <;> decide
theorem ob_0_30 (f_CS : Int32) (f_SF : Value) (f_SS : Value) (p0 : Int32) (p1 : Int32) (o5 : Int32) (b6 : Nat → Int32) (o20 : Int32) (b21 : Nat → Int32) (hn_CS : ¬ (f_CS = (0 : Int32))) (hr_f_SF : f_SF.isRef = true) (hr_f_SS : f_SS.isRef = true) (hp14 : own_draw p0 o5 b6) (hp29 : own_draw p1 o20 b21) : (((((0 : Int32) + o5) + (2 : Int32)) + o20)).toNatClampNeg ≤ 16 := by
  have hn0 := own_len4 hp14.1
  clear hp14
  have hn1 := own_len4 hp29.1
  clear hp29
  rcases hn0 with rfl | rfl | rfl | rfl <;> rcases hn1 with rfl | rfl | rfl | rfl <;> decide
theorem ob_0_31 (f_CS : Int32) (f_SF : Value) (f_SS : Value) (p0 : Int32) (p1 : Int32) (o5 : Int32) (b6 : Nat → Int32) (o20 : Int32) (b21 : Nat → Int32) (hn_CS : ¬ (f_CS = (0 : Int32))) (hr_f_SF : f_SF.isRef = true) (hr_f_SS : f_SS.isRef = true) (hp14 : own_draw p0 o5 b6) (hp29 : own_draw p1 o20 b21) : ((((0 : Int32) + o5) + (2 : Int32)) + o20) < (16 : Int32) := by
  have hn0 := own_len4 hp14.1
  clear hp14
  have hn1 := own_len4 hp29.1
  clear hp29
  rcases hn0 with rfl | rfl | rfl | rfl <;> rcases hn1 with rfl | rfl | rfl | rfl <;> decide
theorem ob_0_32 (f_CS : Int32) (f_SF : Value) (f_SS : Value) (p0 : Int32) (p1 : Int32) (o5 : Int32) (b6 : Nat → Int32) (o20 : Int32) (b21 : Nat → Int32) (hn_CS : ¬ (f_CS = (0 : Int32))) (hr_f_SF : f_SF.isRef = true) (hr_f_SS : f_SS.isRef = true) (hp14 : own_draw p0 o5 b6) (hp29 : own_draw p1 o20 b21) : ¬ ((((0 : Int32) + o5) + (2 : Int32)) + o20) < 0 := by
  have hn0 := own_len4 hp14.1
  clear hp14
  have hn1 := own_len4 hp29.1
  clear hp29
  rcases hn0 with rfl | rfl | rfl | rfl <;> rcases hn1 with rfl | rfl | rfl | rfl <;> decide
theorem ob_0_33 (f_CS : Int32) (f_SF : Value) (f_SS : Value) (p0 : Int32) (p1 : Int32) (o5 : Int32) (b6 : Nat → Int32) (o20 : Int32) (b21 : Nat → Int32) (hn_CS : ¬ (f_CS = (0 : Int32))) (hr_f_SF : f_SF.isRef = true) (hr_f_SS : f_SS.isRef = true) (hp14 : own_draw p0 o5 b6) (hp29 : own_draw p1 o20 b21) : 0 + (((((0 : Int32) + o5) + (2 : Int32)) + o20)).toNatClampNeg ≤ 16 := by
  have hn0 := own_len4 hp14.1
  clear hp14
  have hn1 := own_len4 hp29.1
  clear hp29
  rcases hn0 with rfl | rfl | rfl | rfl <;> rcases hn1 with rfl | rfl | rfl | rfl <;> decide
theorem ob_0_34 (f_CS : Int32) (f_SF : Value) (f_SS : Value) (p0 : Int32) (p1 : Int32) (o5 : Int32) (b6 : Nat → Int32) (o20 : Int32) (b21 : Nat → Int32) (hn_CS : ¬ (f_CS = (0 : Int32))) (hr_f_SF : f_SF.isRef = true) (hr_f_SS : f_SS.isRef = true) (hp14 : own_draw p0 o5 b6) (hp29 : own_draw p1 o20 b21) : 0 + (((((0 : Int32) + o5) + (2 : Int32)) + o20)).toNatClampNeg ≤ (((((0 : Int32) + o5) + (2 : Int32)) + o20)).toNatClampNeg := by
  have hn0 := own_len4 hp14.1
  clear hp14
  have hn1 := own_len4 hp29.1
  clear hp29
  rcases hn0 with rfl | rfl | rfl | rfl <;> rcases hn1 with rfl | rfl | rfl | rfl <;> decide
theorem ob_0_35 (f_CS : Int32) (f_SF : Value) (f_SS : Value) (p0 : Int32) (p1 : Int32) (o5 : Int32) (b6 : Nat → Int32) (o20 : Int32) (b21 : Nat → Int32) (v59 : Int32) (v60 : Int32) (o66 : Int32) (hn_CS : ¬ (f_CS = (0 : Int32))) (hr_f_SF : f_SF.isRef = true) (hr_f_SS : f_SS.isRef = true) (hp14 : own_draw p0 o5 b6) (hp29 : own_draw p1 o20 b21) (hv59 : (((p0.toUInt32 >>> ((24 : Int32) &&& 31).toUInt32).toInt32) &&& (3 : Int32)) = v59) (hv60 : (((p1.toUInt32 >>> ((24 : Int32) &&& 31).toUInt32).toInt32) &&& (3 : Int32)) = v60) (c63 : ((((0 : Int32) + o5) + (2 : Int32)) + o20) = ((v59 + (2 : Int32)) + v60)) (hp67 : (∃ (o5_same : Int32), ((0 : Int32) < ((((0 : Int32) + o5) + (2 : Int32)) + o20)) ∧ (own_exp (0 : Int32) p0 p1 o5_same) ∧ ((nar .char (nar .char ((((own_cp (own_cp b21 0 (own_cp (own_li [58, 32]) 0 (own_cp b6 0 (fun _ => (0 : Int32)) 0 (o5).toNatClampNeg) (((0 : Int32) + o5)).toNatClampNeg 2) ((((0 : Int32) + o5) + (2 : Int32))).toNatClampNeg (o20).toNatClampNeg) 0 (fun _ => (0 : Int32)) 0 (((((0 : Int32) + o5) + (2 : Int32)) + o20)).toNatClampNeg) 0) &&& (255 : Int32)).toUInt32.toUInt16.toUInt32.toInt32))) = o5_same) ∧ o66 = (1 : Int32)) ∨ (∃ (o5_same : Int32), ((0 : Int32) < ((((0 : Int32) + o5) + (2 : Int32)) + o20)) ∧ (own_exp (0 : Int32) p0 p1 o5_same) ∧ (¬ ((nar .char (nar .char ((((own_cp (own_cp b21 0 (own_cp (own_li [58, 32]) 0 (own_cp b6 0 (fun _ => (0 : Int32)) 0 (o5).toNatClampNeg) (((0 : Int32) + o5)).toNatClampNeg 2) ((((0 : Int32) + o5) + (2 : Int32))).toNatClampNeg (o20).toNatClampNeg) 0 (fun _ => (0 : Int32)) 0 (((((0 : Int32) + o5) + (2 : Int32)) + o20)).toNatClampNeg) 0) &&& (255 : Int32)).toUInt32.toUInt16.toUInt32.toInt32))) = o5_same)) ∧ o66 = (0 : Int32)) ∨ ((¬ ((0 : Int32) < ((((0 : Int32) + o5) + (2 : Int32)) + o20))) ∧ o66 = (1 : Int32))) (c68 : o66 = (0 : Int32)) : False := by
  rcases hp67 with ⟨_, _, _, _, q⟩ | ⟨o', hlt, he, ne, _⟩ | ⟨_, q⟩
  · rw [q] at c68; exact absurd c68 (by decide)
  · exact ne (own_s0 hp14 hp29 hlt he)
  · rw [q] at c68; exact absurd c68 (by decide)
theorem ob_0_36 (f_CS : Int32) (f_SF : Value) (f_SS : Value) (p0 : Int32) (p1 : Int32) (o5 : Int32) (b6 : Nat → Int32) (o20 : Int32) (b21 : Nat → Int32) (v59 : Int32) (v60 : Int32) (o66 : Int32) (o70 : Int32) (hn_CS : ¬ (f_CS = (0 : Int32))) (hr_f_SF : f_SF.isRef = true) (hr_f_SS : f_SS.isRef = true) (hp14 : own_draw p0 o5 b6) (hp29 : own_draw p1 o20 b21) (hv59 : (((p0.toUInt32 >>> ((24 : Int32) &&& 31).toUInt32).toInt32) &&& (3 : Int32)) = v59) (hv60 : (((p1.toUInt32 >>> ((24 : Int32) &&& 31).toUInt32).toInt32) &&& (3 : Int32)) = v60) (c63 : ((((0 : Int32) + o5) + (2 : Int32)) + o20) = ((v59 + (2 : Int32)) + v60)) (hp67 : (∃ (o5_same : Int32), ((0 : Int32) < ((((0 : Int32) + o5) + (2 : Int32)) + o20)) ∧ (own_exp (0 : Int32) p0 p1 o5_same) ∧ ((nar .char (nar .char ((((own_cp (own_cp b21 0 (own_cp (own_li [58, 32]) 0 (own_cp b6 0 (fun _ => (0 : Int32)) 0 (o5).toNatClampNeg) (((0 : Int32) + o5)).toNatClampNeg 2) ((((0 : Int32) + o5) + (2 : Int32))).toNatClampNeg (o20).toNatClampNeg) 0 (fun _ => (0 : Int32)) 0 (((((0 : Int32) + o5) + (2 : Int32)) + o20)).toNatClampNeg) 0) &&& (255 : Int32)).toUInt32.toUInt16.toUInt32.toInt32))) = o5_same) ∧ o66 = (1 : Int32)) ∨ (∃ (o5_same : Int32), ((0 : Int32) < ((((0 : Int32) + o5) + (2 : Int32)) + o20)) ∧ (own_exp (0 : Int32) p0 p1 o5_same) ∧ (¬ ((nar .char (nar .char ((((own_cp (own_cp b21 0 (own_cp (own_li [58, 32]) 0 (own_cp b6 0 (fun _ => (0 : Int32)) 0 (o5).toNatClampNeg) (((0 : Int32) + o5)).toNatClampNeg 2) ((((0 : Int32) + o5) + (2 : Int32))).toNatClampNeg (o20).toNatClampNeg) 0 (fun _ => (0 : Int32)) 0 (((((0 : Int32) + o5) + (2 : Int32)) + o20)).toNatClampNeg) 0) &&& (255 : Int32)).toUInt32.toUInt16.toUInt32.toInt32))) = o5_same)) ∧ o66 = (0 : Int32)) ∨ ((¬ ((0 : Int32) < ((((0 : Int32) + o5) + (2 : Int32)) + o20))) ∧ o66 = (1 : Int32))) (c68 : ¬ (o66 = (0 : Int32))) (hp71 : (∃ (o5_same : Int32), ((1 : Int32) < ((((0 : Int32) + o5) + (2 : Int32)) + o20)) ∧ (own_exp (1 : Int32) p0 p1 o5_same) ∧ ((nar .char (nar .char ((((own_cp (own_cp b21 0 (own_cp (own_li [58, 32]) 0 (own_cp b6 0 (fun _ => (0 : Int32)) 0 (o5).toNatClampNeg) (((0 : Int32) + o5)).toNatClampNeg 2) ((((0 : Int32) + o5) + (2 : Int32))).toNatClampNeg (o20).toNatClampNeg) 0 (fun _ => (0 : Int32)) 0 (((((0 : Int32) + o5) + (2 : Int32)) + o20)).toNatClampNeg) 1) &&& (255 : Int32)).toUInt32.toUInt16.toUInt32.toInt32))) = o5_same) ∧ o70 = (1 : Int32)) ∨ (∃ (o5_same : Int32), ((1 : Int32) < ((((0 : Int32) + o5) + (2 : Int32)) + o20)) ∧ (own_exp (1 : Int32) p0 p1 o5_same) ∧ (¬ ((nar .char (nar .char ((((own_cp (own_cp b21 0 (own_cp (own_li [58, 32]) 0 (own_cp b6 0 (fun _ => (0 : Int32)) 0 (o5).toNatClampNeg) (((0 : Int32) + o5)).toNatClampNeg 2) ((((0 : Int32) + o5) + (2 : Int32))).toNatClampNeg (o20).toNatClampNeg) 0 (fun _ => (0 : Int32)) 0 (((((0 : Int32) + o5) + (2 : Int32)) + o20)).toNatClampNeg) 1) &&& (255 : Int32)).toUInt32.toUInt16.toUInt32.toInt32))) = o5_same)) ∧ o70 = (0 : Int32)) ∨ ((¬ ((1 : Int32) < ((((0 : Int32) + o5) + (2 : Int32)) + o20))) ∧ o70 = (1 : Int32))) (c72 : o70 = (0 : Int32)) : False := by
  rcases hp71 with ⟨_, _, _, _, q⟩ | ⟨o', hlt, he, ne, _⟩ | ⟨_, q⟩
  · rw [q] at c72; exact absurd c72 (by decide)
  · exact ne (own_s1 hp14 hp29 hlt he)
  · rw [q] at c72; exact absurd c72 (by decide)
theorem ob_0_37 (f_CS : Int32) (f_SF : Value) (f_SS : Value) (p0 : Int32) (p1 : Int32) (o5 : Int32) (b6 : Nat → Int32) (o20 : Int32) (b21 : Nat → Int32) (v59 : Int32) (v60 : Int32) (o66 : Int32) (o70 : Int32) (o74 : Int32) (hn_CS : ¬ (f_CS = (0 : Int32))) (hr_f_SF : f_SF.isRef = true) (hr_f_SS : f_SS.isRef = true) (hp14 : own_draw p0 o5 b6) (hp29 : own_draw p1 o20 b21) (hv59 : (((p0.toUInt32 >>> ((24 : Int32) &&& 31).toUInt32).toInt32) &&& (3 : Int32)) = v59) (hv60 : (((p1.toUInt32 >>> ((24 : Int32) &&& 31).toUInt32).toInt32) &&& (3 : Int32)) = v60) (c63 : ((((0 : Int32) + o5) + (2 : Int32)) + o20) = ((v59 + (2 : Int32)) + v60)) (hp67 : (∃ (o5_same : Int32), ((0 : Int32) < ((((0 : Int32) + o5) + (2 : Int32)) + o20)) ∧ (own_exp (0 : Int32) p0 p1 o5_same) ∧ ((nar .char (nar .char ((((own_cp (own_cp b21 0 (own_cp (own_li [58, 32]) 0 (own_cp b6 0 (fun _ => (0 : Int32)) 0 (o5).toNatClampNeg) (((0 : Int32) + o5)).toNatClampNeg 2) ((((0 : Int32) + o5) + (2 : Int32))).toNatClampNeg (o20).toNatClampNeg) 0 (fun _ => (0 : Int32)) 0 (((((0 : Int32) + o5) + (2 : Int32)) + o20)).toNatClampNeg) 0) &&& (255 : Int32)).toUInt32.toUInt16.toUInt32.toInt32))) = o5_same) ∧ o66 = (1 : Int32)) ∨ (∃ (o5_same : Int32), ((0 : Int32) < ((((0 : Int32) + o5) + (2 : Int32)) + o20)) ∧ (own_exp (0 : Int32) p0 p1 o5_same) ∧ (¬ ((nar .char (nar .char ((((own_cp (own_cp b21 0 (own_cp (own_li [58, 32]) 0 (own_cp b6 0 (fun _ => (0 : Int32)) 0 (o5).toNatClampNeg) (((0 : Int32) + o5)).toNatClampNeg 2) ((((0 : Int32) + o5) + (2 : Int32))).toNatClampNeg (o20).toNatClampNeg) 0 (fun _ => (0 : Int32)) 0 (((((0 : Int32) + o5) + (2 : Int32)) + o20)).toNatClampNeg) 0) &&& (255 : Int32)).toUInt32.toUInt16.toUInt32.toInt32))) = o5_same)) ∧ o66 = (0 : Int32)) ∨ ((¬ ((0 : Int32) < ((((0 : Int32) + o5) + (2 : Int32)) + o20))) ∧ o66 = (1 : Int32))) (c68 : ¬ (o66 = (0 : Int32))) (hp71 : (∃ (o5_same : Int32), ((1 : Int32) < ((((0 : Int32) + o5) + (2 : Int32)) + o20)) ∧ (own_exp (1 : Int32) p0 p1 o5_same) ∧ ((nar .char (nar .char ((((own_cp (own_cp b21 0 (own_cp (own_li [58, 32]) 0 (own_cp b6 0 (fun _ => (0 : Int32)) 0 (o5).toNatClampNeg) (((0 : Int32) + o5)).toNatClampNeg 2) ((((0 : Int32) + o5) + (2 : Int32))).toNatClampNeg (o20).toNatClampNeg) 0 (fun _ => (0 : Int32)) 0 (((((0 : Int32) + o5) + (2 : Int32)) + o20)).toNatClampNeg) 1) &&& (255 : Int32)).toUInt32.toUInt16.toUInt32.toInt32))) = o5_same) ∧ o70 = (1 : Int32)) ∨ (∃ (o5_same : Int32), ((1 : Int32) < ((((0 : Int32) + o5) + (2 : Int32)) + o20)) ∧ (own_exp (1 : Int32) p0 p1 o5_same) ∧ (¬ ((nar .char (nar .char ((((own_cp (own_cp b21 0 (own_cp (own_li [58, 32]) 0 (own_cp b6 0 (fun _ => (0 : Int32)) 0 (o5).toNatClampNeg) (((0 : Int32) + o5)).toNatClampNeg 2) ((((0 : Int32) + o5) + (2 : Int32))).toNatClampNeg (o20).toNatClampNeg) 0 (fun _ => (0 : Int32)) 0 (((((0 : Int32) + o5) + (2 : Int32)) + o20)).toNatClampNeg) 1) &&& (255 : Int32)).toUInt32.toUInt16.toUInt32.toInt32))) = o5_same)) ∧ o70 = (0 : Int32)) ∨ ((¬ ((1 : Int32) < ((((0 : Int32) + o5) + (2 : Int32)) + o20))) ∧ o70 = (1 : Int32))) (c72 : ¬ (o70 = (0 : Int32))) (hp75 : (∃ (o5_same : Int32), ((2 : Int32) < ((((0 : Int32) + o5) + (2 : Int32)) + o20)) ∧ (own_exp (2 : Int32) p0 p1 o5_same) ∧ ((nar .char (nar .char ((((own_cp (own_cp b21 0 (own_cp (own_li [58, 32]) 0 (own_cp b6 0 (fun _ => (0 : Int32)) 0 (o5).toNatClampNeg) (((0 : Int32) + o5)).toNatClampNeg 2) ((((0 : Int32) + o5) + (2 : Int32))).toNatClampNeg (o20).toNatClampNeg) 0 (fun _ => (0 : Int32)) 0 (((((0 : Int32) + o5) + (2 : Int32)) + o20)).toNatClampNeg) 2) &&& (255 : Int32)).toUInt32.toUInt16.toUInt32.toInt32))) = o5_same) ∧ o74 = (1 : Int32)) ∨ (∃ (o5_same : Int32), ((2 : Int32) < ((((0 : Int32) + o5) + (2 : Int32)) + o20)) ∧ (own_exp (2 : Int32) p0 p1 o5_same) ∧ (¬ ((nar .char (nar .char ((((own_cp (own_cp b21 0 (own_cp (own_li [58, 32]) 0 (own_cp b6 0 (fun _ => (0 : Int32)) 0 (o5).toNatClampNeg) (((0 : Int32) + o5)).toNatClampNeg 2) ((((0 : Int32) + o5) + (2 : Int32))).toNatClampNeg (o20).toNatClampNeg) 0 (fun _ => (0 : Int32)) 0 (((((0 : Int32) + o5) + (2 : Int32)) + o20)).toNatClampNeg) 2) &&& (255 : Int32)).toUInt32.toUInt16.toUInt32.toInt32))) = o5_same)) ∧ o74 = (0 : Int32)) ∨ ((¬ ((2 : Int32) < ((((0 : Int32) + o5) + (2 : Int32)) + o20))) ∧ o74 = (1 : Int32))) (c76 : o74 = (0 : Int32)) : False := by
  rcases hp75 with ⟨_, _, _, _, q⟩ | ⟨o', hlt, he, ne, _⟩ | ⟨_, q⟩
  · rw [q] at c76; exact absurd c76 (by decide)
  · exact ne (own_s2 hp14 hp29 hlt he)
  · rw [q] at c76; exact absurd c76 (by decide)
theorem ob_0_38 (f_CS : Int32) (f_SF : Value) (f_SS : Value) (p0 : Int32) (p1 : Int32) (o5 : Int32) (b6 : Nat → Int32) (o20 : Int32) (b21 : Nat → Int32) (v59 : Int32) (v60 : Int32) (o66 : Int32) (o70 : Int32) (o74 : Int32) (o78 : Int32) (hn_CS : ¬ (f_CS = (0 : Int32))) (hr_f_SF : f_SF.isRef = true) (hr_f_SS : f_SS.isRef = true) (hp14 : own_draw p0 o5 b6) (hp29 : own_draw p1 o20 b21) (hv59 : (((p0.toUInt32 >>> ((24 : Int32) &&& 31).toUInt32).toInt32) &&& (3 : Int32)) = v59) (hv60 : (((p1.toUInt32 >>> ((24 : Int32) &&& 31).toUInt32).toInt32) &&& (3 : Int32)) = v60) (c63 : ((((0 : Int32) + o5) + (2 : Int32)) + o20) = ((v59 + (2 : Int32)) + v60)) (hp67 : (∃ (o5_same : Int32), ((0 : Int32) < ((((0 : Int32) + o5) + (2 : Int32)) + o20)) ∧ (own_exp (0 : Int32) p0 p1 o5_same) ∧ ((nar .char (nar .char ((((own_cp (own_cp b21 0 (own_cp (own_li [58, 32]) 0 (own_cp b6 0 (fun _ => (0 : Int32)) 0 (o5).toNatClampNeg) (((0 : Int32) + o5)).toNatClampNeg 2) ((((0 : Int32) + o5) + (2 : Int32))).toNatClampNeg (o20).toNatClampNeg) 0 (fun _ => (0 : Int32)) 0 (((((0 : Int32) + o5) + (2 : Int32)) + o20)).toNatClampNeg) 0) &&& (255 : Int32)).toUInt32.toUInt16.toUInt32.toInt32))) = o5_same) ∧ o66 = (1 : Int32)) ∨ (∃ (o5_same : Int32), ((0 : Int32) < ((((0 : Int32) + o5) + (2 : Int32)) + o20)) ∧ (own_exp (0 : Int32) p0 p1 o5_same) ∧ (¬ ((nar .char (nar .char ((((own_cp (own_cp b21 0 (own_cp (own_li [58, 32]) 0 (own_cp b6 0 (fun _ => (0 : Int32)) 0 (o5).toNatClampNeg) (((0 : Int32) + o5)).toNatClampNeg 2) ((((0 : Int32) + o5) + (2 : Int32))).toNatClampNeg (o20).toNatClampNeg) 0 (fun _ => (0 : Int32)) 0 (((((0 : Int32) + o5) + (2 : Int32)) + o20)).toNatClampNeg) 0) &&& (255 : Int32)).toUInt32.toUInt16.toUInt32.toInt32))) = o5_same)) ∧ o66 = (0 : Int32)) ∨ ((¬ ((0 : Int32) < ((((0 : Int32) + o5) + (2 : Int32)) + o20))) ∧ o66 = (1 : Int32))) (c68 : ¬ (o66 = (0 : Int32))) (hp71 : (∃ (o5_same : Int32), ((1 : Int32) < ((((0 : Int32) + o5) + (2 : Int32)) + o20)) ∧ (own_exp (1 : Int32) p0 p1 o5_same) ∧ ((nar .char (nar .char ((((own_cp (own_cp b21 0 (own_cp (own_li [58, 32]) 0 (own_cp b6 0 (fun _ => (0 : Int32)) 0 (o5).toNatClampNeg) (((0 : Int32) + o5)).toNatClampNeg 2) ((((0 : Int32) + o5) + (2 : Int32))).toNatClampNeg (o20).toNatClampNeg) 0 (fun _ => (0 : Int32)) 0 (((((0 : Int32) + o5) + (2 : Int32)) + o20)).toNatClampNeg) 1) &&& (255 : Int32)).toUInt32.toUInt16.toUInt32.toInt32))) = o5_same) ∧ o70 = (1 : Int32)) ∨ (∃ (o5_same : Int32), ((1 : Int32) < ((((0 : Int32) + o5) + (2 : Int32)) + o20)) ∧ (own_exp (1 : Int32) p0 p1 o5_same) ∧ (¬ ((nar .char (nar .char ((((own_cp (own_cp b21 0 (own_cp (own_li [58, 32]) 0 (own_cp b6 0 (fun _ => (0 : Int32)) 0 (o5).toNatClampNeg) (((0 : Int32) + o5)).toNatClampNeg 2) ((((0 : Int32) + o5) + (2 : Int32))).toNatClampNeg (o20).toNatClampNeg) 0 (fun _ => (0 : Int32)) 0 (((((0 : Int32) + o5) + (2 : Int32)) + o20)).toNatClampNeg) 1) &&& (255 : Int32)).toUInt32.toUInt16.toUInt32.toInt32))) = o5_same)) ∧ o70 = (0 : Int32)) ∨ ((¬ ((1 : Int32) < ((((0 : Int32) + o5) + (2 : Int32)) + o20))) ∧ o70 = (1 : Int32))) (c72 : ¬ (o70 = (0 : Int32))) (hp75 : (∃ (o5_same : Int32), ((2 : Int32) < ((((0 : Int32) + o5) + (2 : Int32)) + o20)) ∧ (own_exp (2 : Int32) p0 p1 o5_same) ∧ ((nar .char (nar .char ((((own_cp (own_cp b21 0 (own_cp (own_li [58, 32]) 0 (own_cp b6 0 (fun _ => (0 : Int32)) 0 (o5).toNatClampNeg) (((0 : Int32) + o5)).toNatClampNeg 2) ((((0 : Int32) + o5) + (2 : Int32))).toNatClampNeg (o20).toNatClampNeg) 0 (fun _ => (0 : Int32)) 0 (((((0 : Int32) + o5) + (2 : Int32)) + o20)).toNatClampNeg) 2) &&& (255 : Int32)).toUInt32.toUInt16.toUInt32.toInt32))) = o5_same) ∧ o74 = (1 : Int32)) ∨ (∃ (o5_same : Int32), ((2 : Int32) < ((((0 : Int32) + o5) + (2 : Int32)) + o20)) ∧ (own_exp (2 : Int32) p0 p1 o5_same) ∧ (¬ ((nar .char (nar .char ((((own_cp (own_cp b21 0 (own_cp (own_li [58, 32]) 0 (own_cp b6 0 (fun _ => (0 : Int32)) 0 (o5).toNatClampNeg) (((0 : Int32) + o5)).toNatClampNeg 2) ((((0 : Int32) + o5) + (2 : Int32))).toNatClampNeg (o20).toNatClampNeg) 0 (fun _ => (0 : Int32)) 0 (((((0 : Int32) + o5) + (2 : Int32)) + o20)).toNatClampNeg) 2) &&& (255 : Int32)).toUInt32.toUInt16.toUInt32.toInt32))) = o5_same)) ∧ o74 = (0 : Int32)) ∨ ((¬ ((2 : Int32) < ((((0 : Int32) + o5) + (2 : Int32)) + o20))) ∧ o74 = (1 : Int32))) (c76 : ¬ (o74 = (0 : Int32))) (hp79 : (∃ (o5_same : Int32), ((3 : Int32) < ((((0 : Int32) + o5) + (2 : Int32)) + o20)) ∧ (own_exp (3 : Int32) p0 p1 o5_same) ∧ ((nar .char (nar .char ((((own_cp (own_cp b21 0 (own_cp (own_li [58, 32]) 0 (own_cp b6 0 (fun _ => (0 : Int32)) 0 (o5).toNatClampNeg) (((0 : Int32) + o5)).toNatClampNeg 2) ((((0 : Int32) + o5) + (2 : Int32))).toNatClampNeg (o20).toNatClampNeg) 0 (fun _ => (0 : Int32)) 0 (((((0 : Int32) + o5) + (2 : Int32)) + o20)).toNatClampNeg) 3) &&& (255 : Int32)).toUInt32.toUInt16.toUInt32.toInt32))) = o5_same) ∧ o78 = (1 : Int32)) ∨ (∃ (o5_same : Int32), ((3 : Int32) < ((((0 : Int32) + o5) + (2 : Int32)) + o20)) ∧ (own_exp (3 : Int32) p0 p1 o5_same) ∧ (¬ ((nar .char (nar .char ((((own_cp (own_cp b21 0 (own_cp (own_li [58, 32]) 0 (own_cp b6 0 (fun _ => (0 : Int32)) 0 (o5).toNatClampNeg) (((0 : Int32) + o5)).toNatClampNeg 2) ((((0 : Int32) + o5) + (2 : Int32))).toNatClampNeg (o20).toNatClampNeg) 0 (fun _ => (0 : Int32)) 0 (((((0 : Int32) + o5) + (2 : Int32)) + o20)).toNatClampNeg) 3) &&& (255 : Int32)).toUInt32.toUInt16.toUInt32.toInt32))) = o5_same)) ∧ o78 = (0 : Int32)) ∨ ((¬ ((3 : Int32) < ((((0 : Int32) + o5) + (2 : Int32)) + o20))) ∧ o78 = (1 : Int32))) (c80 : o78 = (0 : Int32)) : False := by
  rcases hp79 with ⟨_, _, _, _, q⟩ | ⟨o', hlt, he, ne, _⟩ | ⟨_, q⟩
  · rw [q] at c80; exact absurd c80 (by decide)
  · exact ne (own_s3 hp14 hp29 hlt he)
  · rw [q] at c80; exact absurd c80 (by decide)
theorem ob_0_39 (f_CS : Int32) (f_SF : Value) (f_SS : Value) (p0 : Int32) (p1 : Int32) (o5 : Int32) (b6 : Nat → Int32) (o20 : Int32) (b21 : Nat → Int32) (v59 : Int32) (v60 : Int32) (o66 : Int32) (o70 : Int32) (o74 : Int32) (o78 : Int32) (o82 : Int32) (hn_CS : ¬ (f_CS = (0 : Int32))) (hr_f_SF : f_SF.isRef = true) (hr_f_SS : f_SS.isRef = true) (hp14 : own_draw p0 o5 b6) (hp29 : own_draw p1 o20 b21) (hv59 : (((p0.toUInt32 >>> ((24 : Int32) &&& 31).toUInt32).toInt32) &&& (3 : Int32)) = v59) (hv60 : (((p1.toUInt32 >>> ((24 : Int32) &&& 31).toUInt32).toInt32) &&& (3 : Int32)) = v60) (c63 : ((((0 : Int32) + o5) + (2 : Int32)) + o20) = ((v59 + (2 : Int32)) + v60)) (hp67 : (∃ (o5_same : Int32), ((0 : Int32) < ((((0 : Int32) + o5) + (2 : Int32)) + o20)) ∧ (own_exp (0 : Int32) p0 p1 o5_same) ∧ ((nar .char (nar .char ((((own_cp (own_cp b21 0 (own_cp (own_li [58, 32]) 0 (own_cp b6 0 (fun _ => (0 : Int32)) 0 (o5).toNatClampNeg) (((0 : Int32) + o5)).toNatClampNeg 2) ((((0 : Int32) + o5) + (2 : Int32))).toNatClampNeg (o20).toNatClampNeg) 0 (fun _ => (0 : Int32)) 0 (((((0 : Int32) + o5) + (2 : Int32)) + o20)).toNatClampNeg) 0) &&& (255 : Int32)).toUInt32.toUInt16.toUInt32.toInt32))) = o5_same) ∧ o66 = (1 : Int32)) ∨ (∃ (o5_same : Int32), ((0 : Int32) < ((((0 : Int32) + o5) + (2 : Int32)) + o20)) ∧ (own_exp (0 : Int32) p0 p1 o5_same) ∧ (¬ ((nar .char (nar .char ((((own_cp (own_cp b21 0 (own_cp (own_li [58, 32]) 0 (own_cp b6 0 (fun _ => (0 : Int32)) 0 (o5).toNatClampNeg) (((0 : Int32) + o5)).toNatClampNeg 2) ((((0 : Int32) + o5) + (2 : Int32))).toNatClampNeg (o20).toNatClampNeg) 0 (fun _ => (0 : Int32)) 0 (((((0 : Int32) + o5) + (2 : Int32)) + o20)).toNatClampNeg) 0) &&& (255 : Int32)).toUInt32.toUInt16.toUInt32.toInt32))) = o5_same)) ∧ o66 = (0 : Int32)) ∨ ((¬ ((0 : Int32) < ((((0 : Int32) + o5) + (2 : Int32)) + o20))) ∧ o66 = (1 : Int32))) (c68 : ¬ (o66 = (0 : Int32))) (hp71 : (∃ (o5_same : Int32), ((1 : Int32) < ((((0 : Int32) + o5) + (2 : Int32)) + o20)) ∧ (own_exp (1 : Int32) p0 p1 o5_same) ∧ ((nar .char (nar .char ((((own_cp (own_cp b21 0 (own_cp (own_li [58, 32]) 0 (own_cp b6 0 (fun _ => (0 : Int32)) 0 (o5).toNatClampNeg) (((0 : Int32) + o5)).toNatClampNeg 2) ((((0 : Int32) + o5) + (2 : Int32))).toNatClampNeg (o20).toNatClampNeg) 0 (fun _ => (0 : Int32)) 0 (((((0 : Int32) + o5) + (2 : Int32)) + o20)).toNatClampNeg) 1) &&& (255 : Int32)).toUInt32.toUInt16.toUInt32.toInt32))) = o5_same) ∧ o70 = (1 : Int32)) ∨ (∃ (o5_same : Int32), ((1 : Int32) < ((((0 : Int32) + o5) + (2 : Int32)) + o20)) ∧ (own_exp (1 : Int32) p0 p1 o5_same) ∧ (¬ ((nar .char (nar .char ((((own_cp (own_cp b21 0 (own_cp (own_li [58, 32]) 0 (own_cp b6 0 (fun _ => (0 : Int32)) 0 (o5).toNatClampNeg) (((0 : Int32) + o5)).toNatClampNeg 2) ((((0 : Int32) + o5) + (2 : Int32))).toNatClampNeg (o20).toNatClampNeg) 0 (fun _ => (0 : Int32)) 0 (((((0 : Int32) + o5) + (2 : Int32)) + o20)).toNatClampNeg) 1) &&& (255 : Int32)).toUInt32.toUInt16.toUInt32.toInt32))) = o5_same)) ∧ o70 = (0 : Int32)) ∨ ((¬ ((1 : Int32) < ((((0 : Int32) + o5) + (2 : Int32)) + o20))) ∧ o70 = (1 : Int32))) (c72 : ¬ (o70 = (0 : Int32))) (hp75 : (∃ (o5_same : Int32), ((2 : Int32) < ((((0 : Int32) + o5) + (2 : Int32)) + o20)) ∧ (own_exp (2 : Int32) p0 p1 o5_same) ∧ ((nar .char (nar .char ((((own_cp (own_cp b21 0 (own_cp (own_li [58, 32]) 0 (own_cp b6 0 (fun _ => (0 : Int32)) 0 (o5).toNatClampNeg) (((0 : Int32) + o5)).toNatClampNeg 2) ((((0 : Int32) + o5) + (2 : Int32))).toNatClampNeg (o20).toNatClampNeg) 0 (fun _ => (0 : Int32)) 0 (((((0 : Int32) + o5) + (2 : Int32)) + o20)).toNatClampNeg) 2) &&& (255 : Int32)).toUInt32.toUInt16.toUInt32.toInt32))) = o5_same) ∧ o74 = (1 : Int32)) ∨ (∃ (o5_same : Int32), ((2 : Int32) < ((((0 : Int32) + o5) + (2 : Int32)) + o20)) ∧ (own_exp (2 : Int32) p0 p1 o5_same) ∧ (¬ ((nar .char (nar .char ((((own_cp (own_cp b21 0 (own_cp (own_li [58, 32]) 0 (own_cp b6 0 (fun _ => (0 : Int32)) 0 (o5).toNatClampNeg) (((0 : Int32) + o5)).toNatClampNeg 2) ((((0 : Int32) + o5) + (2 : Int32))).toNatClampNeg (o20).toNatClampNeg) 0 (fun _ => (0 : Int32)) 0 (((((0 : Int32) + o5) + (2 : Int32)) + o20)).toNatClampNeg) 2) &&& (255 : Int32)).toUInt32.toUInt16.toUInt32.toInt32))) = o5_same)) ∧ o74 = (0 : Int32)) ∨ ((¬ ((2 : Int32) < ((((0 : Int32) + o5) + (2 : Int32)) + o20))) ∧ o74 = (1 : Int32))) (c76 : ¬ (o74 = (0 : Int32))) (hp79 : (∃ (o5_same : Int32), ((3 : Int32) < ((((0 : Int32) + o5) + (2 : Int32)) + o20)) ∧ (own_exp (3 : Int32) p0 p1 o5_same) ∧ ((nar .char (nar .char ((((own_cp (own_cp b21 0 (own_cp (own_li [58, 32]) 0 (own_cp b6 0 (fun _ => (0 : Int32)) 0 (o5).toNatClampNeg) (((0 : Int32) + o5)).toNatClampNeg 2) ((((0 : Int32) + o5) + (2 : Int32))).toNatClampNeg (o20).toNatClampNeg) 0 (fun _ => (0 : Int32)) 0 (((((0 : Int32) + o5) + (2 : Int32)) + o20)).toNatClampNeg) 3) &&& (255 : Int32)).toUInt32.toUInt16.toUInt32.toInt32))) = o5_same) ∧ o78 = (1 : Int32)) ∨ (∃ (o5_same : Int32), ((3 : Int32) < ((((0 : Int32) + o5) + (2 : Int32)) + o20)) ∧ (own_exp (3 : Int32) p0 p1 o5_same) ∧ (¬ ((nar .char (nar .char ((((own_cp (own_cp b21 0 (own_cp (own_li [58, 32]) 0 (own_cp b6 0 (fun _ => (0 : Int32)) 0 (o5).toNatClampNeg) (((0 : Int32) + o5)).toNatClampNeg 2) ((((0 : Int32) + o5) + (2 : Int32))).toNatClampNeg (o20).toNatClampNeg) 0 (fun _ => (0 : Int32)) 0 (((((0 : Int32) + o5) + (2 : Int32)) + o20)).toNatClampNeg) 3) &&& (255 : Int32)).toUInt32.toUInt16.toUInt32.toInt32))) = o5_same)) ∧ o78 = (0 : Int32)) ∨ ((¬ ((3 : Int32) < ((((0 : Int32) + o5) + (2 : Int32)) + o20))) ∧ o78 = (1 : Int32))) (c80 : ¬ (o78 = (0 : Int32))) (hp83 : (∃ (o5_same : Int32), ((4 : Int32) < ((((0 : Int32) + o5) + (2 : Int32)) + o20)) ∧ (own_exp (4 : Int32) p0 p1 o5_same) ∧ ((nar .char (nar .char ((((own_cp (own_cp b21 0 (own_cp (own_li [58, 32]) 0 (own_cp b6 0 (fun _ => (0 : Int32)) 0 (o5).toNatClampNeg) (((0 : Int32) + o5)).toNatClampNeg 2) ((((0 : Int32) + o5) + (2 : Int32))).toNatClampNeg (o20).toNatClampNeg) 0 (fun _ => (0 : Int32)) 0 (((((0 : Int32) + o5) + (2 : Int32)) + o20)).toNatClampNeg) 4) &&& (255 : Int32)).toUInt32.toUInt16.toUInt32.toInt32))) = o5_same) ∧ o82 = (1 : Int32)) ∨ (∃ (o5_same : Int32), ((4 : Int32) < ((((0 : Int32) + o5) + (2 : Int32)) + o20)) ∧ (own_exp (4 : Int32) p0 p1 o5_same) ∧ (¬ ((nar .char (nar .char ((((own_cp (own_cp b21 0 (own_cp (own_li [58, 32]) 0 (own_cp b6 0 (fun _ => (0 : Int32)) 0 (o5).toNatClampNeg) (((0 : Int32) + o5)).toNatClampNeg 2) ((((0 : Int32) + o5) + (2 : Int32))).toNatClampNeg (o20).toNatClampNeg) 0 (fun _ => (0 : Int32)) 0 (((((0 : Int32) + o5) + (2 : Int32)) + o20)).toNatClampNeg) 4) &&& (255 : Int32)).toUInt32.toUInt16.toUInt32.toInt32))) = o5_same)) ∧ o82 = (0 : Int32)) ∨ ((¬ ((4 : Int32) < ((((0 : Int32) + o5) + (2 : Int32)) + o20))) ∧ o82 = (1 : Int32))) (c84 : o82 = (0 : Int32)) : False := by
  rcases hp83 with ⟨_, _, _, _, q⟩ | ⟨o', hlt, he, ne, _⟩ | ⟨_, q⟩
  · rw [q] at c84; exact absurd c84 (by decide)
  · exact ne (own_s4 hp14 hp29 hlt he)
  · rw [q] at c84; exact absurd c84 (by decide)
theorem ob_0_40 (f_CS : Int32) (f_SF : Value) (f_SS : Value) (p0 : Int32) (p1 : Int32) (o5 : Int32) (b6 : Nat → Int32) (o20 : Int32) (b21 : Nat → Int32) (v59 : Int32) (v60 : Int32) (o66 : Int32) (o70 : Int32) (o74 : Int32) (o78 : Int32) (o82 : Int32) (o86 : Int32) (hn_CS : ¬ (f_CS = (0 : Int32))) (hr_f_SF : f_SF.isRef = true) (hr_f_SS : f_SS.isRef = true) (hp14 : own_draw p0 o5 b6) (hp29 : own_draw p1 o20 b21) (hv59 : (((p0.toUInt32 >>> ((24 : Int32) &&& 31).toUInt32).toInt32) &&& (3 : Int32)) = v59) (hv60 : (((p1.toUInt32 >>> ((24 : Int32) &&& 31).toUInt32).toInt32) &&& (3 : Int32)) = v60) (c63 : ((((0 : Int32) + o5) + (2 : Int32)) + o20) = ((v59 + (2 : Int32)) + v60)) (hp67 : (∃ (o5_same : Int32), ((0 : Int32) < ((((0 : Int32) + o5) + (2 : Int32)) + o20)) ∧ (own_exp (0 : Int32) p0 p1 o5_same) ∧ ((nar .char (nar .char ((((own_cp (own_cp b21 0 (own_cp (own_li [58, 32]) 0 (own_cp b6 0 (fun _ => (0 : Int32)) 0 (o5).toNatClampNeg) (((0 : Int32) + o5)).toNatClampNeg 2) ((((0 : Int32) + o5) + (2 : Int32))).toNatClampNeg (o20).toNatClampNeg) 0 (fun _ => (0 : Int32)) 0 (((((0 : Int32) + o5) + (2 : Int32)) + o20)).toNatClampNeg) 0) &&& (255 : Int32)).toUInt32.toUInt16.toUInt32.toInt32))) = o5_same) ∧ o66 = (1 : Int32)) ∨ (∃ (o5_same : Int32), ((0 : Int32) < ((((0 : Int32) + o5) + (2 : Int32)) + o20)) ∧ (own_exp (0 : Int32) p0 p1 o5_same) ∧ (¬ ((nar .char (nar .char ((((own_cp (own_cp b21 0 (own_cp (own_li [58, 32]) 0 (own_cp b6 0 (fun _ => (0 : Int32)) 0 (o5).toNatClampNeg) (((0 : Int32) + o5)).toNatClampNeg 2) ((((0 : Int32) + o5) + (2 : Int32))).toNatClampNeg (o20).toNatClampNeg) 0 (fun _ => (0 : Int32)) 0 (((((0 : Int32) + o5) + (2 : Int32)) + o20)).toNatClampNeg) 0) &&& (255 : Int32)).toUInt32.toUInt16.toUInt32.toInt32))) = o5_same)) ∧ o66 = (0 : Int32)) ∨ ((¬ ((0 : Int32) < ((((0 : Int32) + o5) + (2 : Int32)) + o20))) ∧ o66 = (1 : Int32))) (c68 : ¬ (o66 = (0 : Int32))) (hp71 : (∃ (o5_same : Int32), ((1 : Int32) < ((((0 : Int32) + o5) + (2 : Int32)) + o20)) ∧ (own_exp (1 : Int32) p0 p1 o5_same) ∧ ((nar .char (nar .char ((((own_cp (own_cp b21 0 (own_cp (own_li [58, 32]) 0 (own_cp b6 0 (fun _ => (0 : Int32)) 0 (o5).toNatClampNeg) (((0 : Int32) + o5)).toNatClampNeg 2) ((((0 : Int32) + o5) + (2 : Int32))).toNatClampNeg (o20).toNatClampNeg) 0 (fun _ => (0 : Int32)) 0 (((((0 : Int32) + o5) + (2 : Int32)) + o20)).toNatClampNeg) 1) &&& (255 : Int32)).toUInt32.toUInt16.toUInt32.toInt32))) = o5_same) ∧ o70 = (1 : Int32)) ∨ (∃ (o5_same : Int32), ((1 : Int32) < ((((0 : Int32) + o5) + (2 : Int32)) + o20)) ∧ (own_exp (1 : Int32) p0 p1 o5_same) ∧ (¬ ((nar .char (nar .char ((((own_cp (own_cp b21 0 (own_cp (own_li [58, 32]) 0 (own_cp b6 0 (fun _ => (0 : Int32)) 0 (o5).toNatClampNeg) (((0 : Int32) + o5)).toNatClampNeg 2) ((((0 : Int32) + o5) + (2 : Int32))).toNatClampNeg (o20).toNatClampNeg) 0 (fun _ => (0 : Int32)) 0 (((((0 : Int32) + o5) + (2 : Int32)) + o20)).toNatClampNeg) 1) &&& (255 : Int32)).toUInt32.toUInt16.toUInt32.toInt32))) = o5_same)) ∧ o70 = (0 : Int32)) ∨ ((¬ ((1 : Int32) < ((((0 : Int32) + o5) + (2 : Int32)) + o20))) ∧ o70 = (1 : Int32))) (c72 : ¬ (o70 = (0 : Int32))) (hp75 : (∃ (o5_same : Int32), ((2 : Int32) < ((((0 : Int32) + o5) + (2 : Int32)) + o20)) ∧ (own_exp (2 : Int32) p0 p1 o5_same) ∧ ((nar .char (nar .char ((((own_cp (own_cp b21 0 (own_cp (own_li [58, 32]) 0 (own_cp b6 0 (fun _ => (0 : Int32)) 0 (o5).toNatClampNeg) (((0 : Int32) + o5)).toNatClampNeg 2) ((((0 : Int32) + o5) + (2 : Int32))).toNatClampNeg (o20).toNatClampNeg) 0 (fun _ => (0 : Int32)) 0 (((((0 : Int32) + o5) + (2 : Int32)) + o20)).toNatClampNeg) 2) &&& (255 : Int32)).toUInt32.toUInt16.toUInt32.toInt32))) = o5_same) ∧ o74 = (1 : Int32)) ∨ (∃ (o5_same : Int32), ((2 : Int32) < ((((0 : Int32) + o5) + (2 : Int32)) + o20)) ∧ (own_exp (2 : Int32) p0 p1 o5_same) ∧ (¬ ((nar .char (nar .char ((((own_cp (own_cp b21 0 (own_cp (own_li [58, 32]) 0 (own_cp b6 0 (fun _ => (0 : Int32)) 0 (o5).toNatClampNeg) (((0 : Int32) + o5)).toNatClampNeg 2) ((((0 : Int32) + o5) + (2 : Int32))).toNatClampNeg (o20).toNatClampNeg) 0 (fun _ => (0 : Int32)) 0 (((((0 : Int32) + o5) + (2 : Int32)) + o20)).toNatClampNeg) 2) &&& (255 : Int32)).toUInt32.toUInt16.toUInt32.toInt32))) = o5_same)) ∧ o74 = (0 : Int32)) ∨ ((¬ ((2 : Int32) < ((((0 : Int32) + o5) + (2 : Int32)) + o20))) ∧ o74 = (1 : Int32))) (c76 : ¬ (o74 = (0 : Int32))) (hp79 : (∃ (o5_same : Int32), ((3 : Int32) < ((((0 : Int32) + o5) + (2 : Int32)) + o20)) ∧ (own_exp (3 : Int32) p0 p1 o5_same) ∧ ((nar .char (nar .char ((((own_cp (own_cp b21 0 (own_cp (own_li [58, 32]) 0 (own_cp b6 0 (fun _ => (0 : Int32)) 0 (o5).toNatClampNeg) (((0 : Int32) + o5)).toNatClampNeg 2) ((((0 : Int32) + o5) + (2 : Int32))).toNatClampNeg (o20).toNatClampNeg) 0 (fun _ => (0 : Int32)) 0 (((((0 : Int32) + o5) + (2 : Int32)) + o20)).toNatClampNeg) 3) &&& (255 : Int32)).toUInt32.toUInt16.toUInt32.toInt32))) = o5_same) ∧ o78 = (1 : Int32)) ∨ (∃ (o5_same : Int32), ((3 : Int32) < ((((0 : Int32) + o5) + (2 : Int32)) + o20)) ∧ (own_exp (3 : Int32) p0 p1 o5_same) ∧ (¬ ((nar .char (nar .char ((((own_cp (own_cp b21 0 (own_cp (own_li [58, 32]) 0 (own_cp b6 0 (fun _ => (0 : Int32)) 0 (o5).toNatClampNeg) (((0 : Int32) + o5)).toNatClampNeg 2) ((((0 : Int32) + o5) + (2 : Int32))).toNatClampNeg (o20).toNatClampNeg) 0 (fun _ => (0 : Int32)) 0 (((((0 : Int32) + o5) + (2 : Int32)) + o20)).toNatClampNeg) 3) &&& (255 : Int32)).toUInt32.toUInt16.toUInt32.toInt32))) = o5_same)) ∧ o78 = (0 : Int32)) ∨ ((¬ ((3 : Int32) < ((((0 : Int32) + o5) + (2 : Int32)) + o20))) ∧ o78 = (1 : Int32))) (c80 : ¬ (o78 = (0 : Int32))) (hp83 : (∃ (o5_same : Int32), ((4 : Int32) < ((((0 : Int32) + o5) + (2 : Int32)) + o20)) ∧ (own_exp (4 : Int32) p0 p1 o5_same) ∧ ((nar .char (nar .char ((((own_cp (own_cp b21 0 (own_cp (own_li [58, 32]) 0 (own_cp b6 0 (fun _ => (0 : Int32)) 0 (o5).toNatClampNeg) (((0 : Int32) + o5)).toNatClampNeg 2) ((((0 : Int32) + o5) + (2 : Int32))).toNatClampNeg (o20).toNatClampNeg) 0 (fun _ => (0 : Int32)) 0 (((((0 : Int32) + o5) + (2 : Int32)) + o20)).toNatClampNeg) 4) &&& (255 : Int32)).toUInt32.toUInt16.toUInt32.toInt32))) = o5_same) ∧ o82 = (1 : Int32)) ∨ (∃ (o5_same : Int32), ((4 : Int32) < ((((0 : Int32) + o5) + (2 : Int32)) + o20)) ∧ (own_exp (4 : Int32) p0 p1 o5_same) ∧ (¬ ((nar .char (nar .char ((((own_cp (own_cp b21 0 (own_cp (own_li [58, 32]) 0 (own_cp b6 0 (fun _ => (0 : Int32)) 0 (o5).toNatClampNeg) (((0 : Int32) + o5)).toNatClampNeg 2) ((((0 : Int32) + o5) + (2 : Int32))).toNatClampNeg (o20).toNatClampNeg) 0 (fun _ => (0 : Int32)) 0 (((((0 : Int32) + o5) + (2 : Int32)) + o20)).toNatClampNeg) 4) &&& (255 : Int32)).toUInt32.toUInt16.toUInt32.toInt32))) = o5_same)) ∧ o82 = (0 : Int32)) ∨ ((¬ ((4 : Int32) < ((((0 : Int32) + o5) + (2 : Int32)) + o20))) ∧ o82 = (1 : Int32))) (c84 : ¬ (o82 = (0 : Int32))) (hp87 : (∃ (o5_same : Int32), ((5 : Int32) < ((((0 : Int32) + o5) + (2 : Int32)) + o20)) ∧ (own_exp (5 : Int32) p0 p1 o5_same) ∧ ((nar .char (nar .char ((((own_cp (own_cp b21 0 (own_cp (own_li [58, 32]) 0 (own_cp b6 0 (fun _ => (0 : Int32)) 0 (o5).toNatClampNeg) (((0 : Int32) + o5)).toNatClampNeg 2) ((((0 : Int32) + o5) + (2 : Int32))).toNatClampNeg (o20).toNatClampNeg) 0 (fun _ => (0 : Int32)) 0 (((((0 : Int32) + o5) + (2 : Int32)) + o20)).toNatClampNeg) 5) &&& (255 : Int32)).toUInt32.toUInt16.toUInt32.toInt32))) = o5_same) ∧ o86 = (1 : Int32)) ∨ (∃ (o5_same : Int32), ((5 : Int32) < ((((0 : Int32) + o5) + (2 : Int32)) + o20)) ∧ (own_exp (5 : Int32) p0 p1 o5_same) ∧ (¬ ((nar .char (nar .char ((((own_cp (own_cp b21 0 (own_cp (own_li [58, 32]) 0 (own_cp b6 0 (fun _ => (0 : Int32)) 0 (o5).toNatClampNeg) (((0 : Int32) + o5)).toNatClampNeg 2) ((((0 : Int32) + o5) + (2 : Int32))).toNatClampNeg (o20).toNatClampNeg) 0 (fun _ => (0 : Int32)) 0 (((((0 : Int32) + o5) + (2 : Int32)) + o20)).toNatClampNeg) 5) &&& (255 : Int32)).toUInt32.toUInt16.toUInt32.toInt32))) = o5_same)) ∧ o86 = (0 : Int32)) ∨ ((¬ ((5 : Int32) < ((((0 : Int32) + o5) + (2 : Int32)) + o20))) ∧ o86 = (1 : Int32))) (c88 : o86 = (0 : Int32)) : False := by
  rcases hp87 with ⟨_, _, _, _, q⟩ | ⟨o', hlt, he, ne, _⟩ | ⟨_, q⟩
  · rw [q] at c88; exact absurd c88 (by decide)
  · exact ne (own_s5 hp14 hp29 hlt he)
  · rw [q] at c88; exact absurd c88 (by decide)
theorem ob_0_41 (f_CS : Int32) (f_SF : Value) (f_SS : Value) (p0 : Int32) (p1 : Int32) (o5 : Int32) (b6 : Nat → Int32) (o20 : Int32) (b21 : Nat → Int32) (v59 : Int32) (v60 : Int32) (o66 : Int32) (o70 : Int32) (o74 : Int32) (o78 : Int32) (o82 : Int32) (o86 : Int32) (o90 : Int32) (hn_CS : ¬ (f_CS = (0 : Int32))) (hr_f_SF : f_SF.isRef = true) (hr_f_SS : f_SS.isRef = true) (hp14 : own_draw p0 o5 b6) (hp29 : own_draw p1 o20 b21) (hv59 : (((p0.toUInt32 >>> ((24 : Int32) &&& 31).toUInt32).toInt32) &&& (3 : Int32)) = v59) (hv60 : (((p1.toUInt32 >>> ((24 : Int32) &&& 31).toUInt32).toInt32) &&& (3 : Int32)) = v60) (c63 : ((((0 : Int32) + o5) + (2 : Int32)) + o20) = ((v59 + (2 : Int32)) + v60)) (hp67 : (∃ (o5_same : Int32), ((0 : Int32) < ((((0 : Int32) + o5) + (2 : Int32)) + o20)) ∧ (own_exp (0 : Int32) p0 p1 o5_same) ∧ ((nar .char (nar .char ((((own_cp (own_cp b21 0 (own_cp (own_li [58, 32]) 0 (own_cp b6 0 (fun _ => (0 : Int32)) 0 (o5).toNatClampNeg) (((0 : Int32) + o5)).toNatClampNeg 2) ((((0 : Int32) + o5) + (2 : Int32))).toNatClampNeg (o20).toNatClampNeg) 0 (fun _ => (0 : Int32)) 0 (((((0 : Int32) + o5) + (2 : Int32)) + o20)).toNatClampNeg) 0) &&& (255 : Int32)).toUInt32.toUInt16.toUInt32.toInt32))) = o5_same) ∧ o66 = (1 : Int32)) ∨ (∃ (o5_same : Int32), ((0 : Int32) < ((((0 : Int32) + o5) + (2 : Int32)) + o20)) ∧ (own_exp (0 : Int32) p0 p1 o5_same) ∧ (¬ ((nar .char (nar .char ((((own_cp (own_cp b21 0 (own_cp (own_li [58, 32]) 0 (own_cp b6 0 (fun _ => (0 : Int32)) 0 (o5).toNatClampNeg) (((0 : Int32) + o5)).toNatClampNeg 2) ((((0 : Int32) + o5) + (2 : Int32))).toNatClampNeg (o20).toNatClampNeg) 0 (fun _ => (0 : Int32)) 0 (((((0 : Int32) + o5) + (2 : Int32)) + o20)).toNatClampNeg) 0) &&& (255 : Int32)).toUInt32.toUInt16.toUInt32.toInt32))) = o5_same)) ∧ o66 = (0 : Int32)) ∨ ((¬ ((0 : Int32) < ((((0 : Int32) + o5) + (2 : Int32)) + o20))) ∧ o66 = (1 : Int32))) (c68 : ¬ (o66 = (0 : Int32))) (hp71 : (∃ (o5_same : Int32), ((1 : Int32) < ((((0 : Int32) + o5) + (2 : Int32)) + o20)) ∧ (own_exp (1 : Int32) p0 p1 o5_same) ∧ ((nar .char (nar .char ((((own_cp (own_cp b21 0 (own_cp (own_li [58, 32]) 0 (own_cp b6 0 (fun _ => (0 : Int32)) 0 (o5).toNatClampNeg) (((0 : Int32) + o5)).toNatClampNeg 2) ((((0 : Int32) + o5) + (2 : Int32))).toNatClampNeg (o20).toNatClampNeg) 0 (fun _ => (0 : Int32)) 0 (((((0 : Int32) + o5) + (2 : Int32)) + o20)).toNatClampNeg) 1) &&& (255 : Int32)).toUInt32.toUInt16.toUInt32.toInt32))) = o5_same) ∧ o70 = (1 : Int32)) ∨ (∃ (o5_same : Int32), ((1 : Int32) < ((((0 : Int32) + o5) + (2 : Int32)) + o20)) ∧ (own_exp (1 : Int32) p0 p1 o5_same) ∧ (¬ ((nar .char (nar .char ((((own_cp (own_cp b21 0 (own_cp (own_li [58, 32]) 0 (own_cp b6 0 (fun _ => (0 : Int32)) 0 (o5).toNatClampNeg) (((0 : Int32) + o5)).toNatClampNeg 2) ((((0 : Int32) + o5) + (2 : Int32))).toNatClampNeg (o20).toNatClampNeg) 0 (fun _ => (0 : Int32)) 0 (((((0 : Int32) + o5) + (2 : Int32)) + o20)).toNatClampNeg) 1) &&& (255 : Int32)).toUInt32.toUInt16.toUInt32.toInt32))) = o5_same)) ∧ o70 = (0 : Int32)) ∨ ((¬ ((1 : Int32) < ((((0 : Int32) + o5) + (2 : Int32)) + o20))) ∧ o70 = (1 : Int32))) (c72 : ¬ (o70 = (0 : Int32))) (hp75 : (∃ (o5_same : Int32), ((2 : Int32) < ((((0 : Int32) + o5) + (2 : Int32)) + o20)) ∧ (own_exp (2 : Int32) p0 p1 o5_same) ∧ ((nar .char (nar .char ((((own_cp (own_cp b21 0 (own_cp (own_li [58, 32]) 0 (own_cp b6 0 (fun _ => (0 : Int32)) 0 (o5).toNatClampNeg) (((0 : Int32) + o5)).toNatClampNeg 2) ((((0 : Int32) + o5) + (2 : Int32))).toNatClampNeg (o20).toNatClampNeg) 0 (fun _ => (0 : Int32)) 0 (((((0 : Int32) + o5) + (2 : Int32)) + o20)).toNatClampNeg) 2) &&& (255 : Int32)).toUInt32.toUInt16.toUInt32.toInt32))) = o5_same) ∧ o74 = (1 : Int32)) ∨ (∃ (o5_same : Int32), ((2 : Int32) < ((((0 : Int32) + o5) + (2 : Int32)) + o20)) ∧ (own_exp (2 : Int32) p0 p1 o5_same) ∧ (¬ ((nar .char (nar .char ((((own_cp (own_cp b21 0 (own_cp (own_li [58, 32]) 0 (own_cp b6 0 (fun _ => (0 : Int32)) 0 (o5).toNatClampNeg) (((0 : Int32) + o5)).toNatClampNeg 2) ((((0 : Int32) + o5) + (2 : Int32))).toNatClampNeg (o20).toNatClampNeg) 0 (fun _ => (0 : Int32)) 0 (((((0 : Int32) + o5) + (2 : Int32)) + o20)).toNatClampNeg) 2) &&& (255 : Int32)).toUInt32.toUInt16.toUInt32.toInt32))) = o5_same)) ∧ o74 = (0 : Int32)) ∨ ((¬ ((2 : Int32) < ((((0 : Int32) + o5) + (2 : Int32)) + o20))) ∧ o74 = (1 : Int32))) (c76 : ¬ (o74 = (0 : Int32))) (hp79 : (∃ (o5_same : Int32), ((3 : Int32) < ((((0 : Int32) + o5) + (2 : Int32)) + o20)) ∧ (own_exp (3 : Int32) p0 p1 o5_same) ∧ ((nar .char (nar .char ((((own_cp (own_cp b21 0 (own_cp (own_li [58, 32]) 0 (own_cp b6 0 (fun _ => (0 : Int32)) 0 (o5).toNatClampNeg) (((0 : Int32) + o5)).toNatClampNeg 2) ((((0 : Int32) + o5) + (2 : Int32))).toNatClampNeg (o20).toNatClampNeg) 0 (fun _ => (0 : Int32)) 0 (((((0 : Int32) + o5) + (2 : Int32)) + o20)).toNatClampNeg) 3) &&& (255 : Int32)).toUInt32.toUInt16.toUInt32.toInt32))) = o5_same) ∧ o78 = (1 : Int32)) ∨ (∃ (o5_same : Int32), ((3 : Int32) < ((((0 : Int32) + o5) + (2 : Int32)) + o20)) ∧ (own_exp (3 : Int32) p0 p1 o5_same) ∧ (¬ ((nar .char (nar .char ((((own_cp (own_cp b21 0 (own_cp (own_li [58, 32]) 0 (own_cp b6 0 (fun _ => (0 : Int32)) 0 (o5).toNatClampNeg) (((0 : Int32) + o5)).toNatClampNeg 2) ((((0 : Int32) + o5) + (2 : Int32))).toNatClampNeg (o20).toNatClampNeg) 0 (fun _ => (0 : Int32)) 0 (((((0 : Int32) + o5) + (2 : Int32)) + o20)).toNatClampNeg) 3) &&& (255 : Int32)).toUInt32.toUInt16.toUInt32.toInt32))) = o5_same)) ∧ o78 = (0 : Int32)) ∨ ((¬ ((3 : Int32) < ((((0 : Int32) + o5) + (2 : Int32)) + o20))) ∧ o78 = (1 : Int32))) (c80 : ¬ (o78 = (0 : Int32))) (hp83 : (∃ (o5_same : Int32), ((4 : Int32) < ((((0 : Int32) + o5) + (2 : Int32)) + o20)) ∧ (own_exp (4 : Int32) p0 p1 o5_same) ∧ ((nar .char (nar .char ((((own_cp (own_cp b21 0 (own_cp (own_li [58, 32]) 0 (own_cp b6 0 (fun _ => (0 : Int32)) 0 (o5).toNatClampNeg) (((0 : Int32) + o5)).toNatClampNeg 2) ((((0 : Int32) + o5) + (2 : Int32))).toNatClampNeg (o20).toNatClampNeg) 0 (fun _ => (0 : Int32)) 0 (((((0 : Int32) + o5) + (2 : Int32)) + o20)).toNatClampNeg) 4) &&& (255 : Int32)).toUInt32.toUInt16.toUInt32.toInt32))) = o5_same) ∧ o82 = (1 : Int32)) ∨ (∃ (o5_same : Int32), ((4 : Int32) < ((((0 : Int32) + o5) + (2 : Int32)) + o20)) ∧ (own_exp (4 : Int32) p0 p1 o5_same) ∧ (¬ ((nar .char (nar .char ((((own_cp (own_cp b21 0 (own_cp (own_li [58, 32]) 0 (own_cp b6 0 (fun _ => (0 : Int32)) 0 (o5).toNatClampNeg) (((0 : Int32) + o5)).toNatClampNeg 2) ((((0 : Int32) + o5) + (2 : Int32))).toNatClampNeg (o20).toNatClampNeg) 0 (fun _ => (0 : Int32)) 0 (((((0 : Int32) + o5) + (2 : Int32)) + o20)).toNatClampNeg) 4) &&& (255 : Int32)).toUInt32.toUInt16.toUInt32.toInt32))) = o5_same)) ∧ o82 = (0 : Int32)) ∨ ((¬ ((4 : Int32) < ((((0 : Int32) + o5) + (2 : Int32)) + o20))) ∧ o82 = (1 : Int32))) (c84 : ¬ (o82 = (0 : Int32))) (hp87 : (∃ (o5_same : Int32), ((5 : Int32) < ((((0 : Int32) + o5) + (2 : Int32)) + o20)) ∧ (own_exp (5 : Int32) p0 p1 o5_same) ∧ ((nar .char (nar .char ((((own_cp (own_cp b21 0 (own_cp (own_li [58, 32]) 0 (own_cp b6 0 (fun _ => (0 : Int32)) 0 (o5).toNatClampNeg) (((0 : Int32) + o5)).toNatClampNeg 2) ((((0 : Int32) + o5) + (2 : Int32))).toNatClampNeg (o20).toNatClampNeg) 0 (fun _ => (0 : Int32)) 0 (((((0 : Int32) + o5) + (2 : Int32)) + o20)).toNatClampNeg) 5) &&& (255 : Int32)).toUInt32.toUInt16.toUInt32.toInt32))) = o5_same) ∧ o86 = (1 : Int32)) ∨ (∃ (o5_same : Int32), ((5 : Int32) < ((((0 : Int32) + o5) + (2 : Int32)) + o20)) ∧ (own_exp (5 : Int32) p0 p1 o5_same) ∧ (¬ ((nar .char (nar .char ((((own_cp (own_cp b21 0 (own_cp (own_li [58, 32]) 0 (own_cp b6 0 (fun _ => (0 : Int32)) 0 (o5).toNatClampNeg) (((0 : Int32) + o5)).toNatClampNeg 2) ((((0 : Int32) + o5) + (2 : Int32))).toNatClampNeg (o20).toNatClampNeg) 0 (fun _ => (0 : Int32)) 0 (((((0 : Int32) + o5) + (2 : Int32)) + o20)).toNatClampNeg) 5) &&& (255 : Int32)).toUInt32.toUInt16.toUInt32.toInt32))) = o5_same)) ∧ o86 = (0 : Int32)) ∨ ((¬ ((5 : Int32) < ((((0 : Int32) + o5) + (2 : Int32)) + o20))) ∧ o86 = (1 : Int32))) (c88 : ¬ (o86 = (0 : Int32))) (hp91 : (∃ (o5_same : Int32), ((6 : Int32) < ((((0 : Int32) + o5) + (2 : Int32)) + o20)) ∧ (own_exp (6 : Int32) p0 p1 o5_same) ∧ ((nar .char (nar .char ((((own_cp (own_cp b21 0 (own_cp (own_li [58, 32]) 0 (own_cp b6 0 (fun _ => (0 : Int32)) 0 (o5).toNatClampNeg) (((0 : Int32) + o5)).toNatClampNeg 2) ((((0 : Int32) + o5) + (2 : Int32))).toNatClampNeg (o20).toNatClampNeg) 0 (fun _ => (0 : Int32)) 0 (((((0 : Int32) + o5) + (2 : Int32)) + o20)).toNatClampNeg) 6) &&& (255 : Int32)).toUInt32.toUInt16.toUInt32.toInt32))) = o5_same) ∧ o90 = (1 : Int32)) ∨ (∃ (o5_same : Int32), ((6 : Int32) < ((((0 : Int32) + o5) + (2 : Int32)) + o20)) ∧ (own_exp (6 : Int32) p0 p1 o5_same) ∧ (¬ ((nar .char (nar .char ((((own_cp (own_cp b21 0 (own_cp (own_li [58, 32]) 0 (own_cp b6 0 (fun _ => (0 : Int32)) 0 (o5).toNatClampNeg) (((0 : Int32) + o5)).toNatClampNeg 2) ((((0 : Int32) + o5) + (2 : Int32))).toNatClampNeg (o20).toNatClampNeg) 0 (fun _ => (0 : Int32)) 0 (((((0 : Int32) + o5) + (2 : Int32)) + o20)).toNatClampNeg) 6) &&& (255 : Int32)).toUInt32.toUInt16.toUInt32.toInt32))) = o5_same)) ∧ o90 = (0 : Int32)) ∨ ((¬ ((6 : Int32) < ((((0 : Int32) + o5) + (2 : Int32)) + o20))) ∧ o90 = (1 : Int32))) (c92 : o90 = (0 : Int32)) : False := by
  rcases hp91 with ⟨_, _, _, _, q⟩ | ⟨o', hlt, he, ne, _⟩ | ⟨_, q⟩
  · rw [q] at c92; exact absurd c92 (by decide)
  · exact ne (own_s6 hp14 hp29 hlt he)
  · rw [q] at c92; exact absurd c92 (by decide)
theorem ob_0_42 (f_CS : Int32) (f_SF : Value) (f_SS : Value) (p0 : Int32) (p1 : Int32) (o5 : Int32) (b6 : Nat → Int32) (o20 : Int32) (b21 : Nat → Int32) (v59 : Int32) (v60 : Int32) (o66 : Int32) (o70 : Int32) (o74 : Int32) (o78 : Int32) (o82 : Int32) (o86 : Int32) (o90 : Int32) (o94 : Int32) (hn_CS : ¬ (f_CS = (0 : Int32))) (hr_f_SF : f_SF.isRef = true) (hr_f_SS : f_SS.isRef = true) (hp14 : own_draw p0 o5 b6) (hp29 : own_draw p1 o20 b21) (hv59 : (((p0.toUInt32 >>> ((24 : Int32) &&& 31).toUInt32).toInt32) &&& (3 : Int32)) = v59) (hv60 : (((p1.toUInt32 >>> ((24 : Int32) &&& 31).toUInt32).toInt32) &&& (3 : Int32)) = v60) (c63 : ((((0 : Int32) + o5) + (2 : Int32)) + o20) = ((v59 + (2 : Int32)) + v60)) (hp67 : (∃ (o5_same : Int32), ((0 : Int32) < ((((0 : Int32) + o5) + (2 : Int32)) + o20)) ∧ (own_exp (0 : Int32) p0 p1 o5_same) ∧ ((nar .char (nar .char ((((own_cp (own_cp b21 0 (own_cp (own_li [58, 32]) 0 (own_cp b6 0 (fun _ => (0 : Int32)) 0 (o5).toNatClampNeg) (((0 : Int32) + o5)).toNatClampNeg 2) ((((0 : Int32) + o5) + (2 : Int32))).toNatClampNeg (o20).toNatClampNeg) 0 (fun _ => (0 : Int32)) 0 (((((0 : Int32) + o5) + (2 : Int32)) + o20)).toNatClampNeg) 0) &&& (255 : Int32)).toUInt32.toUInt16.toUInt32.toInt32))) = o5_same) ∧ o66 = (1 : Int32)) ∨ (∃ (o5_same : Int32), ((0 : Int32) < ((((0 : Int32) + o5) + (2 : Int32)) + o20)) ∧ (own_exp (0 : Int32) p0 p1 o5_same) ∧ (¬ ((nar .char (nar .char ((((own_cp (own_cp b21 0 (own_cp (own_li [58, 32]) 0 (own_cp b6 0 (fun _ => (0 : Int32)) 0 (o5).toNatClampNeg) (((0 : Int32) + o5)).toNatClampNeg 2) ((((0 : Int32) + o5) + (2 : Int32))).toNatClampNeg (o20).toNatClampNeg) 0 (fun _ => (0 : Int32)) 0 (((((0 : Int32) + o5) + (2 : Int32)) + o20)).toNatClampNeg) 0) &&& (255 : Int32)).toUInt32.toUInt16.toUInt32.toInt32))) = o5_same)) ∧ o66 = (0 : Int32)) ∨ ((¬ ((0 : Int32) < ((((0 : Int32) + o5) + (2 : Int32)) + o20))) ∧ o66 = (1 : Int32))) (c68 : ¬ (o66 = (0 : Int32))) (hp71 : (∃ (o5_same : Int32), ((1 : Int32) < ((((0 : Int32) + o5) + (2 : Int32)) + o20)) ∧ (own_exp (1 : Int32) p0 p1 o5_same) ∧ ((nar .char (nar .char ((((own_cp (own_cp b21 0 (own_cp (own_li [58, 32]) 0 (own_cp b6 0 (fun _ => (0 : Int32)) 0 (o5).toNatClampNeg) (((0 : Int32) + o5)).toNatClampNeg 2) ((((0 : Int32) + o5) + (2 : Int32))).toNatClampNeg (o20).toNatClampNeg) 0 (fun _ => (0 : Int32)) 0 (((((0 : Int32) + o5) + (2 : Int32)) + o20)).toNatClampNeg) 1) &&& (255 : Int32)).toUInt32.toUInt16.toUInt32.toInt32))) = o5_same) ∧ o70 = (1 : Int32)) ∨ (∃ (o5_same : Int32), ((1 : Int32) < ((((0 : Int32) + o5) + (2 : Int32)) + o20)) ∧ (own_exp (1 : Int32) p0 p1 o5_same) ∧ (¬ ((nar .char (nar .char ((((own_cp (own_cp b21 0 (own_cp (own_li [58, 32]) 0 (own_cp b6 0 (fun _ => (0 : Int32)) 0 (o5).toNatClampNeg) (((0 : Int32) + o5)).toNatClampNeg 2) ((((0 : Int32) + o5) + (2 : Int32))).toNatClampNeg (o20).toNatClampNeg) 0 (fun _ => (0 : Int32)) 0 (((((0 : Int32) + o5) + (2 : Int32)) + o20)).toNatClampNeg) 1) &&& (255 : Int32)).toUInt32.toUInt16.toUInt32.toInt32))) = o5_same)) ∧ o70 = (0 : Int32)) ∨ ((¬ ((1 : Int32) < ((((0 : Int32) + o5) + (2 : Int32)) + o20))) ∧ o70 = (1 : Int32))) (c72 : ¬ (o70 = (0 : Int32))) (hp75 : (∃ (o5_same : Int32), ((2 : Int32) < ((((0 : Int32) + o5) + (2 : Int32)) + o20)) ∧ (own_exp (2 : Int32) p0 p1 o5_same) ∧ ((nar .char (nar .char ((((own_cp (own_cp b21 0 (own_cp (own_li [58, 32]) 0 (own_cp b6 0 (fun _ => (0 : Int32)) 0 (o5).toNatClampNeg) (((0 : Int32) + o5)).toNatClampNeg 2) ((((0 : Int32) + o5) + (2 : Int32))).toNatClampNeg (o20).toNatClampNeg) 0 (fun _ => (0 : Int32)) 0 (((((0 : Int32) + o5) + (2 : Int32)) + o20)).toNatClampNeg) 2) &&& (255 : Int32)).toUInt32.toUInt16.toUInt32.toInt32))) = o5_same) ∧ o74 = (1 : Int32)) ∨ (∃ (o5_same : Int32), ((2 : Int32) < ((((0 : Int32) + o5) + (2 : Int32)) + o20)) ∧ (own_exp (2 : Int32) p0 p1 o5_same) ∧ (¬ ((nar .char (nar .char ((((own_cp (own_cp b21 0 (own_cp (own_li [58, 32]) 0 (own_cp b6 0 (fun _ => (0 : Int32)) 0 (o5).toNatClampNeg) (((0 : Int32) + o5)).toNatClampNeg 2) ((((0 : Int32) + o5) + (2 : Int32))).toNatClampNeg (o20).toNatClampNeg) 0 (fun _ => (0 : Int32)) 0 (((((0 : Int32) + o5) + (2 : Int32)) + o20)).toNatClampNeg) 2) &&& (255 : Int32)).toUInt32.toUInt16.toUInt32.toInt32))) = o5_same)) ∧ o74 = (0 : Int32)) ∨ ((¬ ((2 : Int32) < ((((0 : Int32) + o5) + (2 : Int32)) + o20))) ∧ o74 = (1 : Int32))) (c76 : ¬ (o74 = (0 : Int32))) (hp79 : (∃ (o5_same : Int32), ((3 : Int32) < ((((0 : Int32) + o5) + (2 : Int32)) + o20)) ∧ (own_exp (3 : Int32) p0 p1 o5_same) ∧ ((nar .char (nar .char ((((own_cp (own_cp b21 0 (own_cp (own_li [58, 32]) 0 (own_cp b6 0 (fun _ => (0 : Int32)) 0 (o5).toNatClampNeg) (((0 : Int32) + o5)).toNatClampNeg 2) ((((0 : Int32) + o5) + (2 : Int32))).toNatClampNeg (o20).toNatClampNeg) 0 (fun _ => (0 : Int32)) 0 (((((0 : Int32) + o5) + (2 : Int32)) + o20)).toNatClampNeg) 3) &&& (255 : Int32)).toUInt32.toUInt16.toUInt32.toInt32))) = o5_same) ∧ o78 = (1 : Int32)) ∨ (∃ (o5_same : Int32), ((3 : Int32) < ((((0 : Int32) + o5) + (2 : Int32)) + o20)) ∧ (own_exp (3 : Int32) p0 p1 o5_same) ∧ (¬ ((nar .char (nar .char ((((own_cp (own_cp b21 0 (own_cp (own_li [58, 32]) 0 (own_cp b6 0 (fun _ => (0 : Int32)) 0 (o5).toNatClampNeg) (((0 : Int32) + o5)).toNatClampNeg 2) ((((0 : Int32) + o5) + (2 : Int32))).toNatClampNeg (o20).toNatClampNeg) 0 (fun _ => (0 : Int32)) 0 (((((0 : Int32) + o5) + (2 : Int32)) + o20)).toNatClampNeg) 3) &&& (255 : Int32)).toUInt32.toUInt16.toUInt32.toInt32))) = o5_same)) ∧ o78 = (0 : Int32)) ∨ ((¬ ((3 : Int32) < ((((0 : Int32) + o5) + (2 : Int32)) + o20))) ∧ o78 = (1 : Int32))) (c80 : ¬ (o78 = (0 : Int32))) (hp83 : (∃ (o5_same : Int32), ((4 : Int32) < ((((0 : Int32) + o5) + (2 : Int32)) + o20)) ∧ (own_exp (4 : Int32) p0 p1 o5_same) ∧ ((nar .char (nar .char ((((own_cp (own_cp b21 0 (own_cp (own_li [58, 32]) 0 (own_cp b6 0 (fun _ => (0 : Int32)) 0 (o5).toNatClampNeg) (((0 : Int32) + o5)).toNatClampNeg 2) ((((0 : Int32) + o5) + (2 : Int32))).toNatClampNeg (o20).toNatClampNeg) 0 (fun _ => (0 : Int32)) 0 (((((0 : Int32) + o5) + (2 : Int32)) + o20)).toNatClampNeg) 4) &&& (255 : Int32)).toUInt32.toUInt16.toUInt32.toInt32))) = o5_same) ∧ o82 = (1 : Int32)) ∨ (∃ (o5_same : Int32), ((4 : Int32) < ((((0 : Int32) + o5) + (2 : Int32)) + o20)) ∧ (own_exp (4 : Int32) p0 p1 o5_same) ∧ (¬ ((nar .char (nar .char ((((own_cp (own_cp b21 0 (own_cp (own_li [58, 32]) 0 (own_cp b6 0 (fun _ => (0 : Int32)) 0 (o5).toNatClampNeg) (((0 : Int32) + o5)).toNatClampNeg 2) ((((0 : Int32) + o5) + (2 : Int32))).toNatClampNeg (o20).toNatClampNeg) 0 (fun _ => (0 : Int32)) 0 (((((0 : Int32) + o5) + (2 : Int32)) + o20)).toNatClampNeg) 4) &&& (255 : Int32)).toUInt32.toUInt16.toUInt32.toInt32))) = o5_same)) ∧ o82 = (0 : Int32)) ∨ ((¬ ((4 : Int32) < ((((0 : Int32) + o5) + (2 : Int32)) + o20))) ∧ o82 = (1 : Int32))) (c84 : ¬ (o82 = (0 : Int32))) (hp87 : (∃ (o5_same : Int32), ((5 : Int32) < ((((0 : Int32) + o5) + (2 : Int32)) + o20)) ∧ (own_exp (5 : Int32) p0 p1 o5_same) ∧ ((nar .char (nar .char ((((own_cp (own_cp b21 0 (own_cp (own_li [58, 32]) 0 (own_cp b6 0 (fun _ => (0 : Int32)) 0 (o5).toNatClampNeg) (((0 : Int32) + o5)).toNatClampNeg 2) ((((0 : Int32) + o5) + (2 : Int32))).toNatClampNeg (o20).toNatClampNeg) 0 (fun _ => (0 : Int32)) 0 (((((0 : Int32) + o5) + (2 : Int32)) + o20)).toNatClampNeg) 5) &&& (255 : Int32)).toUInt32.toUInt16.toUInt32.toInt32))) = o5_same) ∧ o86 = (1 : Int32)) ∨ (∃ (o5_same : Int32), ((5 : Int32) < ((((0 : Int32) + o5) + (2 : Int32)) + o20)) ∧ (own_exp (5 : Int32) p0 p1 o5_same) ∧ (¬ ((nar .char (nar .char ((((own_cp (own_cp b21 0 (own_cp (own_li [58, 32]) 0 (own_cp b6 0 (fun _ => (0 : Int32)) 0 (o5).toNatClampNeg) (((0 : Int32) + o5)).toNatClampNeg 2) ((((0 : Int32) + o5) + (2 : Int32))).toNatClampNeg (o20).toNatClampNeg) 0 (fun _ => (0 : Int32)) 0 (((((0 : Int32) + o5) + (2 : Int32)) + o20)).toNatClampNeg) 5) &&& (255 : Int32)).toUInt32.toUInt16.toUInt32.toInt32))) = o5_same)) ∧ o86 = (0 : Int32)) ∨ ((¬ ((5 : Int32) < ((((0 : Int32) + o5) + (2 : Int32)) + o20))) ∧ o86 = (1 : Int32))) (c88 : ¬ (o86 = (0 : Int32))) (hp91 : (∃ (o5_same : Int32), ((6 : Int32) < ((((0 : Int32) + o5) + (2 : Int32)) + o20)) ∧ (own_exp (6 : Int32) p0 p1 o5_same) ∧ ((nar .char (nar .char ((((own_cp (own_cp b21 0 (own_cp (own_li [58, 32]) 0 (own_cp b6 0 (fun _ => (0 : Int32)) 0 (o5).toNatClampNeg) (((0 : Int32) + o5)).toNatClampNeg 2) ((((0 : Int32) + o5) + (2 : Int32))).toNatClampNeg (o20).toNatClampNeg) 0 (fun _ => (0 : Int32)) 0 (((((0 : Int32) + o5) + (2 : Int32)) + o20)).toNatClampNeg) 6) &&& (255 : Int32)).toUInt32.toUInt16.toUInt32.toInt32))) = o5_same) ∧ o90 = (1 : Int32)) ∨ (∃ (o5_same : Int32), ((6 : Int32) < ((((0 : Int32) + o5) + (2 : Int32)) + o20)) ∧ (own_exp (6 : Int32) p0 p1 o5_same) ∧ (¬ ((nar .char (nar .char ((((own_cp (own_cp b21 0 (own_cp (own_li [58, 32]) 0 (own_cp b6 0 (fun _ => (0 : Int32)) 0 (o5).toNatClampNeg) (((0 : Int32) + o5)).toNatClampNeg 2) ((((0 : Int32) + o5) + (2 : Int32))).toNatClampNeg (o20).toNatClampNeg) 0 (fun _ => (0 : Int32)) 0 (((((0 : Int32) + o5) + (2 : Int32)) + o20)).toNatClampNeg) 6) &&& (255 : Int32)).toUInt32.toUInt16.toUInt32.toInt32))) = o5_same)) ∧ o90 = (0 : Int32)) ∨ ((¬ ((6 : Int32) < ((((0 : Int32) + o5) + (2 : Int32)) + o20))) ∧ o90 = (1 : Int32))) (c92 : ¬ (o90 = (0 : Int32))) (hp95 : (∃ (o5_same : Int32), ((7 : Int32) < ((((0 : Int32) + o5) + (2 : Int32)) + o20)) ∧ (own_exp (7 : Int32) p0 p1 o5_same) ∧ ((nar .char (nar .char ((((own_cp (own_cp b21 0 (own_cp (own_li [58, 32]) 0 (own_cp b6 0 (fun _ => (0 : Int32)) 0 (o5).toNatClampNeg) (((0 : Int32) + o5)).toNatClampNeg 2) ((((0 : Int32) + o5) + (2 : Int32))).toNatClampNeg (o20).toNatClampNeg) 0 (fun _ => (0 : Int32)) 0 (((((0 : Int32) + o5) + (2 : Int32)) + o20)).toNatClampNeg) 7) &&& (255 : Int32)).toUInt32.toUInt16.toUInt32.toInt32))) = o5_same) ∧ o94 = (1 : Int32)) ∨ (∃ (o5_same : Int32), ((7 : Int32) < ((((0 : Int32) + o5) + (2 : Int32)) + o20)) ∧ (own_exp (7 : Int32) p0 p1 o5_same) ∧ (¬ ((nar .char (nar .char ((((own_cp (own_cp b21 0 (own_cp (own_li [58, 32]) 0 (own_cp b6 0 (fun _ => (0 : Int32)) 0 (o5).toNatClampNeg) (((0 : Int32) + o5)).toNatClampNeg 2) ((((0 : Int32) + o5) + (2 : Int32))).toNatClampNeg (o20).toNatClampNeg) 0 (fun _ => (0 : Int32)) 0 (((((0 : Int32) + o5) + (2 : Int32)) + o20)).toNatClampNeg) 7) &&& (255 : Int32)).toUInt32.toUInt16.toUInt32.toInt32))) = o5_same)) ∧ o94 = (0 : Int32)) ∨ ((¬ ((7 : Int32) < ((((0 : Int32) + o5) + (2 : Int32)) + o20))) ∧ o94 = (1 : Int32))) (c96 : o94 = (0 : Int32)) : False := by
  rcases hp95 with ⟨_, _, _, _, q⟩ | ⟨o', hlt, he, ne, _⟩ | ⟨_, q⟩
  · rw [q] at c96; exact absurd c96 (by decide)
  · exact ne (own_s7 hp14 hp29 hlt he)
  · rw [q] at c96; exact absurd c96 (by decide)
theorem ob_0_43 (f_CS : Int32) (f_SF : Value) (f_SS : Value) (p0 : Int32) (p1 : Int32) (o5 : Int32) (b6 : Nat → Int32) (o20 : Int32) (b21 : Nat → Int32) (v59 : Int32) (v60 : Int32) (hn_CS : ¬ (f_CS = (0 : Int32))) (hr_f_SF : f_SF.isRef = true) (hr_f_SS : f_SS.isRef = true) (hp14 : own_draw p0 o5 b6) (hp29 : own_draw p1 o20 b21) (hv59 : (((p0.toUInt32 >>> ((24 : Int32) &&& 31).toUInt32).toInt32) &&& (3 : Int32)) = v59) (hv60 : (((p1.toUInt32 >>> ((24 : Int32) &&& 31).toUInt32).toInt32) &&& (3 : Int32)) = v60) (c63 : ¬ (((((0 : Int32) + o5) + (2 : Int32)) + o20) = ((v59 + (2 : Int32)) + v60))) : False := by
  exact own_lenF hp14 hp29 hv59 hv60 c63
def Q0 (Z : State) (f_CS : Int32) (f_SF : Value) (f_US : Addr) (f_SS : Value) (p0 : Int32) (p1 : Int32) (h0 : Heap) (n0 : Nat) (v : Option Value) (h : Heap) (L : List Loc) : Prop := v = some (.int (1 : Int32)) ∧ Fr n0 L
set_option maxRecDepth 65536 in
set_option maxHeartbeats 40000000 in
theorem rm0 (l : Launch) (Z : State) (A0 : Array Value) (hw : ∀ d ∈ tables_1, d.before A0 Z = true) (ws : List Jvm.Cond) (f_CS : Int32) (f_SF : Value) (f_US : Addr) (f_SS : Value) (p0 : Int32) (p1 : Int32) (h0 : Heap) (n0 : Nat) (Z0 : n0 ≤ h0.size) (P_S_CS : Sta Z h0 "java/lang/String" "COMPACT_STRINGS" "Z" (.int f_CS)) (hn_CS : ¬ (f_CS = (0 : Int32))) (P_S_SF : Sta Z h0 "jdk/internal/util/Preconditions" "SIOOBE_FORMATTER" "Ljava/util/function/BiFunction;" f_SF) (hr_f_SF : f_SF.isRef = true) (P_S_US : Sta Z h0 "java/lang/Throwable" "UNASSIGNED_STACK" "[Ljava/lang/StackTraceElement;" (.ref f_US)) (P_S_SS : Sta Z h0 "java/lang/Throwable" "SUPPRESSED_SENTINEL" "Ljava/util/List;" f_SS) (hr_f_SS : f_SS.isRef = true) (P_T : ThS Z h0) (hl0 : l.stackTraces = true) :
    MetFree l x (head1 (Jvm.Cond.code x code maxLocals ret :: ws) room_1) (fun a U => a = #[(.int p0), (.int p1)] ∧ Z.Warmed39 U.vm ∧ U.heap = h0 ∧ CHv Z consts_1 U.vm h0) (fun _ _ bl s _ => s.vm.MethodsKnown ∧ s.vm.FramesKnown bl) (fun _ U o U' => ∃ v L, o = .returned v ∧ Q0 Z f_CS f_SF f_US f_SS p0 p1 h0 n0 v U'.heap L ∧ CHr Z consts_1 U.vm U.heap U'.vm U'.heap ∧ ReturnedEndW U o U' L 40 7744) := by
 refine MetFree.of_bodySF (plainFor_of_name pn_0) hisR ?_
 intro p e s m args below meth c s₁ Bd hml0 hP hK
 obtain ⟨rfl, hZ, hh, hC0⟩ := hP
 have hwd := fun i {d : Jvm.Cond} (h : tables_1[i]? = some d) => hw d (List.mem_of_getElem? h)
 have hx := Bd.exec
 have hby := Bd.bytes
 have hml : c.maxLocals = 8 := hml0
 have hlk : meth.locks = false := Bd.notSynchronized
 have hown : s.vm.findClass "com/example/model_check_sql/modelchecksql/model/ModelReadingLocatedPinLaw" = some m.cls := findClass_of_methodNamed Bd.named
 have hnm := (name_of_methodNamed Bd.named Bd.method).1
 have X0 : Stand p l e room_1 (s.setVm s.vm) m #[(.int p0), (.int p1)] below meth c s₁ [] 0 0 := Stand.of_body Bd
 have e0 : s₁.heap = h0 := by rw [← hh, Bd.state]; rfl
 have N0 := Fr.nil n0
 have hEL := own_EW hw
 have hwS := fun a ha => hw a (own_atoms a ha)
 have CR0 : CHr Z consts_1 s.vm h0 s.vm h0 := CHr.refl hC0
 obtain ⟨kc0, hkc0⟩ : ∃ z, z = h0.size := ⟨_, rfl⟩
 have hk0 : kc0 ≤ h0.size := Nat.le_of_eq hkc0
 have hS : s.Since s.vm kc0 := own_since s kc0
 show own_Go p e below (own_FinW Z consts_1 s 40 7744 (Q0 Z f_CS f_SF f_US f_SS p0 p1 h0 n0)) _
 refine own_by (fun t k => castTop (ef_0 m p0 p1) k) ?_
 show own_Go p e below _ (s₁.setTop (mkF m 0 #[vI p0, vI p1, .unset, .unset, .unset, .unset, .unset, .unset] []))
 refine own_by (fun _ k => XS.iloadN X0.here hx rfl (hb hby at_0) rfl k) ?_
 obtain ⟨_, _, ⟨T1, L1, k1, n1⟩, -, X1', hSq1, hgr1, ⟨Lc1, hQ1, l1, y1, z1, R1⟩, st1⟩ := callSS X0 hx (y := (⟨"com/example/model_check_sql/modelchecksql/model/ModelReadingLocatedPinLaw", "draw", "(I)Ljava/lang/String;"⟩ : MethodName)) hown (mvT hZ (hwd 0 rfl)) (mvT hZ (hwd 1 rfl)) (mvT hZ (hwd 2 rfl)) (mvT hZ (hwd 3 rfl)) (by decide) (backOfSH (W := 0) (rmdraw l Z A0 hw [] f_CS p0 h0 n0 Z0 P_S_CS hn_CS (ob_0_10 f_CS f_SF f_SS p0 hn_CS hr_f_SF hr_f_SS) (ob_0_11 f_CS f_SF f_SS p0 hn_CS hr_f_SF hr_f_SS) (ob_0_12 f_CS f_SF f_SS p0 hn_CS hr_f_SF hr_f_SS)) hZ (hwd 3 rfl) (hwd 2 rfl) (by decide) (by decide) hEL CR0.1) (g := (mkF m 1 #[vI p0, vI p1, .unset, .unset, .unset, .unset, .unset, .unset] [(.int p0)])) rfl (by rw [hml]; rfl) (argsL := [(.int p0)]) (rest := []) (lenOf pd_0 rfl) rfl (by show 2 * 0 + _ ≤ _; exact Nat.le_of_eq rfl) (hb hby at_1) (fun _ _ => ⟨rfl, e0, (by decide : 0 + 6 ≤ _), (by decide : 0 + 12 ≤ _)⟩)
 dsimp only [Pt.U, Pt.locs, Pt.cells, Pt.slots] at X1' l1 y1 z1 st1 hQ1 hSq1 hgr1 R1
 subst l1 y1 z1
 obtain ⟨X1, hS, hZ, hown⟩ := rebS hS (by rw [e0]; exact hk0) X1' hSq1 hgr1 hZ hown
 obtain ⟨kc1, hkc1⟩ : ∃ z, z = T1.heap.size := ⟨_, rfl⟩
 rw [← hkc1] at hS
 have hk1 : kc1 ≤ T1.heap.size := Nat.le_of_eq hkc1
 have CR1 : CHr Z consts_1 s.vm h0 T1.vm T1.heap := CR0.trans R1
 obtain ⟨b2, b3, b4, o5, b6, rfl, Nq1, Kq1, hp7, hp8, hp9, F10, F11, F12, F13, hp14⟩ := hQ1
 have N1 := Fr.app N0 Nq1
 have K1 : Keep h0 T1.heap [] := (Keep.refl h0 []).trans Kq1 (all0)
 have Z1 : n0 ≤ T1.heap.size := Nat.le_trans Z0 Kq1.1
 have sz_b2 : h0.size ≤ b2 := Nat.le_trans (Keep.refl h0 []).1 hp8
 refine own_by (fun _ k => st1.trans k) ?_
 show own_Go p e below _ (T1.setTop (mkF m 4 #[vI p0, vI p1, .unset, .unset, .unset, .unset, .unset, .unset] [(.ref b2)]))
 refine own_by (fun _ k => XS.astoreN X1.here hx rfl (hb hby at_4) rfl rfl (l' := #[vI p0, vI p1, vR b2, .unset, .unset, .unset, .unset, .unset]) rfl k) ?_
 show own_Go p e below _ (T1.setTop (mkF m 5 #[vI p0, vI p1, vR b2, .unset, .unset, .unset, .unset, .unset] []))
 refine own_by (fun _ k => XS.iloadN X1.here hx rfl (hb hby at_5) rfl k) ?_
 have F15 : Sta Z T1.heap "java/lang/String" "COMPACT_STRINGS" "Z" (.int f_CS) := (own_staKeep P_S_CS Kq1 all0)
 obtain ⟨_, _, ⟨T16, L16, k16, n16⟩, -, X16', hSq16, hgr16, ⟨Lc16, hQ16, l16, y16, z16, R16⟩, st16⟩ := callSS X1 hx (y := (⟨"com/example/model_check_sql/modelchecksql/model/ModelReadingLocatedPinLaw", "draw", "(I)Ljava/lang/String;"⟩ : MethodName)) hown (mvT hZ (hwd 0 rfl)) (mvT hZ (hwd 1 rfl)) (mvT hZ (hwd 2 rfl)) (mvT hZ (hwd 3 rfl)) (by decide) (backOfSH (W := 0) (rmdraw l Z A0 hw [] f_CS p1 T1.heap n0 Z1 F15 hn_CS (ob_0_13 f_CS f_SF f_SS p0 p1 o5 b6 hn_CS hr_f_SF hr_f_SS hp14) (ob_0_14 f_CS f_SF f_SS p0 p1 o5 b6 hn_CS hr_f_SF hr_f_SS hp14) (ob_0_15 f_CS f_SF f_SS p0 p1 o5 b6 hn_CS hr_f_SF hr_f_SS hp14)) hZ (hwd 3 rfl) (hwd 2 rfl) (by decide) (by decide) hEL CR1.1) (g := (mkF m 6 #[vI p0, vI p1, vR b2, .unset, .unset, .unset, .unset, .unset] [(.int p1)])) rfl (by rw [hml]; rfl) (argsL := [(.int p1)]) (rest := []) (lenOf pd_0 rfl) rfl (by show 2 * 0 + _ ≤ _; exact Nat.le_of_eq rfl) (hb hby at_6) (fun _ _ => ⟨rfl, rfl, (by decide : 6 + 6 ≤ _), (by decide : 12 + 12 ≤ _)⟩)
 dsimp only [Pt.U, Pt.locs, Pt.cells, Pt.slots] at X16' l16 y16 z16 st16 hQ16 hSq16 hgr16 R16
 subst l16 y16 z16
 obtain ⟨X16, hS, hZ, hown⟩ := rebS hS hk1 X16' hSq16 hgr16 hZ hown
 obtain ⟨kc16, hkc16⟩ : ∃ z, z = T16.heap.size := ⟨_, rfl⟩
 rw [← hkc16] at hS
 have hk16 : kc16 ≤ T16.heap.size := Nat.le_of_eq hkc16
 have CR16 : CHr Z consts_1 s.vm h0 T16.vm T16.heap := CR1.trans R16
 obtain ⟨b17, b18, b19, o20, b21, rfl, Nq16, Kq16, hp22, hp23, hp24, F25, F26, F27, F28, hp29⟩ := hQ16
 have N16 := Fr.app N1 Nq16
 have K16 : Keep h0 T16.heap [] := K1.trans Kq16 (all0)
 have Z16 : n0 ≤ T16.heap.size := Nat.le_trans Z1 Kq16.1
 have sz_b17 : h0.size ≤ b17 := Nat.le_trans K1.1 hp23
 refine own_by (fun _ k => st16.trans k) ?_
 show own_Go p e below _ (T16.setTop (mkF m 9 #[vI p0, vI p1, vR b2, .unset, .unset, .unset, .unset, .unset] [(.ref b17)]))
 refine own_by (fun _ k => XS.astoreN X16.here hx rfl (hb hby at_9) rfl rfl (l' := #[vI p0, vI p1, vR b2, vR b17, .unset, .unset, .unset, .unset]) rfl k) ?_
 show own_Go p e below _ (T16.setTop (mkF m 10 #[vI p0, vI p1, vR b2, vR b17, .unset, .unset, .unset, .unset] []))
 refine own_by (fun _ k => XS.aloadN X16.here hx rfl (hb hby at_10) rfl rfl k) ?_
 refine own_by (fun _ k => XS.aloadN X16.here hx rfl (hb hby at_11) rfl rfl k) ?_
 have F30 : Exa Z T16.heap b2 "java/lang/String" := (F10.keep Kq16)
 have F31 : Fld Z T16.heap b2 "java/lang/String" "coder" "B" (.int (0 : Int32)) := (F12.keep Kq16 nin0)
 have F32 : Fld Z T16.heap b2 "java/lang/String" "value" "[B" (.ref b3) := (F11.keep Kq16 nin0)
 have F33 : own_Arf Z T16.heap b3 b4 .byte o5 (fun i => .int (b6 i)) := (F13.keep Kq16 nin0)
 have F34 : Sta Z T16.heap "java/lang/String" "COMPACT_STRINGS" "Z" (.int f_CS) := (own_staKeep F15 Kq16 all0)
 have F35 : Sta Z T16.heap "java/lang/Throwable" "UNASSIGNED_STACK" "[Ljava/lang/StackTraceElement;" (.ref f_US) := (own_staKeep (own_staKeep P_S_US Kq1 all0) Kq16 all0)
 have F36 : Sta Z T16.heap "java/lang/Throwable" "SUPPRESSED_SENTINEL" "Ljava/util/List;" f_SS := (own_staKeep (own_staKeep P_S_SS Kq1 all0) Kq16 all0)
 have F37 : ThS Z T16.heap := (ThS.keep Kq16 ns0 (ThS.keep Kq1 ns0 P_T))
 obtain ⟨_, _, ⟨T38, L38, k38, n38⟩, -, X38', hSq38, hgr38, ⟨Lc38, hQ38, l38, y38, z38, R38⟩, st38⟩ := callSS X16 hx (y := (⟨"com/example/model_check_sql/modelchecksql/model/ModelReading", "located", "(Ljava/lang/String;Ljava/lang/String;)Lcom/example/model_check_sql/modelchecksql/model/ModelFormatException;"⟩ : MethodName)) hown (mvT hZ (hwd 26 rfl)) (mvT hZ (hwd 27 rfl)) (mvT hZ (hwd 28 rfl)) (mvT hZ (hwd 29 rfl)) (by decide) (backOfSKH (W := 0) (rmloc l Z A0 hw [] b3 b4 o5 b6 b18 b19 o20 b21 f_CS f_US f_SS b2 b17 T16.heap n0 Z16 F30 F31 F32 F33 F25 F27 F26 F28 F34 hn_CS F35 F36 hr_f_SS F37 (ob_0_16 f_CS f_SF f_SS p0 p1 o5 b6 o20 b21 hn_CS hr_f_SF hr_f_SS hp14 hp29) (ob_0_17 f_CS f_SF f_SS p0 p1 o5 b6 o20 b21 hn_CS hr_f_SF hr_f_SS hp14 hp29) (ob_0_18 f_CS f_SF f_SS p0 p1 o5 b6 o20 b21 hn_CS hr_f_SF hr_f_SS hp14 hp29) (ob_0_19 f_CS f_SF f_SS p0 p1 o5 b6 o20 b21 hn_CS hr_f_SF hr_f_SS hp14 hp29) (ob_0_20 f_CS f_SF f_SS p0 p1 o5 b6 o20 b21 hn_CS hr_f_SF hr_f_SS hp14 hp29) (ob_0_21 f_CS f_SF f_SS p0 p1 o5 b6 o20 b21 hn_CS hr_f_SF hr_f_SS hp14 hp29) (ob_0_22 f_CS f_SF f_SS p0 p1 o5 b6 o20 b21 hn_CS hr_f_SF hr_f_SS hp14 hp29) (ob_0_23 f_CS f_SF f_SS p0 p1 o5 b6 o20 b21 hn_CS hr_f_SF hr_f_SS hp14 hp29) (ob_0_24 f_CS f_SF f_SS p0 p1 o5 b6 o20 b21 hn_CS hr_f_SF hr_f_SS hp14 hp29) (ob_0_25 f_CS f_SF f_SS p0 p1 o5 b6 o20 b21 hn_CS hr_f_SF hr_f_SS hp14 hp29) (ob_0_26 f_CS f_SF f_SS p0 p1 o5 b6 o20 b21 hn_CS hr_f_SF hr_f_SS hp14 hp29) (ob_0_27 f_CS f_SF f_SS p0 p1 o5 b6 o20 b21 hn_CS hr_f_SF hr_f_SS hp14 hp29) (ob_0_28 f_CS f_SF f_SS p0 p1 o5 b6 o20 b21 hn_CS hr_f_SF hr_f_SS hp14 hp29) (ob_0_29 f_CS f_SF f_SS p0 p1 o5 b6 o20 b21 hn_CS hr_f_SF hr_f_SS hp14 hp29) (ob_0_30 f_CS f_SF f_SS p0 p1 o5 b6 o20 b21 hn_CS hr_f_SF hr_f_SS hp14 hp29) (ob_0_31 f_CS f_SF f_SS p0 p1 o5 b6 o20 b21 hn_CS hr_f_SF hr_f_SS hp14 hp29) (ob_0_32 f_CS f_SF f_SS p0 p1 o5 b6 o20 b21 hn_CS hr_f_SF hr_f_SS hp14 hp29) (ob_0_33 f_CS f_SF f_SS p0 p1 o5 b6 o20 b21 hn_CS hr_f_SF hr_f_SS hp14 hp29) (ob_0_34 f_CS f_SF f_SS p0 p1 o5 b6 o20 b21 hn_CS hr_f_SF hr_f_SS hp14 hp29) hl0) hZ (hwd 29 rfl) (hwd 28 rfl) (by decide) (by decide) hEL CR16.1 (hK.1.alikeC hS.1.alike) (hK.2.alikeC hS.1.alike)) (g := (mkF m 12 #[vI p0, vI p1, vR b2, vR b17, .unset, .unset, .unset, .unset] [(.ref b17), (.ref b2)])) rfl (by rw [hml]; rfl) (argsL := [(.ref b2), (.ref b17)]) (rest := []) (lenOf pd_26 rfl) rfl (by show 2 * 0 + _ ≤ _; exact Nat.le_of_eq rfl) (hb hby at_12) (fun _ _ => ⟨rfl, rfl, (by decide : 12 + 8 ≤ _), (by decide : 24 + 2810 ≤ _)⟩)
 dsimp only [Pt.U, Pt.locs, Pt.cells, Pt.slots] at X38' l38 y38 z38 st38 hQ38 hSq38 hgr38 R38
 subst l38 y38 z38
 obtain ⟨X38, hS, hZ, hown⟩ := rebS hS hk16 X38' hSq38 hgr38 hZ hown
 obtain ⟨kc38, hkc38⟩ : ∃ z, z = T38.heap.size := ⟨_, rfl⟩
 rw [← hkc38] at hS
 have hk38 : kc38 ≤ T38.heap.size := Nat.le_of_eq hkc38
 have CR38 : CHr Z consts_1 s.vm h0 T38.vm T38.heap := CR16.trans R38
 obtain ⟨b39, b40, b41, b42, rfl, Nq38, Kq38, hp43, hp44, F45, F46, hp47, hp48, F49, F50, F51, hp52, hp53, F54, hp55, hp56, hp57⟩ := hQ38
 have N38 := Fr.app N16 Nq38
 have K38 : Keep h0 T38.heap [] := K16.trans Kq38 (all0)
 have Z38 : n0 ≤ T38.heap.size := Nat.le_trans Z16 Kq38.1
 have sz_b39 : h0.size ≤ b39 := Nat.le_trans K16.1 hp44
 have sz_b40 : h0.size ≤ b40 := Nat.le_trans K16.1 hp48
 have sz_b41 : h0.size ≤ b41 := Nat.le_trans K16.1 hp53
 refine own_by (fun _ k => st38.trans k) ?_
 show own_Go p e below _ (T38.setTop (mkF m 15 #[vI p0, vI p1, vR b2, vR b17, .unset, .unset, .unset, .unset] [(.ref b39)]))
 refine own_by (fun _ k => XS.astore X38.here hx rfl (hb hby at_15) rfl rfl (l' := #[vI p0, vI p1, vR b2, vR b17, vR b39, .unset, .unset, .unset]) rfl k) ?_
 show own_Go p e below _ (T38.setTop (mkF m 17 #[vI p0, vI p1, vR b2, vR b17, vR b39, .unset, .unset, .unset] []))
 refine own_by (fun _ k => XS.aload X38.here hx rfl (hb hby at_17) rfl rfl k) ?_
 refine own_by (fun _ k => XS.ifnonnullYes X38.here hx rfl (pc0 := 19) (pc' := 24) rfl (hb hby at_19) rfl (by decide) (by decide) k) ?_
 show own_Go p e below _ (T38.setTop (mkF m 24 #[vI p0, vI p1, vR b2, vR b17, vR b39, .unset, .unset, .unset] []))
 refine own_by (fun _ k => XS.aload X38.here hx rfl (hb hby at_24) rfl rfl k) ?_
 obtain ⟨cq58, kq58, qq58a, qq58b, qq58c⟩ := isOf hZ rfl F45
 obtain ⟨_, _, ⟨T58, L58, k58, n58⟩, -, X58, ⟨Lc58, hQ58, l58, y58, z58⟩, st58⟩ := X38.virtualBackUp hx (x := (⟨"com/example/model_check_sql/modelchecksql/model/ModelFormatException", "getMessage", "()Ljava/lang/String;"⟩ : MethodName)) (y := (⟨"java/lang/Throwable", "getMessage", "()Ljava/lang/String;"⟩ : MethodName)) (owner := "java/lang/Throwable") hown (mvT hZ (hwd 208 rfl)) (mvT hZ (hwd 209 rfl)) (mvT hZ (hwd 210 rfl)) (by decide) (mvT hZ (hwd 212 rfl)) (mvT hZ (hwd 211 rfl)) (backOf (W := 0) (rm33 l Z A0 hw [] b39 b40 T38.heap n0 Z38 F46) hZ (hwd 213 rfl) (hwd 169 rfl) (by decide) (by decide)) qq58a qq58c (g := (mkF m 26 #[vI p0, vI p1, vR b2, vR b17, vR b39, .unset, .unset, .unset] [(.ref b39)])) rfl (by rw [hml]; rfl) (Steps.refl _) (argsL := []) (rest := []) (lenOf pd_100 rfl) rfl (by show 2 * 0 + _ ≤ _; exact Nat.le_of_eq rfl) (hb hby at_26) (fun _ _ => ⟨rfl, rfl, (by decide : 20 + 0 ≤ _), (by decide : 2834 + 0 ≤ _)⟩)
 dsimp only [Pt.U, Pt.locs, Pt.cells, Pt.slots] at X58 l58 y58 z58 st58 hQ58
 subst l58 y58 z58
 obtain ⟨rfl, Nq58, eq58⟩ := hQ58
 have N58 := Fr.app N38 Nq58
 refine own_by (fun _ k => st58.trans k) ?_
 show own_Go p e below _ (T58.setTop (mkF m 29 #[vI p0, vI p1, vR b2, vR b17, vR b39, .unset, .unset, .unset] [(.ref b40)]))
 refine own_by (fun _ k => XS.astore X58.here hx rfl (hb hby at_29) rfl rfl (l' := #[vI p0, vI p1, vR b2, vR b17, vR b39, vR b40, .unset, .unset]) rfl k) ?_
 show own_Go p e below _ (T58.setTop (mkF m 31 #[vI p0, vI p1, vR b2, vR b17, vR b39, vR b40, .unset, .unset] []))
 refine own_by (fun _ k => XS.aload X58.here hx rfl (hb hby at_31) rfl rfl k) ?_
 refine own_by (fun _ k => XS.ifnonnullYes X58.here hx rfl (pc0 := 33) (pc' := 38) rfl (hb hby at_33) rfl (by decide) (by decide) k) ?_
 show own_Go p e below _ (T58.setTop (mkF m 38 #[vI p0, vI p1, vR b2, vR b17, vR b39, vR b40, .unset, .unset] []))
 refine own_by (fun _ k => XS.iloadN X58.here hx rfl (hb hby at_38) rfl k) ?_
 refine own_by (fun _ k => XS.bipush X58.here hx rfl (hb hby at_39) k) ?_
 refine own_by (fun _ k => XS.iushr X58.here hx rfl (hb hby at_41) rfl k) ?_
 show own_Go p e below _ (T58.setTop (mkF m 42 #[vI p0, vI p1, vR b2, vR b17, vR b39, vR b40, .unset, .unset] [(.int ((p0.toUInt32 >>> ((24 : Int32) &&& 31).toUInt32).toInt32))]))
 refine own_by (fun _ k => XS.iconst X58.here hx rfl (hb hby at_42) k) ?_
 refine own_by (fun _ k => XS.iand X58.here hx rfl (hb hby at_43) rfl k) ?_
 show own_Go p e below _ (T58.setTop (mkF m 44 #[vI p0, vI p1, vR b2, vR b17, vR b39, vR b40, .unset, .unset] [(.int (((p0.toUInt32 >>> ((24 : Int32) &&& 31).toUInt32).toInt32) &&& (3 : Int32)))]))
 refine own_by (fun _ k => XS.istore X58.here hx rfl (hb hby at_44) rfl (l' := #[vI p0, vI p1, vR b2, vR b17, vR b39, vR b40, vI (((p0.toUInt32 >>> ((24 : Int32) &&& 31).toUInt32).toInt32) &&& (3 : Int32)), .unset]) rfl k) ?_
 show own_Go p e below _ (T58.setTop (mkF m 46 #[vI p0, vI p1, vR b2, vR b17, vR b39, vR b40, vI (((p0.toUInt32 >>> ((24 : Int32) &&& 31).toUInt32).toInt32) &&& (3 : Int32)), .unset] []))
 generalize hv59 : (((p0.toUInt32 >>> ((24 : Int32) &&& 31).toUInt32).toInt32) &&& (3 : Int32)) = v59
 show own_Go p e below _ (T58.setTop (mkF m 46 #[vI p0, vI p1, vR b2, vR b17, vR b39, vR b40, vI v59, .unset] []))
 refine own_by (fun _ k => XS.iloadN X58.here hx rfl (hb hby at_46) rfl k) ?_
 refine own_by (fun _ k => XS.bipush X58.here hx rfl (hb hby at_47) k) ?_
 refine own_by (fun _ k => XS.iushr X58.here hx rfl (hb hby at_49) rfl k) ?_
 show own_Go p e below _ (T58.setTop (mkF m 50 #[vI p0, vI p1, vR b2, vR b17, vR b39, vR b40, vI v59, .unset] [(.int ((p1.toUInt32 >>> ((24 : Int32) &&& 31).toUInt32).toInt32))]))
 refine own_by (fun _ k => XS.iconst X58.here hx rfl (hb hby at_50) k) ?_
 refine own_by (fun _ k => XS.iand X58.here hx rfl (hb hby at_51) rfl k) ?_
 show own_Go p e below _ (T58.setTop (mkF m 52 #[vI p0, vI p1, vR b2, vR b17, vR b39, vR b40, vI v59, .unset] [(.int (((p1.toUInt32 >>> ((24 : Int32) &&& 31).toUInt32).toInt32) &&& (3 : Int32)))]))
 refine own_by (fun _ k => XS.istore X58.here hx rfl (hb hby at_52) rfl (l' := #[vI p0, vI p1, vR b2, vR b17, vR b39, vR b40, vI v59, vI (((p1.toUInt32 >>> ((24 : Int32) &&& 31).toUInt32).toInt32) &&& (3 : Int32))]) rfl k) ?_
 show own_Go p e below _ (T58.setTop (mkF m 54 #[vI p0, vI p1, vR b2, vR b17, vR b39, vR b40, vI v59, vI (((p1.toUInt32 >>> ((24 : Int32) &&& 31).toUInt32).toInt32) &&& (3 : Int32))] []))
 generalize hv60 : (((p1.toUInt32 >>> ((24 : Int32) &&& 31).toUInt32).toInt32) &&& (3 : Int32)) = v60
 show own_Go p e below _ (T58.setTop (mkF m 54 #[vI p0, vI p1, vR b2, vR b17, vR b39, vR b40, vI v59, vI v60] []))
 refine own_by (fun _ k => XS.aload X58.here hx rfl (hb hby at_54) rfl rfl k) ?_
 have F61 : Sta Z T38.heap "java/lang/String" "COMPACT_STRINGS" "Z" (.int f_CS) := (own_staKeep F34 Kq38 all0)
 obtain ⟨cq62, kq62, qq62a, qq62b, qq62c⟩ := isOf hZ eq58 F49
 obtain ⟨_, _, ⟨T62, L62, k62, n62⟩, -, X62, ⟨Lc62, hQ62, l62, y62, z62⟩, st62⟩ := X58.virtualBack hx (y := (⟨"java/lang/String", "length", "()I"⟩ : MethodName)) (z := (⟨"java/lang/String", "length", "()I"⟩ : MethodName)) hown (mvT hZ (hwd 214 rfl)) (mvT hZ (hwd 62 rfl)) (notFace_of_selects (args := #[]) (mvT hZ (hwd 64 rfl))) (mvT hZ (hwd 64 rfl)) (mvT hZ (hwd 63 rfl)) (by decide) (backOf (W := 0) (rmlen l Z A0 hw [] b41 b42 ((((0 : Int32) + o5) + (2 : Int32)) + o20) (own_cp (own_cp b21 0 (own_cp (own_li [58, 32]) 0 (own_cp b6 0 (fun _ => (0 : Int32)) 0 (o5).toNatClampNeg) (((0 : Int32) + o5)).toNatClampNeg 2) ((((0 : Int32) + o5) + (2 : Int32))).toNatClampNeg (o20).toNatClampNeg) 0 (fun _ => (0 : Int32)) 0 (((((0 : Int32) + o5) + (2 : Int32)) + o20)).toNatClampNeg) f_CS b40 T38.heap n0 Z38 F49 F50 F51 F54 F61 hn_CS) hZ (hwd 65 rfl) (hwd 6 rfl) (by decide) (by decide)) qq62a qq62c (g := (mkF m 56 #[vI p0, vI p1, vR b2, vR b17, vR b39, vR b40, vI v59, vI v60] [(.ref b40)])) rfl (by rw [hml]; rfl) (Steps.refl _) (argsL := []) (rest := []) (lenOf pd_61 rfl) rfl (by show 2 * 0 + _ ≤ _; exact Nat.le_of_eq rfl) (hb hby at_56) (fun _ _ => ⟨rfl, eq58, (by decide : 20 + 0 ≤ _), (by decide : 2834 + 0 ≤ _)⟩)
 dsimp only [Pt.U, Pt.locs, Pt.cells, Pt.slots] at X62 l62 y62 z62 st62 hQ62
 subst l62 y62 z62
 obtain ⟨rfl, Nq62, eq62⟩ := hQ62
 have N62 := Fr.app N58 Nq62
 refine own_by (fun _ k => st62.trans k) ?_
 show own_Go p e below _ (T62.setTop (mkF m 59 #[vI p0, vI p1, vR b2, vR b17, vR b39, vR b40, vI v59, vI v60] [(.int ((((0 : Int32) + o5) + (2 : Int32)) + o20))]))
 refine own_by (fun _ k => XS.iload X62.here hx rfl (hb hby at_59) rfl k) ?_
 refine own_by (fun _ k => XS.iconst X62.here hx rfl (hb hby at_61) k) ?_
 refine own_by (fun _ k => XS.iadd X62.here hx rfl (hb hby at_62) rfl k) ?_
 show own_Go p e below _ (T62.setTop (mkF m 63 #[vI p0, vI p1, vR b2, vR b17, vR b39, vR b40, vI v59, vI v60] [(.int (v59 + (2 : Int32))), (.int ((((0 : Int32) + o5) + (2 : Int32)) + o20))]))
 refine own_by (fun _ k => XS.iload X62.here hx rfl (hb hby at_63) rfl k) ?_
 refine own_by (fun _ k => XS.iadd X62.here hx rfl (hb hby at_65) rfl k) ?_
 show own_Go p e below _ (T62.setTop (mkF m 66 #[vI p0, vI p1, vR b2, vR b17, vR b39, vR b40, vI v59, vI v60] [(.int ((v59 + (2 : Int32)) + v60)), (.int ((((0 : Int32) + o5) + (2 : Int32)) + o20))]))
 by_cases c63 : ((((0 : Int32) + o5) + (2 : Int32)) + o20) = ((v59 + (2 : Int32)) + v60)
 ·skip
  refine own_by (fun _ k => XS.icmpYes X62.here hx rfl (pc0 := 66) (pc' := 71) rfl (hb hby at_66) rfl (teq c63).1 (by decide) (by decide) k) ?_
  show own_Go p e below _ (T62.setTop (mkF m 71 #[vI p0, vI p1, vR b2, vR b17, vR b39, vR b40, vI v59, vI v60] []))
  refine own_by (fun _ k => XS.aload X62.here hx rfl (hb hby at_71) rfl rfl k) ?_
  refine own_by (fun _ k => XS.iconst X62.here hx rfl (hb hby at_73) k) ?_
  refine own_by (fun _ k => XS.iloadN X62.here hx rfl (hb hby at_74) rfl k) ?_
  refine own_by (fun _ k => XS.iloadN X62.here hx rfl (hb hby at_75) rfl k) ?_
  have F64 : Sta Z T38.heap "jdk/internal/util/Preconditions" "SIOOBE_FORMATTER" "Ljava/util/function/BiFunction;" f_SF := (own_staKeep (own_staKeep (own_staKeep P_S_SF Kq1 all0) Kq16 all0) Kq38 all0)
  obtain ⟨_, _, ⟨T65, L65, k65, n65⟩, -, X65, ⟨Lc65, hQ65, l65, y65, z65⟩, st65⟩ := Jvm.LawKit.callS X62 hx (y := (⟨"com/example/model_check_sql/modelchecksql/model/ModelReadingLocatedPinLaw", "same", "(Ljava/lang/String;III)Z"⟩ : MethodName)) hown (mvT hZ (hwd 215 rfl)) (mvT hZ (hwd 216 rfl)) (mvT hZ (hwd 2 rfl)) (mvT hZ (hwd 217 rfl)) (by decide) (backOf (W := 0) (rmsame l Z A0 hw [] b41 b42 ((((0 : Int32) + o5) + (2 : Int32)) + o20) (own_cp (own_cp b21 0 (own_cp (own_li [58, 32]) 0 (own_cp b6 0 (fun _ => (0 : Int32)) 0 (o5).toNatClampNeg) (((0 : Int32) + o5)).toNatClampNeg 2) ((((0 : Int32) + o5) + (2 : Int32))).toNatClampNeg (o20).toNatClampNeg) 0 (fun _ => (0 : Int32)) 0 (((((0 : Int32) + o5) + (2 : Int32)) + o20)).toNatClampNeg) f_CS f_SF b40 (0 : Int32) p0 p1 T38.heap n0 Z38 F49 F50 F51 F54 F61 hn_CS F64 hr_f_SF (show ¬ ((0 : Int32) < (0 : Int32)) by decide)) hZ (hwd 217 rfl) (hwd 2 rfl) (by decide) (by decide)) (g := (mkF m 76 #[vI p0, vI p1, vR b2, vR b17, vR b39, vR b40, vI v59, vI v60] [(.int p1), (.int p0), (.int (0 : Int32)), (.ref b40)])) rfl (by rw [hml]; rfl) (argsL := [(.ref b40), (.int (0 : Int32)), (.int p0), (.int p1)]) (rest := []) (lenOf pd_215 rfl) rfl (by show 2 * 0 + _ ≤ _; exact Nat.le_of_eq rfl) (hb hby at_76) (fun _ _ => ⟨rfl, eq62, (by decide : 20 + 0 ≤ _), (by decide : 2834 + 0 ≤ _)⟩)
  dsimp only [Pt.U, Pt.locs, Pt.cells, Pt.slots] at X65 l65 y65 z65 st65 hQ65
  subst l65 y65 z65
  obtain ⟨o66, rfl, Nq65, eq65, hp67⟩ := hQ65
  have N65 := Fr.app N62 Nq65
  refine own_by st65 ?_
  show own_Go p e below _ (T65.setTop (mkF m 79 #[vI p0, vI p1, vR b2, vR b17, vR b39, vR b40, vI v59, vI v60] [(.int o66)]))
  by_cases c68 : o66 = (0 : Int32)
  ·skip
   refine own_by (fun _ k => XS.ifYes X65.here hx rfl (pc0 := 79) (pc' := 165) rfl (hb hby at_79) rfl ((if0 _ _).trans (teq c68).1) (by decide) (by decide) k) ?_
   show own_Go p e below _ (T65.setTop (mkF m 165 #[vI p0, vI p1, vR b2, vR b17, vR b39, vR b40, vI v59, vI v60] []))
   refine own_by (fun _ k => XS.iconst X65.here hx rfl (hb hby at_165) k) ?_
   exact own_retNW X65 hx hS hk38 hZ hEL hh CR38 (t := .boolean) Bd.returns (by simp) (hb hby at_166) hlk eq65 ⟨((ob_0_35 f_CS f_SF f_SS p0 p1 o5 b6 o20 b21 v59 v60 o66 hn_CS hr_f_SF hr_f_SS hp14 hp29 hv59 hv60 c63 hp67 c68)).elim, N65⟩ (by decide) (by decide)
  ·skip
   refine own_by (fun _ k => XS.ifNo X65.here hx rfl (hb hby at_79) rfl ((if0 _ _).trans (feq c68).1) k) ?_
   show own_Go p e below _ (T65.setTop (mkF m 82 #[vI p0, vI p1, vR b2, vR b17, vR b39, vR b40, vI v59, vI v60] []))
   refine own_by (fun _ k => XS.aload X65.here hx rfl (hb hby at_82) rfl rfl k) ?_
   refine own_by (fun _ k => XS.iconst X65.here hx rfl (hb hby at_84) k) ?_
   refine own_by (fun _ k => XS.iloadN X65.here hx rfl (hb hby at_85) rfl k) ?_
   refine own_by (fun _ k => XS.iloadN X65.here hx rfl (hb hby at_86) rfl k) ?_
   obtain ⟨_, _, ⟨T69, L69, k69, n69⟩, -, X69, ⟨Lc69, hQ69, l69, y69, z69⟩, st69⟩ := Jvm.LawKit.callS X65 hx (y := (⟨"com/example/model_check_sql/modelchecksql/model/ModelReadingLocatedPinLaw", "same", "(Ljava/lang/String;III)Z"⟩ : MethodName)) hown (mvT hZ (hwd 215 rfl)) (mvT hZ (hwd 216 rfl)) (mvT hZ (hwd 2 rfl)) (mvT hZ (hwd 217 rfl)) (by decide) (backOf (W := 0) (rmsame l Z A0 hw [] b41 b42 ((((0 : Int32) + o5) + (2 : Int32)) + o20) (own_cp (own_cp b21 0 (own_cp (own_li [58, 32]) 0 (own_cp b6 0 (fun _ => (0 : Int32)) 0 (o5).toNatClampNeg) (((0 : Int32) + o5)).toNatClampNeg 2) ((((0 : Int32) + o5) + (2 : Int32))).toNatClampNeg (o20).toNatClampNeg) 0 (fun _ => (0 : Int32)) 0 (((((0 : Int32) + o5) + (2 : Int32)) + o20)).toNatClampNeg) f_CS f_SF b40 (1 : Int32) p0 p1 T38.heap n0 Z38 F49 F50 F51 F54 F61 hn_CS F64 hr_f_SF (show ¬ ((1 : Int32) < (0 : Int32)) by decide)) hZ (hwd 217 rfl) (hwd 2 rfl) (by decide) (by decide)) (g := (mkF m 87 #[vI p0, vI p1, vR b2, vR b17, vR b39, vR b40, vI v59, vI v60] [(.int p1), (.int p0), (.int (1 : Int32)), (.ref b40)])) rfl (by rw [hml]; rfl) (argsL := [(.ref b40), (.int (1 : Int32)), (.int p0), (.int p1)]) (rest := []) (lenOf pd_215 rfl) rfl (by show 2 * 0 + _ ≤ _; exact Nat.le_of_eq rfl) (hb hby at_87) (fun _ _ => ⟨rfl, eq65, (by decide : 20 + 0 ≤ _), (by decide : 2834 + 0 ≤ _)⟩)
   dsimp only [Pt.U, Pt.locs, Pt.cells, Pt.slots] at X69 l69 y69 z69 st69 hQ69
   subst l69 y69 z69
   obtain ⟨o70, rfl, Nq69, eq69, hp71⟩ := hQ69
   have N69 := Fr.app N65 Nq69
   refine own_by st69 ?_
   show own_Go p e below _ (T69.setTop (mkF m 90 #[vI p0, vI p1, vR b2, vR b17, vR b39, vR b40, vI v59, vI v60] [(.int o70)]))
   by_cases c72 : o70 = (0 : Int32)
   ·skip
    refine own_by (fun _ k => XS.ifYes X69.here hx rfl (pc0 := 90) (pc' := 165) rfl (hb hby at_90) rfl ((if0 _ _).trans (teq c72).1) (by decide) (by decide) k) ?_
    show own_Go p e below _ (T69.setTop (mkF m 165 #[vI p0, vI p1, vR b2, vR b17, vR b39, vR b40, vI v59, vI v60] []))
    refine own_by (fun _ k => XS.iconst X69.here hx rfl (hb hby at_165) k) ?_
    exact own_retNW X69 hx hS hk38 hZ hEL hh CR38 (t := .boolean) Bd.returns (by simp) (hb hby at_166) hlk eq69 ⟨((ob_0_36 f_CS f_SF f_SS p0 p1 o5 b6 o20 b21 v59 v60 o66 o70 hn_CS hr_f_SF hr_f_SS hp14 hp29 hv59 hv60 c63 hp67 c68 hp71 c72)).elim, N69⟩ (by decide) (by decide)
   ·skip
    refine own_by (fun _ k => XS.ifNo X69.here hx rfl (hb hby at_90) rfl ((if0 _ _).trans (feq c72).1) k) ?_
    show own_Go p e below _ (T69.setTop (mkF m 93 #[vI p0, vI p1, vR b2, vR b17, vR b39, vR b40, vI v59, vI v60] []))
    refine own_by (fun _ k => XS.aload X69.here hx rfl (hb hby at_93) rfl rfl k) ?_
    refine own_by (fun _ k => XS.iconst X69.here hx rfl (hb hby at_95) k) ?_
    refine own_by (fun _ k => XS.iloadN X69.here hx rfl (hb hby at_96) rfl k) ?_
    refine own_by (fun _ k => XS.iloadN X69.here hx rfl (hb hby at_97) rfl k) ?_
    obtain ⟨_, _, ⟨T73, L73, k73, n73⟩, -, X73, ⟨Lc73, hQ73, l73, y73, z73⟩, st73⟩ := Jvm.LawKit.callS X69 hx (y := (⟨"com/example/model_check_sql/modelchecksql/model/ModelReadingLocatedPinLaw", "same", "(Ljava/lang/String;III)Z"⟩ : MethodName)) hown (mvT hZ (hwd 215 rfl)) (mvT hZ (hwd 216 rfl)) (mvT hZ (hwd 2 rfl)) (mvT hZ (hwd 217 rfl)) (by decide) (backOf (W := 0) (rmsame l Z A0 hw [] b41 b42 ((((0 : Int32) + o5) + (2 : Int32)) + o20) (own_cp (own_cp b21 0 (own_cp (own_li [58, 32]) 0 (own_cp b6 0 (fun _ => (0 : Int32)) 0 (o5).toNatClampNeg) (((0 : Int32) + o5)).toNatClampNeg 2) ((((0 : Int32) + o5) + (2 : Int32))).toNatClampNeg (o20).toNatClampNeg) 0 (fun _ => (0 : Int32)) 0 (((((0 : Int32) + o5) + (2 : Int32)) + o20)).toNatClampNeg) f_CS f_SF b40 (2 : Int32) p0 p1 T38.heap n0 Z38 F49 F50 F51 F54 F61 hn_CS F64 hr_f_SF (show ¬ ((2 : Int32) < (0 : Int32)) by decide)) hZ (hwd 217 rfl) (hwd 2 rfl) (by decide) (by decide)) (g := (mkF m 98 #[vI p0, vI p1, vR b2, vR b17, vR b39, vR b40, vI v59, vI v60] [(.int p1), (.int p0), (.int (2 : Int32)), (.ref b40)])) rfl (by rw [hml]; rfl) (argsL := [(.ref b40), (.int (2 : Int32)), (.int p0), (.int p1)]) (rest := []) (lenOf pd_215 rfl) rfl (by show 2 * 0 + _ ≤ _; exact Nat.le_of_eq rfl) (hb hby at_98) (fun _ _ => ⟨rfl, eq69, (by decide : 20 + 0 ≤ _), (by decide : 2834 + 0 ≤ _)⟩)
    dsimp only [Pt.U, Pt.locs, Pt.cells, Pt.slots] at X73 l73 y73 z73 st73 hQ73
    subst l73 y73 z73
    obtain ⟨o74, rfl, Nq73, eq73, hp75⟩ := hQ73
    have N73 := Fr.app N69 Nq73
    refine own_by st73 ?_
    show own_Go p e below _ (T73.setTop (mkF m 101 #[vI p0, vI p1, vR b2, vR b17, vR b39, vR b40, vI v59, vI v60] [(.int o74)]))
    by_cases c76 : o74 = (0 : Int32)
    ·skip
     refine own_by (fun _ k => XS.ifYes X73.here hx rfl (pc0 := 101) (pc' := 165) rfl (hb hby at_101) rfl ((if0 _ _).trans (teq c76).1) (by decide) (by decide) k) ?_
     show own_Go p e below _ (T73.setTop (mkF m 165 #[vI p0, vI p1, vR b2, vR b17, vR b39, vR b40, vI v59, vI v60] []))
     refine own_by (fun _ k => XS.iconst X73.here hx rfl (hb hby at_165) k) ?_
     exact own_retNW X73 hx hS hk38 hZ hEL hh CR38 (t := .boolean) Bd.returns (by simp) (hb hby at_166) hlk eq73 ⟨((ob_0_37 f_CS f_SF f_SS p0 p1 o5 b6 o20 b21 v59 v60 o66 o70 o74 hn_CS hr_f_SF hr_f_SS hp14 hp29 hv59 hv60 c63 hp67 c68 hp71 c72 hp75 c76)).elim, N73⟩ (by decide) (by decide)
    ·skip
     refine own_by (fun _ k => XS.ifNo X73.here hx rfl (hb hby at_101) rfl ((if0 _ _).trans (feq c76).1) k) ?_
     show own_Go p e below _ (T73.setTop (mkF m 104 #[vI p0, vI p1, vR b2, vR b17, vR b39, vR b40, vI v59, vI v60] []))
     refine own_by (fun _ k => XS.aload X73.here hx rfl (hb hby at_104) rfl rfl k) ?_
     refine own_by (fun _ k => XS.iconst X73.here hx rfl (hb hby at_106) k) ?_
     refine own_by (fun _ k => XS.iloadN X73.here hx rfl (hb hby at_107) rfl k) ?_
     refine own_by (fun _ k => XS.iloadN X73.here hx rfl (hb hby at_108) rfl k) ?_
     obtain ⟨_, _, ⟨T77, L77, k77, n77⟩, -, X77, ⟨Lc77, hQ77, l77, y77, z77⟩, st77⟩ := Jvm.LawKit.callS X73 hx (y := (⟨"com/example/model_check_sql/modelchecksql/model/ModelReadingLocatedPinLaw", "same", "(Ljava/lang/String;III)Z"⟩ : MethodName)) hown (mvT hZ (hwd 215 rfl)) (mvT hZ (hwd 216 rfl)) (mvT hZ (hwd 2 rfl)) (mvT hZ (hwd 217 rfl)) (by decide) (backOf (W := 0) (rmsame l Z A0 hw [] b41 b42 ((((0 : Int32) + o5) + (2 : Int32)) + o20) (own_cp (own_cp b21 0 (own_cp (own_li [58, 32]) 0 (own_cp b6 0 (fun _ => (0 : Int32)) 0 (o5).toNatClampNeg) (((0 : Int32) + o5)).toNatClampNeg 2) ((((0 : Int32) + o5) + (2 : Int32))).toNatClampNeg (o20).toNatClampNeg) 0 (fun _ => (0 : Int32)) 0 (((((0 : Int32) + o5) + (2 : Int32)) + o20)).toNatClampNeg) f_CS f_SF b40 (3 : Int32) p0 p1 T38.heap n0 Z38 F49 F50 F51 F54 F61 hn_CS F64 hr_f_SF (show ¬ ((3 : Int32) < (0 : Int32)) by decide)) hZ (hwd 217 rfl) (hwd 2 rfl) (by decide) (by decide)) (g := (mkF m 109 #[vI p0, vI p1, vR b2, vR b17, vR b39, vR b40, vI v59, vI v60] [(.int p1), (.int p0), (.int (3 : Int32)), (.ref b40)])) rfl (by rw [hml]; rfl) (argsL := [(.ref b40), (.int (3 : Int32)), (.int p0), (.int p1)]) (rest := []) (lenOf pd_215 rfl) rfl (by show 2 * 0 + _ ≤ _; exact Nat.le_of_eq rfl) (hb hby at_109) (fun _ _ => ⟨rfl, eq73, (by decide : 20 + 0 ≤ _), (by decide : 2834 + 0 ≤ _)⟩)
     dsimp only [Pt.U, Pt.locs, Pt.cells, Pt.slots] at X77 l77 y77 z77 st77 hQ77
     subst l77 y77 z77
     obtain ⟨o78, rfl, Nq77, eq77, hp79⟩ := hQ77
     have N77 := Fr.app N73 Nq77
     refine own_by st77 ?_
     show own_Go p e below _ (T77.setTop (mkF m 112 #[vI p0, vI p1, vR b2, vR b17, vR b39, vR b40, vI v59, vI v60] [(.int o78)]))
     by_cases c80 : o78 = (0 : Int32)
     ·skip
      refine own_by (fun _ k => XS.ifYes X77.here hx rfl (pc0 := 112) (pc' := 165) rfl (hb hby at_112) rfl ((if0 _ _).trans (teq c80).1) (by decide) (by decide) k) ?_
      show own_Go p e below _ (T77.setTop (mkF m 165 #[vI p0, vI p1, vR b2, vR b17, vR b39, vR b40, vI v59, vI v60] []))
      refine own_by (fun _ k => XS.iconst X77.here hx rfl (hb hby at_165) k) ?_
      exact own_retNW X77 hx hS hk38 hZ hEL hh CR38 (t := .boolean) Bd.returns (by simp) (hb hby at_166) hlk eq77 ⟨((ob_0_38 f_CS f_SF f_SS p0 p1 o5 b6 o20 b21 v59 v60 o66 o70 o74 o78 hn_CS hr_f_SF hr_f_SS hp14 hp29 hv59 hv60 c63 hp67 c68 hp71 c72 hp75 c76 hp79 c80)).elim, N77⟩ (by decide) (by decide)
     ·skip
      refine own_by (fun _ k => XS.ifNo X77.here hx rfl (hb hby at_112) rfl ((if0 _ _).trans (feq c80).1) k) ?_
      show own_Go p e below _ (T77.setTop (mkF m 115 #[vI p0, vI p1, vR b2, vR b17, vR b39, vR b40, vI v59, vI v60] []))
      refine own_by (fun _ k => XS.aload X77.here hx rfl (hb hby at_115) rfl rfl k) ?_
      refine own_by (fun _ k => XS.iconst X77.here hx rfl (hb hby at_117) k) ?_
      refine own_by (fun _ k => XS.iloadN X77.here hx rfl (hb hby at_118) rfl k) ?_
      refine own_by (fun _ k => XS.iloadN X77.here hx rfl (hb hby at_119) rfl k) ?_
      obtain ⟨_, _, ⟨T81, L81, k81, n81⟩, -, X81, ⟨Lc81, hQ81, l81, y81, z81⟩, st81⟩ := Jvm.LawKit.callS X77 hx (y := (⟨"com/example/model_check_sql/modelchecksql/model/ModelReadingLocatedPinLaw", "same", "(Ljava/lang/String;III)Z"⟩ : MethodName)) hown (mvT hZ (hwd 215 rfl)) (mvT hZ (hwd 216 rfl)) (mvT hZ (hwd 2 rfl)) (mvT hZ (hwd 217 rfl)) (by decide) (backOf (W := 0) (rmsame l Z A0 hw [] b41 b42 ((((0 : Int32) + o5) + (2 : Int32)) + o20) (own_cp (own_cp b21 0 (own_cp (own_li [58, 32]) 0 (own_cp b6 0 (fun _ => (0 : Int32)) 0 (o5).toNatClampNeg) (((0 : Int32) + o5)).toNatClampNeg 2) ((((0 : Int32) + o5) + (2 : Int32))).toNatClampNeg (o20).toNatClampNeg) 0 (fun _ => (0 : Int32)) 0 (((((0 : Int32) + o5) + (2 : Int32)) + o20)).toNatClampNeg) f_CS f_SF b40 (4 : Int32) p0 p1 T38.heap n0 Z38 F49 F50 F51 F54 F61 hn_CS F64 hr_f_SF (show ¬ ((4 : Int32) < (0 : Int32)) by decide)) hZ (hwd 217 rfl) (hwd 2 rfl) (by decide) (by decide)) (g := (mkF m 120 #[vI p0, vI p1, vR b2, vR b17, vR b39, vR b40, vI v59, vI v60] [(.int p1), (.int p0), (.int (4 : Int32)), (.ref b40)])) rfl (by rw [hml]; rfl) (argsL := [(.ref b40), (.int (4 : Int32)), (.int p0), (.int p1)]) (rest := []) (lenOf pd_215 rfl) rfl (by show 2 * 0 + _ ≤ _; exact Nat.le_of_eq rfl) (hb hby at_120) (fun _ _ => ⟨rfl, eq77, (by decide : 20 + 0 ≤ _), (by decide : 2834 + 0 ≤ _)⟩)
      dsimp only [Pt.U, Pt.locs, Pt.cells, Pt.slots] at X81 l81 y81 z81 st81 hQ81
      subst l81 y81 z81
      obtain ⟨o82, rfl, Nq81, eq81, hp83⟩ := hQ81
      have N81 := Fr.app N77 Nq81
      refine own_by st81 ?_
      show own_Go p e below _ (T81.setTop (mkF m 123 #[vI p0, vI p1, vR b2, vR b17, vR b39, vR b40, vI v59, vI v60] [(.int o82)]))
      by_cases c84 : o82 = (0 : Int32)
      ·skip
       refine own_by (fun _ k => XS.ifYes X81.here hx rfl (pc0 := 123) (pc' := 165) rfl (hb hby at_123) rfl ((if0 _ _).trans (teq c84).1) (by decide) (by decide) k) ?_
       show own_Go p e below _ (T81.setTop (mkF m 165 #[vI p0, vI p1, vR b2, vR b17, vR b39, vR b40, vI v59, vI v60] []))
       refine own_by (fun _ k => XS.iconst X81.here hx rfl (hb hby at_165) k) ?_
       exact own_retNW X81 hx hS hk38 hZ hEL hh CR38 (t := .boolean) Bd.returns (by simp) (hb hby at_166) hlk eq81 ⟨((ob_0_39 f_CS f_SF f_SS p0 p1 o5 b6 o20 b21 v59 v60 o66 o70 o74 o78 o82 hn_CS hr_f_SF hr_f_SS hp14 hp29 hv59 hv60 c63 hp67 c68 hp71 c72 hp75 c76 hp79 c80 hp83 c84)).elim, N81⟩ (by decide) (by decide)
      ·skip
       refine own_by (fun _ k => XS.ifNo X81.here hx rfl (hb hby at_123) rfl ((if0 _ _).trans (feq c84).1) k) ?_
       show own_Go p e below _ (T81.setTop (mkF m 126 #[vI p0, vI p1, vR b2, vR b17, vR b39, vR b40, vI v59, vI v60] []))
       refine own_by (fun _ k => XS.aload X81.here hx rfl (hb hby at_126) rfl rfl k) ?_
       refine own_by (fun _ k => XS.iconst X81.here hx rfl (hb hby at_128) k) ?_
       refine own_by (fun _ k => XS.iloadN X81.here hx rfl (hb hby at_129) rfl k) ?_
       refine own_by (fun _ k => XS.iloadN X81.here hx rfl (hb hby at_130) rfl k) ?_
       obtain ⟨_, _, ⟨T85, L85, k85, n85⟩, -, X85, ⟨Lc85, hQ85, l85, y85, z85⟩, st85⟩ := Jvm.LawKit.callS X81 hx (y := (⟨"com/example/model_check_sql/modelchecksql/model/ModelReadingLocatedPinLaw", "same", "(Ljava/lang/String;III)Z"⟩ : MethodName)) hown (mvT hZ (hwd 215 rfl)) (mvT hZ (hwd 216 rfl)) (mvT hZ (hwd 2 rfl)) (mvT hZ (hwd 217 rfl)) (by decide) (backOf (W := 0) (rmsame l Z A0 hw [] b41 b42 ((((0 : Int32) + o5) + (2 : Int32)) + o20) (own_cp (own_cp b21 0 (own_cp (own_li [58, 32]) 0 (own_cp b6 0 (fun _ => (0 : Int32)) 0 (o5).toNatClampNeg) (((0 : Int32) + o5)).toNatClampNeg 2) ((((0 : Int32) + o5) + (2 : Int32))).toNatClampNeg (o20).toNatClampNeg) 0 (fun _ => (0 : Int32)) 0 (((((0 : Int32) + o5) + (2 : Int32)) + o20)).toNatClampNeg) f_CS f_SF b40 (5 : Int32) p0 p1 T38.heap n0 Z38 F49 F50 F51 F54 F61 hn_CS F64 hr_f_SF (show ¬ ((5 : Int32) < (0 : Int32)) by decide)) hZ (hwd 217 rfl) (hwd 2 rfl) (by decide) (by decide)) (g := (mkF m 131 #[vI p0, vI p1, vR b2, vR b17, vR b39, vR b40, vI v59, vI v60] [(.int p1), (.int p0), (.int (5 : Int32)), (.ref b40)])) rfl (by rw [hml]; rfl) (argsL := [(.ref b40), (.int (5 : Int32)), (.int p0), (.int p1)]) (rest := []) (lenOf pd_215 rfl) rfl (by show 2 * 0 + _ ≤ _; exact Nat.le_of_eq rfl) (hb hby at_131) (fun _ _ => ⟨rfl, eq81, (by decide : 20 + 0 ≤ _), (by decide : 2834 + 0 ≤ _)⟩)
       dsimp only [Pt.U, Pt.locs, Pt.cells, Pt.slots] at X85 l85 y85 z85 st85 hQ85
       subst l85 y85 z85
       obtain ⟨o86, rfl, Nq85, eq85, hp87⟩ := hQ85
       have N85 := Fr.app N81 Nq85
       refine own_by st85 ?_
       show own_Go p e below _ (T85.setTop (mkF m 134 #[vI p0, vI p1, vR b2, vR b17, vR b39, vR b40, vI v59, vI v60] [(.int o86)]))
       by_cases c88 : o86 = (0 : Int32)
       ·skip
        refine own_by (fun _ k => XS.ifYes X85.here hx rfl (pc0 := 134) (pc' := 165) rfl (hb hby at_134) rfl ((if0 _ _).trans (teq c88).1) (by decide) (by decide) k) ?_
        show own_Go p e below _ (T85.setTop (mkF m 165 #[vI p0, vI p1, vR b2, vR b17, vR b39, vR b40, vI v59, vI v60] []))
        refine own_by (fun _ k => XS.iconst X85.here hx rfl (hb hby at_165) k) ?_
        exact own_retNW X85 hx hS hk38 hZ hEL hh CR38 (t := .boolean) Bd.returns (by simp) (hb hby at_166) hlk eq85 ⟨((ob_0_40 f_CS f_SF f_SS p0 p1 o5 b6 o20 b21 v59 v60 o66 o70 o74 o78 o82 o86 hn_CS hr_f_SF hr_f_SS hp14 hp29 hv59 hv60 c63 hp67 c68 hp71 c72 hp75 c76 hp79 c80 hp83 c84 hp87 c88)).elim, N85⟩ (by decide) (by decide)
       ·skip
        refine own_by (fun _ k => XS.ifNo X85.here hx rfl (hb hby at_134) rfl ((if0 _ _).trans (feq c88).1) k) ?_
        show own_Go p e below _ (T85.setTop (mkF m 137 #[vI p0, vI p1, vR b2, vR b17, vR b39, vR b40, vI v59, vI v60] []))
        refine own_by (fun _ k => XS.aload X85.here hx rfl (hb hby at_137) rfl rfl k) ?_
        refine own_by (fun _ k => XS.bipush X85.here hx rfl (hb hby at_139) k) ?_
        refine own_by (fun _ k => XS.iloadN X85.here hx rfl (hb hby at_141) rfl k) ?_
        refine own_by (fun _ k => XS.iloadN X85.here hx rfl (hb hby at_142) rfl k) ?_
        obtain ⟨_, _, ⟨T89, L89, k89, n89⟩, -, X89, ⟨Lc89, hQ89, l89, y89, z89⟩, st89⟩ := Jvm.LawKit.callS X85 hx (y := (⟨"com/example/model_check_sql/modelchecksql/model/ModelReadingLocatedPinLaw", "same", "(Ljava/lang/String;III)Z"⟩ : MethodName)) hown (mvT hZ (hwd 215 rfl)) (mvT hZ (hwd 216 rfl)) (mvT hZ (hwd 2 rfl)) (mvT hZ (hwd 217 rfl)) (by decide) (backOf (W := 0) (rmsame l Z A0 hw [] b41 b42 ((((0 : Int32) + o5) + (2 : Int32)) + o20) (own_cp (own_cp b21 0 (own_cp (own_li [58, 32]) 0 (own_cp b6 0 (fun _ => (0 : Int32)) 0 (o5).toNatClampNeg) (((0 : Int32) + o5)).toNatClampNeg 2) ((((0 : Int32) + o5) + (2 : Int32))).toNatClampNeg (o20).toNatClampNeg) 0 (fun _ => (0 : Int32)) 0 (((((0 : Int32) + o5) + (2 : Int32)) + o20)).toNatClampNeg) f_CS f_SF b40 (6 : Int32) p0 p1 T38.heap n0 Z38 F49 F50 F51 F54 F61 hn_CS F64 hr_f_SF (show ¬ ((6 : Int32) < (0 : Int32)) by decide)) hZ (hwd 217 rfl) (hwd 2 rfl) (by decide) (by decide)) (g := (mkF m 143 #[vI p0, vI p1, vR b2, vR b17, vR b39, vR b40, vI v59, vI v60] [(.int p1), (.int p0), (.int (6 : Int32)), (.ref b40)])) rfl (by rw [hml]; rfl) (argsL := [(.ref b40), (.int (6 : Int32)), (.int p0), (.int p1)]) (rest := []) (lenOf pd_215 rfl) rfl (by show 2 * 0 + _ ≤ _; exact Nat.le_of_eq rfl) (hb hby at_143) (fun _ _ => ⟨rfl, eq85, (by decide : 20 + 0 ≤ _), (by decide : 2834 + 0 ≤ _)⟩)
        dsimp only [Pt.U, Pt.locs, Pt.cells, Pt.slots] at X89 l89 y89 z89 st89 hQ89
        subst l89 y89 z89
        obtain ⟨o90, rfl, Nq89, eq89, hp91⟩ := hQ89
        have N89 := Fr.app N85 Nq89
        refine own_by st89 ?_
        show own_Go p e below _ (T89.setTop (mkF m 146 #[vI p0, vI p1, vR b2, vR b17, vR b39, vR b40, vI v59, vI v60] [(.int o90)]))
        by_cases c92 : o90 = (0 : Int32)
        ·skip
         refine own_by (fun _ k => XS.ifYes X89.here hx rfl (pc0 := 146) (pc' := 165) rfl (hb hby at_146) rfl ((if0 _ _).trans (teq c92).1) (by decide) (by decide) k) ?_
         show own_Go p e below _ (T89.setTop (mkF m 165 #[vI p0, vI p1, vR b2, vR b17, vR b39, vR b40, vI v59, vI v60] []))
         refine own_by (fun _ k => XS.iconst X89.here hx rfl (hb hby at_165) k) ?_
         exact own_retNW X89 hx hS hk38 hZ hEL hh CR38 (t := .boolean) Bd.returns (by simp) (hb hby at_166) hlk eq89 ⟨((ob_0_41 f_CS f_SF f_SS p0 p1 o5 b6 o20 b21 v59 v60 o66 o70 o74 o78 o82 o86 o90 hn_CS hr_f_SF hr_f_SS hp14 hp29 hv59 hv60 c63 hp67 c68 hp71 c72 hp75 c76 hp79 c80 hp83 c84 hp87 c88 hp91 c92)).elim, N89⟩ (by decide) (by decide)
        ·skip
         refine own_by (fun _ k => XS.ifNo X89.here hx rfl (hb hby at_146) rfl ((if0 _ _).trans (feq c92).1) k) ?_
         show own_Go p e below _ (T89.setTop (mkF m 149 #[vI p0, vI p1, vR b2, vR b17, vR b39, vR b40, vI v59, vI v60] []))
         refine own_by (fun _ k => XS.aload X89.here hx rfl (hb hby at_149) rfl rfl k) ?_
         refine own_by (fun _ k => XS.bipush X89.here hx rfl (hb hby at_151) k) ?_
         refine own_by (fun _ k => XS.iloadN X89.here hx rfl (hb hby at_153) rfl k) ?_
         refine own_by (fun _ k => XS.iloadN X89.here hx rfl (hb hby at_154) rfl k) ?_
         obtain ⟨_, _, ⟨T93, L93, k93, n93⟩, -, X93, ⟨Lc93, hQ93, l93, y93, z93⟩, st93⟩ := Jvm.LawKit.callS X89 hx (y := (⟨"com/example/model_check_sql/modelchecksql/model/ModelReadingLocatedPinLaw", "same", "(Ljava/lang/String;III)Z"⟩ : MethodName)) hown (mvT hZ (hwd 215 rfl)) (mvT hZ (hwd 216 rfl)) (mvT hZ (hwd 2 rfl)) (mvT hZ (hwd 217 rfl)) (by decide) (backOf (W := 0) (rmsame l Z A0 hw [] b41 b42 ((((0 : Int32) + o5) + (2 : Int32)) + o20) (own_cp (own_cp b21 0 (own_cp (own_li [58, 32]) 0 (own_cp b6 0 (fun _ => (0 : Int32)) 0 (o5).toNatClampNeg) (((0 : Int32) + o5)).toNatClampNeg 2) ((((0 : Int32) + o5) + (2 : Int32))).toNatClampNeg (o20).toNatClampNeg) 0 (fun _ => (0 : Int32)) 0 (((((0 : Int32) + o5) + (2 : Int32)) + o20)).toNatClampNeg) f_CS f_SF b40 (7 : Int32) p0 p1 T38.heap n0 Z38 F49 F50 F51 F54 F61 hn_CS F64 hr_f_SF (show ¬ ((7 : Int32) < (0 : Int32)) by decide)) hZ (hwd 217 rfl) (hwd 2 rfl) (by decide) (by decide)) (g := (mkF m 155 #[vI p0, vI p1, vR b2, vR b17, vR b39, vR b40, vI v59, vI v60] [(.int p1), (.int p0), (.int (7 : Int32)), (.ref b40)])) rfl (by rw [hml]; rfl) (argsL := [(.ref b40), (.int (7 : Int32)), (.int p0), (.int p1)]) (rest := []) (lenOf pd_215 rfl) rfl (by show 2 * 0 + _ ≤ _; exact Nat.le_of_eq rfl) (hb hby at_155) (fun _ _ => ⟨rfl, eq89, (by decide : 20 + 0 ≤ _), (by decide : 2834 + 0 ≤ _)⟩)
         dsimp only [Pt.U, Pt.locs, Pt.cells, Pt.slots] at X93 l93 y93 z93 st93 hQ93
         subst l93 y93 z93
         obtain ⟨o94, rfl, Nq93, eq93, hp95⟩ := hQ93
         have N93 := Fr.app N89 Nq93
         refine own_by st93 ?_
         show own_Go p e below _ (T93.setTop (mkF m 158 #[vI p0, vI p1, vR b2, vR b17, vR b39, vR b40, vI v59, vI v60] [(.int o94)]))
         by_cases c96 : o94 = (0 : Int32)
         ·skip
          refine own_by (fun _ k => XS.ifYes X93.here hx rfl (pc0 := 158) (pc' := 165) rfl (hb hby at_158) rfl ((if0 _ _).trans (teq c96).1) (by decide) (by decide) k) ?_
          show own_Go p e below _ (T93.setTop (mkF m 165 #[vI p0, vI p1, vR b2, vR b17, vR b39, vR b40, vI v59, vI v60] []))
          refine own_by (fun _ k => XS.iconst X93.here hx rfl (hb hby at_165) k) ?_
          exact own_retNW X93 hx hS hk38 hZ hEL hh CR38 (t := .boolean) Bd.returns (by simp) (hb hby at_166) hlk eq93 ⟨((ob_0_42 f_CS f_SF f_SS p0 p1 o5 b6 o20 b21 v59 v60 o66 o70 o74 o78 o82 o86 o90 o94 hn_CS hr_f_SF hr_f_SS hp14 hp29 hv59 hv60 c63 hp67 c68 hp71 c72 hp75 c76 hp79 c80 hp83 c84 hp87 c88 hp91 c92 hp95 c96)).elim, N93⟩ (by decide) (by decide)
         ·skip
          refine own_by (fun _ k => XS.ifNo X93.here hx rfl (hb hby at_158) rfl ((if0 _ _).trans (feq c96).1) k) ?_
          show own_Go p e below _ (T93.setTop (mkF m 161 #[vI p0, vI p1, vR b2, vR b17, vR b39, vR b40, vI v59, vI v60] []))
          refine own_by (fun _ k => XS.iconst X93.here hx rfl (hb hby at_161) k) ?_
          refine own_by (fun _ k => XS.goto X93.here hx rfl (pc0 := 162) (pc' := 166) rfl (hb hby at_162) (by decide) (by decide) k) ?_
          show own_Go p e below _ (T93.setTop (mkF m 166 #[vI p0, vI p1, vR b2, vR b17, vR b39, vR b40, vI v59, vI v60] [(.int (1 : Int32))]))
          exact own_retNW X93 hx hS hk38 hZ hEL hh CR38 (t := .boolean) Bd.returns (by simp) (hb hby at_166) hlk eq93 ⟨rfl, N93⟩ (by decide) (by decide)
 ·skip
  refine own_by (fun _ k => XS.icmpNo X62.here hx rfl (hb hby at_66) rfl (feq c63).1 k) ?_
  show own_Go p e below _ (T62.setTop (mkF m 69 #[vI p0, vI p1, vR b2, vR b17, vR b39, vR b40, vI v59, vI v60] []))
  refine own_by (fun _ k => XS.iconst X62.here hx rfl (hb hby at_69) k) ?_
  exact own_retNW X62 hx hS hk38 hZ hEL hh CR38 (t := .boolean) Bd.returns (by simp) (hb hby at_70) hlk eq62 ⟨((ob_0_43 f_CS f_SF f_SS p0 p1 o5 b6 o20 b21 v59 v60 hn_CS hr_f_SF hr_f_SS hp14 hp29 hv59 hv60 c63)).elim, N62⟩ (by decide) (by decide)
set_option maxRecDepth 65536 in
set_option maxHeartbeats 40000000 in
theorem comes_1 {Post : Tables → Env → Array Value → State → Outcome → State → Prop} (hpost : ∀ tb e args s v u, (limb_1_1.after args s (.returned v) u = true ∧ limb_1_2.after args s (.returned v) u = true ∧ True) → ReturnedEndW s (.returned v) u (Jvm.fieldLocs frame_1_writes args s ++ Jvm.arrayLocs frame_1_arrays args s ++ Jvm.staticLocs frame_1_statics s) 40 7744 → Post tb e args s (.returned v) u) :
    ArmFor flags0 classFile x code maxLocals ret World_1 tables_1 room_1 Calls_1 rest_1 Pre_1 Post := by
  intro l hfl _ _ p e ha hc hk s m args below hf hA hF happ hP
  obtain ⟨hcalls, hrest, hpre⟩ := hP
  obtain ⟨-, -, -, hnamed, -, -, -, hat⟩ := (Spec.applies_iff hf).mp happ
  obtain ⟨hg, hn⟩ := and_e (Cond.before_iff.mp (show (Jvm.Cond.and given_1 narrow_1).before args s = true from hpre))
  obtain ⟨g0, r0⟩ := and_e hg
  obtain ⟨ga0, r1⟩ := and_e r0
  obtain ⟨w0, w1, rfl⟩ : ∃ w0 w1 : Value, args = #[w0, w1] := by
    have hs : args.size = 2 := by simpa [Cond.value, given_1] using g0
    obtain ⟨L⟩ := args
    match L, hs with
    | [w0, w1], _ => exact ⟨w0, w1, rfl⟩
  have hw := fun d (hd : d ∈ tables_1) => atoms_spec (ws := Jvm.Cond.code x code maxLocals ret :: tables_1) hat d (List.mem_cons_of_mem _ hd)
  have hwd := fun i {d : Jvm.Cond} (h : tables_1[i]? = some d) => hw d (List.mem_of_getElem? h)
  have hfit : Fit s := fun {y c} hc i hi => by
    obtain ⟨ha, rfl⟩ := Array.getElem?_eq_some_iff.mp hc
    have q := List.all_eq_true.mp ((Array.all_eq_true_iff_forall_mem.mp hF) _ (Array.getElem_mem ha)) i (List.mem_range.mpr hi)
    simpa [Array.getElem?_eq_getElem hi] using q
  obtain ⟨i0, ei0⟩ := is_v ga0
  obtain rfl : w0 = (.int i0) := Option.some.inj ei0
  obtain ⟨i1, ei1⟩ := is_v r1
  obtain rfl : w1 = (.int i1) := Option.some.inj ei1
  obtain ⟨hsets, hown0⟩ := atoms_of _ (rest_1_c_eq ▸ (show rest_1_c.before _ s = true from hrest))
  have se0 := hsets _ (List.mem_of_getElem? (i := 0) rfl)
  have se1 := hsets _ (List.mem_of_getElem? (i := 1) rfl)
  have se2 := hsets _ (List.mem_of_getElem? (i := 2) rfl)
  have se7 := hsets _ (List.mem_of_getElem? (i := 7) rfl)
  have se8 := hsets _ (List.mem_of_getElem? (i := 8) rfl)
  have se15 := hsets _ (List.mem_of_getElem? (i := 15) rfl)
  have se17 := hsets _ (List.mem_of_getElem? (i := 17) rfl)
  have se20 := hsets _ (List.mem_of_getElem? (i := 20) rfl)
  have se21 := hsets _ (List.mem_of_getElem? (i := 21) rfl)
  obtain ⟨f_CS, ev0⟩ := is_v (Cond.before_iff.mp se1)
  have hcw : Jvm.Lit.compactW.before _ s = true := se2
  have hn_CS : ¬ (f_CS = (0 : Int32)) := own_ne0 (Cond.before_iff.mp se2) ev0
  obtain ⟨f_SF, ev1, hr_SF⟩ := own_refV (Cond.before_iff.mp se8)
  obtain ⟨f_US, ev2⟩ := own_arrRef (Cond.before_iff.mp se17)
  obtain ⟨f_SS, ev3, hr_SS⟩ := own_refV (Cond.before_iff.mp se21)
  have hC0 : CHv s consts_1 s.vm s.heap := CHv.start (own_EW hw) (fun q hq => hcalls.2.2.1 q hq) hcw (hwd 19 rfl) (hwd 5 rfl)
  obtain ⟨n, o, h1, h2, h3, _, L, rfl, ⟨rfl, N⟩, -, hq⟩ := rm0 l s _ hw tables_1 f_CS f_SF f_US f_SS i0 i1 s.heap s.heap.size (Nat.le_refl _) (Sta.start ev0 (Or.inl se0)) hn_CS (Sta.start ev1 (Or.inl se7)) hr_SF (Sta.start ev2 (Or.inl se15)) (Sta.start ev3 (Or.inl se20)) hr_SS ThS.start (by rw [Launch.stackTraces, hfl]; decide) p e ha hc hk s m _ below hf ((Spec.applies_iff_loose hf).mp happ).1 ⟨rfl, State.Warmed39.refl s, rfl, hC0⟩ ⟨MethodsKnown_of_tablesKnown hcalls.2.1, FramesKnown_of_framesKnown hcalls.1 hf⟩
  refine ⟨n, _, h1, h2, h3, hpost _ _ _ _ _ _ ⟨Cond.after_iff.mpr rfl, Cond.after_iff.mpr (eq_i res_at (Term.int_eval (1)) rfl), trivial⟩ ⟨hq.1, hq.2.1, hq.2.2.1, (hq.2.2.2.sift fun y hy => Or.inr (N y hy)).mono (by decide) (by decide)⟩⟩
theorem main_1_1 : Claimed_1_1 := comes_1 fun _ _ _ _ _ _ h hF => ⟨h.1, hF⟩
theorem main_1_2 : Claimed_1_2 := comes_1 fun _ _ _ _ _ _ h hF => ⟨h.2.1, hF⟩
end Jvm.Pilot.@@N@@
namespace Jvm.Pilot.@@N@@
open Jvm Jvm.ClassFile Sem Op Lib Jvm.Free Jvm.Stand Jvm.Pilot.@@N@@.Jvm.D
/-! MADE BY PROGRAM (witnessworld.py) out of the Statement's table words and the real class files: 44 classes; the members and pool entries that the words name. The judged class is class 1, her method 1. -/
namespace start1
open Jvm.ClassFile
def u (s : String) : CpInfo := .utf8 (stringToUtf16 s)
/-- a pool by its gaps: so many unusable entries, then the entry; so many at the end -/
def gap : Nat → List CpInfo → List CpInfo
  | 0, r => r
  | n + 1, r => .unusable :: gap n r
def poolList (es : List (Nat × CpInfo)) (last : Nat) : List CpInfo := es.foldr (fun e r => gap e.1 (e.2 :: r)) (gap last [])
def pool (es : List (Nat × CpInfo)) (last : Nat) : Array CpInfo := ⟨poolList es last⟩
def fileOf (pool : Array CpInfo) (this : Nat) (attrs : Array Attribute := #[]) (ms : Array MethodInfo := #[]) (fl : Nat := 33) (sup : Nat := 0) (ifs : Array Nat := #[]) (fds : Array FieldInfo := #[]) : ClassFile where
  minorVersion := 0
  majorVersion := 65
  constantPool := pool
  accessFlags := fl
  thisClass := this
  superClass := sup
  interfaces := ifs
  fields := fds
  methods := ms
  attributes := attrs
def plain (name : String) (sup : Option ClassId) : Class where
  name := name
  kind := .ordinary
  loader := none
  accessFlags := 33
  super := sup
  interfaces := #[]
  cf := none
  fields := #[]
  methods := #[]
  instanceTypes := #[]
  staticTypes := #[]
  resolved := #[]
  callSites := []
  init := .initialized
  statics := none
  mirror := none

def pool0 : Array CpInfo := pool [(5, u "<init>"), (0, u "()V"), (1, .class_ 10), (1, u "java/lang/Object")] 113

def k0c0 : Code := { maxStack := 0, maxLocals := 1, code := object_method_1_code, exceptionTable := #[], attributes := #[] }
def k0m0 : Method := { name := "<init>", desc := "()V", sig := { parameters := [], returnType := none }, accessFlags := 1, code := some k0c0 }
/-- java/lang/Object -/
def k0 : Class := { plain "java/lang/Object" none with
  accessFlags := 33
  interfaces := #[]
  cf := some (fileOf pool0 8 #[] #[{ accessFlags := 1, nameIndex := 5, descriptorIndex := 6, attributes := #[] }] 33 0 #[] #[])
  fields := #[]
  methods := #[k0m0]
  instanceTypes := #[]
  staticTypes := #[]
  resolved := Array.replicate 124 none
  statics := none }

def pool1 : Array CpInfo := pool [(2, .class_ 4), (1, u "java/lang/Object"), (0, u "<init>"), (0, u "()V"), (0, .methodref 8 9), (0, .class_ 10), (0, .nameAndType 11 12), (0, u "com/example/model_check_sql/modelchecksql/model/ModelReadingLocatedPinLaw"), (0, u "draw"), (0, u "(I)Ljava/lang/String;"), (0, .methodref 14 15), (0, .class_ 16), (0, .nameAndType 17 18), (0, u "com/example/model_check_sql/modelchecksql/model/ModelReading"), (0, u "located"), (0, u "(Ljava/lang/String;Ljava/lang/String;)Lcom/example/model_check_sql/modelchecksql/model/ModelFormatException;"), (0, .methodref 20 21), (0, .class_ 22), (0, .nameAndType 23 24), (0, u "com/example/model_check_sql/modelchecksql/model/ModelFormatException"), (0, u "getMessage"), (0, u "()Ljava/lang/String;"), (0, .methodref 26 27), (0, .class_ 28), (0, .nameAndType 29 30), (0, u "java/lang/String"), (0, u "length"), (0, u "()I"), (0, .methodref 8 32), (0, .nameAndType 33 34), (0, u "same"), (0, u "(Ljava/lang/String;III)Z"), (0, .methodref 26 36), (0, .nameAndType 5 37), (0, u "([C)V"), (0, .methodref 26 39), (0, .nameAndType 40 41), (0, u "charAt"), (0, u "(I)C"), (0, .methodref 8 43), (0, .nameAndType 44 45), (0, u "expected"), (0, u "(III)C"), (2, u "law"), (0, u "(II)Z")] 3

def k1m0 : Method := { name := "<init>", desc := "()V", sig := { parameters := [], returnType := none }, accessFlags := 2, code := none }
def k1c1 : Code := { maxStack := 4, maxLocals := 8, code := code, exceptionTable := #[], attributes := #[] }
def k1m1 : Method := { name := "law", desc := "(II)Z", sig := { parameters := [.int, .int], returnType := some .boolean }, accessFlags := 9, code := some k1c1 }
def k1c2 : Code := { maxStack := 6, maxLocals := 5, code := method_3_code, exceptionTable := #[], attributes := #[] }
def k1m2 : Method := { name := "draw", desc := "(I)Ljava/lang/String;", sig := { parameters := [.int], returnType := some (.object "java/lang/String") }, accessFlags := 10, code := some k1c2 }
def k1c3 : Code := { maxStack := 4, maxLocals := 4, code := method_4_code, exceptionTable := #[], attributes := #[] }
def k1m3 : Method := { name := "same", desc := "(Ljava/lang/String;III)Z", sig := { parameters := [(.object "java/lang/String"), .int, .int, .int], returnType := some .boolean }, accessFlags := 10, code := some k1c3 }
def k1c4 : Code := { maxStack := 3, maxLocals := 5, code := method_5_code, exceptionTable := #[], attributes := #[] }
def k1m4 : Method := { name := "expected", desc := "(III)C", sig := { parameters := [.int, .int, .int], returnType := some .char }, accessFlags := 10, code := some k1c4 }
/-- com/example/model_check_sql/modelchecksql/model/ModelReadingLocatedPinLaw -/
def k1 : Class := { plain "com/example/model_check_sql/modelchecksql/model/ModelReadingLocatedPinLaw" (some 0) with
  accessFlags := 49
  interfaces := #[]
  cf := some (fileOf pool1 8 #[] #[{ accessFlags := 2, nameIndex := 5, descriptorIndex := 6, attributes := #[] }, { accessFlags := 9, nameIndex := 48, descriptorIndex := 49, attributes := #[] }, { accessFlags := 10, nameIndex := 11, descriptorIndex := 12, attributes := #[] }, { accessFlags := 10, nameIndex := 33, descriptorIndex := 34, attributes := #[] }, { accessFlags := 10, nameIndex := 44, descriptorIndex := 45, attributes := #[] }] 49 2 #[] #[])
  fields := #[]
  methods := #[k1m0, k1m1, k1m2, k1m3, k1m4]
  instanceTypes := #[]
  staticTypes := #[]
  resolved := Array.replicate 53 none
  statics := none }

def pool2 : Array CpInfo := pool [(1, .class_ 2), (0, u "java/io/Serializable"), (0, .class_ 4), (0, u "java/lang/Object")] 2

/-- java/io/Serializable -/
def k2 : Class := { plain "java/io/Serializable" (some 0) with
  accessFlags := 1537
  interfaces := #[]
  cf := some (fileOf pool2 1 #[] #[] 1537 3 #[] #[])
  fields := #[]
  methods := #[]
  instanceTypes := #[]
  staticTypes := #[]
  resolved := Array.replicate 7 none
  statics := none }

def pool3 : Array CpInfo := pool [(1, .class_ 2), (0, u "java/lang/Comparable"), (0, .class_ 4), (0, u "java/lang/Object")] 7

/-- java/lang/Comparable -/
def k3 : Class := { plain "java/lang/Comparable" (some 0) with
  accessFlags := 1537
  interfaces := #[]
  cf := some (fileOf pool3 1 #[] #[] 1537 3 #[] #[])
  fields := #[]
  methods := #[]
  instanceTypes := #[]
  staticTypes := #[]
  resolved := Array.replicate 12 none
  statics := none }

def pool4 : Array CpInfo := pool [(2, .class_ 4), (1, u "java/lang/CharSequence"), (42, .class_ 48), (0, u "java/lang/CharSequence$1CodePointIterator"), (10, .class_ 60), (0, u "java/lang/CharSequence$1CharIterator"), (5, .class_ 67), (0, u "java/lang/Object")] 63

/-- java/lang/CharSequence -/
def k4 : Class := { plain "java/lang/CharSequence" (some 0) with
  accessFlags := 1537
  interfaces := #[]
  cf := some (fileOf pool4 2 #[.nestMembers #[47, 59]] #[] 1537 66 #[] #[])
  fields := #[]
  methods := #[]
  instanceTypes := #[]
  staticTypes := #[]
  resolved := Array.replicate 131 none
  statics := none }

def pool5 : Array CpInfo := pool [(1, .class_ 2), (0, u "java/lang/constant/Constable"), (0, .class_ 4), (0, u "java/lang/Object")] 6

/-- java/lang/constant/Constable -/
def k5 : Class := { plain "java/lang/constant/Constable" (some 0) with
  accessFlags := 1537
  interfaces := #[]
  cf := some (fileOf pool5 1 #[] #[] 1537 3 #[] #[])
  fields := #[]
  methods := #[]
  instanceTypes := #[]
  staticTypes := #[]
  resolved := Array.replicate 11 none
  statics := none }

def pool6 : Array CpInfo := pool [(1, .class_ 2), (0, u "java/lang/constant/ConstantDesc"), (0, .class_ 4), (0, u "java/lang/Object")] 32

/-- java/lang/constant/ConstantDesc -/
def k6 : Class := { plain "java/lang/constant/ConstantDesc" (some 0) with
  accessFlags := 1537
  interfaces := #[]
  cf := some (fileOf pool6 1 #[] #[] 1537 3 #[] #[])
  fields := #[]
  methods := #[]
  instanceTypes := #[]
  staticTypes := #[]
  resolved := Array.replicate 37 none
  statics := none }

def pool7 : Array CpInfo := pool [(1, .methodref 2 3), (0, .class_ 4), (0, .nameAndType 5 6), (0, u "java/lang/Object"), (0, u "<init>"), (0, u "()V"), (0, .string 8), (0, u ""), (0, .fieldref 10 11), (0, .class_ 12), (0, .nameAndType 13 14), (0, u "java/lang/String"), (0, u "value"), (0, u "[B"), (0, .fieldref 10 16), (0, .nameAndType 17 18), (0, u "coder"), (0, u "B"), (2, u "hash"), (0, u "I"), (2, u "hashIsZero"), (0, u "Z"), (0, .methodref 10 28), (0, .nameAndType 5 29), (0, u "([CIILjava/lang/Void;)V"), (8, .fieldref 10 39), (0, .nameAndType 40 26), (0, u "COMPACT_STRINGS"), (1, .class_ 44), (1, u "java/lang/StringUTF16"), (0, u "compress"), (1, .methodref 42 48), (0, .nameAndType 49 50), (0, u "coderFromArrayLen"), (0, u "([BI)B"), (3, .methodref 55 56), (0, .class_ 57), (0, .nameAndType 58 59), (0, u "java/util/Arrays"), (0, u "copyOfRange"), (0, u "([BII)[B"), (47, .class_ 109), (1, u "java/lang/StringLatin1"), (32, u "()Z"), (34, .methodref 42 178), (0, .nameAndType 45 179), (0, u "([CII)[B"), (13, .class_ 195), (1, u "java/lang/System"), (16, .methodref 193 213), (0, .nameAndType 214 215), (0, u "arraycopy"), (0, u "(Ljava/lang/Object;ILjava/lang/Object;II)V"), (118, u "()I"), (0, .methodref 10 336), (0, .nameAndType 17 337), (0, u "()B"), (2, u "()[B"), (22, u "([BI)C"), (27, u "(II)V"), (35, u "(I)C"), (61, .methodref 10 490), (0, .nameAndType 5 491), (0, u "(Ljava/lang/AbstractStringBuilder;Ljava/lang/Void;)V"), (0, .methodref 10 493), (0, .nameAndType 494 142), (0, u "isLatin1"), (0, .methodref 107 496), (0, .nameAndType 497 363), (0, u "charAt"), (3, u "checkIndex"), (4, .nameAndType 507 334), (0, u "length"), (24, u "getBytes"), (16, .methodref 550 506), (0, .class_ 551), (0, u "java/lang/AbstractStringBuilder"), (0, .methodref 550 553), (0, .nameAndType 554 340), (0, u "getValue"), (20, .class_ 576), (0, u "java/lang/CharSequence"), (22, u "CASE_INSENSITIVE_ORDER"), (0, u "Ljava/util/Comparator;"), (220, u "([BIB)V"), (188, u "([C)V"), (36, .methodref 550 493), (5, .fieldref 1054 1055), (0, .class_ 1056), (0, .nameAndType 1057 1058), (0, u "jdk/internal/util/Preconditions"), (0, u "SIOOBE_FORMATTER"), (0, u "Ljava/util/function/BiFunction;"), (0, .methodref 1054 1060), (0, .nameAndType 501 1061), (0, u "(IILjava/util/function/BiFunction;)I"), (39, u "serialPersistentFields"), (0, u "[Ljava/io/ObjectStreamField;"), (0, .class_ 1104), (0, u "java/lang/String$CaseInsensitiveComparator"), (1, .class_ 1107), (0, u "java/io/Serializable"), (0, .class_ 1109), (0, u "java/lang/Comparable"), (0, .class_ 1111), (0, u "java/lang/constant/Constable"), (0, .class_ 1113), (0, u "java/lang/constant/ConstantDesc"), (2, u "serialVersionUID"), (0, u "J"), (3, u "REPL"), (0, u "C"), (2, u "LATIN1"), (1, u "UTF16"), (105, u "(Ljava/lang/StringBuilder;)V")] 217

def k7m0 : Method := { name := "<init>", desc := "()V", sig := { parameters := [], returnType := none }, accessFlags := 1, code := none }
def k7c1 : Code := { maxStack := 5, maxLocals := 2, code := jdk_42_method_3_code, exceptionTable := #[], attributes := #[] }
def k7m1 : Method := { name := "<init>", desc := "([C)V", sig := { parameters := [(.array .char)], returnType := none }, accessFlags := 1, code := some k7c1 }
def k7c2 : Code := { maxStack := 3, maxLocals := 2, code := jdk_42_method_53_code, exceptionTable := #[], attributes := #[] }
def k7m2 : Method := { name := "<init>", desc := "(Ljava/lang/StringBuilder;)V", sig := { parameters := [(.object "java/lang/StringBuilder")], returnType := none }, accessFlags := 1, code := some k7c2 }
def k7c3 : Code := { maxStack := 2, maxLocals := 1, code := jdk_42_method_54_code, exceptionTable := #[], attributes := #[] }
def k7m3 : Method := { name := "length", desc := "()I", sig := { parameters := [], returnType := some .int }, accessFlags := 1, code := some k7c3 }
def k7c4 : Code := { maxStack := 2, maxLocals := 2, code := jdk_42_method_56_code, exceptionTable := #[], attributes := #[] }
def k7m4 : Method := { name := "charAt", desc := "(I)C", sig := { parameters := [.int], returnType := some .char }, accessFlags := 1, code := some k7c4 }
def k7c5 : Code := { maxStack := 5, maxLocals := 4, code := jdk_42_method_147_code, exceptionTable := #[], attributes := #[] }
def k7m5 : Method := { name := "getBytes", desc := "([BIB)V", sig := { parameters := [(.array .byte), .int, .byte], returnType := none }, accessFlags := 0, code := some k7c5 }
def k7c6 : Code := { maxStack := 4, maxLocals := 6, code := jdk_42_method_149_code, exceptionTable := #[], attributes := #[] }
def k7m6 : Method := { name := "<init>", desc := "([CIILjava/lang/Void;)V", sig := { parameters := [(.array .char), .int, .int, (.object "java/lang/Void")], returnType := none }, accessFlags := 2, code := some k7c6 }
def k7c7 : Code := { maxStack := 5, maxLocals := 5, code := jdk_42_method_150_code, exceptionTable := #[], attributes := #[] }
def k7m7 : Method := { name := "<init>", desc := "(Ljava/lang/AbstractStringBuilder;Ljava/lang/Void;)V", sig := { parameters := [(.object "java/lang/AbstractStringBuilder"), (.object "java/lang/Void")], returnType := none }, accessFlags := 0, code := some k7c7 }
def k7c8 : Code := { maxStack := 1, maxLocals := 1, code := jdk_42_method_152_code, exceptionTable := #[], attributes := #[] }
def k7m8 : Method := { name := "coder", desc := "()B", sig := { parameters := [], returnType := some .byte }, accessFlags := 0, code := some k7c8 }
def k7c9 : Code := { maxStack := 1, maxLocals := 1, code := jdk_42_method_154_code, exceptionTable := #[], attributes := #[] }
def k7m9 : Method := { name := "isLatin1", desc := "()Z", sig := { parameters := [], returnType := some .boolean }, accessFlags := 0, code := some k7c9 }
def k7c10 : Code := { maxStack := 3, maxLocals := 2, code := jdk_42_method_155_code, exceptionTable := #[], attributes := #[] }
def k7m10 : Method := { name := "checkIndex", desc := "(II)V", sig := { parameters := [.int, .int], returnType := none }, accessFlags := 8, code := some k7c10 }
/-- java/lang/String -/
def k7 : Class := { plain "java/lang/String" (some 0) with
  accessFlags := 49
  interfaces := #[2, 3, 4, 5, 6]
  cf := some (fileOf pool7 10 #[.nestMembers #[1103]] #[{ accessFlags := 1, nameIndex := 5, descriptorIndex := 6, attributes := #[] }, { accessFlags := 1, nameIndex := 5, descriptorIndex := 1010, attributes := #[] }, { accessFlags := 1, nameIndex := 5, descriptorIndex := 1233, attributes := #[] }, { accessFlags := 1, nameIndex := 507, descriptorIndex := 334, attributes := #[] }, { accessFlags := 1, nameIndex := 497, descriptorIndex := 427, attributes := #[] }, { accessFlags := 0, nameIndex := 532, descriptorIndex := 821, attributes := #[] }, { accessFlags := 2, nameIndex := 5, descriptorIndex := 29, attributes := #[] }, { accessFlags := 0, nameIndex := 5, descriptorIndex := 491, attributes := #[] }, { accessFlags := 0, nameIndex := 17, descriptorIndex := 337, attributes := #[] }, { accessFlags := 0, nameIndex := 494, descriptorIndex := 142, attributes := #[] }, { accessFlags := 8, nameIndex := 501, descriptorIndex := 391, attributes := #[] }] 49 2 #[1106, 1108, 575, 1110, 1112] #[{ accessFlags := 18, nameIndex := 13, descriptorIndex := 14, attributes := #[] }, { accessFlags := 18, nameIndex := 17, descriptorIndex := 18, attributes := #[] }, { accessFlags := 2, nameIndex := 21, descriptorIndex := 22, attributes := #[] }, { accessFlags := 2, nameIndex := 25, descriptorIndex := 26, attributes := #[] }, { accessFlags := 26, nameIndex := 1116, descriptorIndex := 1117, attributes := #[] }, { accessFlags := 24, nameIndex := 40, descriptorIndex := 26, attributes := #[] }, { accessFlags := 26, nameIndex := 1101, descriptorIndex := 1102, attributes := #[] }, { accessFlags := 26, nameIndex := 1121, descriptorIndex := 1122, attributes := #[] }, { accessFlags := 25, nameIndex := 599, descriptorIndex := 600, attributes := #[] }, { accessFlags := 24, nameIndex := 1125, descriptorIndex := 18, attributes := #[] }, { accessFlags := 24, nameIndex := 1127, descriptorIndex := 18, attributes := #[] }])
  fields := #[{ name := "value", type := (.array .byte), accessFlags := 18, slot := 0, constantValue := 0 }, { name := "coder", type := .byte, accessFlags := 18, slot := 1, constantValue := 0 }, { name := "hash", type := .int, accessFlags := 2, slot := 2, constantValue := 0 }, { name := "hashIsZero", type := .boolean, accessFlags := 2, slot := 3, constantValue := 0 }, { name := "serialVersionUID", type := .long, accessFlags := 26, slot := 0, constantValue := 0 }, { name := "COMPACT_STRINGS", type := .boolean, accessFlags := 24, slot := 1, constantValue := 0 }, { name := "serialPersistentFields", type := (.array (.object "java/io/ObjectStreamField")), accessFlags := 26, slot := 2, constantValue := 0 }, { name := "REPL", type := .char, accessFlags := 26, slot := 3, constantValue := 0 }, { name := "CASE_INSENSITIVE_ORDER", type := (.object "java/util/Comparator"), accessFlags := 25, slot := 4, constantValue := 0 }, { name := "LATIN1", type := .byte, accessFlags := 24, slot := 5, constantValue := 0 }, { name := "UTF16", type := .byte, accessFlags := 24, slot := 6, constantValue := 0 }]
  methods := #[k7m0, k7m1, k7m2, k7m3, k7m4, k7m5, k7m6, k7m7, k7m8, k7m9, k7m10]
  instanceTypes := #[(.array .byte), .byte, .int, .boolean]
  staticTypes := #[.long, .boolean, (.array (.object "java/io/ObjectStreamField")), .char, (.object "java/util/Comparator"), .byte, .byte]
  resolved := Array.replicate 1451 none
  statics := some 0 }

def pool8 : Array CpInfo := pool [(2, .class_ 4), (0, .nameAndType 5 6), (0, u "java/lang/Object"), (0, u "<init>"), (0, u "()V"), (1, .class_ 10), (1, u "com/example/model_check_sql/modelchecksql/model/ModelReading$Rows"), (7, .class_ 20), (1, u "com/example/model_check_sql/modelchecksql/model/ModelReading$Receiver"), (2, .class_ 24), (0, u "com/example/model_check_sql/modelchecksql/model/ModelFormatException"), (1, .class_ 28), (1, u "com/example/model_check_sql/modelchecksql/model/ModelReading"), (3, .class_ 34), (1, u "com/example/model_check_sql/modelchecksql/model/ModelReading$Check"), (5, .class_ 42), (1, u "com/example/model_check_sql/modelchecksql/model/ModelReading$Locator"), (5, u "()Ljava/lang/String;"), (2, u "located"), (0, u "(Ljava/lang/String;Ljava/lang/String;)Lcom/example/model_check_sql/modelchecksql/model/ModelFormatException;"), (15, .nameAndType 70 48), (1, u "toString"), (11, .class_ 83), (0, u "java/lang/StringBuilder"), (0, .methodref 82 3), (0, .methodref 82 86), (0, .nameAndType 87 88), (0, u "append"), (0, u "(Ljava/lang/String;)Ljava/lang/StringBuilder;"), (2, .methodref 82 68), (0, .methodref 23 93), (0, .nameAndType 5 94), (0, u "(Ljava/lang/String;)V"), (0, .string 96), (0, u ": ")] 25

def k8m0 : Method := { name := "<init>", desc := "()V", sig := { parameters := [], returnType := none }, accessFlags := 2, code := none }
def k8c1 : Code := { maxStack := 4, maxLocals := 2, code := prog_21_method_6_code, exceptionTable := #[], attributes := #[] }
def k8m1 : Method := { name := "located", desc := "(Ljava/lang/String;Ljava/lang/String;)Lcom/example/model_check_sql/modelchecksql/model/ModelFormatException;", sig := { parameters := [(.object "java/lang/String"), (.object "java/lang/String")], returnType := some (.object "com/example/model_check_sql/modelchecksql/model/ModelFormatException") }, accessFlags := 8, code := some k8c1 }
/-- com/example/model_check_sql/modelchecksql/model/ModelReading -/
def k8 : Class := { plain "com/example/model_check_sql/modelchecksql/model/ModelReading" (some 0) with
  accessFlags := 32
  interfaces := #[]
  cf := some (fileOf pool8 26 #[.nestMembers #[40, 32, 18, 8]] #[{ accessFlags := 2, nameIndex := 5, descriptorIndex := 6, attributes := #[] }, { accessFlags := 8, nameIndex := 51, descriptorIndex := 52, attributes := #[] }] 32 2 #[] #[])
  fields := #[]
  methods := #[k8m0, k8m1]
  instanceTypes := #[]
  staticTypes := #[]
  resolved := Array.replicate 122 none
  statics := none }

def pool9 : Array CpInfo := pool [(1, .methodref 2 3), (0, .class_ 4), (0, .nameAndType 5 6), (0, u "java/lang/Object"), (0, u "<init>"), (0, u "()V"), (0, .fieldref 8 9), (0, .class_ 10), (0, .nameAndType 11 12), (0, u "java/lang/Throwable"), (0, u "cause"), (0, u "Ljava/lang/Throwable;"), (0, .fieldref 8 14), (0, .nameAndType 15 16), (0, u "UNASSIGNED_STACK"), (0, u "[Ljava/lang/StackTraceElement;"), (0, .fieldref 8 18), (0, .nameAndType 19 16), (0, u "stackTrace"), (0, .fieldref 8 21), (0, .nameAndType 22 23), (0, u "SUPPRESSED_SENTINEL"), (0, u "Ljava/util/List;"), (0, .fieldref 8 25), (0, .nameAndType 26 23), (0, u "suppressedExceptions"), (0, .methodref 8 28), (0, .nameAndType 29 30), (0, u "fillInStackTrace"), (0, u "()Ljava/lang/Throwable;"), (0, .fieldref 8 32), (0, .nameAndType 33 34), (0, u "detailMessage"), (0, u "Ljava/lang/String;"), (3, u "()Ljava/lang/String;"), (2, u "getMessage"), (51, .class_ 94), (0, u "java/lang/Throwable$WrappedPrintStream"), (6, .class_ 103), (1, u "java/lang/Throwable$PrintStreamOrWriter"), (61, u "$assertionsDisabled"), (0, u "Z"), (26, .class_ 194), (0, u "java/lang/Throwable$WrappedPrintWriter"), (3, .fieldref 8 199), (0, .nameAndType 200 201), (0, u "backtrace"), (0, u "Ljava/lang/Object;"), (0, .methodref 8 203), (0, .nameAndType 29 204), (0, u "(I)Ljava/lang/Throwable;"), (6, u "depth"), (0, u "I"), (10, u "(Ljava/lang/String;)V"), (45, .class_ 271), (1, u "java/lang/Throwable$SentinelHolder"), (32, u "EMPTY_THROWABLE_ARRAY"), (0, u "[Ljava/lang/Throwable;"), (12, .class_ 319), (0, u "java/io/Serializable"), (0, u "serialVersionUID"), (0, u "J"), (5, u "NULL_CAUSE_MESSAGE"), (0, u "SELF_SUPPRESSION_MESSAGE"), (0, u "CAUSE_CAPTION"), (0, u "SUPPRESSED_CAPTION")] 73

def k9c0 : Code := { maxStack := 2, maxLocals := 1, code := jdk_78_method_1_code, exceptionTable := #[], attributes := #[] }
def k9m0 : Method := { name := "<init>", desc := "()V", sig := { parameters := [], returnType := none }, accessFlags := 1, code := some k9c0 }
def k9c1 : Code := { maxStack := 2, maxLocals := 2, code := jdk_78_method_2_code, exceptionTable := #[], attributes := #[] }
def k9m1 : Method := { name := "<init>", desc := "(Ljava/lang/String;)V", sig := { parameters := [(.object "java/lang/String")], returnType := none }, accessFlags := 1, code := some k9c1 }
def k9c2 : Code := { maxStack := 1, maxLocals := 1, code := jdk_78_method_6_code, exceptionTable := #[], attributes := #[] }
def k9m2 : Method := { name := "getMessage", desc := "()Ljava/lang/String;", sig := { parameters := [], returnType := some (.object "java/lang/String") }, accessFlags := 1, code := some k9c2 }
def k9c3 : Code := { maxStack := 2, maxLocals := 1, code := ⟨#[0x2a, 0xb4, 0x00, 0x11, 0xc7, 0x00, 0x0a, 0x2a, 0xb4, 0x00, 0xc6, 0xc6, 0x00, 0x10, 0x2a, 0x03, 0xb6, 0x00, 0xca, 0x57, 0x2a, 0xb2, 0x00, 0x0d, 0xb5, 0x00, 0x11, 0x2a, 0xb0]⟩, exceptionTable := #[], attributes := #[] }
def k9m3 : Method := { name := "fillInStackTrace", desc := "()Ljava/lang/Throwable;", sig := { parameters := [], returnType := some (.object "java/lang/Throwable") }, accessFlags := 33, code := some k9c3 }
def k9m4 : Method := { name := "fillInStackTrace", desc := "(I)Ljava/lang/Throwable;", sig := { parameters := [.int], returnType := some (.object "java/lang/Throwable") }, accessFlags := 258, code := none }
/-- java/lang/Throwable -/
def k9 : Class := { plain "java/lang/Throwable" (some 0) with
  accessFlags := 33
  interfaces := #[2]
  cf := some (fileOf pool9 8 #[.nestMembers #[193, 93, 101, 269]] #[{ accessFlags := 1, nameIndex := 5, descriptorIndex := 6, attributes := #[] }, { accessFlags := 1, nameIndex := 5, descriptorIndex := 223, attributes := #[] }, { accessFlags := 1, nameIndex := 41, descriptorIndex := 38, attributes := #[] }, { accessFlags := 33, nameIndex := 29, descriptorIndex := 30, attributes := #[] }, { accessFlags := 258, nameIndex := 29, descriptorIndex := 204, attributes := #[] }] 33 2 #[318] #[{ accessFlags := 26, nameIndex := 320, descriptorIndex := 321, attributes := #[] }, { accessFlags := 130, nameIndex := 200, descriptorIndex := 201, attributes := #[] }, { accessFlags := 2, nameIndex := 33, descriptorIndex := 34, attributes := #[] }, { accessFlags := 26, nameIndex := 15, descriptorIndex := 16, attributes := #[] }, { accessFlags := 2, nameIndex := 11, descriptorIndex := 12, attributes := #[] }, { accessFlags := 2, nameIndex := 19, descriptorIndex := 16, attributes := #[] }, { accessFlags := 130, nameIndex := 211, descriptorIndex := 212, attributes := #[] }, { accessFlags := 26, nameIndex := 22, descriptorIndex := 23, attributes := #[] }, { accessFlags := 2, nameIndex := 26, descriptorIndex := 23, attributes := #[] }, { accessFlags := 26, nameIndex := 327, descriptorIndex := 34, attributes := #[] }, { accessFlags := 26, nameIndex := 328, descriptorIndex := 34, attributes := #[] }, { accessFlags := 26, nameIndex := 329, descriptorIndex := 34, attributes := #[] }, { accessFlags := 26, nameIndex := 330, descriptorIndex := 34, attributes := #[] }, { accessFlags := 26, nameIndex := 304, descriptorIndex := 305, attributes := #[] }, { accessFlags := 4120, nameIndex := 165, descriptorIndex := 166, attributes := #[] }])
  fields := #[{ name := "serialVersionUID", type := .long, accessFlags := 26, slot := 0, constantValue := 0 }, { name := "backtrace", type := (.object "java/lang/Object"), accessFlags := 130, slot := 0, constantValue := 0 }, { name := "detailMessage", type := (.object "java/lang/String"), accessFlags := 2, slot := 1, constantValue := 0 }, { name := "UNASSIGNED_STACK", type := (.array (.object "java/lang/StackTraceElement")), accessFlags := 26, slot := 1, constantValue := 0 }, { name := "cause", type := (.object "java/lang/Throwable"), accessFlags := 2, slot := 2, constantValue := 0 }, { name := "stackTrace", type := (.array (.object "java/lang/StackTraceElement")), accessFlags := 2, slot := 3, constantValue := 0 }, { name := "depth", type := .int, accessFlags := 130, slot := 4, constantValue := 0 }, { name := "SUPPRESSED_SENTINEL", type := (.object "java/util/List"), accessFlags := 26, slot := 2, constantValue := 0 }, { name := "suppressedExceptions", type := (.object "java/util/List"), accessFlags := 2, slot := 5, constantValue := 0 }, { name := "NULL_CAUSE_MESSAGE", type := (.object "java/lang/String"), accessFlags := 26, slot := 3, constantValue := 0 }, { name := "SELF_SUPPRESSION_MESSAGE", type := (.object "java/lang/String"), accessFlags := 26, slot := 4, constantValue := 0 }, { name := "CAUSE_CAPTION", type := (.object "java/lang/String"), accessFlags := 26, slot := 5, constantValue := 0 }, { name := "SUPPRESSED_CAPTION", type := (.object "java/lang/String"), accessFlags := 26, slot := 6, constantValue := 0 }, { name := "EMPTY_THROWABLE_ARRAY", type := (.array (.object "java/lang/Throwable")), accessFlags := 26, slot := 7, constantValue := 0 }, { name := "$assertionsDisabled", type := .boolean, accessFlags := 4120, slot := 8, constantValue := 0 }]
  methods := #[k9m0, k9m1, k9m2, k9m3, k9m4]
  instanceTypes := #[(.object "java/lang/Object"), (.object "java/lang/String"), (.object "java/lang/Throwable"), (.array (.object "java/lang/StackTraceElement")), .int, (.object "java/util/List")]
  staticTypes := #[.long, (.array (.object "java/lang/StackTraceElement")), (.object "java/util/List"), (.object "java/lang/String"), (.object "java/lang/String"), (.object "java/lang/String"), (.object "java/lang/String"), (.array (.object "java/lang/Throwable")), .boolean]
  resolved := Array.replicate 404 none
  statics := some 1 }

def pool10 : Array CpInfo := pool [(2, .class_ 4), (1, u "java/lang/Throwable"), (0, u "<init>"), (0, u "()V"), (0, .methodref 2 8), (0, .nameAndType 5 9), (0, u "(Ljava/lang/String;)V"), (9, .class_ 20), (0, u "java/lang/Exception"), (0, u "serialVersionUID"), (0, u "J")] 17

def k10m0 : Method := { name := "<init>", desc := "()V", sig := { parameters := [], returnType := none }, accessFlags := 1, code := none }
def k10c1 : Code := { maxStack := 2, maxLocals := 2, code := jdk_59_method_2_code, exceptionTable := #[], attributes := #[] }
def k10m1 : Method := { name := "<init>", desc := "(Ljava/lang/String;)V", sig := { parameters := [(.object "java/lang/String")], returnType := none }, accessFlags := 1, code := some k10c1 }
/-- java/lang/Exception -/
def k10 : Class := { plain "java/lang/Exception" (some 9) with
  accessFlags := 33
  interfaces := #[]
  cf := some (fileOf pool10 19 #[] #[{ accessFlags := 1, nameIndex := 5, descriptorIndex := 6, attributes := #[] }, { accessFlags := 1, nameIndex := 5, descriptorIndex := 9, attributes := #[] }] 33 2 #[] #[{ accessFlags := 24, nameIndex := 21, descriptorIndex := 22, attributes := #[] }])
  fields := #[{ name := "serialVersionUID", type := .long, accessFlags := 24, slot := 0, constantValue := 0 }]
  methods := #[k10m0, k10m1]
  instanceTypes := #[(.object "java/lang/Object"), (.object "java/lang/String"), (.object "java/lang/Throwable"), (.array (.object "java/lang/StackTraceElement")), .int, (.object "java/util/List")]
  staticTypes := #[.long]
  resolved := Array.replicate 40 none
  statics := none }

def pool11 : Array CpInfo := pool [(2, .class_ 4), (1, u "java/lang/Exception"), (0, u "<init>"), (0, u "()V"), (0, .methodref 2 8), (0, .nameAndType 5 9), (0, u "(Ljava/lang/String;)V"), (9, .class_ 20), (0, u "java/lang/RuntimeException"), (0, u "serialVersionUID"), (0, u "J")] 17

def k11m0 : Method := { name := "<init>", desc := "()V", sig := { parameters := [], returnType := none }, accessFlags := 1, code := none }
def k11c1 : Code := { maxStack := 2, maxLocals := 2, code := jdk_58_method_2_code, exceptionTable := #[], attributes := #[] }
def k11m1 : Method := { name := "<init>", desc := "(Ljava/lang/String;)V", sig := { parameters := [(.object "java/lang/String")], returnType := none }, accessFlags := 1, code := some k11c1 }
/-- java/lang/RuntimeException -/
def k11 : Class := { plain "java/lang/RuntimeException" (some 10) with
  accessFlags := 33
  interfaces := #[]
  cf := some (fileOf pool11 19 #[] #[{ accessFlags := 1, nameIndex := 5, descriptorIndex := 6, attributes := #[] }, { accessFlags := 1, nameIndex := 5, descriptorIndex := 9, attributes := #[] }] 33 2 #[] #[{ accessFlags := 24, nameIndex := 21, descriptorIndex := 22, attributes := #[] }])
  fields := #[{ name := "serialVersionUID", type := .long, accessFlags := 24, slot := 0, constantValue := 0 }]
  methods := #[k11m0, k11m1]
  instanceTypes := #[(.object "java/lang/Object"), (.object "java/lang/String"), (.object "java/lang/Throwable"), (.array (.object "java/lang/StackTraceElement")), .int, (.object "java/util/List")]
  staticTypes := #[.long]
  resolved := Array.replicate 40 none
  statics := none }

def pool12 : Array CpInfo := pool [(2, .class_ 4), (1, u "java/lang/RuntimeException"), (0, u "<init>"), (0, u "()V"), (0, .methodref 2 8), (0, .nameAndType 5 9), (0, u "(Ljava/lang/String;)V"), (6, .class_ 17), (0, u "java/lang/IllegalArgumentException"), (0, u "serialVersionUID"), (0, u "J")] 15

def k12m0 : Method := { name := "<init>", desc := "()V", sig := { parameters := [], returnType := none }, accessFlags := 1, code := none }
def k12c1 : Code := { maxStack := 2, maxLocals := 2, code := jdk_57_method_2_code, exceptionTable := #[], attributes := #[] }
def k12m1 : Method := { name := "<init>", desc := "(Ljava/lang/String;)V", sig := { parameters := [(.object "java/lang/String")], returnType := none }, accessFlags := 1, code := some k12c1 }
/-- java/lang/IllegalArgumentException -/
def k12 : Class := { plain "java/lang/IllegalArgumentException" (some 11) with
  accessFlags := 33
  interfaces := #[]
  cf := some (fileOf pool12 16 #[] #[{ accessFlags := 1, nameIndex := 5, descriptorIndex := 6, attributes := #[] }, { accessFlags := 1, nameIndex := 5, descriptorIndex := 9, attributes := #[] }] 33 2 #[] #[{ accessFlags := 26, nameIndex := 18, descriptorIndex := 19, attributes := #[] }])
  fields := #[{ name := "serialVersionUID", type := .long, accessFlags := 26, slot := 0, constantValue := 0 }]
  methods := #[k12m0, k12m1]
  instanceTypes := #[(.object "java/lang/Object"), (.object "java/lang/String"), (.object "java/lang/Throwable"), (.array (.object "java/lang/StackTraceElement")), .int, (.object "java/util/List")]
  staticTypes := #[.long]
  resolved := Array.replicate 35 none
  statics := none }

def pool13 : Array CpInfo := pool [(1, .methodref 2 3), (0, .class_ 4), (0, .nameAndType 5 6), (0, u "java/lang/IllegalArgumentException"), (0, u "<init>"), (0, u "(Ljava/lang/String;)V"), (0, .class_ 8), (0, u "com/example/model_check_sql/modelchecksql/model/ModelFormatException"), (0, u "serialVersionUID"), (0, u "J")] 7

def k13c0 : Code := { maxStack := 2, maxLocals := 2, code := prog_20_method_1_code, exceptionTable := #[], attributes := #[] }
def k13m0 : Method := { name := "<init>", desc := "(Ljava/lang/String;)V", sig := { parameters := [(.object "java/lang/String")], returnType := none }, accessFlags := 1, code := some k13c0 }
/-- com/example/model_check_sql/modelchecksql/model/ModelFormatException -/
def k13 : Class := { plain "com/example/model_check_sql/modelchecksql/model/ModelFormatException" (some 12) with
  accessFlags := 33
  interfaces := #[]
  cf := some (fileOf pool13 7 #[] #[{ accessFlags := 1, nameIndex := 5, descriptorIndex := 6, attributes := #[] }] 33 2 #[] #[{ accessFlags := 26, nameIndex := 9, descriptorIndex := 10, attributes := #[] }])
  fields := #[{ name := "serialVersionUID", type := .long, accessFlags := 26, slot := 0, constantValue := 0 }]
  methods := #[k13m0]
  instanceTypes := #[(.object "java/lang/Object"), (.object "java/lang/String"), (.object "java/lang/Throwable"), (.array (.object "java/lang/StackTraceElement")), .int, (.object "java/util/List")]
  staticTypes := #[.long]
  resolved := Array.replicate 18 none
  statics := none }

def pool14 : Array CpInfo := pool [(1, .class_ 2), (0, u "java/lang/Appendable"), (0, .class_ 4), (0, u "java/lang/Object")] 9

/-- java/lang/Appendable -/
def k14 : Class := { plain "java/lang/Appendable" (some 0) with
  accessFlags := 1537
  interfaces := #[]
  cf := some (fileOf pool14 1 #[] #[] 1537 3 #[] #[])
  fields := #[]
  methods := #[]
  instanceTypes := #[]
  staticTypes := #[]
  resolved := Array.replicate 14 none
  statics := none }

def pool15 : Array CpInfo := pool [(1, .class_ 2), (0, u "java/lang/String"), (0, .methodref 4 5), (0, .class_ 6), (0, .nameAndType 7 8), (0, u "java/lang/Object"), (0, u "<init>"), (0, u "()V"), (1, .class_ 12), (1, u "java/lang/AbstractStringBuilder"), (0, u "EMPTYVALUE"), (0, u "[B"), (0, .fieldref 10 16), (0, .nameAndType 17 14), (0, u "value"), (0, .fieldref 1 19), (0, .nameAndType 20 21), (0, u "COMPACT_STRINGS"), (0, u "Z"), (0, .fieldref 10 23), (0, .nameAndType 24 25), (0, u "coder"), (0, u "B"), (6, .methodref 1 33), (0, .nameAndType 34 35), (0, u "length"), (0, u "()I"), (4, .methodref 1 41), (0, .nameAndType 24 42), (0, u "()B"), (2, u "append"), (0, u "(Ljava/lang/String;)Ljava/lang/AbstractStringBuilder;"), (1, .class_ 49), (0, u "java/lang/CharSequence"), (19, u "(Ljava/lang/String;)V"), (5, u "maybeLatin1"), (3, .fieldref 10 80), (0, .nameAndType 81 82), (0, u "count"), (0, u "I"), (2, u "isLatin1"), (0, u "()Z"), (13, .methodref 10 101), (0, .nameAndType 102 103), (0, u "ensureCapacityInternal"), (0, u "(I)V"), (104, .methodref 10 209), (0, .nameAndType 210 211), (0, u "putStringAt"), (0, u "(ILjava/lang/String;)V"), (5, u "inflateIfNeededFor"), (2, .nameAndType 221 222), (0, u "getBytes"), (0, u "([BIB)V"), (174, .methodref 10 398), (0, .nameAndType 217 69), (0, .methodref 1 220), (3, u "()[B"), (40, .class_ 445), (0, u "java/lang/Appendable"), (106, u "getValue")] 56

def k15m0 : Method := { name := "<init>", desc := "()V", sig := { parameters := [], returnType := none }, accessFlags := 0, code := none }
def k15c1 : Code := { maxStack := 2, maxLocals := 2, code := jdk_68_method_2_code, exceptionTable := #[], attributes := #[] }
def k15m1 : Method := { name := "<init>", desc := "(I)V", sig := { parameters := [.int], returnType := none }, accessFlags := 0, code := some k15c1 }
def k15c2 : Code := { maxStack := 1, maxLocals := 1, code := jdk_68_method_6_code, exceptionTable := #[], attributes := #[] }
def k15m2 : Method := { name := "length", desc := "()I", sig := { parameters := [], returnType := some .int }, accessFlags := 1, code := some k15c2 }
def k15c3 : Code := { maxStack := 4, maxLocals := 3, code := jdk_68_method_9_code, exceptionTable := #[], attributes := #[] }
def k15m3 : Method := { name := "ensureCapacityInternal", desc := "(I)V", sig := { parameters := [.int], returnType := none }, accessFlags := 2, code := some k15c3 }
def k15c4 : Code := { maxStack := 3, maxLocals := 3, code := jdk_68_method_22_code, exceptionTable := #[], attributes := #[] }
def k15m4 : Method := { name := "append", desc := "(Ljava/lang/String;)Ljava/lang/AbstractStringBuilder;", sig := { parameters := [(.object "java/lang/String")], returnType := some (.object "java/lang/AbstractStringBuilder") }, accessFlags := 1, code := some k15c4 }
def k15c5 : Code := { maxStack := 1, maxLocals := 1, code := jdk_68_method_64_code, exceptionTable := #[], attributes := #[] }
def k15m5 : Method := { name := "getValue", desc := "()[B", sig := { parameters := [], returnType := some (.array .byte) }, accessFlags := 16, code := some k15c5 }
def k15c6 : Code := { maxStack := 1, maxLocals := 1, code := jdk_68_method_68_code, exceptionTable := #[], attributes := #[] }
def k15m6 : Method := { name := "isLatin1", desc := "()Z", sig := { parameters := [], returnType := some .boolean }, accessFlags := 16, code := some k15c6 }
def k15c7 : Code := { maxStack := 2, maxLocals := 2, code := jdk_68_method_71_code, exceptionTable := #[], attributes := #[] }
def k15m7 : Method := { name := "inflateIfNeededFor", desc := "(Ljava/lang/String;)V", sig := { parameters := [(.object "java/lang/String")], returnType := none }, accessFlags := 2, code := some k15c7 }
def k15c8 : Code := { maxStack := 4, maxLocals := 3, code := jdk_68_method_73_code, exceptionTable := #[], attributes := #[] }
def k15m8 : Method := { name := "putStringAt", desc := "(ILjava/lang/String;)V", sig := { parameters := [.int, (.object "java/lang/String")], returnType := none }, accessFlags := 2, code := some k15c8 }
/-- java/lang/AbstractStringBuilder -/
def k15 : Class := { plain "java/lang/AbstractStringBuilder" (some 0) with
  accessFlags := 1056
  interfaces := #[14, 4]
  cf := some (fileOf pool15 10 #[] #[{ accessFlags := 0, nameIndex := 7, descriptorIndex := 8, attributes := #[] }, { accessFlags := 0, nameIndex := 7, descriptorIndex := 103, attributes := #[] }, { accessFlags := 1, nameIndex := 34, descriptorIndex := 35, attributes := #[] }, { accessFlags := 2, nameIndex := 102, descriptorIndex := 103, attributes := #[] }, { accessFlags := 1, nameIndex := 45, descriptorIndex := 46, attributes := #[] }, { accessFlags := 16, nameIndex := 552, descriptorIndex := 403, attributes := #[] }, { accessFlags := 16, nameIndex := 85, descriptorIndex := 86, attributes := #[] }, { accessFlags := 2, nameIndex := 217, descriptorIndex := 69, attributes := #[] }, { accessFlags := 2, nameIndex := 210, descriptorIndex := 211, attributes := #[] }] 1056 4 #[444, 48] #[{ accessFlags := 0, nameIndex := 17, descriptorIndex := 14, attributes := #[] }, { accessFlags := 0, nameIndex := 24, descriptorIndex := 25, attributes := #[] }, { accessFlags := 0, nameIndex := 75, descriptorIndex := 21, attributes := #[] }, { accessFlags := 0, nameIndex := 81, descriptorIndex := 82, attributes := #[] }, { accessFlags := 26, nameIndex := 13, descriptorIndex := 14, attributes := #[] }])
  fields := #[{ name := "value", type := (.array .byte), accessFlags := 0, slot := 0, constantValue := 0 }, { name := "coder", type := .byte, accessFlags := 0, slot := 1, constantValue := 0 }, { name := "maybeLatin1", type := .boolean, accessFlags := 0, slot := 2, constantValue := 0 }, { name := "count", type := .int, accessFlags := 0, slot := 3, constantValue := 0 }, { name := "EMPTYVALUE", type := (.array .byte), accessFlags := 26, slot := 0, constantValue := 0 }]
  methods := #[k15m0, k15m1, k15m2, k15m3, k15m4, k15m5, k15m6, k15m7, k15m8]
  instanceTypes := #[(.array .byte), .byte, .boolean, .int]
  staticTypes := #[(.array .byte)]
  resolved := Array.replicate 609 none
  statics := none }

def pool16 : Array CpInfo := pool [(1, .methodref 2 3), (0, .class_ 4), (0, .nameAndType 5 6), (0, u "java/lang/AbstractStringBuilder"), (0, u "<init>"), (0, u "(I)V"), (11, .class_ 20), (1, u "java/lang/String"), (3, .class_ 26), (1, u "java/lang/StringBuilder"), (0, u "append"), (0, u "(Ljava/lang/String;)Ljava/lang/StringBuilder;"), (0, .methodref 2 30), (0, .nameAndType 27 31), (0, u "(Ljava/lang/String;)Ljava/lang/AbstractStringBuilder;"), (105, .methodref 18 138), (0, .nameAndType 5 139), (0, u "(Ljava/lang/StringBuilder;)V"), (5, u "()V"), (10, u "()I"), (186, .methodref 2 344), (0, .nameAndType 345 156), (0, u "length"), (3, .class_ 350), (0, u "java/lang/Appendable"), (0, .class_ 352), (0, u "java/io/Serializable"), (0, .class_ 354), (0, u "java/lang/Comparable"), (0, .class_ 356), (0, u "java/lang/CharSequence"), (0, u "serialVersionUID"), (0, u "J"), (40, u "toString"), (0, u "()Ljava/lang/String;")] 21

def k16c0 : Code := { maxStack := 2, maxLocals := 1, code := jdk_67_method_1_code, exceptionTable := #[], attributes := #[] }
def k16m0 : Method := { name := "<init>", desc := "()V", sig := { parameters := [], returnType := none }, accessFlags := 1, code := some k16c0 }
def k16c1 : Code := { maxStack := 2, maxLocals := 2, code := jdk_67_method_7_code, exceptionTable := #[], attributes := #[] }
def k16m1 : Method := { name := "append", desc := "(Ljava/lang/String;)Ljava/lang/StringBuilder;", sig := { parameters := [(.object "java/lang/String")], returnType := some (.object "java/lang/StringBuilder") }, accessFlags := 1, code := some k16c1 }
def k16c2 : Code := { maxStack := 3, maxLocals := 1, code := jdk_67_method_42_code, exceptionTable := #[], attributes := #[] }
def k16m2 : Method := { name := "toString", desc := "()Ljava/lang/String;", sig := { parameters := [], returnType := some (.object "java/lang/String") }, accessFlags := 1, code := some k16c2 }
def k16c3 : Code := { maxStack := 1, maxLocals := 1, code := jdk_67_method_93_code, exceptionTable := #[], attributes := #[] }
def k16m3 : Method := { name := "length", desc := "()I", sig := { parameters := [], returnType := some .int }, accessFlags := 4161, code := some k16c3 }
/-- java/lang/StringBuilder -/
def k16 : Class := { plain "java/lang/StringBuilder" (some 15) with
  accessFlags := 49
  interfaces := #[14, 2, 3, 4]
  cf := some (fileOf pool16 24 #[] #[{ accessFlags := 1, nameIndex := 5, descriptorIndex := 145, attributes := #[] }, { accessFlags := 1, nameIndex := 27, descriptorIndex := 28, attributes := #[] }, { accessFlags := 1, nameIndex := 399, descriptorIndex := 400, attributes := #[] }, { accessFlags := 4161, nameIndex := 345, descriptorIndex := 156, attributes := #[] }] 49 2 #[349, 351, 353, 355] #[{ accessFlags := 24, nameIndex := 357, descriptorIndex := 358, attributes := #[] }])
  fields := #[{ name := "serialVersionUID", type := .long, accessFlags := 24, slot := 0, constantValue := 0 }]
  methods := #[k16m0, k16m1, k16m2, k16m3]
  instanceTypes := #[(.array .byte), .byte, .boolean, .int]
  staticTypes := #[.long]
  resolved := Array.replicate 422 none
  statics := none }

def pool17 : Array CpInfo := pool [(2, .class_ 4), (1, u "java/lang/Object"), (0, u "<init>"), (0, u "()V"), (1, .class_ 10), (1, u "java/lang/System"), (0, u "allowSecurityManager"), (0, u "I"), (16, u "cons"), (0, u "Ljava/io/Console;"), (77, .class_ 110), (1, u "java/lang/System$CallersHolder"), (43, u "initialErrStream"), (0, u "Ljava/io/PrintStream;"), (19, u "security"), (0, u "Ljava/lang/SecurityManager;"), (31, .class_ 209), (0, u "java/lang/System$1"), (7, u "props"), (0, u "Ljava/util/Properties;"), (2, u "lineSeparator"), (0, u "Ljava/lang/String;"), (96, .class_ 321), (1, u "java/lang/System$LoggerFinder"), (5, .class_ 328), (0, u "java/lang/System$Logger"), (67, u "err"), (2, u "out"), (91, u "notSupportedJnuEncoding"), (15, u "in"), (17, u "initialIn"), (0, u "Ljava/io/InputStream;"), (35, u "bootLayer"), (0, u "Ljava/lang/ModuleLayer;"), (99, .class_ 664), (0, u "java/lang/System$2"), (9, u "NEVER"), (2, u "MAYBE"), (49, u "arraycopy"), (0, u "(Ljava/lang/Object;ILjava/lang/Object;II)V"), (72, .class_ 802), (0, u "java/lang/System$Logger$Level")] 31

def k17m0 : Method := { name := "<init>", desc := "()V", sig := { parameters := [], returnType := none }, accessFlags := 2, code := none }
def k17m1 : Method := { name := "arraycopy", desc := "(Ljava/lang/Object;ILjava/lang/Object;II)V", sig := { parameters := [(.object "java/lang/Object"), .int, (.object "java/lang/Object"), .int, .int], returnType := none }, accessFlags := 265, code := none }
/-- java/lang/System -/
def k17 : Class := { plain "java/lang/System" (some 0) with
  accessFlags := 49
  interfaces := #[]
  cf := some (fileOf pool17 8 #[.nestMembers #[319, 327, 801, 108, 663, 208]] #[{ accessFlags := 2, nameIndex := 5, descriptorIndex := 6, attributes := #[] }, { accessFlags := 265, nameIndex := 727, descriptorIndex := 728, attributes := #[] }] 49 2 #[] #[{ accessFlags := 25, nameIndex := 507, descriptorIndex := 526, attributes := #[] }, { accessFlags := 25, nameIndex := 399, descriptorIndex := 155, attributes := #[] }, { accessFlags := 25, nameIndex := 396, descriptorIndex := 155, attributes := #[] }, { accessFlags := 10, nameIndex := 525, descriptorIndex := 526, attributes := #[] }, { accessFlags := 26, nameIndex := 674, descriptorIndex := 12, attributes := #[] }, { accessFlags := 26, nameIndex := 677, descriptorIndex := 12, attributes := #[] }, { accessFlags := 10, nameIndex := 11, descriptorIndex := 12, attributes := #[] }, { accessFlags := 74, nameIndex := 175, descriptorIndex := 176, attributes := #[] }, { accessFlags := 10, nameIndex := 491, descriptorIndex := 222, attributes := #[] }, { accessFlags := 74, nameIndex := 29, descriptorIndex := 30, attributes := #[] }, { accessFlags := 74, nameIndex := 154, descriptorIndex := 155, attributes := #[] }, { accessFlags := 10, nameIndex := 217, descriptorIndex := 218, attributes := #[] }, { accessFlags := 10, nameIndex := 221, descriptorIndex := 222, attributes := #[] }, { accessFlags := 8, nameIndex := 562, descriptorIndex := 563, attributes := #[] }])
  fields := #[{ name := "in", type := (.object "java/io/InputStream"), accessFlags := 25, slot := 0, constantValue := 0 }, { name := "out", type := (.object "java/io/PrintStream"), accessFlags := 25, slot := 1, constantValue := 0 }, { name := "err", type := (.object "java/io/PrintStream"), accessFlags := 25, slot := 2, constantValue := 0 }, { name := "initialIn", type := (.object "java/io/InputStream"), accessFlags := 10, slot := 3, constantValue := 0 }, { name := "NEVER", type := .int, accessFlags := 26, slot := 4, constantValue := 0 }, { name := "MAYBE", type := .int, accessFlags := 26, slot := 5, constantValue := 0 }, { name := "allowSecurityManager", type := .int, accessFlags := 10, slot := 6, constantValue := 0 }, { name := "security", type := (.object "java/lang/SecurityManager"), accessFlags := 74, slot := 7, constantValue := 0 }, { name := "notSupportedJnuEncoding", type := (.object "java/lang/String"), accessFlags := 10, slot := 8, constantValue := 0 }, { name := "cons", type := (.object "java/io/Console"), accessFlags := 74, slot := 9, constantValue := 0 }, { name := "initialErrStream", type := (.object "java/io/PrintStream"), accessFlags := 74, slot := 10, constantValue := 0 }, { name := "props", type := (.object "java/util/Properties"), accessFlags := 10, slot := 11, constantValue := 0 }, { name := "lineSeparator", type := (.object "java/lang/String"), accessFlags := 10, slot := 12, constantValue := 0 }, { name := "bootLayer", type := (.object "java/lang/ModuleLayer"), accessFlags := 8, slot := 13, constantValue := 0 }]
  methods := #[k17m0, k17m1]
  instanceTypes := #[]
  staticTypes := #[(.object "java/io/InputStream"), (.object "java/io/PrintStream"), (.object "java/io/PrintStream"), (.object "java/io/InputStream"), .int, .int, .int, (.object "java/lang/SecurityManager"), (.object "java/lang/String"), (.object "java/io/Console"), (.object "java/io/PrintStream"), (.object "java/util/Properties"), (.object "java/lang/String"), (.object "java/lang/ModuleLayer")]
  resolved := Array.replicate 834 none
  statics := none }

def pool18 : Array CpInfo := pool [(2, .class_ 4), (1, u "java/lang/Object"), (0, u "<init>"), (0, u "()V"), (7, .class_ 16), (1, u "java/util/Arrays"), (57, .class_ 76), (1, u "java/util/Arrays$NaturalOrder"), (36, .class_ 115), (1, u "java/util/Arrays$LegacyMergeSort"), (1, u "Z"), (21, u "copyOfRange"), (10, .methodref 151 152), (0, .class_ 153), (0, .nameAndType 154 155), (0, u "java/lang/System"), (0, u "arraycopy"), (0, u "(Ljava/lang/Object;ILjava/lang/Object;II)V"), (148, .methodref 305 306), (0, .class_ 307), (0, .nameAndType 308 309), (0, u "java/lang/Math"), (0, u "min"), (0, u "(II)I"), (29, .methodref 14 340), (0, .nameAndType 341 342), (0, u "copyOfRangeByte"), (0, u "([BII)[B"), (0, .methodref 14 344), (0, .nameAndType 345 346), (0, u "checkLength"), (0, u "(II)V"), (28, .class_ 376), (0, u "java/util/Arrays$ArrayList"), (68, u "$assertionsDisabled"), (269, u "MIN_ARRAY_SORT_GRAN"), (0, u "I"), (2, u "INSERTIONSORT_THRESHOLD"), (255, .class_ 976), (0, u "java/util/Arrays$ArrayItr")] 52

def k18m0 : Method := { name := "<init>", desc := "()V", sig := { parameters := [], returnType := none }, accessFlags := 2, code := none }
def k18c1 : Code := { maxStack := 4, maxLocals := 2, code := jdk_65_method_131_code, exceptionTable := #[], attributes := #[] }
def k18m1 : Method := { name := "checkLength", desc := "(II)V", sig := { parameters := [.int, .int], returnType := none }, accessFlags := 10, code := some k18c1 }
def k18c2 : Code := { maxStack := 3, maxLocals := 3, code := jdk_65_method_132_code, exceptionTable := #[], attributes := #[] }
def k18m2 : Method := { name := "copyOfRange", desc := "([BII)[B", sig := { parameters := [(.array .byte), .int, .int], returnType := some (.array .byte) }, accessFlags := 9, code := some k18c2 }
def k18c3 : Code := { maxStack := 6, maxLocals := 5, code := jdk_65_method_133_code, exceptionTable := #[], attributes := #[] }
def k18m3 : Method := { name := "copyOfRangeByte", desc := "([BII)[B", sig := { parameters := [(.array .byte), .int, .int], returnType := some (.array .byte) }, accessFlags := 10, code := some k18c3 }
/-- java/util/Arrays -/
def k18 : Class := { plain "java/util/Arrays" (some 0) with
  accessFlags := 49
  interfaces := #[]
  cf := some (fileOf pool18 14 #[.nestMembers #[975, 375, 113, 74]] #[{ accessFlags := 2, nameIndex := 5, descriptorIndex := 6, attributes := #[] }, { accessFlags := 10, nameIndex := 345, descriptorIndex := 346, attributes := #[] }, { accessFlags := 9, nameIndex := 139, descriptorIndex := 342, attributes := #[] }, { accessFlags := 10, nameIndex := 341, descriptorIndex := 342, attributes := #[] }] 49 2 #[] #[{ accessFlags := 26, nameIndex := 715, descriptorIndex := 716, attributes := #[] }, { accessFlags := 26, nameIndex := 719, descriptorIndex := 716, attributes := #[] }, { accessFlags := 4120, nameIndex := 445, descriptorIndex := 117, attributes := #[] }])
  fields := #[{ name := "MIN_ARRAY_SORT_GRAN", type := .int, accessFlags := 26, slot := 0, constantValue := 0 }, { name := "INSERTIONSORT_THRESHOLD", type := .int, accessFlags := 26, slot := 1, constantValue := 0 }, { name := "$assertionsDisabled", type := .boolean, accessFlags := 4120, slot := 2, constantValue := 0 }]
  methods := #[k18m0, k18m1, k18m2, k18m3]
  instanceTypes := #[]
  staticTypes := #[.int, .int, .boolean]
  resolved := Array.replicate 1029 none
  statics := none }

def pool19 : Array CpInfo := pool [(1, .class_ 2), (0, u "java/lang/Math"), (1, .class_ 6), (1, u "java/lang/Object"), (0, u "<init>"), (0, u "()V"), (89, .class_ 100), (1, u "java/lang/Math$RandomNumberGeneratorHolder"), (71, u "negativeZeroFloatBits"), (0, u "J"), (2, u "negativeZeroDoubleBits"), (24, u "min"), (43, u "$assertionsDisabled"), (0, u "Z"), (88, u "(II)I"), (2, u "twoToTheDoubleScaleDown"), (0, u "D"), (4, u "twoToTheDoubleScaleUp"), (9, u "E"), (3, u "PI"), (2, u "TAU"), (2, u "DEGREES_TO_RADIANS"), (0, u "RADIANS_TO_DEGREES")] 94

def k19m0 : Method := { name := "<init>", desc := "()V", sig := { parameters := [], returnType := none }, accessFlags := 2, code := none }
def k19c1 : Code := { maxStack := 2, maxLocals := 2, code := jdk_29_method_69_code, exceptionTable := #[], attributes := #[] }
def k19m1 : Method := { name := "min", desc := "(II)I", sig := { parameters := [.int, .int], returnType := some .int }, accessFlags := 9, code := some k19c1 }
/-- java/lang/Math -/
def k19 : Class := { plain "java/lang/Math" (some 0) with
  accessFlags := 49
  interfaces := #[]
  cf := some (fileOf pool19 1 #[.nestMembers #[98]] #[{ accessFlags := 2, nameIndex := 7, descriptorIndex := 8, attributes := #[] }, { accessFlags := 9, nameIndex := 201, descriptorIndex := 335, attributes := #[] }] 49 4 #[] #[{ accessFlags := 25, nameIndex := 354, descriptorIndex := 339, attributes := #[] }, { accessFlags := 25, nameIndex := 358, descriptorIndex := 339, attributes := #[] }, { accessFlags := 25, nameIndex := 361, descriptorIndex := 339, attributes := #[] }, { accessFlags := 26, nameIndex := 364, descriptorIndex := 339, attributes := #[] }, { accessFlags := 26, nameIndex := 365, descriptorIndex := 339, attributes := #[] }, { accessFlags := 26, nameIndex := 172, descriptorIndex := 173, attributes := #[] }, { accessFlags := 26, nameIndex := 176, descriptorIndex := 173, attributes := #[] }, { accessFlags := 8, nameIndex := 344, descriptorIndex := 339, attributes := #[] }, { accessFlags := 8, nameIndex := 338, descriptorIndex := 339, attributes := #[] }, { accessFlags := 4120, nameIndex := 245, descriptorIndex := 246, attributes := #[] }])
  fields := #[{ name := "E", type := .double, accessFlags := 25, slot := 0, constantValue := 0 }, { name := "PI", type := .double, accessFlags := 25, slot := 1, constantValue := 0 }, { name := "TAU", type := .double, accessFlags := 25, slot := 2, constantValue := 0 }, { name := "DEGREES_TO_RADIANS", type := .double, accessFlags := 26, slot := 3, constantValue := 0 }, { name := "RADIANS_TO_DEGREES", type := .double, accessFlags := 26, slot := 4, constantValue := 0 }, { name := "negativeZeroFloatBits", type := .long, accessFlags := 26, slot := 5, constantValue := 0 }, { name := "negativeZeroDoubleBits", type := .long, accessFlags := 26, slot := 6, constantValue := 0 }, { name := "twoToTheDoubleScaleUp", type := .double, accessFlags := 8, slot := 7, constantValue := 0 }, { name := "twoToTheDoubleScaleDown", type := .double, accessFlags := 8, slot := 8, constantValue := 0 }, { name := "$assertionsDisabled", type := .boolean, accessFlags := 4120, slot := 9, constantValue := 0 }]
  methods := #[k19m0, k19m1]
  instanceTypes := #[]
  staticTypes := #[.double, .double, .double, .double, .double, .long, .long, .double, .double, .boolean]
  resolved := Array.replicate 460 none
  statics := none }

def pool20 : Array CpInfo := pool [(1, .class_ 2), (0, u "java/lang/String"), (1, .class_ 6), (1, u "java/lang/Object"), (0, u "<init>"), (0, u "()V"), (0, .methodref 1 10), (0, .nameAndType 11 12), (0, u "checkIndex"), (0, u "(II)V"), (1, .class_ 16), (1, u "java/lang/StringLatin1"), (36, u "([BI)C"), (67, u "$assertionsDisabled"), (0, u "Z"), (98, .class_ 223), (1, u "java/lang/StringLatin1$LinesSpliterator"), (28, u "charAt"), (137, .class_ 391), (0, u "java/lang/StringLatin1$CharsSpliterator")] 3

def k20m0 : Method := { name := "<init>", desc := "()V", sig := { parameters := [], returnType := none }, accessFlags := 0, code := none }
def k20c1 : Code := { maxStack := 2, maxLocals := 2, code := jdk_43_method_2_code, exceptionTable := #[], attributes := #[] }
def k20m1 : Method := { name := "charAt", desc := "([BI)C", sig := { parameters := [(.array .byte), .int], returnType := some .char }, accessFlags := 9, code := some k20c1 }
/-- java/lang/StringLatin1 -/
def k20 : Class := { plain "java/lang/StringLatin1" (some 0) with
  accessFlags := 48
  interfaces := #[]
  cf := some (fileOf pool20 14 #[.nestMembers #[390, 221]] #[{ accessFlags := 0, nameIndex := 7, descriptorIndex := 8, attributes := #[] }, { accessFlags := 9, nameIndex := 252, descriptorIndex := 53, attributes := #[] }] 48 4 #[] #[{ accessFlags := 4120, nameIndex := 121, descriptorIndex := 122, attributes := #[] }])
  fields := #[{ name := "$assertionsDisabled", type := .boolean, accessFlags := 4120, slot := 0, constantValue := 0 }]
  methods := #[k20m0, k20m1]
  instanceTypes := #[]
  staticTypes := #[.boolean]
  resolved := Array.replicate 395 none
  statics := none }

def pool21 : Array CpInfo := pool [(2, .class_ 4), (1, u "java/lang/Object"), (0, u "<init>"), (0, u "()V"), (17, .class_ 26), (1, u "jdk/internal/util/Preconditions"), (6, u "checkIndex"), (21, .class_ 56), (0, u "jdk/internal/util/Preconditions$4"), (57, .class_ 115), (0, u "jdk/internal/util/Preconditions$1"), (7, u "SIOOBE_FORMATTER"), (0, u "Ljava/util/function/BiFunction;"), (0, .class_ 126), (0, u "jdk/internal/util/Preconditions$2"), (3, u "AIOOBE_FORMATTER"), (0, .class_ 132), (0, u "jdk/internal/util/Preconditions$3"), (3, u "IOOBE_FORMATTER"), (41, u "(IILjava/util/function/BiFunction;)I")] 15

def k21m0 : Method := { name := "<init>", desc := "()V", sig := { parameters := [], returnType := none }, accessFlags := 1, code := none }
def k21c1 : Code := { maxStack := 3, maxLocals := 3, code := jdk_41_method_11_code, exceptionTable := #[], attributes := #[] }
def k21m1 : Method := { name := "checkIndex", desc := "(IILjava/util/function/BiFunction;)I", sig := { parameters := [.int, .int, (.object "java/util/function/BiFunction")], returnType := some .int }, accessFlags := 9, code := some k21c1 }
/-- jdk/internal/util/Preconditions -/
def k21 : Class := { plain "jdk/internal/util/Preconditions" (some 0) with
  accessFlags := 33
  interfaces := #[]
  cf := some (fileOf pool21 24 #[.nestMembers #[55, 131, 125, 114]] #[{ accessFlags := 1, nameIndex := 5, descriptorIndex := 6, attributes := #[] }, { accessFlags := 9, nameIndex := 33, descriptorIndex := 178, attributes := #[] }] 33 2 #[] #[{ accessFlags := 25, nameIndex := 123, descriptorIndex := 124, attributes := #[] }, { accessFlags := 25, nameIndex := 130, descriptorIndex := 124, attributes := #[] }, { accessFlags := 25, nameIndex := 136, descriptorIndex := 124, attributes := #[] }])
  fields := #[{ name := "SIOOBE_FORMATTER", type := (.object "java/util/function/BiFunction"), accessFlags := 25, slot := 0, constantValue := 0 }, { name := "AIOOBE_FORMATTER", type := (.object "java/util/function/BiFunction"), accessFlags := 25, slot := 1, constantValue := 0 }, { name := "IOOBE_FORMATTER", type := (.object "java/util/function/BiFunction"), accessFlags := 25, slot := 2, constantValue := 0 }]
  methods := #[k21m0, k21m1]
  instanceTypes := #[]
  staticTypes := #[(.object "java/util/function/BiFunction"), (.object "java/util/function/BiFunction"), (.object "java/util/function/BiFunction")]
  resolved := Array.replicate 194 none
  statics := some 2 }

def pool22 : Array CpInfo := pool [(6, .class_ 8), (1, u "java/lang/Object"), (0, u "<init>"), (0, u "()V"), (1, .class_ 14), (1, u "java/lang/StringUTF16"), (31, u "$assertionsDisabled"), (0, u "Z"), (13, u "HI_BYTE_SHIFT"), (0, u "I"), (2, u "LO_BYTE_SHIFT"), (49, .methodref 12 116), (0, .nameAndType 117 118), (0, u "compress"), (0, u "([CI[BII)I"), (3, u "([CII)[B"), (138, u "coderFromArrayLen"), (0, u "([BI)B"), (106, .class_ 371), (1, u "java/lang/StringUTF16$LinesSpliterator"), (58, u "MAX_LENGTH"), (196, .class_ 628), (0, u "java/lang/StringUTF16$CodePointsSpliterator"), (0, .class_ 630), (0, u "java/lang/StringUTF16$CharsSpliterator")] 4

def k22m0 : Method := { name := "<init>", desc := "()V", sig := { parameters := [], returnType := none }, accessFlags := 0, code := none }
def k22c1 : Code := { maxStack := 2, maxLocals := 2, code := jdk_52_method_15_code, exceptionTable := #[], attributes := #[] }
def k22m1 : Method := { name := "coderFromArrayLen", desc := "([BI)B", sig := { parameters := [(.array .byte), .int], returnType := some .byte }, accessFlags := 8, code := some k22c1 }
def k22c2 : Code := { maxStack := 5, maxLocals := 6, code := jdk_52_method_16_code, exceptionTable := #[], attributes := #[] }
def k22m2 : Method := { name := "compress", desc := "([CII)[B", sig := { parameters := [(.array .char), .int, .int], returnType := some (.array .byte) }, accessFlags := 9, code := some k22c2 }
def k22c3 : Code := { maxStack := 3, maxLocals := 7, code := jdk_52_method_21_code, exceptionTable := #[], attributes := #[] }
def k22m3 : Method := { name := "compress", desc := "([CI[BII)I", sig := { parameters := [(.array .char), .int, (.array .byte), .int, .int], returnType := some .int }, accessFlags := 9, code := some k22c3 }
/-- java/lang/StringUTF16 -/
def k22 : Class := { plain "java/lang/StringUTF16" (some 0) with
  accessFlags := 48
  interfaces := #[]
  cf := some (fileOf pool22 12 #[.nestMembers #[627, 629, 369]] #[{ accessFlags := 0, nameIndex := 9, descriptorIndex := 10, attributes := #[] }, { accessFlags := 8, nameIndex := 261, descriptorIndex := 262, attributes := #[] }, { accessFlags := 9, nameIndex := 117, descriptorIndex := 122, attributes := #[] }, { accessFlags := 9, nameIndex := 117, descriptorIndex := 118, attributes := #[] }] 48 6 #[] #[{ accessFlags := 26, nameIndex := 61, descriptorIndex := 62, attributes := #[] }, { accessFlags := 26, nameIndex := 65, descriptorIndex := 62, attributes := #[] }, { accessFlags := 24, nameIndex := 430, descriptorIndex := 62, attributes := #[] }, { accessFlags := 4120, nameIndex := 46, descriptorIndex := 47, attributes := #[] }])
  fields := #[{ name := "HI_BYTE_SHIFT", type := .int, accessFlags := 26, slot := 0, constantValue := 0 }, { name := "LO_BYTE_SHIFT", type := .int, accessFlags := 26, slot := 1, constantValue := 0 }, { name := "MAX_LENGTH", type := .int, accessFlags := 24, slot := 2, constantValue := 0 }, { name := "$assertionsDisabled", type := .boolean, accessFlags := 4120, slot := 3, constantValue := 0 }]
  methods := #[k22m0, k22m1, k22m2, k22m3]
  instanceTypes := #[]
  staticTypes := #[.int, .int, .int, .boolean]
  resolved := Array.replicate 635 none
  statics := none }

def pool23 : Array CpInfo := pool [(9, u "<init>"), (6, .class_ 18), (1, u "java/lang/Object"), (0, u "()V"), (1, .class_ 23), (1, u "jdk/internal/util/ArraysSupport"), (0, u "LOG2_ARRAY_LONG_INDEX_SCALE"), (0, u "I"), (2, u "U"), (0, u "Ljdk/internal/misc/Unsafe;"), (8, u "BIG_ENDIAN"), (0, u "Z"), (8, u "LOG2_BYTE_BIT_SIZE"), (4, u "LOG2_ARRAY_INT_INDEX_SCALE"), (54, u "JLA"), (0, u "Ljdk/internal/access/JavaLangAccess;"), (11, u "LOG2_ARRAY_BOOLEAN_INDEX_SCALE"), (9, u "LOG2_ARRAY_BYTE_INDEX_SCALE"), (5, u "LOG2_ARRAY_CHAR_INDEX_SCALE"), (5, u "LOG2_ARRAY_SHORT_INDEX_SCALE"), (18, u "LOG2_ARRAY_FLOAT_INDEX_SCALE"), (24, u "LOG2_ARRAY_DOUBLE_INDEX_SCALE"), (89, u "T_BOOLEAN"), (2, u "T_CHAR"), (1, u "T_FLOAT"), (1, u "T_DOUBLE"), (1, u "T_BYTE"), (1, u "T_SHORT"), (1, u "T_INT"), (1, u "T_LONG"), (1, u "SOFT_MAX_ARRAY_LENGTH")] 83

def k23m0 : Method := { name := "<init>", desc := "()V", sig := { parameters := [], returnType := none }, accessFlags := 2, code := none }
/-- jdk/internal/util/ArraysSupport -/
def k23 : Class := { plain "jdk/internal/util/ArraysSupport" (some 0) with
  accessFlags := 33
  interfaces := #[]
  cf := some (fileOf pool23 21 #[] #[{ accessFlags := 2, nameIndex := 9, descriptorIndex := 19, attributes := #[] }] 33 16 #[] #[{ accessFlags := 24, nameIndex := 28, descriptorIndex := 29, attributes := #[] }, { accessFlags := 26, nameIndex := 38, descriptorIndex := 39, attributes := #[] }, { accessFlags := 25, nameIndex := 121, descriptorIndex := 25, attributes := #[] }, { accessFlags := 25, nameIndex := 131, descriptorIndex := 25, attributes := #[] }, { accessFlags := 25, nameIndex := 137, descriptorIndex := 25, attributes := #[] }, { accessFlags := 25, nameIndex := 143, descriptorIndex := 25, attributes := #[] }, { accessFlags := 25, nameIndex := 53, descriptorIndex := 25, attributes := #[] }, { accessFlags := 25, nameIndex := 24, descriptorIndex := 25, attributes := #[] }, { accessFlags := 25, nameIndex := 162, descriptorIndex := 25, attributes := #[] }, { accessFlags := 25, nameIndex := 187, descriptorIndex := 25, attributes := #[] }, { accessFlags := 26, nameIndex := 48, descriptorIndex := 25, attributes := #[] }, { accessFlags := 25, nameIndex := 277, descriptorIndex := 25, attributes := #[] }, { accessFlags := 25, nameIndex := 280, descriptorIndex := 25, attributes := #[] }, { accessFlags := 25, nameIndex := 282, descriptorIndex := 25, attributes := #[] }, { accessFlags := 25, nameIndex := 284, descriptorIndex := 25, attributes := #[] }, { accessFlags := 25, nameIndex := 286, descriptorIndex := 25, attributes := #[] }, { accessFlags := 25, nameIndex := 288, descriptorIndex := 25, attributes := #[] }, { accessFlags := 25, nameIndex := 290, descriptorIndex := 25, attributes := #[] }, { accessFlags := 25, nameIndex := 292, descriptorIndex := 25, attributes := #[] }, { accessFlags := 26, nameIndex := 108, descriptorIndex := 109, attributes := #[] }, { accessFlags := 25, nameIndex := 294, descriptorIndex := 25, attributes := #[] }])
  fields := #[{ name := "U", type := (.object "jdk/internal/misc/Unsafe"), accessFlags := 24, slot := 0, constantValue := 0 }, { name := "BIG_ENDIAN", type := .boolean, accessFlags := 26, slot := 1, constantValue := 0 }, { name := "LOG2_ARRAY_BOOLEAN_INDEX_SCALE", type := .int, accessFlags := 25, slot := 2, constantValue := 0 }, { name := "LOG2_ARRAY_BYTE_INDEX_SCALE", type := .int, accessFlags := 25, slot := 3, constantValue := 0 }, { name := "LOG2_ARRAY_CHAR_INDEX_SCALE", type := .int, accessFlags := 25, slot := 4, constantValue := 0 }, { name := "LOG2_ARRAY_SHORT_INDEX_SCALE", type := .int, accessFlags := 25, slot := 5, constantValue := 0 }, { name := "LOG2_ARRAY_INT_INDEX_SCALE", type := .int, accessFlags := 25, slot := 6, constantValue := 0 }, { name := "LOG2_ARRAY_LONG_INDEX_SCALE", type := .int, accessFlags := 25, slot := 7, constantValue := 0 }, { name := "LOG2_ARRAY_FLOAT_INDEX_SCALE", type := .int, accessFlags := 25, slot := 8, constantValue := 0 }, { name := "LOG2_ARRAY_DOUBLE_INDEX_SCALE", type := .int, accessFlags := 25, slot := 9, constantValue := 0 }, { name := "LOG2_BYTE_BIT_SIZE", type := .int, accessFlags := 26, slot := 10, constantValue := 0 }, { name := "T_BOOLEAN", type := .int, accessFlags := 25, slot := 11, constantValue := 0 }, { name := "T_CHAR", type := .int, accessFlags := 25, slot := 12, constantValue := 0 }, { name := "T_FLOAT", type := .int, accessFlags := 25, slot := 13, constantValue := 0 }, { name := "T_DOUBLE", type := .int, accessFlags := 25, slot := 14, constantValue := 0 }, { name := "T_BYTE", type := .int, accessFlags := 25, slot := 15, constantValue := 0 }, { name := "T_SHORT", type := .int, accessFlags := 25, slot := 16, constantValue := 0 }, { name := "T_INT", type := .int, accessFlags := 25, slot := 17, constantValue := 0 }, { name := "T_LONG", type := .int, accessFlags := 25, slot := 18, constantValue := 0 }, { name := "JLA", type := (.object "jdk/internal/access/JavaLangAccess"), accessFlags := 26, slot := 19, constantValue := 0 }, { name := "SOFT_MAX_ARRAY_LENGTH", type := .int, accessFlags := 25, slot := 20, constantValue := 0 }]
  methods := #[k23m0]
  instanceTypes := #[]
  staticTypes := #[(.object "jdk/internal/misc/Unsafe"), .boolean, .int, .int, .int, .int, .int, .int, .int, .int, .int, .int, .int, .int, .int, .int, .int, .int, .int, (.object "jdk/internal/access/JavaLangAccess"), .int]
  resolved := Array.replicate 378 none
  statics := none }

def pool24 : Array CpInfo := pool [(2, .class_ 4), (1, u "java/lang/Object"), (0, u "<init>"), (0, u "()V"), (12, .class_ 20), (0, u "java/util/Collections"), (63, u "r"), (0, u "Ljava/util/Random;"), (80, .class_ 167), (0, u "java/util/Collections$UnmodifiableCollection"), (6, .class_ 175), (0, u "java/util/Collections$UnmodifiableSequencedCollection"), (6, .class_ 183), (0, u "java/util/Collections$UnmodifiableSet"), (6, .class_ 191), (0, u "java/util/Collections$UnmodifiableSequencedSet"), (6, .class_ 199), (0, u "java/util/Collections$UnmodifiableSortedSet"), (6, .class_ 207), (0, u "java/util/Collections$UnmodifiableNavigableSet"), (4, .class_ 213), (0, u "java/util/Collections$UnmodifiableList"), (1, .class_ 216), (0, u "java/util/Collections$UnmodifiableRandomAccessList"), (6, .class_ 224), (0, u "java/util/Collections$UnmodifiableMap"), (6, .class_ 232), (0, u "java/util/Collections$UnmodifiableSequencedMap"), (4, .class_ 238), (0, u "java/util/Collections$UnmodifiableSortedMap"), (6, .class_ 246), (0, u "java/util/Collections$UnmodifiableNavigableMap"), (3, .class_ 251), (0, u "java/util/Collections$SynchronizedCollection"), (4, .class_ 257), (0, u "java/util/Collections$SynchronizedSet"), (4, .class_ 263), (0, u "java/util/Collections$SynchronizedSortedSet"), (1, .class_ 266), (0, u "java/util/Collections$SynchronizedNavigableSet"), (1, .class_ 269), (0, u "java/util/Collections$SynchronizedRandomAccessList"), (1, .class_ 272), (0, u "java/util/Collections$SynchronizedList"), (5, .class_ 279), (0, u "java/util/Collections$SynchronizedMap"), (1, .class_ 282), (0, u "java/util/Collections$SynchronizedSortedMap"), (1, .class_ 285), (0, u "java/util/Collections$SynchronizedNavigableMap"), (1, .class_ 288), (0, u "java/util/Collections$CheckedCollection"), (11, .class_ 301), (0, u "java/util/Collections$CheckedQueue"), (3, .class_ 306), (0, u "java/util/Collections$CheckedSet"), (3, .class_ 311), (0, u "java/util/Collections$CheckedSortedSet"), (3, .class_ 316), (0, u "java/util/Collections$CheckedNavigableSet"), (3, .class_ 321), (0, u "java/util/Collections$CheckedRandomAccessList"), (3, .class_ 326), (0, u "java/util/Collections$CheckedList"), (1, .class_ 329), (0, u "java/util/Collections$CheckedMap"), (3, .class_ 334), (0, u "java/util/Collections$CheckedSortedMap"), (3, .class_ 339), (0, u "java/util/Collections$CheckedNavigableMap"), (4, .class_ 346), (1, u "java/util/Collections$EmptyIterator"), (3, .class_ 352), (1, u "java/util/Collections$EmptyListIterator"), (2, .class_ 357), (1, u "java/util/Collections$EmptyEnumeration"), (4, u "EMPTY_SET"), (0, u "Ljava/util/Set;"), (6, u "EMPTY_LIST"), (0, u "Ljava/util/List;"), (2, u "EMPTY_MAP"), (0, u "Ljava/util/Map;"), (4, .class_ 381), (0, u "java/util/Collections$SingletonSet"), (2, .class_ 385), (0, u "java/util/Collections$1"), (1, .class_ 388), (0, u "java/util/Collections$2"), (1, .class_ 391), (0, u "java/util/Collections$SingletonList"), (1, .class_ 394), (0, u "java/util/Collections$SingletonMap"), (22, .class_ 418), (0, u "java/util/Collections$CopiesList"), (4, .class_ 425), (1, u "java/util/Collections$ReverseComparator"), (8, .class_ 435), (0, u "java/util/Collections$ReverseComparator2"), (6, .class_ 443), (0, u "java/util/Collections$3"), (25, .class_ 470), (0, u "java/util/Collections$SetFromMap"), (2, .class_ 474), (0, u "java/util/Collections$SequencedSetFromMap"), (3, .class_ 479), (0, u "java/util/Collections$AsLIFOQueue"), (11, .class_ 492), (0, u "java/util/Collections$EmptySet"), (1, .class_ 495), (0, u "java/util/Collections$EmptyList"), (1, .class_ 498), (0, u "java/util/Collections$EmptyMap"), (1, u "BINARYSEARCH_THRESHOLD"), (0, u "I"), (2, u "REVERSE_THRESHOLD"), (1, u "SHUFFLE_THRESHOLD"), (1, u "FILL_THRESHOLD"), (1, u "ROTATE_THRESHOLD"), (1, u "COPY_THRESHOLD"), (1, u "REPLACEALL_THRESHOLD"), (1, u "INDEXOFSUBLIST_THRESHOLD"), (333, .class_ 851), (0, u "java/util/Collections$CheckedMap$CheckedEntrySet"), (0, .class_ 853), (0, u "java/util/Collections$CheckedMap$CheckedEntrySet$CheckedEntry"), (0, .class_ 855), (0, u "java/util/Collections$CheckedMap$CheckedEntrySet$1"), (0, .class_ 857), (0, u "java/util/Collections$CheckedList$1"), (0, .class_ 859), (0, u "java/util/Collections$CheckedCollection$1"), (0, .class_ 861), (0, u "java/util/Collections$UnmodifiableNavigableMap$EmptyNavigableMap"), (0, .class_ 863), (0, u "java/util/Collections$UnmodifiableMap$UnmodifiableEntrySet"), (0, .class_ 865), (0, u "java/util/Collections$UnmodifiableMap$UnmodifiableEntrySet$UnmodifiableEntry"), (0, .class_ 867), (0, u "java/util/Collections$UnmodifiableMap$UnmodifiableEntrySet$UnmodifiableEntrySetSpliterator"), (0, .class_ 869), (0, u "java/util/Collections$UnmodifiableMap$UnmodifiableEntrySet$1"), (0, .class_ 871), (0, u "java/util/Collections$UnmodifiableList$1"), (0, .class_ 873), (0, u "java/util/Collections$UnmodifiableNavigableSet$EmptyNavigableSet"), (0, .class_ 875), (0, u "java/util/Collections$UnmodifiableCollection$1")] 57

def k24m0 : Method := { name := "<init>", desc := "()V", sig := { parameters := [], returnType := none }, accessFlags := 2, code := none }
/-- java/util/Collections -/
def k24 : Class := { plain "java/util/Collections" (some 0) with
  accessFlags := 33
  interfaces := #[]
  cf := some (fileOf pool24 19 #[.nestMembers #[478, 473, 469, 434, 423, 417, 393, 390, 380, 497, 494, 491, 355, 350, 344, 338, 333, 328, 850, 852, 854, 320, 325, 856, 315, 310, 305, 300, 287, 858, 284, 281, 278, 268, 271, 265, 262, 256, 250, 245, 860, 237, 231, 223, 862, 864, 866, 868, 215, 212, 870, 206, 872, 198, 190, 182, 174, 166, 874, 442, 387, 384]] #[{ accessFlags := 2, nameIndex := 5, descriptorIndex := 6, attributes := #[] }] 33 2 #[] #[{ accessFlags := 26, nameIndex := 500, descriptorIndex := 501, attributes := #[] }, { accessFlags := 26, nameIndex := 504, descriptorIndex := 501, attributes := #[] }, { accessFlags := 26, nameIndex := 506, descriptorIndex := 501, attributes := #[] }, { accessFlags := 26, nameIndex := 508, descriptorIndex := 501, attributes := #[] }, { accessFlags := 26, nameIndex := 510, descriptorIndex := 501, attributes := #[] }, { accessFlags := 26, nameIndex := 512, descriptorIndex := 501, attributes := #[] }, { accessFlags := 26, nameIndex := 514, descriptorIndex := 501, attributes := #[] }, { accessFlags := 26, nameIndex := 516, descriptorIndex := 501, attributes := #[] }, { accessFlags := 10, nameIndex := 84, descriptorIndex := 85, attributes := #[] }, { accessFlags := 25, nameIndex := 362, descriptorIndex := 363, attributes := #[] }, { accessFlags := 25, nameIndex := 370, descriptorIndex := 371, attributes := #[] }, { accessFlags := 25, nameIndex := 374, descriptorIndex := 375, attributes := #[] }])
  fields := #[{ name := "BINARYSEARCH_THRESHOLD", type := .int, accessFlags := 26, slot := 0, constantValue := 0 }, { name := "REVERSE_THRESHOLD", type := .int, accessFlags := 26, slot := 1, constantValue := 0 }, { name := "SHUFFLE_THRESHOLD", type := .int, accessFlags := 26, slot := 2, constantValue := 0 }, { name := "FILL_THRESHOLD", type := .int, accessFlags := 26, slot := 3, constantValue := 0 }, { name := "ROTATE_THRESHOLD", type := .int, accessFlags := 26, slot := 4, constantValue := 0 }, { name := "COPY_THRESHOLD", type := .int, accessFlags := 26, slot := 5, constantValue := 0 }, { name := "REPLACEALL_THRESHOLD", type := .int, accessFlags := 26, slot := 6, constantValue := 0 }, { name := "INDEXOFSUBLIST_THRESHOLD", type := .int, accessFlags := 26, slot := 7, constantValue := 0 }, { name := "r", type := (.object "java/util/Random"), accessFlags := 10, slot := 8, constantValue := 0 }, { name := "EMPTY_SET", type := (.object "java/util/Set"), accessFlags := 25, slot := 9, constantValue := 0 }, { name := "EMPTY_LIST", type := (.object "java/util/List"), accessFlags := 25, slot := 10, constantValue := 0 }, { name := "EMPTY_MAP", type := (.object "java/util/Map"), accessFlags := 25, slot := 11, constantValue := 0 }]
  methods := #[k24m0]
  instanceTypes := #[]
  staticTypes := #[.int, .int, .int, .int, .int, .int, .int, .int, (.object "java/util/Random"), (.object "java/util/Set"), (.object "java/util/List"), (.object "java/util/Map")]
  resolved := Array.replicate 933 none
  statics := some 3 }

def pool25 : Array CpInfo := pool [(8, .class_ 10), (1, u "java/lang/Iterable"), (24, .class_ 36), (0, u "java/lang/Object")] 25

/-- java/lang/Iterable -/
def k25 : Class := { plain "java/lang/Iterable" (some 0) with
  accessFlags := 1537
  interfaces := #[]
  cf := some (fileOf pool25 8 #[] #[] 1537 35 #[] #[])
  fields := #[]
  methods := #[]
  instanceTypes := #[]
  staticTypes := #[]
  resolved := Array.replicate 62 none
  statics := none }

def pool26 : Array CpInfo := pool [(10, .class_ 12), (1, u "java/util/Collection"), (47, .class_ 61), (0, u "java/lang/Object"), (0, .class_ 63), (0, u "java/lang/Iterable")] 51

/-- java/util/Collection -/
def k26 : Class := { plain "java/util/Collection" (some 0) with
  accessFlags := 1537
  interfaces := #[25]
  cf := some (fileOf pool26 10 #[] #[] 1537 60 #[62] #[])
  fields := #[]
  methods := #[]
  instanceTypes := #[]
  staticTypes := #[]
  resolved := Array.replicate 115 none
  statics := none }

def pool27 : Array CpInfo := pool [(2, .class_ 4), (1, u "java/lang/Object"), (0, u "<init>"), (0, u "()V"), (1, .class_ 10), (1, u "java/util/AbstractCollection"), (66, .class_ 78), (0, u "java/util/Collection")] 81

def k27m0 : Method := { name := "<init>", desc := "()V", sig := { parameters := [], returnType := none }, accessFlags := 4, code := none }
/-- java/util/AbstractCollection -/
def k27 : Class := { plain "java/util/AbstractCollection" (some 0) with
  accessFlags := 1057
  interfaces := #[26]
  cf := some (fileOf pool27 8 #[] #[{ accessFlags := 4, nameIndex := 5, descriptorIndex := 6, attributes := #[] }] 1057 2 #[77] #[])
  fields := #[]
  methods := #[k27m0]
  instanceTypes := #[]
  staticTypes := #[]
  resolved := Array.replicate 160 none
  statics := none }

def pool28 : Array CpInfo := pool [(8, .class_ 10), (1, u "java/util/SequencedCollection"), (15, .class_ 27), (0, u "java/lang/Object"), (0, .class_ 29), (0, u "java/util/Collection")] 27

/-- java/util/SequencedCollection -/
def k28 : Class := { plain "java/util/SequencedCollection" (some 0) with
  accessFlags := 1537
  interfaces := #[26]
  cf := some (fileOf pool28 8 #[] #[] 1537 26 #[28] #[])
  fields := #[]
  methods := #[]
  instanceTypes := #[]
  staticTypes := #[]
  resolved := Array.replicate 57 none
  statics := none }

def pool29 : Array CpInfo := pool [(8, .class_ 10), (1, u "java/util/List"), (92, .class_ 104), (0, u "java/lang/Object"), (15, .class_ 121), (0, u "java/util/SequencedCollection")] 129

/-- java/util/List -/
def k29 : Class := { plain "java/util/List" (some 0) with
  accessFlags := 1537
  interfaces := #[28]
  cf := some (fileOf pool29 8 #[] #[] 1537 103 #[120] #[])
  fields := #[]
  methods := #[]
  instanceTypes := #[]
  staticTypes := #[]
  resolved := Array.replicate 251 none
  statics := none }

def pool30 : Array CpInfo := pool [(2, .class_ 4), (1, u "java/util/AbstractCollection"), (0, u "<init>"), (0, u "()V"), (1, .class_ 10), (1, u "java/util/AbstractList"), (0, u "modCount"), (0, u "I"), (64, .class_ 78), (0, u "java/util/AbstractList$Itr"), (3, .class_ 83), (0, u "java/util/AbstractList$ListItr"), (9, .class_ 94), (0, u "java/util/AbstractList$RandomAccessSubList"), (3, .class_ 99), (0, u "java/util/AbstractList$SubList"), (33, .class_ 134), (0, u "java/util/List"), (73, .class_ 209), (0, u "java/util/AbstractList$SubList$1"), (0, .class_ 211), (0, u "java/util/AbstractList$RandomAccessSpliterator")] 6

def k30m0 : Method := { name := "<init>", desc := "()V", sig := { parameters := [], returnType := none }, accessFlags := 4, code := none }
/-- java/util/AbstractList -/
def k30 : Class := { plain "java/util/AbstractList" (some 27) with
  accessFlags := 1057
  interfaces := #[29]
  cf := some (fileOf pool30 8 #[.nestMembers #[93, 98, 208, 210, 82, 77]] #[{ accessFlags := 4, nameIndex := 5, descriptorIndex := 6, attributes := #[] }] 1057 2 #[133] #[{ accessFlags := 132, nameIndex := 11, descriptorIndex := 12, attributes := #[] }])
  fields := #[{ name := "modCount", type := .int, accessFlags := 132, slot := 0, constantValue := 0 }]
  methods := #[k30m0]
  instanceTypes := #[.int]
  staticTypes := #[]
  resolved := Array.replicate 218 none
  statics := none }

def pool31 : Array CpInfo := pool [(1, .class_ 2), (0, u "java/util/RandomAccess"), (0, .class_ 4), (0, u "java/lang/Object")] 2

/-- java/util/RandomAccess -/
def k31 : Class := { plain "java/util/RandomAccess" (some 0) with
  accessFlags := 1537
  interfaces := #[]
  cf := some (fileOf pool31 1 #[] #[] 1537 3 #[] #[])
  fields := #[]
  methods := #[]
  instanceTypes := #[]
  staticTypes := #[]
  resolved := Array.replicate 7 none
  statics := none }

def pool32 : Array CpInfo := pool [(2, .class_ 4), (1, u "java/util/AbstractList"), (0, u "<init>"), (0, u "()V"), (1, .class_ 10), (1, u "java/util/Collections"), (54, .class_ 66), (0, u "java/util/Collections$EmptyList"), (0, .class_ 68), (0, u "java/util/RandomAccess"), (0, .class_ 70), (0, u "java/io/Serializable"), (0, u "serialVersionUID"), (0, u "J")] 77

def k32m0 : Method := { name := "<init>", desc := "()V", sig := { parameters := [], returnType := none }, accessFlags := 2, code := none }
/-- java/util/Collections$EmptyList -/
def k32 : Class := { plain "java/util/Collections$EmptyList" (some 30) with
  accessFlags := 32
  interfaces := #[31, 2]
  cf := some (fileOf pool32 65 #[.nestHost 8] #[{ accessFlags := 2, nameIndex := 5, descriptorIndex := 6, attributes := #[] }] 32 2 #[67, 69] #[{ accessFlags := 26, nameIndex := 71, descriptorIndex := 72, attributes := #[] }])
  fields := #[{ name := "serialVersionUID", type := .long, accessFlags := 26, slot := 0, constantValue := 0 }]
  methods := #[k32m0]
  instanceTypes := #[.int]
  staticTypes := #[.long]
  resolved := Array.replicate 150 none
  statics := none }

def pool33 : Array CpInfo := pool [(2, .class_ 4), (1, u "java/lang/StackTraceElement"), (0, u "<init>"), (2, .class_ 10), (1, u "java/lang/Object"), (0, u "()V"), (2, u "format"), (0, u "B"), (2, u "classLoaderName"), (0, u "Ljava/lang/String;"), (2, u "moduleName"), (2, u "moduleVersion"), (12, u "declaringClass"), (4, u "methodName"), (2, u "fileName"), (2, u "lineNumber"), (0, u "I"), (65, u "declaringClassObject"), (0, u "Ljava/lang/Class;"), (33, .class_ 153), (1, u "java/lang/StackTraceElement$HashedModules"), (17, .class_ 172), (0, u "java/io/Serializable"), (0, u "NATIVE_METHOD"), (1, u "UNKNOWN_SOURCE"), (2, u "BUILTIN_CLASS_LOADER"), (1, u "JDK_NON_UPGRADEABLE_MODULE"), (1, u "serialVersionUID"), (0, u "J")] 51

def k33m0 : Method := { name := "<init>", desc := "()V", sig := { parameters := [], returnType := none }, accessFlags := 2, code := none }
/-- java/lang/StackTraceElement -/
def k33 : Class := { plain "java/lang/StackTraceElement" (some 0) with
  accessFlags := 49
  interfaces := #[2]
  cf := some (fileOf pool33 2 #[.nestMembers #[151]] #[{ accessFlags := 2, nameIndex := 5, descriptorIndex := 11, attributes := #[] }] 49 8 #[171] #[{ accessFlags := 26, nameIndex := 173, descriptorIndex := 19, attributes := #[] }, { accessFlags := 26, nameIndex := 175, descriptorIndex := 19, attributes := #[] }, { accessFlags := 130, nameIndex := 116, descriptorIndex := 117, attributes := #[] }, { accessFlags := 2, nameIndex := 18, descriptorIndex := 19, attributes := #[] }, { accessFlags := 2, nameIndex := 22, descriptorIndex := 19, attributes := #[] }, { accessFlags := 2, nameIndex := 25, descriptorIndex := 19, attributes := #[] }, { accessFlags := 2, nameIndex := 38, descriptorIndex := 19, attributes := #[] }, { accessFlags := 2, nameIndex := 43, descriptorIndex := 19, attributes := #[] }, { accessFlags := 2, nameIndex := 46, descriptorIndex := 19, attributes := #[] }, { accessFlags := 2, nameIndex := 49, descriptorIndex := 50, attributes := #[] }, { accessFlags := 2, nameIndex := 14, descriptorIndex := 15, attributes := #[] }, { accessFlags := 26, nameIndex := 178, descriptorIndex := 15, attributes := #[] }, { accessFlags := 26, nameIndex := 180, descriptorIndex := 15, attributes := #[] }, { accessFlags := 26, nameIndex := 182, descriptorIndex := 183, attributes := #[] }])
  fields := #[{ name := "NATIVE_METHOD", type := (.object "java/lang/String"), accessFlags := 26, slot := 0, constantValue := 0 }, { name := "UNKNOWN_SOURCE", type := (.object "java/lang/String"), accessFlags := 26, slot := 1, constantValue := 0 }, { name := "declaringClassObject", type := (.object "java/lang/Class"), accessFlags := 130, slot := 0, constantValue := 0 }, { name := "classLoaderName", type := (.object "java/lang/String"), accessFlags := 2, slot := 1, constantValue := 0 }, { name := "moduleName", type := (.object "java/lang/String"), accessFlags := 2, slot := 2, constantValue := 0 }, { name := "moduleVersion", type := (.object "java/lang/String"), accessFlags := 2, slot := 3, constantValue := 0 }, { name := "declaringClass", type := (.object "java/lang/String"), accessFlags := 2, slot := 4, constantValue := 0 }, { name := "methodName", type := (.object "java/lang/String"), accessFlags := 2, slot := 5, constantValue := 0 }, { name := "fileName", type := (.object "java/lang/String"), accessFlags := 2, slot := 6, constantValue := 0 }, { name := "lineNumber", type := .int, accessFlags := 2, slot := 7, constantValue := 0 }, { name := "format", type := .byte, accessFlags := 2, slot := 8, constantValue := 0 }, { name := "BUILTIN_CLASS_LOADER", type := .byte, accessFlags := 26, slot := 2, constantValue := 0 }, { name := "JDK_NON_UPGRADEABLE_MODULE", type := .byte, accessFlags := 26, slot := 3, constantValue := 0 }, { name := "serialVersionUID", type := .long, accessFlags := 26, slot := 4, constantValue := 0 }]
  methods := #[k33m0]
  instanceTypes := #[(.object "java/lang/Class"), (.object "java/lang/String"), (.object "java/lang/String"), (.object "java/lang/String"), (.object "java/lang/String"), (.object "java/lang/String"), (.object "java/lang/String"), .int, .byte]
  staticTypes := #[(.object "java/lang/String"), (.object "java/lang/String"), .byte, .byte, .long]
  resolved := Array.replicate 235 none
  statics := none }

def pool34 : Array CpInfo := pool [(1, u "java/lang/Cloneable"), (0, .class_ 1), (0, u "java/lang/Object"), (0, .class_ 3)] 3

/-- java/lang/Cloneable -/
def k34 : Class := { plain "java/lang/Cloneable" (some 0) with
  accessFlags := 1537
  interfaces := #[]
  cf := some (fileOf pool34 2 #[] #[] 1537 4 #[] #[])
  fields := #[]
  methods := #[]
  instanceTypes := #[]
  staticTypes := #[]
  resolved := Array.replicate 8 none
  statics := none }

/-- the primitive byte -/
def k35 : Class := { plain "byte" none with kind := .primitive 'B', accessFlags := 0x411 }
/-- [B -/
def k36 : Class := { plain "[B" (some 0) with kind := .array 35 .byte, interfaces := #[34, 2], accessFlags := 1041 }

/-- the primitive char -/
def k37 : Class := { plain "char" none with kind := .primitive 'C', accessFlags := 0x411 }
/-- [C -/
def k38 : Class := { plain "[C" (some 0) with kind := .array 37 .char, interfaces := #[34, 2], accessFlags := 1041 }

/-- the primitive int -/
def k39 : Class := { plain "int" none with kind := .primitive 'I', accessFlags := 0x411 }
/-- [I -/
def k40 : Class := { plain "[I" (some 0) with kind := .array 39 .int, interfaces := #[34, 2], accessFlags := 1041 }

/-- [Ljava/lang/Object; -/
def k41 : Class := { plain "[Ljava/lang/Object;" (some 0) with kind := .array 0 (.object "java/lang/Object"), interfaces := #[34, 2], accessFlags := 1041 }

/-- [Ljava/lang/StackTraceElement; -/
def k42 : Class := { plain "[Ljava/lang/StackTraceElement;" (some 0) with kind := .array 33 (.object "java/lang/StackTraceElement"), interfaces := #[34, 2], accessFlags := 1041 }

/-- [Ljava/lang/Throwable; -/
def k43 : Class := { plain "[Ljava/lang/Throwable;" (some 0) with kind := .array 9 (.object "java/lang/Throwable"), interfaces := #[34, 2], accessFlags := 1041 }

def heap : Heap := #[{ cls := 7, slots := #[.long 0, .int 1, .null, .int 0, .null, .int 0, .int 0], vm := .statics 7 },
  { cls := 9, slots := #[.long 0, .ref 4, .ref 5, .null, .null, .null, .null, .ref 6, .int 1], vm := .statics 9 },
  { cls := 21, slots := #[.null, .null, .null], vm := .statics 21 },
  { cls := 24, slots := #[.int 0, .int 0, .int 0, .int 0, .int 0, .int 0, .int 0, .int 0, .null, .null, .ref 5, .null], vm := .statics 24 },
  { cls := 42, slots := #[], vm := .none },
  { cls := 32, slots := #[.int 0], vm := .none },
  { cls := 43, slots := #[], vm := .none }]
def classes : Array Class := #[k0, k1, k2, k3, k4, k5, k6, k7, k8, k9, k10, k11, k12, k13, k14, k15, k16, k17, k18, k19, k20, k21, k22, k23, k24, k25, k26, k27, k28, k29, k30, k31, k32, k33, k34, k35, k36, k37, k38, k39, k40, k41, k42, k43]
def interned : List (Array UInt16 × Addr) := []
def slotsUsed : Nat := 32
def theMethod : MethodId := ⟨1, 1⟩
def args0 : Array Value := #[.int 3, .int 4]
def aboutOver (below : List Frame) : State where
  vm := { classes := classes, interned := interned.toArray }
  heap := heap
  slotsUsed := slotsUsed
  threads := #[{ frames := .invoking theMethod args0 :: below }]
def below0 : List Frame := [.native { method := ⟨0, 0⟩, args := #[] }]
def about1 : State := aboutOver below0
def p0 : Program := .bare "" "" ""
def e0 : Env := launch0.env 0 0 0
theorem w_frames : about1.frames = Frame.invoking theMethod args0 :: below0 := rfl
set_option maxRecDepth 65536 in
theorem w_args : argsFit about1.vm theMethod args0 = true := by decide +kernel
set_option maxRecDepth 65536 in
theorem w_heap : heapFits about1 = true := by decide +kernel
set_option maxRecDepth 65536 in
theorem w_runnable : about1.curStatus? = some .runnable := by decide +kernel
set_option maxRecDepth 65536 in
theorem w_alone : about1.alone = true := by decide +kernel
set_option maxRecDepth 65536 in
theorem w_named : about1.methodNamed? x = some theMethod := by decide +kernel
set_option maxRecDepth 65536 in
theorem w_hears : about1.hears theMethod below0 = true := by decide +kernel
set_option maxRecDepth 65536 in
theorem w_ripe : about1.ripe theMethod args0 below0 = true := by decide +kernel
theorem w_running : about1.status = .running := rfl
set_option maxRecDepth 65536 in
theorem w_room : about1.hasRoom e0.platform room_1 = true :=
  launch0.hasRoom_least _ room_1 (by decide +kernel) (by decide +kernel) (by decide +kernel) (by decide +kernel) (by decide +kernel) (by decide +kernel)
theorem allAtoms_all (ts : List Jvm.Cond) (a : Array Jvm.Value) (st : Jvm.State) : (allAtoms ts).before a st = ts.all (fun c => c.before a st) := by
  induction ts with
  | nil => rfl
  | cons c t ih =>
    show (Jvm.Cond.and c (allAtoms t)).before a st = _
    rw [Jvm.Cond.before_and, ih, List.all_cons]
def words1 : List Jvm.Cond := Jvm.Cond.code x code maxLocals ret :: tables_1
/-- a 'code' word, met by the world's own term for the bytes: nothing is compared byte by byte -/
theorem code_word {y : MethodName} {bytes : ByteArray} {mx : Nat} {rt : Option FieldType} {a : Array Value} {s : State} {m : MethodId} {meth : Method} {c : Code} (h1 : s.methodNamed? y = some m) (h2 : s.vm.method? m = some meth) (h3 : meth.code = some c) (h4 : c.code = bytes)
    (h5 : (c.maxLocals == mx && c.exceptionTable.isEmpty && decide (c.maxStack ≤ mostOperands) && decide (meth.sig.returnType = rt) && !meth.locks && decide (parseMethodDescriptor y.desc = some meth.sig)) = true) : (Jvm.Cond.code y bytes mx rt).before a s = true := by
  simp only [Bool.and_eq_true, beq_iff_eq, Bool.not_eq_true', decide_eq_true_eq] at h5
  obtain ⟨⟨⟨⟨⟨g1, g2⟩, g3⟩, g4⟩, g5⟩, g6⟩ := h5
  simp [Cond.before, Cond.holds, Cond.value, h1, h2, h3, h4, g1, g2, g3, g4, g5, g6]
def isCode : Jvm.Cond → Bool
  | .code _ _ _ _ => true
  | _ => false
theorem all_split {L : List Jvm.Cond} {P : Jvm.Cond → Bool} (h1 : L.all (fun c => isCode c || P c) = true) (h2 : ∀ c ∈ L.filter isCode, P c = true) : L.all P = true := by
  refine List.all_eq_true.mpr fun c hc => ?_
  have h := List.all_eq_true.mp h1 c hc
  rcases Bool.eq_false_or_eq_true (isCode c) with hi | hi
  · exact h2 c (List.mem_filter.mpr ⟨hc, hi⟩)
  · simpa [hi] using h
set_option maxRecDepth 65536 in
theorem w_c0 : (Jvm.Cond.code x code maxLocals ret).before args0 about1 = true := code_word (m := ⟨1, 1⟩) (meth := k1m1) (c := k1c1) (by decide +kernel) rfl rfl rfl (by decide +kernel)
set_option maxRecDepth 65536 in
theorem w_c1 : (Jvm.Cond.code ({ cls := "com/example/model_check_sql/modelchecksql/model/ModelReadingLocatedPinLaw", name := "draw", desc := "(I)Ljava/lang/String;" } : Jvm.MethodName) method_3_code (5 : Nat) (Option.some (Jvm.ClassFile.FieldType.object "java/lang/String"))).before args0 about1 = true := code_word (m := ⟨1, 2⟩) (meth := k1m2) (c := k1c2) (by decide +kernel) rfl rfl rfl (by decide +kernel)
set_option maxRecDepth 65536 in
theorem w_c2 : (Jvm.Cond.code ({ cls := "java/lang/String", name := "<init>", desc := "([C)V" } : Jvm.MethodName) jdk_42_method_3_code (2 : Nat) (Option.none : Option Jvm.ClassFile.FieldType)).before args0 about1 = true := code_word (m := ⟨7, 1⟩) (meth := k7m1) (c := k7c1) (by decide +kernel) rfl rfl rfl (by decide +kernel)
set_option maxRecDepth 65536 in
theorem w_c3 : (Jvm.Cond.code ({ cls := "java/lang/String", name := "<init>", desc := "([CIILjava/lang/Void;)V" } : Jvm.MethodName) jdk_42_method_149_code (6 : Nat) (Option.none : Option Jvm.ClassFile.FieldType)).before args0 about1 = true := code_word (m := ⟨7, 6⟩) (meth := k7m6) (c := k7c6) (by decide +kernel) rfl rfl rfl (by decide +kernel)
set_option maxRecDepth 65536 in
theorem w_c4 : (Jvm.Cond.code ({ cls := "java/lang/Object", name := "<init>", desc := "()V" } : Jvm.MethodName) object_method_1_code (1 : Nat) (Option.none : Option Jvm.ClassFile.FieldType)).before args0 about1 = true := code_word (m := ⟨0, 0⟩) (meth := k0m0) (c := k0c0) (by decide +kernel) rfl rfl rfl (by decide +kernel)
set_option maxRecDepth 65536 in
theorem w_c5 : (Jvm.Cond.code ({ cls := "com/example/model_check_sql/modelchecksql/model/ModelReading", name := "located", desc := "(Ljava/lang/String;Ljava/lang/String;)Lcom/example/model_check_sql/modelchecksql/model/ModelFormatException;" } : Jvm.MethodName) prog_21_method_6_code (2 : Nat) (Option.some (Jvm.ClassFile.FieldType.object "com/example/model_check_sql/modelchecksql/model/ModelFormatException"))).before args0 about1 = true := code_word (m := ⟨8, 1⟩) (meth := k8m1) (c := k8c1) (by decide +kernel) rfl rfl rfl (by decide +kernel)
set_option maxRecDepth 65536 in
theorem w_c6 : (Jvm.Cond.code ({ cls := "java/lang/StringBuilder", name := "<init>", desc := "()V" } : Jvm.MethodName) jdk_67_method_1_code (1 : Nat) (Option.none : Option Jvm.ClassFile.FieldType)).before args0 about1 = true := code_word (m := ⟨16, 0⟩) (meth := k16m0) (c := k16c0) (by decide +kernel) rfl rfl rfl (by decide +kernel)
set_option maxRecDepth 65536 in
theorem w_c7 : (Jvm.Cond.code ({ cls := "java/lang/AbstractStringBuilder", name := "<init>", desc := "(I)V" } : Jvm.MethodName) jdk_68_method_2_code (2 : Nat) (Option.none : Option Jvm.ClassFile.FieldType)).before args0 about1 = true := code_word (m := ⟨15, 1⟩) (meth := k15m1) (c := k15c1) (by decide +kernel) rfl rfl rfl (by decide +kernel)
set_option maxRecDepth 65536 in
theorem w_c8 : (Jvm.Cond.code ({ cls := "java/lang/StringBuilder", name := "append", desc := "(Ljava/lang/String;)Ljava/lang/StringBuilder;" } : Jvm.MethodName) jdk_67_method_7_code (2 : Nat) (Option.some (Jvm.ClassFile.FieldType.object "java/lang/StringBuilder"))).before args0 about1 = true := code_word (m := ⟨16, 1⟩) (meth := k16m1) (c := k16c1) (by decide +kernel) rfl rfl rfl (by decide +kernel)
set_option maxRecDepth 65536 in
theorem w_c9 : (Jvm.Cond.code ({ cls := "java/lang/AbstractStringBuilder", name := "append", desc := "(Ljava/lang/String;)Ljava/lang/AbstractStringBuilder;" } : Jvm.MethodName) jdk_68_method_22_code (3 : Nat) (Option.some (Jvm.ClassFile.FieldType.object "java/lang/AbstractStringBuilder"))).before args0 about1 = true := code_word (m := ⟨15, 4⟩) (meth := k15m4) (c := k15c4) (by decide +kernel) rfl rfl rfl (by decide +kernel)
set_option maxRecDepth 65536 in
theorem w_c10 : (Jvm.Cond.code ({ cls := "java/lang/String", name := "length", desc := "()I" } : Jvm.MethodName) jdk_42_method_54_code (1 : Nat) (Option.some Jvm.ClassFile.FieldType.int)).before args0 about1 = true := code_word (m := ⟨7, 3⟩) (meth := k7m3) (c := k7c3) (by decide +kernel) rfl rfl rfl (by decide +kernel)
set_option maxRecDepth 65536 in
theorem w_c11 : (Jvm.Cond.code ({ cls := "java/lang/String", name := "coder", desc := "()B" } : Jvm.MethodName) jdk_42_method_152_code (1 : Nat) (Option.some Jvm.ClassFile.FieldType.byte)).before args0 about1 = true := code_word (m := ⟨7, 8⟩) (meth := k7m8) (c := k7c8) (by decide +kernel) rfl rfl rfl (by decide +kernel)
set_option maxRecDepth 65536 in
theorem w_c12 : (Jvm.Cond.code ({ cls := "java/lang/AbstractStringBuilder", name := "ensureCapacityInternal", desc := "(I)V" } : Jvm.MethodName) jdk_68_method_9_code (3 : Nat) (Option.none : Option Jvm.ClassFile.FieldType)).before args0 about1 = true := code_word (m := ⟨15, 3⟩) (meth := k15m3) (c := k15c3) (by decide +kernel) rfl rfl rfl (by decide +kernel)
set_option maxRecDepth 65536 in
theorem w_c13 : (Jvm.Cond.code ({ cls := "java/lang/AbstractStringBuilder", name := "putStringAt", desc := "(ILjava/lang/String;)V" } : Jvm.MethodName) jdk_68_method_73_code (3 : Nat) (Option.none : Option Jvm.ClassFile.FieldType)).before args0 about1 = true := code_word (m := ⟨15, 8⟩) (meth := k15m8) (c := k15c8) (by decide +kernel) rfl rfl rfl (by decide +kernel)
set_option maxRecDepth 65536 in
theorem w_c14 : (Jvm.Cond.code ({ cls := "java/lang/AbstractStringBuilder", name := "inflateIfNeededFor", desc := "(Ljava/lang/String;)V" } : Jvm.MethodName) jdk_68_method_71_code (2 : Nat) (Option.none : Option Jvm.ClassFile.FieldType)).before args0 about1 = true := code_word (m := ⟨15, 7⟩) (meth := k15m7) (c := k15c7) (by decide +kernel) rfl rfl rfl (by decide +kernel)
set_option maxRecDepth 65536 in
theorem w_c15 : (Jvm.Cond.code ({ cls := "java/lang/String", name := "getBytes", desc := "([BIB)V" } : Jvm.MethodName) jdk_42_method_147_code (4 : Nat) (Option.none : Option Jvm.ClassFile.FieldType)).before args0 about1 = true := code_word (m := ⟨7, 5⟩) (meth := k7m5) (c := k7c5) (by decide +kernel) rfl rfl rfl (by decide +kernel)
set_option maxRecDepth 65536 in
theorem w_c16 : (Jvm.Cond.code ({ cls := "java/lang/StringBuilder", name := "toString", desc := "()Ljava/lang/String;" } : Jvm.MethodName) jdk_67_method_42_code (1 : Nat) (Option.some (Jvm.ClassFile.FieldType.object "java/lang/String"))).before args0 about1 = true := code_word (m := ⟨16, 2⟩) (meth := k16m2) (c := k16c2) (by decide +kernel) rfl rfl rfl (by decide +kernel)
set_option maxRecDepth 65536 in
theorem w_c17 : (Jvm.Cond.code ({ cls := "java/lang/String", name := "<init>", desc := "(Ljava/lang/StringBuilder;)V" } : Jvm.MethodName) jdk_42_method_53_code (2 : Nat) (Option.none : Option Jvm.ClassFile.FieldType)).before args0 about1 = true := code_word (m := ⟨7, 2⟩) (meth := k7m2) (c := k7c2) (by decide +kernel) rfl rfl rfl (by decide +kernel)
set_option maxRecDepth 65536 in
theorem w_c18 : (Jvm.Cond.code ({ cls := "java/lang/String", name := "<init>", desc := "(Ljava/lang/AbstractStringBuilder;Ljava/lang/Void;)V" } : Jvm.MethodName) jdk_42_method_150_code (5 : Nat) (Option.none : Option Jvm.ClassFile.FieldType)).before args0 about1 = true := code_word (m := ⟨7, 7⟩) (meth := k7m7) (c := k7c7) (by decide +kernel) rfl rfl rfl (by decide +kernel)
set_option maxRecDepth 65536 in
theorem w_c19 : (Jvm.Cond.code ({ cls := "java/lang/AbstractStringBuilder", name := "getValue", desc := "()[B" } : Jvm.MethodName) jdk_68_method_64_code (1 : Nat) (Option.some (Jvm.ClassFile.FieldType.array Jvm.ClassFile.FieldType.byte))).before args0 about1 = true := code_word (m := ⟨15, 5⟩) (meth := k15m5) (c := k15c5) (by decide +kernel) rfl rfl rfl (by decide +kernel)
set_option maxRecDepth 65536 in
theorem w_c20 : (Jvm.Cond.code ({ cls := "java/lang/StringBuilder", name := "length", desc := "()I" } : Jvm.MethodName) jdk_67_method_93_code (1 : Nat) (Option.some Jvm.ClassFile.FieldType.int)).before args0 about1 = true := code_word (m := ⟨16, 3⟩) (meth := k16m3) (c := k16c3) (by decide +kernel) rfl rfl rfl (by decide +kernel)
set_option maxRecDepth 65536 in
theorem w_c21 : (Jvm.Cond.code ({ cls := "java/lang/AbstractStringBuilder", name := "length", desc := "()I" } : Jvm.MethodName) jdk_68_method_6_code (1 : Nat) (Option.some Jvm.ClassFile.FieldType.int)).before args0 about1 = true := code_word (m := ⟨15, 2⟩) (meth := k15m2) (c := k15c2) (by decide +kernel) rfl rfl rfl (by decide +kernel)
set_option maxRecDepth 65536 in
theorem w_c22 : (Jvm.Cond.code ({ cls := "java/lang/AbstractStringBuilder", name := "isLatin1", desc := "()Z" } : Jvm.MethodName) jdk_68_method_68_code (1 : Nat) (Option.some Jvm.ClassFile.FieldType.boolean)).before args0 about1 = true := code_word (m := ⟨15, 6⟩) (meth := k15m6) (c := k15c6) (by decide +kernel) rfl rfl rfl (by decide +kernel)
set_option maxRecDepth 65536 in
theorem w_c23 : (Jvm.Cond.code ({ cls := "java/util/Arrays", name := "copyOfRange", desc := "([BII)[B" } : Jvm.MethodName) jdk_65_method_132_code (3 : Nat) (Option.some (Jvm.ClassFile.FieldType.array Jvm.ClassFile.FieldType.byte))).before args0 about1 = true := code_word (m := ⟨18, 2⟩) (meth := k18m2) (c := k18c2) (by decide +kernel) rfl rfl rfl (by decide +kernel)
set_option maxRecDepth 65536 in
theorem w_c24 : (Jvm.Cond.code ({ cls := "java/util/Arrays", name := "copyOfRangeByte", desc := "([BII)[B" } : Jvm.MethodName) jdk_65_method_133_code (5 : Nat) (Option.some (Jvm.ClassFile.FieldType.array Jvm.ClassFile.FieldType.byte))).before args0 about1 = true := code_word (m := ⟨18, 3⟩) (meth := k18m3) (c := k18c3) (by decide +kernel) rfl rfl rfl (by decide +kernel)
set_option maxRecDepth 65536 in
theorem w_c25 : (Jvm.Cond.code ({ cls := "java/util/Arrays", name := "checkLength", desc := "(II)V" } : Jvm.MethodName) jdk_65_method_131_code (2 : Nat) (Option.none : Option Jvm.ClassFile.FieldType)).before args0 about1 = true := code_word (m := ⟨18, 1⟩) (meth := k18m1) (c := k18c1) (by decide +kernel) rfl rfl rfl (by decide +kernel)
set_option maxRecDepth 65536 in
theorem w_c26 : (Jvm.Cond.code ({ cls := "java/lang/Math", name := "min", desc := "(II)I" } : Jvm.MethodName) jdk_29_method_69_code (2 : Nat) (Option.some Jvm.ClassFile.FieldType.int)).before args0 about1 = true := code_word (m := ⟨19, 1⟩) (meth := k19m1) (c := k19c1) (by decide +kernel) rfl rfl rfl (by decide +kernel)
set_option maxRecDepth 65536 in
theorem w_c27 : (Jvm.Cond.code ({ cls := "com/example/model_check_sql/modelchecksql/model/ModelFormatException", name := "<init>", desc := "(Ljava/lang/String;)V" } : Jvm.MethodName) prog_20_method_1_code (2 : Nat) (Option.none : Option Jvm.ClassFile.FieldType)).before args0 about1 = true := code_word (m := ⟨13, 0⟩) (meth := k13m0) (c := k13c0) (by decide +kernel) rfl rfl rfl (by decide +kernel)
set_option maxRecDepth 65536 in
theorem w_c28 : (Jvm.Cond.code ({ cls := "java/lang/IllegalArgumentException", name := "<init>", desc := "(Ljava/lang/String;)V" } : Jvm.MethodName) jdk_57_method_2_code (2 : Nat) (Option.none : Option Jvm.ClassFile.FieldType)).before args0 about1 = true := code_word (m := ⟨12, 1⟩) (meth := k12m1) (c := k12c1) (by decide +kernel) rfl rfl rfl (by decide +kernel)
set_option maxRecDepth 65536 in
theorem w_c29 : (Jvm.Cond.code ({ cls := "java/lang/RuntimeException", name := "<init>", desc := "(Ljava/lang/String;)V" } : Jvm.MethodName) jdk_58_method_2_code (2 : Nat) (Option.none : Option Jvm.ClassFile.FieldType)).before args0 about1 = true := code_word (m := ⟨11, 1⟩) (meth := k11m1) (c := k11c1) (by decide +kernel) rfl rfl rfl (by decide +kernel)
set_option maxRecDepth 65536 in
theorem w_c30 : (Jvm.Cond.code ({ cls := "java/lang/Exception", name := "<init>", desc := "(Ljava/lang/String;)V" } : Jvm.MethodName) jdk_59_method_2_code (2 : Nat) (Option.none : Option Jvm.ClassFile.FieldType)).before args0 about1 = true := code_word (m := ⟨10, 1⟩) (meth := k10m1) (c := k10c1) (by decide +kernel) rfl rfl rfl (by decide +kernel)
set_option maxRecDepth 65536 in
theorem w_c31 : (Jvm.Cond.code ({ cls := "java/lang/Throwable", name := "<init>", desc := "(Ljava/lang/String;)V" } : Jvm.MethodName) jdk_78_method_2_code (2 : Nat) (Option.none : Option Jvm.ClassFile.FieldType)).before args0 about1 = true := code_word (m := ⟨9, 1⟩) (meth := k9m1) (c := k9c1) (by decide +kernel) rfl rfl rfl (by decide +kernel)
set_option maxRecDepth 65536 in
theorem w_c32 : (Jvm.Cond.code ({ cls := "java/lang/Throwable", name := "<init>", desc := "()V" } : Jvm.MethodName) jdk_78_method_1_code (1 : Nat) (Option.none : Option Jvm.ClassFile.FieldType)).before args0 about1 = true := code_word (m := ⟨9, 0⟩) (meth := k9m0) (c := k9c0) (by decide +kernel) rfl rfl rfl (by decide +kernel)
set_option maxRecDepth 65536 in
theorem w_c33 : (Jvm.Cond.code ({ cls := "java/lang/Throwable", name := "getMessage", desc := "()Ljava/lang/String;" } : Jvm.MethodName) jdk_78_method_6_code (1 : Nat) (Option.some (Jvm.ClassFile.FieldType.object "java/lang/String"))).before args0 about1 = true := code_word (m := ⟨9, 2⟩) (meth := k9m2) (c := k9c2) (by decide +kernel) rfl rfl rfl (by decide +kernel)
set_option maxRecDepth 65536 in
theorem w_c34 : (Jvm.Cond.code ({ cls := "com/example/model_check_sql/modelchecksql/model/ModelReadingLocatedPinLaw", name := "same", desc := "(Ljava/lang/String;III)Z" } : Jvm.MethodName) method_4_code (4 : Nat) (Option.some Jvm.ClassFile.FieldType.boolean)).before args0 about1 = true := code_word (m := ⟨1, 3⟩) (meth := k1m3) (c := k1c3) (by decide +kernel) rfl rfl rfl (by decide +kernel)
set_option maxRecDepth 65536 in
theorem w_c35 : (Jvm.Cond.code ({ cls := "java/lang/String", name := "charAt", desc := "(I)C" } : Jvm.MethodName) jdk_42_method_56_code (2 : Nat) (Option.some Jvm.ClassFile.FieldType.char)).before args0 about1 = true := code_word (m := ⟨7, 4⟩) (meth := k7m4) (c := k7c4) (by decide +kernel) rfl rfl rfl (by decide +kernel)
set_option maxRecDepth 65536 in
theorem w_c36 : (Jvm.Cond.code ({ cls := "java/lang/String", name := "isLatin1", desc := "()Z" } : Jvm.MethodName) jdk_42_method_154_code (1 : Nat) (Option.some Jvm.ClassFile.FieldType.boolean)).before args0 about1 = true := code_word (m := ⟨7, 9⟩) (meth := k7m9) (c := k7c9) (by decide +kernel) rfl rfl rfl (by decide +kernel)
set_option maxRecDepth 65536 in
theorem w_c37 : (Jvm.Cond.code ({ cls := "java/lang/StringLatin1", name := "charAt", desc := "([BI)C" } : Jvm.MethodName) jdk_43_method_2_code (2 : Nat) (Option.some Jvm.ClassFile.FieldType.char)).before args0 about1 = true := code_word (m := ⟨20, 1⟩) (meth := k20m1) (c := k20c1) (by decide +kernel) rfl rfl rfl (by decide +kernel)
set_option maxRecDepth 65536 in
theorem w_c38 : (Jvm.Cond.code ({ cls := "java/lang/String", name := "checkIndex", desc := "(II)V" } : Jvm.MethodName) jdk_42_method_155_code (2 : Nat) (Option.none : Option Jvm.ClassFile.FieldType)).before args0 about1 = true := code_word (m := ⟨7, 10⟩) (meth := k7m10) (c := k7c10) (by decide +kernel) rfl rfl rfl (by decide +kernel)
set_option maxRecDepth 65536 in
theorem w_c39 : (Jvm.Cond.code ({ cls := "jdk/internal/util/Preconditions", name := "checkIndex", desc := "(IILjava/util/function/BiFunction;)I" } : Jvm.MethodName) jdk_41_method_11_code (3 : Nat) (Option.some Jvm.ClassFile.FieldType.int)).before args0 about1 = true := code_word (m := ⟨21, 1⟩) (meth := k21m1) (c := k21c1) (by decide +kernel) rfl rfl rfl (by decide +kernel)
set_option maxRecDepth 65536 in
theorem w_c40 : (Jvm.Cond.code ({ cls := "com/example/model_check_sql/modelchecksql/model/ModelReadingLocatedPinLaw", name := "expected", desc := "(III)C" } : Jvm.MethodName) method_5_code (5 : Nat) (Option.some Jvm.ClassFile.FieldType.char)).before args0 about1 = true := code_word (m := ⟨1, 4⟩) (meth := k1m4) (c := k1c4) (by decide +kernel) rfl rfl rfl (by decide +kernel)
set_option maxRecDepth 65536 in
theorem w_c41 : (Jvm.Cond.code ({ cls := "java/lang/StringUTF16", name := "compress", desc := "([CII)[B" } : Jvm.MethodName) jdk_52_method_16_code (6 : Nat) (Option.some (Jvm.ClassFile.FieldType.array Jvm.ClassFile.FieldType.byte))).before args0 about1 = true := code_word (m := ⟨22, 2⟩) (meth := k22m2) (c := k22c2) (by decide +kernel) rfl rfl rfl (by decide +kernel)
set_option maxRecDepth 65536 in
theorem w_c42 : (Jvm.Cond.code ({ cls := "java/lang/StringUTF16", name := "compress", desc := "([CI[BII)I" } : Jvm.MethodName) jdk_52_method_21_code (7 : Nat) (Option.some Jvm.ClassFile.FieldType.int)).before args0 about1 = true := code_word (m := ⟨22, 3⟩) (meth := k22m3) (c := k22c3) (by decide +kernel) rfl rfl rfl (by decide +kernel)
set_option maxRecDepth 65536 in
theorem w_c43 : (Jvm.Cond.code ({ cls := "java/lang/StringUTF16", name := "coderFromArrayLen", desc := "([BI)B" } : Jvm.MethodName) jdk_52_method_15_code (2 : Nat) (Option.some Jvm.ClassFile.FieldType.byte)).before args0 about1 = true := code_word (m := ⟨22, 1⟩) (meth := k22m1) (c := k22c1) (by decide +kernel) rfl rfl rfl (by decide +kernel)
def codes1 : List Jvm.Cond := [Jvm.Cond.code x code maxLocals ret, Jvm.Cond.code ({ cls := "com/example/model_check_sql/modelchecksql/model/ModelReadingLocatedPinLaw", name := "draw", desc := "(I)Ljava/lang/String;" } : Jvm.MethodName) method_3_code (5 : Nat) (Option.some (Jvm.ClassFile.FieldType.object "java/lang/String")), Jvm.Cond.code ({ cls := "java/lang/String", name := "<init>", desc := "([C)V" } : Jvm.MethodName) jdk_42_method_3_code (2 : Nat) (Option.none : Option Jvm.ClassFile.FieldType), Jvm.Cond.code ({ cls := "java/lang/String", name := "<init>", desc := "([CIILjava/lang/Void;)V" } : Jvm.MethodName) jdk_42_method_149_code (6 : Nat) (Option.none : Option Jvm.ClassFile.FieldType), Jvm.Cond.code ({ cls := "java/lang/Object", name := "<init>", desc := "()V" } : Jvm.MethodName) object_method_1_code (1 : Nat) (Option.none : Option Jvm.ClassFile.FieldType), Jvm.Cond.code ({ cls := "com/example/model_check_sql/modelchecksql/model/ModelReading", name := "located", desc := "(Ljava/lang/String;Ljava/lang/String;)Lcom/example/model_check_sql/modelchecksql/model/ModelFormatException;" } : Jvm.MethodName) prog_21_method_6_code (2 : Nat) (Option.some (Jvm.ClassFile.FieldType.object "com/example/model_check_sql/modelchecksql/model/ModelFormatException")), Jvm.Cond.code ({ cls := "java/lang/StringBuilder", name := "<init>", desc := "()V" } : Jvm.MethodName) jdk_67_method_1_code (1 : Nat) (Option.none : Option Jvm.ClassFile.FieldType), Jvm.Cond.code ({ cls := "java/lang/AbstractStringBuilder", name := "<init>", desc := "(I)V" } : Jvm.MethodName) jdk_68_method_2_code (2 : Nat) (Option.none : Option Jvm.ClassFile.FieldType), Jvm.Cond.code ({ cls := "java/lang/StringBuilder", name := "append", desc := "(Ljava/lang/String;)Ljava/lang/StringBuilder;" } : Jvm.MethodName) jdk_67_method_7_code (2 : Nat) (Option.some (Jvm.ClassFile.FieldType.object "java/lang/StringBuilder")), Jvm.Cond.code ({ cls := "java/lang/AbstractStringBuilder", name := "append", desc := "(Ljava/lang/String;)Ljava/lang/AbstractStringBuilder;" } : Jvm.MethodName) jdk_68_method_22_code (3 : Nat) (Option.some (Jvm.ClassFile.FieldType.object "java/lang/AbstractStringBuilder")), Jvm.Cond.code ({ cls := "java/lang/String", name := "length", desc := "()I" } : Jvm.MethodName) jdk_42_method_54_code (1 : Nat) (Option.some Jvm.ClassFile.FieldType.int), Jvm.Cond.code ({ cls := "java/lang/String", name := "coder", desc := "()B" } : Jvm.MethodName) jdk_42_method_152_code (1 : Nat) (Option.some Jvm.ClassFile.FieldType.byte), Jvm.Cond.code ({ cls := "java/lang/AbstractStringBuilder", name := "ensureCapacityInternal", desc := "(I)V" } : Jvm.MethodName) jdk_68_method_9_code (3 : Nat) (Option.none : Option Jvm.ClassFile.FieldType), Jvm.Cond.code ({ cls := "java/lang/AbstractStringBuilder", name := "putStringAt", desc := "(ILjava/lang/String;)V" } : Jvm.MethodName) jdk_68_method_73_code (3 : Nat) (Option.none : Option Jvm.ClassFile.FieldType), Jvm.Cond.code ({ cls := "java/lang/AbstractStringBuilder", name := "inflateIfNeededFor", desc := "(Ljava/lang/String;)V" } : Jvm.MethodName) jdk_68_method_71_code (2 : Nat) (Option.none : Option Jvm.ClassFile.FieldType), Jvm.Cond.code ({ cls := "java/lang/String", name := "getBytes", desc := "([BIB)V" } : Jvm.MethodName) jdk_42_method_147_code (4 : Nat) (Option.none : Option Jvm.ClassFile.FieldType), Jvm.Cond.code ({ cls := "java/lang/StringBuilder", name := "toString", desc := "()Ljava/lang/String;" } : Jvm.MethodName) jdk_67_method_42_code (1 : Nat) (Option.some (Jvm.ClassFile.FieldType.object "java/lang/String")), Jvm.Cond.code ({ cls := "java/lang/String", name := "<init>", desc := "(Ljava/lang/StringBuilder;)V" } : Jvm.MethodName) jdk_42_method_53_code (2 : Nat) (Option.none : Option Jvm.ClassFile.FieldType), Jvm.Cond.code ({ cls := "java/lang/String", name := "<init>", desc := "(Ljava/lang/AbstractStringBuilder;Ljava/lang/Void;)V" } : Jvm.MethodName) jdk_42_method_150_code (5 : Nat) (Option.none : Option Jvm.ClassFile.FieldType), Jvm.Cond.code ({ cls := "java/lang/AbstractStringBuilder", name := "getValue", desc := "()[B" } : Jvm.MethodName) jdk_68_method_64_code (1 : Nat) (Option.some (Jvm.ClassFile.FieldType.array Jvm.ClassFile.FieldType.byte)), Jvm.Cond.code ({ cls := "java/lang/StringBuilder", name := "length", desc := "()I" } : Jvm.MethodName) jdk_67_method_93_code (1 : Nat) (Option.some Jvm.ClassFile.FieldType.int), Jvm.Cond.code ({ cls := "java/lang/AbstractStringBuilder", name := "length", desc := "()I" } : Jvm.MethodName) jdk_68_method_6_code (1 : Nat) (Option.some Jvm.ClassFile.FieldType.int), Jvm.Cond.code ({ cls := "java/lang/AbstractStringBuilder", name := "isLatin1", desc := "()Z" } : Jvm.MethodName) jdk_68_method_68_code (1 : Nat) (Option.some Jvm.ClassFile.FieldType.boolean), Jvm.Cond.code ({ cls := "java/util/Arrays", name := "copyOfRange", desc := "([BII)[B" } : Jvm.MethodName) jdk_65_method_132_code (3 : Nat) (Option.some (Jvm.ClassFile.FieldType.array Jvm.ClassFile.FieldType.byte)), Jvm.Cond.code ({ cls := "java/util/Arrays", name := "copyOfRangeByte", desc := "([BII)[B" } : Jvm.MethodName) jdk_65_method_133_code (5 : Nat) (Option.some (Jvm.ClassFile.FieldType.array Jvm.ClassFile.FieldType.byte)), Jvm.Cond.code ({ cls := "java/util/Arrays", name := "checkLength", desc := "(II)V" } : Jvm.MethodName) jdk_65_method_131_code (2 : Nat) (Option.none : Option Jvm.ClassFile.FieldType), Jvm.Cond.code ({ cls := "java/lang/Math", name := "min", desc := "(II)I" } : Jvm.MethodName) jdk_29_method_69_code (2 : Nat) (Option.some Jvm.ClassFile.FieldType.int), Jvm.Cond.code ({ cls := "com/example/model_check_sql/modelchecksql/model/ModelFormatException", name := "<init>", desc := "(Ljava/lang/String;)V" } : Jvm.MethodName) prog_20_method_1_code (2 : Nat) (Option.none : Option Jvm.ClassFile.FieldType), Jvm.Cond.code ({ cls := "java/lang/IllegalArgumentException", name := "<init>", desc := "(Ljava/lang/String;)V" } : Jvm.MethodName) jdk_57_method_2_code (2 : Nat) (Option.none : Option Jvm.ClassFile.FieldType), Jvm.Cond.code ({ cls := "java/lang/RuntimeException", name := "<init>", desc := "(Ljava/lang/String;)V" } : Jvm.MethodName) jdk_58_method_2_code (2 : Nat) (Option.none : Option Jvm.ClassFile.FieldType), Jvm.Cond.code ({ cls := "java/lang/Exception", name := "<init>", desc := "(Ljava/lang/String;)V" } : Jvm.MethodName) jdk_59_method_2_code (2 : Nat) (Option.none : Option Jvm.ClassFile.FieldType), Jvm.Cond.code ({ cls := "java/lang/Throwable", name := "<init>", desc := "(Ljava/lang/String;)V" } : Jvm.MethodName) jdk_78_method_2_code (2 : Nat) (Option.none : Option Jvm.ClassFile.FieldType), Jvm.Cond.code ({ cls := "java/lang/Throwable", name := "<init>", desc := "()V" } : Jvm.MethodName) jdk_78_method_1_code (1 : Nat) (Option.none : Option Jvm.ClassFile.FieldType), Jvm.Cond.code ({ cls := "java/lang/Throwable", name := "getMessage", desc := "()Ljava/lang/String;" } : Jvm.MethodName) jdk_78_method_6_code (1 : Nat) (Option.some (Jvm.ClassFile.FieldType.object "java/lang/String")), Jvm.Cond.code ({ cls := "com/example/model_check_sql/modelchecksql/model/ModelReadingLocatedPinLaw", name := "same", desc := "(Ljava/lang/String;III)Z" } : Jvm.MethodName) method_4_code (4 : Nat) (Option.some Jvm.ClassFile.FieldType.boolean), Jvm.Cond.code ({ cls := "java/lang/String", name := "charAt", desc := "(I)C" } : Jvm.MethodName) jdk_42_method_56_code (2 : Nat) (Option.some Jvm.ClassFile.FieldType.char), Jvm.Cond.code ({ cls := "java/lang/String", name := "isLatin1", desc := "()Z" } : Jvm.MethodName) jdk_42_method_154_code (1 : Nat) (Option.some Jvm.ClassFile.FieldType.boolean), Jvm.Cond.code ({ cls := "java/lang/StringLatin1", name := "charAt", desc := "([BI)C" } : Jvm.MethodName) jdk_43_method_2_code (2 : Nat) (Option.some Jvm.ClassFile.FieldType.char), Jvm.Cond.code ({ cls := "java/lang/String", name := "checkIndex", desc := "(II)V" } : Jvm.MethodName) jdk_42_method_155_code (2 : Nat) (Option.none : Option Jvm.ClassFile.FieldType), Jvm.Cond.code ({ cls := "jdk/internal/util/Preconditions", name := "checkIndex", desc := "(IILjava/util/function/BiFunction;)I" } : Jvm.MethodName) jdk_41_method_11_code (3 : Nat) (Option.some Jvm.ClassFile.FieldType.int), Jvm.Cond.code ({ cls := "com/example/model_check_sql/modelchecksql/model/ModelReadingLocatedPinLaw", name := "expected", desc := "(III)C" } : Jvm.MethodName) method_5_code (5 : Nat) (Option.some Jvm.ClassFile.FieldType.char), Jvm.Cond.code ({ cls := "java/lang/StringUTF16", name := "compress", desc := "([CII)[B" } : Jvm.MethodName) jdk_52_method_16_code (6 : Nat) (Option.some (Jvm.ClassFile.FieldType.array Jvm.ClassFile.FieldType.byte)), Jvm.Cond.code ({ cls := "java/lang/StringUTF16", name := "compress", desc := "([CI[BII)I" } : Jvm.MethodName) jdk_52_method_21_code (7 : Nat) (Option.some Jvm.ClassFile.FieldType.int), Jvm.Cond.code ({ cls := "java/lang/StringUTF16", name := "coderFromArrayLen", desc := "([BI)B" } : Jvm.MethodName) jdk_52_method_15_code (2 : Nat) (Option.some Jvm.ClassFile.FieldType.byte)]
set_option maxRecDepth 65536 in
theorem codes_eq : words1.filter isCode = codes1 := rfl
theorem w_codes : ∀ c ∈ words1.filter isCode, c.before args0 about1 = true := by
  rw [codes_eq]
  intro c hc
  simp only [codes1, List.mem_cons, List.not_mem_nil, or_false] at hc
  rcases hc with rfl | rfl | rfl | rfl | rfl | rfl | rfl | rfl | rfl | rfl | rfl | rfl | rfl | rfl | rfl | rfl | rfl | rfl | rfl | rfl | rfl | rfl | rfl | rfl | rfl | rfl | rfl | rfl | rfl | rfl | rfl | rfl | rfl | rfl | rfl | rfl | rfl | rfl | rfl | rfl | rfl | rfl | rfl | rfl
  · exact w_c0
  · exact w_c1
  · exact w_c2
  · exact w_c3
  · exact w_c4
  · exact w_c5
  · exact w_c6
  · exact w_c7
  · exact w_c8
  · exact w_c9
  · exact w_c10
  · exact w_c11
  · exact w_c12
  · exact w_c13
  · exact w_c14
  · exact w_c15
  · exact w_c16
  · exact w_c17
  · exact w_c18
  · exact w_c19
  · exact w_c20
  · exact w_c21
  · exact w_c22
  · exact w_c23
  · exact w_c24
  · exact w_c25
  · exact w_c26
  · exact w_c27
  · exact w_c28
  · exact w_c29
  · exact w_c30
  · exact w_c31
  · exact w_c32
  · exact w_c33
  · exact w_c34
  · exact w_c35
  · exact w_c36
  · exact w_c37
  · exact w_c38
  · exact w_c39
  · exact w_c40
  · exact w_c41
  · exact w_c42
  · exact w_c43
set_option maxRecDepth 65536 in
theorem w_t1 : (words1.take 24).all (fun c => isCode c || c.before args0 about1) = true := by decide +kernel
set_option maxRecDepth 65536 in
theorem w_t2 : ((words1.drop 24).take 24).all (fun c => isCode c || c.before args0 about1) = true := by decide +kernel
set_option maxRecDepth 65536 in
theorem w_t3 : (((words1.drop 24).drop 24).take 24).all (fun c => isCode c || c.before args0 about1) = true := by decide +kernel
set_option maxRecDepth 65536 in
theorem w_t4 : ((((words1.drop 24).drop 24).drop 24).take 24).all (fun c => isCode c || c.before args0 about1) = true := by decide +kernel
set_option maxRecDepth 65536 in
theorem w_t5 : (((((words1.drop 24).drop 24).drop 24).drop 24).take 24).all (fun c => isCode c || c.before args0 about1) = true := by decide +kernel
set_option maxRecDepth 65536 in
theorem w_t6 : ((((((words1.drop 24).drop 24).drop 24).drop 24).drop 24).take 24).all (fun c => isCode c || c.before args0 about1) = true := by decide +kernel
set_option maxRecDepth 65536 in
theorem w_t7 : (((((((words1.drop 24).drop 24).drop 24).drop 24).drop 24).drop 24).take 24).all (fun c => isCode c || c.before args0 about1) = true := by decide +kernel
set_option maxRecDepth 65536 in
theorem w_t8 : ((((((((words1.drop 24).drop 24).drop 24).drop 24).drop 24).drop 24).drop 24).take 24).all (fun c => isCode c || c.before args0 about1) = true := by decide +kernel
set_option maxRecDepth 65536 in
theorem w_t9 : (((((((((words1.drop 24).drop 24).drop 24).drop 24).drop 24).drop 24).drop 24).drop 24).take 24).all (fun c => isCode c || c.before args0 about1) = true := by decide +kernel
set_option maxRecDepth 65536 in
theorem w_t10 : ((((((((((words1.drop 24).drop 24).drop 24).drop 24).drop 24).drop 24).drop 24).drop 24).drop 24).take 24).all (fun c => isCode c || c.before args0 about1) = true := by decide +kernel
set_option maxRecDepth 65536 in
theorem w_t11 : ((((((((((words1.drop 24).drop 24).drop 24).drop 24).drop 24).drop 24).drop 24).drop 24).drop 24).drop 24).all (fun c => isCode c || c.before args0 about1) = true := by decide +kernel
theorem w_tables : (allAtoms (Jvm.Cond.code x code maxLocals ret :: tables_1)).before args0 about1 = true := by
  rw [allAtoms_all]
  show words1.all (fun c => c.before args0 about1) = true
  refine all_split ?_ w_codes
  rw [← List.take_append_drop 24 words1, List.all_append, w_t1, ← List.take_append_drop 24 (words1.drop 24), List.all_append, w_t2, ← List.take_append_drop 24 ((words1.drop 24).drop 24), List.all_append, w_t3, ← List.take_append_drop 24 (((words1.drop 24).drop 24).drop 24), List.all_append, w_t4, ← List.take_append_drop 24 ((((words1.drop 24).drop 24).drop 24).drop 24), List.all_append, w_t5, ← List.take_append_drop 24 (((((words1.drop 24).drop 24).drop 24).drop 24).drop 24), List.all_append, w_t6, ← List.take_append_drop 24 ((((((words1.drop 24).drop 24).drop 24).drop 24).drop 24).drop 24), List.all_append, w_t7, ← List.take_append_drop 24 (((((((words1.drop 24).drop 24).drop 24).drop 24).drop 24).drop 24).drop 24), List.all_append, w_t8, ← List.take_append_drop 24 ((((((((words1.drop 24).drop 24).drop 24).drop 24).drop 24).drop 24).drop 24).drop 24), List.all_append, w_t9, ← List.take_append_drop 24 (((((((((words1.drop 24).drop 24).drop 24).drop 24).drop 24).drop 24).drop 24).drop 24).drop 24), List.all_append, w_t10, w_t11]
  rfl
set_option maxRecDepth 65536 in
theorem w_rest : rest_1_c.before args0 about1 = true := by decide +kernel
set_option maxRecDepth 65536 in
theorem w_case : (Jvm.Cond.and given_1 narrow_1).before args0 about1 = true := by decide +kernel
set_option maxRecDepth 65536 in
theorem w_consts : constsHeld consts_1 about1 := Jvm.Lit.constsHeldB_iff.mp (by decide +kernel)
theorem w_applies : (headSpec (Jvm.Cond.code x code maxLocals ret :: tables_1) room_1).applies x e0.platform about1 = true :=
  (Spec.applies_iff w_frames).mpr ⟨w_running, w_runnable, w_alone, w_named, w_hears, w_ripe, w_room, w_tables⟩
theorem atStart : AtStart classFile x code maxLocals ret World_1 tables_1 room_1 Calls_1 rest_1 Pre_1 launch0 p0 e0 about1 theMethod args0 below0 :=
  ⟨lists_1, trivial, launch0.admits_env _ _ _, launch0.least_env, fairChoices_fair.cas, fairChoices_fair.clock, w_frames, w_args, w_heap, w_applies, ⟨(by decide +kernel : framesKnown about1 = true), ⟨(by decide +kernel : tablesKnown about1 = true), ⟨w_consts, trivial⟩⟩⟩, w_rest, w_case⟩
end start1
theorem witness_1 : WitnessClaimed_1 := ⟨start1.p0, start1.e0, start1.about1, start1.theMethod, start1.args0, start1.below0, start1.atStart⟩
end Jvm.Pilot.@@N@@
