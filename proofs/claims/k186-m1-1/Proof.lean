import JvmDerived
import JvmDerived.Pilot.@@N@@Statement
import JvmDerived.Pilot.@@N@@Code
set_option linter.unusedVariables false
set_option linter.unusedSimpArgs false
namespace Jvm.Pilot.@@N@@
open Jvm Jvm.ClassFile Sem Op Lib Jvm.Free Jvm.Stand Jvm.LawKit Jvm.RoadKit Bundle Jvm.Pilot.@@N@@.Jvm.D
def own_Go (p : Program) (e : Env) (below : List Frame) (P : Outcome → State → Prop) (st : State) : Prop :=
  ∃ s₂ o, Steps p.tables e below st s₂ ∧ s₂.status = .running ∧ Ended s₂ below o ∧ P o s₂
def own_Fin (s : State) (C S : Nat) (Q : Option Value → Heap → List Loc → Prop) (o : Outcome) (U : State) : Prop := ∃ v L, o = .returned v ∧ Q v U.heap L ∧ FrameEnd s o U L C S
def own_upd {α : Type} (f : Nat → α) (j : Nat) (v : α) : Nat → α := fun i => if i = j then v else f i
def own_Arf (Z : State) (h : Heap) (a : Addr) (k : ClassId) (ty : FieldType) (n : Int32) (f : Nat → Value) : Prop := ∃ c : Cell, Arr Z h a c ty ∧ c.cls = k ∧ c.slots.size = n.toNatClampNeg ∧ ¬ n < 0 ∧ (∀ i, i < c.slots.size → c.slots[i]? = some (f i)) ∧ ∀ i, i < c.slots.size → fits ty (f i) = true
section OwnKit
variable {p : Program} {l : Launch} {e : Env} {R : Room} {s : State} {m : MethodId} {args : Array Value} {below : List Frame} {meth : Method} {c : Code} {T : State} {locs : List Loc} {cells slots C S : Nat} {P : Outcome → State → Prop} {Q : Option Value → Heap → List Loc → Prop} {Z : State} {h h' : Heap} {a b : Addr} {k : ClassId} {ty : FieldType} {n : Int32} {ws : List Addr}
theorem own_by {st st' : State} (f : ∀ t, Steps p.tables e below st' t → Steps p.tables e below st t) (g : own_Go p e below P st') : own_Go p e below P st := by
  obtain ⟨s₂, o, h1, h2⟩ := g
  exact ⟨s₂, o, f _ h1, h2⟩
theorem own_mono (X : Stand p l e R s m args below meth c T locs cells slots) {c' s' : Nat} (hc : cells ≤ c') (hs : slots ≤ s') : Stand p l e R s m args below meth c T locs c' s' := { X with same := X.same.mono hc hs }
theorem own_end (X : Stand p l e R s m args below meth c T locs cells slots) {v : Option Value} (hv : meth.sig.returnType = none → v = none) (hlk : meth.locks = false) (eT : T.heap = h) (hQ : Q v h locs) (hc : cells ≤ C) (hs : slots ≤ S)
    {g : JFrame} (st : ∀ fs, (∀ (f : JFrame) (acts : List Action), f.method = m → f.locked = none → f.entered = [] → (doReturn e (T.setTop f) acts v).1 = T.setFrames fs) → Steps p.tables e below (T.setTop g) (T.setFrames fs)) : own_Go p e below (own_Fin s C S Q) (T.setTop g) := by
  obtain ⟨fs, hr, hrun, hended, hW, hsame⟩ := X.leave (v := v) hv hlk
  refine ⟨_, _, st fs hr, hrun, hended, v, locs, rfl, ?_, ⟨_, rfl⟩, hW, hsame.mono hc hs⟩
  show Q v T.heap locs
  rw [eT]; exact hQ
theorem own_retN (X : Stand p l e R s m args below meth c T locs cells slots) (hx : p.tables.exec = Jvm.exec) {pc : Nat} {Ls : Array Slot} {z : Int32} {t : FieldType} {rest : List Value} (hret : meth.sig.returnType = some t) (ht : t = .boolean ∨ t = .byte ∨ t = .char ∨ t = .short) (hd : decode c.code pc = .ok (.ireturn, 1)) (hlk : meth.locks = false) (eT : T.heap = h) (hQ : Q (some (.int (nar t z))) h locs) (hc : cells ≤ C) (hs : slots ≤ S) : own_Go p e below (own_Fin s C S Q) (T.setTop (mkF m pc Ls (.int z :: rest))) :=
  own_end X (fun h => by rw [hret] at h; cases h) hlk eT hQ hc hs fun fs hr => retN X hx hret ht hd hr
theorem own_retI (X : Stand p l e R s m args below meth c T locs cells slots) (hx : p.tables.exec = Jvm.exec) {pc : Nat} {Ls : Array Slot} {z : Int32} {rest : List Value} (hret : meth.sig.returnType = some .int) (hd : decode c.code pc = .ok (.ireturn, 1)) (hlk : meth.locks = false) (eT : T.heap = h) (hQ : Q (some (.int z)) h locs) (hc : cells ≤ C) (hs : slots ≤ S) : own_Go p e below (own_Fin s C S Q) (T.setTop (mkF m pc Ls (.int z :: rest))) :=
  own_end X (fun h => by rw [hret] at h; cases h) hlk eT hQ hc hs fun fs hr => retOut X hx hret rfl (Or.inl ⟨rfl, Or.inl rfl, _, rfl⟩) hd hr
theorem own_retJ (X : Stand p l e R s m args below meth c T locs cells slots) (hx : p.tables.exec = Jvm.exec) {pc : Nat} {Ls : Array Slot} {z : Int64} {rest : List Value} (hret : meth.sig.returnType = some .long) (hd : decode c.code pc = .ok (.lreturn, 1)) (hlk : meth.locks = false) (eT : T.heap = h) (hQ : Q (some (.long z)) h locs) (hc : cells ≤ C) (hs : slots ≤ S) : own_Go p e below (own_Fin s C S Q) (T.setTop (mkF m pc Ls (.long z :: rest))) :=
  own_end X (fun h => by rw [hret] at h; cases h) hlk eT hQ hc hs fun fs hr => retOut X hx hret rfl (Or.inr (Or.inl ⟨rfl, rfl, _, rfl⟩)) hd hr
theorem own_retD (X : Stand p l e R s m args below meth c T locs cells slots) (hx : p.tables.exec = Jvm.exec) {pc : Nat} {Ls : Array Slot} {z : UInt64} {rest : List Value} (hret : meth.sig.returnType = some .double) (hd : decode c.code pc = .ok (.dreturn, 1)) (hlk : meth.locks = false) (eT : T.heap = h) (hQ : Q (some (.double z)) h locs) (hc : cells ≤ C) (hs : slots ≤ S) : own_Go p e below (own_Fin s C S Q) (T.setTop (mkF m pc Ls (.double z :: rest))) :=
  own_end X (fun h => by rw [hret] at h; cases h) hlk eT hQ hc hs fun fs hr => retOut X hx hret rfl (Or.inr (Or.inr (Or.inl ⟨rfl, rfl, _, rfl⟩))) hd hr
theorem own_retR (X : Stand p l e R s m args below meth c T locs cells slots) (hx : p.tables.exec = Jvm.exec) {pc : Nat} {Ls : Array Slot} {w : Value} {t : FieldType} {rest : List Value} (hret : meth.sig.returnType = some t) (ht : t.isReference = true) (hw : w.isRef = true) (hd : decode c.code pc = .ok (.areturn, 1)) (hlk : meth.locks = false) (eT : T.heap = h) (hQ : Q (some w) h locs) (hc : cells ≤ C) (hs : slots ≤ S) : own_Go p e below (own_Fin s C S Q) (T.setTop (mkF m pc Ls (w :: rest))) :=
  own_end X (fun h => by rw [hret] at h; cases h) hlk eT hQ hc hs fun fs hr => retOut X hx hret (by cases t <;> first | rfl | (cases w <;> first | rfl | cases hw) | (cases ht)) (Or.inr (Or.inr (Or.inr (Or.inr ⟨rfl, ht, hw⟩)))) hd hr
theorem own_ret0 (X : Stand p l e R s m args below meth c T locs cells slots) (hx : p.tables.exec = Jvm.exec) {pc : Nat} {Ls : Array Slot} (hret : meth.sig.returnType = none) (hd : decode c.code pc = .ok (.return_, 1)) (hlk : meth.locks = false) (eT : T.heap = h) (hQ : Q none h locs) (hc : cells ≤ C) (hs : slots ≤ S) : own_Go p e below (own_Fin s C S Q) (T.setTop (mkF m pc Ls [])) :=
  own_end X (fun _ => rfl) hlk eT hQ hc hs fun fs hr => X.returnOut hx hret hd hr
theorem own_one {z : Int32} (q : z = 1) : (some (.int (nar .boolean z)) : Option Value) = some (.int 1) := by subst q; rfl
theorem own_lrem {g : JFrame} {target : State} (hh : At T m c below) (hx : p.tables.exec = Jvm.exec) (hg : g.method = m) {x y : Int64} {rest : List Value} (hd : decode c.code g.pc = .ok (.lrem, 1)) (hs : g.stack = .long y :: .long x :: rest) (hy : y ≠ 0)
    (hr : Steps p.tables e below (T.setTop { g with pc := g.pc + 1, stack := .long (x % y) :: rest }) target) : Steps p.tables e below (T.setTop g) target :=
  XS.lrem hh hx hg hd hs hy (by rw [lrem_mod]; exact hr)
theorem own_Arf.lt {f : Nat → Value} (F : own_Arf Z h a k ty n f) : a < h.size := by obtain ⟨c, A, -⟩ := F; exact A.lt
theorem own_Arf.ext {f : Nat → Value} (F : own_Arf Z h a k ty n f) (E : Ext h h') : own_Arf Z h' a k ty n f := by obtain ⟨c, A, r⟩ := F; exact ⟨c, A.ext E, r⟩
theorem own_Arf.other {f : Nat → Value} {sl : Nat} {v : Value} (F : own_Arf Z h b k ty n f) (W : Wr h h' a sl v) (q : b ≠ a) : own_Arf Z h' b k ty n f := by obtain ⟨c, A, r⟩ := F; exact ⟨c, A.other W q, r⟩
theorem own_Arf.keep {f : Nat → Value} (F : own_Arf Z h a k ty n f) (K : Keep h h' ws) (q : a ∉ ws) : own_Arf Z h' a k ty n f := by obtain ⟨c, A, r⟩ := F; exact ⟨c, ⟨K.2.1 a c A.1 q, A.2⟩, r⟩
theorem own_arfNew (A : Arr Z h a (newA k ty n) ty) (q : ¬ n < 0) : own_Arf Z h a k ty n (fun _ => defaultValue ty) := ⟨_, A, rfl, sz_new _ _ _, q, fun i hi => by
  rw [sz_new] at hi; simp [newA, hi], fun i _ => by cases ty <;> rfl⟩
theorem own_arfSet {cl : Cell} {f : Nat → Value} {j : Nat} {v : Value} (A : Arr Z h a cl ty) (q1 : cl.cls = k) (S : cl.slots.size = n.toNatClampNeg) (q3 : ¬ n < 0) (H : ∀ i, i < cl.slots.size → cl.slots[i]? = some (f i)) (G : ∀ i, i < cl.slots.size → fits ty (f i) = true) (hv : fits ty v = true) (W : Wr h h' a j v) : own_Arf Z h' a k ty n (own_upd f j v) := by
  refine ⟨_, A.same W, q1, by rw [sz_set]; exact S, q3, fun i hi => ?_, fun i hi => ?_⟩
  · rw [sz_set] at hi
    by_cases u : j = i
    · subst u; simp [Cell.setSlot, hi, own_upd]
    · have := H i hi; simp only [Cell.setSlot] at this ⊢
      rw [Array.getElem?_setIfInBounds_ne u, this]; simp [own_upd, Ne.symm u]
  · rw [sz_set] at hi
    by_cases u : j = i
    · subst u; simpa [own_upd] using hv
    · have := G i hi; simpa [own_upd, Ne.symm u] using this
theorem own_arfSetI {cl : Cell} {f : Nat → Int32} {j : Nat} {v : Int32} (A : Arr Z h a cl ty) (q1 : cl.cls = k) (S : cl.slots.size = n.toNatClampNeg) (q3 : ¬ n < 0) (H : ∀ i, i < cl.slots.size → cl.slots[i]? = some (.int (f i))) (G : ∀ i, i < cl.slots.size → fits ty (.int (f i)) = true) (hv : fits ty (.int v) = true) (W : Wr h h' a j (.int v)) : own_Arf Z h' a k ty n (fun i => .int (own_upd f j v i)) := by
  have q := own_arfSet (f := fun i => .int (f i)) A q1 S q3 H G hv W
  have e : (own_upd (fun i => Value.int (f i)) j (.int v)) = (fun i => .int (own_upd f j v i)) := by funext i; simp only [own_upd]; split <;> rfl
  rw [← e]; exact q
theorem own_arfSetJ {cl : Cell} {f : Nat → Int64} {j : Nat} {v : Int64} (A : Arr Z h a cl ty) (q1 : cl.cls = k) (S : cl.slots.size = n.toNatClampNeg) (q3 : ¬ n < 0) (H : ∀ i, i < cl.slots.size → cl.slots[i]? = some (.long (f i))) (G : ∀ i, i < cl.slots.size → fits ty (.long (f i)) = true) (hv : fits ty (.long v) = true) (W : Wr h h' a j (.long v)) : own_Arf Z h' a k ty n (fun i => .long (own_upd f j v i)) := by
  have q := own_arfSet (f := fun i => .long (f i)) A q1 S q3 H G hv W
  have e : (own_upd (fun i => Value.long (f i)) j (.long v)) = (fun i => .long (own_upd f j v i)) := by funext i; simp only [own_upd]; split <;> rfl
  rw [← e]; exact q
theorem own_arfSetD {cl : Cell} {f : Nat → UInt64} {j : Nat} {v : UInt64} (A : Arr Z h a cl ty) (q1 : cl.cls = k) (S : cl.slots.size = n.toNatClampNeg) (q3 : ¬ n < 0) (H : ∀ i, i < cl.slots.size → cl.slots[i]? = some (.double (f i))) (G : ∀ i, i < cl.slots.size → fits ty (.double (f i)) = true) (hv : fits ty (.double v) = true) (W : Wr h h' a j (.double v)) : own_Arf Z h' a k ty n (fun i => .double (own_upd f j v i)) := by
  have q := own_arfSet (f := fun i => .double (f i)) A q1 S q3 H G hv W
  have e : (own_upd (fun i => Value.double (f i)) j (.double v)) = (fun i => .double (own_upd f j v i)) := by funext i; simp only [own_upd]; split <;> rfl
  rw [← e]; exact q
theorem own_neArr {A0 : Array Value} {C : String} {kk : Nat} {f : Nat → Value} (F : Exa Z h a C) (wi : (Cond.instantiable C kk).before A0 Z = true) (G : own_Arf Z h b k ty n f) : a ≠ b := by
  obtain ⟨c, A, -⟩ := G
  exact ne_arr F wi A
theorem own_selPriv {Z s : State} {A0 args : Array Value} {y : MethodName} {n : Nat} (hZ : Z.Warmed39 s.vm) (wi : (Cond.instantiable y.cls n).before A0 Z = true) (wp : (Cond.privateMethod y).before A0 Z = true) (wm : (Cond.instanceMethod y).before A0 Z = true) (hy : y.cls ≠ "java/lang/invoke/MethodHandle" ∧ y.cls ≠ "java/lang/invoke/VarHandle") : (Cond.selects y.cls y y).before args s = true := by
  have wi' : (Cond.instantiable y.cls n).before args s = true := mvT hZ wi
  obtain ⟨c, k, h1, h2, h3, h4, -⟩ := Cond.instantiable_spec wi'
  refine selects_self_of_private h1 h2 ?_ (Cond.privateMethod_at (mvP hZ wp (args := args))) (mvT hZ wm) hy
  cases hi : k.isInterface <;> simp_all
theorem own_fitR {t : FieldType} {v : Value} (h : v.isRef = true) : fits (.array t) v = true := by cases v <;> first | rfl | cases h
theorem own_fitO {t : String} {v : Value} (h : v.isRef = true) : fits (.object t) v = true := by cases v <;> first | rfl | cases h
theorem own_exaPlain {C : String} (E : Exa Z h a C) : ∀ c : Cell, h[a]? = some c → c.vm.isStatics = false := fun c hc => by
  obtain ⟨cell, k, h1, -, -, h4, -⟩ := E
  cases h1.symm.trans hc; exact h4
theorem own_arfPlain {f : Nat → Value} (F : own_Arf Z h a k ty n f) : ∀ c : Cell, h[a]? = some c → c.vm.isStatics = false := fun c hc => by
  obtain ⟨cell, A, -⟩ := F
  cases A.1.symm.trans hc; exact A.plain
theorem own_staKeep {C nn d : String} {w : Value} (F : Sta Z h C nn d w) (K : Keep h h' ws) (hp : ∀ x ∈ ws, ∀ c : Cell, h[x]? = some c → c.vm.isStatics = false) : Sta Z h' C nn d w := by
  obtain ⟨cf, i, k, f, st, cell, h1, h2, h3, h4, h5, h6, h7⟩ := F
  have hn : st ∉ ws := fun hm => by have := hp st hm cell h5; rw [h6] at this; cases this
  exact ⟨cf, i, k, f, st, cell, h1, h2, h3, h4, K.2.1 st cell h5 hn, h6, h7⟩
theorem own_cat1 {v : Value} (h : v.isRef = true) : v.category = 1 := by cases v <;> first | rfl | cases h
end OwnKit

def own_FinW (Z : State) (EL : List (String × Nat)) (s : State) (C S : Nat) (Q : Option Value → Heap → List Loc → Prop) (o : Outcome) (U : State) : Prop := ∃ v L, o = .returned v ∧ Q v U.heap L ∧ CHr Z EL s.vm s.heap U.vm U.heap ∧ ReturnedEndW s o U L C S
def own_li (l : List Int32) : Nat → Int32 := fun i => l.getD i 0
section OwnCold
variable {p : Program} {l : Launch} {e : Env} {R : Room} {s : State} {m : MethodId} {args : Array Value} {below : List Frame} {meth : Method} {c : Code} {T : State} {locs : List Loc} {cells slots C S : Nat} {Q : Option Value → Heap → List Loc → Prop} {Z : State} {h h' h0 : Heap} {a b : Addr} {k : ClassId} {ty : FieldType} {n : Int32} {ws : List Addr} {a0 : Array Value} {EL : List (String × Nat)} {vm0 : Vm} {k0 : Nat}
theorem own_endW (X : Stand p l e R (s.setVm vm0) m args below meth c T locs cells slots) (hS : s.Since vm0 k0) (hk : k0 ≤ h.size) (hZ : Z.Warmed39 vm0) (hEL : EW Z a0 EL) (hh : s.heap = h0) (CR : CHr Z EL s.vm h0 vm0 h) {v : Option Value} (hv : meth.sig.returnType = none → v = none) (hlk : meth.locks = false) (eT : T.heap = h) (hQ : Q v h locs) (hc : cells ≤ C) (hs : slots ≤ S)
    {g : JFrame} (st : ∀ fs, (∀ (f : JFrame) (acts : List Action), f.method = m → f.locked = none → f.entered = [] → (doReturn e (T.setTop f) acts v).1 = T.setFrames fs) → Steps p.tables e below (T.setTop g) (T.setFrames fs)) : own_Go p e below (own_FinW Z EL s C S Q) (T.setTop g) := by
  obtain ⟨fs, hr, hrun, hended, hret, hW, hB, hsame⟩ := X.leaveW hS (by rw [eT]; exact hk) (v := v) hv hlk
  refine ⟨_, _, st fs hr, hrun, hended, v, locs, rfl, ?_, ?_, ⟨_, rfl⟩, hW, hB, hsame.mono hc hs⟩
  · show Q v T.heap locs
    rw [eT]; exact hQ
  · show CHr Z EL s.vm s.heap T.vm T.heap
    rw [hh, eT]; exact CR.trans (CHv.at X hZ hEL CR.1)
theorem own_retNW (X : Stand p l e R (s.setVm vm0) m args below meth c T locs cells slots) (hx : p.tables.exec = Jvm.exec) (hS : s.Since vm0 k0) (hk : k0 ≤ h.size) (hZ : Z.Warmed39 vm0) (hEL : EW Z a0 EL) (hh : s.heap = h0) (CR : CHr Z EL s.vm h0 vm0 h) {pc : Nat} {Ls : Array Slot} {z : Int32} {t : FieldType} {rest : List Value} (hret : meth.sig.returnType = some t) (ht : t = .boolean ∨ t = .byte ∨ t = .char ∨ t = .short) (hd : decode c.code pc = .ok (.ireturn, 1)) (hlk : meth.locks = false) (eT : T.heap = h) (hQ : Q (some (.int (nar t z))) h locs) (hc : cells ≤ C) (hs : slots ≤ S) : own_Go p e below (own_FinW Z EL s C S Q) (T.setTop (mkF m pc Ls (.int z :: rest))) :=
  own_endW X hS hk hZ hEL hh CR (fun h => by rw [hret] at h; cases h) hlk eT hQ hc hs fun fs hr => retN X hx hret ht hd hr
theorem own_retRW (X : Stand p l e R (s.setVm vm0) m args below meth c T locs cells slots) (hx : p.tables.exec = Jvm.exec) (hS : s.Since vm0 k0) (hk : k0 ≤ h.size) (hZ : Z.Warmed39 vm0) (hEL : EW Z a0 EL) (hh : s.heap = h0) (CR : CHr Z EL s.vm h0 vm0 h) {pc : Nat} {Ls : Array Slot} {w : Value} {t : FieldType} {rest : List Value} (hret : meth.sig.returnType = some t) (ht : t.isReference = true) (hw : w.isRef = true) (hd : decode c.code pc = .ok (.areturn, 1)) (hlk : meth.locks = false) (eT : T.heap = h) (hQ : Q (some w) h locs) (hc : cells ≤ C) (hs : slots ≤ S) : own_Go p e below (own_FinW Z EL s C S Q) (T.setTop (mkF m pc Ls (w :: rest))) :=
  own_endW X hS hk hZ hEL hh CR (fun h => by rw [hret] at h; cases h) hlk eT hQ hc hs fun fs hr => retOut X hx hret (by cases t <;> first | rfl | (cases w <;> first | rfl | cases hw) | (cases ht)) (Or.inr (Or.inr (Or.inr (Or.inr ⟨rfl, ht, hw⟩)))) hd hr
theorem own_ret0W (X : Stand p l e R (s.setVm vm0) m args below meth c T locs cells slots) (hx : p.tables.exec = Jvm.exec) (hS : s.Since vm0 k0) (hk : k0 ≤ h.size) (hZ : Z.Warmed39 vm0) (hEL : EW Z a0 EL) (hh : s.heap = h0) (CR : CHr Z EL s.vm h0 vm0 h) {pc : Nat} {Ls : Array Slot} (hret : meth.sig.returnType = none) (hd : decode c.code pc = .ok (.return_, 1)) (hlk : meth.locks = false) (eT : T.heap = h) (hQ : Q none h locs) (hc : cells ≤ C) (hs : slots ≤ S) : own_Go p e below (own_FinW Z EL s C S Q) (T.setTop (mkF m pc Ls [])) :=
  own_endW X hS hk hZ hEL hh CR (fun _ => rfl) hlk eT hQ hc hs fun fs hr => X.returnOut hx hret hd hr
theorem own_arfSafe {f : Nat → Value} {vm : Vm} (F : own_Arf Z h a k ty n f) (hal : Z.vm.Alike vm) (ht : ty ≠ .byte) : Safe Z EL vm h a := by
  obtain ⟨c, A, -⟩ := F
  exact Safe.arr hal A ht
theorem own_arfLi {vs : List Int32} (V : Arv Z h b k ty n (vs.map Value.int) (.int 0)) : own_Arf Z h b k ty n (fun i => .int (own_li vs i)) := by
  obtain ⟨c, A, q1, q2, q3, H, G⟩ := V
  have e : ∀ i, (vs.map Value.int).getD i (.int 0) = .int (own_li vs i) := fun i => by
    simp only [own_li, List.getD_eq_getElem?_getD, List.getElem?_map]
    cases vs[i]? <;> rfl
  exact ⟨c, A, q1, q2, q3, fun i hi => by rw [H i hi, e], fun i hi => by show fits ty (.int (own_li vs i)) = true; rw [← e]; exact G i hi⟩
/-- one object, two sets of facts: they agree -/
theorem own_fldEqV {C n d : String} {v w : Value} (F : Fld Z h a C n d v) (G : Fld Z h a C n d w) : v = w := Classical.byContradiction fun q => F.ne G q rfl
theorem own_arfSame {f g : Nat → Value} {k' : ClassId} {n' : Int32} (F : own_Arf Z h a k ty n f) (G : own_Arf Z h a k' ty n' g) : n.toNatClampNeg = n'.toNatClampNeg ∧ ∀ i, i < n.toNatClampNeg → f i = g i := by
  obtain ⟨c, A, -, q2, -, H, -⟩ := F
  obtain ⟨c', A', -, q2', -, H', -⟩ := G
  cases A.1.symm.trans A'.1
  refine ⟨q2.symm.trans q2', fun i hi => ?_⟩
  have h1 := H i (by rw [q2]; exact hi)
  have h2 := H' i (by rw [q2]; exact hi)
  exact Option.some.inj (h1.symm.trans h2)
theorem own_since (s : State) (n : Nat) : s.Since s.vm n := (State.WarmedH.refl s).since n
end OwnCold
theorem own_landNN (x : Int64) : ¬ ((x &&& (9223372036854775807 : Int64)) < (0 : Int64)) := by
  have h := (c_andSL x 9223372036854775807).2.2 (by decide)
  rw [Int64.lt_iff_toInt_lt]
  have e : (0 : Int64).toInt = 0 := rfl
  omega
theorem own_rem (x : Int32) (d : Int) (y : Int32) (hy : y.toInt = d) (h0 : 0 < d) : 0 ≤ ((x &&& 2147483647) % y).toInt ∧ ((x &&& 2147483647) % y).toInt < d := by
  have h1 := c_and x 2147483647 (by decide)
  have h2 := (c_irem (x &&& 2147483647) y d hy).1 h1.1
  rw [h2]; exact ⟨Int.emod_nonneg _ (by omega), Int.emod_lt_of_pos _ h0⟩
theorem own_fldEq {args : Array Value} {s : State} {t : Term} {a : Addr} {C n d : String} {k : Int32} (h : (Jvm.Cond.eq (Term.field t C n d) (Term.int k)).value args s none s [] = some true) (ev : t.eval args s none [] s = some (.ref a)) : Fld s s.heap a C n d (.int k) := by
  refine Fld.start ?_
  have e1 := fld_at (C := C) (n := n) (dd := d) ev
  have e2 : (Term.int k).eval args s none [] s = some (.int k) := rfl
  simp only [Cond.value, e1, e2] at h
  cases hf : s.fieldOf? a C n d with
  | none => rw [hf] at h; simp at h
  | some v =>
    rw [hf] at h
    cases v <;> simp_all
theorem own_s16 (x : Int32) (h1 : -32768 ≤ x.toInt) (h2 : x.toInt < 32768) : x.toInt16.toInt32 = x := by
  have h := c_i2s x
  apply Int32.toInt_inj.mp
  omega
theorem own_swn (k : Int32) {a : Int32} {A : Int} (e : a.toInt = A) (h : ¬ (k = a)) : (A == k.toInt) = false := by
  apply Bool.eq_false_iff.mpr
  intro q
  exact h (Int32.toInt_inj.mp ((beq_iff_eq.mp q).symm.trans e.symm))
def own_z0 (z : Int32) : Prop := z = 0
def own_c8 (z : Int32) : Prop := ¬ (255 : Int32) < z ∧ ¬ z < 0
def own_eq3 (f g : Nat → Int32) (z : Int32) : Prop := (z = 1 ∧ f 0 = g 0 ∧ f 1 = g 1 ∧ f 2 = g 2) ∨ (z = 0 ∧ ¬ (f 0 = g 0 ∧ f 1 = g 1 ∧ f 2 = g 2))
theorem own_eqSame {Z : State} {h : Heap} {a a' t t' : Addr} {k k' : ClassId} {f g : Nat → Int32} (e : a = a') (F : Fld Z h a "java/lang/String" "value" "[B" (.ref t)) (G : Fld Z h a' "java/lang/String" "value" "[B" (.ref t')) (V : own_Arf Z h t k .byte (3 : Int32) (fun i => .int (f i))) (W : own_Arf Z h t' k' .byte (3 : Int32) (fun i => .int (g i))) : own_eq3 f g 1 := by
  subst e
  cases own_fldEqV F G
  obtain ⟨-, q⟩ := own_arfSame V W
  exact Or.inl ⟨rfl, Value.int.inj (q 0 (by decide)), Value.int.inj (q 1 (by decide)), Value.int.inj (q 2 (by decide))⟩
def own_ends (c x : Int32) : Prop := c = 13 ∨ c = 10 ∨ (x ≠ 0 ∧ (c = 133 ∨ c = 8232))
def own_is (P : Prop) (z : Int32) : Prop := (P ∧ z = 1) ∨ (¬ P ∧ z = 0)
theorem own_b8' (x k : Int32) (h : ¬ (255 : Int32) < x) (h0 : ¬ x < 0) (hk : 0 ≤ k.toInt ∧ k.toInt ≤ 127) : (k = nar .byte (x.toInt8.toInt32) ↔ x = k) := by
  have h1 := c_i2b x
  have h2 := c_i2b (x.toInt8.toInt32)
  have e : (255 : Int32).toInt = 255 := rfl
  have e0 : (0 : Int32).toInt = 0 := rfl
  rw [Int32.lt_iff_toInt_lt] at h h0
  show k = (x.toInt8.toInt32).toInt8.toInt32 ↔ x = k
  rw [← Int32.toInt_inj, ← Int32.toInt_inj]
  omega
theorem own_b8 (x : Int32) (h : ¬ (255 : Int32) < x) (h0 : ¬ x < 0) : (49 = nar .byte (x.toInt8.toInt32) ↔ x = 49) ∧ (46 = nar .byte (x.toInt8.toInt32) ↔ x = 46) := ⟨own_b8' x 49 h h0 (by decide), own_b8' x 46 h h0 (by decide)⟩
theorem own_ch0 (x : Int32) : ¬ nar .char x < 0 := by
  have h1 := c_i2c x
  have e0 : (0 : Int32).toInt = 0 := rfl
  rw [Int32.lt_iff_toInt_lt]
  show ¬ (x.toUInt32.toUInt16.toUInt32.toInt32).toInt < (0 : Int32).toInt
  omega
def own_xb (x b : Int32) : Prop := (x = 0 ∧ b = 0) ∨ (x = 1 ∧ b = 1)
theorem own_isE {P Q : Prop} {y z : Int32} (h : own_is P y) (g : own_is Q z) (e : P ↔ Q) : y = z := by
  rcases h with ⟨a, rfl⟩ | ⟨a, rfl⟩ <;> rcases g with ⟨b, rfl⟩ | ⟨b, rfl⟩
  · rfl
  · exact absurd (e.mp a) b
  · exact absurd (e.mpr b) a
  · rfl
theorem own_ne0 {args : Array Value} {s : State} {t : Term} {z : Int32} (h : (Jvm.Cond.not (Jvm.Cond.eq t (Jvm.Term.int (0 : Int32)))).value args s none s [] = some true) (ev : t.eval args s none [] s = some (.int z)) : ¬ (z = (0 : Int32)) := fun q => by
  subst q
  have e2 : (Term.int (0 : Int32)).eval args s none [] s = some (.int 0) := rfl
  simp [Cond.value, ev, e2] at h
theorem own_ex {c x b : Int32} (h : own_xb x b) : own_ends c x ↔ own_ends c b := by
  rcases h with ⟨rfl, rfl⟩ | ⟨rfl, rfl⟩ <;> exact Iff.rfl
theorem own_eqDiff {Z : State} {h : Heap} {a a' t t' : Addr} {k k' : ClassId} {n n' : Int32} {f g : Nat → Int32} (e : a = a') (F : Fld Z h a "java/lang/String" "value" "[B" (.ref t)) (G : Fld Z h a' "java/lang/String" "value" "[B" (.ref t')) (V : own_Arf Z h t k .byte n (fun i => .int (f i))) (W : own_Arf Z h t' k' .byte n' (fun i => .int (g i))) (q : n.toNatClampNeg ≠ n'.toNatClampNeg) : own_z0 1 := by
  subst e
  cases own_fldEqV F G
  exact absurd (own_arfSame V W).1 q
theorem own_land255 (y : Int64) : 0 ≤ (y &&& (255 : Int64)).toInt ∧ (y &&& (255 : Int64)).toInt ≤ 255 := by
  have h : (y &&& (255 : Int64)).toBitVec.toNat ≤ 255 := by
    rw [Int64.toBitVec_and, BitVec.toNat_and]
    exact Nat.and_le_right
  have e : (y &&& (255 : Int64)).toInt = (y &&& (255 : Int64)).toBitVec.toInt := rfl
  rw [e, BitVec.toInt_eq_toNat_of_lt (by omega)]
  omega
theorem own_chL (y : Int64) : own_c8 (nar .char ((y &&& (255 : Int64)).toInt32.toUInt32.toUInt16.toUInt32.toInt32)) := by
  have h0 := own_land255 y
  have h1 := c_l2i (y &&& (255 : Int64))
  have r := rng32 (y &&& (255 : Int64)).toInt32
  have h2 := c_i2c (y &&& (255 : Int64)).toInt32
  have h3 := c_i2c ((y &&& (255 : Int64)).toInt32.toUInt32.toUInt16.toUInt32.toInt32)
  have e : (255 : Int32).toInt = 255 := rfl
  have e0 : (0 : Int32).toInt = 0 := rfl
  unfold own_c8
  rw [Int32.lt_iff_toInt_lt, Int32.lt_iff_toInt_lt]
  show ¬ (255 : Int32).toInt < (((y &&& (255 : Int64)).toInt32.toUInt32.toUInt16.toUInt32.toInt32).toUInt32.toUInt16.toUInt32.toInt32).toInt ∧ ¬ (((y &&& (255 : Int64)).toInt32.toUInt32.toUInt16.toUInt32.toInt32).toUInt32.toUInt16.toUInt32.toInt32).toInt < (0 : Int32).toInt
  omega
/-- a char of 0 to 255, stored into a char[] -/
theorem own_c8n {x : Int32} (h : own_c8 x) : own_c8 (nar .char x) := by
  unfold own_c8 at *
  rw [Int32.lt_iff_toInt_lt, Int32.lt_iff_toInt_lt] at *
  have h2 := c_i2c x
  have e : (255 : Int32).toInt = 255 := rfl
  have e0 : (0 : Int32).toInt = 0 := rfl
  show ¬ (255 : Int32).toInt < (x.toUInt32.toUInt16.toUInt32.toInt32).toInt ∧ ¬ (x.toUInt32.toUInt16.toUInt32.toInt32).toInt < (0 : Int32).toInt
  omega
theorem own_and255 (x : Int32) : (x &&& (255 : Int32)).toInt = x.toInt % 256 := by
  have h : (x &&& (255 : Int32)).toBitVec.toNat = x.toBitVec.toNat % 256 := by
    rw [Int32.toBitVec_and, BitVec.toNat_and]
    exact Nat.and_two_pow_sub_one_eq_mod _ 8
  have e : (x &&& (255 : Int32)).toInt = (x &&& (255 : Int32)).toBitVec.toInt := rfl
  have e2 : x.toInt = x.toBitVec.toInt := rfl
  rw [e, e2, BitVec.toInt_eq_toNat_of_lt (by omega), h, BitVec.toInt_eq_toNat_cond]
  split <;> omega
/-- charAt of a byte -/
theorem own_at (y k : Int32) (hk : 0 ≤ k.toInt ∧ k.toInt ≤ 127) : nar .char (((nar .byte y) &&& (255 : Int32)).toUInt32.toUInt16.toUInt32.toInt32) = k ↔ k = nar .byte y := by
  have h1 := c_i2b y
  have h2 := c_i2c ((y.toInt8.toInt32) &&& (255 : Int32))
  have h3 := c_i2c (((y.toInt8.toInt32) &&& (255 : Int32)).toUInt32.toUInt16.toUInt32.toInt32)
  have h4 := c_and (y.toInt8.toInt32) 255 (by decide)
  have h5 : ((y.toInt8.toInt32) &&& (255 : Int32)).toInt = (y.toInt8.toInt32).toInt % 256 := own_and255 _
  have e : (255 : Int32).toInt = 255 := rfl
  show ((((y.toInt8.toInt32) &&& (255 : Int32)).toUInt32.toUInt16.toUInt32.toInt32).toUInt32.toUInt16.toUInt32.toInt32) = k ↔ k = y.toInt8.toInt32
  rw [← Int32.toInt_inj, ← Int32.toInt_inj]
  omega
theorem own_refV {args : Array Value} {s : State} {t : Term} (h : (Jvm.Cond.isRef t).value args s none s [] = some true) : ∃ v, t.eval args s none [] s = some v ∧ v.isRef = true := by
  cases e : t.eval args s none [] s with
  | none => simp [Cond.value, e] at h
  | some v => exact ⟨v, rfl, by cases v <;> first | rfl | simp [Cond.value, e] at h⟩
theorem own_at2 (y k : Int32) (hk : 0 ≤ k.toInt ∧ k.toInt ≤ 127) : nar .char (nar .char (((nar .byte y) &&& (255 : Int32)).toUInt32.toUInt16.toUInt32.toInt32)) = k ↔ k = nar .byte y := by
  have e : nar .char (nar .char (((nar .byte y) &&& (255 : Int32)).toUInt32.toUInt16.toUInt32.toInt32)) = nar .char (((nar .byte y) &&& (255 : Int32)).toUInt32.toUInt16.toUInt32.toInt32) := by
    have h3 := c_i2c (((nar .byte y) &&& (255 : Int32)).toUInt32.toUInt16.toUInt32.toInt32)
    have h4 := c_i2c ((((nar .byte y) &&& (255 : Int32)).toUInt32.toUInt16.toUInt32.toInt32).toUInt32.toUInt16.toUInt32.toInt32)
    show ((((nar .byte y) &&& (255 : Int32)).toUInt32.toUInt16.toUInt32.toInt32).toUInt32.toUInt16.toUInt32.toInt32).toUInt32.toUInt16.toUInt32.toInt32 = (((nar .byte y) &&& (255 : Int32)).toUInt32.toUInt16.toUInt32.toInt32).toUInt32.toUInt16.toUInt32.toInt32
    rw [← Int32.toInt_inj]
    omega
  rw [e]
  exact own_at y k hk
theorem own_eq3I {w1 w2 w3 o : Int32} (h : own_eq3 (own_li [49, 46, 49]) (own_upd (own_upd (own_upd (fun _ => (0 : Int32)) 0 w1) 1 w2) 2 w3) o) : (o = 1 ∧ 49 = w1 ∧ 46 = w2 ∧ 49 = w3) ∨ (o = 0 ∧ ¬ (49 = w1 ∧ 46 = w2 ∧ 49 = w3)) := h
theorem own_x1 {x : Int32} (h : ∃ o, own_eq3 (own_li [49, 46, 49]) (own_li [49, 46, 49]) o ∧ x = nar .boolean o) : own_xb x 1 := by
  obtain ⟨o, ⟨rfl, -⟩ | ⟨rfl, q⟩, rfl⟩ := h
  · exact Or.inr ⟨rfl, rfl⟩
  · exact absurd ⟨rfl, rfl, rfl⟩ q
theorem own_x0 {x : Int32} (h : ∃ o, own_eq3 (own_li [49, 46, 49]) (own_li [49, 46, 48]) o ∧ x = nar .boolean o) : own_xb x 0 := by
  obtain ⟨o, ⟨rfl, -, -, q⟩ | ⟨rfl, q⟩, rfl⟩ := h
  · exact absurd q (by decide)
  · exact Or.inl ⟨rfl, rfl⟩
theorem own_xz {x : Int32} (h : ∃ o, own_z0 o ∧ x = nar .boolean o) : own_xb x 0 := by
  obtain ⟨o, rfl, rfl⟩ := h
  exact Or.inl ⟨rfl, rfl⟩
theorem own_x5 {u v w x b : Int32} (hj : (nar .char (nar .char (((nar .byte u) &&& (255 : Int32)).toUInt32.toUInt16.toUInt32.toInt32)) = 49 ∧ nar .char (nar .char (((nar .byte v) &&& (255 : Int32)).toUInt32.toUInt16.toUInt32.toInt32)) = 46 ∧ nar .char (nar .char (((nar .byte w) &&& (255 : Int32)).toUInt32.toUInt16.toUInt32.toInt32)) = 49 ∧ b = 1) ∨ (nar .char (nar .char (((nar .byte u) &&& (255 : Int32)).toUInt32.toUInt16.toUInt32.toInt32)) = 49 ∧ nar .char (nar .char (((nar .byte v) &&& (255 : Int32)).toUInt32.toUInt16.toUInt32.toInt32)) = 46 ∧ ¬ nar .char (nar .char (((nar .byte w) &&& (255 : Int32)).toUInt32.toUInt16.toUInt32.toInt32)) = 49 ∧ b = 0) ∨ (nar .char (nar .char (((nar .byte u) &&& (255 : Int32)).toUInt32.toUInt16.toUInt32.toInt32)) = 49 ∧ ¬ nar .char (nar .char (((nar .byte v) &&& (255 : Int32)).toUInt32.toUInt16.toUInt32.toInt32)) = 46 ∧ b = 0) ∨ (¬ nar .char (nar .char (((nar .byte u) &&& (255 : Int32)).toUInt32.toUInt16.toUInt32.toInt32)) = 49 ∧ b = 0)) (h : ∃ o, own_eq3 (own_li [49, 46, 49]) (own_upd (own_upd (own_upd (fun _ => (0 : Int32)) 0 (nar .byte u)) 1 (nar .byte v)) 2 (nar .byte w)) o ∧ x = nar .boolean o) : own_xb x b := by
  rw [own_at2 u 49 (by decide), own_at2 v 46 (by decide), own_at2 w 49 (by decide)] at hj
  obtain ⟨o, h, rfl⟩ := h
  rcases own_eq3I h with ⟨rfl, h1, h2, h3⟩ | ⟨rfl, hn⟩
  · rcases hj with ⟨-, -, -, q⟩ | ⟨-, -, q, -⟩ | ⟨-, q, -⟩ | ⟨q, -⟩
    · exact Or.inr ⟨rfl, q⟩
    · exact absurd h3 q
    · exact absurd h2 q
    · exact absurd h1 q
  · rcases hj with ⟨q1, q2, q3, -⟩ | ⟨-, -, -, q⟩ | ⟨-, -, q⟩ | ⟨-, q⟩
    · exact absurd ⟨q1, q2, q3⟩ hn
    · exact Or.inl ⟨rfl, q⟩
    · exact Or.inl ⟨rfl, q⟩
    · exact Or.inl ⟨rfl, q⟩
theorem own_x7 {w x b : Int32} (hj : (nar .char (nar .char (((nar .byte w) &&& (255 : Int32)).toUInt32.toUInt16.toUInt32.toInt32)) = 49 ∧ b = 1) ∨ (¬ nar .char (nar .char (((nar .byte w) &&& (255 : Int32)).toUInt32.toUInt16.toUInt32.toInt32)) = 49 ∧ b = 0)) (h : ∃ o, own_eq3 (own_li [49, 46, 49]) (own_upd (own_upd (own_upd (fun _ => (0 : Int32)) 0 (49 : Int32)) 1 (46 : Int32)) 2 (nar .byte w)) o ∧ x = nar .boolean o) : own_xb x b := by
  rw [own_at2 w 49 (by decide)] at hj
  obtain ⟨o, h, rfl⟩ := h
  rcases own_eq3I h with ⟨rfl, h1, h2, h3⟩ | ⟨rfl, hn⟩
  · rcases hj with ⟨-, q⟩ | ⟨q, -⟩
    · exact Or.inr ⟨rfl, q⟩
    · exact absurd h3 q
  · rcases hj with ⟨q3, -⟩ | ⟨-, q⟩
    · exact absurd ⟨rfl, rfl, q3⟩ hn
    · exact Or.inl ⟨rfl, q⟩
theorem own_zc {z p : Int32} (hz : z = 13 ∨ z = 10 ∨ z = 133 ∨ z = 8232 ∨ z = 8233 ∨ z = 12 ∨ z = p &&& 65535) : z.toUInt32.toUInt16.toUInt32.toInt32 = z := by
  rcases hz with rfl | rfl | rfl | rfl | rfl | rfl | rfl
  · rfl
  · rfl
  · rfl
  · rfl
  · rfl
  · rfl
  · have h1 := c_and p 65535 (by decide)
    have h2 := c_i2c (p &&& 65535)
    have e : (65535 : Int32).toInt = 65535 := rfl
    rw [← Int32.toInt_inj]
    omega
theorem own_finE {z p v E x b o : Int32} (hz : z = 13 ∨ z = 10 ∨ z = 133 ∨ z = 8232 ∨ z = 8233 ∨ z = 12 ∨ z = p &&& 65535) (hv : z.toUInt32.toUInt16.toUInt32.toInt32 = v) (hE : (z = 10 ∧ E = 1) ∨ (¬ z = 10 ∧ z = 13 ∧ E = 1) ∨ (¬ z = 10 ∧ ¬ z = 13 ∧ z = 133 ∧ E = b) ∨ (¬ z = 10 ∧ ¬ z = 13 ∧ ¬ z = 133 ∧ z = 8232 ∧ E = b) ∨ (¬ z = 10 ∧ ¬ z = 13 ∧ ¬ z = 133 ∧ ¬ z = 8232 ∧ E = 0)) (hx : own_xb x b) (ho : own_is (own_ends v x) o) (ne : ¬ o = E) : False := by
  rw [own_zc hz] at hv
  subst hv
  rw [own_ex hx] at ho
  have hE' : own_is (own_ends z b) E := by
    clear ho ne hz
    have hb : (b = 0 ∨ b = 1) := by rcases hx with ⟨-, h⟩ | ⟨-, h⟩ <;> simp [h]
    clear hx
    simp only [own_is, own_ends]
    grind
  exact ne (own_isE ho hE' Iff.rfl)
abbrev vI (x : Int32) : Slot := Slot.val (Value.int x)
abbrev vJ (x : Int64) : Slot := Slot.val (Value.long x)
abbrev vR (x : Addr) : Slot := Slot.val (Value.ref x)
abbrev vD (x : UInt64) : Slot := Slot.val (Value.double x)
theorem own_atoms : ∀ a ∈ Bundle.stringAtoms, a ∈ tables_1 := by decide +kernel
theorem own_EW {Z : State} {A0 : Array Value} (hw : ∀ d ∈ tables_1, d.before A0 Z = true) : EW Z A0 consts_1 := (EW.cons (hw _ (List.mem_of_getElem? (i := 13) rfl)) (by decide) (EW.cons (hw _ (List.mem_of_getElem? (i := 100) rfl)) (by decide) (EW.cons (hw _ (List.mem_of_getElem? (i := 76) rfl)) (by decide) (EW.cons (hw _ (List.mem_of_getElem? (i := 98) rfl)) (by decide) EW.nil))))
theorem d9_0 : decode jdk_52_method_21_code 0 = .ok (.iconst 0, 1) := by decide +kernel
theorem d9_1 : decode jdk_52_method_21_code 1 = .ok (.istore 5, 2) := by decide +kernel
theorem d9_3 : decode jdk_52_method_21_code 3 = .ok (.iload 5, 2) := by decide +kernel
theorem d9_5 : decode jdk_52_method_21_code 5 = .ok (.iload 4, 2) := by decide +kernel
theorem d9_7 : decode jdk_52_method_21_code 7 = .ok (.if_icmp .ge 37, 3) := by decide +kernel
theorem d9_10 : decode jdk_52_method_21_code 10 = .ok (.aload_n 0, 1) := by decide +kernel
theorem d9_11 : decode jdk_52_method_21_code 11 = .ok (.iload_n 1, 1) := by decide +kernel
theorem d9_12 : decode jdk_52_method_21_code 12 = .ok (.caload, 1) := by decide +kernel
theorem d9_13 : decode jdk_52_method_21_code 13 = .ok (.istore 6, 2) := by decide +kernel
theorem d9_15 : decode jdk_52_method_21_code 15 = .ok (.iload 6, 2) := by decide +kernel
theorem d9_17 : decode jdk_52_method_21_code 17 = .ok (.sipush 255, 3) := by decide +kernel
theorem d9_20 : decode jdk_52_method_21_code 20 = .ok (.if_icmp .le 6, 3) := by decide +kernel
theorem d9_26 : decode jdk_52_method_21_code 26 = .ok (.aload_n 2, 1) := by decide +kernel
theorem d9_27 : decode jdk_52_method_21_code 27 = .ok (.iload_n 3, 1) := by decide +kernel
theorem d9_28 : decode jdk_52_method_21_code 28 = .ok (.iload 6, 2) := by decide +kernel
theorem d9_30 : decode jdk_52_method_21_code 30 = .ok (.i2b, 1) := by decide +kernel
theorem d9_31 : decode jdk_52_method_21_code 31 = .ok (.bastore, 1) := by decide +kernel
theorem d9_32 : decode jdk_52_method_21_code 32 = .ok (.iinc 1 1, 3) := by decide +kernel
theorem d9_35 : decode jdk_52_method_21_code 35 = .ok (.iinc 3 1, 3) := by decide +kernel
theorem d9_38 : decode jdk_52_method_21_code 38 = .ok (.iinc 5 1, 3) := by decide +kernel
theorem d9_41 : decode jdk_52_method_21_code 41 = .ok (.goto (-38), 3) := by decide +kernel
theorem d9_44 : decode jdk_52_method_21_code 44 = .ok (.iload 4, 2) := by decide +kernel
theorem d9_46 : decode jdk_52_method_21_code 46 = .ok (.ireturn, 1) := by decide +kernel
theorem pn_cmp2 : plainName "java/lang/StringUTF16" = true := by first | (simp [plainName, overriddenIn]; done) | decide +kernel
theorem ef_cmp2 (m : MethodId) (a0 : Addr) (a2 : Addr) : entryFrame m #[(.ref a0), (.int (0 : Int32)), (.ref a2), (.int (0 : Int32)), (.int (2 : Int32))] 7 = mkF m 0 #[vR a0, vI (0 : Int32), vR a2, vI (0 : Int32), vI (2 : Int32), .unset, .unset] [] := by first | (simp [entryFrame, mkF, argsToLocals, Value.category]; done) | rfl
def Qcmp2 (Z : State) (k_a0 : ClassId) (fn_a0 : Nat → Int32) (k_a2 : ClassId) (fn_a2 : Nat → Int32) (a0 : Addr) (a2 : Addr) (h0 : Heap) (n0 : Nat) (v : Option Value) (h : Heap) (L : List Loc) : Prop := v = some (.int (2 : Int32)) ∧ Fr n0 L ∧ Keep h0 h [a2] ∧ own_Arf Z h a2 k_a2 .byte (2 : Int32) (fun i => .int ((own_upd (own_upd fn_a2 0 (nar .byte ((fn_a0 0).toInt8.toInt32))) 1 (nar .byte ((fn_a0 1).toInt8.toInt32))) i))
set_option maxRecDepth 65536 in
set_option maxHeartbeats 40000000 in
theorem rmcmp2 (l : Launch) (Z : State) (A0 : Array Value) (hw : ∀ d ∈ tables_1, d.before A0 Z = true) (ws : List Jvm.Cond) (k_a0 : ClassId) (fn_a0 : Nat → Int32) (k_a2 : ClassId) (fn_a2 : Nat → Int32) (a0 : Addr) (a2 : Addr) (h0 : Heap) (n0 : Nat) (Z0 : n0 ≤ h0.size) (P_V_a0 : own_Arf Z h0 a0 k_a0 .char (2 : Int32) (fun i => .int (fn_a0 i))) (P_V_a2 : own_Arf Z h0 a2 k_a2 .byte (2 : Int32) (fun i => .int (fn_a2 i))) (hle_0 : ¬ ((255 : Int32) < (fn_a0 0))) (hle_1 : ¬ ((255 : Int32) < (fn_a0 1))) (g_a2 : n0 ≤ a2) (ne_a0_a2 : a0 ≠ a2) :
    MetFree l (⟨"java/lang/StringUTF16", "compress", "([CI[BII)I"⟩ : MethodName) (head1 (Jvm.Cond.code (⟨"java/lang/StringUTF16", "compress", "([CI[BII)I"⟩ : MethodName) jdk_52_method_21_code 7 (some .int) :: ws) ({ frames := 0, cells := 0, slots := 0, locals := 0 } : Room)) (fun a U => a = #[(.ref a0), (.int (0 : Int32)), (.ref a2), (.int (0 : Int32)), (.int (2 : Int32))] ∧ Z.Warmed39 U.vm ∧ U.heap = h0) (fun _ _ _ _ _ => True) (fun _ U o U' => ∃ v L, o = .returned v ∧ Qcmp2 Z k_a0 fn_a0 k_a2 fn_a2 a0 a2 h0 n0 v U'.heap L ∧ FrameEnd U o U' L 0 0) := by
 refine MetFree.of_bodySF (plainFor_of_name pn_cmp2) hisR ?_
 intro p e s m args below meth c s₁ Bd hml0 hP hK
 obtain ⟨rfl, hZ, hh⟩ := hP
 have hwd := fun i {d : Jvm.Cond} (h : tables_1[i]? = some d) => hw d (List.mem_of_getElem? h)
 have hx := Bd.exec
 have hby := Bd.bytes
 have hml : c.maxLocals = 7 := hml0
 have hlk : meth.locks = false := Bd.notSynchronized
 have hown : s.vm.findClass "java/lang/StringUTF16" = some m.cls := findClass_of_methodNamed Bd.named
 have hnm := (name_of_methodNamed Bd.named Bd.method).1
 have X0 : Stand p l e ({ frames := 0, cells := 0, slots := 0, locals := 0 } : Room) s m #[(.ref a0), (.int (0 : Int32)), (.ref a2), (.int (0 : Int32)), (.int (2 : Int32))] below meth c s₁ [] 0 0 := Stand.of_body Bd
 have e0 : s₁.heap = h0 := by rw [← hh, Bd.state]; rfl
 have N0 := Fr.nil n0
 show own_Go p e below (own_Fin s 0 0 (Qcmp2 Z k_a0 fn_a0 k_a2 fn_a2 a0 a2 h0 n0)) _
 refine own_by (fun t k => castTop (ef_cmp2 m a0 a2) k) ?_
 show own_Go p e below _ (s₁.setTop (mkF m 0 #[vR a0, vI (0 : Int32), vR a2, vI (0 : Int32), vI (2 : Int32), .unset, .unset] []))
 refine own_by (fun _ k => XS.iconst X0.here hx rfl (hb hby d9_0) k) ?_
 refine own_by (fun _ k => XS.istore X0.here hx rfl (hb hby d9_1) rfl (l' := #[vR a0, vI (0 : Int32), vR a2, vI (0 : Int32), vI (2 : Int32), vI (0 : Int32), .unset]) rfl k) ?_
 show own_Go p e below _ (s₁.setTop (mkF m 3 #[vR a0, vI (0 : Int32), vR a2, vI (0 : Int32), vI (2 : Int32), vI (0 : Int32), .unset] []))
 refine own_by (fun _ k => XS.iload X0.here hx rfl (hb hby d9_3) rfl k) ?_
 refine own_by (fun _ k => XS.iload X0.here hx rfl (hb hby d9_5) rfl k) ?_
 refine own_by (fun _ k => XS.icmpNo X0.here hx rfl (hb hby d9_7) rfl (tlt (by decide : (0 : Int32) < (2 : Int32))).2.1 k) ?_
 show own_Go p e below _ (s₁.setTop (mkF m 10 #[vR a0, vI (0 : Int32), vR a2, vI (0 : Int32), vI (2 : Int32), vI (0 : Int32), .unset] []))
 refine own_by (fun _ k => XS.aloadN X0.here hx rfl (hb hby d9_10) rfl rfl k) ?_
 refine own_by (fun _ k => XS.iloadN X0.here hx rfl (hb hby d9_11) rfl k) ?_
 obtain ⟨cl1, Ar1, qq1, S1, M1, H1, G1⟩ := id P_V_a0
 have hin1 : ¬ ((0 : Int32) < 0 ∨ cl1.slots.size ≤ ((0 : Int32)).toNatClampNeg) := inb_of S1 ⟨by decide, by decide⟩
 refine own_by (fun t k => X0.caload hx (j := (0 : Int32)) (v := (.int (fn_a0 0))) (by rw [e0]; exact Ar1.1) (State.isArrayOf_alike hZ.alike Ar1.2.1) Ar1.2.2 hin1 (H1 _ (Nat.lt_of_not_le fun y => hin1 (Or.inr y))) (g := (mkF m 12 #[vR a0, vI (0 : Int32), vR a2, vI (0 : Int32), vI (2 : Int32), vI (0 : Int32), .unset] [(.int (0 : Int32)), (.ref a0)])) rfl rfl (hb hby d9_12) _ k) ?_
 show own_Go p e below _ (s₁.setTop (mkF m 13 #[vR a0, vI (0 : Int32), vR a2, vI (0 : Int32), vI (2 : Int32), vI (0 : Int32), .unset] [(.int (fn_a0 0))]))
 refine own_by (fun _ k => XS.istore X0.here hx rfl (hb hby d9_13) rfl (l' := #[vR a0, vI (0 : Int32), vR a2, vI (0 : Int32), vI (2 : Int32), vI (0 : Int32), vI (fn_a0 0)]) rfl k) ?_
 show own_Go p e below _ (s₁.setTop (mkF m 15 #[vR a0, vI (0 : Int32), vR a2, vI (0 : Int32), vI (2 : Int32), vI (0 : Int32), vI (fn_a0 0)] []))
 refine own_by (fun _ k => XS.iload X0.here hx rfl (hb hby d9_15) rfl k) ?_
 refine own_by (fun _ k => XS.sipush X0.here hx rfl (hb hby d9_17) k) ?_
 refine own_by (fun _ k => XS.icmpYes X0.here hx rfl (pc0 := 20) (pc' := 26) rfl (hb hby d9_20) rfl (flt hle_0).2.2.2 (by decide) (by decide) k) ?_
 show own_Go p e below _ (s₁.setTop (mkF m 26 #[vR a0, vI (0 : Int32), vR a2, vI (0 : Int32), vI (2 : Int32), vI (0 : Int32), vI (fn_a0 0)] []))
 refine own_by (fun _ k => XS.aloadN X0.here hx rfl (hb hby d9_26) rfl rfl k) ?_
 refine own_by (fun _ k => XS.iloadN X0.here hx rfl (hb hby d9_27) rfl k) ?_
 refine own_by (fun _ k => XS.iload X0.here hx rfl (hb hby d9_28) rfl k) ?_
 refine own_by (fun _ k => XS.i2b X0.here hx rfl (hb hby d9_30) rfl k) ?_
 show own_Go p e below _ (s₁.setTop (mkF m 31 #[vR a0, vI (0 : Int32), vR a2, vI (0 : Int32), vI (2 : Int32), vI (0 : Int32), vI (fn_a0 0)] [(.int ((fn_a0 0).toInt8.toInt32)), (.int (0 : Int32)), (.ref a2)]))
 obtain ⟨cl2, Ar2, qq2, S2, M2, H2, G2⟩ := id P_V_a2
 have hin2 : ¬ ((0 : Int32) < 0 ∨ cl2.slots.size ≤ ((0 : Int32)).toNatClampNeg) := inb_of S2 ⟨by decide, by decide⟩
 obtain ⟨T3, h3, X3, e3, W3, st3⟩ := stB X0 hx hZ e0 Ar2 (j := (0 : Int32)) hin2 (g := (mkF m 31 #[vR a0, vI (0 : Int32), vR a2, vI (0 : Int32), vI (2 : Int32), vI (0 : Int32), vI (fn_a0 0)] [(.int ((fn_a0 0).toInt8.toInt32)), (.int (0 : Int32)), (.ref a2)])) rfl rfl (hb hby d9_31)
 have V3 : own_Arf Z h3 a2 k_a2 .byte (2 : Int32) (fun i => .int ((own_upd fn_a2 0 (nar .byte ((fn_a0 0).toInt8.toInt32))) i)) := own_arfSetI Ar2 qq2 S2 M2 H2 G2 (fits_nar_byte _) W3
 have K3 : Keep h0 h3 [a2] := (Keep.refl h0 [a2]).wr W3 (Or.inl (List.mem_of_getElem? (i := 0) rfl))
 have Z3 : n0 ≤ h3.size := Nat.le_trans Z0 (Keep.of_wr W3).1
 have N3 := Fr.snoc X3 N0 g_a2
 refine own_by st3 ?_
 show own_Go p e below _ (T3.setTop (mkF m 32 #[vR a0, vI (0 : Int32), vR a2, vI (0 : Int32), vI (2 : Int32), vI (0 : Int32), vI (fn_a0 0)] []))
 refine own_by (fun _ k => XS.iinc X3.here hx rfl (hb hby d9_32) rfl (l' := #[vR a0, vI (1 : Int32), vR a2, vI (0 : Int32), vI (2 : Int32), vI (0 : Int32), vI (fn_a0 0)]) rfl k) ?_
 show own_Go p e below _ (T3.setTop (mkF m 35 #[vR a0, vI (1 : Int32), vR a2, vI (0 : Int32), vI (2 : Int32), vI (0 : Int32), vI (fn_a0 0)] []))
 refine own_by (fun _ k => XS.iinc X3.here hx rfl (hb hby d9_35) rfl (l' := #[vR a0, vI (1 : Int32), vR a2, vI (1 : Int32), vI (2 : Int32), vI (0 : Int32), vI (fn_a0 0)]) rfl k) ?_
 show own_Go p e below _ (T3.setTop (mkF m 38 #[vR a0, vI (1 : Int32), vR a2, vI (1 : Int32), vI (2 : Int32), vI (0 : Int32), vI (fn_a0 0)] []))
 refine own_by (fun _ k => XS.iinc X3.here hx rfl (hb hby d9_38) rfl (l' := #[vR a0, vI (1 : Int32), vR a2, vI (1 : Int32), vI (2 : Int32), vI (1 : Int32), vI (fn_a0 0)]) rfl k) ?_
 show own_Go p e below _ (T3.setTop (mkF m 41 #[vR a0, vI (1 : Int32), vR a2, vI (1 : Int32), vI (2 : Int32), vI (1 : Int32), vI (fn_a0 0)] []))
 refine own_by (fun _ k => XS.goto X3.here hx rfl (pc0 := 41) (pc' := 3) rfl (hb hby d9_41) (by decide) (by decide) k) ?_
 show own_Go p e below _ (T3.setTop (mkF m 3 #[vR a0, vI (1 : Int32), vR a2, vI (1 : Int32), vI (2 : Int32), vI (1 : Int32), vI (fn_a0 0)] []))
 refine own_by (fun _ k => XS.iload X3.here hx rfl (hb hby d9_3) rfl k) ?_
 refine own_by (fun _ k => XS.iload X3.here hx rfl (hb hby d9_5) rfl k) ?_
 refine own_by (fun _ k => XS.icmpNo X3.here hx rfl (hb hby d9_7) rfl (tlt (by decide : (1 : Int32) < (2 : Int32))).2.1 k) ?_
 show own_Go p e below _ (T3.setTop (mkF m 10 #[vR a0, vI (1 : Int32), vR a2, vI (1 : Int32), vI (2 : Int32), vI (1 : Int32), vI (fn_a0 0)] []))
 refine own_by (fun _ k => XS.aloadN X3.here hx rfl (hb hby d9_10) rfl rfl k) ?_
 refine own_by (fun _ k => XS.iloadN X3.here hx rfl (hb hby d9_11) rfl k) ?_
 have F4 : own_Arf Z h3 a0 k_a0 .char (2 : Int32) (fun i => .int (fn_a0 i)) := (P_V_a0.other W3 ne_a0_a2)
 obtain ⟨cl5, Ar5, qq5, S5, M5, H5, G5⟩ := id F4
 have hin5 : ¬ ((1 : Int32) < 0 ∨ cl5.slots.size ≤ ((1 : Int32)).toNatClampNeg) := inb_of S5 ⟨by decide, by decide⟩
 refine own_by (fun t k => X3.caload hx (j := (1 : Int32)) (v := (.int (fn_a0 1))) (by rw [e3]; exact Ar5.1) (State.isArrayOf_alike hZ.alike Ar5.2.1) Ar5.2.2 hin5 (H5 _ (Nat.lt_of_not_le fun y => hin5 (Or.inr y))) (g := (mkF m 12 #[vR a0, vI (1 : Int32), vR a2, vI (1 : Int32), vI (2 : Int32), vI (1 : Int32), vI (fn_a0 0)] [(.int (1 : Int32)), (.ref a0)])) rfl rfl (hb hby d9_12) _ k) ?_
 show own_Go p e below _ (T3.setTop (mkF m 13 #[vR a0, vI (1 : Int32), vR a2, vI (1 : Int32), vI (2 : Int32), vI (1 : Int32), vI (fn_a0 0)] [(.int (fn_a0 1))]))
 refine own_by (fun _ k => XS.istore X3.here hx rfl (hb hby d9_13) rfl (l' := #[vR a0, vI (1 : Int32), vR a2, vI (1 : Int32), vI (2 : Int32), vI (1 : Int32), vI (fn_a0 1)]) rfl k) ?_
 show own_Go p e below _ (T3.setTop (mkF m 15 #[vR a0, vI (1 : Int32), vR a2, vI (1 : Int32), vI (2 : Int32), vI (1 : Int32), vI (fn_a0 1)] []))
 refine own_by (fun _ k => XS.iload X3.here hx rfl (hb hby d9_15) rfl k) ?_
 refine own_by (fun _ k => XS.sipush X3.here hx rfl (hb hby d9_17) k) ?_
 refine own_by (fun _ k => XS.icmpYes X3.here hx rfl (pc0 := 20) (pc' := 26) rfl (hb hby d9_20) rfl (flt hle_1).2.2.2 (by decide) (by decide) k) ?_
 show own_Go p e below _ (T3.setTop (mkF m 26 #[vR a0, vI (1 : Int32), vR a2, vI (1 : Int32), vI (2 : Int32), vI (1 : Int32), vI (fn_a0 1)] []))
 refine own_by (fun _ k => XS.aloadN X3.here hx rfl (hb hby d9_26) rfl rfl k) ?_
 refine own_by (fun _ k => XS.iloadN X3.here hx rfl (hb hby d9_27) rfl k) ?_
 refine own_by (fun _ k => XS.iload X3.here hx rfl (hb hby d9_28) rfl k) ?_
 refine own_by (fun _ k => XS.i2b X3.here hx rfl (hb hby d9_30) rfl k) ?_
 show own_Go p e below _ (T3.setTop (mkF m 31 #[vR a0, vI (1 : Int32), vR a2, vI (1 : Int32), vI (2 : Int32), vI (1 : Int32), vI (fn_a0 1)] [(.int ((fn_a0 1).toInt8.toInt32)), (.int (1 : Int32)), (.ref a2)]))
 obtain ⟨cl6, Ar6, qq6, S6, M6, H6, G6⟩ := id V3
 have hin6 : ¬ ((1 : Int32) < 0 ∨ cl6.slots.size ≤ ((1 : Int32)).toNatClampNeg) := inb_of S6 ⟨by decide, by decide⟩
 obtain ⟨T7, h7, X7, e7, W7, st7⟩ := stB X3 hx hZ e3 Ar6 (j := (1 : Int32)) hin6 (g := (mkF m 31 #[vR a0, vI (1 : Int32), vR a2, vI (1 : Int32), vI (2 : Int32), vI (1 : Int32), vI (fn_a0 1)] [(.int ((fn_a0 1).toInt8.toInt32)), (.int (1 : Int32)), (.ref a2)])) rfl rfl (hb hby d9_31)
 have V7 : own_Arf Z h7 a2 k_a2 .byte (2 : Int32) (fun i => .int ((own_upd (own_upd fn_a2 0 (nar .byte ((fn_a0 0).toInt8.toInt32))) 1 (nar .byte ((fn_a0 1).toInt8.toInt32))) i)) := own_arfSetI Ar6 qq6 S6 M6 H6 G6 (fits_nar_byte _) W7
 have K7 : Keep h0 h7 [a2] := K3.wr W7 (Or.inl (List.mem_of_getElem? (i := 0) rfl))
 have Z7 : n0 ≤ h7.size := Nat.le_trans Z3 (Keep.of_wr W7).1
 have N7 := Fr.snoc X7 N3 g_a2
 refine own_by st7 ?_
 show own_Go p e below _ (T7.setTop (mkF m 32 #[vR a0, vI (1 : Int32), vR a2, vI (1 : Int32), vI (2 : Int32), vI (1 : Int32), vI (fn_a0 1)] []))
 refine own_by (fun _ k => XS.iinc X7.here hx rfl (hb hby d9_32) rfl (l' := #[vR a0, vI (2 : Int32), vR a2, vI (1 : Int32), vI (2 : Int32), vI (1 : Int32), vI (fn_a0 1)]) rfl k) ?_
 show own_Go p e below _ (T7.setTop (mkF m 35 #[vR a0, vI (2 : Int32), vR a2, vI (1 : Int32), vI (2 : Int32), vI (1 : Int32), vI (fn_a0 1)] []))
 refine own_by (fun _ k => XS.iinc X7.here hx rfl (hb hby d9_35) rfl (l' := #[vR a0, vI (2 : Int32), vR a2, vI (2 : Int32), vI (2 : Int32), vI (1 : Int32), vI (fn_a0 1)]) rfl k) ?_
 show own_Go p e below _ (T7.setTop (mkF m 38 #[vR a0, vI (2 : Int32), vR a2, vI (2 : Int32), vI (2 : Int32), vI (1 : Int32), vI (fn_a0 1)] []))
 refine own_by (fun _ k => XS.iinc X7.here hx rfl (hb hby d9_38) rfl (l' := #[vR a0, vI (2 : Int32), vR a2, vI (2 : Int32), vI (2 : Int32), vI (2 : Int32), vI (fn_a0 1)]) rfl k) ?_
 show own_Go p e below _ (T7.setTop (mkF m 41 #[vR a0, vI (2 : Int32), vR a2, vI (2 : Int32), vI (2 : Int32), vI (2 : Int32), vI (fn_a0 1)] []))
 refine own_by (fun _ k => XS.goto X7.here hx rfl (pc0 := 41) (pc' := 3) rfl (hb hby d9_41) (by decide) (by decide) k) ?_
 show own_Go p e below _ (T7.setTop (mkF m 3 #[vR a0, vI (2 : Int32), vR a2, vI (2 : Int32), vI (2 : Int32), vI (2 : Int32), vI (fn_a0 1)] []))
 refine own_by (fun _ k => XS.iload X7.here hx rfl (hb hby d9_3) rfl k) ?_
 refine own_by (fun _ k => XS.iload X7.here hx rfl (hb hby d9_5) rfl k) ?_
 refine own_by (fun _ k => XS.icmpYes X7.here hx rfl (pc0 := 7) (pc' := 44) rfl (hb hby d9_7) rfl (flt (by decide : ¬ ((2 : Int32) < (2 : Int32)))).2.1 (by decide) (by decide) k) ?_
 show own_Go p e below _ (T7.setTop (mkF m 44 #[vR a0, vI (2 : Int32), vR a2, vI (2 : Int32), vI (2 : Int32), vI (2 : Int32), vI (fn_a0 1)] []))
 refine own_by (fun _ k => XS.iload X7.here hx rfl (hb hby d9_44) rfl k) ?_
 exact own_retI X7 hx Bd.returns (hb hby d9_46) hlk e7 ⟨rfl, N7, K7, V7⟩ (by decide) (by decide)
theorem pd_53 : parseMethodDescriptor "([CI[BII)I" = some ⟨[(.array .char), .int, (.array .byte), .int, .int], some .int⟩ := by decide +kernel
theorem d8_0 : decode jdk_52_method_16_code 0 = .ok (.iload_n 2, 1) := by decide +kernel
theorem d8_1 : decode jdk_52_method_16_code 1 = .ok (.newarray .byte, 2) := by decide +kernel
theorem d8_3 : decode jdk_52_method_16_code 3 = .ok (.astore_n 3, 1) := by decide +kernel
theorem d8_4 : decode jdk_52_method_16_code 4 = .ok (.aload_n 0, 1) := by decide +kernel
theorem d8_5 : decode jdk_52_method_16_code 5 = .ok (.iload_n 1, 1) := by decide +kernel
theorem d8_6 : decode jdk_52_method_16_code 6 = .ok (.aload_n 3, 1) := by decide +kernel
theorem d8_7 : decode jdk_52_method_16_code 7 = .ok (.iconst 0, 1) := by decide +kernel
theorem d8_8 : decode jdk_52_method_16_code 8 = .ok (.iload_n 2, 1) := by decide +kernel
theorem d8_9 : decode jdk_52_method_16_code 9 = .ok (.invokestatic 115, 3) := by decide +kernel
theorem d8_12 : decode jdk_52_method_16_code 12 = .ok (.istore 4, 2) := by decide +kernel
theorem d8_14 : decode jdk_52_method_16_code 14 = .ok (.iload 4, 2) := by decide +kernel
theorem d8_16 : decode jdk_52_method_16_code 16 = .ok (.iload_n 2, 1) := by decide +kernel
theorem d8_17 : decode jdk_52_method_16_code 17 = .ok (.if_icmp .eq 40, 3) := by decide +kernel
theorem d8_57 : decode jdk_52_method_16_code 57 = .ok (.aload_n 3, 1) := by decide +kernel
theorem d8_58 : decode jdk_52_method_16_code 58 = .ok (.areturn, 1) := by decide +kernel
theorem pn_cmpB2 : plainName "java/lang/StringUTF16" = true := by first | (simp [plainName, overriddenIn]; done) | decide +kernel
theorem ef_cmpB2 (m : MethodId) (a0 : Addr) : entryFrame m #[(.ref a0), (.int (0 : Int32)), (.int (2 : Int32))] 6 = mkF m 0 #[vR a0, vI (0 : Int32), vI (2 : Int32), .unset, .unset, .unset] [] := by first | (simp [entryFrame, mkF, argsToLocals, Value.category]; done) | rfl
def QcmpB2 (Z : State) (k_a0 : ClassId) (fn_a0 : Nat → Int32) (a0 : Addr) (h0 : Heap) (n0 : Nat) (v : Option Value) (h : Heap) (L : List Loc) : Prop := ∃ (b1 : Addr) (k1 : ClassId), v = some (.ref b1) ∧ Fr n0 L ∧ Keep h0 h [] ∧ (n0 ≤ b1) ∧ (h0.size ≤ b1) ∧ own_Arf Z h b1 k1 .byte (2 : Int32) (fun i => .int ((own_upd (own_upd (fun _ => (0 : Int32)) 0 (nar .byte ((fn_a0 0).toInt8.toInt32))) 1 (nar .byte ((fn_a0 1).toInt8.toInt32))) i))
set_option maxRecDepth 65536 in
set_option maxHeartbeats 40000000 in
theorem rmcmpB2 (l : Launch) (Z : State) (A0 : Array Value) (hw : ∀ d ∈ tables_1, d.before A0 Z = true) (ws : List Jvm.Cond) (k_a0 : ClassId) (fn_a0 : Nat → Int32) (a0 : Addr) (h0 : Heap) (n0 : Nat) (Z0 : n0 ≤ h0.size) (P_V_a0 : own_Arf Z h0 a0 k_a0 .char (2 : Int32) (fun i => .int (fn_a0 i))) (hle_0 : ¬ ((255 : Int32) < (fn_a0 0))) (hle_1 : ¬ ((255 : Int32) < (fn_a0 1))) :
    MetFree l (⟨"java/lang/StringUTF16", "compress", "([CII)[B"⟩ : MethodName) (head1 (Jvm.Cond.code (⟨"java/lang/StringUTF16", "compress", "([CII)[B"⟩ : MethodName) jdk_52_method_16_code 6 (some (.array .byte)) :: ws) ({ frames := 1, cells := 1, slots := 2, locals := 18 } : Room)) (fun a U => a = #[(.ref a0), (.int (0 : Int32)), (.int (2 : Int32))] ∧ Z.Warmed39 U.vm ∧ U.heap = h0) (fun _ _ _ _ _ => True) (fun _ U o U' => ∃ v L, o = .returned v ∧ QcmpB2 Z k_a0 fn_a0 a0 h0 n0 v U'.heap L ∧ FrameEnd U o U' L 1 2) := by
 refine MetFree.of_bodySF (plainFor_of_name pn_cmpB2) hisR ?_
 intro p e s m args below meth c s₁ Bd hml0 hP hK
 obtain ⟨rfl, hZ, hh⟩ := hP
 have hwd := fun i {d : Jvm.Cond} (h : tables_1[i]? = some d) => hw d (List.mem_of_getElem? h)
 have hx := Bd.exec
 have hby := Bd.bytes
 have hml : c.maxLocals = 6 := hml0
 have hlk : meth.locks = false := Bd.notSynchronized
 have hown : s.vm.findClass "java/lang/StringUTF16" = some m.cls := findClass_of_methodNamed Bd.named
 have hnm := (name_of_methodNamed Bd.named Bd.method).1
 have X0 : Stand p l e ({ frames := 1, cells := 1, slots := 2, locals := 18 } : Room) s m #[(.ref a0), (.int (0 : Int32)), (.int (2 : Int32))] below meth c s₁ [] 0 0 := Stand.of_body Bd
 have e0 : s₁.heap = h0 := by rw [← hh, Bd.state]; rfl
 have N0 := Fr.nil n0
 show own_Go p e below (own_Fin s 1 2 (QcmpB2 Z k_a0 fn_a0 a0 h0 n0)) _
 refine own_by (fun t k => castTop (ef_cmpB2 m a0) k) ?_
 show own_Go p e below _ (s₁.setTop (mkF m 0 #[vR a0, vI (0 : Int32), vI (2 : Int32), .unset, .unset, .unset] []))
 refine own_by (fun _ k => XS.iloadN X0.here hx rfl (hb hby d8_0) rfl k) ?_
 obtain ⟨T1, h1, k1, X1, e1, E1, A1, st1⟩ := newP X0 hx hZ (hwd 16 rfl) e0 (g := (mkF m 1 #[vR a0, vI (0 : Int32), vI (2 : Int32), .unset, .unset, .unset] [(.int (2 : Int32))])) rfl (hb hby d8_1) rfl (by decide) (cap := 2) (by decide) (by decide) (by decide) (by decide)
 obtain ⟨b1, g1⟩ : ∃ z, z = h0.size := ⟨_, rfl⟩
 have ge_b1 : n0 ≤ b1 := Nat.le_trans Z0 (Nat.le_of_eq g1.symm)
 have sz_b1 : h0.size ≤ b1 := Nat.le_trans (Keep.refl h0 []).1 (Nat.le_of_eq g1.symm)
 have K1 : Keep h0 h1 [] := (Keep.refl h0 []).ext E1
 have Z1 : n0 ≤ h1.size := Nat.le_trans Z0 E1.1
 rw [← g1] at A1 st1
 have V1 : own_Arf Z h1 b1 k1 .byte (2 : Int32) (fun i => .int ((fun _ => (0 : Int32)) i)) := own_arfNew A1 (by decide)
 refine own_by st1 ?_
 show own_Go p e below _ (T1.setTop (mkF m 3 #[vR a0, vI (0 : Int32), vI (2 : Int32), .unset, .unset, .unset] [(.ref b1)]))
 refine own_by (fun _ k => XS.astoreN X1.here hx rfl (hb hby d8_3) rfl rfl (l' := #[vR a0, vI (0 : Int32), vI (2 : Int32), vR b1, .unset, .unset]) rfl k) ?_
 show own_Go p e below _ (T1.setTop (mkF m 4 #[vR a0, vI (0 : Int32), vI (2 : Int32), vR b1, .unset, .unset] []))
 refine own_by (fun _ k => XS.aloadN X1.here hx rfl (hb hby d8_4) rfl rfl k) ?_
 refine own_by (fun _ k => XS.iloadN X1.here hx rfl (hb hby d8_5) rfl k) ?_
 refine own_by (fun _ k => XS.aloadN X1.here hx rfl (hb hby d8_6) rfl rfl k) ?_
 refine own_by (fun _ k => XS.iconst X1.here hx rfl (hb hby d8_7) k) ?_
 refine own_by (fun _ k => XS.iloadN X1.here hx rfl (hb hby d8_8) rfl k) ?_
 have F2 : own_Arf Z h1 a0 k_a0 .char (2 : Int32) (fun i => .int (fn_a0 i)) := (P_V_a0.ext E1)
 obtain ⟨_, _, ⟨T3, L3, k3, n3⟩, -, X3, ⟨Lc3, hQ3, l3, y3, z3⟩, st3⟩ := Jvm.LawKit.callS X1 hx (y := (⟨"java/lang/StringUTF16", "compress", "([CI[BII)I"⟩ : MethodName)) hown (mvT hZ (hwd 53 rfl)) (mvT hZ (hwd 54 rfl)) (mvT hZ (hwd 51 rfl)) (mvT hZ (hwd 55 rfl)) (by decide) (backOf (W := 0) (rmcmp2 l Z A0 hw [] k_a0 fn_a0 k1 (fun _ => (0 : Int32)) a0 b1 h1 n0 Z1 F2 V1 hle_0 hle_1 ge_b1 (Nat.ne_of_lt (Nat.lt_of_lt_of_le (P_V_a0).lt (Nat.le_of_eq g1.symm)))) hZ (hwd 55 rfl) (hwd 51 rfl) (by decide) (by decide)) (g := (mkF m 9 #[vR a0, vI (0 : Int32), vI (2 : Int32), vR b1, .unset, .unset] [(.int (2 : Int32)), (.int (0 : Int32)), (.ref b1), (.int (0 : Int32)), (.ref a0)])) rfl (by rw [hml]; rfl) (argsL := [(.ref a0), (.int (0 : Int32)), (.ref b1), (.int (0 : Int32)), (.int (2 : Int32))]) (rest := []) (lenOf pd_53 rfl) rfl (by show 2 * 0 + _ ≤ _; exact Nat.le_of_eq rfl) (hb hby d8_9) (fun _ _ => ⟨rfl, e1, (by decide : 1 + 0 ≤ _), (by decide : 2 + 0 ≤ _)⟩)
 dsimp only [Pt.U, Pt.locs, Pt.cells, Pt.slots] at X3 l3 y3 z3 st3 hQ3
 subst l3 y3 z3
 obtain ⟨rfl, Nq3, Kq3, F4⟩ := hQ3
 have N3 := Fr.app N0 Nq3
 have K3 : Keep h0 T3.heap [] := K1.trans Kq3 ((allS (Or.inr sz_b1) all0))
 have Z3 : n0 ≤ T3.heap.size := Nat.le_trans Z1 Kq3.1
 refine own_by st3 ?_
 show own_Go p e below _ (T3.setTop (mkF m 12 #[vR a0, vI (0 : Int32), vI (2 : Int32), vR b1, .unset, .unset] [(.int (2 : Int32))]))
 refine own_by (fun _ k => XS.istore X3.here hx rfl (hb hby d8_12) rfl (l' := #[vR a0, vI (0 : Int32), vI (2 : Int32), vR b1, vI (2 : Int32), .unset]) rfl k) ?_
 show own_Go p e below _ (T3.setTop (mkF m 14 #[vR a0, vI (0 : Int32), vI (2 : Int32), vR b1, vI (2 : Int32), .unset] []))
 refine own_by (fun _ k => XS.iload X3.here hx rfl (hb hby d8_14) rfl k) ?_
 refine own_by (fun _ k => XS.iloadN X3.here hx rfl (hb hby d8_16) rfl k) ?_
 refine own_by (fun _ k => XS.icmpYes X3.here hx rfl (pc0 := 17) (pc' := 57) rfl (hb hby d8_17) rfl (teq (by decide : (2 : Int32) = (2 : Int32))).1 (by decide) (by decide) k) ?_
 show own_Go p e below _ (T3.setTop (mkF m 57 #[vR a0, vI (0 : Int32), vI (2 : Int32), vR b1, vI (2 : Int32), .unset] []))
 refine own_by (fun _ k => XS.aloadN X3.here hx rfl (hb hby d8_57) rfl rfl k) ?_
 exact own_retR X3 hx Bd.returns (by decide) rfl (hb hby d8_58) hlk rfl ⟨_, _, rfl, N3, K3, ge_b1, sz_b1, F4⟩ (by decide) (by decide)
theorem d10_0 : decode jdk_52_method_15_code 0 = .ok (.iload_n 1, 1) := by decide +kernel
theorem d10_1 : decode jdk_52_method_15_code 1 = .ok (.aload_n 0, 1) := by decide +kernel
theorem d10_2 : decode jdk_52_method_15_code 2 = .ok (.arraylength, 1) := by decide +kernel
theorem d10_3 : decode jdk_52_method_15_code 3 = .ok (.isub, 1) := by decide +kernel
theorem d10_4 : decode jdk_52_method_15_code 4 = .ok (.bipush 31, 2) := by decide +kernel
theorem d10_6 : decode jdk_52_method_15_code 6 = .ok (.iushr, 1) := by decide +kernel
theorem d10_7 : decode jdk_52_method_15_code 7 = .ok (.i2b, 1) := by decide +kernel
theorem d10_8 : decode jdk_52_method_15_code 8 = .ok (.ireturn, 1) := by decide +kernel
theorem pn_cfa2 : plainName "java/lang/StringUTF16" = true := by first | (simp [plainName, overriddenIn]; done) | decide +kernel
theorem ef_cfa2 (m : MethodId) (a0 : Addr) : entryFrame m #[(.ref a0), (.int (2 : Int32))] 2 = mkF m 0 #[vR a0, vI (2 : Int32)] [] := by first | (simp [entryFrame, mkF, argsToLocals, Value.category]; done) | rfl
def Qcfa2 (Z : State) (k_a0 : ClassId) (fn_a0 : Nat → Int32) (a0 : Addr) (h0 : Heap) (n0 : Nat) (v : Option Value) (h : Heap) (L : List Loc) : Prop := v = some (.int (nar .byte (0 : Int32))) ∧ Fr n0 L ∧ h = h0
set_option maxRecDepth 65536 in
set_option maxHeartbeats 40000000 in
theorem rmcfa2 (l : Launch) (Z : State) (A0 : Array Value) (hw : ∀ d ∈ tables_1, d.before A0 Z = true) (ws : List Jvm.Cond) (k_a0 : ClassId) (fn_a0 : Nat → Int32) (a0 : Addr) (h0 : Heap) (n0 : Nat) (Z0 : n0 ≤ h0.size) (P_V_a0 : own_Arf Z h0 a0 k_a0 .byte (2 : Int32) (fun i => .int (fn_a0 i))) :
    MetFree l (⟨"java/lang/StringUTF16", "coderFromArrayLen", "([BI)B"⟩ : MethodName) (head1 (Jvm.Cond.code (⟨"java/lang/StringUTF16", "coderFromArrayLen", "([BI)B"⟩ : MethodName) jdk_52_method_15_code 2 (some .byte) :: ws) ({ frames := 0, cells := 0, slots := 0, locals := 0 } : Room)) (fun a U => a = #[(.ref a0), (.int (2 : Int32))] ∧ Z.Warmed39 U.vm ∧ U.heap = h0) (fun _ _ _ _ _ => True) (fun _ U o U' => ∃ v L, o = .returned v ∧ Qcfa2 Z k_a0 fn_a0 a0 h0 n0 v U'.heap L ∧ FrameEnd U o U' L 0 0) := by
 refine MetFree.of_bodySF (plainFor_of_name pn_cfa2) hisR ?_
 intro p e s m args below meth c s₁ Bd hml0 hP hK
 obtain ⟨rfl, hZ, hh⟩ := hP
 have hwd := fun i {d : Jvm.Cond} (h : tables_1[i]? = some d) => hw d (List.mem_of_getElem? h)
 have hx := Bd.exec
 have hby := Bd.bytes
 have hml : c.maxLocals = 2 := hml0
 have hlk : meth.locks = false := Bd.notSynchronized
 have hown : s.vm.findClass "java/lang/StringUTF16" = some m.cls := findClass_of_methodNamed Bd.named
 have hnm := (name_of_methodNamed Bd.named Bd.method).1
 have X0 : Stand p l e ({ frames := 0, cells := 0, slots := 0, locals := 0 } : Room) s m #[(.ref a0), (.int (2 : Int32))] below meth c s₁ [] 0 0 := Stand.of_body Bd
 have e0 : s₁.heap = h0 := by rw [← hh, Bd.state]; rfl
 have N0 := Fr.nil n0
 show own_Go p e below (own_Fin s 0 0 (Qcfa2 Z k_a0 fn_a0 a0 h0 n0)) _
 refine own_by (fun t k => castTop (ef_cfa2 m a0) k) ?_
 show own_Go p e below _ (s₁.setTop (mkF m 0 #[vR a0, vI (2 : Int32)] []))
 refine own_by (fun _ k => XS.iloadN X0.here hx rfl (hb hby d10_0) rfl k) ?_
 refine own_by (fun _ k => XS.aloadN X0.here hx rfl (hb hby d10_1) rfl rfl k) ?_
 obtain ⟨cl1, Ar1, qq1, S1, M1, H1, G1⟩ := id P_V_a0
 refine own_by (fun t k => X0.arraylength hx (by rw [e0]; exact Ar1.1) (State.isArrayOf_alike hZ.alike Ar1.2.1) (g := (mkF m 2 #[vR a0, vI (2 : Int32)] [(.ref a0), (.int (2 : Int32))])) rfl rfl (hb hby d10_2) _ k) ?_
 rw [len_of S1 M1]
 show own_Go p e below _ (s₁.setTop (mkF m 3 #[vR a0, vI (2 : Int32)] [(.int (2 : Int32)), (.int (2 : Int32))]))
 refine own_by (fun _ k => XS.isub X0.here hx rfl (hb hby d10_3) rfl k) ?_
 show own_Go p e below _ (s₁.setTop (mkF m 4 #[vR a0, vI (2 : Int32)] [(.int (0 : Int32))]))
 refine own_by (fun _ k => XS.bipush X0.here hx rfl (hb hby d10_4) k) ?_
 refine own_by (fun _ k => XS.iushr X0.here hx rfl (hb hby d10_6) rfl k) ?_
 show own_Go p e below _ (s₁.setTop (mkF m 7 #[vR a0, vI (2 : Int32)] [(.int (0 : Int32))]))
 refine own_by (fun _ k => XS.i2b X0.here hx rfl (hb hby d10_7) rfl k) ?_
 show own_Go p e below _ (s₁.setTop (mkF m 8 #[vR a0, vI (2 : Int32)] [(.int (0 : Int32))]))
 exact own_retN X0 hx (t := .byte) Bd.returns (by simp) (hb hby d10_8) hlk e0 ⟨rfl, N0, rfl⟩ (by decide) (by decide)
theorem pd_49 : parseMethodDescriptor "([CII)[B" = some ⟨[(.array .char), .int, .int], some (.array .byte)⟩ := by decide +kernel
theorem pd_56 : parseMethodDescriptor "([BI)B" = some ⟨[(.array .byte), .int], some .byte⟩ := by decide +kernel
theorem d7_0 : decode jdk_42_method_149_code 0 = .ok (.aload_n 0, 1) := by decide +kernel
theorem d7_1 : decode jdk_42_method_149_code 1 = .ok (.invokespecial 1, 3) := by decide +kernel
theorem d7_4 : decode jdk_42_method_149_code 4 = .ok (.iload_n 3, 1) := by decide +kernel
theorem d7_5 : decode jdk_42_method_149_code 5 = .ok (.ifCond .ne 22, 3) := by decide +kernel
theorem d7_27 : decode jdk_42_method_149_code 27 = .ok (.getstatic 38, 3) := by decide +kernel
theorem d7_30 : decode jdk_42_method_149_code 30 = .ok (.ifCond .eq 28, 3) := by decide +kernel
theorem d7_33 : decode jdk_42_method_149_code 33 = .ok (.aload_n 1, 1) := by decide +kernel
theorem d7_34 : decode jdk_42_method_149_code 34 = .ok (.iload_n 2, 1) := by decide +kernel
theorem d7_35 : decode jdk_42_method_149_code 35 = .ok (.iload_n 3, 1) := by decide +kernel
theorem d7_36 : decode jdk_42_method_149_code 36 = .ok (.invokestatic 177, 3) := by decide +kernel
theorem d7_39 : decode jdk_42_method_149_code 39 = .ok (.astore 5, 2) := by decide +kernel
theorem d7_41 : decode jdk_42_method_149_code 41 = .ok (.aload_n 0, 1) := by decide +kernel
theorem d7_42 : decode jdk_42_method_149_code 42 = .ok (.aload 5, 2) := by decide +kernel
theorem d7_44 : decode jdk_42_method_149_code 44 = .ok (.iload_n 3, 1) := by decide +kernel
theorem d7_45 : decode jdk_42_method_149_code 45 = .ok (.invokestatic 47, 3) := by decide +kernel
theorem d7_48 : decode jdk_42_method_149_code 48 = .ok (.putfield 15, 3) := by decide +kernel
theorem d7_51 : decode jdk_42_method_149_code 51 = .ok (.aload_n 0, 1) := by decide +kernel
theorem d7_52 : decode jdk_42_method_149_code 52 = .ok (.aload 5, 2) := by decide +kernel
theorem d7_54 : decode jdk_42_method_149_code 54 = .ok (.putfield 9, 3) := by decide +kernel
theorem d7_57 : decode jdk_42_method_149_code 57 = .ok (.return_, 1) := by decide +kernel
theorem pn_si4_2 : plainName "java/lang/String" = true := by first | (simp [plainName, overriddenIn]; done) | decide +kernel
theorem ef_si4_2 (m : MethodId) (a0 : Addr) (a1 : Addr) : entryFrame m #[(.ref a0), (.ref a1), (.int (0 : Int32)), (.int (2 : Int32)), .null] 6 = mkF m 0 #[vR a0, vR a1, vI (0 : Int32), vI (2 : Int32), .val .null, .unset] [] := by first | (simp [entryFrame, mkF, argsToLocals, Value.category]; done) | rfl
def Qsi4_2 (Z : State) (k_a1 : ClassId) (fn_a1 : Nat → Int32) (f_CS : Int32) (a0 : Addr) (a1 : Addr) (f_a0_coder : Int32) (f_a0_value : Value) (h0 : Heap) (n0 : Nat) (v : Option Value) (h : Heap) (L : List Loc) : Prop := ∃ (b4 : Addr) (b5 : ClassId), v = none ∧ Fr n0 L ∧ Keep h0 h [a0] ∧ Exa Z h a0 "java/lang/String" ∧ Fld Z h a0 "java/lang/String" "coder" "B" (.int (nar .byte (0 : Int32))) ∧ Fld Z h a0 "java/lang/String" "value" "[B" (.ref b4) ∧ (n0 ≤ b4) ∧ (h0.size ≤ b4) ∧ own_Arf Z h b4 b5 .byte (2 : Int32) (fun i => .int ((own_upd (own_upd (fun _ => (0 : Int32)) 0 (nar .byte ((fn_a1 0).toInt8.toInt32))) 1 (nar .byte ((fn_a1 1).toInt8.toInt32))) i))
set_option maxRecDepth 65536 in
set_option maxHeartbeats 40000000 in
theorem rmsi4_2 (l : Launch) (Z : State) (A0 : Array Value) (hw : ∀ d ∈ tables_1, d.before A0 Z = true) (ws : List Jvm.Cond) (k_a1 : ClassId) (fn_a1 : Nat → Int32) (f_CS : Int32) (a0 : Addr) (a1 : Addr) (f_a0_coder : Int32) (f_a0_value : Value) (h0 : Heap) (n0 : Nat) (Z0 : n0 ≤ h0.size) (P_V_a1 : own_Arf Z h0 a1 k_a1 .char (2 : Int32) (fun i => .int (fn_a1 i))) (P_S_CS : Sta Z h0 "java/lang/String" "COMPACT_STRINGS" "Z" (.int f_CS)) (hn_CS : ¬ (f_CS = (0 : Int32))) (hle_0 : ¬ ((255 : Int32) < (fn_a1 0))) (hle_1 : ¬ ((255 : Int32) < (fn_a1 1))) (P_E_a0 : Exa Z h0 a0 "java/lang/String") (P_F_a0_coder : Fld Z h0 a0 "java/lang/String" "coder" "B" (.int f_a0_coder)) (g_a0 : n0 ≤ a0) (P_F_a0_value : Fld Z h0 a0 "java/lang/String" "value" "[B" f_a0_value) :
    MetFree l (⟨"java/lang/String", "<init>", "([CIILjava/lang/Void;)V"⟩ : MethodName) (head1 (Jvm.Cond.code (⟨"java/lang/String", "<init>", "([CIILjava/lang/Void;)V"⟩ : MethodName) jdk_42_method_149_code 6 none :: ws) ({ frames := 2, cells := 1, slots := 2, locals := 35 } : Room)) (fun a U => a = #[(.ref a0), (.ref a1), (.int (0 : Int32)), (.int (2 : Int32)), .null] ∧ Z.Warmed39 U.vm ∧ U.heap = h0) (fun _ _ _ _ _ => True) (fun _ U o U' => ∃ v L, o = .returned v ∧ Qsi4_2 Z k_a1 fn_a1 f_CS a0 a1 f_a0_coder f_a0_value h0 n0 v U'.heap L ∧ FrameEnd U o U' L 1 2) := by
 refine MetFree.of_bodySF (plainFor_of_name pn_si4_2) hisR ?_
 intro p e s m args below meth c s₁ Bd hml0 hP hK
 obtain ⟨rfl, hZ, hh⟩ := hP
 have hwd := fun i {d : Jvm.Cond} (h : tables_1[i]? = some d) => hw d (List.mem_of_getElem? h)
 have hx := Bd.exec
 have hby := Bd.bytes
 have hml : c.maxLocals = 6 := hml0
 have hlk : meth.locks = false := Bd.notSynchronized
 have hown : s.vm.findClass "java/lang/String" = some m.cls := findClass_of_methodNamed Bd.named
 have hnm := (name_of_methodNamed Bd.named Bd.method).1
 have X0 : Stand p l e ({ frames := 2, cells := 1, slots := 2, locals := 35 } : Room) s m #[(.ref a0), (.ref a1), (.int (0 : Int32)), (.int (2 : Int32)), .null] below meth c s₁ [] 0 0 := Stand.of_body Bd
 have e0 : s₁.heap = h0 := by rw [← hh, Bd.state]; rfl
 have N0 := Fr.nil n0
 show own_Go p e below (own_Fin s 1 2 (Qsi4_2 Z k_a1 fn_a1 f_CS a0 a1 f_a0_coder f_a0_value h0 n0)) _
 refine own_by (fun t k => castTop (ef_si4_2 m a0 a1) k) ?_
 show own_Go p e below _ (s₁.setTop (mkF m 0 #[vR a0, vR a1, vI (0 : Int32), vI (2 : Int32), .val .null, .unset] []))
 refine own_by (fun _ k => XS.aloadN X0.here hx rfl (hb hby d7_0) rfl rfl k) ?_
 obtain ⟨T1, X1, e1, st1⟩ := initO X0 hx hZ hown (hwd 47 rfl) (hwd 7 rfl) (hwd 8 rfl) e0 (g := (mkF m 1 #[vR a0, vR a1, vI (0 : Int32), vI (2 : Int32), .val .null, .unset] [(.ref a0)])) rfl (by rw [hml]; rfl) rfl (hb hby d7_1) (by decide) (W := 0) (by show 2 * 0 + _ ≤ _; exact Nat.le_of_eq rfl) (by decide)
 refine own_by st1 ?_
 show own_Go p e below _ (T1.setTop (mkF m 4 #[vR a0, vR a1, vI (0 : Int32), vI (2 : Int32), .val .null, .unset] []))
 refine own_by (fun _ k => XS.iloadN X1.here hx rfl (hb hby d7_4) rfl k) ?_
 refine own_by (fun _ k => XS.ifYes X1.here hx rfl (pc0 := 5) (pc' := 27) rfl (hb hby d7_5) rfl ((if0 _ _).trans (feq (by decide : ¬ ((2 : Int32) = (0 : Int32)))).2) (by decide) (by decide) k) ?_
 show own_Go p e below _ (T1.setTop (mkF m 27 #[vR a0, vR a1, vI (0 : Int32), vI (2 : Int32), .val .null, .unset] []))
 obtain ⟨T2, X2, e2, st2⟩ := getS2 X1 hx hZ hown (host := "") (Or.inl (hwd 48 rfl)) Via.refl e1 P_S_CS (g := (mkF m 27 #[vR a0, vR a1, vI (0 : Int32), vI (2 : Int32), .val .null, .unset] [])) rfl (hb hby d7_27)
 refine own_by st2 ?_
 show own_Go p e below _ (T2.setTop (mkF m 30 #[vR a0, vR a1, vI (0 : Int32), vI (2 : Int32), .val .null, .unset] [(.int f_CS)]))
 refine own_by (fun _ k => XS.ifNo X2.here hx rfl (hb hby d7_30) rfl ((if0 _ _).trans (feq hn_CS).1) k) ?_
 show own_Go p e below _ (T2.setTop (mkF m 33 #[vR a0, vR a1, vI (0 : Int32), vI (2 : Int32), .val .null, .unset] []))
 refine own_by (fun _ k => XS.aloadN X2.here hx rfl (hb hby d7_33) rfl rfl k) ?_
 refine own_by (fun _ k => XS.iloadN X2.here hx rfl (hb hby d7_34) rfl k) ?_
 refine own_by (fun _ k => XS.iloadN X2.here hx rfl (hb hby d7_35) rfl k) ?_
 obtain ⟨_, _, ⟨T3, L3, k3, n3⟩, -, X3, ⟨Lc3, hQ3, l3, y3, z3⟩, st3⟩ := Jvm.LawKit.callS X2 hx (y := (⟨"java/lang/StringUTF16", "compress", "([CII)[B"⟩ : MethodName)) hown (mvT hZ (hwd 49 rfl)) (mvT hZ (hwd 50 rfl)) (mvT hZ (hwd 51 rfl)) (mvT hZ (hwd 52 rfl)) (by decide) (backOf (W := 0) (rmcmpB2 l Z A0 hw [] k_a1 fn_a1 a1 h0 n0 Z0 P_V_a1 hle_0 hle_1) hZ (hwd 52 rfl) (hwd 51 rfl) (by decide) (by decide)) (g := (mkF m 36 #[vR a0, vR a1, vI (0 : Int32), vI (2 : Int32), .val .null, .unset] [(.int (2 : Int32)), (.int (0 : Int32)), (.ref a1)])) rfl (by rw [hml]; rfl) (argsL := [(.ref a1), (.int (0 : Int32)), (.int (2 : Int32))]) (rest := []) (lenOf pd_49 rfl) rfl (by show 2 * 0 + _ ≤ _; exact Nat.le_of_eq rfl) (hb hby d7_36) (fun _ _ => ⟨rfl, e2, (by decide : 0 + 1 ≤ _), (by decide : 0 + 2 ≤ _)⟩)
 dsimp only [Pt.U, Pt.locs, Pt.cells, Pt.slots] at X3 l3 y3 z3 st3 hQ3
 subst l3 y3 z3
 obtain ⟨b4, b5, rfl, Nq3, Kq3, hp6, hp7, F8⟩ := hQ3
 have N3 := Fr.app N0 Nq3
 have K3 : Keep h0 T3.heap [a0] := (Keep.refl h0 [a0]).trans Kq3 (all0)
 have Z3 : n0 ≤ T3.heap.size := Nat.le_trans Z0 Kq3.1
 have sz_b4 : h0.size ≤ b4 := Nat.le_trans (Keep.refl h0 [a0]).1 hp7
 refine own_by st3 ?_
 show own_Go p e below _ (T3.setTop (mkF m 39 #[vR a0, vR a1, vI (0 : Int32), vI (2 : Int32), .val .null, .unset] [(.ref b4)]))
 refine own_by (fun _ k => XS.astore X3.here hx rfl (hb hby d7_39) rfl rfl (l' := #[vR a0, vR a1, vI (0 : Int32), vI (2 : Int32), .val .null, vR b4]) rfl k) ?_
 show own_Go p e below _ (T3.setTop (mkF m 41 #[vR a0, vR a1, vI (0 : Int32), vI (2 : Int32), .val .null, vR b4] []))
 refine own_by (fun _ k => XS.aloadN X3.here hx rfl (hb hby d7_41) rfl rfl k) ?_
 refine own_by (fun _ k => XS.aload X3.here hx rfl (hb hby d7_42) rfl rfl k) ?_
 refine own_by (fun _ k => XS.iloadN X3.here hx rfl (hb hby d7_44) rfl k) ?_
 obtain ⟨_, _, ⟨T9, L9, k9, n9⟩, -, X9, ⟨Lc9, hQ9, l9, y9, z9⟩, st9⟩ := Jvm.LawKit.callS X3 hx (y := (⟨"java/lang/StringUTF16", "coderFromArrayLen", "([BI)B"⟩ : MethodName)) hown (mvT hZ (hwd 56 rfl)) (mvT hZ (hwd 57 rfl)) (mvT hZ (hwd 51 rfl)) (mvT hZ (hwd 58 rfl)) (by decide) (backOf (W := 1) (rmcfa2 l Z A0 hw [] b5 (own_upd (own_upd (fun _ => (0 : Int32)) 0 (nar .byte ((fn_a1 0).toInt8.toInt32))) 1 (nar .byte ((fn_a1 1).toInt8.toInt32))) b4 T3.heap n0 Z3 F8) hZ (hwd 58 rfl) (hwd 51 rfl) (by decide) (by decide)) (g := (mkF m 45 #[vR a0, vR a1, vI (0 : Int32), vI (2 : Int32), .val .null, vR b4] [(.int (2 : Int32)), (.ref b4), (.ref a0)])) rfl (by rw [hml]; rfl) (argsL := [(.ref b4), (.int (2 : Int32))]) (rest := [(.ref a0)]) (lenOf pd_56 rfl) rfl (by show 2 * 0 + _ ≤ _; exact Nat.le_of_eq rfl) (hb hby d7_45) (fun _ _ => ⟨rfl, rfl, (by decide : 1 + 0 ≤ _), (by decide : 2 + 0 ≤ _)⟩)
 dsimp only [Pt.U, Pt.locs, Pt.cells, Pt.slots] at X9 l9 y9 z9 st9 hQ9
 subst l9 y9 z9
 obtain ⟨rfl, Nq9, eq9⟩ := hQ9
 have N9 := Fr.app N3 Nq9
 refine own_by st9 ?_
 show own_Go p e below _ (T9.setTop (mkF m 48 #[vR a0, vR a1, vI (0 : Int32), vI (2 : Int32), .val .null, vR b4] [(.int (0 : Int32)), (.ref a0)]))
 have F10 : Exa Z T3.heap a0 "java/lang/String" := (P_E_a0.keep Kq3)
 have F11 : Fld Z T3.heap a0 "java/lang/String" "coder" "B" (.int f_a0_coder) := (P_F_a0_coder.keep Kq3 nin0)
 obtain ⟨T12, h12, X12, e12, W12, st12⟩ := putFN X9 hx hZ hown (hwd 59 rfl) Via.refl eq9 F11 F10 (Or.inr ⟨(hwd 18 rfl), rfl, hnm⟩) (hwd 15 rfl) (ty := .byte) (v' := (.int (nar .byte (0 : Int32)))) (by decide) rfl (fits_nar_byte _) (g := (mkF m 48 #[vR a0, vR a1, vI (0 : Int32), vI (2 : Int32), .val .null, vR b4] [(.int (0 : Int32)), (.ref a0)])) rfl rfl (hb hby d7_48)
 have Fw12 : Fld Z h12 a0 "java/lang/String" "coder" "B" (.int (nar .byte (0 : Int32))) := F11.same W12
 have K12 : Keep h0 h12 [a0] := K3.wr W12 (Or.inl (List.mem_of_getElem? (i := 0) rfl))
 have Z12 : n0 ≤ h12.size := Nat.le_trans Z3 (Keep.of_wr W12).1
 have N12 := Fr.snoc X12 N9 g_a0
 refine own_by st12 ?_
 show own_Go p e below _ (T12.setTop (mkF m 51 #[vR a0, vR a1, vI (0 : Int32), vI (2 : Int32), .val .null, vR b4] []))
 refine own_by (fun _ k => XS.aloadN X12.here hx rfl (hb hby d7_51) rfl rfl k) ?_
 refine own_by (fun _ k => XS.aload X12.here hx rfl (hb hby d7_52) rfl rfl k) ?_
 have F13 : Exa Z h12 a0 "java/lang/String" := (F10.wr W12)
 have F14 : Fld Z h12 a0 "java/lang/String" "value" "[B" f_a0_value := ((P_F_a0_value.keep Kq3 nin0).other W12 (Or.inr (slot_ne (Or.inr (hwd 17 rfl)) (Or.inr (hwd 18 rfl)) (by decide) (t := (.array .byte)) (t' := .byte) (by decide) (by decide))))
 obtain ⟨T15, h15, X15, e15, W15, st15⟩ := putF X12 hx hZ hown (host := "") (Or.inl (hwd 60 rfl)) Via.refl e12 F14 F13 (Or.inr ⟨(hwd 17 rfl), rfl, hnm⟩) (hwd 15 rfl) (ty := (.array .byte)) (by decide) rfl rfl (g := (mkF m 54 #[vR a0, vR a1, vI (0 : Int32), vI (2 : Int32), .val .null, vR b4] [(.ref b4), (.ref a0)])) rfl rfl (hb hby d7_54)
 have Fw15 : Fld Z h15 a0 "java/lang/String" "value" "[B" (.ref b4) := F14.same W15
 have K15 : Keep h0 h15 [a0] := K12.wr W15 (Or.inl (List.mem_of_getElem? (i := 0) rfl))
 have Z15 : n0 ≤ h15.size := Nat.le_trans Z12 (Keep.of_wr W15).1
 have N15 := Fr.snoc X15 N12 g_a0
 refine own_by st15 ?_
 show own_Go p e below _ (T15.setTop (mkF m 57 #[vR a0, vR a1, vI (0 : Int32), vI (2 : Int32), .val .null, vR b4] []))
 have F16 : Exa Z h15 a0 "java/lang/String" := (F13.wr W15)
 have F17 : Fld Z h15 a0 "java/lang/String" "coder" "B" (.int (nar .byte (0 : Int32))) := (Fw12.other W15 (Or.inr (slot_ne (Or.inr (hwd 18 rfl)) (Or.inr (hwd 17 rfl)) (by decide) (t := .byte) (t' := (.array .byte)) (by decide) (by decide))))
 have F18 : own_Arf Z h15 b4 b5 .byte (2 : Int32) (fun i => .int ((own_upd (own_upd (fun _ => (0 : Int32)) 0 (nar .byte ((fn_a1 0).toInt8.toInt32))) 1 (nar .byte ((fn_a1 1).toInt8.toInt32))) i)) := ((F8.other W12 (Ne.symm (Nat.ne_of_lt (Nat.lt_of_lt_of_le (P_E_a0).lt hp7)))).other W15 (Ne.symm (Nat.ne_of_lt (Nat.lt_of_lt_of_le (P_E_a0).lt hp7))))
 exact own_ret0 X15 hx Bd.returns (hb hby d7_57) hlk e15 ⟨_, _, rfl, N15, K15, F16, F17, Fw15, hp6, sz_b4, F18⟩ (by decide) (by decide)
theorem pd_43 : parseMethodDescriptor "([CIILjava/lang/Void;)V" = some ⟨[(.array .char), .int, .int, (.object "java/lang/Void")], none⟩ := by decide +kernel
theorem d6_0 : decode jdk_42_method_3_code 0 = .ok (.aload_n 0, 1) := by decide +kernel
theorem d6_1 : decode jdk_42_method_3_code 1 = .ok (.aload_n 1, 1) := by decide +kernel
theorem d6_2 : decode jdk_42_method_3_code 2 = .ok (.iconst 0, 1) := by decide +kernel
theorem d6_3 : decode jdk_42_method_3_code 3 = .ok (.aload_n 1, 1) := by decide +kernel
theorem d6_4 : decode jdk_42_method_3_code 4 = .ok (.arraylength, 1) := by decide +kernel
theorem d6_5 : decode jdk_42_method_3_code 5 = .ok (.aconst_null, 1) := by decide +kernel
theorem d6_6 : decode jdk_42_method_3_code 6 = .ok (.invokespecial 27, 3) := by decide +kernel
theorem d6_9 : decode jdk_42_method_3_code 9 = .ok (.return_, 1) := by decide +kernel
theorem pn_si2 : plainName "java/lang/String" = true := by first | (simp [plainName, overriddenIn]; done) | decide +kernel
theorem ef_si2 (m : MethodId) (a0 : Addr) (a1 : Addr) : entryFrame m #[(.ref a0), (.ref a1)] 2 = mkF m 0 #[vR a0, vR a1] [] := by first | (simp [entryFrame, mkF, argsToLocals, Value.category]; done) | rfl
def Qsi2 (Z : State) (k_a1 : ClassId) (fn_a1 : Nat → Int32) (f_CS : Int32) (a0 : Addr) (a1 : Addr) (f_a0_coder : Int32) (f_a0_value : Value) (h0 : Heap) (n0 : Nat) (v : Option Value) (h : Heap) (L : List Loc) : Prop := ∃ (b3 : Addr) (b4 : ClassId), v = none ∧ Fr n0 L ∧ Keep h0 h [a0] ∧ Exa Z h a0 "java/lang/String" ∧ Fld Z h a0 "java/lang/String" "coder" "B" (.int (0 : Int32)) ∧ Fld Z h a0 "java/lang/String" "value" "[B" (.ref b3) ∧ (n0 ≤ b3) ∧ (h0.size ≤ b3) ∧ own_Arf Z h b3 b4 .byte (2 : Int32) (fun i => .int ((own_upd (own_upd (fun _ => (0 : Int32)) 0 (nar .byte ((fn_a1 0).toInt8.toInt32))) 1 (nar .byte ((fn_a1 1).toInt8.toInt32))) i))
set_option maxRecDepth 65536 in
set_option maxHeartbeats 40000000 in
theorem rmsi2 (l : Launch) (Z : State) (A0 : Array Value) (hw : ∀ d ∈ tables_1, d.before A0 Z = true) (ws : List Jvm.Cond) (k_a1 : ClassId) (fn_a1 : Nat → Int32) (f_CS : Int32) (a0 : Addr) (a1 : Addr) (f_a0_coder : Int32) (f_a0_value : Value) (h0 : Heap) (n0 : Nat) (Z0 : n0 ≤ h0.size) (P_V_a1 : own_Arf Z h0 a1 k_a1 .char (2 : Int32) (fun i => .int (fn_a1 i))) (P_S_CS : Sta Z h0 "java/lang/String" "COMPACT_STRINGS" "Z" (.int f_CS)) (hn_CS : ¬ (f_CS = (0 : Int32))) (hle_0 : ¬ ((255 : Int32) < (fn_a1 0))) (hle_1 : ¬ ((255 : Int32) < (fn_a1 1))) (P_E_a0 : Exa Z h0 a0 "java/lang/String") (P_F_a0_coder : Fld Z h0 a0 "java/lang/String" "coder" "B" (.int f_a0_coder)) (P_F_a0_value : Fld Z h0 a0 "java/lang/String" "value" "[B" f_a0_value) (g_a0 : n0 ≤ a0) :
    MetFree l (⟨"java/lang/String", "<init>", "([C)V"⟩ : MethodName) (head1 (Jvm.Cond.code (⟨"java/lang/String", "<init>", "([C)V"⟩ : MethodName) jdk_42_method_3_code 2 none :: ws) ({ frames := 3, cells := 1, slots := 2, locals := 52 } : Room)) (fun a U => a = #[(.ref a0), (.ref a1)] ∧ Z.Warmed39 U.vm ∧ U.heap = h0) (fun _ _ _ _ _ => True) (fun _ U o U' => ∃ v L, o = .returned v ∧ Qsi2 Z k_a1 fn_a1 f_CS a0 a1 f_a0_coder f_a0_value h0 n0 v U'.heap L ∧ FrameEnd U o U' L 1 2) := by
 refine MetFree.of_bodySF (plainFor_of_name pn_si2) hisR ?_
 intro p e s m args below meth c s₁ Bd hml0 hP hK
 obtain ⟨rfl, hZ, hh⟩ := hP
 have hwd := fun i {d : Jvm.Cond} (h : tables_1[i]? = some d) => hw d (List.mem_of_getElem? h)
 have hx := Bd.exec
 have hby := Bd.bytes
 have hml : c.maxLocals = 2 := hml0
 have hlk : meth.locks = false := Bd.notSynchronized
 have hown : s.vm.findClass "java/lang/String" = some m.cls := findClass_of_methodNamed Bd.named
 have hnm := (name_of_methodNamed Bd.named Bd.method).1
 have X0 : Stand p l e ({ frames := 3, cells := 1, slots := 2, locals := 52 } : Room) s m #[(.ref a0), (.ref a1)] below meth c s₁ [] 0 0 := Stand.of_body Bd
 have e0 : s₁.heap = h0 := by rw [← hh, Bd.state]; rfl
 have N0 := Fr.nil n0
 show own_Go p e below (own_Fin s 1 2 (Qsi2 Z k_a1 fn_a1 f_CS a0 a1 f_a0_coder f_a0_value h0 n0)) _
 refine own_by (fun t k => castTop (ef_si2 m a0 a1) k) ?_
 show own_Go p e below _ (s₁.setTop (mkF m 0 #[vR a0, vR a1] []))
 refine own_by (fun _ k => XS.aloadN X0.here hx rfl (hb hby d6_0) rfl rfl k) ?_
 refine own_by (fun _ k => XS.aloadN X0.here hx rfl (hb hby d6_1) rfl rfl k) ?_
 refine own_by (fun _ k => XS.iconst X0.here hx rfl (hb hby d6_2) k) ?_
 refine own_by (fun _ k => XS.aloadN X0.here hx rfl (hb hby d6_3) rfl rfl k) ?_
 obtain ⟨cl1, Ar1, qq1, S1, M1, H1, G1⟩ := id P_V_a1
 refine own_by (fun t k => X0.arraylength hx (by rw [e0]; exact Ar1.1) (State.isArrayOf_alike hZ.alike Ar1.2.1) (g := (mkF m 4 #[vR a0, vR a1] [(.ref a1), (.int (0 : Int32)), (.ref a1), (.ref a0)])) rfl rfl (hb hby d6_4) _ k) ?_
 rw [len_of S1 M1]
 show own_Go p e below _ (s₁.setTop (mkF m 5 #[vR a0, vR a1] [(.int (2 : Int32)), (.int (0 : Int32)), (.ref a1), (.ref a0)]))
 refine own_by (fun _ k => XS.aconstNull X0.here hx rfl (hb hby d6_5) k) ?_
 show own_Go p e below _ (s₁.setTop (mkF m 6 #[vR a0, vR a1] [.null, (.int (2 : Int32)), (.int (0 : Int32)), (.ref a1), (.ref a0)]))
 obtain ⟨_, _, ⟨T2, L2, k2, n2⟩, -, X2, ⟨Lc2, hQ2, l2, y2, z2⟩, st2⟩ := X0.specialBack hx (y := (⟨"java/lang/String", "<init>", "([CIILjava/lang/Void;)V"⟩ : MethodName)) rfl hown (mvT hZ (hwd 43 rfl)) (mvT hZ (hwd 44 rfl)) (mvT hZ (hwd 46 rfl)) (by decide) (backOf (W := 0) (rmsi4_2 l Z A0 hw [] k_a1 fn_a1 f_CS a0 a1 f_a0_coder f_a0_value h0 n0 Z0 P_V_a1 P_S_CS hn_CS hle_0 hle_1 P_E_a0 P_F_a0_coder g_a0 P_F_a0_value) hZ (hwd 46 rfl) (hwd 14 rfl) (by decide) (by decide)) (g := (mkF m 6 #[vR a0, vR a1] [.null, (.int (2 : Int32)), (.int (0 : Int32)), (.ref a1), (.ref a0)])) rfl (by rw [hml]; rfl) (Steps.refl _) (a := a0) (argsL := [(.ref a1), (.int (0 : Int32)), (.int (2 : Int32)), .null]) (rest := []) (lenOf pd_43 rfl) rfl (by show 2 * 0 + _ ≤ _; exact Nat.le_of_eq rfl) (hb hby d6_6) (fun _ _ => ⟨rfl, e0, (by decide : 0 + 1 ≤ _), (by decide : 0 + 2 ≤ _)⟩)
 dsimp only [Pt.U, Pt.locs, Pt.cells, Pt.slots] at X2 l2 y2 z2 st2 hQ2
 subst l2 y2 z2
 obtain ⟨b3, b4, rfl, Nq2, Kq2, F5, F6, F7, hp8, hp9, F10⟩ := hQ2
 have N2 := Fr.app N0 Nq2
 have K2 : Keep h0 T2.heap [a0] := (Keep.refl h0 [a0]).trans Kq2 ((allS (Or.inl (List.mem_of_getElem? (i := 0) rfl)) all0))
 have Z2 : n0 ≤ T2.heap.size := Nat.le_trans Z0 Kq2.1
 have sz_b3 : h0.size ≤ b3 := Nat.le_trans (Keep.refl h0 [a0]).1 hp9
 refine own_by (fun _ k => st2.trans k) ?_
 show own_Go p e below _ (T2.setTop (mkF m 9 #[vR a0, vR a1] []))
 exact own_ret0 X2 hx Bd.returns (hb hby d6_9) hlk rfl ⟨_, _, rfl, N2, K2, F5, F6, F7, hp8, sz_b3, F10⟩ (by decide) (by decide)
theorem pn_cmp3 : plainName "java/lang/StringUTF16" = true := by first | (simp [plainName, overriddenIn]; done) | decide +kernel
theorem ef_cmp3 (m : MethodId) (a0 : Addr) (a2 : Addr) : entryFrame m #[(.ref a0), (.int (0 : Int32)), (.ref a2), (.int (0 : Int32)), (.int (3 : Int32))] 7 = mkF m 0 #[vR a0, vI (0 : Int32), vR a2, vI (0 : Int32), vI (3 : Int32), .unset, .unset] [] := by first | (simp [entryFrame, mkF, argsToLocals, Value.category]; done) | rfl
def Qcmp3 (Z : State) (k_a0 : ClassId) (fn_a0 : Nat → Int32) (k_a2 : ClassId) (fn_a2 : Nat → Int32) (a0 : Addr) (a2 : Addr) (h0 : Heap) (n0 : Nat) (v : Option Value) (h : Heap) (L : List Loc) : Prop := v = some (.int (3 : Int32)) ∧ Fr n0 L ∧ Keep h0 h [a2] ∧ own_Arf Z h a2 k_a2 .byte (3 : Int32) (fun i => .int ((own_upd (own_upd (own_upd fn_a2 0 (nar .byte ((fn_a0 0).toInt8.toInt32))) 1 (nar .byte ((fn_a0 1).toInt8.toInt32))) 2 (nar .byte ((fn_a0 2).toInt8.toInt32))) i))
set_option maxRecDepth 65536 in
set_option maxHeartbeats 40000000 in
theorem rmcmp3 (l : Launch) (Z : State) (A0 : Array Value) (hw : ∀ d ∈ tables_1, d.before A0 Z = true) (ws : List Jvm.Cond) (k_a0 : ClassId) (fn_a0 : Nat → Int32) (k_a2 : ClassId) (fn_a2 : Nat → Int32) (a0 : Addr) (a2 : Addr) (h0 : Heap) (n0 : Nat) (Z0 : n0 ≤ h0.size) (P_V_a0 : own_Arf Z h0 a0 k_a0 .char (3 : Int32) (fun i => .int (fn_a0 i))) (P_V_a2 : own_Arf Z h0 a2 k_a2 .byte (3 : Int32) (fun i => .int (fn_a2 i))) (hle_0 : ¬ ((255 : Int32) < (fn_a0 0))) (hle_1 : ¬ ((255 : Int32) < (fn_a0 1))) (hle_2 : ¬ ((255 : Int32) < (fn_a0 2))) (g_a2 : n0 ≤ a2) (ne_a0_a2 : a0 ≠ a2) :
    MetFree l (⟨"java/lang/StringUTF16", "compress", "([CI[BII)I"⟩ : MethodName) (head1 (Jvm.Cond.code (⟨"java/lang/StringUTF16", "compress", "([CI[BII)I"⟩ : MethodName) jdk_52_method_21_code 7 (some .int) :: ws) ({ frames := 0, cells := 0, slots := 0, locals := 0 } : Room)) (fun a U => a = #[(.ref a0), (.int (0 : Int32)), (.ref a2), (.int (0 : Int32)), (.int (3 : Int32))] ∧ Z.Warmed39 U.vm ∧ U.heap = h0) (fun _ _ _ _ _ => True) (fun _ U o U' => ∃ v L, o = .returned v ∧ Qcmp3 Z k_a0 fn_a0 k_a2 fn_a2 a0 a2 h0 n0 v U'.heap L ∧ FrameEnd U o U' L 0 0) := by
 refine MetFree.of_bodySF (plainFor_of_name pn_cmp3) hisR ?_
 intro p e s m args below meth c s₁ Bd hml0 hP hK
 obtain ⟨rfl, hZ, hh⟩ := hP
 have hwd := fun i {d : Jvm.Cond} (h : tables_1[i]? = some d) => hw d (List.mem_of_getElem? h)
 have hx := Bd.exec
 have hby := Bd.bytes
 have hml : c.maxLocals = 7 := hml0
 have hlk : meth.locks = false := Bd.notSynchronized
 have hown : s.vm.findClass "java/lang/StringUTF16" = some m.cls := findClass_of_methodNamed Bd.named
 have hnm := (name_of_methodNamed Bd.named Bd.method).1
 have X0 : Stand p l e ({ frames := 0, cells := 0, slots := 0, locals := 0 } : Room) s m #[(.ref a0), (.int (0 : Int32)), (.ref a2), (.int (0 : Int32)), (.int (3 : Int32))] below meth c s₁ [] 0 0 := Stand.of_body Bd
 have e0 : s₁.heap = h0 := by rw [← hh, Bd.state]; rfl
 have N0 := Fr.nil n0
 show own_Go p e below (own_Fin s 0 0 (Qcmp3 Z k_a0 fn_a0 k_a2 fn_a2 a0 a2 h0 n0)) _
 refine own_by (fun t k => castTop (ef_cmp3 m a0 a2) k) ?_
 show own_Go p e below _ (s₁.setTop (mkF m 0 #[vR a0, vI (0 : Int32), vR a2, vI (0 : Int32), vI (3 : Int32), .unset, .unset] []))
 refine own_by (fun _ k => XS.iconst X0.here hx rfl (hb hby d9_0) k) ?_
 refine own_by (fun _ k => XS.istore X0.here hx rfl (hb hby d9_1) rfl (l' := #[vR a0, vI (0 : Int32), vR a2, vI (0 : Int32), vI (3 : Int32), vI (0 : Int32), .unset]) rfl k) ?_
 show own_Go p e below _ (s₁.setTop (mkF m 3 #[vR a0, vI (0 : Int32), vR a2, vI (0 : Int32), vI (3 : Int32), vI (0 : Int32), .unset] []))
 refine own_by (fun _ k => XS.iload X0.here hx rfl (hb hby d9_3) rfl k) ?_
 refine own_by (fun _ k => XS.iload X0.here hx rfl (hb hby d9_5) rfl k) ?_
 refine own_by (fun _ k => XS.icmpNo X0.here hx rfl (hb hby d9_7) rfl (tlt (by decide : (0 : Int32) < (3 : Int32))).2.1 k) ?_
 show own_Go p e below _ (s₁.setTop (mkF m 10 #[vR a0, vI (0 : Int32), vR a2, vI (0 : Int32), vI (3 : Int32), vI (0 : Int32), .unset] []))
 refine own_by (fun _ k => XS.aloadN X0.here hx rfl (hb hby d9_10) rfl rfl k) ?_
 refine own_by (fun _ k => XS.iloadN X0.here hx rfl (hb hby d9_11) rfl k) ?_
 obtain ⟨cl1, Ar1, qq1, S1, M1, H1, G1⟩ := id P_V_a0
 have hin1 : ¬ ((0 : Int32) < 0 ∨ cl1.slots.size ≤ ((0 : Int32)).toNatClampNeg) := inb_of S1 ⟨by decide, by decide⟩
 refine own_by (fun t k => X0.caload hx (j := (0 : Int32)) (v := (.int (fn_a0 0))) (by rw [e0]; exact Ar1.1) (State.isArrayOf_alike hZ.alike Ar1.2.1) Ar1.2.2 hin1 (H1 _ (Nat.lt_of_not_le fun y => hin1 (Or.inr y))) (g := (mkF m 12 #[vR a0, vI (0 : Int32), vR a2, vI (0 : Int32), vI (3 : Int32), vI (0 : Int32), .unset] [(.int (0 : Int32)), (.ref a0)])) rfl rfl (hb hby d9_12) _ k) ?_
 show own_Go p e below _ (s₁.setTop (mkF m 13 #[vR a0, vI (0 : Int32), vR a2, vI (0 : Int32), vI (3 : Int32), vI (0 : Int32), .unset] [(.int (fn_a0 0))]))
 refine own_by (fun _ k => XS.istore X0.here hx rfl (hb hby d9_13) rfl (l' := #[vR a0, vI (0 : Int32), vR a2, vI (0 : Int32), vI (3 : Int32), vI (0 : Int32), vI (fn_a0 0)]) rfl k) ?_
 show own_Go p e below _ (s₁.setTop (mkF m 15 #[vR a0, vI (0 : Int32), vR a2, vI (0 : Int32), vI (3 : Int32), vI (0 : Int32), vI (fn_a0 0)] []))
 refine own_by (fun _ k => XS.iload X0.here hx rfl (hb hby d9_15) rfl k) ?_
 refine own_by (fun _ k => XS.sipush X0.here hx rfl (hb hby d9_17) k) ?_
 refine own_by (fun _ k => XS.icmpYes X0.here hx rfl (pc0 := 20) (pc' := 26) rfl (hb hby d9_20) rfl (flt hle_0).2.2.2 (by decide) (by decide) k) ?_
 show own_Go p e below _ (s₁.setTop (mkF m 26 #[vR a0, vI (0 : Int32), vR a2, vI (0 : Int32), vI (3 : Int32), vI (0 : Int32), vI (fn_a0 0)] []))
 refine own_by (fun _ k => XS.aloadN X0.here hx rfl (hb hby d9_26) rfl rfl k) ?_
 refine own_by (fun _ k => XS.iloadN X0.here hx rfl (hb hby d9_27) rfl k) ?_
 refine own_by (fun _ k => XS.iload X0.here hx rfl (hb hby d9_28) rfl k) ?_
 refine own_by (fun _ k => XS.i2b X0.here hx rfl (hb hby d9_30) rfl k) ?_
 show own_Go p e below _ (s₁.setTop (mkF m 31 #[vR a0, vI (0 : Int32), vR a2, vI (0 : Int32), vI (3 : Int32), vI (0 : Int32), vI (fn_a0 0)] [(.int ((fn_a0 0).toInt8.toInt32)), (.int (0 : Int32)), (.ref a2)]))
 obtain ⟨cl2, Ar2, qq2, S2, M2, H2, G2⟩ := id P_V_a2
 have hin2 : ¬ ((0 : Int32) < 0 ∨ cl2.slots.size ≤ ((0 : Int32)).toNatClampNeg) := inb_of S2 ⟨by decide, by decide⟩
 obtain ⟨T3, h3, X3, e3, W3, st3⟩ := stB X0 hx hZ e0 Ar2 (j := (0 : Int32)) hin2 (g := (mkF m 31 #[vR a0, vI (0 : Int32), vR a2, vI (0 : Int32), vI (3 : Int32), vI (0 : Int32), vI (fn_a0 0)] [(.int ((fn_a0 0).toInt8.toInt32)), (.int (0 : Int32)), (.ref a2)])) rfl rfl (hb hby d9_31)
 have V3 : own_Arf Z h3 a2 k_a2 .byte (3 : Int32) (fun i => .int ((own_upd fn_a2 0 (nar .byte ((fn_a0 0).toInt8.toInt32))) i)) := own_arfSetI Ar2 qq2 S2 M2 H2 G2 (fits_nar_byte _) W3
 have K3 : Keep h0 h3 [a2] := (Keep.refl h0 [a2]).wr W3 (Or.inl (List.mem_of_getElem? (i := 0) rfl))
 have Z3 : n0 ≤ h3.size := Nat.le_trans Z0 (Keep.of_wr W3).1
 have N3 := Fr.snoc X3 N0 g_a2
 refine own_by st3 ?_
 show own_Go p e below _ (T3.setTop (mkF m 32 #[vR a0, vI (0 : Int32), vR a2, vI (0 : Int32), vI (3 : Int32), vI (0 : Int32), vI (fn_a0 0)] []))
 refine own_by (fun _ k => XS.iinc X3.here hx rfl (hb hby d9_32) rfl (l' := #[vR a0, vI (1 : Int32), vR a2, vI (0 : Int32), vI (3 : Int32), vI (0 : Int32), vI (fn_a0 0)]) rfl k) ?_
 show own_Go p e below _ (T3.setTop (mkF m 35 #[vR a0, vI (1 : Int32), vR a2, vI (0 : Int32), vI (3 : Int32), vI (0 : Int32), vI (fn_a0 0)] []))
 refine own_by (fun _ k => XS.iinc X3.here hx rfl (hb hby d9_35) rfl (l' := #[vR a0, vI (1 : Int32), vR a2, vI (1 : Int32), vI (3 : Int32), vI (0 : Int32), vI (fn_a0 0)]) rfl k) ?_
 show own_Go p e below _ (T3.setTop (mkF m 38 #[vR a0, vI (1 : Int32), vR a2, vI (1 : Int32), vI (3 : Int32), vI (0 : Int32), vI (fn_a0 0)] []))
 refine own_by (fun _ k => XS.iinc X3.here hx rfl (hb hby d9_38) rfl (l' := #[vR a0, vI (1 : Int32), vR a2, vI (1 : Int32), vI (3 : Int32), vI (1 : Int32), vI (fn_a0 0)]) rfl k) ?_
 show own_Go p e below _ (T3.setTop (mkF m 41 #[vR a0, vI (1 : Int32), vR a2, vI (1 : Int32), vI (3 : Int32), vI (1 : Int32), vI (fn_a0 0)] []))
 refine own_by (fun _ k => XS.goto X3.here hx rfl (pc0 := 41) (pc' := 3) rfl (hb hby d9_41) (by decide) (by decide) k) ?_
 show own_Go p e below _ (T3.setTop (mkF m 3 #[vR a0, vI (1 : Int32), vR a2, vI (1 : Int32), vI (3 : Int32), vI (1 : Int32), vI (fn_a0 0)] []))
 refine own_by (fun _ k => XS.iload X3.here hx rfl (hb hby d9_3) rfl k) ?_
 refine own_by (fun _ k => XS.iload X3.here hx rfl (hb hby d9_5) rfl k) ?_
 refine own_by (fun _ k => XS.icmpNo X3.here hx rfl (hb hby d9_7) rfl (tlt (by decide : (1 : Int32) < (3 : Int32))).2.1 k) ?_
 show own_Go p e below _ (T3.setTop (mkF m 10 #[vR a0, vI (1 : Int32), vR a2, vI (1 : Int32), vI (3 : Int32), vI (1 : Int32), vI (fn_a0 0)] []))
 refine own_by (fun _ k => XS.aloadN X3.here hx rfl (hb hby d9_10) rfl rfl k) ?_
 refine own_by (fun _ k => XS.iloadN X3.here hx rfl (hb hby d9_11) rfl k) ?_
 have F4 : own_Arf Z h3 a0 k_a0 .char (3 : Int32) (fun i => .int (fn_a0 i)) := (P_V_a0.other W3 ne_a0_a2)
 obtain ⟨cl5, Ar5, qq5, S5, M5, H5, G5⟩ := id F4
 have hin5 : ¬ ((1 : Int32) < 0 ∨ cl5.slots.size ≤ ((1 : Int32)).toNatClampNeg) := inb_of S5 ⟨by decide, by decide⟩
 refine own_by (fun t k => X3.caload hx (j := (1 : Int32)) (v := (.int (fn_a0 1))) (by rw [e3]; exact Ar5.1) (State.isArrayOf_alike hZ.alike Ar5.2.1) Ar5.2.2 hin5 (H5 _ (Nat.lt_of_not_le fun y => hin5 (Or.inr y))) (g := (mkF m 12 #[vR a0, vI (1 : Int32), vR a2, vI (1 : Int32), vI (3 : Int32), vI (1 : Int32), vI (fn_a0 0)] [(.int (1 : Int32)), (.ref a0)])) rfl rfl (hb hby d9_12) _ k) ?_
 show own_Go p e below _ (T3.setTop (mkF m 13 #[vR a0, vI (1 : Int32), vR a2, vI (1 : Int32), vI (3 : Int32), vI (1 : Int32), vI (fn_a0 0)] [(.int (fn_a0 1))]))
 refine own_by (fun _ k => XS.istore X3.here hx rfl (hb hby d9_13) rfl (l' := #[vR a0, vI (1 : Int32), vR a2, vI (1 : Int32), vI (3 : Int32), vI (1 : Int32), vI (fn_a0 1)]) rfl k) ?_
 show own_Go p e below _ (T3.setTop (mkF m 15 #[vR a0, vI (1 : Int32), vR a2, vI (1 : Int32), vI (3 : Int32), vI (1 : Int32), vI (fn_a0 1)] []))
 refine own_by (fun _ k => XS.iload X3.here hx rfl (hb hby d9_15) rfl k) ?_
 refine own_by (fun _ k => XS.sipush X3.here hx rfl (hb hby d9_17) k) ?_
 refine own_by (fun _ k => XS.icmpYes X3.here hx rfl (pc0 := 20) (pc' := 26) rfl (hb hby d9_20) rfl (flt hle_1).2.2.2 (by decide) (by decide) k) ?_
 show own_Go p e below _ (T3.setTop (mkF m 26 #[vR a0, vI (1 : Int32), vR a2, vI (1 : Int32), vI (3 : Int32), vI (1 : Int32), vI (fn_a0 1)] []))
 refine own_by (fun _ k => XS.aloadN X3.here hx rfl (hb hby d9_26) rfl rfl k) ?_
 refine own_by (fun _ k => XS.iloadN X3.here hx rfl (hb hby d9_27) rfl k) ?_
 refine own_by (fun _ k => XS.iload X3.here hx rfl (hb hby d9_28) rfl k) ?_
 refine own_by (fun _ k => XS.i2b X3.here hx rfl (hb hby d9_30) rfl k) ?_
 show own_Go p e below _ (T3.setTop (mkF m 31 #[vR a0, vI (1 : Int32), vR a2, vI (1 : Int32), vI (3 : Int32), vI (1 : Int32), vI (fn_a0 1)] [(.int ((fn_a0 1).toInt8.toInt32)), (.int (1 : Int32)), (.ref a2)]))
 obtain ⟨cl6, Ar6, qq6, S6, M6, H6, G6⟩ := id V3
 have hin6 : ¬ ((1 : Int32) < 0 ∨ cl6.slots.size ≤ ((1 : Int32)).toNatClampNeg) := inb_of S6 ⟨by decide, by decide⟩
 obtain ⟨T7, h7, X7, e7, W7, st7⟩ := stB X3 hx hZ e3 Ar6 (j := (1 : Int32)) hin6 (g := (mkF m 31 #[vR a0, vI (1 : Int32), vR a2, vI (1 : Int32), vI (3 : Int32), vI (1 : Int32), vI (fn_a0 1)] [(.int ((fn_a0 1).toInt8.toInt32)), (.int (1 : Int32)), (.ref a2)])) rfl rfl (hb hby d9_31)
 have V7 : own_Arf Z h7 a2 k_a2 .byte (3 : Int32) (fun i => .int ((own_upd (own_upd fn_a2 0 (nar .byte ((fn_a0 0).toInt8.toInt32))) 1 (nar .byte ((fn_a0 1).toInt8.toInt32))) i)) := own_arfSetI Ar6 qq6 S6 M6 H6 G6 (fits_nar_byte _) W7
 have K7 : Keep h0 h7 [a2] := K3.wr W7 (Or.inl (List.mem_of_getElem? (i := 0) rfl))
 have Z7 : n0 ≤ h7.size := Nat.le_trans Z3 (Keep.of_wr W7).1
 have N7 := Fr.snoc X7 N3 g_a2
 refine own_by st7 ?_
 show own_Go p e below _ (T7.setTop (mkF m 32 #[vR a0, vI (1 : Int32), vR a2, vI (1 : Int32), vI (3 : Int32), vI (1 : Int32), vI (fn_a0 1)] []))
 refine own_by (fun _ k => XS.iinc X7.here hx rfl (hb hby d9_32) rfl (l' := #[vR a0, vI (2 : Int32), vR a2, vI (1 : Int32), vI (3 : Int32), vI (1 : Int32), vI (fn_a0 1)]) rfl k) ?_
 show own_Go p e below _ (T7.setTop (mkF m 35 #[vR a0, vI (2 : Int32), vR a2, vI (1 : Int32), vI (3 : Int32), vI (1 : Int32), vI (fn_a0 1)] []))
 refine own_by (fun _ k => XS.iinc X7.here hx rfl (hb hby d9_35) rfl (l' := #[vR a0, vI (2 : Int32), vR a2, vI (2 : Int32), vI (3 : Int32), vI (1 : Int32), vI (fn_a0 1)]) rfl k) ?_
 show own_Go p e below _ (T7.setTop (mkF m 38 #[vR a0, vI (2 : Int32), vR a2, vI (2 : Int32), vI (3 : Int32), vI (1 : Int32), vI (fn_a0 1)] []))
 refine own_by (fun _ k => XS.iinc X7.here hx rfl (hb hby d9_38) rfl (l' := #[vR a0, vI (2 : Int32), vR a2, vI (2 : Int32), vI (3 : Int32), vI (2 : Int32), vI (fn_a0 1)]) rfl k) ?_
 show own_Go p e below _ (T7.setTop (mkF m 41 #[vR a0, vI (2 : Int32), vR a2, vI (2 : Int32), vI (3 : Int32), vI (2 : Int32), vI (fn_a0 1)] []))
 refine own_by (fun _ k => XS.goto X7.here hx rfl (pc0 := 41) (pc' := 3) rfl (hb hby d9_41) (by decide) (by decide) k) ?_
 show own_Go p e below _ (T7.setTop (mkF m 3 #[vR a0, vI (2 : Int32), vR a2, vI (2 : Int32), vI (3 : Int32), vI (2 : Int32), vI (fn_a0 1)] []))
 refine own_by (fun _ k => XS.iload X7.here hx rfl (hb hby d9_3) rfl k) ?_
 refine own_by (fun _ k => XS.iload X7.here hx rfl (hb hby d9_5) rfl k) ?_
 refine own_by (fun _ k => XS.icmpNo X7.here hx rfl (hb hby d9_7) rfl (tlt (by decide : (2 : Int32) < (3 : Int32))).2.1 k) ?_
 show own_Go p e below _ (T7.setTop (mkF m 10 #[vR a0, vI (2 : Int32), vR a2, vI (2 : Int32), vI (3 : Int32), vI (2 : Int32), vI (fn_a0 1)] []))
 refine own_by (fun _ k => XS.aloadN X7.here hx rfl (hb hby d9_10) rfl rfl k) ?_
 refine own_by (fun _ k => XS.iloadN X7.here hx rfl (hb hby d9_11) rfl k) ?_
 have F8 : own_Arf Z h7 a0 k_a0 .char (3 : Int32) (fun i => .int (fn_a0 i)) := (F4.other W7 ne_a0_a2)
 obtain ⟨cl9, Ar9, qq9, S9, M9, H9, G9⟩ := id F8
 have hin9 : ¬ ((2 : Int32) < 0 ∨ cl9.slots.size ≤ ((2 : Int32)).toNatClampNeg) := inb_of S9 ⟨by decide, by decide⟩
 refine own_by (fun t k => X7.caload hx (j := (2 : Int32)) (v := (.int (fn_a0 2))) (by rw [e7]; exact Ar9.1) (State.isArrayOf_alike hZ.alike Ar9.2.1) Ar9.2.2 hin9 (H9 _ (Nat.lt_of_not_le fun y => hin9 (Or.inr y))) (g := (mkF m 12 #[vR a0, vI (2 : Int32), vR a2, vI (2 : Int32), vI (3 : Int32), vI (2 : Int32), vI (fn_a0 1)] [(.int (2 : Int32)), (.ref a0)])) rfl rfl (hb hby d9_12) _ k) ?_
 show own_Go p e below _ (T7.setTop (mkF m 13 #[vR a0, vI (2 : Int32), vR a2, vI (2 : Int32), vI (3 : Int32), vI (2 : Int32), vI (fn_a0 1)] [(.int (fn_a0 2))]))
 refine own_by (fun _ k => XS.istore X7.here hx rfl (hb hby d9_13) rfl (l' := #[vR a0, vI (2 : Int32), vR a2, vI (2 : Int32), vI (3 : Int32), vI (2 : Int32), vI (fn_a0 2)]) rfl k) ?_
 show own_Go p e below _ (T7.setTop (mkF m 15 #[vR a0, vI (2 : Int32), vR a2, vI (2 : Int32), vI (3 : Int32), vI (2 : Int32), vI (fn_a0 2)] []))
 refine own_by (fun _ k => XS.iload X7.here hx rfl (hb hby d9_15) rfl k) ?_
 refine own_by (fun _ k => XS.sipush X7.here hx rfl (hb hby d9_17) k) ?_
 refine own_by (fun _ k => XS.icmpYes X7.here hx rfl (pc0 := 20) (pc' := 26) rfl (hb hby d9_20) rfl (flt hle_2).2.2.2 (by decide) (by decide) k) ?_
 show own_Go p e below _ (T7.setTop (mkF m 26 #[vR a0, vI (2 : Int32), vR a2, vI (2 : Int32), vI (3 : Int32), vI (2 : Int32), vI (fn_a0 2)] []))
 refine own_by (fun _ k => XS.aloadN X7.here hx rfl (hb hby d9_26) rfl rfl k) ?_
 refine own_by (fun _ k => XS.iloadN X7.here hx rfl (hb hby d9_27) rfl k) ?_
 refine own_by (fun _ k => XS.iload X7.here hx rfl (hb hby d9_28) rfl k) ?_
 refine own_by (fun _ k => XS.i2b X7.here hx rfl (hb hby d9_30) rfl k) ?_
 show own_Go p e below _ (T7.setTop (mkF m 31 #[vR a0, vI (2 : Int32), vR a2, vI (2 : Int32), vI (3 : Int32), vI (2 : Int32), vI (fn_a0 2)] [(.int ((fn_a0 2).toInt8.toInt32)), (.int (2 : Int32)), (.ref a2)]))
 obtain ⟨cl10, Ar10, qq10, S10, M10, H10, G10⟩ := id V7
 have hin10 : ¬ ((2 : Int32) < 0 ∨ cl10.slots.size ≤ ((2 : Int32)).toNatClampNeg) := inb_of S10 ⟨by decide, by decide⟩
 obtain ⟨T11, h11, X11, e11, W11, st11⟩ := stB X7 hx hZ e7 Ar10 (j := (2 : Int32)) hin10 (g := (mkF m 31 #[vR a0, vI (2 : Int32), vR a2, vI (2 : Int32), vI (3 : Int32), vI (2 : Int32), vI (fn_a0 2)] [(.int ((fn_a0 2).toInt8.toInt32)), (.int (2 : Int32)), (.ref a2)])) rfl rfl (hb hby d9_31)
 have V11 : own_Arf Z h11 a2 k_a2 .byte (3 : Int32) (fun i => .int ((own_upd (own_upd (own_upd fn_a2 0 (nar .byte ((fn_a0 0).toInt8.toInt32))) 1 (nar .byte ((fn_a0 1).toInt8.toInt32))) 2 (nar .byte ((fn_a0 2).toInt8.toInt32))) i)) := own_arfSetI Ar10 qq10 S10 M10 H10 G10 (fits_nar_byte _) W11
 have K11 : Keep h0 h11 [a2] := K7.wr W11 (Or.inl (List.mem_of_getElem? (i := 0) rfl))
 have Z11 : n0 ≤ h11.size := Nat.le_trans Z7 (Keep.of_wr W11).1
 have N11 := Fr.snoc X11 N7 g_a2
 refine own_by st11 ?_
 show own_Go p e below _ (T11.setTop (mkF m 32 #[vR a0, vI (2 : Int32), vR a2, vI (2 : Int32), vI (3 : Int32), vI (2 : Int32), vI (fn_a0 2)] []))
 refine own_by (fun _ k => XS.iinc X11.here hx rfl (hb hby d9_32) rfl (l' := #[vR a0, vI (3 : Int32), vR a2, vI (2 : Int32), vI (3 : Int32), vI (2 : Int32), vI (fn_a0 2)]) rfl k) ?_
 show own_Go p e below _ (T11.setTop (mkF m 35 #[vR a0, vI (3 : Int32), vR a2, vI (2 : Int32), vI (3 : Int32), vI (2 : Int32), vI (fn_a0 2)] []))
 refine own_by (fun _ k => XS.iinc X11.here hx rfl (hb hby d9_35) rfl (l' := #[vR a0, vI (3 : Int32), vR a2, vI (3 : Int32), vI (3 : Int32), vI (2 : Int32), vI (fn_a0 2)]) rfl k) ?_
 show own_Go p e below _ (T11.setTop (mkF m 38 #[vR a0, vI (3 : Int32), vR a2, vI (3 : Int32), vI (3 : Int32), vI (2 : Int32), vI (fn_a0 2)] []))
 refine own_by (fun _ k => XS.iinc X11.here hx rfl (hb hby d9_38) rfl (l' := #[vR a0, vI (3 : Int32), vR a2, vI (3 : Int32), vI (3 : Int32), vI (3 : Int32), vI (fn_a0 2)]) rfl k) ?_
 show own_Go p e below _ (T11.setTop (mkF m 41 #[vR a0, vI (3 : Int32), vR a2, vI (3 : Int32), vI (3 : Int32), vI (3 : Int32), vI (fn_a0 2)] []))
 refine own_by (fun _ k => XS.goto X11.here hx rfl (pc0 := 41) (pc' := 3) rfl (hb hby d9_41) (by decide) (by decide) k) ?_
 show own_Go p e below _ (T11.setTop (mkF m 3 #[vR a0, vI (3 : Int32), vR a2, vI (3 : Int32), vI (3 : Int32), vI (3 : Int32), vI (fn_a0 2)] []))
 refine own_by (fun _ k => XS.iload X11.here hx rfl (hb hby d9_3) rfl k) ?_
 refine own_by (fun _ k => XS.iload X11.here hx rfl (hb hby d9_5) rfl k) ?_
 refine own_by (fun _ k => XS.icmpYes X11.here hx rfl (pc0 := 7) (pc' := 44) rfl (hb hby d9_7) rfl (flt (by decide : ¬ ((3 : Int32) < (3 : Int32)))).2.1 (by decide) (by decide) k) ?_
 show own_Go p e below _ (T11.setTop (mkF m 44 #[vR a0, vI (3 : Int32), vR a2, vI (3 : Int32), vI (3 : Int32), vI (3 : Int32), vI (fn_a0 2)] []))
 refine own_by (fun _ k => XS.iload X11.here hx rfl (hb hby d9_44) rfl k) ?_
 exact own_retI X11 hx Bd.returns (hb hby d9_46) hlk e11 ⟨rfl, N11, K11, V11⟩ (by decide) (by decide)
theorem pn_cmpB3 : plainName "java/lang/StringUTF16" = true := by first | (simp [plainName, overriddenIn]; done) | decide +kernel
theorem ef_cmpB3 (m : MethodId) (a0 : Addr) : entryFrame m #[(.ref a0), (.int (0 : Int32)), (.int (3 : Int32))] 6 = mkF m 0 #[vR a0, vI (0 : Int32), vI (3 : Int32), .unset, .unset, .unset] [] := by first | (simp [entryFrame, mkF, argsToLocals, Value.category]; done) | rfl
def QcmpB3 (Z : State) (k_a0 : ClassId) (fn_a0 : Nat → Int32) (a0 : Addr) (h0 : Heap) (n0 : Nat) (v : Option Value) (h : Heap) (L : List Loc) : Prop := ∃ (b1 : Addr) (k1 : ClassId), v = some (.ref b1) ∧ Fr n0 L ∧ Keep h0 h [] ∧ (n0 ≤ b1) ∧ (h0.size ≤ b1) ∧ own_Arf Z h b1 k1 .byte (3 : Int32) (fun i => .int ((own_upd (own_upd (own_upd (fun _ => (0 : Int32)) 0 (nar .byte ((fn_a0 0).toInt8.toInt32))) 1 (nar .byte ((fn_a0 1).toInt8.toInt32))) 2 (nar .byte ((fn_a0 2).toInt8.toInt32))) i))
set_option maxRecDepth 65536 in
set_option maxHeartbeats 40000000 in
theorem rmcmpB3 (l : Launch) (Z : State) (A0 : Array Value) (hw : ∀ d ∈ tables_1, d.before A0 Z = true) (ws : List Jvm.Cond) (k_a0 : ClassId) (fn_a0 : Nat → Int32) (a0 : Addr) (h0 : Heap) (n0 : Nat) (Z0 : n0 ≤ h0.size) (P_V_a0 : own_Arf Z h0 a0 k_a0 .char (3 : Int32) (fun i => .int (fn_a0 i))) (hle_0 : ¬ ((255 : Int32) < (fn_a0 0))) (hle_1 : ¬ ((255 : Int32) < (fn_a0 1))) (hle_2 : ¬ ((255 : Int32) < (fn_a0 2))) :
    MetFree l (⟨"java/lang/StringUTF16", "compress", "([CII)[B"⟩ : MethodName) (head1 (Jvm.Cond.code (⟨"java/lang/StringUTF16", "compress", "([CII)[B"⟩ : MethodName) jdk_52_method_16_code 6 (some (.array .byte)) :: ws) ({ frames := 1, cells := 1, slots := 3, locals := 18 } : Room)) (fun a U => a = #[(.ref a0), (.int (0 : Int32)), (.int (3 : Int32))] ∧ Z.Warmed39 U.vm ∧ U.heap = h0) (fun _ _ _ _ _ => True) (fun _ U o U' => ∃ v L, o = .returned v ∧ QcmpB3 Z k_a0 fn_a0 a0 h0 n0 v U'.heap L ∧ FrameEnd U o U' L 1 3) := by
 refine MetFree.of_bodySF (plainFor_of_name pn_cmpB3) hisR ?_
 intro p e s m args below meth c s₁ Bd hml0 hP hK
 obtain ⟨rfl, hZ, hh⟩ := hP
 have hwd := fun i {d : Jvm.Cond} (h : tables_1[i]? = some d) => hw d (List.mem_of_getElem? h)
 have hx := Bd.exec
 have hby := Bd.bytes
 have hml : c.maxLocals = 6 := hml0
 have hlk : meth.locks = false := Bd.notSynchronized
 have hown : s.vm.findClass "java/lang/StringUTF16" = some m.cls := findClass_of_methodNamed Bd.named
 have hnm := (name_of_methodNamed Bd.named Bd.method).1
 have X0 : Stand p l e ({ frames := 1, cells := 1, slots := 3, locals := 18 } : Room) s m #[(.ref a0), (.int (0 : Int32)), (.int (3 : Int32))] below meth c s₁ [] 0 0 := Stand.of_body Bd
 have e0 : s₁.heap = h0 := by rw [← hh, Bd.state]; rfl
 have N0 := Fr.nil n0
 show own_Go p e below (own_Fin s 1 3 (QcmpB3 Z k_a0 fn_a0 a0 h0 n0)) _
 refine own_by (fun t k => castTop (ef_cmpB3 m a0) k) ?_
 show own_Go p e below _ (s₁.setTop (mkF m 0 #[vR a0, vI (0 : Int32), vI (3 : Int32), .unset, .unset, .unset] []))
 refine own_by (fun _ k => XS.iloadN X0.here hx rfl (hb hby d8_0) rfl k) ?_
 obtain ⟨T1, h1, k1, X1, e1, E1, A1, st1⟩ := newP X0 hx hZ (hwd 16 rfl) e0 (g := (mkF m 1 #[vR a0, vI (0 : Int32), vI (3 : Int32), .unset, .unset, .unset] [(.int (3 : Int32))])) rfl (hb hby d8_1) rfl (by decide) (cap := 3) (by decide) (by decide) (by decide) (by decide)
 obtain ⟨b1, g1⟩ : ∃ z, z = h0.size := ⟨_, rfl⟩
 have ge_b1 : n0 ≤ b1 := Nat.le_trans Z0 (Nat.le_of_eq g1.symm)
 have sz_b1 : h0.size ≤ b1 := Nat.le_trans (Keep.refl h0 []).1 (Nat.le_of_eq g1.symm)
 have K1 : Keep h0 h1 [] := (Keep.refl h0 []).ext E1
 have Z1 : n0 ≤ h1.size := Nat.le_trans Z0 E1.1
 rw [← g1] at A1 st1
 have V1 : own_Arf Z h1 b1 k1 .byte (3 : Int32) (fun i => .int ((fun _ => (0 : Int32)) i)) := own_arfNew A1 (by decide)
 refine own_by st1 ?_
 show own_Go p e below _ (T1.setTop (mkF m 3 #[vR a0, vI (0 : Int32), vI (3 : Int32), .unset, .unset, .unset] [(.ref b1)]))
 refine own_by (fun _ k => XS.astoreN X1.here hx rfl (hb hby d8_3) rfl rfl (l' := #[vR a0, vI (0 : Int32), vI (3 : Int32), vR b1, .unset, .unset]) rfl k) ?_
 show own_Go p e below _ (T1.setTop (mkF m 4 #[vR a0, vI (0 : Int32), vI (3 : Int32), vR b1, .unset, .unset] []))
 refine own_by (fun _ k => XS.aloadN X1.here hx rfl (hb hby d8_4) rfl rfl k) ?_
 refine own_by (fun _ k => XS.iloadN X1.here hx rfl (hb hby d8_5) rfl k) ?_
 refine own_by (fun _ k => XS.aloadN X1.here hx rfl (hb hby d8_6) rfl rfl k) ?_
 refine own_by (fun _ k => XS.iconst X1.here hx rfl (hb hby d8_7) k) ?_
 refine own_by (fun _ k => XS.iloadN X1.here hx rfl (hb hby d8_8) rfl k) ?_
 have F2 : own_Arf Z h1 a0 k_a0 .char (3 : Int32) (fun i => .int (fn_a0 i)) := (P_V_a0.ext E1)
 obtain ⟨_, _, ⟨T3, L3, k3, n3⟩, -, X3, ⟨Lc3, hQ3, l3, y3, z3⟩, st3⟩ := Jvm.LawKit.callS X1 hx (y := (⟨"java/lang/StringUTF16", "compress", "([CI[BII)I"⟩ : MethodName)) hown (mvT hZ (hwd 53 rfl)) (mvT hZ (hwd 54 rfl)) (mvT hZ (hwd 51 rfl)) (mvT hZ (hwd 55 rfl)) (by decide) (backOf (W := 0) (rmcmp3 l Z A0 hw [] k_a0 fn_a0 k1 (fun _ => (0 : Int32)) a0 b1 h1 n0 Z1 F2 V1 hle_0 hle_1 hle_2 ge_b1 (Nat.ne_of_lt (Nat.lt_of_lt_of_le (P_V_a0).lt (Nat.le_of_eq g1.symm)))) hZ (hwd 55 rfl) (hwd 51 rfl) (by decide) (by decide)) (g := (mkF m 9 #[vR a0, vI (0 : Int32), vI (3 : Int32), vR b1, .unset, .unset] [(.int (3 : Int32)), (.int (0 : Int32)), (.ref b1), (.int (0 : Int32)), (.ref a0)])) rfl (by rw [hml]; rfl) (argsL := [(.ref a0), (.int (0 : Int32)), (.ref b1), (.int (0 : Int32)), (.int (3 : Int32))]) (rest := []) (lenOf pd_53 rfl) rfl (by show 2 * 0 + _ ≤ _; exact Nat.le_of_eq rfl) (hb hby d8_9) (fun _ _ => ⟨rfl, e1, (by decide : 1 + 0 ≤ _), (by decide : 3 + 0 ≤ _)⟩)
 dsimp only [Pt.U, Pt.locs, Pt.cells, Pt.slots] at X3 l3 y3 z3 st3 hQ3
 subst l3 y3 z3
 obtain ⟨rfl, Nq3, Kq3, F4⟩ := hQ3
 have N3 := Fr.app N0 Nq3
 have K3 : Keep h0 T3.heap [] := K1.trans Kq3 ((allS (Or.inr sz_b1) all0))
 have Z3 : n0 ≤ T3.heap.size := Nat.le_trans Z1 Kq3.1
 refine own_by st3 ?_
 show own_Go p e below _ (T3.setTop (mkF m 12 #[vR a0, vI (0 : Int32), vI (3 : Int32), vR b1, .unset, .unset] [(.int (3 : Int32))]))
 refine own_by (fun _ k => XS.istore X3.here hx rfl (hb hby d8_12) rfl (l' := #[vR a0, vI (0 : Int32), vI (3 : Int32), vR b1, vI (3 : Int32), .unset]) rfl k) ?_
 show own_Go p e below _ (T3.setTop (mkF m 14 #[vR a0, vI (0 : Int32), vI (3 : Int32), vR b1, vI (3 : Int32), .unset] []))
 refine own_by (fun _ k => XS.iload X3.here hx rfl (hb hby d8_14) rfl k) ?_
 refine own_by (fun _ k => XS.iloadN X3.here hx rfl (hb hby d8_16) rfl k) ?_
 refine own_by (fun _ k => XS.icmpYes X3.here hx rfl (pc0 := 17) (pc' := 57) rfl (hb hby d8_17) rfl (teq (by decide : (3 : Int32) = (3 : Int32))).1 (by decide) (by decide) k) ?_
 show own_Go p e below _ (T3.setTop (mkF m 57 #[vR a0, vI (0 : Int32), vI (3 : Int32), vR b1, vI (3 : Int32), .unset] []))
 refine own_by (fun _ k => XS.aloadN X3.here hx rfl (hb hby d8_57) rfl rfl k) ?_
 exact own_retR X3 hx Bd.returns (by decide) rfl (hb hby d8_58) hlk rfl ⟨_, _, rfl, N3, K3, ge_b1, sz_b1, F4⟩ (by decide) (by decide)
theorem pn_cfa3 : plainName "java/lang/StringUTF16" = true := by first | (simp [plainName, overriddenIn]; done) | decide +kernel
theorem ef_cfa3 (m : MethodId) (a0 : Addr) : entryFrame m #[(.ref a0), (.int (3 : Int32))] 2 = mkF m 0 #[vR a0, vI (3 : Int32)] [] := by first | (simp [entryFrame, mkF, argsToLocals, Value.category]; done) | rfl
def Qcfa3 (Z : State) (k_a0 : ClassId) (fn_a0 : Nat → Int32) (a0 : Addr) (h0 : Heap) (n0 : Nat) (v : Option Value) (h : Heap) (L : List Loc) : Prop := v = some (.int (nar .byte (0 : Int32))) ∧ Fr n0 L ∧ h = h0
set_option maxRecDepth 65536 in
set_option maxHeartbeats 40000000 in
theorem rmcfa3 (l : Launch) (Z : State) (A0 : Array Value) (hw : ∀ d ∈ tables_1, d.before A0 Z = true) (ws : List Jvm.Cond) (k_a0 : ClassId) (fn_a0 : Nat → Int32) (a0 : Addr) (h0 : Heap) (n0 : Nat) (Z0 : n0 ≤ h0.size) (P_V_a0 : own_Arf Z h0 a0 k_a0 .byte (3 : Int32) (fun i => .int (fn_a0 i))) :
    MetFree l (⟨"java/lang/StringUTF16", "coderFromArrayLen", "([BI)B"⟩ : MethodName) (head1 (Jvm.Cond.code (⟨"java/lang/StringUTF16", "coderFromArrayLen", "([BI)B"⟩ : MethodName) jdk_52_method_15_code 2 (some .byte) :: ws) ({ frames := 0, cells := 0, slots := 0, locals := 0 } : Room)) (fun a U => a = #[(.ref a0), (.int (3 : Int32))] ∧ Z.Warmed39 U.vm ∧ U.heap = h0) (fun _ _ _ _ _ => True) (fun _ U o U' => ∃ v L, o = .returned v ∧ Qcfa3 Z k_a0 fn_a0 a0 h0 n0 v U'.heap L ∧ FrameEnd U o U' L 0 0) := by
 refine MetFree.of_bodySF (plainFor_of_name pn_cfa3) hisR ?_
 intro p e s m args below meth c s₁ Bd hml0 hP hK
 obtain ⟨rfl, hZ, hh⟩ := hP
 have hwd := fun i {d : Jvm.Cond} (h : tables_1[i]? = some d) => hw d (List.mem_of_getElem? h)
 have hx := Bd.exec
 have hby := Bd.bytes
 have hml : c.maxLocals = 2 := hml0
 have hlk : meth.locks = false := Bd.notSynchronized
 have hown : s.vm.findClass "java/lang/StringUTF16" = some m.cls := findClass_of_methodNamed Bd.named
 have hnm := (name_of_methodNamed Bd.named Bd.method).1
 have X0 : Stand p l e ({ frames := 0, cells := 0, slots := 0, locals := 0 } : Room) s m #[(.ref a0), (.int (3 : Int32))] below meth c s₁ [] 0 0 := Stand.of_body Bd
 have e0 : s₁.heap = h0 := by rw [← hh, Bd.state]; rfl
 have N0 := Fr.nil n0
 show own_Go p e below (own_Fin s 0 0 (Qcfa3 Z k_a0 fn_a0 a0 h0 n0)) _
 refine own_by (fun t k => castTop (ef_cfa3 m a0) k) ?_
 show own_Go p e below _ (s₁.setTop (mkF m 0 #[vR a0, vI (3 : Int32)] []))
 refine own_by (fun _ k => XS.iloadN X0.here hx rfl (hb hby d10_0) rfl k) ?_
 refine own_by (fun _ k => XS.aloadN X0.here hx rfl (hb hby d10_1) rfl rfl k) ?_
 obtain ⟨cl1, Ar1, qq1, S1, M1, H1, G1⟩ := id P_V_a0
 refine own_by (fun t k => X0.arraylength hx (by rw [e0]; exact Ar1.1) (State.isArrayOf_alike hZ.alike Ar1.2.1) (g := (mkF m 2 #[vR a0, vI (3 : Int32)] [(.ref a0), (.int (3 : Int32))])) rfl rfl (hb hby d10_2) _ k) ?_
 rw [len_of S1 M1]
 show own_Go p e below _ (s₁.setTop (mkF m 3 #[vR a0, vI (3 : Int32)] [(.int (3 : Int32)), (.int (3 : Int32))]))
 refine own_by (fun _ k => XS.isub X0.here hx rfl (hb hby d10_3) rfl k) ?_
 show own_Go p e below _ (s₁.setTop (mkF m 4 #[vR a0, vI (3 : Int32)] [(.int (0 : Int32))]))
 refine own_by (fun _ k => XS.bipush X0.here hx rfl (hb hby d10_4) k) ?_
 refine own_by (fun _ k => XS.iushr X0.here hx rfl (hb hby d10_6) rfl k) ?_
 show own_Go p e below _ (s₁.setTop (mkF m 7 #[vR a0, vI (3 : Int32)] [(.int (0 : Int32))]))
 refine own_by (fun _ k => XS.i2b X0.here hx rfl (hb hby d10_7) rfl k) ?_
 show own_Go p e below _ (s₁.setTop (mkF m 8 #[vR a0, vI (3 : Int32)] [(.int (0 : Int32))]))
 exact own_retN X0 hx (t := .byte) Bd.returns (by simp) (hb hby d10_8) hlk e0 ⟨rfl, N0, rfl⟩ (by decide) (by decide)
theorem pn_si4_3 : plainName "java/lang/String" = true := by first | (simp [plainName, overriddenIn]; done) | decide +kernel
theorem ef_si4_3 (m : MethodId) (a0 : Addr) (a1 : Addr) : entryFrame m #[(.ref a0), (.ref a1), (.int (0 : Int32)), (.int (3 : Int32)), .null] 6 = mkF m 0 #[vR a0, vR a1, vI (0 : Int32), vI (3 : Int32), .val .null, .unset] [] := by first | (simp [entryFrame, mkF, argsToLocals, Value.category]; done) | rfl
def Qsi4_3 (Z : State) (k_a1 : ClassId) (fn_a1 : Nat → Int32) (f_CS : Int32) (a0 : Addr) (a1 : Addr) (f_a0_coder : Int32) (f_a0_value : Value) (h0 : Heap) (n0 : Nat) (v : Option Value) (h : Heap) (L : List Loc) : Prop := ∃ (b4 : Addr) (b5 : ClassId), v = none ∧ Fr n0 L ∧ Keep h0 h [a0] ∧ Exa Z h a0 "java/lang/String" ∧ Fld Z h a0 "java/lang/String" "coder" "B" (.int (nar .byte (0 : Int32))) ∧ Fld Z h a0 "java/lang/String" "value" "[B" (.ref b4) ∧ (n0 ≤ b4) ∧ (h0.size ≤ b4) ∧ own_Arf Z h b4 b5 .byte (3 : Int32) (fun i => .int ((own_upd (own_upd (own_upd (fun _ => (0 : Int32)) 0 (nar .byte ((fn_a1 0).toInt8.toInt32))) 1 (nar .byte ((fn_a1 1).toInt8.toInt32))) 2 (nar .byte ((fn_a1 2).toInt8.toInt32))) i))
set_option maxRecDepth 65536 in
set_option maxHeartbeats 40000000 in
theorem rmsi4_3 (l : Launch) (Z : State) (A0 : Array Value) (hw : ∀ d ∈ tables_1, d.before A0 Z = true) (ws : List Jvm.Cond) (k_a1 : ClassId) (fn_a1 : Nat → Int32) (f_CS : Int32) (a0 : Addr) (a1 : Addr) (f_a0_coder : Int32) (f_a0_value : Value) (h0 : Heap) (n0 : Nat) (Z0 : n0 ≤ h0.size) (P_V_a1 : own_Arf Z h0 a1 k_a1 .char (3 : Int32) (fun i => .int (fn_a1 i))) (P_S_CS : Sta Z h0 "java/lang/String" "COMPACT_STRINGS" "Z" (.int f_CS)) (hn_CS : ¬ (f_CS = (0 : Int32))) (hle_0 : ¬ ((255 : Int32) < (fn_a1 0))) (hle_1 : ¬ ((255 : Int32) < (fn_a1 1))) (hle_2 : ¬ ((255 : Int32) < (fn_a1 2))) (P_E_a0 : Exa Z h0 a0 "java/lang/String") (P_F_a0_coder : Fld Z h0 a0 "java/lang/String" "coder" "B" (.int f_a0_coder)) (g_a0 : n0 ≤ a0) (P_F_a0_value : Fld Z h0 a0 "java/lang/String" "value" "[B" f_a0_value) :
    MetFree l (⟨"java/lang/String", "<init>", "([CIILjava/lang/Void;)V"⟩ : MethodName) (head1 (Jvm.Cond.code (⟨"java/lang/String", "<init>", "([CIILjava/lang/Void;)V"⟩ : MethodName) jdk_42_method_149_code 6 none :: ws) ({ frames := 2, cells := 1, slots := 3, locals := 35 } : Room)) (fun a U => a = #[(.ref a0), (.ref a1), (.int (0 : Int32)), (.int (3 : Int32)), .null] ∧ Z.Warmed39 U.vm ∧ U.heap = h0) (fun _ _ _ _ _ => True) (fun _ U o U' => ∃ v L, o = .returned v ∧ Qsi4_3 Z k_a1 fn_a1 f_CS a0 a1 f_a0_coder f_a0_value h0 n0 v U'.heap L ∧ FrameEnd U o U' L 1 3) := by
 refine MetFree.of_bodySF (plainFor_of_name pn_si4_3) hisR ?_
 intro p e s m args below meth c s₁ Bd hml0 hP hK
 obtain ⟨rfl, hZ, hh⟩ := hP
 have hwd := fun i {d : Jvm.Cond} (h : tables_1[i]? = some d) => hw d (List.mem_of_getElem? h)
 have hx := Bd.exec
 have hby := Bd.bytes
 have hml : c.maxLocals = 6 := hml0
 have hlk : meth.locks = false := Bd.notSynchronized
 have hown : s.vm.findClass "java/lang/String" = some m.cls := findClass_of_methodNamed Bd.named
 have hnm := (name_of_methodNamed Bd.named Bd.method).1
 have X0 : Stand p l e ({ frames := 2, cells := 1, slots := 3, locals := 35 } : Room) s m #[(.ref a0), (.ref a1), (.int (0 : Int32)), (.int (3 : Int32)), .null] below meth c s₁ [] 0 0 := Stand.of_body Bd
 have e0 : s₁.heap = h0 := by rw [← hh, Bd.state]; rfl
 have N0 := Fr.nil n0
 show own_Go p e below (own_Fin s 1 3 (Qsi4_3 Z k_a1 fn_a1 f_CS a0 a1 f_a0_coder f_a0_value h0 n0)) _
 refine own_by (fun t k => castTop (ef_si4_3 m a0 a1) k) ?_
 show own_Go p e below _ (s₁.setTop (mkF m 0 #[vR a0, vR a1, vI (0 : Int32), vI (3 : Int32), .val .null, .unset] []))
 refine own_by (fun _ k => XS.aloadN X0.here hx rfl (hb hby d7_0) rfl rfl k) ?_
 obtain ⟨T1, X1, e1, st1⟩ := initO X0 hx hZ hown (hwd 47 rfl) (hwd 7 rfl) (hwd 8 rfl) e0 (g := (mkF m 1 #[vR a0, vR a1, vI (0 : Int32), vI (3 : Int32), .val .null, .unset] [(.ref a0)])) rfl (by rw [hml]; rfl) rfl (hb hby d7_1) (by decide) (W := 0) (by show 2 * 0 + _ ≤ _; exact Nat.le_of_eq rfl) (by decide)
 refine own_by st1 ?_
 show own_Go p e below _ (T1.setTop (mkF m 4 #[vR a0, vR a1, vI (0 : Int32), vI (3 : Int32), .val .null, .unset] []))
 refine own_by (fun _ k => XS.iloadN X1.here hx rfl (hb hby d7_4) rfl k) ?_
 refine own_by (fun _ k => XS.ifYes X1.here hx rfl (pc0 := 5) (pc' := 27) rfl (hb hby d7_5) rfl ((if0 _ _).trans (feq (by decide : ¬ ((3 : Int32) = (0 : Int32)))).2) (by decide) (by decide) k) ?_
 show own_Go p e below _ (T1.setTop (mkF m 27 #[vR a0, vR a1, vI (0 : Int32), vI (3 : Int32), .val .null, .unset] []))
 obtain ⟨T2, X2, e2, st2⟩ := getS2 X1 hx hZ hown (host := "") (Or.inl (hwd 48 rfl)) Via.refl e1 P_S_CS (g := (mkF m 27 #[vR a0, vR a1, vI (0 : Int32), vI (3 : Int32), .val .null, .unset] [])) rfl (hb hby d7_27)
 refine own_by st2 ?_
 show own_Go p e below _ (T2.setTop (mkF m 30 #[vR a0, vR a1, vI (0 : Int32), vI (3 : Int32), .val .null, .unset] [(.int f_CS)]))
 refine own_by (fun _ k => XS.ifNo X2.here hx rfl (hb hby d7_30) rfl ((if0 _ _).trans (feq hn_CS).1) k) ?_
 show own_Go p e below _ (T2.setTop (mkF m 33 #[vR a0, vR a1, vI (0 : Int32), vI (3 : Int32), .val .null, .unset] []))
 refine own_by (fun _ k => XS.aloadN X2.here hx rfl (hb hby d7_33) rfl rfl k) ?_
 refine own_by (fun _ k => XS.iloadN X2.here hx rfl (hb hby d7_34) rfl k) ?_
 refine own_by (fun _ k => XS.iloadN X2.here hx rfl (hb hby d7_35) rfl k) ?_
 obtain ⟨_, _, ⟨T3, L3, k3, n3⟩, -, X3, ⟨Lc3, hQ3, l3, y3, z3⟩, st3⟩ := Jvm.LawKit.callS X2 hx (y := (⟨"java/lang/StringUTF16", "compress", "([CII)[B"⟩ : MethodName)) hown (mvT hZ (hwd 49 rfl)) (mvT hZ (hwd 50 rfl)) (mvT hZ (hwd 51 rfl)) (mvT hZ (hwd 52 rfl)) (by decide) (backOf (W := 0) (rmcmpB3 l Z A0 hw [] k_a1 fn_a1 a1 h0 n0 Z0 P_V_a1 hle_0 hle_1 hle_2) hZ (hwd 52 rfl) (hwd 51 rfl) (by decide) (by decide)) (g := (mkF m 36 #[vR a0, vR a1, vI (0 : Int32), vI (3 : Int32), .val .null, .unset] [(.int (3 : Int32)), (.int (0 : Int32)), (.ref a1)])) rfl (by rw [hml]; rfl) (argsL := [(.ref a1), (.int (0 : Int32)), (.int (3 : Int32))]) (rest := []) (lenOf pd_49 rfl) rfl (by show 2 * 0 + _ ≤ _; exact Nat.le_of_eq rfl) (hb hby d7_36) (fun _ _ => ⟨rfl, e2, (by decide : 0 + 1 ≤ _), (by decide : 0 + 3 ≤ _)⟩)
 dsimp only [Pt.U, Pt.locs, Pt.cells, Pt.slots] at X3 l3 y3 z3 st3 hQ3
 subst l3 y3 z3
 obtain ⟨b4, b5, rfl, Nq3, Kq3, hp6, hp7, F8⟩ := hQ3
 have N3 := Fr.app N0 Nq3
 have K3 : Keep h0 T3.heap [a0] := (Keep.refl h0 [a0]).trans Kq3 (all0)
 have Z3 : n0 ≤ T3.heap.size := Nat.le_trans Z0 Kq3.1
 have sz_b4 : h0.size ≤ b4 := Nat.le_trans (Keep.refl h0 [a0]).1 hp7
 refine own_by st3 ?_
 show own_Go p e below _ (T3.setTop (mkF m 39 #[vR a0, vR a1, vI (0 : Int32), vI (3 : Int32), .val .null, .unset] [(.ref b4)]))
 refine own_by (fun _ k => XS.astore X3.here hx rfl (hb hby d7_39) rfl rfl (l' := #[vR a0, vR a1, vI (0 : Int32), vI (3 : Int32), .val .null, vR b4]) rfl k) ?_
 show own_Go p e below _ (T3.setTop (mkF m 41 #[vR a0, vR a1, vI (0 : Int32), vI (3 : Int32), .val .null, vR b4] []))
 refine own_by (fun _ k => XS.aloadN X3.here hx rfl (hb hby d7_41) rfl rfl k) ?_
 refine own_by (fun _ k => XS.aload X3.here hx rfl (hb hby d7_42) rfl rfl k) ?_
 refine own_by (fun _ k => XS.iloadN X3.here hx rfl (hb hby d7_44) rfl k) ?_
 obtain ⟨_, _, ⟨T9, L9, k9, n9⟩, -, X9, ⟨Lc9, hQ9, l9, y9, z9⟩, st9⟩ := Jvm.LawKit.callS X3 hx (y := (⟨"java/lang/StringUTF16", "coderFromArrayLen", "([BI)B"⟩ : MethodName)) hown (mvT hZ (hwd 56 rfl)) (mvT hZ (hwd 57 rfl)) (mvT hZ (hwd 51 rfl)) (mvT hZ (hwd 58 rfl)) (by decide) (backOf (W := 1) (rmcfa3 l Z A0 hw [] b5 (own_upd (own_upd (own_upd (fun _ => (0 : Int32)) 0 (nar .byte ((fn_a1 0).toInt8.toInt32))) 1 (nar .byte ((fn_a1 1).toInt8.toInt32))) 2 (nar .byte ((fn_a1 2).toInt8.toInt32))) b4 T3.heap n0 Z3 F8) hZ (hwd 58 rfl) (hwd 51 rfl) (by decide) (by decide)) (g := (mkF m 45 #[vR a0, vR a1, vI (0 : Int32), vI (3 : Int32), .val .null, vR b4] [(.int (3 : Int32)), (.ref b4), (.ref a0)])) rfl (by rw [hml]; rfl) (argsL := [(.ref b4), (.int (3 : Int32))]) (rest := [(.ref a0)]) (lenOf pd_56 rfl) rfl (by show 2 * 0 + _ ≤ _; exact Nat.le_of_eq rfl) (hb hby d7_45) (fun _ _ => ⟨rfl, rfl, (by decide : 1 + 0 ≤ _), (by decide : 3 + 0 ≤ _)⟩)
 dsimp only [Pt.U, Pt.locs, Pt.cells, Pt.slots] at X9 l9 y9 z9 st9 hQ9
 subst l9 y9 z9
 obtain ⟨rfl, Nq9, eq9⟩ := hQ9
 have N9 := Fr.app N3 Nq9
 refine own_by st9 ?_
 show own_Go p e below _ (T9.setTop (mkF m 48 #[vR a0, vR a1, vI (0 : Int32), vI (3 : Int32), .val .null, vR b4] [(.int (0 : Int32)), (.ref a0)]))
 have F10 : Exa Z T3.heap a0 "java/lang/String" := (P_E_a0.keep Kq3)
 have F11 : Fld Z T3.heap a0 "java/lang/String" "coder" "B" (.int f_a0_coder) := (P_F_a0_coder.keep Kq3 nin0)
 obtain ⟨T12, h12, X12, e12, W12, st12⟩ := putFN X9 hx hZ hown (hwd 59 rfl) Via.refl eq9 F11 F10 (Or.inr ⟨(hwd 18 rfl), rfl, hnm⟩) (hwd 15 rfl) (ty := .byte) (v' := (.int (nar .byte (0 : Int32)))) (by decide) rfl (fits_nar_byte _) (g := (mkF m 48 #[vR a0, vR a1, vI (0 : Int32), vI (3 : Int32), .val .null, vR b4] [(.int (0 : Int32)), (.ref a0)])) rfl rfl (hb hby d7_48)
 have Fw12 : Fld Z h12 a0 "java/lang/String" "coder" "B" (.int (nar .byte (0 : Int32))) := F11.same W12
 have K12 : Keep h0 h12 [a0] := K3.wr W12 (Or.inl (List.mem_of_getElem? (i := 0) rfl))
 have Z12 : n0 ≤ h12.size := Nat.le_trans Z3 (Keep.of_wr W12).1
 have N12 := Fr.snoc X12 N9 g_a0
 refine own_by st12 ?_
 show own_Go p e below _ (T12.setTop (mkF m 51 #[vR a0, vR a1, vI (0 : Int32), vI (3 : Int32), .val .null, vR b4] []))
 refine own_by (fun _ k => XS.aloadN X12.here hx rfl (hb hby d7_51) rfl rfl k) ?_
 refine own_by (fun _ k => XS.aload X12.here hx rfl (hb hby d7_52) rfl rfl k) ?_
 have F13 : Exa Z h12 a0 "java/lang/String" := (F10.wr W12)
 have F14 : Fld Z h12 a0 "java/lang/String" "value" "[B" f_a0_value := ((P_F_a0_value.keep Kq3 nin0).other W12 (Or.inr (slot_ne (Or.inr (hwd 17 rfl)) (Or.inr (hwd 18 rfl)) (by decide) (t := (.array .byte)) (t' := .byte) (by decide) (by decide))))
 obtain ⟨T15, h15, X15, e15, W15, st15⟩ := putF X12 hx hZ hown (host := "") (Or.inl (hwd 60 rfl)) Via.refl e12 F14 F13 (Or.inr ⟨(hwd 17 rfl), rfl, hnm⟩) (hwd 15 rfl) (ty := (.array .byte)) (by decide) rfl rfl (g := (mkF m 54 #[vR a0, vR a1, vI (0 : Int32), vI (3 : Int32), .val .null, vR b4] [(.ref b4), (.ref a0)])) rfl rfl (hb hby d7_54)
 have Fw15 : Fld Z h15 a0 "java/lang/String" "value" "[B" (.ref b4) := F14.same W15
 have K15 : Keep h0 h15 [a0] := K12.wr W15 (Or.inl (List.mem_of_getElem? (i := 0) rfl))
 have Z15 : n0 ≤ h15.size := Nat.le_trans Z12 (Keep.of_wr W15).1
 have N15 := Fr.snoc X15 N12 g_a0
 refine own_by st15 ?_
 show own_Go p e below _ (T15.setTop (mkF m 57 #[vR a0, vR a1, vI (0 : Int32), vI (3 : Int32), .val .null, vR b4] []))
 have F16 : Exa Z h15 a0 "java/lang/String" := (F13.wr W15)
 have F17 : Fld Z h15 a0 "java/lang/String" "coder" "B" (.int (nar .byte (0 : Int32))) := (Fw12.other W15 (Or.inr (slot_ne (Or.inr (hwd 18 rfl)) (Or.inr (hwd 17 rfl)) (by decide) (t := .byte) (t' := (.array .byte)) (by decide) (by decide))))
 have F18 : own_Arf Z h15 b4 b5 .byte (3 : Int32) (fun i => .int ((own_upd (own_upd (own_upd (fun _ => (0 : Int32)) 0 (nar .byte ((fn_a1 0).toInt8.toInt32))) 1 (nar .byte ((fn_a1 1).toInt8.toInt32))) 2 (nar .byte ((fn_a1 2).toInt8.toInt32))) i)) := ((F8.other W12 (Ne.symm (Nat.ne_of_lt (Nat.lt_of_lt_of_le (P_E_a0).lt hp7)))).other W15 (Ne.symm (Nat.ne_of_lt (Nat.lt_of_lt_of_le (P_E_a0).lt hp7))))
 exact own_ret0 X15 hx Bd.returns (hb hby d7_57) hlk e15 ⟨_, _, rfl, N15, K15, F16, F17, Fw15, hp6, sz_b4, F18⟩ (by decide) (by decide)
theorem pn_si3 : plainName "java/lang/String" = true := by first | (simp [plainName, overriddenIn]; done) | decide +kernel
theorem ef_si3 (m : MethodId) (a0 : Addr) (a1 : Addr) : entryFrame m #[(.ref a0), (.ref a1)] 2 = mkF m 0 #[vR a0, vR a1] [] := by first | (simp [entryFrame, mkF, argsToLocals, Value.category]; done) | rfl
def Qsi3 (Z : State) (k_a1 : ClassId) (fn_a1 : Nat → Int32) (f_CS : Int32) (a0 : Addr) (a1 : Addr) (f_a0_coder : Int32) (f_a0_value : Value) (h0 : Heap) (n0 : Nat) (v : Option Value) (h : Heap) (L : List Loc) : Prop := ∃ (b3 : Addr) (b4 : ClassId), v = none ∧ Fr n0 L ∧ Keep h0 h [a0] ∧ Exa Z h a0 "java/lang/String" ∧ Fld Z h a0 "java/lang/String" "coder" "B" (.int (0 : Int32)) ∧ Fld Z h a0 "java/lang/String" "value" "[B" (.ref b3) ∧ (n0 ≤ b3) ∧ (h0.size ≤ b3) ∧ own_Arf Z h b3 b4 .byte (3 : Int32) (fun i => .int ((own_upd (own_upd (own_upd (fun _ => (0 : Int32)) 0 (nar .byte ((fn_a1 0).toInt8.toInt32))) 1 (nar .byte ((fn_a1 1).toInt8.toInt32))) 2 (nar .byte ((fn_a1 2).toInt8.toInt32))) i))
set_option maxRecDepth 65536 in
set_option maxHeartbeats 40000000 in
theorem rmsi3 (l : Launch) (Z : State) (A0 : Array Value) (hw : ∀ d ∈ tables_1, d.before A0 Z = true) (ws : List Jvm.Cond) (k_a1 : ClassId) (fn_a1 : Nat → Int32) (f_CS : Int32) (a0 : Addr) (a1 : Addr) (f_a0_coder : Int32) (f_a0_value : Value) (h0 : Heap) (n0 : Nat) (Z0 : n0 ≤ h0.size) (P_V_a1 : own_Arf Z h0 a1 k_a1 .char (3 : Int32) (fun i => .int (fn_a1 i))) (P_S_CS : Sta Z h0 "java/lang/String" "COMPACT_STRINGS" "Z" (.int f_CS)) (hn_CS : ¬ (f_CS = (0 : Int32))) (hle_0 : ¬ ((255 : Int32) < (fn_a1 0))) (hle_1 : ¬ ((255 : Int32) < (fn_a1 1))) (hle_2 : ¬ ((255 : Int32) < (fn_a1 2))) (P_E_a0 : Exa Z h0 a0 "java/lang/String") (P_F_a0_coder : Fld Z h0 a0 "java/lang/String" "coder" "B" (.int f_a0_coder)) (P_F_a0_value : Fld Z h0 a0 "java/lang/String" "value" "[B" f_a0_value) (g_a0 : n0 ≤ a0) :
    MetFree l (⟨"java/lang/String", "<init>", "([C)V"⟩ : MethodName) (head1 (Jvm.Cond.code (⟨"java/lang/String", "<init>", "([C)V"⟩ : MethodName) jdk_42_method_3_code 2 none :: ws) ({ frames := 3, cells := 1, slots := 3, locals := 52 } : Room)) (fun a U => a = #[(.ref a0), (.ref a1)] ∧ Z.Warmed39 U.vm ∧ U.heap = h0) (fun _ _ _ _ _ => True) (fun _ U o U' => ∃ v L, o = .returned v ∧ Qsi3 Z k_a1 fn_a1 f_CS a0 a1 f_a0_coder f_a0_value h0 n0 v U'.heap L ∧ FrameEnd U o U' L 1 3) := by
 refine MetFree.of_bodySF (plainFor_of_name pn_si3) hisR ?_
 intro p e s m args below meth c s₁ Bd hml0 hP hK
 obtain ⟨rfl, hZ, hh⟩ := hP
 have hwd := fun i {d : Jvm.Cond} (h : tables_1[i]? = some d) => hw d (List.mem_of_getElem? h)
 have hx := Bd.exec
 have hby := Bd.bytes
 have hml : c.maxLocals = 2 := hml0
 have hlk : meth.locks = false := Bd.notSynchronized
 have hown : s.vm.findClass "java/lang/String" = some m.cls := findClass_of_methodNamed Bd.named
 have hnm := (name_of_methodNamed Bd.named Bd.method).1
 have X0 : Stand p l e ({ frames := 3, cells := 1, slots := 3, locals := 52 } : Room) s m #[(.ref a0), (.ref a1)] below meth c s₁ [] 0 0 := Stand.of_body Bd
 have e0 : s₁.heap = h0 := by rw [← hh, Bd.state]; rfl
 have N0 := Fr.nil n0
 show own_Go p e below (own_Fin s 1 3 (Qsi3 Z k_a1 fn_a1 f_CS a0 a1 f_a0_coder f_a0_value h0 n0)) _
 refine own_by (fun t k => castTop (ef_si3 m a0 a1) k) ?_
 show own_Go p e below _ (s₁.setTop (mkF m 0 #[vR a0, vR a1] []))
 refine own_by (fun _ k => XS.aloadN X0.here hx rfl (hb hby d6_0) rfl rfl k) ?_
 refine own_by (fun _ k => XS.aloadN X0.here hx rfl (hb hby d6_1) rfl rfl k) ?_
 refine own_by (fun _ k => XS.iconst X0.here hx rfl (hb hby d6_2) k) ?_
 refine own_by (fun _ k => XS.aloadN X0.here hx rfl (hb hby d6_3) rfl rfl k) ?_
 obtain ⟨cl1, Ar1, qq1, S1, M1, H1, G1⟩ := id P_V_a1
 refine own_by (fun t k => X0.arraylength hx (by rw [e0]; exact Ar1.1) (State.isArrayOf_alike hZ.alike Ar1.2.1) (g := (mkF m 4 #[vR a0, vR a1] [(.ref a1), (.int (0 : Int32)), (.ref a1), (.ref a0)])) rfl rfl (hb hby d6_4) _ k) ?_
 rw [len_of S1 M1]
 show own_Go p e below _ (s₁.setTop (mkF m 5 #[vR a0, vR a1] [(.int (3 : Int32)), (.int (0 : Int32)), (.ref a1), (.ref a0)]))
 refine own_by (fun _ k => XS.aconstNull X0.here hx rfl (hb hby d6_5) k) ?_
 show own_Go p e below _ (s₁.setTop (mkF m 6 #[vR a0, vR a1] [.null, (.int (3 : Int32)), (.int (0 : Int32)), (.ref a1), (.ref a0)]))
 obtain ⟨_, _, ⟨T2, L2, k2, n2⟩, -, X2, ⟨Lc2, hQ2, l2, y2, z2⟩, st2⟩ := X0.specialBack hx (y := (⟨"java/lang/String", "<init>", "([CIILjava/lang/Void;)V"⟩ : MethodName)) rfl hown (mvT hZ (hwd 43 rfl)) (mvT hZ (hwd 44 rfl)) (mvT hZ (hwd 46 rfl)) (by decide) (backOf (W := 0) (rmsi4_3 l Z A0 hw [] k_a1 fn_a1 f_CS a0 a1 f_a0_coder f_a0_value h0 n0 Z0 P_V_a1 P_S_CS hn_CS hle_0 hle_1 hle_2 P_E_a0 P_F_a0_coder g_a0 P_F_a0_value) hZ (hwd 46 rfl) (hwd 14 rfl) (by decide) (by decide)) (g := (mkF m 6 #[vR a0, vR a1] [.null, (.int (3 : Int32)), (.int (0 : Int32)), (.ref a1), (.ref a0)])) rfl (by rw [hml]; rfl) (Steps.refl _) (a := a0) (argsL := [(.ref a1), (.int (0 : Int32)), (.int (3 : Int32)), .null]) (rest := []) (lenOf pd_43 rfl) rfl (by show 2 * 0 + _ ≤ _; exact Nat.le_of_eq rfl) (hb hby d6_6) (fun _ _ => ⟨rfl, e0, (by decide : 0 + 1 ≤ _), (by decide : 0 + 3 ≤ _)⟩)
 dsimp only [Pt.U, Pt.locs, Pt.cells, Pt.slots] at X2 l2 y2 z2 st2 hQ2
 subst l2 y2 z2
 obtain ⟨b3, b4, rfl, Nq2, Kq2, F5, F6, F7, hp8, hp9, F10⟩ := hQ2
 have N2 := Fr.app N0 Nq2
 have K2 : Keep h0 T2.heap [a0] := (Keep.refl h0 [a0]).trans Kq2 ((allS (Or.inl (List.mem_of_getElem? (i := 0) rfl)) all0))
 have Z2 : n0 ≤ T2.heap.size := Nat.le_trans Z0 Kq2.1
 have sz_b3 : h0.size ≤ b3 := Nat.le_trans (Keep.refl h0 [a0]).1 hp9
 refine own_by (fun _ k => st2.trans k) ?_
 show own_Go p e below _ (T2.setTop (mkF m 9 #[vR a0, vR a1] []))
 exact own_ret0 X2 hx Bd.returns (hb hby d6_9) hlk rfl ⟨_, _, rfl, N2, K2, F5, F6, F7, hp8, sz_b3, F10⟩ (by decide) (by decide)
theorem pn_cmp4 : plainName "java/lang/StringUTF16" = true := by first | (simp [plainName, overriddenIn]; done) | decide +kernel
theorem ef_cmp4 (m : MethodId) (a0 : Addr) (a2 : Addr) : entryFrame m #[(.ref a0), (.int (0 : Int32)), (.ref a2), (.int (0 : Int32)), (.int (4 : Int32))] 7 = mkF m 0 #[vR a0, vI (0 : Int32), vR a2, vI (0 : Int32), vI (4 : Int32), .unset, .unset] [] := by first | (simp [entryFrame, mkF, argsToLocals, Value.category]; done) | rfl
def Qcmp4 (Z : State) (k_a0 : ClassId) (fn_a0 : Nat → Int32) (k_a2 : ClassId) (fn_a2 : Nat → Int32) (a0 : Addr) (a2 : Addr) (h0 : Heap) (n0 : Nat) (v : Option Value) (h : Heap) (L : List Loc) : Prop := v = some (.int (4 : Int32)) ∧ Fr n0 L ∧ Keep h0 h [a2] ∧ own_Arf Z h a2 k_a2 .byte (4 : Int32) (fun i => .int ((own_upd (own_upd (own_upd (own_upd fn_a2 0 (nar .byte ((fn_a0 0).toInt8.toInt32))) 1 (nar .byte ((fn_a0 1).toInt8.toInt32))) 2 (nar .byte ((fn_a0 2).toInt8.toInt32))) 3 (nar .byte ((fn_a0 3).toInt8.toInt32))) i))
set_option maxRecDepth 65536 in
set_option maxHeartbeats 40000000 in
theorem rmcmp4 (l : Launch) (Z : State) (A0 : Array Value) (hw : ∀ d ∈ tables_1, d.before A0 Z = true) (ws : List Jvm.Cond) (k_a0 : ClassId) (fn_a0 : Nat → Int32) (k_a2 : ClassId) (fn_a2 : Nat → Int32) (a0 : Addr) (a2 : Addr) (h0 : Heap) (n0 : Nat) (Z0 : n0 ≤ h0.size) (P_V_a0 : own_Arf Z h0 a0 k_a0 .char (4 : Int32) (fun i => .int (fn_a0 i))) (P_V_a2 : own_Arf Z h0 a2 k_a2 .byte (4 : Int32) (fun i => .int (fn_a2 i))) (hle_0 : ¬ ((255 : Int32) < (fn_a0 0))) (hle_1 : ¬ ((255 : Int32) < (fn_a0 1))) (hle_2 : ¬ ((255 : Int32) < (fn_a0 2))) (hle_3 : ¬ ((255 : Int32) < (fn_a0 3))) (g_a2 : n0 ≤ a2) (ne_a0_a2 : a0 ≠ a2) :
    MetFree l (⟨"java/lang/StringUTF16", "compress", "([CI[BII)I"⟩ : MethodName) (head1 (Jvm.Cond.code (⟨"java/lang/StringUTF16", "compress", "([CI[BII)I"⟩ : MethodName) jdk_52_method_21_code 7 (some .int) :: ws) ({ frames := 0, cells := 0, slots := 0, locals := 0 } : Room)) (fun a U => a = #[(.ref a0), (.int (0 : Int32)), (.ref a2), (.int (0 : Int32)), (.int (4 : Int32))] ∧ Z.Warmed39 U.vm ∧ U.heap = h0) (fun _ _ _ _ _ => True) (fun _ U o U' => ∃ v L, o = .returned v ∧ Qcmp4 Z k_a0 fn_a0 k_a2 fn_a2 a0 a2 h0 n0 v U'.heap L ∧ FrameEnd U o U' L 0 0) := by
 refine MetFree.of_bodySF (plainFor_of_name pn_cmp4) hisR ?_
 intro p e s m args below meth c s₁ Bd hml0 hP hK
 obtain ⟨rfl, hZ, hh⟩ := hP
 have hwd := fun i {d : Jvm.Cond} (h : tables_1[i]? = some d) => hw d (List.mem_of_getElem? h)
 have hx := Bd.exec
 have hby := Bd.bytes
 have hml : c.maxLocals = 7 := hml0
 have hlk : meth.locks = false := Bd.notSynchronized
 have hown : s.vm.findClass "java/lang/StringUTF16" = some m.cls := findClass_of_methodNamed Bd.named
 have hnm := (name_of_methodNamed Bd.named Bd.method).1
 have X0 : Stand p l e ({ frames := 0, cells := 0, slots := 0, locals := 0 } : Room) s m #[(.ref a0), (.int (0 : Int32)), (.ref a2), (.int (0 : Int32)), (.int (4 : Int32))] below meth c s₁ [] 0 0 := Stand.of_body Bd
 have e0 : s₁.heap = h0 := by rw [← hh, Bd.state]; rfl
 have N0 := Fr.nil n0
 show own_Go p e below (own_Fin s 0 0 (Qcmp4 Z k_a0 fn_a0 k_a2 fn_a2 a0 a2 h0 n0)) _
 refine own_by (fun t k => castTop (ef_cmp4 m a0 a2) k) ?_
 show own_Go p e below _ (s₁.setTop (mkF m 0 #[vR a0, vI (0 : Int32), vR a2, vI (0 : Int32), vI (4 : Int32), .unset, .unset] []))
 refine own_by (fun _ k => XS.iconst X0.here hx rfl (hb hby d9_0) k) ?_
 refine own_by (fun _ k => XS.istore X0.here hx rfl (hb hby d9_1) rfl (l' := #[vR a0, vI (0 : Int32), vR a2, vI (0 : Int32), vI (4 : Int32), vI (0 : Int32), .unset]) rfl k) ?_
 show own_Go p e below _ (s₁.setTop (mkF m 3 #[vR a0, vI (0 : Int32), vR a2, vI (0 : Int32), vI (4 : Int32), vI (0 : Int32), .unset] []))
 refine own_by (fun _ k => XS.iload X0.here hx rfl (hb hby d9_3) rfl k) ?_
 refine own_by (fun _ k => XS.iload X0.here hx rfl (hb hby d9_5) rfl k) ?_
 refine own_by (fun _ k => XS.icmpNo X0.here hx rfl (hb hby d9_7) rfl (tlt (by decide : (0 : Int32) < (4 : Int32))).2.1 k) ?_
 show own_Go p e below _ (s₁.setTop (mkF m 10 #[vR a0, vI (0 : Int32), vR a2, vI (0 : Int32), vI (4 : Int32), vI (0 : Int32), .unset] []))
 refine own_by (fun _ k => XS.aloadN X0.here hx rfl (hb hby d9_10) rfl rfl k) ?_
 refine own_by (fun _ k => XS.iloadN X0.here hx rfl (hb hby d9_11) rfl k) ?_
 obtain ⟨cl1, Ar1, qq1, S1, M1, H1, G1⟩ := id P_V_a0
 have hin1 : ¬ ((0 : Int32) < 0 ∨ cl1.slots.size ≤ ((0 : Int32)).toNatClampNeg) := inb_of S1 ⟨by decide, by decide⟩
 refine own_by (fun t k => X0.caload hx (j := (0 : Int32)) (v := (.int (fn_a0 0))) (by rw [e0]; exact Ar1.1) (State.isArrayOf_alike hZ.alike Ar1.2.1) Ar1.2.2 hin1 (H1 _ (Nat.lt_of_not_le fun y => hin1 (Or.inr y))) (g := (mkF m 12 #[vR a0, vI (0 : Int32), vR a2, vI (0 : Int32), vI (4 : Int32), vI (0 : Int32), .unset] [(.int (0 : Int32)), (.ref a0)])) rfl rfl (hb hby d9_12) _ k) ?_
 show own_Go p e below _ (s₁.setTop (mkF m 13 #[vR a0, vI (0 : Int32), vR a2, vI (0 : Int32), vI (4 : Int32), vI (0 : Int32), .unset] [(.int (fn_a0 0))]))
 refine own_by (fun _ k => XS.istore X0.here hx rfl (hb hby d9_13) rfl (l' := #[vR a0, vI (0 : Int32), vR a2, vI (0 : Int32), vI (4 : Int32), vI (0 : Int32), vI (fn_a0 0)]) rfl k) ?_
 show own_Go p e below _ (s₁.setTop (mkF m 15 #[vR a0, vI (0 : Int32), vR a2, vI (0 : Int32), vI (4 : Int32), vI (0 : Int32), vI (fn_a0 0)] []))
 refine own_by (fun _ k => XS.iload X0.here hx rfl (hb hby d9_15) rfl k) ?_
 refine own_by (fun _ k => XS.sipush X0.here hx rfl (hb hby d9_17) k) ?_
 refine own_by (fun _ k => XS.icmpYes X0.here hx rfl (pc0 := 20) (pc' := 26) rfl (hb hby d9_20) rfl (flt hle_0).2.2.2 (by decide) (by decide) k) ?_
 show own_Go p e below _ (s₁.setTop (mkF m 26 #[vR a0, vI (0 : Int32), vR a2, vI (0 : Int32), vI (4 : Int32), vI (0 : Int32), vI (fn_a0 0)] []))
 refine own_by (fun _ k => XS.aloadN X0.here hx rfl (hb hby d9_26) rfl rfl k) ?_
 refine own_by (fun _ k => XS.iloadN X0.here hx rfl (hb hby d9_27) rfl k) ?_
 refine own_by (fun _ k => XS.iload X0.here hx rfl (hb hby d9_28) rfl k) ?_
 refine own_by (fun _ k => XS.i2b X0.here hx rfl (hb hby d9_30) rfl k) ?_
 show own_Go p e below _ (s₁.setTop (mkF m 31 #[vR a0, vI (0 : Int32), vR a2, vI (0 : Int32), vI (4 : Int32), vI (0 : Int32), vI (fn_a0 0)] [(.int ((fn_a0 0).toInt8.toInt32)), (.int (0 : Int32)), (.ref a2)]))
 obtain ⟨cl2, Ar2, qq2, S2, M2, H2, G2⟩ := id P_V_a2
 have hin2 : ¬ ((0 : Int32) < 0 ∨ cl2.slots.size ≤ ((0 : Int32)).toNatClampNeg) := inb_of S2 ⟨by decide, by decide⟩
 obtain ⟨T3, h3, X3, e3, W3, st3⟩ := stB X0 hx hZ e0 Ar2 (j := (0 : Int32)) hin2 (g := (mkF m 31 #[vR a0, vI (0 : Int32), vR a2, vI (0 : Int32), vI (4 : Int32), vI (0 : Int32), vI (fn_a0 0)] [(.int ((fn_a0 0).toInt8.toInt32)), (.int (0 : Int32)), (.ref a2)])) rfl rfl (hb hby d9_31)
 have V3 : own_Arf Z h3 a2 k_a2 .byte (4 : Int32) (fun i => .int ((own_upd fn_a2 0 (nar .byte ((fn_a0 0).toInt8.toInt32))) i)) := own_arfSetI Ar2 qq2 S2 M2 H2 G2 (fits_nar_byte _) W3
 have K3 : Keep h0 h3 [a2] := (Keep.refl h0 [a2]).wr W3 (Or.inl (List.mem_of_getElem? (i := 0) rfl))
 have Z3 : n0 ≤ h3.size := Nat.le_trans Z0 (Keep.of_wr W3).1
 have N3 := Fr.snoc X3 N0 g_a2
 refine own_by st3 ?_
 show own_Go p e below _ (T3.setTop (mkF m 32 #[vR a0, vI (0 : Int32), vR a2, vI (0 : Int32), vI (4 : Int32), vI (0 : Int32), vI (fn_a0 0)] []))
 refine own_by (fun _ k => XS.iinc X3.here hx rfl (hb hby d9_32) rfl (l' := #[vR a0, vI (1 : Int32), vR a2, vI (0 : Int32), vI (4 : Int32), vI (0 : Int32), vI (fn_a0 0)]) rfl k) ?_
 show own_Go p e below _ (T3.setTop (mkF m 35 #[vR a0, vI (1 : Int32), vR a2, vI (0 : Int32), vI (4 : Int32), vI (0 : Int32), vI (fn_a0 0)] []))
 refine own_by (fun _ k => XS.iinc X3.here hx rfl (hb hby d9_35) rfl (l' := #[vR a0, vI (1 : Int32), vR a2, vI (1 : Int32), vI (4 : Int32), vI (0 : Int32), vI (fn_a0 0)]) rfl k) ?_
 show own_Go p e below _ (T3.setTop (mkF m 38 #[vR a0, vI (1 : Int32), vR a2, vI (1 : Int32), vI (4 : Int32), vI (0 : Int32), vI (fn_a0 0)] []))
 refine own_by (fun _ k => XS.iinc X3.here hx rfl (hb hby d9_38) rfl (l' := #[vR a0, vI (1 : Int32), vR a2, vI (1 : Int32), vI (4 : Int32), vI (1 : Int32), vI (fn_a0 0)]) rfl k) ?_
 show own_Go p e below _ (T3.setTop (mkF m 41 #[vR a0, vI (1 : Int32), vR a2, vI (1 : Int32), vI (4 : Int32), vI (1 : Int32), vI (fn_a0 0)] []))
 refine own_by (fun _ k => XS.goto X3.here hx rfl (pc0 := 41) (pc' := 3) rfl (hb hby d9_41) (by decide) (by decide) k) ?_
 show own_Go p e below _ (T3.setTop (mkF m 3 #[vR a0, vI (1 : Int32), vR a2, vI (1 : Int32), vI (4 : Int32), vI (1 : Int32), vI (fn_a0 0)] []))
 refine own_by (fun _ k => XS.iload X3.here hx rfl (hb hby d9_3) rfl k) ?_
 refine own_by (fun _ k => XS.iload X3.here hx rfl (hb hby d9_5) rfl k) ?_
 refine own_by (fun _ k => XS.icmpNo X3.here hx rfl (hb hby d9_7) rfl (tlt (by decide : (1 : Int32) < (4 : Int32))).2.1 k) ?_
 show own_Go p e below _ (T3.setTop (mkF m 10 #[vR a0, vI (1 : Int32), vR a2, vI (1 : Int32), vI (4 : Int32), vI (1 : Int32), vI (fn_a0 0)] []))
 refine own_by (fun _ k => XS.aloadN X3.here hx rfl (hb hby d9_10) rfl rfl k) ?_
 refine own_by (fun _ k => XS.iloadN X3.here hx rfl (hb hby d9_11) rfl k) ?_
 have F4 : own_Arf Z h3 a0 k_a0 .char (4 : Int32) (fun i => .int (fn_a0 i)) := (P_V_a0.other W3 ne_a0_a2)
 obtain ⟨cl5, Ar5, qq5, S5, M5, H5, G5⟩ := id F4
 have hin5 : ¬ ((1 : Int32) < 0 ∨ cl5.slots.size ≤ ((1 : Int32)).toNatClampNeg) := inb_of S5 ⟨by decide, by decide⟩
 refine own_by (fun t k => X3.caload hx (j := (1 : Int32)) (v := (.int (fn_a0 1))) (by rw [e3]; exact Ar5.1) (State.isArrayOf_alike hZ.alike Ar5.2.1) Ar5.2.2 hin5 (H5 _ (Nat.lt_of_not_le fun y => hin5 (Or.inr y))) (g := (mkF m 12 #[vR a0, vI (1 : Int32), vR a2, vI (1 : Int32), vI (4 : Int32), vI (1 : Int32), vI (fn_a0 0)] [(.int (1 : Int32)), (.ref a0)])) rfl rfl (hb hby d9_12) _ k) ?_
 show own_Go p e below _ (T3.setTop (mkF m 13 #[vR a0, vI (1 : Int32), vR a2, vI (1 : Int32), vI (4 : Int32), vI (1 : Int32), vI (fn_a0 0)] [(.int (fn_a0 1))]))
 refine own_by (fun _ k => XS.istore X3.here hx rfl (hb hby d9_13) rfl (l' := #[vR a0, vI (1 : Int32), vR a2, vI (1 : Int32), vI (4 : Int32), vI (1 : Int32), vI (fn_a0 1)]) rfl k) ?_
 show own_Go p e below _ (T3.setTop (mkF m 15 #[vR a0, vI (1 : Int32), vR a2, vI (1 : Int32), vI (4 : Int32), vI (1 : Int32), vI (fn_a0 1)] []))
 refine own_by (fun _ k => XS.iload X3.here hx rfl (hb hby d9_15) rfl k) ?_
 refine own_by (fun _ k => XS.sipush X3.here hx rfl (hb hby d9_17) k) ?_
 refine own_by (fun _ k => XS.icmpYes X3.here hx rfl (pc0 := 20) (pc' := 26) rfl (hb hby d9_20) rfl (flt hle_1).2.2.2 (by decide) (by decide) k) ?_
 show own_Go p e below _ (T3.setTop (mkF m 26 #[vR a0, vI (1 : Int32), vR a2, vI (1 : Int32), vI (4 : Int32), vI (1 : Int32), vI (fn_a0 1)] []))
 refine own_by (fun _ k => XS.aloadN X3.here hx rfl (hb hby d9_26) rfl rfl k) ?_
 refine own_by (fun _ k => XS.iloadN X3.here hx rfl (hb hby d9_27) rfl k) ?_
 refine own_by (fun _ k => XS.iload X3.here hx rfl (hb hby d9_28) rfl k) ?_
 refine own_by (fun _ k => XS.i2b X3.here hx rfl (hb hby d9_30) rfl k) ?_
 show own_Go p e below _ (T3.setTop (mkF m 31 #[vR a0, vI (1 : Int32), vR a2, vI (1 : Int32), vI (4 : Int32), vI (1 : Int32), vI (fn_a0 1)] [(.int ((fn_a0 1).toInt8.toInt32)), (.int (1 : Int32)), (.ref a2)]))
 obtain ⟨cl6, Ar6, qq6, S6, M6, H6, G6⟩ := id V3
 have hin6 : ¬ ((1 : Int32) < 0 ∨ cl6.slots.size ≤ ((1 : Int32)).toNatClampNeg) := inb_of S6 ⟨by decide, by decide⟩
 obtain ⟨T7, h7, X7, e7, W7, st7⟩ := stB X3 hx hZ e3 Ar6 (j := (1 : Int32)) hin6 (g := (mkF m 31 #[vR a0, vI (1 : Int32), vR a2, vI (1 : Int32), vI (4 : Int32), vI (1 : Int32), vI (fn_a0 1)] [(.int ((fn_a0 1).toInt8.toInt32)), (.int (1 : Int32)), (.ref a2)])) rfl rfl (hb hby d9_31)
 have V7 : own_Arf Z h7 a2 k_a2 .byte (4 : Int32) (fun i => .int ((own_upd (own_upd fn_a2 0 (nar .byte ((fn_a0 0).toInt8.toInt32))) 1 (nar .byte ((fn_a0 1).toInt8.toInt32))) i)) := own_arfSetI Ar6 qq6 S6 M6 H6 G6 (fits_nar_byte _) W7
 have K7 : Keep h0 h7 [a2] := K3.wr W7 (Or.inl (List.mem_of_getElem? (i := 0) rfl))
 have Z7 : n0 ≤ h7.size := Nat.le_trans Z3 (Keep.of_wr W7).1
 have N7 := Fr.snoc X7 N3 g_a2
 refine own_by st7 ?_
 show own_Go p e below _ (T7.setTop (mkF m 32 #[vR a0, vI (1 : Int32), vR a2, vI (1 : Int32), vI (4 : Int32), vI (1 : Int32), vI (fn_a0 1)] []))
 refine own_by (fun _ k => XS.iinc X7.here hx rfl (hb hby d9_32) rfl (l' := #[vR a0, vI (2 : Int32), vR a2, vI (1 : Int32), vI (4 : Int32), vI (1 : Int32), vI (fn_a0 1)]) rfl k) ?_
 show own_Go p e below _ (T7.setTop (mkF m 35 #[vR a0, vI (2 : Int32), vR a2, vI (1 : Int32), vI (4 : Int32), vI (1 : Int32), vI (fn_a0 1)] []))
 refine own_by (fun _ k => XS.iinc X7.here hx rfl (hb hby d9_35) rfl (l' := #[vR a0, vI (2 : Int32), vR a2, vI (2 : Int32), vI (4 : Int32), vI (1 : Int32), vI (fn_a0 1)]) rfl k) ?_
 show own_Go p e below _ (T7.setTop (mkF m 38 #[vR a0, vI (2 : Int32), vR a2, vI (2 : Int32), vI (4 : Int32), vI (1 : Int32), vI (fn_a0 1)] []))
 refine own_by (fun _ k => XS.iinc X7.here hx rfl (hb hby d9_38) rfl (l' := #[vR a0, vI (2 : Int32), vR a2, vI (2 : Int32), vI (4 : Int32), vI (2 : Int32), vI (fn_a0 1)]) rfl k) ?_
 show own_Go p e below _ (T7.setTop (mkF m 41 #[vR a0, vI (2 : Int32), vR a2, vI (2 : Int32), vI (4 : Int32), vI (2 : Int32), vI (fn_a0 1)] []))
 refine own_by (fun _ k => XS.goto X7.here hx rfl (pc0 := 41) (pc' := 3) rfl (hb hby d9_41) (by decide) (by decide) k) ?_
 show own_Go p e below _ (T7.setTop (mkF m 3 #[vR a0, vI (2 : Int32), vR a2, vI (2 : Int32), vI (4 : Int32), vI (2 : Int32), vI (fn_a0 1)] []))
 refine own_by (fun _ k => XS.iload X7.here hx rfl (hb hby d9_3) rfl k) ?_
 refine own_by (fun _ k => XS.iload X7.here hx rfl (hb hby d9_5) rfl k) ?_
 refine own_by (fun _ k => XS.icmpNo X7.here hx rfl (hb hby d9_7) rfl (tlt (by decide : (2 : Int32) < (4 : Int32))).2.1 k) ?_
 show own_Go p e below _ (T7.setTop (mkF m 10 #[vR a0, vI (2 : Int32), vR a2, vI (2 : Int32), vI (4 : Int32), vI (2 : Int32), vI (fn_a0 1)] []))
 refine own_by (fun _ k => XS.aloadN X7.here hx rfl (hb hby d9_10) rfl rfl k) ?_
 refine own_by (fun _ k => XS.iloadN X7.here hx rfl (hb hby d9_11) rfl k) ?_
 have F8 : own_Arf Z h7 a0 k_a0 .char (4 : Int32) (fun i => .int (fn_a0 i)) := (F4.other W7 ne_a0_a2)
 obtain ⟨cl9, Ar9, qq9, S9, M9, H9, G9⟩ := id F8
 have hin9 : ¬ ((2 : Int32) < 0 ∨ cl9.slots.size ≤ ((2 : Int32)).toNatClampNeg) := inb_of S9 ⟨by decide, by decide⟩
 refine own_by (fun t k => X7.caload hx (j := (2 : Int32)) (v := (.int (fn_a0 2))) (by rw [e7]; exact Ar9.1) (State.isArrayOf_alike hZ.alike Ar9.2.1) Ar9.2.2 hin9 (H9 _ (Nat.lt_of_not_le fun y => hin9 (Or.inr y))) (g := (mkF m 12 #[vR a0, vI (2 : Int32), vR a2, vI (2 : Int32), vI (4 : Int32), vI (2 : Int32), vI (fn_a0 1)] [(.int (2 : Int32)), (.ref a0)])) rfl rfl (hb hby d9_12) _ k) ?_
 show own_Go p e below _ (T7.setTop (mkF m 13 #[vR a0, vI (2 : Int32), vR a2, vI (2 : Int32), vI (4 : Int32), vI (2 : Int32), vI (fn_a0 1)] [(.int (fn_a0 2))]))
 refine own_by (fun _ k => XS.istore X7.here hx rfl (hb hby d9_13) rfl (l' := #[vR a0, vI (2 : Int32), vR a2, vI (2 : Int32), vI (4 : Int32), vI (2 : Int32), vI (fn_a0 2)]) rfl k) ?_
 show own_Go p e below _ (T7.setTop (mkF m 15 #[vR a0, vI (2 : Int32), vR a2, vI (2 : Int32), vI (4 : Int32), vI (2 : Int32), vI (fn_a0 2)] []))
 refine own_by (fun _ k => XS.iload X7.here hx rfl (hb hby d9_15) rfl k) ?_
 refine own_by (fun _ k => XS.sipush X7.here hx rfl (hb hby d9_17) k) ?_
 refine own_by (fun _ k => XS.icmpYes X7.here hx rfl (pc0 := 20) (pc' := 26) rfl (hb hby d9_20) rfl (flt hle_2).2.2.2 (by decide) (by decide) k) ?_
 show own_Go p e below _ (T7.setTop (mkF m 26 #[vR a0, vI (2 : Int32), vR a2, vI (2 : Int32), vI (4 : Int32), vI (2 : Int32), vI (fn_a0 2)] []))
 refine own_by (fun _ k => XS.aloadN X7.here hx rfl (hb hby d9_26) rfl rfl k) ?_
 refine own_by (fun _ k => XS.iloadN X7.here hx rfl (hb hby d9_27) rfl k) ?_
 refine own_by (fun _ k => XS.iload X7.here hx rfl (hb hby d9_28) rfl k) ?_
 refine own_by (fun _ k => XS.i2b X7.here hx rfl (hb hby d9_30) rfl k) ?_
 show own_Go p e below _ (T7.setTop (mkF m 31 #[vR a0, vI (2 : Int32), vR a2, vI (2 : Int32), vI (4 : Int32), vI (2 : Int32), vI (fn_a0 2)] [(.int ((fn_a0 2).toInt8.toInt32)), (.int (2 : Int32)), (.ref a2)]))
 obtain ⟨cl10, Ar10, qq10, S10, M10, H10, G10⟩ := id V7
 have hin10 : ¬ ((2 : Int32) < 0 ∨ cl10.slots.size ≤ ((2 : Int32)).toNatClampNeg) := inb_of S10 ⟨by decide, by decide⟩
 obtain ⟨T11, h11, X11, e11, W11, st11⟩ := stB X7 hx hZ e7 Ar10 (j := (2 : Int32)) hin10 (g := (mkF m 31 #[vR a0, vI (2 : Int32), vR a2, vI (2 : Int32), vI (4 : Int32), vI (2 : Int32), vI (fn_a0 2)] [(.int ((fn_a0 2).toInt8.toInt32)), (.int (2 : Int32)), (.ref a2)])) rfl rfl (hb hby d9_31)
 have V11 : own_Arf Z h11 a2 k_a2 .byte (4 : Int32) (fun i => .int ((own_upd (own_upd (own_upd fn_a2 0 (nar .byte ((fn_a0 0).toInt8.toInt32))) 1 (nar .byte ((fn_a0 1).toInt8.toInt32))) 2 (nar .byte ((fn_a0 2).toInt8.toInt32))) i)) := own_arfSetI Ar10 qq10 S10 M10 H10 G10 (fits_nar_byte _) W11
 have K11 : Keep h0 h11 [a2] := K7.wr W11 (Or.inl (List.mem_of_getElem? (i := 0) rfl))
 have Z11 : n0 ≤ h11.size := Nat.le_trans Z7 (Keep.of_wr W11).1
 have N11 := Fr.snoc X11 N7 g_a2
 refine own_by st11 ?_
 show own_Go p e below _ (T11.setTop (mkF m 32 #[vR a0, vI (2 : Int32), vR a2, vI (2 : Int32), vI (4 : Int32), vI (2 : Int32), vI (fn_a0 2)] []))
 refine own_by (fun _ k => XS.iinc X11.here hx rfl (hb hby d9_32) rfl (l' := #[vR a0, vI (3 : Int32), vR a2, vI (2 : Int32), vI (4 : Int32), vI (2 : Int32), vI (fn_a0 2)]) rfl k) ?_
 show own_Go p e below _ (T11.setTop (mkF m 35 #[vR a0, vI (3 : Int32), vR a2, vI (2 : Int32), vI (4 : Int32), vI (2 : Int32), vI (fn_a0 2)] []))
 refine own_by (fun _ k => XS.iinc X11.here hx rfl (hb hby d9_35) rfl (l' := #[vR a0, vI (3 : Int32), vR a2, vI (3 : Int32), vI (4 : Int32), vI (2 : Int32), vI (fn_a0 2)]) rfl k) ?_
 show own_Go p e below _ (T11.setTop (mkF m 38 #[vR a0, vI (3 : Int32), vR a2, vI (3 : Int32), vI (4 : Int32), vI (2 : Int32), vI (fn_a0 2)] []))
 refine own_by (fun _ k => XS.iinc X11.here hx rfl (hb hby d9_38) rfl (l' := #[vR a0, vI (3 : Int32), vR a2, vI (3 : Int32), vI (4 : Int32), vI (3 : Int32), vI (fn_a0 2)]) rfl k) ?_
 show own_Go p e below _ (T11.setTop (mkF m 41 #[vR a0, vI (3 : Int32), vR a2, vI (3 : Int32), vI (4 : Int32), vI (3 : Int32), vI (fn_a0 2)] []))
 refine own_by (fun _ k => XS.goto X11.here hx rfl (pc0 := 41) (pc' := 3) rfl (hb hby d9_41) (by decide) (by decide) k) ?_
 show own_Go p e below _ (T11.setTop (mkF m 3 #[vR a0, vI (3 : Int32), vR a2, vI (3 : Int32), vI (4 : Int32), vI (3 : Int32), vI (fn_a0 2)] []))
 refine own_by (fun _ k => XS.iload X11.here hx rfl (hb hby d9_3) rfl k) ?_
 refine own_by (fun _ k => XS.iload X11.here hx rfl (hb hby d9_5) rfl k) ?_
 refine own_by (fun _ k => XS.icmpNo X11.here hx rfl (hb hby d9_7) rfl (tlt (by decide : (3 : Int32) < (4 : Int32))).2.1 k) ?_
 show own_Go p e below _ (T11.setTop (mkF m 10 #[vR a0, vI (3 : Int32), vR a2, vI (3 : Int32), vI (4 : Int32), vI (3 : Int32), vI (fn_a0 2)] []))
 refine own_by (fun _ k => XS.aloadN X11.here hx rfl (hb hby d9_10) rfl rfl k) ?_
 refine own_by (fun _ k => XS.iloadN X11.here hx rfl (hb hby d9_11) rfl k) ?_
 have F12 : own_Arf Z h11 a0 k_a0 .char (4 : Int32) (fun i => .int (fn_a0 i)) := (F8.other W11 ne_a0_a2)
 obtain ⟨cl13, Ar13, qq13, S13, M13, H13, G13⟩ := id F12
 have hin13 : ¬ ((3 : Int32) < 0 ∨ cl13.slots.size ≤ ((3 : Int32)).toNatClampNeg) := inb_of S13 ⟨by decide, by decide⟩
 refine own_by (fun t k => X11.caload hx (j := (3 : Int32)) (v := (.int (fn_a0 3))) (by rw [e11]; exact Ar13.1) (State.isArrayOf_alike hZ.alike Ar13.2.1) Ar13.2.2 hin13 (H13 _ (Nat.lt_of_not_le fun y => hin13 (Or.inr y))) (g := (mkF m 12 #[vR a0, vI (3 : Int32), vR a2, vI (3 : Int32), vI (4 : Int32), vI (3 : Int32), vI (fn_a0 2)] [(.int (3 : Int32)), (.ref a0)])) rfl rfl (hb hby d9_12) _ k) ?_
 show own_Go p e below _ (T11.setTop (mkF m 13 #[vR a0, vI (3 : Int32), vR a2, vI (3 : Int32), vI (4 : Int32), vI (3 : Int32), vI (fn_a0 2)] [(.int (fn_a0 3))]))
 refine own_by (fun _ k => XS.istore X11.here hx rfl (hb hby d9_13) rfl (l' := #[vR a0, vI (3 : Int32), vR a2, vI (3 : Int32), vI (4 : Int32), vI (3 : Int32), vI (fn_a0 3)]) rfl k) ?_
 show own_Go p e below _ (T11.setTop (mkF m 15 #[vR a0, vI (3 : Int32), vR a2, vI (3 : Int32), vI (4 : Int32), vI (3 : Int32), vI (fn_a0 3)] []))
 refine own_by (fun _ k => XS.iload X11.here hx rfl (hb hby d9_15) rfl k) ?_
 refine own_by (fun _ k => XS.sipush X11.here hx rfl (hb hby d9_17) k) ?_
 refine own_by (fun _ k => XS.icmpYes X11.here hx rfl (pc0 := 20) (pc' := 26) rfl (hb hby d9_20) rfl (flt hle_3).2.2.2 (by decide) (by decide) k) ?_
 show own_Go p e below _ (T11.setTop (mkF m 26 #[vR a0, vI (3 : Int32), vR a2, vI (3 : Int32), vI (4 : Int32), vI (3 : Int32), vI (fn_a0 3)] []))
 refine own_by (fun _ k => XS.aloadN X11.here hx rfl (hb hby d9_26) rfl rfl k) ?_
 refine own_by (fun _ k => XS.iloadN X11.here hx rfl (hb hby d9_27) rfl k) ?_
 refine own_by (fun _ k => XS.iload X11.here hx rfl (hb hby d9_28) rfl k) ?_
 refine own_by (fun _ k => XS.i2b X11.here hx rfl (hb hby d9_30) rfl k) ?_
 show own_Go p e below _ (T11.setTop (mkF m 31 #[vR a0, vI (3 : Int32), vR a2, vI (3 : Int32), vI (4 : Int32), vI (3 : Int32), vI (fn_a0 3)] [(.int ((fn_a0 3).toInt8.toInt32)), (.int (3 : Int32)), (.ref a2)]))
 obtain ⟨cl14, Ar14, qq14, S14, M14, H14, G14⟩ := id V11
 have hin14 : ¬ ((3 : Int32) < 0 ∨ cl14.slots.size ≤ ((3 : Int32)).toNatClampNeg) := inb_of S14 ⟨by decide, by decide⟩
 obtain ⟨T15, h15, X15, e15, W15, st15⟩ := stB X11 hx hZ e11 Ar14 (j := (3 : Int32)) hin14 (g := (mkF m 31 #[vR a0, vI (3 : Int32), vR a2, vI (3 : Int32), vI (4 : Int32), vI (3 : Int32), vI (fn_a0 3)] [(.int ((fn_a0 3).toInt8.toInt32)), (.int (3 : Int32)), (.ref a2)])) rfl rfl (hb hby d9_31)
 have V15 : own_Arf Z h15 a2 k_a2 .byte (4 : Int32) (fun i => .int ((own_upd (own_upd (own_upd (own_upd fn_a2 0 (nar .byte ((fn_a0 0).toInt8.toInt32))) 1 (nar .byte ((fn_a0 1).toInt8.toInt32))) 2 (nar .byte ((fn_a0 2).toInt8.toInt32))) 3 (nar .byte ((fn_a0 3).toInt8.toInt32))) i)) := own_arfSetI Ar14 qq14 S14 M14 H14 G14 (fits_nar_byte _) W15
 have K15 : Keep h0 h15 [a2] := K11.wr W15 (Or.inl (List.mem_of_getElem? (i := 0) rfl))
 have Z15 : n0 ≤ h15.size := Nat.le_trans Z11 (Keep.of_wr W15).1
 have N15 := Fr.snoc X15 N11 g_a2
 refine own_by st15 ?_
 show own_Go p e below _ (T15.setTop (mkF m 32 #[vR a0, vI (3 : Int32), vR a2, vI (3 : Int32), vI (4 : Int32), vI (3 : Int32), vI (fn_a0 3)] []))
 refine own_by (fun _ k => XS.iinc X15.here hx rfl (hb hby d9_32) rfl (l' := #[vR a0, vI (4 : Int32), vR a2, vI (3 : Int32), vI (4 : Int32), vI (3 : Int32), vI (fn_a0 3)]) rfl k) ?_
 show own_Go p e below _ (T15.setTop (mkF m 35 #[vR a0, vI (4 : Int32), vR a2, vI (3 : Int32), vI (4 : Int32), vI (3 : Int32), vI (fn_a0 3)] []))
 refine own_by (fun _ k => XS.iinc X15.here hx rfl (hb hby d9_35) rfl (l' := #[vR a0, vI (4 : Int32), vR a2, vI (4 : Int32), vI (4 : Int32), vI (3 : Int32), vI (fn_a0 3)]) rfl k) ?_
 show own_Go p e below _ (T15.setTop (mkF m 38 #[vR a0, vI (4 : Int32), vR a2, vI (4 : Int32), vI (4 : Int32), vI (3 : Int32), vI (fn_a0 3)] []))
 refine own_by (fun _ k => XS.iinc X15.here hx rfl (hb hby d9_38) rfl (l' := #[vR a0, vI (4 : Int32), vR a2, vI (4 : Int32), vI (4 : Int32), vI (4 : Int32), vI (fn_a0 3)]) rfl k) ?_
 show own_Go p e below _ (T15.setTop (mkF m 41 #[vR a0, vI (4 : Int32), vR a2, vI (4 : Int32), vI (4 : Int32), vI (4 : Int32), vI (fn_a0 3)] []))
 refine own_by (fun _ k => XS.goto X15.here hx rfl (pc0 := 41) (pc' := 3) rfl (hb hby d9_41) (by decide) (by decide) k) ?_
 show own_Go p e below _ (T15.setTop (mkF m 3 #[vR a0, vI (4 : Int32), vR a2, vI (4 : Int32), vI (4 : Int32), vI (4 : Int32), vI (fn_a0 3)] []))
 refine own_by (fun _ k => XS.iload X15.here hx rfl (hb hby d9_3) rfl k) ?_
 refine own_by (fun _ k => XS.iload X15.here hx rfl (hb hby d9_5) rfl k) ?_
 refine own_by (fun _ k => XS.icmpYes X15.here hx rfl (pc0 := 7) (pc' := 44) rfl (hb hby d9_7) rfl (flt (by decide : ¬ ((4 : Int32) < (4 : Int32)))).2.1 (by decide) (by decide) k) ?_
 show own_Go p e below _ (T15.setTop (mkF m 44 #[vR a0, vI (4 : Int32), vR a2, vI (4 : Int32), vI (4 : Int32), vI (4 : Int32), vI (fn_a0 3)] []))
 refine own_by (fun _ k => XS.iload X15.here hx rfl (hb hby d9_44) rfl k) ?_
 exact own_retI X15 hx Bd.returns (hb hby d9_46) hlk e15 ⟨rfl, N15, K15, V15⟩ (by decide) (by decide)
theorem pn_cmpB4 : plainName "java/lang/StringUTF16" = true := by first | (simp [plainName, overriddenIn]; done) | decide +kernel
theorem ef_cmpB4 (m : MethodId) (a0 : Addr) : entryFrame m #[(.ref a0), (.int (0 : Int32)), (.int (4 : Int32))] 6 = mkF m 0 #[vR a0, vI (0 : Int32), vI (4 : Int32), .unset, .unset, .unset] [] := by first | (simp [entryFrame, mkF, argsToLocals, Value.category]; done) | rfl
def QcmpB4 (Z : State) (k_a0 : ClassId) (fn_a0 : Nat → Int32) (a0 : Addr) (h0 : Heap) (n0 : Nat) (v : Option Value) (h : Heap) (L : List Loc) : Prop := ∃ (b1 : Addr) (k1 : ClassId), v = some (.ref b1) ∧ Fr n0 L ∧ Keep h0 h [] ∧ (n0 ≤ b1) ∧ (h0.size ≤ b1) ∧ own_Arf Z h b1 k1 .byte (4 : Int32) (fun i => .int ((own_upd (own_upd (own_upd (own_upd (fun _ => (0 : Int32)) 0 (nar .byte ((fn_a0 0).toInt8.toInt32))) 1 (nar .byte ((fn_a0 1).toInt8.toInt32))) 2 (nar .byte ((fn_a0 2).toInt8.toInt32))) 3 (nar .byte ((fn_a0 3).toInt8.toInt32))) i))
set_option maxRecDepth 65536 in
set_option maxHeartbeats 40000000 in
theorem rmcmpB4 (l : Launch) (Z : State) (A0 : Array Value) (hw : ∀ d ∈ tables_1, d.before A0 Z = true) (ws : List Jvm.Cond) (k_a0 : ClassId) (fn_a0 : Nat → Int32) (a0 : Addr) (h0 : Heap) (n0 : Nat) (Z0 : n0 ≤ h0.size) (P_V_a0 : own_Arf Z h0 a0 k_a0 .char (4 : Int32) (fun i => .int (fn_a0 i))) (hle_0 : ¬ ((255 : Int32) < (fn_a0 0))) (hle_1 : ¬ ((255 : Int32) < (fn_a0 1))) (hle_2 : ¬ ((255 : Int32) < (fn_a0 2))) (hle_3 : ¬ ((255 : Int32) < (fn_a0 3))) :
    MetFree l (⟨"java/lang/StringUTF16", "compress", "([CII)[B"⟩ : MethodName) (head1 (Jvm.Cond.code (⟨"java/lang/StringUTF16", "compress", "([CII)[B"⟩ : MethodName) jdk_52_method_16_code 6 (some (.array .byte)) :: ws) ({ frames := 1, cells := 1, slots := 4, locals := 18 } : Room)) (fun a U => a = #[(.ref a0), (.int (0 : Int32)), (.int (4 : Int32))] ∧ Z.Warmed39 U.vm ∧ U.heap = h0) (fun _ _ _ _ _ => True) (fun _ U o U' => ∃ v L, o = .returned v ∧ QcmpB4 Z k_a0 fn_a0 a0 h0 n0 v U'.heap L ∧ FrameEnd U o U' L 1 4) := by
 refine MetFree.of_bodySF (plainFor_of_name pn_cmpB4) hisR ?_
 intro p e s m args below meth c s₁ Bd hml0 hP hK
 obtain ⟨rfl, hZ, hh⟩ := hP
 have hwd := fun i {d : Jvm.Cond} (h : tables_1[i]? = some d) => hw d (List.mem_of_getElem? h)
 have hx := Bd.exec
 have hby := Bd.bytes
 have hml : c.maxLocals = 6 := hml0
 have hlk : meth.locks = false := Bd.notSynchronized
 have hown : s.vm.findClass "java/lang/StringUTF16" = some m.cls := findClass_of_methodNamed Bd.named
 have hnm := (name_of_methodNamed Bd.named Bd.method).1
 have X0 : Stand p l e ({ frames := 1, cells := 1, slots := 4, locals := 18 } : Room) s m #[(.ref a0), (.int (0 : Int32)), (.int (4 : Int32))] below meth c s₁ [] 0 0 := Stand.of_body Bd
 have e0 : s₁.heap = h0 := by rw [← hh, Bd.state]; rfl
 have N0 := Fr.nil n0
 show own_Go p e below (own_Fin s 1 4 (QcmpB4 Z k_a0 fn_a0 a0 h0 n0)) _
 refine own_by (fun t k => castTop (ef_cmpB4 m a0) k) ?_
 show own_Go p e below _ (s₁.setTop (mkF m 0 #[vR a0, vI (0 : Int32), vI (4 : Int32), .unset, .unset, .unset] []))
 refine own_by (fun _ k => XS.iloadN X0.here hx rfl (hb hby d8_0) rfl k) ?_
 obtain ⟨T1, h1, k1, X1, e1, E1, A1, st1⟩ := newP X0 hx hZ (hwd 16 rfl) e0 (g := (mkF m 1 #[vR a0, vI (0 : Int32), vI (4 : Int32), .unset, .unset, .unset] [(.int (4 : Int32))])) rfl (hb hby d8_1) rfl (by decide) (cap := 4) (by decide) (by decide) (by decide) (by decide)
 obtain ⟨b1, g1⟩ : ∃ z, z = h0.size := ⟨_, rfl⟩
 have ge_b1 : n0 ≤ b1 := Nat.le_trans Z0 (Nat.le_of_eq g1.symm)
 have sz_b1 : h0.size ≤ b1 := Nat.le_trans (Keep.refl h0 []).1 (Nat.le_of_eq g1.symm)
 have K1 : Keep h0 h1 [] := (Keep.refl h0 []).ext E1
 have Z1 : n0 ≤ h1.size := Nat.le_trans Z0 E1.1
 rw [← g1] at A1 st1
 have V1 : own_Arf Z h1 b1 k1 .byte (4 : Int32) (fun i => .int ((fun _ => (0 : Int32)) i)) := own_arfNew A1 (by decide)
 refine own_by st1 ?_
 show own_Go p e below _ (T1.setTop (mkF m 3 #[vR a0, vI (0 : Int32), vI (4 : Int32), .unset, .unset, .unset] [(.ref b1)]))
 refine own_by (fun _ k => XS.astoreN X1.here hx rfl (hb hby d8_3) rfl rfl (l' := #[vR a0, vI (0 : Int32), vI (4 : Int32), vR b1, .unset, .unset]) rfl k) ?_
 show own_Go p e below _ (T1.setTop (mkF m 4 #[vR a0, vI (0 : Int32), vI (4 : Int32), vR b1, .unset, .unset] []))
 refine own_by (fun _ k => XS.aloadN X1.here hx rfl (hb hby d8_4) rfl rfl k) ?_
 refine own_by (fun _ k => XS.iloadN X1.here hx rfl (hb hby d8_5) rfl k) ?_
 refine own_by (fun _ k => XS.aloadN X1.here hx rfl (hb hby d8_6) rfl rfl k) ?_
 refine own_by (fun _ k => XS.iconst X1.here hx rfl (hb hby d8_7) k) ?_
 refine own_by (fun _ k => XS.iloadN X1.here hx rfl (hb hby d8_8) rfl k) ?_
 have F2 : own_Arf Z h1 a0 k_a0 .char (4 : Int32) (fun i => .int (fn_a0 i)) := (P_V_a0.ext E1)
 obtain ⟨_, _, ⟨T3, L3, k3, n3⟩, -, X3, ⟨Lc3, hQ3, l3, y3, z3⟩, st3⟩ := Jvm.LawKit.callS X1 hx (y := (⟨"java/lang/StringUTF16", "compress", "([CI[BII)I"⟩ : MethodName)) hown (mvT hZ (hwd 53 rfl)) (mvT hZ (hwd 54 rfl)) (mvT hZ (hwd 51 rfl)) (mvT hZ (hwd 55 rfl)) (by decide) (backOf (W := 0) (rmcmp4 l Z A0 hw [] k_a0 fn_a0 k1 (fun _ => (0 : Int32)) a0 b1 h1 n0 Z1 F2 V1 hle_0 hle_1 hle_2 hle_3 ge_b1 (Nat.ne_of_lt (Nat.lt_of_lt_of_le (P_V_a0).lt (Nat.le_of_eq g1.symm)))) hZ (hwd 55 rfl) (hwd 51 rfl) (by decide) (by decide)) (g := (mkF m 9 #[vR a0, vI (0 : Int32), vI (4 : Int32), vR b1, .unset, .unset] [(.int (4 : Int32)), (.int (0 : Int32)), (.ref b1), (.int (0 : Int32)), (.ref a0)])) rfl (by rw [hml]; rfl) (argsL := [(.ref a0), (.int (0 : Int32)), (.ref b1), (.int (0 : Int32)), (.int (4 : Int32))]) (rest := []) (lenOf pd_53 rfl) rfl (by show 2 * 0 + _ ≤ _; exact Nat.le_of_eq rfl) (hb hby d8_9) (fun _ _ => ⟨rfl, e1, (by decide : 1 + 0 ≤ _), (by decide : 4 + 0 ≤ _)⟩)
 dsimp only [Pt.U, Pt.locs, Pt.cells, Pt.slots] at X3 l3 y3 z3 st3 hQ3
 subst l3 y3 z3
 obtain ⟨rfl, Nq3, Kq3, F4⟩ := hQ3
 have N3 := Fr.app N0 Nq3
 have K3 : Keep h0 T3.heap [] := K1.trans Kq3 ((allS (Or.inr sz_b1) all0))
 have Z3 : n0 ≤ T3.heap.size := Nat.le_trans Z1 Kq3.1
 refine own_by st3 ?_
 show own_Go p e below _ (T3.setTop (mkF m 12 #[vR a0, vI (0 : Int32), vI (4 : Int32), vR b1, .unset, .unset] [(.int (4 : Int32))]))
 refine own_by (fun _ k => XS.istore X3.here hx rfl (hb hby d8_12) rfl (l' := #[vR a0, vI (0 : Int32), vI (4 : Int32), vR b1, vI (4 : Int32), .unset]) rfl k) ?_
 show own_Go p e below _ (T3.setTop (mkF m 14 #[vR a0, vI (0 : Int32), vI (4 : Int32), vR b1, vI (4 : Int32), .unset] []))
 refine own_by (fun _ k => XS.iload X3.here hx rfl (hb hby d8_14) rfl k) ?_
 refine own_by (fun _ k => XS.iloadN X3.here hx rfl (hb hby d8_16) rfl k) ?_
 refine own_by (fun _ k => XS.icmpYes X3.here hx rfl (pc0 := 17) (pc' := 57) rfl (hb hby d8_17) rfl (teq (by decide : (4 : Int32) = (4 : Int32))).1 (by decide) (by decide) k) ?_
 show own_Go p e below _ (T3.setTop (mkF m 57 #[vR a0, vI (0 : Int32), vI (4 : Int32), vR b1, vI (4 : Int32), .unset] []))
 refine own_by (fun _ k => XS.aloadN X3.here hx rfl (hb hby d8_57) rfl rfl k) ?_
 exact own_retR X3 hx Bd.returns (by decide) rfl (hb hby d8_58) hlk rfl ⟨_, _, rfl, N3, K3, ge_b1, sz_b1, F4⟩ (by decide) (by decide)
theorem pn_cfa4 : plainName "java/lang/StringUTF16" = true := by first | (simp [plainName, overriddenIn]; done) | decide +kernel
theorem ef_cfa4 (m : MethodId) (a0 : Addr) : entryFrame m #[(.ref a0), (.int (4 : Int32))] 2 = mkF m 0 #[vR a0, vI (4 : Int32)] [] := by first | (simp [entryFrame, mkF, argsToLocals, Value.category]; done) | rfl
def Qcfa4 (Z : State) (k_a0 : ClassId) (fn_a0 : Nat → Int32) (a0 : Addr) (h0 : Heap) (n0 : Nat) (v : Option Value) (h : Heap) (L : List Loc) : Prop := v = some (.int (nar .byte (0 : Int32))) ∧ Fr n0 L ∧ h = h0
set_option maxRecDepth 65536 in
set_option maxHeartbeats 40000000 in
theorem rmcfa4 (l : Launch) (Z : State) (A0 : Array Value) (hw : ∀ d ∈ tables_1, d.before A0 Z = true) (ws : List Jvm.Cond) (k_a0 : ClassId) (fn_a0 : Nat → Int32) (a0 : Addr) (h0 : Heap) (n0 : Nat) (Z0 : n0 ≤ h0.size) (P_V_a0 : own_Arf Z h0 a0 k_a0 .byte (4 : Int32) (fun i => .int (fn_a0 i))) :
    MetFree l (⟨"java/lang/StringUTF16", "coderFromArrayLen", "([BI)B"⟩ : MethodName) (head1 (Jvm.Cond.code (⟨"java/lang/StringUTF16", "coderFromArrayLen", "([BI)B"⟩ : MethodName) jdk_52_method_15_code 2 (some .byte) :: ws) ({ frames := 0, cells := 0, slots := 0, locals := 0 } : Room)) (fun a U => a = #[(.ref a0), (.int (4 : Int32))] ∧ Z.Warmed39 U.vm ∧ U.heap = h0) (fun _ _ _ _ _ => True) (fun _ U o U' => ∃ v L, o = .returned v ∧ Qcfa4 Z k_a0 fn_a0 a0 h0 n0 v U'.heap L ∧ FrameEnd U o U' L 0 0) := by
 refine MetFree.of_bodySF (plainFor_of_name pn_cfa4) hisR ?_
 intro p e s m args below meth c s₁ Bd hml0 hP hK
 obtain ⟨rfl, hZ, hh⟩ := hP
 have hwd := fun i {d : Jvm.Cond} (h : tables_1[i]? = some d) => hw d (List.mem_of_getElem? h)
 have hx := Bd.exec
 have hby := Bd.bytes
 have hml : c.maxLocals = 2 := hml0
 have hlk : meth.locks = false := Bd.notSynchronized
 have hown : s.vm.findClass "java/lang/StringUTF16" = some m.cls := findClass_of_methodNamed Bd.named
 have hnm := (name_of_methodNamed Bd.named Bd.method).1
 have X0 : Stand p l e ({ frames := 0, cells := 0, slots := 0, locals := 0 } : Room) s m #[(.ref a0), (.int (4 : Int32))] below meth c s₁ [] 0 0 := Stand.of_body Bd
 have e0 : s₁.heap = h0 := by rw [← hh, Bd.state]; rfl
 have N0 := Fr.nil n0
 show own_Go p e below (own_Fin s 0 0 (Qcfa4 Z k_a0 fn_a0 a0 h0 n0)) _
 refine own_by (fun t k => castTop (ef_cfa4 m a0) k) ?_
 show own_Go p e below _ (s₁.setTop (mkF m 0 #[vR a0, vI (4 : Int32)] []))
 refine own_by (fun _ k => XS.iloadN X0.here hx rfl (hb hby d10_0) rfl k) ?_
 refine own_by (fun _ k => XS.aloadN X0.here hx rfl (hb hby d10_1) rfl rfl k) ?_
 obtain ⟨cl1, Ar1, qq1, S1, M1, H1, G1⟩ := id P_V_a0
 refine own_by (fun t k => X0.arraylength hx (by rw [e0]; exact Ar1.1) (State.isArrayOf_alike hZ.alike Ar1.2.1) (g := (mkF m 2 #[vR a0, vI (4 : Int32)] [(.ref a0), (.int (4 : Int32))])) rfl rfl (hb hby d10_2) _ k) ?_
 rw [len_of S1 M1]
 show own_Go p e below _ (s₁.setTop (mkF m 3 #[vR a0, vI (4 : Int32)] [(.int (4 : Int32)), (.int (4 : Int32))]))
 refine own_by (fun _ k => XS.isub X0.here hx rfl (hb hby d10_3) rfl k) ?_
 show own_Go p e below _ (s₁.setTop (mkF m 4 #[vR a0, vI (4 : Int32)] [(.int (0 : Int32))]))
 refine own_by (fun _ k => XS.bipush X0.here hx rfl (hb hby d10_4) k) ?_
 refine own_by (fun _ k => XS.iushr X0.here hx rfl (hb hby d10_6) rfl k) ?_
 show own_Go p e below _ (s₁.setTop (mkF m 7 #[vR a0, vI (4 : Int32)] [(.int (0 : Int32))]))
 refine own_by (fun _ k => XS.i2b X0.here hx rfl (hb hby d10_7) rfl k) ?_
 show own_Go p e below _ (s₁.setTop (mkF m 8 #[vR a0, vI (4 : Int32)] [(.int (0 : Int32))]))
 exact own_retN X0 hx (t := .byte) Bd.returns (by simp) (hb hby d10_8) hlk e0 ⟨rfl, N0, rfl⟩ (by decide) (by decide)
theorem pn_si4_4 : plainName "java/lang/String" = true := by first | (simp [plainName, overriddenIn]; done) | decide +kernel
theorem ef_si4_4 (m : MethodId) (a0 : Addr) (a1 : Addr) : entryFrame m #[(.ref a0), (.ref a1), (.int (0 : Int32)), (.int (4 : Int32)), .null] 6 = mkF m 0 #[vR a0, vR a1, vI (0 : Int32), vI (4 : Int32), .val .null, .unset] [] := by first | (simp [entryFrame, mkF, argsToLocals, Value.category]; done) | rfl
def Qsi4_4 (Z : State) (k_a1 : ClassId) (fn_a1 : Nat → Int32) (f_CS : Int32) (a0 : Addr) (a1 : Addr) (f_a0_coder : Int32) (f_a0_value : Value) (h0 : Heap) (n0 : Nat) (v : Option Value) (h : Heap) (L : List Loc) : Prop := ∃ (b4 : Addr) (b5 : ClassId), v = none ∧ Fr n0 L ∧ Keep h0 h [a0] ∧ Exa Z h a0 "java/lang/String" ∧ Fld Z h a0 "java/lang/String" "coder" "B" (.int (nar .byte (0 : Int32))) ∧ Fld Z h a0 "java/lang/String" "value" "[B" (.ref b4) ∧ (n0 ≤ b4) ∧ (h0.size ≤ b4) ∧ own_Arf Z h b4 b5 .byte (4 : Int32) (fun i => .int ((own_upd (own_upd (own_upd (own_upd (fun _ => (0 : Int32)) 0 (nar .byte ((fn_a1 0).toInt8.toInt32))) 1 (nar .byte ((fn_a1 1).toInt8.toInt32))) 2 (nar .byte ((fn_a1 2).toInt8.toInt32))) 3 (nar .byte ((fn_a1 3).toInt8.toInt32))) i))
set_option maxRecDepth 65536 in
set_option maxHeartbeats 40000000 in
theorem rmsi4_4 (l : Launch) (Z : State) (A0 : Array Value) (hw : ∀ d ∈ tables_1, d.before A0 Z = true) (ws : List Jvm.Cond) (k_a1 : ClassId) (fn_a1 : Nat → Int32) (f_CS : Int32) (a0 : Addr) (a1 : Addr) (f_a0_coder : Int32) (f_a0_value : Value) (h0 : Heap) (n0 : Nat) (Z0 : n0 ≤ h0.size) (P_V_a1 : own_Arf Z h0 a1 k_a1 .char (4 : Int32) (fun i => .int (fn_a1 i))) (P_S_CS : Sta Z h0 "java/lang/String" "COMPACT_STRINGS" "Z" (.int f_CS)) (hn_CS : ¬ (f_CS = (0 : Int32))) (hle_0 : ¬ ((255 : Int32) < (fn_a1 0))) (hle_1 : ¬ ((255 : Int32) < (fn_a1 1))) (hle_2 : ¬ ((255 : Int32) < (fn_a1 2))) (hle_3 : ¬ ((255 : Int32) < (fn_a1 3))) (P_E_a0 : Exa Z h0 a0 "java/lang/String") (P_F_a0_coder : Fld Z h0 a0 "java/lang/String" "coder" "B" (.int f_a0_coder)) (g_a0 : n0 ≤ a0) (P_F_a0_value : Fld Z h0 a0 "java/lang/String" "value" "[B" f_a0_value) :
    MetFree l (⟨"java/lang/String", "<init>", "([CIILjava/lang/Void;)V"⟩ : MethodName) (head1 (Jvm.Cond.code (⟨"java/lang/String", "<init>", "([CIILjava/lang/Void;)V"⟩ : MethodName) jdk_42_method_149_code 6 none :: ws) ({ frames := 2, cells := 1, slots := 4, locals := 35 } : Room)) (fun a U => a = #[(.ref a0), (.ref a1), (.int (0 : Int32)), (.int (4 : Int32)), .null] ∧ Z.Warmed39 U.vm ∧ U.heap = h0) (fun _ _ _ _ _ => True) (fun _ U o U' => ∃ v L, o = .returned v ∧ Qsi4_4 Z k_a1 fn_a1 f_CS a0 a1 f_a0_coder f_a0_value h0 n0 v U'.heap L ∧ FrameEnd U o U' L 1 4) := by
 refine MetFree.of_bodySF (plainFor_of_name pn_si4_4) hisR ?_
 intro p e s m args below meth c s₁ Bd hml0 hP hK
 obtain ⟨rfl, hZ, hh⟩ := hP
 have hwd := fun i {d : Jvm.Cond} (h : tables_1[i]? = some d) => hw d (List.mem_of_getElem? h)
 have hx := Bd.exec
 have hby := Bd.bytes
 have hml : c.maxLocals = 6 := hml0
 have hlk : meth.locks = false := Bd.notSynchronized
 have hown : s.vm.findClass "java/lang/String" = some m.cls := findClass_of_methodNamed Bd.named
 have hnm := (name_of_methodNamed Bd.named Bd.method).1
 have X0 : Stand p l e ({ frames := 2, cells := 1, slots := 4, locals := 35 } : Room) s m #[(.ref a0), (.ref a1), (.int (0 : Int32)), (.int (4 : Int32)), .null] below meth c s₁ [] 0 0 := Stand.of_body Bd
 have e0 : s₁.heap = h0 := by rw [← hh, Bd.state]; rfl
 have N0 := Fr.nil n0
 show own_Go p e below (own_Fin s 1 4 (Qsi4_4 Z k_a1 fn_a1 f_CS a0 a1 f_a0_coder f_a0_value h0 n0)) _
 refine own_by (fun t k => castTop (ef_si4_4 m a0 a1) k) ?_
 show own_Go p e below _ (s₁.setTop (mkF m 0 #[vR a0, vR a1, vI (0 : Int32), vI (4 : Int32), .val .null, .unset] []))
 refine own_by (fun _ k => XS.aloadN X0.here hx rfl (hb hby d7_0) rfl rfl k) ?_
 obtain ⟨T1, X1, e1, st1⟩ := initO X0 hx hZ hown (hwd 47 rfl) (hwd 7 rfl) (hwd 8 rfl) e0 (g := (mkF m 1 #[vR a0, vR a1, vI (0 : Int32), vI (4 : Int32), .val .null, .unset] [(.ref a0)])) rfl (by rw [hml]; rfl) rfl (hb hby d7_1) (by decide) (W := 0) (by show 2 * 0 + _ ≤ _; exact Nat.le_of_eq rfl) (by decide)
 refine own_by st1 ?_
 show own_Go p e below _ (T1.setTop (mkF m 4 #[vR a0, vR a1, vI (0 : Int32), vI (4 : Int32), .val .null, .unset] []))
 refine own_by (fun _ k => XS.iloadN X1.here hx rfl (hb hby d7_4) rfl k) ?_
 refine own_by (fun _ k => XS.ifYes X1.here hx rfl (pc0 := 5) (pc' := 27) rfl (hb hby d7_5) rfl ((if0 _ _).trans (feq (by decide : ¬ ((4 : Int32) = (0 : Int32)))).2) (by decide) (by decide) k) ?_
 show own_Go p e below _ (T1.setTop (mkF m 27 #[vR a0, vR a1, vI (0 : Int32), vI (4 : Int32), .val .null, .unset] []))
 obtain ⟨T2, X2, e2, st2⟩ := getS2 X1 hx hZ hown (host := "") (Or.inl (hwd 48 rfl)) Via.refl e1 P_S_CS (g := (mkF m 27 #[vR a0, vR a1, vI (0 : Int32), vI (4 : Int32), .val .null, .unset] [])) rfl (hb hby d7_27)
 refine own_by st2 ?_
 show own_Go p e below _ (T2.setTop (mkF m 30 #[vR a0, vR a1, vI (0 : Int32), vI (4 : Int32), .val .null, .unset] [(.int f_CS)]))
 refine own_by (fun _ k => XS.ifNo X2.here hx rfl (hb hby d7_30) rfl ((if0 _ _).trans (feq hn_CS).1) k) ?_
 show own_Go p e below _ (T2.setTop (mkF m 33 #[vR a0, vR a1, vI (0 : Int32), vI (4 : Int32), .val .null, .unset] []))
 refine own_by (fun _ k => XS.aloadN X2.here hx rfl (hb hby d7_33) rfl rfl k) ?_
 refine own_by (fun _ k => XS.iloadN X2.here hx rfl (hb hby d7_34) rfl k) ?_
 refine own_by (fun _ k => XS.iloadN X2.here hx rfl (hb hby d7_35) rfl k) ?_
 obtain ⟨_, _, ⟨T3, L3, k3, n3⟩, -, X3, ⟨Lc3, hQ3, l3, y3, z3⟩, st3⟩ := Jvm.LawKit.callS X2 hx (y := (⟨"java/lang/StringUTF16", "compress", "([CII)[B"⟩ : MethodName)) hown (mvT hZ (hwd 49 rfl)) (mvT hZ (hwd 50 rfl)) (mvT hZ (hwd 51 rfl)) (mvT hZ (hwd 52 rfl)) (by decide) (backOf (W := 0) (rmcmpB4 l Z A0 hw [] k_a1 fn_a1 a1 h0 n0 Z0 P_V_a1 hle_0 hle_1 hle_2 hle_3) hZ (hwd 52 rfl) (hwd 51 rfl) (by decide) (by decide)) (g := (mkF m 36 #[vR a0, vR a1, vI (0 : Int32), vI (4 : Int32), .val .null, .unset] [(.int (4 : Int32)), (.int (0 : Int32)), (.ref a1)])) rfl (by rw [hml]; rfl) (argsL := [(.ref a1), (.int (0 : Int32)), (.int (4 : Int32))]) (rest := []) (lenOf pd_49 rfl) rfl (by show 2 * 0 + _ ≤ _; exact Nat.le_of_eq rfl) (hb hby d7_36) (fun _ _ => ⟨rfl, e2, (by decide : 0 + 1 ≤ _), (by decide : 0 + 4 ≤ _)⟩)
 dsimp only [Pt.U, Pt.locs, Pt.cells, Pt.slots] at X3 l3 y3 z3 st3 hQ3
 subst l3 y3 z3
 obtain ⟨b4, b5, rfl, Nq3, Kq3, hp6, hp7, F8⟩ := hQ3
 have N3 := Fr.app N0 Nq3
 have K3 : Keep h0 T3.heap [a0] := (Keep.refl h0 [a0]).trans Kq3 (all0)
 have Z3 : n0 ≤ T3.heap.size := Nat.le_trans Z0 Kq3.1
 have sz_b4 : h0.size ≤ b4 := Nat.le_trans (Keep.refl h0 [a0]).1 hp7
 refine own_by st3 ?_
 show own_Go p e below _ (T3.setTop (mkF m 39 #[vR a0, vR a1, vI (0 : Int32), vI (4 : Int32), .val .null, .unset] [(.ref b4)]))
 refine own_by (fun _ k => XS.astore X3.here hx rfl (hb hby d7_39) rfl rfl (l' := #[vR a0, vR a1, vI (0 : Int32), vI (4 : Int32), .val .null, vR b4]) rfl k) ?_
 show own_Go p e below _ (T3.setTop (mkF m 41 #[vR a0, vR a1, vI (0 : Int32), vI (4 : Int32), .val .null, vR b4] []))
 refine own_by (fun _ k => XS.aloadN X3.here hx rfl (hb hby d7_41) rfl rfl k) ?_
 refine own_by (fun _ k => XS.aload X3.here hx rfl (hb hby d7_42) rfl rfl k) ?_
 refine own_by (fun _ k => XS.iloadN X3.here hx rfl (hb hby d7_44) rfl k) ?_
 obtain ⟨_, _, ⟨T9, L9, k9, n9⟩, -, X9, ⟨Lc9, hQ9, l9, y9, z9⟩, st9⟩ := Jvm.LawKit.callS X3 hx (y := (⟨"java/lang/StringUTF16", "coderFromArrayLen", "([BI)B"⟩ : MethodName)) hown (mvT hZ (hwd 56 rfl)) (mvT hZ (hwd 57 rfl)) (mvT hZ (hwd 51 rfl)) (mvT hZ (hwd 58 rfl)) (by decide) (backOf (W := 1) (rmcfa4 l Z A0 hw [] b5 (own_upd (own_upd (own_upd (own_upd (fun _ => (0 : Int32)) 0 (nar .byte ((fn_a1 0).toInt8.toInt32))) 1 (nar .byte ((fn_a1 1).toInt8.toInt32))) 2 (nar .byte ((fn_a1 2).toInt8.toInt32))) 3 (nar .byte ((fn_a1 3).toInt8.toInt32))) b4 T3.heap n0 Z3 F8) hZ (hwd 58 rfl) (hwd 51 rfl) (by decide) (by decide)) (g := (mkF m 45 #[vR a0, vR a1, vI (0 : Int32), vI (4 : Int32), .val .null, vR b4] [(.int (4 : Int32)), (.ref b4), (.ref a0)])) rfl (by rw [hml]; rfl) (argsL := [(.ref b4), (.int (4 : Int32))]) (rest := [(.ref a0)]) (lenOf pd_56 rfl) rfl (by show 2 * 0 + _ ≤ _; exact Nat.le_of_eq rfl) (hb hby d7_45) (fun _ _ => ⟨rfl, rfl, (by decide : 1 + 0 ≤ _), (by decide : 4 + 0 ≤ _)⟩)
 dsimp only [Pt.U, Pt.locs, Pt.cells, Pt.slots] at X9 l9 y9 z9 st9 hQ9
 subst l9 y9 z9
 obtain ⟨rfl, Nq9, eq9⟩ := hQ9
 have N9 := Fr.app N3 Nq9
 refine own_by st9 ?_
 show own_Go p e below _ (T9.setTop (mkF m 48 #[vR a0, vR a1, vI (0 : Int32), vI (4 : Int32), .val .null, vR b4] [(.int (0 : Int32)), (.ref a0)]))
 have F10 : Exa Z T3.heap a0 "java/lang/String" := (P_E_a0.keep Kq3)
 have F11 : Fld Z T3.heap a0 "java/lang/String" "coder" "B" (.int f_a0_coder) := (P_F_a0_coder.keep Kq3 nin0)
 obtain ⟨T12, h12, X12, e12, W12, st12⟩ := putFN X9 hx hZ hown (hwd 59 rfl) Via.refl eq9 F11 F10 (Or.inr ⟨(hwd 18 rfl), rfl, hnm⟩) (hwd 15 rfl) (ty := .byte) (v' := (.int (nar .byte (0 : Int32)))) (by decide) rfl (fits_nar_byte _) (g := (mkF m 48 #[vR a0, vR a1, vI (0 : Int32), vI (4 : Int32), .val .null, vR b4] [(.int (0 : Int32)), (.ref a0)])) rfl rfl (hb hby d7_48)
 have Fw12 : Fld Z h12 a0 "java/lang/String" "coder" "B" (.int (nar .byte (0 : Int32))) := F11.same W12
 have K12 : Keep h0 h12 [a0] := K3.wr W12 (Or.inl (List.mem_of_getElem? (i := 0) rfl))
 have Z12 : n0 ≤ h12.size := Nat.le_trans Z3 (Keep.of_wr W12).1
 have N12 := Fr.snoc X12 N9 g_a0
 refine own_by st12 ?_
 show own_Go p e below _ (T12.setTop (mkF m 51 #[vR a0, vR a1, vI (0 : Int32), vI (4 : Int32), .val .null, vR b4] []))
 refine own_by (fun _ k => XS.aloadN X12.here hx rfl (hb hby d7_51) rfl rfl k) ?_
 refine own_by (fun _ k => XS.aload X12.here hx rfl (hb hby d7_52) rfl rfl k) ?_
 have F13 : Exa Z h12 a0 "java/lang/String" := (F10.wr W12)
 have F14 : Fld Z h12 a0 "java/lang/String" "value" "[B" f_a0_value := ((P_F_a0_value.keep Kq3 nin0).other W12 (Or.inr (slot_ne (Or.inr (hwd 17 rfl)) (Or.inr (hwd 18 rfl)) (by decide) (t := (.array .byte)) (t' := .byte) (by decide) (by decide))))
 obtain ⟨T15, h15, X15, e15, W15, st15⟩ := putF X12 hx hZ hown (host := "") (Or.inl (hwd 60 rfl)) Via.refl e12 F14 F13 (Or.inr ⟨(hwd 17 rfl), rfl, hnm⟩) (hwd 15 rfl) (ty := (.array .byte)) (by decide) rfl rfl (g := (mkF m 54 #[vR a0, vR a1, vI (0 : Int32), vI (4 : Int32), .val .null, vR b4] [(.ref b4), (.ref a0)])) rfl rfl (hb hby d7_54)
 have Fw15 : Fld Z h15 a0 "java/lang/String" "value" "[B" (.ref b4) := F14.same W15
 have K15 : Keep h0 h15 [a0] := K12.wr W15 (Or.inl (List.mem_of_getElem? (i := 0) rfl))
 have Z15 : n0 ≤ h15.size := Nat.le_trans Z12 (Keep.of_wr W15).1
 have N15 := Fr.snoc X15 N12 g_a0
 refine own_by st15 ?_
 show own_Go p e below _ (T15.setTop (mkF m 57 #[vR a0, vR a1, vI (0 : Int32), vI (4 : Int32), .val .null, vR b4] []))
 have F16 : Exa Z h15 a0 "java/lang/String" := (F13.wr W15)
 have F17 : Fld Z h15 a0 "java/lang/String" "coder" "B" (.int (nar .byte (0 : Int32))) := (Fw12.other W15 (Or.inr (slot_ne (Or.inr (hwd 18 rfl)) (Or.inr (hwd 17 rfl)) (by decide) (t := .byte) (t' := (.array .byte)) (by decide) (by decide))))
 have F18 : own_Arf Z h15 b4 b5 .byte (4 : Int32) (fun i => .int ((own_upd (own_upd (own_upd (own_upd (fun _ => (0 : Int32)) 0 (nar .byte ((fn_a1 0).toInt8.toInt32))) 1 (nar .byte ((fn_a1 1).toInt8.toInt32))) 2 (nar .byte ((fn_a1 2).toInt8.toInt32))) 3 (nar .byte ((fn_a1 3).toInt8.toInt32))) i)) := ((F8.other W12 (Ne.symm (Nat.ne_of_lt (Nat.lt_of_lt_of_le (P_E_a0).lt hp7)))).other W15 (Ne.symm (Nat.ne_of_lt (Nat.lt_of_lt_of_le (P_E_a0).lt hp7))))
 exact own_ret0 X15 hx Bd.returns (hb hby d7_57) hlk e15 ⟨_, _, rfl, N15, K15, F16, F17, Fw15, hp6, sz_b4, F18⟩ (by decide) (by decide)
theorem pn_si4 : plainName "java/lang/String" = true := by first | (simp [plainName, overriddenIn]; done) | decide +kernel
theorem ef_si4 (m : MethodId) (a0 : Addr) (a1 : Addr) : entryFrame m #[(.ref a0), (.ref a1)] 2 = mkF m 0 #[vR a0, vR a1] [] := by first | (simp [entryFrame, mkF, argsToLocals, Value.category]; done) | rfl
def Qsi4 (Z : State) (k_a1 : ClassId) (fn_a1 : Nat → Int32) (f_CS : Int32) (a0 : Addr) (a1 : Addr) (f_a0_coder : Int32) (f_a0_value : Value) (h0 : Heap) (n0 : Nat) (v : Option Value) (h : Heap) (L : List Loc) : Prop := ∃ (b3 : Addr) (b4 : ClassId), v = none ∧ Fr n0 L ∧ Keep h0 h [a0] ∧ Exa Z h a0 "java/lang/String" ∧ Fld Z h a0 "java/lang/String" "coder" "B" (.int (0 : Int32)) ∧ Fld Z h a0 "java/lang/String" "value" "[B" (.ref b3) ∧ (n0 ≤ b3) ∧ (h0.size ≤ b3) ∧ own_Arf Z h b3 b4 .byte (4 : Int32) (fun i => .int ((own_upd (own_upd (own_upd (own_upd (fun _ => (0 : Int32)) 0 (nar .byte ((fn_a1 0).toInt8.toInt32))) 1 (nar .byte ((fn_a1 1).toInt8.toInt32))) 2 (nar .byte ((fn_a1 2).toInt8.toInt32))) 3 (nar .byte ((fn_a1 3).toInt8.toInt32))) i))
set_option maxRecDepth 65536 in
set_option maxHeartbeats 40000000 in
theorem rmsi4 (l : Launch) (Z : State) (A0 : Array Value) (hw : ∀ d ∈ tables_1, d.before A0 Z = true) (ws : List Jvm.Cond) (k_a1 : ClassId) (fn_a1 : Nat → Int32) (f_CS : Int32) (a0 : Addr) (a1 : Addr) (f_a0_coder : Int32) (f_a0_value : Value) (h0 : Heap) (n0 : Nat) (Z0 : n0 ≤ h0.size) (P_V_a1 : own_Arf Z h0 a1 k_a1 .char (4 : Int32) (fun i => .int (fn_a1 i))) (P_S_CS : Sta Z h0 "java/lang/String" "COMPACT_STRINGS" "Z" (.int f_CS)) (hn_CS : ¬ (f_CS = (0 : Int32))) (hle_0 : ¬ ((255 : Int32) < (fn_a1 0))) (hle_1 : ¬ ((255 : Int32) < (fn_a1 1))) (hle_2 : ¬ ((255 : Int32) < (fn_a1 2))) (hle_3 : ¬ ((255 : Int32) < (fn_a1 3))) (P_E_a0 : Exa Z h0 a0 "java/lang/String") (P_F_a0_coder : Fld Z h0 a0 "java/lang/String" "coder" "B" (.int f_a0_coder)) (P_F_a0_value : Fld Z h0 a0 "java/lang/String" "value" "[B" f_a0_value) (g_a0 : n0 ≤ a0) :
    MetFree l (⟨"java/lang/String", "<init>", "([C)V"⟩ : MethodName) (head1 (Jvm.Cond.code (⟨"java/lang/String", "<init>", "([C)V"⟩ : MethodName) jdk_42_method_3_code 2 none :: ws) ({ frames := 3, cells := 1, slots := 4, locals := 52 } : Room)) (fun a U => a = #[(.ref a0), (.ref a1)] ∧ Z.Warmed39 U.vm ∧ U.heap = h0) (fun _ _ _ _ _ => True) (fun _ U o U' => ∃ v L, o = .returned v ∧ Qsi4 Z k_a1 fn_a1 f_CS a0 a1 f_a0_coder f_a0_value h0 n0 v U'.heap L ∧ FrameEnd U o U' L 1 4) := by
 refine MetFree.of_bodySF (plainFor_of_name pn_si4) hisR ?_
 intro p e s m args below meth c s₁ Bd hml0 hP hK
 obtain ⟨rfl, hZ, hh⟩ := hP
 have hwd := fun i {d : Jvm.Cond} (h : tables_1[i]? = some d) => hw d (List.mem_of_getElem? h)
 have hx := Bd.exec
 have hby := Bd.bytes
 have hml : c.maxLocals = 2 := hml0
 have hlk : meth.locks = false := Bd.notSynchronized
 have hown : s.vm.findClass "java/lang/String" = some m.cls := findClass_of_methodNamed Bd.named
 have hnm := (name_of_methodNamed Bd.named Bd.method).1
 have X0 : Stand p l e ({ frames := 3, cells := 1, slots := 4, locals := 52 } : Room) s m #[(.ref a0), (.ref a1)] below meth c s₁ [] 0 0 := Stand.of_body Bd
 have e0 : s₁.heap = h0 := by rw [← hh, Bd.state]; rfl
 have N0 := Fr.nil n0
 show own_Go p e below (own_Fin s 1 4 (Qsi4 Z k_a1 fn_a1 f_CS a0 a1 f_a0_coder f_a0_value h0 n0)) _
 refine own_by (fun t k => castTop (ef_si4 m a0 a1) k) ?_
 show own_Go p e below _ (s₁.setTop (mkF m 0 #[vR a0, vR a1] []))
 refine own_by (fun _ k => XS.aloadN X0.here hx rfl (hb hby d6_0) rfl rfl k) ?_
 refine own_by (fun _ k => XS.aloadN X0.here hx rfl (hb hby d6_1) rfl rfl k) ?_
 refine own_by (fun _ k => XS.iconst X0.here hx rfl (hb hby d6_2) k) ?_
 refine own_by (fun _ k => XS.aloadN X0.here hx rfl (hb hby d6_3) rfl rfl k) ?_
 obtain ⟨cl1, Ar1, qq1, S1, M1, H1, G1⟩ := id P_V_a1
 refine own_by (fun t k => X0.arraylength hx (by rw [e0]; exact Ar1.1) (State.isArrayOf_alike hZ.alike Ar1.2.1) (g := (mkF m 4 #[vR a0, vR a1] [(.ref a1), (.int (0 : Int32)), (.ref a1), (.ref a0)])) rfl rfl (hb hby d6_4) _ k) ?_
 rw [len_of S1 M1]
 show own_Go p e below _ (s₁.setTop (mkF m 5 #[vR a0, vR a1] [(.int (4 : Int32)), (.int (0 : Int32)), (.ref a1), (.ref a0)]))
 refine own_by (fun _ k => XS.aconstNull X0.here hx rfl (hb hby d6_5) k) ?_
 show own_Go p e below _ (s₁.setTop (mkF m 6 #[vR a0, vR a1] [.null, (.int (4 : Int32)), (.int (0 : Int32)), (.ref a1), (.ref a0)]))
 obtain ⟨_, _, ⟨T2, L2, k2, n2⟩, -, X2, ⟨Lc2, hQ2, l2, y2, z2⟩, st2⟩ := X0.specialBack hx (y := (⟨"java/lang/String", "<init>", "([CIILjava/lang/Void;)V"⟩ : MethodName)) rfl hown (mvT hZ (hwd 43 rfl)) (mvT hZ (hwd 44 rfl)) (mvT hZ (hwd 46 rfl)) (by decide) (backOf (W := 0) (rmsi4_4 l Z A0 hw [] k_a1 fn_a1 f_CS a0 a1 f_a0_coder f_a0_value h0 n0 Z0 P_V_a1 P_S_CS hn_CS hle_0 hle_1 hle_2 hle_3 P_E_a0 P_F_a0_coder g_a0 P_F_a0_value) hZ (hwd 46 rfl) (hwd 14 rfl) (by decide) (by decide)) (g := (mkF m 6 #[vR a0, vR a1] [.null, (.int (4 : Int32)), (.int (0 : Int32)), (.ref a1), (.ref a0)])) rfl (by rw [hml]; rfl) (Steps.refl _) (a := a0) (argsL := [(.ref a1), (.int (0 : Int32)), (.int (4 : Int32)), .null]) (rest := []) (lenOf pd_43 rfl) rfl (by show 2 * 0 + _ ≤ _; exact Nat.le_of_eq rfl) (hb hby d6_6) (fun _ _ => ⟨rfl, e0, (by decide : 0 + 1 ≤ _), (by decide : 0 + 4 ≤ _)⟩)
 dsimp only [Pt.U, Pt.locs, Pt.cells, Pt.slots] at X2 l2 y2 z2 st2 hQ2
 subst l2 y2 z2
 obtain ⟨b3, b4, rfl, Nq2, Kq2, F5, F6, F7, hp8, hp9, F10⟩ := hQ2
 have N2 := Fr.app N0 Nq2
 have K2 : Keep h0 T2.heap [a0] := (Keep.refl h0 [a0]).trans Kq2 ((allS (Or.inl (List.mem_of_getElem? (i := 0) rfl)) all0))
 have Z2 : n0 ≤ T2.heap.size := Nat.le_trans Z0 Kq2.1
 have sz_b3 : h0.size ≤ b3 := Nat.le_trans (Keep.refl h0 [a0]).1 hp9
 refine own_by (fun _ k => st2.trans k) ?_
 show own_Go p e below _ (T2.setTop (mkF m 9 #[vR a0, vR a1] []))
 exact own_ret0 X2 hx Bd.returns (hb hby d6_9) hlk rfl ⟨_, _, rfl, N2, K2, F5, F6, F7, hp8, sz_b3, F10⟩ (by decide) (by decide)
theorem d13_0 : decode jdk_43_method_13_code 0 = .ok (.aload_n 0, 1) := by decide +kernel
theorem d13_1 : decode jdk_43_method_13_code 1 = .ok (.arraylength, 1) := by decide +kernel
theorem d13_2 : decode jdk_43_method_13_code 2 = .ok (.aload_n 1, 1) := by decide +kernel
theorem d13_3 : decode jdk_43_method_13_code 3 = .ok (.arraylength, 1) := by decide +kernel
theorem d13_4 : decode jdk_43_method_13_code 4 = .ok (.if_icmp .ne 30, 3) := by decide +kernel
theorem d13_34 : decode jdk_43_method_13_code 34 = .ok (.iconst 0, 1) := by decide +kernel
theorem d13_35 : decode jdk_43_method_13_code 35 = .ok (.ireturn, 1) := by decide +kernel
theorem pn_leq0 : plainName "java/lang/StringLatin1" = true := by first | (simp [plainName, overriddenIn]; done) | decide +kernel
theorem ef_leq0 (m : MethodId) (a0 : Addr) (a1 : Addr) : entryFrame m #[(.ref a0), (.ref a1)] 3 = mkF m 0 #[vR a0, vR a1, .unset] [] := by first | (simp [entryFrame, mkF, argsToLocals, Value.category]; done) | rfl
theorem ob_leq0_1 : own_z0 (0 : Int32) := by
  rfl
def Qleq0 (Z : State) (k_a0 : ClassId) (fn_a0 : Nat → Int32) (k_a1 : ClassId) (fn_a1 : Nat → Int32) (a0 : Addr) (a1 : Addr) (h0 : Heap) (n0 : Nat) (v : Option Value) (h : Heap) (L : List Loc) : Prop := ∃ (zz : Int32), v = some (.int zz) ∧ Fr n0 L ∧ h = h0 ∧ (own_z0 zz)
set_option maxRecDepth 65536 in
set_option maxHeartbeats 40000000 in
theorem rmleq0 (l : Launch) (Z : State) (A0 : Array Value) (hw : ∀ d ∈ tables_1, d.before A0 Z = true) (ws : List Jvm.Cond) (k_a0 : ClassId) (fn_a0 : Nat → Int32) (k_a1 : ClassId) (fn_a1 : Nat → Int32) (a0 : Addr) (a1 : Addr) (h0 : Heap) (n0 : Nat) (Z0 : n0 ≤ h0.size) (P_V_a0 : own_Arf Z h0 a0 k_a0 .byte (3 : Int32) (fun i => .int (fn_a0 i))) (P_V_a1 : own_Arf Z h0 a1 k_a1 .byte (0 : Int32) (fun i => .int (fn_a1 i))) :
    MetFree l (⟨"java/lang/StringLatin1", "equals", "([B[B)Z"⟩ : MethodName) (head1 (Jvm.Cond.code (⟨"java/lang/StringLatin1", "equals", "([B[B)Z"⟩ : MethodName) jdk_43_method_13_code 3 (some .boolean) :: ws) ({ frames := 0, cells := 0, slots := 0, locals := 0 } : Room)) (fun a U => a = #[(.ref a0), (.ref a1)] ∧ Z.Warmed39 U.vm ∧ U.heap = h0) (fun _ _ _ _ _ => True) (fun _ U o U' => ∃ v L, o = .returned v ∧ Qleq0 Z k_a0 fn_a0 k_a1 fn_a1 a0 a1 h0 n0 v U'.heap L ∧ FrameEnd U o U' L 0 0) := by
 refine MetFree.of_bodySF (plainFor_of_name pn_leq0) hisR ?_
 intro p e s m args below meth c s₁ Bd hml0 hP hK
 obtain ⟨rfl, hZ, hh⟩ := hP
 have hwd := fun i {d : Jvm.Cond} (h : tables_1[i]? = some d) => hw d (List.mem_of_getElem? h)
 have hx := Bd.exec
 have hby := Bd.bytes
 have hml : c.maxLocals = 3 := hml0
 have hlk : meth.locks = false := Bd.notSynchronized
 have hown : s.vm.findClass "java/lang/StringLatin1" = some m.cls := findClass_of_methodNamed Bd.named
 have hnm := (name_of_methodNamed Bd.named Bd.method).1
 have X0 : Stand p l e ({ frames := 0, cells := 0, slots := 0, locals := 0 } : Room) s m #[(.ref a0), (.ref a1)] below meth c s₁ [] 0 0 := Stand.of_body Bd
 have e0 : s₁.heap = h0 := by rw [← hh, Bd.state]; rfl
 have N0 := Fr.nil n0
 show own_Go p e below (own_Fin s 0 0 (Qleq0 Z k_a0 fn_a0 k_a1 fn_a1 a0 a1 h0 n0)) _
 refine own_by (fun t k => castTop (ef_leq0 m a0 a1) k) ?_
 show own_Go p e below _ (s₁.setTop (mkF m 0 #[vR a0, vR a1, .unset] []))
 refine own_by (fun _ k => XS.aloadN X0.here hx rfl (hb hby d13_0) rfl rfl k) ?_
 obtain ⟨cl1, Ar1, qq1, S1, M1, H1, G1⟩ := id P_V_a0
 refine own_by (fun t k => X0.arraylength hx (by rw [e0]; exact Ar1.1) (State.isArrayOf_alike hZ.alike Ar1.2.1) (g := (mkF m 1 #[vR a0, vR a1, .unset] [(.ref a0)])) rfl rfl (hb hby d13_1) _ k) ?_
 rw [len_of S1 M1]
 show own_Go p e below _ (s₁.setTop (mkF m 2 #[vR a0, vR a1, .unset] [(.int (3 : Int32))]))
 refine own_by (fun _ k => XS.aloadN X0.here hx rfl (hb hby d13_2) rfl rfl k) ?_
 obtain ⟨cl2, Ar2, qq2, S2, M2, H2, G2⟩ := id P_V_a1
 refine own_by (fun t k => X0.arraylength hx (by rw [e0]; exact Ar2.1) (State.isArrayOf_alike hZ.alike Ar2.2.1) (g := (mkF m 3 #[vR a0, vR a1, .unset] [(.ref a1), (.int (3 : Int32))])) rfl rfl (hb hby d13_3) _ k) ?_
 rw [len_of S2 M2]
 show own_Go p e below _ (s₁.setTop (mkF m 4 #[vR a0, vR a1, .unset] [(.int (0 : Int32)), (.int (3 : Int32))]))
 refine own_by (fun _ k => XS.icmpYes X0.here hx rfl (pc0 := 4) (pc' := 34) rfl (hb hby d13_4) rfl (feq (by decide : ¬ ((3 : Int32) = (0 : Int32)))).2 (by decide) (by decide) k) ?_
 show own_Go p e below _ (s₁.setTop (mkF m 34 #[vR a0, vR a1, .unset] []))
 refine own_by (fun _ k => XS.iconst X0.here hx rfl (hb hby d13_34) k) ?_
 exact own_retN X0 hx (t := .boolean) Bd.returns (by simp) (hb hby d13_35) hlk e0 ⟨_, rfl, N0, rfl, (ob_leq0_1)⟩ (by decide) (by decide)
theorem pd_72 : parseMethodDescriptor "([B[B)Z" = some ⟨[(.array .byte), (.array .byte)], some .boolean⟩ := by decide +kernel
theorem d3_0 : decode jdk_42_method_66_code 0 = .ok (.aload_n 0, 1) := by decide +kernel
theorem d3_1 : decode jdk_42_method_66_code 1 = .ok (.aload_n 1, 1) := by decide +kernel
theorem d3_2 : decode jdk_42_method_66_code 2 = .ok (.if_acmp .ne 5, 3) := by decide +kernel
theorem d3_5 : decode jdk_42_method_66_code 5 = .ok (.iconst 1, 1) := by decide +kernel
theorem d3_6 : decode jdk_42_method_66_code 6 = .ok (.ireturn, 1) := by decide +kernel
theorem d3_7 : decode jdk_42_method_66_code 7 = .ok (.aload_n 1, 1) := by decide +kernel
theorem d3_8 : decode jdk_42_method_66_code 8 = .ok (.instanceof 10, 3) := by decide +kernel
theorem d3_11 : decode jdk_42_method_66_code 11 = .ok (.ifCond .eq 43, 3) := by decide +kernel
theorem d3_14 : decode jdk_42_method_66_code 14 = .ok (.aload_n 1, 1) := by decide +kernel
theorem d3_15 : decode jdk_42_method_66_code 15 = .ok (.checkcast 10, 3) := by decide +kernel
theorem d3_18 : decode jdk_42_method_66_code 18 = .ok (.astore_n 2, 1) := by decide +kernel
theorem d3_19 : decode jdk_42_method_66_code 19 = .ok (.getstatic 38, 3) := by decide +kernel
theorem d3_22 : decode jdk_42_method_66_code 22 = .ok (.ifCond .eq 14, 3) := by decide +kernel
theorem d3_25 : decode jdk_42_method_66_code 25 = .ok (.aload_n 0, 1) := by decide +kernel
theorem d3_26 : decode jdk_42_method_66_code 26 = .ok (.getfield 15, 3) := by decide +kernel
theorem d3_29 : decode jdk_42_method_66_code 29 = .ok (.aload_n 2, 1) := by decide +kernel
theorem d3_30 : decode jdk_42_method_66_code 30 = .ok (.getfield 15, 3) := by decide +kernel
theorem d3_33 : decode jdk_42_method_66_code 33 = .ok (.if_icmp .ne 21, 3) := by decide +kernel
theorem d3_36 : decode jdk_42_method_66_code 36 = .ok (.aload_n 0, 1) := by decide +kernel
theorem d3_37 : decode jdk_42_method_66_code 37 = .ok (.getfield 9, 3) := by decide +kernel
theorem d3_40 : decode jdk_42_method_66_code 40 = .ok (.aload_n 2, 1) := by decide +kernel
theorem d3_41 : decode jdk_42_method_66_code 41 = .ok (.getfield 9, 3) := by decide +kernel
theorem d3_44 : decode jdk_42_method_66_code 44 = .ok (.invokestatic 541, 3) := by decide +kernel
theorem d3_47 : decode jdk_42_method_66_code 47 = .ok (.ifCond .eq 7, 3) := by decide +kernel
theorem d3_50 : decode jdk_42_method_66_code 50 = .ok (.iconst 1, 1) := by decide +kernel
theorem d3_51 : decode jdk_42_method_66_code 51 = .ok (.goto 4, 3) := by decide +kernel
theorem d3_54 : decode jdk_42_method_66_code 54 = .ok (.iconst 0, 1) := by decide +kernel
theorem d3_55 : decode jdk_42_method_66_code 55 = .ok (.ireturn, 1) := by decide +kernel
theorem pn_eqR0 : plainName "java/lang/String" = true := by first | (simp [plainName, overriddenIn]; done) | decide +kernel
theorem ef_eqR0 (m : MethodId) (a0 : Addr) (a1 : Addr) : entryFrame m #[(.ref a0), (.ref a1)] 3 = mkF m 0 #[vR a0, vR a1, .unset] [] := by first | (simp [entryFrame, mkF, argsToLocals, Value.category]; done) | rfl
theorem ob_eqR0_2 (f_CS : Int32) (a0 : Addr) (a1 : Addr) (o10 : Int32) (hn_CS : ¬ (f_CS = (0 : Int32))) (c1 : ¬ (a0 = a1)) (hp11 : own_z0 o10) (c12 : o10 = (0 : Int32)) : own_z0 (0 : Int32) := by
  first | rfl | (simp only [own_z0] at *; contradiction)
theorem ob_eqR0_3 (f_CS : Int32) (a0 : Addr) (a1 : Addr) (o10 : Int32) (hn_CS : ¬ (f_CS = (0 : Int32))) (c1 : ¬ (a0 = a1)) (hp11 : own_z0 o10) (c12 : ¬ (o10 = (0 : Int32))) : own_z0 (1 : Int32) := by
  first | rfl | (simp only [own_z0] at *; contradiction)
def QeqR0 (Z : State) (t_a0 : Addr) (k_t_a0 : ClassId) (fn_t_a0 : Nat → Int32) (t_a1 : Addr) (k_t_a1 : ClassId) (fn_t_a1 : Nat → Int32) (f_CS : Int32) (a0 : Addr) (a1 : Addr) (h0 : Heap) (n0 : Nat) (v : Option Value) (h : Heap) (L : List Loc) : Prop := ∃ (zz : Int32), v = some (.int zz) ∧ Fr n0 L ∧ h = h0 ∧ (own_z0 zz)
set_option maxRecDepth 65536 in
set_option maxHeartbeats 40000000 in
theorem rmeqR0 (l : Launch) (Z : State) (A0 : Array Value) (hw : ∀ d ∈ tables_1, d.before A0 Z = true) (ws : List Jvm.Cond) (t_a0 : Addr) (k_t_a0 : ClassId) (fn_t_a0 : Nat → Int32) (t_a1 : Addr) (k_t_a1 : ClassId) (fn_t_a1 : Nat → Int32) (f_CS : Int32) (a0 : Addr) (a1 : Addr) (h0 : Heap) (n0 : Nat) (Z0 : n0 ≤ h0.size) (P_E_a0 : Exa Z h0 a0 "java/lang/String") (P_F_a0_coder : Fld Z h0 a0 "java/lang/String" "coder" "B" (.int (0 : Int32))) (P_F_a0_value : Fld Z h0 a0 "java/lang/String" "value" "[B" (.ref t_a0)) (P_V_t_a0 : own_Arf Z h0 t_a0 k_t_a0 .byte (3 : Int32) (fun i => .int (fn_t_a0 i))) (P_E_a1 : Exa Z h0 a1 "java/lang/String") (P_F_a1_coder : Fld Z h0 a1 "java/lang/String" "coder" "B" (.int (0 : Int32))) (P_F_a1_value : Fld Z h0 a1 "java/lang/String" "value" "[B" (.ref t_a1)) (P_V_t_a1 : own_Arf Z h0 t_a1 k_t_a1 .byte (0 : Int32) (fun i => .int (fn_t_a1 i))) (P_S_CS : Sta Z h0 "java/lang/String" "COMPACT_STRINGS" "Z" (.int f_CS)) (hn_CS : ¬ (f_CS = (0 : Int32))) :
    MetFree l (⟨"java/lang/String", "equals", "(Ljava/lang/Object;)Z"⟩ : MethodName) (head1 (Jvm.Cond.code (⟨"java/lang/String", "equals", "(Ljava/lang/Object;)Z"⟩ : MethodName) jdk_42_method_66_code 3 (some .boolean) :: ws) ({ frames := 1, cells := 0, slots := 0, locals := 14 } : Room)) (fun a U => a = #[(.ref a0), (.ref a1)] ∧ Z.Warmed39 U.vm ∧ U.heap = h0) (fun _ _ _ _ _ => True) (fun _ U o U' => ∃ v L, o = .returned v ∧ QeqR0 Z t_a0 k_t_a0 fn_t_a0 t_a1 k_t_a1 fn_t_a1 f_CS a0 a1 h0 n0 v U'.heap L ∧ FrameEnd U o U' L 0 0) := by
 refine MetFree.of_bodySF (plainFor_of_name pn_eqR0) hisR ?_
 intro p e s m args below meth c s₁ Bd hml0 hP hK
 obtain ⟨rfl, hZ, hh⟩ := hP
 have hwd := fun i {d : Jvm.Cond} (h : tables_1[i]? = some d) => hw d (List.mem_of_getElem? h)
 have hx := Bd.exec
 have hby := Bd.bytes
 have hml : c.maxLocals = 3 := hml0
 have hlk : meth.locks = false := Bd.notSynchronized
 have hown : s.vm.findClass "java/lang/String" = some m.cls := findClass_of_methodNamed Bd.named
 have hnm := (name_of_methodNamed Bd.named Bd.method).1
 have X0 : Stand p l e ({ frames := 1, cells := 0, slots := 0, locals := 14 } : Room) s m #[(.ref a0), (.ref a1)] below meth c s₁ [] 0 0 := Stand.of_body Bd
 have e0 : s₁.heap = h0 := by rw [← hh, Bd.state]; rfl
 have N0 := Fr.nil n0
 show own_Go p e below (own_Fin s 0 0 (QeqR0 Z t_a0 k_t_a0 fn_t_a0 t_a1 k_t_a1 fn_t_a1 f_CS a0 a1 h0 n0)) _
 refine own_by (fun t k => castTop (ef_eqR0 m a0 a1) k) ?_
 show own_Go p e below _ (s₁.setTop (mkF m 0 #[vR a0, vR a1, .unset] []))
 refine own_by (fun _ k => XS.aloadN X0.here hx rfl (hb hby d3_0) rfl rfl k) ?_
 refine own_by (fun _ k => XS.aloadN X0.here hx rfl (hb hby d3_1) rfl rfl k) ?_
 by_cases c1 : a0 = a1
 ·skip
  refine own_by (fun _ k => Jvm.RoadKit.acmp (g := (mkF m 2 #[vR a0, vR a1, .unset] [(.ref a1), (.ref a0)])) X0 hx rfl rfl rfl (pc0 := 2) (pc' := 5) (same := true) rfl (hb hby d3_2) rfl (decide_eq_true (congrArg Value.ref c1)) (by decide) (by decide) k) ?_
  show own_Go p e below _ (s₁.setTop (mkF m 5 #[vR a0, vR a1, .unset] []))
  refine own_by (fun _ k => XS.iconst X0.here hx rfl (hb hby d3_5) k) ?_
  exact own_retN X0 hx (t := .boolean) Bd.returns (by simp) (hb hby d3_6) hlk e0 ⟨_, rfl, N0, rfl, own_eqDiff c1 P_F_a0_value P_F_a1_value P_V_t_a0 P_V_t_a1 (by decide)⟩ (by decide) (by decide)
 ·skip
  refine own_by (fun _ k => Jvm.RoadKit.acmp (g := (mkF m 2 #[vR a0, vR a1, .unset] [(.ref a1), (.ref a0)])) X0 hx rfl rfl rfl (pc0 := 2) (pc' := 7) (same := false) rfl (hb hby d3_2) rfl (decide_eq_false fun q => c1 (Value.ref.inj q)) (by decide) (by decide) k) ?_
  show own_Go p e below _ (s₁.setTop (mkF m 7 #[vR a0, vR a1, .unset] []))
  refine own_by (fun _ k => XS.aloadN X0.here hx rfl (hb hby d3_7) rfl rfl k) ?_
  obtain ⟨T2, X2, e2, st2⟩ := instY X0 hx hZ hown (hwd 71 rfl) e0 (Ins.self P_E_a1) (g := (mkF m 8 #[vR a0, vR a1, .unset] [(.ref a1)])) rfl rfl (hb hby d3_8)
  refine own_by st2 ?_
  show own_Go p e below _ (T2.setTop (mkF m 11 #[vR a0, vR a1, .unset] [(.int (1 : Int32))]))
  refine own_by (fun _ k => XS.ifNo X2.here hx rfl (hb hby d3_11) rfl ((if0 _ _).trans (feq (by decide : ¬ ((1 : Int32) = (0 : Int32)))).1) k) ?_
  show own_Go p e below _ (T2.setTop (mkF m 14 #[vR a0, vR a1, .unset] []))
  refine own_by (fun _ k => XS.aloadN X2.here hx rfl (hb hby d3_14) rfl rfl k) ?_
  obtain ⟨T3, X3, e3, st3⟩ := castY X2 hx hZ hown (hwd 71 rfl) e2 (Ins.self P_E_a1) (g := (mkF m 15 #[vR a0, vR a1, .unset] [(.ref a1)])) rfl rfl (hb hby d3_15)
  refine own_by st3 ?_
  show own_Go p e below _ (T3.setTop (mkF m 18 #[vR a0, vR a1, .unset] [(.ref a1)]))
  refine own_by (fun _ k => XS.astoreN X3.here hx rfl (hb hby d3_18) rfl rfl (l' := #[vR a0, vR a1, vR a1]) rfl k) ?_
  show own_Go p e below _ (T3.setTop (mkF m 19 #[vR a0, vR a1, vR a1] []))
  obtain ⟨T4, X4, e4, st4⟩ := getS2 X3 hx hZ hown (host := "") (Or.inl (hwd 48 rfl)) Via.refl e3 P_S_CS (g := (mkF m 19 #[vR a0, vR a1, vR a1] [])) rfl (hb hby d3_19)
  refine own_by st4 ?_
  show own_Go p e below _ (T4.setTop (mkF m 22 #[vR a0, vR a1, vR a1] [(.int f_CS)]))
  refine own_by (fun _ k => XS.ifNo X4.here hx rfl (hb hby d3_22) rfl ((if0 _ _).trans (feq hn_CS).1) k) ?_
  show own_Go p e below _ (T4.setTop (mkF m 25 #[vR a0, vR a1, vR a1] []))
  refine own_by (fun _ k => XS.aloadN X4.here hx rfl (hb hby d3_25) rfl rfl k) ?_
  obtain ⟨T5, X5, e5, st5⟩ := getF X4 hx hZ hown (host := "") (Or.inl (hwd 59 rfl)) Via.refl e4 P_F_a0_coder (g := (mkF m 26 #[vR a0, vR a1, vR a1] [(.ref a0)])) rfl rfl (hb hby d3_26)
  refine own_by st5 ?_
  show own_Go p e below _ (T5.setTop (mkF m 29 #[vR a0, vR a1, vR a1] [(.int (0 : Int32))]))
  refine own_by (fun _ k => XS.aloadN X5.here hx rfl (hb hby d3_29) rfl rfl k) ?_
  obtain ⟨T6, X6, e6, st6⟩ := getF X5 hx hZ hown (host := "") (Or.inl (hwd 59 rfl)) Via.refl e5 P_F_a1_coder (g := (mkF m 30 #[vR a0, vR a1, vR a1] [(.ref a1), (.int (0 : Int32))])) rfl rfl (hb hby d3_30)
  refine own_by st6 ?_
  show own_Go p e below _ (T6.setTop (mkF m 33 #[vR a0, vR a1, vR a1] [(.int (0 : Int32)), (.int (0 : Int32))]))
  refine own_by (fun _ k => XS.icmpNo X6.here hx rfl (hb hby d3_33) rfl (teq (by decide : (0 : Int32) = (0 : Int32))).2 k) ?_
  show own_Go p e below _ (T6.setTop (mkF m 36 #[vR a0, vR a1, vR a1] []))
  refine own_by (fun _ k => XS.aloadN X6.here hx rfl (hb hby d3_36) rfl rfl k) ?_
  obtain ⟨T7, X7, e7, st7⟩ := getF X6 hx hZ hown (host := "") (Or.inl (hwd 60 rfl)) Via.refl e6 P_F_a0_value (g := (mkF m 37 #[vR a0, vR a1, vR a1] [(.ref a0)])) rfl rfl (hb hby d3_37)
  refine own_by st7 ?_
  show own_Go p e below _ (T7.setTop (mkF m 40 #[vR a0, vR a1, vR a1] [(.ref t_a0)]))
  refine own_by (fun _ k => XS.aloadN X7.here hx rfl (hb hby d3_40) rfl rfl k) ?_
  obtain ⟨T8, X8, e8, st8⟩ := getF X7 hx hZ hown (host := "") (Or.inl (hwd 60 rfl)) Via.refl e7 P_F_a1_value (g := (mkF m 41 #[vR a0, vR a1, vR a1] [(.ref a1), (.ref t_a0)])) rfl rfl (hb hby d3_41)
  refine own_by st8 ?_
  show own_Go p e below _ (T8.setTop (mkF m 44 #[vR a0, vR a1, vR a1] [(.ref t_a1), (.ref t_a0)]))
  obtain ⟨_, _, ⟨T9, L9, k9, n9⟩, -, X9, ⟨Lc9, hQ9, l9, y9, z9⟩, st9⟩ := Jvm.LawKit.callS X8 hx (y := (⟨"java/lang/StringLatin1", "equals", "([B[B)Z"⟩ : MethodName)) hown (mvT hZ (hwd 72 rfl)) (mvT hZ (hwd 73 rfl)) (mvT hZ (hwd 74 rfl)) (mvT hZ (hwd 75 rfl)) (by decide) (backOf (W := 0) (rmleq0 l Z A0 hw [] k_t_a0 fn_t_a0 k_t_a1 fn_t_a1 t_a0 t_a1 h0 n0 Z0 P_V_t_a0 P_V_t_a1) hZ (hwd 75 rfl) (hwd 74 rfl) (by decide) (by decide)) (g := (mkF m 44 #[vR a0, vR a1, vR a1] [(.ref t_a1), (.ref t_a0)])) rfl (by rw [hml]; rfl) (argsL := [(.ref t_a0), (.ref t_a1)]) (rest := []) (lenOf pd_72 rfl) rfl (by show 2 * 0 + _ ≤ _; exact Nat.le_of_eq rfl) (hb hby d3_44) (fun _ _ => ⟨rfl, e8, (by decide : 0 + 0 ≤ _), (by decide : 0 + 0 ≤ _)⟩)
  dsimp only [Pt.U, Pt.locs, Pt.cells, Pt.slots] at X9 l9 y9 z9 st9 hQ9
  subst l9 y9 z9
  obtain ⟨o10, rfl, Nq9, eq9, hp11⟩ := hQ9
  have N9 := Fr.app N0 Nq9
  refine own_by st9 ?_
  show own_Go p e below _ (T9.setTop (mkF m 47 #[vR a0, vR a1, vR a1] [(.int o10)]))
  by_cases c12 : o10 = (0 : Int32)
  ·skip
   refine own_by (fun _ k => XS.ifYes X9.here hx rfl (pc0 := 47) (pc' := 54) rfl (hb hby d3_47) rfl ((if0 _ _).trans (teq c12).1) (by decide) (by decide) k) ?_
   show own_Go p e below _ (T9.setTop (mkF m 54 #[vR a0, vR a1, vR a1] []))
   refine own_by (fun _ k => XS.iconst X9.here hx rfl (hb hby d3_54) k) ?_
   exact own_retN X9 hx (t := .boolean) Bd.returns (by simp) (hb hby d3_55) hlk eq9 ⟨_, rfl, N9, rfl, (ob_eqR0_2 f_CS a0 a1 o10 hn_CS c1 hp11 c12)⟩ (by decide) (by decide)
  ·skip
   refine own_by (fun _ k => XS.ifNo X9.here hx rfl (hb hby d3_47) rfl ((if0 _ _).trans (feq c12).1) k) ?_
   show own_Go p e below _ (T9.setTop (mkF m 50 #[vR a0, vR a1, vR a1] []))
   refine own_by (fun _ k => XS.iconst X9.here hx rfl (hb hby d3_50) k) ?_
   refine own_by (fun _ k => XS.goto X9.here hx rfl (pc0 := 51) (pc' := 55) rfl (hb hby d3_51) (by decide) (by decide) k) ?_
   show own_Go p e below _ (T9.setTop (mkF m 55 #[vR a0, vR a1, vR a1] [(.int (1 : Int32))]))
   exact own_retN X9 hx (t := .boolean) Bd.returns (by simp) (hb hby d3_55) hlk eq9 ⟨_, rfl, N9, rfl, (ob_eqR0_3 f_CS a0 a1 o10 hn_CS c1 hp11 c12)⟩ (by decide) (by decide)
theorem pd_21 : parseMethodDescriptor "(Ljava/lang/Object;)Z" = some ⟨[(.object "java/lang/Object")], some .boolean⟩ := by decide +kernel
theorem d1_0 : decode prog_53_method_1_code 0 = .ok (.aload_n 0, 1) := by decide +kernel
theorem d1_1 : decode prog_53_method_1_code 1 = .ok (.invokespecial 1, 3) := by decide +kernel
theorem d1_4 : decode prog_53_method_1_code 4 = .ok (.aload_n 0, 1) := by decide +kernel
theorem d1_5 : decode prog_53_method_1_code 5 = .ok (.iconst 1, 1) := by decide +kernel
theorem d1_6 : decode prog_53_method_1_code 6 = .ok (.putfield 7, 3) := by decide +kernel
theorem d1_9 : decode prog_53_method_1_code 9 = .ok (.aload_n 0, 1) := by decide +kernel
theorem d1_10 : decode prog_53_method_1_code 10 = .ok (.iconst 1, 1) := by decide +kernel
theorem d1_11 : decode prog_53_method_1_code 11 = .ok (.putfield 13, 3) := by decide +kernel
theorem d1_14 : decode prog_53_method_1_code 14 = .ok (.aload_n 0, 1) := by decide +kernel
theorem d1_15 : decode prog_53_method_1_code 15 = .ok (.ldc 16, 2) := by decide +kernel
theorem d1_17 : decode prog_53_method_1_code 17 = .ok (.aload_n 1, 1) := by decide +kernel
theorem d1_18 : decode prog_53_method_1_code 18 = .ok (.invokevirtual 18, 3) := by decide +kernel
theorem d1_21 : decode prog_53_method_1_code 21 = .ok (.putfield 24, 3) := by decide +kernel
theorem d1_24 : decode prog_53_method_1_code 24 = .ok (.return_, 1) := by decide +kernel
theorem pn_lcR0 : plainName "com/example/margay/margay/index/LineCounter" = true := by first | (simp [plainName, overriddenIn]; done) | decide +kernel
theorem ef_lcR0 (m : MethodId) (a0 : Addr) (a1 : Addr) : entryFrame m #[(.ref a0), (.ref a1)] 2 = mkF m 0 #[vR a0, vR a1] [] := by first | (simp [entryFrame, mkF, argsToLocals, Value.category]; done) | rfl
def QlcR0 (Z : State) (t_a1 : Addr) (k_t_a1 : ClassId) (fn_t_a1 : Nat → Int32) (f_CS : Int32) (a0 : Addr) (a1 : Addr) (f_a0_line : Int32) (f_a0_column : Int32) (f_a0_xml11 : Int32) (h0 : Heap) (n0 : Nat) (v : Option Value) (h : Heap) (L : List Loc) : Prop := ∃ (z5001 : Int32), v = none ∧ Fr n0 L ∧ Keep h0 h [a0] ∧ Exa Z h a0 "com/example/margay/margay/index/LineCounter" ∧ Fld Z h a0 "com/example/margay/margay/index/LineCounter" "line" "I" (.int (1 : Int32)) ∧ Fld Z h a0 "com/example/margay/margay/index/LineCounter" "column" "I" (.int (1 : Int32)) ∧ Fld Z h a0 "com/example/margay/margay/index/LineCounter" "xml11" "Z" (.int z5001) ∧ ((∃ (o14_lcR0 : Int32), (own_z0 o14_lcR0) ∧ z5001 = (nar .boolean o14_lcR0)))
set_option maxRecDepth 65536 in
set_option maxHeartbeats 40000000 in
theorem rmlcR0 (l : Launch) (Z : State) (A0 : Array Value) (hw : ∀ d ∈ tables_1, d.before A0 Z = true) (ws : List Jvm.Cond) (t_a1 : Addr) (k_t_a1 : ClassId) (fn_t_a1 : Nat → Int32) (f_CS : Int32) (a0 : Addr) (a1 : Addr) (f_a0_line : Int32) (f_a0_column : Int32) (f_a0_xml11 : Int32) (h0 : Heap) (n0 : Nat) (Z0 : n0 ≤ h0.size) (P_E_a1 : Exa Z h0 a1 "java/lang/String") (P_F_a1_coder : Fld Z h0 a1 "java/lang/String" "coder" "B" (.int (0 : Int32))) (P_F_a1_value : Fld Z h0 a1 "java/lang/String" "value" "[B" (.ref t_a1)) (P_V_t_a1 : own_Arf Z h0 t_a1 k_t_a1 .byte (0 : Int32) (fun i => .int (fn_t_a1 i))) (P_S_CS : Sta Z h0 "java/lang/String" "COMPACT_STRINGS" "Z" (.int f_CS)) (hn_CS : ¬ (f_CS = (0 : Int32))) (P_E_a0 : Exa Z h0 a0 "com/example/margay/margay/index/LineCounter") (P_F_a0_line : Fld Z h0 a0 "com/example/margay/margay/index/LineCounter" "line" "I" (.int f_a0_line)) (g_a0 : n0 ≤ a0) (P_F_a0_column : Fld Z h0 a0 "com/example/margay/margay/index/LineCounter" "column" "I" (.int f_a0_column)) (P_F_a0_xml11 : Fld Z h0 a0 "com/example/margay/margay/index/LineCounter" "xml11" "Z" (.int f_a0_xml11)) :
    MetFree l (⟨"com/example/margay/margay/index/LineCounter", "<init>", "(Ljava/lang/String;)V"⟩ : MethodName) (head1 (Jvm.Cond.code (⟨"com/example/margay/margay/index/LineCounter", "<init>", "(Ljava/lang/String;)V"⟩ : MethodName) prog_53_method_1_code 2 none :: ws) ({ frames := 2, cells := 2, slots := 16, locals := 29 } : Room)) (fun a U => a = #[(.ref a0), (.ref a1)] ∧ Z.Warmed39 U.vm ∧ U.heap = h0 ∧ CHv Z consts_1 U.vm h0) (fun _ _ _ _ _ => True) (fun _ U o U' => ∃ v L, o = .returned v ∧ QlcR0 Z t_a1 k_t_a1 fn_t_a1 f_CS a0 a1 f_a0_line f_a0_column f_a0_xml11 h0 n0 v U'.heap L ∧ CHr Z consts_1 U.vm U.heap U'.vm U'.heap ∧ ReturnedEndW U o U' L 2 16) := by
 refine MetFree.of_bodySF (plainFor_of_name pn_lcR0) hisR ?_
 intro p e s m args below meth c s₁ Bd hml0 hP hK
 obtain ⟨rfl, hZ, hh, hC0⟩ := hP
 have hwd := fun i {d : Jvm.Cond} (h : tables_1[i]? = some d) => hw d (List.mem_of_getElem? h)
 have hx := Bd.exec
 have hby := Bd.bytes
 have hml : c.maxLocals = 2 := hml0
 have hlk : meth.locks = false := Bd.notSynchronized
 have hown : s.vm.findClass "com/example/margay/margay/index/LineCounter" = some m.cls := findClass_of_methodNamed Bd.named
 have hnm := (name_of_methodNamed Bd.named Bd.method).1
 have X0 : Stand p l e ({ frames := 2, cells := 2, slots := 16, locals := 29 } : Room) (s.setVm s.vm) m #[(.ref a0), (.ref a1)] below meth c s₁ [] 0 0 := Stand.of_body Bd
 have e0 : s₁.heap = h0 := by rw [← hh, Bd.state]; rfl
 have N0 := Fr.nil n0
 have hEL := own_EW hw
 have hwS := fun a ha => hw a (own_atoms a ha)
 have CR0 : CHr Z consts_1 s.vm h0 s.vm h0 := CHr.refl hC0
 obtain ⟨kc0, hkc0⟩ : ∃ z, z = h0.size := ⟨_, rfl⟩
 have hk0 : kc0 ≤ h0.size := Nat.le_of_eq hkc0
 have hS : s.Since s.vm kc0 := own_since s kc0
 show own_Go p e below (own_FinW Z consts_1 s 2 16 (QlcR0 Z t_a1 k_t_a1 fn_t_a1 f_CS a0 a1 f_a0_line f_a0_column f_a0_xml11 h0 n0)) _
 refine own_by (fun t k => castTop (ef_lcR0 m a0 a1) k) ?_
 show own_Go p e below _ (s₁.setTop (mkF m 0 #[vR a0, vR a1] []))
 refine own_by (fun _ k => XS.aloadN X0.here hx rfl (hb hby d1_0) rfl rfl k) ?_
 obtain ⟨T1, X1, e1, st1⟩ := initO X0 hx hZ hown (hwd 6 rfl) (hwd 7 rfl) (hwd 8 rfl) e0 (g := (mkF m 1 #[vR a0, vR a1] [(.ref a0)])) rfl (by rw [hml]; rfl) rfl (hb hby d1_1) (by decide) (W := 0) (by show 2 * 0 + _ ≤ _; exact Nat.le_of_eq rfl) (by decide)
 refine own_by st1 ?_
 show own_Go p e below _ (T1.setTop (mkF m 4 #[vR a0, vR a1] []))
 refine own_by (fun _ k => XS.aloadN X1.here hx rfl (hb hby d1_4) rfl rfl k) ?_
 refine own_by (fun _ k => XS.iconst X1.here hx rfl (hb hby d1_5) k) ?_
 obtain ⟨T2, h2, X2, e2, W2, st2⟩ := putF X1 hx hZ hown (host := "") (Or.inl (hwd 9 rfl)) Via.refl e1 P_F_a0_line P_E_a0 (Or.inl (hwd 10 rfl)) (hwd 1 rfl) (ty := .int) (by decide) rfl rfl (g := (mkF m 6 #[vR a0, vR a1] [(.int (1 : Int32)), (.ref a0)])) rfl rfl (hb hby d1_6)
 have Fw2 : Fld Z h2 a0 "com/example/margay/margay/index/LineCounter" "line" "I" (.int (1 : Int32)) := P_F_a0_line.same W2
 have R2 : CHr Z consts_1 s.vm h0 s.vm h2 := CHr.wr W2 (Safe.exa hZ.alike P_E_a0 (by decide) (by decide)) CR0.1
 have CR2 : CHr Z consts_1 s.vm h0 s.vm h2 := CR0.trans R2
 have hk2 : kc0 ≤ h2.size := Nat.le_trans hk0 (Keep.of_wr W2).1
 have K2 : Keep h0 h2 [a0] := (Keep.refl h0 [a0]).wr W2 (Or.inl (List.mem_of_getElem? (i := 0) rfl))
 have Z2 : n0 ≤ h2.size := Nat.le_trans Z0 (Keep.of_wr W2).1
 have N2 := Fr.snoc X2 N0 g_a0
 refine own_by st2 ?_
 show own_Go p e below _ (T2.setTop (mkF m 9 #[vR a0, vR a1] []))
 refine own_by (fun _ k => XS.aloadN X2.here hx rfl (hb hby d1_9) rfl rfl k) ?_
 refine own_by (fun _ k => XS.iconst X2.here hx rfl (hb hby d1_10) k) ?_
 have F3 : Exa Z h2 a0 "com/example/margay/margay/index/LineCounter" := (P_E_a0.wr W2)
 have F4 : Fld Z h2 a0 "com/example/margay/margay/index/LineCounter" "column" "I" (.int f_a0_column) := (P_F_a0_column.other W2 (Or.inr (slot_ne (Or.inl (hwd 12 rfl)) (Or.inl (hwd 10 rfl)) (by decide) (t := .int) (t' := .int) (by decide) (by decide))))
 obtain ⟨T5, h5, X5, e5, W5, st5⟩ := putF X2 hx hZ hown (host := "") (Or.inl (hwd 11 rfl)) Via.refl e2 F4 F3 (Or.inl (hwd 12 rfl)) (hwd 1 rfl) (ty := .int) (by decide) rfl rfl (g := (mkF m 11 #[vR a0, vR a1] [(.int (1 : Int32)), (.ref a0)])) rfl rfl (hb hby d1_11)
 have Fw5 : Fld Z h5 a0 "com/example/margay/margay/index/LineCounter" "column" "I" (.int (1 : Int32)) := F4.same W5
 have R5 : CHr Z consts_1 s.vm h2 s.vm h5 := CHr.wr W5 (Safe.exa hZ.alike F3 (by decide) (by decide)) CR2.1
 have CR5 : CHr Z consts_1 s.vm h0 s.vm h5 := CR2.trans R5
 have hk5 : kc0 ≤ h5.size := Nat.le_trans hk2 (Keep.of_wr W5).1
 have K5 : Keep h0 h5 [a0] := K2.wr W5 (Or.inl (List.mem_of_getElem? (i := 0) rfl))
 have Z5 : n0 ≤ h5.size := Nat.le_trans Z2 (Keep.of_wr W5).1
 have N5 := Fr.snoc X5 N2 g_a0
 refine own_by st5 ?_
 show own_Go p e below _ (T5.setTop (mkF m 14 #[vR a0, vR a1] []))
 refine own_by (fun _ k => XS.aloadN X5.here hx rfl (hb hby d1_14) rfl rfl k) ?_
 obtain ⟨b6, T6, h6, kc6, t6, kk6, X6, e6, E6, hS, hk6, hZ, hown, A6, C6, F6, V6, lt6, ltb6, R6, Li6, -, st6⟩ := ldcCH X5 hx hZ hown (hwd 13 rfl) hwS e5 hS hk5 hEL (by decide) CR5.1 (vs := ([49, 46, 49] : List Int32).map Value.int) (z := (3 : Int32)) ⟨by decide, by decide⟩ (by decide) (by decide) (g := (mkF m 15 #[vR a0, vR a1] [(.ref a0)])) rfl (hb hby d1_15) (n := 12) (by decide) (by decide) (by decide) (by decide)
 have V6' : own_Arf Z h6 t6 kk6 .byte (3 : Int32) (fun i => .int ((own_li [49, 46, 49]) i)) := own_arfLi V6
 have CR6 : CHr Z consts_1 s.vm h0 T6.vm h6 := CR5.trans R6
 have K6 : Keep h0 h6 [a0] := K5.ext E6
 have Z6 : n0 ≤ h6.size := Nat.le_trans Z5 E6.1
 refine own_by st6 ?_
 show own_Go p e below _ (T6.setTop (mkF m 17 #[vR a0, vR a1] [(.ref b6), (.ref a0)]))
 refine own_by (fun _ k => XS.aloadN X6.here hx rfl (hb hby d1_17) rfl rfl k) ?_
 have F7 : Exa Z h6 a1 "java/lang/String" := (((P_E_a1.wr W2).wr W5).ext E6)
 have F8 : Exa Z h6 a0 "com/example/margay/margay/index/LineCounter" := ((F3.wr W5).ext E6)
 have F9 : Fld Z h6 a1 "java/lang/String" "coder" "B" (.int (0 : Int32)) := (((P_F_a1_coder.other W2 (Or.inl (ne_exa F7 F8 (by decide)))).other W5 (Or.inl (ne_exa F7 F8 (by decide)))).ext E6)
 have F10 : Fld Z h6 a1 "java/lang/String" "value" "[B" (.ref t_a1) := (((P_F_a1_value.other W2 (Or.inl (ne_exa F7 F8 (by decide)))).other W5 (Or.inl (ne_exa F7 F8 (by decide)))).ext E6)
 have F11 : own_Arf Z h6 t_a1 k_t_a1 .byte (0 : Int32) (fun i => .int (fn_t_a1 i)) := (((P_V_t_a1.other W2 (Ne.symm (own_neArr P_E_a0 (hwd 1 rfl) P_V_t_a1))).other W5 (Ne.symm (own_neArr P_E_a0 (hwd 1 rfl) P_V_t_a1))).ext E6)
 have F12 : Sta Z h6 "java/lang/String" "COMPACT_STRINGS" "Z" (.int f_CS) := (((P_S_CS.wr W2).wr W5).ext E6)
 obtain ⟨cq13, kq13, qq13a, qq13b, qq13c⟩ := isOf hZ e6 A6
 obtain ⟨_, _, ⟨T13, L13, k13, n13⟩, -, X13, ⟨Lc13, hQ13, l13, y13, z13⟩, st13⟩ := X6.virtualBack hx (y := (⟨"java/lang/String", "equals", "(Ljava/lang/Object;)Z"⟩ : MethodName)) (z := (⟨"java/lang/String", "equals", "(Ljava/lang/Object;)Z"⟩ : MethodName)) hown (mvT hZ (hwd 21 rfl)) (mvT hZ (hwd 22 rfl)) (notFace_of_selects (args := #[]) (mvT hZ (hwd 24 rfl))) (mvT hZ (hwd 24 rfl)) (mvT hZ (hwd 23 rfl)) (by decide) (backOf (W := 1) (rmeqR0 l Z A0 hw [] t6 kk6 (own_li [49, 46, 49]) t_a1 k_t_a1 fn_t_a1 f_CS b6 a1 h6 n0 Z6 A6 C6 F6 V6' F7 F9 F10 F11 F12 hn_CS) hZ (hwd 25 rfl) (hwd 14 rfl) (by decide) (by decide)) qq13a qq13c (g := (mkF m 18 #[vR a0, vR a1] [(.ref a1), (.ref b6), (.ref a0)])) rfl (by rw [hml]; rfl) (Steps.refl _) (argsL := [(.ref a1)]) (rest := [(.ref a0)]) (lenOf pd_21 rfl) rfl (by show 2 * 0 + _ ≤ _; exact Nat.le_of_eq rfl) (hb hby d1_18) (fun _ _ => ⟨rfl, e6, (by decide : 2 + 0 ≤ _), (by decide : 16 + 0 ≤ _)⟩)
 dsimp only [Pt.U, Pt.locs, Pt.cells, Pt.slots] at X13 l13 y13 z13 st13 hQ13
 subst l13 y13 z13
 obtain ⟨o14, rfl, Nq13, eq13, hp15⟩ := hQ13
 have N13 := Fr.app N5 Nq13
 refine own_by (fun _ k => st13.trans k) ?_
 show own_Go p e below _ (T13.setTop (mkF m 21 #[vR a0, vR a1] [(.int o14), (.ref a0)]))
 have F16 : Fld Z h6 a0 "com/example/margay/margay/index/LineCounter" "xml11" "Z" (.int f_a0_xml11) := (((P_F_a0_xml11.other W2 (Or.inr (slot_ne (Or.inr (hwd 27 rfl)) (Or.inl (hwd 10 rfl)) (by decide) (t := .boolean) (t' := .int) (by decide) (by decide)))).other W5 (Or.inr (slot_ne (Or.inr (hwd 27 rfl)) (Or.inl (hwd 12 rfl)) (by decide) (t := .boolean) (t' := .int) (by decide) (by decide)))).ext E6)
 obtain ⟨T17, h17, X17, e17, W17, st17⟩ := putFN X13 hx hZ hown (hwd 26 rfl) Via.refl eq13 F16 F8 (Or.inr ⟨(hwd 27 rfl), rfl, hnm⟩) (hwd 1 rfl) (ty := .boolean) (v' := (.int (nar .boolean o14))) (by decide) rfl (fits_nar_bool _) (g := (mkF m 21 #[vR a0, vR a1] [(.int o14), (.ref a0)])) rfl rfl (hb hby d1_21)
 have Fw17 : Fld Z h17 a0 "com/example/margay/margay/index/LineCounter" "xml11" "Z" (.int (nar .boolean o14)) := F16.same W17
 have R17 : CHr Z consts_1 T6.vm h6 T6.vm h17 := CHr.wr W17 (Safe.exa hZ.alike F8 (by decide) (by decide)) CR6.1
 have CR17 : CHr Z consts_1 s.vm h0 T6.vm h17 := CR6.trans R17
 have hk17 : kc6 ≤ h17.size := Nat.le_trans hk6 (Keep.of_wr W17).1
 have K17 : Keep h0 h17 [a0] := K6.wr W17 (Or.inl (List.mem_of_getElem? (i := 0) rfl))
 have Z17 : n0 ≤ h17.size := Nat.le_trans Z6 (Keep.of_wr W17).1
 have N17 := Fr.snoc X17 N13 g_a0
 refine own_by st17 ?_
 show own_Go p e below _ (T17.setTop (mkF m 24 #[vR a0, vR a1] []))
 have F18 : Exa Z h17 a0 "com/example/margay/margay/index/LineCounter" := (F8.wr W17)
 have F19 : Fld Z h17 a0 "com/example/margay/margay/index/LineCounter" "line" "I" (.int (1 : Int32)) := (((Fw2.other W5 (Or.inr (slot_ne (Or.inl (hwd 10 rfl)) (Or.inl (hwd 12 rfl)) (by decide) (t := .int) (t' := .int) (by decide) (by decide)))).ext E6).other W17 (Or.inr (slot_ne (Or.inl (hwd 10 rfl)) (Or.inr (hwd 27 rfl)) (by decide) (t := .int) (t' := .boolean) (by decide) (by decide))))
 have F20 : Fld Z h17 a0 "com/example/margay/margay/index/LineCounter" "column" "I" (.int (1 : Int32)) := ((Fw5.ext E6).other W17 (Or.inr (slot_ne (Or.inl (hwd 12 rfl)) (Or.inr (hwd 27 rfl)) (by decide) (t := .int) (t' := .boolean) (by decide) (by decide))))
 exact own_ret0W X17 hx hS hk17 hZ hEL hh CR17 Bd.returns (hb hby d1_24) hlk e17 ⟨(nar .boolean o14), rfl, N17, K17, F18, F19, F20, Fw17, ⟨o14, hp15, rfl⟩⟩ (by decide) (by decide)
theorem pn_leq2 : plainName "java/lang/StringLatin1" = true := by first | (simp [plainName, overriddenIn]; done) | decide +kernel
theorem ef_leq2 (m : MethodId) (a0 : Addr) (a1 : Addr) : entryFrame m #[(.ref a0), (.ref a1)] 3 = mkF m 0 #[vR a0, vR a1, .unset] [] := by first | (simp [entryFrame, mkF, argsToLocals, Value.category]; done) | rfl
theorem ob_leq2_4 : own_z0 (0 : Int32) := by
  rfl
def Qleq2 (Z : State) (k_a0 : ClassId) (fn_a0 : Nat → Int32) (k_a1 : ClassId) (fn_a1 : Nat → Int32) (a0 : Addr) (a1 : Addr) (h0 : Heap) (n0 : Nat) (v : Option Value) (h : Heap) (L : List Loc) : Prop := ∃ (zz : Int32), v = some (.int zz) ∧ Fr n0 L ∧ h = h0 ∧ (own_z0 zz)
set_option maxRecDepth 65536 in
set_option maxHeartbeats 40000000 in
theorem rmleq2 (l : Launch) (Z : State) (A0 : Array Value) (hw : ∀ d ∈ tables_1, d.before A0 Z = true) (ws : List Jvm.Cond) (k_a0 : ClassId) (fn_a0 : Nat → Int32) (k_a1 : ClassId) (fn_a1 : Nat → Int32) (a0 : Addr) (a1 : Addr) (h0 : Heap) (n0 : Nat) (Z0 : n0 ≤ h0.size) (P_V_a0 : own_Arf Z h0 a0 k_a0 .byte (3 : Int32) (fun i => .int (fn_a0 i))) (P_V_a1 : own_Arf Z h0 a1 k_a1 .byte (2 : Int32) (fun i => .int (fn_a1 i))) :
    MetFree l (⟨"java/lang/StringLatin1", "equals", "([B[B)Z"⟩ : MethodName) (head1 (Jvm.Cond.code (⟨"java/lang/StringLatin1", "equals", "([B[B)Z"⟩ : MethodName) jdk_43_method_13_code 3 (some .boolean) :: ws) ({ frames := 0, cells := 0, slots := 0, locals := 0 } : Room)) (fun a U => a = #[(.ref a0), (.ref a1)] ∧ Z.Warmed39 U.vm ∧ U.heap = h0) (fun _ _ _ _ _ => True) (fun _ U o U' => ∃ v L, o = .returned v ∧ Qleq2 Z k_a0 fn_a0 k_a1 fn_a1 a0 a1 h0 n0 v U'.heap L ∧ FrameEnd U o U' L 0 0) := by
 refine MetFree.of_bodySF (plainFor_of_name pn_leq2) hisR ?_
 intro p e s m args below meth c s₁ Bd hml0 hP hK
 obtain ⟨rfl, hZ, hh⟩ := hP
 have hwd := fun i {d : Jvm.Cond} (h : tables_1[i]? = some d) => hw d (List.mem_of_getElem? h)
 have hx := Bd.exec
 have hby := Bd.bytes
 have hml : c.maxLocals = 3 := hml0
 have hlk : meth.locks = false := Bd.notSynchronized
 have hown : s.vm.findClass "java/lang/StringLatin1" = some m.cls := findClass_of_methodNamed Bd.named
 have hnm := (name_of_methodNamed Bd.named Bd.method).1
 have X0 : Stand p l e ({ frames := 0, cells := 0, slots := 0, locals := 0 } : Room) s m #[(.ref a0), (.ref a1)] below meth c s₁ [] 0 0 := Stand.of_body Bd
 have e0 : s₁.heap = h0 := by rw [← hh, Bd.state]; rfl
 have N0 := Fr.nil n0
 show own_Go p e below (own_Fin s 0 0 (Qleq2 Z k_a0 fn_a0 k_a1 fn_a1 a0 a1 h0 n0)) _
 refine own_by (fun t k => castTop (ef_leq2 m a0 a1) k) ?_
 show own_Go p e below _ (s₁.setTop (mkF m 0 #[vR a0, vR a1, .unset] []))
 refine own_by (fun _ k => XS.aloadN X0.here hx rfl (hb hby d13_0) rfl rfl k) ?_
 obtain ⟨cl1, Ar1, qq1, S1, M1, H1, G1⟩ := id P_V_a0
 refine own_by (fun t k => X0.arraylength hx (by rw [e0]; exact Ar1.1) (State.isArrayOf_alike hZ.alike Ar1.2.1) (g := (mkF m 1 #[vR a0, vR a1, .unset] [(.ref a0)])) rfl rfl (hb hby d13_1) _ k) ?_
 rw [len_of S1 M1]
 show own_Go p e below _ (s₁.setTop (mkF m 2 #[vR a0, vR a1, .unset] [(.int (3 : Int32))]))
 refine own_by (fun _ k => XS.aloadN X0.here hx rfl (hb hby d13_2) rfl rfl k) ?_
 obtain ⟨cl2, Ar2, qq2, S2, M2, H2, G2⟩ := id P_V_a1
 refine own_by (fun t k => X0.arraylength hx (by rw [e0]; exact Ar2.1) (State.isArrayOf_alike hZ.alike Ar2.2.1) (g := (mkF m 3 #[vR a0, vR a1, .unset] [(.ref a1), (.int (3 : Int32))])) rfl rfl (hb hby d13_3) _ k) ?_
 rw [len_of S2 M2]
 show own_Go p e below _ (s₁.setTop (mkF m 4 #[vR a0, vR a1, .unset] [(.int (2 : Int32)), (.int (3 : Int32))]))
 refine own_by (fun _ k => XS.icmpYes X0.here hx rfl (pc0 := 4) (pc' := 34) rfl (hb hby d13_4) rfl (feq (by decide : ¬ ((3 : Int32) = (2 : Int32)))).2 (by decide) (by decide) k) ?_
 show own_Go p e below _ (s₁.setTop (mkF m 34 #[vR a0, vR a1, .unset] []))
 refine own_by (fun _ k => XS.iconst X0.here hx rfl (hb hby d13_34) k) ?_
 exact own_retN X0 hx (t := .boolean) Bd.returns (by simp) (hb hby d13_35) hlk e0 ⟨_, rfl, N0, rfl, (ob_leq2_4)⟩ (by decide) (by decide)
theorem pn_eqR2 : plainName "java/lang/String" = true := by first | (simp [plainName, overriddenIn]; done) | decide +kernel
theorem ef_eqR2 (m : MethodId) (a0 : Addr) (a1 : Addr) : entryFrame m #[(.ref a0), (.ref a1)] 3 = mkF m 0 #[vR a0, vR a1, .unset] [] := by first | (simp [entryFrame, mkF, argsToLocals, Value.category]; done) | rfl
theorem ob_eqR2_5 (f_CS : Int32) (a0 : Addr) (a1 : Addr) (o10 : Int32) (hn_CS : ¬ (f_CS = (0 : Int32))) (c1 : ¬ (a0 = a1)) (hp11 : own_z0 o10) (c12 : o10 = (0 : Int32)) : own_z0 (0 : Int32) := by
  first | rfl | (simp only [own_z0] at *; contradiction)
theorem ob_eqR2_6 (f_CS : Int32) (a0 : Addr) (a1 : Addr) (o10 : Int32) (hn_CS : ¬ (f_CS = (0 : Int32))) (c1 : ¬ (a0 = a1)) (hp11 : own_z0 o10) (c12 : ¬ (o10 = (0 : Int32))) : own_z0 (1 : Int32) := by
  first | rfl | (simp only [own_z0] at *; contradiction)
def QeqR2 (Z : State) (t_a0 : Addr) (k_t_a0 : ClassId) (fn_t_a0 : Nat → Int32) (t_a1 : Addr) (k_t_a1 : ClassId) (fn_t_a1 : Nat → Int32) (f_CS : Int32) (a0 : Addr) (a1 : Addr) (h0 : Heap) (n0 : Nat) (v : Option Value) (h : Heap) (L : List Loc) : Prop := ∃ (zz : Int32), v = some (.int zz) ∧ Fr n0 L ∧ h = h0 ∧ (own_z0 zz)
set_option maxRecDepth 65536 in
set_option maxHeartbeats 40000000 in
theorem rmeqR2 (l : Launch) (Z : State) (A0 : Array Value) (hw : ∀ d ∈ tables_1, d.before A0 Z = true) (ws : List Jvm.Cond) (t_a0 : Addr) (k_t_a0 : ClassId) (fn_t_a0 : Nat → Int32) (t_a1 : Addr) (k_t_a1 : ClassId) (fn_t_a1 : Nat → Int32) (f_CS : Int32) (a0 : Addr) (a1 : Addr) (h0 : Heap) (n0 : Nat) (Z0 : n0 ≤ h0.size) (P_E_a0 : Exa Z h0 a0 "java/lang/String") (P_F_a0_coder : Fld Z h0 a0 "java/lang/String" "coder" "B" (.int (0 : Int32))) (P_F_a0_value : Fld Z h0 a0 "java/lang/String" "value" "[B" (.ref t_a0)) (P_V_t_a0 : own_Arf Z h0 t_a0 k_t_a0 .byte (3 : Int32) (fun i => .int (fn_t_a0 i))) (P_E_a1 : Exa Z h0 a1 "java/lang/String") (P_F_a1_coder : Fld Z h0 a1 "java/lang/String" "coder" "B" (.int (0 : Int32))) (P_F_a1_value : Fld Z h0 a1 "java/lang/String" "value" "[B" (.ref t_a1)) (P_V_t_a1 : own_Arf Z h0 t_a1 k_t_a1 .byte (2 : Int32) (fun i => .int (fn_t_a1 i))) (P_S_CS : Sta Z h0 "java/lang/String" "COMPACT_STRINGS" "Z" (.int f_CS)) (hn_CS : ¬ (f_CS = (0 : Int32))) :
    MetFree l (⟨"java/lang/String", "equals", "(Ljava/lang/Object;)Z"⟩ : MethodName) (head1 (Jvm.Cond.code (⟨"java/lang/String", "equals", "(Ljava/lang/Object;)Z"⟩ : MethodName) jdk_42_method_66_code 3 (some .boolean) :: ws) ({ frames := 1, cells := 0, slots := 0, locals := 14 } : Room)) (fun a U => a = #[(.ref a0), (.ref a1)] ∧ Z.Warmed39 U.vm ∧ U.heap = h0) (fun _ _ _ _ _ => True) (fun _ U o U' => ∃ v L, o = .returned v ∧ QeqR2 Z t_a0 k_t_a0 fn_t_a0 t_a1 k_t_a1 fn_t_a1 f_CS a0 a1 h0 n0 v U'.heap L ∧ FrameEnd U o U' L 0 0) := by
 refine MetFree.of_bodySF (plainFor_of_name pn_eqR2) hisR ?_
 intro p e s m args below meth c s₁ Bd hml0 hP hK
 obtain ⟨rfl, hZ, hh⟩ := hP
 have hwd := fun i {d : Jvm.Cond} (h : tables_1[i]? = some d) => hw d (List.mem_of_getElem? h)
 have hx := Bd.exec
 have hby := Bd.bytes
 have hml : c.maxLocals = 3 := hml0
 have hlk : meth.locks = false := Bd.notSynchronized
 have hown : s.vm.findClass "java/lang/String" = some m.cls := findClass_of_methodNamed Bd.named
 have hnm := (name_of_methodNamed Bd.named Bd.method).1
 have X0 : Stand p l e ({ frames := 1, cells := 0, slots := 0, locals := 14 } : Room) s m #[(.ref a0), (.ref a1)] below meth c s₁ [] 0 0 := Stand.of_body Bd
 have e0 : s₁.heap = h0 := by rw [← hh, Bd.state]; rfl
 have N0 := Fr.nil n0
 show own_Go p e below (own_Fin s 0 0 (QeqR2 Z t_a0 k_t_a0 fn_t_a0 t_a1 k_t_a1 fn_t_a1 f_CS a0 a1 h0 n0)) _
 refine own_by (fun t k => castTop (ef_eqR2 m a0 a1) k) ?_
 show own_Go p e below _ (s₁.setTop (mkF m 0 #[vR a0, vR a1, .unset] []))
 refine own_by (fun _ k => XS.aloadN X0.here hx rfl (hb hby d3_0) rfl rfl k) ?_
 refine own_by (fun _ k => XS.aloadN X0.here hx rfl (hb hby d3_1) rfl rfl k) ?_
 by_cases c1 : a0 = a1
 ·skip
  refine own_by (fun _ k => Jvm.RoadKit.acmp (g := (mkF m 2 #[vR a0, vR a1, .unset] [(.ref a1), (.ref a0)])) X0 hx rfl rfl rfl (pc0 := 2) (pc' := 5) (same := true) rfl (hb hby d3_2) rfl (decide_eq_true (congrArg Value.ref c1)) (by decide) (by decide) k) ?_
  show own_Go p e below _ (s₁.setTop (mkF m 5 #[vR a0, vR a1, .unset] []))
  refine own_by (fun _ k => XS.iconst X0.here hx rfl (hb hby d3_5) k) ?_
  exact own_retN X0 hx (t := .boolean) Bd.returns (by simp) (hb hby d3_6) hlk e0 ⟨_, rfl, N0, rfl, own_eqDiff c1 P_F_a0_value P_F_a1_value P_V_t_a0 P_V_t_a1 (by decide)⟩ (by decide) (by decide)
 ·skip
  refine own_by (fun _ k => Jvm.RoadKit.acmp (g := (mkF m 2 #[vR a0, vR a1, .unset] [(.ref a1), (.ref a0)])) X0 hx rfl rfl rfl (pc0 := 2) (pc' := 7) (same := false) rfl (hb hby d3_2) rfl (decide_eq_false fun q => c1 (Value.ref.inj q)) (by decide) (by decide) k) ?_
  show own_Go p e below _ (s₁.setTop (mkF m 7 #[vR a0, vR a1, .unset] []))
  refine own_by (fun _ k => XS.aloadN X0.here hx rfl (hb hby d3_7) rfl rfl k) ?_
  obtain ⟨T2, X2, e2, st2⟩ := instY X0 hx hZ hown (hwd 71 rfl) e0 (Ins.self P_E_a1) (g := (mkF m 8 #[vR a0, vR a1, .unset] [(.ref a1)])) rfl rfl (hb hby d3_8)
  refine own_by st2 ?_
  show own_Go p e below _ (T2.setTop (mkF m 11 #[vR a0, vR a1, .unset] [(.int (1 : Int32))]))
  refine own_by (fun _ k => XS.ifNo X2.here hx rfl (hb hby d3_11) rfl ((if0 _ _).trans (feq (by decide : ¬ ((1 : Int32) = (0 : Int32)))).1) k) ?_
  show own_Go p e below _ (T2.setTop (mkF m 14 #[vR a0, vR a1, .unset] []))
  refine own_by (fun _ k => XS.aloadN X2.here hx rfl (hb hby d3_14) rfl rfl k) ?_
  obtain ⟨T3, X3, e3, st3⟩ := castY X2 hx hZ hown (hwd 71 rfl) e2 (Ins.self P_E_a1) (g := (mkF m 15 #[vR a0, vR a1, .unset] [(.ref a1)])) rfl rfl (hb hby d3_15)
  refine own_by st3 ?_
  show own_Go p e below _ (T3.setTop (mkF m 18 #[vR a0, vR a1, .unset] [(.ref a1)]))
  refine own_by (fun _ k => XS.astoreN X3.here hx rfl (hb hby d3_18) rfl rfl (l' := #[vR a0, vR a1, vR a1]) rfl k) ?_
  show own_Go p e below _ (T3.setTop (mkF m 19 #[vR a0, vR a1, vR a1] []))
  obtain ⟨T4, X4, e4, st4⟩ := getS2 X3 hx hZ hown (host := "") (Or.inl (hwd 48 rfl)) Via.refl e3 P_S_CS (g := (mkF m 19 #[vR a0, vR a1, vR a1] [])) rfl (hb hby d3_19)
  refine own_by st4 ?_
  show own_Go p e below _ (T4.setTop (mkF m 22 #[vR a0, vR a1, vR a1] [(.int f_CS)]))
  refine own_by (fun _ k => XS.ifNo X4.here hx rfl (hb hby d3_22) rfl ((if0 _ _).trans (feq hn_CS).1) k) ?_
  show own_Go p e below _ (T4.setTop (mkF m 25 #[vR a0, vR a1, vR a1] []))
  refine own_by (fun _ k => XS.aloadN X4.here hx rfl (hb hby d3_25) rfl rfl k) ?_
  obtain ⟨T5, X5, e5, st5⟩ := getF X4 hx hZ hown (host := "") (Or.inl (hwd 59 rfl)) Via.refl e4 P_F_a0_coder (g := (mkF m 26 #[vR a0, vR a1, vR a1] [(.ref a0)])) rfl rfl (hb hby d3_26)
  refine own_by st5 ?_
  show own_Go p e below _ (T5.setTop (mkF m 29 #[vR a0, vR a1, vR a1] [(.int (0 : Int32))]))
  refine own_by (fun _ k => XS.aloadN X5.here hx rfl (hb hby d3_29) rfl rfl k) ?_
  obtain ⟨T6, X6, e6, st6⟩ := getF X5 hx hZ hown (host := "") (Or.inl (hwd 59 rfl)) Via.refl e5 P_F_a1_coder (g := (mkF m 30 #[vR a0, vR a1, vR a1] [(.ref a1), (.int (0 : Int32))])) rfl rfl (hb hby d3_30)
  refine own_by st6 ?_
  show own_Go p e below _ (T6.setTop (mkF m 33 #[vR a0, vR a1, vR a1] [(.int (0 : Int32)), (.int (0 : Int32))]))
  refine own_by (fun _ k => XS.icmpNo X6.here hx rfl (hb hby d3_33) rfl (teq (by decide : (0 : Int32) = (0 : Int32))).2 k) ?_
  show own_Go p e below _ (T6.setTop (mkF m 36 #[vR a0, vR a1, vR a1] []))
  refine own_by (fun _ k => XS.aloadN X6.here hx rfl (hb hby d3_36) rfl rfl k) ?_
  obtain ⟨T7, X7, e7, st7⟩ := getF X6 hx hZ hown (host := "") (Or.inl (hwd 60 rfl)) Via.refl e6 P_F_a0_value (g := (mkF m 37 #[vR a0, vR a1, vR a1] [(.ref a0)])) rfl rfl (hb hby d3_37)
  refine own_by st7 ?_
  show own_Go p e below _ (T7.setTop (mkF m 40 #[vR a0, vR a1, vR a1] [(.ref t_a0)]))
  refine own_by (fun _ k => XS.aloadN X7.here hx rfl (hb hby d3_40) rfl rfl k) ?_
  obtain ⟨T8, X8, e8, st8⟩ := getF X7 hx hZ hown (host := "") (Or.inl (hwd 60 rfl)) Via.refl e7 P_F_a1_value (g := (mkF m 41 #[vR a0, vR a1, vR a1] [(.ref a1), (.ref t_a0)])) rfl rfl (hb hby d3_41)
  refine own_by st8 ?_
  show own_Go p e below _ (T8.setTop (mkF m 44 #[vR a0, vR a1, vR a1] [(.ref t_a1), (.ref t_a0)]))
  obtain ⟨_, _, ⟨T9, L9, k9, n9⟩, -, X9, ⟨Lc9, hQ9, l9, y9, z9⟩, st9⟩ := Jvm.LawKit.callS X8 hx (y := (⟨"java/lang/StringLatin1", "equals", "([B[B)Z"⟩ : MethodName)) hown (mvT hZ (hwd 72 rfl)) (mvT hZ (hwd 73 rfl)) (mvT hZ (hwd 74 rfl)) (mvT hZ (hwd 75 rfl)) (by decide) (backOf (W := 0) (rmleq2 l Z A0 hw [] k_t_a0 fn_t_a0 k_t_a1 fn_t_a1 t_a0 t_a1 h0 n0 Z0 P_V_t_a0 P_V_t_a1) hZ (hwd 75 rfl) (hwd 74 rfl) (by decide) (by decide)) (g := (mkF m 44 #[vR a0, vR a1, vR a1] [(.ref t_a1), (.ref t_a0)])) rfl (by rw [hml]; rfl) (argsL := [(.ref t_a0), (.ref t_a1)]) (rest := []) (lenOf pd_72 rfl) rfl (by show 2 * 0 + _ ≤ _; exact Nat.le_of_eq rfl) (hb hby d3_44) (fun _ _ => ⟨rfl, e8, (by decide : 0 + 0 ≤ _), (by decide : 0 + 0 ≤ _)⟩)
  dsimp only [Pt.U, Pt.locs, Pt.cells, Pt.slots] at X9 l9 y9 z9 st9 hQ9
  subst l9 y9 z9
  obtain ⟨o10, rfl, Nq9, eq9, hp11⟩ := hQ9
  have N9 := Fr.app N0 Nq9
  refine own_by st9 ?_
  show own_Go p e below _ (T9.setTop (mkF m 47 #[vR a0, vR a1, vR a1] [(.int o10)]))
  by_cases c12 : o10 = (0 : Int32)
  ·skip
   refine own_by (fun _ k => XS.ifYes X9.here hx rfl (pc0 := 47) (pc' := 54) rfl (hb hby d3_47) rfl ((if0 _ _).trans (teq c12).1) (by decide) (by decide) k) ?_
   show own_Go p e below _ (T9.setTop (mkF m 54 #[vR a0, vR a1, vR a1] []))
   refine own_by (fun _ k => XS.iconst X9.here hx rfl (hb hby d3_54) k) ?_
   exact own_retN X9 hx (t := .boolean) Bd.returns (by simp) (hb hby d3_55) hlk eq9 ⟨_, rfl, N9, rfl, (ob_eqR2_5 f_CS a0 a1 o10 hn_CS c1 hp11 c12)⟩ (by decide) (by decide)
  ·skip
   refine own_by (fun _ k => XS.ifNo X9.here hx rfl (hb hby d3_47) rfl ((if0 _ _).trans (feq c12).1) k) ?_
   show own_Go p e below _ (T9.setTop (mkF m 50 #[vR a0, vR a1, vR a1] []))
   refine own_by (fun _ k => XS.iconst X9.here hx rfl (hb hby d3_50) k) ?_
   refine own_by (fun _ k => XS.goto X9.here hx rfl (pc0 := 51) (pc' := 55) rfl (hb hby d3_51) (by decide) (by decide) k) ?_
   show own_Go p e below _ (T9.setTop (mkF m 55 #[vR a0, vR a1, vR a1] [(.int (1 : Int32))]))
   exact own_retN X9 hx (t := .boolean) Bd.returns (by simp) (hb hby d3_55) hlk eq9 ⟨_, rfl, N9, rfl, (ob_eqR2_6 f_CS a0 a1 o10 hn_CS c1 hp11 c12)⟩ (by decide) (by decide)
theorem pn_lcR2 : plainName "com/example/margay/margay/index/LineCounter" = true := by first | (simp [plainName, overriddenIn]; done) | decide +kernel
theorem ef_lcR2 (m : MethodId) (a0 : Addr) (a1 : Addr) : entryFrame m #[(.ref a0), (.ref a1)] 2 = mkF m 0 #[vR a0, vR a1] [] := by first | (simp [entryFrame, mkF, argsToLocals, Value.category]; done) | rfl
def QlcR2 (Z : State) (t_a1 : Addr) (k_t_a1 : ClassId) (fn_t_a1 : Nat → Int32) (f_CS : Int32) (a0 : Addr) (a1 : Addr) (f_a0_line : Int32) (f_a0_column : Int32) (f_a0_xml11 : Int32) (h0 : Heap) (n0 : Nat) (v : Option Value) (h : Heap) (L : List Loc) : Prop := ∃ (z5001 : Int32), v = none ∧ Fr n0 L ∧ Keep h0 h [a0] ∧ Exa Z h a0 "com/example/margay/margay/index/LineCounter" ∧ Fld Z h a0 "com/example/margay/margay/index/LineCounter" "line" "I" (.int (1 : Int32)) ∧ Fld Z h a0 "com/example/margay/margay/index/LineCounter" "column" "I" (.int (1 : Int32)) ∧ Fld Z h a0 "com/example/margay/margay/index/LineCounter" "xml11" "Z" (.int z5001) ∧ ((∃ (o14_lcR2 : Int32), (own_z0 o14_lcR2) ∧ z5001 = (nar .boolean o14_lcR2)))
set_option maxRecDepth 65536 in
set_option maxHeartbeats 40000000 in
theorem rmlcR2 (l : Launch) (Z : State) (A0 : Array Value) (hw : ∀ d ∈ tables_1, d.before A0 Z = true) (ws : List Jvm.Cond) (t_a1 : Addr) (k_t_a1 : ClassId) (fn_t_a1 : Nat → Int32) (f_CS : Int32) (a0 : Addr) (a1 : Addr) (f_a0_line : Int32) (f_a0_column : Int32) (f_a0_xml11 : Int32) (h0 : Heap) (n0 : Nat) (Z0 : n0 ≤ h0.size) (P_E_a1 : Exa Z h0 a1 "java/lang/String") (P_F_a1_coder : Fld Z h0 a1 "java/lang/String" "coder" "B" (.int (0 : Int32))) (P_F_a1_value : Fld Z h0 a1 "java/lang/String" "value" "[B" (.ref t_a1)) (P_V_t_a1 : own_Arf Z h0 t_a1 k_t_a1 .byte (2 : Int32) (fun i => .int (fn_t_a1 i))) (P_S_CS : Sta Z h0 "java/lang/String" "COMPACT_STRINGS" "Z" (.int f_CS)) (hn_CS : ¬ (f_CS = (0 : Int32))) (P_E_a0 : Exa Z h0 a0 "com/example/margay/margay/index/LineCounter") (P_F_a0_line : Fld Z h0 a0 "com/example/margay/margay/index/LineCounter" "line" "I" (.int f_a0_line)) (g_a0 : n0 ≤ a0) (P_F_a0_column : Fld Z h0 a0 "com/example/margay/margay/index/LineCounter" "column" "I" (.int f_a0_column)) (P_F_a0_xml11 : Fld Z h0 a0 "com/example/margay/margay/index/LineCounter" "xml11" "Z" (.int f_a0_xml11)) :
    MetFree l (⟨"com/example/margay/margay/index/LineCounter", "<init>", "(Ljava/lang/String;)V"⟩ : MethodName) (head1 (Jvm.Cond.code (⟨"com/example/margay/margay/index/LineCounter", "<init>", "(Ljava/lang/String;)V"⟩ : MethodName) prog_53_method_1_code 2 none :: ws) ({ frames := 2, cells := 2, slots := 16, locals := 29 } : Room)) (fun a U => a = #[(.ref a0), (.ref a1)] ∧ Z.Warmed39 U.vm ∧ U.heap = h0 ∧ CHv Z consts_1 U.vm h0) (fun _ _ _ _ _ => True) (fun _ U o U' => ∃ v L, o = .returned v ∧ QlcR2 Z t_a1 k_t_a1 fn_t_a1 f_CS a0 a1 f_a0_line f_a0_column f_a0_xml11 h0 n0 v U'.heap L ∧ CHr Z consts_1 U.vm U.heap U'.vm U'.heap ∧ ReturnedEndW U o U' L 2 16) := by
 refine MetFree.of_bodySF (plainFor_of_name pn_lcR2) hisR ?_
 intro p e s m args below meth c s₁ Bd hml0 hP hK
 obtain ⟨rfl, hZ, hh, hC0⟩ := hP
 have hwd := fun i {d : Jvm.Cond} (h : tables_1[i]? = some d) => hw d (List.mem_of_getElem? h)
 have hx := Bd.exec
 have hby := Bd.bytes
 have hml : c.maxLocals = 2 := hml0
 have hlk : meth.locks = false := Bd.notSynchronized
 have hown : s.vm.findClass "com/example/margay/margay/index/LineCounter" = some m.cls := findClass_of_methodNamed Bd.named
 have hnm := (name_of_methodNamed Bd.named Bd.method).1
 have X0 : Stand p l e ({ frames := 2, cells := 2, slots := 16, locals := 29 } : Room) (s.setVm s.vm) m #[(.ref a0), (.ref a1)] below meth c s₁ [] 0 0 := Stand.of_body Bd
 have e0 : s₁.heap = h0 := by rw [← hh, Bd.state]; rfl
 have N0 := Fr.nil n0
 have hEL := own_EW hw
 have hwS := fun a ha => hw a (own_atoms a ha)
 have CR0 : CHr Z consts_1 s.vm h0 s.vm h0 := CHr.refl hC0
 obtain ⟨kc0, hkc0⟩ : ∃ z, z = h0.size := ⟨_, rfl⟩
 have hk0 : kc0 ≤ h0.size := Nat.le_of_eq hkc0
 have hS : s.Since s.vm kc0 := own_since s kc0
 show own_Go p e below (own_FinW Z consts_1 s 2 16 (QlcR2 Z t_a1 k_t_a1 fn_t_a1 f_CS a0 a1 f_a0_line f_a0_column f_a0_xml11 h0 n0)) _
 refine own_by (fun t k => castTop (ef_lcR2 m a0 a1) k) ?_
 show own_Go p e below _ (s₁.setTop (mkF m 0 #[vR a0, vR a1] []))
 refine own_by (fun _ k => XS.aloadN X0.here hx rfl (hb hby d1_0) rfl rfl k) ?_
 obtain ⟨T1, X1, e1, st1⟩ := initO X0 hx hZ hown (hwd 6 rfl) (hwd 7 rfl) (hwd 8 rfl) e0 (g := (mkF m 1 #[vR a0, vR a1] [(.ref a0)])) rfl (by rw [hml]; rfl) rfl (hb hby d1_1) (by decide) (W := 0) (by show 2 * 0 + _ ≤ _; exact Nat.le_of_eq rfl) (by decide)
 refine own_by st1 ?_
 show own_Go p e below _ (T1.setTop (mkF m 4 #[vR a0, vR a1] []))
 refine own_by (fun _ k => XS.aloadN X1.here hx rfl (hb hby d1_4) rfl rfl k) ?_
 refine own_by (fun _ k => XS.iconst X1.here hx rfl (hb hby d1_5) k) ?_
 obtain ⟨T2, h2, X2, e2, W2, st2⟩ := putF X1 hx hZ hown (host := "") (Or.inl (hwd 9 rfl)) Via.refl e1 P_F_a0_line P_E_a0 (Or.inl (hwd 10 rfl)) (hwd 1 rfl) (ty := .int) (by decide) rfl rfl (g := (mkF m 6 #[vR a0, vR a1] [(.int (1 : Int32)), (.ref a0)])) rfl rfl (hb hby d1_6)
 have Fw2 : Fld Z h2 a0 "com/example/margay/margay/index/LineCounter" "line" "I" (.int (1 : Int32)) := P_F_a0_line.same W2
 have R2 : CHr Z consts_1 s.vm h0 s.vm h2 := CHr.wr W2 (Safe.exa hZ.alike P_E_a0 (by decide) (by decide)) CR0.1
 have CR2 : CHr Z consts_1 s.vm h0 s.vm h2 := CR0.trans R2
 have hk2 : kc0 ≤ h2.size := Nat.le_trans hk0 (Keep.of_wr W2).1
 have K2 : Keep h0 h2 [a0] := (Keep.refl h0 [a0]).wr W2 (Or.inl (List.mem_of_getElem? (i := 0) rfl))
 have Z2 : n0 ≤ h2.size := Nat.le_trans Z0 (Keep.of_wr W2).1
 have N2 := Fr.snoc X2 N0 g_a0
 refine own_by st2 ?_
 show own_Go p e below _ (T2.setTop (mkF m 9 #[vR a0, vR a1] []))
 refine own_by (fun _ k => XS.aloadN X2.here hx rfl (hb hby d1_9) rfl rfl k) ?_
 refine own_by (fun _ k => XS.iconst X2.here hx rfl (hb hby d1_10) k) ?_
 have F3 : Exa Z h2 a0 "com/example/margay/margay/index/LineCounter" := (P_E_a0.wr W2)
 have F4 : Fld Z h2 a0 "com/example/margay/margay/index/LineCounter" "column" "I" (.int f_a0_column) := (P_F_a0_column.other W2 (Or.inr (slot_ne (Or.inl (hwd 12 rfl)) (Or.inl (hwd 10 rfl)) (by decide) (t := .int) (t' := .int) (by decide) (by decide))))
 obtain ⟨T5, h5, X5, e5, W5, st5⟩ := putF X2 hx hZ hown (host := "") (Or.inl (hwd 11 rfl)) Via.refl e2 F4 F3 (Or.inl (hwd 12 rfl)) (hwd 1 rfl) (ty := .int) (by decide) rfl rfl (g := (mkF m 11 #[vR a0, vR a1] [(.int (1 : Int32)), (.ref a0)])) rfl rfl (hb hby d1_11)
 have Fw5 : Fld Z h5 a0 "com/example/margay/margay/index/LineCounter" "column" "I" (.int (1 : Int32)) := F4.same W5
 have R5 : CHr Z consts_1 s.vm h2 s.vm h5 := CHr.wr W5 (Safe.exa hZ.alike F3 (by decide) (by decide)) CR2.1
 have CR5 : CHr Z consts_1 s.vm h0 s.vm h5 := CR2.trans R5
 have hk5 : kc0 ≤ h5.size := Nat.le_trans hk2 (Keep.of_wr W5).1
 have K5 : Keep h0 h5 [a0] := K2.wr W5 (Or.inl (List.mem_of_getElem? (i := 0) rfl))
 have Z5 : n0 ≤ h5.size := Nat.le_trans Z2 (Keep.of_wr W5).1
 have N5 := Fr.snoc X5 N2 g_a0
 refine own_by st5 ?_
 show own_Go p e below _ (T5.setTop (mkF m 14 #[vR a0, vR a1] []))
 refine own_by (fun _ k => XS.aloadN X5.here hx rfl (hb hby d1_14) rfl rfl k) ?_
 obtain ⟨b6, T6, h6, kc6, t6, kk6, X6, e6, E6, hS, hk6, hZ, hown, A6, C6, F6, V6, lt6, ltb6, R6, Li6, -, st6⟩ := ldcCH X5 hx hZ hown (hwd 13 rfl) hwS e5 hS hk5 hEL (by decide) CR5.1 (vs := ([49, 46, 49] : List Int32).map Value.int) (z := (3 : Int32)) ⟨by decide, by decide⟩ (by decide) (by decide) (g := (mkF m 15 #[vR a0, vR a1] [(.ref a0)])) rfl (hb hby d1_15) (n := 12) (by decide) (by decide) (by decide) (by decide)
 have V6' : own_Arf Z h6 t6 kk6 .byte (3 : Int32) (fun i => .int ((own_li [49, 46, 49]) i)) := own_arfLi V6
 have CR6 : CHr Z consts_1 s.vm h0 T6.vm h6 := CR5.trans R6
 have K6 : Keep h0 h6 [a0] := K5.ext E6
 have Z6 : n0 ≤ h6.size := Nat.le_trans Z5 E6.1
 refine own_by st6 ?_
 show own_Go p e below _ (T6.setTop (mkF m 17 #[vR a0, vR a1] [(.ref b6), (.ref a0)]))
 refine own_by (fun _ k => XS.aloadN X6.here hx rfl (hb hby d1_17) rfl rfl k) ?_
 have F7 : Exa Z h6 a1 "java/lang/String" := (((P_E_a1.wr W2).wr W5).ext E6)
 have F8 : Exa Z h6 a0 "com/example/margay/margay/index/LineCounter" := ((F3.wr W5).ext E6)
 have F9 : Fld Z h6 a1 "java/lang/String" "coder" "B" (.int (0 : Int32)) := (((P_F_a1_coder.other W2 (Or.inl (ne_exa F7 F8 (by decide)))).other W5 (Or.inl (ne_exa F7 F8 (by decide)))).ext E6)
 have F10 : Fld Z h6 a1 "java/lang/String" "value" "[B" (.ref t_a1) := (((P_F_a1_value.other W2 (Or.inl (ne_exa F7 F8 (by decide)))).other W5 (Or.inl (ne_exa F7 F8 (by decide)))).ext E6)
 have F11 : own_Arf Z h6 t_a1 k_t_a1 .byte (2 : Int32) (fun i => .int (fn_t_a1 i)) := (((P_V_t_a1.other W2 (Ne.symm (own_neArr P_E_a0 (hwd 1 rfl) P_V_t_a1))).other W5 (Ne.symm (own_neArr P_E_a0 (hwd 1 rfl) P_V_t_a1))).ext E6)
 have F12 : Sta Z h6 "java/lang/String" "COMPACT_STRINGS" "Z" (.int f_CS) := (((P_S_CS.wr W2).wr W5).ext E6)
 obtain ⟨cq13, kq13, qq13a, qq13b, qq13c⟩ := isOf hZ e6 A6
 obtain ⟨_, _, ⟨T13, L13, k13, n13⟩, -, X13, ⟨Lc13, hQ13, l13, y13, z13⟩, st13⟩ := X6.virtualBack hx (y := (⟨"java/lang/String", "equals", "(Ljava/lang/Object;)Z"⟩ : MethodName)) (z := (⟨"java/lang/String", "equals", "(Ljava/lang/Object;)Z"⟩ : MethodName)) hown (mvT hZ (hwd 21 rfl)) (mvT hZ (hwd 22 rfl)) (notFace_of_selects (args := #[]) (mvT hZ (hwd 24 rfl))) (mvT hZ (hwd 24 rfl)) (mvT hZ (hwd 23 rfl)) (by decide) (backOf (W := 1) (rmeqR2 l Z A0 hw [] t6 kk6 (own_li [49, 46, 49]) t_a1 k_t_a1 fn_t_a1 f_CS b6 a1 h6 n0 Z6 A6 C6 F6 V6' F7 F9 F10 F11 F12 hn_CS) hZ (hwd 25 rfl) (hwd 14 rfl) (by decide) (by decide)) qq13a qq13c (g := (mkF m 18 #[vR a0, vR a1] [(.ref a1), (.ref b6), (.ref a0)])) rfl (by rw [hml]; rfl) (Steps.refl _) (argsL := [(.ref a1)]) (rest := [(.ref a0)]) (lenOf pd_21 rfl) rfl (by show 2 * 0 + _ ≤ _; exact Nat.le_of_eq rfl) (hb hby d1_18) (fun _ _ => ⟨rfl, e6, (by decide : 2 + 0 ≤ _), (by decide : 16 + 0 ≤ _)⟩)
 dsimp only [Pt.U, Pt.locs, Pt.cells, Pt.slots] at X13 l13 y13 z13 st13 hQ13
 subst l13 y13 z13
 obtain ⟨o14, rfl, Nq13, eq13, hp15⟩ := hQ13
 have N13 := Fr.app N5 Nq13
 refine own_by (fun _ k => st13.trans k) ?_
 show own_Go p e below _ (T13.setTop (mkF m 21 #[vR a0, vR a1] [(.int o14), (.ref a0)]))
 have F16 : Fld Z h6 a0 "com/example/margay/margay/index/LineCounter" "xml11" "Z" (.int f_a0_xml11) := (((P_F_a0_xml11.other W2 (Or.inr (slot_ne (Or.inr (hwd 27 rfl)) (Or.inl (hwd 10 rfl)) (by decide) (t := .boolean) (t' := .int) (by decide) (by decide)))).other W5 (Or.inr (slot_ne (Or.inr (hwd 27 rfl)) (Or.inl (hwd 12 rfl)) (by decide) (t := .boolean) (t' := .int) (by decide) (by decide)))).ext E6)
 obtain ⟨T17, h17, X17, e17, W17, st17⟩ := putFN X13 hx hZ hown (hwd 26 rfl) Via.refl eq13 F16 F8 (Or.inr ⟨(hwd 27 rfl), rfl, hnm⟩) (hwd 1 rfl) (ty := .boolean) (v' := (.int (nar .boolean o14))) (by decide) rfl (fits_nar_bool _) (g := (mkF m 21 #[vR a0, vR a1] [(.int o14), (.ref a0)])) rfl rfl (hb hby d1_21)
 have Fw17 : Fld Z h17 a0 "com/example/margay/margay/index/LineCounter" "xml11" "Z" (.int (nar .boolean o14)) := F16.same W17
 have R17 : CHr Z consts_1 T6.vm h6 T6.vm h17 := CHr.wr W17 (Safe.exa hZ.alike F8 (by decide) (by decide)) CR6.1
 have CR17 : CHr Z consts_1 s.vm h0 T6.vm h17 := CR6.trans R17
 have hk17 : kc6 ≤ h17.size := Nat.le_trans hk6 (Keep.of_wr W17).1
 have K17 : Keep h0 h17 [a0] := K6.wr W17 (Or.inl (List.mem_of_getElem? (i := 0) rfl))
 have Z17 : n0 ≤ h17.size := Nat.le_trans Z6 (Keep.of_wr W17).1
 have N17 := Fr.snoc X17 N13 g_a0
 refine own_by st17 ?_
 show own_Go p e below _ (T17.setTop (mkF m 24 #[vR a0, vR a1] []))
 have F18 : Exa Z h17 a0 "com/example/margay/margay/index/LineCounter" := (F8.wr W17)
 have F19 : Fld Z h17 a0 "com/example/margay/margay/index/LineCounter" "line" "I" (.int (1 : Int32)) := (((Fw2.other W5 (Or.inr (slot_ne (Or.inl (hwd 10 rfl)) (Or.inl (hwd 12 rfl)) (by decide) (t := .int) (t' := .int) (by decide) (by decide)))).ext E6).other W17 (Or.inr (slot_ne (Or.inl (hwd 10 rfl)) (Or.inr (hwd 27 rfl)) (by decide) (t := .int) (t' := .boolean) (by decide) (by decide))))
 have F20 : Fld Z h17 a0 "com/example/margay/margay/index/LineCounter" "column" "I" (.int (1 : Int32)) := ((Fw5.ext E6).other W17 (Or.inr (slot_ne (Or.inl (hwd 12 rfl)) (Or.inr (hwd 27 rfl)) (by decide) (t := .int) (t' := .boolean) (by decide) (by decide))))
 exact own_ret0W X17 hx hS hk17 hZ hEL hh CR17 Bd.returns (hb hby d1_24) hlk e17 ⟨(nar .boolean o14), rfl, N17, K17, F18, F19, F20, Fw17, ⟨o14, hp15, rfl⟩⟩ (by decide) (by decide)
theorem d13_7 : decode jdk_43_method_13_code 7 = .ok (.iconst 0, 1) := by decide +kernel
theorem d13_8 : decode jdk_43_method_13_code 8 = .ok (.istore_n 2, 1) := by decide +kernel
theorem d13_9 : decode jdk_43_method_13_code 9 = .ok (.iload_n 2, 1) := by decide +kernel
theorem d13_10 : decode jdk_43_method_13_code 10 = .ok (.aload_n 0, 1) := by decide +kernel
theorem d13_11 : decode jdk_43_method_13_code 11 = .ok (.arraylength, 1) := by decide +kernel
theorem d13_12 : decode jdk_43_method_13_code 12 = .ok (.if_icmp .ge 20, 3) := by decide +kernel
theorem d13_15 : decode jdk_43_method_13_code 15 = .ok (.aload_n 0, 1) := by decide +kernel
theorem d13_16 : decode jdk_43_method_13_code 16 = .ok (.iload_n 2, 1) := by decide +kernel
theorem d13_17 : decode jdk_43_method_13_code 17 = .ok (.baload, 1) := by decide +kernel
theorem d13_18 : decode jdk_43_method_13_code 18 = .ok (.aload_n 1, 1) := by decide +kernel
theorem d13_19 : decode jdk_43_method_13_code 19 = .ok (.iload_n 2, 1) := by decide +kernel
theorem d13_20 : decode jdk_43_method_13_code 20 = .ok (.baload, 1) := by decide +kernel
theorem d13_21 : decode jdk_43_method_13_code 21 = .ok (.if_icmp .eq 5, 3) := by decide +kernel
theorem d13_24 : decode jdk_43_method_13_code 24 = .ok (.iconst 0, 1) := by decide +kernel
theorem d13_25 : decode jdk_43_method_13_code 25 = .ok (.ireturn, 1) := by decide +kernel
theorem d13_26 : decode jdk_43_method_13_code 26 = .ok (.iinc 2 1, 3) := by decide +kernel
theorem d13_29 : decode jdk_43_method_13_code 29 = .ok (.goto (-20), 3) := by decide +kernel
theorem d13_32 : decode jdk_43_method_13_code 32 = .ok (.iconst 1, 1) := by decide +kernel
theorem d13_33 : decode jdk_43_method_13_code 33 = .ok (.ireturn, 1) := by decide +kernel
theorem pn_leq3 : plainName "java/lang/StringLatin1" = true := by first | (simp [plainName, overriddenIn]; done) | decide +kernel
theorem ef_leq3 (m : MethodId) (a0 : Addr) (a1 : Addr) : entryFrame m #[(.ref a0), (.ref a1)] 3 = mkF m 0 #[vR a0, vR a1, .unset] [] := by first | (simp [entryFrame, mkF, argsToLocals, Value.category]; done) | rfl
theorem ob_leq3_7 (fn_a0 : Nat → Int32) (fn_a1 : Nat → Int32) (c6 : (fn_a0 0) = (fn_a1 0)) (c10 : (fn_a0 1) = (fn_a1 1)) (c14 : (fn_a0 2) = (fn_a1 2)) : own_eq3 fn_a0 fn_a1 (1 : Int32) := by
  simp only [own_eq3]
  grind
theorem ob_leq3_8 (fn_a0 : Nat → Int32) (fn_a1 : Nat → Int32) (c6 : (fn_a0 0) = (fn_a1 0)) (c10 : (fn_a0 1) = (fn_a1 1)) (c14 : ¬ ((fn_a0 2) = (fn_a1 2))) : own_eq3 fn_a0 fn_a1 (0 : Int32) := by
  simp only [own_eq3]
  grind
theorem ob_leq3_9 (fn_a0 : Nat → Int32) (fn_a1 : Nat → Int32) (c6 : (fn_a0 0) = (fn_a1 0)) (c10 : ¬ ((fn_a0 1) = (fn_a1 1))) : own_eq3 fn_a0 fn_a1 (0 : Int32) := by
  simp only [own_eq3]
  grind
theorem ob_leq3_10 (fn_a0 : Nat → Int32) (fn_a1 : Nat → Int32) (c6 : ¬ ((fn_a0 0) = (fn_a1 0))) : own_eq3 fn_a0 fn_a1 (0 : Int32) := by
  simp only [own_eq3]
  grind
def Qleq3 (Z : State) (k_a0 : ClassId) (fn_a0 : Nat → Int32) (k_a1 : ClassId) (fn_a1 : Nat → Int32) (a0 : Addr) (a1 : Addr) (h0 : Heap) (n0 : Nat) (v : Option Value) (h : Heap) (L : List Loc) : Prop := ∃ (zz : Int32), v = some (.int zz) ∧ Fr n0 L ∧ h = h0 ∧ (own_eq3 fn_a0 fn_a1 zz)
set_option maxRecDepth 65536 in
set_option maxHeartbeats 40000000 in
theorem rmleq3 (l : Launch) (Z : State) (A0 : Array Value) (hw : ∀ d ∈ tables_1, d.before A0 Z = true) (ws : List Jvm.Cond) (k_a0 : ClassId) (fn_a0 : Nat → Int32) (k_a1 : ClassId) (fn_a1 : Nat → Int32) (a0 : Addr) (a1 : Addr) (h0 : Heap) (n0 : Nat) (Z0 : n0 ≤ h0.size) (P_V_a0 : own_Arf Z h0 a0 k_a0 .byte (3 : Int32) (fun i => .int (fn_a0 i))) (P_V_a1 : own_Arf Z h0 a1 k_a1 .byte (3 : Int32) (fun i => .int (fn_a1 i))) :
    MetFree l (⟨"java/lang/StringLatin1", "equals", "([B[B)Z"⟩ : MethodName) (head1 (Jvm.Cond.code (⟨"java/lang/StringLatin1", "equals", "([B[B)Z"⟩ : MethodName) jdk_43_method_13_code 3 (some .boolean) :: ws) ({ frames := 0, cells := 0, slots := 0, locals := 0 } : Room)) (fun a U => a = #[(.ref a0), (.ref a1)] ∧ Z.Warmed39 U.vm ∧ U.heap = h0) (fun _ _ _ _ _ => True) (fun _ U o U' => ∃ v L, o = .returned v ∧ Qleq3 Z k_a0 fn_a0 k_a1 fn_a1 a0 a1 h0 n0 v U'.heap L ∧ FrameEnd U o U' L 0 0) := by
 refine MetFree.of_bodySF (plainFor_of_name pn_leq3) hisR ?_
 intro p e s m args below meth c s₁ Bd hml0 hP hK
 obtain ⟨rfl, hZ, hh⟩ := hP
 have hwd := fun i {d : Jvm.Cond} (h : tables_1[i]? = some d) => hw d (List.mem_of_getElem? h)
 have hx := Bd.exec
 have hby := Bd.bytes
 have hml : c.maxLocals = 3 := hml0
 have hlk : meth.locks = false := Bd.notSynchronized
 have hown : s.vm.findClass "java/lang/StringLatin1" = some m.cls := findClass_of_methodNamed Bd.named
 have hnm := (name_of_methodNamed Bd.named Bd.method).1
 have X0 : Stand p l e ({ frames := 0, cells := 0, slots := 0, locals := 0 } : Room) s m #[(.ref a0), (.ref a1)] below meth c s₁ [] 0 0 := Stand.of_body Bd
 have e0 : s₁.heap = h0 := by rw [← hh, Bd.state]; rfl
 have N0 := Fr.nil n0
 show own_Go p e below (own_Fin s 0 0 (Qleq3 Z k_a0 fn_a0 k_a1 fn_a1 a0 a1 h0 n0)) _
 refine own_by (fun t k => castTop (ef_leq3 m a0 a1) k) ?_
 show own_Go p e below _ (s₁.setTop (mkF m 0 #[vR a0, vR a1, .unset] []))
 refine own_by (fun _ k => XS.aloadN X0.here hx rfl (hb hby d13_0) rfl rfl k) ?_
 obtain ⟨cl1, Ar1, qq1, S1, M1, H1, G1⟩ := id P_V_a0
 refine own_by (fun t k => X0.arraylength hx (by rw [e0]; exact Ar1.1) (State.isArrayOf_alike hZ.alike Ar1.2.1) (g := (mkF m 1 #[vR a0, vR a1, .unset] [(.ref a0)])) rfl rfl (hb hby d13_1) _ k) ?_
 rw [len_of S1 M1]
 show own_Go p e below _ (s₁.setTop (mkF m 2 #[vR a0, vR a1, .unset] [(.int (3 : Int32))]))
 refine own_by (fun _ k => XS.aloadN X0.here hx rfl (hb hby d13_2) rfl rfl k) ?_
 obtain ⟨cl2, Ar2, qq2, S2, M2, H2, G2⟩ := id P_V_a1
 refine own_by (fun t k => X0.arraylength hx (by rw [e0]; exact Ar2.1) (State.isArrayOf_alike hZ.alike Ar2.2.1) (g := (mkF m 3 #[vR a0, vR a1, .unset] [(.ref a1), (.int (3 : Int32))])) rfl rfl (hb hby d13_3) _ k) ?_
 rw [len_of S2 M2]
 show own_Go p e below _ (s₁.setTop (mkF m 4 #[vR a0, vR a1, .unset] [(.int (3 : Int32)), (.int (3 : Int32))]))
 refine own_by (fun _ k => XS.icmpNo X0.here hx rfl (hb hby d13_4) rfl (teq (by decide : (3 : Int32) = (3 : Int32))).2 k) ?_
 show own_Go p e below _ (s₁.setTop (mkF m 7 #[vR a0, vR a1, .unset] []))
 refine own_by (fun _ k => XS.iconst X0.here hx rfl (hb hby d13_7) k) ?_
 refine own_by (fun _ k => XS.istoreN X0.here hx rfl (hb hby d13_8) rfl (l' := #[vR a0, vR a1, vI (0 : Int32)]) rfl k) ?_
 show own_Go p e below _ (s₁.setTop (mkF m 9 #[vR a0, vR a1, vI (0 : Int32)] []))
 refine own_by (fun _ k => XS.iloadN X0.here hx rfl (hb hby d13_9) rfl k) ?_
 refine own_by (fun _ k => XS.aloadN X0.here hx rfl (hb hby d13_10) rfl rfl k) ?_
 obtain ⟨cl3, Ar3, qq3, S3, M3, H3, G3⟩ := id P_V_a0
 refine own_by (fun t k => X0.arraylength hx (by rw [e0]; exact Ar3.1) (State.isArrayOf_alike hZ.alike Ar3.2.1) (g := (mkF m 11 #[vR a0, vR a1, vI (0 : Int32)] [(.ref a0), (.int (0 : Int32))])) rfl rfl (hb hby d13_11) _ k) ?_
 rw [len_of S3 M3]
 show own_Go p e below _ (s₁.setTop (mkF m 12 #[vR a0, vR a1, vI (0 : Int32)] [(.int (3 : Int32)), (.int (0 : Int32))]))
 refine own_by (fun _ k => XS.icmpNo X0.here hx rfl (hb hby d13_12) rfl (tlt (by decide : (0 : Int32) < (3 : Int32))).2.1 k) ?_
 show own_Go p e below _ (s₁.setTop (mkF m 15 #[vR a0, vR a1, vI (0 : Int32)] []))
 refine own_by (fun _ k => XS.aloadN X0.here hx rfl (hb hby d13_15) rfl rfl k) ?_
 refine own_by (fun _ k => XS.iloadN X0.here hx rfl (hb hby d13_16) rfl k) ?_
 obtain ⟨cl4, Ar4, qq4, S4, M4, H4, G4⟩ := id P_V_a0
 have hin4 : ¬ ((0 : Int32) < 0 ∨ cl4.slots.size ≤ ((0 : Int32)).toNatClampNeg) := inb_of S4 ⟨by decide, by decide⟩
 refine own_by (fun t k => X0.baloadBytes hx (j := (0 : Int32)) (v := (.int (fn_a0 0))) (by rw [e0]; exact Ar4.1) (State.isArrayOf_alike hZ.alike Ar4.2.1) Ar4.2.2 hin4 (H4 _ (Nat.lt_of_not_le fun y => hin4 (Or.inr y))) (g := (mkF m 17 #[vR a0, vR a1, vI (0 : Int32)] [(.int (0 : Int32)), (.ref a0)])) rfl rfl (hb hby d13_17) _ k) ?_
 show own_Go p e below _ (s₁.setTop (mkF m 18 #[vR a0, vR a1, vI (0 : Int32)] [(.int (fn_a0 0))]))
 refine own_by (fun _ k => XS.aloadN X0.here hx rfl (hb hby d13_18) rfl rfl k) ?_
 refine own_by (fun _ k => XS.iloadN X0.here hx rfl (hb hby d13_19) rfl k) ?_
 obtain ⟨cl5, Ar5, qq5, S5, M5, H5, G5⟩ := id P_V_a1
 have hin5 : ¬ ((0 : Int32) < 0 ∨ cl5.slots.size ≤ ((0 : Int32)).toNatClampNeg) := inb_of S5 ⟨by decide, by decide⟩
 refine own_by (fun t k => X0.baloadBytes hx (j := (0 : Int32)) (v := (.int (fn_a1 0))) (by rw [e0]; exact Ar5.1) (State.isArrayOf_alike hZ.alike Ar5.2.1) Ar5.2.2 hin5 (H5 _ (Nat.lt_of_not_le fun y => hin5 (Or.inr y))) (g := (mkF m 20 #[vR a0, vR a1, vI (0 : Int32)] [(.int (0 : Int32)), (.ref a1), (.int (fn_a0 0))])) rfl rfl (hb hby d13_20) _ k) ?_
 show own_Go p e below _ (s₁.setTop (mkF m 21 #[vR a0, vR a1, vI (0 : Int32)] [(.int (fn_a1 0)), (.int (fn_a0 0))]))
 by_cases c6 : (fn_a0 0) = (fn_a1 0)
 ·skip
  refine own_by (fun _ k => XS.icmpYes X0.here hx rfl (pc0 := 21) (pc' := 26) rfl (hb hby d13_21) rfl (teq c6).1 (by decide) (by decide) k) ?_
  show own_Go p e below _ (s₁.setTop (mkF m 26 #[vR a0, vR a1, vI (0 : Int32)] []))
  refine own_by (fun _ k => XS.iinc X0.here hx rfl (hb hby d13_26) rfl (l' := #[vR a0, vR a1, vI (1 : Int32)]) rfl k) ?_
  show own_Go p e below _ (s₁.setTop (mkF m 29 #[vR a0, vR a1, vI (1 : Int32)] []))
  refine own_by (fun _ k => XS.goto X0.here hx rfl (pc0 := 29) (pc' := 9) rfl (hb hby d13_29) (by decide) (by decide) k) ?_
  show own_Go p e below _ (s₁.setTop (mkF m 9 #[vR a0, vR a1, vI (1 : Int32)] []))
  refine own_by (fun _ k => XS.iloadN X0.here hx rfl (hb hby d13_9) rfl k) ?_
  refine own_by (fun _ k => XS.aloadN X0.here hx rfl (hb hby d13_10) rfl rfl k) ?_
  obtain ⟨cl7, Ar7, qq7, S7, M7, H7, G7⟩ := id P_V_a0
  refine own_by (fun t k => X0.arraylength hx (by rw [e0]; exact Ar7.1) (State.isArrayOf_alike hZ.alike Ar7.2.1) (g := (mkF m 11 #[vR a0, vR a1, vI (1 : Int32)] [(.ref a0), (.int (1 : Int32))])) rfl rfl (hb hby d13_11) _ k) ?_
  rw [len_of S7 M7]
  show own_Go p e below _ (s₁.setTop (mkF m 12 #[vR a0, vR a1, vI (1 : Int32)] [(.int (3 : Int32)), (.int (1 : Int32))]))
  refine own_by (fun _ k => XS.icmpNo X0.here hx rfl (hb hby d13_12) rfl (tlt (by decide : (1 : Int32) < (3 : Int32))).2.1 k) ?_
  show own_Go p e below _ (s₁.setTop (mkF m 15 #[vR a0, vR a1, vI (1 : Int32)] []))
  refine own_by (fun _ k => XS.aloadN X0.here hx rfl (hb hby d13_15) rfl rfl k) ?_
  refine own_by (fun _ k => XS.iloadN X0.here hx rfl (hb hby d13_16) rfl k) ?_
  obtain ⟨cl8, Ar8, qq8, S8, M8, H8, G8⟩ := id P_V_a0
  have hin8 : ¬ ((1 : Int32) < 0 ∨ cl8.slots.size ≤ ((1 : Int32)).toNatClampNeg) := inb_of S8 ⟨by decide, by decide⟩
  refine own_by (fun t k => X0.baloadBytes hx (j := (1 : Int32)) (v := (.int (fn_a0 1))) (by rw [e0]; exact Ar8.1) (State.isArrayOf_alike hZ.alike Ar8.2.1) Ar8.2.2 hin8 (H8 _ (Nat.lt_of_not_le fun y => hin8 (Or.inr y))) (g := (mkF m 17 #[vR a0, vR a1, vI (1 : Int32)] [(.int (1 : Int32)), (.ref a0)])) rfl rfl (hb hby d13_17) _ k) ?_
  show own_Go p e below _ (s₁.setTop (mkF m 18 #[vR a0, vR a1, vI (1 : Int32)] [(.int (fn_a0 1))]))
  refine own_by (fun _ k => XS.aloadN X0.here hx rfl (hb hby d13_18) rfl rfl k) ?_
  refine own_by (fun _ k => XS.iloadN X0.here hx rfl (hb hby d13_19) rfl k) ?_
  obtain ⟨cl9, Ar9, qq9, S9, M9, H9, G9⟩ := id P_V_a1
  have hin9 : ¬ ((1 : Int32) < 0 ∨ cl9.slots.size ≤ ((1 : Int32)).toNatClampNeg) := inb_of S9 ⟨by decide, by decide⟩
  refine own_by (fun t k => X0.baloadBytes hx (j := (1 : Int32)) (v := (.int (fn_a1 1))) (by rw [e0]; exact Ar9.1) (State.isArrayOf_alike hZ.alike Ar9.2.1) Ar9.2.2 hin9 (H9 _ (Nat.lt_of_not_le fun y => hin9 (Or.inr y))) (g := (mkF m 20 #[vR a0, vR a1, vI (1 : Int32)] [(.int (1 : Int32)), (.ref a1), (.int (fn_a0 1))])) rfl rfl (hb hby d13_20) _ k) ?_
  show own_Go p e below _ (s₁.setTop (mkF m 21 #[vR a0, vR a1, vI (1 : Int32)] [(.int (fn_a1 1)), (.int (fn_a0 1))]))
  by_cases c10 : (fn_a0 1) = (fn_a1 1)
  ·skip
   refine own_by (fun _ k => XS.icmpYes X0.here hx rfl (pc0 := 21) (pc' := 26) rfl (hb hby d13_21) rfl (teq c10).1 (by decide) (by decide) k) ?_
   show own_Go p e below _ (s₁.setTop (mkF m 26 #[vR a0, vR a1, vI (1 : Int32)] []))
   refine own_by (fun _ k => XS.iinc X0.here hx rfl (hb hby d13_26) rfl (l' := #[vR a0, vR a1, vI (2 : Int32)]) rfl k) ?_
   show own_Go p e below _ (s₁.setTop (mkF m 29 #[vR a0, vR a1, vI (2 : Int32)] []))
   refine own_by (fun _ k => XS.goto X0.here hx rfl (pc0 := 29) (pc' := 9) rfl (hb hby d13_29) (by decide) (by decide) k) ?_
   show own_Go p e below _ (s₁.setTop (mkF m 9 #[vR a0, vR a1, vI (2 : Int32)] []))
   refine own_by (fun _ k => XS.iloadN X0.here hx rfl (hb hby d13_9) rfl k) ?_
   refine own_by (fun _ k => XS.aloadN X0.here hx rfl (hb hby d13_10) rfl rfl k) ?_
   obtain ⟨cl11, Ar11, qq11, S11, M11, H11, G11⟩ := id P_V_a0
   refine own_by (fun t k => X0.arraylength hx (by rw [e0]; exact Ar11.1) (State.isArrayOf_alike hZ.alike Ar11.2.1) (g := (mkF m 11 #[vR a0, vR a1, vI (2 : Int32)] [(.ref a0), (.int (2 : Int32))])) rfl rfl (hb hby d13_11) _ k) ?_
   rw [len_of S11 M11]
   show own_Go p e below _ (s₁.setTop (mkF m 12 #[vR a0, vR a1, vI (2 : Int32)] [(.int (3 : Int32)), (.int (2 : Int32))]))
   refine own_by (fun _ k => XS.icmpNo X0.here hx rfl (hb hby d13_12) rfl (tlt (by decide : (2 : Int32) < (3 : Int32))).2.1 k) ?_
   show own_Go p e below _ (s₁.setTop (mkF m 15 #[vR a0, vR a1, vI (2 : Int32)] []))
   refine own_by (fun _ k => XS.aloadN X0.here hx rfl (hb hby d13_15) rfl rfl k) ?_
   refine own_by (fun _ k => XS.iloadN X0.here hx rfl (hb hby d13_16) rfl k) ?_
   obtain ⟨cl12, Ar12, qq12, S12, M12, H12, G12⟩ := id P_V_a0
   have hin12 : ¬ ((2 : Int32) < 0 ∨ cl12.slots.size ≤ ((2 : Int32)).toNatClampNeg) := inb_of S12 ⟨by decide, by decide⟩
   refine own_by (fun t k => X0.baloadBytes hx (j := (2 : Int32)) (v := (.int (fn_a0 2))) (by rw [e0]; exact Ar12.1) (State.isArrayOf_alike hZ.alike Ar12.2.1) Ar12.2.2 hin12 (H12 _ (Nat.lt_of_not_le fun y => hin12 (Or.inr y))) (g := (mkF m 17 #[vR a0, vR a1, vI (2 : Int32)] [(.int (2 : Int32)), (.ref a0)])) rfl rfl (hb hby d13_17) _ k) ?_
   show own_Go p e below _ (s₁.setTop (mkF m 18 #[vR a0, vR a1, vI (2 : Int32)] [(.int (fn_a0 2))]))
   refine own_by (fun _ k => XS.aloadN X0.here hx rfl (hb hby d13_18) rfl rfl k) ?_
   refine own_by (fun _ k => XS.iloadN X0.here hx rfl (hb hby d13_19) rfl k) ?_
   obtain ⟨cl13, Ar13, qq13, S13, M13, H13, G13⟩ := id P_V_a1
   have hin13 : ¬ ((2 : Int32) < 0 ∨ cl13.slots.size ≤ ((2 : Int32)).toNatClampNeg) := inb_of S13 ⟨by decide, by decide⟩
   refine own_by (fun t k => X0.baloadBytes hx (j := (2 : Int32)) (v := (.int (fn_a1 2))) (by rw [e0]; exact Ar13.1) (State.isArrayOf_alike hZ.alike Ar13.2.1) Ar13.2.2 hin13 (H13 _ (Nat.lt_of_not_le fun y => hin13 (Or.inr y))) (g := (mkF m 20 #[vR a0, vR a1, vI (2 : Int32)] [(.int (2 : Int32)), (.ref a1), (.int (fn_a0 2))])) rfl rfl (hb hby d13_20) _ k) ?_
   show own_Go p e below _ (s₁.setTop (mkF m 21 #[vR a0, vR a1, vI (2 : Int32)] [(.int (fn_a1 2)), (.int (fn_a0 2))]))
   by_cases c14 : (fn_a0 2) = (fn_a1 2)
   ·skip
    refine own_by (fun _ k => XS.icmpYes X0.here hx rfl (pc0 := 21) (pc' := 26) rfl (hb hby d13_21) rfl (teq c14).1 (by decide) (by decide) k) ?_
    show own_Go p e below _ (s₁.setTop (mkF m 26 #[vR a0, vR a1, vI (2 : Int32)] []))
    refine own_by (fun _ k => XS.iinc X0.here hx rfl (hb hby d13_26) rfl (l' := #[vR a0, vR a1, vI (3 : Int32)]) rfl k) ?_
    show own_Go p e below _ (s₁.setTop (mkF m 29 #[vR a0, vR a1, vI (3 : Int32)] []))
    refine own_by (fun _ k => XS.goto X0.here hx rfl (pc0 := 29) (pc' := 9) rfl (hb hby d13_29) (by decide) (by decide) k) ?_
    show own_Go p e below _ (s₁.setTop (mkF m 9 #[vR a0, vR a1, vI (3 : Int32)] []))
    refine own_by (fun _ k => XS.iloadN X0.here hx rfl (hb hby d13_9) rfl k) ?_
    refine own_by (fun _ k => XS.aloadN X0.here hx rfl (hb hby d13_10) rfl rfl k) ?_
    obtain ⟨cl15, Ar15, qq15, S15, M15, H15, G15⟩ := id P_V_a0
    refine own_by (fun t k => X0.arraylength hx (by rw [e0]; exact Ar15.1) (State.isArrayOf_alike hZ.alike Ar15.2.1) (g := (mkF m 11 #[vR a0, vR a1, vI (3 : Int32)] [(.ref a0), (.int (3 : Int32))])) rfl rfl (hb hby d13_11) _ k) ?_
    rw [len_of S15 M15]
    show own_Go p e below _ (s₁.setTop (mkF m 12 #[vR a0, vR a1, vI (3 : Int32)] [(.int (3 : Int32)), (.int (3 : Int32))]))
    refine own_by (fun _ k => XS.icmpYes X0.here hx rfl (pc0 := 12) (pc' := 32) rfl (hb hby d13_12) rfl (flt (by decide : ¬ ((3 : Int32) < (3 : Int32)))).2.1 (by decide) (by decide) k) ?_
    show own_Go p e below _ (s₁.setTop (mkF m 32 #[vR a0, vR a1, vI (3 : Int32)] []))
    refine own_by (fun _ k => XS.iconst X0.here hx rfl (hb hby d13_32) k) ?_
    exact own_retN X0 hx (t := .boolean) Bd.returns (by simp) (hb hby d13_33) hlk e0 ⟨_, rfl, N0, rfl, (ob_leq3_7 fn_a0 fn_a1 c6 c10 c14)⟩ (by decide) (by decide)
   ·skip
    refine own_by (fun _ k => XS.icmpNo X0.here hx rfl (hb hby d13_21) rfl (feq c14).1 k) ?_
    show own_Go p e below _ (s₁.setTop (mkF m 24 #[vR a0, vR a1, vI (2 : Int32)] []))
    refine own_by (fun _ k => XS.iconst X0.here hx rfl (hb hby d13_24) k) ?_
    exact own_retN X0 hx (t := .boolean) Bd.returns (by simp) (hb hby d13_25) hlk e0 ⟨_, rfl, N0, rfl, (ob_leq3_8 fn_a0 fn_a1 c6 c10 c14)⟩ (by decide) (by decide)
  ·skip
   refine own_by (fun _ k => XS.icmpNo X0.here hx rfl (hb hby d13_21) rfl (feq c10).1 k) ?_
   show own_Go p e below _ (s₁.setTop (mkF m 24 #[vR a0, vR a1, vI (1 : Int32)] []))
   refine own_by (fun _ k => XS.iconst X0.here hx rfl (hb hby d13_24) k) ?_
   exact own_retN X0 hx (t := .boolean) Bd.returns (by simp) (hb hby d13_25) hlk e0 ⟨_, rfl, N0, rfl, (ob_leq3_9 fn_a0 fn_a1 c6 c10)⟩ (by decide) (by decide)
 ·skip
  refine own_by (fun _ k => XS.icmpNo X0.here hx rfl (hb hby d13_21) rfl (feq c6).1 k) ?_
  show own_Go p e below _ (s₁.setTop (mkF m 24 #[vR a0, vR a1, vI (0 : Int32)] []))
  refine own_by (fun _ k => XS.iconst X0.here hx rfl (hb hby d13_24) k) ?_
  exact own_retN X0 hx (t := .boolean) Bd.returns (by simp) (hb hby d13_25) hlk e0 ⟨_, rfl, N0, rfl, (ob_leq3_10 fn_a0 fn_a1 c6)⟩ (by decide) (by decide)
theorem pn_eqR3 : plainName "java/lang/String" = true := by first | (simp [plainName, overriddenIn]; done) | decide +kernel
theorem ef_eqR3 (m : MethodId) (a0 : Addr) (a1 : Addr) : entryFrame m #[(.ref a0), (.ref a1)] 3 = mkF m 0 #[vR a0, vR a1, .unset] [] := by first | (simp [entryFrame, mkF, argsToLocals, Value.category]; done) | rfl
theorem ob_eqR3_11 (fn_t_a0 : Nat → Int32) (fn_t_a1 : Nat → Int32) (f_CS : Int32) (a0 : Addr) (a1 : Addr) (o10 : Int32) (hn_CS : ¬ (f_CS = (0 : Int32))) (c1 : ¬ (a0 = a1)) (hp11 : own_eq3 fn_t_a0 fn_t_a1 o10) (c12 : o10 = (0 : Int32)) : own_eq3 fn_t_a0 fn_t_a1 (0 : Int32) := by
  simp only [own_eq3] at *
  grind
theorem ob_eqR3_12 (fn_t_a0 : Nat → Int32) (fn_t_a1 : Nat → Int32) (f_CS : Int32) (a0 : Addr) (a1 : Addr) (o10 : Int32) (hn_CS : ¬ (f_CS = (0 : Int32))) (c1 : ¬ (a0 = a1)) (hp11 : own_eq3 fn_t_a0 fn_t_a1 o10) (c12 : ¬ (o10 = (0 : Int32))) : own_eq3 fn_t_a0 fn_t_a1 (1 : Int32) := by
  simp only [own_eq3] at *
  grind
def QeqR3 (Z : State) (t_a0 : Addr) (k_t_a0 : ClassId) (fn_t_a0 : Nat → Int32) (t_a1 : Addr) (k_t_a1 : ClassId) (fn_t_a1 : Nat → Int32) (f_CS : Int32) (a0 : Addr) (a1 : Addr) (h0 : Heap) (n0 : Nat) (v : Option Value) (h : Heap) (L : List Loc) : Prop := ∃ (zz : Int32), v = some (.int zz) ∧ Fr n0 L ∧ h = h0 ∧ (own_eq3 fn_t_a0 fn_t_a1 zz)
set_option maxRecDepth 65536 in
set_option maxHeartbeats 40000000 in
theorem rmeqR3 (l : Launch) (Z : State) (A0 : Array Value) (hw : ∀ d ∈ tables_1, d.before A0 Z = true) (ws : List Jvm.Cond) (t_a0 : Addr) (k_t_a0 : ClassId) (fn_t_a0 : Nat → Int32) (t_a1 : Addr) (k_t_a1 : ClassId) (fn_t_a1 : Nat → Int32) (f_CS : Int32) (a0 : Addr) (a1 : Addr) (h0 : Heap) (n0 : Nat) (Z0 : n0 ≤ h0.size) (P_E_a0 : Exa Z h0 a0 "java/lang/String") (P_F_a0_coder : Fld Z h0 a0 "java/lang/String" "coder" "B" (.int (0 : Int32))) (P_F_a0_value : Fld Z h0 a0 "java/lang/String" "value" "[B" (.ref t_a0)) (P_V_t_a0 : own_Arf Z h0 t_a0 k_t_a0 .byte (3 : Int32) (fun i => .int (fn_t_a0 i))) (P_E_a1 : Exa Z h0 a1 "java/lang/String") (P_F_a1_coder : Fld Z h0 a1 "java/lang/String" "coder" "B" (.int (0 : Int32))) (P_F_a1_value : Fld Z h0 a1 "java/lang/String" "value" "[B" (.ref t_a1)) (P_V_t_a1 : own_Arf Z h0 t_a1 k_t_a1 .byte (3 : Int32) (fun i => .int (fn_t_a1 i))) (P_S_CS : Sta Z h0 "java/lang/String" "COMPACT_STRINGS" "Z" (.int f_CS)) (hn_CS : ¬ (f_CS = (0 : Int32))) :
    MetFree l (⟨"java/lang/String", "equals", "(Ljava/lang/Object;)Z"⟩ : MethodName) (head1 (Jvm.Cond.code (⟨"java/lang/String", "equals", "(Ljava/lang/Object;)Z"⟩ : MethodName) jdk_42_method_66_code 3 (some .boolean) :: ws) ({ frames := 1, cells := 0, slots := 0, locals := 14 } : Room)) (fun a U => a = #[(.ref a0), (.ref a1)] ∧ Z.Warmed39 U.vm ∧ U.heap = h0) (fun _ _ _ _ _ => True) (fun _ U o U' => ∃ v L, o = .returned v ∧ QeqR3 Z t_a0 k_t_a0 fn_t_a0 t_a1 k_t_a1 fn_t_a1 f_CS a0 a1 h0 n0 v U'.heap L ∧ FrameEnd U o U' L 0 0) := by
 refine MetFree.of_bodySF (plainFor_of_name pn_eqR3) hisR ?_
 intro p e s m args below meth c s₁ Bd hml0 hP hK
 obtain ⟨rfl, hZ, hh⟩ := hP
 have hwd := fun i {d : Jvm.Cond} (h : tables_1[i]? = some d) => hw d (List.mem_of_getElem? h)
 have hx := Bd.exec
 have hby := Bd.bytes
 have hml : c.maxLocals = 3 := hml0
 have hlk : meth.locks = false := Bd.notSynchronized
 have hown : s.vm.findClass "java/lang/String" = some m.cls := findClass_of_methodNamed Bd.named
 have hnm := (name_of_methodNamed Bd.named Bd.method).1
 have X0 : Stand p l e ({ frames := 1, cells := 0, slots := 0, locals := 14 } : Room) s m #[(.ref a0), (.ref a1)] below meth c s₁ [] 0 0 := Stand.of_body Bd
 have e0 : s₁.heap = h0 := by rw [← hh, Bd.state]; rfl
 have N0 := Fr.nil n0
 show own_Go p e below (own_Fin s 0 0 (QeqR3 Z t_a0 k_t_a0 fn_t_a0 t_a1 k_t_a1 fn_t_a1 f_CS a0 a1 h0 n0)) _
 refine own_by (fun t k => castTop (ef_eqR3 m a0 a1) k) ?_
 show own_Go p e below _ (s₁.setTop (mkF m 0 #[vR a0, vR a1, .unset] []))
 refine own_by (fun _ k => XS.aloadN X0.here hx rfl (hb hby d3_0) rfl rfl k) ?_
 refine own_by (fun _ k => XS.aloadN X0.here hx rfl (hb hby d3_1) rfl rfl k) ?_
 by_cases c1 : a0 = a1
 ·skip
  refine own_by (fun _ k => Jvm.RoadKit.acmp (g := (mkF m 2 #[vR a0, vR a1, .unset] [(.ref a1), (.ref a0)])) X0 hx rfl rfl rfl (pc0 := 2) (pc' := 5) (same := true) rfl (hb hby d3_2) rfl (decide_eq_true (congrArg Value.ref c1)) (by decide) (by decide) k) ?_
  show own_Go p e below _ (s₁.setTop (mkF m 5 #[vR a0, vR a1, .unset] []))
  refine own_by (fun _ k => XS.iconst X0.here hx rfl (hb hby d3_5) k) ?_
  exact own_retN X0 hx (t := .boolean) Bd.returns (by simp) (hb hby d3_6) hlk e0 ⟨_, rfl, N0, rfl, own_eqSame c1 P_F_a0_value P_F_a1_value P_V_t_a0 P_V_t_a1⟩ (by decide) (by decide)
 ·skip
  refine own_by (fun _ k => Jvm.RoadKit.acmp (g := (mkF m 2 #[vR a0, vR a1, .unset] [(.ref a1), (.ref a0)])) X0 hx rfl rfl rfl (pc0 := 2) (pc' := 7) (same := false) rfl (hb hby d3_2) rfl (decide_eq_false fun q => c1 (Value.ref.inj q)) (by decide) (by decide) k) ?_
  show own_Go p e below _ (s₁.setTop (mkF m 7 #[vR a0, vR a1, .unset] []))
  refine own_by (fun _ k => XS.aloadN X0.here hx rfl (hb hby d3_7) rfl rfl k) ?_
  obtain ⟨T2, X2, e2, st2⟩ := instY X0 hx hZ hown (hwd 71 rfl) e0 (Ins.self P_E_a1) (g := (mkF m 8 #[vR a0, vR a1, .unset] [(.ref a1)])) rfl rfl (hb hby d3_8)
  refine own_by st2 ?_
  show own_Go p e below _ (T2.setTop (mkF m 11 #[vR a0, vR a1, .unset] [(.int (1 : Int32))]))
  refine own_by (fun _ k => XS.ifNo X2.here hx rfl (hb hby d3_11) rfl ((if0 _ _).trans (feq (by decide : ¬ ((1 : Int32) = (0 : Int32)))).1) k) ?_
  show own_Go p e below _ (T2.setTop (mkF m 14 #[vR a0, vR a1, .unset] []))
  refine own_by (fun _ k => XS.aloadN X2.here hx rfl (hb hby d3_14) rfl rfl k) ?_
  obtain ⟨T3, X3, e3, st3⟩ := castY X2 hx hZ hown (hwd 71 rfl) e2 (Ins.self P_E_a1) (g := (mkF m 15 #[vR a0, vR a1, .unset] [(.ref a1)])) rfl rfl (hb hby d3_15)
  refine own_by st3 ?_
  show own_Go p e below _ (T3.setTop (mkF m 18 #[vR a0, vR a1, .unset] [(.ref a1)]))
  refine own_by (fun _ k => XS.astoreN X3.here hx rfl (hb hby d3_18) rfl rfl (l' := #[vR a0, vR a1, vR a1]) rfl k) ?_
  show own_Go p e below _ (T3.setTop (mkF m 19 #[vR a0, vR a1, vR a1] []))
  obtain ⟨T4, X4, e4, st4⟩ := getS2 X3 hx hZ hown (host := "") (Or.inl (hwd 48 rfl)) Via.refl e3 P_S_CS (g := (mkF m 19 #[vR a0, vR a1, vR a1] [])) rfl (hb hby d3_19)
  refine own_by st4 ?_
  show own_Go p e below _ (T4.setTop (mkF m 22 #[vR a0, vR a1, vR a1] [(.int f_CS)]))
  refine own_by (fun _ k => XS.ifNo X4.here hx rfl (hb hby d3_22) rfl ((if0 _ _).trans (feq hn_CS).1) k) ?_
  show own_Go p e below _ (T4.setTop (mkF m 25 #[vR a0, vR a1, vR a1] []))
  refine own_by (fun _ k => XS.aloadN X4.here hx rfl (hb hby d3_25) rfl rfl k) ?_
  obtain ⟨T5, X5, e5, st5⟩ := getF X4 hx hZ hown (host := "") (Or.inl (hwd 59 rfl)) Via.refl e4 P_F_a0_coder (g := (mkF m 26 #[vR a0, vR a1, vR a1] [(.ref a0)])) rfl rfl (hb hby d3_26)
  refine own_by st5 ?_
  show own_Go p e below _ (T5.setTop (mkF m 29 #[vR a0, vR a1, vR a1] [(.int (0 : Int32))]))
  refine own_by (fun _ k => XS.aloadN X5.here hx rfl (hb hby d3_29) rfl rfl k) ?_
  obtain ⟨T6, X6, e6, st6⟩ := getF X5 hx hZ hown (host := "") (Or.inl (hwd 59 rfl)) Via.refl e5 P_F_a1_coder (g := (mkF m 30 #[vR a0, vR a1, vR a1] [(.ref a1), (.int (0 : Int32))])) rfl rfl (hb hby d3_30)
  refine own_by st6 ?_
  show own_Go p e below _ (T6.setTop (mkF m 33 #[vR a0, vR a1, vR a1] [(.int (0 : Int32)), (.int (0 : Int32))]))
  refine own_by (fun _ k => XS.icmpNo X6.here hx rfl (hb hby d3_33) rfl (teq (by decide : (0 : Int32) = (0 : Int32))).2 k) ?_
  show own_Go p e below _ (T6.setTop (mkF m 36 #[vR a0, vR a1, vR a1] []))
  refine own_by (fun _ k => XS.aloadN X6.here hx rfl (hb hby d3_36) rfl rfl k) ?_
  obtain ⟨T7, X7, e7, st7⟩ := getF X6 hx hZ hown (host := "") (Or.inl (hwd 60 rfl)) Via.refl e6 P_F_a0_value (g := (mkF m 37 #[vR a0, vR a1, vR a1] [(.ref a0)])) rfl rfl (hb hby d3_37)
  refine own_by st7 ?_
  show own_Go p e below _ (T7.setTop (mkF m 40 #[vR a0, vR a1, vR a1] [(.ref t_a0)]))
  refine own_by (fun _ k => XS.aloadN X7.here hx rfl (hb hby d3_40) rfl rfl k) ?_
  obtain ⟨T8, X8, e8, st8⟩ := getF X7 hx hZ hown (host := "") (Or.inl (hwd 60 rfl)) Via.refl e7 P_F_a1_value (g := (mkF m 41 #[vR a0, vR a1, vR a1] [(.ref a1), (.ref t_a0)])) rfl rfl (hb hby d3_41)
  refine own_by st8 ?_
  show own_Go p e below _ (T8.setTop (mkF m 44 #[vR a0, vR a1, vR a1] [(.ref t_a1), (.ref t_a0)]))
  obtain ⟨_, _, ⟨T9, L9, k9, n9⟩, -, X9, ⟨Lc9, hQ9, l9, y9, z9⟩, st9⟩ := Jvm.LawKit.callS X8 hx (y := (⟨"java/lang/StringLatin1", "equals", "([B[B)Z"⟩ : MethodName)) hown (mvT hZ (hwd 72 rfl)) (mvT hZ (hwd 73 rfl)) (mvT hZ (hwd 74 rfl)) (mvT hZ (hwd 75 rfl)) (by decide) (backOf (W := 0) (rmleq3 l Z A0 hw [] k_t_a0 fn_t_a0 k_t_a1 fn_t_a1 t_a0 t_a1 h0 n0 Z0 P_V_t_a0 P_V_t_a1) hZ (hwd 75 rfl) (hwd 74 rfl) (by decide) (by decide)) (g := (mkF m 44 #[vR a0, vR a1, vR a1] [(.ref t_a1), (.ref t_a0)])) rfl (by rw [hml]; rfl) (argsL := [(.ref t_a0), (.ref t_a1)]) (rest := []) (lenOf pd_72 rfl) rfl (by show 2 * 0 + _ ≤ _; exact Nat.le_of_eq rfl) (hb hby d3_44) (fun _ _ => ⟨rfl, e8, (by decide : 0 + 0 ≤ _), (by decide : 0 + 0 ≤ _)⟩)
  dsimp only [Pt.U, Pt.locs, Pt.cells, Pt.slots] at X9 l9 y9 z9 st9 hQ9
  subst l9 y9 z9
  obtain ⟨o10, rfl, Nq9, eq9, hp11⟩ := hQ9
  have N9 := Fr.app N0 Nq9
  refine own_by st9 ?_
  show own_Go p e below _ (T9.setTop (mkF m 47 #[vR a0, vR a1, vR a1] [(.int o10)]))
  by_cases c12 : o10 = (0 : Int32)
  ·skip
   refine own_by (fun _ k => XS.ifYes X9.here hx rfl (pc0 := 47) (pc' := 54) rfl (hb hby d3_47) rfl ((if0 _ _).trans (teq c12).1) (by decide) (by decide) k) ?_
   show own_Go p e below _ (T9.setTop (mkF m 54 #[vR a0, vR a1, vR a1] []))
   refine own_by (fun _ k => XS.iconst X9.here hx rfl (hb hby d3_54) k) ?_
   exact own_retN X9 hx (t := .boolean) Bd.returns (by simp) (hb hby d3_55) hlk eq9 ⟨_, rfl, N9, rfl, (ob_eqR3_11 fn_t_a0 fn_t_a1 f_CS a0 a1 o10 hn_CS c1 hp11 c12)⟩ (by decide) (by decide)
  ·skip
   refine own_by (fun _ k => XS.ifNo X9.here hx rfl (hb hby d3_47) rfl ((if0 _ _).trans (feq c12).1) k) ?_
   show own_Go p e below _ (T9.setTop (mkF m 50 #[vR a0, vR a1, vR a1] []))
   refine own_by (fun _ k => XS.iconst X9.here hx rfl (hb hby d3_50) k) ?_
   refine own_by (fun _ k => XS.goto X9.here hx rfl (pc0 := 51) (pc' := 55) rfl (hb hby d3_51) (by decide) (by decide) k) ?_
   show own_Go p e below _ (T9.setTop (mkF m 55 #[vR a0, vR a1, vR a1] [(.int (1 : Int32))]))
   exact own_retN X9 hx (t := .boolean) Bd.returns (by simp) (hb hby d3_55) hlk eq9 ⟨_, rfl, N9, rfl, (ob_eqR3_12 fn_t_a0 fn_t_a1 f_CS a0 a1 o10 hn_CS c1 hp11 c12)⟩ (by decide) (by decide)
theorem pn_lcR3 : plainName "com/example/margay/margay/index/LineCounter" = true := by first | (simp [plainName, overriddenIn]; done) | decide +kernel
theorem ef_lcR3 (m : MethodId) (a0 : Addr) (a1 : Addr) : entryFrame m #[(.ref a0), (.ref a1)] 2 = mkF m 0 #[vR a0, vR a1] [] := by first | (simp [entryFrame, mkF, argsToLocals, Value.category]; done) | rfl
def QlcR3 (Z : State) (t_a1 : Addr) (k_t_a1 : ClassId) (fn_t_a1 : Nat → Int32) (f_CS : Int32) (a0 : Addr) (a1 : Addr) (f_a0_line : Int32) (f_a0_column : Int32) (f_a0_xml11 : Int32) (h0 : Heap) (n0 : Nat) (v : Option Value) (h : Heap) (L : List Loc) : Prop := ∃ (z5001 : Int32), v = none ∧ Fr n0 L ∧ Keep h0 h [a0] ∧ Exa Z h a0 "com/example/margay/margay/index/LineCounter" ∧ Fld Z h a0 "com/example/margay/margay/index/LineCounter" "line" "I" (.int (1 : Int32)) ∧ Fld Z h a0 "com/example/margay/margay/index/LineCounter" "column" "I" (.int (1 : Int32)) ∧ Fld Z h a0 "com/example/margay/margay/index/LineCounter" "xml11" "Z" (.int z5001) ∧ ((∃ (o14_lcR3 : Int32), (own_eq3 (own_li [49, 46, 49]) fn_t_a1 o14_lcR3) ∧ z5001 = (nar .boolean o14_lcR3)))
set_option maxRecDepth 65536 in
set_option maxHeartbeats 40000000 in
theorem rmlcR3 (l : Launch) (Z : State) (A0 : Array Value) (hw : ∀ d ∈ tables_1, d.before A0 Z = true) (ws : List Jvm.Cond) (t_a1 : Addr) (k_t_a1 : ClassId) (fn_t_a1 : Nat → Int32) (f_CS : Int32) (a0 : Addr) (a1 : Addr) (f_a0_line : Int32) (f_a0_column : Int32) (f_a0_xml11 : Int32) (h0 : Heap) (n0 : Nat) (Z0 : n0 ≤ h0.size) (P_E_a1 : Exa Z h0 a1 "java/lang/String") (P_F_a1_coder : Fld Z h0 a1 "java/lang/String" "coder" "B" (.int (0 : Int32))) (P_F_a1_value : Fld Z h0 a1 "java/lang/String" "value" "[B" (.ref t_a1)) (P_V_t_a1 : own_Arf Z h0 t_a1 k_t_a1 .byte (3 : Int32) (fun i => .int (fn_t_a1 i))) (P_S_CS : Sta Z h0 "java/lang/String" "COMPACT_STRINGS" "Z" (.int f_CS)) (hn_CS : ¬ (f_CS = (0 : Int32))) (P_E_a0 : Exa Z h0 a0 "com/example/margay/margay/index/LineCounter") (P_F_a0_line : Fld Z h0 a0 "com/example/margay/margay/index/LineCounter" "line" "I" (.int f_a0_line)) (g_a0 : n0 ≤ a0) (P_F_a0_column : Fld Z h0 a0 "com/example/margay/margay/index/LineCounter" "column" "I" (.int f_a0_column)) (P_F_a0_xml11 : Fld Z h0 a0 "com/example/margay/margay/index/LineCounter" "xml11" "Z" (.int f_a0_xml11)) :
    MetFree l (⟨"com/example/margay/margay/index/LineCounter", "<init>", "(Ljava/lang/String;)V"⟩ : MethodName) (head1 (Jvm.Cond.code (⟨"com/example/margay/margay/index/LineCounter", "<init>", "(Ljava/lang/String;)V"⟩ : MethodName) prog_53_method_1_code 2 none :: ws) ({ frames := 2, cells := 2, slots := 16, locals := 29 } : Room)) (fun a U => a = #[(.ref a0), (.ref a1)] ∧ Z.Warmed39 U.vm ∧ U.heap = h0 ∧ CHv Z consts_1 U.vm h0) (fun _ _ _ _ _ => True) (fun _ U o U' => ∃ v L, o = .returned v ∧ QlcR3 Z t_a1 k_t_a1 fn_t_a1 f_CS a0 a1 f_a0_line f_a0_column f_a0_xml11 h0 n0 v U'.heap L ∧ CHr Z consts_1 U.vm U.heap U'.vm U'.heap ∧ ReturnedEndW U o U' L 2 16) := by
 refine MetFree.of_bodySF (plainFor_of_name pn_lcR3) hisR ?_
 intro p e s m args below meth c s₁ Bd hml0 hP hK
 obtain ⟨rfl, hZ, hh, hC0⟩ := hP
 have hwd := fun i {d : Jvm.Cond} (h : tables_1[i]? = some d) => hw d (List.mem_of_getElem? h)
 have hx := Bd.exec
 have hby := Bd.bytes
 have hml : c.maxLocals = 2 := hml0
 have hlk : meth.locks = false := Bd.notSynchronized
 have hown : s.vm.findClass "com/example/margay/margay/index/LineCounter" = some m.cls := findClass_of_methodNamed Bd.named
 have hnm := (name_of_methodNamed Bd.named Bd.method).1
 have X0 : Stand p l e ({ frames := 2, cells := 2, slots := 16, locals := 29 } : Room) (s.setVm s.vm) m #[(.ref a0), (.ref a1)] below meth c s₁ [] 0 0 := Stand.of_body Bd
 have e0 : s₁.heap = h0 := by rw [← hh, Bd.state]; rfl
 have N0 := Fr.nil n0
 have hEL := own_EW hw
 have hwS := fun a ha => hw a (own_atoms a ha)
 have CR0 : CHr Z consts_1 s.vm h0 s.vm h0 := CHr.refl hC0
 obtain ⟨kc0, hkc0⟩ : ∃ z, z = h0.size := ⟨_, rfl⟩
 have hk0 : kc0 ≤ h0.size := Nat.le_of_eq hkc0
 have hS : s.Since s.vm kc0 := own_since s kc0
 show own_Go p e below (own_FinW Z consts_1 s 2 16 (QlcR3 Z t_a1 k_t_a1 fn_t_a1 f_CS a0 a1 f_a0_line f_a0_column f_a0_xml11 h0 n0)) _
 refine own_by (fun t k => castTop (ef_lcR3 m a0 a1) k) ?_
 show own_Go p e below _ (s₁.setTop (mkF m 0 #[vR a0, vR a1] []))
 refine own_by (fun _ k => XS.aloadN X0.here hx rfl (hb hby d1_0) rfl rfl k) ?_
 obtain ⟨T1, X1, e1, st1⟩ := initO X0 hx hZ hown (hwd 6 rfl) (hwd 7 rfl) (hwd 8 rfl) e0 (g := (mkF m 1 #[vR a0, vR a1] [(.ref a0)])) rfl (by rw [hml]; rfl) rfl (hb hby d1_1) (by decide) (W := 0) (by show 2 * 0 + _ ≤ _; exact Nat.le_of_eq rfl) (by decide)
 refine own_by st1 ?_
 show own_Go p e below _ (T1.setTop (mkF m 4 #[vR a0, vR a1] []))
 refine own_by (fun _ k => XS.aloadN X1.here hx rfl (hb hby d1_4) rfl rfl k) ?_
 refine own_by (fun _ k => XS.iconst X1.here hx rfl (hb hby d1_5) k) ?_
 obtain ⟨T2, h2, X2, e2, W2, st2⟩ := putF X1 hx hZ hown (host := "") (Or.inl (hwd 9 rfl)) Via.refl e1 P_F_a0_line P_E_a0 (Or.inl (hwd 10 rfl)) (hwd 1 rfl) (ty := .int) (by decide) rfl rfl (g := (mkF m 6 #[vR a0, vR a1] [(.int (1 : Int32)), (.ref a0)])) rfl rfl (hb hby d1_6)
 have Fw2 : Fld Z h2 a0 "com/example/margay/margay/index/LineCounter" "line" "I" (.int (1 : Int32)) := P_F_a0_line.same W2
 have R2 : CHr Z consts_1 s.vm h0 s.vm h2 := CHr.wr W2 (Safe.exa hZ.alike P_E_a0 (by decide) (by decide)) CR0.1
 have CR2 : CHr Z consts_1 s.vm h0 s.vm h2 := CR0.trans R2
 have hk2 : kc0 ≤ h2.size := Nat.le_trans hk0 (Keep.of_wr W2).1
 have K2 : Keep h0 h2 [a0] := (Keep.refl h0 [a0]).wr W2 (Or.inl (List.mem_of_getElem? (i := 0) rfl))
 have Z2 : n0 ≤ h2.size := Nat.le_trans Z0 (Keep.of_wr W2).1
 have N2 := Fr.snoc X2 N0 g_a0
 refine own_by st2 ?_
 show own_Go p e below _ (T2.setTop (mkF m 9 #[vR a0, vR a1] []))
 refine own_by (fun _ k => XS.aloadN X2.here hx rfl (hb hby d1_9) rfl rfl k) ?_
 refine own_by (fun _ k => XS.iconst X2.here hx rfl (hb hby d1_10) k) ?_
 have F3 : Exa Z h2 a0 "com/example/margay/margay/index/LineCounter" := (P_E_a0.wr W2)
 have F4 : Fld Z h2 a0 "com/example/margay/margay/index/LineCounter" "column" "I" (.int f_a0_column) := (P_F_a0_column.other W2 (Or.inr (slot_ne (Or.inl (hwd 12 rfl)) (Or.inl (hwd 10 rfl)) (by decide) (t := .int) (t' := .int) (by decide) (by decide))))
 obtain ⟨T5, h5, X5, e5, W5, st5⟩ := putF X2 hx hZ hown (host := "") (Or.inl (hwd 11 rfl)) Via.refl e2 F4 F3 (Or.inl (hwd 12 rfl)) (hwd 1 rfl) (ty := .int) (by decide) rfl rfl (g := (mkF m 11 #[vR a0, vR a1] [(.int (1 : Int32)), (.ref a0)])) rfl rfl (hb hby d1_11)
 have Fw5 : Fld Z h5 a0 "com/example/margay/margay/index/LineCounter" "column" "I" (.int (1 : Int32)) := F4.same W5
 have R5 : CHr Z consts_1 s.vm h2 s.vm h5 := CHr.wr W5 (Safe.exa hZ.alike F3 (by decide) (by decide)) CR2.1
 have CR5 : CHr Z consts_1 s.vm h0 s.vm h5 := CR2.trans R5
 have hk5 : kc0 ≤ h5.size := Nat.le_trans hk2 (Keep.of_wr W5).1
 have K5 : Keep h0 h5 [a0] := K2.wr W5 (Or.inl (List.mem_of_getElem? (i := 0) rfl))
 have Z5 : n0 ≤ h5.size := Nat.le_trans Z2 (Keep.of_wr W5).1
 have N5 := Fr.snoc X5 N2 g_a0
 refine own_by st5 ?_
 show own_Go p e below _ (T5.setTop (mkF m 14 #[vR a0, vR a1] []))
 refine own_by (fun _ k => XS.aloadN X5.here hx rfl (hb hby d1_14) rfl rfl k) ?_
 obtain ⟨b6, T6, h6, kc6, t6, kk6, X6, e6, E6, hS, hk6, hZ, hown, A6, C6, F6, V6, lt6, ltb6, R6, Li6, -, st6⟩ := ldcCH X5 hx hZ hown (hwd 13 rfl) hwS e5 hS hk5 hEL (by decide) CR5.1 (vs := ([49, 46, 49] : List Int32).map Value.int) (z := (3 : Int32)) ⟨by decide, by decide⟩ (by decide) (by decide) (g := (mkF m 15 #[vR a0, vR a1] [(.ref a0)])) rfl (hb hby d1_15) (n := 12) (by decide) (by decide) (by decide) (by decide)
 have V6' : own_Arf Z h6 t6 kk6 .byte (3 : Int32) (fun i => .int ((own_li [49, 46, 49]) i)) := own_arfLi V6
 have CR6 : CHr Z consts_1 s.vm h0 T6.vm h6 := CR5.trans R6
 have K6 : Keep h0 h6 [a0] := K5.ext E6
 have Z6 : n0 ≤ h6.size := Nat.le_trans Z5 E6.1
 refine own_by st6 ?_
 show own_Go p e below _ (T6.setTop (mkF m 17 #[vR a0, vR a1] [(.ref b6), (.ref a0)]))
 refine own_by (fun _ k => XS.aloadN X6.here hx rfl (hb hby d1_17) rfl rfl k) ?_
 have F7 : Exa Z h6 a1 "java/lang/String" := (((P_E_a1.wr W2).wr W5).ext E6)
 have F8 : Exa Z h6 a0 "com/example/margay/margay/index/LineCounter" := ((F3.wr W5).ext E6)
 have F9 : Fld Z h6 a1 "java/lang/String" "coder" "B" (.int (0 : Int32)) := (((P_F_a1_coder.other W2 (Or.inl (ne_exa F7 F8 (by decide)))).other W5 (Or.inl (ne_exa F7 F8 (by decide)))).ext E6)
 have F10 : Fld Z h6 a1 "java/lang/String" "value" "[B" (.ref t_a1) := (((P_F_a1_value.other W2 (Or.inl (ne_exa F7 F8 (by decide)))).other W5 (Or.inl (ne_exa F7 F8 (by decide)))).ext E6)
 have F11 : own_Arf Z h6 t_a1 k_t_a1 .byte (3 : Int32) (fun i => .int (fn_t_a1 i)) := (((P_V_t_a1.other W2 (Ne.symm (own_neArr P_E_a0 (hwd 1 rfl) P_V_t_a1))).other W5 (Ne.symm (own_neArr P_E_a0 (hwd 1 rfl) P_V_t_a1))).ext E6)
 have F12 : Sta Z h6 "java/lang/String" "COMPACT_STRINGS" "Z" (.int f_CS) := (((P_S_CS.wr W2).wr W5).ext E6)
 obtain ⟨cq13, kq13, qq13a, qq13b, qq13c⟩ := isOf hZ e6 A6
 obtain ⟨_, _, ⟨T13, L13, k13, n13⟩, -, X13, ⟨Lc13, hQ13, l13, y13, z13⟩, st13⟩ := X6.virtualBack hx (y := (⟨"java/lang/String", "equals", "(Ljava/lang/Object;)Z"⟩ : MethodName)) (z := (⟨"java/lang/String", "equals", "(Ljava/lang/Object;)Z"⟩ : MethodName)) hown (mvT hZ (hwd 21 rfl)) (mvT hZ (hwd 22 rfl)) (notFace_of_selects (args := #[]) (mvT hZ (hwd 24 rfl))) (mvT hZ (hwd 24 rfl)) (mvT hZ (hwd 23 rfl)) (by decide) (backOf (W := 1) (rmeqR3 l Z A0 hw [] t6 kk6 (own_li [49, 46, 49]) t_a1 k_t_a1 fn_t_a1 f_CS b6 a1 h6 n0 Z6 A6 C6 F6 V6' F7 F9 F10 F11 F12 hn_CS) hZ (hwd 25 rfl) (hwd 14 rfl) (by decide) (by decide)) qq13a qq13c (g := (mkF m 18 #[vR a0, vR a1] [(.ref a1), (.ref b6), (.ref a0)])) rfl (by rw [hml]; rfl) (Steps.refl _) (argsL := [(.ref a1)]) (rest := [(.ref a0)]) (lenOf pd_21 rfl) rfl (by show 2 * 0 + _ ≤ _; exact Nat.le_of_eq rfl) (hb hby d1_18) (fun _ _ => ⟨rfl, e6, (by decide : 2 + 0 ≤ _), (by decide : 16 + 0 ≤ _)⟩)
 dsimp only [Pt.U, Pt.locs, Pt.cells, Pt.slots] at X13 l13 y13 z13 st13 hQ13
 subst l13 y13 z13
 obtain ⟨o14, rfl, Nq13, eq13, hp15⟩ := hQ13
 have N13 := Fr.app N5 Nq13
 refine own_by (fun _ k => st13.trans k) ?_
 show own_Go p e below _ (T13.setTop (mkF m 21 #[vR a0, vR a1] [(.int o14), (.ref a0)]))
 have F16 : Fld Z h6 a0 "com/example/margay/margay/index/LineCounter" "xml11" "Z" (.int f_a0_xml11) := (((P_F_a0_xml11.other W2 (Or.inr (slot_ne (Or.inr (hwd 27 rfl)) (Or.inl (hwd 10 rfl)) (by decide) (t := .boolean) (t' := .int) (by decide) (by decide)))).other W5 (Or.inr (slot_ne (Or.inr (hwd 27 rfl)) (Or.inl (hwd 12 rfl)) (by decide) (t := .boolean) (t' := .int) (by decide) (by decide)))).ext E6)
 obtain ⟨T17, h17, X17, e17, W17, st17⟩ := putFN X13 hx hZ hown (hwd 26 rfl) Via.refl eq13 F16 F8 (Or.inr ⟨(hwd 27 rfl), rfl, hnm⟩) (hwd 1 rfl) (ty := .boolean) (v' := (.int (nar .boolean o14))) (by decide) rfl (fits_nar_bool _) (g := (mkF m 21 #[vR a0, vR a1] [(.int o14), (.ref a0)])) rfl rfl (hb hby d1_21)
 have Fw17 : Fld Z h17 a0 "com/example/margay/margay/index/LineCounter" "xml11" "Z" (.int (nar .boolean o14)) := F16.same W17
 have R17 : CHr Z consts_1 T6.vm h6 T6.vm h17 := CHr.wr W17 (Safe.exa hZ.alike F8 (by decide) (by decide)) CR6.1
 have CR17 : CHr Z consts_1 s.vm h0 T6.vm h17 := CR6.trans R17
 have hk17 : kc6 ≤ h17.size := Nat.le_trans hk6 (Keep.of_wr W17).1
 have K17 : Keep h0 h17 [a0] := K6.wr W17 (Or.inl (List.mem_of_getElem? (i := 0) rfl))
 have Z17 : n0 ≤ h17.size := Nat.le_trans Z6 (Keep.of_wr W17).1
 have N17 := Fr.snoc X17 N13 g_a0
 refine own_by st17 ?_
 show own_Go p e below _ (T17.setTop (mkF m 24 #[vR a0, vR a1] []))
 have F18 : Exa Z h17 a0 "com/example/margay/margay/index/LineCounter" := (F8.wr W17)
 have F19 : Fld Z h17 a0 "com/example/margay/margay/index/LineCounter" "line" "I" (.int (1 : Int32)) := (((Fw2.other W5 (Or.inr (slot_ne (Or.inl (hwd 10 rfl)) (Or.inl (hwd 12 rfl)) (by decide) (t := .int) (t' := .int) (by decide) (by decide)))).ext E6).other W17 (Or.inr (slot_ne (Or.inl (hwd 10 rfl)) (Or.inr (hwd 27 rfl)) (by decide) (t := .int) (t' := .boolean) (by decide) (by decide))))
 have F20 : Fld Z h17 a0 "com/example/margay/margay/index/LineCounter" "column" "I" (.int (1 : Int32)) := ((Fw5.ext E6).other W17 (Or.inr (slot_ne (Or.inl (hwd 12 rfl)) (Or.inr (hwd 27 rfl)) (by decide) (t := .int) (t' := .boolean) (by decide) (by decide))))
 exact own_ret0W X17 hx hS hk17 hZ hEL hh CR17 Bd.returns (hb hby d1_24) hlk e17 ⟨(nar .boolean o14), rfl, N17, K17, F18, F19, F20, Fw17, ⟨o14, hp15, rfl⟩⟩ (by decide) (by decide)
theorem pn_leq4 : plainName "java/lang/StringLatin1" = true := by first | (simp [plainName, overriddenIn]; done) | decide +kernel
theorem ef_leq4 (m : MethodId) (a0 : Addr) (a1 : Addr) : entryFrame m #[(.ref a0), (.ref a1)] 3 = mkF m 0 #[vR a0, vR a1, .unset] [] := by first | (simp [entryFrame, mkF, argsToLocals, Value.category]; done) | rfl
theorem ob_leq4_13 : own_z0 (0 : Int32) := by
  rfl
def Qleq4 (Z : State) (k_a0 : ClassId) (fn_a0 : Nat → Int32) (k_a1 : ClassId) (fn_a1 : Nat → Int32) (a0 : Addr) (a1 : Addr) (h0 : Heap) (n0 : Nat) (v : Option Value) (h : Heap) (L : List Loc) : Prop := ∃ (zz : Int32), v = some (.int zz) ∧ Fr n0 L ∧ h = h0 ∧ (own_z0 zz)
set_option maxRecDepth 65536 in
set_option maxHeartbeats 40000000 in
theorem rmleq4 (l : Launch) (Z : State) (A0 : Array Value) (hw : ∀ d ∈ tables_1, d.before A0 Z = true) (ws : List Jvm.Cond) (k_a0 : ClassId) (fn_a0 : Nat → Int32) (k_a1 : ClassId) (fn_a1 : Nat → Int32) (a0 : Addr) (a1 : Addr) (h0 : Heap) (n0 : Nat) (Z0 : n0 ≤ h0.size) (P_V_a0 : own_Arf Z h0 a0 k_a0 .byte (3 : Int32) (fun i => .int (fn_a0 i))) (P_V_a1 : own_Arf Z h0 a1 k_a1 .byte (4 : Int32) (fun i => .int (fn_a1 i))) :
    MetFree l (⟨"java/lang/StringLatin1", "equals", "([B[B)Z"⟩ : MethodName) (head1 (Jvm.Cond.code (⟨"java/lang/StringLatin1", "equals", "([B[B)Z"⟩ : MethodName) jdk_43_method_13_code 3 (some .boolean) :: ws) ({ frames := 0, cells := 0, slots := 0, locals := 0 } : Room)) (fun a U => a = #[(.ref a0), (.ref a1)] ∧ Z.Warmed39 U.vm ∧ U.heap = h0) (fun _ _ _ _ _ => True) (fun _ U o U' => ∃ v L, o = .returned v ∧ Qleq4 Z k_a0 fn_a0 k_a1 fn_a1 a0 a1 h0 n0 v U'.heap L ∧ FrameEnd U o U' L 0 0) := by
 refine MetFree.of_bodySF (plainFor_of_name pn_leq4) hisR ?_
 intro p e s m args below meth c s₁ Bd hml0 hP hK
 obtain ⟨rfl, hZ, hh⟩ := hP
 have hwd := fun i {d : Jvm.Cond} (h : tables_1[i]? = some d) => hw d (List.mem_of_getElem? h)
 have hx := Bd.exec
 have hby := Bd.bytes
 have hml : c.maxLocals = 3 := hml0
 have hlk : meth.locks = false := Bd.notSynchronized
 have hown : s.vm.findClass "java/lang/StringLatin1" = some m.cls := findClass_of_methodNamed Bd.named
 have hnm := (name_of_methodNamed Bd.named Bd.method).1
 have X0 : Stand p l e ({ frames := 0, cells := 0, slots := 0, locals := 0 } : Room) s m #[(.ref a0), (.ref a1)] below meth c s₁ [] 0 0 := Stand.of_body Bd
 have e0 : s₁.heap = h0 := by rw [← hh, Bd.state]; rfl
 have N0 := Fr.nil n0
 show own_Go p e below (own_Fin s 0 0 (Qleq4 Z k_a0 fn_a0 k_a1 fn_a1 a0 a1 h0 n0)) _
 refine own_by (fun t k => castTop (ef_leq4 m a0 a1) k) ?_
 show own_Go p e below _ (s₁.setTop (mkF m 0 #[vR a0, vR a1, .unset] []))
 refine own_by (fun _ k => XS.aloadN X0.here hx rfl (hb hby d13_0) rfl rfl k) ?_
 obtain ⟨cl1, Ar1, qq1, S1, M1, H1, G1⟩ := id P_V_a0
 refine own_by (fun t k => X0.arraylength hx (by rw [e0]; exact Ar1.1) (State.isArrayOf_alike hZ.alike Ar1.2.1) (g := (mkF m 1 #[vR a0, vR a1, .unset] [(.ref a0)])) rfl rfl (hb hby d13_1) _ k) ?_
 rw [len_of S1 M1]
 show own_Go p e below _ (s₁.setTop (mkF m 2 #[vR a0, vR a1, .unset] [(.int (3 : Int32))]))
 refine own_by (fun _ k => XS.aloadN X0.here hx rfl (hb hby d13_2) rfl rfl k) ?_
 obtain ⟨cl2, Ar2, qq2, S2, M2, H2, G2⟩ := id P_V_a1
 refine own_by (fun t k => X0.arraylength hx (by rw [e0]; exact Ar2.1) (State.isArrayOf_alike hZ.alike Ar2.2.1) (g := (mkF m 3 #[vR a0, vR a1, .unset] [(.ref a1), (.int (3 : Int32))])) rfl rfl (hb hby d13_3) _ k) ?_
 rw [len_of S2 M2]
 show own_Go p e below _ (s₁.setTop (mkF m 4 #[vR a0, vR a1, .unset] [(.int (4 : Int32)), (.int (3 : Int32))]))
 refine own_by (fun _ k => XS.icmpYes X0.here hx rfl (pc0 := 4) (pc' := 34) rfl (hb hby d13_4) rfl (feq (by decide : ¬ ((3 : Int32) = (4 : Int32)))).2 (by decide) (by decide) k) ?_
 show own_Go p e below _ (s₁.setTop (mkF m 34 #[vR a0, vR a1, .unset] []))
 refine own_by (fun _ k => XS.iconst X0.here hx rfl (hb hby d13_34) k) ?_
 exact own_retN X0 hx (t := .boolean) Bd.returns (by simp) (hb hby d13_35) hlk e0 ⟨_, rfl, N0, rfl, (ob_leq4_13)⟩ (by decide) (by decide)
theorem pn_eqR4 : plainName "java/lang/String" = true := by first | (simp [plainName, overriddenIn]; done) | decide +kernel
theorem ef_eqR4 (m : MethodId) (a0 : Addr) (a1 : Addr) : entryFrame m #[(.ref a0), (.ref a1)] 3 = mkF m 0 #[vR a0, vR a1, .unset] [] := by first | (simp [entryFrame, mkF, argsToLocals, Value.category]; done) | rfl
theorem ob_eqR4_14 (f_CS : Int32) (a0 : Addr) (a1 : Addr) (o10 : Int32) (hn_CS : ¬ (f_CS = (0 : Int32))) (c1 : ¬ (a0 = a1)) (hp11 : own_z0 o10) (c12 : o10 = (0 : Int32)) : own_z0 (0 : Int32) := by
  first | rfl | (simp only [own_z0] at *; contradiction)
theorem ob_eqR4_15 (f_CS : Int32) (a0 : Addr) (a1 : Addr) (o10 : Int32) (hn_CS : ¬ (f_CS = (0 : Int32))) (c1 : ¬ (a0 = a1)) (hp11 : own_z0 o10) (c12 : ¬ (o10 = (0 : Int32))) : own_z0 (1 : Int32) := by
  first | rfl | (simp only [own_z0] at *; contradiction)
def QeqR4 (Z : State) (t_a0 : Addr) (k_t_a0 : ClassId) (fn_t_a0 : Nat → Int32) (t_a1 : Addr) (k_t_a1 : ClassId) (fn_t_a1 : Nat → Int32) (f_CS : Int32) (a0 : Addr) (a1 : Addr) (h0 : Heap) (n0 : Nat) (v : Option Value) (h : Heap) (L : List Loc) : Prop := ∃ (zz : Int32), v = some (.int zz) ∧ Fr n0 L ∧ h = h0 ∧ (own_z0 zz)
set_option maxRecDepth 65536 in
set_option maxHeartbeats 40000000 in
theorem rmeqR4 (l : Launch) (Z : State) (A0 : Array Value) (hw : ∀ d ∈ tables_1, d.before A0 Z = true) (ws : List Jvm.Cond) (t_a0 : Addr) (k_t_a0 : ClassId) (fn_t_a0 : Nat → Int32) (t_a1 : Addr) (k_t_a1 : ClassId) (fn_t_a1 : Nat → Int32) (f_CS : Int32) (a0 : Addr) (a1 : Addr) (h0 : Heap) (n0 : Nat) (Z0 : n0 ≤ h0.size) (P_E_a0 : Exa Z h0 a0 "java/lang/String") (P_F_a0_coder : Fld Z h0 a0 "java/lang/String" "coder" "B" (.int (0 : Int32))) (P_F_a0_value : Fld Z h0 a0 "java/lang/String" "value" "[B" (.ref t_a0)) (P_V_t_a0 : own_Arf Z h0 t_a0 k_t_a0 .byte (3 : Int32) (fun i => .int (fn_t_a0 i))) (P_E_a1 : Exa Z h0 a1 "java/lang/String") (P_F_a1_coder : Fld Z h0 a1 "java/lang/String" "coder" "B" (.int (0 : Int32))) (P_F_a1_value : Fld Z h0 a1 "java/lang/String" "value" "[B" (.ref t_a1)) (P_V_t_a1 : own_Arf Z h0 t_a1 k_t_a1 .byte (4 : Int32) (fun i => .int (fn_t_a1 i))) (P_S_CS : Sta Z h0 "java/lang/String" "COMPACT_STRINGS" "Z" (.int f_CS)) (hn_CS : ¬ (f_CS = (0 : Int32))) :
    MetFree l (⟨"java/lang/String", "equals", "(Ljava/lang/Object;)Z"⟩ : MethodName) (head1 (Jvm.Cond.code (⟨"java/lang/String", "equals", "(Ljava/lang/Object;)Z"⟩ : MethodName) jdk_42_method_66_code 3 (some .boolean) :: ws) ({ frames := 1, cells := 0, slots := 0, locals := 14 } : Room)) (fun a U => a = #[(.ref a0), (.ref a1)] ∧ Z.Warmed39 U.vm ∧ U.heap = h0) (fun _ _ _ _ _ => True) (fun _ U o U' => ∃ v L, o = .returned v ∧ QeqR4 Z t_a0 k_t_a0 fn_t_a0 t_a1 k_t_a1 fn_t_a1 f_CS a0 a1 h0 n0 v U'.heap L ∧ FrameEnd U o U' L 0 0) := by
 refine MetFree.of_bodySF (plainFor_of_name pn_eqR4) hisR ?_
 intro p e s m args below meth c s₁ Bd hml0 hP hK
 obtain ⟨rfl, hZ, hh⟩ := hP
 have hwd := fun i {d : Jvm.Cond} (h : tables_1[i]? = some d) => hw d (List.mem_of_getElem? h)
 have hx := Bd.exec
 have hby := Bd.bytes
 have hml : c.maxLocals = 3 := hml0
 have hlk : meth.locks = false := Bd.notSynchronized
 have hown : s.vm.findClass "java/lang/String" = some m.cls := findClass_of_methodNamed Bd.named
 have hnm := (name_of_methodNamed Bd.named Bd.method).1
 have X0 : Stand p l e ({ frames := 1, cells := 0, slots := 0, locals := 14 } : Room) s m #[(.ref a0), (.ref a1)] below meth c s₁ [] 0 0 := Stand.of_body Bd
 have e0 : s₁.heap = h0 := by rw [← hh, Bd.state]; rfl
 have N0 := Fr.nil n0
 show own_Go p e below (own_Fin s 0 0 (QeqR4 Z t_a0 k_t_a0 fn_t_a0 t_a1 k_t_a1 fn_t_a1 f_CS a0 a1 h0 n0)) _
 refine own_by (fun t k => castTop (ef_eqR4 m a0 a1) k) ?_
 show own_Go p e below _ (s₁.setTop (mkF m 0 #[vR a0, vR a1, .unset] []))
 refine own_by (fun _ k => XS.aloadN X0.here hx rfl (hb hby d3_0) rfl rfl k) ?_
 refine own_by (fun _ k => XS.aloadN X0.here hx rfl (hb hby d3_1) rfl rfl k) ?_
 by_cases c1 : a0 = a1
 ·skip
  refine own_by (fun _ k => Jvm.RoadKit.acmp (g := (mkF m 2 #[vR a0, vR a1, .unset] [(.ref a1), (.ref a0)])) X0 hx rfl rfl rfl (pc0 := 2) (pc' := 5) (same := true) rfl (hb hby d3_2) rfl (decide_eq_true (congrArg Value.ref c1)) (by decide) (by decide) k) ?_
  show own_Go p e below _ (s₁.setTop (mkF m 5 #[vR a0, vR a1, .unset] []))
  refine own_by (fun _ k => XS.iconst X0.here hx rfl (hb hby d3_5) k) ?_
  exact own_retN X0 hx (t := .boolean) Bd.returns (by simp) (hb hby d3_6) hlk e0 ⟨_, rfl, N0, rfl, own_eqDiff c1 P_F_a0_value P_F_a1_value P_V_t_a0 P_V_t_a1 (by decide)⟩ (by decide) (by decide)
 ·skip
  refine own_by (fun _ k => Jvm.RoadKit.acmp (g := (mkF m 2 #[vR a0, vR a1, .unset] [(.ref a1), (.ref a0)])) X0 hx rfl rfl rfl (pc0 := 2) (pc' := 7) (same := false) rfl (hb hby d3_2) rfl (decide_eq_false fun q => c1 (Value.ref.inj q)) (by decide) (by decide) k) ?_
  show own_Go p e below _ (s₁.setTop (mkF m 7 #[vR a0, vR a1, .unset] []))
  refine own_by (fun _ k => XS.aloadN X0.here hx rfl (hb hby d3_7) rfl rfl k) ?_
  obtain ⟨T2, X2, e2, st2⟩ := instY X0 hx hZ hown (hwd 71 rfl) e0 (Ins.self P_E_a1) (g := (mkF m 8 #[vR a0, vR a1, .unset] [(.ref a1)])) rfl rfl (hb hby d3_8)
  refine own_by st2 ?_
  show own_Go p e below _ (T2.setTop (mkF m 11 #[vR a0, vR a1, .unset] [(.int (1 : Int32))]))
  refine own_by (fun _ k => XS.ifNo X2.here hx rfl (hb hby d3_11) rfl ((if0 _ _).trans (feq (by decide : ¬ ((1 : Int32) = (0 : Int32)))).1) k) ?_
  show own_Go p e below _ (T2.setTop (mkF m 14 #[vR a0, vR a1, .unset] []))
  refine own_by (fun _ k => XS.aloadN X2.here hx rfl (hb hby d3_14) rfl rfl k) ?_
  obtain ⟨T3, X3, e3, st3⟩ := castY X2 hx hZ hown (hwd 71 rfl) e2 (Ins.self P_E_a1) (g := (mkF m 15 #[vR a0, vR a1, .unset] [(.ref a1)])) rfl rfl (hb hby d3_15)
  refine own_by st3 ?_
  show own_Go p e below _ (T3.setTop (mkF m 18 #[vR a0, vR a1, .unset] [(.ref a1)]))
  refine own_by (fun _ k => XS.astoreN X3.here hx rfl (hb hby d3_18) rfl rfl (l' := #[vR a0, vR a1, vR a1]) rfl k) ?_
  show own_Go p e below _ (T3.setTop (mkF m 19 #[vR a0, vR a1, vR a1] []))
  obtain ⟨T4, X4, e4, st4⟩ := getS2 X3 hx hZ hown (host := "") (Or.inl (hwd 48 rfl)) Via.refl e3 P_S_CS (g := (mkF m 19 #[vR a0, vR a1, vR a1] [])) rfl (hb hby d3_19)
  refine own_by st4 ?_
  show own_Go p e below _ (T4.setTop (mkF m 22 #[vR a0, vR a1, vR a1] [(.int f_CS)]))
  refine own_by (fun _ k => XS.ifNo X4.here hx rfl (hb hby d3_22) rfl ((if0 _ _).trans (feq hn_CS).1) k) ?_
  show own_Go p e below _ (T4.setTop (mkF m 25 #[vR a0, vR a1, vR a1] []))
  refine own_by (fun _ k => XS.aloadN X4.here hx rfl (hb hby d3_25) rfl rfl k) ?_
  obtain ⟨T5, X5, e5, st5⟩ := getF X4 hx hZ hown (host := "") (Or.inl (hwd 59 rfl)) Via.refl e4 P_F_a0_coder (g := (mkF m 26 #[vR a0, vR a1, vR a1] [(.ref a0)])) rfl rfl (hb hby d3_26)
  refine own_by st5 ?_
  show own_Go p e below _ (T5.setTop (mkF m 29 #[vR a0, vR a1, vR a1] [(.int (0 : Int32))]))
  refine own_by (fun _ k => XS.aloadN X5.here hx rfl (hb hby d3_29) rfl rfl k) ?_
  obtain ⟨T6, X6, e6, st6⟩ := getF X5 hx hZ hown (host := "") (Or.inl (hwd 59 rfl)) Via.refl e5 P_F_a1_coder (g := (mkF m 30 #[vR a0, vR a1, vR a1] [(.ref a1), (.int (0 : Int32))])) rfl rfl (hb hby d3_30)
  refine own_by st6 ?_
  show own_Go p e below _ (T6.setTop (mkF m 33 #[vR a0, vR a1, vR a1] [(.int (0 : Int32)), (.int (0 : Int32))]))
  refine own_by (fun _ k => XS.icmpNo X6.here hx rfl (hb hby d3_33) rfl (teq (by decide : (0 : Int32) = (0 : Int32))).2 k) ?_
  show own_Go p e below _ (T6.setTop (mkF m 36 #[vR a0, vR a1, vR a1] []))
  refine own_by (fun _ k => XS.aloadN X6.here hx rfl (hb hby d3_36) rfl rfl k) ?_
  obtain ⟨T7, X7, e7, st7⟩ := getF X6 hx hZ hown (host := "") (Or.inl (hwd 60 rfl)) Via.refl e6 P_F_a0_value (g := (mkF m 37 #[vR a0, vR a1, vR a1] [(.ref a0)])) rfl rfl (hb hby d3_37)
  refine own_by st7 ?_
  show own_Go p e below _ (T7.setTop (mkF m 40 #[vR a0, vR a1, vR a1] [(.ref t_a0)]))
  refine own_by (fun _ k => XS.aloadN X7.here hx rfl (hb hby d3_40) rfl rfl k) ?_
  obtain ⟨T8, X8, e8, st8⟩ := getF X7 hx hZ hown (host := "") (Or.inl (hwd 60 rfl)) Via.refl e7 P_F_a1_value (g := (mkF m 41 #[vR a0, vR a1, vR a1] [(.ref a1), (.ref t_a0)])) rfl rfl (hb hby d3_41)
  refine own_by st8 ?_
  show own_Go p e below _ (T8.setTop (mkF m 44 #[vR a0, vR a1, vR a1] [(.ref t_a1), (.ref t_a0)]))
  obtain ⟨_, _, ⟨T9, L9, k9, n9⟩, -, X9, ⟨Lc9, hQ9, l9, y9, z9⟩, st9⟩ := Jvm.LawKit.callS X8 hx (y := (⟨"java/lang/StringLatin1", "equals", "([B[B)Z"⟩ : MethodName)) hown (mvT hZ (hwd 72 rfl)) (mvT hZ (hwd 73 rfl)) (mvT hZ (hwd 74 rfl)) (mvT hZ (hwd 75 rfl)) (by decide) (backOf (W := 0) (rmleq4 l Z A0 hw [] k_t_a0 fn_t_a0 k_t_a1 fn_t_a1 t_a0 t_a1 h0 n0 Z0 P_V_t_a0 P_V_t_a1) hZ (hwd 75 rfl) (hwd 74 rfl) (by decide) (by decide)) (g := (mkF m 44 #[vR a0, vR a1, vR a1] [(.ref t_a1), (.ref t_a0)])) rfl (by rw [hml]; rfl) (argsL := [(.ref t_a0), (.ref t_a1)]) (rest := []) (lenOf pd_72 rfl) rfl (by show 2 * 0 + _ ≤ _; exact Nat.le_of_eq rfl) (hb hby d3_44) (fun _ _ => ⟨rfl, e8, (by decide : 0 + 0 ≤ _), (by decide : 0 + 0 ≤ _)⟩)
  dsimp only [Pt.U, Pt.locs, Pt.cells, Pt.slots] at X9 l9 y9 z9 st9 hQ9
  subst l9 y9 z9
  obtain ⟨o10, rfl, Nq9, eq9, hp11⟩ := hQ9
  have N9 := Fr.app N0 Nq9
  refine own_by st9 ?_
  show own_Go p e below _ (T9.setTop (mkF m 47 #[vR a0, vR a1, vR a1] [(.int o10)]))
  by_cases c12 : o10 = (0 : Int32)
  ·skip
   refine own_by (fun _ k => XS.ifYes X9.here hx rfl (pc0 := 47) (pc' := 54) rfl (hb hby d3_47) rfl ((if0 _ _).trans (teq c12).1) (by decide) (by decide) k) ?_
   show own_Go p e below _ (T9.setTop (mkF m 54 #[vR a0, vR a1, vR a1] []))
   refine own_by (fun _ k => XS.iconst X9.here hx rfl (hb hby d3_54) k) ?_
   exact own_retN X9 hx (t := .boolean) Bd.returns (by simp) (hb hby d3_55) hlk eq9 ⟨_, rfl, N9, rfl, (ob_eqR4_14 f_CS a0 a1 o10 hn_CS c1 hp11 c12)⟩ (by decide) (by decide)
  ·skip
   refine own_by (fun _ k => XS.ifNo X9.here hx rfl (hb hby d3_47) rfl ((if0 _ _).trans (feq c12).1) k) ?_
   show own_Go p e below _ (T9.setTop (mkF m 50 #[vR a0, vR a1, vR a1] []))
   refine own_by (fun _ k => XS.iconst X9.here hx rfl (hb hby d3_50) k) ?_
   refine own_by (fun _ k => XS.goto X9.here hx rfl (pc0 := 51) (pc' := 55) rfl (hb hby d3_51) (by decide) (by decide) k) ?_
   show own_Go p e below _ (T9.setTop (mkF m 55 #[vR a0, vR a1, vR a1] [(.int (1 : Int32))]))
   exact own_retN X9 hx (t := .boolean) Bd.returns (by simp) (hb hby d3_55) hlk eq9 ⟨_, rfl, N9, rfl, (ob_eqR4_15 f_CS a0 a1 o10 hn_CS c1 hp11 c12)⟩ (by decide) (by decide)
theorem pn_lcR4 : plainName "com/example/margay/margay/index/LineCounter" = true := by first | (simp [plainName, overriddenIn]; done) | decide +kernel
theorem ef_lcR4 (m : MethodId) (a0 : Addr) (a1 : Addr) : entryFrame m #[(.ref a0), (.ref a1)] 2 = mkF m 0 #[vR a0, vR a1] [] := by first | (simp [entryFrame, mkF, argsToLocals, Value.category]; done) | rfl
def QlcR4 (Z : State) (t_a1 : Addr) (k_t_a1 : ClassId) (fn_t_a1 : Nat → Int32) (f_CS : Int32) (a0 : Addr) (a1 : Addr) (f_a0_line : Int32) (f_a0_column : Int32) (f_a0_xml11 : Int32) (h0 : Heap) (n0 : Nat) (v : Option Value) (h : Heap) (L : List Loc) : Prop := ∃ (z5001 : Int32), v = none ∧ Fr n0 L ∧ Keep h0 h [a0] ∧ Exa Z h a0 "com/example/margay/margay/index/LineCounter" ∧ Fld Z h a0 "com/example/margay/margay/index/LineCounter" "line" "I" (.int (1 : Int32)) ∧ Fld Z h a0 "com/example/margay/margay/index/LineCounter" "column" "I" (.int (1 : Int32)) ∧ Fld Z h a0 "com/example/margay/margay/index/LineCounter" "xml11" "Z" (.int z5001) ∧ ((∃ (o14_lcR4 : Int32), (own_z0 o14_lcR4) ∧ z5001 = (nar .boolean o14_lcR4)))
set_option maxRecDepth 65536 in
set_option maxHeartbeats 40000000 in
theorem rmlcR4 (l : Launch) (Z : State) (A0 : Array Value) (hw : ∀ d ∈ tables_1, d.before A0 Z = true) (ws : List Jvm.Cond) (t_a1 : Addr) (k_t_a1 : ClassId) (fn_t_a1 : Nat → Int32) (f_CS : Int32) (a0 : Addr) (a1 : Addr) (f_a0_line : Int32) (f_a0_column : Int32) (f_a0_xml11 : Int32) (h0 : Heap) (n0 : Nat) (Z0 : n0 ≤ h0.size) (P_E_a1 : Exa Z h0 a1 "java/lang/String") (P_F_a1_coder : Fld Z h0 a1 "java/lang/String" "coder" "B" (.int (0 : Int32))) (P_F_a1_value : Fld Z h0 a1 "java/lang/String" "value" "[B" (.ref t_a1)) (P_V_t_a1 : own_Arf Z h0 t_a1 k_t_a1 .byte (4 : Int32) (fun i => .int (fn_t_a1 i))) (P_S_CS : Sta Z h0 "java/lang/String" "COMPACT_STRINGS" "Z" (.int f_CS)) (hn_CS : ¬ (f_CS = (0 : Int32))) (P_E_a0 : Exa Z h0 a0 "com/example/margay/margay/index/LineCounter") (P_F_a0_line : Fld Z h0 a0 "com/example/margay/margay/index/LineCounter" "line" "I" (.int f_a0_line)) (g_a0 : n0 ≤ a0) (P_F_a0_column : Fld Z h0 a0 "com/example/margay/margay/index/LineCounter" "column" "I" (.int f_a0_column)) (P_F_a0_xml11 : Fld Z h0 a0 "com/example/margay/margay/index/LineCounter" "xml11" "Z" (.int f_a0_xml11)) :
    MetFree l (⟨"com/example/margay/margay/index/LineCounter", "<init>", "(Ljava/lang/String;)V"⟩ : MethodName) (head1 (Jvm.Cond.code (⟨"com/example/margay/margay/index/LineCounter", "<init>", "(Ljava/lang/String;)V"⟩ : MethodName) prog_53_method_1_code 2 none :: ws) ({ frames := 2, cells := 2, slots := 16, locals := 29 } : Room)) (fun a U => a = #[(.ref a0), (.ref a1)] ∧ Z.Warmed39 U.vm ∧ U.heap = h0 ∧ CHv Z consts_1 U.vm h0) (fun _ _ _ _ _ => True) (fun _ U o U' => ∃ v L, o = .returned v ∧ QlcR4 Z t_a1 k_t_a1 fn_t_a1 f_CS a0 a1 f_a0_line f_a0_column f_a0_xml11 h0 n0 v U'.heap L ∧ CHr Z consts_1 U.vm U.heap U'.vm U'.heap ∧ ReturnedEndW U o U' L 2 16) := by
 refine MetFree.of_bodySF (plainFor_of_name pn_lcR4) hisR ?_
 intro p e s m args below meth c s₁ Bd hml0 hP hK
 obtain ⟨rfl, hZ, hh, hC0⟩ := hP
 have hwd := fun i {d : Jvm.Cond} (h : tables_1[i]? = some d) => hw d (List.mem_of_getElem? h)
 have hx := Bd.exec
 have hby := Bd.bytes
 have hml : c.maxLocals = 2 := hml0
 have hlk : meth.locks = false := Bd.notSynchronized
 have hown : s.vm.findClass "com/example/margay/margay/index/LineCounter" = some m.cls := findClass_of_methodNamed Bd.named
 have hnm := (name_of_methodNamed Bd.named Bd.method).1
 have X0 : Stand p l e ({ frames := 2, cells := 2, slots := 16, locals := 29 } : Room) (s.setVm s.vm) m #[(.ref a0), (.ref a1)] below meth c s₁ [] 0 0 := Stand.of_body Bd
 have e0 : s₁.heap = h0 := by rw [← hh, Bd.state]; rfl
 have N0 := Fr.nil n0
 have hEL := own_EW hw
 have hwS := fun a ha => hw a (own_atoms a ha)
 have CR0 : CHr Z consts_1 s.vm h0 s.vm h0 := CHr.refl hC0
 obtain ⟨kc0, hkc0⟩ : ∃ z, z = h0.size := ⟨_, rfl⟩
 have hk0 : kc0 ≤ h0.size := Nat.le_of_eq hkc0
 have hS : s.Since s.vm kc0 := own_since s kc0
 show own_Go p e below (own_FinW Z consts_1 s 2 16 (QlcR4 Z t_a1 k_t_a1 fn_t_a1 f_CS a0 a1 f_a0_line f_a0_column f_a0_xml11 h0 n0)) _
 refine own_by (fun t k => castTop (ef_lcR4 m a0 a1) k) ?_
 show own_Go p e below _ (s₁.setTop (mkF m 0 #[vR a0, vR a1] []))
 refine own_by (fun _ k => XS.aloadN X0.here hx rfl (hb hby d1_0) rfl rfl k) ?_
 obtain ⟨T1, X1, e1, st1⟩ := initO X0 hx hZ hown (hwd 6 rfl) (hwd 7 rfl) (hwd 8 rfl) e0 (g := (mkF m 1 #[vR a0, vR a1] [(.ref a0)])) rfl (by rw [hml]; rfl) rfl (hb hby d1_1) (by decide) (W := 0) (by show 2 * 0 + _ ≤ _; exact Nat.le_of_eq rfl) (by decide)
 refine own_by st1 ?_
 show own_Go p e below _ (T1.setTop (mkF m 4 #[vR a0, vR a1] []))
 refine own_by (fun _ k => XS.aloadN X1.here hx rfl (hb hby d1_4) rfl rfl k) ?_
 refine own_by (fun _ k => XS.iconst X1.here hx rfl (hb hby d1_5) k) ?_
 obtain ⟨T2, h2, X2, e2, W2, st2⟩ := putF X1 hx hZ hown (host := "") (Or.inl (hwd 9 rfl)) Via.refl e1 P_F_a0_line P_E_a0 (Or.inl (hwd 10 rfl)) (hwd 1 rfl) (ty := .int) (by decide) rfl rfl (g := (mkF m 6 #[vR a0, vR a1] [(.int (1 : Int32)), (.ref a0)])) rfl rfl (hb hby d1_6)
 have Fw2 : Fld Z h2 a0 "com/example/margay/margay/index/LineCounter" "line" "I" (.int (1 : Int32)) := P_F_a0_line.same W2
 have R2 : CHr Z consts_1 s.vm h0 s.vm h2 := CHr.wr W2 (Safe.exa hZ.alike P_E_a0 (by decide) (by decide)) CR0.1
 have CR2 : CHr Z consts_1 s.vm h0 s.vm h2 := CR0.trans R2
 have hk2 : kc0 ≤ h2.size := Nat.le_trans hk0 (Keep.of_wr W2).1
 have K2 : Keep h0 h2 [a0] := (Keep.refl h0 [a0]).wr W2 (Or.inl (List.mem_of_getElem? (i := 0) rfl))
 have Z2 : n0 ≤ h2.size := Nat.le_trans Z0 (Keep.of_wr W2).1
 have N2 := Fr.snoc X2 N0 g_a0
 refine own_by st2 ?_
 show own_Go p e below _ (T2.setTop (mkF m 9 #[vR a0, vR a1] []))
 refine own_by (fun _ k => XS.aloadN X2.here hx rfl (hb hby d1_9) rfl rfl k) ?_
 refine own_by (fun _ k => XS.iconst X2.here hx rfl (hb hby d1_10) k) ?_
 have F3 : Exa Z h2 a0 "com/example/margay/margay/index/LineCounter" := (P_E_a0.wr W2)
 have F4 : Fld Z h2 a0 "com/example/margay/margay/index/LineCounter" "column" "I" (.int f_a0_column) := (P_F_a0_column.other W2 (Or.inr (slot_ne (Or.inl (hwd 12 rfl)) (Or.inl (hwd 10 rfl)) (by decide) (t := .int) (t' := .int) (by decide) (by decide))))
 obtain ⟨T5, h5, X5, e5, W5, st5⟩ := putF X2 hx hZ hown (host := "") (Or.inl (hwd 11 rfl)) Via.refl e2 F4 F3 (Or.inl (hwd 12 rfl)) (hwd 1 rfl) (ty := .int) (by decide) rfl rfl (g := (mkF m 11 #[vR a0, vR a1] [(.int (1 : Int32)), (.ref a0)])) rfl rfl (hb hby d1_11)
 have Fw5 : Fld Z h5 a0 "com/example/margay/margay/index/LineCounter" "column" "I" (.int (1 : Int32)) := F4.same W5
 have R5 : CHr Z consts_1 s.vm h2 s.vm h5 := CHr.wr W5 (Safe.exa hZ.alike F3 (by decide) (by decide)) CR2.1
 have CR5 : CHr Z consts_1 s.vm h0 s.vm h5 := CR2.trans R5
 have hk5 : kc0 ≤ h5.size := Nat.le_trans hk2 (Keep.of_wr W5).1
 have K5 : Keep h0 h5 [a0] := K2.wr W5 (Or.inl (List.mem_of_getElem? (i := 0) rfl))
 have Z5 : n0 ≤ h5.size := Nat.le_trans Z2 (Keep.of_wr W5).1
 have N5 := Fr.snoc X5 N2 g_a0
 refine own_by st5 ?_
 show own_Go p e below _ (T5.setTop (mkF m 14 #[vR a0, vR a1] []))
 refine own_by (fun _ k => XS.aloadN X5.here hx rfl (hb hby d1_14) rfl rfl k) ?_
 obtain ⟨b6, T6, h6, kc6, t6, kk6, X6, e6, E6, hS, hk6, hZ, hown, A6, C6, F6, V6, lt6, ltb6, R6, Li6, -, st6⟩ := ldcCH X5 hx hZ hown (hwd 13 rfl) hwS e5 hS hk5 hEL (by decide) CR5.1 (vs := ([49, 46, 49] : List Int32).map Value.int) (z := (3 : Int32)) ⟨by decide, by decide⟩ (by decide) (by decide) (g := (mkF m 15 #[vR a0, vR a1] [(.ref a0)])) rfl (hb hby d1_15) (n := 12) (by decide) (by decide) (by decide) (by decide)
 have V6' : own_Arf Z h6 t6 kk6 .byte (3 : Int32) (fun i => .int ((own_li [49, 46, 49]) i)) := own_arfLi V6
 have CR6 : CHr Z consts_1 s.vm h0 T6.vm h6 := CR5.trans R6
 have K6 : Keep h0 h6 [a0] := K5.ext E6
 have Z6 : n0 ≤ h6.size := Nat.le_trans Z5 E6.1
 refine own_by st6 ?_
 show own_Go p e below _ (T6.setTop (mkF m 17 #[vR a0, vR a1] [(.ref b6), (.ref a0)]))
 refine own_by (fun _ k => XS.aloadN X6.here hx rfl (hb hby d1_17) rfl rfl k) ?_
 have F7 : Exa Z h6 a1 "java/lang/String" := (((P_E_a1.wr W2).wr W5).ext E6)
 have F8 : Exa Z h6 a0 "com/example/margay/margay/index/LineCounter" := ((F3.wr W5).ext E6)
 have F9 : Fld Z h6 a1 "java/lang/String" "coder" "B" (.int (0 : Int32)) := (((P_F_a1_coder.other W2 (Or.inl (ne_exa F7 F8 (by decide)))).other W5 (Or.inl (ne_exa F7 F8 (by decide)))).ext E6)
 have F10 : Fld Z h6 a1 "java/lang/String" "value" "[B" (.ref t_a1) := (((P_F_a1_value.other W2 (Or.inl (ne_exa F7 F8 (by decide)))).other W5 (Or.inl (ne_exa F7 F8 (by decide)))).ext E6)
 have F11 : own_Arf Z h6 t_a1 k_t_a1 .byte (4 : Int32) (fun i => .int (fn_t_a1 i)) := (((P_V_t_a1.other W2 (Ne.symm (own_neArr P_E_a0 (hwd 1 rfl) P_V_t_a1))).other W5 (Ne.symm (own_neArr P_E_a0 (hwd 1 rfl) P_V_t_a1))).ext E6)
 have F12 : Sta Z h6 "java/lang/String" "COMPACT_STRINGS" "Z" (.int f_CS) := (((P_S_CS.wr W2).wr W5).ext E6)
 obtain ⟨cq13, kq13, qq13a, qq13b, qq13c⟩ := isOf hZ e6 A6
 obtain ⟨_, _, ⟨T13, L13, k13, n13⟩, -, X13, ⟨Lc13, hQ13, l13, y13, z13⟩, st13⟩ := X6.virtualBack hx (y := (⟨"java/lang/String", "equals", "(Ljava/lang/Object;)Z"⟩ : MethodName)) (z := (⟨"java/lang/String", "equals", "(Ljava/lang/Object;)Z"⟩ : MethodName)) hown (mvT hZ (hwd 21 rfl)) (mvT hZ (hwd 22 rfl)) (notFace_of_selects (args := #[]) (mvT hZ (hwd 24 rfl))) (mvT hZ (hwd 24 rfl)) (mvT hZ (hwd 23 rfl)) (by decide) (backOf (W := 1) (rmeqR4 l Z A0 hw [] t6 kk6 (own_li [49, 46, 49]) t_a1 k_t_a1 fn_t_a1 f_CS b6 a1 h6 n0 Z6 A6 C6 F6 V6' F7 F9 F10 F11 F12 hn_CS) hZ (hwd 25 rfl) (hwd 14 rfl) (by decide) (by decide)) qq13a qq13c (g := (mkF m 18 #[vR a0, vR a1] [(.ref a1), (.ref b6), (.ref a0)])) rfl (by rw [hml]; rfl) (Steps.refl _) (argsL := [(.ref a1)]) (rest := [(.ref a0)]) (lenOf pd_21 rfl) rfl (by show 2 * 0 + _ ≤ _; exact Nat.le_of_eq rfl) (hb hby d1_18) (fun _ _ => ⟨rfl, e6, (by decide : 2 + 0 ≤ _), (by decide : 16 + 0 ≤ _)⟩)
 dsimp only [Pt.U, Pt.locs, Pt.cells, Pt.slots] at X13 l13 y13 z13 st13 hQ13
 subst l13 y13 z13
 obtain ⟨o14, rfl, Nq13, eq13, hp15⟩ := hQ13
 have N13 := Fr.app N5 Nq13
 refine own_by (fun _ k => st13.trans k) ?_
 show own_Go p e below _ (T13.setTop (mkF m 21 #[vR a0, vR a1] [(.int o14), (.ref a0)]))
 have F16 : Fld Z h6 a0 "com/example/margay/margay/index/LineCounter" "xml11" "Z" (.int f_a0_xml11) := (((P_F_a0_xml11.other W2 (Or.inr (slot_ne (Or.inr (hwd 27 rfl)) (Or.inl (hwd 10 rfl)) (by decide) (t := .boolean) (t' := .int) (by decide) (by decide)))).other W5 (Or.inr (slot_ne (Or.inr (hwd 27 rfl)) (Or.inl (hwd 12 rfl)) (by decide) (t := .boolean) (t' := .int) (by decide) (by decide)))).ext E6)
 obtain ⟨T17, h17, X17, e17, W17, st17⟩ := putFN X13 hx hZ hown (hwd 26 rfl) Via.refl eq13 F16 F8 (Or.inr ⟨(hwd 27 rfl), rfl, hnm⟩) (hwd 1 rfl) (ty := .boolean) (v' := (.int (nar .boolean o14))) (by decide) rfl (fits_nar_bool _) (g := (mkF m 21 #[vR a0, vR a1] [(.int o14), (.ref a0)])) rfl rfl (hb hby d1_21)
 have Fw17 : Fld Z h17 a0 "com/example/margay/margay/index/LineCounter" "xml11" "Z" (.int (nar .boolean o14)) := F16.same W17
 have R17 : CHr Z consts_1 T6.vm h6 T6.vm h17 := CHr.wr W17 (Safe.exa hZ.alike F8 (by decide) (by decide)) CR6.1
 have CR17 : CHr Z consts_1 s.vm h0 T6.vm h17 := CR6.trans R17
 have hk17 : kc6 ≤ h17.size := Nat.le_trans hk6 (Keep.of_wr W17).1
 have K17 : Keep h0 h17 [a0] := K6.wr W17 (Or.inl (List.mem_of_getElem? (i := 0) rfl))
 have Z17 : n0 ≤ h17.size := Nat.le_trans Z6 (Keep.of_wr W17).1
 have N17 := Fr.snoc X17 N13 g_a0
 refine own_by st17 ?_
 show own_Go p e below _ (T17.setTop (mkF m 24 #[vR a0, vR a1] []))
 have F18 : Exa Z h17 a0 "com/example/margay/margay/index/LineCounter" := (F8.wr W17)
 have F19 : Fld Z h17 a0 "com/example/margay/margay/index/LineCounter" "line" "I" (.int (1 : Int32)) := (((Fw2.other W5 (Or.inr (slot_ne (Or.inl (hwd 10 rfl)) (Or.inl (hwd 12 rfl)) (by decide) (t := .int) (t' := .int) (by decide) (by decide)))).ext E6).other W17 (Or.inr (slot_ne (Or.inl (hwd 10 rfl)) (Or.inr (hwd 27 rfl)) (by decide) (t := .int) (t' := .boolean) (by decide) (by decide))))
 have F20 : Fld Z h17 a0 "com/example/margay/margay/index/LineCounter" "column" "I" (.int (1 : Int32)) := ((Fw5.ext E6).other W17 (Or.inr (slot_ne (Or.inl (hwd 12 rfl)) (Or.inr (hwd 27 rfl)) (by decide) (t := .int) (t' := .boolean) (by decide) (by decide))))
 exact own_ret0W X17 hx hS hk17 hZ hEL hh CR17 Bd.returns (hb hby d1_24) hlk e17 ⟨(nar .boolean o14), rfl, N17, K17, F18, F19, F20, Fw17, ⟨o14, hp15, rfl⟩⟩ (by decide) (by decide)
theorem pn_eqN : plainName "java/lang/String" = true := by first | (simp [plainName, overriddenIn]; done) | decide +kernel
theorem ef_eqN (m : MethodId) (a0 : Addr) : entryFrame m #[(.ref a0), .null] 3 = mkF m 0 #[vR a0, .val .null, .unset] [] := by first | (simp [entryFrame, mkF, argsToLocals, Value.category]; done) | rfl
def QeqN (Z : State) (a0 : Addr) (h0 : Heap) (n0 : Nat) (v : Option Value) (h : Heap) (L : List Loc) : Prop := v = some (.int (0 : Int32)) ∧ Fr n0 L ∧ h = h0
set_option maxRecDepth 65536 in
set_option maxHeartbeats 40000000 in
theorem rmeqN (l : Launch) (Z : State) (A0 : Array Value) (hw : ∀ d ∈ tables_1, d.before A0 Z = true) (ws : List Jvm.Cond) (a0 : Addr) (h0 : Heap) (n0 : Nat) (Z0 : n0 ≤ h0.size) :
    MetFree l (⟨"java/lang/String", "equals", "(Ljava/lang/Object;)Z"⟩ : MethodName) (head1 (Jvm.Cond.code (⟨"java/lang/String", "equals", "(Ljava/lang/Object;)Z"⟩ : MethodName) jdk_42_method_66_code 3 (some .boolean) :: ws) ({ frames := 0, cells := 0, slots := 0, locals := 0 } : Room)) (fun a U => a = #[(.ref a0), .null] ∧ Z.Warmed39 U.vm ∧ U.heap = h0) (fun _ _ _ _ _ => True) (fun _ U o U' => ∃ v L, o = .returned v ∧ QeqN Z a0 h0 n0 v U'.heap L ∧ FrameEnd U o U' L 0 0) := by
 refine MetFree.of_bodySF (plainFor_of_name pn_eqN) hisR ?_
 intro p e s m args below meth c s₁ Bd hml0 hP hK
 obtain ⟨rfl, hZ, hh⟩ := hP
 have hwd := fun i {d : Jvm.Cond} (h : tables_1[i]? = some d) => hw d (List.mem_of_getElem? h)
 have hx := Bd.exec
 have hby := Bd.bytes
 have hml : c.maxLocals = 3 := hml0
 have hlk : meth.locks = false := Bd.notSynchronized
 have hown : s.vm.findClass "java/lang/String" = some m.cls := findClass_of_methodNamed Bd.named
 have hnm := (name_of_methodNamed Bd.named Bd.method).1
 have X0 : Stand p l e ({ frames := 0, cells := 0, slots := 0, locals := 0 } : Room) s m #[(.ref a0), .null] below meth c s₁ [] 0 0 := Stand.of_body Bd
 have e0 : s₁.heap = h0 := by rw [← hh, Bd.state]; rfl
 have N0 := Fr.nil n0
 show own_Go p e below (own_Fin s 0 0 (QeqN Z a0 h0 n0)) _
 refine own_by (fun t k => castTop (ef_eqN m a0) k) ?_
 show own_Go p e below _ (s₁.setTop (mkF m 0 #[vR a0, .val .null, .unset] []))
 refine own_by (fun _ k => XS.aloadN X0.here hx rfl (hb hby d3_0) rfl rfl k) ?_
 refine own_by (fun _ k => XS.aloadN X0.here hx rfl (hb hby d3_1) rfl rfl k) ?_
 refine own_by (fun _ k => Jvm.RoadKit.acmp (g := (mkF m 2 #[vR a0, .val .null, .unset] [.null, (.ref a0)])) X0 hx rfl rfl rfl (pc0 := 2) (pc' := 7) (same := false) rfl (hb hby d3_2) rfl (decide_eq_false nofun) (by decide) (by decide) k) ?_
 show own_Go p e below _ (s₁.setTop (mkF m 7 #[vR a0, .val .null, .unset] []))
 refine own_by (fun _ k => XS.aloadN X0.here hx rfl (hb hby d3_7) rfl rfl k) ?_
 refine own_by (fun t k => X0.instanceofNull hx (g := (mkF m 8 #[vR a0, .val .null, .unset] [.null])) rfl rfl (hb hby d3_8) _ k) ?_
 show own_Go p e below _ (s₁.setTop (mkF m 11 #[vR a0, .val .null, .unset] [(.int (0 : Int32))]))
 refine own_by (fun _ k => XS.ifYes X0.here hx rfl (pc0 := 11) (pc' := 54) rfl (hb hby d3_11) rfl ((if0 _ _).trans (teq (by decide : (0 : Int32) = (0 : Int32))).1) (by decide) (by decide) k) ?_
 show own_Go p e below _ (s₁.setTop (mkF m 54 #[vR a0, .val .null, .unset] []))
 refine own_by (fun _ k => XS.iconst X0.here hx rfl (hb hby d3_54) k) ?_
 exact own_retN X0 hx (t := .boolean) Bd.returns (by simp) (hb hby d3_55) hlk e0 ⟨rfl, N0, rfl⟩ (by decide) (by decide)
theorem pn_lcN : plainName "com/example/margay/margay/index/LineCounter" = true := by first | (simp [plainName, overriddenIn]; done) | decide +kernel
theorem ef_lcN (m : MethodId) (a0 : Addr) : entryFrame m #[(.ref a0), .null] 2 = mkF m 0 #[vR a0, .val .null] [] := by first | (simp [entryFrame, mkF, argsToLocals, Value.category]; done) | rfl
def QlcN (Z : State) (a0 : Addr) (f_a0_line : Int32) (f_a0_column : Int32) (f_a0_xml11 : Int32) (h0 : Heap) (n0 : Nat) (v : Option Value) (h : Heap) (L : List Loc) : Prop := v = none ∧ Fr n0 L ∧ Keep h0 h [a0] ∧ Exa Z h a0 "com/example/margay/margay/index/LineCounter" ∧ Fld Z h a0 "com/example/margay/margay/index/LineCounter" "line" "I" (.int (1 : Int32)) ∧ Fld Z h a0 "com/example/margay/margay/index/LineCounter" "column" "I" (.int (1 : Int32)) ∧ Fld Z h a0 "com/example/margay/margay/index/LineCounter" "xml11" "Z" (.int (0 : Int32))
set_option maxRecDepth 65536 in
set_option maxHeartbeats 40000000 in
theorem rmlcN (l : Launch) (Z : State) (A0 : Array Value) (hw : ∀ d ∈ tables_1, d.before A0 Z = true) (ws : List Jvm.Cond) (a0 : Addr) (f_a0_line : Int32) (f_a0_column : Int32) (f_a0_xml11 : Int32) (h0 : Heap) (n0 : Nat) (Z0 : n0 ≤ h0.size) (P_E_a0 : Exa Z h0 a0 "com/example/margay/margay/index/LineCounter") (P_F_a0_line : Fld Z h0 a0 "com/example/margay/margay/index/LineCounter" "line" "I" (.int f_a0_line)) (g_a0 : n0 ≤ a0) (P_F_a0_column : Fld Z h0 a0 "com/example/margay/margay/index/LineCounter" "column" "I" (.int f_a0_column)) (P_F_a0_xml11 : Fld Z h0 a0 "com/example/margay/margay/index/LineCounter" "xml11" "Z" (.int f_a0_xml11)) :
    MetFree l (⟨"com/example/margay/margay/index/LineCounter", "<init>", "(Ljava/lang/String;)V"⟩ : MethodName) (head1 (Jvm.Cond.code (⟨"com/example/margay/margay/index/LineCounter", "<init>", "(Ljava/lang/String;)V"⟩ : MethodName) prog_53_method_1_code 2 none :: ws) ({ frames := 1, cells := 2, slots := 16, locals := 15 } : Room)) (fun a U => a = #[(.ref a0), .null] ∧ Z.Warmed39 U.vm ∧ U.heap = h0 ∧ CHv Z consts_1 U.vm h0) (fun _ _ _ _ _ => True) (fun _ U o U' => ∃ v L, o = .returned v ∧ QlcN Z a0 f_a0_line f_a0_column f_a0_xml11 h0 n0 v U'.heap L ∧ CHr Z consts_1 U.vm U.heap U'.vm U'.heap ∧ ReturnedEndW U o U' L 2 16) := by
 refine MetFree.of_bodySF (plainFor_of_name pn_lcN) hisR ?_
 intro p e s m args below meth c s₁ Bd hml0 hP hK
 obtain ⟨rfl, hZ, hh, hC0⟩ := hP
 have hwd := fun i {d : Jvm.Cond} (h : tables_1[i]? = some d) => hw d (List.mem_of_getElem? h)
 have hx := Bd.exec
 have hby := Bd.bytes
 have hml : c.maxLocals = 2 := hml0
 have hlk : meth.locks = false := Bd.notSynchronized
 have hown : s.vm.findClass "com/example/margay/margay/index/LineCounter" = some m.cls := findClass_of_methodNamed Bd.named
 have hnm := (name_of_methodNamed Bd.named Bd.method).1
 have X0 : Stand p l e ({ frames := 1, cells := 2, slots := 16, locals := 15 } : Room) (s.setVm s.vm) m #[(.ref a0), .null] below meth c s₁ [] 0 0 := Stand.of_body Bd
 have e0 : s₁.heap = h0 := by rw [← hh, Bd.state]; rfl
 have N0 := Fr.nil n0
 have hEL := own_EW hw
 have hwS := fun a ha => hw a (own_atoms a ha)
 have CR0 : CHr Z consts_1 s.vm h0 s.vm h0 := CHr.refl hC0
 obtain ⟨kc0, hkc0⟩ : ∃ z, z = h0.size := ⟨_, rfl⟩
 have hk0 : kc0 ≤ h0.size := Nat.le_of_eq hkc0
 have hS : s.Since s.vm kc0 := own_since s kc0
 show own_Go p e below (own_FinW Z consts_1 s 2 16 (QlcN Z a0 f_a0_line f_a0_column f_a0_xml11 h0 n0)) _
 refine own_by (fun t k => castTop (ef_lcN m a0) k) ?_
 show own_Go p e below _ (s₁.setTop (mkF m 0 #[vR a0, .val .null] []))
 refine own_by (fun _ k => XS.aloadN X0.here hx rfl (hb hby d1_0) rfl rfl k) ?_
 obtain ⟨T1, X1, e1, st1⟩ := initO X0 hx hZ hown (hwd 6 rfl) (hwd 7 rfl) (hwd 8 rfl) e0 (g := (mkF m 1 #[vR a0, .val .null] [(.ref a0)])) rfl (by rw [hml]; rfl) rfl (hb hby d1_1) (by decide) (W := 0) (by show 2 * 0 + _ ≤ _; exact Nat.le_of_eq rfl) (by decide)
 refine own_by st1 ?_
 show own_Go p e below _ (T1.setTop (mkF m 4 #[vR a0, .val .null] []))
 refine own_by (fun _ k => XS.aloadN X1.here hx rfl (hb hby d1_4) rfl rfl k) ?_
 refine own_by (fun _ k => XS.iconst X1.here hx rfl (hb hby d1_5) k) ?_
 obtain ⟨T2, h2, X2, e2, W2, st2⟩ := putF X1 hx hZ hown (host := "") (Or.inl (hwd 9 rfl)) Via.refl e1 P_F_a0_line P_E_a0 (Or.inl (hwd 10 rfl)) (hwd 1 rfl) (ty := .int) (by decide) rfl rfl (g := (mkF m 6 #[vR a0, .val .null] [(.int (1 : Int32)), (.ref a0)])) rfl rfl (hb hby d1_6)
 have Fw2 : Fld Z h2 a0 "com/example/margay/margay/index/LineCounter" "line" "I" (.int (1 : Int32)) := P_F_a0_line.same W2
 have R2 : CHr Z consts_1 s.vm h0 s.vm h2 := CHr.wr W2 (Safe.exa hZ.alike P_E_a0 (by decide) (by decide)) CR0.1
 have CR2 : CHr Z consts_1 s.vm h0 s.vm h2 := CR0.trans R2
 have hk2 : kc0 ≤ h2.size := Nat.le_trans hk0 (Keep.of_wr W2).1
 have K2 : Keep h0 h2 [a0] := (Keep.refl h0 [a0]).wr W2 (Or.inl (List.mem_of_getElem? (i := 0) rfl))
 have Z2 : n0 ≤ h2.size := Nat.le_trans Z0 (Keep.of_wr W2).1
 have N2 := Fr.snoc X2 N0 g_a0
 refine own_by st2 ?_
 show own_Go p e below _ (T2.setTop (mkF m 9 #[vR a0, .val .null] []))
 refine own_by (fun _ k => XS.aloadN X2.here hx rfl (hb hby d1_9) rfl rfl k) ?_
 refine own_by (fun _ k => XS.iconst X2.here hx rfl (hb hby d1_10) k) ?_
 have F3 : Exa Z h2 a0 "com/example/margay/margay/index/LineCounter" := (P_E_a0.wr W2)
 have F4 : Fld Z h2 a0 "com/example/margay/margay/index/LineCounter" "column" "I" (.int f_a0_column) := (P_F_a0_column.other W2 (Or.inr (slot_ne (Or.inl (hwd 12 rfl)) (Or.inl (hwd 10 rfl)) (by decide) (t := .int) (t' := .int) (by decide) (by decide))))
 obtain ⟨T5, h5, X5, e5, W5, st5⟩ := putF X2 hx hZ hown (host := "") (Or.inl (hwd 11 rfl)) Via.refl e2 F4 F3 (Or.inl (hwd 12 rfl)) (hwd 1 rfl) (ty := .int) (by decide) rfl rfl (g := (mkF m 11 #[vR a0, .val .null] [(.int (1 : Int32)), (.ref a0)])) rfl rfl (hb hby d1_11)
 have Fw5 : Fld Z h5 a0 "com/example/margay/margay/index/LineCounter" "column" "I" (.int (1 : Int32)) := F4.same W5
 have R5 : CHr Z consts_1 s.vm h2 s.vm h5 := CHr.wr W5 (Safe.exa hZ.alike F3 (by decide) (by decide)) CR2.1
 have CR5 : CHr Z consts_1 s.vm h0 s.vm h5 := CR2.trans R5
 have hk5 : kc0 ≤ h5.size := Nat.le_trans hk2 (Keep.of_wr W5).1
 have K5 : Keep h0 h5 [a0] := K2.wr W5 (Or.inl (List.mem_of_getElem? (i := 0) rfl))
 have Z5 : n0 ≤ h5.size := Nat.le_trans Z2 (Keep.of_wr W5).1
 have N5 := Fr.snoc X5 N2 g_a0
 refine own_by st5 ?_
 show own_Go p e below _ (T5.setTop (mkF m 14 #[vR a0, .val .null] []))
 refine own_by (fun _ k => XS.aloadN X5.here hx rfl (hb hby d1_14) rfl rfl k) ?_
 obtain ⟨b6, T6, h6, kc6, t6, kk6, X6, e6, E6, hS, hk6, hZ, hown, A6, C6, F6, V6, lt6, ltb6, R6, Li6, -, st6⟩ := ldcCH X5 hx hZ hown (hwd 13 rfl) hwS e5 hS hk5 hEL (by decide) CR5.1 (vs := ([49, 46, 49] : List Int32).map Value.int) (z := (3 : Int32)) ⟨by decide, by decide⟩ (by decide) (by decide) (g := (mkF m 15 #[vR a0, .val .null] [(.ref a0)])) rfl (hb hby d1_15) (n := 12) (by decide) (by decide) (by decide) (by decide)
 have V6' : own_Arf Z h6 t6 kk6 .byte (3 : Int32) (fun i => .int ((own_li [49, 46, 49]) i)) := own_arfLi V6
 have CR6 : CHr Z consts_1 s.vm h0 T6.vm h6 := CR5.trans R6
 have K6 : Keep h0 h6 [a0] := K5.ext E6
 have Z6 : n0 ≤ h6.size := Nat.le_trans Z5 E6.1
 refine own_by st6 ?_
 show own_Go p e below _ (T6.setTop (mkF m 17 #[vR a0, .val .null] [(.ref b6), (.ref a0)]))
 refine own_by (fun _ k => XS.aloadN X6.here hx rfl (hb hby d1_17) rfl rfl k) ?_
 obtain ⟨cq7, kq7, qq7a, qq7b, qq7c⟩ := isOf hZ e6 A6
 obtain ⟨_, _, ⟨T7, L7, k7, n7⟩, -, X7, ⟨Lc7, hQ7, l7, y7, z7⟩, st7⟩ := X6.virtualBack hx (y := (⟨"java/lang/String", "equals", "(Ljava/lang/Object;)Z"⟩ : MethodName)) (z := (⟨"java/lang/String", "equals", "(Ljava/lang/Object;)Z"⟩ : MethodName)) hown (mvT hZ (hwd 21 rfl)) (mvT hZ (hwd 22 rfl)) (notFace_of_selects (args := #[]) (mvT hZ (hwd 24 rfl))) (mvT hZ (hwd 24 rfl)) (mvT hZ (hwd 23 rfl)) (by decide) (backOf (W := 1) (rmeqN l Z A0 hw [] b6 h6 n0 Z6 ) hZ (hwd 25 rfl) (hwd 14 rfl) (by decide) (by decide)) qq7a qq7c (g := (mkF m 18 #[vR a0, .val .null] [.null, (.ref b6), (.ref a0)])) rfl (by rw [hml]; rfl) (Steps.refl _) (argsL := [.null]) (rest := [(.ref a0)]) (lenOf pd_21 rfl) rfl (by show 2 * 0 + _ ≤ _; exact Nat.le_of_eq rfl) (hb hby d1_18) (fun _ _ => ⟨rfl, e6, (by decide : 2 + 0 ≤ _), (by decide : 16 + 0 ≤ _)⟩)
 dsimp only [Pt.U, Pt.locs, Pt.cells, Pt.slots] at X7 l7 y7 z7 st7 hQ7
 subst l7 y7 z7
 obtain ⟨rfl, Nq7, eq7⟩ := hQ7
 have N7 := Fr.app N5 Nq7
 refine own_by (fun _ k => st7.trans k) ?_
 show own_Go p e below _ (T7.setTop (mkF m 21 #[vR a0, .val .null] [(.int (0 : Int32)), (.ref a0)]))
 have F8 : Exa Z h6 a0 "com/example/margay/margay/index/LineCounter" := ((F3.wr W5).ext E6)
 have F9 : Fld Z h6 a0 "com/example/margay/margay/index/LineCounter" "xml11" "Z" (.int f_a0_xml11) := (((P_F_a0_xml11.other W2 (Or.inr (slot_ne (Or.inr (hwd 27 rfl)) (Or.inl (hwd 10 rfl)) (by decide) (t := .boolean) (t' := .int) (by decide) (by decide)))).other W5 (Or.inr (slot_ne (Or.inr (hwd 27 rfl)) (Or.inl (hwd 12 rfl)) (by decide) (t := .boolean) (t' := .int) (by decide) (by decide)))).ext E6)
 obtain ⟨T10, h10, X10, e10, W10, st10⟩ := putFN X7 hx hZ hown (hwd 26 rfl) Via.refl eq7 F9 F8 (Or.inr ⟨(hwd 27 rfl), rfl, hnm⟩) (hwd 1 rfl) (ty := .boolean) (v' := (.int (0 : Int32))) (by decide) rfl rfl (g := (mkF m 21 #[vR a0, .val .null] [(.int (0 : Int32)), (.ref a0)])) rfl rfl (hb hby d1_21)
 have Fw10 : Fld Z h10 a0 "com/example/margay/margay/index/LineCounter" "xml11" "Z" (.int (0 : Int32)) := F9.same W10
 have R10 : CHr Z consts_1 T6.vm h6 T6.vm h10 := CHr.wr W10 (Safe.exa hZ.alike F8 (by decide) (by decide)) CR6.1
 have CR10 : CHr Z consts_1 s.vm h0 T6.vm h10 := CR6.trans R10
 have hk10 : kc6 ≤ h10.size := Nat.le_trans hk6 (Keep.of_wr W10).1
 have K10 : Keep h0 h10 [a0] := K6.wr W10 (Or.inl (List.mem_of_getElem? (i := 0) rfl))
 have Z10 : n0 ≤ h10.size := Nat.le_trans Z6 (Keep.of_wr W10).1
 have N10 := Fr.snoc X10 N7 g_a0
 refine own_by st10 ?_
 show own_Go p e below _ (T10.setTop (mkF m 24 #[vR a0, .val .null] []))
 have F11 : Exa Z h10 a0 "com/example/margay/margay/index/LineCounter" := (F8.wr W10)
 have F12 : Fld Z h10 a0 "com/example/margay/margay/index/LineCounter" "line" "I" (.int (1 : Int32)) := (((Fw2.other W5 (Or.inr (slot_ne (Or.inl (hwd 10 rfl)) (Or.inl (hwd 12 rfl)) (by decide) (t := .int) (t' := .int) (by decide) (by decide)))).ext E6).other W10 (Or.inr (slot_ne (Or.inl (hwd 10 rfl)) (Or.inr (hwd 27 rfl)) (by decide) (t := .int) (t' := .boolean) (by decide) (by decide))))
 have F13 : Fld Z h10 a0 "com/example/margay/margay/index/LineCounter" "column" "I" (.int (1 : Int32)) := ((Fw5.ext E6).other W10 (Or.inr (slot_ne (Or.inl (hwd 12 rfl)) (Or.inr (hwd 27 rfl)) (by decide) (t := .int) (t' := .boolean) (by decide) (by decide))))
 exact own_ret0W X10 hx hS hk10 hZ hEL hh CR10 Bd.returns (hb hby d1_24) hlk e10 ⟨rfl, N10, K10, F11, F12, F13, Fw10⟩ (by decide) (by decide)
theorem d4_0 : decode prog_53_method_3_code 0 = .ok (.iload_n 1, 1) := by decide +kernel
theorem d4_1 : decode prog_53_method_3_code 1 = .ok (.bipush 13, 2) := by decide +kernel
theorem d4_3 : decode prog_53_method_3_code 3 = .ok (.if_icmp .eq 30, 3) := by decide +kernel
theorem d4_6 : decode prog_53_method_3_code 6 = .ok (.iload_n 1, 1) := by decide +kernel
theorem d4_7 : decode prog_53_method_3_code 7 = .ok (.bipush 10, 2) := by decide +kernel
theorem d4_9 : decode prog_53_method_3_code 9 = .ok (.if_icmp .eq 24, 3) := by decide +kernel
theorem d4_12 : decode prog_53_method_3_code 12 = .ok (.aload_n 0, 1) := by decide +kernel
theorem d4_13 : decode prog_53_method_3_code 13 = .ok (.getfield 24, 3) := by decide +kernel
theorem d4_16 : decode prog_53_method_3_code 16 = .ok (.ifCond .eq 21, 3) := by decide +kernel
theorem d4_19 : decode prog_53_method_3_code 19 = .ok (.iload_n 1, 1) := by decide +kernel
theorem d4_20 : decode prog_53_method_3_code 20 = .ok (.sipush 133, 3) := by decide +kernel
theorem d4_23 : decode prog_53_method_3_code 23 = .ok (.if_icmp .eq 10, 3) := by decide +kernel
theorem d4_26 : decode prog_53_method_3_code 26 = .ok (.iload_n 1, 1) := by decide +kernel
theorem d4_27 : decode prog_53_method_3_code 27 = .ok (.sipush 8232, 3) := by decide +kernel
theorem d4_30 : decode prog_53_method_3_code 30 = .ok (.if_icmp .ne 7, 3) := by decide +kernel
theorem d4_33 : decode prog_53_method_3_code 33 = .ok (.iconst 1, 1) := by decide +kernel
theorem d4_34 : decode prog_53_method_3_code 34 = .ok (.goto 4, 3) := by decide +kernel
theorem d4_37 : decode prog_53_method_3_code 37 = .ok (.iconst 0, 1) := by decide +kernel
theorem d4_38 : decode prog_53_method_3_code 38 = .ok (.ireturn, 1) := by decide +kernel
theorem pn_4 : plainName "com/example/margay/margay/index/LineCounter" = true := by first | (simp [plainName, overriddenIn]; done) | decide +kernel
theorem ef_4 (m : MethodId) (a0 : Addr) (p1 : Int32) : entryFrame m #[(.ref a0), (.int p1)] 2 = mkF m 0 #[vR a0, vI p1] [] := by first | (simp [entryFrame, mkF, argsToLocals, Value.category]; done) | rfl
theorem ob_4_16 (p1 : Int32) (f_a0_xml11 : Int32) (c1 : p1 = (13 : Int32)) : own_is (own_ends p1 f_a0_xml11) (1 : Int32) := by
  simp only [own_is, own_ends] at *
  have n0 : nar .boolean (0 : Int32) = 0 := rfl
  have n1 : nar .boolean (1 : Int32) = 1 := rfl
  grind
theorem ob_4_17 (p1 : Int32) (f_a0_xml11 : Int32) (c1 : ¬ (p1 = (13 : Int32))) (c2 : p1 = (10 : Int32)) : own_is (own_ends p1 f_a0_xml11) (1 : Int32) := by
  simp only [own_is, own_ends] at *
  have n0 : nar .boolean (0 : Int32) = 0 := rfl
  have n1 : nar .boolean (1 : Int32) = 1 := rfl
  grind
theorem ob_4_18 (p1 : Int32) (f_a0_xml11 : Int32) (c1 : ¬ (p1 = (13 : Int32))) (c2 : ¬ (p1 = (10 : Int32))) (c4 : f_a0_xml11 = (0 : Int32)) : own_is (own_ends p1 f_a0_xml11) (0 : Int32) := by
  simp only [own_is, own_ends] at *
  have n0 : nar .boolean (0 : Int32) = 0 := rfl
  have n1 : nar .boolean (1 : Int32) = 1 := rfl
  grind
theorem ob_4_19 (p1 : Int32) (f_a0_xml11 : Int32) (c1 : ¬ (p1 = (13 : Int32))) (c2 : ¬ (p1 = (10 : Int32))) (c4 : ¬ (f_a0_xml11 = (0 : Int32))) (c5 : p1 = (133 : Int32)) : own_is (own_ends p1 f_a0_xml11) (1 : Int32) := by
  simp only [own_is, own_ends] at *
  have n0 : nar .boolean (0 : Int32) = 0 := rfl
  have n1 : nar .boolean (1 : Int32) = 1 := rfl
  grind
theorem ob_4_20 (p1 : Int32) (f_a0_xml11 : Int32) (c1 : ¬ (p1 = (13 : Int32))) (c2 : ¬ (p1 = (10 : Int32))) (c4 : ¬ (f_a0_xml11 = (0 : Int32))) (c5 : ¬ (p1 = (133 : Int32))) (c6 : p1 = (8232 : Int32)) : own_is (own_ends p1 f_a0_xml11) (1 : Int32) := by
  simp only [own_is, own_ends] at *
  have n0 : nar .boolean (0 : Int32) = 0 := rfl
  have n1 : nar .boolean (1 : Int32) = 1 := rfl
  grind
theorem ob_4_21 (p1 : Int32) (f_a0_xml11 : Int32) (c1 : ¬ (p1 = (13 : Int32))) (c2 : ¬ (p1 = (10 : Int32))) (c4 : ¬ (f_a0_xml11 = (0 : Int32))) (c5 : ¬ (p1 = (133 : Int32))) (c6 : ¬ (p1 = (8232 : Int32))) : own_is (own_ends p1 f_a0_xml11) (0 : Int32) := by
  simp only [own_is, own_ends] at *
  have n0 : nar .boolean (0 : Int32) = 0 := rfl
  have n1 : nar .boolean (1 : Int32) = 1 := rfl
  grind
def Q4 (Z : State) (a0 : Addr) (p1 : Int32) (f_a0_xml11 : Int32) (h0 : Heap) (n0 : Nat) (v : Option Value) (h : Heap) (L : List Loc) : Prop := ∃ (zz : Int32), v = some (.int zz) ∧ Fr n0 L ∧ h = h0 ∧ (own_is (own_ends p1 f_a0_xml11) zz)
set_option maxRecDepth 65536 in
set_option maxHeartbeats 40000000 in
theorem rm4 (l : Launch) (Z : State) (A0 : Array Value) (hw : ∀ d ∈ tables_1, d.before A0 Z = true) (ws : List Jvm.Cond) (a0 : Addr) (p1 : Int32) (f_a0_xml11 : Int32) (h0 : Heap) (n0 : Nat) (Z0 : n0 ≤ h0.size) (P_F_a0_xml11 : Fld Z h0 a0 "com/example/margay/margay/index/LineCounter" "xml11" "Z" (.int f_a0_xml11)) :
    MetFree l (⟨"com/example/margay/margay/index/LineCounter", "endsLine", "(C)Z"⟩ : MethodName) (head1 (Jvm.Cond.code (⟨"com/example/margay/margay/index/LineCounter", "endsLine", "(C)Z"⟩ : MethodName) prog_53_method_3_code 2 (some .boolean) :: ws) ({ frames := 0, cells := 0, slots := 0, locals := 0 } : Room)) (fun a U => a = #[(.ref a0), (.int p1)] ∧ Z.Warmed39 U.vm ∧ U.heap = h0) (fun _ _ _ _ _ => True) (fun _ U o U' => ∃ v L, o = .returned v ∧ Q4 Z a0 p1 f_a0_xml11 h0 n0 v U'.heap L ∧ FrameEnd U o U' L 0 0) := by
 refine MetFree.of_bodySF (plainFor_of_name pn_4) hisR ?_
 intro p e s m args below meth c s₁ Bd hml0 hP hK
 obtain ⟨rfl, hZ, hh⟩ := hP
 have hwd := fun i {d : Jvm.Cond} (h : tables_1[i]? = some d) => hw d (List.mem_of_getElem? h)
 have hx := Bd.exec
 have hby := Bd.bytes
 have hml : c.maxLocals = 2 := hml0
 have hlk : meth.locks = false := Bd.notSynchronized
 have hown : s.vm.findClass "com/example/margay/margay/index/LineCounter" = some m.cls := findClass_of_methodNamed Bd.named
 have hnm := (name_of_methodNamed Bd.named Bd.method).1
 have X0 : Stand p l e ({ frames := 0, cells := 0, slots := 0, locals := 0 } : Room) s m #[(.ref a0), (.int p1)] below meth c s₁ [] 0 0 := Stand.of_body Bd
 have e0 : s₁.heap = h0 := by rw [← hh, Bd.state]; rfl
 have N0 := Fr.nil n0
 show own_Go p e below (own_Fin s 0 0 (Q4 Z a0 p1 f_a0_xml11 h0 n0)) _
 refine own_by (fun t k => castTop (ef_4 m a0 p1) k) ?_
 show own_Go p e below _ (s₁.setTop (mkF m 0 #[vR a0, vI p1] []))
 refine own_by (fun _ k => XS.iloadN X0.here hx rfl (hb hby d4_0) rfl k) ?_
 refine own_by (fun _ k => XS.bipush X0.here hx rfl (hb hby d4_1) k) ?_
 by_cases c1 : p1 = (13 : Int32)
 ·skip
  refine own_by (fun _ k => XS.icmpYes X0.here hx rfl (pc0 := 3) (pc' := 33) rfl (hb hby d4_3) rfl (teq c1).1 (by decide) (by decide) k) ?_
  show own_Go p e below _ (s₁.setTop (mkF m 33 #[vR a0, vI p1] []))
  refine own_by (fun _ k => XS.iconst X0.here hx rfl (hb hby d4_33) k) ?_
  refine own_by (fun _ k => XS.goto X0.here hx rfl (pc0 := 34) (pc' := 38) rfl (hb hby d4_34) (by decide) (by decide) k) ?_
  show own_Go p e below _ (s₁.setTop (mkF m 38 #[vR a0, vI p1] [(.int (1 : Int32))]))
  exact own_retN X0 hx (t := .boolean) Bd.returns (by simp) (hb hby d4_38) hlk e0 ⟨_, rfl, N0, rfl, (ob_4_16 p1 f_a0_xml11 c1)⟩ (by decide) (by decide)
 ·skip
  refine own_by (fun _ k => XS.icmpNo X0.here hx rfl (hb hby d4_3) rfl (feq c1).1 k) ?_
  show own_Go p e below _ (s₁.setTop (mkF m 6 #[vR a0, vI p1] []))
  refine own_by (fun _ k => XS.iloadN X0.here hx rfl (hb hby d4_6) rfl k) ?_
  refine own_by (fun _ k => XS.bipush X0.here hx rfl (hb hby d4_7) k) ?_
  by_cases c2 : p1 = (10 : Int32)
  ·skip
   refine own_by (fun _ k => XS.icmpYes X0.here hx rfl (pc0 := 9) (pc' := 33) rfl (hb hby d4_9) rfl (teq c2).1 (by decide) (by decide) k) ?_
   show own_Go p e below _ (s₁.setTop (mkF m 33 #[vR a0, vI p1] []))
   refine own_by (fun _ k => XS.iconst X0.here hx rfl (hb hby d4_33) k) ?_
   refine own_by (fun _ k => XS.goto X0.here hx rfl (pc0 := 34) (pc' := 38) rfl (hb hby d4_34) (by decide) (by decide) k) ?_
   show own_Go p e below _ (s₁.setTop (mkF m 38 #[vR a0, vI p1] [(.int (1 : Int32))]))
   exact own_retN X0 hx (t := .boolean) Bd.returns (by simp) (hb hby d4_38) hlk e0 ⟨_, rfl, N0, rfl, (ob_4_17 p1 f_a0_xml11 c1 c2)⟩ (by decide) (by decide)
  ·skip
   refine own_by (fun _ k => XS.icmpNo X0.here hx rfl (hb hby d4_9) rfl (feq c2).1 k) ?_
   show own_Go p e below _ (s₁.setTop (mkF m 12 #[vR a0, vI p1] []))
   refine own_by (fun _ k => XS.aloadN X0.here hx rfl (hb hby d4_12) rfl rfl k) ?_
   obtain ⟨T3, X3, e3, st3⟩ := getF X0 hx hZ hown (host := "") (Or.inl (hwd 26 rfl)) Via.refl e0 P_F_a0_xml11 (g := (mkF m 13 #[vR a0, vI p1] [(.ref a0)])) rfl rfl (hb hby d4_13)
   refine own_by st3 ?_
   show own_Go p e below _ (T3.setTop (mkF m 16 #[vR a0, vI p1] [(.int f_a0_xml11)]))
   by_cases c4 : f_a0_xml11 = (0 : Int32)
   ·skip
    refine own_by (fun _ k => XS.ifYes X3.here hx rfl (pc0 := 16) (pc' := 37) rfl (hb hby d4_16) rfl ((if0 _ _).trans (teq c4).1) (by decide) (by decide) k) ?_
    show own_Go p e below _ (T3.setTop (mkF m 37 #[vR a0, vI p1] []))
    refine own_by (fun _ k => XS.iconst X3.here hx rfl (hb hby d4_37) k) ?_
    exact own_retN X3 hx (t := .boolean) Bd.returns (by simp) (hb hby d4_38) hlk e3 ⟨_, rfl, N0, rfl, (ob_4_18 p1 f_a0_xml11 c1 c2 c4)⟩ (by decide) (by decide)
   ·skip
    refine own_by (fun _ k => XS.ifNo X3.here hx rfl (hb hby d4_16) rfl ((if0 _ _).trans (feq c4).1) k) ?_
    show own_Go p e below _ (T3.setTop (mkF m 19 #[vR a0, vI p1] []))
    refine own_by (fun _ k => XS.iloadN X3.here hx rfl (hb hby d4_19) rfl k) ?_
    refine own_by (fun _ k => XS.sipush X3.here hx rfl (hb hby d4_20) k) ?_
    by_cases c5 : p1 = (133 : Int32)
    ·skip
     refine own_by (fun _ k => XS.icmpYes X3.here hx rfl (pc0 := 23) (pc' := 33) rfl (hb hby d4_23) rfl (teq c5).1 (by decide) (by decide) k) ?_
     show own_Go p e below _ (T3.setTop (mkF m 33 #[vR a0, vI p1] []))
     refine own_by (fun _ k => XS.iconst X3.here hx rfl (hb hby d4_33) k) ?_
     refine own_by (fun _ k => XS.goto X3.here hx rfl (pc0 := 34) (pc' := 38) rfl (hb hby d4_34) (by decide) (by decide) k) ?_
     show own_Go p e below _ (T3.setTop (mkF m 38 #[vR a0, vI p1] [(.int (1 : Int32))]))
     exact own_retN X3 hx (t := .boolean) Bd.returns (by simp) (hb hby d4_38) hlk e3 ⟨_, rfl, N0, rfl, (ob_4_19 p1 f_a0_xml11 c1 c2 c4 c5)⟩ (by decide) (by decide)
    ·skip
     refine own_by (fun _ k => XS.icmpNo X3.here hx rfl (hb hby d4_23) rfl (feq c5).1 k) ?_
     show own_Go p e below _ (T3.setTop (mkF m 26 #[vR a0, vI p1] []))
     refine own_by (fun _ k => XS.iloadN X3.here hx rfl (hb hby d4_26) rfl k) ?_
     refine own_by (fun _ k => XS.sipush X3.here hx rfl (hb hby d4_27) k) ?_
     by_cases c6 : p1 = (8232 : Int32)
     ·skip
      refine own_by (fun _ k => XS.icmpNo X3.here hx rfl (hb hby d4_30) rfl (teq c6).2 k) ?_
      show own_Go p e below _ (T3.setTop (mkF m 33 #[vR a0, vI p1] []))
      refine own_by (fun _ k => XS.iconst X3.here hx rfl (hb hby d4_33) k) ?_
      refine own_by (fun _ k => XS.goto X3.here hx rfl (pc0 := 34) (pc' := 38) rfl (hb hby d4_34) (by decide) (by decide) k) ?_
      show own_Go p e below _ (T3.setTop (mkF m 38 #[vR a0, vI p1] [(.int (1 : Int32))]))
      exact own_retN X3 hx (t := .boolean) Bd.returns (by simp) (hb hby d4_38) hlk e3 ⟨_, rfl, N0, rfl, (ob_4_20 p1 f_a0_xml11 c1 c2 c4 c5 c6)⟩ (by decide) (by decide)
     ·skip
      refine own_by (fun _ k => XS.icmpYes X3.here hx rfl (pc0 := 30) (pc' := 37) rfl (hb hby d4_30) rfl (feq c6).2 (by decide) (by decide) k) ?_
      show own_Go p e below _ (T3.setTop (mkF m 37 #[vR a0, vI p1] []))
      refine own_by (fun _ k => XS.iconst X3.here hx rfl (hb hby d4_37) k) ?_
      exact own_retN X3 hx (t := .boolean) Bd.returns (by simp) (hb hby d4_38) hlk e3 ⟨_, rfl, N0, rfl, (ob_4_21 p1 f_a0_xml11 c1 c2 c4 c5 c6)⟩ (by decide) (by decide)
theorem d5_0 : decode method_2_code 0 = .ok (.lload_n 0, 1) := by decide +kernel
theorem d5_1 : decode method_2_code 1 = .ok (.iload_n 2, 1) := by decide +kernel
theorem d5_2 : decode method_2_code 2 = .ok (.lushr, 1) := by decide +kernel
theorem d5_3 : decode method_2_code 3 = .ok (.ldc2_w 7, 3) := by decide +kernel
theorem d5_6 : decode method_2_code 6 = .ok (.land, 1) := by decide +kernel
theorem d5_7 : decode method_2_code 7 = .ok (.l2i, 1) := by decide +kernel
theorem d5_8 : decode method_2_code 8 = .ok (.i2c, 1) := by decide +kernel
theorem d5_9 : decode method_2_code 9 = .ok (.ireturn, 1) := by decide +kernel
theorem pn_ch : plainName "com/example/margay/margay/index/LineCounterEndsLinePinLaw" = true := by first | (simp [plainName, overriddenIn]; done) | decide +kernel
theorem ef_ch (m : MethodId) (q0 : Int64) (p1 : Int32) : entryFrame m #[(.long q0), (.int p1)] 3 = mkF m 0 #[vJ q0, .second, vI p1] [] := by first | (simp [entryFrame, mkF, argsToLocals, Value.category]; done) | rfl
theorem ob_ch_22 (q0 : Int64) (p1 : Int32) : own_c8 (nar .char (((((q0.toUInt64 >>> (p1 &&& 0x3f).toInt64.toUInt64).toInt64) &&& (255 : Int64)).toInt32).toUInt32.toUInt16.toUInt32.toInt32)) := by
  exact own_chL _
def Qch (Z : State) (q0 : Int64) (p1 : Int32) (h0 : Heap) (n0 : Nat) (v : Option Value) (h : Heap) (L : List Loc) : Prop := ∃ (zz : Int32), v = some (.int zz) ∧ Fr n0 L ∧ h = h0 ∧ (own_c8 zz)
set_option maxRecDepth 65536 in
set_option maxHeartbeats 40000000 in
theorem rmch (l : Launch) (Z : State) (A0 : Array Value) (hw : ∀ d ∈ tables_1, d.before A0 Z = true) (ws : List Jvm.Cond) (q0 : Int64) (p1 : Int32) (h0 : Heap) (n0 : Nat) (Z0 : n0 ≤ h0.size) :
    MetFree l (⟨"com/example/margay/margay/index/LineCounterEndsLinePinLaw", "ch", "(JI)C"⟩ : MethodName) (head1 (Jvm.Cond.code (⟨"com/example/margay/margay/index/LineCounterEndsLinePinLaw", "ch", "(JI)C"⟩ : MethodName) method_2_code 3 (some .char) :: ws) ({ frames := 0, cells := 0, slots := 0, locals := 0 } : Room)) (fun a U => a = #[(.long q0), (.int p1)] ∧ Z.Warmed39 U.vm ∧ U.heap = h0) (fun _ _ _ _ _ => True) (fun _ U o U' => ∃ v L, o = .returned v ∧ Qch Z q0 p1 h0 n0 v U'.heap L ∧ FrameEnd U o U' L 0 0) := by
 refine MetFree.of_bodySF (plainFor_of_name pn_ch) hisR ?_
 intro p e s m args below meth c s₁ Bd hml0 hP hK
 obtain ⟨rfl, hZ, hh⟩ := hP
 have hwd := fun i {d : Jvm.Cond} (h : tables_1[i]? = some d) => hw d (List.mem_of_getElem? h)
 have hx := Bd.exec
 have hby := Bd.bytes
 have hml : c.maxLocals = 3 := hml0
 have hlk : meth.locks = false := Bd.notSynchronized
 have hown : s.vm.findClass "com/example/margay/margay/index/LineCounterEndsLinePinLaw" = some m.cls := findClass_of_methodNamed Bd.named
 have hnm := (name_of_methodNamed Bd.named Bd.method).1
 have X0 : Stand p l e ({ frames := 0, cells := 0, slots := 0, locals := 0 } : Room) s m #[(.long q0), (.int p1)] below meth c s₁ [] 0 0 := Stand.of_body Bd
 have e0 : s₁.heap = h0 := by rw [← hh, Bd.state]; rfl
 have N0 := Fr.nil n0
 show own_Go p e below (own_Fin s 0 0 (Qch Z q0 p1 h0 n0)) _
 refine own_by (fun t k => castTop (ef_ch m q0 p1) k) ?_
 show own_Go p e below _ (s₁.setTop (mkF m 0 #[vJ q0, .second, vI p1] []))
 refine own_by (fun _ k => XS.lloadN X0.here hx rfl (hb hby d5_0) rfl k) ?_
 refine own_by (fun _ k => XS.iloadN X0.here hx rfl (hb hby d5_1) rfl k) ?_
 refine own_by (fun _ k => XS.lushr X0.here hx rfl (hb hby d5_2) rfl k) ?_
 show own_Go p e below _ (s₁.setTop (mkF m 3 #[vJ q0, .second, vI p1] [(.long ((q0.toUInt64 >>> (p1 &&& 0x3f).toInt64.toUInt64).toInt64))]))
 refine own_by (fun t k => X0.ldc2Long hx hown (mvT hZ (hwd 38 rfl)) (g := (mkF m 3 #[vJ q0, .second, vI p1] [(.long ((q0.toUInt64 >>> (p1 &&& 0x3f).toInt64.toUInt64).toInt64))])) rfl (hb hby d5_3) _ k) ?_
 show own_Go p e below _ (s₁.setTop (mkF m 6 #[vJ q0, .second, vI p1] [(.long (255 : Int64)), (.long ((q0.toUInt64 >>> (p1 &&& 0x3f).toInt64.toUInt64).toInt64))]))
 refine own_by (fun _ k => XS.land X0.here hx rfl (hb hby d5_6) rfl k) ?_
 show own_Go p e below _ (s₁.setTop (mkF m 7 #[vJ q0, .second, vI p1] [(.long (((q0.toUInt64 >>> (p1 &&& 0x3f).toInt64.toUInt64).toInt64) &&& (255 : Int64)))]))
 refine own_by (fun _ k => XS.l2i X0.here hx rfl (hb hby d5_7) rfl k) ?_
 show own_Go p e below _ (s₁.setTop (mkF m 8 #[vJ q0, .second, vI p1] [(.int ((((q0.toUInt64 >>> (p1 &&& 0x3f).toInt64.toUInt64).toInt64) &&& (255 : Int64)).toInt32))]))
 refine own_by (fun _ k => XS.i2c X0.here hx rfl (hb hby d5_8) rfl k) ?_
 show own_Go p e below _ (s₁.setTop (mkF m 9 #[vJ q0, .second, vI p1] [(.int (((((q0.toUInt64 >>> (p1 &&& 0x3f).toInt64.toUInt64).toInt64) &&& (255 : Int64)).toInt32).toUInt32.toUInt16.toUInt32.toInt32))]))
 exact own_retN X0 hx (t := .char) Bd.returns (by simp) (hb hby d5_9) hlk e0 ⟨_, rfl, N0, rfl, (ob_ch_22 q0 p1)⟩ (by decide) (by decide)
theorem d12_0 : decode jdk_42_method_152_code 0 = .ok (.getstatic 38, 3) := by decide +kernel
theorem d12_3 : decode jdk_42_method_152_code 3 = .ok (.ifCond .eq 10, 3) := by decide +kernel
theorem d12_6 : decode jdk_42_method_152_code 6 = .ok (.aload_n 0, 1) := by decide +kernel
theorem d12_7 : decode jdk_42_method_152_code 7 = .ok (.getfield 15, 3) := by decide +kernel
theorem d12_10 : decode jdk_42_method_152_code 10 = .ok (.goto 4, 3) := by decide +kernel
theorem d12_14 : decode jdk_42_method_152_code 14 = .ok (.ireturn, 1) := by decide +kernel
theorem pn_coder : plainName "java/lang/String" = true := by first | (simp [plainName, overriddenIn]; done) | decide +kernel
theorem ef_coder (m : MethodId) (a0 : Addr) : entryFrame m #[(.ref a0)] 1 = mkF m 0 #[vR a0] [] := by first | (simp [entryFrame, mkF, argsToLocals, Value.category]; done) | rfl
def Qcoder (Z : State) (f_CS : Int32) (a0 : Addr) (h0 : Heap) (n0 : Nat) (v : Option Value) (h : Heap) (L : List Loc) : Prop := v = some (.int (nar .byte (0 : Int32))) ∧ Fr n0 L ∧ h = h0
set_option maxRecDepth 65536 in
set_option maxHeartbeats 40000000 in
theorem rmcoder (l : Launch) (Z : State) (A0 : Array Value) (hw : ∀ d ∈ tables_1, d.before A0 Z = true) (ws : List Jvm.Cond) (f_CS : Int32) (a0 : Addr) (h0 : Heap) (n0 : Nat) (Z0 : n0 ≤ h0.size) (P_E_a0 : Exa Z h0 a0 "java/lang/String") (P_F_a0_coder : Fld Z h0 a0 "java/lang/String" "coder" "B" (.int (0 : Int32))) (P_S_CS : Sta Z h0 "java/lang/String" "COMPACT_STRINGS" "Z" (.int f_CS)) (hn_CS : ¬ (f_CS = (0 : Int32))) :
    MetFree l (⟨"java/lang/String", "coder", "()B"⟩ : MethodName) (head1 (Jvm.Cond.code (⟨"java/lang/String", "coder", "()B"⟩ : MethodName) jdk_42_method_152_code 1 (some .byte) :: ws) ({ frames := 0, cells := 0, slots := 0, locals := 0 } : Room)) (fun a U => a = #[(.ref a0)] ∧ Z.Warmed39 U.vm ∧ U.heap = h0) (fun _ _ _ _ _ => True) (fun _ U o U' => ∃ v L, o = .returned v ∧ Qcoder Z f_CS a0 h0 n0 v U'.heap L ∧ FrameEnd U o U' L 0 0) := by
 refine MetFree.of_bodySF (plainFor_of_name pn_coder) hisR ?_
 intro p e s m args below meth c s₁ Bd hml0 hP hK
 obtain ⟨rfl, hZ, hh⟩ := hP
 have hwd := fun i {d : Jvm.Cond} (h : tables_1[i]? = some d) => hw d (List.mem_of_getElem? h)
 have hx := Bd.exec
 have hby := Bd.bytes
 have hml : c.maxLocals = 1 := hml0
 have hlk : meth.locks = false := Bd.notSynchronized
 have hown : s.vm.findClass "java/lang/String" = some m.cls := findClass_of_methodNamed Bd.named
 have hnm := (name_of_methodNamed Bd.named Bd.method).1
 have X0 : Stand p l e ({ frames := 0, cells := 0, slots := 0, locals := 0 } : Room) s m #[(.ref a0)] below meth c s₁ [] 0 0 := Stand.of_body Bd
 have e0 : s₁.heap = h0 := by rw [← hh, Bd.state]; rfl
 have N0 := Fr.nil n0
 show own_Go p e below (own_Fin s 0 0 (Qcoder Z f_CS a0 h0 n0)) _
 refine own_by (fun t k => castTop (ef_coder m a0) k) ?_
 show own_Go p e below _ (s₁.setTop (mkF m 0 #[vR a0] []))
 obtain ⟨T1, X1, e1, st1⟩ := getS2 X0 hx hZ hown (host := "") (Or.inl (hwd 48 rfl)) Via.refl e0 P_S_CS (g := (mkF m 0 #[vR a0] [])) rfl (hb hby d12_0)
 refine own_by st1 ?_
 show own_Go p e below _ (T1.setTop (mkF m 3 #[vR a0] [(.int f_CS)]))
 refine own_by (fun _ k => XS.ifNo X1.here hx rfl (hb hby d12_3) rfl ((if0 _ _).trans (feq hn_CS).1) k) ?_
 show own_Go p e below _ (T1.setTop (mkF m 6 #[vR a0] []))
 refine own_by (fun _ k => XS.aloadN X1.here hx rfl (hb hby d12_6) rfl rfl k) ?_
 obtain ⟨T2, X2, e2, st2⟩ := getF X1 hx hZ hown (host := "") (Or.inl (hwd 59 rfl)) Via.refl e1 P_F_a0_coder (g := (mkF m 7 #[vR a0] [(.ref a0)])) rfl rfl (hb hby d12_7)
 refine own_by st2 ?_
 show own_Go p e below _ (T2.setTop (mkF m 10 #[vR a0] [(.int (0 : Int32))]))
 refine own_by (fun _ k => XS.goto X2.here hx rfl (pc0 := 10) (pc' := 14) rfl (hb hby d12_10) (by decide) (by decide) k) ?_
 show own_Go p e below _ (T2.setTop (mkF m 14 #[vR a0] [(.int (0 : Int32))]))
 exact own_retN X2 hx (t := .byte) Bd.returns (by simp) (hb hby d12_14) hlk e2 ⟨rfl, N0, rfl⟩ (by decide) (by decide)
theorem d15_0 : decode jdk_42_method_154_code 0 = .ok (.getstatic 38, 3) := by decide +kernel
theorem d15_3 : decode jdk_42_method_154_code 3 = .ok (.ifCond .eq 14, 3) := by decide +kernel
theorem d15_6 : decode jdk_42_method_154_code 6 = .ok (.aload_n 0, 1) := by decide +kernel
theorem d15_7 : decode jdk_42_method_154_code 7 = .ok (.getfield 15, 3) := by decide +kernel
theorem d15_10 : decode jdk_42_method_154_code 10 = .ok (.ifCond .ne 7, 3) := by decide +kernel
theorem d15_13 : decode jdk_42_method_154_code 13 = .ok (.iconst 1, 1) := by decide +kernel
theorem d15_14 : decode jdk_42_method_154_code 14 = .ok (.goto 4, 3) := by decide +kernel
theorem d15_18 : decode jdk_42_method_154_code 18 = .ok (.ireturn, 1) := by decide +kernel
theorem pn_isl : plainName "java/lang/String" = true := by first | (simp [plainName, overriddenIn]; done) | decide +kernel
theorem ef_isl (m : MethodId) (a0 : Addr) : entryFrame m #[(.ref a0)] 1 = mkF m 0 #[vR a0] [] := by first | (simp [entryFrame, mkF, argsToLocals, Value.category]; done) | rfl
def Qisl (Z : State) (f_CS : Int32) (a0 : Addr) (h0 : Heap) (n0 : Nat) (v : Option Value) (h : Heap) (L : List Loc) : Prop := v = some (.int (1 : Int32)) ∧ Fr n0 L ∧ h = h0
set_option maxRecDepth 65536 in
set_option maxHeartbeats 40000000 in
theorem rmisl (l : Launch) (Z : State) (A0 : Array Value) (hw : ∀ d ∈ tables_1, d.before A0 Z = true) (ws : List Jvm.Cond) (f_CS : Int32) (a0 : Addr) (h0 : Heap) (n0 : Nat) (Z0 : n0 ≤ h0.size) (P_E_a0 : Exa Z h0 a0 "java/lang/String") (P_F_a0_coder : Fld Z h0 a0 "java/lang/String" "coder" "B" (.int (0 : Int32))) (P_S_CS : Sta Z h0 "java/lang/String" "COMPACT_STRINGS" "Z" (.int f_CS)) (hn_CS : ¬ (f_CS = (0 : Int32))) :
    MetFree l (⟨"java/lang/String", "isLatin1", "()Z"⟩ : MethodName) (head1 (Jvm.Cond.code (⟨"java/lang/String", "isLatin1", "()Z"⟩ : MethodName) jdk_42_method_154_code 1 (some .boolean) :: ws) ({ frames := 0, cells := 0, slots := 0, locals := 0 } : Room)) (fun a U => a = #[(.ref a0)] ∧ Z.Warmed39 U.vm ∧ U.heap = h0) (fun _ _ _ _ _ => True) (fun _ U o U' => ∃ v L, o = .returned v ∧ Qisl Z f_CS a0 h0 n0 v U'.heap L ∧ FrameEnd U o U' L 0 0) := by
 refine MetFree.of_bodySF (plainFor_of_name pn_isl) hisR ?_
 intro p e s m args below meth c s₁ Bd hml0 hP hK
 obtain ⟨rfl, hZ, hh⟩ := hP
 have hwd := fun i {d : Jvm.Cond} (h : tables_1[i]? = some d) => hw d (List.mem_of_getElem? h)
 have hx := Bd.exec
 have hby := Bd.bytes
 have hml : c.maxLocals = 1 := hml0
 have hlk : meth.locks = false := Bd.notSynchronized
 have hown : s.vm.findClass "java/lang/String" = some m.cls := findClass_of_methodNamed Bd.named
 have hnm := (name_of_methodNamed Bd.named Bd.method).1
 have X0 : Stand p l e ({ frames := 0, cells := 0, slots := 0, locals := 0 } : Room) s m #[(.ref a0)] below meth c s₁ [] 0 0 := Stand.of_body Bd
 have e0 : s₁.heap = h0 := by rw [← hh, Bd.state]; rfl
 have N0 := Fr.nil n0
 show own_Go p e below (own_Fin s 0 0 (Qisl Z f_CS a0 h0 n0)) _
 refine own_by (fun t k => castTop (ef_isl m a0) k) ?_
 show own_Go p e below _ (s₁.setTop (mkF m 0 #[vR a0] []))
 obtain ⟨T1, X1, e1, st1⟩ := getS2 X0 hx hZ hown (host := "") (Or.inl (hwd 48 rfl)) Via.refl e0 P_S_CS (g := (mkF m 0 #[vR a0] [])) rfl (hb hby d15_0)
 refine own_by st1 ?_
 show own_Go p e below _ (T1.setTop (mkF m 3 #[vR a0] [(.int f_CS)]))
 refine own_by (fun _ k => XS.ifNo X1.here hx rfl (hb hby d15_3) rfl ((if0 _ _).trans (feq hn_CS).1) k) ?_
 show own_Go p e below _ (T1.setTop (mkF m 6 #[vR a0] []))
 refine own_by (fun _ k => XS.aloadN X1.here hx rfl (hb hby d15_6) rfl rfl k) ?_
 obtain ⟨T2, X2, e2, st2⟩ := getF X1 hx hZ hown (host := "") (Or.inl (hwd 59 rfl)) Via.refl e1 P_F_a0_coder (g := (mkF m 7 #[vR a0] [(.ref a0)])) rfl rfl (hb hby d15_7)
 refine own_by st2 ?_
 show own_Go p e below _ (T2.setTop (mkF m 10 #[vR a0] [(.int (0 : Int32))]))
 refine own_by (fun _ k => XS.ifNo X2.here hx rfl (hb hby d15_10) rfl ((if0 _ _).trans (teq (by decide : (0 : Int32) = (0 : Int32))).2) k) ?_
 show own_Go p e below _ (T2.setTop (mkF m 13 #[vR a0] []))
 refine own_by (fun _ k => XS.iconst X2.here hx rfl (hb hby d15_13) k) ?_
 refine own_by (fun _ k => XS.goto X2.here hx rfl (pc0 := 14) (pc' := 18) rfl (hb hby d15_14) (by decide) (by decide) k) ?_
 show own_Go p e below _ (T2.setTop (mkF m 18 #[vR a0] [(.int (1 : Int32))]))
 exact own_retN X2 hx (t := .boolean) Bd.returns (by simp) (hb hby d15_18) hlk e2 ⟨rfl, N0, rfl⟩ (by decide) (by decide)
theorem pd_66 : parseMethodDescriptor "()B" = some ⟨[], some .byte⟩ := by decide +kernel
theorem d11_0 : decode jdk_42_method_54_code 0 = .ok (.aload_n 0, 1) := by decide +kernel
theorem d11_1 : decode jdk_42_method_54_code 1 = .ok (.getfield 9, 3) := by decide +kernel
theorem d11_4 : decode jdk_42_method_54_code 4 = .ok (.arraylength, 1) := by decide +kernel
theorem d11_5 : decode jdk_42_method_54_code 5 = .ok (.aload_n 0, 1) := by decide +kernel
theorem d11_6 : decode jdk_42_method_54_code 6 = .ok (.invokevirtual 335, 3) := by decide +kernel
theorem d11_9 : decode jdk_42_method_54_code 9 = .ok (.ishr, 1) := by decide +kernel
theorem d11_10 : decode jdk_42_method_54_code 10 = .ok (.ireturn, 1) := by decide +kernel
theorem pn_len0 : plainName "java/lang/String" = true := by first | (simp [plainName, overriddenIn]; done) | decide +kernel
theorem ef_len0 (m : MethodId) (a0 : Addr) : entryFrame m #[(.ref a0)] 1 = mkF m 0 #[vR a0] [] := by first | (simp [entryFrame, mkF, argsToLocals, Value.category]; done) | rfl
def Qlen0 (Z : State) (t_a0 : Addr) (k_t_a0 : ClassId) (fn_t_a0 : Nat → Int32) (f_CS : Int32) (a0 : Addr) (h0 : Heap) (n0 : Nat) (v : Option Value) (h : Heap) (L : List Loc) : Prop := v = some (.int (0 : Int32)) ∧ Fr n0 L ∧ h = h0
set_option maxRecDepth 65536 in
set_option maxHeartbeats 40000000 in
theorem rmlen0 (l : Launch) (Z : State) (A0 : Array Value) (hw : ∀ d ∈ tables_1, d.before A0 Z = true) (ws : List Jvm.Cond) (t_a0 : Addr) (k_t_a0 : ClassId) (fn_t_a0 : Nat → Int32) (f_CS : Int32) (a0 : Addr) (h0 : Heap) (n0 : Nat) (Z0 : n0 ≤ h0.size) (P_E_a0 : Exa Z h0 a0 "java/lang/String") (P_F_a0_coder : Fld Z h0 a0 "java/lang/String" "coder" "B" (.int (0 : Int32))) (P_F_a0_value : Fld Z h0 a0 "java/lang/String" "value" "[B" (.ref t_a0)) (P_V_t_a0 : own_Arf Z h0 t_a0 k_t_a0 .byte (0 : Int32) (fun i => .int (fn_t_a0 i))) (P_S_CS : Sta Z h0 "java/lang/String" "COMPACT_STRINGS" "Z" (.int f_CS)) (hn_CS : ¬ (f_CS = (0 : Int32))) :
    MetFree l (⟨"java/lang/String", "length", "()I"⟩ : MethodName) (head1 (Jvm.Cond.code (⟨"java/lang/String", "length", "()I"⟩ : MethodName) jdk_42_method_54_code 1 (some .int) :: ws) ({ frames := 1, cells := 0, slots := 0, locals := 13 } : Room)) (fun a U => a = #[(.ref a0)] ∧ Z.Warmed39 U.vm ∧ U.heap = h0) (fun _ _ _ _ _ => True) (fun _ U o U' => ∃ v L, o = .returned v ∧ Qlen0 Z t_a0 k_t_a0 fn_t_a0 f_CS a0 h0 n0 v U'.heap L ∧ FrameEnd U o U' L 0 0) := by
 refine MetFree.of_bodySF (plainFor_of_name pn_len0) hisR ?_
 intro p e s m args below meth c s₁ Bd hml0 hP hK
 obtain ⟨rfl, hZ, hh⟩ := hP
 have hwd := fun i {d : Jvm.Cond} (h : tables_1[i]? = some d) => hw d (List.mem_of_getElem? h)
 have hx := Bd.exec
 have hby := Bd.bytes
 have hml : c.maxLocals = 1 := hml0
 have hlk : meth.locks = false := Bd.notSynchronized
 have hown : s.vm.findClass "java/lang/String" = some m.cls := findClass_of_methodNamed Bd.named
 have hnm := (name_of_methodNamed Bd.named Bd.method).1
 have X0 : Stand p l e ({ frames := 1, cells := 0, slots := 0, locals := 13 } : Room) s m #[(.ref a0)] below meth c s₁ [] 0 0 := Stand.of_body Bd
 have e0 : s₁.heap = h0 := by rw [← hh, Bd.state]; rfl
 have N0 := Fr.nil n0
 show own_Go p e below (own_Fin s 0 0 (Qlen0 Z t_a0 k_t_a0 fn_t_a0 f_CS a0 h0 n0)) _
 refine own_by (fun t k => castTop (ef_len0 m a0) k) ?_
 show own_Go p e below _ (s₁.setTop (mkF m 0 #[vR a0] []))
 refine own_by (fun _ k => XS.aloadN X0.here hx rfl (hb hby d11_0) rfl rfl k) ?_
 obtain ⟨T1, X1, e1, st1⟩ := getF X0 hx hZ hown (host := "") (Or.inl (hwd 60 rfl)) Via.refl e0 P_F_a0_value (g := (mkF m 1 #[vR a0] [(.ref a0)])) rfl rfl (hb hby d11_1)
 refine own_by st1 ?_
 show own_Go p e below _ (T1.setTop (mkF m 4 #[vR a0] [(.ref t_a0)]))
 obtain ⟨cl2, Ar2, qq2, S2, M2, H2, G2⟩ := id P_V_t_a0
 refine own_by (fun t k => X1.arraylength hx (by rw [e1]; exact Ar2.1) (State.isArrayOf_alike hZ.alike Ar2.2.1) (g := (mkF m 4 #[vR a0] [(.ref t_a0)])) rfl rfl (hb hby d11_4) _ k) ?_
 rw [len_of S2 M2]
 show own_Go p e below _ (T1.setTop (mkF m 5 #[vR a0] [(.int (0 : Int32))]))
 refine own_by (fun _ k => XS.aloadN X1.here hx rfl (hb hby d11_5) rfl rfl k) ?_
 obtain ⟨cq3, kq3, qq3a, qq3b, qq3c⟩ := isOf hZ e1 P_E_a0
 obtain ⟨_, _, ⟨T3, L3, k3, n3⟩, -, X3, ⟨Lc3, hQ3, l3, y3, z3⟩, st3⟩ := X1.virtualBack hx (y := (⟨"java/lang/String", "coder", "()B"⟩ : MethodName)) (z := (⟨"java/lang/String", "coder", "()B"⟩ : MethodName)) hown (mvT hZ (hwd 66 rfl)) (mvT hZ (hwd 67 rfl)) (notFace_of_selects (args := #[]) (mvT hZ (hwd 69 rfl))) (mvT hZ (hwd 69 rfl)) (mvT hZ (hwd 68 rfl)) (by decide) (backOf (W := 1) (rmcoder l Z A0 hw [] f_CS a0 h0 n0 Z0 P_E_a0 P_F_a0_coder P_S_CS hn_CS) hZ (hwd 70 rfl) (hwd 14 rfl) (by decide) (by decide)) qq3a qq3c (g := (mkF m 6 #[vR a0] [(.ref a0), (.int (0 : Int32))])) rfl (by rw [hml]; rfl) (Steps.refl _) (argsL := []) (rest := [(.int (0 : Int32))]) (lenOf pd_66 rfl) rfl (by show 2 * 0 + _ ≤ _; exact Nat.le_of_eq rfl) (hb hby d11_6) (fun _ _ => ⟨rfl, e1, (by decide : 0 + 0 ≤ _), (by decide : 0 + 0 ≤ _)⟩)
 dsimp only [Pt.U, Pt.locs, Pt.cells, Pt.slots] at X3 l3 y3 z3 st3 hQ3
 subst l3 y3 z3
 obtain ⟨rfl, Nq3, eq3⟩ := hQ3
 have N3 := Fr.app N0 Nq3
 refine own_by (fun _ k => st3.trans k) ?_
 show own_Go p e below _ (T3.setTop (mkF m 9 #[vR a0] [(.int (0 : Int32)), (.int (0 : Int32))]))
 refine own_by (fun _ k => XS.ishr X3.here hx rfl (hb hby d11_9) rfl k) ?_
 show own_Go p e below _ (T3.setTop (mkF m 10 #[vR a0] [(.int (0 : Int32))]))
 exact own_retI X3 hx Bd.returns (hb hby d11_10) hlk eq3 ⟨rfl, N3, rfl⟩ (by decide) (by decide)
theorem pn_len2 : plainName "java/lang/String" = true := by first | (simp [plainName, overriddenIn]; done) | decide +kernel
theorem ef_len2 (m : MethodId) (a0 : Addr) : entryFrame m #[(.ref a0)] 1 = mkF m 0 #[vR a0] [] := by first | (simp [entryFrame, mkF, argsToLocals, Value.category]; done) | rfl
def Qlen2 (Z : State) (t_a0 : Addr) (k_t_a0 : ClassId) (fn_t_a0 : Nat → Int32) (f_CS : Int32) (a0 : Addr) (h0 : Heap) (n0 : Nat) (v : Option Value) (h : Heap) (L : List Loc) : Prop := v = some (.int (2 : Int32)) ∧ Fr n0 L ∧ h = h0
set_option maxRecDepth 65536 in
set_option maxHeartbeats 40000000 in
theorem rmlen2 (l : Launch) (Z : State) (A0 : Array Value) (hw : ∀ d ∈ tables_1, d.before A0 Z = true) (ws : List Jvm.Cond) (t_a0 : Addr) (k_t_a0 : ClassId) (fn_t_a0 : Nat → Int32) (f_CS : Int32) (a0 : Addr) (h0 : Heap) (n0 : Nat) (Z0 : n0 ≤ h0.size) (P_E_a0 : Exa Z h0 a0 "java/lang/String") (P_F_a0_coder : Fld Z h0 a0 "java/lang/String" "coder" "B" (.int (0 : Int32))) (P_F_a0_value : Fld Z h0 a0 "java/lang/String" "value" "[B" (.ref t_a0)) (P_V_t_a0 : own_Arf Z h0 t_a0 k_t_a0 .byte (2 : Int32) (fun i => .int (fn_t_a0 i))) (P_S_CS : Sta Z h0 "java/lang/String" "COMPACT_STRINGS" "Z" (.int f_CS)) (hn_CS : ¬ (f_CS = (0 : Int32))) :
    MetFree l (⟨"java/lang/String", "length", "()I"⟩ : MethodName) (head1 (Jvm.Cond.code (⟨"java/lang/String", "length", "()I"⟩ : MethodName) jdk_42_method_54_code 1 (some .int) :: ws) ({ frames := 1, cells := 0, slots := 0, locals := 13 } : Room)) (fun a U => a = #[(.ref a0)] ∧ Z.Warmed39 U.vm ∧ U.heap = h0) (fun _ _ _ _ _ => True) (fun _ U o U' => ∃ v L, o = .returned v ∧ Qlen2 Z t_a0 k_t_a0 fn_t_a0 f_CS a0 h0 n0 v U'.heap L ∧ FrameEnd U o U' L 0 0) := by
 refine MetFree.of_bodySF (plainFor_of_name pn_len2) hisR ?_
 intro p e s m args below meth c s₁ Bd hml0 hP hK
 obtain ⟨rfl, hZ, hh⟩ := hP
 have hwd := fun i {d : Jvm.Cond} (h : tables_1[i]? = some d) => hw d (List.mem_of_getElem? h)
 have hx := Bd.exec
 have hby := Bd.bytes
 have hml : c.maxLocals = 1 := hml0
 have hlk : meth.locks = false := Bd.notSynchronized
 have hown : s.vm.findClass "java/lang/String" = some m.cls := findClass_of_methodNamed Bd.named
 have hnm := (name_of_methodNamed Bd.named Bd.method).1
 have X0 : Stand p l e ({ frames := 1, cells := 0, slots := 0, locals := 13 } : Room) s m #[(.ref a0)] below meth c s₁ [] 0 0 := Stand.of_body Bd
 have e0 : s₁.heap = h0 := by rw [← hh, Bd.state]; rfl
 have N0 := Fr.nil n0
 show own_Go p e below (own_Fin s 0 0 (Qlen2 Z t_a0 k_t_a0 fn_t_a0 f_CS a0 h0 n0)) _
 refine own_by (fun t k => castTop (ef_len2 m a0) k) ?_
 show own_Go p e below _ (s₁.setTop (mkF m 0 #[vR a0] []))
 refine own_by (fun _ k => XS.aloadN X0.here hx rfl (hb hby d11_0) rfl rfl k) ?_
 obtain ⟨T1, X1, e1, st1⟩ := getF X0 hx hZ hown (host := "") (Or.inl (hwd 60 rfl)) Via.refl e0 P_F_a0_value (g := (mkF m 1 #[vR a0] [(.ref a0)])) rfl rfl (hb hby d11_1)
 refine own_by st1 ?_
 show own_Go p e below _ (T1.setTop (mkF m 4 #[vR a0] [(.ref t_a0)]))
 obtain ⟨cl2, Ar2, qq2, S2, M2, H2, G2⟩ := id P_V_t_a0
 refine own_by (fun t k => X1.arraylength hx (by rw [e1]; exact Ar2.1) (State.isArrayOf_alike hZ.alike Ar2.2.1) (g := (mkF m 4 #[vR a0] [(.ref t_a0)])) rfl rfl (hb hby d11_4) _ k) ?_
 rw [len_of S2 M2]
 show own_Go p e below _ (T1.setTop (mkF m 5 #[vR a0] [(.int (2 : Int32))]))
 refine own_by (fun _ k => XS.aloadN X1.here hx rfl (hb hby d11_5) rfl rfl k) ?_
 obtain ⟨cq3, kq3, qq3a, qq3b, qq3c⟩ := isOf hZ e1 P_E_a0
 obtain ⟨_, _, ⟨T3, L3, k3, n3⟩, -, X3, ⟨Lc3, hQ3, l3, y3, z3⟩, st3⟩ := X1.virtualBack hx (y := (⟨"java/lang/String", "coder", "()B"⟩ : MethodName)) (z := (⟨"java/lang/String", "coder", "()B"⟩ : MethodName)) hown (mvT hZ (hwd 66 rfl)) (mvT hZ (hwd 67 rfl)) (notFace_of_selects (args := #[]) (mvT hZ (hwd 69 rfl))) (mvT hZ (hwd 69 rfl)) (mvT hZ (hwd 68 rfl)) (by decide) (backOf (W := 1) (rmcoder l Z A0 hw [] f_CS a0 h0 n0 Z0 P_E_a0 P_F_a0_coder P_S_CS hn_CS) hZ (hwd 70 rfl) (hwd 14 rfl) (by decide) (by decide)) qq3a qq3c (g := (mkF m 6 #[vR a0] [(.ref a0), (.int (2 : Int32))])) rfl (by rw [hml]; rfl) (Steps.refl _) (argsL := []) (rest := [(.int (2 : Int32))]) (lenOf pd_66 rfl) rfl (by show 2 * 0 + _ ≤ _; exact Nat.le_of_eq rfl) (hb hby d11_6) (fun _ _ => ⟨rfl, e1, (by decide : 0 + 0 ≤ _), (by decide : 0 + 0 ≤ _)⟩)
 dsimp only [Pt.U, Pt.locs, Pt.cells, Pt.slots] at X3 l3 y3 z3 st3 hQ3
 subst l3 y3 z3
 obtain ⟨rfl, Nq3, eq3⟩ := hQ3
 have N3 := Fr.app N0 Nq3
 refine own_by (fun _ k => st3.trans k) ?_
 show own_Go p e below _ (T3.setTop (mkF m 9 #[vR a0] [(.int (0 : Int32)), (.int (2 : Int32))]))
 refine own_by (fun _ k => XS.ishr X3.here hx rfl (hb hby d11_9) rfl k) ?_
 show own_Go p e below _ (T3.setTop (mkF m 10 #[vR a0] [(.int (2 : Int32))]))
 exact own_retI X3 hx Bd.returns (hb hby d11_10) hlk eq3 ⟨rfl, N3, rfl⟩ (by decide) (by decide)
theorem pn_len3 : plainName "java/lang/String" = true := by first | (simp [plainName, overriddenIn]; done) | decide +kernel
theorem ef_len3 (m : MethodId) (a0 : Addr) : entryFrame m #[(.ref a0)] 1 = mkF m 0 #[vR a0] [] := by first | (simp [entryFrame, mkF, argsToLocals, Value.category]; done) | rfl
def Qlen3 (Z : State) (t_a0 : Addr) (k_t_a0 : ClassId) (fn_t_a0 : Nat → Int32) (f_CS : Int32) (a0 : Addr) (h0 : Heap) (n0 : Nat) (v : Option Value) (h : Heap) (L : List Loc) : Prop := v = some (.int (3 : Int32)) ∧ Fr n0 L ∧ h = h0
set_option maxRecDepth 65536 in
set_option maxHeartbeats 40000000 in
theorem rmlen3 (l : Launch) (Z : State) (A0 : Array Value) (hw : ∀ d ∈ tables_1, d.before A0 Z = true) (ws : List Jvm.Cond) (t_a0 : Addr) (k_t_a0 : ClassId) (fn_t_a0 : Nat → Int32) (f_CS : Int32) (a0 : Addr) (h0 : Heap) (n0 : Nat) (Z0 : n0 ≤ h0.size) (P_E_a0 : Exa Z h0 a0 "java/lang/String") (P_F_a0_coder : Fld Z h0 a0 "java/lang/String" "coder" "B" (.int (0 : Int32))) (P_F_a0_value : Fld Z h0 a0 "java/lang/String" "value" "[B" (.ref t_a0)) (P_V_t_a0 : own_Arf Z h0 t_a0 k_t_a0 .byte (3 : Int32) (fun i => .int (fn_t_a0 i))) (P_S_CS : Sta Z h0 "java/lang/String" "COMPACT_STRINGS" "Z" (.int f_CS)) (hn_CS : ¬ (f_CS = (0 : Int32))) :
    MetFree l (⟨"java/lang/String", "length", "()I"⟩ : MethodName) (head1 (Jvm.Cond.code (⟨"java/lang/String", "length", "()I"⟩ : MethodName) jdk_42_method_54_code 1 (some .int) :: ws) ({ frames := 1, cells := 0, slots := 0, locals := 13 } : Room)) (fun a U => a = #[(.ref a0)] ∧ Z.Warmed39 U.vm ∧ U.heap = h0) (fun _ _ _ _ _ => True) (fun _ U o U' => ∃ v L, o = .returned v ∧ Qlen3 Z t_a0 k_t_a0 fn_t_a0 f_CS a0 h0 n0 v U'.heap L ∧ FrameEnd U o U' L 0 0) := by
 refine MetFree.of_bodySF (plainFor_of_name pn_len3) hisR ?_
 intro p e s m args below meth c s₁ Bd hml0 hP hK
 obtain ⟨rfl, hZ, hh⟩ := hP
 have hwd := fun i {d : Jvm.Cond} (h : tables_1[i]? = some d) => hw d (List.mem_of_getElem? h)
 have hx := Bd.exec
 have hby := Bd.bytes
 have hml : c.maxLocals = 1 := hml0
 have hlk : meth.locks = false := Bd.notSynchronized
 have hown : s.vm.findClass "java/lang/String" = some m.cls := findClass_of_methodNamed Bd.named
 have hnm := (name_of_methodNamed Bd.named Bd.method).1
 have X0 : Stand p l e ({ frames := 1, cells := 0, slots := 0, locals := 13 } : Room) s m #[(.ref a0)] below meth c s₁ [] 0 0 := Stand.of_body Bd
 have e0 : s₁.heap = h0 := by rw [← hh, Bd.state]; rfl
 have N0 := Fr.nil n0
 show own_Go p e below (own_Fin s 0 0 (Qlen3 Z t_a0 k_t_a0 fn_t_a0 f_CS a0 h0 n0)) _
 refine own_by (fun t k => castTop (ef_len3 m a0) k) ?_
 show own_Go p e below _ (s₁.setTop (mkF m 0 #[vR a0] []))
 refine own_by (fun _ k => XS.aloadN X0.here hx rfl (hb hby d11_0) rfl rfl k) ?_
 obtain ⟨T1, X1, e1, st1⟩ := getF X0 hx hZ hown (host := "") (Or.inl (hwd 60 rfl)) Via.refl e0 P_F_a0_value (g := (mkF m 1 #[vR a0] [(.ref a0)])) rfl rfl (hb hby d11_1)
 refine own_by st1 ?_
 show own_Go p e below _ (T1.setTop (mkF m 4 #[vR a0] [(.ref t_a0)]))
 obtain ⟨cl2, Ar2, qq2, S2, M2, H2, G2⟩ := id P_V_t_a0
 refine own_by (fun t k => X1.arraylength hx (by rw [e1]; exact Ar2.1) (State.isArrayOf_alike hZ.alike Ar2.2.1) (g := (mkF m 4 #[vR a0] [(.ref t_a0)])) rfl rfl (hb hby d11_4) _ k) ?_
 rw [len_of S2 M2]
 show own_Go p e below _ (T1.setTop (mkF m 5 #[vR a0] [(.int (3 : Int32))]))
 refine own_by (fun _ k => XS.aloadN X1.here hx rfl (hb hby d11_5) rfl rfl k) ?_
 obtain ⟨cq3, kq3, qq3a, qq3b, qq3c⟩ := isOf hZ e1 P_E_a0
 obtain ⟨_, _, ⟨T3, L3, k3, n3⟩, -, X3, ⟨Lc3, hQ3, l3, y3, z3⟩, st3⟩ := X1.virtualBack hx (y := (⟨"java/lang/String", "coder", "()B"⟩ : MethodName)) (z := (⟨"java/lang/String", "coder", "()B"⟩ : MethodName)) hown (mvT hZ (hwd 66 rfl)) (mvT hZ (hwd 67 rfl)) (notFace_of_selects (args := #[]) (mvT hZ (hwd 69 rfl))) (mvT hZ (hwd 69 rfl)) (mvT hZ (hwd 68 rfl)) (by decide) (backOf (W := 1) (rmcoder l Z A0 hw [] f_CS a0 h0 n0 Z0 P_E_a0 P_F_a0_coder P_S_CS hn_CS) hZ (hwd 70 rfl) (hwd 14 rfl) (by decide) (by decide)) qq3a qq3c (g := (mkF m 6 #[vR a0] [(.ref a0), (.int (3 : Int32))])) rfl (by rw [hml]; rfl) (Steps.refl _) (argsL := []) (rest := [(.int (3 : Int32))]) (lenOf pd_66 rfl) rfl (by show 2 * 0 + _ ≤ _; exact Nat.le_of_eq rfl) (hb hby d11_6) (fun _ _ => ⟨rfl, e1, (by decide : 0 + 0 ≤ _), (by decide : 0 + 0 ≤ _)⟩)
 dsimp only [Pt.U, Pt.locs, Pt.cells, Pt.slots] at X3 l3 y3 z3 st3 hQ3
 subst l3 y3 z3
 obtain ⟨rfl, Nq3, eq3⟩ := hQ3
 have N3 := Fr.app N0 Nq3
 refine own_by (fun _ k => st3.trans k) ?_
 show own_Go p e below _ (T3.setTop (mkF m 9 #[vR a0] [(.int (0 : Int32)), (.int (3 : Int32))]))
 refine own_by (fun _ k => XS.ishr X3.here hx rfl (hb hby d11_9) rfl k) ?_
 show own_Go p e below _ (T3.setTop (mkF m 10 #[vR a0] [(.int (3 : Int32))]))
 exact own_retI X3 hx Bd.returns (hb hby d11_10) hlk eq3 ⟨rfl, N3, rfl⟩ (by decide) (by decide)
theorem pn_len4 : plainName "java/lang/String" = true := by first | (simp [plainName, overriddenIn]; done) | decide +kernel
theorem ef_len4 (m : MethodId) (a0 : Addr) : entryFrame m #[(.ref a0)] 1 = mkF m 0 #[vR a0] [] := by first | (simp [entryFrame, mkF, argsToLocals, Value.category]; done) | rfl
def Qlen4 (Z : State) (t_a0 : Addr) (k_t_a0 : ClassId) (fn_t_a0 : Nat → Int32) (f_CS : Int32) (a0 : Addr) (h0 : Heap) (n0 : Nat) (v : Option Value) (h : Heap) (L : List Loc) : Prop := v = some (.int (4 : Int32)) ∧ Fr n0 L ∧ h = h0
set_option maxRecDepth 65536 in
set_option maxHeartbeats 40000000 in
theorem rmlen4 (l : Launch) (Z : State) (A0 : Array Value) (hw : ∀ d ∈ tables_1, d.before A0 Z = true) (ws : List Jvm.Cond) (t_a0 : Addr) (k_t_a0 : ClassId) (fn_t_a0 : Nat → Int32) (f_CS : Int32) (a0 : Addr) (h0 : Heap) (n0 : Nat) (Z0 : n0 ≤ h0.size) (P_E_a0 : Exa Z h0 a0 "java/lang/String") (P_F_a0_coder : Fld Z h0 a0 "java/lang/String" "coder" "B" (.int (0 : Int32))) (P_F_a0_value : Fld Z h0 a0 "java/lang/String" "value" "[B" (.ref t_a0)) (P_V_t_a0 : own_Arf Z h0 t_a0 k_t_a0 .byte (4 : Int32) (fun i => .int (fn_t_a0 i))) (P_S_CS : Sta Z h0 "java/lang/String" "COMPACT_STRINGS" "Z" (.int f_CS)) (hn_CS : ¬ (f_CS = (0 : Int32))) :
    MetFree l (⟨"java/lang/String", "length", "()I"⟩ : MethodName) (head1 (Jvm.Cond.code (⟨"java/lang/String", "length", "()I"⟩ : MethodName) jdk_42_method_54_code 1 (some .int) :: ws) ({ frames := 1, cells := 0, slots := 0, locals := 13 } : Room)) (fun a U => a = #[(.ref a0)] ∧ Z.Warmed39 U.vm ∧ U.heap = h0) (fun _ _ _ _ _ => True) (fun _ U o U' => ∃ v L, o = .returned v ∧ Qlen4 Z t_a0 k_t_a0 fn_t_a0 f_CS a0 h0 n0 v U'.heap L ∧ FrameEnd U o U' L 0 0) := by
 refine MetFree.of_bodySF (plainFor_of_name pn_len4) hisR ?_
 intro p e s m args below meth c s₁ Bd hml0 hP hK
 obtain ⟨rfl, hZ, hh⟩ := hP
 have hwd := fun i {d : Jvm.Cond} (h : tables_1[i]? = some d) => hw d (List.mem_of_getElem? h)
 have hx := Bd.exec
 have hby := Bd.bytes
 have hml : c.maxLocals = 1 := hml0
 have hlk : meth.locks = false := Bd.notSynchronized
 have hown : s.vm.findClass "java/lang/String" = some m.cls := findClass_of_methodNamed Bd.named
 have hnm := (name_of_methodNamed Bd.named Bd.method).1
 have X0 : Stand p l e ({ frames := 1, cells := 0, slots := 0, locals := 13 } : Room) s m #[(.ref a0)] below meth c s₁ [] 0 0 := Stand.of_body Bd
 have e0 : s₁.heap = h0 := by rw [← hh, Bd.state]; rfl
 have N0 := Fr.nil n0
 show own_Go p e below (own_Fin s 0 0 (Qlen4 Z t_a0 k_t_a0 fn_t_a0 f_CS a0 h0 n0)) _
 refine own_by (fun t k => castTop (ef_len4 m a0) k) ?_
 show own_Go p e below _ (s₁.setTop (mkF m 0 #[vR a0] []))
 refine own_by (fun _ k => XS.aloadN X0.here hx rfl (hb hby d11_0) rfl rfl k) ?_
 obtain ⟨T1, X1, e1, st1⟩ := getF X0 hx hZ hown (host := "") (Or.inl (hwd 60 rfl)) Via.refl e0 P_F_a0_value (g := (mkF m 1 #[vR a0] [(.ref a0)])) rfl rfl (hb hby d11_1)
 refine own_by st1 ?_
 show own_Go p e below _ (T1.setTop (mkF m 4 #[vR a0] [(.ref t_a0)]))
 obtain ⟨cl2, Ar2, qq2, S2, M2, H2, G2⟩ := id P_V_t_a0
 refine own_by (fun t k => X1.arraylength hx (by rw [e1]; exact Ar2.1) (State.isArrayOf_alike hZ.alike Ar2.2.1) (g := (mkF m 4 #[vR a0] [(.ref t_a0)])) rfl rfl (hb hby d11_4) _ k) ?_
 rw [len_of S2 M2]
 show own_Go p e below _ (T1.setTop (mkF m 5 #[vR a0] [(.int (4 : Int32))]))
 refine own_by (fun _ k => XS.aloadN X1.here hx rfl (hb hby d11_5) rfl rfl k) ?_
 obtain ⟨cq3, kq3, qq3a, qq3b, qq3c⟩ := isOf hZ e1 P_E_a0
 obtain ⟨_, _, ⟨T3, L3, k3, n3⟩, -, X3, ⟨Lc3, hQ3, l3, y3, z3⟩, st3⟩ := X1.virtualBack hx (y := (⟨"java/lang/String", "coder", "()B"⟩ : MethodName)) (z := (⟨"java/lang/String", "coder", "()B"⟩ : MethodName)) hown (mvT hZ (hwd 66 rfl)) (mvT hZ (hwd 67 rfl)) (notFace_of_selects (args := #[]) (mvT hZ (hwd 69 rfl))) (mvT hZ (hwd 69 rfl)) (mvT hZ (hwd 68 rfl)) (by decide) (backOf (W := 1) (rmcoder l Z A0 hw [] f_CS a0 h0 n0 Z0 P_E_a0 P_F_a0_coder P_S_CS hn_CS) hZ (hwd 70 rfl) (hwd 14 rfl) (by decide) (by decide)) qq3a qq3c (g := (mkF m 6 #[vR a0] [(.ref a0), (.int (4 : Int32))])) rfl (by rw [hml]; rfl) (Steps.refl _) (argsL := []) (rest := [(.int (4 : Int32))]) (lenOf pd_66 rfl) rfl (by show 2 * 0 + _ ≤ _; exact Nat.le_of_eq rfl) (hb hby d11_6) (fun _ _ => ⟨rfl, e1, (by decide : 0 + 0 ≤ _), (by decide : 0 + 0 ≤ _)⟩)
 dsimp only [Pt.U, Pt.locs, Pt.cells, Pt.slots] at X3 l3 y3 z3 st3 hQ3
 subst l3 y3 z3
 obtain ⟨rfl, Nq3, eq3⟩ := hQ3
 have N3 := Fr.app N0 Nq3
 refine own_by (fun _ k => st3.trans k) ?_
 show own_Go p e below _ (T3.setTop (mkF m 9 #[vR a0] [(.int (0 : Int32)), (.int (4 : Int32))]))
 refine own_by (fun _ k => XS.ishr X3.here hx rfl (hb hby d11_9) rfl k) ?_
 show own_Go p e below _ (T3.setTop (mkF m 10 #[vR a0] [(.int (4 : Int32))]))
 exact own_retI X3 hx Bd.returns (hb hby d11_10) hlk eq3 ⟨rfl, N3, rfl⟩ (by decide) (by decide)
theorem d18_0 : decode jdk_41_method_11_code 0 = .ok (.iload_n 0, 1) := by decide +kernel
theorem d18_1 : decode jdk_41_method_11_code 1 = .ok (.ifCond .lt 8, 3) := by decide +kernel
theorem d18_4 : decode jdk_41_method_11_code 4 = .ok (.iload_n 0, 1) := by decide +kernel
theorem d18_5 : decode jdk_41_method_11_code 5 = .ok (.iload_n 1, 1) := by decide +kernel
theorem d18_6 : decode jdk_41_method_11_code 6 = .ok (.if_icmp .lt 10, 3) := by decide +kernel
theorem d18_16 : decode jdk_41_method_11_code 16 = .ok (.iload_n 0, 1) := by decide +kernel
theorem d18_17 : decode jdk_41_method_11_code 17 = .ok (.ireturn, 1) := by decide +kernel
theorem pn_pci0 : plainName "jdk/internal/util/Preconditions" = true := by first | (simp [plainName, overriddenIn]; done) | decide +kernel
theorem ef_pci0 (m : MethodId) (r2 : Value) (hr_r2 : r2.isRef = true) : entryFrame m #[(.int (0 : Int32)), (.int (3 : Int32)), r2] 3 = mkF m 0 #[vI (0 : Int32), vI (3 : Int32), .val r2] [] := by
  rcases ref_cases hr_r2 with rfl | ⟨_, rfl⟩ <;> first | (simp [entryFrame, mkF, argsToLocals, Value.category]; done) | rfl
def Qpci0 (Z : State) (r2 : Value) (h0 : Heap) (n0 : Nat) (v : Option Value) (h : Heap) (L : List Loc) : Prop := v = some (.int (0 : Int32)) ∧ Fr n0 L ∧ h = h0
set_option maxRecDepth 65536 in
set_option maxHeartbeats 40000000 in
theorem rmpci0 (l : Launch) (Z : State) (A0 : Array Value) (hw : ∀ d ∈ tables_1, d.before A0 Z = true) (ws : List Jvm.Cond) (r2 : Value) (h0 : Heap) (n0 : Nat) (Z0 : n0 ≤ h0.size) (hr_r2 : r2.isRef = true) :
    MetFree l (⟨"jdk/internal/util/Preconditions", "checkIndex", "(IILjava/util/function/BiFunction;)I"⟩ : MethodName) (head1 (Jvm.Cond.code (⟨"jdk/internal/util/Preconditions", "checkIndex", "(IILjava/util/function/BiFunction;)I"⟩ : MethodName) jdk_41_method_11_code 3 (some .int) :: ws) ({ frames := 0, cells := 0, slots := 0, locals := 0 } : Room)) (fun a U => a = #[(.int (0 : Int32)), (.int (3 : Int32)), r2] ∧ Z.Warmed39 U.vm ∧ U.heap = h0) (fun _ _ _ _ _ => True) (fun _ U o U' => ∃ v L, o = .returned v ∧ Qpci0 Z r2 h0 n0 v U'.heap L ∧ FrameEnd U o U' L 0 0) := by
 refine MetFree.of_bodySF (plainFor_of_name pn_pci0) hisR ?_
 intro p e s m args below meth c s₁ Bd hml0 hP hK
 obtain ⟨rfl, hZ, hh⟩ := hP
 have hwd := fun i {d : Jvm.Cond} (h : tables_1[i]? = some d) => hw d (List.mem_of_getElem? h)
 have hx := Bd.exec
 have hby := Bd.bytes
 have hml : c.maxLocals = 3 := hml0
 have hlk : meth.locks = false := Bd.notSynchronized
 have hown : s.vm.findClass "jdk/internal/util/Preconditions" = some m.cls := findClass_of_methodNamed Bd.named
 have hnm := (name_of_methodNamed Bd.named Bd.method).1
 have X0 : Stand p l e ({ frames := 0, cells := 0, slots := 0, locals := 0 } : Room) s m #[(.int (0 : Int32)), (.int (3 : Int32)), r2] below meth c s₁ [] 0 0 := Stand.of_body Bd
 have e0 : s₁.heap = h0 := by rw [← hh, Bd.state]; rfl
 have N0 := Fr.nil n0
 show own_Go p e below (own_Fin s 0 0 (Qpci0 Z r2 h0 n0)) _
 refine own_by (fun t k => castTop (ef_pci0 m r2 hr_r2) k) ?_
 show own_Go p e below _ (s₁.setTop (mkF m 0 #[vI (0 : Int32), vI (3 : Int32), .val r2] []))
 refine own_by (fun _ k => XS.iloadN X0.here hx rfl (hb hby d18_0) rfl k) ?_
 refine own_by (fun _ k => XS.ifNo X0.here hx rfl (hb hby d18_1) rfl ((if0 _ _).trans (flt (by decide : ¬ ((0 : Int32) < (0 : Int32)))).1) k) ?_
 show own_Go p e below _ (s₁.setTop (mkF m 4 #[vI (0 : Int32), vI (3 : Int32), .val r2] []))
 refine own_by (fun _ k => XS.iloadN X0.here hx rfl (hb hby d18_4) rfl k) ?_
 refine own_by (fun _ k => XS.iloadN X0.here hx rfl (hb hby d18_5) rfl k) ?_
 refine own_by (fun _ k => XS.icmpYes X0.here hx rfl (pc0 := 6) (pc' := 16) rfl (hb hby d18_6) rfl (tlt (by decide : (0 : Int32) < (3 : Int32))).1 (by decide) (by decide) k) ?_
 show own_Go p e below _ (s₁.setTop (mkF m 16 #[vI (0 : Int32), vI (3 : Int32), .val r2] []))
 refine own_by (fun _ k => XS.iloadN X0.here hx rfl (hb hby d18_16) rfl k) ?_
 exact own_retI X0 hx Bd.returns (hb hby d18_17) hlk e0 ⟨rfl, N0, rfl⟩ (by decide) (by decide)
theorem pd_95 : parseMethodDescriptor "(IILjava/util/function/BiFunction;)I" = some ⟨[.int, .int, (.object "java/util/function/BiFunction")], some .int⟩ := by decide +kernel
theorem d17_0 : decode jdk_42_method_155_code 0 = .ok (.iload_n 0, 1) := by decide +kernel
theorem d17_1 : decode jdk_42_method_155_code 1 = .ok (.iload_n 1, 1) := by decide +kernel
theorem d17_2 : decode jdk_42_method_155_code 2 = .ok (.getstatic 1053, 3) := by decide +kernel
theorem d17_5 : decode jdk_42_method_155_code 5 = .ok (.invokestatic 1059, 3) := by decide +kernel
theorem d17_8 : decode jdk_42_method_155_code 8 = .ok (.pop, 1) := by decide +kernel
theorem d17_9 : decode jdk_42_method_155_code 9 = .ok (.return_, 1) := by decide +kernel
theorem pn_sci0 : plainName "java/lang/String" = true := by first | (simp [plainName, overriddenIn]; done) | decide +kernel
theorem ef_sci0 (m : MethodId)  : entryFrame m #[(.int (0 : Int32)), (.int (3 : Int32))] 2 = mkF m 0 #[vI (0 : Int32), vI (3 : Int32)] [] := by first | (simp [entryFrame, mkF, argsToLocals, Value.category]; done) | rfl
def Qsci0 (Z : State) (f_SF : Value) (h0 : Heap) (n0 : Nat) (v : Option Value) (h : Heap) (L : List Loc) : Prop := v = none ∧ Fr n0 L ∧ h = h0
set_option maxRecDepth 65536 in
set_option maxHeartbeats 40000000 in
theorem rmsci0 (l : Launch) (Z : State) (A0 : Array Value) (hw : ∀ d ∈ tables_1, d.before A0 Z = true) (ws : List Jvm.Cond) (f_SF : Value) (h0 : Heap) (n0 : Nat) (Z0 : n0 ≤ h0.size) (P_S_SF : Sta Z h0 "jdk/internal/util/Preconditions" "SIOOBE_FORMATTER" "Ljava/util/function/BiFunction;" f_SF) (hr_f_SF : f_SF.isRef = true) :
    MetFree l (⟨"java/lang/String", "checkIndex", "(II)V"⟩ : MethodName) (head1 (Jvm.Cond.code (⟨"java/lang/String", "checkIndex", "(II)V"⟩ : MethodName) jdk_42_method_155_code 2 none :: ws) ({ frames := 1, cells := 0, slots := 0, locals := 14 } : Room)) (fun a U => a = #[(.int (0 : Int32)), (.int (3 : Int32))] ∧ Z.Warmed39 U.vm ∧ U.heap = h0) (fun _ _ _ _ _ => True) (fun _ U o U' => ∃ v L, o = .returned v ∧ Qsci0 Z f_SF h0 n0 v U'.heap L ∧ FrameEnd U o U' L 0 0) := by
 refine MetFree.of_bodySF (plainFor_of_name pn_sci0) hisR ?_
 intro p e s m args below meth c s₁ Bd hml0 hP hK
 obtain ⟨rfl, hZ, hh⟩ := hP
 have hwd := fun i {d : Jvm.Cond} (h : tables_1[i]? = some d) => hw d (List.mem_of_getElem? h)
 have hx := Bd.exec
 have hby := Bd.bytes
 have hml : c.maxLocals = 2 := hml0
 have hlk : meth.locks = false := Bd.notSynchronized
 have hown : s.vm.findClass "java/lang/String" = some m.cls := findClass_of_methodNamed Bd.named
 have hnm := (name_of_methodNamed Bd.named Bd.method).1
 have X0 : Stand p l e ({ frames := 1, cells := 0, slots := 0, locals := 14 } : Room) s m #[(.int (0 : Int32)), (.int (3 : Int32))] below meth c s₁ [] 0 0 := Stand.of_body Bd
 have e0 : s₁.heap = h0 := by rw [← hh, Bd.state]; rfl
 have N0 := Fr.nil n0
 show own_Go p e below (own_Fin s 0 0 (Qsci0 Z f_SF h0 n0)) _
 refine own_by (fun t k => castTop (ef_sci0 m ) k) ?_
 show own_Go p e below _ (s₁.setTop (mkF m 0 #[vI (0 : Int32), vI (3 : Int32)] []))
 refine own_by (fun _ k => XS.iloadN X0.here hx rfl (hb hby d17_0) rfl k) ?_
 refine own_by (fun _ k => XS.iloadN X0.here hx rfl (hb hby d17_1) rfl k) ?_
 obtain ⟨T1, X1, e1, st1⟩ := getS2 X0 hx hZ hown (host := "") (Or.inl (hwd 93 rfl)) Via.refl e0 P_S_SF (g := (mkF m 2 #[vI (0 : Int32), vI (3 : Int32)] [(.int (3 : Int32)), (.int (0 : Int32))])) rfl (hb hby d17_2)
 refine own_by st1 ?_
 show own_Go p e below _ (T1.setTop (mkF m 5 #[vI (0 : Int32), vI (3 : Int32)] [f_SF, (.int (3 : Int32)), (.int (0 : Int32))]))
 obtain ⟨_, _, ⟨T2, L2, k2, n2⟩, -, X2, ⟨Lc2, hQ2, l2, y2, z2⟩, st2⟩ := Jvm.LawKit.callS X1 hx (y := (⟨"jdk/internal/util/Preconditions", "checkIndex", "(IILjava/util/function/BiFunction;)I"⟩ : MethodName)) hown (mvT hZ (hwd 95 rfl)) (mvT hZ (hwd 96 rfl)) (mvT hZ (hwd 94 rfl)) (mvT hZ (hwd 97 rfl)) (by decide) (backOf (W := 0) (rmpci0 l Z A0 hw [] f_SF h0 n0 Z0 hr_f_SF) hZ (hwd 97 rfl) (hwd 94 rfl) (by decide) (by decide)) (g := (mkF m 5 #[vI (0 : Int32), vI (3 : Int32)] [f_SF, (.int (3 : Int32)), (.int (0 : Int32))])) rfl (by rw [hml]; rfl) (argsL := [(.int (0 : Int32)), (.int (3 : Int32)), f_SF]) (rest := []) (lenOf pd_95 rfl) rfl (by show 2 * 0 + _ ≤ _; exact Nat.le_of_eq rfl) (hb hby d17_5) (fun _ _ => ⟨rfl, e1, (by decide : 0 + 0 ≤ _), (by decide : 0 + 0 ≤ _)⟩)
 dsimp only [Pt.U, Pt.locs, Pt.cells, Pt.slots] at X2 l2 y2 z2 st2 hQ2
 subst l2 y2 z2
 obtain ⟨rfl, Nq2, eq2⟩ := hQ2
 have N2 := Fr.app N0 Nq2
 refine own_by st2 ?_
 show own_Go p e below _ (T2.setTop (mkF m 8 #[vI (0 : Int32), vI (3 : Int32)] [(.int (0 : Int32))]))
 refine own_by (fun _ k => XS.pop X2.here hx rfl (hb hby d17_8) rfl rfl k) ?_
 show own_Go p e below _ (T2.setTop (mkF m 9 #[vI (0 : Int32), vI (3 : Int32)] []))
 exact own_ret0 X2 hx Bd.returns (hb hby d17_9) hlk eq2 ⟨rfl, N2, rfl⟩ (by decide) (by decide)
theorem pd_90 : parseMethodDescriptor "(II)V" = some ⟨[.int, .int], none⟩ := by decide +kernel
theorem d16_0 : decode jdk_43_method_2_code 0 = .ok (.iload_n 1, 1) := by decide +kernel
theorem d16_1 : decode jdk_43_method_2_code 1 = .ok (.aload_n 0, 1) := by decide +kernel
theorem d16_2 : decode jdk_43_method_2_code 2 = .ok (.arraylength, 1) := by decide +kernel
theorem d16_3 : decode jdk_43_method_2_code 3 = .ok (.invokestatic 9, 3) := by decide +kernel
theorem d16_6 : decode jdk_43_method_2_code 6 = .ok (.aload_n 0, 1) := by decide +kernel
theorem d16_7 : decode jdk_43_method_2_code 7 = .ok (.iload_n 1, 1) := by decide +kernel
theorem d16_8 : decode jdk_43_method_2_code 8 = .ok (.baload, 1) := by decide +kernel
theorem d16_9 : decode jdk_43_method_2_code 9 = .ok (.sipush 255, 3) := by decide +kernel
theorem d16_12 : decode jdk_43_method_2_code 12 = .ok (.iand, 1) := by decide +kernel
theorem d16_13 : decode jdk_43_method_2_code 13 = .ok (.i2c, 1) := by decide +kernel
theorem d16_14 : decode jdk_43_method_2_code 14 = .ok (.ireturn, 1) := by decide +kernel
theorem pn_lca0 : plainName "java/lang/StringLatin1" = true := by first | (simp [plainName, overriddenIn]; done) | decide +kernel
theorem ef_lca0 (m : MethodId) (a0 : Addr) : entryFrame m #[(.ref a0), (.int (0 : Int32))] 2 = mkF m 0 #[vR a0, vI (0 : Int32)] [] := by first | (simp [entryFrame, mkF, argsToLocals, Value.category]; done) | rfl
def Qlca0 (Z : State) (k_a0 : ClassId) (fn_a0 : Nat → Int32) (f_SF : Value) (a0 : Addr) (h0 : Heap) (n0 : Nat) (v : Option Value) (h : Heap) (L : List Loc) : Prop := v = some (.int (nar .char (((fn_a0 0) &&& (255 : Int32)).toUInt32.toUInt16.toUInt32.toInt32))) ∧ Fr n0 L ∧ h = h0
set_option maxRecDepth 65536 in
set_option maxHeartbeats 40000000 in
theorem rmlca0 (l : Launch) (Z : State) (A0 : Array Value) (hw : ∀ d ∈ tables_1, d.before A0 Z = true) (ws : List Jvm.Cond) (k_a0 : ClassId) (fn_a0 : Nat → Int32) (f_SF : Value) (a0 : Addr) (h0 : Heap) (n0 : Nat) (Z0 : n0 ≤ h0.size) (P_V_a0 : own_Arf Z h0 a0 k_a0 .byte (3 : Int32) (fun i => .int (fn_a0 i))) (P_S_SF : Sta Z h0 "jdk/internal/util/Preconditions" "SIOOBE_FORMATTER" "Ljava/util/function/BiFunction;" f_SF) (hr_f_SF : f_SF.isRef = true) :
    MetFree l (⟨"java/lang/StringLatin1", "charAt", "([BI)C"⟩ : MethodName) (head1 (Jvm.Cond.code (⟨"java/lang/StringLatin1", "charAt", "([BI)C"⟩ : MethodName) jdk_43_method_2_code 2 (some .char) :: ws) ({ frames := 2, cells := 0, slots := 0, locals := 27 } : Room)) (fun a U => a = #[(.ref a0), (.int (0 : Int32))] ∧ Z.Warmed39 U.vm ∧ U.heap = h0) (fun _ _ _ _ _ => True) (fun _ U o U' => ∃ v L, o = .returned v ∧ Qlca0 Z k_a0 fn_a0 f_SF a0 h0 n0 v U'.heap L ∧ FrameEnd U o U' L 0 0) := by
 refine MetFree.of_bodySF (plainFor_of_name pn_lca0) hisR ?_
 intro p e s m args below meth c s₁ Bd hml0 hP hK
 obtain ⟨rfl, hZ, hh⟩ := hP
 have hwd := fun i {d : Jvm.Cond} (h : tables_1[i]? = some d) => hw d (List.mem_of_getElem? h)
 have hx := Bd.exec
 have hby := Bd.bytes
 have hml : c.maxLocals = 2 := hml0
 have hlk : meth.locks = false := Bd.notSynchronized
 have hown : s.vm.findClass "java/lang/StringLatin1" = some m.cls := findClass_of_methodNamed Bd.named
 have hnm := (name_of_methodNamed Bd.named Bd.method).1
 have X0 : Stand p l e ({ frames := 2, cells := 0, slots := 0, locals := 27 } : Room) s m #[(.ref a0), (.int (0 : Int32))] below meth c s₁ [] 0 0 := Stand.of_body Bd
 have e0 : s₁.heap = h0 := by rw [← hh, Bd.state]; rfl
 have N0 := Fr.nil n0
 show own_Go p e below (own_Fin s 0 0 (Qlca0 Z k_a0 fn_a0 f_SF a0 h0 n0)) _
 refine own_by (fun t k => castTop (ef_lca0 m a0) k) ?_
 show own_Go p e below _ (s₁.setTop (mkF m 0 #[vR a0, vI (0 : Int32)] []))
 refine own_by (fun _ k => XS.iloadN X0.here hx rfl (hb hby d16_0) rfl k) ?_
 refine own_by (fun _ k => XS.aloadN X0.here hx rfl (hb hby d16_1) rfl rfl k) ?_
 obtain ⟨cl1, Ar1, qq1, S1, M1, H1, G1⟩ := id P_V_a0
 refine own_by (fun t k => X0.arraylength hx (by rw [e0]; exact Ar1.1) (State.isArrayOf_alike hZ.alike Ar1.2.1) (g := (mkF m 2 #[vR a0, vI (0 : Int32)] [(.ref a0), (.int (0 : Int32))])) rfl rfl (hb hby d16_2) _ k) ?_
 rw [len_of S1 M1]
 show own_Go p e below _ (s₁.setTop (mkF m 3 #[vR a0, vI (0 : Int32)] [(.int (3 : Int32)), (.int (0 : Int32))]))
 obtain ⟨_, _, ⟨T2, L2, k2, n2⟩, -, X2, ⟨Lc2, hQ2, l2, y2, z2⟩, st2⟩ := Jvm.LawKit.callS X0 hx (y := (⟨"java/lang/String", "checkIndex", "(II)V"⟩ : MethodName)) hown (mvT hZ (hwd 90 rfl)) (mvT hZ (hwd 91 rfl)) (mvT hZ (hwd 14 rfl)) (mvT hZ (hwd 92 rfl)) (by decide) (backOf (W := 0) (rmsci0 l Z A0 hw [] f_SF h0 n0 Z0 P_S_SF hr_f_SF) hZ (hwd 92 rfl) (hwd 14 rfl) (by decide) (by decide)) (g := (mkF m 3 #[vR a0, vI (0 : Int32)] [(.int (3 : Int32)), (.int (0 : Int32))])) rfl (by rw [hml]; rfl) (argsL := [(.int (0 : Int32)), (.int (3 : Int32))]) (rest := []) (lenOf pd_90 rfl) rfl (by show 2 * 0 + _ ≤ _; exact Nat.le_of_eq rfl) (hb hby d16_3) (fun _ _ => ⟨rfl, e0, (by decide : 0 + 0 ≤ _), (by decide : 0 + 0 ≤ _)⟩)
 dsimp only [Pt.U, Pt.locs, Pt.cells, Pt.slots] at X2 l2 y2 z2 st2 hQ2
 subst l2 y2 z2
 obtain ⟨rfl, Nq2, eq2⟩ := hQ2
 have N2 := Fr.app N0 Nq2
 refine own_by st2 ?_
 show own_Go p e below _ (T2.setTop (mkF m 6 #[vR a0, vI (0 : Int32)] []))
 refine own_by (fun _ k => XS.aloadN X2.here hx rfl (hb hby d16_6) rfl rfl k) ?_
 refine own_by (fun _ k => XS.iloadN X2.here hx rfl (hb hby d16_7) rfl k) ?_
 obtain ⟨cl3, Ar3, qq3, S3, M3, H3, G3⟩ := id P_V_a0
 have hin3 : ¬ ((0 : Int32) < 0 ∨ cl3.slots.size ≤ ((0 : Int32)).toNatClampNeg) := inb_of S3 ⟨by decide, by decide⟩
 refine own_by (fun t k => X2.baloadBytes hx (j := (0 : Int32)) (v := (.int (fn_a0 0))) (by rw [eq2]; exact Ar3.1) (State.isArrayOf_alike hZ.alike Ar3.2.1) Ar3.2.2 hin3 (H3 _ (Nat.lt_of_not_le fun y => hin3 (Or.inr y))) (g := (mkF m 8 #[vR a0, vI (0 : Int32)] [(.int (0 : Int32)), (.ref a0)])) rfl rfl (hb hby d16_8) _ k) ?_
 show own_Go p e below _ (T2.setTop (mkF m 9 #[vR a0, vI (0 : Int32)] [(.int (fn_a0 0))]))
 refine own_by (fun _ k => XS.sipush X2.here hx rfl (hb hby d16_9) k) ?_
 refine own_by (fun _ k => XS.iand X2.here hx rfl (hb hby d16_12) rfl k) ?_
 show own_Go p e below _ (T2.setTop (mkF m 13 #[vR a0, vI (0 : Int32)] [(.int ((fn_a0 0) &&& (255 : Int32)))]))
 refine own_by (fun _ k => XS.i2c X2.here hx rfl (hb hby d16_13) rfl k) ?_
 show own_Go p e below _ (T2.setTop (mkF m 14 #[vR a0, vI (0 : Int32)] [(.int (((fn_a0 0) &&& (255 : Int32)).toUInt32.toUInt16.toUInt32.toInt32))]))
 exact own_retN X2 hx (t := .char) Bd.returns (by simp) (hb hby d16_14) hlk eq2 ⟨rfl, N2, rfl⟩ (by decide) (by decide)
theorem pd_82 : parseMethodDescriptor "()Z" = some ⟨[], some .boolean⟩ := by decide +kernel
theorem pd_87 : parseMethodDescriptor "([BI)C" = some ⟨[(.array .byte), .int], some .char⟩ := by decide +kernel
theorem d14_0 : decode jdk_42_method_56_code 0 = .ok (.aload_n 0, 1) := by decide +kernel
theorem d14_1 : decode jdk_42_method_56_code 1 = .ok (.invokevirtual 492, 3) := by decide +kernel
theorem d14_4 : decode jdk_42_method_56_code 4 = .ok (.ifCond .eq 12, 3) := by decide +kernel
theorem d14_7 : decode jdk_42_method_56_code 7 = .ok (.aload_n 0, 1) := by decide +kernel
theorem d14_8 : decode jdk_42_method_56_code 8 = .ok (.getfield 9, 3) := by decide +kernel
theorem d14_11 : decode jdk_42_method_56_code 11 = .ok (.iload_n 1, 1) := by decide +kernel
theorem d14_12 : decode jdk_42_method_56_code 12 = .ok (.invokestatic 495, 3) := by decide +kernel
theorem d14_15 : decode jdk_42_method_56_code 15 = .ok (.ireturn, 1) := by decide +kernel
theorem pn_sca0 : plainName "java/lang/String" = true := by first | (simp [plainName, overriddenIn]; done) | decide +kernel
theorem ef_sca0 (m : MethodId) (a0 : Addr) : entryFrame m #[(.ref a0), (.int (0 : Int32))] 2 = mkF m 0 #[vR a0, vI (0 : Int32)] [] := by first | (simp [entryFrame, mkF, argsToLocals, Value.category]; done) | rfl
def Qsca0 (Z : State) (t_a0 : Addr) (k_t_a0 : ClassId) (fn_t_a0 : Nat → Int32) (f_CS : Int32) (f_SF : Value) (a0 : Addr) (h0 : Heap) (n0 : Nat) (v : Option Value) (h : Heap) (L : List Loc) : Prop := v = some (.int (nar .char (nar .char (((fn_t_a0 0) &&& (255 : Int32)).toUInt32.toUInt16.toUInt32.toInt32)))) ∧ Fr n0 L ∧ h = h0
set_option maxRecDepth 65536 in
set_option maxHeartbeats 40000000 in
theorem rmsca0 (l : Launch) (Z : State) (A0 : Array Value) (hw : ∀ d ∈ tables_1, d.before A0 Z = true) (ws : List Jvm.Cond) (t_a0 : Addr) (k_t_a0 : ClassId) (fn_t_a0 : Nat → Int32) (f_CS : Int32) (f_SF : Value) (a0 : Addr) (h0 : Heap) (n0 : Nat) (Z0 : n0 ≤ h0.size) (P_E_a0 : Exa Z h0 a0 "java/lang/String") (P_F_a0_coder : Fld Z h0 a0 "java/lang/String" "coder" "B" (.int (0 : Int32))) (P_F_a0_value : Fld Z h0 a0 "java/lang/String" "value" "[B" (.ref t_a0)) (P_V_t_a0 : own_Arf Z h0 t_a0 k_t_a0 .byte (3 : Int32) (fun i => .int (fn_t_a0 i))) (P_S_CS : Sta Z h0 "java/lang/String" "COMPACT_STRINGS" "Z" (.int f_CS)) (hn_CS : ¬ (f_CS = (0 : Int32))) (P_S_SF : Sta Z h0 "jdk/internal/util/Preconditions" "SIOOBE_FORMATTER" "Ljava/util/function/BiFunction;" f_SF) (hr_f_SF : f_SF.isRef = true) :
    MetFree l (⟨"java/lang/String", "charAt", "(I)C"⟩ : MethodName) (head1 (Jvm.Cond.code (⟨"java/lang/String", "charAt", "(I)C"⟩ : MethodName) jdk_42_method_56_code 2 (some .char) :: ws) ({ frames := 3, cells := 0, slots := 0, locals := 40 } : Room)) (fun a U => a = #[(.ref a0), (.int (0 : Int32))] ∧ Z.Warmed39 U.vm ∧ U.heap = h0) (fun _ _ _ _ _ => True) (fun _ U o U' => ∃ v L, o = .returned v ∧ Qsca0 Z t_a0 k_t_a0 fn_t_a0 f_CS f_SF a0 h0 n0 v U'.heap L ∧ FrameEnd U o U' L 0 0) := by
 refine MetFree.of_bodySF (plainFor_of_name pn_sca0) hisR ?_
 intro p e s m args below meth c s₁ Bd hml0 hP hK
 obtain ⟨rfl, hZ, hh⟩ := hP
 have hwd := fun i {d : Jvm.Cond} (h : tables_1[i]? = some d) => hw d (List.mem_of_getElem? h)
 have hx := Bd.exec
 have hby := Bd.bytes
 have hml : c.maxLocals = 2 := hml0
 have hlk : meth.locks = false := Bd.notSynchronized
 have hown : s.vm.findClass "java/lang/String" = some m.cls := findClass_of_methodNamed Bd.named
 have hnm := (name_of_methodNamed Bd.named Bd.method).1
 have X0 : Stand p l e ({ frames := 3, cells := 0, slots := 0, locals := 40 } : Room) s m #[(.ref a0), (.int (0 : Int32))] below meth c s₁ [] 0 0 := Stand.of_body Bd
 have e0 : s₁.heap = h0 := by rw [← hh, Bd.state]; rfl
 have N0 := Fr.nil n0
 show own_Go p e below (own_Fin s 0 0 (Qsca0 Z t_a0 k_t_a0 fn_t_a0 f_CS f_SF a0 h0 n0)) _
 refine own_by (fun t k => castTop (ef_sca0 m a0) k) ?_
 show own_Go p e below _ (s₁.setTop (mkF m 0 #[vR a0, vI (0 : Int32)] []))
 refine own_by (fun _ k => XS.aloadN X0.here hx rfl (hb hby d14_0) rfl rfl k) ?_
 obtain ⟨cq1, kq1, qq1a, qq1b, qq1c⟩ := isOf hZ e0 P_E_a0
 obtain ⟨_, _, ⟨T1, L1, k1, n1⟩, -, X1, ⟨Lc1, hQ1, l1, y1, z1⟩, st1⟩ := X0.virtualBack hx (y := (⟨"java/lang/String", "isLatin1", "()Z"⟩ : MethodName)) (z := (⟨"java/lang/String", "isLatin1", "()Z"⟩ : MethodName)) hown (mvT hZ (hwd 82 rfl)) (mvT hZ (hwd 83 rfl)) (notFace_of_selects (args := #[]) (mvT hZ (hwd 85 rfl))) (mvT hZ (hwd 85 rfl)) (mvT hZ (hwd 84 rfl)) (by decide) (backOf (W := 0) (rmisl l Z A0 hw [] f_CS a0 h0 n0 Z0 P_E_a0 P_F_a0_coder P_S_CS hn_CS) hZ (hwd 86 rfl) (hwd 14 rfl) (by decide) (by decide)) qq1a qq1c (g := (mkF m 1 #[vR a0, vI (0 : Int32)] [(.ref a0)])) rfl (by rw [hml]; rfl) (Steps.refl _) (argsL := []) (rest := []) (lenOf pd_82 rfl) rfl (by show 2 * 0 + _ ≤ _; exact Nat.le_of_eq rfl) (hb hby d14_1) (fun _ _ => ⟨rfl, e0, (by decide : 0 + 0 ≤ _), (by decide : 0 + 0 ≤ _)⟩)
 dsimp only [Pt.U, Pt.locs, Pt.cells, Pt.slots] at X1 l1 y1 z1 st1 hQ1
 subst l1 y1 z1
 obtain ⟨rfl, Nq1, eq1⟩ := hQ1
 have N1 := Fr.app N0 Nq1
 refine own_by (fun _ k => st1.trans k) ?_
 show own_Go p e below _ (T1.setTop (mkF m 4 #[vR a0, vI (0 : Int32)] [(.int (1 : Int32))]))
 refine own_by (fun _ k => XS.ifNo X1.here hx rfl (hb hby d14_4) rfl ((if0 _ _).trans (feq (by decide : ¬ ((1 : Int32) = (0 : Int32)))).1) k) ?_
 show own_Go p e below _ (T1.setTop (mkF m 7 #[vR a0, vI (0 : Int32)] []))
 refine own_by (fun _ k => XS.aloadN X1.here hx rfl (hb hby d14_7) rfl rfl k) ?_
 obtain ⟨T2, X2, e2, st2⟩ := getF X1 hx hZ hown (host := "") (Or.inl (hwd 60 rfl)) Via.refl eq1 P_F_a0_value (g := (mkF m 8 #[vR a0, vI (0 : Int32)] [(.ref a0)])) rfl rfl (hb hby d14_8)
 refine own_by st2 ?_
 show own_Go p e below _ (T2.setTop (mkF m 11 #[vR a0, vI (0 : Int32)] [(.ref t_a0)]))
 refine own_by (fun _ k => XS.iloadN X2.here hx rfl (hb hby d14_11) rfl k) ?_
 obtain ⟨_, _, ⟨T3, L3, k3, n3⟩, -, X3, ⟨Lc3, hQ3, l3, y3, z3⟩, st3⟩ := Jvm.LawKit.callS X2 hx (y := (⟨"java/lang/StringLatin1", "charAt", "([BI)C"⟩ : MethodName)) hown (mvT hZ (hwd 87 rfl)) (mvT hZ (hwd 88 rfl)) (mvT hZ (hwd 74 rfl)) (mvT hZ (hwd 89 rfl)) (by decide) (backOf (W := 0) (rmlca0 l Z A0 hw [] k_t_a0 fn_t_a0 f_SF t_a0 h0 n0 Z0 P_V_t_a0 P_S_SF hr_f_SF) hZ (hwd 89 rfl) (hwd 74 rfl) (by decide) (by decide)) (g := (mkF m 12 #[vR a0, vI (0 : Int32)] [(.int (0 : Int32)), (.ref t_a0)])) rfl (by rw [hml]; rfl) (argsL := [(.ref t_a0), (.int (0 : Int32))]) (rest := []) (lenOf pd_87 rfl) rfl (by show 2 * 0 + _ ≤ _; exact Nat.le_of_eq rfl) (hb hby d14_12) (fun _ _ => ⟨rfl, e2, (by decide : 0 + 0 ≤ _), (by decide : 0 + 0 ≤ _)⟩)
 dsimp only [Pt.U, Pt.locs, Pt.cells, Pt.slots] at X3 l3 y3 z3 st3 hQ3
 subst l3 y3 z3
 obtain ⟨rfl, Nq3, eq3⟩ := hQ3
 have N3 := Fr.app N1 Nq3
 refine own_by st3 ?_
 show own_Go p e below _ (T3.setTop (mkF m 15 #[vR a0, vI (0 : Int32)] [(.int (nar .char (((fn_t_a0 0) &&& (255 : Int32)).toUInt32.toUInt16.toUInt32.toInt32)))]))
 exact own_retN X3 hx (t := .char) Bd.returns (by simp) (hb hby d14_15) hlk eq3 ⟨rfl, N3, rfl⟩ (by decide) (by decide)
theorem pn_pci1 : plainName "jdk/internal/util/Preconditions" = true := by first | (simp [plainName, overriddenIn]; done) | decide +kernel
theorem ef_pci1 (m : MethodId) (r2 : Value) (hr_r2 : r2.isRef = true) : entryFrame m #[(.int (1 : Int32)), (.int (3 : Int32)), r2] 3 = mkF m 0 #[vI (1 : Int32), vI (3 : Int32), .val r2] [] := by
  rcases ref_cases hr_r2 with rfl | ⟨_, rfl⟩ <;> first | (simp [entryFrame, mkF, argsToLocals, Value.category]; done) | rfl
def Qpci1 (Z : State) (r2 : Value) (h0 : Heap) (n0 : Nat) (v : Option Value) (h : Heap) (L : List Loc) : Prop := v = some (.int (1 : Int32)) ∧ Fr n0 L ∧ h = h0
set_option maxRecDepth 65536 in
set_option maxHeartbeats 40000000 in
theorem rmpci1 (l : Launch) (Z : State) (A0 : Array Value) (hw : ∀ d ∈ tables_1, d.before A0 Z = true) (ws : List Jvm.Cond) (r2 : Value) (h0 : Heap) (n0 : Nat) (Z0 : n0 ≤ h0.size) (hr_r2 : r2.isRef = true) :
    MetFree l (⟨"jdk/internal/util/Preconditions", "checkIndex", "(IILjava/util/function/BiFunction;)I"⟩ : MethodName) (head1 (Jvm.Cond.code (⟨"jdk/internal/util/Preconditions", "checkIndex", "(IILjava/util/function/BiFunction;)I"⟩ : MethodName) jdk_41_method_11_code 3 (some .int) :: ws) ({ frames := 0, cells := 0, slots := 0, locals := 0 } : Room)) (fun a U => a = #[(.int (1 : Int32)), (.int (3 : Int32)), r2] ∧ Z.Warmed39 U.vm ∧ U.heap = h0) (fun _ _ _ _ _ => True) (fun _ U o U' => ∃ v L, o = .returned v ∧ Qpci1 Z r2 h0 n0 v U'.heap L ∧ FrameEnd U o U' L 0 0) := by
 refine MetFree.of_bodySF (plainFor_of_name pn_pci1) hisR ?_
 intro p e s m args below meth c s₁ Bd hml0 hP hK
 obtain ⟨rfl, hZ, hh⟩ := hP
 have hwd := fun i {d : Jvm.Cond} (h : tables_1[i]? = some d) => hw d (List.mem_of_getElem? h)
 have hx := Bd.exec
 have hby := Bd.bytes
 have hml : c.maxLocals = 3 := hml0
 have hlk : meth.locks = false := Bd.notSynchronized
 have hown : s.vm.findClass "jdk/internal/util/Preconditions" = some m.cls := findClass_of_methodNamed Bd.named
 have hnm := (name_of_methodNamed Bd.named Bd.method).1
 have X0 : Stand p l e ({ frames := 0, cells := 0, slots := 0, locals := 0 } : Room) s m #[(.int (1 : Int32)), (.int (3 : Int32)), r2] below meth c s₁ [] 0 0 := Stand.of_body Bd
 have e0 : s₁.heap = h0 := by rw [← hh, Bd.state]; rfl
 have N0 := Fr.nil n0
 show own_Go p e below (own_Fin s 0 0 (Qpci1 Z r2 h0 n0)) _
 refine own_by (fun t k => castTop (ef_pci1 m r2 hr_r2) k) ?_
 show own_Go p e below _ (s₁.setTop (mkF m 0 #[vI (1 : Int32), vI (3 : Int32), .val r2] []))
 refine own_by (fun _ k => XS.iloadN X0.here hx rfl (hb hby d18_0) rfl k) ?_
 refine own_by (fun _ k => XS.ifNo X0.here hx rfl (hb hby d18_1) rfl ((if0 _ _).trans (flt (by decide : ¬ ((1 : Int32) < (0 : Int32)))).1) k) ?_
 show own_Go p e below _ (s₁.setTop (mkF m 4 #[vI (1 : Int32), vI (3 : Int32), .val r2] []))
 refine own_by (fun _ k => XS.iloadN X0.here hx rfl (hb hby d18_4) rfl k) ?_
 refine own_by (fun _ k => XS.iloadN X0.here hx rfl (hb hby d18_5) rfl k) ?_
 refine own_by (fun _ k => XS.icmpYes X0.here hx rfl (pc0 := 6) (pc' := 16) rfl (hb hby d18_6) rfl (tlt (by decide : (1 : Int32) < (3 : Int32))).1 (by decide) (by decide) k) ?_
 show own_Go p e below _ (s₁.setTop (mkF m 16 #[vI (1 : Int32), vI (3 : Int32), .val r2] []))
 refine own_by (fun _ k => XS.iloadN X0.here hx rfl (hb hby d18_16) rfl k) ?_
 exact own_retI X0 hx Bd.returns (hb hby d18_17) hlk e0 ⟨rfl, N0, rfl⟩ (by decide) (by decide)
theorem pn_sci1 : plainName "java/lang/String" = true := by first | (simp [plainName, overriddenIn]; done) | decide +kernel
theorem ef_sci1 (m : MethodId)  : entryFrame m #[(.int (1 : Int32)), (.int (3 : Int32))] 2 = mkF m 0 #[vI (1 : Int32), vI (3 : Int32)] [] := by first | (simp [entryFrame, mkF, argsToLocals, Value.category]; done) | rfl
def Qsci1 (Z : State) (f_SF : Value) (h0 : Heap) (n0 : Nat) (v : Option Value) (h : Heap) (L : List Loc) : Prop := v = none ∧ Fr n0 L ∧ h = h0
set_option maxRecDepth 65536 in
set_option maxHeartbeats 40000000 in
theorem rmsci1 (l : Launch) (Z : State) (A0 : Array Value) (hw : ∀ d ∈ tables_1, d.before A0 Z = true) (ws : List Jvm.Cond) (f_SF : Value) (h0 : Heap) (n0 : Nat) (Z0 : n0 ≤ h0.size) (P_S_SF : Sta Z h0 "jdk/internal/util/Preconditions" "SIOOBE_FORMATTER" "Ljava/util/function/BiFunction;" f_SF) (hr_f_SF : f_SF.isRef = true) :
    MetFree l (⟨"java/lang/String", "checkIndex", "(II)V"⟩ : MethodName) (head1 (Jvm.Cond.code (⟨"java/lang/String", "checkIndex", "(II)V"⟩ : MethodName) jdk_42_method_155_code 2 none :: ws) ({ frames := 1, cells := 0, slots := 0, locals := 14 } : Room)) (fun a U => a = #[(.int (1 : Int32)), (.int (3 : Int32))] ∧ Z.Warmed39 U.vm ∧ U.heap = h0) (fun _ _ _ _ _ => True) (fun _ U o U' => ∃ v L, o = .returned v ∧ Qsci1 Z f_SF h0 n0 v U'.heap L ∧ FrameEnd U o U' L 0 0) := by
 refine MetFree.of_bodySF (plainFor_of_name pn_sci1) hisR ?_
 intro p e s m args below meth c s₁ Bd hml0 hP hK
 obtain ⟨rfl, hZ, hh⟩ := hP
 have hwd := fun i {d : Jvm.Cond} (h : tables_1[i]? = some d) => hw d (List.mem_of_getElem? h)
 have hx := Bd.exec
 have hby := Bd.bytes
 have hml : c.maxLocals = 2 := hml0
 have hlk : meth.locks = false := Bd.notSynchronized
 have hown : s.vm.findClass "java/lang/String" = some m.cls := findClass_of_methodNamed Bd.named
 have hnm := (name_of_methodNamed Bd.named Bd.method).1
 have X0 : Stand p l e ({ frames := 1, cells := 0, slots := 0, locals := 14 } : Room) s m #[(.int (1 : Int32)), (.int (3 : Int32))] below meth c s₁ [] 0 0 := Stand.of_body Bd
 have e0 : s₁.heap = h0 := by rw [← hh, Bd.state]; rfl
 have N0 := Fr.nil n0
 show own_Go p e below (own_Fin s 0 0 (Qsci1 Z f_SF h0 n0)) _
 refine own_by (fun t k => castTop (ef_sci1 m ) k) ?_
 show own_Go p e below _ (s₁.setTop (mkF m 0 #[vI (1 : Int32), vI (3 : Int32)] []))
 refine own_by (fun _ k => XS.iloadN X0.here hx rfl (hb hby d17_0) rfl k) ?_
 refine own_by (fun _ k => XS.iloadN X0.here hx rfl (hb hby d17_1) rfl k) ?_
 obtain ⟨T1, X1, e1, st1⟩ := getS2 X0 hx hZ hown (host := "") (Or.inl (hwd 93 rfl)) Via.refl e0 P_S_SF (g := (mkF m 2 #[vI (1 : Int32), vI (3 : Int32)] [(.int (3 : Int32)), (.int (1 : Int32))])) rfl (hb hby d17_2)
 refine own_by st1 ?_
 show own_Go p e below _ (T1.setTop (mkF m 5 #[vI (1 : Int32), vI (3 : Int32)] [f_SF, (.int (3 : Int32)), (.int (1 : Int32))]))
 obtain ⟨_, _, ⟨T2, L2, k2, n2⟩, -, X2, ⟨Lc2, hQ2, l2, y2, z2⟩, st2⟩ := Jvm.LawKit.callS X1 hx (y := (⟨"jdk/internal/util/Preconditions", "checkIndex", "(IILjava/util/function/BiFunction;)I"⟩ : MethodName)) hown (mvT hZ (hwd 95 rfl)) (mvT hZ (hwd 96 rfl)) (mvT hZ (hwd 94 rfl)) (mvT hZ (hwd 97 rfl)) (by decide) (backOf (W := 0) (rmpci1 l Z A0 hw [] f_SF h0 n0 Z0 hr_f_SF) hZ (hwd 97 rfl) (hwd 94 rfl) (by decide) (by decide)) (g := (mkF m 5 #[vI (1 : Int32), vI (3 : Int32)] [f_SF, (.int (3 : Int32)), (.int (1 : Int32))])) rfl (by rw [hml]; rfl) (argsL := [(.int (1 : Int32)), (.int (3 : Int32)), f_SF]) (rest := []) (lenOf pd_95 rfl) rfl (by show 2 * 0 + _ ≤ _; exact Nat.le_of_eq rfl) (hb hby d17_5) (fun _ _ => ⟨rfl, e1, (by decide : 0 + 0 ≤ _), (by decide : 0 + 0 ≤ _)⟩)
 dsimp only [Pt.U, Pt.locs, Pt.cells, Pt.slots] at X2 l2 y2 z2 st2 hQ2
 subst l2 y2 z2
 obtain ⟨rfl, Nq2, eq2⟩ := hQ2
 have N2 := Fr.app N0 Nq2
 refine own_by st2 ?_
 show own_Go p e below _ (T2.setTop (mkF m 8 #[vI (1 : Int32), vI (3 : Int32)] [(.int (1 : Int32))]))
 refine own_by (fun _ k => XS.pop X2.here hx rfl (hb hby d17_8) rfl rfl k) ?_
 show own_Go p e below _ (T2.setTop (mkF m 9 #[vI (1 : Int32), vI (3 : Int32)] []))
 exact own_ret0 X2 hx Bd.returns (hb hby d17_9) hlk eq2 ⟨rfl, N2, rfl⟩ (by decide) (by decide)
theorem pn_lca1 : plainName "java/lang/StringLatin1" = true := by first | (simp [plainName, overriddenIn]; done) | decide +kernel
theorem ef_lca1 (m : MethodId) (a0 : Addr) : entryFrame m #[(.ref a0), (.int (1 : Int32))] 2 = mkF m 0 #[vR a0, vI (1 : Int32)] [] := by first | (simp [entryFrame, mkF, argsToLocals, Value.category]; done) | rfl
def Qlca1 (Z : State) (k_a0 : ClassId) (fn_a0 : Nat → Int32) (f_SF : Value) (a0 : Addr) (h0 : Heap) (n0 : Nat) (v : Option Value) (h : Heap) (L : List Loc) : Prop := v = some (.int (nar .char (((fn_a0 1) &&& (255 : Int32)).toUInt32.toUInt16.toUInt32.toInt32))) ∧ Fr n0 L ∧ h = h0
set_option maxRecDepth 65536 in
set_option maxHeartbeats 40000000 in
theorem rmlca1 (l : Launch) (Z : State) (A0 : Array Value) (hw : ∀ d ∈ tables_1, d.before A0 Z = true) (ws : List Jvm.Cond) (k_a0 : ClassId) (fn_a0 : Nat → Int32) (f_SF : Value) (a0 : Addr) (h0 : Heap) (n0 : Nat) (Z0 : n0 ≤ h0.size) (P_V_a0 : own_Arf Z h0 a0 k_a0 .byte (3 : Int32) (fun i => .int (fn_a0 i))) (P_S_SF : Sta Z h0 "jdk/internal/util/Preconditions" "SIOOBE_FORMATTER" "Ljava/util/function/BiFunction;" f_SF) (hr_f_SF : f_SF.isRef = true) :
    MetFree l (⟨"java/lang/StringLatin1", "charAt", "([BI)C"⟩ : MethodName) (head1 (Jvm.Cond.code (⟨"java/lang/StringLatin1", "charAt", "([BI)C"⟩ : MethodName) jdk_43_method_2_code 2 (some .char) :: ws) ({ frames := 2, cells := 0, slots := 0, locals := 27 } : Room)) (fun a U => a = #[(.ref a0), (.int (1 : Int32))] ∧ Z.Warmed39 U.vm ∧ U.heap = h0) (fun _ _ _ _ _ => True) (fun _ U o U' => ∃ v L, o = .returned v ∧ Qlca1 Z k_a0 fn_a0 f_SF a0 h0 n0 v U'.heap L ∧ FrameEnd U o U' L 0 0) := by
 refine MetFree.of_bodySF (plainFor_of_name pn_lca1) hisR ?_
 intro p e s m args below meth c s₁ Bd hml0 hP hK
 obtain ⟨rfl, hZ, hh⟩ := hP
 have hwd := fun i {d : Jvm.Cond} (h : tables_1[i]? = some d) => hw d (List.mem_of_getElem? h)
 have hx := Bd.exec
 have hby := Bd.bytes
 have hml : c.maxLocals = 2 := hml0
 have hlk : meth.locks = false := Bd.notSynchronized
 have hown : s.vm.findClass "java/lang/StringLatin1" = some m.cls := findClass_of_methodNamed Bd.named
 have hnm := (name_of_methodNamed Bd.named Bd.method).1
 have X0 : Stand p l e ({ frames := 2, cells := 0, slots := 0, locals := 27 } : Room) s m #[(.ref a0), (.int (1 : Int32))] below meth c s₁ [] 0 0 := Stand.of_body Bd
 have e0 : s₁.heap = h0 := by rw [← hh, Bd.state]; rfl
 have N0 := Fr.nil n0
 show own_Go p e below (own_Fin s 0 0 (Qlca1 Z k_a0 fn_a0 f_SF a0 h0 n0)) _
 refine own_by (fun t k => castTop (ef_lca1 m a0) k) ?_
 show own_Go p e below _ (s₁.setTop (mkF m 0 #[vR a0, vI (1 : Int32)] []))
 refine own_by (fun _ k => XS.iloadN X0.here hx rfl (hb hby d16_0) rfl k) ?_
 refine own_by (fun _ k => XS.aloadN X0.here hx rfl (hb hby d16_1) rfl rfl k) ?_
 obtain ⟨cl1, Ar1, qq1, S1, M1, H1, G1⟩ := id P_V_a0
 refine own_by (fun t k => X0.arraylength hx (by rw [e0]; exact Ar1.1) (State.isArrayOf_alike hZ.alike Ar1.2.1) (g := (mkF m 2 #[vR a0, vI (1 : Int32)] [(.ref a0), (.int (1 : Int32))])) rfl rfl (hb hby d16_2) _ k) ?_
 rw [len_of S1 M1]
 show own_Go p e below _ (s₁.setTop (mkF m 3 #[vR a0, vI (1 : Int32)] [(.int (3 : Int32)), (.int (1 : Int32))]))
 obtain ⟨_, _, ⟨T2, L2, k2, n2⟩, -, X2, ⟨Lc2, hQ2, l2, y2, z2⟩, st2⟩ := Jvm.LawKit.callS X0 hx (y := (⟨"java/lang/String", "checkIndex", "(II)V"⟩ : MethodName)) hown (mvT hZ (hwd 90 rfl)) (mvT hZ (hwd 91 rfl)) (mvT hZ (hwd 14 rfl)) (mvT hZ (hwd 92 rfl)) (by decide) (backOf (W := 0) (rmsci1 l Z A0 hw [] f_SF h0 n0 Z0 P_S_SF hr_f_SF) hZ (hwd 92 rfl) (hwd 14 rfl) (by decide) (by decide)) (g := (mkF m 3 #[vR a0, vI (1 : Int32)] [(.int (3 : Int32)), (.int (1 : Int32))])) rfl (by rw [hml]; rfl) (argsL := [(.int (1 : Int32)), (.int (3 : Int32))]) (rest := []) (lenOf pd_90 rfl) rfl (by show 2 * 0 + _ ≤ _; exact Nat.le_of_eq rfl) (hb hby d16_3) (fun _ _ => ⟨rfl, e0, (by decide : 0 + 0 ≤ _), (by decide : 0 + 0 ≤ _)⟩)
 dsimp only [Pt.U, Pt.locs, Pt.cells, Pt.slots] at X2 l2 y2 z2 st2 hQ2
 subst l2 y2 z2
 obtain ⟨rfl, Nq2, eq2⟩ := hQ2
 have N2 := Fr.app N0 Nq2
 refine own_by st2 ?_
 show own_Go p e below _ (T2.setTop (mkF m 6 #[vR a0, vI (1 : Int32)] []))
 refine own_by (fun _ k => XS.aloadN X2.here hx rfl (hb hby d16_6) rfl rfl k) ?_
 refine own_by (fun _ k => XS.iloadN X2.here hx rfl (hb hby d16_7) rfl k) ?_
 obtain ⟨cl3, Ar3, qq3, S3, M3, H3, G3⟩ := id P_V_a0
 have hin3 : ¬ ((1 : Int32) < 0 ∨ cl3.slots.size ≤ ((1 : Int32)).toNatClampNeg) := inb_of S3 ⟨by decide, by decide⟩
 refine own_by (fun t k => X2.baloadBytes hx (j := (1 : Int32)) (v := (.int (fn_a0 1))) (by rw [eq2]; exact Ar3.1) (State.isArrayOf_alike hZ.alike Ar3.2.1) Ar3.2.2 hin3 (H3 _ (Nat.lt_of_not_le fun y => hin3 (Or.inr y))) (g := (mkF m 8 #[vR a0, vI (1 : Int32)] [(.int (1 : Int32)), (.ref a0)])) rfl rfl (hb hby d16_8) _ k) ?_
 show own_Go p e below _ (T2.setTop (mkF m 9 #[vR a0, vI (1 : Int32)] [(.int (fn_a0 1))]))
 refine own_by (fun _ k => XS.sipush X2.here hx rfl (hb hby d16_9) k) ?_
 refine own_by (fun _ k => XS.iand X2.here hx rfl (hb hby d16_12) rfl k) ?_
 show own_Go p e below _ (T2.setTop (mkF m 13 #[vR a0, vI (1 : Int32)] [(.int ((fn_a0 1) &&& (255 : Int32)))]))
 refine own_by (fun _ k => XS.i2c X2.here hx rfl (hb hby d16_13) rfl k) ?_
 show own_Go p e below _ (T2.setTop (mkF m 14 #[vR a0, vI (1 : Int32)] [(.int (((fn_a0 1) &&& (255 : Int32)).toUInt32.toUInt16.toUInt32.toInt32))]))
 exact own_retN X2 hx (t := .char) Bd.returns (by simp) (hb hby d16_14) hlk eq2 ⟨rfl, N2, rfl⟩ (by decide) (by decide)
theorem pn_sca1 : plainName "java/lang/String" = true := by first | (simp [plainName, overriddenIn]; done) | decide +kernel
theorem ef_sca1 (m : MethodId) (a0 : Addr) : entryFrame m #[(.ref a0), (.int (1 : Int32))] 2 = mkF m 0 #[vR a0, vI (1 : Int32)] [] := by first | (simp [entryFrame, mkF, argsToLocals, Value.category]; done) | rfl
def Qsca1 (Z : State) (t_a0 : Addr) (k_t_a0 : ClassId) (fn_t_a0 : Nat → Int32) (f_CS : Int32) (f_SF : Value) (a0 : Addr) (h0 : Heap) (n0 : Nat) (v : Option Value) (h : Heap) (L : List Loc) : Prop := v = some (.int (nar .char (nar .char (((fn_t_a0 1) &&& (255 : Int32)).toUInt32.toUInt16.toUInt32.toInt32)))) ∧ Fr n0 L ∧ h = h0
set_option maxRecDepth 65536 in
set_option maxHeartbeats 40000000 in
theorem rmsca1 (l : Launch) (Z : State) (A0 : Array Value) (hw : ∀ d ∈ tables_1, d.before A0 Z = true) (ws : List Jvm.Cond) (t_a0 : Addr) (k_t_a0 : ClassId) (fn_t_a0 : Nat → Int32) (f_CS : Int32) (f_SF : Value) (a0 : Addr) (h0 : Heap) (n0 : Nat) (Z0 : n0 ≤ h0.size) (P_E_a0 : Exa Z h0 a0 "java/lang/String") (P_F_a0_coder : Fld Z h0 a0 "java/lang/String" "coder" "B" (.int (0 : Int32))) (P_F_a0_value : Fld Z h0 a0 "java/lang/String" "value" "[B" (.ref t_a0)) (P_V_t_a0 : own_Arf Z h0 t_a0 k_t_a0 .byte (3 : Int32) (fun i => .int (fn_t_a0 i))) (P_S_CS : Sta Z h0 "java/lang/String" "COMPACT_STRINGS" "Z" (.int f_CS)) (hn_CS : ¬ (f_CS = (0 : Int32))) (P_S_SF : Sta Z h0 "jdk/internal/util/Preconditions" "SIOOBE_FORMATTER" "Ljava/util/function/BiFunction;" f_SF) (hr_f_SF : f_SF.isRef = true) :
    MetFree l (⟨"java/lang/String", "charAt", "(I)C"⟩ : MethodName) (head1 (Jvm.Cond.code (⟨"java/lang/String", "charAt", "(I)C"⟩ : MethodName) jdk_42_method_56_code 2 (some .char) :: ws) ({ frames := 3, cells := 0, slots := 0, locals := 40 } : Room)) (fun a U => a = #[(.ref a0), (.int (1 : Int32))] ∧ Z.Warmed39 U.vm ∧ U.heap = h0) (fun _ _ _ _ _ => True) (fun _ U o U' => ∃ v L, o = .returned v ∧ Qsca1 Z t_a0 k_t_a0 fn_t_a0 f_CS f_SF a0 h0 n0 v U'.heap L ∧ FrameEnd U o U' L 0 0) := by
 refine MetFree.of_bodySF (plainFor_of_name pn_sca1) hisR ?_
 intro p e s m args below meth c s₁ Bd hml0 hP hK
 obtain ⟨rfl, hZ, hh⟩ := hP
 have hwd := fun i {d : Jvm.Cond} (h : tables_1[i]? = some d) => hw d (List.mem_of_getElem? h)
 have hx := Bd.exec
 have hby := Bd.bytes
 have hml : c.maxLocals = 2 := hml0
 have hlk : meth.locks = false := Bd.notSynchronized
 have hown : s.vm.findClass "java/lang/String" = some m.cls := findClass_of_methodNamed Bd.named
 have hnm := (name_of_methodNamed Bd.named Bd.method).1
 have X0 : Stand p l e ({ frames := 3, cells := 0, slots := 0, locals := 40 } : Room) s m #[(.ref a0), (.int (1 : Int32))] below meth c s₁ [] 0 0 := Stand.of_body Bd
 have e0 : s₁.heap = h0 := by rw [← hh, Bd.state]; rfl
 have N0 := Fr.nil n0
 show own_Go p e below (own_Fin s 0 0 (Qsca1 Z t_a0 k_t_a0 fn_t_a0 f_CS f_SF a0 h0 n0)) _
 refine own_by (fun t k => castTop (ef_sca1 m a0) k) ?_
 show own_Go p e below _ (s₁.setTop (mkF m 0 #[vR a0, vI (1 : Int32)] []))
 refine own_by (fun _ k => XS.aloadN X0.here hx rfl (hb hby d14_0) rfl rfl k) ?_
 obtain ⟨cq1, kq1, qq1a, qq1b, qq1c⟩ := isOf hZ e0 P_E_a0
 obtain ⟨_, _, ⟨T1, L1, k1, n1⟩, -, X1, ⟨Lc1, hQ1, l1, y1, z1⟩, st1⟩ := X0.virtualBack hx (y := (⟨"java/lang/String", "isLatin1", "()Z"⟩ : MethodName)) (z := (⟨"java/lang/String", "isLatin1", "()Z"⟩ : MethodName)) hown (mvT hZ (hwd 82 rfl)) (mvT hZ (hwd 83 rfl)) (notFace_of_selects (args := #[]) (mvT hZ (hwd 85 rfl))) (mvT hZ (hwd 85 rfl)) (mvT hZ (hwd 84 rfl)) (by decide) (backOf (W := 0) (rmisl l Z A0 hw [] f_CS a0 h0 n0 Z0 P_E_a0 P_F_a0_coder P_S_CS hn_CS) hZ (hwd 86 rfl) (hwd 14 rfl) (by decide) (by decide)) qq1a qq1c (g := (mkF m 1 #[vR a0, vI (1 : Int32)] [(.ref a0)])) rfl (by rw [hml]; rfl) (Steps.refl _) (argsL := []) (rest := []) (lenOf pd_82 rfl) rfl (by show 2 * 0 + _ ≤ _; exact Nat.le_of_eq rfl) (hb hby d14_1) (fun _ _ => ⟨rfl, e0, (by decide : 0 + 0 ≤ _), (by decide : 0 + 0 ≤ _)⟩)
 dsimp only [Pt.U, Pt.locs, Pt.cells, Pt.slots] at X1 l1 y1 z1 st1 hQ1
 subst l1 y1 z1
 obtain ⟨rfl, Nq1, eq1⟩ := hQ1
 have N1 := Fr.app N0 Nq1
 refine own_by (fun _ k => st1.trans k) ?_
 show own_Go p e below _ (T1.setTop (mkF m 4 #[vR a0, vI (1 : Int32)] [(.int (1 : Int32))]))
 refine own_by (fun _ k => XS.ifNo X1.here hx rfl (hb hby d14_4) rfl ((if0 _ _).trans (feq (by decide : ¬ ((1 : Int32) = (0 : Int32)))).1) k) ?_
 show own_Go p e below _ (T1.setTop (mkF m 7 #[vR a0, vI (1 : Int32)] []))
 refine own_by (fun _ k => XS.aloadN X1.here hx rfl (hb hby d14_7) rfl rfl k) ?_
 obtain ⟨T2, X2, e2, st2⟩ := getF X1 hx hZ hown (host := "") (Or.inl (hwd 60 rfl)) Via.refl eq1 P_F_a0_value (g := (mkF m 8 #[vR a0, vI (1 : Int32)] [(.ref a0)])) rfl rfl (hb hby d14_8)
 refine own_by st2 ?_
 show own_Go p e below _ (T2.setTop (mkF m 11 #[vR a0, vI (1 : Int32)] [(.ref t_a0)]))
 refine own_by (fun _ k => XS.iloadN X2.here hx rfl (hb hby d14_11) rfl k) ?_
 obtain ⟨_, _, ⟨T3, L3, k3, n3⟩, -, X3, ⟨Lc3, hQ3, l3, y3, z3⟩, st3⟩ := Jvm.LawKit.callS X2 hx (y := (⟨"java/lang/StringLatin1", "charAt", "([BI)C"⟩ : MethodName)) hown (mvT hZ (hwd 87 rfl)) (mvT hZ (hwd 88 rfl)) (mvT hZ (hwd 74 rfl)) (mvT hZ (hwd 89 rfl)) (by decide) (backOf (W := 0) (rmlca1 l Z A0 hw [] k_t_a0 fn_t_a0 f_SF t_a0 h0 n0 Z0 P_V_t_a0 P_S_SF hr_f_SF) hZ (hwd 89 rfl) (hwd 74 rfl) (by decide) (by decide)) (g := (mkF m 12 #[vR a0, vI (1 : Int32)] [(.int (1 : Int32)), (.ref t_a0)])) rfl (by rw [hml]; rfl) (argsL := [(.ref t_a0), (.int (1 : Int32))]) (rest := []) (lenOf pd_87 rfl) rfl (by show 2 * 0 + _ ≤ _; exact Nat.le_of_eq rfl) (hb hby d14_12) (fun _ _ => ⟨rfl, e2, (by decide : 0 + 0 ≤ _), (by decide : 0 + 0 ≤ _)⟩)
 dsimp only [Pt.U, Pt.locs, Pt.cells, Pt.slots] at X3 l3 y3 z3 st3 hQ3
 subst l3 y3 z3
 obtain ⟨rfl, Nq3, eq3⟩ := hQ3
 have N3 := Fr.app N1 Nq3
 refine own_by st3 ?_
 show own_Go p e below _ (T3.setTop (mkF m 15 #[vR a0, vI (1 : Int32)] [(.int (nar .char (((fn_t_a0 1) &&& (255 : Int32)).toUInt32.toUInt16.toUInt32.toInt32)))]))
 exact own_retN X3 hx (t := .char) Bd.returns (by simp) (hb hby d14_15) hlk eq3 ⟨rfl, N3, rfl⟩ (by decide) (by decide)
theorem pn_pci2 : plainName "jdk/internal/util/Preconditions" = true := by first | (simp [plainName, overriddenIn]; done) | decide +kernel
theorem ef_pci2 (m : MethodId) (r2 : Value) (hr_r2 : r2.isRef = true) : entryFrame m #[(.int (2 : Int32)), (.int (3 : Int32)), r2] 3 = mkF m 0 #[vI (2 : Int32), vI (3 : Int32), .val r2] [] := by
  rcases ref_cases hr_r2 with rfl | ⟨_, rfl⟩ <;> first | (simp [entryFrame, mkF, argsToLocals, Value.category]; done) | rfl
def Qpci2 (Z : State) (r2 : Value) (h0 : Heap) (n0 : Nat) (v : Option Value) (h : Heap) (L : List Loc) : Prop := v = some (.int (2 : Int32)) ∧ Fr n0 L ∧ h = h0
set_option maxRecDepth 65536 in
set_option maxHeartbeats 40000000 in
theorem rmpci2 (l : Launch) (Z : State) (A0 : Array Value) (hw : ∀ d ∈ tables_1, d.before A0 Z = true) (ws : List Jvm.Cond) (r2 : Value) (h0 : Heap) (n0 : Nat) (Z0 : n0 ≤ h0.size) (hr_r2 : r2.isRef = true) :
    MetFree l (⟨"jdk/internal/util/Preconditions", "checkIndex", "(IILjava/util/function/BiFunction;)I"⟩ : MethodName) (head1 (Jvm.Cond.code (⟨"jdk/internal/util/Preconditions", "checkIndex", "(IILjava/util/function/BiFunction;)I"⟩ : MethodName) jdk_41_method_11_code 3 (some .int) :: ws) ({ frames := 0, cells := 0, slots := 0, locals := 0 } : Room)) (fun a U => a = #[(.int (2 : Int32)), (.int (3 : Int32)), r2] ∧ Z.Warmed39 U.vm ∧ U.heap = h0) (fun _ _ _ _ _ => True) (fun _ U o U' => ∃ v L, o = .returned v ∧ Qpci2 Z r2 h0 n0 v U'.heap L ∧ FrameEnd U o U' L 0 0) := by
 refine MetFree.of_bodySF (plainFor_of_name pn_pci2) hisR ?_
 intro p e s m args below meth c s₁ Bd hml0 hP hK
 obtain ⟨rfl, hZ, hh⟩ := hP
 have hwd := fun i {d : Jvm.Cond} (h : tables_1[i]? = some d) => hw d (List.mem_of_getElem? h)
 have hx := Bd.exec
 have hby := Bd.bytes
 have hml : c.maxLocals = 3 := hml0
 have hlk : meth.locks = false := Bd.notSynchronized
 have hown : s.vm.findClass "jdk/internal/util/Preconditions" = some m.cls := findClass_of_methodNamed Bd.named
 have hnm := (name_of_methodNamed Bd.named Bd.method).1
 have X0 : Stand p l e ({ frames := 0, cells := 0, slots := 0, locals := 0 } : Room) s m #[(.int (2 : Int32)), (.int (3 : Int32)), r2] below meth c s₁ [] 0 0 := Stand.of_body Bd
 have e0 : s₁.heap = h0 := by rw [← hh, Bd.state]; rfl
 have N0 := Fr.nil n0
 show own_Go p e below (own_Fin s 0 0 (Qpci2 Z r2 h0 n0)) _
 refine own_by (fun t k => castTop (ef_pci2 m r2 hr_r2) k) ?_
 show own_Go p e below _ (s₁.setTop (mkF m 0 #[vI (2 : Int32), vI (3 : Int32), .val r2] []))
 refine own_by (fun _ k => XS.iloadN X0.here hx rfl (hb hby d18_0) rfl k) ?_
 refine own_by (fun _ k => XS.ifNo X0.here hx rfl (hb hby d18_1) rfl ((if0 _ _).trans (flt (by decide : ¬ ((2 : Int32) < (0 : Int32)))).1) k) ?_
 show own_Go p e below _ (s₁.setTop (mkF m 4 #[vI (2 : Int32), vI (3 : Int32), .val r2] []))
 refine own_by (fun _ k => XS.iloadN X0.here hx rfl (hb hby d18_4) rfl k) ?_
 refine own_by (fun _ k => XS.iloadN X0.here hx rfl (hb hby d18_5) rfl k) ?_
 refine own_by (fun _ k => XS.icmpYes X0.here hx rfl (pc0 := 6) (pc' := 16) rfl (hb hby d18_6) rfl (tlt (by decide : (2 : Int32) < (3 : Int32))).1 (by decide) (by decide) k) ?_
 show own_Go p e below _ (s₁.setTop (mkF m 16 #[vI (2 : Int32), vI (3 : Int32), .val r2] []))
 refine own_by (fun _ k => XS.iloadN X0.here hx rfl (hb hby d18_16) rfl k) ?_
 exact own_retI X0 hx Bd.returns (hb hby d18_17) hlk e0 ⟨rfl, N0, rfl⟩ (by decide) (by decide)
theorem pn_sci2 : plainName "java/lang/String" = true := by first | (simp [plainName, overriddenIn]; done) | decide +kernel
theorem ef_sci2 (m : MethodId)  : entryFrame m #[(.int (2 : Int32)), (.int (3 : Int32))] 2 = mkF m 0 #[vI (2 : Int32), vI (3 : Int32)] [] := by first | (simp [entryFrame, mkF, argsToLocals, Value.category]; done) | rfl
def Qsci2 (Z : State) (f_SF : Value) (h0 : Heap) (n0 : Nat) (v : Option Value) (h : Heap) (L : List Loc) : Prop := v = none ∧ Fr n0 L ∧ h = h0
set_option maxRecDepth 65536 in
set_option maxHeartbeats 40000000 in
theorem rmsci2 (l : Launch) (Z : State) (A0 : Array Value) (hw : ∀ d ∈ tables_1, d.before A0 Z = true) (ws : List Jvm.Cond) (f_SF : Value) (h0 : Heap) (n0 : Nat) (Z0 : n0 ≤ h0.size) (P_S_SF : Sta Z h0 "jdk/internal/util/Preconditions" "SIOOBE_FORMATTER" "Ljava/util/function/BiFunction;" f_SF) (hr_f_SF : f_SF.isRef = true) :
    MetFree l (⟨"java/lang/String", "checkIndex", "(II)V"⟩ : MethodName) (head1 (Jvm.Cond.code (⟨"java/lang/String", "checkIndex", "(II)V"⟩ : MethodName) jdk_42_method_155_code 2 none :: ws) ({ frames := 1, cells := 0, slots := 0, locals := 14 } : Room)) (fun a U => a = #[(.int (2 : Int32)), (.int (3 : Int32))] ∧ Z.Warmed39 U.vm ∧ U.heap = h0) (fun _ _ _ _ _ => True) (fun _ U o U' => ∃ v L, o = .returned v ∧ Qsci2 Z f_SF h0 n0 v U'.heap L ∧ FrameEnd U o U' L 0 0) := by
 refine MetFree.of_bodySF (plainFor_of_name pn_sci2) hisR ?_
 intro p e s m args below meth c s₁ Bd hml0 hP hK
 obtain ⟨rfl, hZ, hh⟩ := hP
 have hwd := fun i {d : Jvm.Cond} (h : tables_1[i]? = some d) => hw d (List.mem_of_getElem? h)
 have hx := Bd.exec
 have hby := Bd.bytes
 have hml : c.maxLocals = 2 := hml0
 have hlk : meth.locks = false := Bd.notSynchronized
 have hown : s.vm.findClass "java/lang/String" = some m.cls := findClass_of_methodNamed Bd.named
 have hnm := (name_of_methodNamed Bd.named Bd.method).1
 have X0 : Stand p l e ({ frames := 1, cells := 0, slots := 0, locals := 14 } : Room) s m #[(.int (2 : Int32)), (.int (3 : Int32))] below meth c s₁ [] 0 0 := Stand.of_body Bd
 have e0 : s₁.heap = h0 := by rw [← hh, Bd.state]; rfl
 have N0 := Fr.nil n0
 show own_Go p e below (own_Fin s 0 0 (Qsci2 Z f_SF h0 n0)) _
 refine own_by (fun t k => castTop (ef_sci2 m ) k) ?_
 show own_Go p e below _ (s₁.setTop (mkF m 0 #[vI (2 : Int32), vI (3 : Int32)] []))
 refine own_by (fun _ k => XS.iloadN X0.here hx rfl (hb hby d17_0) rfl k) ?_
 refine own_by (fun _ k => XS.iloadN X0.here hx rfl (hb hby d17_1) rfl k) ?_
 obtain ⟨T1, X1, e1, st1⟩ := getS2 X0 hx hZ hown (host := "") (Or.inl (hwd 93 rfl)) Via.refl e0 P_S_SF (g := (mkF m 2 #[vI (2 : Int32), vI (3 : Int32)] [(.int (3 : Int32)), (.int (2 : Int32))])) rfl (hb hby d17_2)
 refine own_by st1 ?_
 show own_Go p e below _ (T1.setTop (mkF m 5 #[vI (2 : Int32), vI (3 : Int32)] [f_SF, (.int (3 : Int32)), (.int (2 : Int32))]))
 obtain ⟨_, _, ⟨T2, L2, k2, n2⟩, -, X2, ⟨Lc2, hQ2, l2, y2, z2⟩, st2⟩ := Jvm.LawKit.callS X1 hx (y := (⟨"jdk/internal/util/Preconditions", "checkIndex", "(IILjava/util/function/BiFunction;)I"⟩ : MethodName)) hown (mvT hZ (hwd 95 rfl)) (mvT hZ (hwd 96 rfl)) (mvT hZ (hwd 94 rfl)) (mvT hZ (hwd 97 rfl)) (by decide) (backOf (W := 0) (rmpci2 l Z A0 hw [] f_SF h0 n0 Z0 hr_f_SF) hZ (hwd 97 rfl) (hwd 94 rfl) (by decide) (by decide)) (g := (mkF m 5 #[vI (2 : Int32), vI (3 : Int32)] [f_SF, (.int (3 : Int32)), (.int (2 : Int32))])) rfl (by rw [hml]; rfl) (argsL := [(.int (2 : Int32)), (.int (3 : Int32)), f_SF]) (rest := []) (lenOf pd_95 rfl) rfl (by show 2 * 0 + _ ≤ _; exact Nat.le_of_eq rfl) (hb hby d17_5) (fun _ _ => ⟨rfl, e1, (by decide : 0 + 0 ≤ _), (by decide : 0 + 0 ≤ _)⟩)
 dsimp only [Pt.U, Pt.locs, Pt.cells, Pt.slots] at X2 l2 y2 z2 st2 hQ2
 subst l2 y2 z2
 obtain ⟨rfl, Nq2, eq2⟩ := hQ2
 have N2 := Fr.app N0 Nq2
 refine own_by st2 ?_
 show own_Go p e below _ (T2.setTop (mkF m 8 #[vI (2 : Int32), vI (3 : Int32)] [(.int (2 : Int32))]))
 refine own_by (fun _ k => XS.pop X2.here hx rfl (hb hby d17_8) rfl rfl k) ?_
 show own_Go p e below _ (T2.setTop (mkF m 9 #[vI (2 : Int32), vI (3 : Int32)] []))
 exact own_ret0 X2 hx Bd.returns (hb hby d17_9) hlk eq2 ⟨rfl, N2, rfl⟩ (by decide) (by decide)
theorem pn_lca2 : plainName "java/lang/StringLatin1" = true := by first | (simp [plainName, overriddenIn]; done) | decide +kernel
theorem ef_lca2 (m : MethodId) (a0 : Addr) : entryFrame m #[(.ref a0), (.int (2 : Int32))] 2 = mkF m 0 #[vR a0, vI (2 : Int32)] [] := by first | (simp [entryFrame, mkF, argsToLocals, Value.category]; done) | rfl
def Qlca2 (Z : State) (k_a0 : ClassId) (fn_a0 : Nat → Int32) (f_SF : Value) (a0 : Addr) (h0 : Heap) (n0 : Nat) (v : Option Value) (h : Heap) (L : List Loc) : Prop := v = some (.int (nar .char (((fn_a0 2) &&& (255 : Int32)).toUInt32.toUInt16.toUInt32.toInt32))) ∧ Fr n0 L ∧ h = h0
set_option maxRecDepth 65536 in
set_option maxHeartbeats 40000000 in
theorem rmlca2 (l : Launch) (Z : State) (A0 : Array Value) (hw : ∀ d ∈ tables_1, d.before A0 Z = true) (ws : List Jvm.Cond) (k_a0 : ClassId) (fn_a0 : Nat → Int32) (f_SF : Value) (a0 : Addr) (h0 : Heap) (n0 : Nat) (Z0 : n0 ≤ h0.size) (P_V_a0 : own_Arf Z h0 a0 k_a0 .byte (3 : Int32) (fun i => .int (fn_a0 i))) (P_S_SF : Sta Z h0 "jdk/internal/util/Preconditions" "SIOOBE_FORMATTER" "Ljava/util/function/BiFunction;" f_SF) (hr_f_SF : f_SF.isRef = true) :
    MetFree l (⟨"java/lang/StringLatin1", "charAt", "([BI)C"⟩ : MethodName) (head1 (Jvm.Cond.code (⟨"java/lang/StringLatin1", "charAt", "([BI)C"⟩ : MethodName) jdk_43_method_2_code 2 (some .char) :: ws) ({ frames := 2, cells := 0, slots := 0, locals := 27 } : Room)) (fun a U => a = #[(.ref a0), (.int (2 : Int32))] ∧ Z.Warmed39 U.vm ∧ U.heap = h0) (fun _ _ _ _ _ => True) (fun _ U o U' => ∃ v L, o = .returned v ∧ Qlca2 Z k_a0 fn_a0 f_SF a0 h0 n0 v U'.heap L ∧ FrameEnd U o U' L 0 0) := by
 refine MetFree.of_bodySF (plainFor_of_name pn_lca2) hisR ?_
 intro p e s m args below meth c s₁ Bd hml0 hP hK
 obtain ⟨rfl, hZ, hh⟩ := hP
 have hwd := fun i {d : Jvm.Cond} (h : tables_1[i]? = some d) => hw d (List.mem_of_getElem? h)
 have hx := Bd.exec
 have hby := Bd.bytes
 have hml : c.maxLocals = 2 := hml0
 have hlk : meth.locks = false := Bd.notSynchronized
 have hown : s.vm.findClass "java/lang/StringLatin1" = some m.cls := findClass_of_methodNamed Bd.named
 have hnm := (name_of_methodNamed Bd.named Bd.method).1
 have X0 : Stand p l e ({ frames := 2, cells := 0, slots := 0, locals := 27 } : Room) s m #[(.ref a0), (.int (2 : Int32))] below meth c s₁ [] 0 0 := Stand.of_body Bd
 have e0 : s₁.heap = h0 := by rw [← hh, Bd.state]; rfl
 have N0 := Fr.nil n0
 show own_Go p e below (own_Fin s 0 0 (Qlca2 Z k_a0 fn_a0 f_SF a0 h0 n0)) _
 refine own_by (fun t k => castTop (ef_lca2 m a0) k) ?_
 show own_Go p e below _ (s₁.setTop (mkF m 0 #[vR a0, vI (2 : Int32)] []))
 refine own_by (fun _ k => XS.iloadN X0.here hx rfl (hb hby d16_0) rfl k) ?_
 refine own_by (fun _ k => XS.aloadN X0.here hx rfl (hb hby d16_1) rfl rfl k) ?_
 obtain ⟨cl1, Ar1, qq1, S1, M1, H1, G1⟩ := id P_V_a0
 refine own_by (fun t k => X0.arraylength hx (by rw [e0]; exact Ar1.1) (State.isArrayOf_alike hZ.alike Ar1.2.1) (g := (mkF m 2 #[vR a0, vI (2 : Int32)] [(.ref a0), (.int (2 : Int32))])) rfl rfl (hb hby d16_2) _ k) ?_
 rw [len_of S1 M1]
 show own_Go p e below _ (s₁.setTop (mkF m 3 #[vR a0, vI (2 : Int32)] [(.int (3 : Int32)), (.int (2 : Int32))]))
 obtain ⟨_, _, ⟨T2, L2, k2, n2⟩, -, X2, ⟨Lc2, hQ2, l2, y2, z2⟩, st2⟩ := Jvm.LawKit.callS X0 hx (y := (⟨"java/lang/String", "checkIndex", "(II)V"⟩ : MethodName)) hown (mvT hZ (hwd 90 rfl)) (mvT hZ (hwd 91 rfl)) (mvT hZ (hwd 14 rfl)) (mvT hZ (hwd 92 rfl)) (by decide) (backOf (W := 0) (rmsci2 l Z A0 hw [] f_SF h0 n0 Z0 P_S_SF hr_f_SF) hZ (hwd 92 rfl) (hwd 14 rfl) (by decide) (by decide)) (g := (mkF m 3 #[vR a0, vI (2 : Int32)] [(.int (3 : Int32)), (.int (2 : Int32))])) rfl (by rw [hml]; rfl) (argsL := [(.int (2 : Int32)), (.int (3 : Int32))]) (rest := []) (lenOf pd_90 rfl) rfl (by show 2 * 0 + _ ≤ _; exact Nat.le_of_eq rfl) (hb hby d16_3) (fun _ _ => ⟨rfl, e0, (by decide : 0 + 0 ≤ _), (by decide : 0 + 0 ≤ _)⟩)
 dsimp only [Pt.U, Pt.locs, Pt.cells, Pt.slots] at X2 l2 y2 z2 st2 hQ2
 subst l2 y2 z2
 obtain ⟨rfl, Nq2, eq2⟩ := hQ2
 have N2 := Fr.app N0 Nq2
 refine own_by st2 ?_
 show own_Go p e below _ (T2.setTop (mkF m 6 #[vR a0, vI (2 : Int32)] []))
 refine own_by (fun _ k => XS.aloadN X2.here hx rfl (hb hby d16_6) rfl rfl k) ?_
 refine own_by (fun _ k => XS.iloadN X2.here hx rfl (hb hby d16_7) rfl k) ?_
 obtain ⟨cl3, Ar3, qq3, S3, M3, H3, G3⟩ := id P_V_a0
 have hin3 : ¬ ((2 : Int32) < 0 ∨ cl3.slots.size ≤ ((2 : Int32)).toNatClampNeg) := inb_of S3 ⟨by decide, by decide⟩
 refine own_by (fun t k => X2.baloadBytes hx (j := (2 : Int32)) (v := (.int (fn_a0 2))) (by rw [eq2]; exact Ar3.1) (State.isArrayOf_alike hZ.alike Ar3.2.1) Ar3.2.2 hin3 (H3 _ (Nat.lt_of_not_le fun y => hin3 (Or.inr y))) (g := (mkF m 8 #[vR a0, vI (2 : Int32)] [(.int (2 : Int32)), (.ref a0)])) rfl rfl (hb hby d16_8) _ k) ?_
 show own_Go p e below _ (T2.setTop (mkF m 9 #[vR a0, vI (2 : Int32)] [(.int (fn_a0 2))]))
 refine own_by (fun _ k => XS.sipush X2.here hx rfl (hb hby d16_9) k) ?_
 refine own_by (fun _ k => XS.iand X2.here hx rfl (hb hby d16_12) rfl k) ?_
 show own_Go p e below _ (T2.setTop (mkF m 13 #[vR a0, vI (2 : Int32)] [(.int ((fn_a0 2) &&& (255 : Int32)))]))
 refine own_by (fun _ k => XS.i2c X2.here hx rfl (hb hby d16_13) rfl k) ?_
 show own_Go p e below _ (T2.setTop (mkF m 14 #[vR a0, vI (2 : Int32)] [(.int (((fn_a0 2) &&& (255 : Int32)).toUInt32.toUInt16.toUInt32.toInt32))]))
 exact own_retN X2 hx (t := .char) Bd.returns (by simp) (hb hby d16_14) hlk eq2 ⟨rfl, N2, rfl⟩ (by decide) (by decide)
theorem pn_sca2 : plainName "java/lang/String" = true := by first | (simp [plainName, overriddenIn]; done) | decide +kernel
theorem ef_sca2 (m : MethodId) (a0 : Addr) : entryFrame m #[(.ref a0), (.int (2 : Int32))] 2 = mkF m 0 #[vR a0, vI (2 : Int32)] [] := by first | (simp [entryFrame, mkF, argsToLocals, Value.category]; done) | rfl
def Qsca2 (Z : State) (t_a0 : Addr) (k_t_a0 : ClassId) (fn_t_a0 : Nat → Int32) (f_CS : Int32) (f_SF : Value) (a0 : Addr) (h0 : Heap) (n0 : Nat) (v : Option Value) (h : Heap) (L : List Loc) : Prop := v = some (.int (nar .char (nar .char (((fn_t_a0 2) &&& (255 : Int32)).toUInt32.toUInt16.toUInt32.toInt32)))) ∧ Fr n0 L ∧ h = h0
set_option maxRecDepth 65536 in
set_option maxHeartbeats 40000000 in
theorem rmsca2 (l : Launch) (Z : State) (A0 : Array Value) (hw : ∀ d ∈ tables_1, d.before A0 Z = true) (ws : List Jvm.Cond) (t_a0 : Addr) (k_t_a0 : ClassId) (fn_t_a0 : Nat → Int32) (f_CS : Int32) (f_SF : Value) (a0 : Addr) (h0 : Heap) (n0 : Nat) (Z0 : n0 ≤ h0.size) (P_E_a0 : Exa Z h0 a0 "java/lang/String") (P_F_a0_coder : Fld Z h0 a0 "java/lang/String" "coder" "B" (.int (0 : Int32))) (P_F_a0_value : Fld Z h0 a0 "java/lang/String" "value" "[B" (.ref t_a0)) (P_V_t_a0 : own_Arf Z h0 t_a0 k_t_a0 .byte (3 : Int32) (fun i => .int (fn_t_a0 i))) (P_S_CS : Sta Z h0 "java/lang/String" "COMPACT_STRINGS" "Z" (.int f_CS)) (hn_CS : ¬ (f_CS = (0 : Int32))) (P_S_SF : Sta Z h0 "jdk/internal/util/Preconditions" "SIOOBE_FORMATTER" "Ljava/util/function/BiFunction;" f_SF) (hr_f_SF : f_SF.isRef = true) :
    MetFree l (⟨"java/lang/String", "charAt", "(I)C"⟩ : MethodName) (head1 (Jvm.Cond.code (⟨"java/lang/String", "charAt", "(I)C"⟩ : MethodName) jdk_42_method_56_code 2 (some .char) :: ws) ({ frames := 3, cells := 0, slots := 0, locals := 40 } : Room)) (fun a U => a = #[(.ref a0), (.int (2 : Int32))] ∧ Z.Warmed39 U.vm ∧ U.heap = h0) (fun _ _ _ _ _ => True) (fun _ U o U' => ∃ v L, o = .returned v ∧ Qsca2 Z t_a0 k_t_a0 fn_t_a0 f_CS f_SF a0 h0 n0 v U'.heap L ∧ FrameEnd U o U' L 0 0) := by
 refine MetFree.of_bodySF (plainFor_of_name pn_sca2) hisR ?_
 intro p e s m args below meth c s₁ Bd hml0 hP hK
 obtain ⟨rfl, hZ, hh⟩ := hP
 have hwd := fun i {d : Jvm.Cond} (h : tables_1[i]? = some d) => hw d (List.mem_of_getElem? h)
 have hx := Bd.exec
 have hby := Bd.bytes
 have hml : c.maxLocals = 2 := hml0
 have hlk : meth.locks = false := Bd.notSynchronized
 have hown : s.vm.findClass "java/lang/String" = some m.cls := findClass_of_methodNamed Bd.named
 have hnm := (name_of_methodNamed Bd.named Bd.method).1
 have X0 : Stand p l e ({ frames := 3, cells := 0, slots := 0, locals := 40 } : Room) s m #[(.ref a0), (.int (2 : Int32))] below meth c s₁ [] 0 0 := Stand.of_body Bd
 have e0 : s₁.heap = h0 := by rw [← hh, Bd.state]; rfl
 have N0 := Fr.nil n0
 show own_Go p e below (own_Fin s 0 0 (Qsca2 Z t_a0 k_t_a0 fn_t_a0 f_CS f_SF a0 h0 n0)) _
 refine own_by (fun t k => castTop (ef_sca2 m a0) k) ?_
 show own_Go p e below _ (s₁.setTop (mkF m 0 #[vR a0, vI (2 : Int32)] []))
 refine own_by (fun _ k => XS.aloadN X0.here hx rfl (hb hby d14_0) rfl rfl k) ?_
 obtain ⟨cq1, kq1, qq1a, qq1b, qq1c⟩ := isOf hZ e0 P_E_a0
 obtain ⟨_, _, ⟨T1, L1, k1, n1⟩, -, X1, ⟨Lc1, hQ1, l1, y1, z1⟩, st1⟩ := X0.virtualBack hx (y := (⟨"java/lang/String", "isLatin1", "()Z"⟩ : MethodName)) (z := (⟨"java/lang/String", "isLatin1", "()Z"⟩ : MethodName)) hown (mvT hZ (hwd 82 rfl)) (mvT hZ (hwd 83 rfl)) (notFace_of_selects (args := #[]) (mvT hZ (hwd 85 rfl))) (mvT hZ (hwd 85 rfl)) (mvT hZ (hwd 84 rfl)) (by decide) (backOf (W := 0) (rmisl l Z A0 hw [] f_CS a0 h0 n0 Z0 P_E_a0 P_F_a0_coder P_S_CS hn_CS) hZ (hwd 86 rfl) (hwd 14 rfl) (by decide) (by decide)) qq1a qq1c (g := (mkF m 1 #[vR a0, vI (2 : Int32)] [(.ref a0)])) rfl (by rw [hml]; rfl) (Steps.refl _) (argsL := []) (rest := []) (lenOf pd_82 rfl) rfl (by show 2 * 0 + _ ≤ _; exact Nat.le_of_eq rfl) (hb hby d14_1) (fun _ _ => ⟨rfl, e0, (by decide : 0 + 0 ≤ _), (by decide : 0 + 0 ≤ _)⟩)
 dsimp only [Pt.U, Pt.locs, Pt.cells, Pt.slots] at X1 l1 y1 z1 st1 hQ1
 subst l1 y1 z1
 obtain ⟨rfl, Nq1, eq1⟩ := hQ1
 have N1 := Fr.app N0 Nq1
 refine own_by (fun _ k => st1.trans k) ?_
 show own_Go p e below _ (T1.setTop (mkF m 4 #[vR a0, vI (2 : Int32)] [(.int (1 : Int32))]))
 refine own_by (fun _ k => XS.ifNo X1.here hx rfl (hb hby d14_4) rfl ((if0 _ _).trans (feq (by decide : ¬ ((1 : Int32) = (0 : Int32)))).1) k) ?_
 show own_Go p e below _ (T1.setTop (mkF m 7 #[vR a0, vI (2 : Int32)] []))
 refine own_by (fun _ k => XS.aloadN X1.here hx rfl (hb hby d14_7) rfl rfl k) ?_
 obtain ⟨T2, X2, e2, st2⟩ := getF X1 hx hZ hown (host := "") (Or.inl (hwd 60 rfl)) Via.refl eq1 P_F_a0_value (g := (mkF m 8 #[vR a0, vI (2 : Int32)] [(.ref a0)])) rfl rfl (hb hby d14_8)
 refine own_by st2 ?_
 show own_Go p e below _ (T2.setTop (mkF m 11 #[vR a0, vI (2 : Int32)] [(.ref t_a0)]))
 refine own_by (fun _ k => XS.iloadN X2.here hx rfl (hb hby d14_11) rfl k) ?_
 obtain ⟨_, _, ⟨T3, L3, k3, n3⟩, -, X3, ⟨Lc3, hQ3, l3, y3, z3⟩, st3⟩ := Jvm.LawKit.callS X2 hx (y := (⟨"java/lang/StringLatin1", "charAt", "([BI)C"⟩ : MethodName)) hown (mvT hZ (hwd 87 rfl)) (mvT hZ (hwd 88 rfl)) (mvT hZ (hwd 74 rfl)) (mvT hZ (hwd 89 rfl)) (by decide) (backOf (W := 0) (rmlca2 l Z A0 hw [] k_t_a0 fn_t_a0 f_SF t_a0 h0 n0 Z0 P_V_t_a0 P_S_SF hr_f_SF) hZ (hwd 89 rfl) (hwd 74 rfl) (by decide) (by decide)) (g := (mkF m 12 #[vR a0, vI (2 : Int32)] [(.int (2 : Int32)), (.ref t_a0)])) rfl (by rw [hml]; rfl) (argsL := [(.ref t_a0), (.int (2 : Int32))]) (rest := []) (lenOf pd_87 rfl) rfl (by show 2 * 0 + _ ≤ _; exact Nat.le_of_eq rfl) (hb hby d14_12) (fun _ _ => ⟨rfl, e2, (by decide : 0 + 0 ≤ _), (by decide : 0 + 0 ≤ _)⟩)
 dsimp only [Pt.U, Pt.locs, Pt.cells, Pt.slots] at X3 l3 y3 z3 st3 hQ3
 subst l3 y3 z3
 obtain ⟨rfl, Nq3, eq3⟩ := hQ3
 have N3 := Fr.app N1 Nq3
 refine own_by st3 ?_
 show own_Go p e below _ (T3.setTop (mkF m 15 #[vR a0, vI (2 : Int32)] [(.int (nar .char (((fn_t_a0 2) &&& (255 : Int32)).toUInt32.toUInt16.toUInt32.toInt32)))]))
 exact own_retN X3 hx (t := .char) Bd.returns (by simp) (hb hby d14_15) hlk eq3 ⟨rfl, N3, rfl⟩ (by decide) (by decide)
theorem pd_3 : parseMethodDescriptor "(Ljava/lang/String;)V" = some ⟨[(.object "java/lang/String")], none⟩ := by decide +kernel
theorem pd_28 : parseMethodDescriptor "(C)Z" = some ⟨[.char], some .boolean⟩ := by decide +kernel
theorem pd_61 : parseMethodDescriptor "()I" = some ⟨[], some .int⟩ := by decide +kernel
theorem pd_77 : parseMethodDescriptor "(I)C" = some ⟨[.int], some .char⟩ := by decide +kernel
theorem pd_34 : parseMethodDescriptor "(JI)C" = some ⟨[.long, .int], some .char⟩ := by decide +kernel
theorem pd_40 : parseMethodDescriptor "([C)V" = some ⟨[(.array .char)], none⟩ := by decide +kernel
theorem pn_0 : plainName "com/example/margay/margay/index/LineCounterEndsLinePinLaw" = true := by first | (simp [plainName, overriddenIn]; done) | decide +kernel
theorem ef_0 (m : MethodId) (p0 : Int32) (p1 : Int32) (p2 : Int32) (q3 : Int64) : entryFrame m #[(.int p0), (.int p1), (.int p2), (.long q3)] maxLocals = mkF m 0 #[vI p0, vI p1, vI p2, vJ q3, .second, .unset, .unset, .unset, .unset, .unset, .unset, .unset, .unset] [] := by first | (simp [entryFrame, mkF, argsToLocals, Value.category, maxLocals]; done) | rfl
theorem ob_0_23 (f_CS : Int32) (f_SF : Value) (p0 : Int32) (p1 : Int32) (p2 : Int32) (v1 : Int32) (v3 : Int32) (z17 : Int32) (v19 : Int32) (z30 : Int32) (o39 : Int32) (hn_CS : ¬ (f_CS = (0 : Int32))) (hr_f_SF : f_SF.isRef = true) (hv1 : (p0 &&& (7 : Int32)) = v1) (c2 : v1 = (0 : Int32)) (hv3 : (p1 &&& (7 : Int32)) = v3) (hj18 : ((v3 = (0 : Int32)) ∧ z17 = (13 : Int32)) ∨ ((¬ (v3 = (0 : Int32))) ∧ (v3 = (1 : Int32)) ∧ z17 = (10 : Int32)) ∨ ((¬ (v3 = (0 : Int32))) ∧ (¬ (v3 = (1 : Int32))) ∧ (v3 = (2 : Int32)) ∧ z17 = (133 : Int32)) ∨ ((¬ (v3 = (0 : Int32))) ∧ (¬ (v3 = (1 : Int32))) ∧ (¬ (v3 = (2 : Int32))) ∧ (v3 = (3 : Int32)) ∧ z17 = (8232 : Int32)) ∨ ((¬ (v3 = (0 : Int32))) ∧ (¬ (v3 = (1 : Int32))) ∧ (¬ (v3 = (2 : Int32))) ∧ (¬ (v3 = (3 : Int32))) ∧ (v3 = (4 : Int32)) ∧ z17 = (8233 : Int32)) ∨ ((¬ (v3 = (0 : Int32))) ∧ (¬ (v3 = (1 : Int32))) ∧ (¬ (v3 = (2 : Int32))) ∧ (¬ (v3 = (3 : Int32))) ∧ (¬ (v3 = (4 : Int32))) ∧ (v3 = (5 : Int32)) ∧ z17 = (12 : Int32)) ∨ (∃ (v10 : Int32), (¬ (v3 = (0 : Int32))) ∧ (¬ (v3 = (1 : Int32))) ∧ (¬ (v3 = (2 : Int32))) ∧ (¬ (v3 = (3 : Int32))) ∧ (¬ (v3 = (4 : Int32))) ∧ (¬ (v3 = (5 : Int32))) ∧ ((p2 &&& (65535 : Int32)) = v10) ∧ z17 = v10)) (hv19 : (z17.toUInt32.toUInt16.toUInt32.toInt32) = v19) (hj31 : ((z17 = (10 : Int32)) ∧ z30 = (1 : Int32)) ∨ ((¬ (z17 = (10 : Int32))) ∧ (z17 = (13 : Int32)) ∧ z30 = (1 : Int32)) ∨ ((¬ (z17 = (10 : Int32))) ∧ (¬ (z17 = (13 : Int32))) ∧ (z17 = (133 : Int32)) ∧ z30 = (0 : Int32)) ∨ ((¬ (z17 = (10 : Int32))) ∧ (¬ (z17 = (13 : Int32))) ∧ (¬ (z17 = (133 : Int32))) ∧ (z17 = (8232 : Int32)) ∧ z30 = (0 : Int32)) ∨ ((¬ (z17 = (10 : Int32))) ∧ (¬ (z17 = (13 : Int32))) ∧ (¬ (z17 = (133 : Int32))) ∧ (¬ (z17 = (8232 : Int32))) ∧ z30 = (0 : Int32))) (hp40 : own_is (own_ends v19 (0 : Int32)) o39) (c41 : ¬ (o39 = z30)) : False := by
  have hz : z17 = 13 ∨ z17 = 10 ∨ z17 = 133 ∨ z17 = 8232 ∨ z17 = 8233 ∨ z17 = 12 ∨ z17 = p2 &&& 65535 := by
    clear c41 hp40 hj31 hv19 hv3 c2 hv1
    grind
  exact own_finE hz hv19 hj31 (Or.inl ⟨rfl, rfl⟩ : own_xb (0 : Int32) (0 : Int32)) hp40 c41
theorem ob_0_24 (f_CS : Int32) (f_SF : Value) (p0 : Int32) (p1 : Int32) (p2 : Int32) (v1 : Int32) (v50 : Int32) (z64 : Int32) (v66 : Int32) (z77 : Int32) (o86 : Int32) (o93 : Int32) (hn_CS : ¬ (f_CS = (0 : Int32))) (hr_f_SF : f_SF.isRef = true) (hv1 : (p0 &&& (7 : Int32)) = v1) (c2 : ¬ (v1 = (0 : Int32))) (c42 : v1 = (1 : Int32)) (hv50 : (p1 &&& (7 : Int32)) = v50) (hj65 : ((v50 = (0 : Int32)) ∧ z64 = (13 : Int32)) ∨ ((¬ (v50 = (0 : Int32))) ∧ (v50 = (1 : Int32)) ∧ z64 = (10 : Int32)) ∨ ((¬ (v50 = (0 : Int32))) ∧ (¬ (v50 = (1 : Int32))) ∧ (v50 = (2 : Int32)) ∧ z64 = (133 : Int32)) ∨ ((¬ (v50 = (0 : Int32))) ∧ (¬ (v50 = (1 : Int32))) ∧ (¬ (v50 = (2 : Int32))) ∧ (v50 = (3 : Int32)) ∧ z64 = (8232 : Int32)) ∨ ((¬ (v50 = (0 : Int32))) ∧ (¬ (v50 = (1 : Int32))) ∧ (¬ (v50 = (2 : Int32))) ∧ (¬ (v50 = (3 : Int32))) ∧ (v50 = (4 : Int32)) ∧ z64 = (8233 : Int32)) ∨ ((¬ (v50 = (0 : Int32))) ∧ (¬ (v50 = (1 : Int32))) ∧ (¬ (v50 = (2 : Int32))) ∧ (¬ (v50 = (3 : Int32))) ∧ (¬ (v50 = (4 : Int32))) ∧ (v50 = (5 : Int32)) ∧ z64 = (12 : Int32)) ∨ (∃ (v57 : Int32), (¬ (v50 = (0 : Int32))) ∧ (¬ (v50 = (1 : Int32))) ∧ (¬ (v50 = (2 : Int32))) ∧ (¬ (v50 = (3 : Int32))) ∧ (¬ (v50 = (4 : Int32))) ∧ (¬ (v50 = (5 : Int32))) ∧ ((p2 &&& (65535 : Int32)) = v57) ∧ z64 = v57)) (hv66 : (z64.toUInt32.toUInt16.toUInt32.toInt32) = v66) (hj78 : ((z64 = (10 : Int32)) ∧ z77 = (1 : Int32)) ∨ ((¬ (z64 = (10 : Int32))) ∧ (z64 = (13 : Int32)) ∧ z77 = (1 : Int32)) ∨ ((¬ (z64 = (10 : Int32))) ∧ (¬ (z64 = (13 : Int32))) ∧ (z64 = (133 : Int32)) ∧ z77 = (1 : Int32)) ∨ ((¬ (z64 = (10 : Int32))) ∧ (¬ (z64 = (13 : Int32))) ∧ (¬ (z64 = (133 : Int32))) ∧ (z64 = (8232 : Int32)) ∧ z77 = (1 : Int32)) ∨ ((¬ (z64 = (10 : Int32))) ∧ (¬ (z64 = (13 : Int32))) ∧ (¬ (z64 = (133 : Int32))) ∧ (¬ (z64 = (8232 : Int32))) ∧ z77 = (0 : Int32))) (hp91 : (∃ (o14_lcR3 : Int32), (own_eq3 (own_li [49, 46, 49]) (own_li [49, 46, 49]) o14_lcR3) ∧ o86 = (nar .boolean o14_lcR3))) (hp94 : own_is (own_ends v66 o86) o93) (c95 : ¬ (o93 = z77)) : False := by
  have hz : z64 = 13 ∨ z64 = 10 ∨ z64 = 133 ∨ z64 = 8232 ∨ z64 = 8233 ∨ z64 = 12 ∨ z64 = p2 &&& 65535 := by
    clear c95 hp94 hp91 hj78 hv66 hv50 c42 c2 hv1
    grind
  exact own_finE hz hv66 hj78 (own_x1 hp91) hp94 c95
theorem ob_0_25 (f_CS : Int32) (f_SF : Value) (p0 : Int32) (p1 : Int32) (p2 : Int32) (v1 : Int32) (v104 : Int32) (z118 : Int32) (v120 : Int32) (z131 : Int32) (o140 : Int32) (o147 : Int32) (hn_CS : ¬ (f_CS = (0 : Int32))) (hr_f_SF : f_SF.isRef = true) (hv1 : (p0 &&& (7 : Int32)) = v1) (c2 : ¬ (v1 = (0 : Int32))) (c42 : ¬ (v1 = (1 : Int32))) (c96 : v1 = (2 : Int32)) (hv104 : (p1 &&& (7 : Int32)) = v104) (hj119 : ((v104 = (0 : Int32)) ∧ z118 = (13 : Int32)) ∨ ((¬ (v104 = (0 : Int32))) ∧ (v104 = (1 : Int32)) ∧ z118 = (10 : Int32)) ∨ ((¬ (v104 = (0 : Int32))) ∧ (¬ (v104 = (1 : Int32))) ∧ (v104 = (2 : Int32)) ∧ z118 = (133 : Int32)) ∨ ((¬ (v104 = (0 : Int32))) ∧ (¬ (v104 = (1 : Int32))) ∧ (¬ (v104 = (2 : Int32))) ∧ (v104 = (3 : Int32)) ∧ z118 = (8232 : Int32)) ∨ ((¬ (v104 = (0 : Int32))) ∧ (¬ (v104 = (1 : Int32))) ∧ (¬ (v104 = (2 : Int32))) ∧ (¬ (v104 = (3 : Int32))) ∧ (v104 = (4 : Int32)) ∧ z118 = (8233 : Int32)) ∨ ((¬ (v104 = (0 : Int32))) ∧ (¬ (v104 = (1 : Int32))) ∧ (¬ (v104 = (2 : Int32))) ∧ (¬ (v104 = (3 : Int32))) ∧ (¬ (v104 = (4 : Int32))) ∧ (v104 = (5 : Int32)) ∧ z118 = (12 : Int32)) ∨ (∃ (v111 : Int32), (¬ (v104 = (0 : Int32))) ∧ (¬ (v104 = (1 : Int32))) ∧ (¬ (v104 = (2 : Int32))) ∧ (¬ (v104 = (3 : Int32))) ∧ (¬ (v104 = (4 : Int32))) ∧ (¬ (v104 = (5 : Int32))) ∧ ((p2 &&& (65535 : Int32)) = v111) ∧ z118 = v111)) (hv120 : (z118.toUInt32.toUInt16.toUInt32.toInt32) = v120) (hj132 : ((z118 = (10 : Int32)) ∧ z131 = (1 : Int32)) ∨ ((¬ (z118 = (10 : Int32))) ∧ (z118 = (13 : Int32)) ∧ z131 = (1 : Int32)) ∨ ((¬ (z118 = (10 : Int32))) ∧ (¬ (z118 = (13 : Int32))) ∧ (z118 = (133 : Int32)) ∧ z131 = (0 : Int32)) ∨ ((¬ (z118 = (10 : Int32))) ∧ (¬ (z118 = (13 : Int32))) ∧ (¬ (z118 = (133 : Int32))) ∧ (z118 = (8232 : Int32)) ∧ z131 = (0 : Int32)) ∨ ((¬ (z118 = (10 : Int32))) ∧ (¬ (z118 = (13 : Int32))) ∧ (¬ (z118 = (133 : Int32))) ∧ (¬ (z118 = (8232 : Int32))) ∧ z131 = (0 : Int32))) (hp145 : (∃ (o14_lcR3 : Int32), (own_eq3 (own_li [49, 46, 49]) (own_li [49, 46, 48]) o14_lcR3) ∧ o140 = (nar .boolean o14_lcR3))) (hp148 : own_is (own_ends v120 o140) o147) (c149 : ¬ (o147 = z131)) : False := by
  have hz : z118 = 13 ∨ z118 = 10 ∨ z118 = 133 ∨ z118 = 8232 ∨ z118 = 8233 ∨ z118 = 12 ∨ z118 = p2 &&& 65535 := by
    clear c149 hp148 hp145 hj132 hv120 hv104 c96 c42 c2 hv1
    grind
  exact own_finE hz hv120 hj132 (own_x0 hp145) hp148 c149
theorem ob_0_26 (f_CS : Int32) (f_SF : Value) (p0 : Int32) (p1 : Int32) (p2 : Int32) (v1 : Int32) (v154 : Int32) (z168 : Int32) (v170 : Int32) (z181 : Int32) (o190 : Int32) (o197 : Int32) (hn_CS : ¬ (f_CS = (0 : Int32))) (hr_f_SF : f_SF.isRef = true) (hv1 : (p0 &&& (7 : Int32)) = v1) (c2 : ¬ (v1 = (0 : Int32))) (c42 : ¬ (v1 = (1 : Int32))) (c96 : ¬ (v1 = (2 : Int32))) (c150 : v1 = (3 : Int32)) (hv154 : (p1 &&& (7 : Int32)) = v154) (hj169 : ((v154 = (0 : Int32)) ∧ z168 = (13 : Int32)) ∨ ((¬ (v154 = (0 : Int32))) ∧ (v154 = (1 : Int32)) ∧ z168 = (10 : Int32)) ∨ ((¬ (v154 = (0 : Int32))) ∧ (¬ (v154 = (1 : Int32))) ∧ (v154 = (2 : Int32)) ∧ z168 = (133 : Int32)) ∨ ((¬ (v154 = (0 : Int32))) ∧ (¬ (v154 = (1 : Int32))) ∧ (¬ (v154 = (2 : Int32))) ∧ (v154 = (3 : Int32)) ∧ z168 = (8232 : Int32)) ∨ ((¬ (v154 = (0 : Int32))) ∧ (¬ (v154 = (1 : Int32))) ∧ (¬ (v154 = (2 : Int32))) ∧ (¬ (v154 = (3 : Int32))) ∧ (v154 = (4 : Int32)) ∧ z168 = (8233 : Int32)) ∨ ((¬ (v154 = (0 : Int32))) ∧ (¬ (v154 = (1 : Int32))) ∧ (¬ (v154 = (2 : Int32))) ∧ (¬ (v154 = (3 : Int32))) ∧ (¬ (v154 = (4 : Int32))) ∧ (v154 = (5 : Int32)) ∧ z168 = (12 : Int32)) ∨ (∃ (v161 : Int32), (¬ (v154 = (0 : Int32))) ∧ (¬ (v154 = (1 : Int32))) ∧ (¬ (v154 = (2 : Int32))) ∧ (¬ (v154 = (3 : Int32))) ∧ (¬ (v154 = (4 : Int32))) ∧ (¬ (v154 = (5 : Int32))) ∧ ((p2 &&& (65535 : Int32)) = v161) ∧ z168 = v161)) (hv170 : (z168.toUInt32.toUInt16.toUInt32.toInt32) = v170) (hj182 : ((z168 = (10 : Int32)) ∧ z181 = (1 : Int32)) ∨ ((¬ (z168 = (10 : Int32))) ∧ (z168 = (13 : Int32)) ∧ z181 = (1 : Int32)) ∨ ((¬ (z168 = (10 : Int32))) ∧ (¬ (z168 = (13 : Int32))) ∧ (z168 = (133 : Int32)) ∧ z181 = (0 : Int32)) ∨ ((¬ (z168 = (10 : Int32))) ∧ (¬ (z168 = (13 : Int32))) ∧ (¬ (z168 = (133 : Int32))) ∧ (z168 = (8232 : Int32)) ∧ z181 = (0 : Int32)) ∨ ((¬ (z168 = (10 : Int32))) ∧ (¬ (z168 = (13 : Int32))) ∧ (¬ (z168 = (133 : Int32))) ∧ (¬ (z168 = (8232 : Int32))) ∧ z181 = (0 : Int32))) (hp195 : (∃ (o14_lcR0 : Int32), (own_z0 o14_lcR0) ∧ o190 = (nar .boolean o14_lcR0))) (hp198 : own_is (own_ends v170 o190) o197) (c199 : ¬ (o197 = z181)) : False := by
  have hz : z168 = 13 ∨ z168 = 10 ∨ z168 = 133 ∨ z168 = 8232 ∨ z168 = 8233 ∨ z168 = 12 ∨ z168 = p2 &&& 65535 := by
    clear c199 hp198 hp195 hj182 hv170 hv154 c150 c96 c42 c2 hv1
    grind
  exact own_finE hz hv170 hj182 (own_xz hp195) hp198 c199
theorem ob_0_27 (f_CS : Int32) (f_SF : Value) (p0 : Int32) (v1 : Int32) (o203 : Int32) (o208 : Int32) (hn_CS : ¬ (f_CS = (0 : Int32))) (hr_f_SF : f_SF.isRef = true) (hv1 : (p0 &&& (7 : Int32)) = v1) (c2 : ¬ (v1 = (0 : Int32))) (c42 : ¬ (v1 = (1 : Int32))) (c96 : ¬ (v1 = (2 : Int32))) (c150 : ¬ (v1 = (3 : Int32))) (c200 : v1 = (4 : Int32)) (hp204 : own_c8 o203) (hp209 : own_c8 o208) : ¬ ((255 : Int32) < (nar .char o203)) := by
  exact (own_c8n hp204).1
theorem ob_0_28 (f_CS : Int32) (f_SF : Value) (p0 : Int32) (v1 : Int32) (o203 : Int32) (o208 : Int32) (hn_CS : ¬ (f_CS = (0 : Int32))) (hr_f_SF : f_SF.isRef = true) (hv1 : (p0 &&& (7 : Int32)) = v1) (c2 : ¬ (v1 = (0 : Int32))) (c42 : ¬ (v1 = (1 : Int32))) (c96 : ¬ (v1 = (2 : Int32))) (c150 : ¬ (v1 = (3 : Int32))) (c200 : v1 = (4 : Int32)) (hp204 : own_c8 o203) (hp209 : own_c8 o208) : ¬ ((255 : Int32) < (nar .char o208)) := by
  exact (own_c8n hp209).1
theorem ob_0_29 (f_CS : Int32) (f_SF : Value) (p0 : Int32) (p1 : Int32) (p2 : Int32) (v1 : Int32) (o203 : Int32) (o208 : Int32) (v226 : Int32) (z240 : Int32) (v242 : Int32) (z253 : Int32) (o262 : Int32) (o269 : Int32) (hn_CS : ¬ (f_CS = (0 : Int32))) (hr_f_SF : f_SF.isRef = true) (hv1 : (p0 &&& (7 : Int32)) = v1) (c2 : ¬ (v1 = (0 : Int32))) (c42 : ¬ (v1 = (1 : Int32))) (c96 : ¬ (v1 = (2 : Int32))) (c150 : ¬ (v1 = (3 : Int32))) (c200 : v1 = (4 : Int32)) (hp204 : own_c8 o203) (hp209 : own_c8 o208) (hv226 : (p1 &&& (7 : Int32)) = v226) (hj241 : ((v226 = (0 : Int32)) ∧ z240 = (13 : Int32)) ∨ ((¬ (v226 = (0 : Int32))) ∧ (v226 = (1 : Int32)) ∧ z240 = (10 : Int32)) ∨ ((¬ (v226 = (0 : Int32))) ∧ (¬ (v226 = (1 : Int32))) ∧ (v226 = (2 : Int32)) ∧ z240 = (133 : Int32)) ∨ ((¬ (v226 = (0 : Int32))) ∧ (¬ (v226 = (1 : Int32))) ∧ (¬ (v226 = (2 : Int32))) ∧ (v226 = (3 : Int32)) ∧ z240 = (8232 : Int32)) ∨ ((¬ (v226 = (0 : Int32))) ∧ (¬ (v226 = (1 : Int32))) ∧ (¬ (v226 = (2 : Int32))) ∧ (¬ (v226 = (3 : Int32))) ∧ (v226 = (4 : Int32)) ∧ z240 = (8233 : Int32)) ∨ ((¬ (v226 = (0 : Int32))) ∧ (¬ (v226 = (1 : Int32))) ∧ (¬ (v226 = (2 : Int32))) ∧ (¬ (v226 = (3 : Int32))) ∧ (¬ (v226 = (4 : Int32))) ∧ (v226 = (5 : Int32)) ∧ z240 = (12 : Int32)) ∨ (∃ (v233 : Int32), (¬ (v226 = (0 : Int32))) ∧ (¬ (v226 = (1 : Int32))) ∧ (¬ (v226 = (2 : Int32))) ∧ (¬ (v226 = (3 : Int32))) ∧ (¬ (v226 = (4 : Int32))) ∧ (¬ (v226 = (5 : Int32))) ∧ ((p2 &&& (65535 : Int32)) = v233) ∧ z240 = v233)) (hv242 : (z240.toUInt32.toUInt16.toUInt32.toInt32) = v242) (hj254 : ((z240 = (10 : Int32)) ∧ z253 = (1 : Int32)) ∨ ((¬ (z240 = (10 : Int32))) ∧ (z240 = (13 : Int32)) ∧ z253 = (1 : Int32)) ∨ ((¬ (z240 = (10 : Int32))) ∧ (¬ (z240 = (13 : Int32))) ∧ (z240 = (133 : Int32)) ∧ z253 = (0 : Int32)) ∨ ((¬ (z240 = (10 : Int32))) ∧ (¬ (z240 = (13 : Int32))) ∧ (¬ (z240 = (133 : Int32))) ∧ (z240 = (8232 : Int32)) ∧ z253 = (0 : Int32)) ∨ ((¬ (z240 = (10 : Int32))) ∧ (¬ (z240 = (13 : Int32))) ∧ (¬ (z240 = (133 : Int32))) ∧ (¬ (z240 = (8232 : Int32))) ∧ z253 = (0 : Int32))) (hp267 : (∃ (o14_lcR2 : Int32), (own_z0 o14_lcR2) ∧ o262 = (nar .boolean o14_lcR2))) (hp270 : own_is (own_ends v242 o262) o269) (c271 : ¬ (o269 = z253)) : False := by
  have hz : z240 = 13 ∨ z240 = 10 ∨ z240 = 133 ∨ z240 = 8232 ∨ z240 = 8233 ∨ z240 = 12 ∨ z240 = p2 &&& 65535 := by
    clear c271 hp270 hp267 hj254 hv242 hv226 hp209 hp204 c200 c150 c96 c42 c2 hv1
    grind
  exact own_finE hz hv242 hj254 (own_xz hp267) hp270 c271
theorem ob_0_30 (f_CS : Int32) (f_SF : Value) (p0 : Int32) (v1 : Int32) (o275 : Int32) (o280 : Int32) (o285 : Int32) (hn_CS : ¬ (f_CS = (0 : Int32))) (hr_f_SF : f_SF.isRef = true) (hv1 : (p0 &&& (7 : Int32)) = v1) (c2 : ¬ (v1 = (0 : Int32))) (c42 : ¬ (v1 = (1 : Int32))) (c96 : ¬ (v1 = (2 : Int32))) (c150 : ¬ (v1 = (3 : Int32))) (c200 : ¬ (v1 = (4 : Int32))) (c272 : v1 = (5 : Int32)) (hp276 : own_c8 o275) (hp281 : own_c8 o280) (hp286 : own_c8 o285) : ¬ ((255 : Int32) < (nar .char o275)) := by
  exact (own_c8n hp276).1
theorem ob_0_31 (f_CS : Int32) (f_SF : Value) (p0 : Int32) (v1 : Int32) (o275 : Int32) (o280 : Int32) (o285 : Int32) (hn_CS : ¬ (f_CS = (0 : Int32))) (hr_f_SF : f_SF.isRef = true) (hv1 : (p0 &&& (7 : Int32)) = v1) (c2 : ¬ (v1 = (0 : Int32))) (c42 : ¬ (v1 = (1 : Int32))) (c96 : ¬ (v1 = (2 : Int32))) (c150 : ¬ (v1 = (3 : Int32))) (c200 : ¬ (v1 = (4 : Int32))) (c272 : v1 = (5 : Int32)) (hp276 : own_c8 o275) (hp281 : own_c8 o280) (hp286 : own_c8 o285) : ¬ ((255 : Int32) < (nar .char o280)) := by
  exact (own_c8n hp281).1
theorem ob_0_32 (f_CS : Int32) (f_SF : Value) (p0 : Int32) (v1 : Int32) (o275 : Int32) (o280 : Int32) (o285 : Int32) (hn_CS : ¬ (f_CS = (0 : Int32))) (hr_f_SF : f_SF.isRef = true) (hv1 : (p0 &&& (7 : Int32)) = v1) (c2 : ¬ (v1 = (0 : Int32))) (c42 : ¬ (v1 = (1 : Int32))) (c96 : ¬ (v1 = (2 : Int32))) (c150 : ¬ (v1 = (3 : Int32))) (c200 : ¬ (v1 = (4 : Int32))) (c272 : v1 = (5 : Int32)) (hp276 : own_c8 o275) (hp281 : own_c8 o280) (hp286 : own_c8 o285) : ¬ ((255 : Int32) < (nar .char o285)) := by
  exact (own_c8n hp286).1
theorem ob_0_33 (f_CS : Int32) (f_SF : Value) (p0 : Int32) (p1 : Int32) (p2 : Int32) (v1 : Int32) (o275 : Int32) (o280 : Int32) (o285 : Int32) (z316 : Int32) (v318 : Int32) (z332 : Int32) (v334 : Int32) (z345 : Int32) (o354 : Int32) (o361 : Int32) (hn_CS : ¬ (f_CS = (0 : Int32))) (hr_f_SF : f_SF.isRef = true) (hv1 : (p0 &&& (7 : Int32)) = v1) (c2 : ¬ (v1 = (0 : Int32))) (c42 : ¬ (v1 = (1 : Int32))) (c96 : ¬ (v1 = (2 : Int32))) (c150 : ¬ (v1 = (3 : Int32))) (c200 : ¬ (v1 = (4 : Int32))) (c272 : v1 = (5 : Int32)) (hp276 : own_c8 o275) (hp281 : own_c8 o280) (hp286 : own_c8 o285) (hj317 : (((nar .char (nar .char (((nar .byte ((nar .char o275).toInt8.toInt32)) &&& (255 : Int32)).toUInt32.toUInt16.toUInt32.toInt32))) = (49 : Int32)) ∧ ((nar .char (nar .char (((nar .byte ((nar .char o280).toInt8.toInt32)) &&& (255 : Int32)).toUInt32.toUInt16.toUInt32.toInt32))) = (46 : Int32)) ∧ ((nar .char (nar .char (((nar .byte ((nar .char o285).toInt8.toInt32)) &&& (255 : Int32)).toUInt32.toUInt16.toUInt32.toInt32))) = (49 : Int32)) ∧ z316 = (1 : Int32)) ∨ (((nar .char (nar .char (((nar .byte ((nar .char o275).toInt8.toInt32)) &&& (255 : Int32)).toUInt32.toUInt16.toUInt32.toInt32))) = (49 : Int32)) ∧ ((nar .char (nar .char (((nar .byte ((nar .char o280).toInt8.toInt32)) &&& (255 : Int32)).toUInt32.toUInt16.toUInt32.toInt32))) = (46 : Int32)) ∧ (¬ ((nar .char (nar .char (((nar .byte ((nar .char o285).toInt8.toInt32)) &&& (255 : Int32)).toUInt32.toUInt16.toUInt32.toInt32))) = (49 : Int32))) ∧ z316 = (0 : Int32)) ∨ (((nar .char (nar .char (((nar .byte ((nar .char o275).toInt8.toInt32)) &&& (255 : Int32)).toUInt32.toUInt16.toUInt32.toInt32))) = (49 : Int32)) ∧ (¬ ((nar .char (nar .char (((nar .byte ((nar .char o280).toInt8.toInt32)) &&& (255 : Int32)).toUInt32.toUInt16.toUInt32.toInt32))) = (46 : Int32))) ∧ z316 = (0 : Int32)) ∨ ((¬ ((nar .char (nar .char (((nar .byte ((nar .char o275).toInt8.toInt32)) &&& (255 : Int32)).toUInt32.toUInt16.toUInt32.toInt32))) = (49 : Int32))) ∧ z316 = (0 : Int32))) (hv318 : (p1 &&& (7 : Int32)) = v318) (hj333 : ((v318 = (0 : Int32)) ∧ z332 = (13 : Int32)) ∨ ((¬ (v318 = (0 : Int32))) ∧ (v318 = (1 : Int32)) ∧ z332 = (10 : Int32)) ∨ ((¬ (v318 = (0 : Int32))) ∧ (¬ (v318 = (1 : Int32))) ∧ (v318 = (2 : Int32)) ∧ z332 = (133 : Int32)) ∨ ((¬ (v318 = (0 : Int32))) ∧ (¬ (v318 = (1 : Int32))) ∧ (¬ (v318 = (2 : Int32))) ∧ (v318 = (3 : Int32)) ∧ z332 = (8232 : Int32)) ∨ ((¬ (v318 = (0 : Int32))) ∧ (¬ (v318 = (1 : Int32))) ∧ (¬ (v318 = (2 : Int32))) ∧ (¬ (v318 = (3 : Int32))) ∧ (v318 = (4 : Int32)) ∧ z332 = (8233 : Int32)) ∨ ((¬ (v318 = (0 : Int32))) ∧ (¬ (v318 = (1 : Int32))) ∧ (¬ (v318 = (2 : Int32))) ∧ (¬ (v318 = (3 : Int32))) ∧ (¬ (v318 = (4 : Int32))) ∧ (v318 = (5 : Int32)) ∧ z332 = (12 : Int32)) ∨ (∃ (v325 : Int32), (¬ (v318 = (0 : Int32))) ∧ (¬ (v318 = (1 : Int32))) ∧ (¬ (v318 = (2 : Int32))) ∧ (¬ (v318 = (3 : Int32))) ∧ (¬ (v318 = (4 : Int32))) ∧ (¬ (v318 = (5 : Int32))) ∧ ((p2 &&& (65535 : Int32)) = v325) ∧ z332 = v325)) (hv334 : (z332.toUInt32.toUInt16.toUInt32.toInt32) = v334) (hj346 : ((z332 = (10 : Int32)) ∧ z345 = (1 : Int32)) ∨ ((¬ (z332 = (10 : Int32))) ∧ (z332 = (13 : Int32)) ∧ z345 = (1 : Int32)) ∨ ((¬ (z332 = (10 : Int32))) ∧ (¬ (z332 = (13 : Int32))) ∧ (z332 = (133 : Int32)) ∧ z345 = z316) ∨ ((¬ (z332 = (10 : Int32))) ∧ (¬ (z332 = (13 : Int32))) ∧ (¬ (z332 = (133 : Int32))) ∧ (z332 = (8232 : Int32)) ∧ z345 = z316) ∨ ((¬ (z332 = (10 : Int32))) ∧ (¬ (z332 = (13 : Int32))) ∧ (¬ (z332 = (133 : Int32))) ∧ (¬ (z332 = (8232 : Int32))) ∧ z345 = (0 : Int32))) (hp359 : (∃ (o14_lcR3 : Int32), (own_eq3 (own_li [49, 46, 49]) (own_upd (own_upd (own_upd (fun _ => (0 : Int32)) 0 (nar .byte ((nar .char o275).toInt8.toInt32))) 1 (nar .byte ((nar .char o280).toInt8.toInt32))) 2 (nar .byte ((nar .char o285).toInt8.toInt32))) o14_lcR3) ∧ o354 = (nar .boolean o14_lcR3))) (hp362 : own_is (own_ends v334 o354) o361) (c363 : ¬ (o361 = z345)) : False := by
  have hz : z332 = 13 ∨ z332 = 10 ∨ z332 = 133 ∨ z332 = 8232 ∨ z332 = 8233 ∨ z332 = 12 ∨ z332 = p2 &&& 65535 := by
    clear c363 hp362 hp359 hj346 hv334 hv318 hj317 hp286 hp281 hp276 c272 c200 c150 c96 c42 c2 hv1
    grind
  exact own_finE hz hv334 hj346 (own_x5 hj317 hp359) hp362 c363
theorem ob_0_34 (f_CS : Int32) (f_SF : Value) (p0 : Int32) (v1 : Int32) (o367 : Int32) (o372 : Int32) (o377 : Int32) (o382 : Int32) (hn_CS : ¬ (f_CS = (0 : Int32))) (hr_f_SF : f_SF.isRef = true) (hv1 : (p0 &&& (7 : Int32)) = v1) (c2 : ¬ (v1 = (0 : Int32))) (c42 : ¬ (v1 = (1 : Int32))) (c96 : ¬ (v1 = (2 : Int32))) (c150 : ¬ (v1 = (3 : Int32))) (c200 : ¬ (v1 = (4 : Int32))) (c272 : ¬ (v1 = (5 : Int32))) (c364 : v1 = (6 : Int32)) (hp368 : own_c8 o367) (hp373 : own_c8 o372) (hp378 : own_c8 o377) (hp383 : own_c8 o382) : ¬ ((255 : Int32) < (nar .char o367)) := by
  exact (own_c8n hp368).1
theorem ob_0_35 (f_CS : Int32) (f_SF : Value) (p0 : Int32) (v1 : Int32) (o367 : Int32) (o372 : Int32) (o377 : Int32) (o382 : Int32) (hn_CS : ¬ (f_CS = (0 : Int32))) (hr_f_SF : f_SF.isRef = true) (hv1 : (p0 &&& (7 : Int32)) = v1) (c2 : ¬ (v1 = (0 : Int32))) (c42 : ¬ (v1 = (1 : Int32))) (c96 : ¬ (v1 = (2 : Int32))) (c150 : ¬ (v1 = (3 : Int32))) (c200 : ¬ (v1 = (4 : Int32))) (c272 : ¬ (v1 = (5 : Int32))) (c364 : v1 = (6 : Int32)) (hp368 : own_c8 o367) (hp373 : own_c8 o372) (hp378 : own_c8 o377) (hp383 : own_c8 o382) : ¬ ((255 : Int32) < (nar .char o372)) := by
  exact (own_c8n hp373).1
theorem ob_0_36 (f_CS : Int32) (f_SF : Value) (p0 : Int32) (v1 : Int32) (o367 : Int32) (o372 : Int32) (o377 : Int32) (o382 : Int32) (hn_CS : ¬ (f_CS = (0 : Int32))) (hr_f_SF : f_SF.isRef = true) (hv1 : (p0 &&& (7 : Int32)) = v1) (c2 : ¬ (v1 = (0 : Int32))) (c42 : ¬ (v1 = (1 : Int32))) (c96 : ¬ (v1 = (2 : Int32))) (c150 : ¬ (v1 = (3 : Int32))) (c200 : ¬ (v1 = (4 : Int32))) (c272 : ¬ (v1 = (5 : Int32))) (c364 : v1 = (6 : Int32)) (hp368 : own_c8 o367) (hp373 : own_c8 o372) (hp378 : own_c8 o377) (hp383 : own_c8 o382) : ¬ ((255 : Int32) < (nar .char o377)) := by
  exact (own_c8n hp378).1
theorem ob_0_37 (f_CS : Int32) (f_SF : Value) (p0 : Int32) (v1 : Int32) (o367 : Int32) (o372 : Int32) (o377 : Int32) (o382 : Int32) (hn_CS : ¬ (f_CS = (0 : Int32))) (hr_f_SF : f_SF.isRef = true) (hv1 : (p0 &&& (7 : Int32)) = v1) (c2 : ¬ (v1 = (0 : Int32))) (c42 : ¬ (v1 = (1 : Int32))) (c96 : ¬ (v1 = (2 : Int32))) (c150 : ¬ (v1 = (3 : Int32))) (c200 : ¬ (v1 = (4 : Int32))) (c272 : ¬ (v1 = (5 : Int32))) (c364 : v1 = (6 : Int32)) (hp368 : own_c8 o367) (hp373 : own_c8 o372) (hp378 : own_c8 o377) (hp383 : own_c8 o382) : ¬ ((255 : Int32) < (nar .char o382)) := by
  exact (own_c8n hp383).1
theorem ob_0_38 (f_CS : Int32) (f_SF : Value) (p0 : Int32) (p1 : Int32) (p2 : Int32) (v1 : Int32) (o367 : Int32) (o372 : Int32) (o377 : Int32) (o382 : Int32) (v400 : Int32) (z414 : Int32) (v416 : Int32) (z427 : Int32) (o436 : Int32) (o443 : Int32) (hn_CS : ¬ (f_CS = (0 : Int32))) (hr_f_SF : f_SF.isRef = true) (hv1 : (p0 &&& (7 : Int32)) = v1) (c2 : ¬ (v1 = (0 : Int32))) (c42 : ¬ (v1 = (1 : Int32))) (c96 : ¬ (v1 = (2 : Int32))) (c150 : ¬ (v1 = (3 : Int32))) (c200 : ¬ (v1 = (4 : Int32))) (c272 : ¬ (v1 = (5 : Int32))) (c364 : v1 = (6 : Int32)) (hp368 : own_c8 o367) (hp373 : own_c8 o372) (hp378 : own_c8 o377) (hp383 : own_c8 o382) (hv400 : (p1 &&& (7 : Int32)) = v400) (hj415 : ((v400 = (0 : Int32)) ∧ z414 = (13 : Int32)) ∨ ((¬ (v400 = (0 : Int32))) ∧ (v400 = (1 : Int32)) ∧ z414 = (10 : Int32)) ∨ ((¬ (v400 = (0 : Int32))) ∧ (¬ (v400 = (1 : Int32))) ∧ (v400 = (2 : Int32)) ∧ z414 = (133 : Int32)) ∨ ((¬ (v400 = (0 : Int32))) ∧ (¬ (v400 = (1 : Int32))) ∧ (¬ (v400 = (2 : Int32))) ∧ (v400 = (3 : Int32)) ∧ z414 = (8232 : Int32)) ∨ ((¬ (v400 = (0 : Int32))) ∧ (¬ (v400 = (1 : Int32))) ∧ (¬ (v400 = (2 : Int32))) ∧ (¬ (v400 = (3 : Int32))) ∧ (v400 = (4 : Int32)) ∧ z414 = (8233 : Int32)) ∨ ((¬ (v400 = (0 : Int32))) ∧ (¬ (v400 = (1 : Int32))) ∧ (¬ (v400 = (2 : Int32))) ∧ (¬ (v400 = (3 : Int32))) ∧ (¬ (v400 = (4 : Int32))) ∧ (v400 = (5 : Int32)) ∧ z414 = (12 : Int32)) ∨ (∃ (v407 : Int32), (¬ (v400 = (0 : Int32))) ∧ (¬ (v400 = (1 : Int32))) ∧ (¬ (v400 = (2 : Int32))) ∧ (¬ (v400 = (3 : Int32))) ∧ (¬ (v400 = (4 : Int32))) ∧ (¬ (v400 = (5 : Int32))) ∧ ((p2 &&& (65535 : Int32)) = v407) ∧ z414 = v407)) (hv416 : (z414.toUInt32.toUInt16.toUInt32.toInt32) = v416) (hj428 : ((z414 = (10 : Int32)) ∧ z427 = (1 : Int32)) ∨ ((¬ (z414 = (10 : Int32))) ∧ (z414 = (13 : Int32)) ∧ z427 = (1 : Int32)) ∨ ((¬ (z414 = (10 : Int32))) ∧ (¬ (z414 = (13 : Int32))) ∧ (z414 = (133 : Int32)) ∧ z427 = (0 : Int32)) ∨ ((¬ (z414 = (10 : Int32))) ∧ (¬ (z414 = (13 : Int32))) ∧ (¬ (z414 = (133 : Int32))) ∧ (z414 = (8232 : Int32)) ∧ z427 = (0 : Int32)) ∨ ((¬ (z414 = (10 : Int32))) ∧ (¬ (z414 = (13 : Int32))) ∧ (¬ (z414 = (133 : Int32))) ∧ (¬ (z414 = (8232 : Int32))) ∧ z427 = (0 : Int32))) (hp441 : (∃ (o14_lcR4 : Int32), (own_z0 o14_lcR4) ∧ o436 = (nar .boolean o14_lcR4))) (hp444 : own_is (own_ends v416 o436) o443) (c445 : ¬ (o443 = z427)) : False := by
  have hz : z414 = 13 ∨ z414 = 10 ∨ z414 = 133 ∨ z414 = 8232 ∨ z414 = 8233 ∨ z414 = 12 ∨ z414 = p2 &&& 65535 := by
    clear c445 hp444 hp441 hj428 hv416 hv400 hp383 hp378 hp373 hp368 c364 c272 c200 c150 c96 c42 c2 hv1
    grind
  exact own_finE hz hv416 hj428 (own_xz hp441) hp444 c445
theorem ob_0_39 (f_CS : Int32) (f_SF : Value) (p0 : Int32) (v1 : Int32) (o452 : Int32) (hn_CS : ¬ (f_CS = (0 : Int32))) (hr_f_SF : f_SF.isRef = true) (hv1 : (p0 &&& (7 : Int32)) = v1) (c2 : ¬ (v1 = (0 : Int32))) (c42 : ¬ (v1 = (1 : Int32))) (c96 : ¬ (v1 = (2 : Int32))) (c150 : ¬ (v1 = (3 : Int32))) (c200 : ¬ (v1 = (4 : Int32))) (c272 : ¬ (v1 = (5 : Int32))) (c364 : ¬ (v1 = (6 : Int32))) (hp453 : own_c8 o452) : ¬ ((255 : Int32) < (nar .char o452)) := by
  exact (own_c8n hp453).1
theorem ob_0_40 (f_CS : Int32) (f_SF : Value) (p0 : Int32) (p1 : Int32) (p2 : Int32) (v1 : Int32) (o452 : Int32) (z481 : Int32) (v483 : Int32) (z497 : Int32) (v499 : Int32) (z510 : Int32) (o519 : Int32) (o526 : Int32) (hn_CS : ¬ (f_CS = (0 : Int32))) (hr_f_SF : f_SF.isRef = true) (hv1 : (p0 &&& (7 : Int32)) = v1) (c2 : ¬ (v1 = (0 : Int32))) (c42 : ¬ (v1 = (1 : Int32))) (c96 : ¬ (v1 = (2 : Int32))) (c150 : ¬ (v1 = (3 : Int32))) (c200 : ¬ (v1 = (4 : Int32))) (c272 : ¬ (v1 = (5 : Int32))) (c364 : ¬ (v1 = (6 : Int32))) (hp453 : own_c8 o452) (hj482 : (((nar .char (nar .char (((nar .byte ((nar .char o452).toInt8.toInt32)) &&& (255 : Int32)).toUInt32.toUInt16.toUInt32.toInt32))) = (49 : Int32)) ∧ z481 = (1 : Int32)) ∨ ((¬ ((nar .char (nar .char (((nar .byte ((nar .char o452).toInt8.toInt32)) &&& (255 : Int32)).toUInt32.toUInt16.toUInt32.toInt32))) = (49 : Int32))) ∧ z481 = (0 : Int32))) (hv483 : (p1 &&& (7 : Int32)) = v483) (hj498 : ((v483 = (0 : Int32)) ∧ z497 = (13 : Int32)) ∨ ((¬ (v483 = (0 : Int32))) ∧ (v483 = (1 : Int32)) ∧ z497 = (10 : Int32)) ∨ ((¬ (v483 = (0 : Int32))) ∧ (¬ (v483 = (1 : Int32))) ∧ (v483 = (2 : Int32)) ∧ z497 = (133 : Int32)) ∨ ((¬ (v483 = (0 : Int32))) ∧ (¬ (v483 = (1 : Int32))) ∧ (¬ (v483 = (2 : Int32))) ∧ (v483 = (3 : Int32)) ∧ z497 = (8232 : Int32)) ∨ ((¬ (v483 = (0 : Int32))) ∧ (¬ (v483 = (1 : Int32))) ∧ (¬ (v483 = (2 : Int32))) ∧ (¬ (v483 = (3 : Int32))) ∧ (v483 = (4 : Int32)) ∧ z497 = (8233 : Int32)) ∨ ((¬ (v483 = (0 : Int32))) ∧ (¬ (v483 = (1 : Int32))) ∧ (¬ (v483 = (2 : Int32))) ∧ (¬ (v483 = (3 : Int32))) ∧ (¬ (v483 = (4 : Int32))) ∧ (v483 = (5 : Int32)) ∧ z497 = (12 : Int32)) ∨ (∃ (v490 : Int32), (¬ (v483 = (0 : Int32))) ∧ (¬ (v483 = (1 : Int32))) ∧ (¬ (v483 = (2 : Int32))) ∧ (¬ (v483 = (3 : Int32))) ∧ (¬ (v483 = (4 : Int32))) ∧ (¬ (v483 = (5 : Int32))) ∧ ((p2 &&& (65535 : Int32)) = v490) ∧ z497 = v490)) (hv499 : (z497.toUInt32.toUInt16.toUInt32.toInt32) = v499) (hj511 : ((z497 = (10 : Int32)) ∧ z510 = (1 : Int32)) ∨ ((¬ (z497 = (10 : Int32))) ∧ (z497 = (13 : Int32)) ∧ z510 = (1 : Int32)) ∨ ((¬ (z497 = (10 : Int32))) ∧ (¬ (z497 = (13 : Int32))) ∧ (z497 = (133 : Int32)) ∧ z510 = z481) ∨ ((¬ (z497 = (10 : Int32))) ∧ (¬ (z497 = (13 : Int32))) ∧ (¬ (z497 = (133 : Int32))) ∧ (z497 = (8232 : Int32)) ∧ z510 = z481) ∨ ((¬ (z497 = (10 : Int32))) ∧ (¬ (z497 = (13 : Int32))) ∧ (¬ (z497 = (133 : Int32))) ∧ (¬ (z497 = (8232 : Int32))) ∧ z510 = (0 : Int32))) (hp524 : (∃ (o14_lcR3 : Int32), (own_eq3 (own_li [49, 46, 49]) (own_upd (own_upd (own_upd (fun _ => (0 : Int32)) 0 (49 : Int32)) 1 (46 : Int32)) 2 (nar .byte ((nar .char o452).toInt8.toInt32))) o14_lcR3) ∧ o519 = (nar .boolean o14_lcR3))) (hp527 : own_is (own_ends v499 o519) o526) (c528 : ¬ (o526 = z510)) : False := by
  have hz : z497 = 13 ∨ z497 = 10 ∨ z497 = 133 ∨ z497 = 8232 ∨ z497 = 8233 ∨ z497 = 12 ∨ z497 = p2 &&& 65535 := by
    clear c528 hp527 hp524 hj511 hv499 hv483 hj482 hp453 c364 c272 c200 c150 c96 c42 c2 hv1
    grind
  exact own_finE hz hv499 hj511 (own_x7 hj482 hp524) hp527 c528
def Q0 (Z : State) (f_CS : Int32) (f_SF : Value) (p0 : Int32) (p1 : Int32) (p2 : Int32) (q3 : Int64) (h0 : Heap) (n0 : Nat) (v : Option Value) (h : Heap) (L : List Loc) : Prop := v = some (.int (1 : Int32)) ∧ Fr n0 L
set_option maxRecDepth 65536 in
set_option maxHeartbeats 40000000 in
theorem rm0 (l : Launch) (Z : State) (A0 : Array Value) (hw : ∀ d ∈ tables_1, d.before A0 Z = true) (ws : List Jvm.Cond) (f_CS : Int32) (f_SF : Value) (p0 : Int32) (p1 : Int32) (p2 : Int32) (q3 : Int64) (h0 : Heap) (n0 : Nat) (Z0 : n0 ≤ h0.size) (P_S_CS : Sta Z h0 "java/lang/String" "COMPACT_STRINGS" "Z" (.int f_CS)) (hn_CS : ¬ (f_CS = (0 : Int32))) (P_S_SF : Sta Z h0 "jdk/internal/util/Preconditions" "SIOOBE_FORMATTER" "Ljava/util/function/BiFunction;" f_SF) (hr_f_SF : f_SF.isRef = true) :
    MetFree l x (head1 (Jvm.Cond.code x code maxLocals ret :: ws) room_1) (fun a U => a = #[(.int p0), (.int p1), (.int p2), (.long q3)] ∧ Z.Warmed39 U.vm ∧ U.heap = h0 ∧ CHv Z consts_1 U.vm h0) (fun _ _ _ _ _ => True) (fun _ U o U' => ∃ v L, o = .returned v ∧ Q0 Z f_CS f_SF p0 p1 p2 q3 h0 n0 v U'.heap L ∧ CHr Z consts_1 U.vm U.heap U'.vm U'.heap ∧ ReturnedEndW U o U' L 24 4224) := by
 refine MetFree.of_bodySF (plainFor_of_name pn_0) hisR ?_
 intro p e s m args below meth c s₁ Bd hml0 hP hK
 obtain ⟨rfl, hZ, hh, hC0⟩ := hP
 have hwd := fun i {d : Jvm.Cond} (h : tables_1[i]? = some d) => hw d (List.mem_of_getElem? h)
 have hx := Bd.exec
 have hby := Bd.bytes
 have hml : c.maxLocals = 13 := hml0
 have hlk : meth.locks = false := Bd.notSynchronized
 have hown : s.vm.findClass "com/example/margay/margay/index/LineCounterEndsLinePinLaw" = some m.cls := findClass_of_methodNamed Bd.named
 have hnm := (name_of_methodNamed Bd.named Bd.method).1
 have X0 : Stand p l e room_1 (s.setVm s.vm) m #[(.int p0), (.int p1), (.int p2), (.long q3)] below meth c s₁ [] 0 0 := Stand.of_body Bd
 have e0 : s₁.heap = h0 := by rw [← hh, Bd.state]; rfl
 have N0 := Fr.nil n0
 have hEL := own_EW hw
 have hwS := fun a ha => hw a (own_atoms a ha)
 have CR0 : CHr Z consts_1 s.vm h0 s.vm h0 := CHr.refl hC0
 obtain ⟨kc0, hkc0⟩ : ∃ z, z = h0.size := ⟨_, rfl⟩
 have hk0 : kc0 ≤ h0.size := Nat.le_of_eq hkc0
 have hS : s.Since s.vm kc0 := own_since s kc0
 show own_Go p e below (own_FinW Z consts_1 s 24 4224 (Q0 Z f_CS f_SF p0 p1 p2 q3 h0 n0)) _
 refine own_by (fun t k => castTop (ef_0 m p0 p1 p2 q3) k) ?_
 show own_Go p e below _ (s₁.setTop (mkF m 0 #[vI p0, vI p1, vI p2, vJ q3, .second, .unset, .unset, .unset, .unset, .unset, .unset, .unset, .unset] []))
 refine own_by (fun _ k => XS.iloadN X0.here hx rfl (hb hby at_0) rfl k) ?_
 refine own_by (fun _ k => XS.bipush X0.here hx rfl (hb hby at_1) k) ?_
 refine own_by (fun _ k => XS.iand X0.here hx rfl (hb hby at_3) rfl k) ?_
 show own_Go p e below _ (s₁.setTop (mkF m 4 #[vI p0, vI p1, vI p2, vJ q3, .second, .unset, .unset, .unset, .unset, .unset, .unset, .unset, .unset] [(.int (p0 &&& (7 : Int32)))]))
 refine own_by (fun _ k => XS.istore X0.here hx rfl (hb hby at_4) rfl (l' := #[vI p0, vI p1, vI p2, vJ q3, .second, vI (p0 &&& (7 : Int32)), .unset, .unset, .unset, .unset, .unset, .unset, .unset]) rfl k) ?_
 show own_Go p e below _ (s₁.setTop (mkF m 6 #[vI p0, vI p1, vI p2, vJ q3, .second, vI (p0 &&& (7 : Int32)), .unset, .unset, .unset, .unset, .unset, .unset, .unset] []))
 generalize hv1 : (p0 &&& (7 : Int32)) = v1
 show own_Go p e below _ (s₁.setTop (mkF m 6 #[vI p0, vI p1, vI p2, vJ q3, .second, vI v1, .unset, .unset, .unset, .unset, .unset, .unset, .unset] []))
 refine own_by (fun _ k => XS.iload X0.here hx rfl (hb hby at_6) rfl k) ?_
 by_cases c2 : v1 = (0 : Int32)
 ·skip
  refine own_by (fun _ k => XS.ifNo X0.here hx rfl (hb hby at_8) rfl ((if0 _ _).trans (teq c2).2) k) ?_
  show own_Go p e below _ (s₁.setTop (mkF m 11 #[vI p0, vI p1, vI p2, vJ q3, .second, vI v1, .unset, .unset, .unset, .unset, .unset, .unset, .unset] []))
  refine own_by (fun _ k => XS.aconstNull X0.here hx rfl (hb hby at_11) k) ?_
  show own_Go p e below _ (s₁.setTop (mkF m 12 #[vI p0, vI p1, vI p2, vJ q3, .second, vI v1, .unset, .unset, .unset, .unset, .unset, .unset, .unset] [.null]))
  refine own_by (fun _ k => XS.astore X0.here hx rfl (hb hby at_12) rfl rfl (l' := #[vI p0, vI p1, vI p2, vJ q3, .second, vI v1, .val .null, .unset, .unset, .unset, .unset, .unset, .unset]) rfl k) ?_
  show own_Go p e below _ (s₁.setTop (mkF m 14 #[vI p0, vI p1, vI p2, vJ q3, .second, vI v1, .val .null, .unset, .unset, .unset, .unset, .unset, .unset] []))
  refine own_by (fun _ k => XS.goto X0.here hx rfl (pc0 := 14) (pc' := 257) rfl (hb hby at_14) (by decide) (by decide) k) ?_
  show own_Go p e below _ (s₁.setTop (mkF m 257 #[vI p0, vI p1, vI p2, vJ q3, .second, vI v1, .val .null, .unset, .unset, .unset, .unset, .unset, .unset] []))
  refine own_by (fun _ k => XS.aload X0.here hx rfl (hb hby at_257) rfl rfl k) ?_
  refine own_by (fun _ k => XS.ifnullYes X0.here hx rfl (pc0 := 259) (pc' := 308) rfl (hb hby at_259) rfl (by decide) (by decide) k) ?_
  show own_Go p e below _ (s₁.setTop (mkF m 308 #[vI p0, vI p1, vI p2, vJ q3, .second, vI v1, .val .null, .unset, .unset, .unset, .unset, .unset, .unset] []))
  refine own_by (fun _ k => XS.iconst X0.here hx rfl (hb hby at_308) k) ?_
  refine own_by (fun _ k => XS.istore X0.here hx rfl (hb hby at_309) rfl (l' := #[vI p0, vI p1, vI p2, vJ q3, .second, vI v1, .val .null, vI (0 : Int32), .unset, .unset, .unset, .unset, .unset]) rfl k) ?_
  show own_Go p e below _ (s₁.setTop (mkF m 311 #[vI p0, vI p1, vI p2, vJ q3, .second, vI v1, .val .null, vI (0 : Int32), .unset, .unset, .unset, .unset, .unset] []))
  refine own_by (fun _ k => XS.iloadN X0.here hx rfl (hb hby at_311) rfl k) ?_
  refine own_by (fun _ k => XS.bipush X0.here hx rfl (hb hby at_312) k) ?_
  refine own_by (fun _ k => XS.iand X0.here hx rfl (hb hby at_314) rfl k) ?_
  show own_Go p e below _ (s₁.setTop (mkF m 315 #[vI p0, vI p1, vI p2, vJ q3, .second, vI v1, .val .null, vI (0 : Int32), .unset, .unset, .unset, .unset, .unset] [(.int (p1 &&& (7 : Int32)))]))
  refine own_by (fun _ k => XS.istore X0.here hx rfl (hb hby at_315) rfl (l' := #[vI p0, vI p1, vI p2, vJ q3, .second, vI v1, .val .null, vI (0 : Int32), vI (p1 &&& (7 : Int32)), .unset, .unset, .unset, .unset]) rfl k) ?_
  show own_Go p e below _ (s₁.setTop (mkF m 317 #[vI p0, vI p1, vI p2, vJ q3, .second, vI v1, .val .null, vI (0 : Int32), vI (p1 &&& (7 : Int32)), .unset, .unset, .unset, .unset] []))
  generalize hv3 : (p1 &&& (7 : Int32)) = v3
  show own_Go p e below _ (s₁.setTop (mkF m 317 #[vI p0, vI p1, vI p2, vJ q3, .second, vI v1, .val .null, vI (0 : Int32), vI v3, .unset, .unset, .unset, .unset] []))
  refine own_by (fun _ k => XS.iload X0.here hx rfl (hb hby at_317) rfl k) ?_
  have J11 : ∀ (T12 : State) (L13 : List Loc) (z17 : Int32), Stand p l e room_1 (s.setVm s.vm) m #[(.int p0), (.int p1), (.int p2), (.long q3)] below meth c T12 L13 0 0 → T12.heap = h0 → Fr n0 L13 → (((v3 = (0 : Int32)) ∧ z17 = (13 : Int32)) ∨ ((¬ (v3 = (0 : Int32))) ∧ (v3 = (1 : Int32)) ∧ z17 = (10 : Int32)) ∨ ((¬ (v3 = (0 : Int32))) ∧ (¬ (v3 = (1 : Int32))) ∧ (v3 = (2 : Int32)) ∧ z17 = (133 : Int32)) ∨ ((¬ (v3 = (0 : Int32))) ∧ (¬ (v3 = (1 : Int32))) ∧ (¬ (v3 = (2 : Int32))) ∧ (v3 = (3 : Int32)) ∧ z17 = (8232 : Int32)) ∨ ((¬ (v3 = (0 : Int32))) ∧ (¬ (v3 = (1 : Int32))) ∧ (¬ (v3 = (2 : Int32))) ∧ (¬ (v3 = (3 : Int32))) ∧ (v3 = (4 : Int32)) ∧ z17 = (8233 : Int32)) ∨ ((¬ (v3 = (0 : Int32))) ∧ (¬ (v3 = (1 : Int32))) ∧ (¬ (v3 = (2 : Int32))) ∧ (¬ (v3 = (3 : Int32))) ∧ (¬ (v3 = (4 : Int32))) ∧ (v3 = (5 : Int32)) ∧ z17 = (12 : Int32)) ∨ (∃ (v10 : Int32), (¬ (v3 = (0 : Int32))) ∧ (¬ (v3 = (1 : Int32))) ∧ (¬ (v3 = (2 : Int32))) ∧ (¬ (v3 = (3 : Int32))) ∧ (¬ (v3 = (4 : Int32))) ∧ (¬ (v3 = (5 : Int32))) ∧ ((p2 &&& (65535 : Int32)) = v10) ∧ z17 = v10)) → own_Go p e below (own_FinW Z consts_1 s 24 4224 (Q0 Z f_CS f_SF p0 p1 p2 q3 h0 n0)) (T12.setTop (mkF m 403 #[vI p0, vI p1, vI p2, vJ q3, .second, vI v1, .val .null, vI (0 : Int32), vI v3, vI z17, .unset, .unset, .unset] [])) := by
   intro T12 L13 z17 X14 e15 N16 hj18
   refine own_by (fun _ k => XS.iload X14.here hx rfl (hb hby at_403) rfl k) ?_
   refine own_by (fun _ k => XS.i2c X14.here hx rfl (hb hby at_405) rfl k) ?_
   show own_Go p e below _ (T12.setTop (mkF m 406 #[vI p0, vI p1, vI p2, vJ q3, .second, vI v1, .val .null, vI (0 : Int32), vI v3, vI z17, .unset, .unset, .unset] [(.int (z17.toUInt32.toUInt16.toUInt32.toInt32))]))
   refine own_by (fun _ k => XS.istore X14.here hx rfl (hb hby at_406) rfl (l' := #[vI p0, vI p1, vI p2, vJ q3, .second, vI v1, .val .null, vI (0 : Int32), vI v3, vI z17, vI (z17.toUInt32.toUInt16.toUInt32.toInt32), .unset, .unset]) rfl k) ?_
   show own_Go p e below _ (T12.setTop (mkF m 408 #[vI p0, vI p1, vI p2, vJ q3, .second, vI v1, .val .null, vI (0 : Int32), vI v3, vI z17, vI (z17.toUInt32.toUInt16.toUInt32.toInt32), .unset, .unset] []))
   generalize hv19 : (z17.toUInt32.toUInt16.toUInt32.toInt32) = v19
   show own_Go p e below _ (T12.setTop (mkF m 408 #[vI p0, vI p1, vI p2, vJ q3, .second, vI v1, .val .null, vI (0 : Int32), vI v3, vI z17, vI v19, .unset, .unset] []))
   refine own_by (fun _ k => XS.iload X14.here hx rfl (hb hby at_408) rfl k) ?_
   have J24 : ∀ (T25 : State) (L26 : List Loc) (z30 : Int32), Stand p l e room_1 (s.setVm s.vm) m #[(.int p0), (.int p1), (.int p2), (.long q3)] below meth c T25 L26 0 0 → T25.heap = h0 → Fr n0 L26 → (((z17 = (10 : Int32)) ∧ z30 = (1 : Int32)) ∨ ((¬ (z17 = (10 : Int32))) ∧ (z17 = (13 : Int32)) ∧ z30 = (1 : Int32)) ∨ ((¬ (z17 = (10 : Int32))) ∧ (¬ (z17 = (13 : Int32))) ∧ (z17 = (133 : Int32)) ∧ z30 = (0 : Int32)) ∨ ((¬ (z17 = (10 : Int32))) ∧ (¬ (z17 = (13 : Int32))) ∧ (¬ (z17 = (133 : Int32))) ∧ (z17 = (8232 : Int32)) ∧ z30 = (0 : Int32)) ∨ ((¬ (z17 = (10 : Int32))) ∧ (¬ (z17 = (13 : Int32))) ∧ (¬ (z17 = (133 : Int32))) ∧ (¬ (z17 = (8232 : Int32))) ∧ z30 = (0 : Int32))) → own_Go p e below (own_FinW Z consts_1 s 24 4224 (Q0 Z f_CS f_SF p0 p1 p2 q3 h0 n0)) (T25.setTop (mkF m 468 #[vI p0, vI p1, vI p2, vJ q3, .second, vI v1, .val .null, vI (0 : Int32), vI v3, vI z17, vI v19, vI z30, .unset] [])) := by
    intro T25 L26 z30 X27 e28 N29 hj31
    obtain ⟨T32, h32, X32, e32, E32, A32, D32, -, st32⟩ := newO X27 hx hZ hown (hwd 0 rfl) (hwd 1 rfl) (hwd 2 rfl) e28 (g := (mkF m 468 #[vI p0, vI p1, vI p2, vJ q3, .second, vI v1, .val .null, vI (0 : Int32), vI v3, vI z17, vI v19, vI z30, .unset] [])) rfl (hb hby at_468) (by decide) (by decide)
    obtain ⟨b32, g32⟩ : ∃ z, z = h0.size := ⟨_, rfl⟩
    have ge_b32 : n0 ≤ b32 := Nat.le_trans Z0 (Nat.le_of_eq g32.symm)
    have sz_b32 : h0.size ≤ b32 := Nat.le_trans (Keep.refl h0 []).1 (Nat.le_of_eq g32.symm)
    have R32 : CHr Z consts_1 s.vm h0 s.vm h32 := CHr.ext E32 CR0.1
    have CR32 : CHr Z consts_1 s.vm h0 s.vm h32 := CR0.trans R32
    have hk32 : kc0 ≤ h32.size := Nat.le_trans hk0 E32.1
    have S_b32 : Safe Z consts_1 s.vm h32 b32 := Safe.ext E32 CR0.1 (Safe.new (Nat.le_of_eq g32.symm))
    have K32 : Keep h0 h32 [] := (Keep.refl h0 []).ext E32
    have Z32 : n0 ≤ h32.size := Nat.le_trans Z0 E32.1
    rw [← g32] at A32 D32 st32
    have lt_b32 := A32.lt
    have F_line_b32 : Fld Z h32 b32 "com/example/margay/margay/index/LineCounter" "line" "I" (.int (0 : Int32)) := D32 (Or.inl (hwd 10 rfl)) (ty := .int) (by decide)
    have F_column_b32 : Fld Z h32 b32 "com/example/margay/margay/index/LineCounter" "column" "I" (.int (0 : Int32)) := D32 (Or.inl (hwd 12 rfl)) (ty := .int) (by decide)
    have F_xml11_b32 : Fld Z h32 b32 "com/example/margay/margay/index/LineCounter" "xml11" "Z" (.int (0 : Int32)) := D32 (Or.inr (hwd 27 rfl)) (ty := .boolean) (by decide)
    refine own_by st32 ?_
    show own_Go p e below _ (T32.setTop (mkF m 471 #[vI p0, vI p1, vI p2, vJ q3, .second, vI v1, .val .null, vI (0 : Int32), vI v3, vI z17, vI v19, vI z30, .unset] [(.ref b32)]))
    refine own_by (fun _ k => XS.dup X32.here hx rfl (hb hby at_471) rfl rfl k) ?_
    show own_Go p e below _ (T32.setTop (mkF m 472 #[vI p0, vI p1, vI p2, vJ q3, .second, vI v1, .val .null, vI (0 : Int32), vI v3, vI z17, vI v19, vI z30, .unset] [(.ref b32), (.ref b32)]))
    refine own_by (fun _ k => XS.aload X32.here hx rfl (hb hby at_472) rfl rfl k) ?_
    obtain ⟨_, _, ⟨T33, L33, k33, n33⟩, -, X33', hSq33, hgr33, ⟨Lc33, hQ33, l33, y33, z33, R33⟩, st33⟩ := X32.specialBackS hx (y := (⟨"com/example/margay/margay/index/LineCounter", "<init>", "(Ljava/lang/String;)V"⟩ : MethodName)) rfl hown (mvT hZ (hwd 3 rfl)) (mvT hZ (hwd 4 rfl)) (mvT hZ (hwd 5 rfl)) (by decide) (backOfSH (W := 1) (rmlcN l Z A0 hw [] b32 (0 : Int32) (0 : Int32) (0 : Int32) h32 n0 Z32 A32 F_line_b32 ge_b32 F_column_b32 F_xml11_b32) hZ (hwd 5 rfl) (hwd 2 rfl) (by decide) (by decide) hEL CR32.1) (g := (mkF m 474 #[vI p0, vI p1, vI p2, vJ q3, .second, vI v1, .val .null, vI (0 : Int32), vI v3, vI z17, vI v19, vI z30, .unset] [.null, (.ref b32), (.ref b32)])) rfl (by rw [hml]; rfl) (Steps.refl _) (a := b32) (argsL := [.null]) (rest := [(.ref b32)]) (lenOf pd_3 rfl) rfl (by show 2 * 0 + _ ≤ _; exact Nat.le_of_eq rfl) (hb hby at_474) (fun _ _ => ⟨rfl, e32, (by decide : 1 + 2 ≤ _), (by decide : 4 + 16 ≤ _)⟩)
    dsimp only [Pt.U, Pt.locs, Pt.cells, Pt.slots] at X33' l33 y33 z33 st33 hQ33 hSq33 hgr33 R33
    subst l33 y33 z33
    obtain ⟨X33, hS, hZ, hown⟩ := rebS hS (by rw [e32]; exact hk32) X33' hSq33 hgr33 hZ hown
    obtain ⟨kc33, hkc33⟩ : ∃ z, z = T33.heap.size := ⟨_, rfl⟩
    rw [← hkc33] at hS
    have hk33 : kc33 ≤ T33.heap.size := Nat.le_of_eq hkc33
    have CR33 : CHr Z consts_1 s.vm h0 T33.vm T33.heap := CR32.trans R33
    obtain ⟨rfl, Nq33, Kq33, F34, F35, F36, F37⟩ := hQ33
    have N33 := Fr.app N29 Nq33
    have K33 : Keep h0 T33.heap [] := K32.trans Kq33 ((allS (Or.inr sz_b32) all0))
    have Z33 : n0 ≤ T33.heap.size := Nat.le_trans Z32 Kq33.1
    refine own_by (fun _ k => st33.trans k) ?_
    show own_Go p e below _ (T33.setTop (mkF m 477 #[vI p0, vI p1, vI p2, vJ q3, .second, vI v1, .val .null, vI (0 : Int32), vI v3, vI z17, vI v19, vI z30, .unset] [(.ref b32)]))
    refine own_by (fun _ k => XS.astore X33.here hx rfl (hb hby at_477) rfl rfl (l' := #[vI p0, vI p1, vI p2, vJ q3, .second, vI v1, .val .null, vI (0 : Int32), vI v3, vI z17, vI v19, vI z30, vR b32]) rfl k) ?_
    show own_Go p e below _ (T33.setTop (mkF m 479 #[vI p0, vI p1, vI p2, vJ q3, .second, vI v1, .val .null, vI (0 : Int32), vI v3, vI z17, vI v19, vI z30, vR b32] []))
    refine own_by (fun _ k => XS.aload X33.here hx rfl (hb hby at_479) rfl rfl k) ?_
    refine own_by (fun _ k => XS.iload X33.here hx rfl (hb hby at_481) rfl k) ?_
    obtain ⟨cq38, kq38, qq38a, qq38b, qq38c⟩ := isOf hZ rfl F34
    obtain ⟨_, _, ⟨T38, L38, k38, n38⟩, -, X38, ⟨Lc38, hQ38, l38, y38, z38⟩, st38⟩ := X33.virtualBack hx (y := (⟨"com/example/margay/margay/index/LineCounter", "endsLine", "(C)Z"⟩ : MethodName)) (z := (⟨"com/example/margay/margay/index/LineCounter", "endsLine", "(C)Z"⟩ : MethodName)) hown (mvT hZ (hwd 28 rfl)) (mvT hZ (hwd 29 rfl)) (notFace_of_selects (args := #[]) (mvT hZ (hwd 31 rfl))) (mvT hZ (hwd 31 rfl)) (mvT hZ (hwd 30 rfl)) (by decide) (backOf (W := 0) (rm4 l Z A0 hw [] b32 v19 (0 : Int32) T33.heap n0 Z33 F37) hZ (hwd 32 rfl) (hwd 2 rfl) (by decide) (by decide)) qq38a qq38c (g := (mkF m 483 #[vI p0, vI p1, vI p2, vJ q3, .second, vI v1, .val .null, vI (0 : Int32), vI v3, vI z17, vI v19, vI z30, vR b32] [(.int v19), (.ref b32)])) rfl (by rw [hml]; rfl) (Steps.refl _) (argsL := [(.int v19)]) (rest := []) (lenOf pd_28 rfl) rfl (by show 2 * 0 + _ ≤ _; exact Nat.le_of_eq rfl) (hb hby at_483) (fun _ _ => ⟨rfl, rfl, (by decide : 3 + 0 ≤ _), (by decide : 20 + 0 ≤ _)⟩)
    dsimp only [Pt.U, Pt.locs, Pt.cells, Pt.slots] at X38 l38 y38 z38 st38 hQ38
    subst l38 y38 z38
    obtain ⟨o39, rfl, Nq38, eq38, hp40⟩ := hQ38
    have N38 := Fr.app N33 Nq38
    refine own_by (fun _ k => st38.trans k) ?_
    show own_Go p e below _ (T38.setTop (mkF m 486 #[vI p0, vI p1, vI p2, vJ q3, .second, vI v1, .val .null, vI (0 : Int32), vI v3, vI z17, vI v19, vI z30, vR b32] [(.int o39)]))
    refine own_by (fun _ k => XS.iload X38.here hx rfl (hb hby at_486) rfl k) ?_
    by_cases c41 : o39 = z30
    ·skip
     refine own_by (fun _ k => XS.icmpNo X38.here hx rfl (hb hby at_488) rfl (teq c41).2 k) ?_
     show own_Go p e below _ (T38.setTop (mkF m 491 #[vI p0, vI p1, vI p2, vJ q3, .second, vI v1, .val .null, vI (0 : Int32), vI v3, vI z17, vI v19, vI z30, vR b32] []))
     refine own_by (fun _ k => XS.iconst X38.here hx rfl (hb hby at_491) k) ?_
     refine own_by (fun _ k => XS.goto X38.here hx rfl (pc0 := 492) (pc' := 496) rfl (hb hby at_492) (by decide) (by decide) k) ?_
     show own_Go p e below _ (T38.setTop (mkF m 496 #[vI p0, vI p1, vI p2, vJ q3, .second, vI v1, .val .null, vI (0 : Int32), vI v3, vI z17, vI v19, vI z30, vR b32] [(.int (1 : Int32))]))
     exact own_retNW X38 hx hS hk33 hZ hEL hh CR33 (t := .boolean) Bd.returns (by simp) (hb hby at_496) hlk eq38 ⟨rfl, N38⟩ (by decide) (by decide)
    ·skip
     refine own_by (fun _ k => XS.icmpYes X38.here hx rfl (pc0 := 488) (pc' := 495) rfl (hb hby at_488) rfl (feq c41).2 (by decide) (by decide) k) ?_
     show own_Go p e below _ (T38.setTop (mkF m 495 #[vI p0, vI p1, vI p2, vJ q3, .second, vI v1, .val .null, vI (0 : Int32), vI v3, vI z17, vI v19, vI z30, vR b32] []))
     refine own_by (fun _ k => XS.iconst X38.here hx rfl (hb hby at_495) k) ?_
     exact own_retNW X38 hx hS hk33 hZ hEL hh CR33 (t := .boolean) Bd.returns (by simp) (hb hby at_496) hlk eq38 ⟨((ob_0_23 f_CS f_SF p0 p1 p2 v1 v3 z17 v19 z30 o39 hn_CS hr_f_SF hv1 c2 hv3 hj18 hv19 hj31 hp40 c41)).elim, N38⟩ (by decide) (by decide)
   by_cases c20 : z17 = (10 : Int32)
   ·skip
    refine own_by (fun t q => X14.lookupswitchHit hx (g := (mkF m 410 #[vI p0, vI p1, vI p2, vJ q3, .second, vI v1, .val .null, vI (0 : Int32), vI v3, vI z17, vI v19, .unset, .unset] [(.int z17)])) rfl (k := z17) rfl (hb hby at_410) (by decide) (a := 10) (off := 42) (by rw [c20]; rfl) (show (0 : Int) ≤ (410 : Int) + 42 by decide) t q) ?_
    show own_Go p e below _ (T12.setTop (mkF m 452 #[vI p0, vI p1, vI p2, vJ q3, .second, vI v1, .val .null, vI (0 : Int32), vI v3, vI z17, vI v19, .unset, .unset] []))
    refine own_by (fun _ k => XS.iconst X14.here hx rfl (hb hby at_452) k) ?_
    refine own_by (fun _ k => XS.istore X14.here hx rfl (hb hby at_453) rfl (l' := #[vI p0, vI p1, vI p2, vJ q3, .second, vI v1, .val .null, vI (0 : Int32), vI v3, vI z17, vI v19, vI (1 : Int32), .unset]) rfl k) ?_
    show own_Go p e below _ (T12.setTop (mkF m 455 #[vI p0, vI p1, vI p2, vJ q3, .second, vI v1, .val .null, vI (0 : Int32), vI v3, vI z17, vI v19, vI (1 : Int32), .unset] []))
    refine own_by (fun _ k => XS.goto X14.here hx rfl (pc0 := 455) (pc' := 468) rfl (hb hby at_455) (by decide) (by decide) k) ?_
    show own_Go p e below _ (T12.setTop (mkF m 468 #[vI p0, vI p1, vI p2, vJ q3, .second, vI v1, .val .null, vI (0 : Int32), vI v3, vI z17, vI v19, vI (1 : Int32), .unset] []))
    exact J24 _ _ (1 : Int32) X14 e15 N16 (Or.inl ⟨c20, rfl⟩)
   ·skip
    by_cases c21 : z17 = (13 : Int32)
    ·skip
     refine own_by (fun t q => X14.lookupswitchHit hx (g := (mkF m 410 #[vI p0, vI p1, vI p2, vJ q3, .second, vI v1, .val .null, vI (0 : Int32), vI v3, vI z17, vI v19, .unset, .unset] [(.int z17)])) rfl (k := z17) rfl (hb hby at_410) (by decide) (a := 13) (off := 42) (by rw [c21]; rfl) (show (0 : Int) ≤ (410 : Int) + 42 by decide) t q) ?_
     show own_Go p e below _ (T12.setTop (mkF m 452 #[vI p0, vI p1, vI p2, vJ q3, .second, vI v1, .val .null, vI (0 : Int32), vI v3, vI z17, vI v19, .unset, .unset] []))
     refine own_by (fun _ k => XS.iconst X14.here hx rfl (hb hby at_452) k) ?_
     refine own_by (fun _ k => XS.istore X14.here hx rfl (hb hby at_453) rfl (l' := #[vI p0, vI p1, vI p2, vJ q3, .second, vI v1, .val .null, vI (0 : Int32), vI v3, vI z17, vI v19, vI (1 : Int32), .unset]) rfl k) ?_
     show own_Go p e below _ (T12.setTop (mkF m 455 #[vI p0, vI p1, vI p2, vJ q3, .second, vI v1, .val .null, vI (0 : Int32), vI v3, vI z17, vI v19, vI (1 : Int32), .unset] []))
     refine own_by (fun _ k => XS.goto X14.here hx rfl (pc0 := 455) (pc' := 468) rfl (hb hby at_455) (by decide) (by decide) k) ?_
     show own_Go p e below _ (T12.setTop (mkF m 468 #[vI p0, vI p1, vI p2, vJ q3, .second, vI v1, .val .null, vI (0 : Int32), vI v3, vI z17, vI v19, vI (1 : Int32), .unset] []))
     exact J24 _ _ (1 : Int32) X14 e15 N16 (Or.inr (Or.inl ⟨c20, c21, rfl⟩))
    ·skip
     by_cases c22 : z17 = (133 : Int32)
     ·skip
      refine own_by (fun t q => X14.lookupswitchHit hx (g := (mkF m 410 #[vI p0, vI p1, vI p2, vJ q3, .second, vI v1, .val .null, vI (0 : Int32), vI v3, vI z17, vI v19, .unset, .unset] [(.int z17)])) rfl (k := z17) rfl (hb hby at_410) (by decide) (a := 133) (off := 48) (by rw [c22]; rfl) (show (0 : Int) ≤ (410 : Int) + 48 by decide) t q) ?_
      show own_Go p e below _ (T12.setTop (mkF m 458 #[vI p0, vI p1, vI p2, vJ q3, .second, vI v1, .val .null, vI (0 : Int32), vI v3, vI z17, vI v19, .unset, .unset] []))
      refine own_by (fun _ k => XS.iload X14.here hx rfl (hb hby at_458) rfl k) ?_
      refine own_by (fun _ k => XS.istore X14.here hx rfl (hb hby at_460) rfl (l' := #[vI p0, vI p1, vI p2, vJ q3, .second, vI v1, .val .null, vI (0 : Int32), vI v3, vI z17, vI v19, vI (0 : Int32), .unset]) rfl k) ?_
      show own_Go p e below _ (T12.setTop (mkF m 462 #[vI p0, vI p1, vI p2, vJ q3, .second, vI v1, .val .null, vI (0 : Int32), vI v3, vI z17, vI v19, vI (0 : Int32), .unset] []))
      refine own_by (fun _ k => XS.goto X14.here hx rfl (pc0 := 462) (pc' := 468) rfl (hb hby at_462) (by decide) (by decide) k) ?_
      show own_Go p e below _ (T12.setTop (mkF m 468 #[vI p0, vI p1, vI p2, vJ q3, .second, vI v1, .val .null, vI (0 : Int32), vI v3, vI z17, vI v19, vI (0 : Int32), .unset] []))
      exact J24 _ _ (0 : Int32) X14 e15 N16 (Or.inr (Or.inr (Or.inl ⟨c20, c21, c22, rfl⟩)))
     ·skip
      by_cases c23 : z17 = (8232 : Int32)
      ·skip
       refine own_by (fun t q => X14.lookupswitchHit hx (g := (mkF m 410 #[vI p0, vI p1, vI p2, vJ q3, .second, vI v1, .val .null, vI (0 : Int32), vI v3, vI z17, vI v19, .unset, .unset] [(.int z17)])) rfl (k := z17) rfl (hb hby at_410) (by decide) (a := 8232) (off := 48) (by rw [c23]; rfl) (show (0 : Int) ≤ (410 : Int) + 48 by decide) t q) ?_
       show own_Go p e below _ (T12.setTop (mkF m 458 #[vI p0, vI p1, vI p2, vJ q3, .second, vI v1, .val .null, vI (0 : Int32), vI v3, vI z17, vI v19, .unset, .unset] []))
       refine own_by (fun _ k => XS.iload X14.here hx rfl (hb hby at_458) rfl k) ?_
       refine own_by (fun _ k => XS.istore X14.here hx rfl (hb hby at_460) rfl (l' := #[vI p0, vI p1, vI p2, vJ q3, .second, vI v1, .val .null, vI (0 : Int32), vI v3, vI z17, vI v19, vI (0 : Int32), .unset]) rfl k) ?_
       show own_Go p e below _ (T12.setTop (mkF m 462 #[vI p0, vI p1, vI p2, vJ q3, .second, vI v1, .val .null, vI (0 : Int32), vI v3, vI z17, vI v19, vI (0 : Int32), .unset] []))
       refine own_by (fun _ k => XS.goto X14.here hx rfl (pc0 := 462) (pc' := 468) rfl (hb hby at_462) (by decide) (by decide) k) ?_
       show own_Go p e below _ (T12.setTop (mkF m 468 #[vI p0, vI p1, vI p2, vJ q3, .second, vI v1, .val .null, vI (0 : Int32), vI v3, vI z17, vI v19, vI (0 : Int32), .unset] []))
       exact J24 _ _ (0 : Int32) X14 e15 N16 (Or.inr (Or.inr (Or.inr (Or.inl ⟨c20, c21, c22, c23, rfl⟩))))
      ·skip
       refine own_by (fun t q => X14.lookupswitchMiss hx (g := (mkF m 410 #[vI p0, vI p1, vI p2, vJ q3, .second, vI v1, .val .null, vI (0 : Int32), vI v3, vI z17, vI v19, .unset, .unset] [(.int z17)])) rfl (k := z17) rfl (hb hby at_410) (by decide) (by simp [own_swn z17 (a := (10 : Int32)) (A := 10) rfl c20, own_swn z17 (a := (13 : Int32)) (A := 13) rfl c21, own_swn z17 (a := (133 : Int32)) (A := 133) rfl c22, own_swn z17 (a := (8232 : Int32)) (A := 8232) rfl c23]) (show (0 : Int) ≤ (410 : Int) + 55 by decide) t q) ?_
       show own_Go p e below _ (T12.setTop (mkF m 465 #[vI p0, vI p1, vI p2, vJ q3, .second, vI v1, .val .null, vI (0 : Int32), vI v3, vI z17, vI v19, .unset, .unset] []))
       refine own_by (fun _ k => XS.iconst X14.here hx rfl (hb hby at_465) k) ?_
       refine own_by (fun _ k => XS.istore X14.here hx rfl (hb hby at_466) rfl (l' := #[vI p0, vI p1, vI p2, vJ q3, .second, vI v1, .val .null, vI (0 : Int32), vI v3, vI z17, vI v19, vI (0 : Int32), .unset]) rfl k) ?_
       show own_Go p e below _ (T12.setTop (mkF m 468 #[vI p0, vI p1, vI p2, vJ q3, .second, vI v1, .val .null, vI (0 : Int32), vI v3, vI z17, vI v19, vI (0 : Int32), .unset] []))
       exact J24 _ _ (0 : Int32) X14 e15 N16 (Or.inr (Or.inr (Or.inr (Or.inr (⟨c20, c21, c22, c23, rfl⟩)))))
  by_cases c4 : v3 = (0 : Int32)
  ·skip
   refine own_by (fun _ k => XS.ifNo X0.here hx rfl (hb hby at_319) rfl ((if0 _ _).trans (teq c4).2) k) ?_
   show own_Go p e below _ (s₁.setTop (mkF m 322 #[vI p0, vI p1, vI p2, vJ q3, .second, vI v1, .val .null, vI (0 : Int32), vI v3, .unset, .unset, .unset, .unset] []))
   refine own_by (fun _ k => XS.bipush X0.here hx rfl (hb hby at_322) k) ?_
   refine own_by (fun _ k => XS.istore X0.here hx rfl (hb hby at_324) rfl (l' := #[vI p0, vI p1, vI p2, vJ q3, .second, vI v1, .val .null, vI (0 : Int32), vI v3, vI (13 : Int32), .unset, .unset, .unset]) rfl k) ?_
   show own_Go p e below _ (s₁.setTop (mkF m 326 #[vI p0, vI p1, vI p2, vJ q3, .second, vI v1, .val .null, vI (0 : Int32), vI v3, vI (13 : Int32), .unset, .unset, .unset] []))
   refine own_by (fun _ k => XS.goto X0.here hx rfl (pc0 := 326) (pc' := 403) rfl (hb hby at_326) (by decide) (by decide) k) ?_
   show own_Go p e below _ (s₁.setTop (mkF m 403 #[vI p0, vI p1, vI p2, vJ q3, .second, vI v1, .val .null, vI (0 : Int32), vI v3, vI (13 : Int32), .unset, .unset, .unset] []))
   exact J11 _ _ (13 : Int32) X0 e0 N0 (Or.inl ⟨c4, rfl⟩)
  ·skip
   refine own_by (fun _ k => XS.ifYes X0.here hx rfl (pc0 := 319) (pc' := 329) rfl (hb hby at_319) rfl ((if0 _ _).trans (feq c4).2) (by decide) (by decide) k) ?_
   show own_Go p e below _ (s₁.setTop (mkF m 329 #[vI p0, vI p1, vI p2, vJ q3, .second, vI v1, .val .null, vI (0 : Int32), vI v3, .unset, .unset, .unset, .unset] []))
   refine own_by (fun _ k => XS.iload X0.here hx rfl (hb hby at_329) rfl k) ?_
   refine own_by (fun _ k => XS.iconst X0.here hx rfl (hb hby at_331) k) ?_
   by_cases c5 : v3 = (1 : Int32)
   ·skip
    refine own_by (fun _ k => XS.icmpNo X0.here hx rfl (hb hby at_332) rfl (teq c5).2 k) ?_
    show own_Go p e below _ (s₁.setTop (mkF m 335 #[vI p0, vI p1, vI p2, vJ q3, .second, vI v1, .val .null, vI (0 : Int32), vI v3, .unset, .unset, .unset, .unset] []))
    refine own_by (fun _ k => XS.bipush X0.here hx rfl (hb hby at_335) k) ?_
    refine own_by (fun _ k => XS.istore X0.here hx rfl (hb hby at_337) rfl (l' := #[vI p0, vI p1, vI p2, vJ q3, .second, vI v1, .val .null, vI (0 : Int32), vI v3, vI (10 : Int32), .unset, .unset, .unset]) rfl k) ?_
    show own_Go p e below _ (s₁.setTop (mkF m 339 #[vI p0, vI p1, vI p2, vJ q3, .second, vI v1, .val .null, vI (0 : Int32), vI v3, vI (10 : Int32), .unset, .unset, .unset] []))
    refine own_by (fun _ k => XS.goto X0.here hx rfl (pc0 := 339) (pc' := 403) rfl (hb hby at_339) (by decide) (by decide) k) ?_
    show own_Go p e below _ (s₁.setTop (mkF m 403 #[vI p0, vI p1, vI p2, vJ q3, .second, vI v1, .val .null, vI (0 : Int32), vI v3, vI (10 : Int32), .unset, .unset, .unset] []))
    exact J11 _ _ (10 : Int32) X0 e0 N0 (Or.inr (Or.inl ⟨c4, c5, rfl⟩))
   ·skip
    refine own_by (fun _ k => XS.icmpYes X0.here hx rfl (pc0 := 332) (pc' := 342) rfl (hb hby at_332) rfl (feq c5).2 (by decide) (by decide) k) ?_
    show own_Go p e below _ (s₁.setTop (mkF m 342 #[vI p0, vI p1, vI p2, vJ q3, .second, vI v1, .val .null, vI (0 : Int32), vI v3, .unset, .unset, .unset, .unset] []))
    refine own_by (fun _ k => XS.iload X0.here hx rfl (hb hby at_342) rfl k) ?_
    refine own_by (fun _ k => XS.iconst X0.here hx rfl (hb hby at_344) k) ?_
    by_cases c6 : v3 = (2 : Int32)
    ·skip
     refine own_by (fun _ k => XS.icmpNo X0.here hx rfl (hb hby at_345) rfl (teq c6).2 k) ?_
     show own_Go p e below _ (s₁.setTop (mkF m 348 #[vI p0, vI p1, vI p2, vJ q3, .second, vI v1, .val .null, vI (0 : Int32), vI v3, .unset, .unset, .unset, .unset] []))
     refine own_by (fun _ k => XS.sipush X0.here hx rfl (hb hby at_348) k) ?_
     refine own_by (fun _ k => XS.istore X0.here hx rfl (hb hby at_351) rfl (l' := #[vI p0, vI p1, vI p2, vJ q3, .second, vI v1, .val .null, vI (0 : Int32), vI v3, vI (133 : Int32), .unset, .unset, .unset]) rfl k) ?_
     show own_Go p e below _ (s₁.setTop (mkF m 353 #[vI p0, vI p1, vI p2, vJ q3, .second, vI v1, .val .null, vI (0 : Int32), vI v3, vI (133 : Int32), .unset, .unset, .unset] []))
     refine own_by (fun _ k => XS.goto X0.here hx rfl (pc0 := 353) (pc' := 403) rfl (hb hby at_353) (by decide) (by decide) k) ?_
     show own_Go p e below _ (s₁.setTop (mkF m 403 #[vI p0, vI p1, vI p2, vJ q3, .second, vI v1, .val .null, vI (0 : Int32), vI v3, vI (133 : Int32), .unset, .unset, .unset] []))
     exact J11 _ _ (133 : Int32) X0 e0 N0 (Or.inr (Or.inr (Or.inl ⟨c4, c5, c6, rfl⟩)))
    ·skip
     refine own_by (fun _ k => XS.icmpYes X0.here hx rfl (pc0 := 345) (pc' := 356) rfl (hb hby at_345) rfl (feq c6).2 (by decide) (by decide) k) ?_
     show own_Go p e below _ (s₁.setTop (mkF m 356 #[vI p0, vI p1, vI p2, vJ q3, .second, vI v1, .val .null, vI (0 : Int32), vI v3, .unset, .unset, .unset, .unset] []))
     refine own_by (fun _ k => XS.iload X0.here hx rfl (hb hby at_356) rfl k) ?_
     refine own_by (fun _ k => XS.iconst X0.here hx rfl (hb hby at_358) k) ?_
     by_cases c7 : v3 = (3 : Int32)
     ·skip
      refine own_by (fun _ k => XS.icmpNo X0.here hx rfl (hb hby at_359) rfl (teq c7).2 k) ?_
      show own_Go p e below _ (s₁.setTop (mkF m 362 #[vI p0, vI p1, vI p2, vJ q3, .second, vI v1, .val .null, vI (0 : Int32), vI v3, .unset, .unset, .unset, .unset] []))
      refine own_by (fun _ k => XS.sipush X0.here hx rfl (hb hby at_362) k) ?_
      refine own_by (fun _ k => XS.istore X0.here hx rfl (hb hby at_365) rfl (l' := #[vI p0, vI p1, vI p2, vJ q3, .second, vI v1, .val .null, vI (0 : Int32), vI v3, vI (8232 : Int32), .unset, .unset, .unset]) rfl k) ?_
      show own_Go p e below _ (s₁.setTop (mkF m 367 #[vI p0, vI p1, vI p2, vJ q3, .second, vI v1, .val .null, vI (0 : Int32), vI v3, vI (8232 : Int32), .unset, .unset, .unset] []))
      refine own_by (fun _ k => XS.goto X0.here hx rfl (pc0 := 367) (pc' := 403) rfl (hb hby at_367) (by decide) (by decide) k) ?_
      show own_Go p e below _ (s₁.setTop (mkF m 403 #[vI p0, vI p1, vI p2, vJ q3, .second, vI v1, .val .null, vI (0 : Int32), vI v3, vI (8232 : Int32), .unset, .unset, .unset] []))
      exact J11 _ _ (8232 : Int32) X0 e0 N0 (Or.inr (Or.inr (Or.inr (Or.inl ⟨c4, c5, c6, c7, rfl⟩))))
     ·skip
      refine own_by (fun _ k => XS.icmpYes X0.here hx rfl (pc0 := 359) (pc' := 370) rfl (hb hby at_359) rfl (feq c7).2 (by decide) (by decide) k) ?_
      show own_Go p e below _ (s₁.setTop (mkF m 370 #[vI p0, vI p1, vI p2, vJ q3, .second, vI v1, .val .null, vI (0 : Int32), vI v3, .unset, .unset, .unset, .unset] []))
      refine own_by (fun _ k => XS.iload X0.here hx rfl (hb hby at_370) rfl k) ?_
      refine own_by (fun _ k => XS.iconst X0.here hx rfl (hb hby at_372) k) ?_
      by_cases c8 : v3 = (4 : Int32)
      ·skip
       refine own_by (fun _ k => XS.icmpNo X0.here hx rfl (hb hby at_373) rfl (teq c8).2 k) ?_
       show own_Go p e below _ (s₁.setTop (mkF m 376 #[vI p0, vI p1, vI p2, vJ q3, .second, vI v1, .val .null, vI (0 : Int32), vI v3, .unset, .unset, .unset, .unset] []))
       refine own_by (fun _ k => XS.sipush X0.here hx rfl (hb hby at_376) k) ?_
       refine own_by (fun _ k => XS.istore X0.here hx rfl (hb hby at_379) rfl (l' := #[vI p0, vI p1, vI p2, vJ q3, .second, vI v1, .val .null, vI (0 : Int32), vI v3, vI (8233 : Int32), .unset, .unset, .unset]) rfl k) ?_
       show own_Go p e below _ (s₁.setTop (mkF m 381 #[vI p0, vI p1, vI p2, vJ q3, .second, vI v1, .val .null, vI (0 : Int32), vI v3, vI (8233 : Int32), .unset, .unset, .unset] []))
       refine own_by (fun _ k => XS.goto X0.here hx rfl (pc0 := 381) (pc' := 403) rfl (hb hby at_381) (by decide) (by decide) k) ?_
       show own_Go p e below _ (s₁.setTop (mkF m 403 #[vI p0, vI p1, vI p2, vJ q3, .second, vI v1, .val .null, vI (0 : Int32), vI v3, vI (8233 : Int32), .unset, .unset, .unset] []))
       exact J11 _ _ (8233 : Int32) X0 e0 N0 (Or.inr (Or.inr (Or.inr (Or.inr (Or.inl ⟨c4, c5, c6, c7, c8, rfl⟩)))))
      ·skip
       refine own_by (fun _ k => XS.icmpYes X0.here hx rfl (pc0 := 373) (pc' := 384) rfl (hb hby at_373) rfl (feq c8).2 (by decide) (by decide) k) ?_
       show own_Go p e below _ (s₁.setTop (mkF m 384 #[vI p0, vI p1, vI p2, vJ q3, .second, vI v1, .val .null, vI (0 : Int32), vI v3, .unset, .unset, .unset, .unset] []))
       refine own_by (fun _ k => XS.iload X0.here hx rfl (hb hby at_384) rfl k) ?_
       refine own_by (fun _ k => XS.iconst X0.here hx rfl (hb hby at_386) k) ?_
       by_cases c9 : v3 = (5 : Int32)
       ·skip
        refine own_by (fun _ k => XS.icmpNo X0.here hx rfl (hb hby at_387) rfl (teq c9).2 k) ?_
        show own_Go p e below _ (s₁.setTop (mkF m 390 #[vI p0, vI p1, vI p2, vJ q3, .second, vI v1, .val .null, vI (0 : Int32), vI v3, .unset, .unset, .unset, .unset] []))
        refine own_by (fun _ k => XS.bipush X0.here hx rfl (hb hby at_390) k) ?_
        refine own_by (fun _ k => XS.istore X0.here hx rfl (hb hby at_392) rfl (l' := #[vI p0, vI p1, vI p2, vJ q3, .second, vI v1, .val .null, vI (0 : Int32), vI v3, vI (12 : Int32), .unset, .unset, .unset]) rfl k) ?_
        show own_Go p e below _ (s₁.setTop (mkF m 394 #[vI p0, vI p1, vI p2, vJ q3, .second, vI v1, .val .null, vI (0 : Int32), vI v3, vI (12 : Int32), .unset, .unset, .unset] []))
        refine own_by (fun _ k => XS.goto X0.here hx rfl (pc0 := 394) (pc' := 403) rfl (hb hby at_394) (by decide) (by decide) k) ?_
        show own_Go p e below _ (s₁.setTop (mkF m 403 #[vI p0, vI p1, vI p2, vJ q3, .second, vI v1, .val .null, vI (0 : Int32), vI v3, vI (12 : Int32), .unset, .unset, .unset] []))
        exact J11 _ _ (12 : Int32) X0 e0 N0 (Or.inr (Or.inr (Or.inr (Or.inr (Or.inr (Or.inl ⟨c4, c5, c6, c7, c8, c9, rfl⟩))))))
       ·skip
        refine own_by (fun _ k => XS.icmpYes X0.here hx rfl (pc0 := 387) (pc' := 397) rfl (hb hby at_387) rfl (feq c9).2 (by decide) (by decide) k) ?_
        show own_Go p e below _ (s₁.setTop (mkF m 397 #[vI p0, vI p1, vI p2, vJ q3, .second, vI v1, .val .null, vI (0 : Int32), vI v3, .unset, .unset, .unset, .unset] []))
        refine own_by (fun _ k => XS.iloadN X0.here hx rfl (hb hby at_397) rfl k) ?_
        refine own_by (fun t k => X0.ldcInt hx hown (mvT hZ (hwd 99 rfl)) (g := (mkF m 398 #[vI p0, vI p1, vI p2, vJ q3, .second, vI v1, .val .null, vI (0 : Int32), vI v3, .unset, .unset, .unset, .unset] [(.int p2)])) rfl (hb hby at_398) _ k) ?_
        show own_Go p e below _ (s₁.setTop (mkF m 400 #[vI p0, vI p1, vI p2, vJ q3, .second, vI v1, .val .null, vI (0 : Int32), vI v3, .unset, .unset, .unset, .unset] [(.int (65535 : Int32)), (.int p2)]))
        refine own_by (fun _ k => XS.iand X0.here hx rfl (hb hby at_400) rfl k) ?_
        show own_Go p e below _ (s₁.setTop (mkF m 401 #[vI p0, vI p1, vI p2, vJ q3, .second, vI v1, .val .null, vI (0 : Int32), vI v3, .unset, .unset, .unset, .unset] [(.int (p2 &&& (65535 : Int32)))]))
        refine own_by (fun _ k => XS.istore X0.here hx rfl (hb hby at_401) rfl (l' := #[vI p0, vI p1, vI p2, vJ q3, .second, vI v1, .val .null, vI (0 : Int32), vI v3, vI (p2 &&& (65535 : Int32)), .unset, .unset, .unset]) rfl k) ?_
        show own_Go p e below _ (s₁.setTop (mkF m 403 #[vI p0, vI p1, vI p2, vJ q3, .second, vI v1, .val .null, vI (0 : Int32), vI v3, vI (p2 &&& (65535 : Int32)), .unset, .unset, .unset] []))
        generalize hv10 : (p2 &&& (65535 : Int32)) = v10
        show own_Go p e below _ (s₁.setTop (mkF m 403 #[vI p0, vI p1, vI p2, vJ q3, .second, vI v1, .val .null, vI (0 : Int32), vI v3, vI v10, .unset, .unset, .unset] []))
        exact J11 _ _ v10 X0 e0 N0 (Or.inr (Or.inr (Or.inr (Or.inr (Or.inr (Or.inr (⟨v10, c4, c5, c6, c7, c8, c9, hv10, rfl⟩)))))))
 ·skip
  refine own_by (fun _ k => XS.ifYes X0.here hx rfl (pc0 := 8) (pc' := 17) rfl (hb hby at_8) rfl ((if0 _ _).trans (feq c2).2) (by decide) (by decide) k) ?_
  show own_Go p e below _ (s₁.setTop (mkF m 17 #[vI p0, vI p1, vI p2, vJ q3, .second, vI v1, .unset, .unset, .unset, .unset, .unset, .unset, .unset] []))
  refine own_by (fun _ k => XS.iload X0.here hx rfl (hb hby at_17) rfl k) ?_
  refine own_by (fun _ k => XS.iconst X0.here hx rfl (hb hby at_19) k) ?_
  by_cases c42 : v1 = (1 : Int32)
  ·skip
   refine own_by (fun _ k => XS.icmpNo X0.here hx rfl (hb hby at_20) rfl (teq c42).2 k) ?_
   show own_Go p e below _ (s₁.setTop (mkF m 23 #[vI p0, vI p1, vI p2, vJ q3, .second, vI v1, .unset, .unset, .unset, .unset, .unset, .unset, .unset] []))
   obtain ⟨b43, T43, h43, kc43, t43, kk43, X43, e43, E43, hS, hk43, hZ, hown, A43, C43, F43, V43, lt43, ltb43, R43, Li43, -, st43⟩ := ldcCH X0 hx hZ hown (hwd 100 rfl) hwS e0 hS hk0 hEL (by decide) CR0.1 (vs := ([49, 46, 49] : List Int32).map Value.int) (z := (3 : Int32)) ⟨by decide, by decide⟩ (by decide) (by decide) (g := (mkF m 23 #[vI p0, vI p1, vI p2, vJ q3, .second, vI v1, .unset, .unset, .unset, .unset, .unset, .unset, .unset] [])) rfl (hb hby at_23) (n := 12) (by decide) (by decide) (by decide) (by decide)
   have V43' : own_Arf Z h43 t43 kk43 .byte (3 : Int32) (fun i => .int ((own_li [49, 46, 49]) i)) := own_arfLi V43
   have CR43 : CHr Z consts_1 s.vm h0 T43.vm h43 := CR0.trans R43
   have K43 : Keep h0 h43 [] := (Keep.refl h0 []).ext E43
   have Z43 : n0 ≤ h43.size := Nat.le_trans Z0 E43.1
   refine own_by st43 ?_
   show own_Go p e below _ (T43.setTop (mkF m 25 #[vI p0, vI p1, vI p2, vJ q3, .second, vI v1, .unset, .unset, .unset, .unset, .unset, .unset, .unset] [(.ref b43)]))
   refine own_by (fun _ k => XS.astore X43.here hx rfl (hb hby at_25) rfl rfl (l' := #[vI p0, vI p1, vI p2, vJ q3, .second, vI v1, vR b43, .unset, .unset, .unset, .unset, .unset, .unset]) rfl k) ?_
   show own_Go p e below _ (T43.setTop (mkF m 27 #[vI p0, vI p1, vI p2, vJ q3, .second, vI v1, vR b43, .unset, .unset, .unset, .unset, .unset, .unset] []))
   refine own_by (fun _ k => XS.goto X43.here hx rfl (pc0 := 27) (pc' := 257) rfl (hb hby at_27) (by decide) (by decide) k) ?_
   show own_Go p e below _ (T43.setTop (mkF m 257 #[vI p0, vI p1, vI p2, vJ q3, .second, vI v1, vR b43, .unset, .unset, .unset, .unset, .unset, .unset] []))
   refine own_by (fun _ k => XS.aload X43.here hx rfl (hb hby at_257) rfl rfl k) ?_
   refine own_by (fun _ k => XS.ifnullNo X43.here hx rfl (hb hby at_259) rfl k) ?_
   show own_Go p e below _ (T43.setTop (mkF m 262 #[vI p0, vI p1, vI p2, vJ q3, .second, vI v1, vR b43, .unset, .unset, .unset, .unset, .unset, .unset] []))
   refine own_by (fun _ k => XS.aload X43.here hx rfl (hb hby at_262) rfl rfl k) ?_
   have F44 : Sta Z h43 "java/lang/String" "COMPACT_STRINGS" "Z" (.int f_CS) := (P_S_CS.ext E43)
   obtain ⟨cq45, kq45, qq45a, qq45b, qq45c⟩ := isOf hZ e43 A43
   obtain ⟨_, _, ⟨T45, L45, k45, n45⟩, -, X45, ⟨Lc45, hQ45, l45, y45, z45⟩, st45⟩ := X43.virtualBack hx (y := (⟨"java/lang/String", "length", "()I"⟩ : MethodName)) (z := (⟨"java/lang/String", "length", "()I"⟩ : MethodName)) hown (mvT hZ (hwd 61 rfl)) (mvT hZ (hwd 62 rfl)) (notFace_of_selects (args := #[]) (mvT hZ (hwd 64 rfl))) (mvT hZ (hwd 64 rfl)) (mvT hZ (hwd 63 rfl)) (by decide) (backOf (W := 0) (rmlen3 l Z A0 hw [] t43 kk43 (own_li [49, 46, 49]) f_CS b43 h43 n0 Z43 A43 C43 F43 V43' F44 hn_CS) hZ (hwd 65 rfl) (hwd 14 rfl) (by decide) (by decide)) qq45a qq45c (g := (mkF m 264 #[vI p0, vI p1, vI p2, vJ q3, .second, vI v1, vR b43, .unset, .unset, .unset, .unset, .unset, .unset] [(.ref b43)])) rfl (by rw [hml]; rfl) (Steps.refl _) (argsL := []) (rest := []) (lenOf pd_61 rfl) rfl (by show 2 * 0 + _ ≤ _; exact Nat.le_of_eq rfl) (hb hby at_264) (fun _ _ => ⟨rfl, e43, (by decide : 2 + 0 ≤ _), (by decide : 16 + 0 ≤ _)⟩)
   dsimp only [Pt.U, Pt.locs, Pt.cells, Pt.slots] at X45 l45 y45 z45 st45 hQ45
   subst l45 y45 z45
   obtain ⟨rfl, Nq45, eq45⟩ := hQ45
   have N45 := Fr.app N0 Nq45
   refine own_by (fun _ k => st45.trans k) ?_
   show own_Go p e below _ (T45.setTop (mkF m 267 #[vI p0, vI p1, vI p2, vJ q3, .second, vI v1, vR b43, .unset, .unset, .unset, .unset, .unset, .unset] [(.int (3 : Int32))]))
   refine own_by (fun _ k => XS.iconst X45.here hx rfl (hb hby at_267) k) ?_
   refine own_by (fun _ k => XS.icmpNo X45.here hx rfl (hb hby at_268) rfl (teq (by decide : (3 : Int32) = (3 : Int32))).2 k) ?_
   show own_Go p e below _ (T45.setTop (mkF m 271 #[vI p0, vI p1, vI p2, vJ q3, .second, vI v1, vR b43, .unset, .unset, .unset, .unset, .unset, .unset] []))
   refine own_by (fun _ k => XS.aload X45.here hx rfl (hb hby at_271) rfl rfl k) ?_
   refine own_by (fun _ k => XS.iconst X45.here hx rfl (hb hby at_273) k) ?_
   have F46 : Sta Z h43 "jdk/internal/util/Preconditions" "SIOOBE_FORMATTER" "Ljava/util/function/BiFunction;" f_SF := (P_S_SF.ext E43)
   obtain ⟨cq47, kq47, qq47a, qq47b, qq47c⟩ := isOf hZ eq45 A43
   obtain ⟨_, _, ⟨T47, L47, k47, n47⟩, -, X47, ⟨Lc47, hQ47, l47, y47, z47⟩, st47⟩ := X45.virtualBack hx (y := (⟨"java/lang/String", "charAt", "(I)C"⟩ : MethodName)) (z := (⟨"java/lang/String", "charAt", "(I)C"⟩ : MethodName)) hown (mvT hZ (hwd 77 rfl)) (mvT hZ (hwd 78 rfl)) (notFace_of_selects (args := #[]) (mvT hZ (hwd 80 rfl))) (mvT hZ (hwd 80 rfl)) (mvT hZ (hwd 79 rfl)) (by decide) (backOf (W := 0) (rmsca0 l Z A0 hw [] t43 kk43 (own_li [49, 46, 49]) f_CS f_SF b43 h43 n0 Z43 A43 C43 F43 V43' F44 hn_CS F46 hr_f_SF) hZ (hwd 81 rfl) (hwd 14 rfl) (by decide) (by decide)) qq47a qq47c (g := (mkF m 274 #[vI p0, vI p1, vI p2, vJ q3, .second, vI v1, vR b43, .unset, .unset, .unset, .unset, .unset, .unset] [(.int (0 : Int32)), (.ref b43)])) rfl (by rw [hml]; rfl) (Steps.refl _) (argsL := [(.int (0 : Int32))]) (rest := []) (lenOf pd_77 rfl) rfl (by show 2 * 0 + _ ≤ _; exact Nat.le_of_eq rfl) (hb hby at_274) (fun _ _ => ⟨rfl, eq45, (by decide : 2 + 0 ≤ _), (by decide : 16 + 0 ≤ _)⟩)
   dsimp only [Pt.U, Pt.locs, Pt.cells, Pt.slots] at X47 l47 y47 z47 st47 hQ47
   subst l47 y47 z47
   obtain ⟨rfl, Nq47, eq47⟩ := hQ47
   have N47 := Fr.app N45 Nq47
   refine own_by (fun _ k => st47.trans k) ?_
   show own_Go p e below _ (T47.setTop (mkF m 277 #[vI p0, vI p1, vI p2, vJ q3, .second, vI v1, vR b43, .unset, .unset, .unset, .unset, .unset, .unset] [(.int (49 : Int32))]))
   refine own_by (fun _ k => XS.bipush X47.here hx rfl (hb hby at_277) k) ?_
   refine own_by (fun _ k => XS.icmpNo X47.here hx rfl (hb hby at_279) rfl (teq (by decide : (49 : Int32) = (49 : Int32))).2 k) ?_
   show own_Go p e below _ (T47.setTop (mkF m 282 #[vI p0, vI p1, vI p2, vJ q3, .second, vI v1, vR b43, .unset, .unset, .unset, .unset, .unset, .unset] []))
   refine own_by (fun _ k => XS.aload X47.here hx rfl (hb hby at_282) rfl rfl k) ?_
   refine own_by (fun _ k => XS.iconst X47.here hx rfl (hb hby at_284) k) ?_
   obtain ⟨cq48, kq48, qq48a, qq48b, qq48c⟩ := isOf hZ eq47 A43
   obtain ⟨_, _, ⟨T48, L48, k48, n48⟩, -, X48, ⟨Lc48, hQ48, l48, y48, z48⟩, st48⟩ := X47.virtualBack hx (y := (⟨"java/lang/String", "charAt", "(I)C"⟩ : MethodName)) (z := (⟨"java/lang/String", "charAt", "(I)C"⟩ : MethodName)) hown (mvT hZ (hwd 77 rfl)) (mvT hZ (hwd 78 rfl)) (notFace_of_selects (args := #[]) (mvT hZ (hwd 80 rfl))) (mvT hZ (hwd 80 rfl)) (mvT hZ (hwd 79 rfl)) (by decide) (backOf (W := 0) (rmsca1 l Z A0 hw [] t43 kk43 (own_li [49, 46, 49]) f_CS f_SF b43 h43 n0 Z43 A43 C43 F43 V43' F44 hn_CS F46 hr_f_SF) hZ (hwd 81 rfl) (hwd 14 rfl) (by decide) (by decide)) qq48a qq48c (g := (mkF m 285 #[vI p0, vI p1, vI p2, vJ q3, .second, vI v1, vR b43, .unset, .unset, .unset, .unset, .unset, .unset] [(.int (1 : Int32)), (.ref b43)])) rfl (by rw [hml]; rfl) (Steps.refl _) (argsL := [(.int (1 : Int32))]) (rest := []) (lenOf pd_77 rfl) rfl (by show 2 * 0 + _ ≤ _; exact Nat.le_of_eq rfl) (hb hby at_285) (fun _ _ => ⟨rfl, eq47, (by decide : 2 + 0 ≤ _), (by decide : 16 + 0 ≤ _)⟩)
   dsimp only [Pt.U, Pt.locs, Pt.cells, Pt.slots] at X48 l48 y48 z48 st48 hQ48
   subst l48 y48 z48
   obtain ⟨rfl, Nq48, eq48⟩ := hQ48
   have N48 := Fr.app N47 Nq48
   refine own_by (fun _ k => st48.trans k) ?_
   show own_Go p e below _ (T48.setTop (mkF m 288 #[vI p0, vI p1, vI p2, vJ q3, .second, vI v1, vR b43, .unset, .unset, .unset, .unset, .unset, .unset] [(.int (46 : Int32))]))
   refine own_by (fun _ k => XS.bipush X48.here hx rfl (hb hby at_288) k) ?_
   refine own_by (fun _ k => XS.icmpNo X48.here hx rfl (hb hby at_290) rfl (teq (by decide : (46 : Int32) = (46 : Int32))).2 k) ?_
   show own_Go p e below _ (T48.setTop (mkF m 293 #[vI p0, vI p1, vI p2, vJ q3, .second, vI v1, vR b43, .unset, .unset, .unset, .unset, .unset, .unset] []))
   refine own_by (fun _ k => XS.aload X48.here hx rfl (hb hby at_293) rfl rfl k) ?_
   refine own_by (fun _ k => XS.iconst X48.here hx rfl (hb hby at_295) k) ?_
   obtain ⟨cq49, kq49, qq49a, qq49b, qq49c⟩ := isOf hZ eq48 A43
   obtain ⟨_, _, ⟨T49, L49, k49, n49⟩, -, X49, ⟨Lc49, hQ49, l49, y49, z49⟩, st49⟩ := X48.virtualBack hx (y := (⟨"java/lang/String", "charAt", "(I)C"⟩ : MethodName)) (z := (⟨"java/lang/String", "charAt", "(I)C"⟩ : MethodName)) hown (mvT hZ (hwd 77 rfl)) (mvT hZ (hwd 78 rfl)) (notFace_of_selects (args := #[]) (mvT hZ (hwd 80 rfl))) (mvT hZ (hwd 80 rfl)) (mvT hZ (hwd 79 rfl)) (by decide) (backOf (W := 0) (rmsca2 l Z A0 hw [] t43 kk43 (own_li [49, 46, 49]) f_CS f_SF b43 h43 n0 Z43 A43 C43 F43 V43' F44 hn_CS F46 hr_f_SF) hZ (hwd 81 rfl) (hwd 14 rfl) (by decide) (by decide)) qq49a qq49c (g := (mkF m 296 #[vI p0, vI p1, vI p2, vJ q3, .second, vI v1, vR b43, .unset, .unset, .unset, .unset, .unset, .unset] [(.int (2 : Int32)), (.ref b43)])) rfl (by rw [hml]; rfl) (Steps.refl _) (argsL := [(.int (2 : Int32))]) (rest := []) (lenOf pd_77 rfl) rfl (by show 2 * 0 + _ ≤ _; exact Nat.le_of_eq rfl) (hb hby at_296) (fun _ _ => ⟨rfl, eq48, (by decide : 2 + 0 ≤ _), (by decide : 16 + 0 ≤ _)⟩)
   dsimp only [Pt.U, Pt.locs, Pt.cells, Pt.slots] at X49 l49 y49 z49 st49 hQ49
   subst l49 y49 z49
   obtain ⟨rfl, Nq49, eq49⟩ := hQ49
   have N49 := Fr.app N48 Nq49
   refine own_by (fun _ k => st49.trans k) ?_
   show own_Go p e below _ (T49.setTop (mkF m 299 #[vI p0, vI p1, vI p2, vJ q3, .second, vI v1, vR b43, .unset, .unset, .unset, .unset, .unset, .unset] [(.int (49 : Int32))]))
   refine own_by (fun _ k => XS.bipush X49.here hx rfl (hb hby at_299) k) ?_
   refine own_by (fun _ k => XS.icmpNo X49.here hx rfl (hb hby at_301) rfl (teq (by decide : (49 : Int32) = (49 : Int32))).2 k) ?_
   show own_Go p e below _ (T49.setTop (mkF m 304 #[vI p0, vI p1, vI p2, vJ q3, .second, vI v1, vR b43, .unset, .unset, .unset, .unset, .unset, .unset] []))
   refine own_by (fun _ k => XS.iconst X49.here hx rfl (hb hby at_304) k) ?_
   refine own_by (fun _ k => XS.goto X49.here hx rfl (pc0 := 305) (pc' := 309) rfl (hb hby at_305) (by decide) (by decide) k) ?_
   show own_Go p e below _ (T49.setTop (mkF m 309 #[vI p0, vI p1, vI p2, vJ q3, .second, vI v1, vR b43, .unset, .unset, .unset, .unset, .unset, .unset] [(.int (1 : Int32))]))
   refine own_by (fun _ k => XS.istore X49.here hx rfl (hb hby at_309) rfl (l' := #[vI p0, vI p1, vI p2, vJ q3, .second, vI v1, vR b43, vI (1 : Int32), .unset, .unset, .unset, .unset, .unset]) rfl k) ?_
   show own_Go p e below _ (T49.setTop (mkF m 311 #[vI p0, vI p1, vI p2, vJ q3, .second, vI v1, vR b43, vI (1 : Int32), .unset, .unset, .unset, .unset, .unset] []))
   refine own_by (fun _ k => XS.iloadN X49.here hx rfl (hb hby at_311) rfl k) ?_
   refine own_by (fun _ k => XS.bipush X49.here hx rfl (hb hby at_312) k) ?_
   refine own_by (fun _ k => XS.iand X49.here hx rfl (hb hby at_314) rfl k) ?_
   show own_Go p e below _ (T49.setTop (mkF m 315 #[vI p0, vI p1, vI p2, vJ q3, .second, vI v1, vR b43, vI (1 : Int32), .unset, .unset, .unset, .unset, .unset] [(.int (p1 &&& (7 : Int32)))]))
   refine own_by (fun _ k => XS.istore X49.here hx rfl (hb hby at_315) rfl (l' := #[vI p0, vI p1, vI p2, vJ q3, .second, vI v1, vR b43, vI (1 : Int32), vI (p1 &&& (7 : Int32)), .unset, .unset, .unset, .unset]) rfl k) ?_
   show own_Go p e below _ (T49.setTop (mkF m 317 #[vI p0, vI p1, vI p2, vJ q3, .second, vI v1, vR b43, vI (1 : Int32), vI (p1 &&& (7 : Int32)), .unset, .unset, .unset, .unset] []))
   generalize hv50 : (p1 &&& (7 : Int32)) = v50
   show own_Go p e below _ (T49.setTop (mkF m 317 #[vI p0, vI p1, vI p2, vJ q3, .second, vI v1, vR b43, vI (1 : Int32), vI v50, .unset, .unset, .unset, .unset] []))
   refine own_by (fun _ k => XS.iload X49.here hx rfl (hb hby at_317) rfl k) ?_
   have J58 : ∀ (T59 : State) (L60 : List Loc) (z64 : Int32), Stand p l e room_1 (s.setVm T43.vm) m #[(.int p0), (.int p1), (.int p2), (.long q3)] below meth c T59 L60 2 16 → T59.heap = h43 → Fr n0 L60 → (((v50 = (0 : Int32)) ∧ z64 = (13 : Int32)) ∨ ((¬ (v50 = (0 : Int32))) ∧ (v50 = (1 : Int32)) ∧ z64 = (10 : Int32)) ∨ ((¬ (v50 = (0 : Int32))) ∧ (¬ (v50 = (1 : Int32))) ∧ (v50 = (2 : Int32)) ∧ z64 = (133 : Int32)) ∨ ((¬ (v50 = (0 : Int32))) ∧ (¬ (v50 = (1 : Int32))) ∧ (¬ (v50 = (2 : Int32))) ∧ (v50 = (3 : Int32)) ∧ z64 = (8232 : Int32)) ∨ ((¬ (v50 = (0 : Int32))) ∧ (¬ (v50 = (1 : Int32))) ∧ (¬ (v50 = (2 : Int32))) ∧ (¬ (v50 = (3 : Int32))) ∧ (v50 = (4 : Int32)) ∧ z64 = (8233 : Int32)) ∨ ((¬ (v50 = (0 : Int32))) ∧ (¬ (v50 = (1 : Int32))) ∧ (¬ (v50 = (2 : Int32))) ∧ (¬ (v50 = (3 : Int32))) ∧ (¬ (v50 = (4 : Int32))) ∧ (v50 = (5 : Int32)) ∧ z64 = (12 : Int32)) ∨ (∃ (v57 : Int32), (¬ (v50 = (0 : Int32))) ∧ (¬ (v50 = (1 : Int32))) ∧ (¬ (v50 = (2 : Int32))) ∧ (¬ (v50 = (3 : Int32))) ∧ (¬ (v50 = (4 : Int32))) ∧ (¬ (v50 = (5 : Int32))) ∧ ((p2 &&& (65535 : Int32)) = v57) ∧ z64 = v57)) → own_Go p e below (own_FinW Z consts_1 s 24 4224 (Q0 Z f_CS f_SF p0 p1 p2 q3 h0 n0)) (T59.setTop (mkF m 403 #[vI p0, vI p1, vI p2, vJ q3, .second, vI v1, vR b43, vI (1 : Int32), vI v50, vI z64, .unset, .unset, .unset] [])) := by
    intro T59 L60 z64 X61 e62 N63 hj65
    refine own_by (fun _ k => XS.iload X61.here hx rfl (hb hby at_403) rfl k) ?_
    refine own_by (fun _ k => XS.i2c X61.here hx rfl (hb hby at_405) rfl k) ?_
    show own_Go p e below _ (T59.setTop (mkF m 406 #[vI p0, vI p1, vI p2, vJ q3, .second, vI v1, vR b43, vI (1 : Int32), vI v50, vI z64, .unset, .unset, .unset] [(.int (z64.toUInt32.toUInt16.toUInt32.toInt32))]))
    refine own_by (fun _ k => XS.istore X61.here hx rfl (hb hby at_406) rfl (l' := #[vI p0, vI p1, vI p2, vJ q3, .second, vI v1, vR b43, vI (1 : Int32), vI v50, vI z64, vI (z64.toUInt32.toUInt16.toUInt32.toInt32), .unset, .unset]) rfl k) ?_
    show own_Go p e below _ (T59.setTop (mkF m 408 #[vI p0, vI p1, vI p2, vJ q3, .second, vI v1, vR b43, vI (1 : Int32), vI v50, vI z64, vI (z64.toUInt32.toUInt16.toUInt32.toInt32), .unset, .unset] []))
    generalize hv66 : (z64.toUInt32.toUInt16.toUInt32.toInt32) = v66
    show own_Go p e below _ (T59.setTop (mkF m 408 #[vI p0, vI p1, vI p2, vJ q3, .second, vI v1, vR b43, vI (1 : Int32), vI v50, vI z64, vI v66, .unset, .unset] []))
    refine own_by (fun _ k => XS.iload X61.here hx rfl (hb hby at_408) rfl k) ?_
    have J71 : ∀ (T72 : State) (L73 : List Loc) (z77 : Int32), Stand p l e room_1 (s.setVm T43.vm) m #[(.int p0), (.int p1), (.int p2), (.long q3)] below meth c T72 L73 2 16 → T72.heap = h43 → Fr n0 L73 → (((z64 = (10 : Int32)) ∧ z77 = (1 : Int32)) ∨ ((¬ (z64 = (10 : Int32))) ∧ (z64 = (13 : Int32)) ∧ z77 = (1 : Int32)) ∨ ((¬ (z64 = (10 : Int32))) ∧ (¬ (z64 = (13 : Int32))) ∧ (z64 = (133 : Int32)) ∧ z77 = (1 : Int32)) ∨ ((¬ (z64 = (10 : Int32))) ∧ (¬ (z64 = (13 : Int32))) ∧ (¬ (z64 = (133 : Int32))) ∧ (z64 = (8232 : Int32)) ∧ z77 = (1 : Int32)) ∨ ((¬ (z64 = (10 : Int32))) ∧ (¬ (z64 = (13 : Int32))) ∧ (¬ (z64 = (133 : Int32))) ∧ (¬ (z64 = (8232 : Int32))) ∧ z77 = (0 : Int32))) → own_Go p e below (own_FinW Z consts_1 s 24 4224 (Q0 Z f_CS f_SF p0 p1 p2 q3 h0 n0)) (T72.setTop (mkF m 468 #[vI p0, vI p1, vI p2, vJ q3, .second, vI v1, vR b43, vI (1 : Int32), vI v50, vI z64, vI v66, vI z77, .unset] [])) := by
     intro T72 L73 z77 X74 e75 N76 hj78
     obtain ⟨T79, h79, X79, e79, E79, A79, D79, -, st79⟩ := newO X74 hx hZ hown (hwd 0 rfl) (hwd 1 rfl) (hwd 2 rfl) e75 (g := (mkF m 468 #[vI p0, vI p1, vI p2, vJ q3, .second, vI v1, vR b43, vI (1 : Int32), vI v50, vI z64, vI v66, vI z77, .unset] [])) rfl (hb hby at_468) (by decide) (by decide)
     obtain ⟨b79, g79⟩ : ∃ z, z = h43.size := ⟨_, rfl⟩
     have ge_b79 : n0 ≤ b79 := Nat.le_trans Z43 (Nat.le_of_eq g79.symm)
     have sz_b79 : h0.size ≤ b79 := Nat.le_trans K43.1 (Nat.le_of_eq g79.symm)
     have R79 : CHr Z consts_1 T43.vm h43 T43.vm h79 := CHr.ext E79 CR43.1
     have CR79 : CHr Z consts_1 s.vm h0 T43.vm h79 := CR43.trans R79
     have hk79 : kc43 ≤ h79.size := Nat.le_trans hk43 E79.1
     have S_b79 : Safe Z consts_1 T43.vm h79 b79 := Safe.ext E79 CR43.1 (Safe.new (Nat.le_of_eq g79.symm))
     have K79 : Keep h0 h79 [] := K43.ext E79
     have Z79 : n0 ≤ h79.size := Nat.le_trans Z43 E79.1
     rw [← g79] at A79 D79 st79
     have lt_b79 := A79.lt
     have F_line_b79 : Fld Z h79 b79 "com/example/margay/margay/index/LineCounter" "line" "I" (.int (0 : Int32)) := D79 (Or.inl (hwd 10 rfl)) (ty := .int) (by decide)
     have F_column_b79 : Fld Z h79 b79 "com/example/margay/margay/index/LineCounter" "column" "I" (.int (0 : Int32)) := D79 (Or.inl (hwd 12 rfl)) (ty := .int) (by decide)
     have F_xml11_b79 : Fld Z h79 b79 "com/example/margay/margay/index/LineCounter" "xml11" "Z" (.int (0 : Int32)) := D79 (Or.inr (hwd 27 rfl)) (ty := .boolean) (by decide)
     refine own_by st79 ?_
     show own_Go p e below _ (T79.setTop (mkF m 471 #[vI p0, vI p1, vI p2, vJ q3, .second, vI v1, vR b43, vI (1 : Int32), vI v50, vI z64, vI v66, vI z77, .unset] [(.ref b79)]))
     refine own_by (fun _ k => XS.dup X79.here hx rfl (hb hby at_471) rfl rfl k) ?_
     show own_Go p e below _ (T79.setTop (mkF m 472 #[vI p0, vI p1, vI p2, vJ q3, .second, vI v1, vR b43, vI (1 : Int32), vI v50, vI z64, vI v66, vI z77, .unset] [(.ref b79), (.ref b79)]))
     refine own_by (fun _ k => XS.aload X79.here hx rfl (hb hby at_472) rfl rfl k) ?_
     have F80 : Exa Z h79 b43 "java/lang/String" := (A43.ext E79)
     have F81 : Fld Z h79 b43 "java/lang/String" "coder" "B" (.int (0 : Int32)) := (C43.ext E79)
     have F82 : Fld Z h79 b43 "java/lang/String" "value" "[B" (.ref t43) := (F43.ext E79)
     have F83 : own_Arf Z h79 t43 kk43 .byte (3 : Int32) (fun i => .int ((own_li [49, 46, 49]) i)) := (V43'.ext E79)
     have F84 : Sta Z h79 "java/lang/String" "COMPACT_STRINGS" "Z" (.int f_CS) := (F44.ext E79)
     obtain ⟨_, _, ⟨T85, L85, k85, n85⟩, -, X85', hSq85, hgr85, ⟨Lc85, hQ85, l85, y85, z85, R85⟩, st85⟩ := X79.specialBackS hx (y := (⟨"com/example/margay/margay/index/LineCounter", "<init>", "(Ljava/lang/String;)V"⟩ : MethodName)) rfl hown (mvT hZ (hwd 3 rfl)) (mvT hZ (hwd 4 rfl)) (mvT hZ (hwd 5 rfl)) (by decide) (backOfSH (W := 1) (rmlcR3 l Z A0 hw [] t43 kk43 (own_li [49, 46, 49]) f_CS b79 b43 (0 : Int32) (0 : Int32) (0 : Int32) h79 n0 Z79 F80 F81 F82 F83 F84 hn_CS A79 F_line_b79 ge_b79 F_column_b79 F_xml11_b79) hZ (hwd 5 rfl) (hwd 2 rfl) (by decide) (by decide) hEL CR79.1) (g := (mkF m 474 #[vI p0, vI p1, vI p2, vJ q3, .second, vI v1, vR b43, vI (1 : Int32), vI v50, vI z64, vI v66, vI z77, .unset] [(.ref b43), (.ref b79), (.ref b79)])) rfl (by rw [hml]; rfl) (Steps.refl _) (a := b79) (argsL := [(.ref b43)]) (rest := [(.ref b79)]) (lenOf pd_3 rfl) rfl (by show 2 * 0 + _ ≤ _; exact Nat.le_of_eq rfl) (hb hby at_474) (fun _ _ => ⟨rfl, e79, (by decide : 3 + 2 ≤ _), (by decide : 20 + 16 ≤ _)⟩)
     dsimp only [Pt.U, Pt.locs, Pt.cells, Pt.slots] at X85' l85 y85 z85 st85 hQ85 hSq85 hgr85 R85
     subst l85 y85 z85
     obtain ⟨X85, hS, hZ, hown⟩ := rebS hS (by rw [e79]; exact hk79) X85' hSq85 hgr85 hZ hown
     obtain ⟨kc85, hkc85⟩ : ∃ z, z = T85.heap.size := ⟨_, rfl⟩
     rw [← hkc85] at hS
     have hk85 : kc85 ≤ T85.heap.size := Nat.le_of_eq hkc85
     have CR85 : CHr Z consts_1 s.vm h0 T85.vm T85.heap := CR79.trans R85
     obtain ⟨o86, rfl, Nq85, Kq85, F87, F88, F89, F90, hp91⟩ := hQ85
     have N85 := Fr.app N76 Nq85
     have K85 : Keep h0 T85.heap [] := K79.trans Kq85 ((allS (Or.inr sz_b79) all0))
     have Z85 : n0 ≤ T85.heap.size := Nat.le_trans Z79 Kq85.1
     refine own_by (fun _ k => st85.trans k) ?_
     show own_Go p e below _ (T85.setTop (mkF m 477 #[vI p0, vI p1, vI p2, vJ q3, .second, vI v1, vR b43, vI (1 : Int32), vI v50, vI z64, vI v66, vI z77, .unset] [(.ref b79)]))
     refine own_by (fun _ k => XS.astore X85.here hx rfl (hb hby at_477) rfl rfl (l' := #[vI p0, vI p1, vI p2, vJ q3, .second, vI v1, vR b43, vI (1 : Int32), vI v50, vI z64, vI v66, vI z77, vR b79]) rfl k) ?_
     show own_Go p e below _ (T85.setTop (mkF m 479 #[vI p0, vI p1, vI p2, vJ q3, .second, vI v1, vR b43, vI (1 : Int32), vI v50, vI z64, vI v66, vI z77, vR b79] []))
     refine own_by (fun _ k => XS.aload X85.here hx rfl (hb hby at_479) rfl rfl k) ?_
     refine own_by (fun _ k => XS.iload X85.here hx rfl (hb hby at_481) rfl k) ?_
     obtain ⟨cq92, kq92, qq92a, qq92b, qq92c⟩ := isOf hZ rfl F87
     obtain ⟨_, _, ⟨T92, L92, k92, n92⟩, -, X92, ⟨Lc92, hQ92, l92, y92, z92⟩, st92⟩ := X85.virtualBack hx (y := (⟨"com/example/margay/margay/index/LineCounter", "endsLine", "(C)Z"⟩ : MethodName)) (z := (⟨"com/example/margay/margay/index/LineCounter", "endsLine", "(C)Z"⟩ : MethodName)) hown (mvT hZ (hwd 28 rfl)) (mvT hZ (hwd 29 rfl)) (notFace_of_selects (args := #[]) (mvT hZ (hwd 31 rfl))) (mvT hZ (hwd 31 rfl)) (mvT hZ (hwd 30 rfl)) (by decide) (backOf (W := 0) (rm4 l Z A0 hw [] b79 v66 o86 T85.heap n0 Z85 F90) hZ (hwd 32 rfl) (hwd 2 rfl) (by decide) (by decide)) qq92a qq92c (g := (mkF m 483 #[vI p0, vI p1, vI p2, vJ q3, .second, vI v1, vR b43, vI (1 : Int32), vI v50, vI z64, vI v66, vI z77, vR b79] [(.int v66), (.ref b79)])) rfl (by rw [hml]; rfl) (Steps.refl _) (argsL := [(.int v66)]) (rest := []) (lenOf pd_28 rfl) rfl (by show 2 * 0 + _ ≤ _; exact Nat.le_of_eq rfl) (hb hby at_483) (fun _ _ => ⟨rfl, rfl, (by decide : 5 + 0 ≤ _), (by decide : 36 + 0 ≤ _)⟩)
     dsimp only [Pt.U, Pt.locs, Pt.cells, Pt.slots] at X92 l92 y92 z92 st92 hQ92
     subst l92 y92 z92
     obtain ⟨o93, rfl, Nq92, eq92, hp94⟩ := hQ92
     have N92 := Fr.app N85 Nq92
     refine own_by (fun _ k => st92.trans k) ?_
     show own_Go p e below _ (T92.setTop (mkF m 486 #[vI p0, vI p1, vI p2, vJ q3, .second, vI v1, vR b43, vI (1 : Int32), vI v50, vI z64, vI v66, vI z77, vR b79] [(.int o93)]))
     refine own_by (fun _ k => XS.iload X92.here hx rfl (hb hby at_486) rfl k) ?_
     by_cases c95 : o93 = z77
     ·skip
      refine own_by (fun _ k => XS.icmpNo X92.here hx rfl (hb hby at_488) rfl (teq c95).2 k) ?_
      show own_Go p e below _ (T92.setTop (mkF m 491 #[vI p0, vI p1, vI p2, vJ q3, .second, vI v1, vR b43, vI (1 : Int32), vI v50, vI z64, vI v66, vI z77, vR b79] []))
      refine own_by (fun _ k => XS.iconst X92.here hx rfl (hb hby at_491) k) ?_
      refine own_by (fun _ k => XS.goto X92.here hx rfl (pc0 := 492) (pc' := 496) rfl (hb hby at_492) (by decide) (by decide) k) ?_
      show own_Go p e below _ (T92.setTop (mkF m 496 #[vI p0, vI p1, vI p2, vJ q3, .second, vI v1, vR b43, vI (1 : Int32), vI v50, vI z64, vI v66, vI z77, vR b79] [(.int (1 : Int32))]))
      exact own_retNW X92 hx hS hk85 hZ hEL hh CR85 (t := .boolean) Bd.returns (by simp) (hb hby at_496) hlk eq92 ⟨rfl, N92⟩ (by decide) (by decide)
     ·skip
      refine own_by (fun _ k => XS.icmpYes X92.here hx rfl (pc0 := 488) (pc' := 495) rfl (hb hby at_488) rfl (feq c95).2 (by decide) (by decide) k) ?_
      show own_Go p e below _ (T92.setTop (mkF m 495 #[vI p0, vI p1, vI p2, vJ q3, .second, vI v1, vR b43, vI (1 : Int32), vI v50, vI z64, vI v66, vI z77, vR b79] []))
      refine own_by (fun _ k => XS.iconst X92.here hx rfl (hb hby at_495) k) ?_
      exact own_retNW X92 hx hS hk85 hZ hEL hh CR85 (t := .boolean) Bd.returns (by simp) (hb hby at_496) hlk eq92 ⟨((ob_0_24 f_CS f_SF p0 p1 p2 v1 v50 z64 v66 z77 o86 o93 hn_CS hr_f_SF hv1 c2 c42 hv50 hj65 hv66 hj78 hp91 hp94 c95)).elim, N92⟩ (by decide) (by decide)
    by_cases c67 : z64 = (10 : Int32)
    ·skip
     refine own_by (fun t q => X61.lookupswitchHit hx (g := (mkF m 410 #[vI p0, vI p1, vI p2, vJ q3, .second, vI v1, vR b43, vI (1 : Int32), vI v50, vI z64, vI v66, .unset, .unset] [(.int z64)])) rfl (k := z64) rfl (hb hby at_410) (by decide) (a := 10) (off := 42) (by rw [c67]; rfl) (show (0 : Int) ≤ (410 : Int) + 42 by decide) t q) ?_
     show own_Go p e below _ (T59.setTop (mkF m 452 #[vI p0, vI p1, vI p2, vJ q3, .second, vI v1, vR b43, vI (1 : Int32), vI v50, vI z64, vI v66, .unset, .unset] []))
     refine own_by (fun _ k => XS.iconst X61.here hx rfl (hb hby at_452) k) ?_
     refine own_by (fun _ k => XS.istore X61.here hx rfl (hb hby at_453) rfl (l' := #[vI p0, vI p1, vI p2, vJ q3, .second, vI v1, vR b43, vI (1 : Int32), vI v50, vI z64, vI v66, vI (1 : Int32), .unset]) rfl k) ?_
     show own_Go p e below _ (T59.setTop (mkF m 455 #[vI p0, vI p1, vI p2, vJ q3, .second, vI v1, vR b43, vI (1 : Int32), vI v50, vI z64, vI v66, vI (1 : Int32), .unset] []))
     refine own_by (fun _ k => XS.goto X61.here hx rfl (pc0 := 455) (pc' := 468) rfl (hb hby at_455) (by decide) (by decide) k) ?_
     show own_Go p e below _ (T59.setTop (mkF m 468 #[vI p0, vI p1, vI p2, vJ q3, .second, vI v1, vR b43, vI (1 : Int32), vI v50, vI z64, vI v66, vI (1 : Int32), .unset] []))
     exact J71 _ _ (1 : Int32) X61 e62 N63 (Or.inl ⟨c67, rfl⟩)
    ·skip
     by_cases c68 : z64 = (13 : Int32)
     ·skip
      refine own_by (fun t q => X61.lookupswitchHit hx (g := (mkF m 410 #[vI p0, vI p1, vI p2, vJ q3, .second, vI v1, vR b43, vI (1 : Int32), vI v50, vI z64, vI v66, .unset, .unset] [(.int z64)])) rfl (k := z64) rfl (hb hby at_410) (by decide) (a := 13) (off := 42) (by rw [c68]; rfl) (show (0 : Int) ≤ (410 : Int) + 42 by decide) t q) ?_
      show own_Go p e below _ (T59.setTop (mkF m 452 #[vI p0, vI p1, vI p2, vJ q3, .second, vI v1, vR b43, vI (1 : Int32), vI v50, vI z64, vI v66, .unset, .unset] []))
      refine own_by (fun _ k => XS.iconst X61.here hx rfl (hb hby at_452) k) ?_
      refine own_by (fun _ k => XS.istore X61.here hx rfl (hb hby at_453) rfl (l' := #[vI p0, vI p1, vI p2, vJ q3, .second, vI v1, vR b43, vI (1 : Int32), vI v50, vI z64, vI v66, vI (1 : Int32), .unset]) rfl k) ?_
      show own_Go p e below _ (T59.setTop (mkF m 455 #[vI p0, vI p1, vI p2, vJ q3, .second, vI v1, vR b43, vI (1 : Int32), vI v50, vI z64, vI v66, vI (1 : Int32), .unset] []))
      refine own_by (fun _ k => XS.goto X61.here hx rfl (pc0 := 455) (pc' := 468) rfl (hb hby at_455) (by decide) (by decide) k) ?_
      show own_Go p e below _ (T59.setTop (mkF m 468 #[vI p0, vI p1, vI p2, vJ q3, .second, vI v1, vR b43, vI (1 : Int32), vI v50, vI z64, vI v66, vI (1 : Int32), .unset] []))
      exact J71 _ _ (1 : Int32) X61 e62 N63 (Or.inr (Or.inl ⟨c67, c68, rfl⟩))
     ·skip
      by_cases c69 : z64 = (133 : Int32)
      ·skip
       refine own_by (fun t q => X61.lookupswitchHit hx (g := (mkF m 410 #[vI p0, vI p1, vI p2, vJ q3, .second, vI v1, vR b43, vI (1 : Int32), vI v50, vI z64, vI v66, .unset, .unset] [(.int z64)])) rfl (k := z64) rfl (hb hby at_410) (by decide) (a := 133) (off := 48) (by rw [c69]; rfl) (show (0 : Int) ≤ (410 : Int) + 48 by decide) t q) ?_
       show own_Go p e below _ (T59.setTop (mkF m 458 #[vI p0, vI p1, vI p2, vJ q3, .second, vI v1, vR b43, vI (1 : Int32), vI v50, vI z64, vI v66, .unset, .unset] []))
       refine own_by (fun _ k => XS.iload X61.here hx rfl (hb hby at_458) rfl k) ?_
       refine own_by (fun _ k => XS.istore X61.here hx rfl (hb hby at_460) rfl (l' := #[vI p0, vI p1, vI p2, vJ q3, .second, vI v1, vR b43, vI (1 : Int32), vI v50, vI z64, vI v66, vI (1 : Int32), .unset]) rfl k) ?_
       show own_Go p e below _ (T59.setTop (mkF m 462 #[vI p0, vI p1, vI p2, vJ q3, .second, vI v1, vR b43, vI (1 : Int32), vI v50, vI z64, vI v66, vI (1 : Int32), .unset] []))
       refine own_by (fun _ k => XS.goto X61.here hx rfl (pc0 := 462) (pc' := 468) rfl (hb hby at_462) (by decide) (by decide) k) ?_
       show own_Go p e below _ (T59.setTop (mkF m 468 #[vI p0, vI p1, vI p2, vJ q3, .second, vI v1, vR b43, vI (1 : Int32), vI v50, vI z64, vI v66, vI (1 : Int32), .unset] []))
       exact J71 _ _ (1 : Int32) X61 e62 N63 (Or.inr (Or.inr (Or.inl ⟨c67, c68, c69, rfl⟩)))
      ·skip
       by_cases c70 : z64 = (8232 : Int32)
       ·skip
        refine own_by (fun t q => X61.lookupswitchHit hx (g := (mkF m 410 #[vI p0, vI p1, vI p2, vJ q3, .second, vI v1, vR b43, vI (1 : Int32), vI v50, vI z64, vI v66, .unset, .unset] [(.int z64)])) rfl (k := z64) rfl (hb hby at_410) (by decide) (a := 8232) (off := 48) (by rw [c70]; rfl) (show (0 : Int) ≤ (410 : Int) + 48 by decide) t q) ?_
        show own_Go p e below _ (T59.setTop (mkF m 458 #[vI p0, vI p1, vI p2, vJ q3, .second, vI v1, vR b43, vI (1 : Int32), vI v50, vI z64, vI v66, .unset, .unset] []))
        refine own_by (fun _ k => XS.iload X61.here hx rfl (hb hby at_458) rfl k) ?_
        refine own_by (fun _ k => XS.istore X61.here hx rfl (hb hby at_460) rfl (l' := #[vI p0, vI p1, vI p2, vJ q3, .second, vI v1, vR b43, vI (1 : Int32), vI v50, vI z64, vI v66, vI (1 : Int32), .unset]) rfl k) ?_
        show own_Go p e below _ (T59.setTop (mkF m 462 #[vI p0, vI p1, vI p2, vJ q3, .second, vI v1, vR b43, vI (1 : Int32), vI v50, vI z64, vI v66, vI (1 : Int32), .unset] []))
        refine own_by (fun _ k => XS.goto X61.here hx rfl (pc0 := 462) (pc' := 468) rfl (hb hby at_462) (by decide) (by decide) k) ?_
        show own_Go p e below _ (T59.setTop (mkF m 468 #[vI p0, vI p1, vI p2, vJ q3, .second, vI v1, vR b43, vI (1 : Int32), vI v50, vI z64, vI v66, vI (1 : Int32), .unset] []))
        exact J71 _ _ (1 : Int32) X61 e62 N63 (Or.inr (Or.inr (Or.inr (Or.inl ⟨c67, c68, c69, c70, rfl⟩))))
       ·skip
        refine own_by (fun t q => X61.lookupswitchMiss hx (g := (mkF m 410 #[vI p0, vI p1, vI p2, vJ q3, .second, vI v1, vR b43, vI (1 : Int32), vI v50, vI z64, vI v66, .unset, .unset] [(.int z64)])) rfl (k := z64) rfl (hb hby at_410) (by decide) (by simp [own_swn z64 (a := (10 : Int32)) (A := 10) rfl c67, own_swn z64 (a := (13 : Int32)) (A := 13) rfl c68, own_swn z64 (a := (133 : Int32)) (A := 133) rfl c69, own_swn z64 (a := (8232 : Int32)) (A := 8232) rfl c70]) (show (0 : Int) ≤ (410 : Int) + 55 by decide) t q) ?_
        show own_Go p e below _ (T59.setTop (mkF m 465 #[vI p0, vI p1, vI p2, vJ q3, .second, vI v1, vR b43, vI (1 : Int32), vI v50, vI z64, vI v66, .unset, .unset] []))
        refine own_by (fun _ k => XS.iconst X61.here hx rfl (hb hby at_465) k) ?_
        refine own_by (fun _ k => XS.istore X61.here hx rfl (hb hby at_466) rfl (l' := #[vI p0, vI p1, vI p2, vJ q3, .second, vI v1, vR b43, vI (1 : Int32), vI v50, vI z64, vI v66, vI (0 : Int32), .unset]) rfl k) ?_
        show own_Go p e below _ (T59.setTop (mkF m 468 #[vI p0, vI p1, vI p2, vJ q3, .second, vI v1, vR b43, vI (1 : Int32), vI v50, vI z64, vI v66, vI (0 : Int32), .unset] []))
        exact J71 _ _ (0 : Int32) X61 e62 N63 (Or.inr (Or.inr (Or.inr (Or.inr (⟨c67, c68, c69, c70, rfl⟩)))))
   by_cases c51 : v50 = (0 : Int32)
   ·skip
    refine own_by (fun _ k => XS.ifNo X49.here hx rfl (hb hby at_319) rfl ((if0 _ _).trans (teq c51).2) k) ?_
    show own_Go p e below _ (T49.setTop (mkF m 322 #[vI p0, vI p1, vI p2, vJ q3, .second, vI v1, vR b43, vI (1 : Int32), vI v50, .unset, .unset, .unset, .unset] []))
    refine own_by (fun _ k => XS.bipush X49.here hx rfl (hb hby at_322) k) ?_
    refine own_by (fun _ k => XS.istore X49.here hx rfl (hb hby at_324) rfl (l' := #[vI p0, vI p1, vI p2, vJ q3, .second, vI v1, vR b43, vI (1 : Int32), vI v50, vI (13 : Int32), .unset, .unset, .unset]) rfl k) ?_
    show own_Go p e below _ (T49.setTop (mkF m 326 #[vI p0, vI p1, vI p2, vJ q3, .second, vI v1, vR b43, vI (1 : Int32), vI v50, vI (13 : Int32), .unset, .unset, .unset] []))
    refine own_by (fun _ k => XS.goto X49.here hx rfl (pc0 := 326) (pc' := 403) rfl (hb hby at_326) (by decide) (by decide) k) ?_
    show own_Go p e below _ (T49.setTop (mkF m 403 #[vI p0, vI p1, vI p2, vJ q3, .second, vI v1, vR b43, vI (1 : Int32), vI v50, vI (13 : Int32), .unset, .unset, .unset] []))
    exact J58 _ _ (13 : Int32) X49 eq49 N49 (Or.inl ⟨c51, rfl⟩)
   ·skip
    refine own_by (fun _ k => XS.ifYes X49.here hx rfl (pc0 := 319) (pc' := 329) rfl (hb hby at_319) rfl ((if0 _ _).trans (feq c51).2) (by decide) (by decide) k) ?_
    show own_Go p e below _ (T49.setTop (mkF m 329 #[vI p0, vI p1, vI p2, vJ q3, .second, vI v1, vR b43, vI (1 : Int32), vI v50, .unset, .unset, .unset, .unset] []))
    refine own_by (fun _ k => XS.iload X49.here hx rfl (hb hby at_329) rfl k) ?_
    refine own_by (fun _ k => XS.iconst X49.here hx rfl (hb hby at_331) k) ?_
    by_cases c52 : v50 = (1 : Int32)
    ·skip
     refine own_by (fun _ k => XS.icmpNo X49.here hx rfl (hb hby at_332) rfl (teq c52).2 k) ?_
     show own_Go p e below _ (T49.setTop (mkF m 335 #[vI p0, vI p1, vI p2, vJ q3, .second, vI v1, vR b43, vI (1 : Int32), vI v50, .unset, .unset, .unset, .unset] []))
     refine own_by (fun _ k => XS.bipush X49.here hx rfl (hb hby at_335) k) ?_
     refine own_by (fun _ k => XS.istore X49.here hx rfl (hb hby at_337) rfl (l' := #[vI p0, vI p1, vI p2, vJ q3, .second, vI v1, vR b43, vI (1 : Int32), vI v50, vI (10 : Int32), .unset, .unset, .unset]) rfl k) ?_
     show own_Go p e below _ (T49.setTop (mkF m 339 #[vI p0, vI p1, vI p2, vJ q3, .second, vI v1, vR b43, vI (1 : Int32), vI v50, vI (10 : Int32), .unset, .unset, .unset] []))
     refine own_by (fun _ k => XS.goto X49.here hx rfl (pc0 := 339) (pc' := 403) rfl (hb hby at_339) (by decide) (by decide) k) ?_
     show own_Go p e below _ (T49.setTop (mkF m 403 #[vI p0, vI p1, vI p2, vJ q3, .second, vI v1, vR b43, vI (1 : Int32), vI v50, vI (10 : Int32), .unset, .unset, .unset] []))
     exact J58 _ _ (10 : Int32) X49 eq49 N49 (Or.inr (Or.inl ⟨c51, c52, rfl⟩))
    ·skip
     refine own_by (fun _ k => XS.icmpYes X49.here hx rfl (pc0 := 332) (pc' := 342) rfl (hb hby at_332) rfl (feq c52).2 (by decide) (by decide) k) ?_
     show own_Go p e below _ (T49.setTop (mkF m 342 #[vI p0, vI p1, vI p2, vJ q3, .second, vI v1, vR b43, vI (1 : Int32), vI v50, .unset, .unset, .unset, .unset] []))
     refine own_by (fun _ k => XS.iload X49.here hx rfl (hb hby at_342) rfl k) ?_
     refine own_by (fun _ k => XS.iconst X49.here hx rfl (hb hby at_344) k) ?_
     by_cases c53 : v50 = (2 : Int32)
     ·skip
      refine own_by (fun _ k => XS.icmpNo X49.here hx rfl (hb hby at_345) rfl (teq c53).2 k) ?_
      show own_Go p e below _ (T49.setTop (mkF m 348 #[vI p0, vI p1, vI p2, vJ q3, .second, vI v1, vR b43, vI (1 : Int32), vI v50, .unset, .unset, .unset, .unset] []))
      refine own_by (fun _ k => XS.sipush X49.here hx rfl (hb hby at_348) k) ?_
      refine own_by (fun _ k => XS.istore X49.here hx rfl (hb hby at_351) rfl (l' := #[vI p0, vI p1, vI p2, vJ q3, .second, vI v1, vR b43, vI (1 : Int32), vI v50, vI (133 : Int32), .unset, .unset, .unset]) rfl k) ?_
      show own_Go p e below _ (T49.setTop (mkF m 353 #[vI p0, vI p1, vI p2, vJ q3, .second, vI v1, vR b43, vI (1 : Int32), vI v50, vI (133 : Int32), .unset, .unset, .unset] []))
      refine own_by (fun _ k => XS.goto X49.here hx rfl (pc0 := 353) (pc' := 403) rfl (hb hby at_353) (by decide) (by decide) k) ?_
      show own_Go p e below _ (T49.setTop (mkF m 403 #[vI p0, vI p1, vI p2, vJ q3, .second, vI v1, vR b43, vI (1 : Int32), vI v50, vI (133 : Int32), .unset, .unset, .unset] []))
      exact J58 _ _ (133 : Int32) X49 eq49 N49 (Or.inr (Or.inr (Or.inl ⟨c51, c52, c53, rfl⟩)))
     ·skip
      refine own_by (fun _ k => XS.icmpYes X49.here hx rfl (pc0 := 345) (pc' := 356) rfl (hb hby at_345) rfl (feq c53).2 (by decide) (by decide) k) ?_
      show own_Go p e below _ (T49.setTop (mkF m 356 #[vI p0, vI p1, vI p2, vJ q3, .second, vI v1, vR b43, vI (1 : Int32), vI v50, .unset, .unset, .unset, .unset] []))
      refine own_by (fun _ k => XS.iload X49.here hx rfl (hb hby at_356) rfl k) ?_
      refine own_by (fun _ k => XS.iconst X49.here hx rfl (hb hby at_358) k) ?_
      by_cases c54 : v50 = (3 : Int32)
      ·skip
       refine own_by (fun _ k => XS.icmpNo X49.here hx rfl (hb hby at_359) rfl (teq c54).2 k) ?_
       show own_Go p e below _ (T49.setTop (mkF m 362 #[vI p0, vI p1, vI p2, vJ q3, .second, vI v1, vR b43, vI (1 : Int32), vI v50, .unset, .unset, .unset, .unset] []))
       refine own_by (fun _ k => XS.sipush X49.here hx rfl (hb hby at_362) k) ?_
       refine own_by (fun _ k => XS.istore X49.here hx rfl (hb hby at_365) rfl (l' := #[vI p0, vI p1, vI p2, vJ q3, .second, vI v1, vR b43, vI (1 : Int32), vI v50, vI (8232 : Int32), .unset, .unset, .unset]) rfl k) ?_
       show own_Go p e below _ (T49.setTop (mkF m 367 #[vI p0, vI p1, vI p2, vJ q3, .second, vI v1, vR b43, vI (1 : Int32), vI v50, vI (8232 : Int32), .unset, .unset, .unset] []))
       refine own_by (fun _ k => XS.goto X49.here hx rfl (pc0 := 367) (pc' := 403) rfl (hb hby at_367) (by decide) (by decide) k) ?_
       show own_Go p e below _ (T49.setTop (mkF m 403 #[vI p0, vI p1, vI p2, vJ q3, .second, vI v1, vR b43, vI (1 : Int32), vI v50, vI (8232 : Int32), .unset, .unset, .unset] []))
       exact J58 _ _ (8232 : Int32) X49 eq49 N49 (Or.inr (Or.inr (Or.inr (Or.inl ⟨c51, c52, c53, c54, rfl⟩))))
      ·skip
       refine own_by (fun _ k => XS.icmpYes X49.here hx rfl (pc0 := 359) (pc' := 370) rfl (hb hby at_359) rfl (feq c54).2 (by decide) (by decide) k) ?_
       show own_Go p e below _ (T49.setTop (mkF m 370 #[vI p0, vI p1, vI p2, vJ q3, .second, vI v1, vR b43, vI (1 : Int32), vI v50, .unset, .unset, .unset, .unset] []))
       refine own_by (fun _ k => XS.iload X49.here hx rfl (hb hby at_370) rfl k) ?_
       refine own_by (fun _ k => XS.iconst X49.here hx rfl (hb hby at_372) k) ?_
       by_cases c55 : v50 = (4 : Int32)
       ·skip
        refine own_by (fun _ k => XS.icmpNo X49.here hx rfl (hb hby at_373) rfl (teq c55).2 k) ?_
        show own_Go p e below _ (T49.setTop (mkF m 376 #[vI p0, vI p1, vI p2, vJ q3, .second, vI v1, vR b43, vI (1 : Int32), vI v50, .unset, .unset, .unset, .unset] []))
        refine own_by (fun _ k => XS.sipush X49.here hx rfl (hb hby at_376) k) ?_
        refine own_by (fun _ k => XS.istore X49.here hx rfl (hb hby at_379) rfl (l' := #[vI p0, vI p1, vI p2, vJ q3, .second, vI v1, vR b43, vI (1 : Int32), vI v50, vI (8233 : Int32), .unset, .unset, .unset]) rfl k) ?_
        show own_Go p e below _ (T49.setTop (mkF m 381 #[vI p0, vI p1, vI p2, vJ q3, .second, vI v1, vR b43, vI (1 : Int32), vI v50, vI (8233 : Int32), .unset, .unset, .unset] []))
        refine own_by (fun _ k => XS.goto X49.here hx rfl (pc0 := 381) (pc' := 403) rfl (hb hby at_381) (by decide) (by decide) k) ?_
        show own_Go p e below _ (T49.setTop (mkF m 403 #[vI p0, vI p1, vI p2, vJ q3, .second, vI v1, vR b43, vI (1 : Int32), vI v50, vI (8233 : Int32), .unset, .unset, .unset] []))
        exact J58 _ _ (8233 : Int32) X49 eq49 N49 (Or.inr (Or.inr (Or.inr (Or.inr (Or.inl ⟨c51, c52, c53, c54, c55, rfl⟩)))))
       ·skip
        refine own_by (fun _ k => XS.icmpYes X49.here hx rfl (pc0 := 373) (pc' := 384) rfl (hb hby at_373) rfl (feq c55).2 (by decide) (by decide) k) ?_
        show own_Go p e below _ (T49.setTop (mkF m 384 #[vI p0, vI p1, vI p2, vJ q3, .second, vI v1, vR b43, vI (1 : Int32), vI v50, .unset, .unset, .unset, .unset] []))
        refine own_by (fun _ k => XS.iload X49.here hx rfl (hb hby at_384) rfl k) ?_
        refine own_by (fun _ k => XS.iconst X49.here hx rfl (hb hby at_386) k) ?_
        by_cases c56 : v50 = (5 : Int32)
        ·skip
         refine own_by (fun _ k => XS.icmpNo X49.here hx rfl (hb hby at_387) rfl (teq c56).2 k) ?_
         show own_Go p e below _ (T49.setTop (mkF m 390 #[vI p0, vI p1, vI p2, vJ q3, .second, vI v1, vR b43, vI (1 : Int32), vI v50, .unset, .unset, .unset, .unset] []))
         refine own_by (fun _ k => XS.bipush X49.here hx rfl (hb hby at_390) k) ?_
         refine own_by (fun _ k => XS.istore X49.here hx rfl (hb hby at_392) rfl (l' := #[vI p0, vI p1, vI p2, vJ q3, .second, vI v1, vR b43, vI (1 : Int32), vI v50, vI (12 : Int32), .unset, .unset, .unset]) rfl k) ?_
         show own_Go p e below _ (T49.setTop (mkF m 394 #[vI p0, vI p1, vI p2, vJ q3, .second, vI v1, vR b43, vI (1 : Int32), vI v50, vI (12 : Int32), .unset, .unset, .unset] []))
         refine own_by (fun _ k => XS.goto X49.here hx rfl (pc0 := 394) (pc' := 403) rfl (hb hby at_394) (by decide) (by decide) k) ?_
         show own_Go p e below _ (T49.setTop (mkF m 403 #[vI p0, vI p1, vI p2, vJ q3, .second, vI v1, vR b43, vI (1 : Int32), vI v50, vI (12 : Int32), .unset, .unset, .unset] []))
         exact J58 _ _ (12 : Int32) X49 eq49 N49 (Or.inr (Or.inr (Or.inr (Or.inr (Or.inr (Or.inl ⟨c51, c52, c53, c54, c55, c56, rfl⟩))))))
        ·skip
         refine own_by (fun _ k => XS.icmpYes X49.here hx rfl (pc0 := 387) (pc' := 397) rfl (hb hby at_387) rfl (feq c56).2 (by decide) (by decide) k) ?_
         show own_Go p e below _ (T49.setTop (mkF m 397 #[vI p0, vI p1, vI p2, vJ q3, .second, vI v1, vR b43, vI (1 : Int32), vI v50, .unset, .unset, .unset, .unset] []))
         refine own_by (fun _ k => XS.iloadN X49.here hx rfl (hb hby at_397) rfl k) ?_
         refine own_by (fun t k => X49.ldcInt hx hown (mvT hZ (hwd 99 rfl)) (g := (mkF m 398 #[vI p0, vI p1, vI p2, vJ q3, .second, vI v1, vR b43, vI (1 : Int32), vI v50, .unset, .unset, .unset, .unset] [(.int p2)])) rfl (hb hby at_398) _ k) ?_
         show own_Go p e below _ (T49.setTop (mkF m 400 #[vI p0, vI p1, vI p2, vJ q3, .second, vI v1, vR b43, vI (1 : Int32), vI v50, .unset, .unset, .unset, .unset] [(.int (65535 : Int32)), (.int p2)]))
         refine own_by (fun _ k => XS.iand X49.here hx rfl (hb hby at_400) rfl k) ?_
         show own_Go p e below _ (T49.setTop (mkF m 401 #[vI p0, vI p1, vI p2, vJ q3, .second, vI v1, vR b43, vI (1 : Int32), vI v50, .unset, .unset, .unset, .unset] [(.int (p2 &&& (65535 : Int32)))]))
         refine own_by (fun _ k => XS.istore X49.here hx rfl (hb hby at_401) rfl (l' := #[vI p0, vI p1, vI p2, vJ q3, .second, vI v1, vR b43, vI (1 : Int32), vI v50, vI (p2 &&& (65535 : Int32)), .unset, .unset, .unset]) rfl k) ?_
         show own_Go p e below _ (T49.setTop (mkF m 403 #[vI p0, vI p1, vI p2, vJ q3, .second, vI v1, vR b43, vI (1 : Int32), vI v50, vI (p2 &&& (65535 : Int32)), .unset, .unset, .unset] []))
         generalize hv57 : (p2 &&& (65535 : Int32)) = v57
         show own_Go p e below _ (T49.setTop (mkF m 403 #[vI p0, vI p1, vI p2, vJ q3, .second, vI v1, vR b43, vI (1 : Int32), vI v50, vI v57, .unset, .unset, .unset] []))
         exact J58 _ _ v57 X49 eq49 N49 (Or.inr (Or.inr (Or.inr (Or.inr (Or.inr (Or.inr (⟨v57, c51, c52, c53, c54, c55, c56, hv57, rfl⟩)))))))
  ·skip
   refine own_by (fun _ k => XS.icmpYes X0.here hx rfl (pc0 := 20) (pc' := 30) rfl (hb hby at_20) rfl (feq c42).2 (by decide) (by decide) k) ?_
   show own_Go p e below _ (s₁.setTop (mkF m 30 #[vI p0, vI p1, vI p2, vJ q3, .second, vI v1, .unset, .unset, .unset, .unset, .unset, .unset, .unset] []))
   refine own_by (fun _ k => XS.iload X0.here hx rfl (hb hby at_30) rfl k) ?_
   refine own_by (fun _ k => XS.iconst X0.here hx rfl (hb hby at_32) k) ?_
   by_cases c96 : v1 = (2 : Int32)
   ·skip
    refine own_by (fun _ k => XS.icmpNo X0.here hx rfl (hb hby at_33) rfl (teq c96).2 k) ?_
    show own_Go p e below _ (s₁.setTop (mkF m 36 #[vI p0, vI p1, vI p2, vJ q3, .second, vI v1, .unset, .unset, .unset, .unset, .unset, .unset, .unset] []))
    obtain ⟨b97, T97, h97, kc97, t97, kk97, X97, e97, E97, hS, hk97, hZ, hown, A97, C97, F97, V97, lt97, ltb97, R97, Li97, -, st97⟩ := ldcCH X0 hx hZ hown (hwd 76 rfl) hwS e0 hS hk0 hEL (by decide) CR0.1 (vs := ([49, 46, 48] : List Int32).map Value.int) (z := (3 : Int32)) ⟨by decide, by decide⟩ (by decide) (by decide) (g := (mkF m 36 #[vI p0, vI p1, vI p2, vJ q3, .second, vI v1, .unset, .unset, .unset, .unset, .unset, .unset, .unset] [])) rfl (hb hby at_36) (n := 12) (by decide) (by decide) (by decide) (by decide)
    have V97' : own_Arf Z h97 t97 kk97 .byte (3 : Int32) (fun i => .int ((own_li [49, 46, 48]) i)) := own_arfLi V97
    have CR97 : CHr Z consts_1 s.vm h0 T97.vm h97 := CR0.trans R97
    have K97 : Keep h0 h97 [] := (Keep.refl h0 []).ext E97
    have Z97 : n0 ≤ h97.size := Nat.le_trans Z0 E97.1
    refine own_by st97 ?_
    show own_Go p e below _ (T97.setTop (mkF m 38 #[vI p0, vI p1, vI p2, vJ q3, .second, vI v1, .unset, .unset, .unset, .unset, .unset, .unset, .unset] [(.ref b97)]))
    refine own_by (fun _ k => XS.astore X97.here hx rfl (hb hby at_38) rfl rfl (l' := #[vI p0, vI p1, vI p2, vJ q3, .second, vI v1, vR b97, .unset, .unset, .unset, .unset, .unset, .unset]) rfl k) ?_
    show own_Go p e below _ (T97.setTop (mkF m 40 #[vI p0, vI p1, vI p2, vJ q3, .second, vI v1, vR b97, .unset, .unset, .unset, .unset, .unset, .unset] []))
    refine own_by (fun _ k => XS.goto X97.here hx rfl (pc0 := 40) (pc' := 257) rfl (hb hby at_40) (by decide) (by decide) k) ?_
    show own_Go p e below _ (T97.setTop (mkF m 257 #[vI p0, vI p1, vI p2, vJ q3, .second, vI v1, vR b97, .unset, .unset, .unset, .unset, .unset, .unset] []))
    refine own_by (fun _ k => XS.aload X97.here hx rfl (hb hby at_257) rfl rfl k) ?_
    refine own_by (fun _ k => XS.ifnullNo X97.here hx rfl (hb hby at_259) rfl k) ?_
    show own_Go p e below _ (T97.setTop (mkF m 262 #[vI p0, vI p1, vI p2, vJ q3, .second, vI v1, vR b97, .unset, .unset, .unset, .unset, .unset, .unset] []))
    refine own_by (fun _ k => XS.aload X97.here hx rfl (hb hby at_262) rfl rfl k) ?_
    have F98 : Sta Z h97 "java/lang/String" "COMPACT_STRINGS" "Z" (.int f_CS) := (P_S_CS.ext E97)
    obtain ⟨cq99, kq99, qq99a, qq99b, qq99c⟩ := isOf hZ e97 A97
    obtain ⟨_, _, ⟨T99, L99, k99, n99⟩, -, X99, ⟨Lc99, hQ99, l99, y99, z99⟩, st99⟩ := X97.virtualBack hx (y := (⟨"java/lang/String", "length", "()I"⟩ : MethodName)) (z := (⟨"java/lang/String", "length", "()I"⟩ : MethodName)) hown (mvT hZ (hwd 61 rfl)) (mvT hZ (hwd 62 rfl)) (notFace_of_selects (args := #[]) (mvT hZ (hwd 64 rfl))) (mvT hZ (hwd 64 rfl)) (mvT hZ (hwd 63 rfl)) (by decide) (backOf (W := 0) (rmlen3 l Z A0 hw [] t97 kk97 (own_li [49, 46, 48]) f_CS b97 h97 n0 Z97 A97 C97 F97 V97' F98 hn_CS) hZ (hwd 65 rfl) (hwd 14 rfl) (by decide) (by decide)) qq99a qq99c (g := (mkF m 264 #[vI p0, vI p1, vI p2, vJ q3, .second, vI v1, vR b97, .unset, .unset, .unset, .unset, .unset, .unset] [(.ref b97)])) rfl (by rw [hml]; rfl) (Steps.refl _) (argsL := []) (rest := []) (lenOf pd_61 rfl) rfl (by show 2 * 0 + _ ≤ _; exact Nat.le_of_eq rfl) (hb hby at_264) (fun _ _ => ⟨rfl, e97, (by decide : 2 + 0 ≤ _), (by decide : 16 + 0 ≤ _)⟩)
    dsimp only [Pt.U, Pt.locs, Pt.cells, Pt.slots] at X99 l99 y99 z99 st99 hQ99
    subst l99 y99 z99
    obtain ⟨rfl, Nq99, eq99⟩ := hQ99
    have N99 := Fr.app N0 Nq99
    refine own_by (fun _ k => st99.trans k) ?_
    show own_Go p e below _ (T99.setTop (mkF m 267 #[vI p0, vI p1, vI p2, vJ q3, .second, vI v1, vR b97, .unset, .unset, .unset, .unset, .unset, .unset] [(.int (3 : Int32))]))
    refine own_by (fun _ k => XS.iconst X99.here hx rfl (hb hby at_267) k) ?_
    refine own_by (fun _ k => XS.icmpNo X99.here hx rfl (hb hby at_268) rfl (teq (by decide : (3 : Int32) = (3 : Int32))).2 k) ?_
    show own_Go p e below _ (T99.setTop (mkF m 271 #[vI p0, vI p1, vI p2, vJ q3, .second, vI v1, vR b97, .unset, .unset, .unset, .unset, .unset, .unset] []))
    refine own_by (fun _ k => XS.aload X99.here hx rfl (hb hby at_271) rfl rfl k) ?_
    refine own_by (fun _ k => XS.iconst X99.here hx rfl (hb hby at_273) k) ?_
    have F100 : Sta Z h97 "jdk/internal/util/Preconditions" "SIOOBE_FORMATTER" "Ljava/util/function/BiFunction;" f_SF := (P_S_SF.ext E97)
    obtain ⟨cq101, kq101, qq101a, qq101b, qq101c⟩ := isOf hZ eq99 A97
    obtain ⟨_, _, ⟨T101, L101, k101, n101⟩, -, X101, ⟨Lc101, hQ101, l101, y101, z101⟩, st101⟩ := X99.virtualBack hx (y := (⟨"java/lang/String", "charAt", "(I)C"⟩ : MethodName)) (z := (⟨"java/lang/String", "charAt", "(I)C"⟩ : MethodName)) hown (mvT hZ (hwd 77 rfl)) (mvT hZ (hwd 78 rfl)) (notFace_of_selects (args := #[]) (mvT hZ (hwd 80 rfl))) (mvT hZ (hwd 80 rfl)) (mvT hZ (hwd 79 rfl)) (by decide) (backOf (W := 0) (rmsca0 l Z A0 hw [] t97 kk97 (own_li [49, 46, 48]) f_CS f_SF b97 h97 n0 Z97 A97 C97 F97 V97' F98 hn_CS F100 hr_f_SF) hZ (hwd 81 rfl) (hwd 14 rfl) (by decide) (by decide)) qq101a qq101c (g := (mkF m 274 #[vI p0, vI p1, vI p2, vJ q3, .second, vI v1, vR b97, .unset, .unset, .unset, .unset, .unset, .unset] [(.int (0 : Int32)), (.ref b97)])) rfl (by rw [hml]; rfl) (Steps.refl _) (argsL := [(.int (0 : Int32))]) (rest := []) (lenOf pd_77 rfl) rfl (by show 2 * 0 + _ ≤ _; exact Nat.le_of_eq rfl) (hb hby at_274) (fun _ _ => ⟨rfl, eq99, (by decide : 2 + 0 ≤ _), (by decide : 16 + 0 ≤ _)⟩)
    dsimp only [Pt.U, Pt.locs, Pt.cells, Pt.slots] at X101 l101 y101 z101 st101 hQ101
    subst l101 y101 z101
    obtain ⟨rfl, Nq101, eq101⟩ := hQ101
    have N101 := Fr.app N99 Nq101
    refine own_by (fun _ k => st101.trans k) ?_
    show own_Go p e below _ (T101.setTop (mkF m 277 #[vI p0, vI p1, vI p2, vJ q3, .second, vI v1, vR b97, .unset, .unset, .unset, .unset, .unset, .unset] [(.int (49 : Int32))]))
    refine own_by (fun _ k => XS.bipush X101.here hx rfl (hb hby at_277) k) ?_
    refine own_by (fun _ k => XS.icmpNo X101.here hx rfl (hb hby at_279) rfl (teq (by decide : (49 : Int32) = (49 : Int32))).2 k) ?_
    show own_Go p e below _ (T101.setTop (mkF m 282 #[vI p0, vI p1, vI p2, vJ q3, .second, vI v1, vR b97, .unset, .unset, .unset, .unset, .unset, .unset] []))
    refine own_by (fun _ k => XS.aload X101.here hx rfl (hb hby at_282) rfl rfl k) ?_
    refine own_by (fun _ k => XS.iconst X101.here hx rfl (hb hby at_284) k) ?_
    obtain ⟨cq102, kq102, qq102a, qq102b, qq102c⟩ := isOf hZ eq101 A97
    obtain ⟨_, _, ⟨T102, L102, k102, n102⟩, -, X102, ⟨Lc102, hQ102, l102, y102, z102⟩, st102⟩ := X101.virtualBack hx (y := (⟨"java/lang/String", "charAt", "(I)C"⟩ : MethodName)) (z := (⟨"java/lang/String", "charAt", "(I)C"⟩ : MethodName)) hown (mvT hZ (hwd 77 rfl)) (mvT hZ (hwd 78 rfl)) (notFace_of_selects (args := #[]) (mvT hZ (hwd 80 rfl))) (mvT hZ (hwd 80 rfl)) (mvT hZ (hwd 79 rfl)) (by decide) (backOf (W := 0) (rmsca1 l Z A0 hw [] t97 kk97 (own_li [49, 46, 48]) f_CS f_SF b97 h97 n0 Z97 A97 C97 F97 V97' F98 hn_CS F100 hr_f_SF) hZ (hwd 81 rfl) (hwd 14 rfl) (by decide) (by decide)) qq102a qq102c (g := (mkF m 285 #[vI p0, vI p1, vI p2, vJ q3, .second, vI v1, vR b97, .unset, .unset, .unset, .unset, .unset, .unset] [(.int (1 : Int32)), (.ref b97)])) rfl (by rw [hml]; rfl) (Steps.refl _) (argsL := [(.int (1 : Int32))]) (rest := []) (lenOf pd_77 rfl) rfl (by show 2 * 0 + _ ≤ _; exact Nat.le_of_eq rfl) (hb hby at_285) (fun _ _ => ⟨rfl, eq101, (by decide : 2 + 0 ≤ _), (by decide : 16 + 0 ≤ _)⟩)
    dsimp only [Pt.U, Pt.locs, Pt.cells, Pt.slots] at X102 l102 y102 z102 st102 hQ102
    subst l102 y102 z102
    obtain ⟨rfl, Nq102, eq102⟩ := hQ102
    have N102 := Fr.app N101 Nq102
    refine own_by (fun _ k => st102.trans k) ?_
    show own_Go p e below _ (T102.setTop (mkF m 288 #[vI p0, vI p1, vI p2, vJ q3, .second, vI v1, vR b97, .unset, .unset, .unset, .unset, .unset, .unset] [(.int (46 : Int32))]))
    refine own_by (fun _ k => XS.bipush X102.here hx rfl (hb hby at_288) k) ?_
    refine own_by (fun _ k => XS.icmpNo X102.here hx rfl (hb hby at_290) rfl (teq (by decide : (46 : Int32) = (46 : Int32))).2 k) ?_
    show own_Go p e below _ (T102.setTop (mkF m 293 #[vI p0, vI p1, vI p2, vJ q3, .second, vI v1, vR b97, .unset, .unset, .unset, .unset, .unset, .unset] []))
    refine own_by (fun _ k => XS.aload X102.here hx rfl (hb hby at_293) rfl rfl k) ?_
    refine own_by (fun _ k => XS.iconst X102.here hx rfl (hb hby at_295) k) ?_
    obtain ⟨cq103, kq103, qq103a, qq103b, qq103c⟩ := isOf hZ eq102 A97
    obtain ⟨_, _, ⟨T103, L103, k103, n103⟩, -, X103, ⟨Lc103, hQ103, l103, y103, z103⟩, st103⟩ := X102.virtualBack hx (y := (⟨"java/lang/String", "charAt", "(I)C"⟩ : MethodName)) (z := (⟨"java/lang/String", "charAt", "(I)C"⟩ : MethodName)) hown (mvT hZ (hwd 77 rfl)) (mvT hZ (hwd 78 rfl)) (notFace_of_selects (args := #[]) (mvT hZ (hwd 80 rfl))) (mvT hZ (hwd 80 rfl)) (mvT hZ (hwd 79 rfl)) (by decide) (backOf (W := 0) (rmsca2 l Z A0 hw [] t97 kk97 (own_li [49, 46, 48]) f_CS f_SF b97 h97 n0 Z97 A97 C97 F97 V97' F98 hn_CS F100 hr_f_SF) hZ (hwd 81 rfl) (hwd 14 rfl) (by decide) (by decide)) qq103a qq103c (g := (mkF m 296 #[vI p0, vI p1, vI p2, vJ q3, .second, vI v1, vR b97, .unset, .unset, .unset, .unset, .unset, .unset] [(.int (2 : Int32)), (.ref b97)])) rfl (by rw [hml]; rfl) (Steps.refl _) (argsL := [(.int (2 : Int32))]) (rest := []) (lenOf pd_77 rfl) rfl (by show 2 * 0 + _ ≤ _; exact Nat.le_of_eq rfl) (hb hby at_296) (fun _ _ => ⟨rfl, eq102, (by decide : 2 + 0 ≤ _), (by decide : 16 + 0 ≤ _)⟩)
    dsimp only [Pt.U, Pt.locs, Pt.cells, Pt.slots] at X103 l103 y103 z103 st103 hQ103
    subst l103 y103 z103
    obtain ⟨rfl, Nq103, eq103⟩ := hQ103
    have N103 := Fr.app N102 Nq103
    refine own_by (fun _ k => st103.trans k) ?_
    show own_Go p e below _ (T103.setTop (mkF m 299 #[vI p0, vI p1, vI p2, vJ q3, .second, vI v1, vR b97, .unset, .unset, .unset, .unset, .unset, .unset] [(.int (48 : Int32))]))
    refine own_by (fun _ k => XS.bipush X103.here hx rfl (hb hby at_299) k) ?_
    refine own_by (fun _ k => XS.icmpYes X103.here hx rfl (pc0 := 301) (pc' := 308) rfl (hb hby at_301) rfl (feq (by decide : ¬ ((48 : Int32) = (49 : Int32)))).2 (by decide) (by decide) k) ?_
    show own_Go p e below _ (T103.setTop (mkF m 308 #[vI p0, vI p1, vI p2, vJ q3, .second, vI v1, vR b97, .unset, .unset, .unset, .unset, .unset, .unset] []))
    refine own_by (fun _ k => XS.iconst X103.here hx rfl (hb hby at_308) k) ?_
    refine own_by (fun _ k => XS.istore X103.here hx rfl (hb hby at_309) rfl (l' := #[vI p0, vI p1, vI p2, vJ q3, .second, vI v1, vR b97, vI (0 : Int32), .unset, .unset, .unset, .unset, .unset]) rfl k) ?_
    show own_Go p e below _ (T103.setTop (mkF m 311 #[vI p0, vI p1, vI p2, vJ q3, .second, vI v1, vR b97, vI (0 : Int32), .unset, .unset, .unset, .unset, .unset] []))
    refine own_by (fun _ k => XS.iloadN X103.here hx rfl (hb hby at_311) rfl k) ?_
    refine own_by (fun _ k => XS.bipush X103.here hx rfl (hb hby at_312) k) ?_
    refine own_by (fun _ k => XS.iand X103.here hx rfl (hb hby at_314) rfl k) ?_
    show own_Go p e below _ (T103.setTop (mkF m 315 #[vI p0, vI p1, vI p2, vJ q3, .second, vI v1, vR b97, vI (0 : Int32), .unset, .unset, .unset, .unset, .unset] [(.int (p1 &&& (7 : Int32)))]))
    refine own_by (fun _ k => XS.istore X103.here hx rfl (hb hby at_315) rfl (l' := #[vI p0, vI p1, vI p2, vJ q3, .second, vI v1, vR b97, vI (0 : Int32), vI (p1 &&& (7 : Int32)), .unset, .unset, .unset, .unset]) rfl k) ?_
    show own_Go p e below _ (T103.setTop (mkF m 317 #[vI p0, vI p1, vI p2, vJ q3, .second, vI v1, vR b97, vI (0 : Int32), vI (p1 &&& (7 : Int32)), .unset, .unset, .unset, .unset] []))
    generalize hv104 : (p1 &&& (7 : Int32)) = v104
    show own_Go p e below _ (T103.setTop (mkF m 317 #[vI p0, vI p1, vI p2, vJ q3, .second, vI v1, vR b97, vI (0 : Int32), vI v104, .unset, .unset, .unset, .unset] []))
    refine own_by (fun _ k => XS.iload X103.here hx rfl (hb hby at_317) rfl k) ?_
    have J112 : ∀ (T113 : State) (L114 : List Loc) (z118 : Int32), Stand p l e room_1 (s.setVm T97.vm) m #[(.int p0), (.int p1), (.int p2), (.long q3)] below meth c T113 L114 2 16 → T113.heap = h97 → Fr n0 L114 → (((v104 = (0 : Int32)) ∧ z118 = (13 : Int32)) ∨ ((¬ (v104 = (0 : Int32))) ∧ (v104 = (1 : Int32)) ∧ z118 = (10 : Int32)) ∨ ((¬ (v104 = (0 : Int32))) ∧ (¬ (v104 = (1 : Int32))) ∧ (v104 = (2 : Int32)) ∧ z118 = (133 : Int32)) ∨ ((¬ (v104 = (0 : Int32))) ∧ (¬ (v104 = (1 : Int32))) ∧ (¬ (v104 = (2 : Int32))) ∧ (v104 = (3 : Int32)) ∧ z118 = (8232 : Int32)) ∨ ((¬ (v104 = (0 : Int32))) ∧ (¬ (v104 = (1 : Int32))) ∧ (¬ (v104 = (2 : Int32))) ∧ (¬ (v104 = (3 : Int32))) ∧ (v104 = (4 : Int32)) ∧ z118 = (8233 : Int32)) ∨ ((¬ (v104 = (0 : Int32))) ∧ (¬ (v104 = (1 : Int32))) ∧ (¬ (v104 = (2 : Int32))) ∧ (¬ (v104 = (3 : Int32))) ∧ (¬ (v104 = (4 : Int32))) ∧ (v104 = (5 : Int32)) ∧ z118 = (12 : Int32)) ∨ (∃ (v111 : Int32), (¬ (v104 = (0 : Int32))) ∧ (¬ (v104 = (1 : Int32))) ∧ (¬ (v104 = (2 : Int32))) ∧ (¬ (v104 = (3 : Int32))) ∧ (¬ (v104 = (4 : Int32))) ∧ (¬ (v104 = (5 : Int32))) ∧ ((p2 &&& (65535 : Int32)) = v111) ∧ z118 = v111)) → own_Go p e below (own_FinW Z consts_1 s 24 4224 (Q0 Z f_CS f_SF p0 p1 p2 q3 h0 n0)) (T113.setTop (mkF m 403 #[vI p0, vI p1, vI p2, vJ q3, .second, vI v1, vR b97, vI (0 : Int32), vI v104, vI z118, .unset, .unset, .unset] [])) := by
     intro T113 L114 z118 X115 e116 N117 hj119
     refine own_by (fun _ k => XS.iload X115.here hx rfl (hb hby at_403) rfl k) ?_
     refine own_by (fun _ k => XS.i2c X115.here hx rfl (hb hby at_405) rfl k) ?_
     show own_Go p e below _ (T113.setTop (mkF m 406 #[vI p0, vI p1, vI p2, vJ q3, .second, vI v1, vR b97, vI (0 : Int32), vI v104, vI z118, .unset, .unset, .unset] [(.int (z118.toUInt32.toUInt16.toUInt32.toInt32))]))
     refine own_by (fun _ k => XS.istore X115.here hx rfl (hb hby at_406) rfl (l' := #[vI p0, vI p1, vI p2, vJ q3, .second, vI v1, vR b97, vI (0 : Int32), vI v104, vI z118, vI (z118.toUInt32.toUInt16.toUInt32.toInt32), .unset, .unset]) rfl k) ?_
     show own_Go p e below _ (T113.setTop (mkF m 408 #[vI p0, vI p1, vI p2, vJ q3, .second, vI v1, vR b97, vI (0 : Int32), vI v104, vI z118, vI (z118.toUInt32.toUInt16.toUInt32.toInt32), .unset, .unset] []))
     generalize hv120 : (z118.toUInt32.toUInt16.toUInt32.toInt32) = v120
     show own_Go p e below _ (T113.setTop (mkF m 408 #[vI p0, vI p1, vI p2, vJ q3, .second, vI v1, vR b97, vI (0 : Int32), vI v104, vI z118, vI v120, .unset, .unset] []))
     refine own_by (fun _ k => XS.iload X115.here hx rfl (hb hby at_408) rfl k) ?_
     have J125 : ∀ (T126 : State) (L127 : List Loc) (z131 : Int32), Stand p l e room_1 (s.setVm T97.vm) m #[(.int p0), (.int p1), (.int p2), (.long q3)] below meth c T126 L127 2 16 → T126.heap = h97 → Fr n0 L127 → (((z118 = (10 : Int32)) ∧ z131 = (1 : Int32)) ∨ ((¬ (z118 = (10 : Int32))) ∧ (z118 = (13 : Int32)) ∧ z131 = (1 : Int32)) ∨ ((¬ (z118 = (10 : Int32))) ∧ (¬ (z118 = (13 : Int32))) ∧ (z118 = (133 : Int32)) ∧ z131 = (0 : Int32)) ∨ ((¬ (z118 = (10 : Int32))) ∧ (¬ (z118 = (13 : Int32))) ∧ (¬ (z118 = (133 : Int32))) ∧ (z118 = (8232 : Int32)) ∧ z131 = (0 : Int32)) ∨ ((¬ (z118 = (10 : Int32))) ∧ (¬ (z118 = (13 : Int32))) ∧ (¬ (z118 = (133 : Int32))) ∧ (¬ (z118 = (8232 : Int32))) ∧ z131 = (0 : Int32))) → own_Go p e below (own_FinW Z consts_1 s 24 4224 (Q0 Z f_CS f_SF p0 p1 p2 q3 h0 n0)) (T126.setTop (mkF m 468 #[vI p0, vI p1, vI p2, vJ q3, .second, vI v1, vR b97, vI (0 : Int32), vI v104, vI z118, vI v120, vI z131, .unset] [])) := by
      intro T126 L127 z131 X128 e129 N130 hj132
      obtain ⟨T133, h133, X133, e133, E133, A133, D133, -, st133⟩ := newO X128 hx hZ hown (hwd 0 rfl) (hwd 1 rfl) (hwd 2 rfl) e129 (g := (mkF m 468 #[vI p0, vI p1, vI p2, vJ q3, .second, vI v1, vR b97, vI (0 : Int32), vI v104, vI z118, vI v120, vI z131, .unset] [])) rfl (hb hby at_468) (by decide) (by decide)
      obtain ⟨b133, g133⟩ : ∃ z, z = h97.size := ⟨_, rfl⟩
      have ge_b133 : n0 ≤ b133 := Nat.le_trans Z97 (Nat.le_of_eq g133.symm)
      have sz_b133 : h0.size ≤ b133 := Nat.le_trans K97.1 (Nat.le_of_eq g133.symm)
      have R133 : CHr Z consts_1 T97.vm h97 T97.vm h133 := CHr.ext E133 CR97.1
      have CR133 : CHr Z consts_1 s.vm h0 T97.vm h133 := CR97.trans R133
      have hk133 : kc97 ≤ h133.size := Nat.le_trans hk97 E133.1
      have S_b133 : Safe Z consts_1 T97.vm h133 b133 := Safe.ext E133 CR97.1 (Safe.new (Nat.le_of_eq g133.symm))
      have K133 : Keep h0 h133 [] := K97.ext E133
      have Z133 : n0 ≤ h133.size := Nat.le_trans Z97 E133.1
      rw [← g133] at A133 D133 st133
      have lt_b133 := A133.lt
      have F_line_b133 : Fld Z h133 b133 "com/example/margay/margay/index/LineCounter" "line" "I" (.int (0 : Int32)) := D133 (Or.inl (hwd 10 rfl)) (ty := .int) (by decide)
      have F_column_b133 : Fld Z h133 b133 "com/example/margay/margay/index/LineCounter" "column" "I" (.int (0 : Int32)) := D133 (Or.inl (hwd 12 rfl)) (ty := .int) (by decide)
      have F_xml11_b133 : Fld Z h133 b133 "com/example/margay/margay/index/LineCounter" "xml11" "Z" (.int (0 : Int32)) := D133 (Or.inr (hwd 27 rfl)) (ty := .boolean) (by decide)
      refine own_by st133 ?_
      show own_Go p e below _ (T133.setTop (mkF m 471 #[vI p0, vI p1, vI p2, vJ q3, .second, vI v1, vR b97, vI (0 : Int32), vI v104, vI z118, vI v120, vI z131, .unset] [(.ref b133)]))
      refine own_by (fun _ k => XS.dup X133.here hx rfl (hb hby at_471) rfl rfl k) ?_
      show own_Go p e below _ (T133.setTop (mkF m 472 #[vI p0, vI p1, vI p2, vJ q3, .second, vI v1, vR b97, vI (0 : Int32), vI v104, vI z118, vI v120, vI z131, .unset] [(.ref b133), (.ref b133)]))
      refine own_by (fun _ k => XS.aload X133.here hx rfl (hb hby at_472) rfl rfl k) ?_
      have F134 : Exa Z h133 b97 "java/lang/String" := (A97.ext E133)
      have F135 : Fld Z h133 b97 "java/lang/String" "coder" "B" (.int (0 : Int32)) := (C97.ext E133)
      have F136 : Fld Z h133 b97 "java/lang/String" "value" "[B" (.ref t97) := (F97.ext E133)
      have F137 : own_Arf Z h133 t97 kk97 .byte (3 : Int32) (fun i => .int ((own_li [49, 46, 48]) i)) := (V97'.ext E133)
      have F138 : Sta Z h133 "java/lang/String" "COMPACT_STRINGS" "Z" (.int f_CS) := (F98.ext E133)
      obtain ⟨_, _, ⟨T139, L139, k139, n139⟩, -, X139', hSq139, hgr139, ⟨Lc139, hQ139, l139, y139, z139, R139⟩, st139⟩ := X133.specialBackS hx (y := (⟨"com/example/margay/margay/index/LineCounter", "<init>", "(Ljava/lang/String;)V"⟩ : MethodName)) rfl hown (mvT hZ (hwd 3 rfl)) (mvT hZ (hwd 4 rfl)) (mvT hZ (hwd 5 rfl)) (by decide) (backOfSH (W := 1) (rmlcR3 l Z A0 hw [] t97 kk97 (own_li [49, 46, 48]) f_CS b133 b97 (0 : Int32) (0 : Int32) (0 : Int32) h133 n0 Z133 F134 F135 F136 F137 F138 hn_CS A133 F_line_b133 ge_b133 F_column_b133 F_xml11_b133) hZ (hwd 5 rfl) (hwd 2 rfl) (by decide) (by decide) hEL CR133.1) (g := (mkF m 474 #[vI p0, vI p1, vI p2, vJ q3, .second, vI v1, vR b97, vI (0 : Int32), vI v104, vI z118, vI v120, vI z131, .unset] [(.ref b97), (.ref b133), (.ref b133)])) rfl (by rw [hml]; rfl) (Steps.refl _) (a := b133) (argsL := [(.ref b97)]) (rest := [(.ref b133)]) (lenOf pd_3 rfl) rfl (by show 2 * 0 + _ ≤ _; exact Nat.le_of_eq rfl) (hb hby at_474) (fun _ _ => ⟨rfl, e133, (by decide : 3 + 2 ≤ _), (by decide : 20 + 16 ≤ _)⟩)
      dsimp only [Pt.U, Pt.locs, Pt.cells, Pt.slots] at X139' l139 y139 z139 st139 hQ139 hSq139 hgr139 R139
      subst l139 y139 z139
      obtain ⟨X139, hS, hZ, hown⟩ := rebS hS (by rw [e133]; exact hk133) X139' hSq139 hgr139 hZ hown
      obtain ⟨kc139, hkc139⟩ : ∃ z, z = T139.heap.size := ⟨_, rfl⟩
      rw [← hkc139] at hS
      have hk139 : kc139 ≤ T139.heap.size := Nat.le_of_eq hkc139
      have CR139 : CHr Z consts_1 s.vm h0 T139.vm T139.heap := CR133.trans R139
      obtain ⟨o140, rfl, Nq139, Kq139, F141, F142, F143, F144, hp145⟩ := hQ139
      have N139 := Fr.app N130 Nq139
      have K139 : Keep h0 T139.heap [] := K133.trans Kq139 ((allS (Or.inr sz_b133) all0))
      have Z139 : n0 ≤ T139.heap.size := Nat.le_trans Z133 Kq139.1
      refine own_by (fun _ k => st139.trans k) ?_
      show own_Go p e below _ (T139.setTop (mkF m 477 #[vI p0, vI p1, vI p2, vJ q3, .second, vI v1, vR b97, vI (0 : Int32), vI v104, vI z118, vI v120, vI z131, .unset] [(.ref b133)]))
      refine own_by (fun _ k => XS.astore X139.here hx rfl (hb hby at_477) rfl rfl (l' := #[vI p0, vI p1, vI p2, vJ q3, .second, vI v1, vR b97, vI (0 : Int32), vI v104, vI z118, vI v120, vI z131, vR b133]) rfl k) ?_
      show own_Go p e below _ (T139.setTop (mkF m 479 #[vI p0, vI p1, vI p2, vJ q3, .second, vI v1, vR b97, vI (0 : Int32), vI v104, vI z118, vI v120, vI z131, vR b133] []))
      refine own_by (fun _ k => XS.aload X139.here hx rfl (hb hby at_479) rfl rfl k) ?_
      refine own_by (fun _ k => XS.iload X139.here hx rfl (hb hby at_481) rfl k) ?_
      obtain ⟨cq146, kq146, qq146a, qq146b, qq146c⟩ := isOf hZ rfl F141
      obtain ⟨_, _, ⟨T146, L146, k146, n146⟩, -, X146, ⟨Lc146, hQ146, l146, y146, z146⟩, st146⟩ := X139.virtualBack hx (y := (⟨"com/example/margay/margay/index/LineCounter", "endsLine", "(C)Z"⟩ : MethodName)) (z := (⟨"com/example/margay/margay/index/LineCounter", "endsLine", "(C)Z"⟩ : MethodName)) hown (mvT hZ (hwd 28 rfl)) (mvT hZ (hwd 29 rfl)) (notFace_of_selects (args := #[]) (mvT hZ (hwd 31 rfl))) (mvT hZ (hwd 31 rfl)) (mvT hZ (hwd 30 rfl)) (by decide) (backOf (W := 0) (rm4 l Z A0 hw [] b133 v120 o140 T139.heap n0 Z139 F144) hZ (hwd 32 rfl) (hwd 2 rfl) (by decide) (by decide)) qq146a qq146c (g := (mkF m 483 #[vI p0, vI p1, vI p2, vJ q3, .second, vI v1, vR b97, vI (0 : Int32), vI v104, vI z118, vI v120, vI z131, vR b133] [(.int v120), (.ref b133)])) rfl (by rw [hml]; rfl) (Steps.refl _) (argsL := [(.int v120)]) (rest := []) (lenOf pd_28 rfl) rfl (by show 2 * 0 + _ ≤ _; exact Nat.le_of_eq rfl) (hb hby at_483) (fun _ _ => ⟨rfl, rfl, (by decide : 5 + 0 ≤ _), (by decide : 36 + 0 ≤ _)⟩)
      dsimp only [Pt.U, Pt.locs, Pt.cells, Pt.slots] at X146 l146 y146 z146 st146 hQ146
      subst l146 y146 z146
      obtain ⟨o147, rfl, Nq146, eq146, hp148⟩ := hQ146
      have N146 := Fr.app N139 Nq146
      refine own_by (fun _ k => st146.trans k) ?_
      show own_Go p e below _ (T146.setTop (mkF m 486 #[vI p0, vI p1, vI p2, vJ q3, .second, vI v1, vR b97, vI (0 : Int32), vI v104, vI z118, vI v120, vI z131, vR b133] [(.int o147)]))
      refine own_by (fun _ k => XS.iload X146.here hx rfl (hb hby at_486) rfl k) ?_
      by_cases c149 : o147 = z131
      ·skip
       refine own_by (fun _ k => XS.icmpNo X146.here hx rfl (hb hby at_488) rfl (teq c149).2 k) ?_
       show own_Go p e below _ (T146.setTop (mkF m 491 #[vI p0, vI p1, vI p2, vJ q3, .second, vI v1, vR b97, vI (0 : Int32), vI v104, vI z118, vI v120, vI z131, vR b133] []))
       refine own_by (fun _ k => XS.iconst X146.here hx rfl (hb hby at_491) k) ?_
       refine own_by (fun _ k => XS.goto X146.here hx rfl (pc0 := 492) (pc' := 496) rfl (hb hby at_492) (by decide) (by decide) k) ?_
       show own_Go p e below _ (T146.setTop (mkF m 496 #[vI p0, vI p1, vI p2, vJ q3, .second, vI v1, vR b97, vI (0 : Int32), vI v104, vI z118, vI v120, vI z131, vR b133] [(.int (1 : Int32))]))
       exact own_retNW X146 hx hS hk139 hZ hEL hh CR139 (t := .boolean) Bd.returns (by simp) (hb hby at_496) hlk eq146 ⟨rfl, N146⟩ (by decide) (by decide)
      ·skip
       refine own_by (fun _ k => XS.icmpYes X146.here hx rfl (pc0 := 488) (pc' := 495) rfl (hb hby at_488) rfl (feq c149).2 (by decide) (by decide) k) ?_
       show own_Go p e below _ (T146.setTop (mkF m 495 #[vI p0, vI p1, vI p2, vJ q3, .second, vI v1, vR b97, vI (0 : Int32), vI v104, vI z118, vI v120, vI z131, vR b133] []))
       refine own_by (fun _ k => XS.iconst X146.here hx rfl (hb hby at_495) k) ?_
       exact own_retNW X146 hx hS hk139 hZ hEL hh CR139 (t := .boolean) Bd.returns (by simp) (hb hby at_496) hlk eq146 ⟨((ob_0_25 f_CS f_SF p0 p1 p2 v1 v104 z118 v120 z131 o140 o147 hn_CS hr_f_SF hv1 c2 c42 c96 hv104 hj119 hv120 hj132 hp145 hp148 c149)).elim, N146⟩ (by decide) (by decide)
     by_cases c121 : z118 = (10 : Int32)
     ·skip
      refine own_by (fun t q => X115.lookupswitchHit hx (g := (mkF m 410 #[vI p0, vI p1, vI p2, vJ q3, .second, vI v1, vR b97, vI (0 : Int32), vI v104, vI z118, vI v120, .unset, .unset] [(.int z118)])) rfl (k := z118) rfl (hb hby at_410) (by decide) (a := 10) (off := 42) (by rw [c121]; rfl) (show (0 : Int) ≤ (410 : Int) + 42 by decide) t q) ?_
      show own_Go p e below _ (T113.setTop (mkF m 452 #[vI p0, vI p1, vI p2, vJ q3, .second, vI v1, vR b97, vI (0 : Int32), vI v104, vI z118, vI v120, .unset, .unset] []))
      refine own_by (fun _ k => XS.iconst X115.here hx rfl (hb hby at_452) k) ?_
      refine own_by (fun _ k => XS.istore X115.here hx rfl (hb hby at_453) rfl (l' := #[vI p0, vI p1, vI p2, vJ q3, .second, vI v1, vR b97, vI (0 : Int32), vI v104, vI z118, vI v120, vI (1 : Int32), .unset]) rfl k) ?_
      show own_Go p e below _ (T113.setTop (mkF m 455 #[vI p0, vI p1, vI p2, vJ q3, .second, vI v1, vR b97, vI (0 : Int32), vI v104, vI z118, vI v120, vI (1 : Int32), .unset] []))
      refine own_by (fun _ k => XS.goto X115.here hx rfl (pc0 := 455) (pc' := 468) rfl (hb hby at_455) (by decide) (by decide) k) ?_
      show own_Go p e below _ (T113.setTop (mkF m 468 #[vI p0, vI p1, vI p2, vJ q3, .second, vI v1, vR b97, vI (0 : Int32), vI v104, vI z118, vI v120, vI (1 : Int32), .unset] []))
      exact J125 _ _ (1 : Int32) X115 e116 N117 (Or.inl ⟨c121, rfl⟩)
     ·skip
      by_cases c122 : z118 = (13 : Int32)
      ·skip
       refine own_by (fun t q => X115.lookupswitchHit hx (g := (mkF m 410 #[vI p0, vI p1, vI p2, vJ q3, .second, vI v1, vR b97, vI (0 : Int32), vI v104, vI z118, vI v120, .unset, .unset] [(.int z118)])) rfl (k := z118) rfl (hb hby at_410) (by decide) (a := 13) (off := 42) (by rw [c122]; rfl) (show (0 : Int) ≤ (410 : Int) + 42 by decide) t q) ?_
       show own_Go p e below _ (T113.setTop (mkF m 452 #[vI p0, vI p1, vI p2, vJ q3, .second, vI v1, vR b97, vI (0 : Int32), vI v104, vI z118, vI v120, .unset, .unset] []))
       refine own_by (fun _ k => XS.iconst X115.here hx rfl (hb hby at_452) k) ?_
       refine own_by (fun _ k => XS.istore X115.here hx rfl (hb hby at_453) rfl (l' := #[vI p0, vI p1, vI p2, vJ q3, .second, vI v1, vR b97, vI (0 : Int32), vI v104, vI z118, vI v120, vI (1 : Int32), .unset]) rfl k) ?_
       show own_Go p e below _ (T113.setTop (mkF m 455 #[vI p0, vI p1, vI p2, vJ q3, .second, vI v1, vR b97, vI (0 : Int32), vI v104, vI z118, vI v120, vI (1 : Int32), .unset] []))
       refine own_by (fun _ k => XS.goto X115.here hx rfl (pc0 := 455) (pc' := 468) rfl (hb hby at_455) (by decide) (by decide) k) ?_
       show own_Go p e below _ (T113.setTop (mkF m 468 #[vI p0, vI p1, vI p2, vJ q3, .second, vI v1, vR b97, vI (0 : Int32), vI v104, vI z118, vI v120, vI (1 : Int32), .unset] []))
       exact J125 _ _ (1 : Int32) X115 e116 N117 (Or.inr (Or.inl ⟨c121, c122, rfl⟩))
      ·skip
       by_cases c123 : z118 = (133 : Int32)
       ·skip
        refine own_by (fun t q => X115.lookupswitchHit hx (g := (mkF m 410 #[vI p0, vI p1, vI p2, vJ q3, .second, vI v1, vR b97, vI (0 : Int32), vI v104, vI z118, vI v120, .unset, .unset] [(.int z118)])) rfl (k := z118) rfl (hb hby at_410) (by decide) (a := 133) (off := 48) (by rw [c123]; rfl) (show (0 : Int) ≤ (410 : Int) + 48 by decide) t q) ?_
        show own_Go p e below _ (T113.setTop (mkF m 458 #[vI p0, vI p1, vI p2, vJ q3, .second, vI v1, vR b97, vI (0 : Int32), vI v104, vI z118, vI v120, .unset, .unset] []))
        refine own_by (fun _ k => XS.iload X115.here hx rfl (hb hby at_458) rfl k) ?_
        refine own_by (fun _ k => XS.istore X115.here hx rfl (hb hby at_460) rfl (l' := #[vI p0, vI p1, vI p2, vJ q3, .second, vI v1, vR b97, vI (0 : Int32), vI v104, vI z118, vI v120, vI (0 : Int32), .unset]) rfl k) ?_
        show own_Go p e below _ (T113.setTop (mkF m 462 #[vI p0, vI p1, vI p2, vJ q3, .second, vI v1, vR b97, vI (0 : Int32), vI v104, vI z118, vI v120, vI (0 : Int32), .unset] []))
        refine own_by (fun _ k => XS.goto X115.here hx rfl (pc0 := 462) (pc' := 468) rfl (hb hby at_462) (by decide) (by decide) k) ?_
        show own_Go p e below _ (T113.setTop (mkF m 468 #[vI p0, vI p1, vI p2, vJ q3, .second, vI v1, vR b97, vI (0 : Int32), vI v104, vI z118, vI v120, vI (0 : Int32), .unset] []))
        exact J125 _ _ (0 : Int32) X115 e116 N117 (Or.inr (Or.inr (Or.inl ⟨c121, c122, c123, rfl⟩)))
       ·skip
        by_cases c124 : z118 = (8232 : Int32)
        ·skip
         refine own_by (fun t q => X115.lookupswitchHit hx (g := (mkF m 410 #[vI p0, vI p1, vI p2, vJ q3, .second, vI v1, vR b97, vI (0 : Int32), vI v104, vI z118, vI v120, .unset, .unset] [(.int z118)])) rfl (k := z118) rfl (hb hby at_410) (by decide) (a := 8232) (off := 48) (by rw [c124]; rfl) (show (0 : Int) ≤ (410 : Int) + 48 by decide) t q) ?_
         show own_Go p e below _ (T113.setTop (mkF m 458 #[vI p0, vI p1, vI p2, vJ q3, .second, vI v1, vR b97, vI (0 : Int32), vI v104, vI z118, vI v120, .unset, .unset] []))
         refine own_by (fun _ k => XS.iload X115.here hx rfl (hb hby at_458) rfl k) ?_
         refine own_by (fun _ k => XS.istore X115.here hx rfl (hb hby at_460) rfl (l' := #[vI p0, vI p1, vI p2, vJ q3, .second, vI v1, vR b97, vI (0 : Int32), vI v104, vI z118, vI v120, vI (0 : Int32), .unset]) rfl k) ?_
         show own_Go p e below _ (T113.setTop (mkF m 462 #[vI p0, vI p1, vI p2, vJ q3, .second, vI v1, vR b97, vI (0 : Int32), vI v104, vI z118, vI v120, vI (0 : Int32), .unset] []))
         refine own_by (fun _ k => XS.goto X115.here hx rfl (pc0 := 462) (pc' := 468) rfl (hb hby at_462) (by decide) (by decide) k) ?_
         show own_Go p e below _ (T113.setTop (mkF m 468 #[vI p0, vI p1, vI p2, vJ q3, .second, vI v1, vR b97, vI (0 : Int32), vI v104, vI z118, vI v120, vI (0 : Int32), .unset] []))
         exact J125 _ _ (0 : Int32) X115 e116 N117 (Or.inr (Or.inr (Or.inr (Or.inl ⟨c121, c122, c123, c124, rfl⟩))))
        ·skip
         refine own_by (fun t q => X115.lookupswitchMiss hx (g := (mkF m 410 #[vI p0, vI p1, vI p2, vJ q3, .second, vI v1, vR b97, vI (0 : Int32), vI v104, vI z118, vI v120, .unset, .unset] [(.int z118)])) rfl (k := z118) rfl (hb hby at_410) (by decide) (by simp [own_swn z118 (a := (10 : Int32)) (A := 10) rfl c121, own_swn z118 (a := (13 : Int32)) (A := 13) rfl c122, own_swn z118 (a := (133 : Int32)) (A := 133) rfl c123, own_swn z118 (a := (8232 : Int32)) (A := 8232) rfl c124]) (show (0 : Int) ≤ (410 : Int) + 55 by decide) t q) ?_
         show own_Go p e below _ (T113.setTop (mkF m 465 #[vI p0, vI p1, vI p2, vJ q3, .second, vI v1, vR b97, vI (0 : Int32), vI v104, vI z118, vI v120, .unset, .unset] []))
         refine own_by (fun _ k => XS.iconst X115.here hx rfl (hb hby at_465) k) ?_
         refine own_by (fun _ k => XS.istore X115.here hx rfl (hb hby at_466) rfl (l' := #[vI p0, vI p1, vI p2, vJ q3, .second, vI v1, vR b97, vI (0 : Int32), vI v104, vI z118, vI v120, vI (0 : Int32), .unset]) rfl k) ?_
         show own_Go p e below _ (T113.setTop (mkF m 468 #[vI p0, vI p1, vI p2, vJ q3, .second, vI v1, vR b97, vI (0 : Int32), vI v104, vI z118, vI v120, vI (0 : Int32), .unset] []))
         exact J125 _ _ (0 : Int32) X115 e116 N117 (Or.inr (Or.inr (Or.inr (Or.inr (⟨c121, c122, c123, c124, rfl⟩)))))
    by_cases c105 : v104 = (0 : Int32)
    ·skip
     refine own_by (fun _ k => XS.ifNo X103.here hx rfl (hb hby at_319) rfl ((if0 _ _).trans (teq c105).2) k) ?_
     show own_Go p e below _ (T103.setTop (mkF m 322 #[vI p0, vI p1, vI p2, vJ q3, .second, vI v1, vR b97, vI (0 : Int32), vI v104, .unset, .unset, .unset, .unset] []))
     refine own_by (fun _ k => XS.bipush X103.here hx rfl (hb hby at_322) k) ?_
     refine own_by (fun _ k => XS.istore X103.here hx rfl (hb hby at_324) rfl (l' := #[vI p0, vI p1, vI p2, vJ q3, .second, vI v1, vR b97, vI (0 : Int32), vI v104, vI (13 : Int32), .unset, .unset, .unset]) rfl k) ?_
     show own_Go p e below _ (T103.setTop (mkF m 326 #[vI p0, vI p1, vI p2, vJ q3, .second, vI v1, vR b97, vI (0 : Int32), vI v104, vI (13 : Int32), .unset, .unset, .unset] []))
     refine own_by (fun _ k => XS.goto X103.here hx rfl (pc0 := 326) (pc' := 403) rfl (hb hby at_326) (by decide) (by decide) k) ?_
     show own_Go p e below _ (T103.setTop (mkF m 403 #[vI p0, vI p1, vI p2, vJ q3, .second, vI v1, vR b97, vI (0 : Int32), vI v104, vI (13 : Int32), .unset, .unset, .unset] []))
     exact J112 _ _ (13 : Int32) X103 eq103 N103 (Or.inl ⟨c105, rfl⟩)
    ·skip
     refine own_by (fun _ k => XS.ifYes X103.here hx rfl (pc0 := 319) (pc' := 329) rfl (hb hby at_319) rfl ((if0 _ _).trans (feq c105).2) (by decide) (by decide) k) ?_
     show own_Go p e below _ (T103.setTop (mkF m 329 #[vI p0, vI p1, vI p2, vJ q3, .second, vI v1, vR b97, vI (0 : Int32), vI v104, .unset, .unset, .unset, .unset] []))
     refine own_by (fun _ k => XS.iload X103.here hx rfl (hb hby at_329) rfl k) ?_
     refine own_by (fun _ k => XS.iconst X103.here hx rfl (hb hby at_331) k) ?_
     by_cases c106 : v104 = (1 : Int32)
     ·skip
      refine own_by (fun _ k => XS.icmpNo X103.here hx rfl (hb hby at_332) rfl (teq c106).2 k) ?_
      show own_Go p e below _ (T103.setTop (mkF m 335 #[vI p0, vI p1, vI p2, vJ q3, .second, vI v1, vR b97, vI (0 : Int32), vI v104, .unset, .unset, .unset, .unset] []))
      refine own_by (fun _ k => XS.bipush X103.here hx rfl (hb hby at_335) k) ?_
      refine own_by (fun _ k => XS.istore X103.here hx rfl (hb hby at_337) rfl (l' := #[vI p0, vI p1, vI p2, vJ q3, .second, vI v1, vR b97, vI (0 : Int32), vI v104, vI (10 : Int32), .unset, .unset, .unset]) rfl k) ?_
      show own_Go p e below _ (T103.setTop (mkF m 339 #[vI p0, vI p1, vI p2, vJ q3, .second, vI v1, vR b97, vI (0 : Int32), vI v104, vI (10 : Int32), .unset, .unset, .unset] []))
      refine own_by (fun _ k => XS.goto X103.here hx rfl (pc0 := 339) (pc' := 403) rfl (hb hby at_339) (by decide) (by decide) k) ?_
      show own_Go p e below _ (T103.setTop (mkF m 403 #[vI p0, vI p1, vI p2, vJ q3, .second, vI v1, vR b97, vI (0 : Int32), vI v104, vI (10 : Int32), .unset, .unset, .unset] []))
      exact J112 _ _ (10 : Int32) X103 eq103 N103 (Or.inr (Or.inl ⟨c105, c106, rfl⟩))
     ·skip
      refine own_by (fun _ k => XS.icmpYes X103.here hx rfl (pc0 := 332) (pc' := 342) rfl (hb hby at_332) rfl (feq c106).2 (by decide) (by decide) k) ?_
      show own_Go p e below _ (T103.setTop (mkF m 342 #[vI p0, vI p1, vI p2, vJ q3, .second, vI v1, vR b97, vI (0 : Int32), vI v104, .unset, .unset, .unset, .unset] []))
      refine own_by (fun _ k => XS.iload X103.here hx rfl (hb hby at_342) rfl k) ?_
      refine own_by (fun _ k => XS.iconst X103.here hx rfl (hb hby at_344) k) ?_
      by_cases c107 : v104 = (2 : Int32)
      ·skip
       refine own_by (fun _ k => XS.icmpNo X103.here hx rfl (hb hby at_345) rfl (teq c107).2 k) ?_
       show own_Go p e below _ (T103.setTop (mkF m 348 #[vI p0, vI p1, vI p2, vJ q3, .second, vI v1, vR b97, vI (0 : Int32), vI v104, .unset, .unset, .unset, .unset] []))
       refine own_by (fun _ k => XS.sipush X103.here hx rfl (hb hby at_348) k) ?_
       refine own_by (fun _ k => XS.istore X103.here hx rfl (hb hby at_351) rfl (l' := #[vI p0, vI p1, vI p2, vJ q3, .second, vI v1, vR b97, vI (0 : Int32), vI v104, vI (133 : Int32), .unset, .unset, .unset]) rfl k) ?_
       show own_Go p e below _ (T103.setTop (mkF m 353 #[vI p0, vI p1, vI p2, vJ q3, .second, vI v1, vR b97, vI (0 : Int32), vI v104, vI (133 : Int32), .unset, .unset, .unset] []))
       refine own_by (fun _ k => XS.goto X103.here hx rfl (pc0 := 353) (pc' := 403) rfl (hb hby at_353) (by decide) (by decide) k) ?_
       show own_Go p e below _ (T103.setTop (mkF m 403 #[vI p0, vI p1, vI p2, vJ q3, .second, vI v1, vR b97, vI (0 : Int32), vI v104, vI (133 : Int32), .unset, .unset, .unset] []))
       exact J112 _ _ (133 : Int32) X103 eq103 N103 (Or.inr (Or.inr (Or.inl ⟨c105, c106, c107, rfl⟩)))
      ·skip
       refine own_by (fun _ k => XS.icmpYes X103.here hx rfl (pc0 := 345) (pc' := 356) rfl (hb hby at_345) rfl (feq c107).2 (by decide) (by decide) k) ?_
       show own_Go p e below _ (T103.setTop (mkF m 356 #[vI p0, vI p1, vI p2, vJ q3, .second, vI v1, vR b97, vI (0 : Int32), vI v104, .unset, .unset, .unset, .unset] []))
       refine own_by (fun _ k => XS.iload X103.here hx rfl (hb hby at_356) rfl k) ?_
       refine own_by (fun _ k => XS.iconst X103.here hx rfl (hb hby at_358) k) ?_
       by_cases c108 : v104 = (3 : Int32)
       ·skip
        refine own_by (fun _ k => XS.icmpNo X103.here hx rfl (hb hby at_359) rfl (teq c108).2 k) ?_
        show own_Go p e below _ (T103.setTop (mkF m 362 #[vI p0, vI p1, vI p2, vJ q3, .second, vI v1, vR b97, vI (0 : Int32), vI v104, .unset, .unset, .unset, .unset] []))
        refine own_by (fun _ k => XS.sipush X103.here hx rfl (hb hby at_362) k) ?_
        refine own_by (fun _ k => XS.istore X103.here hx rfl (hb hby at_365) rfl (l' := #[vI p0, vI p1, vI p2, vJ q3, .second, vI v1, vR b97, vI (0 : Int32), vI v104, vI (8232 : Int32), .unset, .unset, .unset]) rfl k) ?_
        show own_Go p e below _ (T103.setTop (mkF m 367 #[vI p0, vI p1, vI p2, vJ q3, .second, vI v1, vR b97, vI (0 : Int32), vI v104, vI (8232 : Int32), .unset, .unset, .unset] []))
        refine own_by (fun _ k => XS.goto X103.here hx rfl (pc0 := 367) (pc' := 403) rfl (hb hby at_367) (by decide) (by decide) k) ?_
        show own_Go p e below _ (T103.setTop (mkF m 403 #[vI p0, vI p1, vI p2, vJ q3, .second, vI v1, vR b97, vI (0 : Int32), vI v104, vI (8232 : Int32), .unset, .unset, .unset] []))
        exact J112 _ _ (8232 : Int32) X103 eq103 N103 (Or.inr (Or.inr (Or.inr (Or.inl ⟨c105, c106, c107, c108, rfl⟩))))
       ·skip
        refine own_by (fun _ k => XS.icmpYes X103.here hx rfl (pc0 := 359) (pc' := 370) rfl (hb hby at_359) rfl (feq c108).2 (by decide) (by decide) k) ?_
        show own_Go p e below _ (T103.setTop (mkF m 370 #[vI p0, vI p1, vI p2, vJ q3, .second, vI v1, vR b97, vI (0 : Int32), vI v104, .unset, .unset, .unset, .unset] []))
        refine own_by (fun _ k => XS.iload X103.here hx rfl (hb hby at_370) rfl k) ?_
        refine own_by (fun _ k => XS.iconst X103.here hx rfl (hb hby at_372) k) ?_
        by_cases c109 : v104 = (4 : Int32)
        ·skip
         refine own_by (fun _ k => XS.icmpNo X103.here hx rfl (hb hby at_373) rfl (teq c109).2 k) ?_
         show own_Go p e below _ (T103.setTop (mkF m 376 #[vI p0, vI p1, vI p2, vJ q3, .second, vI v1, vR b97, vI (0 : Int32), vI v104, .unset, .unset, .unset, .unset] []))
         refine own_by (fun _ k => XS.sipush X103.here hx rfl (hb hby at_376) k) ?_
         refine own_by (fun _ k => XS.istore X103.here hx rfl (hb hby at_379) rfl (l' := #[vI p0, vI p1, vI p2, vJ q3, .second, vI v1, vR b97, vI (0 : Int32), vI v104, vI (8233 : Int32), .unset, .unset, .unset]) rfl k) ?_
         show own_Go p e below _ (T103.setTop (mkF m 381 #[vI p0, vI p1, vI p2, vJ q3, .second, vI v1, vR b97, vI (0 : Int32), vI v104, vI (8233 : Int32), .unset, .unset, .unset] []))
         refine own_by (fun _ k => XS.goto X103.here hx rfl (pc0 := 381) (pc' := 403) rfl (hb hby at_381) (by decide) (by decide) k) ?_
         show own_Go p e below _ (T103.setTop (mkF m 403 #[vI p0, vI p1, vI p2, vJ q3, .second, vI v1, vR b97, vI (0 : Int32), vI v104, vI (8233 : Int32), .unset, .unset, .unset] []))
         exact J112 _ _ (8233 : Int32) X103 eq103 N103 (Or.inr (Or.inr (Or.inr (Or.inr (Or.inl ⟨c105, c106, c107, c108, c109, rfl⟩)))))
        ·skip
         refine own_by (fun _ k => XS.icmpYes X103.here hx rfl (pc0 := 373) (pc' := 384) rfl (hb hby at_373) rfl (feq c109).2 (by decide) (by decide) k) ?_
         show own_Go p e below _ (T103.setTop (mkF m 384 #[vI p0, vI p1, vI p2, vJ q3, .second, vI v1, vR b97, vI (0 : Int32), vI v104, .unset, .unset, .unset, .unset] []))
         refine own_by (fun _ k => XS.iload X103.here hx rfl (hb hby at_384) rfl k) ?_
         refine own_by (fun _ k => XS.iconst X103.here hx rfl (hb hby at_386) k) ?_
         by_cases c110 : v104 = (5 : Int32)
         ·skip
          refine own_by (fun _ k => XS.icmpNo X103.here hx rfl (hb hby at_387) rfl (teq c110).2 k) ?_
          show own_Go p e below _ (T103.setTop (mkF m 390 #[vI p0, vI p1, vI p2, vJ q3, .second, vI v1, vR b97, vI (0 : Int32), vI v104, .unset, .unset, .unset, .unset] []))
          refine own_by (fun _ k => XS.bipush X103.here hx rfl (hb hby at_390) k) ?_
          refine own_by (fun _ k => XS.istore X103.here hx rfl (hb hby at_392) rfl (l' := #[vI p0, vI p1, vI p2, vJ q3, .second, vI v1, vR b97, vI (0 : Int32), vI v104, vI (12 : Int32), .unset, .unset, .unset]) rfl k) ?_
          show own_Go p e below _ (T103.setTop (mkF m 394 #[vI p0, vI p1, vI p2, vJ q3, .second, vI v1, vR b97, vI (0 : Int32), vI v104, vI (12 : Int32), .unset, .unset, .unset] []))
          refine own_by (fun _ k => XS.goto X103.here hx rfl (pc0 := 394) (pc' := 403) rfl (hb hby at_394) (by decide) (by decide) k) ?_
          show own_Go p e below _ (T103.setTop (mkF m 403 #[vI p0, vI p1, vI p2, vJ q3, .second, vI v1, vR b97, vI (0 : Int32), vI v104, vI (12 : Int32), .unset, .unset, .unset] []))
          exact J112 _ _ (12 : Int32) X103 eq103 N103 (Or.inr (Or.inr (Or.inr (Or.inr (Or.inr (Or.inl ⟨c105, c106, c107, c108, c109, c110, rfl⟩))))))
         ·skip
          refine own_by (fun _ k => XS.icmpYes X103.here hx rfl (pc0 := 387) (pc' := 397) rfl (hb hby at_387) rfl (feq c110).2 (by decide) (by decide) k) ?_
          show own_Go p e below _ (T103.setTop (mkF m 397 #[vI p0, vI p1, vI p2, vJ q3, .second, vI v1, vR b97, vI (0 : Int32), vI v104, .unset, .unset, .unset, .unset] []))
          refine own_by (fun _ k => XS.iloadN X103.here hx rfl (hb hby at_397) rfl k) ?_
          refine own_by (fun t k => X103.ldcInt hx hown (mvT hZ (hwd 99 rfl)) (g := (mkF m 398 #[vI p0, vI p1, vI p2, vJ q3, .second, vI v1, vR b97, vI (0 : Int32), vI v104, .unset, .unset, .unset, .unset] [(.int p2)])) rfl (hb hby at_398) _ k) ?_
          show own_Go p e below _ (T103.setTop (mkF m 400 #[vI p0, vI p1, vI p2, vJ q3, .second, vI v1, vR b97, vI (0 : Int32), vI v104, .unset, .unset, .unset, .unset] [(.int (65535 : Int32)), (.int p2)]))
          refine own_by (fun _ k => XS.iand X103.here hx rfl (hb hby at_400) rfl k) ?_
          show own_Go p e below _ (T103.setTop (mkF m 401 #[vI p0, vI p1, vI p2, vJ q3, .second, vI v1, vR b97, vI (0 : Int32), vI v104, .unset, .unset, .unset, .unset] [(.int (p2 &&& (65535 : Int32)))]))
          refine own_by (fun _ k => XS.istore X103.here hx rfl (hb hby at_401) rfl (l' := #[vI p0, vI p1, vI p2, vJ q3, .second, vI v1, vR b97, vI (0 : Int32), vI v104, vI (p2 &&& (65535 : Int32)), .unset, .unset, .unset]) rfl k) ?_
          show own_Go p e below _ (T103.setTop (mkF m 403 #[vI p0, vI p1, vI p2, vJ q3, .second, vI v1, vR b97, vI (0 : Int32), vI v104, vI (p2 &&& (65535 : Int32)), .unset, .unset, .unset] []))
          generalize hv111 : (p2 &&& (65535 : Int32)) = v111
          show own_Go p e below _ (T103.setTop (mkF m 403 #[vI p0, vI p1, vI p2, vJ q3, .second, vI v1, vR b97, vI (0 : Int32), vI v104, vI v111, .unset, .unset, .unset] []))
          exact J112 _ _ v111 X103 eq103 N103 (Or.inr (Or.inr (Or.inr (Or.inr (Or.inr (Or.inr (⟨v111, c105, c106, c107, c108, c109, c110, hv111, rfl⟩)))))))
   ·skip
    refine own_by (fun _ k => XS.icmpYes X0.here hx rfl (pc0 := 33) (pc' := 43) rfl (hb hby at_33) rfl (feq c96).2 (by decide) (by decide) k) ?_
    show own_Go p e below _ (s₁.setTop (mkF m 43 #[vI p0, vI p1, vI p2, vJ q3, .second, vI v1, .unset, .unset, .unset, .unset, .unset, .unset, .unset] []))
    refine own_by (fun _ k => XS.iload X0.here hx rfl (hb hby at_43) rfl k) ?_
    refine own_by (fun _ k => XS.iconst X0.here hx rfl (hb hby at_45) k) ?_
    by_cases c150 : v1 = (3 : Int32)
    ·skip
     refine own_by (fun _ k => XS.icmpNo X0.here hx rfl (hb hby at_46) rfl (teq c150).2 k) ?_
     show own_Go p e below _ (s₁.setTop (mkF m 49 #[vI p0, vI p1, vI p2, vJ q3, .second, vI v1, .unset, .unset, .unset, .unset, .unset, .unset, .unset] []))
     obtain ⟨b151, T151, h151, kc151, t151, kk151, X151, e151, E151, hS, hk151, hZ, hown, A151, C151, F151, V151, lt151, ltb151, R151, Li151, -, st151⟩ := ldcCH X0 hx hZ hown (hwd 98 rfl) hwS e0 hS hk0 hEL (by decide) CR0.1 (vs := ([] : List Int32).map Value.int) (z := (0 : Int32)) ⟨by decide, by decide⟩ (by decide) (by decide) (g := (mkF m 49 #[vI p0, vI p1, vI p2, vJ q3, .second, vI v1, .unset, .unset, .unset, .unset, .unset, .unset, .unset] [])) rfl (hb hby at_49) (n := 0) (by decide) (by decide) (by decide) (by decide)
     have V151' : own_Arf Z h151 t151 kk151 .byte (0 : Int32) (fun i => .int ((own_li []) i)) := own_arfLi V151
     have CR151 : CHr Z consts_1 s.vm h0 T151.vm h151 := CR0.trans R151
     have K151 : Keep h0 h151 [] := (Keep.refl h0 []).ext E151
     have Z151 : n0 ≤ h151.size := Nat.le_trans Z0 E151.1
     refine own_by st151 ?_
     show own_Go p e below _ (T151.setTop (mkF m 51 #[vI p0, vI p1, vI p2, vJ q3, .second, vI v1, .unset, .unset, .unset, .unset, .unset, .unset, .unset] [(.ref b151)]))
     refine own_by (fun _ k => XS.astore X151.here hx rfl (hb hby at_51) rfl rfl (l' := #[vI p0, vI p1, vI p2, vJ q3, .second, vI v1, vR b151, .unset, .unset, .unset, .unset, .unset, .unset]) rfl k) ?_
     show own_Go p e below _ (T151.setTop (mkF m 53 #[vI p0, vI p1, vI p2, vJ q3, .second, vI v1, vR b151, .unset, .unset, .unset, .unset, .unset, .unset] []))
     refine own_by (fun _ k => XS.goto X151.here hx rfl (pc0 := 53) (pc' := 257) rfl (hb hby at_53) (by decide) (by decide) k) ?_
     show own_Go p e below _ (T151.setTop (mkF m 257 #[vI p0, vI p1, vI p2, vJ q3, .second, vI v1, vR b151, .unset, .unset, .unset, .unset, .unset, .unset] []))
     refine own_by (fun _ k => XS.aload X151.here hx rfl (hb hby at_257) rfl rfl k) ?_
     refine own_by (fun _ k => XS.ifnullNo X151.here hx rfl (hb hby at_259) rfl k) ?_
     show own_Go p e below _ (T151.setTop (mkF m 262 #[vI p0, vI p1, vI p2, vJ q3, .second, vI v1, vR b151, .unset, .unset, .unset, .unset, .unset, .unset] []))
     refine own_by (fun _ k => XS.aload X151.here hx rfl (hb hby at_262) rfl rfl k) ?_
     have F152 : Sta Z h151 "java/lang/String" "COMPACT_STRINGS" "Z" (.int f_CS) := (P_S_CS.ext E151)
     obtain ⟨cq153, kq153, qq153a, qq153b, qq153c⟩ := isOf hZ e151 A151
     obtain ⟨_, _, ⟨T153, L153, k153, n153⟩, -, X153, ⟨Lc153, hQ153, l153, y153, z153⟩, st153⟩ := X151.virtualBack hx (y := (⟨"java/lang/String", "length", "()I"⟩ : MethodName)) (z := (⟨"java/lang/String", "length", "()I"⟩ : MethodName)) hown (mvT hZ (hwd 61 rfl)) (mvT hZ (hwd 62 rfl)) (notFace_of_selects (args := #[]) (mvT hZ (hwd 64 rfl))) (mvT hZ (hwd 64 rfl)) (mvT hZ (hwd 63 rfl)) (by decide) (backOf (W := 0) (rmlen0 l Z A0 hw [] t151 kk151 (own_li []) f_CS b151 h151 n0 Z151 A151 C151 F151 V151' F152 hn_CS) hZ (hwd 65 rfl) (hwd 14 rfl) (by decide) (by decide)) qq153a qq153c (g := (mkF m 264 #[vI p0, vI p1, vI p2, vJ q3, .second, vI v1, vR b151, .unset, .unset, .unset, .unset, .unset, .unset] [(.ref b151)])) rfl (by rw [hml]; rfl) (Steps.refl _) (argsL := []) (rest := []) (lenOf pd_61 rfl) rfl (by show 2 * 0 + _ ≤ _; exact Nat.le_of_eq rfl) (hb hby at_264) (fun _ _ => ⟨rfl, e151, (by decide : 2 + 0 ≤ _), (by decide : 4 + 0 ≤ _)⟩)
     dsimp only [Pt.U, Pt.locs, Pt.cells, Pt.slots] at X153 l153 y153 z153 st153 hQ153
     subst l153 y153 z153
     obtain ⟨rfl, Nq153, eq153⟩ := hQ153
     have N153 := Fr.app N0 Nq153
     refine own_by (fun _ k => st153.trans k) ?_
     show own_Go p e below _ (T153.setTop (mkF m 267 #[vI p0, vI p1, vI p2, vJ q3, .second, vI v1, vR b151, .unset, .unset, .unset, .unset, .unset, .unset] [(.int (0 : Int32))]))
     refine own_by (fun _ k => XS.iconst X153.here hx rfl (hb hby at_267) k) ?_
     refine own_by (fun _ k => XS.icmpYes X153.here hx rfl (pc0 := 268) (pc' := 308) rfl (hb hby at_268) rfl (feq (by decide : ¬ ((0 : Int32) = (3 : Int32)))).2 (by decide) (by decide) k) ?_
     show own_Go p e below _ (T153.setTop (mkF m 308 #[vI p0, vI p1, vI p2, vJ q3, .second, vI v1, vR b151, .unset, .unset, .unset, .unset, .unset, .unset] []))
     refine own_by (fun _ k => XS.iconst X153.here hx rfl (hb hby at_308) k) ?_
     refine own_by (fun _ k => XS.istore X153.here hx rfl (hb hby at_309) rfl (l' := #[vI p0, vI p1, vI p2, vJ q3, .second, vI v1, vR b151, vI (0 : Int32), .unset, .unset, .unset, .unset, .unset]) rfl k) ?_
     show own_Go p e below _ (T153.setTop (mkF m 311 #[vI p0, vI p1, vI p2, vJ q3, .second, vI v1, vR b151, vI (0 : Int32), .unset, .unset, .unset, .unset, .unset] []))
     refine own_by (fun _ k => XS.iloadN X153.here hx rfl (hb hby at_311) rfl k) ?_
     refine own_by (fun _ k => XS.bipush X153.here hx rfl (hb hby at_312) k) ?_
     refine own_by (fun _ k => XS.iand X153.here hx rfl (hb hby at_314) rfl k) ?_
     show own_Go p e below _ (T153.setTop (mkF m 315 #[vI p0, vI p1, vI p2, vJ q3, .second, vI v1, vR b151, vI (0 : Int32), .unset, .unset, .unset, .unset, .unset] [(.int (p1 &&& (7 : Int32)))]))
     refine own_by (fun _ k => XS.istore X153.here hx rfl (hb hby at_315) rfl (l' := #[vI p0, vI p1, vI p2, vJ q3, .second, vI v1, vR b151, vI (0 : Int32), vI (p1 &&& (7 : Int32)), .unset, .unset, .unset, .unset]) rfl k) ?_
     show own_Go p e below _ (T153.setTop (mkF m 317 #[vI p0, vI p1, vI p2, vJ q3, .second, vI v1, vR b151, vI (0 : Int32), vI (p1 &&& (7 : Int32)), .unset, .unset, .unset, .unset] []))
     generalize hv154 : (p1 &&& (7 : Int32)) = v154
     show own_Go p e below _ (T153.setTop (mkF m 317 #[vI p0, vI p1, vI p2, vJ q3, .second, vI v1, vR b151, vI (0 : Int32), vI v154, .unset, .unset, .unset, .unset] []))
     refine own_by (fun _ k => XS.iload X153.here hx rfl (hb hby at_317) rfl k) ?_
     have J162 : ∀ (T163 : State) (L164 : List Loc) (z168 : Int32), Stand p l e room_1 (s.setVm T151.vm) m #[(.int p0), (.int p1), (.int p2), (.long q3)] below meth c T163 L164 2 4 → T163.heap = h151 → Fr n0 L164 → (((v154 = (0 : Int32)) ∧ z168 = (13 : Int32)) ∨ ((¬ (v154 = (0 : Int32))) ∧ (v154 = (1 : Int32)) ∧ z168 = (10 : Int32)) ∨ ((¬ (v154 = (0 : Int32))) ∧ (¬ (v154 = (1 : Int32))) ∧ (v154 = (2 : Int32)) ∧ z168 = (133 : Int32)) ∨ ((¬ (v154 = (0 : Int32))) ∧ (¬ (v154 = (1 : Int32))) ∧ (¬ (v154 = (2 : Int32))) ∧ (v154 = (3 : Int32)) ∧ z168 = (8232 : Int32)) ∨ ((¬ (v154 = (0 : Int32))) ∧ (¬ (v154 = (1 : Int32))) ∧ (¬ (v154 = (2 : Int32))) ∧ (¬ (v154 = (3 : Int32))) ∧ (v154 = (4 : Int32)) ∧ z168 = (8233 : Int32)) ∨ ((¬ (v154 = (0 : Int32))) ∧ (¬ (v154 = (1 : Int32))) ∧ (¬ (v154 = (2 : Int32))) ∧ (¬ (v154 = (3 : Int32))) ∧ (¬ (v154 = (4 : Int32))) ∧ (v154 = (5 : Int32)) ∧ z168 = (12 : Int32)) ∨ (∃ (v161 : Int32), (¬ (v154 = (0 : Int32))) ∧ (¬ (v154 = (1 : Int32))) ∧ (¬ (v154 = (2 : Int32))) ∧ (¬ (v154 = (3 : Int32))) ∧ (¬ (v154 = (4 : Int32))) ∧ (¬ (v154 = (5 : Int32))) ∧ ((p2 &&& (65535 : Int32)) = v161) ∧ z168 = v161)) → own_Go p e below (own_FinW Z consts_1 s 24 4224 (Q0 Z f_CS f_SF p0 p1 p2 q3 h0 n0)) (T163.setTop (mkF m 403 #[vI p0, vI p1, vI p2, vJ q3, .second, vI v1, vR b151, vI (0 : Int32), vI v154, vI z168, .unset, .unset, .unset] [])) := by
      intro T163 L164 z168 X165 e166 N167 hj169
      refine own_by (fun _ k => XS.iload X165.here hx rfl (hb hby at_403) rfl k) ?_
      refine own_by (fun _ k => XS.i2c X165.here hx rfl (hb hby at_405) rfl k) ?_
      show own_Go p e below _ (T163.setTop (mkF m 406 #[vI p0, vI p1, vI p2, vJ q3, .second, vI v1, vR b151, vI (0 : Int32), vI v154, vI z168, .unset, .unset, .unset] [(.int (z168.toUInt32.toUInt16.toUInt32.toInt32))]))
      refine own_by (fun _ k => XS.istore X165.here hx rfl (hb hby at_406) rfl (l' := #[vI p0, vI p1, vI p2, vJ q3, .second, vI v1, vR b151, vI (0 : Int32), vI v154, vI z168, vI (z168.toUInt32.toUInt16.toUInt32.toInt32), .unset, .unset]) rfl k) ?_
      show own_Go p e below _ (T163.setTop (mkF m 408 #[vI p0, vI p1, vI p2, vJ q3, .second, vI v1, vR b151, vI (0 : Int32), vI v154, vI z168, vI (z168.toUInt32.toUInt16.toUInt32.toInt32), .unset, .unset] []))
      generalize hv170 : (z168.toUInt32.toUInt16.toUInt32.toInt32) = v170
      show own_Go p e below _ (T163.setTop (mkF m 408 #[vI p0, vI p1, vI p2, vJ q3, .second, vI v1, vR b151, vI (0 : Int32), vI v154, vI z168, vI v170, .unset, .unset] []))
      refine own_by (fun _ k => XS.iload X165.here hx rfl (hb hby at_408) rfl k) ?_
      have J175 : ∀ (T176 : State) (L177 : List Loc) (z181 : Int32), Stand p l e room_1 (s.setVm T151.vm) m #[(.int p0), (.int p1), (.int p2), (.long q3)] below meth c T176 L177 2 4 → T176.heap = h151 → Fr n0 L177 → (((z168 = (10 : Int32)) ∧ z181 = (1 : Int32)) ∨ ((¬ (z168 = (10 : Int32))) ∧ (z168 = (13 : Int32)) ∧ z181 = (1 : Int32)) ∨ ((¬ (z168 = (10 : Int32))) ∧ (¬ (z168 = (13 : Int32))) ∧ (z168 = (133 : Int32)) ∧ z181 = (0 : Int32)) ∨ ((¬ (z168 = (10 : Int32))) ∧ (¬ (z168 = (13 : Int32))) ∧ (¬ (z168 = (133 : Int32))) ∧ (z168 = (8232 : Int32)) ∧ z181 = (0 : Int32)) ∨ ((¬ (z168 = (10 : Int32))) ∧ (¬ (z168 = (13 : Int32))) ∧ (¬ (z168 = (133 : Int32))) ∧ (¬ (z168 = (8232 : Int32))) ∧ z181 = (0 : Int32))) → own_Go p e below (own_FinW Z consts_1 s 24 4224 (Q0 Z f_CS f_SF p0 p1 p2 q3 h0 n0)) (T176.setTop (mkF m 468 #[vI p0, vI p1, vI p2, vJ q3, .second, vI v1, vR b151, vI (0 : Int32), vI v154, vI z168, vI v170, vI z181, .unset] [])) := by
       intro T176 L177 z181 X178 e179 N180 hj182
       obtain ⟨T183, h183, X183, e183, E183, A183, D183, -, st183⟩ := newO X178 hx hZ hown (hwd 0 rfl) (hwd 1 rfl) (hwd 2 rfl) e179 (g := (mkF m 468 #[vI p0, vI p1, vI p2, vJ q3, .second, vI v1, vR b151, vI (0 : Int32), vI v154, vI z168, vI v170, vI z181, .unset] [])) rfl (hb hby at_468) (by decide) (by decide)
       obtain ⟨b183, g183⟩ : ∃ z, z = h151.size := ⟨_, rfl⟩
       have ge_b183 : n0 ≤ b183 := Nat.le_trans Z151 (Nat.le_of_eq g183.symm)
       have sz_b183 : h0.size ≤ b183 := Nat.le_trans K151.1 (Nat.le_of_eq g183.symm)
       have R183 : CHr Z consts_1 T151.vm h151 T151.vm h183 := CHr.ext E183 CR151.1
       have CR183 : CHr Z consts_1 s.vm h0 T151.vm h183 := CR151.trans R183
       have hk183 : kc151 ≤ h183.size := Nat.le_trans hk151 E183.1
       have S_b183 : Safe Z consts_1 T151.vm h183 b183 := Safe.ext E183 CR151.1 (Safe.new (Nat.le_of_eq g183.symm))
       have K183 : Keep h0 h183 [] := K151.ext E183
       have Z183 : n0 ≤ h183.size := Nat.le_trans Z151 E183.1
       rw [← g183] at A183 D183 st183
       have lt_b183 := A183.lt
       have F_line_b183 : Fld Z h183 b183 "com/example/margay/margay/index/LineCounter" "line" "I" (.int (0 : Int32)) := D183 (Or.inl (hwd 10 rfl)) (ty := .int) (by decide)
       have F_column_b183 : Fld Z h183 b183 "com/example/margay/margay/index/LineCounter" "column" "I" (.int (0 : Int32)) := D183 (Or.inl (hwd 12 rfl)) (ty := .int) (by decide)
       have F_xml11_b183 : Fld Z h183 b183 "com/example/margay/margay/index/LineCounter" "xml11" "Z" (.int (0 : Int32)) := D183 (Or.inr (hwd 27 rfl)) (ty := .boolean) (by decide)
       refine own_by st183 ?_
       show own_Go p e below _ (T183.setTop (mkF m 471 #[vI p0, vI p1, vI p2, vJ q3, .second, vI v1, vR b151, vI (0 : Int32), vI v154, vI z168, vI v170, vI z181, .unset] [(.ref b183)]))
       refine own_by (fun _ k => XS.dup X183.here hx rfl (hb hby at_471) rfl rfl k) ?_
       show own_Go p e below _ (T183.setTop (mkF m 472 #[vI p0, vI p1, vI p2, vJ q3, .second, vI v1, vR b151, vI (0 : Int32), vI v154, vI z168, vI v170, vI z181, .unset] [(.ref b183), (.ref b183)]))
       refine own_by (fun _ k => XS.aload X183.here hx rfl (hb hby at_472) rfl rfl k) ?_
       have F184 : Exa Z h183 b151 "java/lang/String" := (A151.ext E183)
       have F185 : Fld Z h183 b151 "java/lang/String" "coder" "B" (.int (0 : Int32)) := (C151.ext E183)
       have F186 : Fld Z h183 b151 "java/lang/String" "value" "[B" (.ref t151) := (F151.ext E183)
       have F187 : own_Arf Z h183 t151 kk151 .byte (0 : Int32) (fun i => .int ((own_li []) i)) := (V151'.ext E183)
       have F188 : Sta Z h183 "java/lang/String" "COMPACT_STRINGS" "Z" (.int f_CS) := (F152.ext E183)
       obtain ⟨_, _, ⟨T189, L189, k189, n189⟩, -, X189', hSq189, hgr189, ⟨Lc189, hQ189, l189, y189, z189, R189⟩, st189⟩ := X183.specialBackS hx (y := (⟨"com/example/margay/margay/index/LineCounter", "<init>", "(Ljava/lang/String;)V"⟩ : MethodName)) rfl hown (mvT hZ (hwd 3 rfl)) (mvT hZ (hwd 4 rfl)) (mvT hZ (hwd 5 rfl)) (by decide) (backOfSH (W := 1) (rmlcR0 l Z A0 hw [] t151 kk151 (own_li []) f_CS b183 b151 (0 : Int32) (0 : Int32) (0 : Int32) h183 n0 Z183 F184 F185 F186 F187 F188 hn_CS A183 F_line_b183 ge_b183 F_column_b183 F_xml11_b183) hZ (hwd 5 rfl) (hwd 2 rfl) (by decide) (by decide) hEL CR183.1) (g := (mkF m 474 #[vI p0, vI p1, vI p2, vJ q3, .second, vI v1, vR b151, vI (0 : Int32), vI v154, vI z168, vI v170, vI z181, .unset] [(.ref b151), (.ref b183), (.ref b183)])) rfl (by rw [hml]; rfl) (Steps.refl _) (a := b183) (argsL := [(.ref b151)]) (rest := [(.ref b183)]) (lenOf pd_3 rfl) rfl (by show 2 * 0 + _ ≤ _; exact Nat.le_of_eq rfl) (hb hby at_474) (fun _ _ => ⟨rfl, e183, (by decide : 3 + 2 ≤ _), (by decide : 8 + 16 ≤ _)⟩)
       dsimp only [Pt.U, Pt.locs, Pt.cells, Pt.slots] at X189' l189 y189 z189 st189 hQ189 hSq189 hgr189 R189
       subst l189 y189 z189
       obtain ⟨X189, hS, hZ, hown⟩ := rebS hS (by rw [e183]; exact hk183) X189' hSq189 hgr189 hZ hown
       obtain ⟨kc189, hkc189⟩ : ∃ z, z = T189.heap.size := ⟨_, rfl⟩
       rw [← hkc189] at hS
       have hk189 : kc189 ≤ T189.heap.size := Nat.le_of_eq hkc189
       have CR189 : CHr Z consts_1 s.vm h0 T189.vm T189.heap := CR183.trans R189
       obtain ⟨o190, rfl, Nq189, Kq189, F191, F192, F193, F194, hp195⟩ := hQ189
       have N189 := Fr.app N180 Nq189
       have K189 : Keep h0 T189.heap [] := K183.trans Kq189 ((allS (Or.inr sz_b183) all0))
       have Z189 : n0 ≤ T189.heap.size := Nat.le_trans Z183 Kq189.1
       refine own_by (fun _ k => st189.trans k) ?_
       show own_Go p e below _ (T189.setTop (mkF m 477 #[vI p0, vI p1, vI p2, vJ q3, .second, vI v1, vR b151, vI (0 : Int32), vI v154, vI z168, vI v170, vI z181, .unset] [(.ref b183)]))
       refine own_by (fun _ k => XS.astore X189.here hx rfl (hb hby at_477) rfl rfl (l' := #[vI p0, vI p1, vI p2, vJ q3, .second, vI v1, vR b151, vI (0 : Int32), vI v154, vI z168, vI v170, vI z181, vR b183]) rfl k) ?_
       show own_Go p e below _ (T189.setTop (mkF m 479 #[vI p0, vI p1, vI p2, vJ q3, .second, vI v1, vR b151, vI (0 : Int32), vI v154, vI z168, vI v170, vI z181, vR b183] []))
       refine own_by (fun _ k => XS.aload X189.here hx rfl (hb hby at_479) rfl rfl k) ?_
       refine own_by (fun _ k => XS.iload X189.here hx rfl (hb hby at_481) rfl k) ?_
       obtain ⟨cq196, kq196, qq196a, qq196b, qq196c⟩ := isOf hZ rfl F191
       obtain ⟨_, _, ⟨T196, L196, k196, n196⟩, -, X196, ⟨Lc196, hQ196, l196, y196, z196⟩, st196⟩ := X189.virtualBack hx (y := (⟨"com/example/margay/margay/index/LineCounter", "endsLine", "(C)Z"⟩ : MethodName)) (z := (⟨"com/example/margay/margay/index/LineCounter", "endsLine", "(C)Z"⟩ : MethodName)) hown (mvT hZ (hwd 28 rfl)) (mvT hZ (hwd 29 rfl)) (notFace_of_selects (args := #[]) (mvT hZ (hwd 31 rfl))) (mvT hZ (hwd 31 rfl)) (mvT hZ (hwd 30 rfl)) (by decide) (backOf (W := 0) (rm4 l Z A0 hw [] b183 v170 o190 T189.heap n0 Z189 F194) hZ (hwd 32 rfl) (hwd 2 rfl) (by decide) (by decide)) qq196a qq196c (g := (mkF m 483 #[vI p0, vI p1, vI p2, vJ q3, .second, vI v1, vR b151, vI (0 : Int32), vI v154, vI z168, vI v170, vI z181, vR b183] [(.int v170), (.ref b183)])) rfl (by rw [hml]; rfl) (Steps.refl _) (argsL := [(.int v170)]) (rest := []) (lenOf pd_28 rfl) rfl (by show 2 * 0 + _ ≤ _; exact Nat.le_of_eq rfl) (hb hby at_483) (fun _ _ => ⟨rfl, rfl, (by decide : 5 + 0 ≤ _), (by decide : 24 + 0 ≤ _)⟩)
       dsimp only [Pt.U, Pt.locs, Pt.cells, Pt.slots] at X196 l196 y196 z196 st196 hQ196
       subst l196 y196 z196
       obtain ⟨o197, rfl, Nq196, eq196, hp198⟩ := hQ196
       have N196 := Fr.app N189 Nq196
       refine own_by (fun _ k => st196.trans k) ?_
       show own_Go p e below _ (T196.setTop (mkF m 486 #[vI p0, vI p1, vI p2, vJ q3, .second, vI v1, vR b151, vI (0 : Int32), vI v154, vI z168, vI v170, vI z181, vR b183] [(.int o197)]))
       refine own_by (fun _ k => XS.iload X196.here hx rfl (hb hby at_486) rfl k) ?_
       by_cases c199 : o197 = z181
       ·skip
        refine own_by (fun _ k => XS.icmpNo X196.here hx rfl (hb hby at_488) rfl (teq c199).2 k) ?_
        show own_Go p e below _ (T196.setTop (mkF m 491 #[vI p0, vI p1, vI p2, vJ q3, .second, vI v1, vR b151, vI (0 : Int32), vI v154, vI z168, vI v170, vI z181, vR b183] []))
        refine own_by (fun _ k => XS.iconst X196.here hx rfl (hb hby at_491) k) ?_
        refine own_by (fun _ k => XS.goto X196.here hx rfl (pc0 := 492) (pc' := 496) rfl (hb hby at_492) (by decide) (by decide) k) ?_
        show own_Go p e below _ (T196.setTop (mkF m 496 #[vI p0, vI p1, vI p2, vJ q3, .second, vI v1, vR b151, vI (0 : Int32), vI v154, vI z168, vI v170, vI z181, vR b183] [(.int (1 : Int32))]))
        exact own_retNW X196 hx hS hk189 hZ hEL hh CR189 (t := .boolean) Bd.returns (by simp) (hb hby at_496) hlk eq196 ⟨rfl, N196⟩ (by decide) (by decide)
       ·skip
        refine own_by (fun _ k => XS.icmpYes X196.here hx rfl (pc0 := 488) (pc' := 495) rfl (hb hby at_488) rfl (feq c199).2 (by decide) (by decide) k) ?_
        show own_Go p e below _ (T196.setTop (mkF m 495 #[vI p0, vI p1, vI p2, vJ q3, .second, vI v1, vR b151, vI (0 : Int32), vI v154, vI z168, vI v170, vI z181, vR b183] []))
        refine own_by (fun _ k => XS.iconst X196.here hx rfl (hb hby at_495) k) ?_
        exact own_retNW X196 hx hS hk189 hZ hEL hh CR189 (t := .boolean) Bd.returns (by simp) (hb hby at_496) hlk eq196 ⟨((ob_0_26 f_CS f_SF p0 p1 p2 v1 v154 z168 v170 z181 o190 o197 hn_CS hr_f_SF hv1 c2 c42 c96 c150 hv154 hj169 hv170 hj182 hp195 hp198 c199)).elim, N196⟩ (by decide) (by decide)
      by_cases c171 : z168 = (10 : Int32)
      ·skip
       refine own_by (fun t q => X165.lookupswitchHit hx (g := (mkF m 410 #[vI p0, vI p1, vI p2, vJ q3, .second, vI v1, vR b151, vI (0 : Int32), vI v154, vI z168, vI v170, .unset, .unset] [(.int z168)])) rfl (k := z168) rfl (hb hby at_410) (by decide) (a := 10) (off := 42) (by rw [c171]; rfl) (show (0 : Int) ≤ (410 : Int) + 42 by decide) t q) ?_
       show own_Go p e below _ (T163.setTop (mkF m 452 #[vI p0, vI p1, vI p2, vJ q3, .second, vI v1, vR b151, vI (0 : Int32), vI v154, vI z168, vI v170, .unset, .unset] []))
       refine own_by (fun _ k => XS.iconst X165.here hx rfl (hb hby at_452) k) ?_
       refine own_by (fun _ k => XS.istore X165.here hx rfl (hb hby at_453) rfl (l' := #[vI p0, vI p1, vI p2, vJ q3, .second, vI v1, vR b151, vI (0 : Int32), vI v154, vI z168, vI v170, vI (1 : Int32), .unset]) rfl k) ?_
       show own_Go p e below _ (T163.setTop (mkF m 455 #[vI p0, vI p1, vI p2, vJ q3, .second, vI v1, vR b151, vI (0 : Int32), vI v154, vI z168, vI v170, vI (1 : Int32), .unset] []))
       refine own_by (fun _ k => XS.goto X165.here hx rfl (pc0 := 455) (pc' := 468) rfl (hb hby at_455) (by decide) (by decide) k) ?_
       show own_Go p e below _ (T163.setTop (mkF m 468 #[vI p0, vI p1, vI p2, vJ q3, .second, vI v1, vR b151, vI (0 : Int32), vI v154, vI z168, vI v170, vI (1 : Int32), .unset] []))
       exact J175 _ _ (1 : Int32) X165 e166 N167 (Or.inl ⟨c171, rfl⟩)
      ·skip
       by_cases c172 : z168 = (13 : Int32)
       ·skip
        refine own_by (fun t q => X165.lookupswitchHit hx (g := (mkF m 410 #[vI p0, vI p1, vI p2, vJ q3, .second, vI v1, vR b151, vI (0 : Int32), vI v154, vI z168, vI v170, .unset, .unset] [(.int z168)])) rfl (k := z168) rfl (hb hby at_410) (by decide) (a := 13) (off := 42) (by rw [c172]; rfl) (show (0 : Int) ≤ (410 : Int) + 42 by decide) t q) ?_
        show own_Go p e below _ (T163.setTop (mkF m 452 #[vI p0, vI p1, vI p2, vJ q3, .second, vI v1, vR b151, vI (0 : Int32), vI v154, vI z168, vI v170, .unset, .unset] []))
        refine own_by (fun _ k => XS.iconst X165.here hx rfl (hb hby at_452) k) ?_
        refine own_by (fun _ k => XS.istore X165.here hx rfl (hb hby at_453) rfl (l' := #[vI p0, vI p1, vI p2, vJ q3, .second, vI v1, vR b151, vI (0 : Int32), vI v154, vI z168, vI v170, vI (1 : Int32), .unset]) rfl k) ?_
        show own_Go p e below _ (T163.setTop (mkF m 455 #[vI p0, vI p1, vI p2, vJ q3, .second, vI v1, vR b151, vI (0 : Int32), vI v154, vI z168, vI v170, vI (1 : Int32), .unset] []))
        refine own_by (fun _ k => XS.goto X165.here hx rfl (pc0 := 455) (pc' := 468) rfl (hb hby at_455) (by decide) (by decide) k) ?_
        show own_Go p e below _ (T163.setTop (mkF m 468 #[vI p0, vI p1, vI p2, vJ q3, .second, vI v1, vR b151, vI (0 : Int32), vI v154, vI z168, vI v170, vI (1 : Int32), .unset] []))
        exact J175 _ _ (1 : Int32) X165 e166 N167 (Or.inr (Or.inl ⟨c171, c172, rfl⟩))
       ·skip
        by_cases c173 : z168 = (133 : Int32)
        ·skip
         refine own_by (fun t q => X165.lookupswitchHit hx (g := (mkF m 410 #[vI p0, vI p1, vI p2, vJ q3, .second, vI v1, vR b151, vI (0 : Int32), vI v154, vI z168, vI v170, .unset, .unset] [(.int z168)])) rfl (k := z168) rfl (hb hby at_410) (by decide) (a := 133) (off := 48) (by rw [c173]; rfl) (show (0 : Int) ≤ (410 : Int) + 48 by decide) t q) ?_
         show own_Go p e below _ (T163.setTop (mkF m 458 #[vI p0, vI p1, vI p2, vJ q3, .second, vI v1, vR b151, vI (0 : Int32), vI v154, vI z168, vI v170, .unset, .unset] []))
         refine own_by (fun _ k => XS.iload X165.here hx rfl (hb hby at_458) rfl k) ?_
         refine own_by (fun _ k => XS.istore X165.here hx rfl (hb hby at_460) rfl (l' := #[vI p0, vI p1, vI p2, vJ q3, .second, vI v1, vR b151, vI (0 : Int32), vI v154, vI z168, vI v170, vI (0 : Int32), .unset]) rfl k) ?_
         show own_Go p e below _ (T163.setTop (mkF m 462 #[vI p0, vI p1, vI p2, vJ q3, .second, vI v1, vR b151, vI (0 : Int32), vI v154, vI z168, vI v170, vI (0 : Int32), .unset] []))
         refine own_by (fun _ k => XS.goto X165.here hx rfl (pc0 := 462) (pc' := 468) rfl (hb hby at_462) (by decide) (by decide) k) ?_
         show own_Go p e below _ (T163.setTop (mkF m 468 #[vI p0, vI p1, vI p2, vJ q3, .second, vI v1, vR b151, vI (0 : Int32), vI v154, vI z168, vI v170, vI (0 : Int32), .unset] []))
         exact J175 _ _ (0 : Int32) X165 e166 N167 (Or.inr (Or.inr (Or.inl ⟨c171, c172, c173, rfl⟩)))
        ·skip
         by_cases c174 : z168 = (8232 : Int32)
         ·skip
          refine own_by (fun t q => X165.lookupswitchHit hx (g := (mkF m 410 #[vI p0, vI p1, vI p2, vJ q3, .second, vI v1, vR b151, vI (0 : Int32), vI v154, vI z168, vI v170, .unset, .unset] [(.int z168)])) rfl (k := z168) rfl (hb hby at_410) (by decide) (a := 8232) (off := 48) (by rw [c174]; rfl) (show (0 : Int) ≤ (410 : Int) + 48 by decide) t q) ?_
          show own_Go p e below _ (T163.setTop (mkF m 458 #[vI p0, vI p1, vI p2, vJ q3, .second, vI v1, vR b151, vI (0 : Int32), vI v154, vI z168, vI v170, .unset, .unset] []))
          refine own_by (fun _ k => XS.iload X165.here hx rfl (hb hby at_458) rfl k) ?_
          refine own_by (fun _ k => XS.istore X165.here hx rfl (hb hby at_460) rfl (l' := #[vI p0, vI p1, vI p2, vJ q3, .second, vI v1, vR b151, vI (0 : Int32), vI v154, vI z168, vI v170, vI (0 : Int32), .unset]) rfl k) ?_
          show own_Go p e below _ (T163.setTop (mkF m 462 #[vI p0, vI p1, vI p2, vJ q3, .second, vI v1, vR b151, vI (0 : Int32), vI v154, vI z168, vI v170, vI (0 : Int32), .unset] []))
          refine own_by (fun _ k => XS.goto X165.here hx rfl (pc0 := 462) (pc' := 468) rfl (hb hby at_462) (by decide) (by decide) k) ?_
          show own_Go p e below _ (T163.setTop (mkF m 468 #[vI p0, vI p1, vI p2, vJ q3, .second, vI v1, vR b151, vI (0 : Int32), vI v154, vI z168, vI v170, vI (0 : Int32), .unset] []))
          exact J175 _ _ (0 : Int32) X165 e166 N167 (Or.inr (Or.inr (Or.inr (Or.inl ⟨c171, c172, c173, c174, rfl⟩))))
         ·skip
          refine own_by (fun t q => X165.lookupswitchMiss hx (g := (mkF m 410 #[vI p0, vI p1, vI p2, vJ q3, .second, vI v1, vR b151, vI (0 : Int32), vI v154, vI z168, vI v170, .unset, .unset] [(.int z168)])) rfl (k := z168) rfl (hb hby at_410) (by decide) (by simp [own_swn z168 (a := (10 : Int32)) (A := 10) rfl c171, own_swn z168 (a := (13 : Int32)) (A := 13) rfl c172, own_swn z168 (a := (133 : Int32)) (A := 133) rfl c173, own_swn z168 (a := (8232 : Int32)) (A := 8232) rfl c174]) (show (0 : Int) ≤ (410 : Int) + 55 by decide) t q) ?_
          show own_Go p e below _ (T163.setTop (mkF m 465 #[vI p0, vI p1, vI p2, vJ q3, .second, vI v1, vR b151, vI (0 : Int32), vI v154, vI z168, vI v170, .unset, .unset] []))
          refine own_by (fun _ k => XS.iconst X165.here hx rfl (hb hby at_465) k) ?_
          refine own_by (fun _ k => XS.istore X165.here hx rfl (hb hby at_466) rfl (l' := #[vI p0, vI p1, vI p2, vJ q3, .second, vI v1, vR b151, vI (0 : Int32), vI v154, vI z168, vI v170, vI (0 : Int32), .unset]) rfl k) ?_
          show own_Go p e below _ (T163.setTop (mkF m 468 #[vI p0, vI p1, vI p2, vJ q3, .second, vI v1, vR b151, vI (0 : Int32), vI v154, vI z168, vI v170, vI (0 : Int32), .unset] []))
          exact J175 _ _ (0 : Int32) X165 e166 N167 (Or.inr (Or.inr (Or.inr (Or.inr (⟨c171, c172, c173, c174, rfl⟩)))))
     by_cases c155 : v154 = (0 : Int32)
     ·skip
      refine own_by (fun _ k => XS.ifNo X153.here hx rfl (hb hby at_319) rfl ((if0 _ _).trans (teq c155).2) k) ?_
      show own_Go p e below _ (T153.setTop (mkF m 322 #[vI p0, vI p1, vI p2, vJ q3, .second, vI v1, vR b151, vI (0 : Int32), vI v154, .unset, .unset, .unset, .unset] []))
      refine own_by (fun _ k => XS.bipush X153.here hx rfl (hb hby at_322) k) ?_
      refine own_by (fun _ k => XS.istore X153.here hx rfl (hb hby at_324) rfl (l' := #[vI p0, vI p1, vI p2, vJ q3, .second, vI v1, vR b151, vI (0 : Int32), vI v154, vI (13 : Int32), .unset, .unset, .unset]) rfl k) ?_
      show own_Go p e below _ (T153.setTop (mkF m 326 #[vI p0, vI p1, vI p2, vJ q3, .second, vI v1, vR b151, vI (0 : Int32), vI v154, vI (13 : Int32), .unset, .unset, .unset] []))
      refine own_by (fun _ k => XS.goto X153.here hx rfl (pc0 := 326) (pc' := 403) rfl (hb hby at_326) (by decide) (by decide) k) ?_
      show own_Go p e below _ (T153.setTop (mkF m 403 #[vI p0, vI p1, vI p2, vJ q3, .second, vI v1, vR b151, vI (0 : Int32), vI v154, vI (13 : Int32), .unset, .unset, .unset] []))
      exact J162 _ _ (13 : Int32) X153 eq153 N153 (Or.inl ⟨c155, rfl⟩)
     ·skip
      refine own_by (fun _ k => XS.ifYes X153.here hx rfl (pc0 := 319) (pc' := 329) rfl (hb hby at_319) rfl ((if0 _ _).trans (feq c155).2) (by decide) (by decide) k) ?_
      show own_Go p e below _ (T153.setTop (mkF m 329 #[vI p0, vI p1, vI p2, vJ q3, .second, vI v1, vR b151, vI (0 : Int32), vI v154, .unset, .unset, .unset, .unset] []))
      refine own_by (fun _ k => XS.iload X153.here hx rfl (hb hby at_329) rfl k) ?_
      refine own_by (fun _ k => XS.iconst X153.here hx rfl (hb hby at_331) k) ?_
      by_cases c156 : v154 = (1 : Int32)
      ·skip
       refine own_by (fun _ k => XS.icmpNo X153.here hx rfl (hb hby at_332) rfl (teq c156).2 k) ?_
       show own_Go p e below _ (T153.setTop (mkF m 335 #[vI p0, vI p1, vI p2, vJ q3, .second, vI v1, vR b151, vI (0 : Int32), vI v154, .unset, .unset, .unset, .unset] []))
       refine own_by (fun _ k => XS.bipush X153.here hx rfl (hb hby at_335) k) ?_
       refine own_by (fun _ k => XS.istore X153.here hx rfl (hb hby at_337) rfl (l' := #[vI p0, vI p1, vI p2, vJ q3, .second, vI v1, vR b151, vI (0 : Int32), vI v154, vI (10 : Int32), .unset, .unset, .unset]) rfl k) ?_
       show own_Go p e below _ (T153.setTop (mkF m 339 #[vI p0, vI p1, vI p2, vJ q3, .second, vI v1, vR b151, vI (0 : Int32), vI v154, vI (10 : Int32), .unset, .unset, .unset] []))
       refine own_by (fun _ k => XS.goto X153.here hx rfl (pc0 := 339) (pc' := 403) rfl (hb hby at_339) (by decide) (by decide) k) ?_
       show own_Go p e below _ (T153.setTop (mkF m 403 #[vI p0, vI p1, vI p2, vJ q3, .second, vI v1, vR b151, vI (0 : Int32), vI v154, vI (10 : Int32), .unset, .unset, .unset] []))
       exact J162 _ _ (10 : Int32) X153 eq153 N153 (Or.inr (Or.inl ⟨c155, c156, rfl⟩))
      ·skip
       refine own_by (fun _ k => XS.icmpYes X153.here hx rfl (pc0 := 332) (pc' := 342) rfl (hb hby at_332) rfl (feq c156).2 (by decide) (by decide) k) ?_
       show own_Go p e below _ (T153.setTop (mkF m 342 #[vI p0, vI p1, vI p2, vJ q3, .second, vI v1, vR b151, vI (0 : Int32), vI v154, .unset, .unset, .unset, .unset] []))
       refine own_by (fun _ k => XS.iload X153.here hx rfl (hb hby at_342) rfl k) ?_
       refine own_by (fun _ k => XS.iconst X153.here hx rfl (hb hby at_344) k) ?_
       by_cases c157 : v154 = (2 : Int32)
       ·skip
        refine own_by (fun _ k => XS.icmpNo X153.here hx rfl (hb hby at_345) rfl (teq c157).2 k) ?_
        show own_Go p e below _ (T153.setTop (mkF m 348 #[vI p0, vI p1, vI p2, vJ q3, .second, vI v1, vR b151, vI (0 : Int32), vI v154, .unset, .unset, .unset, .unset] []))
        refine own_by (fun _ k => XS.sipush X153.here hx rfl (hb hby at_348) k) ?_
        refine own_by (fun _ k => XS.istore X153.here hx rfl (hb hby at_351) rfl (l' := #[vI p0, vI p1, vI p2, vJ q3, .second, vI v1, vR b151, vI (0 : Int32), vI v154, vI (133 : Int32), .unset, .unset, .unset]) rfl k) ?_
        show own_Go p e below _ (T153.setTop (mkF m 353 #[vI p0, vI p1, vI p2, vJ q3, .second, vI v1, vR b151, vI (0 : Int32), vI v154, vI (133 : Int32), .unset, .unset, .unset] []))
        refine own_by (fun _ k => XS.goto X153.here hx rfl (pc0 := 353) (pc' := 403) rfl (hb hby at_353) (by decide) (by decide) k) ?_
        show own_Go p e below _ (T153.setTop (mkF m 403 #[vI p0, vI p1, vI p2, vJ q3, .second, vI v1, vR b151, vI (0 : Int32), vI v154, vI (133 : Int32), .unset, .unset, .unset] []))
        exact J162 _ _ (133 : Int32) X153 eq153 N153 (Or.inr (Or.inr (Or.inl ⟨c155, c156, c157, rfl⟩)))
       ·skip
        refine own_by (fun _ k => XS.icmpYes X153.here hx rfl (pc0 := 345) (pc' := 356) rfl (hb hby at_345) rfl (feq c157).2 (by decide) (by decide) k) ?_
        show own_Go p e below _ (T153.setTop (mkF m 356 #[vI p0, vI p1, vI p2, vJ q3, .second, vI v1, vR b151, vI (0 : Int32), vI v154, .unset, .unset, .unset, .unset] []))
        refine own_by (fun _ k => XS.iload X153.here hx rfl (hb hby at_356) rfl k) ?_
        refine own_by (fun _ k => XS.iconst X153.here hx rfl (hb hby at_358) k) ?_
        by_cases c158 : v154 = (3 : Int32)
        ·skip
         refine own_by (fun _ k => XS.icmpNo X153.here hx rfl (hb hby at_359) rfl (teq c158).2 k) ?_
         show own_Go p e below _ (T153.setTop (mkF m 362 #[vI p0, vI p1, vI p2, vJ q3, .second, vI v1, vR b151, vI (0 : Int32), vI v154, .unset, .unset, .unset, .unset] []))
         refine own_by (fun _ k => XS.sipush X153.here hx rfl (hb hby at_362) k) ?_
         refine own_by (fun _ k => XS.istore X153.here hx rfl (hb hby at_365) rfl (l' := #[vI p0, vI p1, vI p2, vJ q3, .second, vI v1, vR b151, vI (0 : Int32), vI v154, vI (8232 : Int32), .unset, .unset, .unset]) rfl k) ?_
         show own_Go p e below _ (T153.setTop (mkF m 367 #[vI p0, vI p1, vI p2, vJ q3, .second, vI v1, vR b151, vI (0 : Int32), vI v154, vI (8232 : Int32), .unset, .unset, .unset] []))
         refine own_by (fun _ k => XS.goto X153.here hx rfl (pc0 := 367) (pc' := 403) rfl (hb hby at_367) (by decide) (by decide) k) ?_
         show own_Go p e below _ (T153.setTop (mkF m 403 #[vI p0, vI p1, vI p2, vJ q3, .second, vI v1, vR b151, vI (0 : Int32), vI v154, vI (8232 : Int32), .unset, .unset, .unset] []))
         exact J162 _ _ (8232 : Int32) X153 eq153 N153 (Or.inr (Or.inr (Or.inr (Or.inl ⟨c155, c156, c157, c158, rfl⟩))))
        ·skip
         refine own_by (fun _ k => XS.icmpYes X153.here hx rfl (pc0 := 359) (pc' := 370) rfl (hb hby at_359) rfl (feq c158).2 (by decide) (by decide) k) ?_
         show own_Go p e below _ (T153.setTop (mkF m 370 #[vI p0, vI p1, vI p2, vJ q3, .second, vI v1, vR b151, vI (0 : Int32), vI v154, .unset, .unset, .unset, .unset] []))
         refine own_by (fun _ k => XS.iload X153.here hx rfl (hb hby at_370) rfl k) ?_
         refine own_by (fun _ k => XS.iconst X153.here hx rfl (hb hby at_372) k) ?_
         by_cases c159 : v154 = (4 : Int32)
         ·skip
          refine own_by (fun _ k => XS.icmpNo X153.here hx rfl (hb hby at_373) rfl (teq c159).2 k) ?_
          show own_Go p e below _ (T153.setTop (mkF m 376 #[vI p0, vI p1, vI p2, vJ q3, .second, vI v1, vR b151, vI (0 : Int32), vI v154, .unset, .unset, .unset, .unset] []))
          refine own_by (fun _ k => XS.sipush X153.here hx rfl (hb hby at_376) k) ?_
          refine own_by (fun _ k => XS.istore X153.here hx rfl (hb hby at_379) rfl (l' := #[vI p0, vI p1, vI p2, vJ q3, .second, vI v1, vR b151, vI (0 : Int32), vI v154, vI (8233 : Int32), .unset, .unset, .unset]) rfl k) ?_
          show own_Go p e below _ (T153.setTop (mkF m 381 #[vI p0, vI p1, vI p2, vJ q3, .second, vI v1, vR b151, vI (0 : Int32), vI v154, vI (8233 : Int32), .unset, .unset, .unset] []))
          refine own_by (fun _ k => XS.goto X153.here hx rfl (pc0 := 381) (pc' := 403) rfl (hb hby at_381) (by decide) (by decide) k) ?_
          show own_Go p e below _ (T153.setTop (mkF m 403 #[vI p0, vI p1, vI p2, vJ q3, .second, vI v1, vR b151, vI (0 : Int32), vI v154, vI (8233 : Int32), .unset, .unset, .unset] []))
          exact J162 _ _ (8233 : Int32) X153 eq153 N153 (Or.inr (Or.inr (Or.inr (Or.inr (Or.inl ⟨c155, c156, c157, c158, c159, rfl⟩)))))
         ·skip
          refine own_by (fun _ k => XS.icmpYes X153.here hx rfl (pc0 := 373) (pc' := 384) rfl (hb hby at_373) rfl (feq c159).2 (by decide) (by decide) k) ?_
          show own_Go p e below _ (T153.setTop (mkF m 384 #[vI p0, vI p1, vI p2, vJ q3, .second, vI v1, vR b151, vI (0 : Int32), vI v154, .unset, .unset, .unset, .unset] []))
          refine own_by (fun _ k => XS.iload X153.here hx rfl (hb hby at_384) rfl k) ?_
          refine own_by (fun _ k => XS.iconst X153.here hx rfl (hb hby at_386) k) ?_
          by_cases c160 : v154 = (5 : Int32)
          ·skip
           refine own_by (fun _ k => XS.icmpNo X153.here hx rfl (hb hby at_387) rfl (teq c160).2 k) ?_
           show own_Go p e below _ (T153.setTop (mkF m 390 #[vI p0, vI p1, vI p2, vJ q3, .second, vI v1, vR b151, vI (0 : Int32), vI v154, .unset, .unset, .unset, .unset] []))
           refine own_by (fun _ k => XS.bipush X153.here hx rfl (hb hby at_390) k) ?_
           refine own_by (fun _ k => XS.istore X153.here hx rfl (hb hby at_392) rfl (l' := #[vI p0, vI p1, vI p2, vJ q3, .second, vI v1, vR b151, vI (0 : Int32), vI v154, vI (12 : Int32), .unset, .unset, .unset]) rfl k) ?_
           show own_Go p e below _ (T153.setTop (mkF m 394 #[vI p0, vI p1, vI p2, vJ q3, .second, vI v1, vR b151, vI (0 : Int32), vI v154, vI (12 : Int32), .unset, .unset, .unset] []))
           refine own_by (fun _ k => XS.goto X153.here hx rfl (pc0 := 394) (pc' := 403) rfl (hb hby at_394) (by decide) (by decide) k) ?_
           show own_Go p e below _ (T153.setTop (mkF m 403 #[vI p0, vI p1, vI p2, vJ q3, .second, vI v1, vR b151, vI (0 : Int32), vI v154, vI (12 : Int32), .unset, .unset, .unset] []))
           exact J162 _ _ (12 : Int32) X153 eq153 N153 (Or.inr (Or.inr (Or.inr (Or.inr (Or.inr (Or.inl ⟨c155, c156, c157, c158, c159, c160, rfl⟩))))))
          ·skip
           refine own_by (fun _ k => XS.icmpYes X153.here hx rfl (pc0 := 387) (pc' := 397) rfl (hb hby at_387) rfl (feq c160).2 (by decide) (by decide) k) ?_
           show own_Go p e below _ (T153.setTop (mkF m 397 #[vI p0, vI p1, vI p2, vJ q3, .second, vI v1, vR b151, vI (0 : Int32), vI v154, .unset, .unset, .unset, .unset] []))
           refine own_by (fun _ k => XS.iloadN X153.here hx rfl (hb hby at_397) rfl k) ?_
           refine own_by (fun t k => X153.ldcInt hx hown (mvT hZ (hwd 99 rfl)) (g := (mkF m 398 #[vI p0, vI p1, vI p2, vJ q3, .second, vI v1, vR b151, vI (0 : Int32), vI v154, .unset, .unset, .unset, .unset] [(.int p2)])) rfl (hb hby at_398) _ k) ?_
           show own_Go p e below _ (T153.setTop (mkF m 400 #[vI p0, vI p1, vI p2, vJ q3, .second, vI v1, vR b151, vI (0 : Int32), vI v154, .unset, .unset, .unset, .unset] [(.int (65535 : Int32)), (.int p2)]))
           refine own_by (fun _ k => XS.iand X153.here hx rfl (hb hby at_400) rfl k) ?_
           show own_Go p e below _ (T153.setTop (mkF m 401 #[vI p0, vI p1, vI p2, vJ q3, .second, vI v1, vR b151, vI (0 : Int32), vI v154, .unset, .unset, .unset, .unset] [(.int (p2 &&& (65535 : Int32)))]))
           refine own_by (fun _ k => XS.istore X153.here hx rfl (hb hby at_401) rfl (l' := #[vI p0, vI p1, vI p2, vJ q3, .second, vI v1, vR b151, vI (0 : Int32), vI v154, vI (p2 &&& (65535 : Int32)), .unset, .unset, .unset]) rfl k) ?_
           show own_Go p e below _ (T153.setTop (mkF m 403 #[vI p0, vI p1, vI p2, vJ q3, .second, vI v1, vR b151, vI (0 : Int32), vI v154, vI (p2 &&& (65535 : Int32)), .unset, .unset, .unset] []))
           generalize hv161 : (p2 &&& (65535 : Int32)) = v161
           show own_Go p e below _ (T153.setTop (mkF m 403 #[vI p0, vI p1, vI p2, vJ q3, .second, vI v1, vR b151, vI (0 : Int32), vI v154, vI v161, .unset, .unset, .unset] []))
           exact J162 _ _ v161 X153 eq153 N153 (Or.inr (Or.inr (Or.inr (Or.inr (Or.inr (Or.inr (⟨v161, c155, c156, c157, c158, c159, c160, hv161, rfl⟩)))))))
    ·skip
     refine own_by (fun _ k => XS.icmpYes X0.here hx rfl (pc0 := 46) (pc' := 56) rfl (hb hby at_46) rfl (feq c150).2 (by decide) (by decide) k) ?_
     show own_Go p e below _ (s₁.setTop (mkF m 56 #[vI p0, vI p1, vI p2, vJ q3, .second, vI v1, .unset, .unset, .unset, .unset, .unset, .unset, .unset] []))
     refine own_by (fun _ k => XS.iload X0.here hx rfl (hb hby at_56) rfl k) ?_
     refine own_by (fun _ k => XS.iconst X0.here hx rfl (hb hby at_58) k) ?_
     by_cases c200 : v1 = (4 : Int32)
     ·skip
      refine own_by (fun _ k => XS.icmpNo X0.here hx rfl (hb hby at_59) rfl (teq c200).2 k) ?_
      show own_Go p e below _ (s₁.setTop (mkF m 62 #[vI p0, vI p1, vI p2, vJ q3, .second, vI v1, .unset, .unset, .unset, .unset, .unset, .unset, .unset] []))
      refine own_by (fun _ k => XS.iconst X0.here hx rfl (hb hby at_62) k) ?_
      obtain ⟨T201, h201, k201, X201, e201, E201, A201, st201⟩ := newP X0 hx hZ (hwd 33 rfl) e0 (g := (mkF m 63 #[vI p0, vI p1, vI p2, vJ q3, .second, vI v1, .unset, .unset, .unset, .unset, .unset, .unset, .unset] [(.int (2 : Int32))])) rfl (hb hby at_63) rfl (by decide) (cap := 2) (by decide) (by decide) (by decide) (by decide)
      obtain ⟨b201, g201⟩ : ∃ z, z = h0.size := ⟨_, rfl⟩
      have ge_b201 : n0 ≤ b201 := Nat.le_trans Z0 (Nat.le_of_eq g201.symm)
      have sz_b201 : h0.size ≤ b201 := Nat.le_trans (Keep.refl h0 []).1 (Nat.le_of_eq g201.symm)
      have R201 : CHr Z consts_1 s.vm h0 s.vm h201 := CHr.ext E201 CR0.1
      have CR201 : CHr Z consts_1 s.vm h0 s.vm h201 := CR0.trans R201
      have hk201 : kc0 ≤ h201.size := Nat.le_trans hk0 E201.1
      have S_b201 : Safe Z consts_1 s.vm h201 b201 := Safe.ext E201 CR0.1 (Safe.new (Nat.le_of_eq g201.symm))
      have K201 : Keep h0 h201 [] := (Keep.refl h0 []).ext E201
      have Z201 : n0 ≤ h201.size := Nat.le_trans Z0 E201.1
      rw [← g201] at A201 st201
      have V201 : own_Arf Z h201 b201 k201 .char (2 : Int32) (fun i => .int ((fun _ => (0 : Int32)) i)) := own_arfNew A201 (by decide)
      refine own_by st201 ?_
      show own_Go p e below _ (T201.setTop (mkF m 65 #[vI p0, vI p1, vI p2, vJ q3, .second, vI v1, .unset, .unset, .unset, .unset, .unset, .unset, .unset] [(.ref b201)]))
      refine own_by (fun _ k => XS.astore X201.here hx rfl (hb hby at_65) rfl rfl (l' := #[vI p0, vI p1, vI p2, vJ q3, .second, vI v1, .unset, vR b201, .unset, .unset, .unset, .unset, .unset]) rfl k) ?_
      show own_Go p e below _ (T201.setTop (mkF m 67 #[vI p0, vI p1, vI p2, vJ q3, .second, vI v1, .unset, vR b201, .unset, .unset, .unset, .unset, .unset] []))
      refine own_by (fun _ k => XS.aload X201.here hx rfl (hb hby at_67) rfl rfl k) ?_
      refine own_by (fun _ k => XS.iconst X201.here hx rfl (hb hby at_69) k) ?_
      refine own_by (fun _ k => XS.lloadN X201.here hx rfl (hb hby at_70) rfl k) ?_
      refine own_by (fun _ k => XS.iconst X201.here hx rfl (hb hby at_71) k) ?_
      obtain ⟨_, _, ⟨T202, L202, k202, n202⟩, -, X202, ⟨Lc202, hQ202, l202, y202, z202⟩, st202⟩ := Jvm.LawKit.callS X201 hx (y := (⟨"com/example/margay/margay/index/LineCounterEndsLinePinLaw", "ch", "(JI)C"⟩ : MethodName)) hown (mvT hZ (hwd 34 rfl)) (mvT hZ (hwd 35 rfl)) (mvT hZ (hwd 36 rfl)) (mvT hZ (hwd 37 rfl)) (by decide) (backOf (W := 2) (rmch l Z A0 hw [] q3 (0 : Int32) h201 n0 Z201 ) hZ (hwd 37 rfl) (hwd 36 rfl) (by decide) (by decide)) (g := (mkF m 72 #[vI p0, vI p1, vI p2, vJ q3, .second, vI v1, .unset, vR b201, .unset, .unset, .unset, .unset, .unset] [(.int (0 : Int32)), (.long q3), (.int (0 : Int32)), (.ref b201)])) rfl (by rw [hml]; rfl) (argsL := [(.long q3), (.int (0 : Int32))]) (rest := [(.int (0 : Int32)), (.ref b201)]) (lenOf pd_34 rfl) rfl (by show 2 * 0 + _ ≤ _; exact Nat.le_of_eq rfl) (hb hby at_72) (fun _ _ => ⟨rfl, e201, (by decide : 1 + 0 ≤ _), (by decide : 2 + 0 ≤ _)⟩)
      dsimp only [Pt.U, Pt.locs, Pt.cells, Pt.slots] at X202 l202 y202 z202 st202 hQ202
      subst l202 y202 z202
      obtain ⟨o203, rfl, Nq202, eq202, hp204⟩ := hQ202
      have N202 := Fr.app N0 Nq202
      refine own_by st202 ?_
      show own_Go p e below _ (T202.setTop (mkF m 75 #[vI p0, vI p1, vI p2, vJ q3, .second, vI v1, .unset, vR b201, .unset, .unset, .unset, .unset, .unset] [(.int o203), (.int (0 : Int32)), (.ref b201)]))
      obtain ⟨cl205, Ar205, qq205, S205, M205, H205, G205⟩ := id V201
      have hin205 : ¬ ((0 : Int32) < 0 ∨ cl205.slots.size ≤ ((0 : Int32)).toNatClampNeg) := inb_of S205 ⟨by decide, by decide⟩
      obtain ⟨T206, h206, X206, e206, W206, st206⟩ := stC X202 hx hZ eq202 Ar205 (j := (0 : Int32)) hin205 (g := (mkF m 75 #[vI p0, vI p1, vI p2, vJ q3, .second, vI v1, .unset, vR b201, .unset, .unset, .unset, .unset, .unset] [(.int o203), (.int (0 : Int32)), (.ref b201)])) rfl rfl (hb hby at_75)
      have V206 : own_Arf Z h206 b201 k201 .char (2 : Int32) (fun i => .int ((own_upd (fun _ => (0 : Int32)) 0 (nar .char o203)) i)) := own_arfSetI Ar205 qq205 S205 M205 H205 G205 (fits_nar_char _) W206
      have R206 : CHr Z consts_1 s.vm h201 s.vm h206 := CHr.wr W206 (own_arfSafe V201 hZ.alike (by decide)) CR201.1
      have CR206 : CHr Z consts_1 s.vm h0 s.vm h206 := CR201.trans R206
      have hk206 : kc0 ≤ h206.size := Nat.le_trans hk201 (Keep.of_wr W206).1
      have K206 : Keep h0 h206 [] := K201.wr W206 (Or.inr sz_b201)
      have Z206 : n0 ≤ h206.size := Nat.le_trans Z201 (Keep.of_wr W206).1
      have N206 := Fr.snoc X206 N202 ge_b201
      refine own_by st206 ?_
      show own_Go p e below _ (T206.setTop (mkF m 76 #[vI p0, vI p1, vI p2, vJ q3, .second, vI v1, .unset, vR b201, .unset, .unset, .unset, .unset, .unset] []))
      refine own_by (fun _ k => XS.aload X206.here hx rfl (hb hby at_76) rfl rfl k) ?_
      refine own_by (fun _ k => XS.iconst X206.here hx rfl (hb hby at_78) k) ?_
      refine own_by (fun _ k => XS.lloadN X206.here hx rfl (hb hby at_79) rfl k) ?_
      refine own_by (fun _ k => XS.bipush X206.here hx rfl (hb hby at_80) k) ?_
      obtain ⟨_, _, ⟨T207, L207, k207, n207⟩, -, X207, ⟨Lc207, hQ207, l207, y207, z207⟩, st207⟩ := Jvm.LawKit.callS X206 hx (y := (⟨"com/example/margay/margay/index/LineCounterEndsLinePinLaw", "ch", "(JI)C"⟩ : MethodName)) hown (mvT hZ (hwd 34 rfl)) (mvT hZ (hwd 35 rfl)) (mvT hZ (hwd 36 rfl)) (mvT hZ (hwd 37 rfl)) (by decide) (backOf (W := 2) (rmch l Z A0 hw [] q3 (8 : Int32) h206 n0 Z206 ) hZ (hwd 37 rfl) (hwd 36 rfl) (by decide) (by decide)) (g := (mkF m 82 #[vI p0, vI p1, vI p2, vJ q3, .second, vI v1, .unset, vR b201, .unset, .unset, .unset, .unset, .unset] [(.int (8 : Int32)), (.long q3), (.int (1 : Int32)), (.ref b201)])) rfl (by rw [hml]; rfl) (argsL := [(.long q3), (.int (8 : Int32))]) (rest := [(.int (1 : Int32)), (.ref b201)]) (lenOf pd_34 rfl) rfl (by show 2 * 0 + _ ≤ _; exact Nat.le_of_eq rfl) (hb hby at_82) (fun _ _ => ⟨rfl, e206, (by decide : 1 + 0 ≤ _), (by decide : 2 + 0 ≤ _)⟩)
      dsimp only [Pt.U, Pt.locs, Pt.cells, Pt.slots] at X207 l207 y207 z207 st207 hQ207
      subst l207 y207 z207
      obtain ⟨o208, rfl, Nq207, eq207, hp209⟩ := hQ207
      have N207 := Fr.app N206 Nq207
      refine own_by st207 ?_
      show own_Go p e below _ (T207.setTop (mkF m 85 #[vI p0, vI p1, vI p2, vJ q3, .second, vI v1, .unset, vR b201, .unset, .unset, .unset, .unset, .unset] [(.int o208), (.int (1 : Int32)), (.ref b201)]))
      obtain ⟨cl210, Ar210, qq210, S210, M210, H210, G210⟩ := id V206
      have hin210 : ¬ ((1 : Int32) < 0 ∨ cl210.slots.size ≤ ((1 : Int32)).toNatClampNeg) := inb_of S210 ⟨by decide, by decide⟩
      obtain ⟨T211, h211, X211, e211, W211, st211⟩ := stC X207 hx hZ eq207 Ar210 (j := (1 : Int32)) hin210 (g := (mkF m 85 #[vI p0, vI p1, vI p2, vJ q3, .second, vI v1, .unset, vR b201, .unset, .unset, .unset, .unset, .unset] [(.int o208), (.int (1 : Int32)), (.ref b201)])) rfl rfl (hb hby at_85)
      have V211 : own_Arf Z h211 b201 k201 .char (2 : Int32) (fun i => .int ((own_upd (own_upd (fun _ => (0 : Int32)) 0 (nar .char o203)) 1 (nar .char o208)) i)) := own_arfSetI Ar210 qq210 S210 M210 H210 G210 (fits_nar_char _) W211
      have R211 : CHr Z consts_1 s.vm h206 s.vm h211 := CHr.wr W211 (own_arfSafe V206 hZ.alike (by decide)) CR206.1
      have CR211 : CHr Z consts_1 s.vm h0 s.vm h211 := CR206.trans R211
      have hk211 : kc0 ≤ h211.size := Nat.le_trans hk206 (Keep.of_wr W211).1
      have K211 : Keep h0 h211 [] := K206.wr W211 (Or.inr sz_b201)
      have Z211 : n0 ≤ h211.size := Nat.le_trans Z206 (Keep.of_wr W211).1
      have N211 := Fr.snoc X211 N207 ge_b201
      refine own_by st211 ?_
      show own_Go p e below _ (T211.setTop (mkF m 86 #[vI p0, vI p1, vI p2, vJ q3, .second, vI v1, .unset, vR b201, .unset, .unset, .unset, .unset, .unset] []))
      obtain ⟨T212, h212, X212, e212, E212, A212, D212, -, st212⟩ := newO X211 hx hZ hown (hwd 39 rfl) (hwd 15 rfl) (hwd 14 rfl) e211 (g := (mkF m 86 #[vI p0, vI p1, vI p2, vJ q3, .second, vI v1, .unset, vR b201, .unset, .unset, .unset, .unset, .unset] [])) rfl (hb hby at_86) (by decide) (by decide)
      obtain ⟨b212, g212⟩ : ∃ z, z = h211.size := ⟨_, rfl⟩
      have ge_b212 : n0 ≤ b212 := Nat.le_trans Z211 (Nat.le_of_eq g212.symm)
      have sz_b212 : h0.size ≤ b212 := Nat.le_trans K211.1 (Nat.le_of_eq g212.symm)
      have R212 : CHr Z consts_1 s.vm h211 s.vm h212 := CHr.ext E212 CR211.1
      have CR212 : CHr Z consts_1 s.vm h0 s.vm h212 := CR211.trans R212
      have hk212 : kc0 ≤ h212.size := Nat.le_trans hk211 E212.1
      have S_b212 : Safe Z consts_1 s.vm h212 b212 := Safe.ext E212 CR211.1 (Safe.new (Nat.le_of_eq g212.symm))
      have K212 : Keep h0 h212 [] := K211.ext E212
      have Z212 : n0 ≤ h212.size := Nat.le_trans Z211 E212.1
      rw [← g212] at A212 D212 st212
      have lt_b212 := A212.lt
      have F_value_b212 : Fld Z h212 b212 "java/lang/String" "value" "[B" .null := D212 (Or.inr (hwd 17 rfl)) (ty := (.array .byte)) (by decide)
      have F_coder_b212 : Fld Z h212 b212 "java/lang/String" "coder" "B" (.int (0 : Int32)) := D212 (Or.inr (hwd 18 rfl)) (ty := .byte) (by decide)
      refine own_by st212 ?_
      show own_Go p e below _ (T212.setTop (mkF m 89 #[vI p0, vI p1, vI p2, vJ q3, .second, vI v1, .unset, vR b201, .unset, .unset, .unset, .unset, .unset] [(.ref b212)]))
      refine own_by (fun _ k => XS.dup X212.here hx rfl (hb hby at_89) rfl rfl k) ?_
      show own_Go p e below _ (T212.setTop (mkF m 90 #[vI p0, vI p1, vI p2, vJ q3, .second, vI v1, .unset, vR b201, .unset, .unset, .unset, .unset, .unset] [(.ref b212), (.ref b212)]))
      refine own_by (fun _ k => XS.aload X212.here hx rfl (hb hby at_90) rfl rfl k) ?_
      have F213 : own_Arf Z h212 b201 k201 .char (2 : Int32) (fun i => .int ((own_upd (own_upd (fun _ => (0 : Int32)) 0 (nar .char o203)) 1 (nar .char o208)) i)) := (V211.ext E212)
      have F214 : Sta Z h212 "java/lang/String" "COMPACT_STRINGS" "Z" (.int f_CS) := ((((P_S_CS.ext E201).wr W206).wr W211).ext E212)
      obtain ⟨_, _, ⟨T215, L215, k215, n215⟩, -, X215, ⟨Lc215, hQ215, l215, y215, z215⟩, st215⟩ := X212.specialBack hx (y := (⟨"java/lang/String", "<init>", "([C)V"⟩ : MethodName)) rfl hown (mvT hZ (hwd 40 rfl)) (mvT hZ (hwd 41 rfl)) (mvT hZ (hwd 42 rfl)) (by decide) (backOf (W := 1) (rmsi2 l Z A0 hw [] k201 (own_upd (own_upd (fun _ => (0 : Int32)) 0 (nar .char o203)) 1 (nar .char o208)) f_CS b212 b201 (0 : Int32) (.null) h212 n0 Z212 F213 F214 hn_CS (ob_0_27 f_CS f_SF p0 v1 o203 o208 hn_CS hr_f_SF hv1 c2 c42 c96 c150 c200 hp204 hp209) (ob_0_28 f_CS f_SF p0 v1 o203 o208 hn_CS hr_f_SF hv1 c2 c42 c96 c150 c200 hp204 hp209) A212 F_coder_b212 F_value_b212 ge_b212) hZ (hwd 42 rfl) (hwd 14 rfl) (by decide) (by decide)) (g := (mkF m 92 #[vI p0, vI p1, vI p2, vJ q3, .second, vI v1, .unset, vR b201, .unset, .unset, .unset, .unset, .unset] [(.ref b201), (.ref b212), (.ref b212)])) rfl (by rw [hml]; rfl) (Steps.refl _) (a := b212) (argsL := [(.ref b201)]) (rest := [(.ref b212)]) (lenOf pd_40 rfl) rfl (by show 2 * 0 + _ ≤ _; exact Nat.le_of_eq rfl) (hb hby at_92) (fun _ _ => ⟨rfl, e212, (by decide : 2 + 1 ≤ _), (by decide : 6 + 2 ≤ _)⟩)
      dsimp only [Pt.U, Pt.locs, Pt.cells, Pt.slots] at X215 l215 y215 z215 st215 hQ215
      subst l215 y215 z215
      obtain ⟨b216, b217, rfl, Nq215, Kq215, F218, F219, F220, hp221, hp222, F223⟩ := hQ215
      have N215 := Fr.app N211 Nq215
      have R215 : CHr Z consts_1 s.vm h212 s.vm T215.heap := CHr.keep Kq215 ((allS S_b212 all0)) CR212.1
      have CR215 : CHr Z consts_1 s.vm h0 s.vm T215.heap := CR212.trans R215
      have hk215 : kc0 ≤ T215.heap.size := Nat.le_trans hk212 Kq215.1
      have K215 : Keep h0 T215.heap [] := K212.trans Kq215 ((allS (Or.inr sz_b212) all0))
      have Z215 : n0 ≤ T215.heap.size := Nat.le_trans Z212 Kq215.1
      have sz_b216 : h0.size ≤ b216 := Nat.le_trans K212.1 hp222
      have S_b216 : Safe Z consts_1 s.vm T215.heap b216 := Safe.keep Kq215 ((allS S_b212 all0)) CR212.1 (Safe.new hp222)
      have lt_b216 := F223.lt
      refine own_by (fun _ k => st215.trans k) ?_
      show own_Go p e below _ (T215.setTop (mkF m 95 #[vI p0, vI p1, vI p2, vJ q3, .second, vI v1, .unset, vR b201, .unset, .unset, .unset, .unset, .unset] [(.ref b212)]))
      refine own_by (fun _ k => XS.astore X215.here hx rfl (hb hby at_95) rfl rfl (l' := #[vI p0, vI p1, vI p2, vJ q3, .second, vI v1, vR b212, vR b201, .unset, .unset, .unset, .unset, .unset]) rfl k) ?_
      show own_Go p e below _ (T215.setTop (mkF m 97 #[vI p0, vI p1, vI p2, vJ q3, .second, vI v1, vR b212, vR b201, .unset, .unset, .unset, .unset, .unset] []))
      refine own_by (fun _ k => XS.goto X215.here hx rfl (pc0 := 97) (pc' := 257) rfl (hb hby at_97) (by decide) (by decide) k) ?_
      show own_Go p e below _ (T215.setTop (mkF m 257 #[vI p0, vI p1, vI p2, vJ q3, .second, vI v1, vR b212, vR b201, .unset, .unset, .unset, .unset, .unset] []))
      refine own_by (fun _ k => XS.aload X215.here hx rfl (hb hby at_257) rfl rfl k) ?_
      refine own_by (fun _ k => XS.ifnullNo X215.here hx rfl (hb hby at_259) rfl k) ?_
      show own_Go p e below _ (T215.setTop (mkF m 262 #[vI p0, vI p1, vI p2, vJ q3, .second, vI v1, vR b212, vR b201, .unset, .unset, .unset, .unset, .unset] []))
      refine own_by (fun _ k => XS.aload X215.here hx rfl (hb hby at_262) rfl rfl k) ?_
      have F224 : Sta Z T215.heap "java/lang/String" "COMPACT_STRINGS" "Z" (.int f_CS) := (own_staKeep F214 Kq215 (allS (own_exaPlain A212) all0))
      obtain ⟨cq225, kq225, qq225a, qq225b, qq225c⟩ := isOf hZ rfl F218
      obtain ⟨_, _, ⟨T225, L225, k225, n225⟩, -, X225, ⟨Lc225, hQ225, l225, y225, z225⟩, st225⟩ := X215.virtualBack hx (y := (⟨"java/lang/String", "length", "()I"⟩ : MethodName)) (z := (⟨"java/lang/String", "length", "()I"⟩ : MethodName)) hown (mvT hZ (hwd 61 rfl)) (mvT hZ (hwd 62 rfl)) (notFace_of_selects (args := #[]) (mvT hZ (hwd 64 rfl))) (mvT hZ (hwd 64 rfl)) (mvT hZ (hwd 63 rfl)) (by decide) (backOf (W := 0) (rmlen2 l Z A0 hw [] b216 b217 (own_upd (own_upd (fun _ => (0 : Int32)) 0 (nar .byte ((nar .char o203).toInt8.toInt32))) 1 (nar .byte ((nar .char o208).toInt8.toInt32))) f_CS b212 T215.heap n0 Z215 F218 F219 F220 F223 F224 hn_CS) hZ (hwd 65 rfl) (hwd 14 rfl) (by decide) (by decide)) qq225a qq225c (g := (mkF m 264 #[vI p0, vI p1, vI p2, vJ q3, .second, vI v1, vR b212, vR b201, .unset, .unset, .unset, .unset, .unset] [(.ref b212)])) rfl (by rw [hml]; rfl) (Steps.refl _) (argsL := []) (rest := []) (lenOf pd_61 rfl) rfl (by show 2 * 0 + _ ≤ _; exact Nat.le_of_eq rfl) (hb hby at_264) (fun _ _ => ⟨rfl, rfl, (by decide : 3 + 0 ≤ _), (by decide : 8 + 0 ≤ _)⟩)
      dsimp only [Pt.U, Pt.locs, Pt.cells, Pt.slots] at X225 l225 y225 z225 st225 hQ225
      subst l225 y225 z225
      obtain ⟨rfl, Nq225, eq225⟩ := hQ225
      have N225 := Fr.app N215 Nq225
      refine own_by (fun _ k => st225.trans k) ?_
      show own_Go p e below _ (T225.setTop (mkF m 267 #[vI p0, vI p1, vI p2, vJ q3, .second, vI v1, vR b212, vR b201, .unset, .unset, .unset, .unset, .unset] [(.int (2 : Int32))]))
      refine own_by (fun _ k => XS.iconst X225.here hx rfl (hb hby at_267) k) ?_
      refine own_by (fun _ k => XS.icmpYes X225.here hx rfl (pc0 := 268) (pc' := 308) rfl (hb hby at_268) rfl (feq (by decide : ¬ ((2 : Int32) = (3 : Int32)))).2 (by decide) (by decide) k) ?_
      show own_Go p e below _ (T225.setTop (mkF m 308 #[vI p0, vI p1, vI p2, vJ q3, .second, vI v1, vR b212, vR b201, .unset, .unset, .unset, .unset, .unset] []))
      refine own_by (fun _ k => XS.iconst X225.here hx rfl (hb hby at_308) k) ?_
      refine own_by (fun _ k => XS.istore X225.here hx rfl (hb hby at_309) rfl (l' := #[vI p0, vI p1, vI p2, vJ q3, .second, vI v1, vR b212, vI (0 : Int32), .unset, .unset, .unset, .unset, .unset]) rfl k) ?_
      show own_Go p e below _ (T225.setTop (mkF m 311 #[vI p0, vI p1, vI p2, vJ q3, .second, vI v1, vR b212, vI (0 : Int32), .unset, .unset, .unset, .unset, .unset] []))
      refine own_by (fun _ k => XS.iloadN X225.here hx rfl (hb hby at_311) rfl k) ?_
      refine own_by (fun _ k => XS.bipush X225.here hx rfl (hb hby at_312) k) ?_
      refine own_by (fun _ k => XS.iand X225.here hx rfl (hb hby at_314) rfl k) ?_
      show own_Go p e below _ (T225.setTop (mkF m 315 #[vI p0, vI p1, vI p2, vJ q3, .second, vI v1, vR b212, vI (0 : Int32), .unset, .unset, .unset, .unset, .unset] [(.int (p1 &&& (7 : Int32)))]))
      refine own_by (fun _ k => XS.istore X225.here hx rfl (hb hby at_315) rfl (l' := #[vI p0, vI p1, vI p2, vJ q3, .second, vI v1, vR b212, vI (0 : Int32), vI (p1 &&& (7 : Int32)), .unset, .unset, .unset, .unset]) rfl k) ?_
      show own_Go p e below _ (T225.setTop (mkF m 317 #[vI p0, vI p1, vI p2, vJ q3, .second, vI v1, vR b212, vI (0 : Int32), vI (p1 &&& (7 : Int32)), .unset, .unset, .unset, .unset] []))
      generalize hv226 : (p1 &&& (7 : Int32)) = v226
      show own_Go p e below _ (T225.setTop (mkF m 317 #[vI p0, vI p1, vI p2, vJ q3, .second, vI v1, vR b212, vI (0 : Int32), vI v226, .unset, .unset, .unset, .unset] []))
      refine own_by (fun _ k => XS.iload X225.here hx rfl (hb hby at_317) rfl k) ?_
      have J234 : ∀ (T235 : State) (L236 : List Loc) (z240 : Int32), Stand p l e room_1 (s.setVm s.vm) m #[(.int p0), (.int p1), (.int p2), (.long q3)] below meth c T235 L236 3 8 → T235.heap = T215.heap → Fr n0 L236 → (((v226 = (0 : Int32)) ∧ z240 = (13 : Int32)) ∨ ((¬ (v226 = (0 : Int32))) ∧ (v226 = (1 : Int32)) ∧ z240 = (10 : Int32)) ∨ ((¬ (v226 = (0 : Int32))) ∧ (¬ (v226 = (1 : Int32))) ∧ (v226 = (2 : Int32)) ∧ z240 = (133 : Int32)) ∨ ((¬ (v226 = (0 : Int32))) ∧ (¬ (v226 = (1 : Int32))) ∧ (¬ (v226 = (2 : Int32))) ∧ (v226 = (3 : Int32)) ∧ z240 = (8232 : Int32)) ∨ ((¬ (v226 = (0 : Int32))) ∧ (¬ (v226 = (1 : Int32))) ∧ (¬ (v226 = (2 : Int32))) ∧ (¬ (v226 = (3 : Int32))) ∧ (v226 = (4 : Int32)) ∧ z240 = (8233 : Int32)) ∨ ((¬ (v226 = (0 : Int32))) ∧ (¬ (v226 = (1 : Int32))) ∧ (¬ (v226 = (2 : Int32))) ∧ (¬ (v226 = (3 : Int32))) ∧ (¬ (v226 = (4 : Int32))) ∧ (v226 = (5 : Int32)) ∧ z240 = (12 : Int32)) ∨ (∃ (v233 : Int32), (¬ (v226 = (0 : Int32))) ∧ (¬ (v226 = (1 : Int32))) ∧ (¬ (v226 = (2 : Int32))) ∧ (¬ (v226 = (3 : Int32))) ∧ (¬ (v226 = (4 : Int32))) ∧ (¬ (v226 = (5 : Int32))) ∧ ((p2 &&& (65535 : Int32)) = v233) ∧ z240 = v233)) → own_Go p e below (own_FinW Z consts_1 s 24 4224 (Q0 Z f_CS f_SF p0 p1 p2 q3 h0 n0)) (T235.setTop (mkF m 403 #[vI p0, vI p1, vI p2, vJ q3, .second, vI v1, vR b212, vI (0 : Int32), vI v226, vI z240, .unset, .unset, .unset] [])) := by
       intro T235 L236 z240 X237 e238 N239 hj241
       refine own_by (fun _ k => XS.iload X237.here hx rfl (hb hby at_403) rfl k) ?_
       refine own_by (fun _ k => XS.i2c X237.here hx rfl (hb hby at_405) rfl k) ?_
       show own_Go p e below _ (T235.setTop (mkF m 406 #[vI p0, vI p1, vI p2, vJ q3, .second, vI v1, vR b212, vI (0 : Int32), vI v226, vI z240, .unset, .unset, .unset] [(.int (z240.toUInt32.toUInt16.toUInt32.toInt32))]))
       refine own_by (fun _ k => XS.istore X237.here hx rfl (hb hby at_406) rfl (l' := #[vI p0, vI p1, vI p2, vJ q3, .second, vI v1, vR b212, vI (0 : Int32), vI v226, vI z240, vI (z240.toUInt32.toUInt16.toUInt32.toInt32), .unset, .unset]) rfl k) ?_
       show own_Go p e below _ (T235.setTop (mkF m 408 #[vI p0, vI p1, vI p2, vJ q3, .second, vI v1, vR b212, vI (0 : Int32), vI v226, vI z240, vI (z240.toUInt32.toUInt16.toUInt32.toInt32), .unset, .unset] []))
       generalize hv242 : (z240.toUInt32.toUInt16.toUInt32.toInt32) = v242
       show own_Go p e below _ (T235.setTop (mkF m 408 #[vI p0, vI p1, vI p2, vJ q3, .second, vI v1, vR b212, vI (0 : Int32), vI v226, vI z240, vI v242, .unset, .unset] []))
       refine own_by (fun _ k => XS.iload X237.here hx rfl (hb hby at_408) rfl k) ?_
       have J247 : ∀ (T248 : State) (L249 : List Loc) (z253 : Int32), Stand p l e room_1 (s.setVm s.vm) m #[(.int p0), (.int p1), (.int p2), (.long q3)] below meth c T248 L249 3 8 → T248.heap = T215.heap → Fr n0 L249 → (((z240 = (10 : Int32)) ∧ z253 = (1 : Int32)) ∨ ((¬ (z240 = (10 : Int32))) ∧ (z240 = (13 : Int32)) ∧ z253 = (1 : Int32)) ∨ ((¬ (z240 = (10 : Int32))) ∧ (¬ (z240 = (13 : Int32))) ∧ (z240 = (133 : Int32)) ∧ z253 = (0 : Int32)) ∨ ((¬ (z240 = (10 : Int32))) ∧ (¬ (z240 = (13 : Int32))) ∧ (¬ (z240 = (133 : Int32))) ∧ (z240 = (8232 : Int32)) ∧ z253 = (0 : Int32)) ∨ ((¬ (z240 = (10 : Int32))) ∧ (¬ (z240 = (13 : Int32))) ∧ (¬ (z240 = (133 : Int32))) ∧ (¬ (z240 = (8232 : Int32))) ∧ z253 = (0 : Int32))) → own_Go p e below (own_FinW Z consts_1 s 24 4224 (Q0 Z f_CS f_SF p0 p1 p2 q3 h0 n0)) (T248.setTop (mkF m 468 #[vI p0, vI p1, vI p2, vJ q3, .second, vI v1, vR b212, vI (0 : Int32), vI v226, vI z240, vI v242, vI z253, .unset] [])) := by
        intro T248 L249 z253 X250 e251 N252 hj254
        obtain ⟨T255, h255, X255, e255, E255, A255, D255, -, st255⟩ := newO X250 hx hZ hown (hwd 0 rfl) (hwd 1 rfl) (hwd 2 rfl) e251 (g := (mkF m 468 #[vI p0, vI p1, vI p2, vJ q3, .second, vI v1, vR b212, vI (0 : Int32), vI v226, vI z240, vI v242, vI z253, .unset] [])) rfl (hb hby at_468) (by decide) (by decide)
        obtain ⟨b255, g255⟩ : ∃ z, z = T215.heap.size := ⟨_, rfl⟩
        have ge_b255 : n0 ≤ b255 := Nat.le_trans Z215 (Nat.le_of_eq g255.symm)
        have sz_b255 : h0.size ≤ b255 := Nat.le_trans K215.1 (Nat.le_of_eq g255.symm)
        have R255 : CHr Z consts_1 s.vm T215.heap s.vm h255 := CHr.ext E255 CR215.1
        have CR255 : CHr Z consts_1 s.vm h0 s.vm h255 := CR215.trans R255
        have hk255 : kc0 ≤ h255.size := Nat.le_trans hk215 E255.1
        have S_b255 : Safe Z consts_1 s.vm h255 b255 := Safe.ext E255 CR215.1 (Safe.new (Nat.le_of_eq g255.symm))
        have K255 : Keep h0 h255 [] := K215.ext E255
        have Z255 : n0 ≤ h255.size := Nat.le_trans Z215 E255.1
        rw [← g255] at A255 D255 st255
        have lt_b255 := A255.lt
        have F_line_b255 : Fld Z h255 b255 "com/example/margay/margay/index/LineCounter" "line" "I" (.int (0 : Int32)) := D255 (Or.inl (hwd 10 rfl)) (ty := .int) (by decide)
        have F_column_b255 : Fld Z h255 b255 "com/example/margay/margay/index/LineCounter" "column" "I" (.int (0 : Int32)) := D255 (Or.inl (hwd 12 rfl)) (ty := .int) (by decide)
        have F_xml11_b255 : Fld Z h255 b255 "com/example/margay/margay/index/LineCounter" "xml11" "Z" (.int (0 : Int32)) := D255 (Or.inr (hwd 27 rfl)) (ty := .boolean) (by decide)
        refine own_by st255 ?_
        show own_Go p e below _ (T255.setTop (mkF m 471 #[vI p0, vI p1, vI p2, vJ q3, .second, vI v1, vR b212, vI (0 : Int32), vI v226, vI z240, vI v242, vI z253, .unset] [(.ref b255)]))
        refine own_by (fun _ k => XS.dup X255.here hx rfl (hb hby at_471) rfl rfl k) ?_
        show own_Go p e below _ (T255.setTop (mkF m 472 #[vI p0, vI p1, vI p2, vJ q3, .second, vI v1, vR b212, vI (0 : Int32), vI v226, vI z240, vI v242, vI z253, .unset] [(.ref b255), (.ref b255)]))
        refine own_by (fun _ k => XS.aload X255.here hx rfl (hb hby at_472) rfl rfl k) ?_
        have F256 : Exa Z h255 b212 "java/lang/String" := (F218.ext E255)
        have F257 : Fld Z h255 b212 "java/lang/String" "coder" "B" (.int (0 : Int32)) := (F219.ext E255)
        have F258 : Fld Z h255 b212 "java/lang/String" "value" "[B" (.ref b216) := (F220.ext E255)
        have F259 : own_Arf Z h255 b216 b217 .byte (2 : Int32) (fun i => .int ((own_upd (own_upd (fun _ => (0 : Int32)) 0 (nar .byte ((nar .char o203).toInt8.toInt32))) 1 (nar .byte ((nar .char o208).toInt8.toInt32))) i)) := (F223.ext E255)
        have F260 : Sta Z h255 "java/lang/String" "COMPACT_STRINGS" "Z" (.int f_CS) := (F224.ext E255)
        obtain ⟨_, _, ⟨T261, L261, k261, n261⟩, -, X261', hSq261, hgr261, ⟨Lc261, hQ261, l261, y261, z261, R261⟩, st261⟩ := X255.specialBackS hx (y := (⟨"com/example/margay/margay/index/LineCounter", "<init>", "(Ljava/lang/String;)V"⟩ : MethodName)) rfl hown (mvT hZ (hwd 3 rfl)) (mvT hZ (hwd 4 rfl)) (mvT hZ (hwd 5 rfl)) (by decide) (backOfSH (W := 1) (rmlcR2 l Z A0 hw [] b216 b217 (own_upd (own_upd (fun _ => (0 : Int32)) 0 (nar .byte ((nar .char o203).toInt8.toInt32))) 1 (nar .byte ((nar .char o208).toInt8.toInt32))) f_CS b255 b212 (0 : Int32) (0 : Int32) (0 : Int32) h255 n0 Z255 F256 F257 F258 F259 F260 hn_CS A255 F_line_b255 ge_b255 F_column_b255 F_xml11_b255) hZ (hwd 5 rfl) (hwd 2 rfl) (by decide) (by decide) hEL CR255.1) (g := (mkF m 474 #[vI p0, vI p1, vI p2, vJ q3, .second, vI v1, vR b212, vI (0 : Int32), vI v226, vI z240, vI v242, vI z253, .unset] [(.ref b212), (.ref b255), (.ref b255)])) rfl (by rw [hml]; rfl) (Steps.refl _) (a := b255) (argsL := [(.ref b212)]) (rest := [(.ref b255)]) (lenOf pd_3 rfl) rfl (by show 2 * 0 + _ ≤ _; exact Nat.le_of_eq rfl) (hb hby at_474) (fun _ _ => ⟨rfl, e255, (by decide : 4 + 2 ≤ _), (by decide : 12 + 16 ≤ _)⟩)
        dsimp only [Pt.U, Pt.locs, Pt.cells, Pt.slots] at X261' l261 y261 z261 st261 hQ261 hSq261 hgr261 R261
        subst l261 y261 z261
        obtain ⟨X261, hS, hZ, hown⟩ := rebS hS (by rw [e255]; exact hk255) X261' hSq261 hgr261 hZ hown
        obtain ⟨kc261, hkc261⟩ : ∃ z, z = T261.heap.size := ⟨_, rfl⟩
        rw [← hkc261] at hS
        have hk261 : kc261 ≤ T261.heap.size := Nat.le_of_eq hkc261
        have CR261 : CHr Z consts_1 s.vm h0 T261.vm T261.heap := CR255.trans R261
        obtain ⟨o262, rfl, Nq261, Kq261, F263, F264, F265, F266, hp267⟩ := hQ261
        have N261 := Fr.app N252 Nq261
        have K261 : Keep h0 T261.heap [] := K255.trans Kq261 ((allS (Or.inr sz_b255) all0))
        have Z261 : n0 ≤ T261.heap.size := Nat.le_trans Z255 Kq261.1
        refine own_by (fun _ k => st261.trans k) ?_
        show own_Go p e below _ (T261.setTop (mkF m 477 #[vI p0, vI p1, vI p2, vJ q3, .second, vI v1, vR b212, vI (0 : Int32), vI v226, vI z240, vI v242, vI z253, .unset] [(.ref b255)]))
        refine own_by (fun _ k => XS.astore X261.here hx rfl (hb hby at_477) rfl rfl (l' := #[vI p0, vI p1, vI p2, vJ q3, .second, vI v1, vR b212, vI (0 : Int32), vI v226, vI z240, vI v242, vI z253, vR b255]) rfl k) ?_
        show own_Go p e below _ (T261.setTop (mkF m 479 #[vI p0, vI p1, vI p2, vJ q3, .second, vI v1, vR b212, vI (0 : Int32), vI v226, vI z240, vI v242, vI z253, vR b255] []))
        refine own_by (fun _ k => XS.aload X261.here hx rfl (hb hby at_479) rfl rfl k) ?_
        refine own_by (fun _ k => XS.iload X261.here hx rfl (hb hby at_481) rfl k) ?_
        obtain ⟨cq268, kq268, qq268a, qq268b, qq268c⟩ := isOf hZ rfl F263
        obtain ⟨_, _, ⟨T268, L268, k268, n268⟩, -, X268, ⟨Lc268, hQ268, l268, y268, z268⟩, st268⟩ := X261.virtualBack hx (y := (⟨"com/example/margay/margay/index/LineCounter", "endsLine", "(C)Z"⟩ : MethodName)) (z := (⟨"com/example/margay/margay/index/LineCounter", "endsLine", "(C)Z"⟩ : MethodName)) hown (mvT hZ (hwd 28 rfl)) (mvT hZ (hwd 29 rfl)) (notFace_of_selects (args := #[]) (mvT hZ (hwd 31 rfl))) (mvT hZ (hwd 31 rfl)) (mvT hZ (hwd 30 rfl)) (by decide) (backOf (W := 0) (rm4 l Z A0 hw [] b255 v242 o262 T261.heap n0 Z261 F266) hZ (hwd 32 rfl) (hwd 2 rfl) (by decide) (by decide)) qq268a qq268c (g := (mkF m 483 #[vI p0, vI p1, vI p2, vJ q3, .second, vI v1, vR b212, vI (0 : Int32), vI v226, vI z240, vI v242, vI z253, vR b255] [(.int v242), (.ref b255)])) rfl (by rw [hml]; rfl) (Steps.refl _) (argsL := [(.int v242)]) (rest := []) (lenOf pd_28 rfl) rfl (by show 2 * 0 + _ ≤ _; exact Nat.le_of_eq rfl) (hb hby at_483) (fun _ _ => ⟨rfl, rfl, (by decide : 6 + 0 ≤ _), (by decide : 28 + 0 ≤ _)⟩)
        dsimp only [Pt.U, Pt.locs, Pt.cells, Pt.slots] at X268 l268 y268 z268 st268 hQ268
        subst l268 y268 z268
        obtain ⟨o269, rfl, Nq268, eq268, hp270⟩ := hQ268
        have N268 := Fr.app N261 Nq268
        refine own_by (fun _ k => st268.trans k) ?_
        show own_Go p e below _ (T268.setTop (mkF m 486 #[vI p0, vI p1, vI p2, vJ q3, .second, vI v1, vR b212, vI (0 : Int32), vI v226, vI z240, vI v242, vI z253, vR b255] [(.int o269)]))
        refine own_by (fun _ k => XS.iload X268.here hx rfl (hb hby at_486) rfl k) ?_
        by_cases c271 : o269 = z253
        ·skip
         refine own_by (fun _ k => XS.icmpNo X268.here hx rfl (hb hby at_488) rfl (teq c271).2 k) ?_
         show own_Go p e below _ (T268.setTop (mkF m 491 #[vI p0, vI p1, vI p2, vJ q3, .second, vI v1, vR b212, vI (0 : Int32), vI v226, vI z240, vI v242, vI z253, vR b255] []))
         refine own_by (fun _ k => XS.iconst X268.here hx rfl (hb hby at_491) k) ?_
         refine own_by (fun _ k => XS.goto X268.here hx rfl (pc0 := 492) (pc' := 496) rfl (hb hby at_492) (by decide) (by decide) k) ?_
         show own_Go p e below _ (T268.setTop (mkF m 496 #[vI p0, vI p1, vI p2, vJ q3, .second, vI v1, vR b212, vI (0 : Int32), vI v226, vI z240, vI v242, vI z253, vR b255] [(.int (1 : Int32))]))
         exact own_retNW X268 hx hS hk261 hZ hEL hh CR261 (t := .boolean) Bd.returns (by simp) (hb hby at_496) hlk eq268 ⟨rfl, N268⟩ (by decide) (by decide)
        ·skip
         refine own_by (fun _ k => XS.icmpYes X268.here hx rfl (pc0 := 488) (pc' := 495) rfl (hb hby at_488) rfl (feq c271).2 (by decide) (by decide) k) ?_
         show own_Go p e below _ (T268.setTop (mkF m 495 #[vI p0, vI p1, vI p2, vJ q3, .second, vI v1, vR b212, vI (0 : Int32), vI v226, vI z240, vI v242, vI z253, vR b255] []))
         refine own_by (fun _ k => XS.iconst X268.here hx rfl (hb hby at_495) k) ?_
         exact own_retNW X268 hx hS hk261 hZ hEL hh CR261 (t := .boolean) Bd.returns (by simp) (hb hby at_496) hlk eq268 ⟨((ob_0_29 f_CS f_SF p0 p1 p2 v1 o203 o208 v226 z240 v242 z253 o262 o269 hn_CS hr_f_SF hv1 c2 c42 c96 c150 c200 hp204 hp209 hv226 hj241 hv242 hj254 hp267 hp270 c271)).elim, N268⟩ (by decide) (by decide)
       by_cases c243 : z240 = (10 : Int32)
       ·skip
        refine own_by (fun t q => X237.lookupswitchHit hx (g := (mkF m 410 #[vI p0, vI p1, vI p2, vJ q3, .second, vI v1, vR b212, vI (0 : Int32), vI v226, vI z240, vI v242, .unset, .unset] [(.int z240)])) rfl (k := z240) rfl (hb hby at_410) (by decide) (a := 10) (off := 42) (by rw [c243]; rfl) (show (0 : Int) ≤ (410 : Int) + 42 by decide) t q) ?_
        show own_Go p e below _ (T235.setTop (mkF m 452 #[vI p0, vI p1, vI p2, vJ q3, .second, vI v1, vR b212, vI (0 : Int32), vI v226, vI z240, vI v242, .unset, .unset] []))
        refine own_by (fun _ k => XS.iconst X237.here hx rfl (hb hby at_452) k) ?_
        refine own_by (fun _ k => XS.istore X237.here hx rfl (hb hby at_453) rfl (l' := #[vI p0, vI p1, vI p2, vJ q3, .second, vI v1, vR b212, vI (0 : Int32), vI v226, vI z240, vI v242, vI (1 : Int32), .unset]) rfl k) ?_
        show own_Go p e below _ (T235.setTop (mkF m 455 #[vI p0, vI p1, vI p2, vJ q3, .second, vI v1, vR b212, vI (0 : Int32), vI v226, vI z240, vI v242, vI (1 : Int32), .unset] []))
        refine own_by (fun _ k => XS.goto X237.here hx rfl (pc0 := 455) (pc' := 468) rfl (hb hby at_455) (by decide) (by decide) k) ?_
        show own_Go p e below _ (T235.setTop (mkF m 468 #[vI p0, vI p1, vI p2, vJ q3, .second, vI v1, vR b212, vI (0 : Int32), vI v226, vI z240, vI v242, vI (1 : Int32), .unset] []))
        exact J247 _ _ (1 : Int32) X237 e238 N239 (Or.inl ⟨c243, rfl⟩)
       ·skip
        by_cases c244 : z240 = (13 : Int32)
        ·skip
         refine own_by (fun t q => X237.lookupswitchHit hx (g := (mkF m 410 #[vI p0, vI p1, vI p2, vJ q3, .second, vI v1, vR b212, vI (0 : Int32), vI v226, vI z240, vI v242, .unset, .unset] [(.int z240)])) rfl (k := z240) rfl (hb hby at_410) (by decide) (a := 13) (off := 42) (by rw [c244]; rfl) (show (0 : Int) ≤ (410 : Int) + 42 by decide) t q) ?_
         show own_Go p e below _ (T235.setTop (mkF m 452 #[vI p0, vI p1, vI p2, vJ q3, .second, vI v1, vR b212, vI (0 : Int32), vI v226, vI z240, vI v242, .unset, .unset] []))
         refine own_by (fun _ k => XS.iconst X237.here hx rfl (hb hby at_452) k) ?_
         refine own_by (fun _ k => XS.istore X237.here hx rfl (hb hby at_453) rfl (l' := #[vI p0, vI p1, vI p2, vJ q3, .second, vI v1, vR b212, vI (0 : Int32), vI v226, vI z240, vI v242, vI (1 : Int32), .unset]) rfl k) ?_
         show own_Go p e below _ (T235.setTop (mkF m 455 #[vI p0, vI p1, vI p2, vJ q3, .second, vI v1, vR b212, vI (0 : Int32), vI v226, vI z240, vI v242, vI (1 : Int32), .unset] []))
         refine own_by (fun _ k => XS.goto X237.here hx rfl (pc0 := 455) (pc' := 468) rfl (hb hby at_455) (by decide) (by decide) k) ?_
         show own_Go p e below _ (T235.setTop (mkF m 468 #[vI p0, vI p1, vI p2, vJ q3, .second, vI v1, vR b212, vI (0 : Int32), vI v226, vI z240, vI v242, vI (1 : Int32), .unset] []))
         exact J247 _ _ (1 : Int32) X237 e238 N239 (Or.inr (Or.inl ⟨c243, c244, rfl⟩))
        ·skip
         by_cases c245 : z240 = (133 : Int32)
         ·skip
          refine own_by (fun t q => X237.lookupswitchHit hx (g := (mkF m 410 #[vI p0, vI p1, vI p2, vJ q3, .second, vI v1, vR b212, vI (0 : Int32), vI v226, vI z240, vI v242, .unset, .unset] [(.int z240)])) rfl (k := z240) rfl (hb hby at_410) (by decide) (a := 133) (off := 48) (by rw [c245]; rfl) (show (0 : Int) ≤ (410 : Int) + 48 by decide) t q) ?_
          show own_Go p e below _ (T235.setTop (mkF m 458 #[vI p0, vI p1, vI p2, vJ q3, .second, vI v1, vR b212, vI (0 : Int32), vI v226, vI z240, vI v242, .unset, .unset] []))
          refine own_by (fun _ k => XS.iload X237.here hx rfl (hb hby at_458) rfl k) ?_
          refine own_by (fun _ k => XS.istore X237.here hx rfl (hb hby at_460) rfl (l' := #[vI p0, vI p1, vI p2, vJ q3, .second, vI v1, vR b212, vI (0 : Int32), vI v226, vI z240, vI v242, vI (0 : Int32), .unset]) rfl k) ?_
          show own_Go p e below _ (T235.setTop (mkF m 462 #[vI p0, vI p1, vI p2, vJ q3, .second, vI v1, vR b212, vI (0 : Int32), vI v226, vI z240, vI v242, vI (0 : Int32), .unset] []))
          refine own_by (fun _ k => XS.goto X237.here hx rfl (pc0 := 462) (pc' := 468) rfl (hb hby at_462) (by decide) (by decide) k) ?_
          show own_Go p e below _ (T235.setTop (mkF m 468 #[vI p0, vI p1, vI p2, vJ q3, .second, vI v1, vR b212, vI (0 : Int32), vI v226, vI z240, vI v242, vI (0 : Int32), .unset] []))
          exact J247 _ _ (0 : Int32) X237 e238 N239 (Or.inr (Or.inr (Or.inl ⟨c243, c244, c245, rfl⟩)))
         ·skip
          by_cases c246 : z240 = (8232 : Int32)
          ·skip
           refine own_by (fun t q => X237.lookupswitchHit hx (g := (mkF m 410 #[vI p0, vI p1, vI p2, vJ q3, .second, vI v1, vR b212, vI (0 : Int32), vI v226, vI z240, vI v242, .unset, .unset] [(.int z240)])) rfl (k := z240) rfl (hb hby at_410) (by decide) (a := 8232) (off := 48) (by rw [c246]; rfl) (show (0 : Int) ≤ (410 : Int) + 48 by decide) t q) ?_
           show own_Go p e below _ (T235.setTop (mkF m 458 #[vI p0, vI p1, vI p2, vJ q3, .second, vI v1, vR b212, vI (0 : Int32), vI v226, vI z240, vI v242, .unset, .unset] []))
           refine own_by (fun _ k => XS.iload X237.here hx rfl (hb hby at_458) rfl k) ?_
           refine own_by (fun _ k => XS.istore X237.here hx rfl (hb hby at_460) rfl (l' := #[vI p0, vI p1, vI p2, vJ q3, .second, vI v1, vR b212, vI (0 : Int32), vI v226, vI z240, vI v242, vI (0 : Int32), .unset]) rfl k) ?_
           show own_Go p e below _ (T235.setTop (mkF m 462 #[vI p0, vI p1, vI p2, vJ q3, .second, vI v1, vR b212, vI (0 : Int32), vI v226, vI z240, vI v242, vI (0 : Int32), .unset] []))
           refine own_by (fun _ k => XS.goto X237.here hx rfl (pc0 := 462) (pc' := 468) rfl (hb hby at_462) (by decide) (by decide) k) ?_
           show own_Go p e below _ (T235.setTop (mkF m 468 #[vI p0, vI p1, vI p2, vJ q3, .second, vI v1, vR b212, vI (0 : Int32), vI v226, vI z240, vI v242, vI (0 : Int32), .unset] []))
           exact J247 _ _ (0 : Int32) X237 e238 N239 (Or.inr (Or.inr (Or.inr (Or.inl ⟨c243, c244, c245, c246, rfl⟩))))
          ·skip
           refine own_by (fun t q => X237.lookupswitchMiss hx (g := (mkF m 410 #[vI p0, vI p1, vI p2, vJ q3, .second, vI v1, vR b212, vI (0 : Int32), vI v226, vI z240, vI v242, .unset, .unset] [(.int z240)])) rfl (k := z240) rfl (hb hby at_410) (by decide) (by simp [own_swn z240 (a := (10 : Int32)) (A := 10) rfl c243, own_swn z240 (a := (13 : Int32)) (A := 13) rfl c244, own_swn z240 (a := (133 : Int32)) (A := 133) rfl c245, own_swn z240 (a := (8232 : Int32)) (A := 8232) rfl c246]) (show (0 : Int) ≤ (410 : Int) + 55 by decide) t q) ?_
           show own_Go p e below _ (T235.setTop (mkF m 465 #[vI p0, vI p1, vI p2, vJ q3, .second, vI v1, vR b212, vI (0 : Int32), vI v226, vI z240, vI v242, .unset, .unset] []))
           refine own_by (fun _ k => XS.iconst X237.here hx rfl (hb hby at_465) k) ?_
           refine own_by (fun _ k => XS.istore X237.here hx rfl (hb hby at_466) rfl (l' := #[vI p0, vI p1, vI p2, vJ q3, .second, vI v1, vR b212, vI (0 : Int32), vI v226, vI z240, vI v242, vI (0 : Int32), .unset]) rfl k) ?_
           show own_Go p e below _ (T235.setTop (mkF m 468 #[vI p0, vI p1, vI p2, vJ q3, .second, vI v1, vR b212, vI (0 : Int32), vI v226, vI z240, vI v242, vI (0 : Int32), .unset] []))
           exact J247 _ _ (0 : Int32) X237 e238 N239 (Or.inr (Or.inr (Or.inr (Or.inr (⟨c243, c244, c245, c246, rfl⟩)))))
      by_cases c227 : v226 = (0 : Int32)
      ·skip
       refine own_by (fun _ k => XS.ifNo X225.here hx rfl (hb hby at_319) rfl ((if0 _ _).trans (teq c227).2) k) ?_
       show own_Go p e below _ (T225.setTop (mkF m 322 #[vI p0, vI p1, vI p2, vJ q3, .second, vI v1, vR b212, vI (0 : Int32), vI v226, .unset, .unset, .unset, .unset] []))
       refine own_by (fun _ k => XS.bipush X225.here hx rfl (hb hby at_322) k) ?_
       refine own_by (fun _ k => XS.istore X225.here hx rfl (hb hby at_324) rfl (l' := #[vI p0, vI p1, vI p2, vJ q3, .second, vI v1, vR b212, vI (0 : Int32), vI v226, vI (13 : Int32), .unset, .unset, .unset]) rfl k) ?_
       show own_Go p e below _ (T225.setTop (mkF m 326 #[vI p0, vI p1, vI p2, vJ q3, .second, vI v1, vR b212, vI (0 : Int32), vI v226, vI (13 : Int32), .unset, .unset, .unset] []))
       refine own_by (fun _ k => XS.goto X225.here hx rfl (pc0 := 326) (pc' := 403) rfl (hb hby at_326) (by decide) (by decide) k) ?_
       show own_Go p e below _ (T225.setTop (mkF m 403 #[vI p0, vI p1, vI p2, vJ q3, .second, vI v1, vR b212, vI (0 : Int32), vI v226, vI (13 : Int32), .unset, .unset, .unset] []))
       exact J234 _ _ (13 : Int32) X225 eq225 N225 (Or.inl ⟨c227, rfl⟩)
      ·skip
       refine own_by (fun _ k => XS.ifYes X225.here hx rfl (pc0 := 319) (pc' := 329) rfl (hb hby at_319) rfl ((if0 _ _).trans (feq c227).2) (by decide) (by decide) k) ?_
       show own_Go p e below _ (T225.setTop (mkF m 329 #[vI p0, vI p1, vI p2, vJ q3, .second, vI v1, vR b212, vI (0 : Int32), vI v226, .unset, .unset, .unset, .unset] []))
       refine own_by (fun _ k => XS.iload X225.here hx rfl (hb hby at_329) rfl k) ?_
       refine own_by (fun _ k => XS.iconst X225.here hx rfl (hb hby at_331) k) ?_
       by_cases c228 : v226 = (1 : Int32)
       ·skip
        refine own_by (fun _ k => XS.icmpNo X225.here hx rfl (hb hby at_332) rfl (teq c228).2 k) ?_
        show own_Go p e below _ (T225.setTop (mkF m 335 #[vI p0, vI p1, vI p2, vJ q3, .second, vI v1, vR b212, vI (0 : Int32), vI v226, .unset, .unset, .unset, .unset] []))
        refine own_by (fun _ k => XS.bipush X225.here hx rfl (hb hby at_335) k) ?_
        refine own_by (fun _ k => XS.istore X225.here hx rfl (hb hby at_337) rfl (l' := #[vI p0, vI p1, vI p2, vJ q3, .second, vI v1, vR b212, vI (0 : Int32), vI v226, vI (10 : Int32), .unset, .unset, .unset]) rfl k) ?_
        show own_Go p e below _ (T225.setTop (mkF m 339 #[vI p0, vI p1, vI p2, vJ q3, .second, vI v1, vR b212, vI (0 : Int32), vI v226, vI (10 : Int32), .unset, .unset, .unset] []))
        refine own_by (fun _ k => XS.goto X225.here hx rfl (pc0 := 339) (pc' := 403) rfl (hb hby at_339) (by decide) (by decide) k) ?_
        show own_Go p e below _ (T225.setTop (mkF m 403 #[vI p0, vI p1, vI p2, vJ q3, .second, vI v1, vR b212, vI (0 : Int32), vI v226, vI (10 : Int32), .unset, .unset, .unset] []))
        exact J234 _ _ (10 : Int32) X225 eq225 N225 (Or.inr (Or.inl ⟨c227, c228, rfl⟩))
       ·skip
        refine own_by (fun _ k => XS.icmpYes X225.here hx rfl (pc0 := 332) (pc' := 342) rfl (hb hby at_332) rfl (feq c228).2 (by decide) (by decide) k) ?_
        show own_Go p e below _ (T225.setTop (mkF m 342 #[vI p0, vI p1, vI p2, vJ q3, .second, vI v1, vR b212, vI (0 : Int32), vI v226, .unset, .unset, .unset, .unset] []))
        refine own_by (fun _ k => XS.iload X225.here hx rfl (hb hby at_342) rfl k) ?_
        refine own_by (fun _ k => XS.iconst X225.here hx rfl (hb hby at_344) k) ?_
        by_cases c229 : v226 = (2 : Int32)
        ·skip
         refine own_by (fun _ k => XS.icmpNo X225.here hx rfl (hb hby at_345) rfl (teq c229).2 k) ?_
         show own_Go p e below _ (T225.setTop (mkF m 348 #[vI p0, vI p1, vI p2, vJ q3, .second, vI v1, vR b212, vI (0 : Int32), vI v226, .unset, .unset, .unset, .unset] []))
         refine own_by (fun _ k => XS.sipush X225.here hx rfl (hb hby at_348) k) ?_
         refine own_by (fun _ k => XS.istore X225.here hx rfl (hb hby at_351) rfl (l' := #[vI p0, vI p1, vI p2, vJ q3, .second, vI v1, vR b212, vI (0 : Int32), vI v226, vI (133 : Int32), .unset, .unset, .unset]) rfl k) ?_
         show own_Go p e below _ (T225.setTop (mkF m 353 #[vI p0, vI p1, vI p2, vJ q3, .second, vI v1, vR b212, vI (0 : Int32), vI v226, vI (133 : Int32), .unset, .unset, .unset] []))
         refine own_by (fun _ k => XS.goto X225.here hx rfl (pc0 := 353) (pc' := 403) rfl (hb hby at_353) (by decide) (by decide) k) ?_
         show own_Go p e below _ (T225.setTop (mkF m 403 #[vI p0, vI p1, vI p2, vJ q3, .second, vI v1, vR b212, vI (0 : Int32), vI v226, vI (133 : Int32), .unset, .unset, .unset] []))
         exact J234 _ _ (133 : Int32) X225 eq225 N225 (Or.inr (Or.inr (Or.inl ⟨c227, c228, c229, rfl⟩)))
        ·skip
         refine own_by (fun _ k => XS.icmpYes X225.here hx rfl (pc0 := 345) (pc' := 356) rfl (hb hby at_345) rfl (feq c229).2 (by decide) (by decide) k) ?_
         show own_Go p e below _ (T225.setTop (mkF m 356 #[vI p0, vI p1, vI p2, vJ q3, .second, vI v1, vR b212, vI (0 : Int32), vI v226, .unset, .unset, .unset, .unset] []))
         refine own_by (fun _ k => XS.iload X225.here hx rfl (hb hby at_356) rfl k) ?_
         refine own_by (fun _ k => XS.iconst X225.here hx rfl (hb hby at_358) k) ?_
         by_cases c230 : v226 = (3 : Int32)
         ·skip
          refine own_by (fun _ k => XS.icmpNo X225.here hx rfl (hb hby at_359) rfl (teq c230).2 k) ?_
          show own_Go p e below _ (T225.setTop (mkF m 362 #[vI p0, vI p1, vI p2, vJ q3, .second, vI v1, vR b212, vI (0 : Int32), vI v226, .unset, .unset, .unset, .unset] []))
          refine own_by (fun _ k => XS.sipush X225.here hx rfl (hb hby at_362) k) ?_
          refine own_by (fun _ k => XS.istore X225.here hx rfl (hb hby at_365) rfl (l' := #[vI p0, vI p1, vI p2, vJ q3, .second, vI v1, vR b212, vI (0 : Int32), vI v226, vI (8232 : Int32), .unset, .unset, .unset]) rfl k) ?_
          show own_Go p e below _ (T225.setTop (mkF m 367 #[vI p0, vI p1, vI p2, vJ q3, .second, vI v1, vR b212, vI (0 : Int32), vI v226, vI (8232 : Int32), .unset, .unset, .unset] []))
          refine own_by (fun _ k => XS.goto X225.here hx rfl (pc0 := 367) (pc' := 403) rfl (hb hby at_367) (by decide) (by decide) k) ?_
          show own_Go p e below _ (T225.setTop (mkF m 403 #[vI p0, vI p1, vI p2, vJ q3, .second, vI v1, vR b212, vI (0 : Int32), vI v226, vI (8232 : Int32), .unset, .unset, .unset] []))
          exact J234 _ _ (8232 : Int32) X225 eq225 N225 (Or.inr (Or.inr (Or.inr (Or.inl ⟨c227, c228, c229, c230, rfl⟩))))
         ·skip
          refine own_by (fun _ k => XS.icmpYes X225.here hx rfl (pc0 := 359) (pc' := 370) rfl (hb hby at_359) rfl (feq c230).2 (by decide) (by decide) k) ?_
          show own_Go p e below _ (T225.setTop (mkF m 370 #[vI p0, vI p1, vI p2, vJ q3, .second, vI v1, vR b212, vI (0 : Int32), vI v226, .unset, .unset, .unset, .unset] []))
          refine own_by (fun _ k => XS.iload X225.here hx rfl (hb hby at_370) rfl k) ?_
          refine own_by (fun _ k => XS.iconst X225.here hx rfl (hb hby at_372) k) ?_
          by_cases c231 : v226 = (4 : Int32)
          ·skip
           refine own_by (fun _ k => XS.icmpNo X225.here hx rfl (hb hby at_373) rfl (teq c231).2 k) ?_
           show own_Go p e below _ (T225.setTop (mkF m 376 #[vI p0, vI p1, vI p2, vJ q3, .second, vI v1, vR b212, vI (0 : Int32), vI v226, .unset, .unset, .unset, .unset] []))
           refine own_by (fun _ k => XS.sipush X225.here hx rfl (hb hby at_376) k) ?_
           refine own_by (fun _ k => XS.istore X225.here hx rfl (hb hby at_379) rfl (l' := #[vI p0, vI p1, vI p2, vJ q3, .second, vI v1, vR b212, vI (0 : Int32), vI v226, vI (8233 : Int32), .unset, .unset, .unset]) rfl k) ?_
           show own_Go p e below _ (T225.setTop (mkF m 381 #[vI p0, vI p1, vI p2, vJ q3, .second, vI v1, vR b212, vI (0 : Int32), vI v226, vI (8233 : Int32), .unset, .unset, .unset] []))
           refine own_by (fun _ k => XS.goto X225.here hx rfl (pc0 := 381) (pc' := 403) rfl (hb hby at_381) (by decide) (by decide) k) ?_
           show own_Go p e below _ (T225.setTop (mkF m 403 #[vI p0, vI p1, vI p2, vJ q3, .second, vI v1, vR b212, vI (0 : Int32), vI v226, vI (8233 : Int32), .unset, .unset, .unset] []))
           exact J234 _ _ (8233 : Int32) X225 eq225 N225 (Or.inr (Or.inr (Or.inr (Or.inr (Or.inl ⟨c227, c228, c229, c230, c231, rfl⟩)))))
          ·skip
           refine own_by (fun _ k => XS.icmpYes X225.here hx rfl (pc0 := 373) (pc' := 384) rfl (hb hby at_373) rfl (feq c231).2 (by decide) (by decide) k) ?_
           show own_Go p e below _ (T225.setTop (mkF m 384 #[vI p0, vI p1, vI p2, vJ q3, .second, vI v1, vR b212, vI (0 : Int32), vI v226, .unset, .unset, .unset, .unset] []))
           refine own_by (fun _ k => XS.iload X225.here hx rfl (hb hby at_384) rfl k) ?_
           refine own_by (fun _ k => XS.iconst X225.here hx rfl (hb hby at_386) k) ?_
           by_cases c232 : v226 = (5 : Int32)
           ·skip
            refine own_by (fun _ k => XS.icmpNo X225.here hx rfl (hb hby at_387) rfl (teq c232).2 k) ?_
            show own_Go p e below _ (T225.setTop (mkF m 390 #[vI p0, vI p1, vI p2, vJ q3, .second, vI v1, vR b212, vI (0 : Int32), vI v226, .unset, .unset, .unset, .unset] []))
            refine own_by (fun _ k => XS.bipush X225.here hx rfl (hb hby at_390) k) ?_
            refine own_by (fun _ k => XS.istore X225.here hx rfl (hb hby at_392) rfl (l' := #[vI p0, vI p1, vI p2, vJ q3, .second, vI v1, vR b212, vI (0 : Int32), vI v226, vI (12 : Int32), .unset, .unset, .unset]) rfl k) ?_
            show own_Go p e below _ (T225.setTop (mkF m 394 #[vI p0, vI p1, vI p2, vJ q3, .second, vI v1, vR b212, vI (0 : Int32), vI v226, vI (12 : Int32), .unset, .unset, .unset] []))
            refine own_by (fun _ k => XS.goto X225.here hx rfl (pc0 := 394) (pc' := 403) rfl (hb hby at_394) (by decide) (by decide) k) ?_
            show own_Go p e below _ (T225.setTop (mkF m 403 #[vI p0, vI p1, vI p2, vJ q3, .second, vI v1, vR b212, vI (0 : Int32), vI v226, vI (12 : Int32), .unset, .unset, .unset] []))
            exact J234 _ _ (12 : Int32) X225 eq225 N225 (Or.inr (Or.inr (Or.inr (Or.inr (Or.inr (Or.inl ⟨c227, c228, c229, c230, c231, c232, rfl⟩))))))
           ·skip
            refine own_by (fun _ k => XS.icmpYes X225.here hx rfl (pc0 := 387) (pc' := 397) rfl (hb hby at_387) rfl (feq c232).2 (by decide) (by decide) k) ?_
            show own_Go p e below _ (T225.setTop (mkF m 397 #[vI p0, vI p1, vI p2, vJ q3, .second, vI v1, vR b212, vI (0 : Int32), vI v226, .unset, .unset, .unset, .unset] []))
            refine own_by (fun _ k => XS.iloadN X225.here hx rfl (hb hby at_397) rfl k) ?_
            refine own_by (fun t k => X225.ldcInt hx hown (mvT hZ (hwd 99 rfl)) (g := (mkF m 398 #[vI p0, vI p1, vI p2, vJ q3, .second, vI v1, vR b212, vI (0 : Int32), vI v226, .unset, .unset, .unset, .unset] [(.int p2)])) rfl (hb hby at_398) _ k) ?_
            show own_Go p e below _ (T225.setTop (mkF m 400 #[vI p0, vI p1, vI p2, vJ q3, .second, vI v1, vR b212, vI (0 : Int32), vI v226, .unset, .unset, .unset, .unset] [(.int (65535 : Int32)), (.int p2)]))
            refine own_by (fun _ k => XS.iand X225.here hx rfl (hb hby at_400) rfl k) ?_
            show own_Go p e below _ (T225.setTop (mkF m 401 #[vI p0, vI p1, vI p2, vJ q3, .second, vI v1, vR b212, vI (0 : Int32), vI v226, .unset, .unset, .unset, .unset] [(.int (p2 &&& (65535 : Int32)))]))
            refine own_by (fun _ k => XS.istore X225.here hx rfl (hb hby at_401) rfl (l' := #[vI p0, vI p1, vI p2, vJ q3, .second, vI v1, vR b212, vI (0 : Int32), vI v226, vI (p2 &&& (65535 : Int32)), .unset, .unset, .unset]) rfl k) ?_
            show own_Go p e below _ (T225.setTop (mkF m 403 #[vI p0, vI p1, vI p2, vJ q3, .second, vI v1, vR b212, vI (0 : Int32), vI v226, vI (p2 &&& (65535 : Int32)), .unset, .unset, .unset] []))
            generalize hv233 : (p2 &&& (65535 : Int32)) = v233
            show own_Go p e below _ (T225.setTop (mkF m 403 #[vI p0, vI p1, vI p2, vJ q3, .second, vI v1, vR b212, vI (0 : Int32), vI v226, vI v233, .unset, .unset, .unset] []))
            exact J234 _ _ v233 X225 eq225 N225 (Or.inr (Or.inr (Or.inr (Or.inr (Or.inr (Or.inr (⟨v233, c227, c228, c229, c230, c231, c232, hv233, rfl⟩)))))))
     ·skip
      refine own_by (fun _ k => XS.icmpYes X0.here hx rfl (pc0 := 59) (pc' := 100) rfl (hb hby at_59) rfl (feq c200).2 (by decide) (by decide) k) ?_
      show own_Go p e below _ (s₁.setTop (mkF m 100 #[vI p0, vI p1, vI p2, vJ q3, .second, vI v1, .unset, .unset, .unset, .unset, .unset, .unset, .unset] []))
      refine own_by (fun _ k => XS.iload X0.here hx rfl (hb hby at_100) rfl k) ?_
      refine own_by (fun _ k => XS.iconst X0.here hx rfl (hb hby at_102) k) ?_
      by_cases c272 : v1 = (5 : Int32)
      ·skip
       refine own_by (fun _ k => XS.icmpNo X0.here hx rfl (hb hby at_103) rfl (teq c272).2 k) ?_
       show own_Go p e below _ (s₁.setTop (mkF m 106 #[vI p0, vI p1, vI p2, vJ q3, .second, vI v1, .unset, .unset, .unset, .unset, .unset, .unset, .unset] []))
       refine own_by (fun _ k => XS.iconst X0.here hx rfl (hb hby at_106) k) ?_
       obtain ⟨T273, h273, k273, X273, e273, E273, A273, st273⟩ := newP X0 hx hZ (hwd 33 rfl) e0 (g := (mkF m 107 #[vI p0, vI p1, vI p2, vJ q3, .second, vI v1, .unset, .unset, .unset, .unset, .unset, .unset, .unset] [(.int (3 : Int32))])) rfl (hb hby at_107) rfl (by decide) (cap := 3) (by decide) (by decide) (by decide) (by decide)
       obtain ⟨b273, g273⟩ : ∃ z, z = h0.size := ⟨_, rfl⟩
       have ge_b273 : n0 ≤ b273 := Nat.le_trans Z0 (Nat.le_of_eq g273.symm)
       have sz_b273 : h0.size ≤ b273 := Nat.le_trans (Keep.refl h0 []).1 (Nat.le_of_eq g273.symm)
       have R273 : CHr Z consts_1 s.vm h0 s.vm h273 := CHr.ext E273 CR0.1
       have CR273 : CHr Z consts_1 s.vm h0 s.vm h273 := CR0.trans R273
       have hk273 : kc0 ≤ h273.size := Nat.le_trans hk0 E273.1
       have S_b273 : Safe Z consts_1 s.vm h273 b273 := Safe.ext E273 CR0.1 (Safe.new (Nat.le_of_eq g273.symm))
       have K273 : Keep h0 h273 [] := (Keep.refl h0 []).ext E273
       have Z273 : n0 ≤ h273.size := Nat.le_trans Z0 E273.1
       rw [← g273] at A273 st273
       have V273 : own_Arf Z h273 b273 k273 .char (3 : Int32) (fun i => .int ((fun _ => (0 : Int32)) i)) := own_arfNew A273 (by decide)
       refine own_by st273 ?_
       show own_Go p e below _ (T273.setTop (mkF m 109 #[vI p0, vI p1, vI p2, vJ q3, .second, vI v1, .unset, .unset, .unset, .unset, .unset, .unset, .unset] [(.ref b273)]))
       refine own_by (fun _ k => XS.astore X273.here hx rfl (hb hby at_109) rfl rfl (l' := #[vI p0, vI p1, vI p2, vJ q3, .second, vI v1, .unset, vR b273, .unset, .unset, .unset, .unset, .unset]) rfl k) ?_
       show own_Go p e below _ (T273.setTop (mkF m 111 #[vI p0, vI p1, vI p2, vJ q3, .second, vI v1, .unset, vR b273, .unset, .unset, .unset, .unset, .unset] []))
       refine own_by (fun _ k => XS.aload X273.here hx rfl (hb hby at_111) rfl rfl k) ?_
       refine own_by (fun _ k => XS.iconst X273.here hx rfl (hb hby at_113) k) ?_
       refine own_by (fun _ k => XS.lloadN X273.here hx rfl (hb hby at_114) rfl k) ?_
       refine own_by (fun _ k => XS.iconst X273.here hx rfl (hb hby at_115) k) ?_
       obtain ⟨_, _, ⟨T274, L274, k274, n274⟩, -, X274, ⟨Lc274, hQ274, l274, y274, z274⟩, st274⟩ := Jvm.LawKit.callS X273 hx (y := (⟨"com/example/margay/margay/index/LineCounterEndsLinePinLaw", "ch", "(JI)C"⟩ : MethodName)) hown (mvT hZ (hwd 34 rfl)) (mvT hZ (hwd 35 rfl)) (mvT hZ (hwd 36 rfl)) (mvT hZ (hwd 37 rfl)) (by decide) (backOf (W := 2) (rmch l Z A0 hw [] q3 (0 : Int32) h273 n0 Z273 ) hZ (hwd 37 rfl) (hwd 36 rfl) (by decide) (by decide)) (g := (mkF m 116 #[vI p0, vI p1, vI p2, vJ q3, .second, vI v1, .unset, vR b273, .unset, .unset, .unset, .unset, .unset] [(.int (0 : Int32)), (.long q3), (.int (0 : Int32)), (.ref b273)])) rfl (by rw [hml]; rfl) (argsL := [(.long q3), (.int (0 : Int32))]) (rest := [(.int (0 : Int32)), (.ref b273)]) (lenOf pd_34 rfl) rfl (by show 2 * 0 + _ ≤ _; exact Nat.le_of_eq rfl) (hb hby at_116) (fun _ _ => ⟨rfl, e273, (by decide : 1 + 0 ≤ _), (by decide : 3 + 0 ≤ _)⟩)
       dsimp only [Pt.U, Pt.locs, Pt.cells, Pt.slots] at X274 l274 y274 z274 st274 hQ274
       subst l274 y274 z274
       obtain ⟨o275, rfl, Nq274, eq274, hp276⟩ := hQ274
       have N274 := Fr.app N0 Nq274
       refine own_by st274 ?_
       show own_Go p e below _ (T274.setTop (mkF m 119 #[vI p0, vI p1, vI p2, vJ q3, .second, vI v1, .unset, vR b273, .unset, .unset, .unset, .unset, .unset] [(.int o275), (.int (0 : Int32)), (.ref b273)]))
       obtain ⟨cl277, Ar277, qq277, S277, M277, H277, G277⟩ := id V273
       have hin277 : ¬ ((0 : Int32) < 0 ∨ cl277.slots.size ≤ ((0 : Int32)).toNatClampNeg) := inb_of S277 ⟨by decide, by decide⟩
       obtain ⟨T278, h278, X278, e278, W278, st278⟩ := stC X274 hx hZ eq274 Ar277 (j := (0 : Int32)) hin277 (g := (mkF m 119 #[vI p0, vI p1, vI p2, vJ q3, .second, vI v1, .unset, vR b273, .unset, .unset, .unset, .unset, .unset] [(.int o275), (.int (0 : Int32)), (.ref b273)])) rfl rfl (hb hby at_119)
       have V278 : own_Arf Z h278 b273 k273 .char (3 : Int32) (fun i => .int ((own_upd (fun _ => (0 : Int32)) 0 (nar .char o275)) i)) := own_arfSetI Ar277 qq277 S277 M277 H277 G277 (fits_nar_char _) W278
       have R278 : CHr Z consts_1 s.vm h273 s.vm h278 := CHr.wr W278 (own_arfSafe V273 hZ.alike (by decide)) CR273.1
       have CR278 : CHr Z consts_1 s.vm h0 s.vm h278 := CR273.trans R278
       have hk278 : kc0 ≤ h278.size := Nat.le_trans hk273 (Keep.of_wr W278).1
       have K278 : Keep h0 h278 [] := K273.wr W278 (Or.inr sz_b273)
       have Z278 : n0 ≤ h278.size := Nat.le_trans Z273 (Keep.of_wr W278).1
       have N278 := Fr.snoc X278 N274 ge_b273
       refine own_by st278 ?_
       show own_Go p e below _ (T278.setTop (mkF m 120 #[vI p0, vI p1, vI p2, vJ q3, .second, vI v1, .unset, vR b273, .unset, .unset, .unset, .unset, .unset] []))
       refine own_by (fun _ k => XS.aload X278.here hx rfl (hb hby at_120) rfl rfl k) ?_
       refine own_by (fun _ k => XS.iconst X278.here hx rfl (hb hby at_122) k) ?_
       refine own_by (fun _ k => XS.lloadN X278.here hx rfl (hb hby at_123) rfl k) ?_
       refine own_by (fun _ k => XS.bipush X278.here hx rfl (hb hby at_124) k) ?_
       obtain ⟨_, _, ⟨T279, L279, k279, n279⟩, -, X279, ⟨Lc279, hQ279, l279, y279, z279⟩, st279⟩ := Jvm.LawKit.callS X278 hx (y := (⟨"com/example/margay/margay/index/LineCounterEndsLinePinLaw", "ch", "(JI)C"⟩ : MethodName)) hown (mvT hZ (hwd 34 rfl)) (mvT hZ (hwd 35 rfl)) (mvT hZ (hwd 36 rfl)) (mvT hZ (hwd 37 rfl)) (by decide) (backOf (W := 2) (rmch l Z A0 hw [] q3 (8 : Int32) h278 n0 Z278 ) hZ (hwd 37 rfl) (hwd 36 rfl) (by decide) (by decide)) (g := (mkF m 126 #[vI p0, vI p1, vI p2, vJ q3, .second, vI v1, .unset, vR b273, .unset, .unset, .unset, .unset, .unset] [(.int (8 : Int32)), (.long q3), (.int (1 : Int32)), (.ref b273)])) rfl (by rw [hml]; rfl) (argsL := [(.long q3), (.int (8 : Int32))]) (rest := [(.int (1 : Int32)), (.ref b273)]) (lenOf pd_34 rfl) rfl (by show 2 * 0 + _ ≤ _; exact Nat.le_of_eq rfl) (hb hby at_126) (fun _ _ => ⟨rfl, e278, (by decide : 1 + 0 ≤ _), (by decide : 3 + 0 ≤ _)⟩)
       dsimp only [Pt.U, Pt.locs, Pt.cells, Pt.slots] at X279 l279 y279 z279 st279 hQ279
       subst l279 y279 z279
       obtain ⟨o280, rfl, Nq279, eq279, hp281⟩ := hQ279
       have N279 := Fr.app N278 Nq279
       refine own_by st279 ?_
       show own_Go p e below _ (T279.setTop (mkF m 129 #[vI p0, vI p1, vI p2, vJ q3, .second, vI v1, .unset, vR b273, .unset, .unset, .unset, .unset, .unset] [(.int o280), (.int (1 : Int32)), (.ref b273)]))
       obtain ⟨cl282, Ar282, qq282, S282, M282, H282, G282⟩ := id V278
       have hin282 : ¬ ((1 : Int32) < 0 ∨ cl282.slots.size ≤ ((1 : Int32)).toNatClampNeg) := inb_of S282 ⟨by decide, by decide⟩
       obtain ⟨T283, h283, X283, e283, W283, st283⟩ := stC X279 hx hZ eq279 Ar282 (j := (1 : Int32)) hin282 (g := (mkF m 129 #[vI p0, vI p1, vI p2, vJ q3, .second, vI v1, .unset, vR b273, .unset, .unset, .unset, .unset, .unset] [(.int o280), (.int (1 : Int32)), (.ref b273)])) rfl rfl (hb hby at_129)
       have V283 : own_Arf Z h283 b273 k273 .char (3 : Int32) (fun i => .int ((own_upd (own_upd (fun _ => (0 : Int32)) 0 (nar .char o275)) 1 (nar .char o280)) i)) := own_arfSetI Ar282 qq282 S282 M282 H282 G282 (fits_nar_char _) W283
       have R283 : CHr Z consts_1 s.vm h278 s.vm h283 := CHr.wr W283 (own_arfSafe V278 hZ.alike (by decide)) CR278.1
       have CR283 : CHr Z consts_1 s.vm h0 s.vm h283 := CR278.trans R283
       have hk283 : kc0 ≤ h283.size := Nat.le_trans hk278 (Keep.of_wr W283).1
       have K283 : Keep h0 h283 [] := K278.wr W283 (Or.inr sz_b273)
       have Z283 : n0 ≤ h283.size := Nat.le_trans Z278 (Keep.of_wr W283).1
       have N283 := Fr.snoc X283 N279 ge_b273
       refine own_by st283 ?_
       show own_Go p e below _ (T283.setTop (mkF m 130 #[vI p0, vI p1, vI p2, vJ q3, .second, vI v1, .unset, vR b273, .unset, .unset, .unset, .unset, .unset] []))
       refine own_by (fun _ k => XS.aload X283.here hx rfl (hb hby at_130) rfl rfl k) ?_
       refine own_by (fun _ k => XS.iconst X283.here hx rfl (hb hby at_132) k) ?_
       refine own_by (fun _ k => XS.lloadN X283.here hx rfl (hb hby at_133) rfl k) ?_
       refine own_by (fun _ k => XS.bipush X283.here hx rfl (hb hby at_134) k) ?_
       obtain ⟨_, _, ⟨T284, L284, k284, n284⟩, -, X284, ⟨Lc284, hQ284, l284, y284, z284⟩, st284⟩ := Jvm.LawKit.callS X283 hx (y := (⟨"com/example/margay/margay/index/LineCounterEndsLinePinLaw", "ch", "(JI)C"⟩ : MethodName)) hown (mvT hZ (hwd 34 rfl)) (mvT hZ (hwd 35 rfl)) (mvT hZ (hwd 36 rfl)) (mvT hZ (hwd 37 rfl)) (by decide) (backOf (W := 2) (rmch l Z A0 hw [] q3 (16 : Int32) h283 n0 Z283 ) hZ (hwd 37 rfl) (hwd 36 rfl) (by decide) (by decide)) (g := (mkF m 136 #[vI p0, vI p1, vI p2, vJ q3, .second, vI v1, .unset, vR b273, .unset, .unset, .unset, .unset, .unset] [(.int (16 : Int32)), (.long q3), (.int (2 : Int32)), (.ref b273)])) rfl (by rw [hml]; rfl) (argsL := [(.long q3), (.int (16 : Int32))]) (rest := [(.int (2 : Int32)), (.ref b273)]) (lenOf pd_34 rfl) rfl (by show 2 * 0 + _ ≤ _; exact Nat.le_of_eq rfl) (hb hby at_136) (fun _ _ => ⟨rfl, e283, (by decide : 1 + 0 ≤ _), (by decide : 3 + 0 ≤ _)⟩)
       dsimp only [Pt.U, Pt.locs, Pt.cells, Pt.slots] at X284 l284 y284 z284 st284 hQ284
       subst l284 y284 z284
       obtain ⟨o285, rfl, Nq284, eq284, hp286⟩ := hQ284
       have N284 := Fr.app N283 Nq284
       refine own_by st284 ?_
       show own_Go p e below _ (T284.setTop (mkF m 139 #[vI p0, vI p1, vI p2, vJ q3, .second, vI v1, .unset, vR b273, .unset, .unset, .unset, .unset, .unset] [(.int o285), (.int (2 : Int32)), (.ref b273)]))
       obtain ⟨cl287, Ar287, qq287, S287, M287, H287, G287⟩ := id V283
       have hin287 : ¬ ((2 : Int32) < 0 ∨ cl287.slots.size ≤ ((2 : Int32)).toNatClampNeg) := inb_of S287 ⟨by decide, by decide⟩
       obtain ⟨T288, h288, X288, e288, W288, st288⟩ := stC X284 hx hZ eq284 Ar287 (j := (2 : Int32)) hin287 (g := (mkF m 139 #[vI p0, vI p1, vI p2, vJ q3, .second, vI v1, .unset, vR b273, .unset, .unset, .unset, .unset, .unset] [(.int o285), (.int (2 : Int32)), (.ref b273)])) rfl rfl (hb hby at_139)
       have V288 : own_Arf Z h288 b273 k273 .char (3 : Int32) (fun i => .int ((own_upd (own_upd (own_upd (fun _ => (0 : Int32)) 0 (nar .char o275)) 1 (nar .char o280)) 2 (nar .char o285)) i)) := own_arfSetI Ar287 qq287 S287 M287 H287 G287 (fits_nar_char _) W288
       have R288 : CHr Z consts_1 s.vm h283 s.vm h288 := CHr.wr W288 (own_arfSafe V283 hZ.alike (by decide)) CR283.1
       have CR288 : CHr Z consts_1 s.vm h0 s.vm h288 := CR283.trans R288
       have hk288 : kc0 ≤ h288.size := Nat.le_trans hk283 (Keep.of_wr W288).1
       have K288 : Keep h0 h288 [] := K283.wr W288 (Or.inr sz_b273)
       have Z288 : n0 ≤ h288.size := Nat.le_trans Z283 (Keep.of_wr W288).1
       have N288 := Fr.snoc X288 N284 ge_b273
       refine own_by st288 ?_
       show own_Go p e below _ (T288.setTop (mkF m 140 #[vI p0, vI p1, vI p2, vJ q3, .second, vI v1, .unset, vR b273, .unset, .unset, .unset, .unset, .unset] []))
       obtain ⟨T289, h289, X289, e289, E289, A289, D289, -, st289⟩ := newO X288 hx hZ hown (hwd 39 rfl) (hwd 15 rfl) (hwd 14 rfl) e288 (g := (mkF m 140 #[vI p0, vI p1, vI p2, vJ q3, .second, vI v1, .unset, vR b273, .unset, .unset, .unset, .unset, .unset] [])) rfl (hb hby at_140) (by decide) (by decide)
       obtain ⟨b289, g289⟩ : ∃ z, z = h288.size := ⟨_, rfl⟩
       have ge_b289 : n0 ≤ b289 := Nat.le_trans Z288 (Nat.le_of_eq g289.symm)
       have sz_b289 : h0.size ≤ b289 := Nat.le_trans K288.1 (Nat.le_of_eq g289.symm)
       have R289 : CHr Z consts_1 s.vm h288 s.vm h289 := CHr.ext E289 CR288.1
       have CR289 : CHr Z consts_1 s.vm h0 s.vm h289 := CR288.trans R289
       have hk289 : kc0 ≤ h289.size := Nat.le_trans hk288 E289.1
       have S_b289 : Safe Z consts_1 s.vm h289 b289 := Safe.ext E289 CR288.1 (Safe.new (Nat.le_of_eq g289.symm))
       have K289 : Keep h0 h289 [] := K288.ext E289
       have Z289 : n0 ≤ h289.size := Nat.le_trans Z288 E289.1
       rw [← g289] at A289 D289 st289
       have lt_b289 := A289.lt
       have F_value_b289 : Fld Z h289 b289 "java/lang/String" "value" "[B" .null := D289 (Or.inr (hwd 17 rfl)) (ty := (.array .byte)) (by decide)
       have F_coder_b289 : Fld Z h289 b289 "java/lang/String" "coder" "B" (.int (0 : Int32)) := D289 (Or.inr (hwd 18 rfl)) (ty := .byte) (by decide)
       refine own_by st289 ?_
       show own_Go p e below _ (T289.setTop (mkF m 143 #[vI p0, vI p1, vI p2, vJ q3, .second, vI v1, .unset, vR b273, .unset, .unset, .unset, .unset, .unset] [(.ref b289)]))
       refine own_by (fun _ k => XS.dup X289.here hx rfl (hb hby at_143) rfl rfl k) ?_
       show own_Go p e below _ (T289.setTop (mkF m 144 #[vI p0, vI p1, vI p2, vJ q3, .second, vI v1, .unset, vR b273, .unset, .unset, .unset, .unset, .unset] [(.ref b289), (.ref b289)]))
       refine own_by (fun _ k => XS.aload X289.here hx rfl (hb hby at_144) rfl rfl k) ?_
       have F290 : own_Arf Z h289 b273 k273 .char (3 : Int32) (fun i => .int ((own_upd (own_upd (own_upd (fun _ => (0 : Int32)) 0 (nar .char o275)) 1 (nar .char o280)) 2 (nar .char o285)) i)) := (V288.ext E289)
       have F291 : Sta Z h289 "java/lang/String" "COMPACT_STRINGS" "Z" (.int f_CS) := (((((P_S_CS.ext E273).wr W278).wr W283).wr W288).ext E289)
       obtain ⟨_, _, ⟨T292, L292, k292, n292⟩, -, X292, ⟨Lc292, hQ292, l292, y292, z292⟩, st292⟩ := X289.specialBack hx (y := (⟨"java/lang/String", "<init>", "([C)V"⟩ : MethodName)) rfl hown (mvT hZ (hwd 40 rfl)) (mvT hZ (hwd 41 rfl)) (mvT hZ (hwd 42 rfl)) (by decide) (backOf (W := 1) (rmsi3 l Z A0 hw [] k273 (own_upd (own_upd (own_upd (fun _ => (0 : Int32)) 0 (nar .char o275)) 1 (nar .char o280)) 2 (nar .char o285)) f_CS b289 b273 (0 : Int32) (.null) h289 n0 Z289 F290 F291 hn_CS (ob_0_30 f_CS f_SF p0 v1 o275 o280 o285 hn_CS hr_f_SF hv1 c2 c42 c96 c150 c200 c272 hp276 hp281 hp286) (ob_0_31 f_CS f_SF p0 v1 o275 o280 o285 hn_CS hr_f_SF hv1 c2 c42 c96 c150 c200 c272 hp276 hp281 hp286) (ob_0_32 f_CS f_SF p0 v1 o275 o280 o285 hn_CS hr_f_SF hv1 c2 c42 c96 c150 c200 c272 hp276 hp281 hp286) A289 F_coder_b289 F_value_b289 ge_b289) hZ (hwd 42 rfl) (hwd 14 rfl) (by decide) (by decide)) (g := (mkF m 146 #[vI p0, vI p1, vI p2, vJ q3, .second, vI v1, .unset, vR b273, .unset, .unset, .unset, .unset, .unset] [(.ref b273), (.ref b289), (.ref b289)])) rfl (by rw [hml]; rfl) (Steps.refl _) (a := b289) (argsL := [(.ref b273)]) (rest := [(.ref b289)]) (lenOf pd_40 rfl) rfl (by show 2 * 0 + _ ≤ _; exact Nat.le_of_eq rfl) (hb hby at_146) (fun _ _ => ⟨rfl, e289, (by decide : 2 + 1 ≤ _), (by decide : 7 + 3 ≤ _)⟩)
       dsimp only [Pt.U, Pt.locs, Pt.cells, Pt.slots] at X292 l292 y292 z292 st292 hQ292
       subst l292 y292 z292
       obtain ⟨b293, b294, rfl, Nq292, Kq292, F295, F296, F297, hp298, hp299, F300⟩ := hQ292
       have N292 := Fr.app N288 Nq292
       have R292 : CHr Z consts_1 s.vm h289 s.vm T292.heap := CHr.keep Kq292 ((allS S_b289 all0)) CR289.1
       have CR292 : CHr Z consts_1 s.vm h0 s.vm T292.heap := CR289.trans R292
       have hk292 : kc0 ≤ T292.heap.size := Nat.le_trans hk289 Kq292.1
       have K292 : Keep h0 T292.heap [] := K289.trans Kq292 ((allS (Or.inr sz_b289) all0))
       have Z292 : n0 ≤ T292.heap.size := Nat.le_trans Z289 Kq292.1
       have sz_b293 : h0.size ≤ b293 := Nat.le_trans K289.1 hp299
       have S_b293 : Safe Z consts_1 s.vm T292.heap b293 := Safe.keep Kq292 ((allS S_b289 all0)) CR289.1 (Safe.new hp299)
       have lt_b293 := F300.lt
       refine own_by (fun _ k => st292.trans k) ?_
       show own_Go p e below _ (T292.setTop (mkF m 149 #[vI p0, vI p1, vI p2, vJ q3, .second, vI v1, .unset, vR b273, .unset, .unset, .unset, .unset, .unset] [(.ref b289)]))
       refine own_by (fun _ k => XS.astore X292.here hx rfl (hb hby at_149) rfl rfl (l' := #[vI p0, vI p1, vI p2, vJ q3, .second, vI v1, vR b289, vR b273, .unset, .unset, .unset, .unset, .unset]) rfl k) ?_
       show own_Go p e below _ (T292.setTop (mkF m 151 #[vI p0, vI p1, vI p2, vJ q3, .second, vI v1, vR b289, vR b273, .unset, .unset, .unset, .unset, .unset] []))
       refine own_by (fun _ k => XS.goto X292.here hx rfl (pc0 := 151) (pc' := 257) rfl (hb hby at_151) (by decide) (by decide) k) ?_
       show own_Go p e below _ (T292.setTop (mkF m 257 #[vI p0, vI p1, vI p2, vJ q3, .second, vI v1, vR b289, vR b273, .unset, .unset, .unset, .unset, .unset] []))
       refine own_by (fun _ k => XS.aload X292.here hx rfl (hb hby at_257) rfl rfl k) ?_
       refine own_by (fun _ k => XS.ifnullNo X292.here hx rfl (hb hby at_259) rfl k) ?_
       show own_Go p e below _ (T292.setTop (mkF m 262 #[vI p0, vI p1, vI p2, vJ q3, .second, vI v1, vR b289, vR b273, .unset, .unset, .unset, .unset, .unset] []))
       refine own_by (fun _ k => XS.aload X292.here hx rfl (hb hby at_262) rfl rfl k) ?_
       have F301 : Sta Z T292.heap "java/lang/String" "COMPACT_STRINGS" "Z" (.int f_CS) := (own_staKeep F291 Kq292 (allS (own_exaPlain A289) all0))
       obtain ⟨cq302, kq302, qq302a, qq302b, qq302c⟩ := isOf hZ rfl F295
       obtain ⟨_, _, ⟨T302, L302, k302, n302⟩, -, X302, ⟨Lc302, hQ302, l302, y302, z302⟩, st302⟩ := X292.virtualBack hx (y := (⟨"java/lang/String", "length", "()I"⟩ : MethodName)) (z := (⟨"java/lang/String", "length", "()I"⟩ : MethodName)) hown (mvT hZ (hwd 61 rfl)) (mvT hZ (hwd 62 rfl)) (notFace_of_selects (args := #[]) (mvT hZ (hwd 64 rfl))) (mvT hZ (hwd 64 rfl)) (mvT hZ (hwd 63 rfl)) (by decide) (backOf (W := 0) (rmlen3 l Z A0 hw [] b293 b294 (own_upd (own_upd (own_upd (fun _ => (0 : Int32)) 0 (nar .byte ((nar .char o275).toInt8.toInt32))) 1 (nar .byte ((nar .char o280).toInt8.toInt32))) 2 (nar .byte ((nar .char o285).toInt8.toInt32))) f_CS b289 T292.heap n0 Z292 F295 F296 F297 F300 F301 hn_CS) hZ (hwd 65 rfl) (hwd 14 rfl) (by decide) (by decide)) qq302a qq302c (g := (mkF m 264 #[vI p0, vI p1, vI p2, vJ q3, .second, vI v1, vR b289, vR b273, .unset, .unset, .unset, .unset, .unset] [(.ref b289)])) rfl (by rw [hml]; rfl) (Steps.refl _) (argsL := []) (rest := []) (lenOf pd_61 rfl) rfl (by show 2 * 0 + _ ≤ _; exact Nat.le_of_eq rfl) (hb hby at_264) (fun _ _ => ⟨rfl, rfl, (by decide : 3 + 0 ≤ _), (by decide : 10 + 0 ≤ _)⟩)
       dsimp only [Pt.U, Pt.locs, Pt.cells, Pt.slots] at X302 l302 y302 z302 st302 hQ302
       subst l302 y302 z302
       obtain ⟨rfl, Nq302, eq302⟩ := hQ302
       have N302 := Fr.app N292 Nq302
       refine own_by (fun _ k => st302.trans k) ?_
       show own_Go p e below _ (T302.setTop (mkF m 267 #[vI p0, vI p1, vI p2, vJ q3, .second, vI v1, vR b289, vR b273, .unset, .unset, .unset, .unset, .unset] [(.int (3 : Int32))]))
       refine own_by (fun _ k => XS.iconst X302.here hx rfl (hb hby at_267) k) ?_
       refine own_by (fun _ k => XS.icmpNo X302.here hx rfl (hb hby at_268) rfl (teq (by decide : (3 : Int32) = (3 : Int32))).2 k) ?_
       show own_Go p e below _ (T302.setTop (mkF m 271 #[vI p0, vI p1, vI p2, vJ q3, .second, vI v1, vR b289, vR b273, .unset, .unset, .unset, .unset, .unset] []))
       refine own_by (fun _ k => XS.aload X302.here hx rfl (hb hby at_271) rfl rfl k) ?_
       refine own_by (fun _ k => XS.iconst X302.here hx rfl (hb hby at_273) k) ?_
       have F303 : Sta Z T292.heap "jdk/internal/util/Preconditions" "SIOOBE_FORMATTER" "Ljava/util/function/BiFunction;" f_SF := (own_staKeep (((((P_S_SF.ext E273).wr W278).wr W283).wr W288).ext E289) Kq292 (allS (own_exaPlain A289) all0))
       obtain ⟨cq304, kq304, qq304a, qq304b, qq304c⟩ := isOf hZ eq302 F295
       obtain ⟨_, _, ⟨T304, L304, k304, n304⟩, -, X304, ⟨Lc304, hQ304, l304, y304, z304⟩, st304⟩ := X302.virtualBack hx (y := (⟨"java/lang/String", "charAt", "(I)C"⟩ : MethodName)) (z := (⟨"java/lang/String", "charAt", "(I)C"⟩ : MethodName)) hown (mvT hZ (hwd 77 rfl)) (mvT hZ (hwd 78 rfl)) (notFace_of_selects (args := #[]) (mvT hZ (hwd 80 rfl))) (mvT hZ (hwd 80 rfl)) (mvT hZ (hwd 79 rfl)) (by decide) (backOf (W := 0) (rmsca0 l Z A0 hw [] b293 b294 (own_upd (own_upd (own_upd (fun _ => (0 : Int32)) 0 (nar .byte ((nar .char o275).toInt8.toInt32))) 1 (nar .byte ((nar .char o280).toInt8.toInt32))) 2 (nar .byte ((nar .char o285).toInt8.toInt32))) f_CS f_SF b289 T292.heap n0 Z292 F295 F296 F297 F300 F301 hn_CS F303 hr_f_SF) hZ (hwd 81 rfl) (hwd 14 rfl) (by decide) (by decide)) qq304a qq304c (g := (mkF m 274 #[vI p0, vI p1, vI p2, vJ q3, .second, vI v1, vR b289, vR b273, .unset, .unset, .unset, .unset, .unset] [(.int (0 : Int32)), (.ref b289)])) rfl (by rw [hml]; rfl) (Steps.refl _) (argsL := [(.int (0 : Int32))]) (rest := []) (lenOf pd_77 rfl) rfl (by show 2 * 0 + _ ≤ _; exact Nat.le_of_eq rfl) (hb hby at_274) (fun _ _ => ⟨rfl, eq302, (by decide : 3 + 0 ≤ _), (by decide : 10 + 0 ≤ _)⟩)
       dsimp only [Pt.U, Pt.locs, Pt.cells, Pt.slots] at X304 l304 y304 z304 st304 hQ304
       subst l304 y304 z304
       obtain ⟨rfl, Nq304, eq304⟩ := hQ304
       have N304 := Fr.app N302 Nq304
       refine own_by (fun _ k => st304.trans k) ?_
       show own_Go p e below _ (T304.setTop (mkF m 277 #[vI p0, vI p1, vI p2, vJ q3, .second, vI v1, vR b289, vR b273, .unset, .unset, .unset, .unset, .unset] [(.int (nar .char (nar .char (((nar .byte ((nar .char o275).toInt8.toInt32)) &&& (255 : Int32)).toUInt32.toUInt16.toUInt32.toInt32))))]))
       refine own_by (fun _ k => XS.bipush X304.here hx rfl (hb hby at_277) k) ?_
       have J310 : ∀ (T311 : State) (L312 : List Loc) (z316 : Int32), Stand p l e room_1 (s.setVm s.vm) m #[(.int p0), (.int p1), (.int p2), (.long q3)] below meth c T311 L312 3 10 → T311.heap = T292.heap → Fr n0 L312 → ((((nar .char (nar .char (((nar .byte ((nar .char o275).toInt8.toInt32)) &&& (255 : Int32)).toUInt32.toUInt16.toUInt32.toInt32))) = (49 : Int32)) ∧ ((nar .char (nar .char (((nar .byte ((nar .char o280).toInt8.toInt32)) &&& (255 : Int32)).toUInt32.toUInt16.toUInt32.toInt32))) = (46 : Int32)) ∧ ((nar .char (nar .char (((nar .byte ((nar .char o285).toInt8.toInt32)) &&& (255 : Int32)).toUInt32.toUInt16.toUInt32.toInt32))) = (49 : Int32)) ∧ z316 = (1 : Int32)) ∨ (((nar .char (nar .char (((nar .byte ((nar .char o275).toInt8.toInt32)) &&& (255 : Int32)).toUInt32.toUInt16.toUInt32.toInt32))) = (49 : Int32)) ∧ ((nar .char (nar .char (((nar .byte ((nar .char o280).toInt8.toInt32)) &&& (255 : Int32)).toUInt32.toUInt16.toUInt32.toInt32))) = (46 : Int32)) ∧ (¬ ((nar .char (nar .char (((nar .byte ((nar .char o285).toInt8.toInt32)) &&& (255 : Int32)).toUInt32.toUInt16.toUInt32.toInt32))) = (49 : Int32))) ∧ z316 = (0 : Int32)) ∨ (((nar .char (nar .char (((nar .byte ((nar .char o275).toInt8.toInt32)) &&& (255 : Int32)).toUInt32.toUInt16.toUInt32.toInt32))) = (49 : Int32)) ∧ (¬ ((nar .char (nar .char (((nar .byte ((nar .char o280).toInt8.toInt32)) &&& (255 : Int32)).toUInt32.toUInt16.toUInt32.toInt32))) = (46 : Int32))) ∧ z316 = (0 : Int32)) ∨ ((¬ ((nar .char (nar .char (((nar .byte ((nar .char o275).toInt8.toInt32)) &&& (255 : Int32)).toUInt32.toUInt16.toUInt32.toInt32))) = (49 : Int32))) ∧ z316 = (0 : Int32))) → own_Go p e below (own_FinW Z consts_1 s 24 4224 (Q0 Z f_CS f_SF p0 p1 p2 q3 h0 n0)) (T311.setTop (mkF m 309 #[vI p0, vI p1, vI p2, vJ q3, .second, vI v1, vR b289, vR b273, .unset, .unset, .unset, .unset, .unset] [(.int z316)])) := by
        intro T311 L312 z316 X313 e314 N315 hj317
        refine own_by (fun _ k => XS.istore X313.here hx rfl (hb hby at_309) rfl (l' := #[vI p0, vI p1, vI p2, vJ q3, .second, vI v1, vR b289, vI z316, .unset, .unset, .unset, .unset, .unset]) rfl k) ?_
        show own_Go p e below _ (T311.setTop (mkF m 311 #[vI p0, vI p1, vI p2, vJ q3, .second, vI v1, vR b289, vI z316, .unset, .unset, .unset, .unset, .unset] []))
        refine own_by (fun _ k => XS.iloadN X313.here hx rfl (hb hby at_311) rfl k) ?_
        refine own_by (fun _ k => XS.bipush X313.here hx rfl (hb hby at_312) k) ?_
        refine own_by (fun _ k => XS.iand X313.here hx rfl (hb hby at_314) rfl k) ?_
        show own_Go p e below _ (T311.setTop (mkF m 315 #[vI p0, vI p1, vI p2, vJ q3, .second, vI v1, vR b289, vI z316, .unset, .unset, .unset, .unset, .unset] [(.int (p1 &&& (7 : Int32)))]))
        refine own_by (fun _ k => XS.istore X313.here hx rfl (hb hby at_315) rfl (l' := #[vI p0, vI p1, vI p2, vJ q3, .second, vI v1, vR b289, vI z316, vI (p1 &&& (7 : Int32)), .unset, .unset, .unset, .unset]) rfl k) ?_
        show own_Go p e below _ (T311.setTop (mkF m 317 #[vI p0, vI p1, vI p2, vJ q3, .second, vI v1, vR b289, vI z316, vI (p1 &&& (7 : Int32)), .unset, .unset, .unset, .unset] []))
        generalize hv318 : (p1 &&& (7 : Int32)) = v318
        show own_Go p e below _ (T311.setTop (mkF m 317 #[vI p0, vI p1, vI p2, vJ q3, .second, vI v1, vR b289, vI z316, vI v318, .unset, .unset, .unset, .unset] []))
        refine own_by (fun _ k => XS.iload X313.here hx rfl (hb hby at_317) rfl k) ?_
        have J326 : ∀ (T327 : State) (L328 : List Loc) (z332 : Int32), Stand p l e room_1 (s.setVm s.vm) m #[(.int p0), (.int p1), (.int p2), (.long q3)] below meth c T327 L328 3 10 → T327.heap = T292.heap → Fr n0 L328 → (((v318 = (0 : Int32)) ∧ z332 = (13 : Int32)) ∨ ((¬ (v318 = (0 : Int32))) ∧ (v318 = (1 : Int32)) ∧ z332 = (10 : Int32)) ∨ ((¬ (v318 = (0 : Int32))) ∧ (¬ (v318 = (1 : Int32))) ∧ (v318 = (2 : Int32)) ∧ z332 = (133 : Int32)) ∨ ((¬ (v318 = (0 : Int32))) ∧ (¬ (v318 = (1 : Int32))) ∧ (¬ (v318 = (2 : Int32))) ∧ (v318 = (3 : Int32)) ∧ z332 = (8232 : Int32)) ∨ ((¬ (v318 = (0 : Int32))) ∧ (¬ (v318 = (1 : Int32))) ∧ (¬ (v318 = (2 : Int32))) ∧ (¬ (v318 = (3 : Int32))) ∧ (v318 = (4 : Int32)) ∧ z332 = (8233 : Int32)) ∨ ((¬ (v318 = (0 : Int32))) ∧ (¬ (v318 = (1 : Int32))) ∧ (¬ (v318 = (2 : Int32))) ∧ (¬ (v318 = (3 : Int32))) ∧ (¬ (v318 = (4 : Int32))) ∧ (v318 = (5 : Int32)) ∧ z332 = (12 : Int32)) ∨ (∃ (v325 : Int32), (¬ (v318 = (0 : Int32))) ∧ (¬ (v318 = (1 : Int32))) ∧ (¬ (v318 = (2 : Int32))) ∧ (¬ (v318 = (3 : Int32))) ∧ (¬ (v318 = (4 : Int32))) ∧ (¬ (v318 = (5 : Int32))) ∧ ((p2 &&& (65535 : Int32)) = v325) ∧ z332 = v325)) → own_Go p e below (own_FinW Z consts_1 s 24 4224 (Q0 Z f_CS f_SF p0 p1 p2 q3 h0 n0)) (T327.setTop (mkF m 403 #[vI p0, vI p1, vI p2, vJ q3, .second, vI v1, vR b289, vI z316, vI v318, vI z332, .unset, .unset, .unset] [])) := by
         intro T327 L328 z332 X329 e330 N331 hj333
         refine own_by (fun _ k => XS.iload X329.here hx rfl (hb hby at_403) rfl k) ?_
         refine own_by (fun _ k => XS.i2c X329.here hx rfl (hb hby at_405) rfl k) ?_
         show own_Go p e below _ (T327.setTop (mkF m 406 #[vI p0, vI p1, vI p2, vJ q3, .second, vI v1, vR b289, vI z316, vI v318, vI z332, .unset, .unset, .unset] [(.int (z332.toUInt32.toUInt16.toUInt32.toInt32))]))
         refine own_by (fun _ k => XS.istore X329.here hx rfl (hb hby at_406) rfl (l' := #[vI p0, vI p1, vI p2, vJ q3, .second, vI v1, vR b289, vI z316, vI v318, vI z332, vI (z332.toUInt32.toUInt16.toUInt32.toInt32), .unset, .unset]) rfl k) ?_
         show own_Go p e below _ (T327.setTop (mkF m 408 #[vI p0, vI p1, vI p2, vJ q3, .second, vI v1, vR b289, vI z316, vI v318, vI z332, vI (z332.toUInt32.toUInt16.toUInt32.toInt32), .unset, .unset] []))
         generalize hv334 : (z332.toUInt32.toUInt16.toUInt32.toInt32) = v334
         show own_Go p e below _ (T327.setTop (mkF m 408 #[vI p0, vI p1, vI p2, vJ q3, .second, vI v1, vR b289, vI z316, vI v318, vI z332, vI v334, .unset, .unset] []))
         refine own_by (fun _ k => XS.iload X329.here hx rfl (hb hby at_408) rfl k) ?_
         have J339 : ∀ (T340 : State) (L341 : List Loc) (z345 : Int32), Stand p l e room_1 (s.setVm s.vm) m #[(.int p0), (.int p1), (.int p2), (.long q3)] below meth c T340 L341 3 10 → T340.heap = T292.heap → Fr n0 L341 → (((z332 = (10 : Int32)) ∧ z345 = (1 : Int32)) ∨ ((¬ (z332 = (10 : Int32))) ∧ (z332 = (13 : Int32)) ∧ z345 = (1 : Int32)) ∨ ((¬ (z332 = (10 : Int32))) ∧ (¬ (z332 = (13 : Int32))) ∧ (z332 = (133 : Int32)) ∧ z345 = z316) ∨ ((¬ (z332 = (10 : Int32))) ∧ (¬ (z332 = (13 : Int32))) ∧ (¬ (z332 = (133 : Int32))) ∧ (z332 = (8232 : Int32)) ∧ z345 = z316) ∨ ((¬ (z332 = (10 : Int32))) ∧ (¬ (z332 = (13 : Int32))) ∧ (¬ (z332 = (133 : Int32))) ∧ (¬ (z332 = (8232 : Int32))) ∧ z345 = (0 : Int32))) → own_Go p e below (own_FinW Z consts_1 s 24 4224 (Q0 Z f_CS f_SF p0 p1 p2 q3 h0 n0)) (T340.setTop (mkF m 468 #[vI p0, vI p1, vI p2, vJ q3, .second, vI v1, vR b289, vI z316, vI v318, vI z332, vI v334, vI z345, .unset] [])) := by
          intro T340 L341 z345 X342 e343 N344 hj346
          obtain ⟨T347, h347, X347, e347, E347, A347, D347, -, st347⟩ := newO X342 hx hZ hown (hwd 0 rfl) (hwd 1 rfl) (hwd 2 rfl) e343 (g := (mkF m 468 #[vI p0, vI p1, vI p2, vJ q3, .second, vI v1, vR b289, vI z316, vI v318, vI z332, vI v334, vI z345, .unset] [])) rfl (hb hby at_468) (by decide) (by decide)
          obtain ⟨b347, g347⟩ : ∃ z, z = T292.heap.size := ⟨_, rfl⟩
          have ge_b347 : n0 ≤ b347 := Nat.le_trans Z292 (Nat.le_of_eq g347.symm)
          have sz_b347 : h0.size ≤ b347 := Nat.le_trans K292.1 (Nat.le_of_eq g347.symm)
          have R347 : CHr Z consts_1 s.vm T292.heap s.vm h347 := CHr.ext E347 CR292.1
          have CR347 : CHr Z consts_1 s.vm h0 s.vm h347 := CR292.trans R347
          have hk347 : kc0 ≤ h347.size := Nat.le_trans hk292 E347.1
          have S_b347 : Safe Z consts_1 s.vm h347 b347 := Safe.ext E347 CR292.1 (Safe.new (Nat.le_of_eq g347.symm))
          have K347 : Keep h0 h347 [] := K292.ext E347
          have Z347 : n0 ≤ h347.size := Nat.le_trans Z292 E347.1
          rw [← g347] at A347 D347 st347
          have lt_b347 := A347.lt
          have F_line_b347 : Fld Z h347 b347 "com/example/margay/margay/index/LineCounter" "line" "I" (.int (0 : Int32)) := D347 (Or.inl (hwd 10 rfl)) (ty := .int) (by decide)
          have F_column_b347 : Fld Z h347 b347 "com/example/margay/margay/index/LineCounter" "column" "I" (.int (0 : Int32)) := D347 (Or.inl (hwd 12 rfl)) (ty := .int) (by decide)
          have F_xml11_b347 : Fld Z h347 b347 "com/example/margay/margay/index/LineCounter" "xml11" "Z" (.int (0 : Int32)) := D347 (Or.inr (hwd 27 rfl)) (ty := .boolean) (by decide)
          refine own_by st347 ?_
          show own_Go p e below _ (T347.setTop (mkF m 471 #[vI p0, vI p1, vI p2, vJ q3, .second, vI v1, vR b289, vI z316, vI v318, vI z332, vI v334, vI z345, .unset] [(.ref b347)]))
          refine own_by (fun _ k => XS.dup X347.here hx rfl (hb hby at_471) rfl rfl k) ?_
          show own_Go p e below _ (T347.setTop (mkF m 472 #[vI p0, vI p1, vI p2, vJ q3, .second, vI v1, vR b289, vI z316, vI v318, vI z332, vI v334, vI z345, .unset] [(.ref b347), (.ref b347)]))
          refine own_by (fun _ k => XS.aload X347.here hx rfl (hb hby at_472) rfl rfl k) ?_
          have F348 : Exa Z h347 b289 "java/lang/String" := (F295.ext E347)
          have F349 : Fld Z h347 b289 "java/lang/String" "coder" "B" (.int (0 : Int32)) := (F296.ext E347)
          have F350 : Fld Z h347 b289 "java/lang/String" "value" "[B" (.ref b293) := (F297.ext E347)
          have F351 : own_Arf Z h347 b293 b294 .byte (3 : Int32) (fun i => .int ((own_upd (own_upd (own_upd (fun _ => (0 : Int32)) 0 (nar .byte ((nar .char o275).toInt8.toInt32))) 1 (nar .byte ((nar .char o280).toInt8.toInt32))) 2 (nar .byte ((nar .char o285).toInt8.toInt32))) i)) := (F300.ext E347)
          have F352 : Sta Z h347 "java/lang/String" "COMPACT_STRINGS" "Z" (.int f_CS) := (F301.ext E347)
          obtain ⟨_, _, ⟨T353, L353, k353, n353⟩, -, X353', hSq353, hgr353, ⟨Lc353, hQ353, l353, y353, z353, R353⟩, st353⟩ := X347.specialBackS hx (y := (⟨"com/example/margay/margay/index/LineCounter", "<init>", "(Ljava/lang/String;)V"⟩ : MethodName)) rfl hown (mvT hZ (hwd 3 rfl)) (mvT hZ (hwd 4 rfl)) (mvT hZ (hwd 5 rfl)) (by decide) (backOfSH (W := 1) (rmlcR3 l Z A0 hw [] b293 b294 (own_upd (own_upd (own_upd (fun _ => (0 : Int32)) 0 (nar .byte ((nar .char o275).toInt8.toInt32))) 1 (nar .byte ((nar .char o280).toInt8.toInt32))) 2 (nar .byte ((nar .char o285).toInt8.toInt32))) f_CS b347 b289 (0 : Int32) (0 : Int32) (0 : Int32) h347 n0 Z347 F348 F349 F350 F351 F352 hn_CS A347 F_line_b347 ge_b347 F_column_b347 F_xml11_b347) hZ (hwd 5 rfl) (hwd 2 rfl) (by decide) (by decide) hEL CR347.1) (g := (mkF m 474 #[vI p0, vI p1, vI p2, vJ q3, .second, vI v1, vR b289, vI z316, vI v318, vI z332, vI v334, vI z345, .unset] [(.ref b289), (.ref b347), (.ref b347)])) rfl (by rw [hml]; rfl) (Steps.refl _) (a := b347) (argsL := [(.ref b289)]) (rest := [(.ref b347)]) (lenOf pd_3 rfl) rfl (by show 2 * 0 + _ ≤ _; exact Nat.le_of_eq rfl) (hb hby at_474) (fun _ _ => ⟨rfl, e347, (by decide : 4 + 2 ≤ _), (by decide : 14 + 16 ≤ _)⟩)
          dsimp only [Pt.U, Pt.locs, Pt.cells, Pt.slots] at X353' l353 y353 z353 st353 hQ353 hSq353 hgr353 R353
          subst l353 y353 z353
          obtain ⟨X353, hS, hZ, hown⟩ := rebS hS (by rw [e347]; exact hk347) X353' hSq353 hgr353 hZ hown
          obtain ⟨kc353, hkc353⟩ : ∃ z, z = T353.heap.size := ⟨_, rfl⟩
          rw [← hkc353] at hS
          have hk353 : kc353 ≤ T353.heap.size := Nat.le_of_eq hkc353
          have CR353 : CHr Z consts_1 s.vm h0 T353.vm T353.heap := CR347.trans R353
          obtain ⟨o354, rfl, Nq353, Kq353, F355, F356, F357, F358, hp359⟩ := hQ353
          have N353 := Fr.app N344 Nq353
          have K353 : Keep h0 T353.heap [] := K347.trans Kq353 ((allS (Or.inr sz_b347) all0))
          have Z353 : n0 ≤ T353.heap.size := Nat.le_trans Z347 Kq353.1
          refine own_by (fun _ k => st353.trans k) ?_
          show own_Go p e below _ (T353.setTop (mkF m 477 #[vI p0, vI p1, vI p2, vJ q3, .second, vI v1, vR b289, vI z316, vI v318, vI z332, vI v334, vI z345, .unset] [(.ref b347)]))
          refine own_by (fun _ k => XS.astore X353.here hx rfl (hb hby at_477) rfl rfl (l' := #[vI p0, vI p1, vI p2, vJ q3, .second, vI v1, vR b289, vI z316, vI v318, vI z332, vI v334, vI z345, vR b347]) rfl k) ?_
          show own_Go p e below _ (T353.setTop (mkF m 479 #[vI p0, vI p1, vI p2, vJ q3, .second, vI v1, vR b289, vI z316, vI v318, vI z332, vI v334, vI z345, vR b347] []))
          refine own_by (fun _ k => XS.aload X353.here hx rfl (hb hby at_479) rfl rfl k) ?_
          refine own_by (fun _ k => XS.iload X353.here hx rfl (hb hby at_481) rfl k) ?_
          obtain ⟨cq360, kq360, qq360a, qq360b, qq360c⟩ := isOf hZ rfl F355
          obtain ⟨_, _, ⟨T360, L360, k360, n360⟩, -, X360, ⟨Lc360, hQ360, l360, y360, z360⟩, st360⟩ := X353.virtualBack hx (y := (⟨"com/example/margay/margay/index/LineCounter", "endsLine", "(C)Z"⟩ : MethodName)) (z := (⟨"com/example/margay/margay/index/LineCounter", "endsLine", "(C)Z"⟩ : MethodName)) hown (mvT hZ (hwd 28 rfl)) (mvT hZ (hwd 29 rfl)) (notFace_of_selects (args := #[]) (mvT hZ (hwd 31 rfl))) (mvT hZ (hwd 31 rfl)) (mvT hZ (hwd 30 rfl)) (by decide) (backOf (W := 0) (rm4 l Z A0 hw [] b347 v334 o354 T353.heap n0 Z353 F358) hZ (hwd 32 rfl) (hwd 2 rfl) (by decide) (by decide)) qq360a qq360c (g := (mkF m 483 #[vI p0, vI p1, vI p2, vJ q3, .second, vI v1, vR b289, vI z316, vI v318, vI z332, vI v334, vI z345, vR b347] [(.int v334), (.ref b347)])) rfl (by rw [hml]; rfl) (Steps.refl _) (argsL := [(.int v334)]) (rest := []) (lenOf pd_28 rfl) rfl (by show 2 * 0 + _ ≤ _; exact Nat.le_of_eq rfl) (hb hby at_483) (fun _ _ => ⟨rfl, rfl, (by decide : 6 + 0 ≤ _), (by decide : 30 + 0 ≤ _)⟩)
          dsimp only [Pt.U, Pt.locs, Pt.cells, Pt.slots] at X360 l360 y360 z360 st360 hQ360
          subst l360 y360 z360
          obtain ⟨o361, rfl, Nq360, eq360, hp362⟩ := hQ360
          have N360 := Fr.app N353 Nq360
          refine own_by (fun _ k => st360.trans k) ?_
          show own_Go p e below _ (T360.setTop (mkF m 486 #[vI p0, vI p1, vI p2, vJ q3, .second, vI v1, vR b289, vI z316, vI v318, vI z332, vI v334, vI z345, vR b347] [(.int o361)]))
          refine own_by (fun _ k => XS.iload X360.here hx rfl (hb hby at_486) rfl k) ?_
          by_cases c363 : o361 = z345
          ·skip
           refine own_by (fun _ k => XS.icmpNo X360.here hx rfl (hb hby at_488) rfl (teq c363).2 k) ?_
           show own_Go p e below _ (T360.setTop (mkF m 491 #[vI p0, vI p1, vI p2, vJ q3, .second, vI v1, vR b289, vI z316, vI v318, vI z332, vI v334, vI z345, vR b347] []))
           refine own_by (fun _ k => XS.iconst X360.here hx rfl (hb hby at_491) k) ?_
           refine own_by (fun _ k => XS.goto X360.here hx rfl (pc0 := 492) (pc' := 496) rfl (hb hby at_492) (by decide) (by decide) k) ?_
           show own_Go p e below _ (T360.setTop (mkF m 496 #[vI p0, vI p1, vI p2, vJ q3, .second, vI v1, vR b289, vI z316, vI v318, vI z332, vI v334, vI z345, vR b347] [(.int (1 : Int32))]))
           exact own_retNW X360 hx hS hk353 hZ hEL hh CR353 (t := .boolean) Bd.returns (by simp) (hb hby at_496) hlk eq360 ⟨rfl, N360⟩ (by decide) (by decide)
          ·skip
           refine own_by (fun _ k => XS.icmpYes X360.here hx rfl (pc0 := 488) (pc' := 495) rfl (hb hby at_488) rfl (feq c363).2 (by decide) (by decide) k) ?_
           show own_Go p e below _ (T360.setTop (mkF m 495 #[vI p0, vI p1, vI p2, vJ q3, .second, vI v1, vR b289, vI z316, vI v318, vI z332, vI v334, vI z345, vR b347] []))
           refine own_by (fun _ k => XS.iconst X360.here hx rfl (hb hby at_495) k) ?_
           exact own_retNW X360 hx hS hk353 hZ hEL hh CR353 (t := .boolean) Bd.returns (by simp) (hb hby at_496) hlk eq360 ⟨((ob_0_33 f_CS f_SF p0 p1 p2 v1 o275 o280 o285 z316 v318 z332 v334 z345 o354 o361 hn_CS hr_f_SF hv1 c2 c42 c96 c150 c200 c272 hp276 hp281 hp286 hj317 hv318 hj333 hv334 hj346 hp359 hp362 c363)).elim, N360⟩ (by decide) (by decide)
         by_cases c335 : z332 = (10 : Int32)
         ·skip
          refine own_by (fun t q => X329.lookupswitchHit hx (g := (mkF m 410 #[vI p0, vI p1, vI p2, vJ q3, .second, vI v1, vR b289, vI z316, vI v318, vI z332, vI v334, .unset, .unset] [(.int z332)])) rfl (k := z332) rfl (hb hby at_410) (by decide) (a := 10) (off := 42) (by rw [c335]; rfl) (show (0 : Int) ≤ (410 : Int) + 42 by decide) t q) ?_
          show own_Go p e below _ (T327.setTop (mkF m 452 #[vI p0, vI p1, vI p2, vJ q3, .second, vI v1, vR b289, vI z316, vI v318, vI z332, vI v334, .unset, .unset] []))
          refine own_by (fun _ k => XS.iconst X329.here hx rfl (hb hby at_452) k) ?_
          refine own_by (fun _ k => XS.istore X329.here hx rfl (hb hby at_453) rfl (l' := #[vI p0, vI p1, vI p2, vJ q3, .second, vI v1, vR b289, vI z316, vI v318, vI z332, vI v334, vI (1 : Int32), .unset]) rfl k) ?_
          show own_Go p e below _ (T327.setTop (mkF m 455 #[vI p0, vI p1, vI p2, vJ q3, .second, vI v1, vR b289, vI z316, vI v318, vI z332, vI v334, vI (1 : Int32), .unset] []))
          refine own_by (fun _ k => XS.goto X329.here hx rfl (pc0 := 455) (pc' := 468) rfl (hb hby at_455) (by decide) (by decide) k) ?_
          show own_Go p e below _ (T327.setTop (mkF m 468 #[vI p0, vI p1, vI p2, vJ q3, .second, vI v1, vR b289, vI z316, vI v318, vI z332, vI v334, vI (1 : Int32), .unset] []))
          exact J339 _ _ (1 : Int32) X329 e330 N331 (Or.inl ⟨c335, rfl⟩)
         ·skip
          by_cases c336 : z332 = (13 : Int32)
          ·skip
           refine own_by (fun t q => X329.lookupswitchHit hx (g := (mkF m 410 #[vI p0, vI p1, vI p2, vJ q3, .second, vI v1, vR b289, vI z316, vI v318, vI z332, vI v334, .unset, .unset] [(.int z332)])) rfl (k := z332) rfl (hb hby at_410) (by decide) (a := 13) (off := 42) (by rw [c336]; rfl) (show (0 : Int) ≤ (410 : Int) + 42 by decide) t q) ?_
           show own_Go p e below _ (T327.setTop (mkF m 452 #[vI p0, vI p1, vI p2, vJ q3, .second, vI v1, vR b289, vI z316, vI v318, vI z332, vI v334, .unset, .unset] []))
           refine own_by (fun _ k => XS.iconst X329.here hx rfl (hb hby at_452) k) ?_
           refine own_by (fun _ k => XS.istore X329.here hx rfl (hb hby at_453) rfl (l' := #[vI p0, vI p1, vI p2, vJ q3, .second, vI v1, vR b289, vI z316, vI v318, vI z332, vI v334, vI (1 : Int32), .unset]) rfl k) ?_
           show own_Go p e below _ (T327.setTop (mkF m 455 #[vI p0, vI p1, vI p2, vJ q3, .second, vI v1, vR b289, vI z316, vI v318, vI z332, vI v334, vI (1 : Int32), .unset] []))
           refine own_by (fun _ k => XS.goto X329.here hx rfl (pc0 := 455) (pc' := 468) rfl (hb hby at_455) (by decide) (by decide) k) ?_
           show own_Go p e below _ (T327.setTop (mkF m 468 #[vI p0, vI p1, vI p2, vJ q3, .second, vI v1, vR b289, vI z316, vI v318, vI z332, vI v334, vI (1 : Int32), .unset] []))
           exact J339 _ _ (1 : Int32) X329 e330 N331 (Or.inr (Or.inl ⟨c335, c336, rfl⟩))
          ·skip
           by_cases c337 : z332 = (133 : Int32)
           ·skip
            refine own_by (fun t q => X329.lookupswitchHit hx (g := (mkF m 410 #[vI p0, vI p1, vI p2, vJ q3, .second, vI v1, vR b289, vI z316, vI v318, vI z332, vI v334, .unset, .unset] [(.int z332)])) rfl (k := z332) rfl (hb hby at_410) (by decide) (a := 133) (off := 48) (by rw [c337]; rfl) (show (0 : Int) ≤ (410 : Int) + 48 by decide) t q) ?_
            show own_Go p e below _ (T327.setTop (mkF m 458 #[vI p0, vI p1, vI p2, vJ q3, .second, vI v1, vR b289, vI z316, vI v318, vI z332, vI v334, .unset, .unset] []))
            refine own_by (fun _ k => XS.iload X329.here hx rfl (hb hby at_458) rfl k) ?_
            refine own_by (fun _ k => XS.istore X329.here hx rfl (hb hby at_460) rfl (l' := #[vI p0, vI p1, vI p2, vJ q3, .second, vI v1, vR b289, vI z316, vI v318, vI z332, vI v334, vI z316, .unset]) rfl k) ?_
            show own_Go p e below _ (T327.setTop (mkF m 462 #[vI p0, vI p1, vI p2, vJ q3, .second, vI v1, vR b289, vI z316, vI v318, vI z332, vI v334, vI z316, .unset] []))
            refine own_by (fun _ k => XS.goto X329.here hx rfl (pc0 := 462) (pc' := 468) rfl (hb hby at_462) (by decide) (by decide) k) ?_
            show own_Go p e below _ (T327.setTop (mkF m 468 #[vI p0, vI p1, vI p2, vJ q3, .second, vI v1, vR b289, vI z316, vI v318, vI z332, vI v334, vI z316, .unset] []))
            exact J339 _ _ z316 X329 e330 N331 (Or.inr (Or.inr (Or.inl ⟨c335, c336, c337, rfl⟩)))
           ·skip
            by_cases c338 : z332 = (8232 : Int32)
            ·skip
             refine own_by (fun t q => X329.lookupswitchHit hx (g := (mkF m 410 #[vI p0, vI p1, vI p2, vJ q3, .second, vI v1, vR b289, vI z316, vI v318, vI z332, vI v334, .unset, .unset] [(.int z332)])) rfl (k := z332) rfl (hb hby at_410) (by decide) (a := 8232) (off := 48) (by rw [c338]; rfl) (show (0 : Int) ≤ (410 : Int) + 48 by decide) t q) ?_
             show own_Go p e below _ (T327.setTop (mkF m 458 #[vI p0, vI p1, vI p2, vJ q3, .second, vI v1, vR b289, vI z316, vI v318, vI z332, vI v334, .unset, .unset] []))
             refine own_by (fun _ k => XS.iload X329.here hx rfl (hb hby at_458) rfl k) ?_
             refine own_by (fun _ k => XS.istore X329.here hx rfl (hb hby at_460) rfl (l' := #[vI p0, vI p1, vI p2, vJ q3, .second, vI v1, vR b289, vI z316, vI v318, vI z332, vI v334, vI z316, .unset]) rfl k) ?_
             show own_Go p e below _ (T327.setTop (mkF m 462 #[vI p0, vI p1, vI p2, vJ q3, .second, vI v1, vR b289, vI z316, vI v318, vI z332, vI v334, vI z316, .unset] []))
             refine own_by (fun _ k => XS.goto X329.here hx rfl (pc0 := 462) (pc' := 468) rfl (hb hby at_462) (by decide) (by decide) k) ?_
             show own_Go p e below _ (T327.setTop (mkF m 468 #[vI p0, vI p1, vI p2, vJ q3, .second, vI v1, vR b289, vI z316, vI v318, vI z332, vI v334, vI z316, .unset] []))
             exact J339 _ _ z316 X329 e330 N331 (Or.inr (Or.inr (Or.inr (Or.inl ⟨c335, c336, c337, c338, rfl⟩))))
            ·skip
             refine own_by (fun t q => X329.lookupswitchMiss hx (g := (mkF m 410 #[vI p0, vI p1, vI p2, vJ q3, .second, vI v1, vR b289, vI z316, vI v318, vI z332, vI v334, .unset, .unset] [(.int z332)])) rfl (k := z332) rfl (hb hby at_410) (by decide) (by simp [own_swn z332 (a := (10 : Int32)) (A := 10) rfl c335, own_swn z332 (a := (13 : Int32)) (A := 13) rfl c336, own_swn z332 (a := (133 : Int32)) (A := 133) rfl c337, own_swn z332 (a := (8232 : Int32)) (A := 8232) rfl c338]) (show (0 : Int) ≤ (410 : Int) + 55 by decide) t q) ?_
             show own_Go p e below _ (T327.setTop (mkF m 465 #[vI p0, vI p1, vI p2, vJ q3, .second, vI v1, vR b289, vI z316, vI v318, vI z332, vI v334, .unset, .unset] []))
             refine own_by (fun _ k => XS.iconst X329.here hx rfl (hb hby at_465) k) ?_
             refine own_by (fun _ k => XS.istore X329.here hx rfl (hb hby at_466) rfl (l' := #[vI p0, vI p1, vI p2, vJ q3, .second, vI v1, vR b289, vI z316, vI v318, vI z332, vI v334, vI (0 : Int32), .unset]) rfl k) ?_
             show own_Go p e below _ (T327.setTop (mkF m 468 #[vI p0, vI p1, vI p2, vJ q3, .second, vI v1, vR b289, vI z316, vI v318, vI z332, vI v334, vI (0 : Int32), .unset] []))
             exact J339 _ _ (0 : Int32) X329 e330 N331 (Or.inr (Or.inr (Or.inr (Or.inr (⟨c335, c336, c337, c338, rfl⟩)))))
        by_cases c319 : v318 = (0 : Int32)
        ·skip
         refine own_by (fun _ k => XS.ifNo X313.here hx rfl (hb hby at_319) rfl ((if0 _ _).trans (teq c319).2) k) ?_
         show own_Go p e below _ (T311.setTop (mkF m 322 #[vI p0, vI p1, vI p2, vJ q3, .second, vI v1, vR b289, vI z316, vI v318, .unset, .unset, .unset, .unset] []))
         refine own_by (fun _ k => XS.bipush X313.here hx rfl (hb hby at_322) k) ?_
         refine own_by (fun _ k => XS.istore X313.here hx rfl (hb hby at_324) rfl (l' := #[vI p0, vI p1, vI p2, vJ q3, .second, vI v1, vR b289, vI z316, vI v318, vI (13 : Int32), .unset, .unset, .unset]) rfl k) ?_
         show own_Go p e below _ (T311.setTop (mkF m 326 #[vI p0, vI p1, vI p2, vJ q3, .second, vI v1, vR b289, vI z316, vI v318, vI (13 : Int32), .unset, .unset, .unset] []))
         refine own_by (fun _ k => XS.goto X313.here hx rfl (pc0 := 326) (pc' := 403) rfl (hb hby at_326) (by decide) (by decide) k) ?_
         show own_Go p e below _ (T311.setTop (mkF m 403 #[vI p0, vI p1, vI p2, vJ q3, .second, vI v1, vR b289, vI z316, vI v318, vI (13 : Int32), .unset, .unset, .unset] []))
         exact J326 _ _ (13 : Int32) X313 e314 N315 (Or.inl ⟨c319, rfl⟩)
        ·skip
         refine own_by (fun _ k => XS.ifYes X313.here hx rfl (pc0 := 319) (pc' := 329) rfl (hb hby at_319) rfl ((if0 _ _).trans (feq c319).2) (by decide) (by decide) k) ?_
         show own_Go p e below _ (T311.setTop (mkF m 329 #[vI p0, vI p1, vI p2, vJ q3, .second, vI v1, vR b289, vI z316, vI v318, .unset, .unset, .unset, .unset] []))
         refine own_by (fun _ k => XS.iload X313.here hx rfl (hb hby at_329) rfl k) ?_
         refine own_by (fun _ k => XS.iconst X313.here hx rfl (hb hby at_331) k) ?_
         by_cases c320 : v318 = (1 : Int32)
         ·skip
          refine own_by (fun _ k => XS.icmpNo X313.here hx rfl (hb hby at_332) rfl (teq c320).2 k) ?_
          show own_Go p e below _ (T311.setTop (mkF m 335 #[vI p0, vI p1, vI p2, vJ q3, .second, vI v1, vR b289, vI z316, vI v318, .unset, .unset, .unset, .unset] []))
          refine own_by (fun _ k => XS.bipush X313.here hx rfl (hb hby at_335) k) ?_
          refine own_by (fun _ k => XS.istore X313.here hx rfl (hb hby at_337) rfl (l' := #[vI p0, vI p1, vI p2, vJ q3, .second, vI v1, vR b289, vI z316, vI v318, vI (10 : Int32), .unset, .unset, .unset]) rfl k) ?_
          show own_Go p e below _ (T311.setTop (mkF m 339 #[vI p0, vI p1, vI p2, vJ q3, .second, vI v1, vR b289, vI z316, vI v318, vI (10 : Int32), .unset, .unset, .unset] []))
          refine own_by (fun _ k => XS.goto X313.here hx rfl (pc0 := 339) (pc' := 403) rfl (hb hby at_339) (by decide) (by decide) k) ?_
          show own_Go p e below _ (T311.setTop (mkF m 403 #[vI p0, vI p1, vI p2, vJ q3, .second, vI v1, vR b289, vI z316, vI v318, vI (10 : Int32), .unset, .unset, .unset] []))
          exact J326 _ _ (10 : Int32) X313 e314 N315 (Or.inr (Or.inl ⟨c319, c320, rfl⟩))
         ·skip
          refine own_by (fun _ k => XS.icmpYes X313.here hx rfl (pc0 := 332) (pc' := 342) rfl (hb hby at_332) rfl (feq c320).2 (by decide) (by decide) k) ?_
          show own_Go p e below _ (T311.setTop (mkF m 342 #[vI p0, vI p1, vI p2, vJ q3, .second, vI v1, vR b289, vI z316, vI v318, .unset, .unset, .unset, .unset] []))
          refine own_by (fun _ k => XS.iload X313.here hx rfl (hb hby at_342) rfl k) ?_
          refine own_by (fun _ k => XS.iconst X313.here hx rfl (hb hby at_344) k) ?_
          by_cases c321 : v318 = (2 : Int32)
          ·skip
           refine own_by (fun _ k => XS.icmpNo X313.here hx rfl (hb hby at_345) rfl (teq c321).2 k) ?_
           show own_Go p e below _ (T311.setTop (mkF m 348 #[vI p0, vI p1, vI p2, vJ q3, .second, vI v1, vR b289, vI z316, vI v318, .unset, .unset, .unset, .unset] []))
           refine own_by (fun _ k => XS.sipush X313.here hx rfl (hb hby at_348) k) ?_
           refine own_by (fun _ k => XS.istore X313.here hx rfl (hb hby at_351) rfl (l' := #[vI p0, vI p1, vI p2, vJ q3, .second, vI v1, vR b289, vI z316, vI v318, vI (133 : Int32), .unset, .unset, .unset]) rfl k) ?_
           show own_Go p e below _ (T311.setTop (mkF m 353 #[vI p0, vI p1, vI p2, vJ q3, .second, vI v1, vR b289, vI z316, vI v318, vI (133 : Int32), .unset, .unset, .unset] []))
           refine own_by (fun _ k => XS.goto X313.here hx rfl (pc0 := 353) (pc' := 403) rfl (hb hby at_353) (by decide) (by decide) k) ?_
           show own_Go p e below _ (T311.setTop (mkF m 403 #[vI p0, vI p1, vI p2, vJ q3, .second, vI v1, vR b289, vI z316, vI v318, vI (133 : Int32), .unset, .unset, .unset] []))
           exact J326 _ _ (133 : Int32) X313 e314 N315 (Or.inr (Or.inr (Or.inl ⟨c319, c320, c321, rfl⟩)))
          ·skip
           refine own_by (fun _ k => XS.icmpYes X313.here hx rfl (pc0 := 345) (pc' := 356) rfl (hb hby at_345) rfl (feq c321).2 (by decide) (by decide) k) ?_
           show own_Go p e below _ (T311.setTop (mkF m 356 #[vI p0, vI p1, vI p2, vJ q3, .second, vI v1, vR b289, vI z316, vI v318, .unset, .unset, .unset, .unset] []))
           refine own_by (fun _ k => XS.iload X313.here hx rfl (hb hby at_356) rfl k) ?_
           refine own_by (fun _ k => XS.iconst X313.here hx rfl (hb hby at_358) k) ?_
           by_cases c322 : v318 = (3 : Int32)
           ·skip
            refine own_by (fun _ k => XS.icmpNo X313.here hx rfl (hb hby at_359) rfl (teq c322).2 k) ?_
            show own_Go p e below _ (T311.setTop (mkF m 362 #[vI p0, vI p1, vI p2, vJ q3, .second, vI v1, vR b289, vI z316, vI v318, .unset, .unset, .unset, .unset] []))
            refine own_by (fun _ k => XS.sipush X313.here hx rfl (hb hby at_362) k) ?_
            refine own_by (fun _ k => XS.istore X313.here hx rfl (hb hby at_365) rfl (l' := #[vI p0, vI p1, vI p2, vJ q3, .second, vI v1, vR b289, vI z316, vI v318, vI (8232 : Int32), .unset, .unset, .unset]) rfl k) ?_
            show own_Go p e below _ (T311.setTop (mkF m 367 #[vI p0, vI p1, vI p2, vJ q3, .second, vI v1, vR b289, vI z316, vI v318, vI (8232 : Int32), .unset, .unset, .unset] []))
            refine own_by (fun _ k => XS.goto X313.here hx rfl (pc0 := 367) (pc' := 403) rfl (hb hby at_367) (by decide) (by decide) k) ?_
            show own_Go p e below _ (T311.setTop (mkF m 403 #[vI p0, vI p1, vI p2, vJ q3, .second, vI v1, vR b289, vI z316, vI v318, vI (8232 : Int32), .unset, .unset, .unset] []))
            exact J326 _ _ (8232 : Int32) X313 e314 N315 (Or.inr (Or.inr (Or.inr (Or.inl ⟨c319, c320, c321, c322, rfl⟩))))
           ·skip
            refine own_by (fun _ k => XS.icmpYes X313.here hx rfl (pc0 := 359) (pc' := 370) rfl (hb hby at_359) rfl (feq c322).2 (by decide) (by decide) k) ?_
            show own_Go p e below _ (T311.setTop (mkF m 370 #[vI p0, vI p1, vI p2, vJ q3, .second, vI v1, vR b289, vI z316, vI v318, .unset, .unset, .unset, .unset] []))
            refine own_by (fun _ k => XS.iload X313.here hx rfl (hb hby at_370) rfl k) ?_
            refine own_by (fun _ k => XS.iconst X313.here hx rfl (hb hby at_372) k) ?_
            by_cases c323 : v318 = (4 : Int32)
            ·skip
             refine own_by (fun _ k => XS.icmpNo X313.here hx rfl (hb hby at_373) rfl (teq c323).2 k) ?_
             show own_Go p e below _ (T311.setTop (mkF m 376 #[vI p0, vI p1, vI p2, vJ q3, .second, vI v1, vR b289, vI z316, vI v318, .unset, .unset, .unset, .unset] []))
             refine own_by (fun _ k => XS.sipush X313.here hx rfl (hb hby at_376) k) ?_
             refine own_by (fun _ k => XS.istore X313.here hx rfl (hb hby at_379) rfl (l' := #[vI p0, vI p1, vI p2, vJ q3, .second, vI v1, vR b289, vI z316, vI v318, vI (8233 : Int32), .unset, .unset, .unset]) rfl k) ?_
             show own_Go p e below _ (T311.setTop (mkF m 381 #[vI p0, vI p1, vI p2, vJ q3, .second, vI v1, vR b289, vI z316, vI v318, vI (8233 : Int32), .unset, .unset, .unset] []))
             refine own_by (fun _ k => XS.goto X313.here hx rfl (pc0 := 381) (pc' := 403) rfl (hb hby at_381) (by decide) (by decide) k) ?_
             show own_Go p e below _ (T311.setTop (mkF m 403 #[vI p0, vI p1, vI p2, vJ q3, .second, vI v1, vR b289, vI z316, vI v318, vI (8233 : Int32), .unset, .unset, .unset] []))
             exact J326 _ _ (8233 : Int32) X313 e314 N315 (Or.inr (Or.inr (Or.inr (Or.inr (Or.inl ⟨c319, c320, c321, c322, c323, rfl⟩)))))
            ·skip
             refine own_by (fun _ k => XS.icmpYes X313.here hx rfl (pc0 := 373) (pc' := 384) rfl (hb hby at_373) rfl (feq c323).2 (by decide) (by decide) k) ?_
             show own_Go p e below _ (T311.setTop (mkF m 384 #[vI p0, vI p1, vI p2, vJ q3, .second, vI v1, vR b289, vI z316, vI v318, .unset, .unset, .unset, .unset] []))
             refine own_by (fun _ k => XS.iload X313.here hx rfl (hb hby at_384) rfl k) ?_
             refine own_by (fun _ k => XS.iconst X313.here hx rfl (hb hby at_386) k) ?_
             by_cases c324 : v318 = (5 : Int32)
             ·skip
              refine own_by (fun _ k => XS.icmpNo X313.here hx rfl (hb hby at_387) rfl (teq c324).2 k) ?_
              show own_Go p e below _ (T311.setTop (mkF m 390 #[vI p0, vI p1, vI p2, vJ q3, .second, vI v1, vR b289, vI z316, vI v318, .unset, .unset, .unset, .unset] []))
              refine own_by (fun _ k => XS.bipush X313.here hx rfl (hb hby at_390) k) ?_
              refine own_by (fun _ k => XS.istore X313.here hx rfl (hb hby at_392) rfl (l' := #[vI p0, vI p1, vI p2, vJ q3, .second, vI v1, vR b289, vI z316, vI v318, vI (12 : Int32), .unset, .unset, .unset]) rfl k) ?_
              show own_Go p e below _ (T311.setTop (mkF m 394 #[vI p0, vI p1, vI p2, vJ q3, .second, vI v1, vR b289, vI z316, vI v318, vI (12 : Int32), .unset, .unset, .unset] []))
              refine own_by (fun _ k => XS.goto X313.here hx rfl (pc0 := 394) (pc' := 403) rfl (hb hby at_394) (by decide) (by decide) k) ?_
              show own_Go p e below _ (T311.setTop (mkF m 403 #[vI p0, vI p1, vI p2, vJ q3, .second, vI v1, vR b289, vI z316, vI v318, vI (12 : Int32), .unset, .unset, .unset] []))
              exact J326 _ _ (12 : Int32) X313 e314 N315 (Or.inr (Or.inr (Or.inr (Or.inr (Or.inr (Or.inl ⟨c319, c320, c321, c322, c323, c324, rfl⟩))))))
             ·skip
              refine own_by (fun _ k => XS.icmpYes X313.here hx rfl (pc0 := 387) (pc' := 397) rfl (hb hby at_387) rfl (feq c324).2 (by decide) (by decide) k) ?_
              show own_Go p e below _ (T311.setTop (mkF m 397 #[vI p0, vI p1, vI p2, vJ q3, .second, vI v1, vR b289, vI z316, vI v318, .unset, .unset, .unset, .unset] []))
              refine own_by (fun _ k => XS.iloadN X313.here hx rfl (hb hby at_397) rfl k) ?_
              refine own_by (fun t k => X313.ldcInt hx hown (mvT hZ (hwd 99 rfl)) (g := (mkF m 398 #[vI p0, vI p1, vI p2, vJ q3, .second, vI v1, vR b289, vI z316, vI v318, .unset, .unset, .unset, .unset] [(.int p2)])) rfl (hb hby at_398) _ k) ?_
              show own_Go p e below _ (T311.setTop (mkF m 400 #[vI p0, vI p1, vI p2, vJ q3, .second, vI v1, vR b289, vI z316, vI v318, .unset, .unset, .unset, .unset] [(.int (65535 : Int32)), (.int p2)]))
              refine own_by (fun _ k => XS.iand X313.here hx rfl (hb hby at_400) rfl k) ?_
              show own_Go p e below _ (T311.setTop (mkF m 401 #[vI p0, vI p1, vI p2, vJ q3, .second, vI v1, vR b289, vI z316, vI v318, .unset, .unset, .unset, .unset] [(.int (p2 &&& (65535 : Int32)))]))
              refine own_by (fun _ k => XS.istore X313.here hx rfl (hb hby at_401) rfl (l' := #[vI p0, vI p1, vI p2, vJ q3, .second, vI v1, vR b289, vI z316, vI v318, vI (p2 &&& (65535 : Int32)), .unset, .unset, .unset]) rfl k) ?_
              show own_Go p e below _ (T311.setTop (mkF m 403 #[vI p0, vI p1, vI p2, vJ q3, .second, vI v1, vR b289, vI z316, vI v318, vI (p2 &&& (65535 : Int32)), .unset, .unset, .unset] []))
              generalize hv325 : (p2 &&& (65535 : Int32)) = v325
              show own_Go p e below _ (T311.setTop (mkF m 403 #[vI p0, vI p1, vI p2, vJ q3, .second, vI v1, vR b289, vI z316, vI v318, vI v325, .unset, .unset, .unset] []))
              exact J326 _ _ v325 X313 e314 N315 (Or.inr (Or.inr (Or.inr (Or.inr (Or.inr (Or.inr (⟨v325, c319, c320, c321, c322, c323, c324, hv325, rfl⟩)))))))
       by_cases c305 : (nar .char (nar .char (((nar .byte ((nar .char o275).toInt8.toInt32)) &&& (255 : Int32)).toUInt32.toUInt16.toUInt32.toInt32))) = (49 : Int32)
       ·skip
        refine own_by (fun _ k => XS.icmpNo X304.here hx rfl (hb hby at_279) rfl (teq c305).2 k) ?_
        show own_Go p e below _ (T304.setTop (mkF m 282 #[vI p0, vI p1, vI p2, vJ q3, .second, vI v1, vR b289, vR b273, .unset, .unset, .unset, .unset, .unset] []))
        refine own_by (fun _ k => XS.aload X304.here hx rfl (hb hby at_282) rfl rfl k) ?_
        refine own_by (fun _ k => XS.iconst X304.here hx rfl (hb hby at_284) k) ?_
        obtain ⟨cq306, kq306, qq306a, qq306b, qq306c⟩ := isOf hZ eq304 F295
        obtain ⟨_, _, ⟨T306, L306, k306, n306⟩, -, X306, ⟨Lc306, hQ306, l306, y306, z306⟩, st306⟩ := X304.virtualBack hx (y := (⟨"java/lang/String", "charAt", "(I)C"⟩ : MethodName)) (z := (⟨"java/lang/String", "charAt", "(I)C"⟩ : MethodName)) hown (mvT hZ (hwd 77 rfl)) (mvT hZ (hwd 78 rfl)) (notFace_of_selects (args := #[]) (mvT hZ (hwd 80 rfl))) (mvT hZ (hwd 80 rfl)) (mvT hZ (hwd 79 rfl)) (by decide) (backOf (W := 0) (rmsca1 l Z A0 hw [] b293 b294 (own_upd (own_upd (own_upd (fun _ => (0 : Int32)) 0 (nar .byte ((nar .char o275).toInt8.toInt32))) 1 (nar .byte ((nar .char o280).toInt8.toInt32))) 2 (nar .byte ((nar .char o285).toInt8.toInt32))) f_CS f_SF b289 T292.heap n0 Z292 F295 F296 F297 F300 F301 hn_CS F303 hr_f_SF) hZ (hwd 81 rfl) (hwd 14 rfl) (by decide) (by decide)) qq306a qq306c (g := (mkF m 285 #[vI p0, vI p1, vI p2, vJ q3, .second, vI v1, vR b289, vR b273, .unset, .unset, .unset, .unset, .unset] [(.int (1 : Int32)), (.ref b289)])) rfl (by rw [hml]; rfl) (Steps.refl _) (argsL := [(.int (1 : Int32))]) (rest := []) (lenOf pd_77 rfl) rfl (by show 2 * 0 + _ ≤ _; exact Nat.le_of_eq rfl) (hb hby at_285) (fun _ _ => ⟨rfl, eq304, (by decide : 3 + 0 ≤ _), (by decide : 10 + 0 ≤ _)⟩)
        dsimp only [Pt.U, Pt.locs, Pt.cells, Pt.slots] at X306 l306 y306 z306 st306 hQ306
        subst l306 y306 z306
        obtain ⟨rfl, Nq306, eq306⟩ := hQ306
        have N306 := Fr.app N304 Nq306
        refine own_by (fun _ k => st306.trans k) ?_
        show own_Go p e below _ (T306.setTop (mkF m 288 #[vI p0, vI p1, vI p2, vJ q3, .second, vI v1, vR b289, vR b273, .unset, .unset, .unset, .unset, .unset] [(.int (nar .char (nar .char (((nar .byte ((nar .char o280).toInt8.toInt32)) &&& (255 : Int32)).toUInt32.toUInt16.toUInt32.toInt32))))]))
        refine own_by (fun _ k => XS.bipush X306.here hx rfl (hb hby at_288) k) ?_
        by_cases c307 : (nar .char (nar .char (((nar .byte ((nar .char o280).toInt8.toInt32)) &&& (255 : Int32)).toUInt32.toUInt16.toUInt32.toInt32))) = (46 : Int32)
        ·skip
         refine own_by (fun _ k => XS.icmpNo X306.here hx rfl (hb hby at_290) rfl (teq c307).2 k) ?_
         show own_Go p e below _ (T306.setTop (mkF m 293 #[vI p0, vI p1, vI p2, vJ q3, .second, vI v1, vR b289, vR b273, .unset, .unset, .unset, .unset, .unset] []))
         refine own_by (fun _ k => XS.aload X306.here hx rfl (hb hby at_293) rfl rfl k) ?_
         refine own_by (fun _ k => XS.iconst X306.here hx rfl (hb hby at_295) k) ?_
         obtain ⟨cq308, kq308, qq308a, qq308b, qq308c⟩ := isOf hZ eq306 F295
         obtain ⟨_, _, ⟨T308, L308, k308, n308⟩, -, X308, ⟨Lc308, hQ308, l308, y308, z308⟩, st308⟩ := X306.virtualBack hx (y := (⟨"java/lang/String", "charAt", "(I)C"⟩ : MethodName)) (z := (⟨"java/lang/String", "charAt", "(I)C"⟩ : MethodName)) hown (mvT hZ (hwd 77 rfl)) (mvT hZ (hwd 78 rfl)) (notFace_of_selects (args := #[]) (mvT hZ (hwd 80 rfl))) (mvT hZ (hwd 80 rfl)) (mvT hZ (hwd 79 rfl)) (by decide) (backOf (W := 0) (rmsca2 l Z A0 hw [] b293 b294 (own_upd (own_upd (own_upd (fun _ => (0 : Int32)) 0 (nar .byte ((nar .char o275).toInt8.toInt32))) 1 (nar .byte ((nar .char o280).toInt8.toInt32))) 2 (nar .byte ((nar .char o285).toInt8.toInt32))) f_CS f_SF b289 T292.heap n0 Z292 F295 F296 F297 F300 F301 hn_CS F303 hr_f_SF) hZ (hwd 81 rfl) (hwd 14 rfl) (by decide) (by decide)) qq308a qq308c (g := (mkF m 296 #[vI p0, vI p1, vI p2, vJ q3, .second, vI v1, vR b289, vR b273, .unset, .unset, .unset, .unset, .unset] [(.int (2 : Int32)), (.ref b289)])) rfl (by rw [hml]; rfl) (Steps.refl _) (argsL := [(.int (2 : Int32))]) (rest := []) (lenOf pd_77 rfl) rfl (by show 2 * 0 + _ ≤ _; exact Nat.le_of_eq rfl) (hb hby at_296) (fun _ _ => ⟨rfl, eq306, (by decide : 3 + 0 ≤ _), (by decide : 10 + 0 ≤ _)⟩)
         dsimp only [Pt.U, Pt.locs, Pt.cells, Pt.slots] at X308 l308 y308 z308 st308 hQ308
         subst l308 y308 z308
         obtain ⟨rfl, Nq308, eq308⟩ := hQ308
         have N308 := Fr.app N306 Nq308
         refine own_by (fun _ k => st308.trans k) ?_
         show own_Go p e below _ (T308.setTop (mkF m 299 #[vI p0, vI p1, vI p2, vJ q3, .second, vI v1, vR b289, vR b273, .unset, .unset, .unset, .unset, .unset] [(.int (nar .char (nar .char (((nar .byte ((nar .char o285).toInt8.toInt32)) &&& (255 : Int32)).toUInt32.toUInt16.toUInt32.toInt32))))]))
         refine own_by (fun _ k => XS.bipush X308.here hx rfl (hb hby at_299) k) ?_
         by_cases c309 : (nar .char (nar .char (((nar .byte ((nar .char o285).toInt8.toInt32)) &&& (255 : Int32)).toUInt32.toUInt16.toUInt32.toInt32))) = (49 : Int32)
         ·skip
          refine own_by (fun _ k => XS.icmpNo X308.here hx rfl (hb hby at_301) rfl (teq c309).2 k) ?_
          show own_Go p e below _ (T308.setTop (mkF m 304 #[vI p0, vI p1, vI p2, vJ q3, .second, vI v1, vR b289, vR b273, .unset, .unset, .unset, .unset, .unset] []))
          refine own_by (fun _ k => XS.iconst X308.here hx rfl (hb hby at_304) k) ?_
          refine own_by (fun _ k => XS.goto X308.here hx rfl (pc0 := 305) (pc' := 309) rfl (hb hby at_305) (by decide) (by decide) k) ?_
          show own_Go p e below _ (T308.setTop (mkF m 309 #[vI p0, vI p1, vI p2, vJ q3, .second, vI v1, vR b289, vR b273, .unset, .unset, .unset, .unset, .unset] [(.int (1 : Int32))]))
          exact J310 _ _ (1 : Int32) X308 eq308 N308 (Or.inl ⟨c305, c307, c309, rfl⟩)
         ·skip
          refine own_by (fun _ k => XS.icmpYes X308.here hx rfl (pc0 := 301) (pc' := 308) rfl (hb hby at_301) rfl (feq c309).2 (by decide) (by decide) k) ?_
          show own_Go p e below _ (T308.setTop (mkF m 308 #[vI p0, vI p1, vI p2, vJ q3, .second, vI v1, vR b289, vR b273, .unset, .unset, .unset, .unset, .unset] []))
          refine own_by (fun _ k => XS.iconst X308.here hx rfl (hb hby at_308) k) ?_
          exact J310 _ _ (0 : Int32) X308 eq308 N308 (Or.inr (Or.inl ⟨c305, c307, c309, rfl⟩))
        ·skip
         refine own_by (fun _ k => XS.icmpYes X306.here hx rfl (pc0 := 290) (pc' := 308) rfl (hb hby at_290) rfl (feq c307).2 (by decide) (by decide) k) ?_
         show own_Go p e below _ (T306.setTop (mkF m 308 #[vI p0, vI p1, vI p2, vJ q3, .second, vI v1, vR b289, vR b273, .unset, .unset, .unset, .unset, .unset] []))
         refine own_by (fun _ k => XS.iconst X306.here hx rfl (hb hby at_308) k) ?_
         exact J310 _ _ (0 : Int32) X306 eq306 N306 (Or.inr (Or.inr (Or.inl ⟨c305, c307, rfl⟩)))
       ·skip
        refine own_by (fun _ k => XS.icmpYes X304.here hx rfl (pc0 := 279) (pc' := 308) rfl (hb hby at_279) rfl (feq c305).2 (by decide) (by decide) k) ?_
        show own_Go p e below _ (T304.setTop (mkF m 308 #[vI p0, vI p1, vI p2, vJ q3, .second, vI v1, vR b289, vR b273, .unset, .unset, .unset, .unset, .unset] []))
        refine own_by (fun _ k => XS.iconst X304.here hx rfl (hb hby at_308) k) ?_
        exact J310 _ _ (0 : Int32) X304 eq304 N304 (Or.inr (Or.inr (Or.inr (⟨c305, rfl⟩))))
      ·skip
       refine own_by (fun _ k => XS.icmpYes X0.here hx rfl (pc0 := 103) (pc' := 154) rfl (hb hby at_103) rfl (feq c272).2 (by decide) (by decide) k) ?_
       show own_Go p e below _ (s₁.setTop (mkF m 154 #[vI p0, vI p1, vI p2, vJ q3, .second, vI v1, .unset, .unset, .unset, .unset, .unset, .unset, .unset] []))
       refine own_by (fun _ k => XS.iload X0.here hx rfl (hb hby at_154) rfl k) ?_
       refine own_by (fun _ k => XS.bipush X0.here hx rfl (hb hby at_156) k) ?_
       by_cases c364 : v1 = (6 : Int32)
       ·skip
        refine own_by (fun _ k => XS.icmpNo X0.here hx rfl (hb hby at_158) rfl (teq c364).2 k) ?_
        show own_Go p e below _ (s₁.setTop (mkF m 161 #[vI p0, vI p1, vI p2, vJ q3, .second, vI v1, .unset, .unset, .unset, .unset, .unset, .unset, .unset] []))
        refine own_by (fun _ k => XS.iconst X0.here hx rfl (hb hby at_161) k) ?_
        obtain ⟨T365, h365, k365, X365, e365, E365, A365, st365⟩ := newP X0 hx hZ (hwd 33 rfl) e0 (g := (mkF m 162 #[vI p0, vI p1, vI p2, vJ q3, .second, vI v1, .unset, .unset, .unset, .unset, .unset, .unset, .unset] [(.int (4 : Int32))])) rfl (hb hby at_162) rfl (by decide) (cap := 4) (by decide) (by decide) (by decide) (by decide)
        obtain ⟨b365, g365⟩ : ∃ z, z = h0.size := ⟨_, rfl⟩
        have ge_b365 : n0 ≤ b365 := Nat.le_trans Z0 (Nat.le_of_eq g365.symm)
        have sz_b365 : h0.size ≤ b365 := Nat.le_trans (Keep.refl h0 []).1 (Nat.le_of_eq g365.symm)
        have R365 : CHr Z consts_1 s.vm h0 s.vm h365 := CHr.ext E365 CR0.1
        have CR365 : CHr Z consts_1 s.vm h0 s.vm h365 := CR0.trans R365
        have hk365 : kc0 ≤ h365.size := Nat.le_trans hk0 E365.1
        have S_b365 : Safe Z consts_1 s.vm h365 b365 := Safe.ext E365 CR0.1 (Safe.new (Nat.le_of_eq g365.symm))
        have K365 : Keep h0 h365 [] := (Keep.refl h0 []).ext E365
        have Z365 : n0 ≤ h365.size := Nat.le_trans Z0 E365.1
        rw [← g365] at A365 st365
        have V365 : own_Arf Z h365 b365 k365 .char (4 : Int32) (fun i => .int ((fun _ => (0 : Int32)) i)) := own_arfNew A365 (by decide)
        refine own_by st365 ?_
        show own_Go p e below _ (T365.setTop (mkF m 164 #[vI p0, vI p1, vI p2, vJ q3, .second, vI v1, .unset, .unset, .unset, .unset, .unset, .unset, .unset] [(.ref b365)]))
        refine own_by (fun _ k => XS.astore X365.here hx rfl (hb hby at_164) rfl rfl (l' := #[vI p0, vI p1, vI p2, vJ q3, .second, vI v1, .unset, vR b365, .unset, .unset, .unset, .unset, .unset]) rfl k) ?_
        show own_Go p e below _ (T365.setTop (mkF m 166 #[vI p0, vI p1, vI p2, vJ q3, .second, vI v1, .unset, vR b365, .unset, .unset, .unset, .unset, .unset] []))
        refine own_by (fun _ k => XS.aload X365.here hx rfl (hb hby at_166) rfl rfl k) ?_
        refine own_by (fun _ k => XS.iconst X365.here hx rfl (hb hby at_168) k) ?_
        refine own_by (fun _ k => XS.lloadN X365.here hx rfl (hb hby at_169) rfl k) ?_
        refine own_by (fun _ k => XS.iconst X365.here hx rfl (hb hby at_170) k) ?_
        obtain ⟨_, _, ⟨T366, L366, k366, n366⟩, -, X366, ⟨Lc366, hQ366, l366, y366, z366⟩, st366⟩ := Jvm.LawKit.callS X365 hx (y := (⟨"com/example/margay/margay/index/LineCounterEndsLinePinLaw", "ch", "(JI)C"⟩ : MethodName)) hown (mvT hZ (hwd 34 rfl)) (mvT hZ (hwd 35 rfl)) (mvT hZ (hwd 36 rfl)) (mvT hZ (hwd 37 rfl)) (by decide) (backOf (W := 2) (rmch l Z A0 hw [] q3 (0 : Int32) h365 n0 Z365 ) hZ (hwd 37 rfl) (hwd 36 rfl) (by decide) (by decide)) (g := (mkF m 171 #[vI p0, vI p1, vI p2, vJ q3, .second, vI v1, .unset, vR b365, .unset, .unset, .unset, .unset, .unset] [(.int (0 : Int32)), (.long q3), (.int (0 : Int32)), (.ref b365)])) rfl (by rw [hml]; rfl) (argsL := [(.long q3), (.int (0 : Int32))]) (rest := [(.int (0 : Int32)), (.ref b365)]) (lenOf pd_34 rfl) rfl (by show 2 * 0 + _ ≤ _; exact Nat.le_of_eq rfl) (hb hby at_171) (fun _ _ => ⟨rfl, e365, (by decide : 1 + 0 ≤ _), (by decide : 4 + 0 ≤ _)⟩)
        dsimp only [Pt.U, Pt.locs, Pt.cells, Pt.slots] at X366 l366 y366 z366 st366 hQ366
        subst l366 y366 z366
        obtain ⟨o367, rfl, Nq366, eq366, hp368⟩ := hQ366
        have N366 := Fr.app N0 Nq366
        refine own_by st366 ?_
        show own_Go p e below _ (T366.setTop (mkF m 174 #[vI p0, vI p1, vI p2, vJ q3, .second, vI v1, .unset, vR b365, .unset, .unset, .unset, .unset, .unset] [(.int o367), (.int (0 : Int32)), (.ref b365)]))
        obtain ⟨cl369, Ar369, qq369, S369, M369, H369, G369⟩ := id V365
        have hin369 : ¬ ((0 : Int32) < 0 ∨ cl369.slots.size ≤ ((0 : Int32)).toNatClampNeg) := inb_of S369 ⟨by decide, by decide⟩
        obtain ⟨T370, h370, X370, e370, W370, st370⟩ := stC X366 hx hZ eq366 Ar369 (j := (0 : Int32)) hin369 (g := (mkF m 174 #[vI p0, vI p1, vI p2, vJ q3, .second, vI v1, .unset, vR b365, .unset, .unset, .unset, .unset, .unset] [(.int o367), (.int (0 : Int32)), (.ref b365)])) rfl rfl (hb hby at_174)
        have V370 : own_Arf Z h370 b365 k365 .char (4 : Int32) (fun i => .int ((own_upd (fun _ => (0 : Int32)) 0 (nar .char o367)) i)) := own_arfSetI Ar369 qq369 S369 M369 H369 G369 (fits_nar_char _) W370
        have R370 : CHr Z consts_1 s.vm h365 s.vm h370 := CHr.wr W370 (own_arfSafe V365 hZ.alike (by decide)) CR365.1
        have CR370 : CHr Z consts_1 s.vm h0 s.vm h370 := CR365.trans R370
        have hk370 : kc0 ≤ h370.size := Nat.le_trans hk365 (Keep.of_wr W370).1
        have K370 : Keep h0 h370 [] := K365.wr W370 (Or.inr sz_b365)
        have Z370 : n0 ≤ h370.size := Nat.le_trans Z365 (Keep.of_wr W370).1
        have N370 := Fr.snoc X370 N366 ge_b365
        refine own_by st370 ?_
        show own_Go p e below _ (T370.setTop (mkF m 175 #[vI p0, vI p1, vI p2, vJ q3, .second, vI v1, .unset, vR b365, .unset, .unset, .unset, .unset, .unset] []))
        refine own_by (fun _ k => XS.aload X370.here hx rfl (hb hby at_175) rfl rfl k) ?_
        refine own_by (fun _ k => XS.iconst X370.here hx rfl (hb hby at_177) k) ?_
        refine own_by (fun _ k => XS.lloadN X370.here hx rfl (hb hby at_178) rfl k) ?_
        refine own_by (fun _ k => XS.bipush X370.here hx rfl (hb hby at_179) k) ?_
        obtain ⟨_, _, ⟨T371, L371, k371, n371⟩, -, X371, ⟨Lc371, hQ371, l371, y371, z371⟩, st371⟩ := Jvm.LawKit.callS X370 hx (y := (⟨"com/example/margay/margay/index/LineCounterEndsLinePinLaw", "ch", "(JI)C"⟩ : MethodName)) hown (mvT hZ (hwd 34 rfl)) (mvT hZ (hwd 35 rfl)) (mvT hZ (hwd 36 rfl)) (mvT hZ (hwd 37 rfl)) (by decide) (backOf (W := 2) (rmch l Z A0 hw [] q3 (8 : Int32) h370 n0 Z370 ) hZ (hwd 37 rfl) (hwd 36 rfl) (by decide) (by decide)) (g := (mkF m 181 #[vI p0, vI p1, vI p2, vJ q3, .second, vI v1, .unset, vR b365, .unset, .unset, .unset, .unset, .unset] [(.int (8 : Int32)), (.long q3), (.int (1 : Int32)), (.ref b365)])) rfl (by rw [hml]; rfl) (argsL := [(.long q3), (.int (8 : Int32))]) (rest := [(.int (1 : Int32)), (.ref b365)]) (lenOf pd_34 rfl) rfl (by show 2 * 0 + _ ≤ _; exact Nat.le_of_eq rfl) (hb hby at_181) (fun _ _ => ⟨rfl, e370, (by decide : 1 + 0 ≤ _), (by decide : 4 + 0 ≤ _)⟩)
        dsimp only [Pt.U, Pt.locs, Pt.cells, Pt.slots] at X371 l371 y371 z371 st371 hQ371
        subst l371 y371 z371
        obtain ⟨o372, rfl, Nq371, eq371, hp373⟩ := hQ371
        have N371 := Fr.app N370 Nq371
        refine own_by st371 ?_
        show own_Go p e below _ (T371.setTop (mkF m 184 #[vI p0, vI p1, vI p2, vJ q3, .second, vI v1, .unset, vR b365, .unset, .unset, .unset, .unset, .unset] [(.int o372), (.int (1 : Int32)), (.ref b365)]))
        obtain ⟨cl374, Ar374, qq374, S374, M374, H374, G374⟩ := id V370
        have hin374 : ¬ ((1 : Int32) < 0 ∨ cl374.slots.size ≤ ((1 : Int32)).toNatClampNeg) := inb_of S374 ⟨by decide, by decide⟩
        obtain ⟨T375, h375, X375, e375, W375, st375⟩ := stC X371 hx hZ eq371 Ar374 (j := (1 : Int32)) hin374 (g := (mkF m 184 #[vI p0, vI p1, vI p2, vJ q3, .second, vI v1, .unset, vR b365, .unset, .unset, .unset, .unset, .unset] [(.int o372), (.int (1 : Int32)), (.ref b365)])) rfl rfl (hb hby at_184)
        have V375 : own_Arf Z h375 b365 k365 .char (4 : Int32) (fun i => .int ((own_upd (own_upd (fun _ => (0 : Int32)) 0 (nar .char o367)) 1 (nar .char o372)) i)) := own_arfSetI Ar374 qq374 S374 M374 H374 G374 (fits_nar_char _) W375
        have R375 : CHr Z consts_1 s.vm h370 s.vm h375 := CHr.wr W375 (own_arfSafe V370 hZ.alike (by decide)) CR370.1
        have CR375 : CHr Z consts_1 s.vm h0 s.vm h375 := CR370.trans R375
        have hk375 : kc0 ≤ h375.size := Nat.le_trans hk370 (Keep.of_wr W375).1
        have K375 : Keep h0 h375 [] := K370.wr W375 (Or.inr sz_b365)
        have Z375 : n0 ≤ h375.size := Nat.le_trans Z370 (Keep.of_wr W375).1
        have N375 := Fr.snoc X375 N371 ge_b365
        refine own_by st375 ?_
        show own_Go p e below _ (T375.setTop (mkF m 185 #[vI p0, vI p1, vI p2, vJ q3, .second, vI v1, .unset, vR b365, .unset, .unset, .unset, .unset, .unset] []))
        refine own_by (fun _ k => XS.aload X375.here hx rfl (hb hby at_185) rfl rfl k) ?_
        refine own_by (fun _ k => XS.iconst X375.here hx rfl (hb hby at_187) k) ?_
        refine own_by (fun _ k => XS.lloadN X375.here hx rfl (hb hby at_188) rfl k) ?_
        refine own_by (fun _ k => XS.bipush X375.here hx rfl (hb hby at_189) k) ?_
        obtain ⟨_, _, ⟨T376, L376, k376, n376⟩, -, X376, ⟨Lc376, hQ376, l376, y376, z376⟩, st376⟩ := Jvm.LawKit.callS X375 hx (y := (⟨"com/example/margay/margay/index/LineCounterEndsLinePinLaw", "ch", "(JI)C"⟩ : MethodName)) hown (mvT hZ (hwd 34 rfl)) (mvT hZ (hwd 35 rfl)) (mvT hZ (hwd 36 rfl)) (mvT hZ (hwd 37 rfl)) (by decide) (backOf (W := 2) (rmch l Z A0 hw [] q3 (16 : Int32) h375 n0 Z375 ) hZ (hwd 37 rfl) (hwd 36 rfl) (by decide) (by decide)) (g := (mkF m 191 #[vI p0, vI p1, vI p2, vJ q3, .second, vI v1, .unset, vR b365, .unset, .unset, .unset, .unset, .unset] [(.int (16 : Int32)), (.long q3), (.int (2 : Int32)), (.ref b365)])) rfl (by rw [hml]; rfl) (argsL := [(.long q3), (.int (16 : Int32))]) (rest := [(.int (2 : Int32)), (.ref b365)]) (lenOf pd_34 rfl) rfl (by show 2 * 0 + _ ≤ _; exact Nat.le_of_eq rfl) (hb hby at_191) (fun _ _ => ⟨rfl, e375, (by decide : 1 + 0 ≤ _), (by decide : 4 + 0 ≤ _)⟩)
        dsimp only [Pt.U, Pt.locs, Pt.cells, Pt.slots] at X376 l376 y376 z376 st376 hQ376
        subst l376 y376 z376
        obtain ⟨o377, rfl, Nq376, eq376, hp378⟩ := hQ376
        have N376 := Fr.app N375 Nq376
        refine own_by st376 ?_
        show own_Go p e below _ (T376.setTop (mkF m 194 #[vI p0, vI p1, vI p2, vJ q3, .second, vI v1, .unset, vR b365, .unset, .unset, .unset, .unset, .unset] [(.int o377), (.int (2 : Int32)), (.ref b365)]))
        obtain ⟨cl379, Ar379, qq379, S379, M379, H379, G379⟩ := id V375
        have hin379 : ¬ ((2 : Int32) < 0 ∨ cl379.slots.size ≤ ((2 : Int32)).toNatClampNeg) := inb_of S379 ⟨by decide, by decide⟩
        obtain ⟨T380, h380, X380, e380, W380, st380⟩ := stC X376 hx hZ eq376 Ar379 (j := (2 : Int32)) hin379 (g := (mkF m 194 #[vI p0, vI p1, vI p2, vJ q3, .second, vI v1, .unset, vR b365, .unset, .unset, .unset, .unset, .unset] [(.int o377), (.int (2 : Int32)), (.ref b365)])) rfl rfl (hb hby at_194)
        have V380 : own_Arf Z h380 b365 k365 .char (4 : Int32) (fun i => .int ((own_upd (own_upd (own_upd (fun _ => (0 : Int32)) 0 (nar .char o367)) 1 (nar .char o372)) 2 (nar .char o377)) i)) := own_arfSetI Ar379 qq379 S379 M379 H379 G379 (fits_nar_char _) W380
        have R380 : CHr Z consts_1 s.vm h375 s.vm h380 := CHr.wr W380 (own_arfSafe V375 hZ.alike (by decide)) CR375.1
        have CR380 : CHr Z consts_1 s.vm h0 s.vm h380 := CR375.trans R380
        have hk380 : kc0 ≤ h380.size := Nat.le_trans hk375 (Keep.of_wr W380).1
        have K380 : Keep h0 h380 [] := K375.wr W380 (Or.inr sz_b365)
        have Z380 : n0 ≤ h380.size := Nat.le_trans Z375 (Keep.of_wr W380).1
        have N380 := Fr.snoc X380 N376 ge_b365
        refine own_by st380 ?_
        show own_Go p e below _ (T380.setTop (mkF m 195 #[vI p0, vI p1, vI p2, vJ q3, .second, vI v1, .unset, vR b365, .unset, .unset, .unset, .unset, .unset] []))
        refine own_by (fun _ k => XS.aload X380.here hx rfl (hb hby at_195) rfl rfl k) ?_
        refine own_by (fun _ k => XS.iconst X380.here hx rfl (hb hby at_197) k) ?_
        refine own_by (fun _ k => XS.lloadN X380.here hx rfl (hb hby at_198) rfl k) ?_
        refine own_by (fun _ k => XS.bipush X380.here hx rfl (hb hby at_199) k) ?_
        obtain ⟨_, _, ⟨T381, L381, k381, n381⟩, -, X381, ⟨Lc381, hQ381, l381, y381, z381⟩, st381⟩ := Jvm.LawKit.callS X380 hx (y := (⟨"com/example/margay/margay/index/LineCounterEndsLinePinLaw", "ch", "(JI)C"⟩ : MethodName)) hown (mvT hZ (hwd 34 rfl)) (mvT hZ (hwd 35 rfl)) (mvT hZ (hwd 36 rfl)) (mvT hZ (hwd 37 rfl)) (by decide) (backOf (W := 2) (rmch l Z A0 hw [] q3 (24 : Int32) h380 n0 Z380 ) hZ (hwd 37 rfl) (hwd 36 rfl) (by decide) (by decide)) (g := (mkF m 201 #[vI p0, vI p1, vI p2, vJ q3, .second, vI v1, .unset, vR b365, .unset, .unset, .unset, .unset, .unset] [(.int (24 : Int32)), (.long q3), (.int (3 : Int32)), (.ref b365)])) rfl (by rw [hml]; rfl) (argsL := [(.long q3), (.int (24 : Int32))]) (rest := [(.int (3 : Int32)), (.ref b365)]) (lenOf pd_34 rfl) rfl (by show 2 * 0 + _ ≤ _; exact Nat.le_of_eq rfl) (hb hby at_201) (fun _ _ => ⟨rfl, e380, (by decide : 1 + 0 ≤ _), (by decide : 4 + 0 ≤ _)⟩)
        dsimp only [Pt.U, Pt.locs, Pt.cells, Pt.slots] at X381 l381 y381 z381 st381 hQ381
        subst l381 y381 z381
        obtain ⟨o382, rfl, Nq381, eq381, hp383⟩ := hQ381
        have N381 := Fr.app N380 Nq381
        refine own_by st381 ?_
        show own_Go p e below _ (T381.setTop (mkF m 204 #[vI p0, vI p1, vI p2, vJ q3, .second, vI v1, .unset, vR b365, .unset, .unset, .unset, .unset, .unset] [(.int o382), (.int (3 : Int32)), (.ref b365)]))
        obtain ⟨cl384, Ar384, qq384, S384, M384, H384, G384⟩ := id V380
        have hin384 : ¬ ((3 : Int32) < 0 ∨ cl384.slots.size ≤ ((3 : Int32)).toNatClampNeg) := inb_of S384 ⟨by decide, by decide⟩
        obtain ⟨T385, h385, X385, e385, W385, st385⟩ := stC X381 hx hZ eq381 Ar384 (j := (3 : Int32)) hin384 (g := (mkF m 204 #[vI p0, vI p1, vI p2, vJ q3, .second, vI v1, .unset, vR b365, .unset, .unset, .unset, .unset, .unset] [(.int o382), (.int (3 : Int32)), (.ref b365)])) rfl rfl (hb hby at_204)
        have V385 : own_Arf Z h385 b365 k365 .char (4 : Int32) (fun i => .int ((own_upd (own_upd (own_upd (own_upd (fun _ => (0 : Int32)) 0 (nar .char o367)) 1 (nar .char o372)) 2 (nar .char o377)) 3 (nar .char o382)) i)) := own_arfSetI Ar384 qq384 S384 M384 H384 G384 (fits_nar_char _) W385
        have R385 : CHr Z consts_1 s.vm h380 s.vm h385 := CHr.wr W385 (own_arfSafe V380 hZ.alike (by decide)) CR380.1
        have CR385 : CHr Z consts_1 s.vm h0 s.vm h385 := CR380.trans R385
        have hk385 : kc0 ≤ h385.size := Nat.le_trans hk380 (Keep.of_wr W385).1
        have K385 : Keep h0 h385 [] := K380.wr W385 (Or.inr sz_b365)
        have Z385 : n0 ≤ h385.size := Nat.le_trans Z380 (Keep.of_wr W385).1
        have N385 := Fr.snoc X385 N381 ge_b365
        refine own_by st385 ?_
        show own_Go p e below _ (T385.setTop (mkF m 205 #[vI p0, vI p1, vI p2, vJ q3, .second, vI v1, .unset, vR b365, .unset, .unset, .unset, .unset, .unset] []))
        obtain ⟨T386, h386, X386, e386, E386, A386, D386, -, st386⟩ := newO X385 hx hZ hown (hwd 39 rfl) (hwd 15 rfl) (hwd 14 rfl) e385 (g := (mkF m 205 #[vI p0, vI p1, vI p2, vJ q3, .second, vI v1, .unset, vR b365, .unset, .unset, .unset, .unset, .unset] [])) rfl (hb hby at_205) (by decide) (by decide)
        obtain ⟨b386, g386⟩ : ∃ z, z = h385.size := ⟨_, rfl⟩
        have ge_b386 : n0 ≤ b386 := Nat.le_trans Z385 (Nat.le_of_eq g386.symm)
        have sz_b386 : h0.size ≤ b386 := Nat.le_trans K385.1 (Nat.le_of_eq g386.symm)
        have R386 : CHr Z consts_1 s.vm h385 s.vm h386 := CHr.ext E386 CR385.1
        have CR386 : CHr Z consts_1 s.vm h0 s.vm h386 := CR385.trans R386
        have hk386 : kc0 ≤ h386.size := Nat.le_trans hk385 E386.1
        have S_b386 : Safe Z consts_1 s.vm h386 b386 := Safe.ext E386 CR385.1 (Safe.new (Nat.le_of_eq g386.symm))
        have K386 : Keep h0 h386 [] := K385.ext E386
        have Z386 : n0 ≤ h386.size := Nat.le_trans Z385 E386.1
        rw [← g386] at A386 D386 st386
        have lt_b386 := A386.lt
        have F_value_b386 : Fld Z h386 b386 "java/lang/String" "value" "[B" .null := D386 (Or.inr (hwd 17 rfl)) (ty := (.array .byte)) (by decide)
        have F_coder_b386 : Fld Z h386 b386 "java/lang/String" "coder" "B" (.int (0 : Int32)) := D386 (Or.inr (hwd 18 rfl)) (ty := .byte) (by decide)
        refine own_by st386 ?_
        show own_Go p e below _ (T386.setTop (mkF m 208 #[vI p0, vI p1, vI p2, vJ q3, .second, vI v1, .unset, vR b365, .unset, .unset, .unset, .unset, .unset] [(.ref b386)]))
        refine own_by (fun _ k => XS.dup X386.here hx rfl (hb hby at_208) rfl rfl k) ?_
        show own_Go p e below _ (T386.setTop (mkF m 209 #[vI p0, vI p1, vI p2, vJ q3, .second, vI v1, .unset, vR b365, .unset, .unset, .unset, .unset, .unset] [(.ref b386), (.ref b386)]))
        refine own_by (fun _ k => XS.aload X386.here hx rfl (hb hby at_209) rfl rfl k) ?_
        have F387 : own_Arf Z h386 b365 k365 .char (4 : Int32) (fun i => .int ((own_upd (own_upd (own_upd (own_upd (fun _ => (0 : Int32)) 0 (nar .char o367)) 1 (nar .char o372)) 2 (nar .char o377)) 3 (nar .char o382)) i)) := (V385.ext E386)
        have F388 : Sta Z h386 "java/lang/String" "COMPACT_STRINGS" "Z" (.int f_CS) := ((((((P_S_CS.ext E365).wr W370).wr W375).wr W380).wr W385).ext E386)
        obtain ⟨_, _, ⟨T389, L389, k389, n389⟩, -, X389, ⟨Lc389, hQ389, l389, y389, z389⟩, st389⟩ := X386.specialBack hx (y := (⟨"java/lang/String", "<init>", "([C)V"⟩ : MethodName)) rfl hown (mvT hZ (hwd 40 rfl)) (mvT hZ (hwd 41 rfl)) (mvT hZ (hwd 42 rfl)) (by decide) (backOf (W := 1) (rmsi4 l Z A0 hw [] k365 (own_upd (own_upd (own_upd (own_upd (fun _ => (0 : Int32)) 0 (nar .char o367)) 1 (nar .char o372)) 2 (nar .char o377)) 3 (nar .char o382)) f_CS b386 b365 (0 : Int32) (.null) h386 n0 Z386 F387 F388 hn_CS (ob_0_34 f_CS f_SF p0 v1 o367 o372 o377 o382 hn_CS hr_f_SF hv1 c2 c42 c96 c150 c200 c272 c364 hp368 hp373 hp378 hp383) (ob_0_35 f_CS f_SF p0 v1 o367 o372 o377 o382 hn_CS hr_f_SF hv1 c2 c42 c96 c150 c200 c272 c364 hp368 hp373 hp378 hp383) (ob_0_36 f_CS f_SF p0 v1 o367 o372 o377 o382 hn_CS hr_f_SF hv1 c2 c42 c96 c150 c200 c272 c364 hp368 hp373 hp378 hp383) (ob_0_37 f_CS f_SF p0 v1 o367 o372 o377 o382 hn_CS hr_f_SF hv1 c2 c42 c96 c150 c200 c272 c364 hp368 hp373 hp378 hp383) A386 F_coder_b386 F_value_b386 ge_b386) hZ (hwd 42 rfl) (hwd 14 rfl) (by decide) (by decide)) (g := (mkF m 211 #[vI p0, vI p1, vI p2, vJ q3, .second, vI v1, .unset, vR b365, .unset, .unset, .unset, .unset, .unset] [(.ref b365), (.ref b386), (.ref b386)])) rfl (by rw [hml]; rfl) (Steps.refl _) (a := b386) (argsL := [(.ref b365)]) (rest := [(.ref b386)]) (lenOf pd_40 rfl) rfl (by show 2 * 0 + _ ≤ _; exact Nat.le_of_eq rfl) (hb hby at_211) (fun _ _ => ⟨rfl, e386, (by decide : 2 + 1 ≤ _), (by decide : 8 + 4 ≤ _)⟩)
        dsimp only [Pt.U, Pt.locs, Pt.cells, Pt.slots] at X389 l389 y389 z389 st389 hQ389
        subst l389 y389 z389
        obtain ⟨b390, b391, rfl, Nq389, Kq389, F392, F393, F394, hp395, hp396, F397⟩ := hQ389
        have N389 := Fr.app N385 Nq389
        have R389 : CHr Z consts_1 s.vm h386 s.vm T389.heap := CHr.keep Kq389 ((allS S_b386 all0)) CR386.1
        have CR389 : CHr Z consts_1 s.vm h0 s.vm T389.heap := CR386.trans R389
        have hk389 : kc0 ≤ T389.heap.size := Nat.le_trans hk386 Kq389.1
        have K389 : Keep h0 T389.heap [] := K386.trans Kq389 ((allS (Or.inr sz_b386) all0))
        have Z389 : n0 ≤ T389.heap.size := Nat.le_trans Z386 Kq389.1
        have sz_b390 : h0.size ≤ b390 := Nat.le_trans K386.1 hp396
        have S_b390 : Safe Z consts_1 s.vm T389.heap b390 := Safe.keep Kq389 ((allS S_b386 all0)) CR386.1 (Safe.new hp396)
        have lt_b390 := F397.lt
        refine own_by (fun _ k => st389.trans k) ?_
        show own_Go p e below _ (T389.setTop (mkF m 214 #[vI p0, vI p1, vI p2, vJ q3, .second, vI v1, .unset, vR b365, .unset, .unset, .unset, .unset, .unset] [(.ref b386)]))
        refine own_by (fun _ k => XS.astore X389.here hx rfl (hb hby at_214) rfl rfl (l' := #[vI p0, vI p1, vI p2, vJ q3, .second, vI v1, vR b386, vR b365, .unset, .unset, .unset, .unset, .unset]) rfl k) ?_
        show own_Go p e below _ (T389.setTop (mkF m 216 #[vI p0, vI p1, vI p2, vJ q3, .second, vI v1, vR b386, vR b365, .unset, .unset, .unset, .unset, .unset] []))
        refine own_by (fun _ k => XS.goto X389.here hx rfl (pc0 := 216) (pc' := 257) rfl (hb hby at_216) (by decide) (by decide) k) ?_
        show own_Go p e below _ (T389.setTop (mkF m 257 #[vI p0, vI p1, vI p2, vJ q3, .second, vI v1, vR b386, vR b365, .unset, .unset, .unset, .unset, .unset] []))
        refine own_by (fun _ k => XS.aload X389.here hx rfl (hb hby at_257) rfl rfl k) ?_
        refine own_by (fun _ k => XS.ifnullNo X389.here hx rfl (hb hby at_259) rfl k) ?_
        show own_Go p e below _ (T389.setTop (mkF m 262 #[vI p0, vI p1, vI p2, vJ q3, .second, vI v1, vR b386, vR b365, .unset, .unset, .unset, .unset, .unset] []))
        refine own_by (fun _ k => XS.aload X389.here hx rfl (hb hby at_262) rfl rfl k) ?_
        have F398 : Sta Z T389.heap "java/lang/String" "COMPACT_STRINGS" "Z" (.int f_CS) := (own_staKeep F388 Kq389 (allS (own_exaPlain A386) all0))
        obtain ⟨cq399, kq399, qq399a, qq399b, qq399c⟩ := isOf hZ rfl F392
        obtain ⟨_, _, ⟨T399, L399, k399, n399⟩, -, X399, ⟨Lc399, hQ399, l399, y399, z399⟩, st399⟩ := X389.virtualBack hx (y := (⟨"java/lang/String", "length", "()I"⟩ : MethodName)) (z := (⟨"java/lang/String", "length", "()I"⟩ : MethodName)) hown (mvT hZ (hwd 61 rfl)) (mvT hZ (hwd 62 rfl)) (notFace_of_selects (args := #[]) (mvT hZ (hwd 64 rfl))) (mvT hZ (hwd 64 rfl)) (mvT hZ (hwd 63 rfl)) (by decide) (backOf (W := 0) (rmlen4 l Z A0 hw [] b390 b391 (own_upd (own_upd (own_upd (own_upd (fun _ => (0 : Int32)) 0 (nar .byte ((nar .char o367).toInt8.toInt32))) 1 (nar .byte ((nar .char o372).toInt8.toInt32))) 2 (nar .byte ((nar .char o377).toInt8.toInt32))) 3 (nar .byte ((nar .char o382).toInt8.toInt32))) f_CS b386 T389.heap n0 Z389 F392 F393 F394 F397 F398 hn_CS) hZ (hwd 65 rfl) (hwd 14 rfl) (by decide) (by decide)) qq399a qq399c (g := (mkF m 264 #[vI p0, vI p1, vI p2, vJ q3, .second, vI v1, vR b386, vR b365, .unset, .unset, .unset, .unset, .unset] [(.ref b386)])) rfl (by rw [hml]; rfl) (Steps.refl _) (argsL := []) (rest := []) (lenOf pd_61 rfl) rfl (by show 2 * 0 + _ ≤ _; exact Nat.le_of_eq rfl) (hb hby at_264) (fun _ _ => ⟨rfl, rfl, (by decide : 3 + 0 ≤ _), (by decide : 12 + 0 ≤ _)⟩)
        dsimp only [Pt.U, Pt.locs, Pt.cells, Pt.slots] at X399 l399 y399 z399 st399 hQ399
        subst l399 y399 z399
        obtain ⟨rfl, Nq399, eq399⟩ := hQ399
        have N399 := Fr.app N389 Nq399
        refine own_by (fun _ k => st399.trans k) ?_
        show own_Go p e below _ (T399.setTop (mkF m 267 #[vI p0, vI p1, vI p2, vJ q3, .second, vI v1, vR b386, vR b365, .unset, .unset, .unset, .unset, .unset] [(.int (4 : Int32))]))
        refine own_by (fun _ k => XS.iconst X399.here hx rfl (hb hby at_267) k) ?_
        refine own_by (fun _ k => XS.icmpYes X399.here hx rfl (pc0 := 268) (pc' := 308) rfl (hb hby at_268) rfl (feq (by decide : ¬ ((4 : Int32) = (3 : Int32)))).2 (by decide) (by decide) k) ?_
        show own_Go p e below _ (T399.setTop (mkF m 308 #[vI p0, vI p1, vI p2, vJ q3, .second, vI v1, vR b386, vR b365, .unset, .unset, .unset, .unset, .unset] []))
        refine own_by (fun _ k => XS.iconst X399.here hx rfl (hb hby at_308) k) ?_
        refine own_by (fun _ k => XS.istore X399.here hx rfl (hb hby at_309) rfl (l' := #[vI p0, vI p1, vI p2, vJ q3, .second, vI v1, vR b386, vI (0 : Int32), .unset, .unset, .unset, .unset, .unset]) rfl k) ?_
        show own_Go p e below _ (T399.setTop (mkF m 311 #[vI p0, vI p1, vI p2, vJ q3, .second, vI v1, vR b386, vI (0 : Int32), .unset, .unset, .unset, .unset, .unset] []))
        refine own_by (fun _ k => XS.iloadN X399.here hx rfl (hb hby at_311) rfl k) ?_
        refine own_by (fun _ k => XS.bipush X399.here hx rfl (hb hby at_312) k) ?_
        refine own_by (fun _ k => XS.iand X399.here hx rfl (hb hby at_314) rfl k) ?_
        show own_Go p e below _ (T399.setTop (mkF m 315 #[vI p0, vI p1, vI p2, vJ q3, .second, vI v1, vR b386, vI (0 : Int32), .unset, .unset, .unset, .unset, .unset] [(.int (p1 &&& (7 : Int32)))]))
        refine own_by (fun _ k => XS.istore X399.here hx rfl (hb hby at_315) rfl (l' := #[vI p0, vI p1, vI p2, vJ q3, .second, vI v1, vR b386, vI (0 : Int32), vI (p1 &&& (7 : Int32)), .unset, .unset, .unset, .unset]) rfl k) ?_
        show own_Go p e below _ (T399.setTop (mkF m 317 #[vI p0, vI p1, vI p2, vJ q3, .second, vI v1, vR b386, vI (0 : Int32), vI (p1 &&& (7 : Int32)), .unset, .unset, .unset, .unset] []))
        generalize hv400 : (p1 &&& (7 : Int32)) = v400
        show own_Go p e below _ (T399.setTop (mkF m 317 #[vI p0, vI p1, vI p2, vJ q3, .second, vI v1, vR b386, vI (0 : Int32), vI v400, .unset, .unset, .unset, .unset] []))
        refine own_by (fun _ k => XS.iload X399.here hx rfl (hb hby at_317) rfl k) ?_
        have J408 : ∀ (T409 : State) (L410 : List Loc) (z414 : Int32), Stand p l e room_1 (s.setVm s.vm) m #[(.int p0), (.int p1), (.int p2), (.long q3)] below meth c T409 L410 3 12 → T409.heap = T389.heap → Fr n0 L410 → (((v400 = (0 : Int32)) ∧ z414 = (13 : Int32)) ∨ ((¬ (v400 = (0 : Int32))) ∧ (v400 = (1 : Int32)) ∧ z414 = (10 : Int32)) ∨ ((¬ (v400 = (0 : Int32))) ∧ (¬ (v400 = (1 : Int32))) ∧ (v400 = (2 : Int32)) ∧ z414 = (133 : Int32)) ∨ ((¬ (v400 = (0 : Int32))) ∧ (¬ (v400 = (1 : Int32))) ∧ (¬ (v400 = (2 : Int32))) ∧ (v400 = (3 : Int32)) ∧ z414 = (8232 : Int32)) ∨ ((¬ (v400 = (0 : Int32))) ∧ (¬ (v400 = (1 : Int32))) ∧ (¬ (v400 = (2 : Int32))) ∧ (¬ (v400 = (3 : Int32))) ∧ (v400 = (4 : Int32)) ∧ z414 = (8233 : Int32)) ∨ ((¬ (v400 = (0 : Int32))) ∧ (¬ (v400 = (1 : Int32))) ∧ (¬ (v400 = (2 : Int32))) ∧ (¬ (v400 = (3 : Int32))) ∧ (¬ (v400 = (4 : Int32))) ∧ (v400 = (5 : Int32)) ∧ z414 = (12 : Int32)) ∨ (∃ (v407 : Int32), (¬ (v400 = (0 : Int32))) ∧ (¬ (v400 = (1 : Int32))) ∧ (¬ (v400 = (2 : Int32))) ∧ (¬ (v400 = (3 : Int32))) ∧ (¬ (v400 = (4 : Int32))) ∧ (¬ (v400 = (5 : Int32))) ∧ ((p2 &&& (65535 : Int32)) = v407) ∧ z414 = v407)) → own_Go p e below (own_FinW Z consts_1 s 24 4224 (Q0 Z f_CS f_SF p0 p1 p2 q3 h0 n0)) (T409.setTop (mkF m 403 #[vI p0, vI p1, vI p2, vJ q3, .second, vI v1, vR b386, vI (0 : Int32), vI v400, vI z414, .unset, .unset, .unset] [])) := by
         intro T409 L410 z414 X411 e412 N413 hj415
         refine own_by (fun _ k => XS.iload X411.here hx rfl (hb hby at_403) rfl k) ?_
         refine own_by (fun _ k => XS.i2c X411.here hx rfl (hb hby at_405) rfl k) ?_
         show own_Go p e below _ (T409.setTop (mkF m 406 #[vI p0, vI p1, vI p2, vJ q3, .second, vI v1, vR b386, vI (0 : Int32), vI v400, vI z414, .unset, .unset, .unset] [(.int (z414.toUInt32.toUInt16.toUInt32.toInt32))]))
         refine own_by (fun _ k => XS.istore X411.here hx rfl (hb hby at_406) rfl (l' := #[vI p0, vI p1, vI p2, vJ q3, .second, vI v1, vR b386, vI (0 : Int32), vI v400, vI z414, vI (z414.toUInt32.toUInt16.toUInt32.toInt32), .unset, .unset]) rfl k) ?_
         show own_Go p e below _ (T409.setTop (mkF m 408 #[vI p0, vI p1, vI p2, vJ q3, .second, vI v1, vR b386, vI (0 : Int32), vI v400, vI z414, vI (z414.toUInt32.toUInt16.toUInt32.toInt32), .unset, .unset] []))
         generalize hv416 : (z414.toUInt32.toUInt16.toUInt32.toInt32) = v416
         show own_Go p e below _ (T409.setTop (mkF m 408 #[vI p0, vI p1, vI p2, vJ q3, .second, vI v1, vR b386, vI (0 : Int32), vI v400, vI z414, vI v416, .unset, .unset] []))
         refine own_by (fun _ k => XS.iload X411.here hx rfl (hb hby at_408) rfl k) ?_
         have J421 : ∀ (T422 : State) (L423 : List Loc) (z427 : Int32), Stand p l e room_1 (s.setVm s.vm) m #[(.int p0), (.int p1), (.int p2), (.long q3)] below meth c T422 L423 3 12 → T422.heap = T389.heap → Fr n0 L423 → (((z414 = (10 : Int32)) ∧ z427 = (1 : Int32)) ∨ ((¬ (z414 = (10 : Int32))) ∧ (z414 = (13 : Int32)) ∧ z427 = (1 : Int32)) ∨ ((¬ (z414 = (10 : Int32))) ∧ (¬ (z414 = (13 : Int32))) ∧ (z414 = (133 : Int32)) ∧ z427 = (0 : Int32)) ∨ ((¬ (z414 = (10 : Int32))) ∧ (¬ (z414 = (13 : Int32))) ∧ (¬ (z414 = (133 : Int32))) ∧ (z414 = (8232 : Int32)) ∧ z427 = (0 : Int32)) ∨ ((¬ (z414 = (10 : Int32))) ∧ (¬ (z414 = (13 : Int32))) ∧ (¬ (z414 = (133 : Int32))) ∧ (¬ (z414 = (8232 : Int32))) ∧ z427 = (0 : Int32))) → own_Go p e below (own_FinW Z consts_1 s 24 4224 (Q0 Z f_CS f_SF p0 p1 p2 q3 h0 n0)) (T422.setTop (mkF m 468 #[vI p0, vI p1, vI p2, vJ q3, .second, vI v1, vR b386, vI (0 : Int32), vI v400, vI z414, vI v416, vI z427, .unset] [])) := by
          intro T422 L423 z427 X424 e425 N426 hj428
          obtain ⟨T429, h429, X429, e429, E429, A429, D429, -, st429⟩ := newO X424 hx hZ hown (hwd 0 rfl) (hwd 1 rfl) (hwd 2 rfl) e425 (g := (mkF m 468 #[vI p0, vI p1, vI p2, vJ q3, .second, vI v1, vR b386, vI (0 : Int32), vI v400, vI z414, vI v416, vI z427, .unset] [])) rfl (hb hby at_468) (by decide) (by decide)
          obtain ⟨b429, g429⟩ : ∃ z, z = T389.heap.size := ⟨_, rfl⟩
          have ge_b429 : n0 ≤ b429 := Nat.le_trans Z389 (Nat.le_of_eq g429.symm)
          have sz_b429 : h0.size ≤ b429 := Nat.le_trans K389.1 (Nat.le_of_eq g429.symm)
          have R429 : CHr Z consts_1 s.vm T389.heap s.vm h429 := CHr.ext E429 CR389.1
          have CR429 : CHr Z consts_1 s.vm h0 s.vm h429 := CR389.trans R429
          have hk429 : kc0 ≤ h429.size := Nat.le_trans hk389 E429.1
          have S_b429 : Safe Z consts_1 s.vm h429 b429 := Safe.ext E429 CR389.1 (Safe.new (Nat.le_of_eq g429.symm))
          have K429 : Keep h0 h429 [] := K389.ext E429
          have Z429 : n0 ≤ h429.size := Nat.le_trans Z389 E429.1
          rw [← g429] at A429 D429 st429
          have lt_b429 := A429.lt
          have F_line_b429 : Fld Z h429 b429 "com/example/margay/margay/index/LineCounter" "line" "I" (.int (0 : Int32)) := D429 (Or.inl (hwd 10 rfl)) (ty := .int) (by decide)
          have F_column_b429 : Fld Z h429 b429 "com/example/margay/margay/index/LineCounter" "column" "I" (.int (0 : Int32)) := D429 (Or.inl (hwd 12 rfl)) (ty := .int) (by decide)
          have F_xml11_b429 : Fld Z h429 b429 "com/example/margay/margay/index/LineCounter" "xml11" "Z" (.int (0 : Int32)) := D429 (Or.inr (hwd 27 rfl)) (ty := .boolean) (by decide)
          refine own_by st429 ?_
          show own_Go p e below _ (T429.setTop (mkF m 471 #[vI p0, vI p1, vI p2, vJ q3, .second, vI v1, vR b386, vI (0 : Int32), vI v400, vI z414, vI v416, vI z427, .unset] [(.ref b429)]))
          refine own_by (fun _ k => XS.dup X429.here hx rfl (hb hby at_471) rfl rfl k) ?_
          show own_Go p e below _ (T429.setTop (mkF m 472 #[vI p0, vI p1, vI p2, vJ q3, .second, vI v1, vR b386, vI (0 : Int32), vI v400, vI z414, vI v416, vI z427, .unset] [(.ref b429), (.ref b429)]))
          refine own_by (fun _ k => XS.aload X429.here hx rfl (hb hby at_472) rfl rfl k) ?_
          have F430 : Exa Z h429 b386 "java/lang/String" := (F392.ext E429)
          have F431 : Fld Z h429 b386 "java/lang/String" "coder" "B" (.int (0 : Int32)) := (F393.ext E429)
          have F432 : Fld Z h429 b386 "java/lang/String" "value" "[B" (.ref b390) := (F394.ext E429)
          have F433 : own_Arf Z h429 b390 b391 .byte (4 : Int32) (fun i => .int ((own_upd (own_upd (own_upd (own_upd (fun _ => (0 : Int32)) 0 (nar .byte ((nar .char o367).toInt8.toInt32))) 1 (nar .byte ((nar .char o372).toInt8.toInt32))) 2 (nar .byte ((nar .char o377).toInt8.toInt32))) 3 (nar .byte ((nar .char o382).toInt8.toInt32))) i)) := (F397.ext E429)
          have F434 : Sta Z h429 "java/lang/String" "COMPACT_STRINGS" "Z" (.int f_CS) := (F398.ext E429)
          obtain ⟨_, _, ⟨T435, L435, k435, n435⟩, -, X435', hSq435, hgr435, ⟨Lc435, hQ435, l435, y435, z435, R435⟩, st435⟩ := X429.specialBackS hx (y := (⟨"com/example/margay/margay/index/LineCounter", "<init>", "(Ljava/lang/String;)V"⟩ : MethodName)) rfl hown (mvT hZ (hwd 3 rfl)) (mvT hZ (hwd 4 rfl)) (mvT hZ (hwd 5 rfl)) (by decide) (backOfSH (W := 1) (rmlcR4 l Z A0 hw [] b390 b391 (own_upd (own_upd (own_upd (own_upd (fun _ => (0 : Int32)) 0 (nar .byte ((nar .char o367).toInt8.toInt32))) 1 (nar .byte ((nar .char o372).toInt8.toInt32))) 2 (nar .byte ((nar .char o377).toInt8.toInt32))) 3 (nar .byte ((nar .char o382).toInt8.toInt32))) f_CS b429 b386 (0 : Int32) (0 : Int32) (0 : Int32) h429 n0 Z429 F430 F431 F432 F433 F434 hn_CS A429 F_line_b429 ge_b429 F_column_b429 F_xml11_b429) hZ (hwd 5 rfl) (hwd 2 rfl) (by decide) (by decide) hEL CR429.1) (g := (mkF m 474 #[vI p0, vI p1, vI p2, vJ q3, .second, vI v1, vR b386, vI (0 : Int32), vI v400, vI z414, vI v416, vI z427, .unset] [(.ref b386), (.ref b429), (.ref b429)])) rfl (by rw [hml]; rfl) (Steps.refl _) (a := b429) (argsL := [(.ref b386)]) (rest := [(.ref b429)]) (lenOf pd_3 rfl) rfl (by show 2 * 0 + _ ≤ _; exact Nat.le_of_eq rfl) (hb hby at_474) (fun _ _ => ⟨rfl, e429, (by decide : 4 + 2 ≤ _), (by decide : 16 + 16 ≤ _)⟩)
          dsimp only [Pt.U, Pt.locs, Pt.cells, Pt.slots] at X435' l435 y435 z435 st435 hQ435 hSq435 hgr435 R435
          subst l435 y435 z435
          obtain ⟨X435, hS, hZ, hown⟩ := rebS hS (by rw [e429]; exact hk429) X435' hSq435 hgr435 hZ hown
          obtain ⟨kc435, hkc435⟩ : ∃ z, z = T435.heap.size := ⟨_, rfl⟩
          rw [← hkc435] at hS
          have hk435 : kc435 ≤ T435.heap.size := Nat.le_of_eq hkc435
          have CR435 : CHr Z consts_1 s.vm h0 T435.vm T435.heap := CR429.trans R435
          obtain ⟨o436, rfl, Nq435, Kq435, F437, F438, F439, F440, hp441⟩ := hQ435
          have N435 := Fr.app N426 Nq435
          have K435 : Keep h0 T435.heap [] := K429.trans Kq435 ((allS (Or.inr sz_b429) all0))
          have Z435 : n0 ≤ T435.heap.size := Nat.le_trans Z429 Kq435.1
          refine own_by (fun _ k => st435.trans k) ?_
          show own_Go p e below _ (T435.setTop (mkF m 477 #[vI p0, vI p1, vI p2, vJ q3, .second, vI v1, vR b386, vI (0 : Int32), vI v400, vI z414, vI v416, vI z427, .unset] [(.ref b429)]))
          refine own_by (fun _ k => XS.astore X435.here hx rfl (hb hby at_477) rfl rfl (l' := #[vI p0, vI p1, vI p2, vJ q3, .second, vI v1, vR b386, vI (0 : Int32), vI v400, vI z414, vI v416, vI z427, vR b429]) rfl k) ?_
          show own_Go p e below _ (T435.setTop (mkF m 479 #[vI p0, vI p1, vI p2, vJ q3, .second, vI v1, vR b386, vI (0 : Int32), vI v400, vI z414, vI v416, vI z427, vR b429] []))
          refine own_by (fun _ k => XS.aload X435.here hx rfl (hb hby at_479) rfl rfl k) ?_
          refine own_by (fun _ k => XS.iload X435.here hx rfl (hb hby at_481) rfl k) ?_
          obtain ⟨cq442, kq442, qq442a, qq442b, qq442c⟩ := isOf hZ rfl F437
          obtain ⟨_, _, ⟨T442, L442, k442, n442⟩, -, X442, ⟨Lc442, hQ442, l442, y442, z442⟩, st442⟩ := X435.virtualBack hx (y := (⟨"com/example/margay/margay/index/LineCounter", "endsLine", "(C)Z"⟩ : MethodName)) (z := (⟨"com/example/margay/margay/index/LineCounter", "endsLine", "(C)Z"⟩ : MethodName)) hown (mvT hZ (hwd 28 rfl)) (mvT hZ (hwd 29 rfl)) (notFace_of_selects (args := #[]) (mvT hZ (hwd 31 rfl))) (mvT hZ (hwd 31 rfl)) (mvT hZ (hwd 30 rfl)) (by decide) (backOf (W := 0) (rm4 l Z A0 hw [] b429 v416 o436 T435.heap n0 Z435 F440) hZ (hwd 32 rfl) (hwd 2 rfl) (by decide) (by decide)) qq442a qq442c (g := (mkF m 483 #[vI p0, vI p1, vI p2, vJ q3, .second, vI v1, vR b386, vI (0 : Int32), vI v400, vI z414, vI v416, vI z427, vR b429] [(.int v416), (.ref b429)])) rfl (by rw [hml]; rfl) (Steps.refl _) (argsL := [(.int v416)]) (rest := []) (lenOf pd_28 rfl) rfl (by show 2 * 0 + _ ≤ _; exact Nat.le_of_eq rfl) (hb hby at_483) (fun _ _ => ⟨rfl, rfl, (by decide : 6 + 0 ≤ _), (by decide : 32 + 0 ≤ _)⟩)
          dsimp only [Pt.U, Pt.locs, Pt.cells, Pt.slots] at X442 l442 y442 z442 st442 hQ442
          subst l442 y442 z442
          obtain ⟨o443, rfl, Nq442, eq442, hp444⟩ := hQ442
          have N442 := Fr.app N435 Nq442
          refine own_by (fun _ k => st442.trans k) ?_
          show own_Go p e below _ (T442.setTop (mkF m 486 #[vI p0, vI p1, vI p2, vJ q3, .second, vI v1, vR b386, vI (0 : Int32), vI v400, vI z414, vI v416, vI z427, vR b429] [(.int o443)]))
          refine own_by (fun _ k => XS.iload X442.here hx rfl (hb hby at_486) rfl k) ?_
          by_cases c445 : o443 = z427
          ·skip
           refine own_by (fun _ k => XS.icmpNo X442.here hx rfl (hb hby at_488) rfl (teq c445).2 k) ?_
           show own_Go p e below _ (T442.setTop (mkF m 491 #[vI p0, vI p1, vI p2, vJ q3, .second, vI v1, vR b386, vI (0 : Int32), vI v400, vI z414, vI v416, vI z427, vR b429] []))
           refine own_by (fun _ k => XS.iconst X442.here hx rfl (hb hby at_491) k) ?_
           refine own_by (fun _ k => XS.goto X442.here hx rfl (pc0 := 492) (pc' := 496) rfl (hb hby at_492) (by decide) (by decide) k) ?_
           show own_Go p e below _ (T442.setTop (mkF m 496 #[vI p0, vI p1, vI p2, vJ q3, .second, vI v1, vR b386, vI (0 : Int32), vI v400, vI z414, vI v416, vI z427, vR b429] [(.int (1 : Int32))]))
           exact own_retNW X442 hx hS hk435 hZ hEL hh CR435 (t := .boolean) Bd.returns (by simp) (hb hby at_496) hlk eq442 ⟨rfl, N442⟩ (by decide) (by decide)
          ·skip
           refine own_by (fun _ k => XS.icmpYes X442.here hx rfl (pc0 := 488) (pc' := 495) rfl (hb hby at_488) rfl (feq c445).2 (by decide) (by decide) k) ?_
           show own_Go p e below _ (T442.setTop (mkF m 495 #[vI p0, vI p1, vI p2, vJ q3, .second, vI v1, vR b386, vI (0 : Int32), vI v400, vI z414, vI v416, vI z427, vR b429] []))
           refine own_by (fun _ k => XS.iconst X442.here hx rfl (hb hby at_495) k) ?_
           exact own_retNW X442 hx hS hk435 hZ hEL hh CR435 (t := .boolean) Bd.returns (by simp) (hb hby at_496) hlk eq442 ⟨((ob_0_38 f_CS f_SF p0 p1 p2 v1 o367 o372 o377 o382 v400 z414 v416 z427 o436 o443 hn_CS hr_f_SF hv1 c2 c42 c96 c150 c200 c272 c364 hp368 hp373 hp378 hp383 hv400 hj415 hv416 hj428 hp441 hp444 c445)).elim, N442⟩ (by decide) (by decide)
         by_cases c417 : z414 = (10 : Int32)
         ·skip
          refine own_by (fun t q => X411.lookupswitchHit hx (g := (mkF m 410 #[vI p0, vI p1, vI p2, vJ q3, .second, vI v1, vR b386, vI (0 : Int32), vI v400, vI z414, vI v416, .unset, .unset] [(.int z414)])) rfl (k := z414) rfl (hb hby at_410) (by decide) (a := 10) (off := 42) (by rw [c417]; rfl) (show (0 : Int) ≤ (410 : Int) + 42 by decide) t q) ?_
          show own_Go p e below _ (T409.setTop (mkF m 452 #[vI p0, vI p1, vI p2, vJ q3, .second, vI v1, vR b386, vI (0 : Int32), vI v400, vI z414, vI v416, .unset, .unset] []))
          refine own_by (fun _ k => XS.iconst X411.here hx rfl (hb hby at_452) k) ?_
          refine own_by (fun _ k => XS.istore X411.here hx rfl (hb hby at_453) rfl (l' := #[vI p0, vI p1, vI p2, vJ q3, .second, vI v1, vR b386, vI (0 : Int32), vI v400, vI z414, vI v416, vI (1 : Int32), .unset]) rfl k) ?_
          show own_Go p e below _ (T409.setTop (mkF m 455 #[vI p0, vI p1, vI p2, vJ q3, .second, vI v1, vR b386, vI (0 : Int32), vI v400, vI z414, vI v416, vI (1 : Int32), .unset] []))
          refine own_by (fun _ k => XS.goto X411.here hx rfl (pc0 := 455) (pc' := 468) rfl (hb hby at_455) (by decide) (by decide) k) ?_
          show own_Go p e below _ (T409.setTop (mkF m 468 #[vI p0, vI p1, vI p2, vJ q3, .second, vI v1, vR b386, vI (0 : Int32), vI v400, vI z414, vI v416, vI (1 : Int32), .unset] []))
          exact J421 _ _ (1 : Int32) X411 e412 N413 (Or.inl ⟨c417, rfl⟩)
         ·skip
          by_cases c418 : z414 = (13 : Int32)
          ·skip
           refine own_by (fun t q => X411.lookupswitchHit hx (g := (mkF m 410 #[vI p0, vI p1, vI p2, vJ q3, .second, vI v1, vR b386, vI (0 : Int32), vI v400, vI z414, vI v416, .unset, .unset] [(.int z414)])) rfl (k := z414) rfl (hb hby at_410) (by decide) (a := 13) (off := 42) (by rw [c418]; rfl) (show (0 : Int) ≤ (410 : Int) + 42 by decide) t q) ?_
           show own_Go p e below _ (T409.setTop (mkF m 452 #[vI p0, vI p1, vI p2, vJ q3, .second, vI v1, vR b386, vI (0 : Int32), vI v400, vI z414, vI v416, .unset, .unset] []))
           refine own_by (fun _ k => XS.iconst X411.here hx rfl (hb hby at_452) k) ?_
           refine own_by (fun _ k => XS.istore X411.here hx rfl (hb hby at_453) rfl (l' := #[vI p0, vI p1, vI p2, vJ q3, .second, vI v1, vR b386, vI (0 : Int32), vI v400, vI z414, vI v416, vI (1 : Int32), .unset]) rfl k) ?_
           show own_Go p e below _ (T409.setTop (mkF m 455 #[vI p0, vI p1, vI p2, vJ q3, .second, vI v1, vR b386, vI (0 : Int32), vI v400, vI z414, vI v416, vI (1 : Int32), .unset] []))
           refine own_by (fun _ k => XS.goto X411.here hx rfl (pc0 := 455) (pc' := 468) rfl (hb hby at_455) (by decide) (by decide) k) ?_
           show own_Go p e below _ (T409.setTop (mkF m 468 #[vI p0, vI p1, vI p2, vJ q3, .second, vI v1, vR b386, vI (0 : Int32), vI v400, vI z414, vI v416, vI (1 : Int32), .unset] []))
           exact J421 _ _ (1 : Int32) X411 e412 N413 (Or.inr (Or.inl ⟨c417, c418, rfl⟩))
          ·skip
           by_cases c419 : z414 = (133 : Int32)
           ·skip
            refine own_by (fun t q => X411.lookupswitchHit hx (g := (mkF m 410 #[vI p0, vI p1, vI p2, vJ q3, .second, vI v1, vR b386, vI (0 : Int32), vI v400, vI z414, vI v416, .unset, .unset] [(.int z414)])) rfl (k := z414) rfl (hb hby at_410) (by decide) (a := 133) (off := 48) (by rw [c419]; rfl) (show (0 : Int) ≤ (410 : Int) + 48 by decide) t q) ?_
            show own_Go p e below _ (T409.setTop (mkF m 458 #[vI p0, vI p1, vI p2, vJ q3, .second, vI v1, vR b386, vI (0 : Int32), vI v400, vI z414, vI v416, .unset, .unset] []))
            refine own_by (fun _ k => XS.iload X411.here hx rfl (hb hby at_458) rfl k) ?_
            refine own_by (fun _ k => XS.istore X411.here hx rfl (hb hby at_460) rfl (l' := #[vI p0, vI p1, vI p2, vJ q3, .second, vI v1, vR b386, vI (0 : Int32), vI v400, vI z414, vI v416, vI (0 : Int32), .unset]) rfl k) ?_
            show own_Go p e below _ (T409.setTop (mkF m 462 #[vI p0, vI p1, vI p2, vJ q3, .second, vI v1, vR b386, vI (0 : Int32), vI v400, vI z414, vI v416, vI (0 : Int32), .unset] []))
            refine own_by (fun _ k => XS.goto X411.here hx rfl (pc0 := 462) (pc' := 468) rfl (hb hby at_462) (by decide) (by decide) k) ?_
            show own_Go p e below _ (T409.setTop (mkF m 468 #[vI p0, vI p1, vI p2, vJ q3, .second, vI v1, vR b386, vI (0 : Int32), vI v400, vI z414, vI v416, vI (0 : Int32), .unset] []))
            exact J421 _ _ (0 : Int32) X411 e412 N413 (Or.inr (Or.inr (Or.inl ⟨c417, c418, c419, rfl⟩)))
           ·skip
            by_cases c420 : z414 = (8232 : Int32)
            ·skip
             refine own_by (fun t q => X411.lookupswitchHit hx (g := (mkF m 410 #[vI p0, vI p1, vI p2, vJ q3, .second, vI v1, vR b386, vI (0 : Int32), vI v400, vI z414, vI v416, .unset, .unset] [(.int z414)])) rfl (k := z414) rfl (hb hby at_410) (by decide) (a := 8232) (off := 48) (by rw [c420]; rfl) (show (0 : Int) ≤ (410 : Int) + 48 by decide) t q) ?_
             show own_Go p e below _ (T409.setTop (mkF m 458 #[vI p0, vI p1, vI p2, vJ q3, .second, vI v1, vR b386, vI (0 : Int32), vI v400, vI z414, vI v416, .unset, .unset] []))
             refine own_by (fun _ k => XS.iload X411.here hx rfl (hb hby at_458) rfl k) ?_
             refine own_by (fun _ k => XS.istore X411.here hx rfl (hb hby at_460) rfl (l' := #[vI p0, vI p1, vI p2, vJ q3, .second, vI v1, vR b386, vI (0 : Int32), vI v400, vI z414, vI v416, vI (0 : Int32), .unset]) rfl k) ?_
             show own_Go p e below _ (T409.setTop (mkF m 462 #[vI p0, vI p1, vI p2, vJ q3, .second, vI v1, vR b386, vI (0 : Int32), vI v400, vI z414, vI v416, vI (0 : Int32), .unset] []))
             refine own_by (fun _ k => XS.goto X411.here hx rfl (pc0 := 462) (pc' := 468) rfl (hb hby at_462) (by decide) (by decide) k) ?_
             show own_Go p e below _ (T409.setTop (mkF m 468 #[vI p0, vI p1, vI p2, vJ q3, .second, vI v1, vR b386, vI (0 : Int32), vI v400, vI z414, vI v416, vI (0 : Int32), .unset] []))
             exact J421 _ _ (0 : Int32) X411 e412 N413 (Or.inr (Or.inr (Or.inr (Or.inl ⟨c417, c418, c419, c420, rfl⟩))))
            ·skip
             refine own_by (fun t q => X411.lookupswitchMiss hx (g := (mkF m 410 #[vI p0, vI p1, vI p2, vJ q3, .second, vI v1, vR b386, vI (0 : Int32), vI v400, vI z414, vI v416, .unset, .unset] [(.int z414)])) rfl (k := z414) rfl (hb hby at_410) (by decide) (by simp [own_swn z414 (a := (10 : Int32)) (A := 10) rfl c417, own_swn z414 (a := (13 : Int32)) (A := 13) rfl c418, own_swn z414 (a := (133 : Int32)) (A := 133) rfl c419, own_swn z414 (a := (8232 : Int32)) (A := 8232) rfl c420]) (show (0 : Int) ≤ (410 : Int) + 55 by decide) t q) ?_
             show own_Go p e below _ (T409.setTop (mkF m 465 #[vI p0, vI p1, vI p2, vJ q3, .second, vI v1, vR b386, vI (0 : Int32), vI v400, vI z414, vI v416, .unset, .unset] []))
             refine own_by (fun _ k => XS.iconst X411.here hx rfl (hb hby at_465) k) ?_
             refine own_by (fun _ k => XS.istore X411.here hx rfl (hb hby at_466) rfl (l' := #[vI p0, vI p1, vI p2, vJ q3, .second, vI v1, vR b386, vI (0 : Int32), vI v400, vI z414, vI v416, vI (0 : Int32), .unset]) rfl k) ?_
             show own_Go p e below _ (T409.setTop (mkF m 468 #[vI p0, vI p1, vI p2, vJ q3, .second, vI v1, vR b386, vI (0 : Int32), vI v400, vI z414, vI v416, vI (0 : Int32), .unset] []))
             exact J421 _ _ (0 : Int32) X411 e412 N413 (Or.inr (Or.inr (Or.inr (Or.inr (⟨c417, c418, c419, c420, rfl⟩)))))
        by_cases c401 : v400 = (0 : Int32)
        ·skip
         refine own_by (fun _ k => XS.ifNo X399.here hx rfl (hb hby at_319) rfl ((if0 _ _).trans (teq c401).2) k) ?_
         show own_Go p e below _ (T399.setTop (mkF m 322 #[vI p0, vI p1, vI p2, vJ q3, .second, vI v1, vR b386, vI (0 : Int32), vI v400, .unset, .unset, .unset, .unset] []))
         refine own_by (fun _ k => XS.bipush X399.here hx rfl (hb hby at_322) k) ?_
         refine own_by (fun _ k => XS.istore X399.here hx rfl (hb hby at_324) rfl (l' := #[vI p0, vI p1, vI p2, vJ q3, .second, vI v1, vR b386, vI (0 : Int32), vI v400, vI (13 : Int32), .unset, .unset, .unset]) rfl k) ?_
         show own_Go p e below _ (T399.setTop (mkF m 326 #[vI p0, vI p1, vI p2, vJ q3, .second, vI v1, vR b386, vI (0 : Int32), vI v400, vI (13 : Int32), .unset, .unset, .unset] []))
         refine own_by (fun _ k => XS.goto X399.here hx rfl (pc0 := 326) (pc' := 403) rfl (hb hby at_326) (by decide) (by decide) k) ?_
         show own_Go p e below _ (T399.setTop (mkF m 403 #[vI p0, vI p1, vI p2, vJ q3, .second, vI v1, vR b386, vI (0 : Int32), vI v400, vI (13 : Int32), .unset, .unset, .unset] []))
         exact J408 _ _ (13 : Int32) X399 eq399 N399 (Or.inl ⟨c401, rfl⟩)
        ·skip
         refine own_by (fun _ k => XS.ifYes X399.here hx rfl (pc0 := 319) (pc' := 329) rfl (hb hby at_319) rfl ((if0 _ _).trans (feq c401).2) (by decide) (by decide) k) ?_
         show own_Go p e below _ (T399.setTop (mkF m 329 #[vI p0, vI p1, vI p2, vJ q3, .second, vI v1, vR b386, vI (0 : Int32), vI v400, .unset, .unset, .unset, .unset] []))
         refine own_by (fun _ k => XS.iload X399.here hx rfl (hb hby at_329) rfl k) ?_
         refine own_by (fun _ k => XS.iconst X399.here hx rfl (hb hby at_331) k) ?_
         by_cases c402 : v400 = (1 : Int32)
         ·skip
          refine own_by (fun _ k => XS.icmpNo X399.here hx rfl (hb hby at_332) rfl (teq c402).2 k) ?_
          show own_Go p e below _ (T399.setTop (mkF m 335 #[vI p0, vI p1, vI p2, vJ q3, .second, vI v1, vR b386, vI (0 : Int32), vI v400, .unset, .unset, .unset, .unset] []))
          refine own_by (fun _ k => XS.bipush X399.here hx rfl (hb hby at_335) k) ?_
          refine own_by (fun _ k => XS.istore X399.here hx rfl (hb hby at_337) rfl (l' := #[vI p0, vI p1, vI p2, vJ q3, .second, vI v1, vR b386, vI (0 : Int32), vI v400, vI (10 : Int32), .unset, .unset, .unset]) rfl k) ?_
          show own_Go p e below _ (T399.setTop (mkF m 339 #[vI p0, vI p1, vI p2, vJ q3, .second, vI v1, vR b386, vI (0 : Int32), vI v400, vI (10 : Int32), .unset, .unset, .unset] []))
          refine own_by (fun _ k => XS.goto X399.here hx rfl (pc0 := 339) (pc' := 403) rfl (hb hby at_339) (by decide) (by decide) k) ?_
          show own_Go p e below _ (T399.setTop (mkF m 403 #[vI p0, vI p1, vI p2, vJ q3, .second, vI v1, vR b386, vI (0 : Int32), vI v400, vI (10 : Int32), .unset, .unset, .unset] []))
          exact J408 _ _ (10 : Int32) X399 eq399 N399 (Or.inr (Or.inl ⟨c401, c402, rfl⟩))
         ·skip
          refine own_by (fun _ k => XS.icmpYes X399.here hx rfl (pc0 := 332) (pc' := 342) rfl (hb hby at_332) rfl (feq c402).2 (by decide) (by decide) k) ?_
          show own_Go p e below _ (T399.setTop (mkF m 342 #[vI p0, vI p1, vI p2, vJ q3, .second, vI v1, vR b386, vI (0 : Int32), vI v400, .unset, .unset, .unset, .unset] []))
          refine own_by (fun _ k => XS.iload X399.here hx rfl (hb hby at_342) rfl k) ?_
          refine own_by (fun _ k => XS.iconst X399.here hx rfl (hb hby at_344) k) ?_
          by_cases c403 : v400 = (2 : Int32)
          ·skip
           refine own_by (fun _ k => XS.icmpNo X399.here hx rfl (hb hby at_345) rfl (teq c403).2 k) ?_
           show own_Go p e below _ (T399.setTop (mkF m 348 #[vI p0, vI p1, vI p2, vJ q3, .second, vI v1, vR b386, vI (0 : Int32), vI v400, .unset, .unset, .unset, .unset] []))
           refine own_by (fun _ k => XS.sipush X399.here hx rfl (hb hby at_348) k) ?_
           refine own_by (fun _ k => XS.istore X399.here hx rfl (hb hby at_351) rfl (l' := #[vI p0, vI p1, vI p2, vJ q3, .second, vI v1, vR b386, vI (0 : Int32), vI v400, vI (133 : Int32), .unset, .unset, .unset]) rfl k) ?_
           show own_Go p e below _ (T399.setTop (mkF m 353 #[vI p0, vI p1, vI p2, vJ q3, .second, vI v1, vR b386, vI (0 : Int32), vI v400, vI (133 : Int32), .unset, .unset, .unset] []))
           refine own_by (fun _ k => XS.goto X399.here hx rfl (pc0 := 353) (pc' := 403) rfl (hb hby at_353) (by decide) (by decide) k) ?_
           show own_Go p e below _ (T399.setTop (mkF m 403 #[vI p0, vI p1, vI p2, vJ q3, .second, vI v1, vR b386, vI (0 : Int32), vI v400, vI (133 : Int32), .unset, .unset, .unset] []))
           exact J408 _ _ (133 : Int32) X399 eq399 N399 (Or.inr (Or.inr (Or.inl ⟨c401, c402, c403, rfl⟩)))
          ·skip
           refine own_by (fun _ k => XS.icmpYes X399.here hx rfl (pc0 := 345) (pc' := 356) rfl (hb hby at_345) rfl (feq c403).2 (by decide) (by decide) k) ?_
           show own_Go p e below _ (T399.setTop (mkF m 356 #[vI p0, vI p1, vI p2, vJ q3, .second, vI v1, vR b386, vI (0 : Int32), vI v400, .unset, .unset, .unset, .unset] []))
           refine own_by (fun _ k => XS.iload X399.here hx rfl (hb hby at_356) rfl k) ?_
           refine own_by (fun _ k => XS.iconst X399.here hx rfl (hb hby at_358) k) ?_
           by_cases c404 : v400 = (3 : Int32)
           ·skip
            refine own_by (fun _ k => XS.icmpNo X399.here hx rfl (hb hby at_359) rfl (teq c404).2 k) ?_
            show own_Go p e below _ (T399.setTop (mkF m 362 #[vI p0, vI p1, vI p2, vJ q3, .second, vI v1, vR b386, vI (0 : Int32), vI v400, .unset, .unset, .unset, .unset] []))
            refine own_by (fun _ k => XS.sipush X399.here hx rfl (hb hby at_362) k) ?_
            refine own_by (fun _ k => XS.istore X399.here hx rfl (hb hby at_365) rfl (l' := #[vI p0, vI p1, vI p2, vJ q3, .second, vI v1, vR b386, vI (0 : Int32), vI v400, vI (8232 : Int32), .unset, .unset, .unset]) rfl k) ?_
            show own_Go p e below _ (T399.setTop (mkF m 367 #[vI p0, vI p1, vI p2, vJ q3, .second, vI v1, vR b386, vI (0 : Int32), vI v400, vI (8232 : Int32), .unset, .unset, .unset] []))
            refine own_by (fun _ k => XS.goto X399.here hx rfl (pc0 := 367) (pc' := 403) rfl (hb hby at_367) (by decide) (by decide) k) ?_
            show own_Go p e below _ (T399.setTop (mkF m 403 #[vI p0, vI p1, vI p2, vJ q3, .second, vI v1, vR b386, vI (0 : Int32), vI v400, vI (8232 : Int32), .unset, .unset, .unset] []))
            exact J408 _ _ (8232 : Int32) X399 eq399 N399 (Or.inr (Or.inr (Or.inr (Or.inl ⟨c401, c402, c403, c404, rfl⟩))))
           ·skip
            refine own_by (fun _ k => XS.icmpYes X399.here hx rfl (pc0 := 359) (pc' := 370) rfl (hb hby at_359) rfl (feq c404).2 (by decide) (by decide) k) ?_
            show own_Go p e below _ (T399.setTop (mkF m 370 #[vI p0, vI p1, vI p2, vJ q3, .second, vI v1, vR b386, vI (0 : Int32), vI v400, .unset, .unset, .unset, .unset] []))
            refine own_by (fun _ k => XS.iload X399.here hx rfl (hb hby at_370) rfl k) ?_
            refine own_by (fun _ k => XS.iconst X399.here hx rfl (hb hby at_372) k) ?_
            by_cases c405 : v400 = (4 : Int32)
            ·skip
             refine own_by (fun _ k => XS.icmpNo X399.here hx rfl (hb hby at_373) rfl (teq c405).2 k) ?_
             show own_Go p e below _ (T399.setTop (mkF m 376 #[vI p0, vI p1, vI p2, vJ q3, .second, vI v1, vR b386, vI (0 : Int32), vI v400, .unset, .unset, .unset, .unset] []))
             refine own_by (fun _ k => XS.sipush X399.here hx rfl (hb hby at_376) k) ?_
             refine own_by (fun _ k => XS.istore X399.here hx rfl (hb hby at_379) rfl (l' := #[vI p0, vI p1, vI p2, vJ q3, .second, vI v1, vR b386, vI (0 : Int32), vI v400, vI (8233 : Int32), .unset, .unset, .unset]) rfl k) ?_
             show own_Go p e below _ (T399.setTop (mkF m 381 #[vI p0, vI p1, vI p2, vJ q3, .second, vI v1, vR b386, vI (0 : Int32), vI v400, vI (8233 : Int32), .unset, .unset, .unset] []))
             refine own_by (fun _ k => XS.goto X399.here hx rfl (pc0 := 381) (pc' := 403) rfl (hb hby at_381) (by decide) (by decide) k) ?_
             show own_Go p e below _ (T399.setTop (mkF m 403 #[vI p0, vI p1, vI p2, vJ q3, .second, vI v1, vR b386, vI (0 : Int32), vI v400, vI (8233 : Int32), .unset, .unset, .unset] []))
             exact J408 _ _ (8233 : Int32) X399 eq399 N399 (Or.inr (Or.inr (Or.inr (Or.inr (Or.inl ⟨c401, c402, c403, c404, c405, rfl⟩)))))
            ·skip
             refine own_by (fun _ k => XS.icmpYes X399.here hx rfl (pc0 := 373) (pc' := 384) rfl (hb hby at_373) rfl (feq c405).2 (by decide) (by decide) k) ?_
             show own_Go p e below _ (T399.setTop (mkF m 384 #[vI p0, vI p1, vI p2, vJ q3, .second, vI v1, vR b386, vI (0 : Int32), vI v400, .unset, .unset, .unset, .unset] []))
             refine own_by (fun _ k => XS.iload X399.here hx rfl (hb hby at_384) rfl k) ?_
             refine own_by (fun _ k => XS.iconst X399.here hx rfl (hb hby at_386) k) ?_
             by_cases c406 : v400 = (5 : Int32)
             ·skip
              refine own_by (fun _ k => XS.icmpNo X399.here hx rfl (hb hby at_387) rfl (teq c406).2 k) ?_
              show own_Go p e below _ (T399.setTop (mkF m 390 #[vI p0, vI p1, vI p2, vJ q3, .second, vI v1, vR b386, vI (0 : Int32), vI v400, .unset, .unset, .unset, .unset] []))
              refine own_by (fun _ k => XS.bipush X399.here hx rfl (hb hby at_390) k) ?_
              refine own_by (fun _ k => XS.istore X399.here hx rfl (hb hby at_392) rfl (l' := #[vI p0, vI p1, vI p2, vJ q3, .second, vI v1, vR b386, vI (0 : Int32), vI v400, vI (12 : Int32), .unset, .unset, .unset]) rfl k) ?_
              show own_Go p e below _ (T399.setTop (mkF m 394 #[vI p0, vI p1, vI p2, vJ q3, .second, vI v1, vR b386, vI (0 : Int32), vI v400, vI (12 : Int32), .unset, .unset, .unset] []))
              refine own_by (fun _ k => XS.goto X399.here hx rfl (pc0 := 394) (pc' := 403) rfl (hb hby at_394) (by decide) (by decide) k) ?_
              show own_Go p e below _ (T399.setTop (mkF m 403 #[vI p0, vI p1, vI p2, vJ q3, .second, vI v1, vR b386, vI (0 : Int32), vI v400, vI (12 : Int32), .unset, .unset, .unset] []))
              exact J408 _ _ (12 : Int32) X399 eq399 N399 (Or.inr (Or.inr (Or.inr (Or.inr (Or.inr (Or.inl ⟨c401, c402, c403, c404, c405, c406, rfl⟩))))))
             ·skip
              refine own_by (fun _ k => XS.icmpYes X399.here hx rfl (pc0 := 387) (pc' := 397) rfl (hb hby at_387) rfl (feq c406).2 (by decide) (by decide) k) ?_
              show own_Go p e below _ (T399.setTop (mkF m 397 #[vI p0, vI p1, vI p2, vJ q3, .second, vI v1, vR b386, vI (0 : Int32), vI v400, .unset, .unset, .unset, .unset] []))
              refine own_by (fun _ k => XS.iloadN X399.here hx rfl (hb hby at_397) rfl k) ?_
              refine own_by (fun t k => X399.ldcInt hx hown (mvT hZ (hwd 99 rfl)) (g := (mkF m 398 #[vI p0, vI p1, vI p2, vJ q3, .second, vI v1, vR b386, vI (0 : Int32), vI v400, .unset, .unset, .unset, .unset] [(.int p2)])) rfl (hb hby at_398) _ k) ?_
              show own_Go p e below _ (T399.setTop (mkF m 400 #[vI p0, vI p1, vI p2, vJ q3, .second, vI v1, vR b386, vI (0 : Int32), vI v400, .unset, .unset, .unset, .unset] [(.int (65535 : Int32)), (.int p2)]))
              refine own_by (fun _ k => XS.iand X399.here hx rfl (hb hby at_400) rfl k) ?_
              show own_Go p e below _ (T399.setTop (mkF m 401 #[vI p0, vI p1, vI p2, vJ q3, .second, vI v1, vR b386, vI (0 : Int32), vI v400, .unset, .unset, .unset, .unset] [(.int (p2 &&& (65535 : Int32)))]))
              refine own_by (fun _ k => XS.istore X399.here hx rfl (hb hby at_401) rfl (l' := #[vI p0, vI p1, vI p2, vJ q3, .second, vI v1, vR b386, vI (0 : Int32), vI v400, vI (p2 &&& (65535 : Int32)), .unset, .unset, .unset]) rfl k) ?_
              show own_Go p e below _ (T399.setTop (mkF m 403 #[vI p0, vI p1, vI p2, vJ q3, .second, vI v1, vR b386, vI (0 : Int32), vI v400, vI (p2 &&& (65535 : Int32)), .unset, .unset, .unset] []))
              generalize hv407 : (p2 &&& (65535 : Int32)) = v407
              show own_Go p e below _ (T399.setTop (mkF m 403 #[vI p0, vI p1, vI p2, vJ q3, .second, vI v1, vR b386, vI (0 : Int32), vI v400, vI v407, .unset, .unset, .unset] []))
              exact J408 _ _ v407 X399 eq399 N399 (Or.inr (Or.inr (Or.inr (Or.inr (Or.inr (Or.inr (⟨v407, c401, c402, c403, c404, c405, c406, hv407, rfl⟩)))))))
       ·skip
        refine own_by (fun _ k => XS.icmpYes X0.here hx rfl (pc0 := 158) (pc' := 219) rfl (hb hby at_158) rfl (feq c364).2 (by decide) (by decide) k) ?_
        show own_Go p e below _ (s₁.setTop (mkF m 219 #[vI p0, vI p1, vI p2, vJ q3, .second, vI v1, .unset, .unset, .unset, .unset, .unset, .unset, .unset] []))
        refine own_by (fun _ k => XS.iconst X0.here hx rfl (hb hby at_219) k) ?_
        obtain ⟨T446, h446, k446, X446, e446, E446, A446, st446⟩ := newP X0 hx hZ (hwd 33 rfl) e0 (g := (mkF m 220 #[vI p0, vI p1, vI p2, vJ q3, .second, vI v1, .unset, .unset, .unset, .unset, .unset, .unset, .unset] [(.int (3 : Int32))])) rfl (hb hby at_220) rfl (by decide) (cap := 3) (by decide) (by decide) (by decide) (by decide)
        obtain ⟨b446, g446⟩ : ∃ z, z = h0.size := ⟨_, rfl⟩
        have ge_b446 : n0 ≤ b446 := Nat.le_trans Z0 (Nat.le_of_eq g446.symm)
        have sz_b446 : h0.size ≤ b446 := Nat.le_trans (Keep.refl h0 []).1 (Nat.le_of_eq g446.symm)
        have R446 : CHr Z consts_1 s.vm h0 s.vm h446 := CHr.ext E446 CR0.1
        have CR446 : CHr Z consts_1 s.vm h0 s.vm h446 := CR0.trans R446
        have hk446 : kc0 ≤ h446.size := Nat.le_trans hk0 E446.1
        have S_b446 : Safe Z consts_1 s.vm h446 b446 := Safe.ext E446 CR0.1 (Safe.new (Nat.le_of_eq g446.symm))
        have K446 : Keep h0 h446 [] := (Keep.refl h0 []).ext E446
        have Z446 : n0 ≤ h446.size := Nat.le_trans Z0 E446.1
        rw [← g446] at A446 st446
        have V446 : own_Arf Z h446 b446 k446 .char (3 : Int32) (fun i => .int ((fun _ => (0 : Int32)) i)) := own_arfNew A446 (by decide)
        refine own_by st446 ?_
        show own_Go p e below _ (T446.setTop (mkF m 222 #[vI p0, vI p1, vI p2, vJ q3, .second, vI v1, .unset, .unset, .unset, .unset, .unset, .unset, .unset] [(.ref b446)]))
        refine own_by (fun _ k => XS.astore X446.here hx rfl (hb hby at_222) rfl rfl (l' := #[vI p0, vI p1, vI p2, vJ q3, .second, vI v1, .unset, vR b446, .unset, .unset, .unset, .unset, .unset]) rfl k) ?_
        show own_Go p e below _ (T446.setTop (mkF m 224 #[vI p0, vI p1, vI p2, vJ q3, .second, vI v1, .unset, vR b446, .unset, .unset, .unset, .unset, .unset] []))
        refine own_by (fun _ k => XS.aload X446.here hx rfl (hb hby at_224) rfl rfl k) ?_
        refine own_by (fun _ k => XS.iconst X446.here hx rfl (hb hby at_226) k) ?_
        refine own_by (fun _ k => XS.bipush X446.here hx rfl (hb hby at_227) k) ?_
        obtain ⟨cl447, Ar447, qq447, S447, M447, H447, G447⟩ := id V446
        have hin447 : ¬ ((0 : Int32) < 0 ∨ cl447.slots.size ≤ ((0 : Int32)).toNatClampNeg) := inb_of S447 ⟨by decide, by decide⟩
        obtain ⟨T448, h448, X448, e448, W448, st448⟩ := stC X446 hx hZ e446 Ar447 (j := (0 : Int32)) hin447 (g := (mkF m 229 #[vI p0, vI p1, vI p2, vJ q3, .second, vI v1, .unset, vR b446, .unset, .unset, .unset, .unset, .unset] [(.int (49 : Int32)), (.int (0 : Int32)), (.ref b446)])) rfl rfl (hb hby at_229)
        have V448 : own_Arf Z h448 b446 k446 .char (3 : Int32) (fun i => .int ((own_upd (fun _ => (0 : Int32)) 0 (nar .char (49 : Int32))) i)) := own_arfSetI Ar447 qq447 S447 M447 H447 G447 (fits_nar_char _) W448
        have R448 : CHr Z consts_1 s.vm h446 s.vm h448 := CHr.wr W448 (own_arfSafe V446 hZ.alike (by decide)) CR446.1
        have CR448 : CHr Z consts_1 s.vm h0 s.vm h448 := CR446.trans R448
        have hk448 : kc0 ≤ h448.size := Nat.le_trans hk446 (Keep.of_wr W448).1
        have K448 : Keep h0 h448 [] := K446.wr W448 (Or.inr sz_b446)
        have Z448 : n0 ≤ h448.size := Nat.le_trans Z446 (Keep.of_wr W448).1
        have N448 := Fr.snoc X448 N0 ge_b446
        refine own_by st448 ?_
        show own_Go p e below _ (T448.setTop (mkF m 230 #[vI p0, vI p1, vI p2, vJ q3, .second, vI v1, .unset, vR b446, .unset, .unset, .unset, .unset, .unset] []))
        refine own_by (fun _ k => XS.aload X448.here hx rfl (hb hby at_230) rfl rfl k) ?_
        refine own_by (fun _ k => XS.iconst X448.here hx rfl (hb hby at_232) k) ?_
        refine own_by (fun _ k => XS.bipush X448.here hx rfl (hb hby at_233) k) ?_
        obtain ⟨cl449, Ar449, qq449, S449, M449, H449, G449⟩ := id V448
        have hin449 : ¬ ((1 : Int32) < 0 ∨ cl449.slots.size ≤ ((1 : Int32)).toNatClampNeg) := inb_of S449 ⟨by decide, by decide⟩
        obtain ⟨T450, h450, X450, e450, W450, st450⟩ := stC X448 hx hZ e448 Ar449 (j := (1 : Int32)) hin449 (g := (mkF m 235 #[vI p0, vI p1, vI p2, vJ q3, .second, vI v1, .unset, vR b446, .unset, .unset, .unset, .unset, .unset] [(.int (46 : Int32)), (.int (1 : Int32)), (.ref b446)])) rfl rfl (hb hby at_235)
        have V450 : own_Arf Z h450 b446 k446 .char (3 : Int32) (fun i => .int ((own_upd (own_upd (fun _ => (0 : Int32)) 0 (nar .char (49 : Int32))) 1 (nar .char (46 : Int32))) i)) := own_arfSetI Ar449 qq449 S449 M449 H449 G449 (fits_nar_char _) W450
        have R450 : CHr Z consts_1 s.vm h448 s.vm h450 := CHr.wr W450 (own_arfSafe V448 hZ.alike (by decide)) CR448.1
        have CR450 : CHr Z consts_1 s.vm h0 s.vm h450 := CR448.trans R450
        have hk450 : kc0 ≤ h450.size := Nat.le_trans hk448 (Keep.of_wr W450).1
        have K450 : Keep h0 h450 [] := K448.wr W450 (Or.inr sz_b446)
        have Z450 : n0 ≤ h450.size := Nat.le_trans Z448 (Keep.of_wr W450).1
        have N450 := Fr.snoc X450 N448 ge_b446
        refine own_by st450 ?_
        show own_Go p e below _ (T450.setTop (mkF m 236 #[vI p0, vI p1, vI p2, vJ q3, .second, vI v1, .unset, vR b446, .unset, .unset, .unset, .unset, .unset] []))
        refine own_by (fun _ k => XS.aload X450.here hx rfl (hb hby at_236) rfl rfl k) ?_
        refine own_by (fun _ k => XS.iconst X450.here hx rfl (hb hby at_238) k) ?_
        refine own_by (fun _ k => XS.lloadN X450.here hx rfl (hb hby at_239) rfl k) ?_
        refine own_by (fun _ k => XS.bipush X450.here hx rfl (hb hby at_240) k) ?_
        obtain ⟨_, _, ⟨T451, L451, k451, n451⟩, -, X451, ⟨Lc451, hQ451, l451, y451, z451⟩, st451⟩ := Jvm.LawKit.callS X450 hx (y := (⟨"com/example/margay/margay/index/LineCounterEndsLinePinLaw", "ch", "(JI)C"⟩ : MethodName)) hown (mvT hZ (hwd 34 rfl)) (mvT hZ (hwd 35 rfl)) (mvT hZ (hwd 36 rfl)) (mvT hZ (hwd 37 rfl)) (by decide) (backOf (W := 2) (rmch l Z A0 hw [] q3 (32 : Int32) h450 n0 Z450 ) hZ (hwd 37 rfl) (hwd 36 rfl) (by decide) (by decide)) (g := (mkF m 242 #[vI p0, vI p1, vI p2, vJ q3, .second, vI v1, .unset, vR b446, .unset, .unset, .unset, .unset, .unset] [(.int (32 : Int32)), (.long q3), (.int (2 : Int32)), (.ref b446)])) rfl (by rw [hml]; rfl) (argsL := [(.long q3), (.int (32 : Int32))]) (rest := [(.int (2 : Int32)), (.ref b446)]) (lenOf pd_34 rfl) rfl (by show 2 * 0 + _ ≤ _; exact Nat.le_of_eq rfl) (hb hby at_242) (fun _ _ => ⟨rfl, e450, (by decide : 1 + 0 ≤ _), (by decide : 3 + 0 ≤ _)⟩)
        dsimp only [Pt.U, Pt.locs, Pt.cells, Pt.slots] at X451 l451 y451 z451 st451 hQ451
        subst l451 y451 z451
        obtain ⟨o452, rfl, Nq451, eq451, hp453⟩ := hQ451
        have N451 := Fr.app N450 Nq451
        refine own_by st451 ?_
        show own_Go p e below _ (T451.setTop (mkF m 245 #[vI p0, vI p1, vI p2, vJ q3, .second, vI v1, .unset, vR b446, .unset, .unset, .unset, .unset, .unset] [(.int o452), (.int (2 : Int32)), (.ref b446)]))
        obtain ⟨cl454, Ar454, qq454, S454, M454, H454, G454⟩ := id V450
        have hin454 : ¬ ((2 : Int32) < 0 ∨ cl454.slots.size ≤ ((2 : Int32)).toNatClampNeg) := inb_of S454 ⟨by decide, by decide⟩
        obtain ⟨T455, h455, X455, e455, W455, st455⟩ := stC X451 hx hZ eq451 Ar454 (j := (2 : Int32)) hin454 (g := (mkF m 245 #[vI p0, vI p1, vI p2, vJ q3, .second, vI v1, .unset, vR b446, .unset, .unset, .unset, .unset, .unset] [(.int o452), (.int (2 : Int32)), (.ref b446)])) rfl rfl (hb hby at_245)
        have V455 : own_Arf Z h455 b446 k446 .char (3 : Int32) (fun i => .int ((own_upd (own_upd (own_upd (fun _ => (0 : Int32)) 0 (nar .char (49 : Int32))) 1 (nar .char (46 : Int32))) 2 (nar .char o452)) i)) := own_arfSetI Ar454 qq454 S454 M454 H454 G454 (fits_nar_char _) W455
        have R455 : CHr Z consts_1 s.vm h450 s.vm h455 := CHr.wr W455 (own_arfSafe V450 hZ.alike (by decide)) CR450.1
        have CR455 : CHr Z consts_1 s.vm h0 s.vm h455 := CR450.trans R455
        have hk455 : kc0 ≤ h455.size := Nat.le_trans hk450 (Keep.of_wr W455).1
        have K455 : Keep h0 h455 [] := K450.wr W455 (Or.inr sz_b446)
        have Z455 : n0 ≤ h455.size := Nat.le_trans Z450 (Keep.of_wr W455).1
        have N455 := Fr.snoc X455 N451 ge_b446
        refine own_by st455 ?_
        show own_Go p e below _ (T455.setTop (mkF m 246 #[vI p0, vI p1, vI p2, vJ q3, .second, vI v1, .unset, vR b446, .unset, .unset, .unset, .unset, .unset] []))
        obtain ⟨T456, h456, X456, e456, E456, A456, D456, -, st456⟩ := newO X455 hx hZ hown (hwd 39 rfl) (hwd 15 rfl) (hwd 14 rfl) e455 (g := (mkF m 246 #[vI p0, vI p1, vI p2, vJ q3, .second, vI v1, .unset, vR b446, .unset, .unset, .unset, .unset, .unset] [])) rfl (hb hby at_246) (by decide) (by decide)
        obtain ⟨b456, g456⟩ : ∃ z, z = h455.size := ⟨_, rfl⟩
        have ge_b456 : n0 ≤ b456 := Nat.le_trans Z455 (Nat.le_of_eq g456.symm)
        have sz_b456 : h0.size ≤ b456 := Nat.le_trans K455.1 (Nat.le_of_eq g456.symm)
        have R456 : CHr Z consts_1 s.vm h455 s.vm h456 := CHr.ext E456 CR455.1
        have CR456 : CHr Z consts_1 s.vm h0 s.vm h456 := CR455.trans R456
        have hk456 : kc0 ≤ h456.size := Nat.le_trans hk455 E456.1
        have S_b456 : Safe Z consts_1 s.vm h456 b456 := Safe.ext E456 CR455.1 (Safe.new (Nat.le_of_eq g456.symm))
        have K456 : Keep h0 h456 [] := K455.ext E456
        have Z456 : n0 ≤ h456.size := Nat.le_trans Z455 E456.1
        rw [← g456] at A456 D456 st456
        have lt_b456 := A456.lt
        have F_value_b456 : Fld Z h456 b456 "java/lang/String" "value" "[B" .null := D456 (Or.inr (hwd 17 rfl)) (ty := (.array .byte)) (by decide)
        have F_coder_b456 : Fld Z h456 b456 "java/lang/String" "coder" "B" (.int (0 : Int32)) := D456 (Or.inr (hwd 18 rfl)) (ty := .byte) (by decide)
        refine own_by st456 ?_
        show own_Go p e below _ (T456.setTop (mkF m 249 #[vI p0, vI p1, vI p2, vJ q3, .second, vI v1, .unset, vR b446, .unset, .unset, .unset, .unset, .unset] [(.ref b456)]))
        refine own_by (fun _ k => XS.dup X456.here hx rfl (hb hby at_249) rfl rfl k) ?_
        show own_Go p e below _ (T456.setTop (mkF m 250 #[vI p0, vI p1, vI p2, vJ q3, .second, vI v1, .unset, vR b446, .unset, .unset, .unset, .unset, .unset] [(.ref b456), (.ref b456)]))
        refine own_by (fun _ k => XS.aload X456.here hx rfl (hb hby at_250) rfl rfl k) ?_
        have F457 : own_Arf Z h456 b446 k446 .char (3 : Int32) (fun i => .int ((own_upd (own_upd (own_upd (fun _ => (0 : Int32)) 0 (nar .char (49 : Int32))) 1 (nar .char (46 : Int32))) 2 (nar .char o452)) i)) := (V455.ext E456)
        have F458 : Sta Z h456 "java/lang/String" "COMPACT_STRINGS" "Z" (.int f_CS) := (((((P_S_CS.ext E446).wr W448).wr W450).wr W455).ext E456)
        obtain ⟨_, _, ⟨T459, L459, k459, n459⟩, -, X459, ⟨Lc459, hQ459, l459, y459, z459⟩, st459⟩ := X456.specialBack hx (y := (⟨"java/lang/String", "<init>", "([C)V"⟩ : MethodName)) rfl hown (mvT hZ (hwd 40 rfl)) (mvT hZ (hwd 41 rfl)) (mvT hZ (hwd 42 rfl)) (by decide) (backOf (W := 1) (rmsi3 l Z A0 hw [] k446 (own_upd (own_upd (own_upd (fun _ => (0 : Int32)) 0 (nar .char (49 : Int32))) 1 (nar .char (46 : Int32))) 2 (nar .char o452)) f_CS b456 b446 (0 : Int32) (.null) h456 n0 Z456 F457 F458 hn_CS (show ¬ ((255 : Int32) < (49 : Int32)) by decide) (show ¬ ((255 : Int32) < (46 : Int32)) by decide) (ob_0_39 f_CS f_SF p0 v1 o452 hn_CS hr_f_SF hv1 c2 c42 c96 c150 c200 c272 c364 hp453) A456 F_coder_b456 F_value_b456 ge_b456) hZ (hwd 42 rfl) (hwd 14 rfl) (by decide) (by decide)) (g := (mkF m 252 #[vI p0, vI p1, vI p2, vJ q3, .second, vI v1, .unset, vR b446, .unset, .unset, .unset, .unset, .unset] [(.ref b446), (.ref b456), (.ref b456)])) rfl (by rw [hml]; rfl) (Steps.refl _) (a := b456) (argsL := [(.ref b446)]) (rest := [(.ref b456)]) (lenOf pd_40 rfl) rfl (by show 2 * 0 + _ ≤ _; exact Nat.le_of_eq rfl) (hb hby at_252) (fun _ _ => ⟨rfl, e456, (by decide : 2 + 1 ≤ _), (by decide : 7 + 3 ≤ _)⟩)
        dsimp only [Pt.U, Pt.locs, Pt.cells, Pt.slots] at X459 l459 y459 z459 st459 hQ459
        subst l459 y459 z459
        obtain ⟨b460, b461, rfl, Nq459, Kq459, F462, F463, F464, hp465, hp466, F467⟩ := hQ459
        have N459 := Fr.app N455 Nq459
        have R459 : CHr Z consts_1 s.vm h456 s.vm T459.heap := CHr.keep Kq459 ((allS S_b456 all0)) CR456.1
        have CR459 : CHr Z consts_1 s.vm h0 s.vm T459.heap := CR456.trans R459
        have hk459 : kc0 ≤ T459.heap.size := Nat.le_trans hk456 Kq459.1
        have K459 : Keep h0 T459.heap [] := K456.trans Kq459 ((allS (Or.inr sz_b456) all0))
        have Z459 : n0 ≤ T459.heap.size := Nat.le_trans Z456 Kq459.1
        have sz_b460 : h0.size ≤ b460 := Nat.le_trans K456.1 hp466
        have S_b460 : Safe Z consts_1 s.vm T459.heap b460 := Safe.keep Kq459 ((allS S_b456 all0)) CR456.1 (Safe.new hp466)
        have lt_b460 := F467.lt
        refine own_by (fun _ k => st459.trans k) ?_
        show own_Go p e below _ (T459.setTop (mkF m 255 #[vI p0, vI p1, vI p2, vJ q3, .second, vI v1, .unset, vR b446, .unset, .unset, .unset, .unset, .unset] [(.ref b456)]))
        refine own_by (fun _ k => XS.astore X459.here hx rfl (hb hby at_255) rfl rfl (l' := #[vI p0, vI p1, vI p2, vJ q3, .second, vI v1, vR b456, vR b446, .unset, .unset, .unset, .unset, .unset]) rfl k) ?_
        show own_Go p e below _ (T459.setTop (mkF m 257 #[vI p0, vI p1, vI p2, vJ q3, .second, vI v1, vR b456, vR b446, .unset, .unset, .unset, .unset, .unset] []))
        refine own_by (fun _ k => XS.aload X459.here hx rfl (hb hby at_257) rfl rfl k) ?_
        refine own_by (fun _ k => XS.ifnullNo X459.here hx rfl (hb hby at_259) rfl k) ?_
        show own_Go p e below _ (T459.setTop (mkF m 262 #[vI p0, vI p1, vI p2, vJ q3, .second, vI v1, vR b456, vR b446, .unset, .unset, .unset, .unset, .unset] []))
        refine own_by (fun _ k => XS.aload X459.here hx rfl (hb hby at_262) rfl rfl k) ?_
        have F468 : Sta Z T459.heap "java/lang/String" "COMPACT_STRINGS" "Z" (.int f_CS) := (own_staKeep F458 Kq459 (allS (own_exaPlain A456) all0))
        obtain ⟨cq469, kq469, qq469a, qq469b, qq469c⟩ := isOf hZ rfl F462
        obtain ⟨_, _, ⟨T469, L469, k469, n469⟩, -, X469, ⟨Lc469, hQ469, l469, y469, z469⟩, st469⟩ := X459.virtualBack hx (y := (⟨"java/lang/String", "length", "()I"⟩ : MethodName)) (z := (⟨"java/lang/String", "length", "()I"⟩ : MethodName)) hown (mvT hZ (hwd 61 rfl)) (mvT hZ (hwd 62 rfl)) (notFace_of_selects (args := #[]) (mvT hZ (hwd 64 rfl))) (mvT hZ (hwd 64 rfl)) (mvT hZ (hwd 63 rfl)) (by decide) (backOf (W := 0) (rmlen3 l Z A0 hw [] b460 b461 (own_upd (own_upd (own_upd (fun _ => (0 : Int32)) 0 (49 : Int32)) 1 (46 : Int32)) 2 (nar .byte ((nar .char o452).toInt8.toInt32))) f_CS b456 T459.heap n0 Z459 F462 F463 F464 F467 F468 hn_CS) hZ (hwd 65 rfl) (hwd 14 rfl) (by decide) (by decide)) qq469a qq469c (g := (mkF m 264 #[vI p0, vI p1, vI p2, vJ q3, .second, vI v1, vR b456, vR b446, .unset, .unset, .unset, .unset, .unset] [(.ref b456)])) rfl (by rw [hml]; rfl) (Steps.refl _) (argsL := []) (rest := []) (lenOf pd_61 rfl) rfl (by show 2 * 0 + _ ≤ _; exact Nat.le_of_eq rfl) (hb hby at_264) (fun _ _ => ⟨rfl, rfl, (by decide : 3 + 0 ≤ _), (by decide : 10 + 0 ≤ _)⟩)
        dsimp only [Pt.U, Pt.locs, Pt.cells, Pt.slots] at X469 l469 y469 z469 st469 hQ469
        subst l469 y469 z469
        obtain ⟨rfl, Nq469, eq469⟩ := hQ469
        have N469 := Fr.app N459 Nq469
        refine own_by (fun _ k => st469.trans k) ?_
        show own_Go p e below _ (T469.setTop (mkF m 267 #[vI p0, vI p1, vI p2, vJ q3, .second, vI v1, vR b456, vR b446, .unset, .unset, .unset, .unset, .unset] [(.int (3 : Int32))]))
        refine own_by (fun _ k => XS.iconst X469.here hx rfl (hb hby at_267) k) ?_
        refine own_by (fun _ k => XS.icmpNo X469.here hx rfl (hb hby at_268) rfl (teq (by decide : (3 : Int32) = (3 : Int32))).2 k) ?_
        show own_Go p e below _ (T469.setTop (mkF m 271 #[vI p0, vI p1, vI p2, vJ q3, .second, vI v1, vR b456, vR b446, .unset, .unset, .unset, .unset, .unset] []))
        refine own_by (fun _ k => XS.aload X469.here hx rfl (hb hby at_271) rfl rfl k) ?_
        refine own_by (fun _ k => XS.iconst X469.here hx rfl (hb hby at_273) k) ?_
        have F470 : Sta Z T459.heap "jdk/internal/util/Preconditions" "SIOOBE_FORMATTER" "Ljava/util/function/BiFunction;" f_SF := (own_staKeep (((((P_S_SF.ext E446).wr W448).wr W450).wr W455).ext E456) Kq459 (allS (own_exaPlain A456) all0))
        obtain ⟨cq471, kq471, qq471a, qq471b, qq471c⟩ := isOf hZ eq469 F462
        obtain ⟨_, _, ⟨T471, L471, k471, n471⟩, -, X471, ⟨Lc471, hQ471, l471, y471, z471⟩, st471⟩ := X469.virtualBack hx (y := (⟨"java/lang/String", "charAt", "(I)C"⟩ : MethodName)) (z := (⟨"java/lang/String", "charAt", "(I)C"⟩ : MethodName)) hown (mvT hZ (hwd 77 rfl)) (mvT hZ (hwd 78 rfl)) (notFace_of_selects (args := #[]) (mvT hZ (hwd 80 rfl))) (mvT hZ (hwd 80 rfl)) (mvT hZ (hwd 79 rfl)) (by decide) (backOf (W := 0) (rmsca0 l Z A0 hw [] b460 b461 (own_upd (own_upd (own_upd (fun _ => (0 : Int32)) 0 (49 : Int32)) 1 (46 : Int32)) 2 (nar .byte ((nar .char o452).toInt8.toInt32))) f_CS f_SF b456 T459.heap n0 Z459 F462 F463 F464 F467 F468 hn_CS F470 hr_f_SF) hZ (hwd 81 rfl) (hwd 14 rfl) (by decide) (by decide)) qq471a qq471c (g := (mkF m 274 #[vI p0, vI p1, vI p2, vJ q3, .second, vI v1, vR b456, vR b446, .unset, .unset, .unset, .unset, .unset] [(.int (0 : Int32)), (.ref b456)])) rfl (by rw [hml]; rfl) (Steps.refl _) (argsL := [(.int (0 : Int32))]) (rest := []) (lenOf pd_77 rfl) rfl (by show 2 * 0 + _ ≤ _; exact Nat.le_of_eq rfl) (hb hby at_274) (fun _ _ => ⟨rfl, eq469, (by decide : 3 + 0 ≤ _), (by decide : 10 + 0 ≤ _)⟩)
        dsimp only [Pt.U, Pt.locs, Pt.cells, Pt.slots] at X471 l471 y471 z471 st471 hQ471
        subst l471 y471 z471
        obtain ⟨rfl, Nq471, eq471⟩ := hQ471
        have N471 := Fr.app N469 Nq471
        refine own_by (fun _ k => st471.trans k) ?_
        have hz471 : (nar .char (nar .char ((((own_upd (own_upd (own_upd (fun _ => (0 : Int32)) 0 (49 : Int32)) 1 (46 : Int32)) 2 (nar .byte ((nar .char o452).toInt8.toInt32))) 0) &&& (255 : Int32)).toUInt32.toUInt16.toUInt32.toInt32))) = (49 : Int32) := by first | (simp [own_upd]; done) | (simp [own_upd]; decide)
        rw [hz471]
        show own_Go p e below _ (T471.setTop (mkF m 277 #[vI p0, vI p1, vI p2, vJ q3, .second, vI v1, vR b456, vR b446, .unset, .unset, .unset, .unset, .unset] [(.int (49 : Int32))]))
        refine own_by (fun _ k => XS.bipush X471.here hx rfl (hb hby at_277) k) ?_
        refine own_by (fun _ k => XS.icmpNo X471.here hx rfl (hb hby at_279) rfl (teq (by decide : (49 : Int32) = (49 : Int32))).2 k) ?_
        show own_Go p e below _ (T471.setTop (mkF m 282 #[vI p0, vI p1, vI p2, vJ q3, .second, vI v1, vR b456, vR b446, .unset, .unset, .unset, .unset, .unset] []))
        refine own_by (fun _ k => XS.aload X471.here hx rfl (hb hby at_282) rfl rfl k) ?_
        refine own_by (fun _ k => XS.iconst X471.here hx rfl (hb hby at_284) k) ?_
        obtain ⟨cq472, kq472, qq472a, qq472b, qq472c⟩ := isOf hZ eq471 F462
        obtain ⟨_, _, ⟨T472, L472, k472, n472⟩, -, X472, ⟨Lc472, hQ472, l472, y472, z472⟩, st472⟩ := X471.virtualBack hx (y := (⟨"java/lang/String", "charAt", "(I)C"⟩ : MethodName)) (z := (⟨"java/lang/String", "charAt", "(I)C"⟩ : MethodName)) hown (mvT hZ (hwd 77 rfl)) (mvT hZ (hwd 78 rfl)) (notFace_of_selects (args := #[]) (mvT hZ (hwd 80 rfl))) (mvT hZ (hwd 80 rfl)) (mvT hZ (hwd 79 rfl)) (by decide) (backOf (W := 0) (rmsca1 l Z A0 hw [] b460 b461 (own_upd (own_upd (own_upd (fun _ => (0 : Int32)) 0 (49 : Int32)) 1 (46 : Int32)) 2 (nar .byte ((nar .char o452).toInt8.toInt32))) f_CS f_SF b456 T459.heap n0 Z459 F462 F463 F464 F467 F468 hn_CS F470 hr_f_SF) hZ (hwd 81 rfl) (hwd 14 rfl) (by decide) (by decide)) qq472a qq472c (g := (mkF m 285 #[vI p0, vI p1, vI p2, vJ q3, .second, vI v1, vR b456, vR b446, .unset, .unset, .unset, .unset, .unset] [(.int (1 : Int32)), (.ref b456)])) rfl (by rw [hml]; rfl) (Steps.refl _) (argsL := [(.int (1 : Int32))]) (rest := []) (lenOf pd_77 rfl) rfl (by show 2 * 0 + _ ≤ _; exact Nat.le_of_eq rfl) (hb hby at_285) (fun _ _ => ⟨rfl, eq471, (by decide : 3 + 0 ≤ _), (by decide : 10 + 0 ≤ _)⟩)
        dsimp only [Pt.U, Pt.locs, Pt.cells, Pt.slots] at X472 l472 y472 z472 st472 hQ472
        subst l472 y472 z472
        obtain ⟨rfl, Nq472, eq472⟩ := hQ472
        have N472 := Fr.app N471 Nq472
        refine own_by (fun _ k => st472.trans k) ?_
        have hz472 : (nar .char (nar .char ((((own_upd (own_upd (own_upd (fun _ => (0 : Int32)) 0 (49 : Int32)) 1 (46 : Int32)) 2 (nar .byte ((nar .char o452).toInt8.toInt32))) 1) &&& (255 : Int32)).toUInt32.toUInt16.toUInt32.toInt32))) = (46 : Int32) := by first | (simp [own_upd]; done) | (simp [own_upd]; decide)
        rw [hz472]
        show own_Go p e below _ (T472.setTop (mkF m 288 #[vI p0, vI p1, vI p2, vJ q3, .second, vI v1, vR b456, vR b446, .unset, .unset, .unset, .unset, .unset] [(.int (46 : Int32))]))
        refine own_by (fun _ k => XS.bipush X472.here hx rfl (hb hby at_288) k) ?_
        refine own_by (fun _ k => XS.icmpNo X472.here hx rfl (hb hby at_290) rfl (teq (by decide : (46 : Int32) = (46 : Int32))).2 k) ?_
        show own_Go p e below _ (T472.setTop (mkF m 293 #[vI p0, vI p1, vI p2, vJ q3, .second, vI v1, vR b456, vR b446, .unset, .unset, .unset, .unset, .unset] []))
        refine own_by (fun _ k => XS.aload X472.here hx rfl (hb hby at_293) rfl rfl k) ?_
        refine own_by (fun _ k => XS.iconst X472.here hx rfl (hb hby at_295) k) ?_
        obtain ⟨cq473, kq473, qq473a, qq473b, qq473c⟩ := isOf hZ eq472 F462
        obtain ⟨_, _, ⟨T473, L473, k473, n473⟩, -, X473, ⟨Lc473, hQ473, l473, y473, z473⟩, st473⟩ := X472.virtualBack hx (y := (⟨"java/lang/String", "charAt", "(I)C"⟩ : MethodName)) (z := (⟨"java/lang/String", "charAt", "(I)C"⟩ : MethodName)) hown (mvT hZ (hwd 77 rfl)) (mvT hZ (hwd 78 rfl)) (notFace_of_selects (args := #[]) (mvT hZ (hwd 80 rfl))) (mvT hZ (hwd 80 rfl)) (mvT hZ (hwd 79 rfl)) (by decide) (backOf (W := 0) (rmsca2 l Z A0 hw [] b460 b461 (own_upd (own_upd (own_upd (fun _ => (0 : Int32)) 0 (49 : Int32)) 1 (46 : Int32)) 2 (nar .byte ((nar .char o452).toInt8.toInt32))) f_CS f_SF b456 T459.heap n0 Z459 F462 F463 F464 F467 F468 hn_CS F470 hr_f_SF) hZ (hwd 81 rfl) (hwd 14 rfl) (by decide) (by decide)) qq473a qq473c (g := (mkF m 296 #[vI p0, vI p1, vI p2, vJ q3, .second, vI v1, vR b456, vR b446, .unset, .unset, .unset, .unset, .unset] [(.int (2 : Int32)), (.ref b456)])) rfl (by rw [hml]; rfl) (Steps.refl _) (argsL := [(.int (2 : Int32))]) (rest := []) (lenOf pd_77 rfl) rfl (by show 2 * 0 + _ ≤ _; exact Nat.le_of_eq rfl) (hb hby at_296) (fun _ _ => ⟨rfl, eq472, (by decide : 3 + 0 ≤ _), (by decide : 10 + 0 ≤ _)⟩)
        dsimp only [Pt.U, Pt.locs, Pt.cells, Pt.slots] at X473 l473 y473 z473 st473 hQ473
        subst l473 y473 z473
        obtain ⟨rfl, Nq473, eq473⟩ := hQ473
        have N473 := Fr.app N472 Nq473
        refine own_by (fun _ k => st473.trans k) ?_
        show own_Go p e below _ (T473.setTop (mkF m 299 #[vI p0, vI p1, vI p2, vJ q3, .second, vI v1, vR b456, vR b446, .unset, .unset, .unset, .unset, .unset] [(.int (nar .char (nar .char (((nar .byte ((nar .char o452).toInt8.toInt32)) &&& (255 : Int32)).toUInt32.toUInt16.toUInt32.toInt32))))]))
        refine own_by (fun _ k => XS.bipush X473.here hx rfl (hb hby at_299) k) ?_
        have J475 : ∀ (T476 : State) (L477 : List Loc) (z481 : Int32), Stand p l e room_1 (s.setVm s.vm) m #[(.int p0), (.int p1), (.int p2), (.long q3)] below meth c T476 L477 3 10 → T476.heap = T459.heap → Fr n0 L477 → ((((nar .char (nar .char (((nar .byte ((nar .char o452).toInt8.toInt32)) &&& (255 : Int32)).toUInt32.toUInt16.toUInt32.toInt32))) = (49 : Int32)) ∧ z481 = (1 : Int32)) ∨ ((¬ ((nar .char (nar .char (((nar .byte ((nar .char o452).toInt8.toInt32)) &&& (255 : Int32)).toUInt32.toUInt16.toUInt32.toInt32))) = (49 : Int32))) ∧ z481 = (0 : Int32))) → own_Go p e below (own_FinW Z consts_1 s 24 4224 (Q0 Z f_CS f_SF p0 p1 p2 q3 h0 n0)) (T476.setTop (mkF m 309 #[vI p0, vI p1, vI p2, vJ q3, .second, vI v1, vR b456, vR b446, .unset, .unset, .unset, .unset, .unset] [(.int z481)])) := by
         intro T476 L477 z481 X478 e479 N480 hj482
         refine own_by (fun _ k => XS.istore X478.here hx rfl (hb hby at_309) rfl (l' := #[vI p0, vI p1, vI p2, vJ q3, .second, vI v1, vR b456, vI z481, .unset, .unset, .unset, .unset, .unset]) rfl k) ?_
         show own_Go p e below _ (T476.setTop (mkF m 311 #[vI p0, vI p1, vI p2, vJ q3, .second, vI v1, vR b456, vI z481, .unset, .unset, .unset, .unset, .unset] []))
         refine own_by (fun _ k => XS.iloadN X478.here hx rfl (hb hby at_311) rfl k) ?_
         refine own_by (fun _ k => XS.bipush X478.here hx rfl (hb hby at_312) k) ?_
         refine own_by (fun _ k => XS.iand X478.here hx rfl (hb hby at_314) rfl k) ?_
         show own_Go p e below _ (T476.setTop (mkF m 315 #[vI p0, vI p1, vI p2, vJ q3, .second, vI v1, vR b456, vI z481, .unset, .unset, .unset, .unset, .unset] [(.int (p1 &&& (7 : Int32)))]))
         refine own_by (fun _ k => XS.istore X478.here hx rfl (hb hby at_315) rfl (l' := #[vI p0, vI p1, vI p2, vJ q3, .second, vI v1, vR b456, vI z481, vI (p1 &&& (7 : Int32)), .unset, .unset, .unset, .unset]) rfl k) ?_
         show own_Go p e below _ (T476.setTop (mkF m 317 #[vI p0, vI p1, vI p2, vJ q3, .second, vI v1, vR b456, vI z481, vI (p1 &&& (7 : Int32)), .unset, .unset, .unset, .unset] []))
         generalize hv483 : (p1 &&& (7 : Int32)) = v483
         show own_Go p e below _ (T476.setTop (mkF m 317 #[vI p0, vI p1, vI p2, vJ q3, .second, vI v1, vR b456, vI z481, vI v483, .unset, .unset, .unset, .unset] []))
         refine own_by (fun _ k => XS.iload X478.here hx rfl (hb hby at_317) rfl k) ?_
         have J491 : ∀ (T492 : State) (L493 : List Loc) (z497 : Int32), Stand p l e room_1 (s.setVm s.vm) m #[(.int p0), (.int p1), (.int p2), (.long q3)] below meth c T492 L493 3 10 → T492.heap = T459.heap → Fr n0 L493 → (((v483 = (0 : Int32)) ∧ z497 = (13 : Int32)) ∨ ((¬ (v483 = (0 : Int32))) ∧ (v483 = (1 : Int32)) ∧ z497 = (10 : Int32)) ∨ ((¬ (v483 = (0 : Int32))) ∧ (¬ (v483 = (1 : Int32))) ∧ (v483 = (2 : Int32)) ∧ z497 = (133 : Int32)) ∨ ((¬ (v483 = (0 : Int32))) ∧ (¬ (v483 = (1 : Int32))) ∧ (¬ (v483 = (2 : Int32))) ∧ (v483 = (3 : Int32)) ∧ z497 = (8232 : Int32)) ∨ ((¬ (v483 = (0 : Int32))) ∧ (¬ (v483 = (1 : Int32))) ∧ (¬ (v483 = (2 : Int32))) ∧ (¬ (v483 = (3 : Int32))) ∧ (v483 = (4 : Int32)) ∧ z497 = (8233 : Int32)) ∨ ((¬ (v483 = (0 : Int32))) ∧ (¬ (v483 = (1 : Int32))) ∧ (¬ (v483 = (2 : Int32))) ∧ (¬ (v483 = (3 : Int32))) ∧ (¬ (v483 = (4 : Int32))) ∧ (v483 = (5 : Int32)) ∧ z497 = (12 : Int32)) ∨ (∃ (v490 : Int32), (¬ (v483 = (0 : Int32))) ∧ (¬ (v483 = (1 : Int32))) ∧ (¬ (v483 = (2 : Int32))) ∧ (¬ (v483 = (3 : Int32))) ∧ (¬ (v483 = (4 : Int32))) ∧ (¬ (v483 = (5 : Int32))) ∧ ((p2 &&& (65535 : Int32)) = v490) ∧ z497 = v490)) → own_Go p e below (own_FinW Z consts_1 s 24 4224 (Q0 Z f_CS f_SF p0 p1 p2 q3 h0 n0)) (T492.setTop (mkF m 403 #[vI p0, vI p1, vI p2, vJ q3, .second, vI v1, vR b456, vI z481, vI v483, vI z497, .unset, .unset, .unset] [])) := by
          intro T492 L493 z497 X494 e495 N496 hj498
          refine own_by (fun _ k => XS.iload X494.here hx rfl (hb hby at_403) rfl k) ?_
          refine own_by (fun _ k => XS.i2c X494.here hx rfl (hb hby at_405) rfl k) ?_
          show own_Go p e below _ (T492.setTop (mkF m 406 #[vI p0, vI p1, vI p2, vJ q3, .second, vI v1, vR b456, vI z481, vI v483, vI z497, .unset, .unset, .unset] [(.int (z497.toUInt32.toUInt16.toUInt32.toInt32))]))
          refine own_by (fun _ k => XS.istore X494.here hx rfl (hb hby at_406) rfl (l' := #[vI p0, vI p1, vI p2, vJ q3, .second, vI v1, vR b456, vI z481, vI v483, vI z497, vI (z497.toUInt32.toUInt16.toUInt32.toInt32), .unset, .unset]) rfl k) ?_
          show own_Go p e below _ (T492.setTop (mkF m 408 #[vI p0, vI p1, vI p2, vJ q3, .second, vI v1, vR b456, vI z481, vI v483, vI z497, vI (z497.toUInt32.toUInt16.toUInt32.toInt32), .unset, .unset] []))
          generalize hv499 : (z497.toUInt32.toUInt16.toUInt32.toInt32) = v499
          show own_Go p e below _ (T492.setTop (mkF m 408 #[vI p0, vI p1, vI p2, vJ q3, .second, vI v1, vR b456, vI z481, vI v483, vI z497, vI v499, .unset, .unset] []))
          refine own_by (fun _ k => XS.iload X494.here hx rfl (hb hby at_408) rfl k) ?_
          have J504 : ∀ (T505 : State) (L506 : List Loc) (z510 : Int32), Stand p l e room_1 (s.setVm s.vm) m #[(.int p0), (.int p1), (.int p2), (.long q3)] below meth c T505 L506 3 10 → T505.heap = T459.heap → Fr n0 L506 → (((z497 = (10 : Int32)) ∧ z510 = (1 : Int32)) ∨ ((¬ (z497 = (10 : Int32))) ∧ (z497 = (13 : Int32)) ∧ z510 = (1 : Int32)) ∨ ((¬ (z497 = (10 : Int32))) ∧ (¬ (z497 = (13 : Int32))) ∧ (z497 = (133 : Int32)) ∧ z510 = z481) ∨ ((¬ (z497 = (10 : Int32))) ∧ (¬ (z497 = (13 : Int32))) ∧ (¬ (z497 = (133 : Int32))) ∧ (z497 = (8232 : Int32)) ∧ z510 = z481) ∨ ((¬ (z497 = (10 : Int32))) ∧ (¬ (z497 = (13 : Int32))) ∧ (¬ (z497 = (133 : Int32))) ∧ (¬ (z497 = (8232 : Int32))) ∧ z510 = (0 : Int32))) → own_Go p e below (own_FinW Z consts_1 s 24 4224 (Q0 Z f_CS f_SF p0 p1 p2 q3 h0 n0)) (T505.setTop (mkF m 468 #[vI p0, vI p1, vI p2, vJ q3, .second, vI v1, vR b456, vI z481, vI v483, vI z497, vI v499, vI z510, .unset] [])) := by
           intro T505 L506 z510 X507 e508 N509 hj511
           obtain ⟨T512, h512, X512, e512, E512, A512, D512, -, st512⟩ := newO X507 hx hZ hown (hwd 0 rfl) (hwd 1 rfl) (hwd 2 rfl) e508 (g := (mkF m 468 #[vI p0, vI p1, vI p2, vJ q3, .second, vI v1, vR b456, vI z481, vI v483, vI z497, vI v499, vI z510, .unset] [])) rfl (hb hby at_468) (by decide) (by decide)
           obtain ⟨b512, g512⟩ : ∃ z, z = T459.heap.size := ⟨_, rfl⟩
           have ge_b512 : n0 ≤ b512 := Nat.le_trans Z459 (Nat.le_of_eq g512.symm)
           have sz_b512 : h0.size ≤ b512 := Nat.le_trans K459.1 (Nat.le_of_eq g512.symm)
           have R512 : CHr Z consts_1 s.vm T459.heap s.vm h512 := CHr.ext E512 CR459.1
           have CR512 : CHr Z consts_1 s.vm h0 s.vm h512 := CR459.trans R512
           have hk512 : kc0 ≤ h512.size := Nat.le_trans hk459 E512.1
           have S_b512 : Safe Z consts_1 s.vm h512 b512 := Safe.ext E512 CR459.1 (Safe.new (Nat.le_of_eq g512.symm))
           have K512 : Keep h0 h512 [] := K459.ext E512
           have Z512 : n0 ≤ h512.size := Nat.le_trans Z459 E512.1
           rw [← g512] at A512 D512 st512
           have lt_b512 := A512.lt
           have F_line_b512 : Fld Z h512 b512 "com/example/margay/margay/index/LineCounter" "line" "I" (.int (0 : Int32)) := D512 (Or.inl (hwd 10 rfl)) (ty := .int) (by decide)
           have F_column_b512 : Fld Z h512 b512 "com/example/margay/margay/index/LineCounter" "column" "I" (.int (0 : Int32)) := D512 (Or.inl (hwd 12 rfl)) (ty := .int) (by decide)
           have F_xml11_b512 : Fld Z h512 b512 "com/example/margay/margay/index/LineCounter" "xml11" "Z" (.int (0 : Int32)) := D512 (Or.inr (hwd 27 rfl)) (ty := .boolean) (by decide)
           refine own_by st512 ?_
           show own_Go p e below _ (T512.setTop (mkF m 471 #[vI p0, vI p1, vI p2, vJ q3, .second, vI v1, vR b456, vI z481, vI v483, vI z497, vI v499, vI z510, .unset] [(.ref b512)]))
           refine own_by (fun _ k => XS.dup X512.here hx rfl (hb hby at_471) rfl rfl k) ?_
           show own_Go p e below _ (T512.setTop (mkF m 472 #[vI p0, vI p1, vI p2, vJ q3, .second, vI v1, vR b456, vI z481, vI v483, vI z497, vI v499, vI z510, .unset] [(.ref b512), (.ref b512)]))
           refine own_by (fun _ k => XS.aload X512.here hx rfl (hb hby at_472) rfl rfl k) ?_
           have F513 : Exa Z h512 b456 "java/lang/String" := (F462.ext E512)
           have F514 : Fld Z h512 b456 "java/lang/String" "coder" "B" (.int (0 : Int32)) := (F463.ext E512)
           have F515 : Fld Z h512 b456 "java/lang/String" "value" "[B" (.ref b460) := (F464.ext E512)
           have F516 : own_Arf Z h512 b460 b461 .byte (3 : Int32) (fun i => .int ((own_upd (own_upd (own_upd (fun _ => (0 : Int32)) 0 (49 : Int32)) 1 (46 : Int32)) 2 (nar .byte ((nar .char o452).toInt8.toInt32))) i)) := (F467.ext E512)
           have F517 : Sta Z h512 "java/lang/String" "COMPACT_STRINGS" "Z" (.int f_CS) := (F468.ext E512)
           obtain ⟨_, _, ⟨T518, L518, k518, n518⟩, -, X518', hSq518, hgr518, ⟨Lc518, hQ518, l518, y518, z518, R518⟩, st518⟩ := X512.specialBackS hx (y := (⟨"com/example/margay/margay/index/LineCounter", "<init>", "(Ljava/lang/String;)V"⟩ : MethodName)) rfl hown (mvT hZ (hwd 3 rfl)) (mvT hZ (hwd 4 rfl)) (mvT hZ (hwd 5 rfl)) (by decide) (backOfSH (W := 1) (rmlcR3 l Z A0 hw [] b460 b461 (own_upd (own_upd (own_upd (fun _ => (0 : Int32)) 0 (49 : Int32)) 1 (46 : Int32)) 2 (nar .byte ((nar .char o452).toInt8.toInt32))) f_CS b512 b456 (0 : Int32) (0 : Int32) (0 : Int32) h512 n0 Z512 F513 F514 F515 F516 F517 hn_CS A512 F_line_b512 ge_b512 F_column_b512 F_xml11_b512) hZ (hwd 5 rfl) (hwd 2 rfl) (by decide) (by decide) hEL CR512.1) (g := (mkF m 474 #[vI p0, vI p1, vI p2, vJ q3, .second, vI v1, vR b456, vI z481, vI v483, vI z497, vI v499, vI z510, .unset] [(.ref b456), (.ref b512), (.ref b512)])) rfl (by rw [hml]; rfl) (Steps.refl _) (a := b512) (argsL := [(.ref b456)]) (rest := [(.ref b512)]) (lenOf pd_3 rfl) rfl (by show 2 * 0 + _ ≤ _; exact Nat.le_of_eq rfl) (hb hby at_474) (fun _ _ => ⟨rfl, e512, (by decide : 4 + 2 ≤ _), (by decide : 14 + 16 ≤ _)⟩)
           dsimp only [Pt.U, Pt.locs, Pt.cells, Pt.slots] at X518' l518 y518 z518 st518 hQ518 hSq518 hgr518 R518
           subst l518 y518 z518
           obtain ⟨X518, hS, hZ, hown⟩ := rebS hS (by rw [e512]; exact hk512) X518' hSq518 hgr518 hZ hown
           obtain ⟨kc518, hkc518⟩ : ∃ z, z = T518.heap.size := ⟨_, rfl⟩
           rw [← hkc518] at hS
           have hk518 : kc518 ≤ T518.heap.size := Nat.le_of_eq hkc518
           have CR518 : CHr Z consts_1 s.vm h0 T518.vm T518.heap := CR512.trans R518
           obtain ⟨o519, rfl, Nq518, Kq518, F520, F521, F522, F523, hp524⟩ := hQ518
           have N518 := Fr.app N509 Nq518
           have K518 : Keep h0 T518.heap [] := K512.trans Kq518 ((allS (Or.inr sz_b512) all0))
           have Z518 : n0 ≤ T518.heap.size := Nat.le_trans Z512 Kq518.1
           refine own_by (fun _ k => st518.trans k) ?_
           show own_Go p e below _ (T518.setTop (mkF m 477 #[vI p0, vI p1, vI p2, vJ q3, .second, vI v1, vR b456, vI z481, vI v483, vI z497, vI v499, vI z510, .unset] [(.ref b512)]))
           refine own_by (fun _ k => XS.astore X518.here hx rfl (hb hby at_477) rfl rfl (l' := #[vI p0, vI p1, vI p2, vJ q3, .second, vI v1, vR b456, vI z481, vI v483, vI z497, vI v499, vI z510, vR b512]) rfl k) ?_
           show own_Go p e below _ (T518.setTop (mkF m 479 #[vI p0, vI p1, vI p2, vJ q3, .second, vI v1, vR b456, vI z481, vI v483, vI z497, vI v499, vI z510, vR b512] []))
           refine own_by (fun _ k => XS.aload X518.here hx rfl (hb hby at_479) rfl rfl k) ?_
           refine own_by (fun _ k => XS.iload X518.here hx rfl (hb hby at_481) rfl k) ?_
           obtain ⟨cq525, kq525, qq525a, qq525b, qq525c⟩ := isOf hZ rfl F520
           obtain ⟨_, _, ⟨T525, L525, k525, n525⟩, -, X525, ⟨Lc525, hQ525, l525, y525, z525⟩, st525⟩ := X518.virtualBack hx (y := (⟨"com/example/margay/margay/index/LineCounter", "endsLine", "(C)Z"⟩ : MethodName)) (z := (⟨"com/example/margay/margay/index/LineCounter", "endsLine", "(C)Z"⟩ : MethodName)) hown (mvT hZ (hwd 28 rfl)) (mvT hZ (hwd 29 rfl)) (notFace_of_selects (args := #[]) (mvT hZ (hwd 31 rfl))) (mvT hZ (hwd 31 rfl)) (mvT hZ (hwd 30 rfl)) (by decide) (backOf (W := 0) (rm4 l Z A0 hw [] b512 v499 o519 T518.heap n0 Z518 F523) hZ (hwd 32 rfl) (hwd 2 rfl) (by decide) (by decide)) qq525a qq525c (g := (mkF m 483 #[vI p0, vI p1, vI p2, vJ q3, .second, vI v1, vR b456, vI z481, vI v483, vI z497, vI v499, vI z510, vR b512] [(.int v499), (.ref b512)])) rfl (by rw [hml]; rfl) (Steps.refl _) (argsL := [(.int v499)]) (rest := []) (lenOf pd_28 rfl) rfl (by show 2 * 0 + _ ≤ _; exact Nat.le_of_eq rfl) (hb hby at_483) (fun _ _ => ⟨rfl, rfl, (by decide : 6 + 0 ≤ _), (by decide : 30 + 0 ≤ _)⟩)
           dsimp only [Pt.U, Pt.locs, Pt.cells, Pt.slots] at X525 l525 y525 z525 st525 hQ525
           subst l525 y525 z525
           obtain ⟨o526, rfl, Nq525, eq525, hp527⟩ := hQ525
           have N525 := Fr.app N518 Nq525
           refine own_by (fun _ k => st525.trans k) ?_
           show own_Go p e below _ (T525.setTop (mkF m 486 #[vI p0, vI p1, vI p2, vJ q3, .second, vI v1, vR b456, vI z481, vI v483, vI z497, vI v499, vI z510, vR b512] [(.int o526)]))
           refine own_by (fun _ k => XS.iload X525.here hx rfl (hb hby at_486) rfl k) ?_
           by_cases c528 : o526 = z510
           ·skip
            refine own_by (fun _ k => XS.icmpNo X525.here hx rfl (hb hby at_488) rfl (teq c528).2 k) ?_
            show own_Go p e below _ (T525.setTop (mkF m 491 #[vI p0, vI p1, vI p2, vJ q3, .second, vI v1, vR b456, vI z481, vI v483, vI z497, vI v499, vI z510, vR b512] []))
            refine own_by (fun _ k => XS.iconst X525.here hx rfl (hb hby at_491) k) ?_
            refine own_by (fun _ k => XS.goto X525.here hx rfl (pc0 := 492) (pc' := 496) rfl (hb hby at_492) (by decide) (by decide) k) ?_
            show own_Go p e below _ (T525.setTop (mkF m 496 #[vI p0, vI p1, vI p2, vJ q3, .second, vI v1, vR b456, vI z481, vI v483, vI z497, vI v499, vI z510, vR b512] [(.int (1 : Int32))]))
            exact own_retNW X525 hx hS hk518 hZ hEL hh CR518 (t := .boolean) Bd.returns (by simp) (hb hby at_496) hlk eq525 ⟨rfl, N525⟩ (by decide) (by decide)
           ·skip
            refine own_by (fun _ k => XS.icmpYes X525.here hx rfl (pc0 := 488) (pc' := 495) rfl (hb hby at_488) rfl (feq c528).2 (by decide) (by decide) k) ?_
            show own_Go p e below _ (T525.setTop (mkF m 495 #[vI p0, vI p1, vI p2, vJ q3, .second, vI v1, vR b456, vI z481, vI v483, vI z497, vI v499, vI z510, vR b512] []))
            refine own_by (fun _ k => XS.iconst X525.here hx rfl (hb hby at_495) k) ?_
            exact own_retNW X525 hx hS hk518 hZ hEL hh CR518 (t := .boolean) Bd.returns (by simp) (hb hby at_496) hlk eq525 ⟨((ob_0_40 f_CS f_SF p0 p1 p2 v1 o452 z481 v483 z497 v499 z510 o519 o526 hn_CS hr_f_SF hv1 c2 c42 c96 c150 c200 c272 c364 hp453 hj482 hv483 hj498 hv499 hj511 hp524 hp527 c528)).elim, N525⟩ (by decide) (by decide)
          by_cases c500 : z497 = (10 : Int32)
          ·skip
           refine own_by (fun t q => X494.lookupswitchHit hx (g := (mkF m 410 #[vI p0, vI p1, vI p2, vJ q3, .second, vI v1, vR b456, vI z481, vI v483, vI z497, vI v499, .unset, .unset] [(.int z497)])) rfl (k := z497) rfl (hb hby at_410) (by decide) (a := 10) (off := 42) (by rw [c500]; rfl) (show (0 : Int) ≤ (410 : Int) + 42 by decide) t q) ?_
           show own_Go p e below _ (T492.setTop (mkF m 452 #[vI p0, vI p1, vI p2, vJ q3, .second, vI v1, vR b456, vI z481, vI v483, vI z497, vI v499, .unset, .unset] []))
           refine own_by (fun _ k => XS.iconst X494.here hx rfl (hb hby at_452) k) ?_
           refine own_by (fun _ k => XS.istore X494.here hx rfl (hb hby at_453) rfl (l' := #[vI p0, vI p1, vI p2, vJ q3, .second, vI v1, vR b456, vI z481, vI v483, vI z497, vI v499, vI (1 : Int32), .unset]) rfl k) ?_
           show own_Go p e below _ (T492.setTop (mkF m 455 #[vI p0, vI p1, vI p2, vJ q3, .second, vI v1, vR b456, vI z481, vI v483, vI z497, vI v499, vI (1 : Int32), .unset] []))
           refine own_by (fun _ k => XS.goto X494.here hx rfl (pc0 := 455) (pc' := 468) rfl (hb hby at_455) (by decide) (by decide) k) ?_
           show own_Go p e below _ (T492.setTop (mkF m 468 #[vI p0, vI p1, vI p2, vJ q3, .second, vI v1, vR b456, vI z481, vI v483, vI z497, vI v499, vI (1 : Int32), .unset] []))
           exact J504 _ _ (1 : Int32) X494 e495 N496 (Or.inl ⟨c500, rfl⟩)
          ·skip
           by_cases c501 : z497 = (13 : Int32)
           ·skip
            refine own_by (fun t q => X494.lookupswitchHit hx (g := (mkF m 410 #[vI p0, vI p1, vI p2, vJ q3, .second, vI v1, vR b456, vI z481, vI v483, vI z497, vI v499, .unset, .unset] [(.int z497)])) rfl (k := z497) rfl (hb hby at_410) (by decide) (a := 13) (off := 42) (by rw [c501]; rfl) (show (0 : Int) ≤ (410 : Int) + 42 by decide) t q) ?_
            show own_Go p e below _ (T492.setTop (mkF m 452 #[vI p0, vI p1, vI p2, vJ q3, .second, vI v1, vR b456, vI z481, vI v483, vI z497, vI v499, .unset, .unset] []))
            refine own_by (fun _ k => XS.iconst X494.here hx rfl (hb hby at_452) k) ?_
            refine own_by (fun _ k => XS.istore X494.here hx rfl (hb hby at_453) rfl (l' := #[vI p0, vI p1, vI p2, vJ q3, .second, vI v1, vR b456, vI z481, vI v483, vI z497, vI v499, vI (1 : Int32), .unset]) rfl k) ?_
            show own_Go p e below _ (T492.setTop (mkF m 455 #[vI p0, vI p1, vI p2, vJ q3, .second, vI v1, vR b456, vI z481, vI v483, vI z497, vI v499, vI (1 : Int32), .unset] []))
            refine own_by (fun _ k => XS.goto X494.here hx rfl (pc0 := 455) (pc' := 468) rfl (hb hby at_455) (by decide) (by decide) k) ?_
            show own_Go p e below _ (T492.setTop (mkF m 468 #[vI p0, vI p1, vI p2, vJ q3, .second, vI v1, vR b456, vI z481, vI v483, vI z497, vI v499, vI (1 : Int32), .unset] []))
            exact J504 _ _ (1 : Int32) X494 e495 N496 (Or.inr (Or.inl ⟨c500, c501, rfl⟩))
           ·skip
            by_cases c502 : z497 = (133 : Int32)
            ·skip
             refine own_by (fun t q => X494.lookupswitchHit hx (g := (mkF m 410 #[vI p0, vI p1, vI p2, vJ q3, .second, vI v1, vR b456, vI z481, vI v483, vI z497, vI v499, .unset, .unset] [(.int z497)])) rfl (k := z497) rfl (hb hby at_410) (by decide) (a := 133) (off := 48) (by rw [c502]; rfl) (show (0 : Int) ≤ (410 : Int) + 48 by decide) t q) ?_
             show own_Go p e below _ (T492.setTop (mkF m 458 #[vI p0, vI p1, vI p2, vJ q3, .second, vI v1, vR b456, vI z481, vI v483, vI z497, vI v499, .unset, .unset] []))
             refine own_by (fun _ k => XS.iload X494.here hx rfl (hb hby at_458) rfl k) ?_
             refine own_by (fun _ k => XS.istore X494.here hx rfl (hb hby at_460) rfl (l' := #[vI p0, vI p1, vI p2, vJ q3, .second, vI v1, vR b456, vI z481, vI v483, vI z497, vI v499, vI z481, .unset]) rfl k) ?_
             show own_Go p e below _ (T492.setTop (mkF m 462 #[vI p0, vI p1, vI p2, vJ q3, .second, vI v1, vR b456, vI z481, vI v483, vI z497, vI v499, vI z481, .unset] []))
             refine own_by (fun _ k => XS.goto X494.here hx rfl (pc0 := 462) (pc' := 468) rfl (hb hby at_462) (by decide) (by decide) k) ?_
             show own_Go p e below _ (T492.setTop (mkF m 468 #[vI p0, vI p1, vI p2, vJ q3, .second, vI v1, vR b456, vI z481, vI v483, vI z497, vI v499, vI z481, .unset] []))
             exact J504 _ _ z481 X494 e495 N496 (Or.inr (Or.inr (Or.inl ⟨c500, c501, c502, rfl⟩)))
            ·skip
             by_cases c503 : z497 = (8232 : Int32)
             ·skip
              refine own_by (fun t q => X494.lookupswitchHit hx (g := (mkF m 410 #[vI p0, vI p1, vI p2, vJ q3, .second, vI v1, vR b456, vI z481, vI v483, vI z497, vI v499, .unset, .unset] [(.int z497)])) rfl (k := z497) rfl (hb hby at_410) (by decide) (a := 8232) (off := 48) (by rw [c503]; rfl) (show (0 : Int) ≤ (410 : Int) + 48 by decide) t q) ?_
              show own_Go p e below _ (T492.setTop (mkF m 458 #[vI p0, vI p1, vI p2, vJ q3, .second, vI v1, vR b456, vI z481, vI v483, vI z497, vI v499, .unset, .unset] []))
              refine own_by (fun _ k => XS.iload X494.here hx rfl (hb hby at_458) rfl k) ?_
              refine own_by (fun _ k => XS.istore X494.here hx rfl (hb hby at_460) rfl (l' := #[vI p0, vI p1, vI p2, vJ q3, .second, vI v1, vR b456, vI z481, vI v483, vI z497, vI v499, vI z481, .unset]) rfl k) ?_
              show own_Go p e below _ (T492.setTop (mkF m 462 #[vI p0, vI p1, vI p2, vJ q3, .second, vI v1, vR b456, vI z481, vI v483, vI z497, vI v499, vI z481, .unset] []))
              refine own_by (fun _ k => XS.goto X494.here hx rfl (pc0 := 462) (pc' := 468) rfl (hb hby at_462) (by decide) (by decide) k) ?_
              show own_Go p e below _ (T492.setTop (mkF m 468 #[vI p0, vI p1, vI p2, vJ q3, .second, vI v1, vR b456, vI z481, vI v483, vI z497, vI v499, vI z481, .unset] []))
              exact J504 _ _ z481 X494 e495 N496 (Or.inr (Or.inr (Or.inr (Or.inl ⟨c500, c501, c502, c503, rfl⟩))))
             ·skip
              refine own_by (fun t q => X494.lookupswitchMiss hx (g := (mkF m 410 #[vI p0, vI p1, vI p2, vJ q3, .second, vI v1, vR b456, vI z481, vI v483, vI z497, vI v499, .unset, .unset] [(.int z497)])) rfl (k := z497) rfl (hb hby at_410) (by decide) (by simp [own_swn z497 (a := (10 : Int32)) (A := 10) rfl c500, own_swn z497 (a := (13 : Int32)) (A := 13) rfl c501, own_swn z497 (a := (133 : Int32)) (A := 133) rfl c502, own_swn z497 (a := (8232 : Int32)) (A := 8232) rfl c503]) (show (0 : Int) ≤ (410 : Int) + 55 by decide) t q) ?_
              show own_Go p e below _ (T492.setTop (mkF m 465 #[vI p0, vI p1, vI p2, vJ q3, .second, vI v1, vR b456, vI z481, vI v483, vI z497, vI v499, .unset, .unset] []))
              refine own_by (fun _ k => XS.iconst X494.here hx rfl (hb hby at_465) k) ?_
              refine own_by (fun _ k => XS.istore X494.here hx rfl (hb hby at_466) rfl (l' := #[vI p0, vI p1, vI p2, vJ q3, .second, vI v1, vR b456, vI z481, vI v483, vI z497, vI v499, vI (0 : Int32), .unset]) rfl k) ?_
              show own_Go p e below _ (T492.setTop (mkF m 468 #[vI p0, vI p1, vI p2, vJ q3, .second, vI v1, vR b456, vI z481, vI v483, vI z497, vI v499, vI (0 : Int32), .unset] []))
              exact J504 _ _ (0 : Int32) X494 e495 N496 (Or.inr (Or.inr (Or.inr (Or.inr (⟨c500, c501, c502, c503, rfl⟩)))))
         by_cases c484 : v483 = (0 : Int32)
         ·skip
          refine own_by (fun _ k => XS.ifNo X478.here hx rfl (hb hby at_319) rfl ((if0 _ _).trans (teq c484).2) k) ?_
          show own_Go p e below _ (T476.setTop (mkF m 322 #[vI p0, vI p1, vI p2, vJ q3, .second, vI v1, vR b456, vI z481, vI v483, .unset, .unset, .unset, .unset] []))
          refine own_by (fun _ k => XS.bipush X478.here hx rfl (hb hby at_322) k) ?_
          refine own_by (fun _ k => XS.istore X478.here hx rfl (hb hby at_324) rfl (l' := #[vI p0, vI p1, vI p2, vJ q3, .second, vI v1, vR b456, vI z481, vI v483, vI (13 : Int32), .unset, .unset, .unset]) rfl k) ?_
          show own_Go p e below _ (T476.setTop (mkF m 326 #[vI p0, vI p1, vI p2, vJ q3, .second, vI v1, vR b456, vI z481, vI v483, vI (13 : Int32), .unset, .unset, .unset] []))
          refine own_by (fun _ k => XS.goto X478.here hx rfl (pc0 := 326) (pc' := 403) rfl (hb hby at_326) (by decide) (by decide) k) ?_
          show own_Go p e below _ (T476.setTop (mkF m 403 #[vI p0, vI p1, vI p2, vJ q3, .second, vI v1, vR b456, vI z481, vI v483, vI (13 : Int32), .unset, .unset, .unset] []))
          exact J491 _ _ (13 : Int32) X478 e479 N480 (Or.inl ⟨c484, rfl⟩)
         ·skip
          refine own_by (fun _ k => XS.ifYes X478.here hx rfl (pc0 := 319) (pc' := 329) rfl (hb hby at_319) rfl ((if0 _ _).trans (feq c484).2) (by decide) (by decide) k) ?_
          show own_Go p e below _ (T476.setTop (mkF m 329 #[vI p0, vI p1, vI p2, vJ q3, .second, vI v1, vR b456, vI z481, vI v483, .unset, .unset, .unset, .unset] []))
          refine own_by (fun _ k => XS.iload X478.here hx rfl (hb hby at_329) rfl k) ?_
          refine own_by (fun _ k => XS.iconst X478.here hx rfl (hb hby at_331) k) ?_
          by_cases c485 : v483 = (1 : Int32)
          ·skip
           refine own_by (fun _ k => XS.icmpNo X478.here hx rfl (hb hby at_332) rfl (teq c485).2 k) ?_
           show own_Go p e below _ (T476.setTop (mkF m 335 #[vI p0, vI p1, vI p2, vJ q3, .second, vI v1, vR b456, vI z481, vI v483, .unset, .unset, .unset, .unset] []))
           refine own_by (fun _ k => XS.bipush X478.here hx rfl (hb hby at_335) k) ?_
           refine own_by (fun _ k => XS.istore X478.here hx rfl (hb hby at_337) rfl (l' := #[vI p0, vI p1, vI p2, vJ q3, .second, vI v1, vR b456, vI z481, vI v483, vI (10 : Int32), .unset, .unset, .unset]) rfl k) ?_
           show own_Go p e below _ (T476.setTop (mkF m 339 #[vI p0, vI p1, vI p2, vJ q3, .second, vI v1, vR b456, vI z481, vI v483, vI (10 : Int32), .unset, .unset, .unset] []))
           refine own_by (fun _ k => XS.goto X478.here hx rfl (pc0 := 339) (pc' := 403) rfl (hb hby at_339) (by decide) (by decide) k) ?_
           show own_Go p e below _ (T476.setTop (mkF m 403 #[vI p0, vI p1, vI p2, vJ q3, .second, vI v1, vR b456, vI z481, vI v483, vI (10 : Int32), .unset, .unset, .unset] []))
           exact J491 _ _ (10 : Int32) X478 e479 N480 (Or.inr (Or.inl ⟨c484, c485, rfl⟩))
          ·skip
           refine own_by (fun _ k => XS.icmpYes X478.here hx rfl (pc0 := 332) (pc' := 342) rfl (hb hby at_332) rfl (feq c485).2 (by decide) (by decide) k) ?_
           show own_Go p e below _ (T476.setTop (mkF m 342 #[vI p0, vI p1, vI p2, vJ q3, .second, vI v1, vR b456, vI z481, vI v483, .unset, .unset, .unset, .unset] []))
           refine own_by (fun _ k => XS.iload X478.here hx rfl (hb hby at_342) rfl k) ?_
           refine own_by (fun _ k => XS.iconst X478.here hx rfl (hb hby at_344) k) ?_
           by_cases c486 : v483 = (2 : Int32)
           ·skip
            refine own_by (fun _ k => XS.icmpNo X478.here hx rfl (hb hby at_345) rfl (teq c486).2 k) ?_
            show own_Go p e below _ (T476.setTop (mkF m 348 #[vI p0, vI p1, vI p2, vJ q3, .second, vI v1, vR b456, vI z481, vI v483, .unset, .unset, .unset, .unset] []))
            refine own_by (fun _ k => XS.sipush X478.here hx rfl (hb hby at_348) k) ?_
            refine own_by (fun _ k => XS.istore X478.here hx rfl (hb hby at_351) rfl (l' := #[vI p0, vI p1, vI p2, vJ q3, .second, vI v1, vR b456, vI z481, vI v483, vI (133 : Int32), .unset, .unset, .unset]) rfl k) ?_
            show own_Go p e below _ (T476.setTop (mkF m 353 #[vI p0, vI p1, vI p2, vJ q3, .second, vI v1, vR b456, vI z481, vI v483, vI (133 : Int32), .unset, .unset, .unset] []))
            refine own_by (fun _ k => XS.goto X478.here hx rfl (pc0 := 353) (pc' := 403) rfl (hb hby at_353) (by decide) (by decide) k) ?_
            show own_Go p e below _ (T476.setTop (mkF m 403 #[vI p0, vI p1, vI p2, vJ q3, .second, vI v1, vR b456, vI z481, vI v483, vI (133 : Int32), .unset, .unset, .unset] []))
            exact J491 _ _ (133 : Int32) X478 e479 N480 (Or.inr (Or.inr (Or.inl ⟨c484, c485, c486, rfl⟩)))
           ·skip
            refine own_by (fun _ k => XS.icmpYes X478.here hx rfl (pc0 := 345) (pc' := 356) rfl (hb hby at_345) rfl (feq c486).2 (by decide) (by decide) k) ?_
            show own_Go p e below _ (T476.setTop (mkF m 356 #[vI p0, vI p1, vI p2, vJ q3, .second, vI v1, vR b456, vI z481, vI v483, .unset, .unset, .unset, .unset] []))
            refine own_by (fun _ k => XS.iload X478.here hx rfl (hb hby at_356) rfl k) ?_
            refine own_by (fun _ k => XS.iconst X478.here hx rfl (hb hby at_358) k) ?_
            by_cases c487 : v483 = (3 : Int32)
            ·skip
             refine own_by (fun _ k => XS.icmpNo X478.here hx rfl (hb hby at_359) rfl (teq c487).2 k) ?_
             show own_Go p e below _ (T476.setTop (mkF m 362 #[vI p0, vI p1, vI p2, vJ q3, .second, vI v1, vR b456, vI z481, vI v483, .unset, .unset, .unset, .unset] []))
             refine own_by (fun _ k => XS.sipush X478.here hx rfl (hb hby at_362) k) ?_
             refine own_by (fun _ k => XS.istore X478.here hx rfl (hb hby at_365) rfl (l' := #[vI p0, vI p1, vI p2, vJ q3, .second, vI v1, vR b456, vI z481, vI v483, vI (8232 : Int32), .unset, .unset, .unset]) rfl k) ?_
             show own_Go p e below _ (T476.setTop (mkF m 367 #[vI p0, vI p1, vI p2, vJ q3, .second, vI v1, vR b456, vI z481, vI v483, vI (8232 : Int32), .unset, .unset, .unset] []))
             refine own_by (fun _ k => XS.goto X478.here hx rfl (pc0 := 367) (pc' := 403) rfl (hb hby at_367) (by decide) (by decide) k) ?_
             show own_Go p e below _ (T476.setTop (mkF m 403 #[vI p0, vI p1, vI p2, vJ q3, .second, vI v1, vR b456, vI z481, vI v483, vI (8232 : Int32), .unset, .unset, .unset] []))
             exact J491 _ _ (8232 : Int32) X478 e479 N480 (Or.inr (Or.inr (Or.inr (Or.inl ⟨c484, c485, c486, c487, rfl⟩))))
            ·skip
             refine own_by (fun _ k => XS.icmpYes X478.here hx rfl (pc0 := 359) (pc' := 370) rfl (hb hby at_359) rfl (feq c487).2 (by decide) (by decide) k) ?_
             show own_Go p e below _ (T476.setTop (mkF m 370 #[vI p0, vI p1, vI p2, vJ q3, .second, vI v1, vR b456, vI z481, vI v483, .unset, .unset, .unset, .unset] []))
             refine own_by (fun _ k => XS.iload X478.here hx rfl (hb hby at_370) rfl k) ?_
             refine own_by (fun _ k => XS.iconst X478.here hx rfl (hb hby at_372) k) ?_
             by_cases c488 : v483 = (4 : Int32)
             ·skip
              refine own_by (fun _ k => XS.icmpNo X478.here hx rfl (hb hby at_373) rfl (teq c488).2 k) ?_
              show own_Go p e below _ (T476.setTop (mkF m 376 #[vI p0, vI p1, vI p2, vJ q3, .second, vI v1, vR b456, vI z481, vI v483, .unset, .unset, .unset, .unset] []))
              refine own_by (fun _ k => XS.sipush X478.here hx rfl (hb hby at_376) k) ?_
              refine own_by (fun _ k => XS.istore X478.here hx rfl (hb hby at_379) rfl (l' := #[vI p0, vI p1, vI p2, vJ q3, .second, vI v1, vR b456, vI z481, vI v483, vI (8233 : Int32), .unset, .unset, .unset]) rfl k) ?_
              show own_Go p e below _ (T476.setTop (mkF m 381 #[vI p0, vI p1, vI p2, vJ q3, .second, vI v1, vR b456, vI z481, vI v483, vI (8233 : Int32), .unset, .unset, .unset] []))
              refine own_by (fun _ k => XS.goto X478.here hx rfl (pc0 := 381) (pc' := 403) rfl (hb hby at_381) (by decide) (by decide) k) ?_
              show own_Go p e below _ (T476.setTop (mkF m 403 #[vI p0, vI p1, vI p2, vJ q3, .second, vI v1, vR b456, vI z481, vI v483, vI (8233 : Int32), .unset, .unset, .unset] []))
              exact J491 _ _ (8233 : Int32) X478 e479 N480 (Or.inr (Or.inr (Or.inr (Or.inr (Or.inl ⟨c484, c485, c486, c487, c488, rfl⟩)))))
             ·skip
              refine own_by (fun _ k => XS.icmpYes X478.here hx rfl (pc0 := 373) (pc' := 384) rfl (hb hby at_373) rfl (feq c488).2 (by decide) (by decide) k) ?_
              show own_Go p e below _ (T476.setTop (mkF m 384 #[vI p0, vI p1, vI p2, vJ q3, .second, vI v1, vR b456, vI z481, vI v483, .unset, .unset, .unset, .unset] []))
              refine own_by (fun _ k => XS.iload X478.here hx rfl (hb hby at_384) rfl k) ?_
              refine own_by (fun _ k => XS.iconst X478.here hx rfl (hb hby at_386) k) ?_
              by_cases c489 : v483 = (5 : Int32)
              ·skip
               refine own_by (fun _ k => XS.icmpNo X478.here hx rfl (hb hby at_387) rfl (teq c489).2 k) ?_
               show own_Go p e below _ (T476.setTop (mkF m 390 #[vI p0, vI p1, vI p2, vJ q3, .second, vI v1, vR b456, vI z481, vI v483, .unset, .unset, .unset, .unset] []))
               refine own_by (fun _ k => XS.bipush X478.here hx rfl (hb hby at_390) k) ?_
               refine own_by (fun _ k => XS.istore X478.here hx rfl (hb hby at_392) rfl (l' := #[vI p0, vI p1, vI p2, vJ q3, .second, vI v1, vR b456, vI z481, vI v483, vI (12 : Int32), .unset, .unset, .unset]) rfl k) ?_
               show own_Go p e below _ (T476.setTop (mkF m 394 #[vI p0, vI p1, vI p2, vJ q3, .second, vI v1, vR b456, vI z481, vI v483, vI (12 : Int32), .unset, .unset, .unset] []))
               refine own_by (fun _ k => XS.goto X478.here hx rfl (pc0 := 394) (pc' := 403) rfl (hb hby at_394) (by decide) (by decide) k) ?_
               show own_Go p e below _ (T476.setTop (mkF m 403 #[vI p0, vI p1, vI p2, vJ q3, .second, vI v1, vR b456, vI z481, vI v483, vI (12 : Int32), .unset, .unset, .unset] []))
               exact J491 _ _ (12 : Int32) X478 e479 N480 (Or.inr (Or.inr (Or.inr (Or.inr (Or.inr (Or.inl ⟨c484, c485, c486, c487, c488, c489, rfl⟩))))))
              ·skip
               refine own_by (fun _ k => XS.icmpYes X478.here hx rfl (pc0 := 387) (pc' := 397) rfl (hb hby at_387) rfl (feq c489).2 (by decide) (by decide) k) ?_
               show own_Go p e below _ (T476.setTop (mkF m 397 #[vI p0, vI p1, vI p2, vJ q3, .second, vI v1, vR b456, vI z481, vI v483, .unset, .unset, .unset, .unset] []))
               refine own_by (fun _ k => XS.iloadN X478.here hx rfl (hb hby at_397) rfl k) ?_
               refine own_by (fun t k => X478.ldcInt hx hown (mvT hZ (hwd 99 rfl)) (g := (mkF m 398 #[vI p0, vI p1, vI p2, vJ q3, .second, vI v1, vR b456, vI z481, vI v483, .unset, .unset, .unset, .unset] [(.int p2)])) rfl (hb hby at_398) _ k) ?_
               show own_Go p e below _ (T476.setTop (mkF m 400 #[vI p0, vI p1, vI p2, vJ q3, .second, vI v1, vR b456, vI z481, vI v483, .unset, .unset, .unset, .unset] [(.int (65535 : Int32)), (.int p2)]))
               refine own_by (fun _ k => XS.iand X478.here hx rfl (hb hby at_400) rfl k) ?_
               show own_Go p e below _ (T476.setTop (mkF m 401 #[vI p0, vI p1, vI p2, vJ q3, .second, vI v1, vR b456, vI z481, vI v483, .unset, .unset, .unset, .unset] [(.int (p2 &&& (65535 : Int32)))]))
               refine own_by (fun _ k => XS.istore X478.here hx rfl (hb hby at_401) rfl (l' := #[vI p0, vI p1, vI p2, vJ q3, .second, vI v1, vR b456, vI z481, vI v483, vI (p2 &&& (65535 : Int32)), .unset, .unset, .unset]) rfl k) ?_
               show own_Go p e below _ (T476.setTop (mkF m 403 #[vI p0, vI p1, vI p2, vJ q3, .second, vI v1, vR b456, vI z481, vI v483, vI (p2 &&& (65535 : Int32)), .unset, .unset, .unset] []))
               generalize hv490 : (p2 &&& (65535 : Int32)) = v490
               show own_Go p e below _ (T476.setTop (mkF m 403 #[vI p0, vI p1, vI p2, vJ q3, .second, vI v1, vR b456, vI z481, vI v483, vI v490, .unset, .unset, .unset] []))
               exact J491 _ _ v490 X478 e479 N480 (Or.inr (Or.inr (Or.inr (Or.inr (Or.inr (Or.inr (⟨v490, c484, c485, c486, c487, c488, c489, hv490, rfl⟩)))))))
        by_cases c474 : (nar .char (nar .char (((nar .byte ((nar .char o452).toInt8.toInt32)) &&& (255 : Int32)).toUInt32.toUInt16.toUInt32.toInt32))) = (49 : Int32)
        ·skip
         refine own_by (fun _ k => XS.icmpNo X473.here hx rfl (hb hby at_301) rfl (teq c474).2 k) ?_
         show own_Go p e below _ (T473.setTop (mkF m 304 #[vI p0, vI p1, vI p2, vJ q3, .second, vI v1, vR b456, vR b446, .unset, .unset, .unset, .unset, .unset] []))
         refine own_by (fun _ k => XS.iconst X473.here hx rfl (hb hby at_304) k) ?_
         refine own_by (fun _ k => XS.goto X473.here hx rfl (pc0 := 305) (pc' := 309) rfl (hb hby at_305) (by decide) (by decide) k) ?_
         show own_Go p e below _ (T473.setTop (mkF m 309 #[vI p0, vI p1, vI p2, vJ q3, .second, vI v1, vR b456, vR b446, .unset, .unset, .unset, .unset, .unset] [(.int (1 : Int32))]))
         exact J475 _ _ (1 : Int32) X473 eq473 N473 (Or.inl ⟨c474, rfl⟩)
        ·skip
         refine own_by (fun _ k => XS.icmpYes X473.here hx rfl (pc0 := 301) (pc' := 308) rfl (hb hby at_301) rfl (feq c474).2 (by decide) (by decide) k) ?_
         show own_Go p e below _ (T473.setTop (mkF m 308 #[vI p0, vI p1, vI p2, vJ q3, .second, vI v1, vR b456, vR b446, .unset, .unset, .unset, .unset, .unset] []))
         refine own_by (fun _ k => XS.iconst X473.here hx rfl (hb hby at_308) k) ?_
         exact J475 _ _ (0 : Int32) X473 eq473 N473 (Or.inr (⟨c474, rfl⟩))
set_option maxRecDepth 65536 in
set_option maxHeartbeats 40000000 in
theorem comes_1 {Post : Tables → Env → Array Value → State → Outcome → State → Prop} (hpost : ∀ tb e args s v u, (limb_1_1.after args s (.returned v) u = true ∧ limb_1_2.after args s (.returned v) u = true ∧ True) → ReturnedEndW s (.returned v) u (Jvm.fieldLocs frame_1_writes args s ++ Jvm.arrayLocs frame_1_arrays args s ++ Jvm.staticLocs frame_1_statics s) 24 4224 → Post tb e args s (.returned v) u) :
    ArmFor flags0 classFile x code maxLocals ret World_1 tables_1 room_1 Calls_1 rest_1 Pre_1 Post := by
  intro l hfl _ _ p e ha hc hk s m args below hf hA hF happ hP
  obtain ⟨hcalls, hrest, hpre⟩ := hP
  obtain ⟨-, -, -, hnamed, -, -, -, hat⟩ := (Spec.applies_iff hf).mp happ
  obtain ⟨hg, hn⟩ := and_e (Cond.before_iff.mp (show (Jvm.Cond.and given_1 narrow_1).before args s = true from hpre))
  obtain ⟨g0, r0⟩ := and_e hg
  obtain ⟨ga0, r1⟩ := and_e r0
  obtain ⟨ga1, r2⟩ := and_e r1
  obtain ⟨ga2, r3⟩ := and_e r2
  obtain ⟨w0, w1, w2, w3, rfl⟩ : ∃ w0 w1 w2 w3 : Value, args = #[w0, w1, w2, w3] := by
    have hs : args.size = 4 := by simpa [Cond.value, given_1] using g0
    obtain ⟨L⟩ := args
    match L, hs with
    | [w0, w1, w2, w3], _ => exact ⟨w0, w1, w2, w3, rfl⟩
  have hw := fun d (hd : d ∈ tables_1) => atoms_spec (ws := Jvm.Cond.code x code maxLocals ret :: tables_1) hat d (List.mem_cons_of_mem _ hd)
  have hwd := fun i {d : Jvm.Cond} (h : tables_1[i]? = some d) => hw d (List.mem_of_getElem? h)
  have hfit : Fit s := fun {y c} hc i hi => by
    obtain ⟨ha, rfl⟩ := Array.getElem?_eq_some_iff.mp hc
    have q := List.all_eq_true.mp ((Array.all_eq_true_iff_forall_mem.mp hF) _ (Array.getElem_mem ha)) i (List.mem_range.mpr hi)
    simpa [Array.getElem?_eq_getElem hi] using q
  obtain ⟨i0, ei0⟩ := is_v ga0
  obtain rfl : w0 = (.int i0) := Option.some.inj ei0
  obtain ⟨i1, ei1⟩ := is_v ga1
  obtain rfl : w1 = (.int i1) := Option.some.inj ei1
  obtain ⟨i2, ei2⟩ := is_v ga2
  obtain rfl : w2 = (.int i2) := Option.some.inj ei2
  obtain ⟨i3, ei3⟩ := isL_v r3
  obtain rfl : w3 = (.long i3) := Option.some.inj ei3
  obtain ⟨hsets, hown0⟩ := atoms_of _ (rest_1_c_eq ▸ (show rest_1_c.before _ s = true from hrest))
  have se0 := hsets _ (List.mem_of_getElem? (i := 0) rfl)
  have se1 := hsets _ (List.mem_of_getElem? (i := 1) rfl)
  have se2 := hsets _ (List.mem_of_getElem? (i := 2) rfl)
  have se7 := hsets _ (List.mem_of_getElem? (i := 7) rfl)
  have se8 := hsets _ (List.mem_of_getElem? (i := 8) rfl)
  obtain ⟨f_CS, ev0⟩ := is_v (Cond.before_iff.mp se1)
  have hcw : Jvm.Lit.compactW.before _ s = true := se2
  have hn_CS : ¬ (f_CS = (0 : Int32)) := own_ne0 (Cond.before_iff.mp se2) ev0
  obtain ⟨f_SF, ev1, hr_SF⟩ := own_refV (Cond.before_iff.mp se8)
  have hC0 : CHv s consts_1 s.vm s.heap := CHv.start (own_EW hw) (fun q hq => hcalls.1 q hq) hcw (hwd 16 rfl) (hwd 15 rfl)
  obtain ⟨n, o, h1, h2, h3, _, L, rfl, ⟨rfl, N⟩, -, hq⟩ := rm0 l s _ hw tables_1 f_CS f_SF i0 i1 i2 i3 s.heap s.heap.size (Nat.le_refl _) (Sta.start ev0 (Or.inl se0)) hn_CS (Sta.start ev1 (Or.inl se7)) hr_SF p e ha hc hk s m _ below hf ((Spec.applies_iff_loose hf).mp happ).1 ⟨rfl, State.Warmed39.refl s, rfl, hC0⟩ trivial
  refine ⟨n, _, h1, h2, h3, hpost _ _ _ _ _ _ ⟨Cond.after_iff.mpr rfl, Cond.after_iff.mpr (eq_i res_at (Term.int_eval (1)) rfl), trivial⟩ ⟨hq.1, hq.2.1, hq.2.2.1, (hq.2.2.2.sift fun y hy => Or.inr (N y hy)).mono (by decide) (by decide)⟩⟩
theorem main_1_1 : Claimed_1_1 := comes_1 fun _ _ _ _ _ _ h hF => ⟨h.1, hF⟩
theorem main_1_2 : Claimed_1_2 := comes_1 fun _ _ _ _ _ _ h hF => ⟨h.2.1, hF⟩
end Jvm.Pilot.@@N@@
namespace Jvm.Pilot.@@N@@
open Jvm Jvm.ClassFile Sem Op Lib Jvm.Free Jvm.Stand Jvm.Pilot.@@N@@.Jvm.D
/-! MADE BY PROGRAM (witnessworld.py) out of the Statement's table words and the real class files: 20 classes; the members and pool entries that the words name. The judged class is class 1, her method 2. -/
namespace start1
open Jvm.ClassFile
def u (s : String) : CpInfo := .utf8 (stringToUtf16 s)
/-- a pool by its gaps: so many unusable entries, then the entry; so many at the end -/
def gap : Nat → List CpInfo → List CpInfo
  | 0, r => r
  | n + 1, r => .unusable :: gap n r
def poolList (es : List (Nat × CpInfo)) (last : Nat) : List CpInfo := es.foldr (fun e r => gap e.1 (e.2 :: r)) (gap last [])
def pool (es : List (Nat × CpInfo)) (last : Nat) : Array CpInfo := ⟨poolList es last⟩
def fileOf (pool : Array CpInfo) (this : Nat) (attrs : Array Attribute := #[]) (ms : Array MethodInfo := #[]) (fl : Nat := 33) (sup : Nat := 0) (ifs : Array Nat := #[]) (fds : Array FieldInfo := #[]) : ClassFile where
  minorVersion := 0
  majorVersion := 65
  constantPool := pool
  accessFlags := fl
  thisClass := this
  superClass := sup
  interfaces := ifs
  fields := fds
  methods := ms
  attributes := attrs
def plain (name : String) (sup : Option ClassId) : Class where
  name := name
  kind := .ordinary
  loader := none
  accessFlags := 33
  super := sup
  interfaces := #[]
  cf := none
  fields := #[]
  methods := #[]
  instanceTypes := #[]
  staticTypes := #[]
  resolved := #[]
  callSites := []
  init := .initialized
  statics := none
  mirror := none

def pool0 : Array CpInfo := pool [(5, u "<init>"), (0, u "()V"), (1, .class_ 10), (1, u "java/lang/Object")] 113

def k0c0 : Code := { maxStack := 0, maxLocals := 1, code := object_method_1_code, exceptionTable := #[], attributes := #[] }
def k0m0 : Method := { name := "<init>", desc := "()V", sig := { parameters := [], returnType := none }, accessFlags := 1, code := some k0c0 }
/-- java/lang/Object -/
def k0 : Class := { plain "java/lang/Object" none with
  accessFlags := 33
  interfaces := #[]
  cf := some (fileOf pool0 8 #[] #[{ accessFlags := 1, nameIndex := 5, descriptorIndex := 6, attributes := #[] }] 33 0 #[] #[])
  fields := #[]
  methods := #[k0m0]
  instanceTypes := #[]
  staticTypes := #[]
  resolved := Array.replicate 124 none
  statics := none }

def pool1 : Array CpInfo := pool [(2, .class_ 4), (1, u "java/lang/Object"), (0, u "<init>"), (0, u "()V"), (0, .long 255), (1, .string 10), (0, u "1.1"), (0, .string 12), (0, u "1.0"), (0, .string 14), (0, u ""), (0, .methodref 16 17), (0, .class_ 18), (0, .nameAndType 19 20), (0, u "com/example/margay/margay/index/LineCounterEndsLinePinLaw"), (0, u "ch"), (0, u "(JI)C"), (0, .class_ 22), (0, u "java/lang/String"), (0, .methodref 21 24), (0, .nameAndType 5 25), (0, u "([C)V"), (0, .methodref 21 27), (0, .nameAndType 28 29), (0, u "length"), (0, u "()I"), (0, .methodref 21 31), (0, .nameAndType 32 33), (0, u "charAt"), (0, u "(I)C"), (0, .integer 65535), (0, .class_ 36), (0, u "com/example/margay/margay/index/LineCounter"), (0, .methodref 35 38), (0, .nameAndType 5 39), (0, u "(Ljava/lang/String;)V"), (0, .methodref 35 41), (0, .nameAndType 42 43), (0, u "endsLine"), (0, u "(C)Z"), (2, u "law"), (0, u "(IIIJ)Z")] 3

def k1m0 : Method := { name := "<init>", desc := "()V", sig := { parameters := [], returnType := none }, accessFlags := 1, code := none }
def k1c1 : Code := { maxStack := 4, maxLocals := 3, code := method_2_code, exceptionTable := #[], attributes := #[] }
def k1m1 : Method := { name := "ch", desc := "(JI)C", sig := { parameters := [.long, .int], returnType := some .char }, accessFlags := 10, code := some k1c1 }
def k1c2 : Code := { maxStack := 5, maxLocals := 13, code := code, exceptionTable := #[], attributes := #[] }
def k1m2 : Method := { name := "law", desc := "(IIIJ)Z", sig := { parameters := [.int, .int, .int, .long], returnType := some .boolean }, accessFlags := 9, code := some k1c2 }
/-- com/example/margay/margay/index/LineCounterEndsLinePinLaw -/
def k1 : Class := { plain "com/example/margay/margay/index/LineCounterEndsLinePinLaw" (some 0) with
  accessFlags := 49
  interfaces := #[]
  cf := some (fileOf pool1 16 #[] #[{ accessFlags := 1, nameIndex := 5, descriptorIndex := 6, attributes := #[] }, { accessFlags := 10, nameIndex := 19, descriptorIndex := 20, attributes := #[] }, { accessFlags := 9, nameIndex := 46, descriptorIndex := 47, attributes := #[] }] 49 2 #[] #[])
  fields := #[]
  methods := #[k1m0, k1m1, k1m2]
  instanceTypes := #[]
  staticTypes := #[]
  resolved := Array.replicate 51 none
  statics := none }

def pool2 : Array CpInfo := pool [(1, .methodref 2 3), (0, .class_ 4), (0, .nameAndType 5 6), (0, u "java/lang/Object"), (0, u "<init>"), (0, u "()V"), (0, .fieldref 8 9), (0, .class_ 10), (0, .nameAndType 11 12), (0, u "com/example/margay/margay/index/LineCounter"), (0, u "line"), (0, u "I"), (0, .fieldref 8 14), (0, .nameAndType 15 12), (0, u "column"), (0, .string 17), (0, u "1.1"), (0, .methodref 19 20), (0, .class_ 21), (0, .nameAndType 22 23), (0, u "java/lang/String"), (0, u "equals"), (0, u "(Ljava/lang/Object;)Z"), (0, .fieldref 8 25), (0, .nameAndType 26 27), (0, u "xml11"), (0, u "Z"), (2, u "afterCarriageReturn"), (3, u "(C)Z"), (2, u "endsLine"), (0, u "XML_1_1"), (0, u "Ljava/lang/String;"), (1, u "NEXT_LINE"), (0, u "C"), (1, u "LINE_SEPARATOR"), (1, u "(Ljava/lang/String;)V")] 8

def k2c0 : Code := { maxStack := 3, maxLocals := 2, code := prog_53_method_1_code, exceptionTable := #[], attributes := #[] }
def k2m0 : Method := { name := "<init>", desc := "(Ljava/lang/String;)V", sig := { parameters := [(.object "java/lang/String")], returnType := none }, accessFlags := 0, code := some k2c0 }
def k2c1 : Code := { maxStack := 2, maxLocals := 2, code := prog_53_method_3_code, exceptionTable := #[], attributes := #[] }
def k2m1 : Method := { name := "endsLine", desc := "(C)Z", sig := { parameters := [.char], returnType := some .boolean }, accessFlags := 0, code := some k2c1 }
/-- com/example/margay/margay/index/LineCounter -/
def k2 : Class := { plain "com/example/margay/margay/index/LineCounter" (some 0) with
  accessFlags := 48
  interfaces := #[]
  cf := some (fileOf pool2 8 #[] #[{ accessFlags := 0, nameIndex := 5, descriptorIndex := 46, attributes := #[] }, { accessFlags := 0, nameIndex := 37, descriptorIndex := 34, attributes := #[] }] 48 2 #[] #[{ accessFlags := 26, nameIndex := 38, descriptorIndex := 39, attributes := #[] }, { accessFlags := 26, nameIndex := 41, descriptorIndex := 42, attributes := #[] }, { accessFlags := 26, nameIndex := 44, descriptorIndex := 42, attributes := #[] }, { accessFlags := 18, nameIndex := 26, descriptorIndex := 27, attributes := #[] }, { accessFlags := 2, nameIndex := 11, descriptorIndex := 12, attributes := #[] }, { accessFlags := 2, nameIndex := 15, descriptorIndex := 12, attributes := #[] }, { accessFlags := 2, nameIndex := 30, descriptorIndex := 27, attributes := #[] }])
  fields := #[{ name := "XML_1_1", type := (.object "java/lang/String"), accessFlags := 26, slot := 0, constantValue := 0 }, { name := "NEXT_LINE", type := .char, accessFlags := 26, slot := 1, constantValue := 0 }, { name := "LINE_SEPARATOR", type := .char, accessFlags := 26, slot := 2, constantValue := 0 }, { name := "xml11", type := .boolean, accessFlags := 18, slot := 0, constantValue := 0 }, { name := "line", type := .int, accessFlags := 2, slot := 1, constantValue := 0 }, { name := "column", type := .int, accessFlags := 2, slot := 2, constantValue := 0 }, { name := "afterCarriageReturn", type := .boolean, accessFlags := 2, slot := 3, constantValue := 0 }]
  methods := #[k2m0, k2m1]
  instanceTypes := #[.boolean, .int, .int, .boolean]
  staticTypes := #[(.object "java/lang/String"), .char, .char]
  resolved := Array.replicate 55 none
  statics := none }

def pool3 : Array CpInfo := pool [(1, .class_ 2), (0, u "java/io/Serializable"), (0, .class_ 4), (0, u "java/lang/Object")] 2

/-- java/io/Serializable -/
def k3 : Class := { plain "java/io/Serializable" (some 0) with
  accessFlags := 1537
  interfaces := #[]
  cf := some (fileOf pool3 1 #[] #[] 1537 3 #[] #[])
  fields := #[]
  methods := #[]
  instanceTypes := #[]
  staticTypes := #[]
  resolved := Array.replicate 7 none
  statics := none }

def pool4 : Array CpInfo := pool [(1, .class_ 2), (0, u "java/lang/Comparable"), (0, .class_ 4), (0, u "java/lang/Object")] 7

/-- java/lang/Comparable -/
def k4 : Class := { plain "java/lang/Comparable" (some 0) with
  accessFlags := 1537
  interfaces := #[]
  cf := some (fileOf pool4 1 #[] #[] 1537 3 #[] #[])
  fields := #[]
  methods := #[]
  instanceTypes := #[]
  staticTypes := #[]
  resolved := Array.replicate 12 none
  statics := none }

def pool5 : Array CpInfo := pool [(2, .class_ 4), (1, u "java/lang/CharSequence"), (42, .class_ 48), (0, u "java/lang/CharSequence$1CodePointIterator"), (10, .class_ 60), (0, u "java/lang/CharSequence$1CharIterator"), (5, .class_ 67), (0, u "java/lang/Object")] 63

/-- java/lang/CharSequence -/
def k5 : Class := { plain "java/lang/CharSequence" (some 0) with
  accessFlags := 1537
  interfaces := #[]
  cf := some (fileOf pool5 2 #[.nestMembers #[47, 59]] #[] 1537 66 #[] #[])
  fields := #[]
  methods := #[]
  instanceTypes := #[]
  staticTypes := #[]
  resolved := Array.replicate 131 none
  statics := none }

def pool6 : Array CpInfo := pool [(1, .class_ 2), (0, u "java/lang/constant/Constable"), (0, .class_ 4), (0, u "java/lang/Object")] 6

/-- java/lang/constant/Constable -/
def k6 : Class := { plain "java/lang/constant/Constable" (some 0) with
  accessFlags := 1537
  interfaces := #[]
  cf := some (fileOf pool6 1 #[] #[] 1537 3 #[] #[])
  fields := #[]
  methods := #[]
  instanceTypes := #[]
  staticTypes := #[]
  resolved := Array.replicate 11 none
  statics := none }

def pool7 : Array CpInfo := pool [(1, .class_ 2), (0, u "java/lang/constant/ConstantDesc"), (0, .class_ 4), (0, u "java/lang/Object")] 32

/-- java/lang/constant/ConstantDesc -/
def k7 : Class := { plain "java/lang/constant/ConstantDesc" (some 0) with
  accessFlags := 1537
  interfaces := #[]
  cf := some (fileOf pool7 1 #[] #[] 1537 3 #[] #[])
  fields := #[]
  methods := #[]
  instanceTypes := #[]
  staticTypes := #[]
  resolved := Array.replicate 37 none
  statics := none }

def pool8 : Array CpInfo := pool [(1, .methodref 2 3), (0, .class_ 4), (0, .nameAndType 5 6), (0, u "java/lang/Object"), (0, u "<init>"), (0, u "()V"), (2, .fieldref 10 11), (0, .class_ 12), (0, .nameAndType 13 14), (0, u "java/lang/String"), (0, u "value"), (0, u "[B"), (0, .fieldref 10 16), (0, .nameAndType 17 18), (0, u "coder"), (0, u "B"), (2, u "hash"), (0, u "I"), (2, u "hashIsZero"), (0, u "Z"), (0, .methodref 10 28), (0, .nameAndType 5 29), (0, u "([CIILjava/lang/Void;)V"), (8, .fieldref 10 39), (0, .nameAndType 40 26), (0, u "COMPACT_STRINGS"), (1, .class_ 44), (1, u "java/lang/StringUTF16"), (0, u "compress"), (1, .methodref 42 48), (0, .nameAndType 49 50), (0, u "coderFromArrayLen"), (0, u "([BI)B"), (56, .class_ 109), (1, u "java/lang/StringLatin1"), (32, u "()Z"), (34, .methodref 42 178), (0, .nameAndType 45 179), (0, u "([CII)[B"), (154, u "()I"), (0, .methodref 10 336), (0, .nameAndType 17 337), (0, u "()B"), (25, u "([BI)C"), (27, u "(II)V"), (35, u "(I)C"), (64, .methodref 10 493), (0, .nameAndType 494 142), (0, u "isLatin1"), (0, .methodref 107 496), (0, .nameAndType 497 363), (0, u "charAt"), (3, u "checkIndex"), (5, u "length"), (33, .methodref 107 542), (0, .nameAndType 543 544), (0, u "equals"), (0, u "([B[B)Z"), (28, u "(Ljava/lang/Object;)Z"), (1, .class_ 576), (0, u "java/lang/CharSequence"), (22, u "CASE_INSENSITIVE_ORDER"), (0, u "Ljava/util/Comparator;"), (409, u "([C)V"), (42, .fieldref 1054 1055), (0, .class_ 1056), (0, .nameAndType 1057 1058), (0, u "jdk/internal/util/Preconditions"), (0, u "SIOOBE_FORMATTER"), (0, u "Ljava/util/function/BiFunction;"), (0, .methodref 1054 1060), (0, .nameAndType 501 1061), (0, u "(IILjava/util/function/BiFunction;)I"), (39, u "serialPersistentFields"), (0, u "[Ljava/io/ObjectStreamField;"), (0, .class_ 1104), (0, u "java/lang/String$CaseInsensitiveComparator"), (1, .class_ 1107), (0, u "java/io/Serializable"), (0, .class_ 1109), (0, u "java/lang/Comparable"), (0, .class_ 1111), (0, u "java/lang/constant/Constable"), (0, .class_ 1113), (0, u "java/lang/constant/ConstantDesc"), (2, u "serialVersionUID"), (0, u "J"), (3, u "REPL"), (0, u "C"), (2, u "LATIN1"), (1, u "UTF16")] 323

def k8m0 : Method := { name := "<init>", desc := "()V", sig := { parameters := [], returnType := none }, accessFlags := 1, code := none }
def k8c1 : Code := { maxStack := 5, maxLocals := 2, code := jdk_42_method_3_code, exceptionTable := #[], attributes := #[] }
def k8m1 : Method := { name := "<init>", desc := "([C)V", sig := { parameters := [(.array .char)], returnType := none }, accessFlags := 1, code := some k8c1 }
def k8c2 : Code := { maxStack := 2, maxLocals := 1, code := jdk_42_method_54_code, exceptionTable := #[], attributes := #[] }
def k8m2 : Method := { name := "length", desc := "()I", sig := { parameters := [], returnType := some .int }, accessFlags := 1, code := some k8c2 }
def k8c3 : Code := { maxStack := 2, maxLocals := 2, code := jdk_42_method_56_code, exceptionTable := #[], attributes := #[] }
def k8m3 : Method := { name := "charAt", desc := "(I)C", sig := { parameters := [.int], returnType := some .char }, accessFlags := 1, code := some k8c3 }
def k8c4 : Code := { maxStack := 2, maxLocals := 3, code := jdk_42_method_66_code, exceptionTable := #[], attributes := #[] }
def k8m4 : Method := { name := "equals", desc := "(Ljava/lang/Object;)Z", sig := { parameters := [(.object "java/lang/Object")], returnType := some .boolean }, accessFlags := 1, code := some k8c4 }
def k8c5 : Code := { maxStack := 4, maxLocals := 6, code := jdk_42_method_149_code, exceptionTable := #[], attributes := #[] }
def k8m5 : Method := { name := "<init>", desc := "([CIILjava/lang/Void;)V", sig := { parameters := [(.array .char), .int, .int, (.object "java/lang/Void")], returnType := none }, accessFlags := 2, code := some k8c5 }
def k8c6 : Code := { maxStack := 1, maxLocals := 1, code := jdk_42_method_152_code, exceptionTable := #[], attributes := #[] }
def k8m6 : Method := { name := "coder", desc := "()B", sig := { parameters := [], returnType := some .byte }, accessFlags := 0, code := some k8c6 }
def k8c7 : Code := { maxStack := 1, maxLocals := 1, code := jdk_42_method_154_code, exceptionTable := #[], attributes := #[] }
def k8m7 : Method := { name := "isLatin1", desc := "()Z", sig := { parameters := [], returnType := some .boolean }, accessFlags := 0, code := some k8c7 }
def k8c8 : Code := { maxStack := 3, maxLocals := 2, code := jdk_42_method_155_code, exceptionTable := #[], attributes := #[] }
def k8m8 : Method := { name := "checkIndex", desc := "(II)V", sig := { parameters := [.int, .int], returnType := none }, accessFlags := 8, code := some k8c8 }
/-- java/lang/String -/
def k8 : Class := { plain "java/lang/String" (some 0) with
  accessFlags := 49
  interfaces := #[3, 4, 5, 6, 7]
  cf := some (fileOf pool8 10 #[.nestMembers #[1103]] #[{ accessFlags := 1, nameIndex := 5, descriptorIndex := 6, attributes := #[] }, { accessFlags := 1, nameIndex := 5, descriptorIndex := 1010, attributes := #[] }, { accessFlags := 1, nameIndex := 507, descriptorIndex := 334, attributes := #[] }, { accessFlags := 1, nameIndex := 497, descriptorIndex := 427, attributes := #[] }, { accessFlags := 1, nameIndex := 543, descriptorIndex := 573, attributes := #[] }, { accessFlags := 2, nameIndex := 5, descriptorIndex := 29, attributes := #[] }, { accessFlags := 0, nameIndex := 17, descriptorIndex := 337, attributes := #[] }, { accessFlags := 0, nameIndex := 494, descriptorIndex := 142, attributes := #[] }, { accessFlags := 8, nameIndex := 501, descriptorIndex := 391, attributes := #[] }] 49 2 #[1106, 1108, 575, 1110, 1112] #[{ accessFlags := 18, nameIndex := 13, descriptorIndex := 14, attributes := #[] }, { accessFlags := 18, nameIndex := 17, descriptorIndex := 18, attributes := #[] }, { accessFlags := 2, nameIndex := 21, descriptorIndex := 22, attributes := #[] }, { accessFlags := 2, nameIndex := 25, descriptorIndex := 26, attributes := #[] }, { accessFlags := 26, nameIndex := 1116, descriptorIndex := 1117, attributes := #[] }, { accessFlags := 24, nameIndex := 40, descriptorIndex := 26, attributes := #[] }, { accessFlags := 26, nameIndex := 1101, descriptorIndex := 1102, attributes := #[] }, { accessFlags := 26, nameIndex := 1121, descriptorIndex := 1122, attributes := #[] }, { accessFlags := 25, nameIndex := 599, descriptorIndex := 600, attributes := #[] }, { accessFlags := 24, nameIndex := 1125, descriptorIndex := 18, attributes := #[] }, { accessFlags := 24, nameIndex := 1127, descriptorIndex := 18, attributes := #[] }])
  fields := #[{ name := "value", type := (.array .byte), accessFlags := 18, slot := 0, constantValue := 0 }, { name := "coder", type := .byte, accessFlags := 18, slot := 1, constantValue := 0 }, { name := "hash", type := .int, accessFlags := 2, slot := 2, constantValue := 0 }, { name := "hashIsZero", type := .boolean, accessFlags := 2, slot := 3, constantValue := 0 }, { name := "serialVersionUID", type := .long, accessFlags := 26, slot := 0, constantValue := 0 }, { name := "COMPACT_STRINGS", type := .boolean, accessFlags := 24, slot := 1, constantValue := 0 }, { name := "serialPersistentFields", type := (.array (.object "java/io/ObjectStreamField")), accessFlags := 26, slot := 2, constantValue := 0 }, { name := "REPL", type := .char, accessFlags := 26, slot := 3, constantValue := 0 }, { name := "CASE_INSENSITIVE_ORDER", type := (.object "java/util/Comparator"), accessFlags := 25, slot := 4, constantValue := 0 }, { name := "LATIN1", type := .byte, accessFlags := 24, slot := 5, constantValue := 0 }, { name := "UTF16", type := .byte, accessFlags := 24, slot := 6, constantValue := 0 }]
  methods := #[k8m0, k8m1, k8m2, k8m3, k8m4, k8m5, k8m6, k8m7, k8m8]
  instanceTypes := #[(.array .byte), .byte, .int, .boolean]
  staticTypes := #[.long, .boolean, (.array (.object "java/io/ObjectStreamField")), .char, (.object "java/util/Comparator"), .byte, .byte]
  resolved := Array.replicate 1451 none
  statics := some 0 }

def pool9 : Array CpInfo := pool [(6, .class_ 8), (1, u "java/lang/Object"), (0, u "<init>"), (0, u "()V"), (1, .class_ 14), (1, u "java/lang/StringUTF16"), (31, u "$assertionsDisabled"), (0, u "Z"), (13, u "HI_BYTE_SHIFT"), (0, u "I"), (2, u "LO_BYTE_SHIFT"), (49, .methodref 12 116), (0, .nameAndType 117 118), (0, u "compress"), (0, u "([CI[BII)I"), (3, u "([CII)[B"), (138, u "coderFromArrayLen"), (0, u "([BI)B"), (106, .class_ 371), (1, u "java/lang/StringUTF16$LinesSpliterator"), (58, u "MAX_LENGTH"), (196, .class_ 628), (0, u "java/lang/StringUTF16$CodePointsSpliterator"), (0, .class_ 630), (0, u "java/lang/StringUTF16$CharsSpliterator")] 4

def k9m0 : Method := { name := "<init>", desc := "()V", sig := { parameters := [], returnType := none }, accessFlags := 0, code := none }
def k9c1 : Code := { maxStack := 2, maxLocals := 2, code := jdk_52_method_15_code, exceptionTable := #[], attributes := #[] }
def k9m1 : Method := { name := "coderFromArrayLen", desc := "([BI)B", sig := { parameters := [(.array .byte), .int], returnType := some .byte }, accessFlags := 8, code := some k9c1 }
def k9c2 : Code := { maxStack := 5, maxLocals := 6, code := jdk_52_method_16_code, exceptionTable := #[], attributes := #[] }
def k9m2 : Method := { name := "compress", desc := "([CII)[B", sig := { parameters := [(.array .char), .int, .int], returnType := some (.array .byte) }, accessFlags := 9, code := some k9c2 }
def k9c3 : Code := { maxStack := 3, maxLocals := 7, code := jdk_52_method_21_code, exceptionTable := #[], attributes := #[] }
def k9m3 : Method := { name := "compress", desc := "([CI[BII)I", sig := { parameters := [(.array .char), .int, (.array .byte), .int, .int], returnType := some .int }, accessFlags := 9, code := some k9c3 }
/-- java/lang/StringUTF16 -/
def k9 : Class := { plain "java/lang/StringUTF16" (some 0) with
  accessFlags := 48
  interfaces := #[]
  cf := some (fileOf pool9 12 #[.nestMembers #[627, 629, 369]] #[{ accessFlags := 0, nameIndex := 9, descriptorIndex := 10, attributes := #[] }, { accessFlags := 8, nameIndex := 261, descriptorIndex := 262, attributes := #[] }, { accessFlags := 9, nameIndex := 117, descriptorIndex := 122, attributes := #[] }, { accessFlags := 9, nameIndex := 117, descriptorIndex := 118, attributes := #[] }] 48 6 #[] #[{ accessFlags := 26, nameIndex := 61, descriptorIndex := 62, attributes := #[] }, { accessFlags := 26, nameIndex := 65, descriptorIndex := 62, attributes := #[] }, { accessFlags := 24, nameIndex := 430, descriptorIndex := 62, attributes := #[] }, { accessFlags := 4120, nameIndex := 46, descriptorIndex := 47, attributes := #[] }])
  fields := #[{ name := "HI_BYTE_SHIFT", type := .int, accessFlags := 26, slot := 0, constantValue := 0 }, { name := "LO_BYTE_SHIFT", type := .int, accessFlags := 26, slot := 1, constantValue := 0 }, { name := "MAX_LENGTH", type := .int, accessFlags := 24, slot := 2, constantValue := 0 }, { name := "$assertionsDisabled", type := .boolean, accessFlags := 4120, slot := 3, constantValue := 0 }]
  methods := #[k9m0, k9m1, k9m2, k9m3]
  instanceTypes := #[]
  staticTypes := #[.int, .int, .int, .boolean]
  resolved := Array.replicate 635 none
  statics := none }

def pool10 : Array CpInfo := pool [(1, .class_ 2), (0, u "java/lang/String"), (1, .class_ 6), (1, u "java/lang/Object"), (0, u "<init>"), (0, u "()V"), (0, .methodref 1 10), (0, .nameAndType 11 12), (0, u "checkIndex"), (0, u "(II)V"), (1, .class_ 16), (1, u "java/lang/StringLatin1"), (36, u "([BI)C"), (67, u "$assertionsDisabled"), (0, u "Z"), (98, .class_ 223), (1, u "java/lang/StringLatin1$LinesSpliterator"), (28, u "charAt"), (28, u "equals"), (0, u "([B[B)Z"), (107, .class_ 391), (0, u "java/lang/StringLatin1$CharsSpliterator")] 3

def k10m0 : Method := { name := "<init>", desc := "()V", sig := { parameters := [], returnType := none }, accessFlags := 0, code := none }
def k10c1 : Code := { maxStack := 2, maxLocals := 2, code := jdk_43_method_2_code, exceptionTable := #[], attributes := #[] }
def k10m1 : Method := { name := "charAt", desc := "([BI)C", sig := { parameters := [(.array .byte), .int], returnType := some .char }, accessFlags := 9, code := some k10c1 }
def k10c2 : Code := { maxStack := 3, maxLocals := 3, code := jdk_43_method_13_code, exceptionTable := #[], attributes := #[] }
def k10m2 : Method := { name := "equals", desc := "([B[B)Z", sig := { parameters := [(.array .byte), (.array .byte)], returnType := some .boolean }, accessFlags := 9, code := some k10c2 }
/-- java/lang/StringLatin1 -/
def k10 : Class := { plain "java/lang/StringLatin1" (some 0) with
  accessFlags := 48
  interfaces := #[]
  cf := some (fileOf pool10 14 #[.nestMembers #[390, 221]] #[{ accessFlags := 0, nameIndex := 7, descriptorIndex := 8, attributes := #[] }, { accessFlags := 9, nameIndex := 252, descriptorIndex := 53, attributes := #[] }, { accessFlags := 9, nameIndex := 281, descriptorIndex := 282, attributes := #[] }] 48 4 #[] #[{ accessFlags := 4120, nameIndex := 121, descriptorIndex := 122, attributes := #[] }])
  fields := #[{ name := "$assertionsDisabled", type := .boolean, accessFlags := 4120, slot := 0, constantValue := 0 }]
  methods := #[k10m0, k10m1, k10m2]
  instanceTypes := #[]
  staticTypes := #[.boolean]
  resolved := Array.replicate 395 none
  statics := none }

def pool11 : Array CpInfo := pool [(2, .class_ 4), (1, u "java/lang/Object"), (0, u "<init>"), (0, u "()V"), (17, .class_ 26), (1, u "jdk/internal/util/Preconditions"), (6, u "checkIndex"), (21, .class_ 56), (0, u "jdk/internal/util/Preconditions$4"), (57, .class_ 115), (0, u "jdk/internal/util/Preconditions$1"), (7, u "SIOOBE_FORMATTER"), (0, u "Ljava/util/function/BiFunction;"), (0, .class_ 126), (0, u "jdk/internal/util/Preconditions$2"), (3, u "AIOOBE_FORMATTER"), (0, .class_ 132), (0, u "jdk/internal/util/Preconditions$3"), (3, u "IOOBE_FORMATTER"), (41, u "(IILjava/util/function/BiFunction;)I")] 15

def k11m0 : Method := { name := "<init>", desc := "()V", sig := { parameters := [], returnType := none }, accessFlags := 1, code := none }
def k11c1 : Code := { maxStack := 3, maxLocals := 3, code := jdk_41_method_11_code, exceptionTable := #[], attributes := #[] }
def k11m1 : Method := { name := "checkIndex", desc := "(IILjava/util/function/BiFunction;)I", sig := { parameters := [.int, .int, (.object "java/util/function/BiFunction")], returnType := some .int }, accessFlags := 9, code := some k11c1 }
/-- jdk/internal/util/Preconditions -/
def k11 : Class := { plain "jdk/internal/util/Preconditions" (some 0) with
  accessFlags := 33
  interfaces := #[]
  cf := some (fileOf pool11 24 #[.nestMembers #[55, 131, 125, 114]] #[{ accessFlags := 1, nameIndex := 5, descriptorIndex := 6, attributes := #[] }, { accessFlags := 9, nameIndex := 33, descriptorIndex := 178, attributes := #[] }] 33 2 #[] #[{ accessFlags := 25, nameIndex := 123, descriptorIndex := 124, attributes := #[] }, { accessFlags := 25, nameIndex := 130, descriptorIndex := 124, attributes := #[] }, { accessFlags := 25, nameIndex := 136, descriptorIndex := 124, attributes := #[] }])
  fields := #[{ name := "SIOOBE_FORMATTER", type := (.object "java/util/function/BiFunction"), accessFlags := 25, slot := 0, constantValue := 0 }, { name := "AIOOBE_FORMATTER", type := (.object "java/util/function/BiFunction"), accessFlags := 25, slot := 1, constantValue := 0 }, { name := "IOOBE_FORMATTER", type := (.object "java/util/function/BiFunction"), accessFlags := 25, slot := 2, constantValue := 0 }]
  methods := #[k11m0, k11m1]
  instanceTypes := #[]
  staticTypes := #[(.object "java/util/function/BiFunction"), (.object "java/util/function/BiFunction"), (.object "java/util/function/BiFunction")]
  resolved := Array.replicate 194 none
  statics := some 1 }

def pool12 : Array CpInfo := pool [(9, u "<init>"), (6, .class_ 18), (1, u "java/lang/Object"), (0, u "()V"), (1, .class_ 23), (1, u "jdk/internal/util/ArraysSupport"), (0, u "LOG2_ARRAY_LONG_INDEX_SCALE"), (0, u "I"), (2, u "U"), (0, u "Ljdk/internal/misc/Unsafe;"), (8, u "BIG_ENDIAN"), (0, u "Z"), (8, u "LOG2_BYTE_BIT_SIZE"), (4, u "LOG2_ARRAY_INT_INDEX_SCALE"), (54, u "JLA"), (0, u "Ljdk/internal/access/JavaLangAccess;"), (11, u "LOG2_ARRAY_BOOLEAN_INDEX_SCALE"), (9, u "LOG2_ARRAY_BYTE_INDEX_SCALE"), (5, u "LOG2_ARRAY_CHAR_INDEX_SCALE"), (5, u "LOG2_ARRAY_SHORT_INDEX_SCALE"), (18, u "LOG2_ARRAY_FLOAT_INDEX_SCALE"), (24, u "LOG2_ARRAY_DOUBLE_INDEX_SCALE"), (89, u "T_BOOLEAN"), (2, u "T_CHAR"), (1, u "T_FLOAT"), (1, u "T_DOUBLE"), (1, u "T_BYTE"), (1, u "T_SHORT"), (1, u "T_INT"), (1, u "T_LONG"), (1, u "SOFT_MAX_ARRAY_LENGTH")] 83

def k12m0 : Method := { name := "<init>", desc := "()V", sig := { parameters := [], returnType := none }, accessFlags := 2, code := none }
/-- jdk/internal/util/ArraysSupport -/
def k12 : Class := { plain "jdk/internal/util/ArraysSupport" (some 0) with
  accessFlags := 33
  interfaces := #[]
  cf := some (fileOf pool12 21 #[] #[{ accessFlags := 2, nameIndex := 9, descriptorIndex := 19, attributes := #[] }] 33 16 #[] #[{ accessFlags := 24, nameIndex := 28, descriptorIndex := 29, attributes := #[] }, { accessFlags := 26, nameIndex := 38, descriptorIndex := 39, attributes := #[] }, { accessFlags := 25, nameIndex := 121, descriptorIndex := 25, attributes := #[] }, { accessFlags := 25, nameIndex := 131, descriptorIndex := 25, attributes := #[] }, { accessFlags := 25, nameIndex := 137, descriptorIndex := 25, attributes := #[] }, { accessFlags := 25, nameIndex := 143, descriptorIndex := 25, attributes := #[] }, { accessFlags := 25, nameIndex := 53, descriptorIndex := 25, attributes := #[] }, { accessFlags := 25, nameIndex := 24, descriptorIndex := 25, attributes := #[] }, { accessFlags := 25, nameIndex := 162, descriptorIndex := 25, attributes := #[] }, { accessFlags := 25, nameIndex := 187, descriptorIndex := 25, attributes := #[] }, { accessFlags := 26, nameIndex := 48, descriptorIndex := 25, attributes := #[] }, { accessFlags := 25, nameIndex := 277, descriptorIndex := 25, attributes := #[] }, { accessFlags := 25, nameIndex := 280, descriptorIndex := 25, attributes := #[] }, { accessFlags := 25, nameIndex := 282, descriptorIndex := 25, attributes := #[] }, { accessFlags := 25, nameIndex := 284, descriptorIndex := 25, attributes := #[] }, { accessFlags := 25, nameIndex := 286, descriptorIndex := 25, attributes := #[] }, { accessFlags := 25, nameIndex := 288, descriptorIndex := 25, attributes := #[] }, { accessFlags := 25, nameIndex := 290, descriptorIndex := 25, attributes := #[] }, { accessFlags := 25, nameIndex := 292, descriptorIndex := 25, attributes := #[] }, { accessFlags := 26, nameIndex := 108, descriptorIndex := 109, attributes := #[] }, { accessFlags := 25, nameIndex := 294, descriptorIndex := 25, attributes := #[] }])
  fields := #[{ name := "U", type := (.object "jdk/internal/misc/Unsafe"), accessFlags := 24, slot := 0, constantValue := 0 }, { name := "BIG_ENDIAN", type := .boolean, accessFlags := 26, slot := 1, constantValue := 0 }, { name := "LOG2_ARRAY_BOOLEAN_INDEX_SCALE", type := .int, accessFlags := 25, slot := 2, constantValue := 0 }, { name := "LOG2_ARRAY_BYTE_INDEX_SCALE", type := .int, accessFlags := 25, slot := 3, constantValue := 0 }, { name := "LOG2_ARRAY_CHAR_INDEX_SCALE", type := .int, accessFlags := 25, slot := 4, constantValue := 0 }, { name := "LOG2_ARRAY_SHORT_INDEX_SCALE", type := .int, accessFlags := 25, slot := 5, constantValue := 0 }, { name := "LOG2_ARRAY_INT_INDEX_SCALE", type := .int, accessFlags := 25, slot := 6, constantValue := 0 }, { name := "LOG2_ARRAY_LONG_INDEX_SCALE", type := .int, accessFlags := 25, slot := 7, constantValue := 0 }, { name := "LOG2_ARRAY_FLOAT_INDEX_SCALE", type := .int, accessFlags := 25, slot := 8, constantValue := 0 }, { name := "LOG2_ARRAY_DOUBLE_INDEX_SCALE", type := .int, accessFlags := 25, slot := 9, constantValue := 0 }, { name := "LOG2_BYTE_BIT_SIZE", type := .int, accessFlags := 26, slot := 10, constantValue := 0 }, { name := "T_BOOLEAN", type := .int, accessFlags := 25, slot := 11, constantValue := 0 }, { name := "T_CHAR", type := .int, accessFlags := 25, slot := 12, constantValue := 0 }, { name := "T_FLOAT", type := .int, accessFlags := 25, slot := 13, constantValue := 0 }, { name := "T_DOUBLE", type := .int, accessFlags := 25, slot := 14, constantValue := 0 }, { name := "T_BYTE", type := .int, accessFlags := 25, slot := 15, constantValue := 0 }, { name := "T_SHORT", type := .int, accessFlags := 25, slot := 16, constantValue := 0 }, { name := "T_INT", type := .int, accessFlags := 25, slot := 17, constantValue := 0 }, { name := "T_LONG", type := .int, accessFlags := 25, slot := 18, constantValue := 0 }, { name := "JLA", type := (.object "jdk/internal/access/JavaLangAccess"), accessFlags := 26, slot := 19, constantValue := 0 }, { name := "SOFT_MAX_ARRAY_LENGTH", type := .int, accessFlags := 25, slot := 20, constantValue := 0 }]
  methods := #[k12m0]
  instanceTypes := #[]
  staticTypes := #[(.object "jdk/internal/misc/Unsafe"), .boolean, .int, .int, .int, .int, .int, .int, .int, .int, .int, .int, .int, .int, .int, .int, .int, .int, .int, (.object "jdk/internal/access/JavaLangAccess"), .int]
  resolved := Array.replicate 378 none
  statics := none }

def pool13 : Array CpInfo := pool [(1, u "java/lang/Cloneable"), (0, .class_ 1), (0, u "java/lang/Object"), (0, .class_ 3)] 3

/-- java/lang/Cloneable -/
def k13 : Class := { plain "java/lang/Cloneable" (some 0) with
  accessFlags := 1537
  interfaces := #[]
  cf := some (fileOf pool13 2 #[] #[] 1537 4 #[] #[])
  fields := #[]
  methods := #[]
  instanceTypes := #[]
  staticTypes := #[]
  resolved := Array.replicate 8 none
  statics := none }

/-- the primitive byte -/
def k14 : Class := { plain "byte" none with kind := .primitive 'B', accessFlags := 0x411 }
/-- [B -/
def k15 : Class := { plain "[B" (some 0) with kind := .array 14 .byte, interfaces := #[13, 3], accessFlags := 1041 }

/-- the primitive char -/
def k16 : Class := { plain "char" none with kind := .primitive 'C', accessFlags := 0x411 }
/-- [C -/
def k17 : Class := { plain "[C" (some 0) with kind := .array 16 .char, interfaces := #[13, 3], accessFlags := 1041 }

/-- the primitive int -/
def k18 : Class := { plain "int" none with kind := .primitive 'I', accessFlags := 0x411 }
/-- [I -/
def k19 : Class := { plain "[I" (some 0) with kind := .array 18 .int, interfaces := #[13, 3], accessFlags := 1041 }

def heap : Heap := #[{ cls := 8, slots := #[.long 0, .int 1, .null, .int 0, .null, .int 0, .int 0], vm := .statics 8 },
  { cls := 11, slots := #[.null, .null, .null], vm := .statics 11 }]
def classes : Array Class := #[k0, k1, k2, k3, k4, k5, k6, k7, k8, k9, k10, k11, k12, k13, k14, k15, k16, k17, k18, k19]
def interned : List (Array UInt16 × Addr) := []
def slotsUsed : Nat := 10
def theMethod : MethodId := ⟨1, 2⟩
def args0 : Array Value := #[.int 3, .int 4, .int 5, .long 6]
def aboutOver (below : List Frame) : State where
  vm := { classes := classes, interned := interned.toArray }
  heap := heap
  slotsUsed := slotsUsed
  threads := #[{ frames := .invoking theMethod args0 :: below }]
def below0 : List Frame := [.native { method := ⟨0, 0⟩, args := #[] }]
def about1 : State := aboutOver below0
def p0 : Program := .bare "" "" ""
def e0 : Env := launch0.env 0 0 0
theorem w_frames : about1.frames = Frame.invoking theMethod args0 :: below0 := rfl
set_option maxRecDepth 65536 in
theorem w_args : argsFit about1.vm theMethod args0 = true := by decide +kernel
set_option maxRecDepth 65536 in
theorem w_heap : heapFits about1 = true := by decide +kernel
set_option maxRecDepth 65536 in
theorem w_runnable : about1.curStatus? = some .runnable := by decide +kernel
set_option maxRecDepth 65536 in
theorem w_alone : about1.alone = true := by decide +kernel
set_option maxRecDepth 65536 in
theorem w_named : about1.methodNamed? x = some theMethod := by decide +kernel
set_option maxRecDepth 65536 in
theorem w_hears : about1.hears theMethod below0 = true := by decide +kernel
set_option maxRecDepth 65536 in
theorem w_ripe : about1.ripe theMethod args0 below0 = true := by decide +kernel
theorem w_running : about1.status = .running := rfl
set_option maxRecDepth 65536 in
theorem w_room : about1.hasRoom e0.platform room_1 = true :=
  launch0.hasRoom_least _ room_1 (by decide +kernel) (by decide +kernel) (by decide +kernel) (by decide +kernel) (by decide +kernel) (by decide +kernel)
theorem allAtoms_all (ts : List Jvm.Cond) (a : Array Jvm.Value) (st : Jvm.State) : (allAtoms ts).before a st = ts.all (fun c => c.before a st) := by
  induction ts with
  | nil => rfl
  | cons c t ih =>
    show (Jvm.Cond.and c (allAtoms t)).before a st = _
    rw [Jvm.Cond.before_and, ih, List.all_cons]
def words1 : List Jvm.Cond := Jvm.Cond.code x code maxLocals ret :: tables_1
/-- a 'code' word, met by the world's own term for the bytes: nothing is compared byte by byte -/
theorem code_word {y : MethodName} {bytes : ByteArray} {mx : Nat} {rt : Option FieldType} {a : Array Value} {s : State} {m : MethodId} {meth : Method} {c : Code} (h1 : s.methodNamed? y = some m) (h2 : s.vm.method? m = some meth) (h3 : meth.code = some c) (h4 : c.code = bytes)
    (h5 : (c.maxLocals == mx && c.exceptionTable.isEmpty && decide (c.maxStack ≤ mostOperands) && decide (meth.sig.returnType = rt) && !meth.locks && decide (parseMethodDescriptor y.desc = some meth.sig)) = true) : (Jvm.Cond.code y bytes mx rt).before a s = true := by
  simp only [Bool.and_eq_true, beq_iff_eq, Bool.not_eq_true', decide_eq_true_eq] at h5
  obtain ⟨⟨⟨⟨⟨g1, g2⟩, g3⟩, g4⟩, g5⟩, g6⟩ := h5
  simp [Cond.before, Cond.holds, Cond.value, h1, h2, h3, h4, g1, g2, g3, g4, g5, g6]
def isCode : Jvm.Cond → Bool
  | .code _ _ _ _ => true
  | _ => false
theorem all_split {L : List Jvm.Cond} {P : Jvm.Cond → Bool} (h1 : L.all (fun c => isCode c || P c) = true) (h2 : ∀ c ∈ L.filter isCode, P c = true) : L.all P = true := by
  refine List.all_eq_true.mpr fun c hc => ?_
  have h := List.all_eq_true.mp h1 c hc
  rcases Bool.eq_false_or_eq_true (isCode c) with hi | hi
  · exact h2 c (List.mem_filter.mpr ⟨hc, hi⟩)
  · simpa [hi] using h
set_option maxRecDepth 65536 in
theorem w_c0 : (Jvm.Cond.code x code maxLocals ret).before args0 about1 = true := code_word (m := ⟨1, 2⟩) (meth := k1m2) (c := k1c2) (by decide +kernel) rfl rfl rfl (by decide +kernel)
set_option maxRecDepth 65536 in
theorem w_c1 : (Jvm.Cond.code ({ cls := "com/example/margay/margay/index/LineCounter", name := "<init>", desc := "(Ljava/lang/String;)V" } : Jvm.MethodName) prog_53_method_1_code (2 : Nat) (Option.none : Option Jvm.ClassFile.FieldType)).before args0 about1 = true := code_word (m := ⟨2, 0⟩) (meth := k2m0) (c := k2c0) (by decide +kernel) rfl rfl rfl (by decide +kernel)
set_option maxRecDepth 65536 in
theorem w_c2 : (Jvm.Cond.code ({ cls := "java/lang/Object", name := "<init>", desc := "()V" } : Jvm.MethodName) object_method_1_code (1 : Nat) (Option.none : Option Jvm.ClassFile.FieldType)).before args0 about1 = true := code_word (m := ⟨0, 0⟩) (meth := k0m0) (c := k0c0) (by decide +kernel) rfl rfl rfl (by decide +kernel)
set_option maxRecDepth 65536 in
theorem w_c3 : (Jvm.Cond.code ({ cls := "java/lang/String", name := "equals", desc := "(Ljava/lang/Object;)Z" } : Jvm.MethodName) jdk_42_method_66_code (3 : Nat) (Option.some Jvm.ClassFile.FieldType.boolean)).before args0 about1 = true := code_word (m := ⟨8, 4⟩) (meth := k8m4) (c := k8c4) (by decide +kernel) rfl rfl rfl (by decide +kernel)
set_option maxRecDepth 65536 in
theorem w_c4 : (Jvm.Cond.code ({ cls := "com/example/margay/margay/index/LineCounter", name := "endsLine", desc := "(C)Z" } : Jvm.MethodName) prog_53_method_3_code (2 : Nat) (Option.some Jvm.ClassFile.FieldType.boolean)).before args0 about1 = true := code_word (m := ⟨2, 1⟩) (meth := k2m1) (c := k2c1) (by decide +kernel) rfl rfl rfl (by decide +kernel)
set_option maxRecDepth 65536 in
theorem w_c5 : (Jvm.Cond.code ({ cls := "com/example/margay/margay/index/LineCounterEndsLinePinLaw", name := "ch", desc := "(JI)C" } : Jvm.MethodName) method_2_code (3 : Nat) (Option.some Jvm.ClassFile.FieldType.char)).before args0 about1 = true := code_word (m := ⟨1, 1⟩) (meth := k1m1) (c := k1c1) (by decide +kernel) rfl rfl rfl (by decide +kernel)
set_option maxRecDepth 65536 in
theorem w_c6 : (Jvm.Cond.code ({ cls := "java/lang/String", name := "<init>", desc := "([C)V" } : Jvm.MethodName) jdk_42_method_3_code (2 : Nat) (Option.none : Option Jvm.ClassFile.FieldType)).before args0 about1 = true := code_word (m := ⟨8, 1⟩) (meth := k8m1) (c := k8c1) (by decide +kernel) rfl rfl rfl (by decide +kernel)
set_option maxRecDepth 65536 in
theorem w_c7 : (Jvm.Cond.code ({ cls := "java/lang/String", name := "<init>", desc := "([CIILjava/lang/Void;)V" } : Jvm.MethodName) jdk_42_method_149_code (6 : Nat) (Option.none : Option Jvm.ClassFile.FieldType)).before args0 about1 = true := code_word (m := ⟨8, 5⟩) (meth := k8m5) (c := k8c5) (by decide +kernel) rfl rfl rfl (by decide +kernel)
set_option maxRecDepth 65536 in
theorem w_c8 : (Jvm.Cond.code ({ cls := "java/lang/StringUTF16", name := "compress", desc := "([CII)[B" } : Jvm.MethodName) jdk_52_method_16_code (6 : Nat) (Option.some (Jvm.ClassFile.FieldType.array Jvm.ClassFile.FieldType.byte))).before args0 about1 = true := code_word (m := ⟨9, 2⟩) (meth := k9m2) (c := k9c2) (by decide +kernel) rfl rfl rfl (by decide +kernel)
set_option maxRecDepth 65536 in
theorem w_c9 : (Jvm.Cond.code ({ cls := "java/lang/StringUTF16", name := "compress", desc := "([CI[BII)I" } : Jvm.MethodName) jdk_52_method_21_code (7 : Nat) (Option.some Jvm.ClassFile.FieldType.int)).before args0 about1 = true := code_word (m := ⟨9, 3⟩) (meth := k9m3) (c := k9c3) (by decide +kernel) rfl rfl rfl (by decide +kernel)
set_option maxRecDepth 65536 in
theorem w_c10 : (Jvm.Cond.code ({ cls := "java/lang/StringUTF16", name := "coderFromArrayLen", desc := "([BI)B" } : Jvm.MethodName) jdk_52_method_15_code (2 : Nat) (Option.some Jvm.ClassFile.FieldType.byte)).before args0 about1 = true := code_word (m := ⟨9, 1⟩) (meth := k9m1) (c := k9c1) (by decide +kernel) rfl rfl rfl (by decide +kernel)
set_option maxRecDepth 65536 in
theorem w_c11 : (Jvm.Cond.code ({ cls := "java/lang/String", name := "length", desc := "()I" } : Jvm.MethodName) jdk_42_method_54_code (1 : Nat) (Option.some Jvm.ClassFile.FieldType.int)).before args0 about1 = true := code_word (m := ⟨8, 2⟩) (meth := k8m2) (c := k8c2) (by decide +kernel) rfl rfl rfl (by decide +kernel)
set_option maxRecDepth 65536 in
theorem w_c12 : (Jvm.Cond.code ({ cls := "java/lang/String", name := "coder", desc := "()B" } : Jvm.MethodName) jdk_42_method_152_code (1 : Nat) (Option.some Jvm.ClassFile.FieldType.byte)).before args0 about1 = true := code_word (m := ⟨8, 6⟩) (meth := k8m6) (c := k8c6) (by decide +kernel) rfl rfl rfl (by decide +kernel)
set_option maxRecDepth 65536 in
theorem w_c13 : (Jvm.Cond.code ({ cls := "java/lang/StringLatin1", name := "equals", desc := "([B[B)Z" } : Jvm.MethodName) jdk_43_method_13_code (3 : Nat) (Option.some Jvm.ClassFile.FieldType.boolean)).before args0 about1 = true := code_word (m := ⟨10, 2⟩) (meth := k10m2) (c := k10c2) (by decide +kernel) rfl rfl rfl (by decide +kernel)
set_option maxRecDepth 65536 in
theorem w_c14 : (Jvm.Cond.code ({ cls := "java/lang/String", name := "charAt", desc := "(I)C" } : Jvm.MethodName) jdk_42_method_56_code (2 : Nat) (Option.some Jvm.ClassFile.FieldType.char)).before args0 about1 = true := code_word (m := ⟨8, 3⟩) (meth := k8m3) (c := k8c3) (by decide +kernel) rfl rfl rfl (by decide +kernel)
set_option maxRecDepth 65536 in
theorem w_c15 : (Jvm.Cond.code ({ cls := "java/lang/String", name := "isLatin1", desc := "()Z" } : Jvm.MethodName) jdk_42_method_154_code (1 : Nat) (Option.some Jvm.ClassFile.FieldType.boolean)).before args0 about1 = true := code_word (m := ⟨8, 7⟩) (meth := k8m7) (c := k8c7) (by decide +kernel) rfl rfl rfl (by decide +kernel)
set_option maxRecDepth 65536 in
theorem w_c16 : (Jvm.Cond.code ({ cls := "java/lang/StringLatin1", name := "charAt", desc := "([BI)C" } : Jvm.MethodName) jdk_43_method_2_code (2 : Nat) (Option.some Jvm.ClassFile.FieldType.char)).before args0 about1 = true := code_word (m := ⟨10, 1⟩) (meth := k10m1) (c := k10c1) (by decide +kernel) rfl rfl rfl (by decide +kernel)
set_option maxRecDepth 65536 in
theorem w_c17 : (Jvm.Cond.code ({ cls := "java/lang/String", name := "checkIndex", desc := "(II)V" } : Jvm.MethodName) jdk_42_method_155_code (2 : Nat) (Option.none : Option Jvm.ClassFile.FieldType)).before args0 about1 = true := code_word (m := ⟨8, 8⟩) (meth := k8m8) (c := k8c8) (by decide +kernel) rfl rfl rfl (by decide +kernel)
set_option maxRecDepth 65536 in
theorem w_c18 : (Jvm.Cond.code ({ cls := "jdk/internal/util/Preconditions", name := "checkIndex", desc := "(IILjava/util/function/BiFunction;)I" } : Jvm.MethodName) jdk_41_method_11_code (3 : Nat) (Option.some Jvm.ClassFile.FieldType.int)).before args0 about1 = true := code_word (m := ⟨11, 1⟩) (meth := k11m1) (c := k11c1) (by decide +kernel) rfl rfl rfl (by decide +kernel)
def codes1 : List Jvm.Cond := [Jvm.Cond.code x code maxLocals ret, Jvm.Cond.code ({ cls := "com/example/margay/margay/index/LineCounter", name := "<init>", desc := "(Ljava/lang/String;)V" } : Jvm.MethodName) prog_53_method_1_code (2 : Nat) (Option.none : Option Jvm.ClassFile.FieldType), Jvm.Cond.code ({ cls := "java/lang/Object", name := "<init>", desc := "()V" } : Jvm.MethodName) object_method_1_code (1 : Nat) (Option.none : Option Jvm.ClassFile.FieldType), Jvm.Cond.code ({ cls := "java/lang/String", name := "equals", desc := "(Ljava/lang/Object;)Z" } : Jvm.MethodName) jdk_42_method_66_code (3 : Nat) (Option.some Jvm.ClassFile.FieldType.boolean), Jvm.Cond.code ({ cls := "com/example/margay/margay/index/LineCounter", name := "endsLine", desc := "(C)Z" } : Jvm.MethodName) prog_53_method_3_code (2 : Nat) (Option.some Jvm.ClassFile.FieldType.boolean), Jvm.Cond.code ({ cls := "com/example/margay/margay/index/LineCounterEndsLinePinLaw", name := "ch", desc := "(JI)C" } : Jvm.MethodName) method_2_code (3 : Nat) (Option.some Jvm.ClassFile.FieldType.char), Jvm.Cond.code ({ cls := "java/lang/String", name := "<init>", desc := "([C)V" } : Jvm.MethodName) jdk_42_method_3_code (2 : Nat) (Option.none : Option Jvm.ClassFile.FieldType), Jvm.Cond.code ({ cls := "java/lang/String", name := "<init>", desc := "([CIILjava/lang/Void;)V" } : Jvm.MethodName) jdk_42_method_149_code (6 : Nat) (Option.none : Option Jvm.ClassFile.FieldType), Jvm.Cond.code ({ cls := "java/lang/StringUTF16", name := "compress", desc := "([CII)[B" } : Jvm.MethodName) jdk_52_method_16_code (6 : Nat) (Option.some (Jvm.ClassFile.FieldType.array Jvm.ClassFile.FieldType.byte)), Jvm.Cond.code ({ cls := "java/lang/StringUTF16", name := "compress", desc := "([CI[BII)I" } : Jvm.MethodName) jdk_52_method_21_code (7 : Nat) (Option.some Jvm.ClassFile.FieldType.int), Jvm.Cond.code ({ cls := "java/lang/StringUTF16", name := "coderFromArrayLen", desc := "([BI)B" } : Jvm.MethodName) jdk_52_method_15_code (2 : Nat) (Option.some Jvm.ClassFile.FieldType.byte), Jvm.Cond.code ({ cls := "java/lang/String", name := "length", desc := "()I" } : Jvm.MethodName) jdk_42_method_54_code (1 : Nat) (Option.some Jvm.ClassFile.FieldType.int), Jvm.Cond.code ({ cls := "java/lang/String", name := "coder", desc := "()B" } : Jvm.MethodName) jdk_42_method_152_code (1 : Nat) (Option.some Jvm.ClassFile.FieldType.byte), Jvm.Cond.code ({ cls := "java/lang/StringLatin1", name := "equals", desc := "([B[B)Z" } : Jvm.MethodName) jdk_43_method_13_code (3 : Nat) (Option.some Jvm.ClassFile.FieldType.boolean), Jvm.Cond.code ({ cls := "java/lang/String", name := "charAt", desc := "(I)C" } : Jvm.MethodName) jdk_42_method_56_code (2 : Nat) (Option.some Jvm.ClassFile.FieldType.char), Jvm.Cond.code ({ cls := "java/lang/String", name := "isLatin1", desc := "()Z" } : Jvm.MethodName) jdk_42_method_154_code (1 : Nat) (Option.some Jvm.ClassFile.FieldType.boolean), Jvm.Cond.code ({ cls := "java/lang/StringLatin1", name := "charAt", desc := "([BI)C" } : Jvm.MethodName) jdk_43_method_2_code (2 : Nat) (Option.some Jvm.ClassFile.FieldType.char), Jvm.Cond.code ({ cls := "java/lang/String", name := "checkIndex", desc := "(II)V" } : Jvm.MethodName) jdk_42_method_155_code (2 : Nat) (Option.none : Option Jvm.ClassFile.FieldType), Jvm.Cond.code ({ cls := "jdk/internal/util/Preconditions", name := "checkIndex", desc := "(IILjava/util/function/BiFunction;)I" } : Jvm.MethodName) jdk_41_method_11_code (3 : Nat) (Option.some Jvm.ClassFile.FieldType.int)]
set_option maxRecDepth 65536 in
theorem codes_eq : words1.filter isCode = codes1 := rfl
theorem w_codes : ∀ c ∈ words1.filter isCode, c.before args0 about1 = true := by
  rw [codes_eq]
  intro c hc
  simp only [codes1, List.mem_cons, List.not_mem_nil, or_false] at hc
  rcases hc with rfl | rfl | rfl | rfl | rfl | rfl | rfl | rfl | rfl | rfl | rfl | rfl | rfl | rfl | rfl | rfl | rfl | rfl | rfl
  · exact w_c0
  · exact w_c1
  · exact w_c2
  · exact w_c3
  · exact w_c4
  · exact w_c5
  · exact w_c6
  · exact w_c7
  · exact w_c8
  · exact w_c9
  · exact w_c10
  · exact w_c11
  · exact w_c12
  · exact w_c13
  · exact w_c14
  · exact w_c15
  · exact w_c16
  · exact w_c17
  · exact w_c18
set_option maxRecDepth 65536 in
theorem w_t1 : (words1.take 24).all (fun c => isCode c || c.before args0 about1) = true := by decide +kernel
set_option maxRecDepth 65536 in
theorem w_t2 : ((words1.drop 24).take 24).all (fun c => isCode c || c.before args0 about1) = true := by decide +kernel
set_option maxRecDepth 65536 in
theorem w_t3 : (((words1.drop 24).drop 24).take 24).all (fun c => isCode c || c.before args0 about1) = true := by decide +kernel
set_option maxRecDepth 65536 in
theorem w_t4 : ((((words1.drop 24).drop 24).drop 24).take 24).all (fun c => isCode c || c.before args0 about1) = true := by decide +kernel
set_option maxRecDepth 65536 in
theorem w_t5 : ((((words1.drop 24).drop 24).drop 24).drop 24).all (fun c => isCode c || c.before args0 about1) = true := by decide +kernel
theorem w_tables : (allAtoms (Jvm.Cond.code x code maxLocals ret :: tables_1)).before args0 about1 = true := by
  rw [allAtoms_all]
  show words1.all (fun c => c.before args0 about1) = true
  refine all_split ?_ w_codes
  rw [← List.take_append_drop 24 words1, List.all_append, w_t1, ← List.take_append_drop 24 (words1.drop 24), List.all_append, w_t2, ← List.take_append_drop 24 ((words1.drop 24).drop 24), List.all_append, w_t3, ← List.take_append_drop 24 (((words1.drop 24).drop 24).drop 24), List.all_append, w_t4, w_t5]
  rfl
set_option maxRecDepth 65536 in
theorem w_rest : rest_1_c.before args0 about1 = true := by decide +kernel
set_option maxRecDepth 65536 in
theorem w_case : (Jvm.Cond.and given_1 narrow_1).before args0 about1 = true := by decide +kernel
set_option maxRecDepth 65536 in
theorem w_consts : constsHeld consts_1 about1 := Jvm.Lit.constsHeldB_iff.mp (by decide +kernel)
theorem w_applies : (headSpec (Jvm.Cond.code x code maxLocals ret :: tables_1) room_1).applies x e0.platform about1 = true :=
  (Spec.applies_iff w_frames).mpr ⟨w_running, w_runnable, w_alone, w_named, w_hears, w_ripe, w_room, w_tables⟩
theorem atStart : AtStart classFile x code maxLocals ret World_1 tables_1 room_1 Calls_1 rest_1 Pre_1 launch0 p0 e0 about1 theMethod args0 below0 :=
  ⟨lists_1, trivial, launch0.admits_env _ _ _, launch0.least_env, fairChoices_fair.cas, fairChoices_fair.clock, w_frames, w_args, w_heap, w_applies, ⟨w_consts, trivial⟩, w_rest, w_case⟩
end start1
theorem witness_1 : WitnessClaimed_1 := ⟨start1.p0, start1.e0, start1.about1, start1.theMethod, start1.args0, start1.below0, start1.atStart⟩
end Jvm.Pilot.@@N@@
