import JvmDerived
import JvmDerived.Pilot.@@N@@Statement
import JvmDerived.Pilot.@@N@@Code
set_option linter.unusedVariables false
set_option linter.unusedSimpArgs false
namespace Jvm.Pilot.@@N@@
open Jvm Jvm.ClassFile Sem Op Lib Jvm.Free Jvm.Stand Jvm.LawKit Jvm.RoadKit Bundle Jvm.Pilot.@@N@@.Jvm.D
def own_Go (p : Program) (e : Env) (below : List Frame) (P : Outcome → State → Prop) (st : State) : Prop :=
  ∃ s₂ o, Steps p.tables e below st s₂ ∧ s₂.status = .running ∧ Ended s₂ below o ∧ P o s₂
def own_Fin (s : State) (C S : Nat) (Q : Option Value → Heap → List Loc → Prop) (o : Outcome) (U : State) : Prop := ∃ v L, o = .returned v ∧ Q v U.heap L ∧ FrameEnd s o U L C S
def own_upd {α : Type} (f : Nat → α) (j : Nat) (v : α) : Nat → α := fun i => if i = j then v else f i
def own_Arf (Z : State) (h : Heap) (a : Addr) (k : ClassId) (ty : FieldType) (n : Int32) (f : Nat → Value) : Prop := ∃ c : Cell, Arr Z h a c ty ∧ c.cls = k ∧ c.slots.size = n.toNatClampNeg ∧ ¬ n < 0 ∧ (∀ i, i < c.slots.size → c.slots[i]? = some (f i)) ∧ ∀ i, i < c.slots.size → fits ty (f i) = true
section OwnKit
variable {p : Program} {l : Launch} {e : Env} {R : Room} {s : State} {m : MethodId} {args : Array Value} {below : List Frame} {meth : Method} {c : Code} {T : State} {locs : List Loc} {cells slots C S : Nat} {P : Outcome → State → Prop} {Q : Option Value → Heap → List Loc → Prop} {Z : State} {h h' : Heap} {a b : Addr} {k : ClassId} {ty : FieldType} {n : Int32} {ws : List Addr}
theorem own_by {st st' : State} (f : ∀ t, Steps p.tables e below st' t → Steps p.tables e below st t) (g : own_Go p e below P st') : own_Go p e below P st := by
  obtain ⟨s₂, o, h1, h2⟩ := g
  exact ⟨s₂, o, f _ h1, h2⟩
theorem own_mono (X : Stand p l e R s m args below meth c T locs cells slots) {c' s' : Nat} (hc : cells ≤ c') (hs : slots ≤ s') : Stand p l e R s m args below meth c T locs c' s' := { X with same := X.same.mono hc hs }
theorem own_end (X : Stand p l e R s m args below meth c T locs cells slots) {v : Option Value} (hv : meth.sig.returnType = none → v = none) (hlk : meth.locks = false) (eT : T.heap = h) (hQ : Q v h locs) (hc : cells ≤ C) (hs : slots ≤ S)
    {g : JFrame} (st : ∀ fs, (∀ (f : JFrame) (acts : List Action), f.method = m → f.locked = none → f.entered = [] → (doReturn e (T.setTop f) acts v).1 = T.setFrames fs) → Steps p.tables e below (T.setTop g) (T.setFrames fs)) : own_Go p e below (own_Fin s C S Q) (T.setTop g) := by
  obtain ⟨fs, hr, hrun, hended, hW, hsame⟩ := X.leave (v := v) hv hlk
  refine ⟨_, _, st fs hr, hrun, hended, v, locs, rfl, ?_, ⟨_, rfl⟩, hW, hsame.mono hc hs⟩
  show Q v T.heap locs
  rw [eT]; exact hQ
theorem own_retN (X : Stand p l e R s m args below meth c T locs cells slots) (hx : p.tables.exec = Jvm.exec) {pc : Nat} {Ls : Array Slot} {z : Int32} {t : FieldType} {rest : List Value} (hret : meth.sig.returnType = some t) (ht : t = .boolean ∨ t = .byte ∨ t = .char ∨ t = .short) (hd : decode c.code pc = .ok (.ireturn, 1)) (hlk : meth.locks = false) (eT : T.heap = h) (hQ : Q (some (.int (nar t z))) h locs) (hc : cells ≤ C) (hs : slots ≤ S) : own_Go p e below (own_Fin s C S Q) (T.setTop (mkF m pc Ls (.int z :: rest))) :=
  own_end X (fun h => by rw [hret] at h; cases h) hlk eT hQ hc hs fun fs hr => retN X hx hret ht hd hr
theorem own_retI (X : Stand p l e R s m args below meth c T locs cells slots) (hx : p.tables.exec = Jvm.exec) {pc : Nat} {Ls : Array Slot} {z : Int32} {rest : List Value} (hret : meth.sig.returnType = some .int) (hd : decode c.code pc = .ok (.ireturn, 1)) (hlk : meth.locks = false) (eT : T.heap = h) (hQ : Q (some (.int z)) h locs) (hc : cells ≤ C) (hs : slots ≤ S) : own_Go p e below (own_Fin s C S Q) (T.setTop (mkF m pc Ls (.int z :: rest))) :=
  own_end X (fun h => by rw [hret] at h; cases h) hlk eT hQ hc hs fun fs hr => retOut X hx hret rfl (Or.inl ⟨rfl, Or.inl rfl, _, rfl⟩) hd hr
theorem own_retJ (X : Stand p l e R s m args below meth c T locs cells slots) (hx : p.tables.exec = Jvm.exec) {pc : Nat} {Ls : Array Slot} {z : Int64} {rest : List Value} (hret : meth.sig.returnType = some .long) (hd : decode c.code pc = .ok (.lreturn, 1)) (hlk : meth.locks = false) (eT : T.heap = h) (hQ : Q (some (.long z)) h locs) (hc : cells ≤ C) (hs : slots ≤ S) : own_Go p e below (own_Fin s C S Q) (T.setTop (mkF m pc Ls (.long z :: rest))) :=
  own_end X (fun h => by rw [hret] at h; cases h) hlk eT hQ hc hs fun fs hr => retOut X hx hret rfl (Or.inr (Or.inl ⟨rfl, rfl, _, rfl⟩)) hd hr
theorem own_retD (X : Stand p l e R s m args below meth c T locs cells slots) (hx : p.tables.exec = Jvm.exec) {pc : Nat} {Ls : Array Slot} {z : UInt64} {rest : List Value} (hret : meth.sig.returnType = some .double) (hd : decode c.code pc = .ok (.dreturn, 1)) (hlk : meth.locks = false) (eT : T.heap = h) (hQ : Q (some (.double z)) h locs) (hc : cells ≤ C) (hs : slots ≤ S) : own_Go p e below (own_Fin s C S Q) (T.setTop (mkF m pc Ls (.double z :: rest))) :=
  own_end X (fun h => by rw [hret] at h; cases h) hlk eT hQ hc hs fun fs hr => retOut X hx hret rfl (Or.inr (Or.inr (Or.inl ⟨rfl, rfl, _, rfl⟩))) hd hr
theorem own_retR (X : Stand p l e R s m args below meth c T locs cells slots) (hx : p.tables.exec = Jvm.exec) {pc : Nat} {Ls : Array Slot} {w : Value} {t : FieldType} {rest : List Value} (hret : meth.sig.returnType = some t) (ht : t.isReference = true) (hw : w.isRef = true) (hd : decode c.code pc = .ok (.areturn, 1)) (hlk : meth.locks = false) (eT : T.heap = h) (hQ : Q (some w) h locs) (hc : cells ≤ C) (hs : slots ≤ S) : own_Go p e below (own_Fin s C S Q) (T.setTop (mkF m pc Ls (w :: rest))) :=
  own_end X (fun h => by rw [hret] at h; cases h) hlk eT hQ hc hs fun fs hr => retOut X hx hret (by cases t <;> first | rfl | (cases w <;> first | rfl | cases hw) | (cases ht)) (Or.inr (Or.inr (Or.inr (Or.inr ⟨rfl, ht, hw⟩)))) hd hr
theorem own_ret0 (X : Stand p l e R s m args below meth c T locs cells slots) (hx : p.tables.exec = Jvm.exec) {pc : Nat} {Ls : Array Slot} (hret : meth.sig.returnType = none) (hd : decode c.code pc = .ok (.return_, 1)) (hlk : meth.locks = false) (eT : T.heap = h) (hQ : Q none h locs) (hc : cells ≤ C) (hs : slots ≤ S) : own_Go p e below (own_Fin s C S Q) (T.setTop (mkF m pc Ls [])) :=
  own_end X (fun _ => rfl) hlk eT hQ hc hs fun fs hr => X.returnOut hx hret hd hr
theorem own_one {z : Int32} (q : z = 1) : (some (.int (nar .boolean z)) : Option Value) = some (.int 1) := by subst q; rfl
theorem own_lrem {g : JFrame} {target : State} (hh : At T m c below) (hx : p.tables.exec = Jvm.exec) (hg : g.method = m) {x y : Int64} {rest : List Value} (hd : decode c.code g.pc = .ok (.lrem, 1)) (hs : g.stack = .long y :: .long x :: rest) (hy : y ≠ 0)
    (hr : Steps p.tables e below (T.setTop { g with pc := g.pc + 1, stack := .long (x % y) :: rest }) target) : Steps p.tables e below (T.setTop g) target :=
  XS.lrem hh hx hg hd hs hy (by rw [lrem_mod]; exact hr)
theorem own_Arf.lt {f : Nat → Value} (F : own_Arf Z h a k ty n f) : a < h.size := by obtain ⟨c, A, -⟩ := F; exact A.lt
theorem own_Arf.ext {f : Nat → Value} (F : own_Arf Z h a k ty n f) (E : Ext h h') : own_Arf Z h' a k ty n f := by obtain ⟨c, A, r⟩ := F; exact ⟨c, A.ext E, r⟩
theorem own_Arf.other {f : Nat → Value} {sl : Nat} {v : Value} (F : own_Arf Z h b k ty n f) (W : Wr h h' a sl v) (q : b ≠ a) : own_Arf Z h' b k ty n f := by obtain ⟨c, A, r⟩ := F; exact ⟨c, A.other W q, r⟩
theorem own_Arf.keep {f : Nat → Value} (F : own_Arf Z h a k ty n f) (K : Keep h h' ws) (q : a ∉ ws) : own_Arf Z h' a k ty n f := by obtain ⟨c, A, r⟩ := F; exact ⟨c, ⟨K.2.1 a c A.1 q, A.2⟩, r⟩
theorem own_arfNew (A : Arr Z h a (newA k ty n) ty) (q : ¬ n < 0) : own_Arf Z h a k ty n (fun _ => defaultValue ty) := ⟨_, A, rfl, sz_new _ _ _, q, fun i hi => by
  rw [sz_new] at hi; simp [newA, hi], fun i _ => by cases ty <;> rfl⟩
theorem own_arfSet {cl : Cell} {f : Nat → Value} {j : Nat} {v : Value} (A : Arr Z h a cl ty) (q1 : cl.cls = k) (S : cl.slots.size = n.toNatClampNeg) (q3 : ¬ n < 0) (H : ∀ i, i < cl.slots.size → cl.slots[i]? = some (f i)) (G : ∀ i, i < cl.slots.size → fits ty (f i) = true) (hv : fits ty v = true) (W : Wr h h' a j v) : own_Arf Z h' a k ty n (own_upd f j v) := by
  refine ⟨_, A.same W, q1, by rw [sz_set]; exact S, q3, fun i hi => ?_, fun i hi => ?_⟩
  · rw [sz_set] at hi
    by_cases u : j = i
    · subst u; simp [Cell.setSlot, hi, own_upd]
    · have := H i hi; simp only [Cell.setSlot] at this ⊢
      rw [Array.getElem?_setIfInBounds_ne u, this]; simp [own_upd, Ne.symm u]
  · rw [sz_set] at hi
    by_cases u : j = i
    · subst u; simpa [own_upd] using hv
    · have := G i hi; simpa [own_upd, Ne.symm u] using this
theorem own_arfSetI {cl : Cell} {f : Nat → Int32} {j : Nat} {v : Int32} (A : Arr Z h a cl ty) (q1 : cl.cls = k) (S : cl.slots.size = n.toNatClampNeg) (q3 : ¬ n < 0) (H : ∀ i, i < cl.slots.size → cl.slots[i]? = some (.int (f i))) (G : ∀ i, i < cl.slots.size → fits ty (.int (f i)) = true) (hv : fits ty (.int v) = true) (W : Wr h h' a j (.int v)) : own_Arf Z h' a k ty n (fun i => .int (own_upd f j v i)) := by
  have q := own_arfSet (f := fun i => .int (f i)) A q1 S q3 H G hv W
  have e : (own_upd (fun i => Value.int (f i)) j (.int v)) = (fun i => .int (own_upd f j v i)) := by funext i; simp only [own_upd]; split <;> rfl
  rw [← e]; exact q
theorem own_arfSetJ {cl : Cell} {f : Nat → Int64} {j : Nat} {v : Int64} (A : Arr Z h a cl ty) (q1 : cl.cls = k) (S : cl.slots.size = n.toNatClampNeg) (q3 : ¬ n < 0) (H : ∀ i, i < cl.slots.size → cl.slots[i]? = some (.long (f i))) (G : ∀ i, i < cl.slots.size → fits ty (.long (f i)) = true) (hv : fits ty (.long v) = true) (W : Wr h h' a j (.long v)) : own_Arf Z h' a k ty n (fun i => .long (own_upd f j v i)) := by
  have q := own_arfSet (f := fun i => .long (f i)) A q1 S q3 H G hv W
  have e : (own_upd (fun i => Value.long (f i)) j (.long v)) = (fun i => .long (own_upd f j v i)) := by funext i; simp only [own_upd]; split <;> rfl
  rw [← e]; exact q
theorem own_arfSetD {cl : Cell} {f : Nat → UInt64} {j : Nat} {v : UInt64} (A : Arr Z h a cl ty) (q1 : cl.cls = k) (S : cl.slots.size = n.toNatClampNeg) (q3 : ¬ n < 0) (H : ∀ i, i < cl.slots.size → cl.slots[i]? = some (.double (f i))) (G : ∀ i, i < cl.slots.size → fits ty (.double (f i)) = true) (hv : fits ty (.double v) = true) (W : Wr h h' a j (.double v)) : own_Arf Z h' a k ty n (fun i => .double (own_upd f j v i)) := by
  have q := own_arfSet (f := fun i => .double (f i)) A q1 S q3 H G hv W
  have e : (own_upd (fun i => Value.double (f i)) j (.double v)) = (fun i => .double (own_upd f j v i)) := by funext i; simp only [own_upd]; split <;> rfl
  rw [← e]; exact q
theorem own_neArr {A0 : Array Value} {C : String} {kk : Nat} {f : Nat → Value} (F : Exa Z h a C) (wi : (Cond.instantiable C kk).before A0 Z = true) (G : own_Arf Z h b k ty n f) : a ≠ b := by
  obtain ⟨c, A, -⟩ := G
  exact ne_arr F wi A
theorem own_selPriv {Z s : State} {A0 args : Array Value} {y : MethodName} {n : Nat} (hZ : Z.Warmed39 s.vm) (wi : (Cond.instantiable y.cls n).before A0 Z = true) (wp : (Cond.privateMethod y).before A0 Z = true) (wm : (Cond.instanceMethod y).before A0 Z = true) (hy : y.cls ≠ "java/lang/invoke/MethodHandle" ∧ y.cls ≠ "java/lang/invoke/VarHandle") : (Cond.selects y.cls y y).before args s = true := by
  have wi' : (Cond.instantiable y.cls n).before args s = true := mvT hZ wi
  obtain ⟨c, k, h1, h2, h3, h4, -⟩ := Cond.instantiable_spec wi'
  refine selects_self_of_private h1 h2 ?_ (Cond.privateMethod_at (mvP hZ wp (args := args))) (mvT hZ wm) hy
  cases hi : k.isInterface <;> simp_all
theorem own_fitR {t : FieldType} {v : Value} (h : v.isRef = true) : fits (.array t) v = true := by cases v <;> first | rfl | cases h
theorem own_fitO {t : String} {v : Value} (h : v.isRef = true) : fits (.object t) v = true := by cases v <;> first | rfl | cases h
theorem own_exaPlain {C : String} (E : Exa Z h a C) : ∀ c : Cell, h[a]? = some c → c.vm.isStatics = false := fun c hc => by
  obtain ⟨cell, k, h1, -, -, h4, -⟩ := E
  cases h1.symm.trans hc; exact h4
theorem own_arfPlain {f : Nat → Value} (F : own_Arf Z h a k ty n f) : ∀ c : Cell, h[a]? = some c → c.vm.isStatics = false := fun c hc => by
  obtain ⟨cell, A, -⟩ := F
  cases A.1.symm.trans hc; exact A.plain
theorem own_staKeep {C nn d : String} {w : Value} (F : Sta Z h C nn d w) (K : Keep h h' ws) (hp : ∀ x ∈ ws, ∀ c : Cell, h[x]? = some c → c.vm.isStatics = false) : Sta Z h' C nn d w := by
  obtain ⟨cf, i, k, f, st, cell, h1, h2, h3, h4, h5, h6, h7⟩ := F
  have hn : st ∉ ws := fun hm => by have := hp st hm cell h5; rw [h6] at this; cases this
  exact ⟨cf, i, k, f, st, cell, h1, h2, h3, h4, K.2.1 st cell h5 hn, h6, h7⟩
theorem own_cat1 {v : Value} (h : v.isRef = true) : v.category = 1 := by cases v <;> first | rfl | cases h
end OwnKit

def own_FinW (Z : State) (EL : List (String × Nat)) (s : State) (C S : Nat) (Q : Option Value → Heap → List Loc → Prop) (o : Outcome) (U : State) : Prop := ∃ v L, o = .returned v ∧ Q v U.heap L ∧ CHr Z EL s.vm s.heap U.vm U.heap ∧ ReturnedEndW s o U L C S
def own_li (l : List Int32) : Nat → Int32 := fun i => l.getD i 0
section OwnCold
variable {p : Program} {l : Launch} {e : Env} {R : Room} {s : State} {m : MethodId} {args : Array Value} {below : List Frame} {meth : Method} {c : Code} {T : State} {locs : List Loc} {cells slots C S : Nat} {Q : Option Value → Heap → List Loc → Prop} {Z : State} {h h' h0 : Heap} {a b : Addr} {k : ClassId} {ty : FieldType} {n : Int32} {ws : List Addr} {a0 : Array Value} {EL : List (String × Nat)} {vm0 : Vm} {k0 : Nat}
theorem own_endW (X : Stand p l e R (s.setVm vm0) m args below meth c T locs cells slots) (hS : s.Since vm0 k0) (hk : k0 ≤ h.size) (hZ : Z.Warmed39 vm0) (hEL : EW Z a0 EL) (hh : s.heap = h0) (CR : CHr Z EL s.vm h0 vm0 h) {v : Option Value} (hv : meth.sig.returnType = none → v = none) (hlk : meth.locks = false) (eT : T.heap = h) (hQ : Q v h locs) (hc : cells ≤ C) (hs : slots ≤ S)
    {g : JFrame} (st : ∀ fs, (∀ (f : JFrame) (acts : List Action), f.method = m → f.locked = none → f.entered = [] → (doReturn e (T.setTop f) acts v).1 = T.setFrames fs) → Steps p.tables e below (T.setTop g) (T.setFrames fs)) : own_Go p e below (own_FinW Z EL s C S Q) (T.setTop g) := by
  obtain ⟨fs, hr, hrun, hended, hret, hW, hB, hsame⟩ := X.leaveW hS (by rw [eT]; exact hk) (v := v) hv hlk
  refine ⟨_, _, st fs hr, hrun, hended, v, locs, rfl, ?_, ?_, ⟨_, rfl⟩, hW, hB, hsame.mono hc hs⟩
  · show Q v T.heap locs
    rw [eT]; exact hQ
  · show CHr Z EL s.vm s.heap T.vm T.heap
    rw [hh, eT]; exact CR.trans (CHv.at X hZ hEL CR.1)
theorem own_retNW (X : Stand p l e R (s.setVm vm0) m args below meth c T locs cells slots) (hx : p.tables.exec = Jvm.exec) (hS : s.Since vm0 k0) (hk : k0 ≤ h.size) (hZ : Z.Warmed39 vm0) (hEL : EW Z a0 EL) (hh : s.heap = h0) (CR : CHr Z EL s.vm h0 vm0 h) {pc : Nat} {Ls : Array Slot} {z : Int32} {t : FieldType} {rest : List Value} (hret : meth.sig.returnType = some t) (ht : t = .boolean ∨ t = .byte ∨ t = .char ∨ t = .short) (hd : decode c.code pc = .ok (.ireturn, 1)) (hlk : meth.locks = false) (eT : T.heap = h) (hQ : Q (some (.int (nar t z))) h locs) (hc : cells ≤ C) (hs : slots ≤ S) : own_Go p e below (own_FinW Z EL s C S Q) (T.setTop (mkF m pc Ls (.int z :: rest))) :=
  own_endW X hS hk hZ hEL hh CR (fun h => by rw [hret] at h; cases h) hlk eT hQ hc hs fun fs hr => retN X hx hret ht hd hr
theorem own_retRW (X : Stand p l e R (s.setVm vm0) m args below meth c T locs cells slots) (hx : p.tables.exec = Jvm.exec) (hS : s.Since vm0 k0) (hk : k0 ≤ h.size) (hZ : Z.Warmed39 vm0) (hEL : EW Z a0 EL) (hh : s.heap = h0) (CR : CHr Z EL s.vm h0 vm0 h) {pc : Nat} {Ls : Array Slot} {w : Value} {t : FieldType} {rest : List Value} (hret : meth.sig.returnType = some t) (ht : t.isReference = true) (hw : w.isRef = true) (hd : decode c.code pc = .ok (.areturn, 1)) (hlk : meth.locks = false) (eT : T.heap = h) (hQ : Q (some w) h locs) (hc : cells ≤ C) (hs : slots ≤ S) : own_Go p e below (own_FinW Z EL s C S Q) (T.setTop (mkF m pc Ls (w :: rest))) :=
  own_endW X hS hk hZ hEL hh CR (fun h => by rw [hret] at h; cases h) hlk eT hQ hc hs fun fs hr => retOut X hx hret (by cases t <;> first | rfl | (cases w <;> first | rfl | cases hw) | (cases ht)) (Or.inr (Or.inr (Or.inr (Or.inr ⟨rfl, ht, hw⟩)))) hd hr
theorem own_ret0W (X : Stand p l e R (s.setVm vm0) m args below meth c T locs cells slots) (hx : p.tables.exec = Jvm.exec) (hS : s.Since vm0 k0) (hk : k0 ≤ h.size) (hZ : Z.Warmed39 vm0) (hEL : EW Z a0 EL) (hh : s.heap = h0) (CR : CHr Z EL s.vm h0 vm0 h) {pc : Nat} {Ls : Array Slot} (hret : meth.sig.returnType = none) (hd : decode c.code pc = .ok (.return_, 1)) (hlk : meth.locks = false) (eT : T.heap = h) (hQ : Q none h locs) (hc : cells ≤ C) (hs : slots ≤ S) : own_Go p e below (own_FinW Z EL s C S Q) (T.setTop (mkF m pc Ls [])) :=
  own_endW X hS hk hZ hEL hh CR (fun _ => rfl) hlk eT hQ hc hs fun fs hr => X.returnOut hx hret hd hr
theorem own_arfSafe {f : Nat → Value} {vm : Vm} (F : own_Arf Z h a k ty n f) (hal : Z.vm.Alike vm) (ht : ty ≠ .byte) : Safe Z EL vm h a := by
  obtain ⟨c, A, -⟩ := F
  exact Safe.arr hal A ht
theorem own_arfLi {vs : List Int32} (V : Arv Z h b k ty n (vs.map Value.int) (.int 0)) : own_Arf Z h b k ty n (fun i => .int (own_li vs i)) := by
  obtain ⟨c, A, q1, q2, q3, H, G⟩ := V
  have e : ∀ i, (vs.map Value.int).getD i (.int 0) = .int (own_li vs i) := fun i => by
    simp only [own_li, List.getD_eq_getElem?_getD, List.getElem?_map]
    cases vs[i]? <;> rfl
  exact ⟨c, A, q1, q2, q3, fun i hi => by rw [H i hi, e], fun i hi => by show fits ty (.int (own_li vs i)) = true; rw [← e]; exact G i hi⟩
/-- one object, two sets of facts: they agree -/
theorem own_fldEqV {C n d : String} {v w : Value} (F : Fld Z h a C n d v) (G : Fld Z h a C n d w) : v = w := Classical.byContradiction fun q => F.ne G q rfl
theorem own_arfSame {f g : Nat → Value} {k' : ClassId} {n' : Int32} (F : own_Arf Z h a k ty n f) (G : own_Arf Z h a k' ty n' g) : n.toNatClampNeg = n'.toNatClampNeg ∧ ∀ i, i < n.toNatClampNeg → f i = g i := by
  obtain ⟨c, A, -, q2, -, H, -⟩ := F
  obtain ⟨c', A', -, q2', -, H', -⟩ := G
  cases A.1.symm.trans A'.1
  refine ⟨q2.symm.trans q2', fun i hi => ?_⟩
  have h1 := H i (by rw [q2]; exact hi)
  have h2 := H' i (by rw [q2]; exact hi)
  exact Option.some.inj (h1.symm.trans h2)
theorem own_since (s : State) (n : Nat) : s.Since s.vm n := (State.WarmedH.refl s).since n
end OwnCold
theorem own_landNN (x : Int64) : ¬ ((x &&& (9223372036854775807 : Int64)) < (0 : Int64)) := by
  have h := (c_andSL x 9223372036854775807).2.2 (by decide)
  rw [Int64.lt_iff_toInt_lt]
  have e : (0 : Int64).toInt = 0 := rfl
  omega
theorem own_rem (x : Int32) (d : Int) (y : Int32) (hy : y.toInt = d) (h0 : 0 < d) : 0 ≤ ((x &&& 2147483647) % y).toInt ∧ ((x &&& 2147483647) % y).toInt < d := by
  have h1 := c_and x 2147483647 (by decide)
  have h2 := (c_irem (x &&& 2147483647) y d hy).1 h1.1
  rw [h2]; exact ⟨Int.emod_nonneg _ (by omega), Int.emod_lt_of_pos _ h0⟩
theorem own_fldEq {args : Array Value} {s : State} {t : Term} {a : Addr} {C n d : String} {k : Int32} (h : (Jvm.Cond.eq (Term.field t C n d) (Term.int k)).value args s none s [] = some true) (ev : t.eval args s none [] s = some (.ref a)) : Fld s s.heap a C n d (.int k) := by
  refine Fld.start ?_
  have e1 := fld_at (C := C) (n := n) (dd := d) ev
  have e2 : (Term.int k).eval args s none [] s = some (.int k) := rfl
  simp only [Cond.value, e1, e2] at h
  cases hf : s.fieldOf? a C n d with
  | none => rw [hf] at h; simp at h
  | some v =>
    rw [hf] at h
    cases v <;> simp_all
theorem own_s16 (x : Int32) (h1 : -32768 ≤ x.toInt) (h2 : x.toInt < 32768) : x.toInt16.toInt32 = x := by
  have h := c_i2s x
  apply Int32.toInt_inj.mp
  omega
def own_eq3 (f g : Nat → Int32) (z : Int32) : Prop := (z = 1 ∧ f 0 = g 0 ∧ f 1 = g 1 ∧ f 2 = g 2) ∨ (z = 0 ∧ ¬ (f 0 = g 0 ∧ f 1 = g 1 ∧ f 2 = g 2))
theorem own_eq3nar {f g : Nat → Int32} {z : Int32} (h : own_eq3 f g z) : own_eq3 f g (nar .boolean z) := by
  rcases h with ⟨rfl, h⟩ | ⟨rfl, h⟩
  · exact Or.inl ⟨rfl, h⟩
  · exact Or.inr ⟨rfl, h⟩
theorem own_eqSame {Z : State} {h : Heap} {a a' t t' : Addr} {k k' : ClassId} {f g : Nat → Int32} (e : a = a') (F : Fld Z h a "java/lang/String" "value" "[B" (.ref t)) (G : Fld Z h a' "java/lang/String" "value" "[B" (.ref t')) (V : own_Arf Z h t k .byte (3 : Int32) (fun i => .int (f i))) (W : own_Arf Z h t' k' .byte (3 : Int32) (fun i => .int (g i))) : own_eq3 f g 1 := by
  subst e
  cases own_fldEqV F G
  obtain ⟨-, q⟩ := own_arfSame V W
  exact Or.inl ⟨rfl, Value.int.inj (q 0 (by decide)), Value.int.inj (q 1 (by decide)), Value.int.inj (q 2 (by decide))⟩
def own_join (c x : Int32) : Prop := c = 10 ∨ (x ≠ 0 ∧ c = 133)
def own_ends (c x : Int32) : Prop := c = 13 ∨ c = 10 ∨ (x ≠ 0 ∧ (c = 133 ∨ c = 8232))
def own_is (P : Prop) (z : Int32) : Prop := (P ∧ z = 1) ∨ (¬ P ∧ z = 0)
def own_cnt (c acr x col line acr' col' line' : Int32) : Prop := own_is (c = 13) acr' ∧ ((¬ own_ends c x ∧ col' = col + 1 ∧ line' = line) ∨ (own_ends c x ∧ (acr ≠ 0 ∧ own_join c x) ∧ col' = col ∧ line' = line) ∨ (own_ends c x ∧ ¬ (acr ≠ 0 ∧ own_join c x) ∧ col' = 1 ∧ line' = line + 1))
theorem own_ch (x : Int32) : ¬ (255 : Int32) < nar .char ((x &&& 255).toUInt32.toUInt16.toUInt32.toInt32) := by
  have h1 := c_and x 255 (by decide)
  have h2 := c_i2c (x &&& 255)
  have h3 := c_i2c ((x &&& 255).toUInt32.toUInt16.toUInt32.toInt32)
  have e : (255 : Int32).toInt = 255 := rfl
  rw [Int32.lt_iff_toInt_lt]
  show ¬ (255 : Int32).toInt < (((x &&& 255).toUInt32.toUInt16.toUInt32.toInt32).toUInt32.toUInt16.toUInt32.toInt32).toInt
  omega
theorem own_b8' (x k : Int32) (h : ¬ (255 : Int32) < x) (h0 : ¬ x < 0) (hk : 0 ≤ k.toInt ∧ k.toInt ≤ 127) : (k = nar .byte (x.toInt8.toInt32) ↔ x = k) := by
  have h1 := c_i2b x
  have h2 := c_i2b (x.toInt8.toInt32)
  have e : (255 : Int32).toInt = 255 := rfl
  have e0 : (0 : Int32).toInt = 0 := rfl
  rw [Int32.lt_iff_toInt_lt] at h h0
  show k = (x.toInt8.toInt32).toInt8.toInt32 ↔ x = k
  rw [← Int32.toInt_inj, ← Int32.toInt_inj]
  omega
theorem own_b8 (x : Int32) (h : ¬ (255 : Int32) < x) (h0 : ¬ x < 0) : (49 = nar .byte (x.toInt8.toInt32) ↔ x = 49) ∧ (46 = nar .byte (x.toInt8.toInt32) ↔ x = 46) := ⟨own_b8' x 49 h h0 (by decide), own_b8' x 46 h h0 (by decide)⟩
theorem own_ch0 (x : Int32) : ¬ nar .char x < 0 := by
  have h1 := c_i2c x
  have e0 : (0 : Int32).toInt = 0 := rfl
  rw [Int32.lt_iff_toInt_lt]
  show ¬ (x.toUInt32.toUInt16.toUInt32.toInt32).toInt < (0 : Int32).toInt
  omega
theorem own_narb (z : Int32) (h : z = 0 ∨ z = 1) : nar .boolean z = z := by
  rcases h with rfl | rfl <;> rfl
def own_xb (x b : Int32) : Prop := (x = 0 ∧ b = 0) ∨ (x = 1 ∧ b = 1)
theorem own_x1 {x : Int32} (h : ∃ o, own_eq3 (own_li [49, 46, 49]) (own_li [49, 46, 49]) o ∧ x = nar .boolean o) : own_xb x 1 := by
  obtain ⟨o, ⟨rfl, -⟩ | ⟨rfl, q⟩, rfl⟩ := h
  · exact Or.inr ⟨rfl, rfl⟩
  · exact absurd ⟨rfl, rfl, rfl⟩ q
theorem own_x0 {x : Int32} (h : ∃ o, own_eq3 (own_li [49, 46, 49]) (own_li [49, 46, 48]) o ∧ x = nar .boolean o) : own_xb x 0 := by
  obtain ⟨o, ⟨rfl, -, -, q⟩ | ⟨rfl, q⟩, rfl⟩ := h
  · exact absurd q (by decide)
  · exact Or.inl ⟨rfl, rfl⟩
theorem own_x3 {u v w x b : Int32} (hu : ¬ (255 : Int32) < u ∧ ¬ u < 0) (hv : ¬ (255 : Int32) < v ∧ ¬ v < 0) (hw : ¬ (255 : Int32) < w ∧ ¬ w < 0) (hj : (u = 49 ∧ v = 46 ∧ w = 49 ∧ b = 1) ∨ (u = 49 ∧ v = 46 ∧ ¬ w = 49 ∧ b = 0) ∨ (u = 49 ∧ ¬ v = 46 ∧ b = 0) ∨ (¬ u = 49 ∧ b = 0)) (h : ∃ o, own_eq3 (own_li [49, 46, 49]) (own_upd (own_upd (own_upd (fun _ => (0 : Int32)) 0 (nar .byte (u.toInt8.toInt32))) 1 (nar .byte (v.toInt8.toInt32))) 2 (nar .byte (w.toInt8.toInt32))) o ∧ x = nar .boolean o) : own_xb x b := by
  have a1 := (own_b8 u hu.1 hu.2).1
  have a2 := (own_b8 v hv.1 hv.2).2
  have a3 := (own_b8 w hw.1 hw.2).1
  obtain ⟨o, h, rfl⟩ := h
  have e : own_eq3 (own_li [49, 46, 49]) (own_upd (own_upd (own_upd (fun _ => (0 : Int32)) 0 (nar .byte (u.toInt8.toInt32))) 1 (nar .byte (v.toInt8.toInt32))) 2 (nar .byte (w.toInt8.toInt32))) o = ((o = 1 ∧ 49 = nar .byte (u.toInt8.toInt32) ∧ 46 = nar .byte (v.toInt8.toInt32) ∧ 49 = nar .byte (w.toInt8.toInt32)) ∨ (o = 0 ∧ ¬ (49 = nar .byte (u.toInt8.toInt32) ∧ 46 = nar .byte (v.toInt8.toInt32) ∧ 49 = nar .byte (w.toInt8.toInt32)))) := rfl
  rw [e, a1, a2, a3] at h
  clear e a1 a2 a3
  rcases h with ⟨rfl, h1, h2, h3⟩ | ⟨rfl, h⟩
  · rcases hj with ⟨-, -, -, q⟩ | ⟨-, -, q, -⟩ | ⟨-, q, -⟩ | ⟨q, -⟩
    · exact Or.inr ⟨rfl, q⟩
    · exact absurd h3 q
    · exact absurd h2 q
    · exact absurd h1 q
  · rcases hj with ⟨q1, q2, q3, -⟩ | ⟨-, -, -, q⟩ | ⟨-, -, q⟩ | ⟨-, q⟩
    · exact absurd ⟨q1, q2, q3⟩ h
    · exact Or.inl ⟨rfl, q⟩
    · exact Or.inl ⟨rfl, q⟩
    · exact Or.inl ⟨rfl, q⟩
theorem own_jx {c x b : Int32} (h : own_xb x b) : own_join c x ↔ own_join c b := by
  rcases h with ⟨rfl, rfl⟩ | ⟨rfl, rfl⟩ <;> exact Iff.rfl
theorem own_isE {P Q : Prop} {y z : Int32} (h : own_is P y) (g : own_is Q z) (e : P ↔ Q) : y = z := by
  rcases h with ⟨a, rfl⟩ | ⟨a, rfl⟩ <;> rcases g with ⟨b, rfl⟩ | ⟨b, rfl⟩
  · rfl
  · exact absurd (e.mp a) b
  · exact absurd (e.mpr b) a
  · rfl
theorem own_is1 {P : Prop} {z : Int32} (h : own_is P z) (q : ¬ z = 0) : P := by
  rcases h with ⟨a, rfl⟩ | ⟨a, rfl⟩
  · exact a
  · exact absurd rfl q
theorem own_is0 {P : Prop} {z : Int32} (h : own_is P z) (q : z = 0) : ¬ P := by
  rcases h with ⟨a, rfl⟩ | ⟨a, rfl⟩
  · exact absurd q (by decide)
  · exact a
theorem own_je {c x : Int32} (h : own_join c x) : own_ends c x := by
  rcases h with h | ⟨h, g⟩
  · exact Or.inr (Or.inl h)
  · exact Or.inr (Or.inr ⟨h, Or.inl g⟩)
theorem own_ex {c x b : Int32} (h : own_xb x b) : own_ends c x ↔ own_ends c b := by
  rcases h with ⟨rfl, rfl⟩ | ⟨rfl, rfl⟩ <;> exact Iff.rfl
theorem own_two {c x b a1 k1 l1 a2 k2 l2 : Int32} (hx : own_xb x b) (h1 : own_cnt 13 0 x 1 1 a1 k1 l1) (h2 : own_cnt c a1 x k1 l1 a2 k2 l2) : (own_join c b → l2 = 2 ∧ k2 = 1) ∧ (¬ own_join c b → own_ends c b → l2 = 3 ∧ k2 = 1) ∧ (¬ own_ends c b → l2 = 2 ∧ k2 = 2) := by
  obtain ⟨g1, g2⟩ := h1
  have e13 : own_ends 13 x := Or.inl rfl
  have ha : a1 = 1 := by
    rcases g1 with ⟨-, q⟩ | ⟨q, -⟩
    · exact q
    · exact absurd rfl q
  obtain ⟨hk, hl⟩ : k1 = 1 ∧ l1 = 2 := by
    rcases g2 with ⟨q, -⟩ | ⟨-, q, -⟩ | ⟨-, -, q⟩
    · exact absurd e13 q
    · exact absurd rfl q.1
    · exact ⟨q.1, q.2⟩
  subst ha hk hl
  have n1 : (1 : Int32) ≠ 0 := by decide
  rcases h2 with ⟨-, ⟨q, rfl, rfl⟩ | ⟨q, ⟨-, j⟩, rfl, rfl⟩ | ⟨q, j, rfl, rfl⟩⟩
  · rw [own_ex hx] at q
    exact ⟨fun h => absurd (own_je h) q, fun _ h => absurd h q, fun _ => ⟨rfl, rfl⟩⟩
  · rw [own_ex hx] at q
    rw [own_jx hx] at j
    exact ⟨fun _ => ⟨rfl, rfl⟩, fun h => absurd j h, fun h => absurd q h⟩
  · rw [own_ex hx] at q
    rw [own_jx hx] at j
    exact ⟨fun h => absurd ⟨n1, h⟩ j, fun _ _ => ⟨rfl, rfl⟩, fun h => absurd q h⟩
theorem own_ne0 {args : Array Value} {s : State} {t : Term} {z : Int32} (h : (Jvm.Cond.not (Jvm.Cond.eq t (Jvm.Term.int (0 : Int32)))).value args s none s [] = some true) (ev : t.eval args s none [] s = some (.int z)) : ¬ (z = (0 : Int32)) := fun q => by
  subst q
  have e2 : (Term.int (0 : Int32)).eval args s none [] s = some (.int 0) := rfl
  simp [Cond.value, ev, e2] at h
abbrev vI (x : Int32) : Slot := Slot.val (Value.int x)
abbrev vJ (x : Int64) : Slot := Slot.val (Value.long x)
abbrev vR (x : Addr) : Slot := Slot.val (Value.ref x)
abbrev vD (x : UInt64) : Slot := Slot.val (Value.double x)
theorem own_atoms : ∀ a ∈ Bundle.stringAtoms, a ∈ tables_1 := by decide +kernel
theorem own_EW {Z : State} {A0 : Array Value} (hw : ∀ d ∈ tables_1, d.before A0 Z = true) : EW Z A0 consts_1 := (EW.cons (hw _ (List.mem_of_getElem? (i := 13) rfl)) (by decide) (EW.cons (hw _ (List.mem_of_getElem? (i := 86) rfl)) (by decide) (EW.cons (hw _ (List.mem_of_getElem? (i := 85) rfl)) (by decide) EW.nil)))
theorem d12_0 : decode jdk_52_method_21_code 0 = .ok (.iconst 0, 1) := by decide +kernel
theorem d12_1 : decode jdk_52_method_21_code 1 = .ok (.istore 5, 2) := by decide +kernel
theorem d12_3 : decode jdk_52_method_21_code 3 = .ok (.iload 5, 2) := by decide +kernel
theorem d12_5 : decode jdk_52_method_21_code 5 = .ok (.iload 4, 2) := by decide +kernel
theorem d12_7 : decode jdk_52_method_21_code 7 = .ok (.if_icmp .ge 37, 3) := by decide +kernel
theorem d12_10 : decode jdk_52_method_21_code 10 = .ok (.aload_n 0, 1) := by decide +kernel
theorem d12_11 : decode jdk_52_method_21_code 11 = .ok (.iload_n 1, 1) := by decide +kernel
theorem d12_12 : decode jdk_52_method_21_code 12 = .ok (.caload, 1) := by decide +kernel
theorem d12_13 : decode jdk_52_method_21_code 13 = .ok (.istore 6, 2) := by decide +kernel
theorem d12_15 : decode jdk_52_method_21_code 15 = .ok (.iload 6, 2) := by decide +kernel
theorem d12_17 : decode jdk_52_method_21_code 17 = .ok (.sipush 255, 3) := by decide +kernel
theorem d12_20 : decode jdk_52_method_21_code 20 = .ok (.if_icmp .le 6, 3) := by decide +kernel
theorem d12_26 : decode jdk_52_method_21_code 26 = .ok (.aload_n 2, 1) := by decide +kernel
theorem d12_27 : decode jdk_52_method_21_code 27 = .ok (.iload_n 3, 1) := by decide +kernel
theorem d12_28 : decode jdk_52_method_21_code 28 = .ok (.iload 6, 2) := by decide +kernel
theorem d12_30 : decode jdk_52_method_21_code 30 = .ok (.i2b, 1) := by decide +kernel
theorem d12_31 : decode jdk_52_method_21_code 31 = .ok (.bastore, 1) := by decide +kernel
theorem d12_32 : decode jdk_52_method_21_code 32 = .ok (.iinc 1 1, 3) := by decide +kernel
theorem d12_35 : decode jdk_52_method_21_code 35 = .ok (.iinc 3 1, 3) := by decide +kernel
theorem d12_38 : decode jdk_52_method_21_code 38 = .ok (.iinc 5 1, 3) := by decide +kernel
theorem d12_41 : decode jdk_52_method_21_code 41 = .ok (.goto (-38), 3) := by decide +kernel
theorem d12_44 : decode jdk_52_method_21_code 44 = .ok (.iload 4, 2) := by decide +kernel
theorem d12_46 : decode jdk_52_method_21_code 46 = .ok (.ireturn, 1) := by decide +kernel
theorem pn_cmp : plainName "java/lang/StringUTF16" = true := by first | (simp [plainName, overriddenIn]; done) | decide +kernel
theorem ef_cmp (m : MethodId) (a0 : Addr) (a2 : Addr) : entryFrame m #[(.ref a0), (.int (0 : Int32)), (.ref a2), (.int (0 : Int32)), (.int (3 : Int32))] 7 = mkF m 0 #[vR a0, vI (0 : Int32), vR a2, vI (0 : Int32), vI (3 : Int32), .unset, .unset] [] := by first | (simp [entryFrame, mkF, argsToLocals, Value.category]; done) | rfl
def Qcmp (Z : State) (k_a0 : ClassId) (fn_a0 : Nat → Int32) (k_a2 : ClassId) (fn_a2 : Nat → Int32) (a0 : Addr) (a2 : Addr) (h0 : Heap) (n0 : Nat) (v : Option Value) (h : Heap) (L : List Loc) : Prop := v = some (.int (3 : Int32)) ∧ Fr n0 L ∧ Keep h0 h [a2] ∧ own_Arf Z h a2 k_a2 .byte (3 : Int32) (fun i => .int ((own_upd (own_upd (own_upd fn_a2 0 (nar .byte ((fn_a0 0).toInt8.toInt32))) 1 (nar .byte ((fn_a0 1).toInt8.toInt32))) 2 (nar .byte ((fn_a0 2).toInt8.toInt32))) i))
set_option maxRecDepth 65536 in
set_option maxHeartbeats 40000000 in
theorem rmcmp (l : Launch) (Z : State) (A0 : Array Value) (hw : ∀ d ∈ tables_1, d.before A0 Z = true) (ws : List Jvm.Cond) (k_a0 : ClassId) (fn_a0 : Nat → Int32) (k_a2 : ClassId) (fn_a2 : Nat → Int32) (a0 : Addr) (a2 : Addr) (h0 : Heap) (n0 : Nat) (Z0 : n0 ≤ h0.size) (P_V_a0 : own_Arf Z h0 a0 k_a0 .char (3 : Int32) (fun i => .int (fn_a0 i))) (P_V_a2 : own_Arf Z h0 a2 k_a2 .byte (3 : Int32) (fun i => .int (fn_a2 i))) (hle_0 : ¬ ((255 : Int32) < (fn_a0 0))) (hle_1 : ¬ ((255 : Int32) < (fn_a0 1))) (hle_2 : ¬ ((255 : Int32) < (fn_a0 2))) (g_a2 : n0 ≤ a2) (ne_a0_a2 : a0 ≠ a2) :
    MetFree l (⟨"java/lang/StringUTF16", "compress", "([CI[BII)I"⟩ : MethodName) (head1 (Jvm.Cond.code (⟨"java/lang/StringUTF16", "compress", "([CI[BII)I"⟩ : MethodName) jdk_52_method_21_code 7 (some .int) :: ws) ({ frames := 0, cells := 0, slots := 0, locals := 0 } : Room)) (fun a U => a = #[(.ref a0), (.int (0 : Int32)), (.ref a2), (.int (0 : Int32)), (.int (3 : Int32))] ∧ Z.Warmed39 U.vm ∧ U.heap = h0) (fun _ _ _ _ _ => True) (fun _ U o U' => ∃ v L, o = .returned v ∧ Qcmp Z k_a0 fn_a0 k_a2 fn_a2 a0 a2 h0 n0 v U'.heap L ∧ FrameEnd U o U' L 0 0) := by
 refine MetFree.of_bodySF (plainFor_of_name pn_cmp) hisR ?_
 intro p e s m args below meth c s₁ Bd hml0 hP hK
 obtain ⟨rfl, hZ, hh⟩ := hP
 have hwd := fun i {d : Jvm.Cond} (h : tables_1[i]? = some d) => hw d (List.mem_of_getElem? h)
 have hx := Bd.exec
 have hby := Bd.bytes
 have hml : c.maxLocals = 7 := hml0
 have hlk : meth.locks = false := Bd.notSynchronized
 have hown : s.vm.findClass "java/lang/StringUTF16" = some m.cls := findClass_of_methodNamed Bd.named
 have hnm := (name_of_methodNamed Bd.named Bd.method).1
 have X0 : Stand p l e ({ frames := 0, cells := 0, slots := 0, locals := 0 } : Room) s m #[(.ref a0), (.int (0 : Int32)), (.ref a2), (.int (0 : Int32)), (.int (3 : Int32))] below meth c s₁ [] 0 0 := Stand.of_body Bd
 have e0 : s₁.heap = h0 := by rw [← hh, Bd.state]; rfl
 have N0 := Fr.nil n0
 show own_Go p e below (own_Fin s 0 0 (Qcmp Z k_a0 fn_a0 k_a2 fn_a2 a0 a2 h0 n0)) _
 refine own_by (fun t k => castTop (ef_cmp m a0 a2) k) ?_
 show own_Go p e below _ (s₁.setTop (mkF m 0 #[vR a0, vI (0 : Int32), vR a2, vI (0 : Int32), vI (3 : Int32), .unset, .unset] []))
 refine own_by (fun _ k => XS.iconst X0.here hx rfl (hb hby d12_0) k) ?_
 show own_Go p e below _ (s₁.setTop (mkF m 1 #[vR a0, vI (0 : Int32), vR a2, vI (0 : Int32), vI (3 : Int32), .unset, .unset] [(.int (0 : Int32))]))
 refine own_by (fun _ k => XS.istore X0.here hx rfl (hb hby d12_1) rfl (l' := #[vR a0, vI (0 : Int32), vR a2, vI (0 : Int32), vI (3 : Int32), vI (0 : Int32), .unset]) rfl k) ?_
 show own_Go p e below _ (s₁.setTop (mkF m 3 #[vR a0, vI (0 : Int32), vR a2, vI (0 : Int32), vI (3 : Int32), vI (0 : Int32), .unset] []))
 refine own_by (fun _ k => XS.iload X0.here hx rfl (hb hby d12_3) rfl k) ?_
 show own_Go p e below _ (s₁.setTop (mkF m 5 #[vR a0, vI (0 : Int32), vR a2, vI (0 : Int32), vI (3 : Int32), vI (0 : Int32), .unset] [(.int (0 : Int32))]))
 refine own_by (fun _ k => XS.iload X0.here hx rfl (hb hby d12_5) rfl k) ?_
 show own_Go p e below _ (s₁.setTop (mkF m 7 #[vR a0, vI (0 : Int32), vR a2, vI (0 : Int32), vI (3 : Int32), vI (0 : Int32), .unset] [(.int (3 : Int32)), (.int (0 : Int32))]))
 refine own_by (fun _ k => XS.icmpNo X0.here hx rfl (hb hby d12_7) rfl (tlt (by decide : (0 : Int32) < (3 : Int32))).2.1 k) ?_
 show own_Go p e below _ (s₁.setTop (mkF m 10 #[vR a0, vI (0 : Int32), vR a2, vI (0 : Int32), vI (3 : Int32), vI (0 : Int32), .unset] []))
 refine own_by (fun _ k => XS.aloadN X0.here hx rfl (hb hby d12_10) rfl rfl k) ?_
 show own_Go p e below _ (s₁.setTop (mkF m 11 #[vR a0, vI (0 : Int32), vR a2, vI (0 : Int32), vI (3 : Int32), vI (0 : Int32), .unset] [(.ref a0)]))
 refine own_by (fun _ k => XS.iloadN X0.here hx rfl (hb hby d12_11) rfl k) ?_
 show own_Go p e below _ (s₁.setTop (mkF m 12 #[vR a0, vI (0 : Int32), vR a2, vI (0 : Int32), vI (3 : Int32), vI (0 : Int32), .unset] [(.int (0 : Int32)), (.ref a0)]))
 obtain ⟨cl1, Ar1, qq1, S1, M1, H1, G1⟩ := id P_V_a0
 have hin1 : ¬ ((0 : Int32) < 0 ∨ cl1.slots.size ≤ ((0 : Int32)).toNatClampNeg) := inb_of S1 ⟨by decide, by decide⟩
 refine own_by (fun t k => X0.caload hx (j := (0 : Int32)) (v := (.int (fn_a0 0))) (by rw [e0]; exact Ar1.1) (State.isArrayOf_alike hZ.alike Ar1.2.1) Ar1.2.2 hin1 (H1 _ (Nat.lt_of_not_le fun y => hin1 (Or.inr y))) (g := (mkF m 12 #[vR a0, vI (0 : Int32), vR a2, vI (0 : Int32), vI (3 : Int32), vI (0 : Int32), .unset] [(.int (0 : Int32)), (.ref a0)])) rfl rfl (hb hby d12_12) _ k) ?_
 show own_Go p e below _ (s₁.setTop (mkF m 13 #[vR a0, vI (0 : Int32), vR a2, vI (0 : Int32), vI (3 : Int32), vI (0 : Int32), .unset] [(.int (fn_a0 0))]))
 refine own_by (fun _ k => XS.istore X0.here hx rfl (hb hby d12_13) rfl (l' := #[vR a0, vI (0 : Int32), vR a2, vI (0 : Int32), vI (3 : Int32), vI (0 : Int32), vI (fn_a0 0)]) rfl k) ?_
 show own_Go p e below _ (s₁.setTop (mkF m 15 #[vR a0, vI (0 : Int32), vR a2, vI (0 : Int32), vI (3 : Int32), vI (0 : Int32), vI (fn_a0 0)] []))
 refine own_by (fun _ k => XS.iload X0.here hx rfl (hb hby d12_15) rfl k) ?_
 show own_Go p e below _ (s₁.setTop (mkF m 17 #[vR a0, vI (0 : Int32), vR a2, vI (0 : Int32), vI (3 : Int32), vI (0 : Int32), vI (fn_a0 0)] [(.int (fn_a0 0))]))
 refine own_by (fun _ k => XS.sipush X0.here hx rfl (hb hby d12_17) k) ?_
 show own_Go p e below _ (s₁.setTop (mkF m 20 #[vR a0, vI (0 : Int32), vR a2, vI (0 : Int32), vI (3 : Int32), vI (0 : Int32), vI (fn_a0 0)] [(.int (255 : Int32)), (.int (fn_a0 0))]))
 refine own_by (fun _ k => XS.icmpYes X0.here hx rfl (pc0 := 20) (pc' := 26) rfl (hb hby d12_20) rfl (flt hle_0).2.2.2 (by decide) (by decide) k) ?_
 show own_Go p e below _ (s₁.setTop (mkF m 26 #[vR a0, vI (0 : Int32), vR a2, vI (0 : Int32), vI (3 : Int32), vI (0 : Int32), vI (fn_a0 0)] []))
 refine own_by (fun _ k => XS.aloadN X0.here hx rfl (hb hby d12_26) rfl rfl k) ?_
 show own_Go p e below _ (s₁.setTop (mkF m 27 #[vR a0, vI (0 : Int32), vR a2, vI (0 : Int32), vI (3 : Int32), vI (0 : Int32), vI (fn_a0 0)] [(.ref a2)]))
 refine own_by (fun _ k => XS.iloadN X0.here hx rfl (hb hby d12_27) rfl k) ?_
 show own_Go p e below _ (s₁.setTop (mkF m 28 #[vR a0, vI (0 : Int32), vR a2, vI (0 : Int32), vI (3 : Int32), vI (0 : Int32), vI (fn_a0 0)] [(.int (0 : Int32)), (.ref a2)]))
 refine own_by (fun _ k => XS.iload X0.here hx rfl (hb hby d12_28) rfl k) ?_
 show own_Go p e below _ (s₁.setTop (mkF m 30 #[vR a0, vI (0 : Int32), vR a2, vI (0 : Int32), vI (3 : Int32), vI (0 : Int32), vI (fn_a0 0)] [(.int (fn_a0 0)), (.int (0 : Int32)), (.ref a2)]))
 refine own_by (fun _ k => XS.i2b X0.here hx rfl (hb hby d12_30) rfl k) ?_
 show own_Go p e below _ (s₁.setTop (mkF m 31 #[vR a0, vI (0 : Int32), vR a2, vI (0 : Int32), vI (3 : Int32), vI (0 : Int32), vI (fn_a0 0)] [(.int ((fn_a0 0).toInt8.toInt32)), (.int (0 : Int32)), (.ref a2)]))
 obtain ⟨cl2, Ar2, qq2, S2, M2, H2, G2⟩ := id P_V_a2
 have hin2 : ¬ ((0 : Int32) < 0 ∨ cl2.slots.size ≤ ((0 : Int32)).toNatClampNeg) := inb_of S2 ⟨by decide, by decide⟩
 obtain ⟨T3, h3, X3, e3, W3, st3⟩ := stB X0 hx hZ e0 Ar2 (j := (0 : Int32)) hin2 (g := (mkF m 31 #[vR a0, vI (0 : Int32), vR a2, vI (0 : Int32), vI (3 : Int32), vI (0 : Int32), vI (fn_a0 0)] [(.int ((fn_a0 0).toInt8.toInt32)), (.int (0 : Int32)), (.ref a2)])) rfl rfl (hb hby d12_31)
 have V3 : own_Arf Z h3 a2 k_a2 .byte (3 : Int32) (fun i => .int ((own_upd fn_a2 0 (nar .byte ((fn_a0 0).toInt8.toInt32))) i)) := own_arfSetI Ar2 qq2 S2 M2 H2 G2 (fits_nar_byte _) W3
 have K3 : Keep h0 h3 [a2] := (Keep.refl h0 [a2]).wr W3 (Or.inl (List.mem_of_getElem? (i := 0) rfl))
 have Z3 : n0 ≤ h3.size := Nat.le_trans Z0 (Keep.of_wr W3).1
 have N3 := Fr.snoc X3 N0 g_a2
 refine own_by st3 ?_
 show own_Go p e below _ (T3.setTop (mkF m 32 #[vR a0, vI (0 : Int32), vR a2, vI (0 : Int32), vI (3 : Int32), vI (0 : Int32), vI (fn_a0 0)] []))
 refine own_by (fun _ k => XS.iinc X3.here hx rfl (hb hby d12_32) rfl (l' := #[vR a0, vI (1 : Int32), vR a2, vI (0 : Int32), vI (3 : Int32), vI (0 : Int32), vI (fn_a0 0)]) rfl k) ?_
 show own_Go p e below _ (T3.setTop (mkF m 35 #[vR a0, vI (1 : Int32), vR a2, vI (0 : Int32), vI (3 : Int32), vI (0 : Int32), vI (fn_a0 0)] []))
 refine own_by (fun _ k => XS.iinc X3.here hx rfl (hb hby d12_35) rfl (l' := #[vR a0, vI (1 : Int32), vR a2, vI (1 : Int32), vI (3 : Int32), vI (0 : Int32), vI (fn_a0 0)]) rfl k) ?_
 show own_Go p e below _ (T3.setTop (mkF m 38 #[vR a0, vI (1 : Int32), vR a2, vI (1 : Int32), vI (3 : Int32), vI (0 : Int32), vI (fn_a0 0)] []))
 refine own_by (fun _ k => XS.iinc X3.here hx rfl (hb hby d12_38) rfl (l' := #[vR a0, vI (1 : Int32), vR a2, vI (1 : Int32), vI (3 : Int32), vI (1 : Int32), vI (fn_a0 0)]) rfl k) ?_
 show own_Go p e below _ (T3.setTop (mkF m 41 #[vR a0, vI (1 : Int32), vR a2, vI (1 : Int32), vI (3 : Int32), vI (1 : Int32), vI (fn_a0 0)] []))
 refine own_by (fun _ k => XS.goto X3.here hx rfl (pc0 := 41) (pc' := 3) rfl (hb hby d12_41) (by decide) (by decide) k) ?_
 show own_Go p e below _ (T3.setTop (mkF m 3 #[vR a0, vI (1 : Int32), vR a2, vI (1 : Int32), vI (3 : Int32), vI (1 : Int32), vI (fn_a0 0)] []))
 refine own_by (fun _ k => XS.iload X3.here hx rfl (hb hby d12_3) rfl k) ?_
 show own_Go p e below _ (T3.setTop (mkF m 5 #[vR a0, vI (1 : Int32), vR a2, vI (1 : Int32), vI (3 : Int32), vI (1 : Int32), vI (fn_a0 0)] [(.int (1 : Int32))]))
 refine own_by (fun _ k => XS.iload X3.here hx rfl (hb hby d12_5) rfl k) ?_
 show own_Go p e below _ (T3.setTop (mkF m 7 #[vR a0, vI (1 : Int32), vR a2, vI (1 : Int32), vI (3 : Int32), vI (1 : Int32), vI (fn_a0 0)] [(.int (3 : Int32)), (.int (1 : Int32))]))
 refine own_by (fun _ k => XS.icmpNo X3.here hx rfl (hb hby d12_7) rfl (tlt (by decide : (1 : Int32) < (3 : Int32))).2.1 k) ?_
 show own_Go p e below _ (T3.setTop (mkF m 10 #[vR a0, vI (1 : Int32), vR a2, vI (1 : Int32), vI (3 : Int32), vI (1 : Int32), vI (fn_a0 0)] []))
 refine own_by (fun _ k => XS.aloadN X3.here hx rfl (hb hby d12_10) rfl rfl k) ?_
 show own_Go p e below _ (T3.setTop (mkF m 11 #[vR a0, vI (1 : Int32), vR a2, vI (1 : Int32), vI (3 : Int32), vI (1 : Int32), vI (fn_a0 0)] [(.ref a0)]))
 refine own_by (fun _ k => XS.iloadN X3.here hx rfl (hb hby d12_11) rfl k) ?_
 show own_Go p e below _ (T3.setTop (mkF m 12 #[vR a0, vI (1 : Int32), vR a2, vI (1 : Int32), vI (3 : Int32), vI (1 : Int32), vI (fn_a0 0)] [(.int (1 : Int32)), (.ref a0)]))
 have F4 : own_Arf Z h3 a0 k_a0 .char (3 : Int32) (fun i => .int (fn_a0 i)) := (P_V_a0.other W3 ne_a0_a2)
 obtain ⟨cl5, Ar5, qq5, S5, M5, H5, G5⟩ := id F4
 have hin5 : ¬ ((1 : Int32) < 0 ∨ cl5.slots.size ≤ ((1 : Int32)).toNatClampNeg) := inb_of S5 ⟨by decide, by decide⟩
 refine own_by (fun t k => X3.caload hx (j := (1 : Int32)) (v := (.int (fn_a0 1))) (by rw [e3]; exact Ar5.1) (State.isArrayOf_alike hZ.alike Ar5.2.1) Ar5.2.2 hin5 (H5 _ (Nat.lt_of_not_le fun y => hin5 (Or.inr y))) (g := (mkF m 12 #[vR a0, vI (1 : Int32), vR a2, vI (1 : Int32), vI (3 : Int32), vI (1 : Int32), vI (fn_a0 0)] [(.int (1 : Int32)), (.ref a0)])) rfl rfl (hb hby d12_12) _ k) ?_
 show own_Go p e below _ (T3.setTop (mkF m 13 #[vR a0, vI (1 : Int32), vR a2, vI (1 : Int32), vI (3 : Int32), vI (1 : Int32), vI (fn_a0 0)] [(.int (fn_a0 1))]))
 refine own_by (fun _ k => XS.istore X3.here hx rfl (hb hby d12_13) rfl (l' := #[vR a0, vI (1 : Int32), vR a2, vI (1 : Int32), vI (3 : Int32), vI (1 : Int32), vI (fn_a0 1)]) rfl k) ?_
 show own_Go p e below _ (T3.setTop (mkF m 15 #[vR a0, vI (1 : Int32), vR a2, vI (1 : Int32), vI (3 : Int32), vI (1 : Int32), vI (fn_a0 1)] []))
 refine own_by (fun _ k => XS.iload X3.here hx rfl (hb hby d12_15) rfl k) ?_
 show own_Go p e below _ (T3.setTop (mkF m 17 #[vR a0, vI (1 : Int32), vR a2, vI (1 : Int32), vI (3 : Int32), vI (1 : Int32), vI (fn_a0 1)] [(.int (fn_a0 1))]))
 refine own_by (fun _ k => XS.sipush X3.here hx rfl (hb hby d12_17) k) ?_
 show own_Go p e below _ (T3.setTop (mkF m 20 #[vR a0, vI (1 : Int32), vR a2, vI (1 : Int32), vI (3 : Int32), vI (1 : Int32), vI (fn_a0 1)] [(.int (255 : Int32)), (.int (fn_a0 1))]))
 refine own_by (fun _ k => XS.icmpYes X3.here hx rfl (pc0 := 20) (pc' := 26) rfl (hb hby d12_20) rfl (flt hle_1).2.2.2 (by decide) (by decide) k) ?_
 show own_Go p e below _ (T3.setTop (mkF m 26 #[vR a0, vI (1 : Int32), vR a2, vI (1 : Int32), vI (3 : Int32), vI (1 : Int32), vI (fn_a0 1)] []))
 refine own_by (fun _ k => XS.aloadN X3.here hx rfl (hb hby d12_26) rfl rfl k) ?_
 show own_Go p e below _ (T3.setTop (mkF m 27 #[vR a0, vI (1 : Int32), vR a2, vI (1 : Int32), vI (3 : Int32), vI (1 : Int32), vI (fn_a0 1)] [(.ref a2)]))
 refine own_by (fun _ k => XS.iloadN X3.here hx rfl (hb hby d12_27) rfl k) ?_
 show own_Go p e below _ (T3.setTop (mkF m 28 #[vR a0, vI (1 : Int32), vR a2, vI (1 : Int32), vI (3 : Int32), vI (1 : Int32), vI (fn_a0 1)] [(.int (1 : Int32)), (.ref a2)]))
 refine own_by (fun _ k => XS.iload X3.here hx rfl (hb hby d12_28) rfl k) ?_
 show own_Go p e below _ (T3.setTop (mkF m 30 #[vR a0, vI (1 : Int32), vR a2, vI (1 : Int32), vI (3 : Int32), vI (1 : Int32), vI (fn_a0 1)] [(.int (fn_a0 1)), (.int (1 : Int32)), (.ref a2)]))
 refine own_by (fun _ k => XS.i2b X3.here hx rfl (hb hby d12_30) rfl k) ?_
 show own_Go p e below _ (T3.setTop (mkF m 31 #[vR a0, vI (1 : Int32), vR a2, vI (1 : Int32), vI (3 : Int32), vI (1 : Int32), vI (fn_a0 1)] [(.int ((fn_a0 1).toInt8.toInt32)), (.int (1 : Int32)), (.ref a2)]))
 obtain ⟨cl6, Ar6, qq6, S6, M6, H6, G6⟩ := id V3
 have hin6 : ¬ ((1 : Int32) < 0 ∨ cl6.slots.size ≤ ((1 : Int32)).toNatClampNeg) := inb_of S6 ⟨by decide, by decide⟩
 obtain ⟨T7, h7, X7, e7, W7, st7⟩ := stB X3 hx hZ e3 Ar6 (j := (1 : Int32)) hin6 (g := (mkF m 31 #[vR a0, vI (1 : Int32), vR a2, vI (1 : Int32), vI (3 : Int32), vI (1 : Int32), vI (fn_a0 1)] [(.int ((fn_a0 1).toInt8.toInt32)), (.int (1 : Int32)), (.ref a2)])) rfl rfl (hb hby d12_31)
 have V7 : own_Arf Z h7 a2 k_a2 .byte (3 : Int32) (fun i => .int ((own_upd (own_upd fn_a2 0 (nar .byte ((fn_a0 0).toInt8.toInt32))) 1 (nar .byte ((fn_a0 1).toInt8.toInt32))) i)) := own_arfSetI Ar6 qq6 S6 M6 H6 G6 (fits_nar_byte _) W7
 have K7 : Keep h0 h7 [a2] := K3.wr W7 (Or.inl (List.mem_of_getElem? (i := 0) rfl))
 have Z7 : n0 ≤ h7.size := Nat.le_trans Z3 (Keep.of_wr W7).1
 have N7 := Fr.snoc X7 N3 g_a2
 refine own_by st7 ?_
 show own_Go p e below _ (T7.setTop (mkF m 32 #[vR a0, vI (1 : Int32), vR a2, vI (1 : Int32), vI (3 : Int32), vI (1 : Int32), vI (fn_a0 1)] []))
 refine own_by (fun _ k => XS.iinc X7.here hx rfl (hb hby d12_32) rfl (l' := #[vR a0, vI (2 : Int32), vR a2, vI (1 : Int32), vI (3 : Int32), vI (1 : Int32), vI (fn_a0 1)]) rfl k) ?_
 show own_Go p e below _ (T7.setTop (mkF m 35 #[vR a0, vI (2 : Int32), vR a2, vI (1 : Int32), vI (3 : Int32), vI (1 : Int32), vI (fn_a0 1)] []))
 refine own_by (fun _ k => XS.iinc X7.here hx rfl (hb hby d12_35) rfl (l' := #[vR a0, vI (2 : Int32), vR a2, vI (2 : Int32), vI (3 : Int32), vI (1 : Int32), vI (fn_a0 1)]) rfl k) ?_
 show own_Go p e below _ (T7.setTop (mkF m 38 #[vR a0, vI (2 : Int32), vR a2, vI (2 : Int32), vI (3 : Int32), vI (1 : Int32), vI (fn_a0 1)] []))
 refine own_by (fun _ k => XS.iinc X7.here hx rfl (hb hby d12_38) rfl (l' := #[vR a0, vI (2 : Int32), vR a2, vI (2 : Int32), vI (3 : Int32), vI (2 : Int32), vI (fn_a0 1)]) rfl k) ?_
 show own_Go p e below _ (T7.setTop (mkF m 41 #[vR a0, vI (2 : Int32), vR a2, vI (2 : Int32), vI (3 : Int32), vI (2 : Int32), vI (fn_a0 1)] []))
 refine own_by (fun _ k => XS.goto X7.here hx rfl (pc0 := 41) (pc' := 3) rfl (hb hby d12_41) (by decide) (by decide) k) ?_
 show own_Go p e below _ (T7.setTop (mkF m 3 #[vR a0, vI (2 : Int32), vR a2, vI (2 : Int32), vI (3 : Int32), vI (2 : Int32), vI (fn_a0 1)] []))
 refine own_by (fun _ k => XS.iload X7.here hx rfl (hb hby d12_3) rfl k) ?_
 show own_Go p e below _ (T7.setTop (mkF m 5 #[vR a0, vI (2 : Int32), vR a2, vI (2 : Int32), vI (3 : Int32), vI (2 : Int32), vI (fn_a0 1)] [(.int (2 : Int32))]))
 refine own_by (fun _ k => XS.iload X7.here hx rfl (hb hby d12_5) rfl k) ?_
 show own_Go p e below _ (T7.setTop (mkF m 7 #[vR a0, vI (2 : Int32), vR a2, vI (2 : Int32), vI (3 : Int32), vI (2 : Int32), vI (fn_a0 1)] [(.int (3 : Int32)), (.int (2 : Int32))]))
 refine own_by (fun _ k => XS.icmpNo X7.here hx rfl (hb hby d12_7) rfl (tlt (by decide : (2 : Int32) < (3 : Int32))).2.1 k) ?_
 show own_Go p e below _ (T7.setTop (mkF m 10 #[vR a0, vI (2 : Int32), vR a2, vI (2 : Int32), vI (3 : Int32), vI (2 : Int32), vI (fn_a0 1)] []))
 refine own_by (fun _ k => XS.aloadN X7.here hx rfl (hb hby d12_10) rfl rfl k) ?_
 show own_Go p e below _ (T7.setTop (mkF m 11 #[vR a0, vI (2 : Int32), vR a2, vI (2 : Int32), vI (3 : Int32), vI (2 : Int32), vI (fn_a0 1)] [(.ref a0)]))
 refine own_by (fun _ k => XS.iloadN X7.here hx rfl (hb hby d12_11) rfl k) ?_
 show own_Go p e below _ (T7.setTop (mkF m 12 #[vR a0, vI (2 : Int32), vR a2, vI (2 : Int32), vI (3 : Int32), vI (2 : Int32), vI (fn_a0 1)] [(.int (2 : Int32)), (.ref a0)]))
 have F8 : own_Arf Z h7 a0 k_a0 .char (3 : Int32) (fun i => .int (fn_a0 i)) := (F4.other W7 ne_a0_a2)
 obtain ⟨cl9, Ar9, qq9, S9, M9, H9, G9⟩ := id F8
 have hin9 : ¬ ((2 : Int32) < 0 ∨ cl9.slots.size ≤ ((2 : Int32)).toNatClampNeg) := inb_of S9 ⟨by decide, by decide⟩
 refine own_by (fun t k => X7.caload hx (j := (2 : Int32)) (v := (.int (fn_a0 2))) (by rw [e7]; exact Ar9.1) (State.isArrayOf_alike hZ.alike Ar9.2.1) Ar9.2.2 hin9 (H9 _ (Nat.lt_of_not_le fun y => hin9 (Or.inr y))) (g := (mkF m 12 #[vR a0, vI (2 : Int32), vR a2, vI (2 : Int32), vI (3 : Int32), vI (2 : Int32), vI (fn_a0 1)] [(.int (2 : Int32)), (.ref a0)])) rfl rfl (hb hby d12_12) _ k) ?_
 show own_Go p e below _ (T7.setTop (mkF m 13 #[vR a0, vI (2 : Int32), vR a2, vI (2 : Int32), vI (3 : Int32), vI (2 : Int32), vI (fn_a0 1)] [(.int (fn_a0 2))]))
 refine own_by (fun _ k => XS.istore X7.here hx rfl (hb hby d12_13) rfl (l' := #[vR a0, vI (2 : Int32), vR a2, vI (2 : Int32), vI (3 : Int32), vI (2 : Int32), vI (fn_a0 2)]) rfl k) ?_
 show own_Go p e below _ (T7.setTop (mkF m 15 #[vR a0, vI (2 : Int32), vR a2, vI (2 : Int32), vI (3 : Int32), vI (2 : Int32), vI (fn_a0 2)] []))
 refine own_by (fun _ k => XS.iload X7.here hx rfl (hb hby d12_15) rfl k) ?_
 show own_Go p e below _ (T7.setTop (mkF m 17 #[vR a0, vI (2 : Int32), vR a2, vI (2 : Int32), vI (3 : Int32), vI (2 : Int32), vI (fn_a0 2)] [(.int (fn_a0 2))]))
 refine own_by (fun _ k => XS.sipush X7.here hx rfl (hb hby d12_17) k) ?_
 show own_Go p e below _ (T7.setTop (mkF m 20 #[vR a0, vI (2 : Int32), vR a2, vI (2 : Int32), vI (3 : Int32), vI (2 : Int32), vI (fn_a0 2)] [(.int (255 : Int32)), (.int (fn_a0 2))]))
 refine own_by (fun _ k => XS.icmpYes X7.here hx rfl (pc0 := 20) (pc' := 26) rfl (hb hby d12_20) rfl (flt hle_2).2.2.2 (by decide) (by decide) k) ?_
 show own_Go p e below _ (T7.setTop (mkF m 26 #[vR a0, vI (2 : Int32), vR a2, vI (2 : Int32), vI (3 : Int32), vI (2 : Int32), vI (fn_a0 2)] []))
 refine own_by (fun _ k => XS.aloadN X7.here hx rfl (hb hby d12_26) rfl rfl k) ?_
 show own_Go p e below _ (T7.setTop (mkF m 27 #[vR a0, vI (2 : Int32), vR a2, vI (2 : Int32), vI (3 : Int32), vI (2 : Int32), vI (fn_a0 2)] [(.ref a2)]))
 refine own_by (fun _ k => XS.iloadN X7.here hx rfl (hb hby d12_27) rfl k) ?_
 show own_Go p e below _ (T7.setTop (mkF m 28 #[vR a0, vI (2 : Int32), vR a2, vI (2 : Int32), vI (3 : Int32), vI (2 : Int32), vI (fn_a0 2)] [(.int (2 : Int32)), (.ref a2)]))
 refine own_by (fun _ k => XS.iload X7.here hx rfl (hb hby d12_28) rfl k) ?_
 show own_Go p e below _ (T7.setTop (mkF m 30 #[vR a0, vI (2 : Int32), vR a2, vI (2 : Int32), vI (3 : Int32), vI (2 : Int32), vI (fn_a0 2)] [(.int (fn_a0 2)), (.int (2 : Int32)), (.ref a2)]))
 refine own_by (fun _ k => XS.i2b X7.here hx rfl (hb hby d12_30) rfl k) ?_
 show own_Go p e below _ (T7.setTop (mkF m 31 #[vR a0, vI (2 : Int32), vR a2, vI (2 : Int32), vI (3 : Int32), vI (2 : Int32), vI (fn_a0 2)] [(.int ((fn_a0 2).toInt8.toInt32)), (.int (2 : Int32)), (.ref a2)]))
 obtain ⟨cl10, Ar10, qq10, S10, M10, H10, G10⟩ := id V7
 have hin10 : ¬ ((2 : Int32) < 0 ∨ cl10.slots.size ≤ ((2 : Int32)).toNatClampNeg) := inb_of S10 ⟨by decide, by decide⟩
 obtain ⟨T11, h11, X11, e11, W11, st11⟩ := stB X7 hx hZ e7 Ar10 (j := (2 : Int32)) hin10 (g := (mkF m 31 #[vR a0, vI (2 : Int32), vR a2, vI (2 : Int32), vI (3 : Int32), vI (2 : Int32), vI (fn_a0 2)] [(.int ((fn_a0 2).toInt8.toInt32)), (.int (2 : Int32)), (.ref a2)])) rfl rfl (hb hby d12_31)
 have V11 : own_Arf Z h11 a2 k_a2 .byte (3 : Int32) (fun i => .int ((own_upd (own_upd (own_upd fn_a2 0 (nar .byte ((fn_a0 0).toInt8.toInt32))) 1 (nar .byte ((fn_a0 1).toInt8.toInt32))) 2 (nar .byte ((fn_a0 2).toInt8.toInt32))) i)) := own_arfSetI Ar10 qq10 S10 M10 H10 G10 (fits_nar_byte _) W11
 have K11 : Keep h0 h11 [a2] := K7.wr W11 (Or.inl (List.mem_of_getElem? (i := 0) rfl))
 have Z11 : n0 ≤ h11.size := Nat.le_trans Z7 (Keep.of_wr W11).1
 have N11 := Fr.snoc X11 N7 g_a2
 refine own_by st11 ?_
 show own_Go p e below _ (T11.setTop (mkF m 32 #[vR a0, vI (2 : Int32), vR a2, vI (2 : Int32), vI (3 : Int32), vI (2 : Int32), vI (fn_a0 2)] []))
 refine own_by (fun _ k => XS.iinc X11.here hx rfl (hb hby d12_32) rfl (l' := #[vR a0, vI (3 : Int32), vR a2, vI (2 : Int32), vI (3 : Int32), vI (2 : Int32), vI (fn_a0 2)]) rfl k) ?_
 show own_Go p e below _ (T11.setTop (mkF m 35 #[vR a0, vI (3 : Int32), vR a2, vI (2 : Int32), vI (3 : Int32), vI (2 : Int32), vI (fn_a0 2)] []))
 refine own_by (fun _ k => XS.iinc X11.here hx rfl (hb hby d12_35) rfl (l' := #[vR a0, vI (3 : Int32), vR a2, vI (3 : Int32), vI (3 : Int32), vI (2 : Int32), vI (fn_a0 2)]) rfl k) ?_
 show own_Go p e below _ (T11.setTop (mkF m 38 #[vR a0, vI (3 : Int32), vR a2, vI (3 : Int32), vI (3 : Int32), vI (2 : Int32), vI (fn_a0 2)] []))
 refine own_by (fun _ k => XS.iinc X11.here hx rfl (hb hby d12_38) rfl (l' := #[vR a0, vI (3 : Int32), vR a2, vI (3 : Int32), vI (3 : Int32), vI (3 : Int32), vI (fn_a0 2)]) rfl k) ?_
 show own_Go p e below _ (T11.setTop (mkF m 41 #[vR a0, vI (3 : Int32), vR a2, vI (3 : Int32), vI (3 : Int32), vI (3 : Int32), vI (fn_a0 2)] []))
 refine own_by (fun _ k => XS.goto X11.here hx rfl (pc0 := 41) (pc' := 3) rfl (hb hby d12_41) (by decide) (by decide) k) ?_
 show own_Go p e below _ (T11.setTop (mkF m 3 #[vR a0, vI (3 : Int32), vR a2, vI (3 : Int32), vI (3 : Int32), vI (3 : Int32), vI (fn_a0 2)] []))
 refine own_by (fun _ k => XS.iload X11.here hx rfl (hb hby d12_3) rfl k) ?_
 show own_Go p e below _ (T11.setTop (mkF m 5 #[vR a0, vI (3 : Int32), vR a2, vI (3 : Int32), vI (3 : Int32), vI (3 : Int32), vI (fn_a0 2)] [(.int (3 : Int32))]))
 refine own_by (fun _ k => XS.iload X11.here hx rfl (hb hby d12_5) rfl k) ?_
 show own_Go p e below _ (T11.setTop (mkF m 7 #[vR a0, vI (3 : Int32), vR a2, vI (3 : Int32), vI (3 : Int32), vI (3 : Int32), vI (fn_a0 2)] [(.int (3 : Int32)), (.int (3 : Int32))]))
 refine own_by (fun _ k => XS.icmpYes X11.here hx rfl (pc0 := 7) (pc' := 44) rfl (hb hby d12_7) rfl (flt (by decide : ¬ ((3 : Int32) < (3 : Int32)))).2.1 (by decide) (by decide) k) ?_
 show own_Go p e below _ (T11.setTop (mkF m 44 #[vR a0, vI (3 : Int32), vR a2, vI (3 : Int32), vI (3 : Int32), vI (3 : Int32), vI (fn_a0 2)] []))
 refine own_by (fun _ k => XS.iload X11.here hx rfl (hb hby d12_44) rfl k) ?_
 show own_Go p e below _ (T11.setTop (mkF m 46 #[vR a0, vI (3 : Int32), vR a2, vI (3 : Int32), vI (3 : Int32), vI (3 : Int32), vI (fn_a0 2)] [(.int (3 : Int32))]))
 exact own_retI X11 hx Bd.returns (hb hby d12_46) hlk e11 ⟨rfl, N11, K11, V11⟩ (by decide) (by decide)
theorem pd_72 : parseMethodDescriptor "([CI[BII)I" = some ⟨[(.array .char), .int, (.array .byte), .int, .int], some .int⟩ := by decide +kernel
theorem d11_0 : decode jdk_52_method_16_code 0 = .ok (.iload_n 2, 1) := by decide +kernel
theorem d11_1 : decode jdk_52_method_16_code 1 = .ok (.newarray .byte, 2) := by decide +kernel
theorem d11_3 : decode jdk_52_method_16_code 3 = .ok (.astore_n 3, 1) := by decide +kernel
theorem d11_4 : decode jdk_52_method_16_code 4 = .ok (.aload_n 0, 1) := by decide +kernel
theorem d11_5 : decode jdk_52_method_16_code 5 = .ok (.iload_n 1, 1) := by decide +kernel
theorem d11_6 : decode jdk_52_method_16_code 6 = .ok (.aload_n 3, 1) := by decide +kernel
theorem d11_7 : decode jdk_52_method_16_code 7 = .ok (.iconst 0, 1) := by decide +kernel
theorem d11_8 : decode jdk_52_method_16_code 8 = .ok (.iload_n 2, 1) := by decide +kernel
theorem d11_9 : decode jdk_52_method_16_code 9 = .ok (.invokestatic 115, 3) := by decide +kernel
theorem d11_12 : decode jdk_52_method_16_code 12 = .ok (.istore 4, 2) := by decide +kernel
theorem d11_14 : decode jdk_52_method_16_code 14 = .ok (.iload 4, 2) := by decide +kernel
theorem d11_16 : decode jdk_52_method_16_code 16 = .ok (.iload_n 2, 1) := by decide +kernel
theorem d11_17 : decode jdk_52_method_16_code 17 = .ok (.if_icmp .eq 40, 3) := by decide +kernel
theorem d11_57 : decode jdk_52_method_16_code 57 = .ok (.aload_n 3, 1) := by decide +kernel
theorem d11_58 : decode jdk_52_method_16_code 58 = .ok (.areturn, 1) := by decide +kernel
theorem pn_cmp3 : plainName "java/lang/StringUTF16" = true := by first | (simp [plainName, overriddenIn]; done) | decide +kernel
theorem ef_cmp3 (m : MethodId) (a0 : Addr) : entryFrame m #[(.ref a0), (.int (0 : Int32)), (.int (3 : Int32))] 6 = mkF m 0 #[vR a0, vI (0 : Int32), vI (3 : Int32), .unset, .unset, .unset] [] := by first | (simp [entryFrame, mkF, argsToLocals, Value.category]; done) | rfl
def Qcmp3 (Z : State) (k_a0 : ClassId) (fn_a0 : Nat → Int32) (a0 : Addr) (h0 : Heap) (n0 : Nat) (v : Option Value) (h : Heap) (L : List Loc) : Prop := ∃ (b1 : Addr) (k1 : ClassId), v = some (.ref b1) ∧ Fr n0 L ∧ Keep h0 h [] ∧ (n0 ≤ b1) ∧ (h0.size ≤ b1) ∧ own_Arf Z h b1 k1 .byte (3 : Int32) (fun i => .int ((own_upd (own_upd (own_upd (fun _ => (0 : Int32)) 0 (nar .byte ((fn_a0 0).toInt8.toInt32))) 1 (nar .byte ((fn_a0 1).toInt8.toInt32))) 2 (nar .byte ((fn_a0 2).toInt8.toInt32))) i))
set_option maxRecDepth 65536 in
set_option maxHeartbeats 40000000 in
theorem rmcmp3 (l : Launch) (Z : State) (A0 : Array Value) (hw : ∀ d ∈ tables_1, d.before A0 Z = true) (ws : List Jvm.Cond) (k_a0 : ClassId) (fn_a0 : Nat → Int32) (a0 : Addr) (h0 : Heap) (n0 : Nat) (Z0 : n0 ≤ h0.size) (P_V_a0 : own_Arf Z h0 a0 k_a0 .char (3 : Int32) (fun i => .int (fn_a0 i))) (hle_0 : ¬ ((255 : Int32) < (fn_a0 0))) (hle_1 : ¬ ((255 : Int32) < (fn_a0 1))) (hle_2 : ¬ ((255 : Int32) < (fn_a0 2))) :
    MetFree l (⟨"java/lang/StringUTF16", "compress", "([CII)[B"⟩ : MethodName) (head1 (Jvm.Cond.code (⟨"java/lang/StringUTF16", "compress", "([CII)[B"⟩ : MethodName) jdk_52_method_16_code 6 (some (.array .byte)) :: ws) ({ frames := 1, cells := 1, slots := 3, locals := 18 } : Room)) (fun a U => a = #[(.ref a0), (.int (0 : Int32)), (.int (3 : Int32))] ∧ Z.Warmed39 U.vm ∧ U.heap = h0) (fun _ _ _ _ _ => True) (fun _ U o U' => ∃ v L, o = .returned v ∧ Qcmp3 Z k_a0 fn_a0 a0 h0 n0 v U'.heap L ∧ FrameEnd U o U' L 1 3) := by
 refine MetFree.of_bodySF (plainFor_of_name pn_cmp3) hisR ?_
 intro p e s m args below meth c s₁ Bd hml0 hP hK
 obtain ⟨rfl, hZ, hh⟩ := hP
 have hwd := fun i {d : Jvm.Cond} (h : tables_1[i]? = some d) => hw d (List.mem_of_getElem? h)
 have hx := Bd.exec
 have hby := Bd.bytes
 have hml : c.maxLocals = 6 := hml0
 have hlk : meth.locks = false := Bd.notSynchronized
 have hown : s.vm.findClass "java/lang/StringUTF16" = some m.cls := findClass_of_methodNamed Bd.named
 have hnm := (name_of_methodNamed Bd.named Bd.method).1
 have X0 : Stand p l e ({ frames := 1, cells := 1, slots := 3, locals := 18 } : Room) s m #[(.ref a0), (.int (0 : Int32)), (.int (3 : Int32))] below meth c s₁ [] 0 0 := Stand.of_body Bd
 have e0 : s₁.heap = h0 := by rw [← hh, Bd.state]; rfl
 have N0 := Fr.nil n0
 show own_Go p e below (own_Fin s 1 3 (Qcmp3 Z k_a0 fn_a0 a0 h0 n0)) _
 refine own_by (fun t k => castTop (ef_cmp3 m a0) k) ?_
 show own_Go p e below _ (s₁.setTop (mkF m 0 #[vR a0, vI (0 : Int32), vI (3 : Int32), .unset, .unset, .unset] []))
 refine own_by (fun _ k => XS.iloadN X0.here hx rfl (hb hby d11_0) rfl k) ?_
 show own_Go p e below _ (s₁.setTop (mkF m 1 #[vR a0, vI (0 : Int32), vI (3 : Int32), .unset, .unset, .unset] [(.int (3 : Int32))]))
 obtain ⟨T1, h1, k1, X1, e1, E1, A1, st1⟩ := newP X0 hx hZ (hwd 16 rfl) e0 (g := (mkF m 1 #[vR a0, vI (0 : Int32), vI (3 : Int32), .unset, .unset, .unset] [(.int (3 : Int32))])) rfl (hb hby d11_1) rfl (by decide) (cap := 3) (by decide) (by decide) (by decide) (by decide)
 obtain ⟨b1, g1⟩ : ∃ z, z = h0.size := ⟨_, rfl⟩
 have ge_b1 : n0 ≤ b1 := Nat.le_trans Z0 (Nat.le_of_eq g1.symm)
 have sz_b1 : h0.size ≤ b1 := Nat.le_trans (Keep.refl h0 []).1 (Nat.le_of_eq g1.symm)
 have K1 : Keep h0 h1 [] := (Keep.refl h0 []).ext E1
 have Z1 : n0 ≤ h1.size := Nat.le_trans Z0 E1.1
 rw [← g1] at A1 st1
 have V1 : own_Arf Z h1 b1 k1 .byte (3 : Int32) (fun i => .int ((fun _ => (0 : Int32)) i)) := own_arfNew A1 (by decide)
 refine own_by st1 ?_
 show own_Go p e below _ (T1.setTop (mkF m 3 #[vR a0, vI (0 : Int32), vI (3 : Int32), .unset, .unset, .unset] [(.ref b1)]))
 refine own_by (fun _ k => XS.astoreN X1.here hx rfl (hb hby d11_3) rfl rfl (l' := #[vR a0, vI (0 : Int32), vI (3 : Int32), vR b1, .unset, .unset]) rfl k) ?_
 show own_Go p e below _ (T1.setTop (mkF m 4 #[vR a0, vI (0 : Int32), vI (3 : Int32), vR b1, .unset, .unset] []))
 refine own_by (fun _ k => XS.aloadN X1.here hx rfl (hb hby d11_4) rfl rfl k) ?_
 show own_Go p e below _ (T1.setTop (mkF m 5 #[vR a0, vI (0 : Int32), vI (3 : Int32), vR b1, .unset, .unset] [(.ref a0)]))
 refine own_by (fun _ k => XS.iloadN X1.here hx rfl (hb hby d11_5) rfl k) ?_
 show own_Go p e below _ (T1.setTop (mkF m 6 #[vR a0, vI (0 : Int32), vI (3 : Int32), vR b1, .unset, .unset] [(.int (0 : Int32)), (.ref a0)]))
 refine own_by (fun _ k => XS.aloadN X1.here hx rfl (hb hby d11_6) rfl rfl k) ?_
 show own_Go p e below _ (T1.setTop (mkF m 7 #[vR a0, vI (0 : Int32), vI (3 : Int32), vR b1, .unset, .unset] [(.ref b1), (.int (0 : Int32)), (.ref a0)]))
 refine own_by (fun _ k => XS.iconst X1.here hx rfl (hb hby d11_7) k) ?_
 show own_Go p e below _ (T1.setTop (mkF m 8 #[vR a0, vI (0 : Int32), vI (3 : Int32), vR b1, .unset, .unset] [(.int (0 : Int32)), (.ref b1), (.int (0 : Int32)), (.ref a0)]))
 refine own_by (fun _ k => XS.iloadN X1.here hx rfl (hb hby d11_8) rfl k) ?_
 show own_Go p e below _ (T1.setTop (mkF m 9 #[vR a0, vI (0 : Int32), vI (3 : Int32), vR b1, .unset, .unset] [(.int (3 : Int32)), (.int (0 : Int32)), (.ref b1), (.int (0 : Int32)), (.ref a0)]))
 have F2 : own_Arf Z h1 a0 k_a0 .char (3 : Int32) (fun i => .int (fn_a0 i)) := (P_V_a0.ext E1)
 obtain ⟨_, _, ⟨T3, L3, k3, n3⟩, -, X3, ⟨Lc3, hQ3, l3, y3, z3⟩, st3⟩ := Jvm.LawKit.callS X1 hx (y := (⟨"java/lang/StringUTF16", "compress", "([CI[BII)I"⟩ : MethodName)) hown (mvT hZ (hwd 72 rfl)) (mvT hZ (hwd 73 rfl)) (mvT hZ (hwd 70 rfl)) (mvT hZ (hwd 74 rfl)) (by decide) (backOf (W := 0) (rmcmp l Z A0 hw [] k_a0 fn_a0 k1 (fun _ => (0 : Int32)) a0 b1 h1 n0 Z1 F2 V1 hle_0 hle_1 hle_2 ge_b1 (Nat.ne_of_lt (Nat.lt_of_lt_of_le (P_V_a0).lt (Nat.le_of_eq g1.symm)))) hZ (hwd 74 rfl) (hwd 70 rfl) (by decide) (by decide)) (g := (mkF m 9 #[vR a0, vI (0 : Int32), vI (3 : Int32), vR b1, .unset, .unset] [(.int (3 : Int32)), (.int (0 : Int32)), (.ref b1), (.int (0 : Int32)), (.ref a0)])) rfl (by rw [hml]; rfl) (argsL := [(.ref a0), (.int (0 : Int32)), (.ref b1), (.int (0 : Int32)), (.int (3 : Int32))]) (rest := []) (lenOf pd_72 rfl) rfl (by show 2 * 0 + _ ≤ _; exact Nat.le_of_eq rfl) (hb hby d11_9) (fun _ _ => ⟨rfl, e1, (by decide : 1 + 0 ≤ _), (by decide : 3 + 0 ≤ _)⟩)
 dsimp only [Pt.U, Pt.locs, Pt.cells, Pt.slots] at X3 l3 y3 z3 st3 hQ3
 subst l3 y3 z3
 obtain ⟨rfl, Nq3, Kq3, F4⟩ := hQ3
 have N3 := Fr.app N0 Nq3
 have K3 : Keep h0 T3.heap [] := K1.trans Kq3 ((allS (Or.inr sz_b1) all0))
 have Z3 : n0 ≤ T3.heap.size := Nat.le_trans Z1 Kq3.1
 refine own_by st3 ?_
 show own_Go p e below _ (T3.setTop (mkF m 12 #[vR a0, vI (0 : Int32), vI (3 : Int32), vR b1, .unset, .unset] [(.int (3 : Int32))]))
 refine own_by (fun _ k => XS.istore X3.here hx rfl (hb hby d11_12) rfl (l' := #[vR a0, vI (0 : Int32), vI (3 : Int32), vR b1, vI (3 : Int32), .unset]) rfl k) ?_
 show own_Go p e below _ (T3.setTop (mkF m 14 #[vR a0, vI (0 : Int32), vI (3 : Int32), vR b1, vI (3 : Int32), .unset] []))
 refine own_by (fun _ k => XS.iload X3.here hx rfl (hb hby d11_14) rfl k) ?_
 show own_Go p e below _ (T3.setTop (mkF m 16 #[vR a0, vI (0 : Int32), vI (3 : Int32), vR b1, vI (3 : Int32), .unset] [(.int (3 : Int32))]))
 refine own_by (fun _ k => XS.iloadN X3.here hx rfl (hb hby d11_16) rfl k) ?_
 show own_Go p e below _ (T3.setTop (mkF m 17 #[vR a0, vI (0 : Int32), vI (3 : Int32), vR b1, vI (3 : Int32), .unset] [(.int (3 : Int32)), (.int (3 : Int32))]))
 refine own_by (fun _ k => XS.icmpYes X3.here hx rfl (pc0 := 17) (pc' := 57) rfl (hb hby d11_17) rfl (teq (by decide : (3 : Int32) = (3 : Int32))).1 (by decide) (by decide) k) ?_
 show own_Go p e below _ (T3.setTop (mkF m 57 #[vR a0, vI (0 : Int32), vI (3 : Int32), vR b1, vI (3 : Int32), .unset] []))
 refine own_by (fun _ k => XS.aloadN X3.here hx rfl (hb hby d11_57) rfl rfl k) ?_
 show own_Go p e below _ (T3.setTop (mkF m 58 #[vR a0, vI (0 : Int32), vI (3 : Int32), vR b1, vI (3 : Int32), .unset] [(.ref b1)]))
 exact own_retR X3 hx Bd.returns (by decide) rfl (hb hby d11_58) hlk rfl ⟨_, _, rfl, N3, K3, ge_b1, sz_b1, F4⟩ (by decide) (by decide)
theorem d13_0 : decode jdk_52_method_15_code 0 = .ok (.iload_n 1, 1) := by decide +kernel
theorem d13_1 : decode jdk_52_method_15_code 1 = .ok (.aload_n 0, 1) := by decide +kernel
theorem d13_2 : decode jdk_52_method_15_code 2 = .ok (.arraylength, 1) := by decide +kernel
theorem d13_3 : decode jdk_52_method_15_code 3 = .ok (.isub, 1) := by decide +kernel
theorem d13_4 : decode jdk_52_method_15_code 4 = .ok (.bipush 31, 2) := by decide +kernel
theorem d13_6 : decode jdk_52_method_15_code 6 = .ok (.iushr, 1) := by decide +kernel
theorem d13_7 : decode jdk_52_method_15_code 7 = .ok (.i2b, 1) := by decide +kernel
theorem d13_8 : decode jdk_52_method_15_code 8 = .ok (.ireturn, 1) := by decide +kernel
theorem pn_cfa : plainName "java/lang/StringUTF16" = true := by first | (simp [plainName, overriddenIn]; done) | decide +kernel
theorem ef_cfa (m : MethodId) (a0 : Addr) : entryFrame m #[(.ref a0), (.int (3 : Int32))] 2 = mkF m 0 #[vR a0, vI (3 : Int32)] [] := by first | (simp [entryFrame, mkF, argsToLocals, Value.category]; done) | rfl
def Qcfa (Z : State) (k_a0 : ClassId) (fn_a0 : Nat → Int32) (a0 : Addr) (h0 : Heap) (n0 : Nat) (v : Option Value) (h : Heap) (L : List Loc) : Prop := v = some (.int (nar .byte (0 : Int32))) ∧ Fr n0 L ∧ h = h0
set_option maxRecDepth 65536 in
set_option maxHeartbeats 40000000 in
theorem rmcfa (l : Launch) (Z : State) (A0 : Array Value) (hw : ∀ d ∈ tables_1, d.before A0 Z = true) (ws : List Jvm.Cond) (k_a0 : ClassId) (fn_a0 : Nat → Int32) (a0 : Addr) (h0 : Heap) (n0 : Nat) (Z0 : n0 ≤ h0.size) (P_V_a0 : own_Arf Z h0 a0 k_a0 .byte (3 : Int32) (fun i => .int (fn_a0 i))) :
    MetFree l (⟨"java/lang/StringUTF16", "coderFromArrayLen", "([BI)B"⟩ : MethodName) (head1 (Jvm.Cond.code (⟨"java/lang/StringUTF16", "coderFromArrayLen", "([BI)B"⟩ : MethodName) jdk_52_method_15_code 2 (some .byte) :: ws) ({ frames := 0, cells := 0, slots := 0, locals := 0 } : Room)) (fun a U => a = #[(.ref a0), (.int (3 : Int32))] ∧ Z.Warmed39 U.vm ∧ U.heap = h0) (fun _ _ _ _ _ => True) (fun _ U o U' => ∃ v L, o = .returned v ∧ Qcfa Z k_a0 fn_a0 a0 h0 n0 v U'.heap L ∧ FrameEnd U o U' L 0 0) := by
 refine MetFree.of_bodySF (plainFor_of_name pn_cfa) hisR ?_
 intro p e s m args below meth c s₁ Bd hml0 hP hK
 obtain ⟨rfl, hZ, hh⟩ := hP
 have hwd := fun i {d : Jvm.Cond} (h : tables_1[i]? = some d) => hw d (List.mem_of_getElem? h)
 have hx := Bd.exec
 have hby := Bd.bytes
 have hml : c.maxLocals = 2 := hml0
 have hlk : meth.locks = false := Bd.notSynchronized
 have hown : s.vm.findClass "java/lang/StringUTF16" = some m.cls := findClass_of_methodNamed Bd.named
 have hnm := (name_of_methodNamed Bd.named Bd.method).1
 have X0 : Stand p l e ({ frames := 0, cells := 0, slots := 0, locals := 0 } : Room) s m #[(.ref a0), (.int (3 : Int32))] below meth c s₁ [] 0 0 := Stand.of_body Bd
 have e0 : s₁.heap = h0 := by rw [← hh, Bd.state]; rfl
 have N0 := Fr.nil n0
 show own_Go p e below (own_Fin s 0 0 (Qcfa Z k_a0 fn_a0 a0 h0 n0)) _
 refine own_by (fun t k => castTop (ef_cfa m a0) k) ?_
 show own_Go p e below _ (s₁.setTop (mkF m 0 #[vR a0, vI (3 : Int32)] []))
 refine own_by (fun _ k => XS.iloadN X0.here hx rfl (hb hby d13_0) rfl k) ?_
 show own_Go p e below _ (s₁.setTop (mkF m 1 #[vR a0, vI (3 : Int32)] [(.int (3 : Int32))]))
 refine own_by (fun _ k => XS.aloadN X0.here hx rfl (hb hby d13_1) rfl rfl k) ?_
 show own_Go p e below _ (s₁.setTop (mkF m 2 #[vR a0, vI (3 : Int32)] [(.ref a0), (.int (3 : Int32))]))
 obtain ⟨cl1, Ar1, qq1, S1, M1, H1, G1⟩ := id P_V_a0
 refine own_by (fun t k => X0.arraylength hx (by rw [e0]; exact Ar1.1) (State.isArrayOf_alike hZ.alike Ar1.2.1) (g := (mkF m 2 #[vR a0, vI (3 : Int32)] [(.ref a0), (.int (3 : Int32))])) rfl rfl (hb hby d13_2) _ k) ?_
 rw [len_of S1 M1]
 show own_Go p e below _ (s₁.setTop (mkF m 3 #[vR a0, vI (3 : Int32)] [(.int (3 : Int32)), (.int (3 : Int32))]))
 refine own_by (fun _ k => XS.isub X0.here hx rfl (hb hby d13_3) rfl k) ?_
 show own_Go p e below _ (s₁.setTop (mkF m 4 #[vR a0, vI (3 : Int32)] [(.int (0 : Int32))]))
 refine own_by (fun _ k => XS.bipush X0.here hx rfl (hb hby d13_4) k) ?_
 show own_Go p e below _ (s₁.setTop (mkF m 6 #[vR a0, vI (3 : Int32)] [(.int (31 : Int32)), (.int (0 : Int32))]))
 refine own_by (fun _ k => XS.iushr X0.here hx rfl (hb hby d13_6) rfl k) ?_
 show own_Go p e below _ (s₁.setTop (mkF m 7 #[vR a0, vI (3 : Int32)] [(.int (0 : Int32))]))
 refine own_by (fun _ k => XS.i2b X0.here hx rfl (hb hby d13_7) rfl k) ?_
 show own_Go p e below _ (s₁.setTop (mkF m 8 #[vR a0, vI (3 : Int32)] [(.int (0 : Int32))]))
 exact own_retN X0 hx (t := .byte) Bd.returns (by simp) (hb hby d13_8) hlk e0 ⟨rfl, N0, rfl⟩ (by decide) (by decide)
theorem pd_68 : parseMethodDescriptor "([CII)[B" = some ⟨[(.array .char), .int, .int], some (.array .byte)⟩ := by decide +kernel
theorem pd_75 : parseMethodDescriptor "([BI)B" = some ⟨[(.array .byte), .int], some .byte⟩ := by decide +kernel
theorem d10_0 : decode jdk_42_method_149_code 0 = .ok (.aload_n 0, 1) := by decide +kernel
theorem d10_1 : decode jdk_42_method_149_code 1 = .ok (.invokespecial 1, 3) := by decide +kernel
theorem d10_4 : decode jdk_42_method_149_code 4 = .ok (.iload_n 3, 1) := by decide +kernel
theorem d10_5 : decode jdk_42_method_149_code 5 = .ok (.ifCond .ne 22, 3) := by decide +kernel
theorem d10_27 : decode jdk_42_method_149_code 27 = .ok (.getstatic 38, 3) := by decide +kernel
theorem d10_30 : decode jdk_42_method_149_code 30 = .ok (.ifCond .eq 28, 3) := by decide +kernel
theorem d10_33 : decode jdk_42_method_149_code 33 = .ok (.aload_n 1, 1) := by decide +kernel
theorem d10_34 : decode jdk_42_method_149_code 34 = .ok (.iload_n 2, 1) := by decide +kernel
theorem d10_35 : decode jdk_42_method_149_code 35 = .ok (.iload_n 3, 1) := by decide +kernel
theorem d10_36 : decode jdk_42_method_149_code 36 = .ok (.invokestatic 177, 3) := by decide +kernel
theorem d10_39 : decode jdk_42_method_149_code 39 = .ok (.astore 5, 2) := by decide +kernel
theorem d10_41 : decode jdk_42_method_149_code 41 = .ok (.aload_n 0, 1) := by decide +kernel
theorem d10_42 : decode jdk_42_method_149_code 42 = .ok (.aload 5, 2) := by decide +kernel
theorem d10_44 : decode jdk_42_method_149_code 44 = .ok (.iload_n 3, 1) := by decide +kernel
theorem d10_45 : decode jdk_42_method_149_code 45 = .ok (.invokestatic 47, 3) := by decide +kernel
theorem d10_48 : decode jdk_42_method_149_code 48 = .ok (.putfield 15, 3) := by decide +kernel
theorem d10_51 : decode jdk_42_method_149_code 51 = .ok (.aload_n 0, 1) := by decide +kernel
theorem d10_52 : decode jdk_42_method_149_code 52 = .ok (.aload 5, 2) := by decide +kernel
theorem d10_54 : decode jdk_42_method_149_code 54 = .ok (.putfield 9, 3) := by decide +kernel
theorem d10_57 : decode jdk_42_method_149_code 57 = .ok (.return_, 1) := by decide +kernel
theorem pn_si4 : plainName "java/lang/String" = true := by first | (simp [plainName, overriddenIn]; done) | decide +kernel
theorem ef_si4 (m : MethodId) (a0 : Addr) (a1 : Addr) : entryFrame m #[(.ref a0), (.ref a1), (.int (0 : Int32)), (.int (3 : Int32)), .null] 6 = mkF m 0 #[vR a0, vR a1, vI (0 : Int32), vI (3 : Int32), .val .null, .unset] [] := by first | (simp [entryFrame, mkF, argsToLocals, Value.category]; done) | rfl
def Qsi4 (Z : State) (k_a1 : ClassId) (fn_a1 : Nat → Int32) (f_CS : Int32) (a0 : Addr) (a1 : Addr) (f_a0_coder : Int32) (f_a0_value : Value) (h0 : Heap) (n0 : Nat) (v : Option Value) (h : Heap) (L : List Loc) : Prop := ∃ (b4 : Addr) (b5 : ClassId), v = none ∧ Fr n0 L ∧ Keep h0 h [a0] ∧ Exa Z h a0 "java/lang/String" ∧ Fld Z h a0 "java/lang/String" "coder" "B" (.int (nar .byte (0 : Int32))) ∧ Fld Z h a0 "java/lang/String" "value" "[B" (.ref b4) ∧ (n0 ≤ b4) ∧ (h0.size ≤ b4) ∧ own_Arf Z h b4 b5 .byte (3 : Int32) (fun i => .int ((own_upd (own_upd (own_upd (fun _ => (0 : Int32)) 0 (nar .byte ((fn_a1 0).toInt8.toInt32))) 1 (nar .byte ((fn_a1 1).toInt8.toInt32))) 2 (nar .byte ((fn_a1 2).toInt8.toInt32))) i))
set_option maxRecDepth 65536 in
set_option maxHeartbeats 40000000 in
theorem rmsi4 (l : Launch) (Z : State) (A0 : Array Value) (hw : ∀ d ∈ tables_1, d.before A0 Z = true) (ws : List Jvm.Cond) (k_a1 : ClassId) (fn_a1 : Nat → Int32) (f_CS : Int32) (a0 : Addr) (a1 : Addr) (f_a0_coder : Int32) (f_a0_value : Value) (h0 : Heap) (n0 : Nat) (Z0 : n0 ≤ h0.size) (P_V_a1 : own_Arf Z h0 a1 k_a1 .char (3 : Int32) (fun i => .int (fn_a1 i))) (P_S_CS : Sta Z h0 "java/lang/String" "COMPACT_STRINGS" "Z" (.int f_CS)) (hn_CS : ¬ (f_CS = (0 : Int32))) (hle_0 : ¬ ((255 : Int32) < (fn_a1 0))) (hle_1 : ¬ ((255 : Int32) < (fn_a1 1))) (hle_2 : ¬ ((255 : Int32) < (fn_a1 2))) (P_E_a0 : Exa Z h0 a0 "java/lang/String") (P_F_a0_coder : Fld Z h0 a0 "java/lang/String" "coder" "B" (.int f_a0_coder)) (g_a0 : n0 ≤ a0) (P_F_a0_value : Fld Z h0 a0 "java/lang/String" "value" "[B" f_a0_value) :
    MetFree l (⟨"java/lang/String", "<init>", "([CIILjava/lang/Void;)V"⟩ : MethodName) (head1 (Jvm.Cond.code (⟨"java/lang/String", "<init>", "([CIILjava/lang/Void;)V"⟩ : MethodName) jdk_42_method_149_code 6 none :: ws) ({ frames := 2, cells := 1, slots := 3, locals := 35 } : Room)) (fun a U => a = #[(.ref a0), (.ref a1), (.int (0 : Int32)), (.int (3 : Int32)), .null] ∧ Z.Warmed39 U.vm ∧ U.heap = h0) (fun _ _ _ _ _ => True) (fun _ U o U' => ∃ v L, o = .returned v ∧ Qsi4 Z k_a1 fn_a1 f_CS a0 a1 f_a0_coder f_a0_value h0 n0 v U'.heap L ∧ FrameEnd U o U' L 1 3) := by
 refine MetFree.of_bodySF (plainFor_of_name pn_si4) hisR ?_
 intro p e s m args below meth c s₁ Bd hml0 hP hK
 obtain ⟨rfl, hZ, hh⟩ := hP
 have hwd := fun i {d : Jvm.Cond} (h : tables_1[i]? = some d) => hw d (List.mem_of_getElem? h)
 have hx := Bd.exec
 have hby := Bd.bytes
 have hml : c.maxLocals = 6 := hml0
 have hlk : meth.locks = false := Bd.notSynchronized
 have hown : s.vm.findClass "java/lang/String" = some m.cls := findClass_of_methodNamed Bd.named
 have hnm := (name_of_methodNamed Bd.named Bd.method).1
 have X0 : Stand p l e ({ frames := 2, cells := 1, slots := 3, locals := 35 } : Room) s m #[(.ref a0), (.ref a1), (.int (0 : Int32)), (.int (3 : Int32)), .null] below meth c s₁ [] 0 0 := Stand.of_body Bd
 have e0 : s₁.heap = h0 := by rw [← hh, Bd.state]; rfl
 have N0 := Fr.nil n0
 show own_Go p e below (own_Fin s 1 3 (Qsi4 Z k_a1 fn_a1 f_CS a0 a1 f_a0_coder f_a0_value h0 n0)) _
 refine own_by (fun t k => castTop (ef_si4 m a0 a1) k) ?_
 show own_Go p e below _ (s₁.setTop (mkF m 0 #[vR a0, vR a1, vI (0 : Int32), vI (3 : Int32), .val .null, .unset] []))
 refine own_by (fun _ k => XS.aloadN X0.here hx rfl (hb hby d10_0) rfl rfl k) ?_
 show own_Go p e below _ (s₁.setTop (mkF m 1 #[vR a0, vR a1, vI (0 : Int32), vI (3 : Int32), .val .null, .unset] [(.ref a0)]))
 obtain ⟨T1, X1, e1, st1⟩ := initO X0 hx hZ hown (hwd 66 rfl) (hwd 7 rfl) (hwd 8 rfl) e0 (g := (mkF m 1 #[vR a0, vR a1, vI (0 : Int32), vI (3 : Int32), .val .null, .unset] [(.ref a0)])) rfl (by rw [hml]; rfl) rfl (hb hby d10_1) (by decide) (W := 0) (by show 2 * 0 + _ ≤ _; exact Nat.le_of_eq rfl) (by decide)
 refine own_by st1 ?_
 show own_Go p e below _ (T1.setTop (mkF m 4 #[vR a0, vR a1, vI (0 : Int32), vI (3 : Int32), .val .null, .unset] []))
 refine own_by (fun _ k => XS.iloadN X1.here hx rfl (hb hby d10_4) rfl k) ?_
 show own_Go p e below _ (T1.setTop (mkF m 5 #[vR a0, vR a1, vI (0 : Int32), vI (3 : Int32), .val .null, .unset] [(.int (3 : Int32))]))
 refine own_by (fun _ k => XS.ifYes X1.here hx rfl (pc0 := 5) (pc' := 27) rfl (hb hby d10_5) rfl ((if0 _ _).trans (feq (by decide : ¬ ((3 : Int32) = (0 : Int32)))).2) (by decide) (by decide) k) ?_
 show own_Go p e below _ (T1.setTop (mkF m 27 #[vR a0, vR a1, vI (0 : Int32), vI (3 : Int32), .val .null, .unset] []))
 obtain ⟨T2, X2, e2, st2⟩ := getS2 X1 hx hZ hown (host := "") (Or.inl (hwd 67 rfl)) Via.refl e1 P_S_CS (g := (mkF m 27 #[vR a0, vR a1, vI (0 : Int32), vI (3 : Int32), .val .null, .unset] [])) rfl (hb hby d10_27)
 refine own_by st2 ?_
 show own_Go p e below _ (T2.setTop (mkF m 30 #[vR a0, vR a1, vI (0 : Int32), vI (3 : Int32), .val .null, .unset] [(.int f_CS)]))
 refine own_by (fun _ k => XS.ifNo X2.here hx rfl (hb hby d10_30) rfl ((if0 _ _).trans (feq hn_CS).1) k) ?_
 show own_Go p e below _ (T2.setTop (mkF m 33 #[vR a0, vR a1, vI (0 : Int32), vI (3 : Int32), .val .null, .unset] []))
 refine own_by (fun _ k => XS.aloadN X2.here hx rfl (hb hby d10_33) rfl rfl k) ?_
 show own_Go p e below _ (T2.setTop (mkF m 34 #[vR a0, vR a1, vI (0 : Int32), vI (3 : Int32), .val .null, .unset] [(.ref a1)]))
 refine own_by (fun _ k => XS.iloadN X2.here hx rfl (hb hby d10_34) rfl k) ?_
 show own_Go p e below _ (T2.setTop (mkF m 35 #[vR a0, vR a1, vI (0 : Int32), vI (3 : Int32), .val .null, .unset] [(.int (0 : Int32)), (.ref a1)]))
 refine own_by (fun _ k => XS.iloadN X2.here hx rfl (hb hby d10_35) rfl k) ?_
 show own_Go p e below _ (T2.setTop (mkF m 36 #[vR a0, vR a1, vI (0 : Int32), vI (3 : Int32), .val .null, .unset] [(.int (3 : Int32)), (.int (0 : Int32)), (.ref a1)]))
 obtain ⟨_, _, ⟨T3, L3, k3, n3⟩, -, X3, ⟨Lc3, hQ3, l3, y3, z3⟩, st3⟩ := Jvm.LawKit.callS X2 hx (y := (⟨"java/lang/StringUTF16", "compress", "([CII)[B"⟩ : MethodName)) hown (mvT hZ (hwd 68 rfl)) (mvT hZ (hwd 69 rfl)) (mvT hZ (hwd 70 rfl)) (mvT hZ (hwd 71 rfl)) (by decide) (backOf (W := 0) (rmcmp3 l Z A0 hw [] k_a1 fn_a1 a1 h0 n0 Z0 P_V_a1 hle_0 hle_1 hle_2) hZ (hwd 71 rfl) (hwd 70 rfl) (by decide) (by decide)) (g := (mkF m 36 #[vR a0, vR a1, vI (0 : Int32), vI (3 : Int32), .val .null, .unset] [(.int (3 : Int32)), (.int (0 : Int32)), (.ref a1)])) rfl (by rw [hml]; rfl) (argsL := [(.ref a1), (.int (0 : Int32)), (.int (3 : Int32))]) (rest := []) (lenOf pd_68 rfl) rfl (by show 2 * 0 + _ ≤ _; exact Nat.le_of_eq rfl) (hb hby d10_36) (fun _ _ => ⟨rfl, e2, (by decide : 0 + 1 ≤ _), (by decide : 0 + 3 ≤ _)⟩)
 dsimp only [Pt.U, Pt.locs, Pt.cells, Pt.slots] at X3 l3 y3 z3 st3 hQ3
 subst l3 y3 z3
 obtain ⟨b4, b5, rfl, Nq3, Kq3, hp6, hp7, F8⟩ := hQ3
 have N3 := Fr.app N0 Nq3
 have K3 : Keep h0 T3.heap [a0] := (Keep.refl h0 [a0]).trans Kq3 (all0)
 have Z3 : n0 ≤ T3.heap.size := Nat.le_trans Z0 Kq3.1
 have sz_b4 : h0.size ≤ b4 := Nat.le_trans (Keep.refl h0 [a0]).1 hp7
 refine own_by st3 ?_
 show own_Go p e below _ (T3.setTop (mkF m 39 #[vR a0, vR a1, vI (0 : Int32), vI (3 : Int32), .val .null, .unset] [(.ref b4)]))
 refine own_by (fun _ k => XS.astore X3.here hx rfl (hb hby d10_39) rfl rfl (l' := #[vR a0, vR a1, vI (0 : Int32), vI (3 : Int32), .val .null, vR b4]) rfl k) ?_
 show own_Go p e below _ (T3.setTop (mkF m 41 #[vR a0, vR a1, vI (0 : Int32), vI (3 : Int32), .val .null, vR b4] []))
 refine own_by (fun _ k => XS.aloadN X3.here hx rfl (hb hby d10_41) rfl rfl k) ?_
 show own_Go p e below _ (T3.setTop (mkF m 42 #[vR a0, vR a1, vI (0 : Int32), vI (3 : Int32), .val .null, vR b4] [(.ref a0)]))
 refine own_by (fun _ k => XS.aload X3.here hx rfl (hb hby d10_42) rfl rfl k) ?_
 show own_Go p e below _ (T3.setTop (mkF m 44 #[vR a0, vR a1, vI (0 : Int32), vI (3 : Int32), .val .null, vR b4] [(.ref b4), (.ref a0)]))
 refine own_by (fun _ k => XS.iloadN X3.here hx rfl (hb hby d10_44) rfl k) ?_
 show own_Go p e below _ (T3.setTop (mkF m 45 #[vR a0, vR a1, vI (0 : Int32), vI (3 : Int32), .val .null, vR b4] [(.int (3 : Int32)), (.ref b4), (.ref a0)]))
 obtain ⟨_, _, ⟨T9, L9, k9, n9⟩, -, X9, ⟨Lc9, hQ9, l9, y9, z9⟩, st9⟩ := Jvm.LawKit.callS X3 hx (y := (⟨"java/lang/StringUTF16", "coderFromArrayLen", "([BI)B"⟩ : MethodName)) hown (mvT hZ (hwd 75 rfl)) (mvT hZ (hwd 76 rfl)) (mvT hZ (hwd 70 rfl)) (mvT hZ (hwd 77 rfl)) (by decide) (backOf (W := 1) (rmcfa l Z A0 hw [] b5 (own_upd (own_upd (own_upd (fun _ => (0 : Int32)) 0 (nar .byte ((fn_a1 0).toInt8.toInt32))) 1 (nar .byte ((fn_a1 1).toInt8.toInt32))) 2 (nar .byte ((fn_a1 2).toInt8.toInt32))) b4 T3.heap n0 Z3 F8) hZ (hwd 77 rfl) (hwd 70 rfl) (by decide) (by decide)) (g := (mkF m 45 #[vR a0, vR a1, vI (0 : Int32), vI (3 : Int32), .val .null, vR b4] [(.int (3 : Int32)), (.ref b4), (.ref a0)])) rfl (by rw [hml]; rfl) (argsL := [(.ref b4), (.int (3 : Int32))]) (rest := [(.ref a0)]) (lenOf pd_75 rfl) rfl (by show 2 * 0 + _ ≤ _; exact Nat.le_of_eq rfl) (hb hby d10_45) (fun _ _ => ⟨rfl, rfl, (by decide : 1 + 0 ≤ _), (by decide : 3 + 0 ≤ _)⟩)
 dsimp only [Pt.U, Pt.locs, Pt.cells, Pt.slots] at X9 l9 y9 z9 st9 hQ9
 subst l9 y9 z9
 obtain ⟨rfl, Nq9, eq9⟩ := hQ9
 have N9 := Fr.app N3 Nq9
 refine own_by st9 ?_
 show own_Go p e below _ (T9.setTop (mkF m 48 #[vR a0, vR a1, vI (0 : Int32), vI (3 : Int32), .val .null, vR b4] [(.int (0 : Int32)), (.ref a0)]))
 have F10 : Exa Z T3.heap a0 "java/lang/String" := (P_E_a0.keep Kq3)
 have F11 : Fld Z T3.heap a0 "java/lang/String" "coder" "B" (.int f_a0_coder) := (P_F_a0_coder.keep Kq3 nin0)
 obtain ⟨T12, h12, X12, e12, W12, st12⟩ := putFN X9 hx hZ hown (hwd 78 rfl) Via.refl eq9 F11 F10 (Or.inr ⟨(hwd 18 rfl), rfl, hnm⟩) (hwd 15 rfl) (ty := .byte) (v' := (.int (nar .byte (0 : Int32)))) (by decide) rfl (fits_nar_byte _) (g := (mkF m 48 #[vR a0, vR a1, vI (0 : Int32), vI (3 : Int32), .val .null, vR b4] [(.int (0 : Int32)), (.ref a0)])) rfl rfl (hb hby d10_48)
 have Fw12 : Fld Z h12 a0 "java/lang/String" "coder" "B" (.int (nar .byte (0 : Int32))) := F11.same W12
 have K12 : Keep h0 h12 [a0] := K3.wr W12 (Or.inl (List.mem_of_getElem? (i := 0) rfl))
 have Z12 : n0 ≤ h12.size := Nat.le_trans Z3 (Keep.of_wr W12).1
 have N12 := Fr.snoc X12 N9 g_a0
 refine own_by st12 ?_
 show own_Go p e below _ (T12.setTop (mkF m 51 #[vR a0, vR a1, vI (0 : Int32), vI (3 : Int32), .val .null, vR b4] []))
 refine own_by (fun _ k => XS.aloadN X12.here hx rfl (hb hby d10_51) rfl rfl k) ?_
 show own_Go p e below _ (T12.setTop (mkF m 52 #[vR a0, vR a1, vI (0 : Int32), vI (3 : Int32), .val .null, vR b4] [(.ref a0)]))
 refine own_by (fun _ k => XS.aload X12.here hx rfl (hb hby d10_52) rfl rfl k) ?_
 show own_Go p e below _ (T12.setTop (mkF m 54 #[vR a0, vR a1, vI (0 : Int32), vI (3 : Int32), .val .null, vR b4] [(.ref b4), (.ref a0)]))
 have F13 : Exa Z h12 a0 "java/lang/String" := (F10.wr W12)
 have F14 : Fld Z h12 a0 "java/lang/String" "value" "[B" f_a0_value := ((P_F_a0_value.keep Kq3 nin0).other W12 (Or.inr (slot_ne (Or.inr (hwd 17 rfl)) (Or.inr (hwd 18 rfl)) (by decide) (t := (.array .byte)) (t' := .byte) (by decide) (by decide))))
 obtain ⟨T15, h15, X15, e15, W15, st15⟩ := putF X12 hx hZ hown (host := "") (Or.inl (hwd 79 rfl)) Via.refl e12 F14 F13 (Or.inr ⟨(hwd 17 rfl), rfl, hnm⟩) (hwd 15 rfl) (ty := (.array .byte)) (by decide) rfl rfl (g := (mkF m 54 #[vR a0, vR a1, vI (0 : Int32), vI (3 : Int32), .val .null, vR b4] [(.ref b4), (.ref a0)])) rfl rfl (hb hby d10_54)
 have Fw15 : Fld Z h15 a0 "java/lang/String" "value" "[B" (.ref b4) := F14.same W15
 have K15 : Keep h0 h15 [a0] := K12.wr W15 (Or.inl (List.mem_of_getElem? (i := 0) rfl))
 have Z15 : n0 ≤ h15.size := Nat.le_trans Z12 (Keep.of_wr W15).1
 have N15 := Fr.snoc X15 N12 g_a0
 refine own_by st15 ?_
 show own_Go p e below _ (T15.setTop (mkF m 57 #[vR a0, vR a1, vI (0 : Int32), vI (3 : Int32), .val .null, vR b4] []))
 have F16 : Exa Z h15 a0 "java/lang/String" := (F13.wr W15)
 have F17 : Fld Z h15 a0 "java/lang/String" "coder" "B" (.int (nar .byte (0 : Int32))) := (Fw12.other W15 (Or.inr (slot_ne (Or.inr (hwd 18 rfl)) (Or.inr (hwd 17 rfl)) (by decide) (t := .byte) (t' := (.array .byte)) (by decide) (by decide))))
 have F18 : own_Arf Z h15 b4 b5 .byte (3 : Int32) (fun i => .int ((own_upd (own_upd (own_upd (fun _ => (0 : Int32)) 0 (nar .byte ((fn_a1 0).toInt8.toInt32))) 1 (nar .byte ((fn_a1 1).toInt8.toInt32))) 2 (nar .byte ((fn_a1 2).toInt8.toInt32))) i)) := ((F8.other W12 (Ne.symm (Nat.ne_of_lt (Nat.lt_of_lt_of_le (P_E_a0).lt hp7)))).other W15 (Ne.symm (Nat.ne_of_lt (Nat.lt_of_lt_of_le (P_E_a0).lt hp7))))
 exact own_ret0 X15 hx Bd.returns (hb hby d10_57) hlk e15 ⟨_, _, rfl, N15, K15, F16, F17, Fw15, hp6, sz_b4, F18⟩ (by decide) (by decide)
theorem pd_62 : parseMethodDescriptor "([CIILjava/lang/Void;)V" = some ⟨[(.array .char), .int, .int, (.object "java/lang/Void")], none⟩ := by decide +kernel
theorem d9_0 : decode jdk_42_method_3_code 0 = .ok (.aload_n 0, 1) := by decide +kernel
theorem d9_1 : decode jdk_42_method_3_code 1 = .ok (.aload_n 1, 1) := by decide +kernel
theorem d9_2 : decode jdk_42_method_3_code 2 = .ok (.iconst 0, 1) := by decide +kernel
theorem d9_3 : decode jdk_42_method_3_code 3 = .ok (.aload_n 1, 1) := by decide +kernel
theorem d9_4 : decode jdk_42_method_3_code 4 = .ok (.arraylength, 1) := by decide +kernel
theorem d9_5 : decode jdk_42_method_3_code 5 = .ok (.aconst_null, 1) := by decide +kernel
theorem d9_6 : decode jdk_42_method_3_code 6 = .ok (.invokespecial 27, 3) := by decide +kernel
theorem d9_9 : decode jdk_42_method_3_code 9 = .ok (.return_, 1) := by decide +kernel
theorem pn_si : plainName "java/lang/String" = true := by first | (simp [plainName, overriddenIn]; done) | decide +kernel
theorem ef_si (m : MethodId) (a0 : Addr) (a1 : Addr) : entryFrame m #[(.ref a0), (.ref a1)] 2 = mkF m 0 #[vR a0, vR a1] [] := by first | (simp [entryFrame, mkF, argsToLocals, Value.category]; done) | rfl
def Qsi (Z : State) (k_a1 : ClassId) (fn_a1 : Nat → Int32) (f_CS : Int32) (a0 : Addr) (a1 : Addr) (f_a0_coder : Int32) (f_a0_value : Value) (h0 : Heap) (n0 : Nat) (v : Option Value) (h : Heap) (L : List Loc) : Prop := ∃ (b3 : Addr) (b4 : ClassId), v = none ∧ Fr n0 L ∧ Keep h0 h [a0] ∧ Exa Z h a0 "java/lang/String" ∧ Fld Z h a0 "java/lang/String" "coder" "B" (.int (0 : Int32)) ∧ Fld Z h a0 "java/lang/String" "value" "[B" (.ref b3) ∧ (n0 ≤ b3) ∧ (h0.size ≤ b3) ∧ own_Arf Z h b3 b4 .byte (3 : Int32) (fun i => .int ((own_upd (own_upd (own_upd (fun _ => (0 : Int32)) 0 (nar .byte ((fn_a1 0).toInt8.toInt32))) 1 (nar .byte ((fn_a1 1).toInt8.toInt32))) 2 (nar .byte ((fn_a1 2).toInt8.toInt32))) i))
set_option maxRecDepth 65536 in
set_option maxHeartbeats 40000000 in
theorem rmsi (l : Launch) (Z : State) (A0 : Array Value) (hw : ∀ d ∈ tables_1, d.before A0 Z = true) (ws : List Jvm.Cond) (k_a1 : ClassId) (fn_a1 : Nat → Int32) (f_CS : Int32) (a0 : Addr) (a1 : Addr) (f_a0_coder : Int32) (f_a0_value : Value) (h0 : Heap) (n0 : Nat) (Z0 : n0 ≤ h0.size) (P_V_a1 : own_Arf Z h0 a1 k_a1 .char (3 : Int32) (fun i => .int (fn_a1 i))) (P_S_CS : Sta Z h0 "java/lang/String" "COMPACT_STRINGS" "Z" (.int f_CS)) (hn_CS : ¬ (f_CS = (0 : Int32))) (hle_0 : ¬ ((255 : Int32) < (fn_a1 0))) (hle_1 : ¬ ((255 : Int32) < (fn_a1 1))) (hle_2 : ¬ ((255 : Int32) < (fn_a1 2))) (P_E_a0 : Exa Z h0 a0 "java/lang/String") (P_F_a0_coder : Fld Z h0 a0 "java/lang/String" "coder" "B" (.int f_a0_coder)) (P_F_a0_value : Fld Z h0 a0 "java/lang/String" "value" "[B" f_a0_value) (g_a0 : n0 ≤ a0) :
    MetFree l (⟨"java/lang/String", "<init>", "([C)V"⟩ : MethodName) (head1 (Jvm.Cond.code (⟨"java/lang/String", "<init>", "([C)V"⟩ : MethodName) jdk_42_method_3_code 2 none :: ws) ({ frames := 3, cells := 1, slots := 3, locals := 52 } : Room)) (fun a U => a = #[(.ref a0), (.ref a1)] ∧ Z.Warmed39 U.vm ∧ U.heap = h0) (fun _ _ _ _ _ => True) (fun _ U o U' => ∃ v L, o = .returned v ∧ Qsi Z k_a1 fn_a1 f_CS a0 a1 f_a0_coder f_a0_value h0 n0 v U'.heap L ∧ FrameEnd U o U' L 1 3) := by
 refine MetFree.of_bodySF (plainFor_of_name pn_si) hisR ?_
 intro p e s m args below meth c s₁ Bd hml0 hP hK
 obtain ⟨rfl, hZ, hh⟩ := hP
 have hwd := fun i {d : Jvm.Cond} (h : tables_1[i]? = some d) => hw d (List.mem_of_getElem? h)
 have hx := Bd.exec
 have hby := Bd.bytes
 have hml : c.maxLocals = 2 := hml0
 have hlk : meth.locks = false := Bd.notSynchronized
 have hown : s.vm.findClass "java/lang/String" = some m.cls := findClass_of_methodNamed Bd.named
 have hnm := (name_of_methodNamed Bd.named Bd.method).1
 have X0 : Stand p l e ({ frames := 3, cells := 1, slots := 3, locals := 52 } : Room) s m #[(.ref a0), (.ref a1)] below meth c s₁ [] 0 0 := Stand.of_body Bd
 have e0 : s₁.heap = h0 := by rw [← hh, Bd.state]; rfl
 have N0 := Fr.nil n0
 show own_Go p e below (own_Fin s 1 3 (Qsi Z k_a1 fn_a1 f_CS a0 a1 f_a0_coder f_a0_value h0 n0)) _
 refine own_by (fun t k => castTop (ef_si m a0 a1) k) ?_
 show own_Go p e below _ (s₁.setTop (mkF m 0 #[vR a0, vR a1] []))
 refine own_by (fun _ k => XS.aloadN X0.here hx rfl (hb hby d9_0) rfl rfl k) ?_
 show own_Go p e below _ (s₁.setTop (mkF m 1 #[vR a0, vR a1] [(.ref a0)]))
 refine own_by (fun _ k => XS.aloadN X0.here hx rfl (hb hby d9_1) rfl rfl k) ?_
 show own_Go p e below _ (s₁.setTop (mkF m 2 #[vR a0, vR a1] [(.ref a1), (.ref a0)]))
 refine own_by (fun _ k => XS.iconst X0.here hx rfl (hb hby d9_2) k) ?_
 show own_Go p e below _ (s₁.setTop (mkF m 3 #[vR a0, vR a1] [(.int (0 : Int32)), (.ref a1), (.ref a0)]))
 refine own_by (fun _ k => XS.aloadN X0.here hx rfl (hb hby d9_3) rfl rfl k) ?_
 show own_Go p e below _ (s₁.setTop (mkF m 4 #[vR a0, vR a1] [(.ref a1), (.int (0 : Int32)), (.ref a1), (.ref a0)]))
 obtain ⟨cl1, Ar1, qq1, S1, M1, H1, G1⟩ := id P_V_a1
 refine own_by (fun t k => X0.arraylength hx (by rw [e0]; exact Ar1.1) (State.isArrayOf_alike hZ.alike Ar1.2.1) (g := (mkF m 4 #[vR a0, vR a1] [(.ref a1), (.int (0 : Int32)), (.ref a1), (.ref a0)])) rfl rfl (hb hby d9_4) _ k) ?_
 rw [len_of S1 M1]
 show own_Go p e below _ (s₁.setTop (mkF m 5 #[vR a0, vR a1] [(.int (3 : Int32)), (.int (0 : Int32)), (.ref a1), (.ref a0)]))
 refine own_by (fun _ k => XS.aconstNull X0.here hx rfl (hb hby d9_5) k) ?_
 show own_Go p e below _ (s₁.setTop (mkF m 6 #[vR a0, vR a1] [.null, (.int (3 : Int32)), (.int (0 : Int32)), (.ref a1), (.ref a0)]))
 obtain ⟨_, _, ⟨T2, L2, k2, n2⟩, -, X2, ⟨Lc2, hQ2, l2, y2, z2⟩, st2⟩ := X0.specialBack hx (y := (⟨"java/lang/String", "<init>", "([CIILjava/lang/Void;)V"⟩ : MethodName)) rfl hown (mvT hZ (hwd 62 rfl)) (mvT hZ (hwd 63 rfl)) (mvT hZ (hwd 65 rfl)) (by decide) (backOf (W := 0) (rmsi4 l Z A0 hw [] k_a1 fn_a1 f_CS a0 a1 f_a0_coder f_a0_value h0 n0 Z0 P_V_a1 P_S_CS hn_CS hle_0 hle_1 hle_2 P_E_a0 P_F_a0_coder g_a0 P_F_a0_value) hZ (hwd 65 rfl) (hwd 14 rfl) (by decide) (by decide)) (g := (mkF m 6 #[vR a0, vR a1] [.null, (.int (3 : Int32)), (.int (0 : Int32)), (.ref a1), (.ref a0)])) rfl (by rw [hml]; rfl) (Steps.refl _) (a := a0) (argsL := [(.ref a1), (.int (0 : Int32)), (.int (3 : Int32)), .null]) (rest := []) (lenOf pd_62 rfl) rfl (by show 2 * 0 + _ ≤ _; exact Nat.le_of_eq rfl) (hb hby d9_6) (fun _ _ => ⟨rfl, e0, (by decide : 0 + 1 ≤ _), (by decide : 0 + 3 ≤ _)⟩)
 dsimp only [Pt.U, Pt.locs, Pt.cells, Pt.slots] at X2 l2 y2 z2 st2 hQ2
 subst l2 y2 z2
 obtain ⟨b3, b4, rfl, Nq2, Kq2, F5, F6, F7, hp8, hp9, F10⟩ := hQ2
 have N2 := Fr.app N0 Nq2
 have K2 : Keep h0 T2.heap [a0] := (Keep.refl h0 [a0]).trans Kq2 ((allS (Or.inl (List.mem_of_getElem? (i := 0) rfl)) all0))
 have Z2 : n0 ≤ T2.heap.size := Nat.le_trans Z0 Kq2.1
 have sz_b3 : h0.size ≤ b3 := Nat.le_trans (Keep.refl h0 [a0]).1 hp9
 refine own_by (fun _ k => st2.trans k) ?_
 show own_Go p e below _ (T2.setTop (mkF m 9 #[vR a0, vR a1] []))
 exact own_ret0 X2 hx Bd.returns (hb hby d9_9) hlk rfl ⟨_, _, rfl, N2, K2, F5, F6, F7, hp8, sz_b3, F10⟩ (by decide) (by decide)
theorem d14_0 : decode jdk_43_method_13_code 0 = .ok (.aload_n 0, 1) := by decide +kernel
theorem d14_1 : decode jdk_43_method_13_code 1 = .ok (.arraylength, 1) := by decide +kernel
theorem d14_2 : decode jdk_43_method_13_code 2 = .ok (.aload_n 1, 1) := by decide +kernel
theorem d14_3 : decode jdk_43_method_13_code 3 = .ok (.arraylength, 1) := by decide +kernel
theorem d14_4 : decode jdk_43_method_13_code 4 = .ok (.if_icmp .ne 30, 3) := by decide +kernel
theorem d14_7 : decode jdk_43_method_13_code 7 = .ok (.iconst 0, 1) := by decide +kernel
theorem d14_8 : decode jdk_43_method_13_code 8 = .ok (.istore_n 2, 1) := by decide +kernel
theorem d14_9 : decode jdk_43_method_13_code 9 = .ok (.iload_n 2, 1) := by decide +kernel
theorem d14_10 : decode jdk_43_method_13_code 10 = .ok (.aload_n 0, 1) := by decide +kernel
theorem d14_11 : decode jdk_43_method_13_code 11 = .ok (.arraylength, 1) := by decide +kernel
theorem d14_12 : decode jdk_43_method_13_code 12 = .ok (.if_icmp .ge 20, 3) := by decide +kernel
theorem d14_15 : decode jdk_43_method_13_code 15 = .ok (.aload_n 0, 1) := by decide +kernel
theorem d14_16 : decode jdk_43_method_13_code 16 = .ok (.iload_n 2, 1) := by decide +kernel
theorem d14_17 : decode jdk_43_method_13_code 17 = .ok (.baload, 1) := by decide +kernel
theorem d14_18 : decode jdk_43_method_13_code 18 = .ok (.aload_n 1, 1) := by decide +kernel
theorem d14_19 : decode jdk_43_method_13_code 19 = .ok (.iload_n 2, 1) := by decide +kernel
theorem d14_20 : decode jdk_43_method_13_code 20 = .ok (.baload, 1) := by decide +kernel
theorem d14_21 : decode jdk_43_method_13_code 21 = .ok (.if_icmp .eq 5, 3) := by decide +kernel
theorem d14_24 : decode jdk_43_method_13_code 24 = .ok (.iconst 0, 1) := by decide +kernel
theorem d14_25 : decode jdk_43_method_13_code 25 = .ok (.ireturn, 1) := by decide +kernel
theorem d14_26 : decode jdk_43_method_13_code 26 = .ok (.iinc 2 1, 3) := by decide +kernel
theorem d14_29 : decode jdk_43_method_13_code 29 = .ok (.goto (-20), 3) := by decide +kernel
theorem d14_32 : decode jdk_43_method_13_code 32 = .ok (.iconst 1, 1) := by decide +kernel
theorem d14_33 : decode jdk_43_method_13_code 33 = .ok (.ireturn, 1) := by decide +kernel
theorem pn_leq : plainName "java/lang/StringLatin1" = true := by first | (simp [plainName, overriddenIn]; done) | decide +kernel
theorem ef_leq (m : MethodId) (a0 : Addr) (a1 : Addr) : entryFrame m #[(.ref a0), (.ref a1)] 3 = mkF m 0 #[vR a0, vR a1, .unset] [] := by first | (simp [entryFrame, mkF, argsToLocals, Value.category]; done) | rfl
theorem ob_leq_1 (fn_a0 : Nat → Int32) (fn_a1 : Nat → Int32) (c6 : (fn_a0 0) = (fn_a1 0)) (c10 : (fn_a0 1) = (fn_a1 1)) (c14 : (fn_a0 2) = (fn_a1 2)) : own_eq3 fn_a0 fn_a1 (1 : Int32) := by
  simp only [own_eq3]
  grind
theorem ob_leq_2 (fn_a0 : Nat → Int32) (fn_a1 : Nat → Int32) (c6 : (fn_a0 0) = (fn_a1 0)) (c10 : (fn_a0 1) = (fn_a1 1)) (c14 : ¬ ((fn_a0 2) = (fn_a1 2))) : own_eq3 fn_a0 fn_a1 (0 : Int32) := by
  simp only [own_eq3]
  grind
theorem ob_leq_3 (fn_a0 : Nat → Int32) (fn_a1 : Nat → Int32) (c6 : (fn_a0 0) = (fn_a1 0)) (c10 : ¬ ((fn_a0 1) = (fn_a1 1))) : own_eq3 fn_a0 fn_a1 (0 : Int32) := by
  simp only [own_eq3]
  grind
theorem ob_leq_4 (fn_a0 : Nat → Int32) (fn_a1 : Nat → Int32) (c6 : ¬ ((fn_a0 0) = (fn_a1 0))) : own_eq3 fn_a0 fn_a1 (0 : Int32) := by
  simp only [own_eq3]
  grind
def Qleq (Z : State) (k_a0 : ClassId) (fn_a0 : Nat → Int32) (k_a1 : ClassId) (fn_a1 : Nat → Int32) (a0 : Addr) (a1 : Addr) (h0 : Heap) (n0 : Nat) (v : Option Value) (h : Heap) (L : List Loc) : Prop := ∃ (zz : Int32), v = some (.int zz) ∧ Fr n0 L ∧ h = h0 ∧ (own_eq3 fn_a0 fn_a1 zz)
set_option maxRecDepth 65536 in
set_option maxHeartbeats 40000000 in
theorem rmleq (l : Launch) (Z : State) (A0 : Array Value) (hw : ∀ d ∈ tables_1, d.before A0 Z = true) (ws : List Jvm.Cond) (k_a0 : ClassId) (fn_a0 : Nat → Int32) (k_a1 : ClassId) (fn_a1 : Nat → Int32) (a0 : Addr) (a1 : Addr) (h0 : Heap) (n0 : Nat) (Z0 : n0 ≤ h0.size) (P_V_a0 : own_Arf Z h0 a0 k_a0 .byte (3 : Int32) (fun i => .int (fn_a0 i))) (P_V_a1 : own_Arf Z h0 a1 k_a1 .byte (3 : Int32) (fun i => .int (fn_a1 i))) :
    MetFree l (⟨"java/lang/StringLatin1", "equals", "([B[B)Z"⟩ : MethodName) (head1 (Jvm.Cond.code (⟨"java/lang/StringLatin1", "equals", "([B[B)Z"⟩ : MethodName) jdk_43_method_13_code 3 (some .boolean) :: ws) ({ frames := 0, cells := 0, slots := 0, locals := 0 } : Room)) (fun a U => a = #[(.ref a0), (.ref a1)] ∧ Z.Warmed39 U.vm ∧ U.heap = h0) (fun _ _ _ _ _ => True) (fun _ U o U' => ∃ v L, o = .returned v ∧ Qleq Z k_a0 fn_a0 k_a1 fn_a1 a0 a1 h0 n0 v U'.heap L ∧ FrameEnd U o U' L 0 0) := by
 refine MetFree.of_bodySF (plainFor_of_name pn_leq) hisR ?_
 intro p e s m args below meth c s₁ Bd hml0 hP hK
 obtain ⟨rfl, hZ, hh⟩ := hP
 have hwd := fun i {d : Jvm.Cond} (h : tables_1[i]? = some d) => hw d (List.mem_of_getElem? h)
 have hx := Bd.exec
 have hby := Bd.bytes
 have hml : c.maxLocals = 3 := hml0
 have hlk : meth.locks = false := Bd.notSynchronized
 have hown : s.vm.findClass "java/lang/StringLatin1" = some m.cls := findClass_of_methodNamed Bd.named
 have hnm := (name_of_methodNamed Bd.named Bd.method).1
 have X0 : Stand p l e ({ frames := 0, cells := 0, slots := 0, locals := 0 } : Room) s m #[(.ref a0), (.ref a1)] below meth c s₁ [] 0 0 := Stand.of_body Bd
 have e0 : s₁.heap = h0 := by rw [← hh, Bd.state]; rfl
 have N0 := Fr.nil n0
 show own_Go p e below (own_Fin s 0 0 (Qleq Z k_a0 fn_a0 k_a1 fn_a1 a0 a1 h0 n0)) _
 refine own_by (fun t k => castTop (ef_leq m a0 a1) k) ?_
 show own_Go p e below _ (s₁.setTop (mkF m 0 #[vR a0, vR a1, .unset] []))
 refine own_by (fun _ k => XS.aloadN X0.here hx rfl (hb hby d14_0) rfl rfl k) ?_
 show own_Go p e below _ (s₁.setTop (mkF m 1 #[vR a0, vR a1, .unset] [(.ref a0)]))
 obtain ⟨cl1, Ar1, qq1, S1, M1, H1, G1⟩ := id P_V_a0
 refine own_by (fun t k => X0.arraylength hx (by rw [e0]; exact Ar1.1) (State.isArrayOf_alike hZ.alike Ar1.2.1) (g := (mkF m 1 #[vR a0, vR a1, .unset] [(.ref a0)])) rfl rfl (hb hby d14_1) _ k) ?_
 rw [len_of S1 M1]
 show own_Go p e below _ (s₁.setTop (mkF m 2 #[vR a0, vR a1, .unset] [(.int (3 : Int32))]))
 refine own_by (fun _ k => XS.aloadN X0.here hx rfl (hb hby d14_2) rfl rfl k) ?_
 show own_Go p e below _ (s₁.setTop (mkF m 3 #[vR a0, vR a1, .unset] [(.ref a1), (.int (3 : Int32))]))
 obtain ⟨cl2, Ar2, qq2, S2, M2, H2, G2⟩ := id P_V_a1
 refine own_by (fun t k => X0.arraylength hx (by rw [e0]; exact Ar2.1) (State.isArrayOf_alike hZ.alike Ar2.2.1) (g := (mkF m 3 #[vR a0, vR a1, .unset] [(.ref a1), (.int (3 : Int32))])) rfl rfl (hb hby d14_3) _ k) ?_
 rw [len_of S2 M2]
 show own_Go p e below _ (s₁.setTop (mkF m 4 #[vR a0, vR a1, .unset] [(.int (3 : Int32)), (.int (3 : Int32))]))
 refine own_by (fun _ k => XS.icmpNo X0.here hx rfl (hb hby d14_4) rfl (teq (by decide : (3 : Int32) = (3 : Int32))).2 k) ?_
 show own_Go p e below _ (s₁.setTop (mkF m 7 #[vR a0, vR a1, .unset] []))
 refine own_by (fun _ k => XS.iconst X0.here hx rfl (hb hby d14_7) k) ?_
 show own_Go p e below _ (s₁.setTop (mkF m 8 #[vR a0, vR a1, .unset] [(.int (0 : Int32))]))
 refine own_by (fun _ k => XS.istoreN X0.here hx rfl (hb hby d14_8) rfl (l' := #[vR a0, vR a1, vI (0 : Int32)]) rfl k) ?_
 show own_Go p e below _ (s₁.setTop (mkF m 9 #[vR a0, vR a1, vI (0 : Int32)] []))
 refine own_by (fun _ k => XS.iloadN X0.here hx rfl (hb hby d14_9) rfl k) ?_
 show own_Go p e below _ (s₁.setTop (mkF m 10 #[vR a0, vR a1, vI (0 : Int32)] [(.int (0 : Int32))]))
 refine own_by (fun _ k => XS.aloadN X0.here hx rfl (hb hby d14_10) rfl rfl k) ?_
 show own_Go p e below _ (s₁.setTop (mkF m 11 #[vR a0, vR a1, vI (0 : Int32)] [(.ref a0), (.int (0 : Int32))]))
 obtain ⟨cl3, Ar3, qq3, S3, M3, H3, G3⟩ := id P_V_a0
 refine own_by (fun t k => X0.arraylength hx (by rw [e0]; exact Ar3.1) (State.isArrayOf_alike hZ.alike Ar3.2.1) (g := (mkF m 11 #[vR a0, vR a1, vI (0 : Int32)] [(.ref a0), (.int (0 : Int32))])) rfl rfl (hb hby d14_11) _ k) ?_
 rw [len_of S3 M3]
 show own_Go p e below _ (s₁.setTop (mkF m 12 #[vR a0, vR a1, vI (0 : Int32)] [(.int (3 : Int32)), (.int (0 : Int32))]))
 refine own_by (fun _ k => XS.icmpNo X0.here hx rfl (hb hby d14_12) rfl (tlt (by decide : (0 : Int32) < (3 : Int32))).2.1 k) ?_
 show own_Go p e below _ (s₁.setTop (mkF m 15 #[vR a0, vR a1, vI (0 : Int32)] []))
 refine own_by (fun _ k => XS.aloadN X0.here hx rfl (hb hby d14_15) rfl rfl k) ?_
 show own_Go p e below _ (s₁.setTop (mkF m 16 #[vR a0, vR a1, vI (0 : Int32)] [(.ref a0)]))
 refine own_by (fun _ k => XS.iloadN X0.here hx rfl (hb hby d14_16) rfl k) ?_
 show own_Go p e below _ (s₁.setTop (mkF m 17 #[vR a0, vR a1, vI (0 : Int32)] [(.int (0 : Int32)), (.ref a0)]))
 obtain ⟨cl4, Ar4, qq4, S4, M4, H4, G4⟩ := id P_V_a0
 have hin4 : ¬ ((0 : Int32) < 0 ∨ cl4.slots.size ≤ ((0 : Int32)).toNatClampNeg) := inb_of S4 ⟨by decide, by decide⟩
 refine own_by (fun t k => X0.baloadBytes hx (j := (0 : Int32)) (v := (.int (fn_a0 0))) (by rw [e0]; exact Ar4.1) (State.isArrayOf_alike hZ.alike Ar4.2.1) Ar4.2.2 hin4 (H4 _ (Nat.lt_of_not_le fun y => hin4 (Or.inr y))) (g := (mkF m 17 #[vR a0, vR a1, vI (0 : Int32)] [(.int (0 : Int32)), (.ref a0)])) rfl rfl (hb hby d14_17) _ k) ?_
 show own_Go p e below _ (s₁.setTop (mkF m 18 #[vR a0, vR a1, vI (0 : Int32)] [(.int (fn_a0 0))]))
 refine own_by (fun _ k => XS.aloadN X0.here hx rfl (hb hby d14_18) rfl rfl k) ?_
 show own_Go p e below _ (s₁.setTop (mkF m 19 #[vR a0, vR a1, vI (0 : Int32)] [(.ref a1), (.int (fn_a0 0))]))
 refine own_by (fun _ k => XS.iloadN X0.here hx rfl (hb hby d14_19) rfl k) ?_
 show own_Go p e below _ (s₁.setTop (mkF m 20 #[vR a0, vR a1, vI (0 : Int32)] [(.int (0 : Int32)), (.ref a1), (.int (fn_a0 0))]))
 obtain ⟨cl5, Ar5, qq5, S5, M5, H5, G5⟩ := id P_V_a1
 have hin5 : ¬ ((0 : Int32) < 0 ∨ cl5.slots.size ≤ ((0 : Int32)).toNatClampNeg) := inb_of S5 ⟨by decide, by decide⟩
 refine own_by (fun t k => X0.baloadBytes hx (j := (0 : Int32)) (v := (.int (fn_a1 0))) (by rw [e0]; exact Ar5.1) (State.isArrayOf_alike hZ.alike Ar5.2.1) Ar5.2.2 hin5 (H5 _ (Nat.lt_of_not_le fun y => hin5 (Or.inr y))) (g := (mkF m 20 #[vR a0, vR a1, vI (0 : Int32)] [(.int (0 : Int32)), (.ref a1), (.int (fn_a0 0))])) rfl rfl (hb hby d14_20) _ k) ?_
 show own_Go p e below _ (s₁.setTop (mkF m 21 #[vR a0, vR a1, vI (0 : Int32)] [(.int (fn_a1 0)), (.int (fn_a0 0))]))
 by_cases c6 : (fn_a0 0) = (fn_a1 0)
 ·skip
  refine own_by (fun _ k => XS.icmpYes X0.here hx rfl (pc0 := 21) (pc' := 26) rfl (hb hby d14_21) rfl (teq c6).1 (by decide) (by decide) k) ?_
  show own_Go p e below _ (s₁.setTop (mkF m 26 #[vR a0, vR a1, vI (0 : Int32)] []))
  refine own_by (fun _ k => XS.iinc X0.here hx rfl (hb hby d14_26) rfl (l' := #[vR a0, vR a1, vI (1 : Int32)]) rfl k) ?_
  show own_Go p e below _ (s₁.setTop (mkF m 29 #[vR a0, vR a1, vI (1 : Int32)] []))
  refine own_by (fun _ k => XS.goto X0.here hx rfl (pc0 := 29) (pc' := 9) rfl (hb hby d14_29) (by decide) (by decide) k) ?_
  show own_Go p e below _ (s₁.setTop (mkF m 9 #[vR a0, vR a1, vI (1 : Int32)] []))
  refine own_by (fun _ k => XS.iloadN X0.here hx rfl (hb hby d14_9) rfl k) ?_
  show own_Go p e below _ (s₁.setTop (mkF m 10 #[vR a0, vR a1, vI (1 : Int32)] [(.int (1 : Int32))]))
  refine own_by (fun _ k => XS.aloadN X0.here hx rfl (hb hby d14_10) rfl rfl k) ?_
  show own_Go p e below _ (s₁.setTop (mkF m 11 #[vR a0, vR a1, vI (1 : Int32)] [(.ref a0), (.int (1 : Int32))]))
  obtain ⟨cl7, Ar7, qq7, S7, M7, H7, G7⟩ := id P_V_a0
  refine own_by (fun t k => X0.arraylength hx (by rw [e0]; exact Ar7.1) (State.isArrayOf_alike hZ.alike Ar7.2.1) (g := (mkF m 11 #[vR a0, vR a1, vI (1 : Int32)] [(.ref a0), (.int (1 : Int32))])) rfl rfl (hb hby d14_11) _ k) ?_
  rw [len_of S7 M7]
  show own_Go p e below _ (s₁.setTop (mkF m 12 #[vR a0, vR a1, vI (1 : Int32)] [(.int (3 : Int32)), (.int (1 : Int32))]))
  refine own_by (fun _ k => XS.icmpNo X0.here hx rfl (hb hby d14_12) rfl (tlt (by decide : (1 : Int32) < (3 : Int32))).2.1 k) ?_
  show own_Go p e below _ (s₁.setTop (mkF m 15 #[vR a0, vR a1, vI (1 : Int32)] []))
  refine own_by (fun _ k => XS.aloadN X0.here hx rfl (hb hby d14_15) rfl rfl k) ?_
  show own_Go p e below _ (s₁.setTop (mkF m 16 #[vR a0, vR a1, vI (1 : Int32)] [(.ref a0)]))
  refine own_by (fun _ k => XS.iloadN X0.here hx rfl (hb hby d14_16) rfl k) ?_
  show own_Go p e below _ (s₁.setTop (mkF m 17 #[vR a0, vR a1, vI (1 : Int32)] [(.int (1 : Int32)), (.ref a0)]))
  obtain ⟨cl8, Ar8, qq8, S8, M8, H8, G8⟩ := id P_V_a0
  have hin8 : ¬ ((1 : Int32) < 0 ∨ cl8.slots.size ≤ ((1 : Int32)).toNatClampNeg) := inb_of S8 ⟨by decide, by decide⟩
  refine own_by (fun t k => X0.baloadBytes hx (j := (1 : Int32)) (v := (.int (fn_a0 1))) (by rw [e0]; exact Ar8.1) (State.isArrayOf_alike hZ.alike Ar8.2.1) Ar8.2.2 hin8 (H8 _ (Nat.lt_of_not_le fun y => hin8 (Or.inr y))) (g := (mkF m 17 #[vR a0, vR a1, vI (1 : Int32)] [(.int (1 : Int32)), (.ref a0)])) rfl rfl (hb hby d14_17) _ k) ?_
  show own_Go p e below _ (s₁.setTop (mkF m 18 #[vR a0, vR a1, vI (1 : Int32)] [(.int (fn_a0 1))]))
  refine own_by (fun _ k => XS.aloadN X0.here hx rfl (hb hby d14_18) rfl rfl k) ?_
  show own_Go p e below _ (s₁.setTop (mkF m 19 #[vR a0, vR a1, vI (1 : Int32)] [(.ref a1), (.int (fn_a0 1))]))
  refine own_by (fun _ k => XS.iloadN X0.here hx rfl (hb hby d14_19) rfl k) ?_
  show own_Go p e below _ (s₁.setTop (mkF m 20 #[vR a0, vR a1, vI (1 : Int32)] [(.int (1 : Int32)), (.ref a1), (.int (fn_a0 1))]))
  obtain ⟨cl9, Ar9, qq9, S9, M9, H9, G9⟩ := id P_V_a1
  have hin9 : ¬ ((1 : Int32) < 0 ∨ cl9.slots.size ≤ ((1 : Int32)).toNatClampNeg) := inb_of S9 ⟨by decide, by decide⟩
  refine own_by (fun t k => X0.baloadBytes hx (j := (1 : Int32)) (v := (.int (fn_a1 1))) (by rw [e0]; exact Ar9.1) (State.isArrayOf_alike hZ.alike Ar9.2.1) Ar9.2.2 hin9 (H9 _ (Nat.lt_of_not_le fun y => hin9 (Or.inr y))) (g := (mkF m 20 #[vR a0, vR a1, vI (1 : Int32)] [(.int (1 : Int32)), (.ref a1), (.int (fn_a0 1))])) rfl rfl (hb hby d14_20) _ k) ?_
  show own_Go p e below _ (s₁.setTop (mkF m 21 #[vR a0, vR a1, vI (1 : Int32)] [(.int (fn_a1 1)), (.int (fn_a0 1))]))
  by_cases c10 : (fn_a0 1) = (fn_a1 1)
  ·skip
   refine own_by (fun _ k => XS.icmpYes X0.here hx rfl (pc0 := 21) (pc' := 26) rfl (hb hby d14_21) rfl (teq c10).1 (by decide) (by decide) k) ?_
   show own_Go p e below _ (s₁.setTop (mkF m 26 #[vR a0, vR a1, vI (1 : Int32)] []))
   refine own_by (fun _ k => XS.iinc X0.here hx rfl (hb hby d14_26) rfl (l' := #[vR a0, vR a1, vI (2 : Int32)]) rfl k) ?_
   show own_Go p e below _ (s₁.setTop (mkF m 29 #[vR a0, vR a1, vI (2 : Int32)] []))
   refine own_by (fun _ k => XS.goto X0.here hx rfl (pc0 := 29) (pc' := 9) rfl (hb hby d14_29) (by decide) (by decide) k) ?_
   show own_Go p e below _ (s₁.setTop (mkF m 9 #[vR a0, vR a1, vI (2 : Int32)] []))
   refine own_by (fun _ k => XS.iloadN X0.here hx rfl (hb hby d14_9) rfl k) ?_
   show own_Go p e below _ (s₁.setTop (mkF m 10 #[vR a0, vR a1, vI (2 : Int32)] [(.int (2 : Int32))]))
   refine own_by (fun _ k => XS.aloadN X0.here hx rfl (hb hby d14_10) rfl rfl k) ?_
   show own_Go p e below _ (s₁.setTop (mkF m 11 #[vR a0, vR a1, vI (2 : Int32)] [(.ref a0), (.int (2 : Int32))]))
   obtain ⟨cl11, Ar11, qq11, S11, M11, H11, G11⟩ := id P_V_a0
   refine own_by (fun t k => X0.arraylength hx (by rw [e0]; exact Ar11.1) (State.isArrayOf_alike hZ.alike Ar11.2.1) (g := (mkF m 11 #[vR a0, vR a1, vI (2 : Int32)] [(.ref a0), (.int (2 : Int32))])) rfl rfl (hb hby d14_11) _ k) ?_
   rw [len_of S11 M11]
   show own_Go p e below _ (s₁.setTop (mkF m 12 #[vR a0, vR a1, vI (2 : Int32)] [(.int (3 : Int32)), (.int (2 : Int32))]))
   refine own_by (fun _ k => XS.icmpNo X0.here hx rfl (hb hby d14_12) rfl (tlt (by decide : (2 : Int32) < (3 : Int32))).2.1 k) ?_
   show own_Go p e below _ (s₁.setTop (mkF m 15 #[vR a0, vR a1, vI (2 : Int32)] []))
   refine own_by (fun _ k => XS.aloadN X0.here hx rfl (hb hby d14_15) rfl rfl k) ?_
   show own_Go p e below _ (s₁.setTop (mkF m 16 #[vR a0, vR a1, vI (2 : Int32)] [(.ref a0)]))
   refine own_by (fun _ k => XS.iloadN X0.here hx rfl (hb hby d14_16) rfl k) ?_
   show own_Go p e below _ (s₁.setTop (mkF m 17 #[vR a0, vR a1, vI (2 : Int32)] [(.int (2 : Int32)), (.ref a0)]))
   obtain ⟨cl12, Ar12, qq12, S12, M12, H12, G12⟩ := id P_V_a0
   have hin12 : ¬ ((2 : Int32) < 0 ∨ cl12.slots.size ≤ ((2 : Int32)).toNatClampNeg) := inb_of S12 ⟨by decide, by decide⟩
   refine own_by (fun t k => X0.baloadBytes hx (j := (2 : Int32)) (v := (.int (fn_a0 2))) (by rw [e0]; exact Ar12.1) (State.isArrayOf_alike hZ.alike Ar12.2.1) Ar12.2.2 hin12 (H12 _ (Nat.lt_of_not_le fun y => hin12 (Or.inr y))) (g := (mkF m 17 #[vR a0, vR a1, vI (2 : Int32)] [(.int (2 : Int32)), (.ref a0)])) rfl rfl (hb hby d14_17) _ k) ?_
   show own_Go p e below _ (s₁.setTop (mkF m 18 #[vR a0, vR a1, vI (2 : Int32)] [(.int (fn_a0 2))]))
   refine own_by (fun _ k => XS.aloadN X0.here hx rfl (hb hby d14_18) rfl rfl k) ?_
   show own_Go p e below _ (s₁.setTop (mkF m 19 #[vR a0, vR a1, vI (2 : Int32)] [(.ref a1), (.int (fn_a0 2))]))
   refine own_by (fun _ k => XS.iloadN X0.here hx rfl (hb hby d14_19) rfl k) ?_
   show own_Go p e below _ (s₁.setTop (mkF m 20 #[vR a0, vR a1, vI (2 : Int32)] [(.int (2 : Int32)), (.ref a1), (.int (fn_a0 2))]))
   obtain ⟨cl13, Ar13, qq13, S13, M13, H13, G13⟩ := id P_V_a1
   have hin13 : ¬ ((2 : Int32) < 0 ∨ cl13.slots.size ≤ ((2 : Int32)).toNatClampNeg) := inb_of S13 ⟨by decide, by decide⟩
   refine own_by (fun t k => X0.baloadBytes hx (j := (2 : Int32)) (v := (.int (fn_a1 2))) (by rw [e0]; exact Ar13.1) (State.isArrayOf_alike hZ.alike Ar13.2.1) Ar13.2.2 hin13 (H13 _ (Nat.lt_of_not_le fun y => hin13 (Or.inr y))) (g := (mkF m 20 #[vR a0, vR a1, vI (2 : Int32)] [(.int (2 : Int32)), (.ref a1), (.int (fn_a0 2))])) rfl rfl (hb hby d14_20) _ k) ?_
   show own_Go p e below _ (s₁.setTop (mkF m 21 #[vR a0, vR a1, vI (2 : Int32)] [(.int (fn_a1 2)), (.int (fn_a0 2))]))
   by_cases c14 : (fn_a0 2) = (fn_a1 2)
   ·skip
    refine own_by (fun _ k => XS.icmpYes X0.here hx rfl (pc0 := 21) (pc' := 26) rfl (hb hby d14_21) rfl (teq c14).1 (by decide) (by decide) k) ?_
    show own_Go p e below _ (s₁.setTop (mkF m 26 #[vR a0, vR a1, vI (2 : Int32)] []))
    refine own_by (fun _ k => XS.iinc X0.here hx rfl (hb hby d14_26) rfl (l' := #[vR a0, vR a1, vI (3 : Int32)]) rfl k) ?_
    show own_Go p e below _ (s₁.setTop (mkF m 29 #[vR a0, vR a1, vI (3 : Int32)] []))
    refine own_by (fun _ k => XS.goto X0.here hx rfl (pc0 := 29) (pc' := 9) rfl (hb hby d14_29) (by decide) (by decide) k) ?_
    show own_Go p e below _ (s₁.setTop (mkF m 9 #[vR a0, vR a1, vI (3 : Int32)] []))
    refine own_by (fun _ k => XS.iloadN X0.here hx rfl (hb hby d14_9) rfl k) ?_
    show own_Go p e below _ (s₁.setTop (mkF m 10 #[vR a0, vR a1, vI (3 : Int32)] [(.int (3 : Int32))]))
    refine own_by (fun _ k => XS.aloadN X0.here hx rfl (hb hby d14_10) rfl rfl k) ?_
    show own_Go p e below _ (s₁.setTop (mkF m 11 #[vR a0, vR a1, vI (3 : Int32)] [(.ref a0), (.int (3 : Int32))]))
    obtain ⟨cl15, Ar15, qq15, S15, M15, H15, G15⟩ := id P_V_a0
    refine own_by (fun t k => X0.arraylength hx (by rw [e0]; exact Ar15.1) (State.isArrayOf_alike hZ.alike Ar15.2.1) (g := (mkF m 11 #[vR a0, vR a1, vI (3 : Int32)] [(.ref a0), (.int (3 : Int32))])) rfl rfl (hb hby d14_11) _ k) ?_
    rw [len_of S15 M15]
    show own_Go p e below _ (s₁.setTop (mkF m 12 #[vR a0, vR a1, vI (3 : Int32)] [(.int (3 : Int32)), (.int (3 : Int32))]))
    refine own_by (fun _ k => XS.icmpYes X0.here hx rfl (pc0 := 12) (pc' := 32) rfl (hb hby d14_12) rfl (flt (by decide : ¬ ((3 : Int32) < (3 : Int32)))).2.1 (by decide) (by decide) k) ?_
    show own_Go p e below _ (s₁.setTop (mkF m 32 #[vR a0, vR a1, vI (3 : Int32)] []))
    refine own_by (fun _ k => XS.iconst X0.here hx rfl (hb hby d14_32) k) ?_
    show own_Go p e below _ (s₁.setTop (mkF m 33 #[vR a0, vR a1, vI (3 : Int32)] [(.int (1 : Int32))]))
    exact own_retN X0 hx (t := .boolean) Bd.returns (by simp) (hb hby d14_33) hlk e0 ⟨_, rfl, N0, rfl, (ob_leq_1 fn_a0 fn_a1 c6 c10 c14)⟩ (by decide) (by decide)
   ·skip
    refine own_by (fun _ k => XS.icmpNo X0.here hx rfl (hb hby d14_21) rfl (feq c14).1 k) ?_
    show own_Go p e below _ (s₁.setTop (mkF m 24 #[vR a0, vR a1, vI (2 : Int32)] []))
    refine own_by (fun _ k => XS.iconst X0.here hx rfl (hb hby d14_24) k) ?_
    show own_Go p e below _ (s₁.setTop (mkF m 25 #[vR a0, vR a1, vI (2 : Int32)] [(.int (0 : Int32))]))
    exact own_retN X0 hx (t := .boolean) Bd.returns (by simp) (hb hby d14_25) hlk e0 ⟨_, rfl, N0, rfl, (ob_leq_2 fn_a0 fn_a1 c6 c10 c14)⟩ (by decide) (by decide)
  ·skip
   refine own_by (fun _ k => XS.icmpNo X0.here hx rfl (hb hby d14_21) rfl (feq c10).1 k) ?_
   show own_Go p e below _ (s₁.setTop (mkF m 24 #[vR a0, vR a1, vI (1 : Int32)] []))
   refine own_by (fun _ k => XS.iconst X0.here hx rfl (hb hby d14_24) k) ?_
   show own_Go p e below _ (s₁.setTop (mkF m 25 #[vR a0, vR a1, vI (1 : Int32)] [(.int (0 : Int32))]))
   exact own_retN X0 hx (t := .boolean) Bd.returns (by simp) (hb hby d14_25) hlk e0 ⟨_, rfl, N0, rfl, (ob_leq_3 fn_a0 fn_a1 c6 c10)⟩ (by decide) (by decide)
 ·skip
  refine own_by (fun _ k => XS.icmpNo X0.here hx rfl (hb hby d14_21) rfl (feq c6).1 k) ?_
  show own_Go p e below _ (s₁.setTop (mkF m 24 #[vR a0, vR a1, vI (0 : Int32)] []))
  refine own_by (fun _ k => XS.iconst X0.here hx rfl (hb hby d14_24) k) ?_
  show own_Go p e below _ (s₁.setTop (mkF m 25 #[vR a0, vR a1, vI (0 : Int32)] [(.int (0 : Int32))]))
  exact own_retN X0 hx (t := .boolean) Bd.returns (by simp) (hb hby d14_25) hlk e0 ⟨_, rfl, N0, rfl, (ob_leq_4 fn_a0 fn_a1 c6)⟩ (by decide) (by decide)
theorem pd_81 : parseMethodDescriptor "([B[B)Z" = some ⟨[(.array .byte), (.array .byte)], some .boolean⟩ := by decide +kernel
theorem d3_0 : decode jdk_42_method_66_code 0 = .ok (.aload_n 0, 1) := by decide +kernel
theorem d3_1 : decode jdk_42_method_66_code 1 = .ok (.aload_n 1, 1) := by decide +kernel
theorem d3_2 : decode jdk_42_method_66_code 2 = .ok (.if_acmp .ne 5, 3) := by decide +kernel
theorem d3_5 : decode jdk_42_method_66_code 5 = .ok (.iconst 1, 1) := by decide +kernel
theorem d3_6 : decode jdk_42_method_66_code 6 = .ok (.ireturn, 1) := by decide +kernel
theorem d3_7 : decode jdk_42_method_66_code 7 = .ok (.aload_n 1, 1) := by decide +kernel
theorem d3_8 : decode jdk_42_method_66_code 8 = .ok (.instanceof 10, 3) := by decide +kernel
theorem d3_11 : decode jdk_42_method_66_code 11 = .ok (.ifCond .eq 43, 3) := by decide +kernel
theorem d3_14 : decode jdk_42_method_66_code 14 = .ok (.aload_n 1, 1) := by decide +kernel
theorem d3_15 : decode jdk_42_method_66_code 15 = .ok (.checkcast 10, 3) := by decide +kernel
theorem d3_18 : decode jdk_42_method_66_code 18 = .ok (.astore_n 2, 1) := by decide +kernel
theorem d3_19 : decode jdk_42_method_66_code 19 = .ok (.getstatic 38, 3) := by decide +kernel
theorem d3_22 : decode jdk_42_method_66_code 22 = .ok (.ifCond .eq 14, 3) := by decide +kernel
theorem d3_25 : decode jdk_42_method_66_code 25 = .ok (.aload_n 0, 1) := by decide +kernel
theorem d3_26 : decode jdk_42_method_66_code 26 = .ok (.getfield 15, 3) := by decide +kernel
theorem d3_29 : decode jdk_42_method_66_code 29 = .ok (.aload_n 2, 1) := by decide +kernel
theorem d3_30 : decode jdk_42_method_66_code 30 = .ok (.getfield 15, 3) := by decide +kernel
theorem d3_33 : decode jdk_42_method_66_code 33 = .ok (.if_icmp .ne 21, 3) := by decide +kernel
theorem d3_36 : decode jdk_42_method_66_code 36 = .ok (.aload_n 0, 1) := by decide +kernel
theorem d3_37 : decode jdk_42_method_66_code 37 = .ok (.getfield 9, 3) := by decide +kernel
theorem d3_40 : decode jdk_42_method_66_code 40 = .ok (.aload_n 2, 1) := by decide +kernel
theorem d3_41 : decode jdk_42_method_66_code 41 = .ok (.getfield 9, 3) := by decide +kernel
theorem d3_44 : decode jdk_42_method_66_code 44 = .ok (.invokestatic 541, 3) := by decide +kernel
theorem d3_47 : decode jdk_42_method_66_code 47 = .ok (.ifCond .eq 7, 3) := by decide +kernel
theorem d3_50 : decode jdk_42_method_66_code 50 = .ok (.iconst 1, 1) := by decide +kernel
theorem d3_51 : decode jdk_42_method_66_code 51 = .ok (.goto 4, 3) := by decide +kernel
theorem d3_54 : decode jdk_42_method_66_code 54 = .ok (.iconst 0, 1) := by decide +kernel
theorem d3_55 : decode jdk_42_method_66_code 55 = .ok (.ireturn, 1) := by decide +kernel
theorem pn_eqR : plainName "java/lang/String" = true := by first | (simp [plainName, overriddenIn]; done) | decide +kernel
theorem ef_eqR (m : MethodId) (a0 : Addr) (a1 : Addr) : entryFrame m #[(.ref a0), (.ref a1)] 3 = mkF m 0 #[vR a0, vR a1, .unset] [] := by first | (simp [entryFrame, mkF, argsToLocals, Value.category]; done) | rfl
theorem ob_eqR_5 (fn_t_a0 : Nat → Int32) (fn_t_a1 : Nat → Int32) (f_CS : Int32) (a0 : Addr) (a1 : Addr) (o10 : Int32) (hn_CS : ¬ (f_CS = (0 : Int32))) (c1 : ¬ (a0 = a1)) (hp11 : own_eq3 fn_t_a0 fn_t_a1 o10) (c12 : o10 = (0 : Int32)) : own_eq3 fn_t_a0 fn_t_a1 (0 : Int32) := by
  simp only [own_eq3] at *
  grind
theorem ob_eqR_6 (fn_t_a0 : Nat → Int32) (fn_t_a1 : Nat → Int32) (f_CS : Int32) (a0 : Addr) (a1 : Addr) (o10 : Int32) (hn_CS : ¬ (f_CS = (0 : Int32))) (c1 : ¬ (a0 = a1)) (hp11 : own_eq3 fn_t_a0 fn_t_a1 o10) (c12 : ¬ (o10 = (0 : Int32))) : own_eq3 fn_t_a0 fn_t_a1 (1 : Int32) := by
  simp only [own_eq3] at *
  grind
def QeqR (Z : State) (t_a0 : Addr) (k_t_a0 : ClassId) (fn_t_a0 : Nat → Int32) (t_a1 : Addr) (k_t_a1 : ClassId) (fn_t_a1 : Nat → Int32) (f_CS : Int32) (a0 : Addr) (a1 : Addr) (h0 : Heap) (n0 : Nat) (v : Option Value) (h : Heap) (L : List Loc) : Prop := ∃ (zz : Int32), v = some (.int zz) ∧ Fr n0 L ∧ h = h0 ∧ (own_eq3 fn_t_a0 fn_t_a1 zz)
set_option maxRecDepth 65536 in
set_option maxHeartbeats 40000000 in
theorem rmeqR (l : Launch) (Z : State) (A0 : Array Value) (hw : ∀ d ∈ tables_1, d.before A0 Z = true) (ws : List Jvm.Cond) (t_a0 : Addr) (k_t_a0 : ClassId) (fn_t_a0 : Nat → Int32) (t_a1 : Addr) (k_t_a1 : ClassId) (fn_t_a1 : Nat → Int32) (f_CS : Int32) (a0 : Addr) (a1 : Addr) (h0 : Heap) (n0 : Nat) (Z0 : n0 ≤ h0.size) (P_E_a0 : Exa Z h0 a0 "java/lang/String") (P_F_a0_coder : Fld Z h0 a0 "java/lang/String" "coder" "B" (.int (0 : Int32))) (P_F_a0_value : Fld Z h0 a0 "java/lang/String" "value" "[B" (.ref t_a0)) (P_V_t_a0 : own_Arf Z h0 t_a0 k_t_a0 .byte (3 : Int32) (fun i => .int (fn_t_a0 i))) (P_E_a1 : Exa Z h0 a1 "java/lang/String") (P_F_a1_coder : Fld Z h0 a1 "java/lang/String" "coder" "B" (.int (0 : Int32))) (P_F_a1_value : Fld Z h0 a1 "java/lang/String" "value" "[B" (.ref t_a1)) (P_V_t_a1 : own_Arf Z h0 t_a1 k_t_a1 .byte (3 : Int32) (fun i => .int (fn_t_a1 i))) (P_S_CS : Sta Z h0 "java/lang/String" "COMPACT_STRINGS" "Z" (.int f_CS)) (hn_CS : ¬ (f_CS = (0 : Int32))) :
    MetFree l (⟨"java/lang/String", "equals", "(Ljava/lang/Object;)Z"⟩ : MethodName) (head1 (Jvm.Cond.code (⟨"java/lang/String", "equals", "(Ljava/lang/Object;)Z"⟩ : MethodName) jdk_42_method_66_code 3 (some .boolean) :: ws) ({ frames := 1, cells := 0, slots := 0, locals := 14 } : Room)) (fun a U => a = #[(.ref a0), (.ref a1)] ∧ Z.Warmed39 U.vm ∧ U.heap = h0) (fun _ _ _ _ _ => True) (fun _ U o U' => ∃ v L, o = .returned v ∧ QeqR Z t_a0 k_t_a0 fn_t_a0 t_a1 k_t_a1 fn_t_a1 f_CS a0 a1 h0 n0 v U'.heap L ∧ FrameEnd U o U' L 0 0) := by
 refine MetFree.of_bodySF (plainFor_of_name pn_eqR) hisR ?_
 intro p e s m args below meth c s₁ Bd hml0 hP hK
 obtain ⟨rfl, hZ, hh⟩ := hP
 have hwd := fun i {d : Jvm.Cond} (h : tables_1[i]? = some d) => hw d (List.mem_of_getElem? h)
 have hx := Bd.exec
 have hby := Bd.bytes
 have hml : c.maxLocals = 3 := hml0
 have hlk : meth.locks = false := Bd.notSynchronized
 have hown : s.vm.findClass "java/lang/String" = some m.cls := findClass_of_methodNamed Bd.named
 have hnm := (name_of_methodNamed Bd.named Bd.method).1
 have X0 : Stand p l e ({ frames := 1, cells := 0, slots := 0, locals := 14 } : Room) s m #[(.ref a0), (.ref a1)] below meth c s₁ [] 0 0 := Stand.of_body Bd
 have e0 : s₁.heap = h0 := by rw [← hh, Bd.state]; rfl
 have N0 := Fr.nil n0
 show own_Go p e below (own_Fin s 0 0 (QeqR Z t_a0 k_t_a0 fn_t_a0 t_a1 k_t_a1 fn_t_a1 f_CS a0 a1 h0 n0)) _
 refine own_by (fun t k => castTop (ef_eqR m a0 a1) k) ?_
 show own_Go p e below _ (s₁.setTop (mkF m 0 #[vR a0, vR a1, .unset] []))
 refine own_by (fun _ k => XS.aloadN X0.here hx rfl (hb hby d3_0) rfl rfl k) ?_
 show own_Go p e below _ (s₁.setTop (mkF m 1 #[vR a0, vR a1, .unset] [(.ref a0)]))
 refine own_by (fun _ k => XS.aloadN X0.here hx rfl (hb hby d3_1) rfl rfl k) ?_
 show own_Go p e below _ (s₁.setTop (mkF m 2 #[vR a0, vR a1, .unset] [(.ref a1), (.ref a0)]))
 by_cases c1 : a0 = a1
 ·skip
  refine own_by (fun _ k => Jvm.RoadKit.acmp (g := (mkF m 2 #[vR a0, vR a1, .unset] [(.ref a1), (.ref a0)])) X0 hx rfl rfl rfl (pc0 := 2) (pc' := 5) (same := true) rfl (hb hby d3_2) rfl (decide_eq_true (congrArg Value.ref c1)) (by decide) (by decide) k) ?_
  show own_Go p e below _ (s₁.setTop (mkF m 5 #[vR a0, vR a1, .unset] []))
  refine own_by (fun _ k => XS.iconst X0.here hx rfl (hb hby d3_5) k) ?_
  show own_Go p e below _ (s₁.setTop (mkF m 6 #[vR a0, vR a1, .unset] [(.int (1 : Int32))]))
  exact own_retN X0 hx (t := .boolean) Bd.returns (by simp) (hb hby d3_6) hlk e0 ⟨_, rfl, N0, rfl, own_eqSame c1 P_F_a0_value P_F_a1_value P_V_t_a0 P_V_t_a1⟩ (by decide) (by decide)
 ·skip
  refine own_by (fun _ k => Jvm.RoadKit.acmp (g := (mkF m 2 #[vR a0, vR a1, .unset] [(.ref a1), (.ref a0)])) X0 hx rfl rfl rfl (pc0 := 2) (pc' := 7) (same := false) rfl (hb hby d3_2) rfl (decide_eq_false fun q => c1 (Value.ref.inj q)) (by decide) (by decide) k) ?_
  show own_Go p e below _ (s₁.setTop (mkF m 7 #[vR a0, vR a1, .unset] []))
  refine own_by (fun _ k => XS.aloadN X0.here hx rfl (hb hby d3_7) rfl rfl k) ?_
  show own_Go p e below _ (s₁.setTop (mkF m 8 #[vR a0, vR a1, .unset] [(.ref a1)]))
  obtain ⟨T2, X2, e2, st2⟩ := instY X0 hx hZ hown (hwd 80 rfl) e0 (Ins.self P_E_a1) (g := (mkF m 8 #[vR a0, vR a1, .unset] [(.ref a1)])) rfl rfl (hb hby d3_8)
  refine own_by st2 ?_
  show own_Go p e below _ (T2.setTop (mkF m 11 #[vR a0, vR a1, .unset] [(.int (1 : Int32))]))
  refine own_by (fun _ k => XS.ifNo X2.here hx rfl (hb hby d3_11) rfl ((if0 _ _).trans (feq (by decide : ¬ ((1 : Int32) = (0 : Int32)))).1) k) ?_
  show own_Go p e below _ (T2.setTop (mkF m 14 #[vR a0, vR a1, .unset] []))
  refine own_by (fun _ k => XS.aloadN X2.here hx rfl (hb hby d3_14) rfl rfl k) ?_
  show own_Go p e below _ (T2.setTop (mkF m 15 #[vR a0, vR a1, .unset] [(.ref a1)]))
  obtain ⟨T3, X3, e3, st3⟩ := castY X2 hx hZ hown (hwd 80 rfl) e2 (Ins.self P_E_a1) (g := (mkF m 15 #[vR a0, vR a1, .unset] [(.ref a1)])) rfl rfl (hb hby d3_15)
  refine own_by st3 ?_
  show own_Go p e below _ (T3.setTop (mkF m 18 #[vR a0, vR a1, .unset] [(.ref a1)]))
  refine own_by (fun _ k => XS.astoreN X3.here hx rfl (hb hby d3_18) rfl rfl (l' := #[vR a0, vR a1, vR a1]) rfl k) ?_
  show own_Go p e below _ (T3.setTop (mkF m 19 #[vR a0, vR a1, vR a1] []))
  obtain ⟨T4, X4, e4, st4⟩ := getS2 X3 hx hZ hown (host := "") (Or.inl (hwd 67 rfl)) Via.refl e3 P_S_CS (g := (mkF m 19 #[vR a0, vR a1, vR a1] [])) rfl (hb hby d3_19)
  refine own_by st4 ?_
  show own_Go p e below _ (T4.setTop (mkF m 22 #[vR a0, vR a1, vR a1] [(.int f_CS)]))
  refine own_by (fun _ k => XS.ifNo X4.here hx rfl (hb hby d3_22) rfl ((if0 _ _).trans (feq hn_CS).1) k) ?_
  show own_Go p e below _ (T4.setTop (mkF m 25 #[vR a0, vR a1, vR a1] []))
  refine own_by (fun _ k => XS.aloadN X4.here hx rfl (hb hby d3_25) rfl rfl k) ?_
  show own_Go p e below _ (T4.setTop (mkF m 26 #[vR a0, vR a1, vR a1] [(.ref a0)]))
  obtain ⟨T5, X5, e5, st5⟩ := getF X4 hx hZ hown (host := "") (Or.inl (hwd 78 rfl)) Via.refl e4 P_F_a0_coder (g := (mkF m 26 #[vR a0, vR a1, vR a1] [(.ref a0)])) rfl rfl (hb hby d3_26)
  refine own_by st5 ?_
  show own_Go p e below _ (T5.setTop (mkF m 29 #[vR a0, vR a1, vR a1] [(.int (0 : Int32))]))
  refine own_by (fun _ k => XS.aloadN X5.here hx rfl (hb hby d3_29) rfl rfl k) ?_
  show own_Go p e below _ (T5.setTop (mkF m 30 #[vR a0, vR a1, vR a1] [(.ref a1), (.int (0 : Int32))]))
  obtain ⟨T6, X6, e6, st6⟩ := getF X5 hx hZ hown (host := "") (Or.inl (hwd 78 rfl)) Via.refl e5 P_F_a1_coder (g := (mkF m 30 #[vR a0, vR a1, vR a1] [(.ref a1), (.int (0 : Int32))])) rfl rfl (hb hby d3_30)
  refine own_by st6 ?_
  show own_Go p e below _ (T6.setTop (mkF m 33 #[vR a0, vR a1, vR a1] [(.int (0 : Int32)), (.int (0 : Int32))]))
  refine own_by (fun _ k => XS.icmpNo X6.here hx rfl (hb hby d3_33) rfl (teq (by decide : (0 : Int32) = (0 : Int32))).2 k) ?_
  show own_Go p e below _ (T6.setTop (mkF m 36 #[vR a0, vR a1, vR a1] []))
  refine own_by (fun _ k => XS.aloadN X6.here hx rfl (hb hby d3_36) rfl rfl k) ?_
  show own_Go p e below _ (T6.setTop (mkF m 37 #[vR a0, vR a1, vR a1] [(.ref a0)]))
  obtain ⟨T7, X7, e7, st7⟩ := getF X6 hx hZ hown (host := "") (Or.inl (hwd 79 rfl)) Via.refl e6 P_F_a0_value (g := (mkF m 37 #[vR a0, vR a1, vR a1] [(.ref a0)])) rfl rfl (hb hby d3_37)
  refine own_by st7 ?_
  show own_Go p e below _ (T7.setTop (mkF m 40 #[vR a0, vR a1, vR a1] [(.ref t_a0)]))
  refine own_by (fun _ k => XS.aloadN X7.here hx rfl (hb hby d3_40) rfl rfl k) ?_
  show own_Go p e below _ (T7.setTop (mkF m 41 #[vR a0, vR a1, vR a1] [(.ref a1), (.ref t_a0)]))
  obtain ⟨T8, X8, e8, st8⟩ := getF X7 hx hZ hown (host := "") (Or.inl (hwd 79 rfl)) Via.refl e7 P_F_a1_value (g := (mkF m 41 #[vR a0, vR a1, vR a1] [(.ref a1), (.ref t_a0)])) rfl rfl (hb hby d3_41)
  refine own_by st8 ?_
  show own_Go p e below _ (T8.setTop (mkF m 44 #[vR a0, vR a1, vR a1] [(.ref t_a1), (.ref t_a0)]))
  obtain ⟨_, _, ⟨T9, L9, k9, n9⟩, -, X9, ⟨Lc9, hQ9, l9, y9, z9⟩, st9⟩ := Jvm.LawKit.callS X8 hx (y := (⟨"java/lang/StringLatin1", "equals", "([B[B)Z"⟩ : MethodName)) hown (mvT hZ (hwd 81 rfl)) (mvT hZ (hwd 82 rfl)) (mvT hZ (hwd 83 rfl)) (mvT hZ (hwd 84 rfl)) (by decide) (backOf (W := 0) (rmleq l Z A0 hw [] k_t_a0 fn_t_a0 k_t_a1 fn_t_a1 t_a0 t_a1 h0 n0 Z0 P_V_t_a0 P_V_t_a1) hZ (hwd 84 rfl) (hwd 83 rfl) (by decide) (by decide)) (g := (mkF m 44 #[vR a0, vR a1, vR a1] [(.ref t_a1), (.ref t_a0)])) rfl (by rw [hml]; rfl) (argsL := [(.ref t_a0), (.ref t_a1)]) (rest := []) (lenOf pd_81 rfl) rfl (by show 2 * 0 + _ ≤ _; exact Nat.le_of_eq rfl) (hb hby d3_44) (fun _ _ => ⟨rfl, e8, (by decide : 0 + 0 ≤ _), (by decide : 0 + 0 ≤ _)⟩)
  dsimp only [Pt.U, Pt.locs, Pt.cells, Pt.slots] at X9 l9 y9 z9 st9 hQ9
  subst l9 y9 z9
  obtain ⟨o10, rfl, Nq9, eq9, hp11⟩ := hQ9
  have N9 := Fr.app N0 Nq9
  refine own_by st9 ?_
  show own_Go p e below _ (T9.setTop (mkF m 47 #[vR a0, vR a1, vR a1] [(.int o10)]))
  by_cases c12 : o10 = (0 : Int32)
  ·skip
   refine own_by (fun _ k => XS.ifYes X9.here hx rfl (pc0 := 47) (pc' := 54) rfl (hb hby d3_47) rfl ((if0 _ _).trans (teq c12).1) (by decide) (by decide) k) ?_
   show own_Go p e below _ (T9.setTop (mkF m 54 #[vR a0, vR a1, vR a1] []))
   refine own_by (fun _ k => XS.iconst X9.here hx rfl (hb hby d3_54) k) ?_
   show own_Go p e below _ (T9.setTop (mkF m 55 #[vR a0, vR a1, vR a1] [(.int (0 : Int32))]))
   exact own_retN X9 hx (t := .boolean) Bd.returns (by simp) (hb hby d3_55) hlk eq9 ⟨_, rfl, N9, rfl, (ob_eqR_5 fn_t_a0 fn_t_a1 f_CS a0 a1 o10 hn_CS c1 hp11 c12)⟩ (by decide) (by decide)
  ·skip
   refine own_by (fun _ k => XS.ifNo X9.here hx rfl (hb hby d3_47) rfl ((if0 _ _).trans (feq c12).1) k) ?_
   show own_Go p e below _ (T9.setTop (mkF m 50 #[vR a0, vR a1, vR a1] []))
   refine own_by (fun _ k => XS.iconst X9.here hx rfl (hb hby d3_50) k) ?_
   show own_Go p e below _ (T9.setTop (mkF m 51 #[vR a0, vR a1, vR a1] [(.int (1 : Int32))]))
   refine own_by (fun _ k => XS.goto X9.here hx rfl (pc0 := 51) (pc' := 55) rfl (hb hby d3_51) (by decide) (by decide) k) ?_
   show own_Go p e below _ (T9.setTop (mkF m 55 #[vR a0, vR a1, vR a1] [(.int (1 : Int32))]))
   exact own_retN X9 hx (t := .boolean) Bd.returns (by simp) (hb hby d3_55) hlk eq9 ⟨_, rfl, N9, rfl, (ob_eqR_6 fn_t_a0 fn_t_a1 f_CS a0 a1 o10 hn_CS c1 hp11 c12)⟩ (by decide) (by decide)
theorem pn_eqN : plainName "java/lang/String" = true := by first | (simp [plainName, overriddenIn]; done) | decide +kernel
theorem ef_eqN (m : MethodId) (a0 : Addr) : entryFrame m #[(.ref a0), .null] 3 = mkF m 0 #[vR a0, .val .null, .unset] [] := by first | (simp [entryFrame, mkF, argsToLocals, Value.category]; done) | rfl
def QeqN (Z : State) (a0 : Addr) (h0 : Heap) (n0 : Nat) (v : Option Value) (h : Heap) (L : List Loc) : Prop := v = some (.int (0 : Int32)) ∧ Fr n0 L ∧ h = h0
set_option maxRecDepth 65536 in
set_option maxHeartbeats 40000000 in
theorem rmeqN (l : Launch) (Z : State) (A0 : Array Value) (hw : ∀ d ∈ tables_1, d.before A0 Z = true) (ws : List Jvm.Cond) (a0 : Addr) (h0 : Heap) (n0 : Nat) (Z0 : n0 ≤ h0.size) :
    MetFree l (⟨"java/lang/String", "equals", "(Ljava/lang/Object;)Z"⟩ : MethodName) (head1 (Jvm.Cond.code (⟨"java/lang/String", "equals", "(Ljava/lang/Object;)Z"⟩ : MethodName) jdk_42_method_66_code 3 (some .boolean) :: ws) ({ frames := 0, cells := 0, slots := 0, locals := 0 } : Room)) (fun a U => a = #[(.ref a0), .null] ∧ Z.Warmed39 U.vm ∧ U.heap = h0) (fun _ _ _ _ _ => True) (fun _ U o U' => ∃ v L, o = .returned v ∧ QeqN Z a0 h0 n0 v U'.heap L ∧ FrameEnd U o U' L 0 0) := by
 refine MetFree.of_bodySF (plainFor_of_name pn_eqN) hisR ?_
 intro p e s m args below meth c s₁ Bd hml0 hP hK
 obtain ⟨rfl, hZ, hh⟩ := hP
 have hwd := fun i {d : Jvm.Cond} (h : tables_1[i]? = some d) => hw d (List.mem_of_getElem? h)
 have hx := Bd.exec
 have hby := Bd.bytes
 have hml : c.maxLocals = 3 := hml0
 have hlk : meth.locks = false := Bd.notSynchronized
 have hown : s.vm.findClass "java/lang/String" = some m.cls := findClass_of_methodNamed Bd.named
 have hnm := (name_of_methodNamed Bd.named Bd.method).1
 have X0 : Stand p l e ({ frames := 0, cells := 0, slots := 0, locals := 0 } : Room) s m #[(.ref a0), .null] below meth c s₁ [] 0 0 := Stand.of_body Bd
 have e0 : s₁.heap = h0 := by rw [← hh, Bd.state]; rfl
 have N0 := Fr.nil n0
 show own_Go p e below (own_Fin s 0 0 (QeqN Z a0 h0 n0)) _
 refine own_by (fun t k => castTop (ef_eqN m a0) k) ?_
 show own_Go p e below _ (s₁.setTop (mkF m 0 #[vR a0, .val .null, .unset] []))
 refine own_by (fun _ k => XS.aloadN X0.here hx rfl (hb hby d3_0) rfl rfl k) ?_
 show own_Go p e below _ (s₁.setTop (mkF m 1 #[vR a0, .val .null, .unset] [(.ref a0)]))
 refine own_by (fun _ k => XS.aloadN X0.here hx rfl (hb hby d3_1) rfl rfl k) ?_
 show own_Go p e below _ (s₁.setTop (mkF m 2 #[vR a0, .val .null, .unset] [.null, (.ref a0)]))
 refine own_by (fun _ k => Jvm.RoadKit.acmp (g := (mkF m 2 #[vR a0, .val .null, .unset] [.null, (.ref a0)])) X0 hx rfl rfl rfl (pc0 := 2) (pc' := 7) (same := false) rfl (hb hby d3_2) rfl (decide_eq_false nofun) (by decide) (by decide) k) ?_
 show own_Go p e below _ (s₁.setTop (mkF m 7 #[vR a0, .val .null, .unset] []))
 refine own_by (fun _ k => XS.aloadN X0.here hx rfl (hb hby d3_7) rfl rfl k) ?_
 show own_Go p e below _ (s₁.setTop (mkF m 8 #[vR a0, .val .null, .unset] [.null]))
 refine own_by (fun t k => X0.instanceofNull hx (g := (mkF m 8 #[vR a0, .val .null, .unset] [.null])) rfl rfl (hb hby d3_8) _ k) ?_
 show own_Go p e below _ (s₁.setTop (mkF m 11 #[vR a0, .val .null, .unset] [(.int (0 : Int32))]))
 refine own_by (fun _ k => XS.ifYes X0.here hx rfl (pc0 := 11) (pc' := 54) rfl (hb hby d3_11) rfl ((if0 _ _).trans (teq (by decide : (0 : Int32) = (0 : Int32))).1) (by decide) (by decide) k) ?_
 show own_Go p e below _ (s₁.setTop (mkF m 54 #[vR a0, .val .null, .unset] []))
 refine own_by (fun _ k => XS.iconst X0.here hx rfl (hb hby d3_54) k) ?_
 show own_Go p e below _ (s₁.setTop (mkF m 55 #[vR a0, .val .null, .unset] [(.int (0 : Int32))]))
 exact own_retN X0 hx (t := .boolean) Bd.returns (by simp) (hb hby d3_55) hlk e0 ⟨rfl, N0, rfl⟩ (by decide) (by decide)
theorem pd_21 : parseMethodDescriptor "(Ljava/lang/Object;)Z" = some ⟨[(.object "java/lang/Object")], some .boolean⟩ := by decide +kernel
theorem d1_0 : decode prog_53_method_1_code 0 = .ok (.aload_n 0, 1) := by decide +kernel
theorem d1_1 : decode prog_53_method_1_code 1 = .ok (.invokespecial 1, 3) := by decide +kernel
theorem d1_4 : decode prog_53_method_1_code 4 = .ok (.aload_n 0, 1) := by decide +kernel
theorem d1_5 : decode prog_53_method_1_code 5 = .ok (.iconst 1, 1) := by decide +kernel
theorem d1_6 : decode prog_53_method_1_code 6 = .ok (.putfield 7, 3) := by decide +kernel
theorem d1_9 : decode prog_53_method_1_code 9 = .ok (.aload_n 0, 1) := by decide +kernel
theorem d1_10 : decode prog_53_method_1_code 10 = .ok (.iconst 1, 1) := by decide +kernel
theorem d1_11 : decode prog_53_method_1_code 11 = .ok (.putfield 13, 3) := by decide +kernel
theorem d1_14 : decode prog_53_method_1_code 14 = .ok (.aload_n 0, 1) := by decide +kernel
theorem d1_15 : decode prog_53_method_1_code 15 = .ok (.ldc 16, 2) := by decide +kernel
theorem d1_17 : decode prog_53_method_1_code 17 = .ok (.aload_n 1, 1) := by decide +kernel
theorem d1_18 : decode prog_53_method_1_code 18 = .ok (.invokevirtual 18, 3) := by decide +kernel
theorem d1_21 : decode prog_53_method_1_code 21 = .ok (.putfield 24, 3) := by decide +kernel
theorem d1_24 : decode prog_53_method_1_code 24 = .ok (.return_, 1) := by decide +kernel
theorem pn_lcR : plainName "com/example/margay/margay/index/LineCounter" = true := by first | (simp [plainName, overriddenIn]; done) | decide +kernel
theorem ef_lcR (m : MethodId) (a0 : Addr) (a1 : Addr) : entryFrame m #[(.ref a0), (.ref a1)] 2 = mkF m 0 #[vR a0, vR a1] [] := by first | (simp [entryFrame, mkF, argsToLocals, Value.category]; done) | rfl
def QlcR (Z : State) (t_a1 : Addr) (k_t_a1 : ClassId) (fn_t_a1 : Nat → Int32) (f_CS : Int32) (a0 : Addr) (a1 : Addr) (f_a0_line : Int32) (f_a0_column : Int32) (f_a0_xml11 : Int32) (f_a0_afterCarriageReturn : Int32) (h0 : Heap) (n0 : Nat) (v : Option Value) (h : Heap) (L : List Loc) : Prop := ∃ (z5001 : Int32), v = none ∧ Fr n0 L ∧ Keep h0 h [a0] ∧ Exa Z h a0 "com/example/margay/margay/index/LineCounter" ∧ Fld Z h a0 "com/example/margay/margay/index/LineCounter" "line" "I" (.int (1 : Int32)) ∧ Fld Z h a0 "com/example/margay/margay/index/LineCounter" "column" "I" (.int (1 : Int32)) ∧ Fld Z h a0 "com/example/margay/margay/index/LineCounter" "xml11" "Z" (.int z5001) ∧ Fld Z h a0 "com/example/margay/margay/index/LineCounter" "afterCarriageReturn" "Z" (.int f_a0_afterCarriageReturn) ∧ ((∃ (o14 : Int32), (own_eq3 (own_li [49, 46, 49]) fn_t_a1 o14) ∧ z5001 = (nar .boolean o14)))
set_option maxRecDepth 65536 in
set_option maxHeartbeats 40000000 in
theorem rmlcR (l : Launch) (Z : State) (A0 : Array Value) (hw : ∀ d ∈ tables_1, d.before A0 Z = true) (ws : List Jvm.Cond) (t_a1 : Addr) (k_t_a1 : ClassId) (fn_t_a1 : Nat → Int32) (f_CS : Int32) (a0 : Addr) (a1 : Addr) (f_a0_line : Int32) (f_a0_column : Int32) (f_a0_xml11 : Int32) (f_a0_afterCarriageReturn : Int32) (h0 : Heap) (n0 : Nat) (Z0 : n0 ≤ h0.size) (P_E_a1 : Exa Z h0 a1 "java/lang/String") (P_F_a1_coder : Fld Z h0 a1 "java/lang/String" "coder" "B" (.int (0 : Int32))) (P_F_a1_value : Fld Z h0 a1 "java/lang/String" "value" "[B" (.ref t_a1)) (P_V_t_a1 : own_Arf Z h0 t_a1 k_t_a1 .byte (3 : Int32) (fun i => .int (fn_t_a1 i))) (P_S_CS : Sta Z h0 "java/lang/String" "COMPACT_STRINGS" "Z" (.int f_CS)) (hn_CS : ¬ (f_CS = (0 : Int32))) (P_E_a0 : Exa Z h0 a0 "com/example/margay/margay/index/LineCounter") (P_F_a0_line : Fld Z h0 a0 "com/example/margay/margay/index/LineCounter" "line" "I" (.int f_a0_line)) (g_a0 : n0 ≤ a0) (P_F_a0_column : Fld Z h0 a0 "com/example/margay/margay/index/LineCounter" "column" "I" (.int f_a0_column)) (P_F_a0_xml11 : Fld Z h0 a0 "com/example/margay/margay/index/LineCounter" "xml11" "Z" (.int f_a0_xml11)) (P_F_a0_afterCarriageReturn : Fld Z h0 a0 "com/example/margay/margay/index/LineCounter" "afterCarriageReturn" "Z" (.int f_a0_afterCarriageReturn)) :
    MetFree l (⟨"com/example/margay/margay/index/LineCounter", "<init>", "(Ljava/lang/String;)V"⟩ : MethodName) (head1 (Jvm.Cond.code (⟨"com/example/margay/margay/index/LineCounter", "<init>", "(Ljava/lang/String;)V"⟩ : MethodName) prog_53_method_1_code 2 none :: ws) ({ frames := 2, cells := 2, slots := 16, locals := 29 } : Room)) (fun a U => a = #[(.ref a0), (.ref a1)] ∧ Z.Warmed39 U.vm ∧ U.heap = h0 ∧ CHv Z consts_1 U.vm h0) (fun _ _ _ _ _ => True) (fun _ U o U' => ∃ v L, o = .returned v ∧ QlcR Z t_a1 k_t_a1 fn_t_a1 f_CS a0 a1 f_a0_line f_a0_column f_a0_xml11 f_a0_afterCarriageReturn h0 n0 v U'.heap L ∧ CHr Z consts_1 U.vm U.heap U'.vm U'.heap ∧ ReturnedEndW U o U' L 2 16) := by
 refine MetFree.of_bodySF (plainFor_of_name pn_lcR) hisR ?_
 intro p e s m args below meth c s₁ Bd hml0 hP hK
 obtain ⟨rfl, hZ, hh, hC0⟩ := hP
 have hwd := fun i {d : Jvm.Cond} (h : tables_1[i]? = some d) => hw d (List.mem_of_getElem? h)
 have hx := Bd.exec
 have hby := Bd.bytes
 have hml : c.maxLocals = 2 := hml0
 have hlk : meth.locks = false := Bd.notSynchronized
 have hown : s.vm.findClass "com/example/margay/margay/index/LineCounter" = some m.cls := findClass_of_methodNamed Bd.named
 have hnm := (name_of_methodNamed Bd.named Bd.method).1
 have X0 : Stand p l e ({ frames := 2, cells := 2, slots := 16, locals := 29 } : Room) (s.setVm s.vm) m #[(.ref a0), (.ref a1)] below meth c s₁ [] 0 0 := Stand.of_body Bd
 have e0 : s₁.heap = h0 := by rw [← hh, Bd.state]; rfl
 have N0 := Fr.nil n0
 have hEL := own_EW hw
 have hwS := fun a ha => hw a (own_atoms a ha)
 have CR0 : CHr Z consts_1 s.vm h0 s.vm h0 := CHr.refl hC0
 obtain ⟨kc0, hkc0⟩ : ∃ z, z = h0.size := ⟨_, rfl⟩
 have hk0 : kc0 ≤ h0.size := Nat.le_of_eq hkc0
 have hS : s.Since s.vm kc0 := own_since s kc0
 show own_Go p e below (own_FinW Z consts_1 s 2 16 (QlcR Z t_a1 k_t_a1 fn_t_a1 f_CS a0 a1 f_a0_line f_a0_column f_a0_xml11 f_a0_afterCarriageReturn h0 n0)) _
 refine own_by (fun t k => castTop (ef_lcR m a0 a1) k) ?_
 show own_Go p e below _ (s₁.setTop (mkF m 0 #[vR a0, vR a1] []))
 refine own_by (fun _ k => XS.aloadN X0.here hx rfl (hb hby d1_0) rfl rfl k) ?_
 show own_Go p e below _ (s₁.setTop (mkF m 1 #[vR a0, vR a1] [(.ref a0)]))
 obtain ⟨T1, X1, e1, st1⟩ := initO X0 hx hZ hown (hwd 6 rfl) (hwd 7 rfl) (hwd 8 rfl) e0 (g := (mkF m 1 #[vR a0, vR a1] [(.ref a0)])) rfl (by rw [hml]; rfl) rfl (hb hby d1_1) (by decide) (W := 0) (by show 2 * 0 + _ ≤ _; exact Nat.le_of_eq rfl) (by decide)
 refine own_by st1 ?_
 show own_Go p e below _ (T1.setTop (mkF m 4 #[vR a0, vR a1] []))
 refine own_by (fun _ k => XS.aloadN X1.here hx rfl (hb hby d1_4) rfl rfl k) ?_
 show own_Go p e below _ (T1.setTop (mkF m 5 #[vR a0, vR a1] [(.ref a0)]))
 refine own_by (fun _ k => XS.iconst X1.here hx rfl (hb hby d1_5) k) ?_
 show own_Go p e below _ (T1.setTop (mkF m 6 #[vR a0, vR a1] [(.int (1 : Int32)), (.ref a0)]))
 obtain ⟨T2, h2, X2, e2, W2, st2⟩ := putF X1 hx hZ hown (host := "") (Or.inl (hwd 9 rfl)) Via.refl e1 P_F_a0_line P_E_a0 (Or.inl (hwd 10 rfl)) (hwd 1 rfl) (ty := .int) (by decide) rfl rfl (g := (mkF m 6 #[vR a0, vR a1] [(.int (1 : Int32)), (.ref a0)])) rfl rfl (hb hby d1_6)
 have Fw2 : Fld Z h2 a0 "com/example/margay/margay/index/LineCounter" "line" "I" (.int (1 : Int32)) := P_F_a0_line.same W2
 have R2 : CHr Z consts_1 s.vm h0 s.vm h2 := CHr.wr W2 (Safe.exa hZ.alike P_E_a0 (by decide) (by decide)) CR0.1
 have CR2 : CHr Z consts_1 s.vm h0 s.vm h2 := CR0.trans R2
 have hk2 : kc0 ≤ h2.size := Nat.le_trans hk0 (Keep.of_wr W2).1
 have K2 : Keep h0 h2 [a0] := (Keep.refl h0 [a0]).wr W2 (Or.inl (List.mem_of_getElem? (i := 0) rfl))
 have Z2 : n0 ≤ h2.size := Nat.le_trans Z0 (Keep.of_wr W2).1
 have N2 := Fr.snoc X2 N0 g_a0
 refine own_by st2 ?_
 show own_Go p e below _ (T2.setTop (mkF m 9 #[vR a0, vR a1] []))
 refine own_by (fun _ k => XS.aloadN X2.here hx rfl (hb hby d1_9) rfl rfl k) ?_
 show own_Go p e below _ (T2.setTop (mkF m 10 #[vR a0, vR a1] [(.ref a0)]))
 refine own_by (fun _ k => XS.iconst X2.here hx rfl (hb hby d1_10) k) ?_
 show own_Go p e below _ (T2.setTop (mkF m 11 #[vR a0, vR a1] [(.int (1 : Int32)), (.ref a0)]))
 have F3 : Exa Z h2 a0 "com/example/margay/margay/index/LineCounter" := (P_E_a0.wr W2)
 have F4 : Fld Z h2 a0 "com/example/margay/margay/index/LineCounter" "column" "I" (.int f_a0_column) := (P_F_a0_column.other W2 (Or.inr (slot_ne (Or.inl (hwd 12 rfl)) (Or.inl (hwd 10 rfl)) (by decide) (t := .int) (t' := .int) (by decide) (by decide))))
 obtain ⟨T5, h5, X5, e5, W5, st5⟩ := putF X2 hx hZ hown (host := "") (Or.inl (hwd 11 rfl)) Via.refl e2 F4 F3 (Or.inl (hwd 12 rfl)) (hwd 1 rfl) (ty := .int) (by decide) rfl rfl (g := (mkF m 11 #[vR a0, vR a1] [(.int (1 : Int32)), (.ref a0)])) rfl rfl (hb hby d1_11)
 have Fw5 : Fld Z h5 a0 "com/example/margay/margay/index/LineCounter" "column" "I" (.int (1 : Int32)) := F4.same W5
 have R5 : CHr Z consts_1 s.vm h2 s.vm h5 := CHr.wr W5 (Safe.exa hZ.alike F3 (by decide) (by decide)) CR2.1
 have CR5 : CHr Z consts_1 s.vm h0 s.vm h5 := CR2.trans R5
 have hk5 : kc0 ≤ h5.size := Nat.le_trans hk2 (Keep.of_wr W5).1
 have K5 : Keep h0 h5 [a0] := K2.wr W5 (Or.inl (List.mem_of_getElem? (i := 0) rfl))
 have Z5 : n0 ≤ h5.size := Nat.le_trans Z2 (Keep.of_wr W5).1
 have N5 := Fr.snoc X5 N2 g_a0
 refine own_by st5 ?_
 show own_Go p e below _ (T5.setTop (mkF m 14 #[vR a0, vR a1] []))
 refine own_by (fun _ k => XS.aloadN X5.here hx rfl (hb hby d1_14) rfl rfl k) ?_
 show own_Go p e below _ (T5.setTop (mkF m 15 #[vR a0, vR a1] [(.ref a0)]))
 obtain ⟨b6, T6, h6, kc6, t6, kk6, X6, e6, E6, hS, hk6, hZ, hown, A6, C6, F6, V6, lt6, ltb6, R6, Li6, -, st6⟩ := ldcCH X5 hx hZ hown (hwd 13 rfl) hwS e5 hS hk5 hEL (by decide) CR5.1 (vs := ([49, 46, 49] : List Int32).map Value.int) (z := (3 : Int32)) ⟨by decide, by decide⟩ (by decide) (by decide) (g := (mkF m 15 #[vR a0, vR a1] [(.ref a0)])) rfl (hb hby d1_15) (n := 12) (by decide) (by decide) (by decide) (by decide)
 have V6' : own_Arf Z h6 t6 kk6 .byte (3 : Int32) (fun i => .int ((own_li [49, 46, 49]) i)) := own_arfLi V6
 have CR6 : CHr Z consts_1 s.vm h0 T6.vm h6 := CR5.trans R6
 have K6 : Keep h0 h6 [a0] := K5.ext E6
 have Z6 : n0 ≤ h6.size := Nat.le_trans Z5 E6.1
 refine own_by st6 ?_
 show own_Go p e below _ (T6.setTop (mkF m 17 #[vR a0, vR a1] [(.ref b6), (.ref a0)]))
 refine own_by (fun _ k => XS.aloadN X6.here hx rfl (hb hby d1_17) rfl rfl k) ?_
 show own_Go p e below _ (T6.setTop (mkF m 18 #[vR a0, vR a1] [(.ref a1), (.ref b6), (.ref a0)]))
 have F7 : Exa Z h6 a1 "java/lang/String" := (((P_E_a1.wr W2).wr W5).ext E6)
 have F8 : Exa Z h6 a0 "com/example/margay/margay/index/LineCounter" := ((F3.wr W5).ext E6)
 have F9 : Fld Z h6 a1 "java/lang/String" "coder" "B" (.int (0 : Int32)) := (((P_F_a1_coder.other W2 (Or.inl (ne_exa F7 F8 (by decide)))).other W5 (Or.inl (ne_exa F7 F8 (by decide)))).ext E6)
 have F10 : Fld Z h6 a1 "java/lang/String" "value" "[B" (.ref t_a1) := (((P_F_a1_value.other W2 (Or.inl (ne_exa F7 F8 (by decide)))).other W5 (Or.inl (ne_exa F7 F8 (by decide)))).ext E6)
 have F11 : own_Arf Z h6 t_a1 k_t_a1 .byte (3 : Int32) (fun i => .int (fn_t_a1 i)) := (((P_V_t_a1.other W2 (Ne.symm (own_neArr P_E_a0 (hwd 1 rfl) P_V_t_a1))).other W5 (Ne.symm (own_neArr P_E_a0 (hwd 1 rfl) P_V_t_a1))).ext E6)
 have F12 : Sta Z h6 "java/lang/String" "COMPACT_STRINGS" "Z" (.int f_CS) := (((P_S_CS.wr W2).wr W5).ext E6)
 obtain ⟨cq13, kq13, qq13a, qq13b, qq13c⟩ := isOf hZ e6 A6
 obtain ⟨_, _, ⟨T13, L13, k13, n13⟩, -, X13, ⟨Lc13, hQ13, l13, y13, z13⟩, st13⟩ := X6.virtualBack hx (y := (⟨"java/lang/String", "equals", "(Ljava/lang/Object;)Z"⟩ : MethodName)) (z := (⟨"java/lang/String", "equals", "(Ljava/lang/Object;)Z"⟩ : MethodName)) hown (mvT hZ (hwd 21 rfl)) (mvT hZ (hwd 22 rfl)) (notFace_of_selects (args := #[]) (mvT hZ (hwd 24 rfl))) (mvT hZ (hwd 24 rfl)) (mvT hZ (hwd 23 rfl)) (by decide) (backOf (W := 1) (rmeqR l Z A0 hw [] t6 kk6 (own_li [49, 46, 49]) t_a1 k_t_a1 fn_t_a1 f_CS b6 a1 h6 n0 Z6 A6 C6 F6 V6' F7 F9 F10 F11 F12 hn_CS) hZ (hwd 25 rfl) (hwd 14 rfl) (by decide) (by decide)) qq13a qq13c (g := (mkF m 18 #[vR a0, vR a1] [(.ref a1), (.ref b6), (.ref a0)])) rfl (by rw [hml]; rfl) (Steps.refl _) (argsL := [(.ref a1)]) (rest := [(.ref a0)]) (lenOf pd_21 rfl) rfl (by show 2 * 0 + _ ≤ _; exact Nat.le_of_eq rfl) (hb hby d1_18) (fun _ _ => ⟨rfl, e6, (by decide : 2 + 0 ≤ _), (by decide : 16 + 0 ≤ _)⟩)
 dsimp only [Pt.U, Pt.locs, Pt.cells, Pt.slots] at X13 l13 y13 z13 st13 hQ13
 subst l13 y13 z13
 obtain ⟨o14, rfl, Nq13, eq13, hp15⟩ := hQ13
 have N13 := Fr.app N5 Nq13
 refine own_by (fun _ k => st13.trans k) ?_
 show own_Go p e below _ (T13.setTop (mkF m 21 #[vR a0, vR a1] [(.int o14), (.ref a0)]))
 have F16 : Fld Z h6 a0 "com/example/margay/margay/index/LineCounter" "xml11" "Z" (.int f_a0_xml11) := (((P_F_a0_xml11.other W2 (Or.inr (slot_ne (Or.inr (hwd 27 rfl)) (Or.inl (hwd 10 rfl)) (by decide) (t := .boolean) (t' := .int) (by decide) (by decide)))).other W5 (Or.inr (slot_ne (Or.inr (hwd 27 rfl)) (Or.inl (hwd 12 rfl)) (by decide) (t := .boolean) (t' := .int) (by decide) (by decide)))).ext E6)
 obtain ⟨T17, h17, X17, e17, W17, st17⟩ := putFN X13 hx hZ hown (hwd 26 rfl) Via.refl eq13 F16 F8 (Or.inr ⟨(hwd 27 rfl), rfl, hnm⟩) (hwd 1 rfl) (ty := .boolean) (v' := (.int (nar .boolean o14))) (by decide) rfl (fits_nar_bool _) (g := (mkF m 21 #[vR a0, vR a1] [(.int o14), (.ref a0)])) rfl rfl (hb hby d1_21)
 have Fw17 : Fld Z h17 a0 "com/example/margay/margay/index/LineCounter" "xml11" "Z" (.int (nar .boolean o14)) := F16.same W17
 have R17 : CHr Z consts_1 T6.vm h6 T6.vm h17 := CHr.wr W17 (Safe.exa hZ.alike F8 (by decide) (by decide)) CR6.1
 have CR17 : CHr Z consts_1 s.vm h0 T6.vm h17 := CR6.trans R17
 have hk17 : kc6 ≤ h17.size := Nat.le_trans hk6 (Keep.of_wr W17).1
 have K17 : Keep h0 h17 [a0] := K6.wr W17 (Or.inl (List.mem_of_getElem? (i := 0) rfl))
 have Z17 : n0 ≤ h17.size := Nat.le_trans Z6 (Keep.of_wr W17).1
 have N17 := Fr.snoc X17 N13 g_a0
 refine own_by st17 ?_
 show own_Go p e below _ (T17.setTop (mkF m 24 #[vR a0, vR a1] []))
 have F18 : Exa Z h17 a0 "com/example/margay/margay/index/LineCounter" := (F8.wr W17)
 have F19 : Fld Z h17 a0 "com/example/margay/margay/index/LineCounter" "line" "I" (.int (1 : Int32)) := (((Fw2.other W5 (Or.inr (slot_ne (Or.inl (hwd 10 rfl)) (Or.inl (hwd 12 rfl)) (by decide) (t := .int) (t' := .int) (by decide) (by decide)))).ext E6).other W17 (Or.inr (slot_ne (Or.inl (hwd 10 rfl)) (Or.inr (hwd 27 rfl)) (by decide) (t := .int) (t' := .boolean) (by decide) (by decide))))
 have F20 : Fld Z h17 a0 "com/example/margay/margay/index/LineCounter" "column" "I" (.int (1 : Int32)) := ((Fw5.ext E6).other W17 (Or.inr (slot_ne (Or.inl (hwd 12 rfl)) (Or.inr (hwd 27 rfl)) (by decide) (t := .int) (t' := .boolean) (by decide) (by decide))))
 have F21 : Fld Z h17 a0 "com/example/margay/margay/index/LineCounter" "afterCarriageReturn" "Z" (.int f_a0_afterCarriageReturn) := ((((P_F_a0_afterCarriageReturn.other W2 (Or.inr (slot_ne (Or.inl (hwd 44 rfl)) (Or.inl (hwd 10 rfl)) (by decide) (t := .boolean) (t' := .int) (by decide) (by decide)))).other W5 (Or.inr (slot_ne (Or.inl (hwd 44 rfl)) (Or.inl (hwd 12 rfl)) (by decide) (t := .boolean) (t' := .int) (by decide) (by decide)))).ext E6).other W17 (Or.inr (slot_ne (Or.inl (hwd 44 rfl)) (Or.inr (hwd 27 rfl)) (by decide) (t := .boolean) (t' := .boolean) (by decide) (by decide))))
 exact own_ret0W X17 hx hS hk17 hZ hEL hh CR17 Bd.returns (hb hby d1_24) hlk e17 ⟨(nar .boolean o14), rfl, N17, K17, F18, F19, F20, Fw17, F21, ⟨o14, hp15, rfl⟩⟩ (by decide) (by decide)
theorem pn_lcN : plainName "com/example/margay/margay/index/LineCounter" = true := by first | (simp [plainName, overriddenIn]; done) | decide +kernel
theorem ef_lcN (m : MethodId) (a0 : Addr) : entryFrame m #[(.ref a0), .null] 2 = mkF m 0 #[vR a0, .val .null] [] := by first | (simp [entryFrame, mkF, argsToLocals, Value.category]; done) | rfl
def QlcN (Z : State) (a0 : Addr) (f_a0_line : Int32) (f_a0_column : Int32) (f_a0_xml11 : Int32) (f_a0_afterCarriageReturn : Int32) (h0 : Heap) (n0 : Nat) (v : Option Value) (h : Heap) (L : List Loc) : Prop := v = none ∧ Fr n0 L ∧ Keep h0 h [a0] ∧ Exa Z h a0 "com/example/margay/margay/index/LineCounter" ∧ Fld Z h a0 "com/example/margay/margay/index/LineCounter" "line" "I" (.int (1 : Int32)) ∧ Fld Z h a0 "com/example/margay/margay/index/LineCounter" "column" "I" (.int (1 : Int32)) ∧ Fld Z h a0 "com/example/margay/margay/index/LineCounter" "xml11" "Z" (.int (0 : Int32)) ∧ Fld Z h a0 "com/example/margay/margay/index/LineCounter" "afterCarriageReturn" "Z" (.int f_a0_afterCarriageReturn)
set_option maxRecDepth 65536 in
set_option maxHeartbeats 40000000 in
theorem rmlcN (l : Launch) (Z : State) (A0 : Array Value) (hw : ∀ d ∈ tables_1, d.before A0 Z = true) (ws : List Jvm.Cond) (a0 : Addr) (f_a0_line : Int32) (f_a0_column : Int32) (f_a0_xml11 : Int32) (f_a0_afterCarriageReturn : Int32) (h0 : Heap) (n0 : Nat) (Z0 : n0 ≤ h0.size) (P_E_a0 : Exa Z h0 a0 "com/example/margay/margay/index/LineCounter") (P_F_a0_line : Fld Z h0 a0 "com/example/margay/margay/index/LineCounter" "line" "I" (.int f_a0_line)) (g_a0 : n0 ≤ a0) (P_F_a0_column : Fld Z h0 a0 "com/example/margay/margay/index/LineCounter" "column" "I" (.int f_a0_column)) (P_F_a0_xml11 : Fld Z h0 a0 "com/example/margay/margay/index/LineCounter" "xml11" "Z" (.int f_a0_xml11)) (P_F_a0_afterCarriageReturn : Fld Z h0 a0 "com/example/margay/margay/index/LineCounter" "afterCarriageReturn" "Z" (.int f_a0_afterCarriageReturn)) :
    MetFree l (⟨"com/example/margay/margay/index/LineCounter", "<init>", "(Ljava/lang/String;)V"⟩ : MethodName) (head1 (Jvm.Cond.code (⟨"com/example/margay/margay/index/LineCounter", "<init>", "(Ljava/lang/String;)V"⟩ : MethodName) prog_53_method_1_code 2 none :: ws) ({ frames := 1, cells := 2, slots := 16, locals := 15 } : Room)) (fun a U => a = #[(.ref a0), .null] ∧ Z.Warmed39 U.vm ∧ U.heap = h0 ∧ CHv Z consts_1 U.vm h0) (fun _ _ _ _ _ => True) (fun _ U o U' => ∃ v L, o = .returned v ∧ QlcN Z a0 f_a0_line f_a0_column f_a0_xml11 f_a0_afterCarriageReturn h0 n0 v U'.heap L ∧ CHr Z consts_1 U.vm U.heap U'.vm U'.heap ∧ ReturnedEndW U o U' L 2 16) := by
 refine MetFree.of_bodySF (plainFor_of_name pn_lcN) hisR ?_
 intro p e s m args below meth c s₁ Bd hml0 hP hK
 obtain ⟨rfl, hZ, hh, hC0⟩ := hP
 have hwd := fun i {d : Jvm.Cond} (h : tables_1[i]? = some d) => hw d (List.mem_of_getElem? h)
 have hx := Bd.exec
 have hby := Bd.bytes
 have hml : c.maxLocals = 2 := hml0
 have hlk : meth.locks = false := Bd.notSynchronized
 have hown : s.vm.findClass "com/example/margay/margay/index/LineCounter" = some m.cls := findClass_of_methodNamed Bd.named
 have hnm := (name_of_methodNamed Bd.named Bd.method).1
 have X0 : Stand p l e ({ frames := 1, cells := 2, slots := 16, locals := 15 } : Room) (s.setVm s.vm) m #[(.ref a0), .null] below meth c s₁ [] 0 0 := Stand.of_body Bd
 have e0 : s₁.heap = h0 := by rw [← hh, Bd.state]; rfl
 have N0 := Fr.nil n0
 have hEL := own_EW hw
 have hwS := fun a ha => hw a (own_atoms a ha)
 have CR0 : CHr Z consts_1 s.vm h0 s.vm h0 := CHr.refl hC0
 obtain ⟨kc0, hkc0⟩ : ∃ z, z = h0.size := ⟨_, rfl⟩
 have hk0 : kc0 ≤ h0.size := Nat.le_of_eq hkc0
 have hS : s.Since s.vm kc0 := own_since s kc0
 show own_Go p e below (own_FinW Z consts_1 s 2 16 (QlcN Z a0 f_a0_line f_a0_column f_a0_xml11 f_a0_afterCarriageReturn h0 n0)) _
 refine own_by (fun t k => castTop (ef_lcN m a0) k) ?_
 show own_Go p e below _ (s₁.setTop (mkF m 0 #[vR a0, .val .null] []))
 refine own_by (fun _ k => XS.aloadN X0.here hx rfl (hb hby d1_0) rfl rfl k) ?_
 show own_Go p e below _ (s₁.setTop (mkF m 1 #[vR a0, .val .null] [(.ref a0)]))
 obtain ⟨T1, X1, e1, st1⟩ := initO X0 hx hZ hown (hwd 6 rfl) (hwd 7 rfl) (hwd 8 rfl) e0 (g := (mkF m 1 #[vR a0, .val .null] [(.ref a0)])) rfl (by rw [hml]; rfl) rfl (hb hby d1_1) (by decide) (W := 0) (by show 2 * 0 + _ ≤ _; exact Nat.le_of_eq rfl) (by decide)
 refine own_by st1 ?_
 show own_Go p e below _ (T1.setTop (mkF m 4 #[vR a0, .val .null] []))
 refine own_by (fun _ k => XS.aloadN X1.here hx rfl (hb hby d1_4) rfl rfl k) ?_
 show own_Go p e below _ (T1.setTop (mkF m 5 #[vR a0, .val .null] [(.ref a0)]))
 refine own_by (fun _ k => XS.iconst X1.here hx rfl (hb hby d1_5) k) ?_
 show own_Go p e below _ (T1.setTop (mkF m 6 #[vR a0, .val .null] [(.int (1 : Int32)), (.ref a0)]))
 obtain ⟨T2, h2, X2, e2, W2, st2⟩ := putF X1 hx hZ hown (host := "") (Or.inl (hwd 9 rfl)) Via.refl e1 P_F_a0_line P_E_a0 (Or.inl (hwd 10 rfl)) (hwd 1 rfl) (ty := .int) (by decide) rfl rfl (g := (mkF m 6 #[vR a0, .val .null] [(.int (1 : Int32)), (.ref a0)])) rfl rfl (hb hby d1_6)
 have Fw2 : Fld Z h2 a0 "com/example/margay/margay/index/LineCounter" "line" "I" (.int (1 : Int32)) := P_F_a0_line.same W2
 have R2 : CHr Z consts_1 s.vm h0 s.vm h2 := CHr.wr W2 (Safe.exa hZ.alike P_E_a0 (by decide) (by decide)) CR0.1
 have CR2 : CHr Z consts_1 s.vm h0 s.vm h2 := CR0.trans R2
 have hk2 : kc0 ≤ h2.size := Nat.le_trans hk0 (Keep.of_wr W2).1
 have K2 : Keep h0 h2 [a0] := (Keep.refl h0 [a0]).wr W2 (Or.inl (List.mem_of_getElem? (i := 0) rfl))
 have Z2 : n0 ≤ h2.size := Nat.le_trans Z0 (Keep.of_wr W2).1
 have N2 := Fr.snoc X2 N0 g_a0
 refine own_by st2 ?_
 show own_Go p e below _ (T2.setTop (mkF m 9 #[vR a0, .val .null] []))
 refine own_by (fun _ k => XS.aloadN X2.here hx rfl (hb hby d1_9) rfl rfl k) ?_
 show own_Go p e below _ (T2.setTop (mkF m 10 #[vR a0, .val .null] [(.ref a0)]))
 refine own_by (fun _ k => XS.iconst X2.here hx rfl (hb hby d1_10) k) ?_
 show own_Go p e below _ (T2.setTop (mkF m 11 #[vR a0, .val .null] [(.int (1 : Int32)), (.ref a0)]))
 have F3 : Exa Z h2 a0 "com/example/margay/margay/index/LineCounter" := (P_E_a0.wr W2)
 have F4 : Fld Z h2 a0 "com/example/margay/margay/index/LineCounter" "column" "I" (.int f_a0_column) := (P_F_a0_column.other W2 (Or.inr (slot_ne (Or.inl (hwd 12 rfl)) (Or.inl (hwd 10 rfl)) (by decide) (t := .int) (t' := .int) (by decide) (by decide))))
 obtain ⟨T5, h5, X5, e5, W5, st5⟩ := putF X2 hx hZ hown (host := "") (Or.inl (hwd 11 rfl)) Via.refl e2 F4 F3 (Or.inl (hwd 12 rfl)) (hwd 1 rfl) (ty := .int) (by decide) rfl rfl (g := (mkF m 11 #[vR a0, .val .null] [(.int (1 : Int32)), (.ref a0)])) rfl rfl (hb hby d1_11)
 have Fw5 : Fld Z h5 a0 "com/example/margay/margay/index/LineCounter" "column" "I" (.int (1 : Int32)) := F4.same W5
 have R5 : CHr Z consts_1 s.vm h2 s.vm h5 := CHr.wr W5 (Safe.exa hZ.alike F3 (by decide) (by decide)) CR2.1
 have CR5 : CHr Z consts_1 s.vm h0 s.vm h5 := CR2.trans R5
 have hk5 : kc0 ≤ h5.size := Nat.le_trans hk2 (Keep.of_wr W5).1
 have K5 : Keep h0 h5 [a0] := K2.wr W5 (Or.inl (List.mem_of_getElem? (i := 0) rfl))
 have Z5 : n0 ≤ h5.size := Nat.le_trans Z2 (Keep.of_wr W5).1
 have N5 := Fr.snoc X5 N2 g_a0
 refine own_by st5 ?_
 show own_Go p e below _ (T5.setTop (mkF m 14 #[vR a0, .val .null] []))
 refine own_by (fun _ k => XS.aloadN X5.here hx rfl (hb hby d1_14) rfl rfl k) ?_
 show own_Go p e below _ (T5.setTop (mkF m 15 #[vR a0, .val .null] [(.ref a0)]))
 obtain ⟨b6, T6, h6, kc6, t6, kk6, X6, e6, E6, hS, hk6, hZ, hown, A6, C6, F6, V6, lt6, ltb6, R6, Li6, -, st6⟩ := ldcCH X5 hx hZ hown (hwd 13 rfl) hwS e5 hS hk5 hEL (by decide) CR5.1 (vs := ([49, 46, 49] : List Int32).map Value.int) (z := (3 : Int32)) ⟨by decide, by decide⟩ (by decide) (by decide) (g := (mkF m 15 #[vR a0, .val .null] [(.ref a0)])) rfl (hb hby d1_15) (n := 12) (by decide) (by decide) (by decide) (by decide)
 have V6' : own_Arf Z h6 t6 kk6 .byte (3 : Int32) (fun i => .int ((own_li [49, 46, 49]) i)) := own_arfLi V6
 have CR6 : CHr Z consts_1 s.vm h0 T6.vm h6 := CR5.trans R6
 have K6 : Keep h0 h6 [a0] := K5.ext E6
 have Z6 : n0 ≤ h6.size := Nat.le_trans Z5 E6.1
 refine own_by st6 ?_
 show own_Go p e below _ (T6.setTop (mkF m 17 #[vR a0, .val .null] [(.ref b6), (.ref a0)]))
 refine own_by (fun _ k => XS.aloadN X6.here hx rfl (hb hby d1_17) rfl rfl k) ?_
 show own_Go p e below _ (T6.setTop (mkF m 18 #[vR a0, .val .null] [.null, (.ref b6), (.ref a0)]))
 obtain ⟨cq7, kq7, qq7a, qq7b, qq7c⟩ := isOf hZ e6 A6
 obtain ⟨_, _, ⟨T7, L7, k7, n7⟩, -, X7, ⟨Lc7, hQ7, l7, y7, z7⟩, st7⟩ := X6.virtualBack hx (y := (⟨"java/lang/String", "equals", "(Ljava/lang/Object;)Z"⟩ : MethodName)) (z := (⟨"java/lang/String", "equals", "(Ljava/lang/Object;)Z"⟩ : MethodName)) hown (mvT hZ (hwd 21 rfl)) (mvT hZ (hwd 22 rfl)) (notFace_of_selects (args := #[]) (mvT hZ (hwd 24 rfl))) (mvT hZ (hwd 24 rfl)) (mvT hZ (hwd 23 rfl)) (by decide) (backOf (W := 1) (rmeqN l Z A0 hw [] b6 h6 n0 Z6 ) hZ (hwd 25 rfl) (hwd 14 rfl) (by decide) (by decide)) qq7a qq7c (g := (mkF m 18 #[vR a0, .val .null] [.null, (.ref b6), (.ref a0)])) rfl (by rw [hml]; rfl) (Steps.refl _) (argsL := [.null]) (rest := [(.ref a0)]) (lenOf pd_21 rfl) rfl (by show 2 * 0 + _ ≤ _; exact Nat.le_of_eq rfl) (hb hby d1_18) (fun _ _ => ⟨rfl, e6, (by decide : 2 + 0 ≤ _), (by decide : 16 + 0 ≤ _)⟩)
 dsimp only [Pt.U, Pt.locs, Pt.cells, Pt.slots] at X7 l7 y7 z7 st7 hQ7
 subst l7 y7 z7
 obtain ⟨rfl, Nq7, eq7⟩ := hQ7
 have N7 := Fr.app N5 Nq7
 refine own_by (fun _ k => st7.trans k) ?_
 show own_Go p e below _ (T7.setTop (mkF m 21 #[vR a0, .val .null] [(.int (0 : Int32)), (.ref a0)]))
 have F8 : Exa Z h6 a0 "com/example/margay/margay/index/LineCounter" := ((F3.wr W5).ext E6)
 have F9 : Fld Z h6 a0 "com/example/margay/margay/index/LineCounter" "xml11" "Z" (.int f_a0_xml11) := (((P_F_a0_xml11.other W2 (Or.inr (slot_ne (Or.inr (hwd 27 rfl)) (Or.inl (hwd 10 rfl)) (by decide) (t := .boolean) (t' := .int) (by decide) (by decide)))).other W5 (Or.inr (slot_ne (Or.inr (hwd 27 rfl)) (Or.inl (hwd 12 rfl)) (by decide) (t := .boolean) (t' := .int) (by decide) (by decide)))).ext E6)
 obtain ⟨T10, h10, X10, e10, W10, st10⟩ := putFN X7 hx hZ hown (hwd 26 rfl) Via.refl eq7 F9 F8 (Or.inr ⟨(hwd 27 rfl), rfl, hnm⟩) (hwd 1 rfl) (ty := .boolean) (v' := (.int (0 : Int32))) (by decide) rfl rfl (g := (mkF m 21 #[vR a0, .val .null] [(.int (0 : Int32)), (.ref a0)])) rfl rfl (hb hby d1_21)
 have Fw10 : Fld Z h10 a0 "com/example/margay/margay/index/LineCounter" "xml11" "Z" (.int (0 : Int32)) := F9.same W10
 have R10 : CHr Z consts_1 T6.vm h6 T6.vm h10 := CHr.wr W10 (Safe.exa hZ.alike F8 (by decide) (by decide)) CR6.1
 have CR10 : CHr Z consts_1 s.vm h0 T6.vm h10 := CR6.trans R10
 have hk10 : kc6 ≤ h10.size := Nat.le_trans hk6 (Keep.of_wr W10).1
 have K10 : Keep h0 h10 [a0] := K6.wr W10 (Or.inl (List.mem_of_getElem? (i := 0) rfl))
 have Z10 : n0 ≤ h10.size := Nat.le_trans Z6 (Keep.of_wr W10).1
 have N10 := Fr.snoc X10 N7 g_a0
 refine own_by st10 ?_
 show own_Go p e below _ (T10.setTop (mkF m 24 #[vR a0, .val .null] []))
 have F11 : Exa Z h10 a0 "com/example/margay/margay/index/LineCounter" := (F8.wr W10)
 have F12 : Fld Z h10 a0 "com/example/margay/margay/index/LineCounter" "line" "I" (.int (1 : Int32)) := (((Fw2.other W5 (Or.inr (slot_ne (Or.inl (hwd 10 rfl)) (Or.inl (hwd 12 rfl)) (by decide) (t := .int) (t' := .int) (by decide) (by decide)))).ext E6).other W10 (Or.inr (slot_ne (Or.inl (hwd 10 rfl)) (Or.inr (hwd 27 rfl)) (by decide) (t := .int) (t' := .boolean) (by decide) (by decide))))
 have F13 : Fld Z h10 a0 "com/example/margay/margay/index/LineCounter" "column" "I" (.int (1 : Int32)) := ((Fw5.ext E6).other W10 (Or.inr (slot_ne (Or.inl (hwd 12 rfl)) (Or.inr (hwd 27 rfl)) (by decide) (t := .int) (t' := .boolean) (by decide) (by decide))))
 have F14 : Fld Z h10 a0 "com/example/margay/margay/index/LineCounter" "afterCarriageReturn" "Z" (.int f_a0_afterCarriageReturn) := ((((P_F_a0_afterCarriageReturn.other W2 (Or.inr (slot_ne (Or.inl (hwd 44 rfl)) (Or.inl (hwd 10 rfl)) (by decide) (t := .boolean) (t' := .int) (by decide) (by decide)))).other W5 (Or.inr (slot_ne (Or.inl (hwd 44 rfl)) (Or.inl (hwd 12 rfl)) (by decide) (t := .boolean) (t' := .int) (by decide) (by decide)))).ext E6).other W10 (Or.inr (slot_ne (Or.inl (hwd 44 rfl)) (Or.inr (hwd 27 rfl)) (by decide) (t := .boolean) (t' := .boolean) (by decide) (by decide))))
 exact own_ret0W X10 hx hS hk10 hZ hEL hh CR10 Bd.returns (hb hby d1_24) hlk e10 ⟨rfl, N10, K10, F11, F12, F13, Fw10, F14⟩ (by decide) (by decide)
theorem d4_0 : decode prog_53_method_4_code 0 = .ok (.iload_n 1, 1) := by decide +kernel
theorem d4_1 : decode prog_53_method_4_code 1 = .ok (.bipush 10, 2) := by decide +kernel
theorem d4_3 : decode prog_53_method_4_code 3 = .ok (.if_icmp .eq 17, 3) := by decide +kernel
theorem d4_6 : decode prog_53_method_4_code 6 = .ok (.aload_n 0, 1) := by decide +kernel
theorem d4_7 : decode prog_53_method_4_code 7 = .ok (.getfield 24, 3) := by decide +kernel
theorem d4_10 : decode prog_53_method_4_code 10 = .ok (.ifCond .eq 14, 3) := by decide +kernel
theorem d4_13 : decode prog_53_method_4_code 13 = .ok (.iload_n 1, 1) := by decide +kernel
theorem d4_14 : decode prog_53_method_4_code 14 = .ok (.sipush 133, 3) := by decide +kernel
theorem d4_17 : decode prog_53_method_4_code 17 = .ok (.if_icmp .ne 7, 3) := by decide +kernel
theorem d4_20 : decode prog_53_method_4_code 20 = .ok (.iconst 1, 1) := by decide +kernel
theorem d4_21 : decode prog_53_method_4_code 21 = .ok (.goto 4, 3) := by decide +kernel
theorem d4_24 : decode prog_53_method_4_code 24 = .ok (.iconst 0, 1) := by decide +kernel
theorem d4_25 : decode prog_53_method_4_code 25 = .ok (.ireturn, 1) := by decide +kernel
theorem pn_4 : plainName "com/example/margay/margay/index/LineCounter" = true := by first | (simp [plainName, overriddenIn]; done) | decide +kernel
theorem ef_4 (m : MethodId) (a0 : Addr) (p1 : Int32) : entryFrame m #[(.ref a0), (.int p1)] 2 = mkF m 0 #[vR a0, vI p1] [] := by first | (simp [entryFrame, mkF, argsToLocals, Value.category]; done) | rfl
theorem ob_4_7 (p1 : Int32) (f_a0_xml11 : Int32) (c1 : p1 = (10 : Int32)) : own_is (own_join p1 f_a0_xml11) (1 : Int32) := by
  simp only [own_is, own_cnt, own_ends, own_join] at *
  have n0 : nar .boolean (0 : Int32) = 0 := rfl
  have n1 : nar .boolean (1 : Int32) = 1 := rfl
  grind
theorem ob_4_8 (p1 : Int32) (f_a0_xml11 : Int32) (c1 : ¬ (p1 = (10 : Int32))) (c3 : f_a0_xml11 = (0 : Int32)) : own_is (own_join p1 f_a0_xml11) (0 : Int32) := by
  simp only [own_is, own_cnt, own_ends, own_join] at *
  have n0 : nar .boolean (0 : Int32) = 0 := rfl
  have n1 : nar .boolean (1 : Int32) = 1 := rfl
  grind
theorem ob_4_9 (p1 : Int32) (f_a0_xml11 : Int32) (c1 : ¬ (p1 = (10 : Int32))) (c3 : ¬ (f_a0_xml11 = (0 : Int32))) (c4 : p1 = (133 : Int32)) : own_is (own_join p1 f_a0_xml11) (1 : Int32) := by
  simp only [own_is, own_cnt, own_ends, own_join] at *
  have n0 : nar .boolean (0 : Int32) = 0 := rfl
  have n1 : nar .boolean (1 : Int32) = 1 := rfl
  grind
theorem ob_4_10 (p1 : Int32) (f_a0_xml11 : Int32) (c1 : ¬ (p1 = (10 : Int32))) (c3 : ¬ (f_a0_xml11 = (0 : Int32))) (c4 : ¬ (p1 = (133 : Int32))) : own_is (own_join p1 f_a0_xml11) (0 : Int32) := by
  simp only [own_is, own_cnt, own_ends, own_join] at *
  have n0 : nar .boolean (0 : Int32) = 0 := rfl
  have n1 : nar .boolean (1 : Int32) = 1 := rfl
  grind
def Q4 (Z : State) (a0 : Addr) (p1 : Int32) (f_a0_xml11 : Int32) (h0 : Heap) (n0 : Nat) (v : Option Value) (h : Heap) (L : List Loc) : Prop := ∃ (zz : Int32), v = some (.int zz) ∧ Fr n0 L ∧ h = h0 ∧ (own_is (own_join p1 f_a0_xml11) zz)
set_option maxRecDepth 65536 in
set_option maxHeartbeats 40000000 in
theorem rm4 (l : Launch) (Z : State) (A0 : Array Value) (hw : ∀ d ∈ tables_1, d.before A0 Z = true) (ws : List Jvm.Cond) (a0 : Addr) (p1 : Int32) (f_a0_xml11 : Int32) (h0 : Heap) (n0 : Nat) (Z0 : n0 ≤ h0.size) (P_F_a0_xml11 : Fld Z h0 a0 "com/example/margay/margay/index/LineCounter" "xml11" "Z" (.int f_a0_xml11)) :
    MetFree l (⟨"com/example/margay/margay/index/LineCounter", "endsLineWithCarriageReturn", "(C)Z"⟩ : MethodName) (head1 (Jvm.Cond.code (⟨"com/example/margay/margay/index/LineCounter", "endsLineWithCarriageReturn", "(C)Z"⟩ : MethodName) prog_53_method_4_code 2 (some .boolean) :: ws) ({ frames := 0, cells := 0, slots := 0, locals := 0 } : Room)) (fun a U => a = #[(.ref a0), (.int p1)] ∧ Z.Warmed39 U.vm ∧ U.heap = h0) (fun _ _ _ _ _ => True) (fun _ U o U' => ∃ v L, o = .returned v ∧ Q4 Z a0 p1 f_a0_xml11 h0 n0 v U'.heap L ∧ FrameEnd U o U' L 0 0) := by
 refine MetFree.of_bodySF (plainFor_of_name pn_4) hisR ?_
 intro p e s m args below meth c s₁ Bd hml0 hP hK
 obtain ⟨rfl, hZ, hh⟩ := hP
 have hwd := fun i {d : Jvm.Cond} (h : tables_1[i]? = some d) => hw d (List.mem_of_getElem? h)
 have hx := Bd.exec
 have hby := Bd.bytes
 have hml : c.maxLocals = 2 := hml0
 have hlk : meth.locks = false := Bd.notSynchronized
 have hown : s.vm.findClass "com/example/margay/margay/index/LineCounter" = some m.cls := findClass_of_methodNamed Bd.named
 have hnm := (name_of_methodNamed Bd.named Bd.method).1
 have X0 : Stand p l e ({ frames := 0, cells := 0, slots := 0, locals := 0 } : Room) s m #[(.ref a0), (.int p1)] below meth c s₁ [] 0 0 := Stand.of_body Bd
 have e0 : s₁.heap = h0 := by rw [← hh, Bd.state]; rfl
 have N0 := Fr.nil n0
 show own_Go p e below (own_Fin s 0 0 (Q4 Z a0 p1 f_a0_xml11 h0 n0)) _
 refine own_by (fun t k => castTop (ef_4 m a0 p1) k) ?_
 show own_Go p e below _ (s₁.setTop (mkF m 0 #[vR a0, vI p1] []))
 refine own_by (fun _ k => XS.iloadN X0.here hx rfl (hb hby d4_0) rfl k) ?_
 show own_Go p e below _ (s₁.setTop (mkF m 1 #[vR a0, vI p1] [(.int p1)]))
 refine own_by (fun _ k => XS.bipush X0.here hx rfl (hb hby d4_1) k) ?_
 show own_Go p e below _ (s₁.setTop (mkF m 3 #[vR a0, vI p1] [(.int (10 : Int32)), (.int p1)]))
 by_cases c1 : p1 = (10 : Int32)
 ·skip
  refine own_by (fun _ k => XS.icmpYes X0.here hx rfl (pc0 := 3) (pc' := 20) rfl (hb hby d4_3) rfl (teq c1).1 (by decide) (by decide) k) ?_
  show own_Go p e below _ (s₁.setTop (mkF m 20 #[vR a0, vI p1] []))
  refine own_by (fun _ k => XS.iconst X0.here hx rfl (hb hby d4_20) k) ?_
  show own_Go p e below _ (s₁.setTop (mkF m 21 #[vR a0, vI p1] [(.int (1 : Int32))]))
  refine own_by (fun _ k => XS.goto X0.here hx rfl (pc0 := 21) (pc' := 25) rfl (hb hby d4_21) (by decide) (by decide) k) ?_
  show own_Go p e below _ (s₁.setTop (mkF m 25 #[vR a0, vI p1] [(.int (1 : Int32))]))
  exact own_retN X0 hx (t := .boolean) Bd.returns (by simp) (hb hby d4_25) hlk e0 ⟨_, rfl, N0, rfl, (ob_4_7 p1 f_a0_xml11 c1)⟩ (by decide) (by decide)
 ·skip
  refine own_by (fun _ k => XS.icmpNo X0.here hx rfl (hb hby d4_3) rfl (feq c1).1 k) ?_
  show own_Go p e below _ (s₁.setTop (mkF m 6 #[vR a0, vI p1] []))
  refine own_by (fun _ k => XS.aloadN X0.here hx rfl (hb hby d4_6) rfl rfl k) ?_
  show own_Go p e below _ (s₁.setTop (mkF m 7 #[vR a0, vI p1] [(.ref a0)]))
  obtain ⟨T2, X2, e2, st2⟩ := getF X0 hx hZ hown (host := "") (Or.inl (hwd 26 rfl)) Via.refl e0 P_F_a0_xml11 (g := (mkF m 7 #[vR a0, vI p1] [(.ref a0)])) rfl rfl (hb hby d4_7)
  refine own_by st2 ?_
  show own_Go p e below _ (T2.setTop (mkF m 10 #[vR a0, vI p1] [(.int f_a0_xml11)]))
  by_cases c3 : f_a0_xml11 = (0 : Int32)
  ·skip
   refine own_by (fun _ k => XS.ifYes X2.here hx rfl (pc0 := 10) (pc' := 24) rfl (hb hby d4_10) rfl ((if0 _ _).trans (teq c3).1) (by decide) (by decide) k) ?_
   show own_Go p e below _ (T2.setTop (mkF m 24 #[vR a0, vI p1] []))
   refine own_by (fun _ k => XS.iconst X2.here hx rfl (hb hby d4_24) k) ?_
   show own_Go p e below _ (T2.setTop (mkF m 25 #[vR a0, vI p1] [(.int (0 : Int32))]))
   exact own_retN X2 hx (t := .boolean) Bd.returns (by simp) (hb hby d4_25) hlk e2 ⟨_, rfl, N0, rfl, (ob_4_8 p1 f_a0_xml11 c1 c3)⟩ (by decide) (by decide)
  ·skip
   refine own_by (fun _ k => XS.ifNo X2.here hx rfl (hb hby d4_10) rfl ((if0 _ _).trans (feq c3).1) k) ?_
   show own_Go p e below _ (T2.setTop (mkF m 13 #[vR a0, vI p1] []))
   refine own_by (fun _ k => XS.iloadN X2.here hx rfl (hb hby d4_13) rfl k) ?_
   show own_Go p e below _ (T2.setTop (mkF m 14 #[vR a0, vI p1] [(.int p1)]))
   refine own_by (fun _ k => XS.sipush X2.here hx rfl (hb hby d4_14) k) ?_
   show own_Go p e below _ (T2.setTop (mkF m 17 #[vR a0, vI p1] [(.int (133 : Int32)), (.int p1)]))
   by_cases c4 : p1 = (133 : Int32)
   ·skip
    refine own_by (fun _ k => XS.icmpNo X2.here hx rfl (hb hby d4_17) rfl (teq c4).2 k) ?_
    show own_Go p e below _ (T2.setTop (mkF m 20 #[vR a0, vI p1] []))
    refine own_by (fun _ k => XS.iconst X2.here hx rfl (hb hby d4_20) k) ?_
    show own_Go p e below _ (T2.setTop (mkF m 21 #[vR a0, vI p1] [(.int (1 : Int32))]))
    refine own_by (fun _ k => XS.goto X2.here hx rfl (pc0 := 21) (pc' := 25) rfl (hb hby d4_21) (by decide) (by decide) k) ?_
    show own_Go p e below _ (T2.setTop (mkF m 25 #[vR a0, vI p1] [(.int (1 : Int32))]))
    exact own_retN X2 hx (t := .boolean) Bd.returns (by simp) (hb hby d4_25) hlk e2 ⟨_, rfl, N0, rfl, (ob_4_9 p1 f_a0_xml11 c1 c3 c4)⟩ (by decide) (by decide)
   ·skip
    refine own_by (fun _ k => XS.icmpYes X2.here hx rfl (pc0 := 17) (pc' := 24) rfl (hb hby d4_17) rfl (feq c4).2 (by decide) (by decide) k) ?_
    show own_Go p e below _ (T2.setTop (mkF m 24 #[vR a0, vI p1] []))
    refine own_by (fun _ k => XS.iconst X2.here hx rfl (hb hby d4_24) k) ?_
    show own_Go p e below _ (T2.setTop (mkF m 25 #[vR a0, vI p1] [(.int (0 : Int32))]))
    exact own_retN X2 hx (t := .boolean) Bd.returns (by simp) (hb hby d4_25) hlk e2 ⟨_, rfl, N0, rfl, (ob_4_10 p1 f_a0_xml11 c1 c3 c4)⟩ (by decide) (by decide)
theorem d5_0 : decode prog_53_method_3_code 0 = .ok (.iload_n 1, 1) := by decide +kernel
theorem d5_1 : decode prog_53_method_3_code 1 = .ok (.bipush 13, 2) := by decide +kernel
theorem d5_3 : decode prog_53_method_3_code 3 = .ok (.if_icmp .eq 30, 3) := by decide +kernel
theorem d5_6 : decode prog_53_method_3_code 6 = .ok (.iload_n 1, 1) := by decide +kernel
theorem d5_7 : decode prog_53_method_3_code 7 = .ok (.bipush 10, 2) := by decide +kernel
theorem d5_9 : decode prog_53_method_3_code 9 = .ok (.if_icmp .eq 24, 3) := by decide +kernel
theorem d5_12 : decode prog_53_method_3_code 12 = .ok (.aload_n 0, 1) := by decide +kernel
theorem d5_13 : decode prog_53_method_3_code 13 = .ok (.getfield 24, 3) := by decide +kernel
theorem d5_16 : decode prog_53_method_3_code 16 = .ok (.ifCond .eq 21, 3) := by decide +kernel
theorem d5_19 : decode prog_53_method_3_code 19 = .ok (.iload_n 1, 1) := by decide +kernel
theorem d5_20 : decode prog_53_method_3_code 20 = .ok (.sipush 133, 3) := by decide +kernel
theorem d5_23 : decode prog_53_method_3_code 23 = .ok (.if_icmp .eq 10, 3) := by decide +kernel
theorem d5_26 : decode prog_53_method_3_code 26 = .ok (.iload_n 1, 1) := by decide +kernel
theorem d5_27 : decode prog_53_method_3_code 27 = .ok (.sipush 8232, 3) := by decide +kernel
theorem d5_30 : decode prog_53_method_3_code 30 = .ok (.if_icmp .ne 7, 3) := by decide +kernel
theorem d5_33 : decode prog_53_method_3_code 33 = .ok (.iconst 1, 1) := by decide +kernel
theorem d5_34 : decode prog_53_method_3_code 34 = .ok (.goto 4, 3) := by decide +kernel
theorem d5_37 : decode prog_53_method_3_code 37 = .ok (.iconst 0, 1) := by decide +kernel
theorem d5_38 : decode prog_53_method_3_code 38 = .ok (.ireturn, 1) := by decide +kernel
theorem pn_5 : plainName "com/example/margay/margay/index/LineCounter" = true := by first | (simp [plainName, overriddenIn]; done) | decide +kernel
theorem ef_5 (m : MethodId) (a0 : Addr) (p1 : Int32) : entryFrame m #[(.ref a0), (.int p1)] 2 = mkF m 0 #[vR a0, vI p1] [] := by first | (simp [entryFrame, mkF, argsToLocals, Value.category]; done) | rfl
theorem ob_5_11 (p1 : Int32) (f_a0_xml11 : Int32) (c1 : p1 = (13 : Int32)) : own_is (own_ends p1 f_a0_xml11) (1 : Int32) := by
  simp only [own_is, own_cnt, own_ends, own_join] at *
  have n0 : nar .boolean (0 : Int32) = 0 := rfl
  have n1 : nar .boolean (1 : Int32) = 1 := rfl
  grind
theorem ob_5_12 (p1 : Int32) (f_a0_xml11 : Int32) (c1 : ¬ (p1 = (13 : Int32))) (c2 : p1 = (10 : Int32)) : own_is (own_ends p1 f_a0_xml11) (1 : Int32) := by
  simp only [own_is, own_cnt, own_ends, own_join] at *
  have n0 : nar .boolean (0 : Int32) = 0 := rfl
  have n1 : nar .boolean (1 : Int32) = 1 := rfl
  grind
theorem ob_5_13 (p1 : Int32) (f_a0_xml11 : Int32) (c1 : ¬ (p1 = (13 : Int32))) (c2 : ¬ (p1 = (10 : Int32))) (c4 : f_a0_xml11 = (0 : Int32)) : own_is (own_ends p1 f_a0_xml11) (0 : Int32) := by
  simp only [own_is, own_cnt, own_ends, own_join] at *
  have n0 : nar .boolean (0 : Int32) = 0 := rfl
  have n1 : nar .boolean (1 : Int32) = 1 := rfl
  grind
theorem ob_5_14 (p1 : Int32) (f_a0_xml11 : Int32) (c1 : ¬ (p1 = (13 : Int32))) (c2 : ¬ (p1 = (10 : Int32))) (c4 : ¬ (f_a0_xml11 = (0 : Int32))) (c5 : p1 = (133 : Int32)) : own_is (own_ends p1 f_a0_xml11) (1 : Int32) := by
  simp only [own_is, own_cnt, own_ends, own_join] at *
  have n0 : nar .boolean (0 : Int32) = 0 := rfl
  have n1 : nar .boolean (1 : Int32) = 1 := rfl
  grind
theorem ob_5_15 (p1 : Int32) (f_a0_xml11 : Int32) (c1 : ¬ (p1 = (13 : Int32))) (c2 : ¬ (p1 = (10 : Int32))) (c4 : ¬ (f_a0_xml11 = (0 : Int32))) (c5 : ¬ (p1 = (133 : Int32))) (c6 : p1 = (8232 : Int32)) : own_is (own_ends p1 f_a0_xml11) (1 : Int32) := by
  simp only [own_is, own_cnt, own_ends, own_join] at *
  have n0 : nar .boolean (0 : Int32) = 0 := rfl
  have n1 : nar .boolean (1 : Int32) = 1 := rfl
  grind
theorem ob_5_16 (p1 : Int32) (f_a0_xml11 : Int32) (c1 : ¬ (p1 = (13 : Int32))) (c2 : ¬ (p1 = (10 : Int32))) (c4 : ¬ (f_a0_xml11 = (0 : Int32))) (c5 : ¬ (p1 = (133 : Int32))) (c6 : ¬ (p1 = (8232 : Int32))) : own_is (own_ends p1 f_a0_xml11) (0 : Int32) := by
  simp only [own_is, own_cnt, own_ends, own_join] at *
  have n0 : nar .boolean (0 : Int32) = 0 := rfl
  have n1 : nar .boolean (1 : Int32) = 1 := rfl
  grind
def Q5 (Z : State) (a0 : Addr) (p1 : Int32) (f_a0_xml11 : Int32) (h0 : Heap) (n0 : Nat) (v : Option Value) (h : Heap) (L : List Loc) : Prop := ∃ (zz : Int32), v = some (.int zz) ∧ Fr n0 L ∧ h = h0 ∧ (own_is (own_ends p1 f_a0_xml11) zz)
set_option maxRecDepth 65536 in
set_option maxHeartbeats 40000000 in
theorem rm5 (l : Launch) (Z : State) (A0 : Array Value) (hw : ∀ d ∈ tables_1, d.before A0 Z = true) (ws : List Jvm.Cond) (a0 : Addr) (p1 : Int32) (f_a0_xml11 : Int32) (h0 : Heap) (n0 : Nat) (Z0 : n0 ≤ h0.size) (P_F_a0_xml11 : Fld Z h0 a0 "com/example/margay/margay/index/LineCounter" "xml11" "Z" (.int f_a0_xml11)) :
    MetFree l (⟨"com/example/margay/margay/index/LineCounter", "endsLine", "(C)Z"⟩ : MethodName) (head1 (Jvm.Cond.code (⟨"com/example/margay/margay/index/LineCounter", "endsLine", "(C)Z"⟩ : MethodName) prog_53_method_3_code 2 (some .boolean) :: ws) ({ frames := 0, cells := 0, slots := 0, locals := 0 } : Room)) (fun a U => a = #[(.ref a0), (.int p1)] ∧ Z.Warmed39 U.vm ∧ U.heap = h0) (fun _ _ _ _ _ => True) (fun _ U o U' => ∃ v L, o = .returned v ∧ Q5 Z a0 p1 f_a0_xml11 h0 n0 v U'.heap L ∧ FrameEnd U o U' L 0 0) := by
 refine MetFree.of_bodySF (plainFor_of_name pn_5) hisR ?_
 intro p e s m args below meth c s₁ Bd hml0 hP hK
 obtain ⟨rfl, hZ, hh⟩ := hP
 have hwd := fun i {d : Jvm.Cond} (h : tables_1[i]? = some d) => hw d (List.mem_of_getElem? h)
 have hx := Bd.exec
 have hby := Bd.bytes
 have hml : c.maxLocals = 2 := hml0
 have hlk : meth.locks = false := Bd.notSynchronized
 have hown : s.vm.findClass "com/example/margay/margay/index/LineCounter" = some m.cls := findClass_of_methodNamed Bd.named
 have hnm := (name_of_methodNamed Bd.named Bd.method).1
 have X0 : Stand p l e ({ frames := 0, cells := 0, slots := 0, locals := 0 } : Room) s m #[(.ref a0), (.int p1)] below meth c s₁ [] 0 0 := Stand.of_body Bd
 have e0 : s₁.heap = h0 := by rw [← hh, Bd.state]; rfl
 have N0 := Fr.nil n0
 show own_Go p e below (own_Fin s 0 0 (Q5 Z a0 p1 f_a0_xml11 h0 n0)) _
 refine own_by (fun t k => castTop (ef_5 m a0 p1) k) ?_
 show own_Go p e below _ (s₁.setTop (mkF m 0 #[vR a0, vI p1] []))
 refine own_by (fun _ k => XS.iloadN X0.here hx rfl (hb hby d5_0) rfl k) ?_
 show own_Go p e below _ (s₁.setTop (mkF m 1 #[vR a0, vI p1] [(.int p1)]))
 refine own_by (fun _ k => XS.bipush X0.here hx rfl (hb hby d5_1) k) ?_
 show own_Go p e below _ (s₁.setTop (mkF m 3 #[vR a0, vI p1] [(.int (13 : Int32)), (.int p1)]))
 by_cases c1 : p1 = (13 : Int32)
 ·skip
  refine own_by (fun _ k => XS.icmpYes X0.here hx rfl (pc0 := 3) (pc' := 33) rfl (hb hby d5_3) rfl (teq c1).1 (by decide) (by decide) k) ?_
  show own_Go p e below _ (s₁.setTop (mkF m 33 #[vR a0, vI p1] []))
  refine own_by (fun _ k => XS.iconst X0.here hx rfl (hb hby d5_33) k) ?_
  show own_Go p e below _ (s₁.setTop (mkF m 34 #[vR a0, vI p1] [(.int (1 : Int32))]))
  refine own_by (fun _ k => XS.goto X0.here hx rfl (pc0 := 34) (pc' := 38) rfl (hb hby d5_34) (by decide) (by decide) k) ?_
  show own_Go p e below _ (s₁.setTop (mkF m 38 #[vR a0, vI p1] [(.int (1 : Int32))]))
  exact own_retN X0 hx (t := .boolean) Bd.returns (by simp) (hb hby d5_38) hlk e0 ⟨_, rfl, N0, rfl, (ob_5_11 p1 f_a0_xml11 c1)⟩ (by decide) (by decide)
 ·skip
  refine own_by (fun _ k => XS.icmpNo X0.here hx rfl (hb hby d5_3) rfl (feq c1).1 k) ?_
  show own_Go p e below _ (s₁.setTop (mkF m 6 #[vR a0, vI p1] []))
  refine own_by (fun _ k => XS.iloadN X0.here hx rfl (hb hby d5_6) rfl k) ?_
  show own_Go p e below _ (s₁.setTop (mkF m 7 #[vR a0, vI p1] [(.int p1)]))
  refine own_by (fun _ k => XS.bipush X0.here hx rfl (hb hby d5_7) k) ?_
  show own_Go p e below _ (s₁.setTop (mkF m 9 #[vR a0, vI p1] [(.int (10 : Int32)), (.int p1)]))
  by_cases c2 : p1 = (10 : Int32)
  ·skip
   refine own_by (fun _ k => XS.icmpYes X0.here hx rfl (pc0 := 9) (pc' := 33) rfl (hb hby d5_9) rfl (teq c2).1 (by decide) (by decide) k) ?_
   show own_Go p e below _ (s₁.setTop (mkF m 33 #[vR a0, vI p1] []))
   refine own_by (fun _ k => XS.iconst X0.here hx rfl (hb hby d5_33) k) ?_
   show own_Go p e below _ (s₁.setTop (mkF m 34 #[vR a0, vI p1] [(.int (1 : Int32))]))
   refine own_by (fun _ k => XS.goto X0.here hx rfl (pc0 := 34) (pc' := 38) rfl (hb hby d5_34) (by decide) (by decide) k) ?_
   show own_Go p e below _ (s₁.setTop (mkF m 38 #[vR a0, vI p1] [(.int (1 : Int32))]))
   exact own_retN X0 hx (t := .boolean) Bd.returns (by simp) (hb hby d5_38) hlk e0 ⟨_, rfl, N0, rfl, (ob_5_12 p1 f_a0_xml11 c1 c2)⟩ (by decide) (by decide)
  ·skip
   refine own_by (fun _ k => XS.icmpNo X0.here hx rfl (hb hby d5_9) rfl (feq c2).1 k) ?_
   show own_Go p e below _ (s₁.setTop (mkF m 12 #[vR a0, vI p1] []))
   refine own_by (fun _ k => XS.aloadN X0.here hx rfl (hb hby d5_12) rfl rfl k) ?_
   show own_Go p e below _ (s₁.setTop (mkF m 13 #[vR a0, vI p1] [(.ref a0)]))
   obtain ⟨T3, X3, e3, st3⟩ := getF X0 hx hZ hown (host := "") (Or.inl (hwd 26 rfl)) Via.refl e0 P_F_a0_xml11 (g := (mkF m 13 #[vR a0, vI p1] [(.ref a0)])) rfl rfl (hb hby d5_13)
   refine own_by st3 ?_
   show own_Go p e below _ (T3.setTop (mkF m 16 #[vR a0, vI p1] [(.int f_a0_xml11)]))
   by_cases c4 : f_a0_xml11 = (0 : Int32)
   ·skip
    refine own_by (fun _ k => XS.ifYes X3.here hx rfl (pc0 := 16) (pc' := 37) rfl (hb hby d5_16) rfl ((if0 _ _).trans (teq c4).1) (by decide) (by decide) k) ?_
    show own_Go p e below _ (T3.setTop (mkF m 37 #[vR a0, vI p1] []))
    refine own_by (fun _ k => XS.iconst X3.here hx rfl (hb hby d5_37) k) ?_
    show own_Go p e below _ (T3.setTop (mkF m 38 #[vR a0, vI p1] [(.int (0 : Int32))]))
    exact own_retN X3 hx (t := .boolean) Bd.returns (by simp) (hb hby d5_38) hlk e3 ⟨_, rfl, N0, rfl, (ob_5_13 p1 f_a0_xml11 c1 c2 c4)⟩ (by decide) (by decide)
   ·skip
    refine own_by (fun _ k => XS.ifNo X3.here hx rfl (hb hby d5_16) rfl ((if0 _ _).trans (feq c4).1) k) ?_
    show own_Go p e below _ (T3.setTop (mkF m 19 #[vR a0, vI p1] []))
    refine own_by (fun _ k => XS.iloadN X3.here hx rfl (hb hby d5_19) rfl k) ?_
    show own_Go p e below _ (T3.setTop (mkF m 20 #[vR a0, vI p1] [(.int p1)]))
    refine own_by (fun _ k => XS.sipush X3.here hx rfl (hb hby d5_20) k) ?_
    show own_Go p e below _ (T3.setTop (mkF m 23 #[vR a0, vI p1] [(.int (133 : Int32)), (.int p1)]))
    by_cases c5 : p1 = (133 : Int32)
    ·skip
     refine own_by (fun _ k => XS.icmpYes X3.here hx rfl (pc0 := 23) (pc' := 33) rfl (hb hby d5_23) rfl (teq c5).1 (by decide) (by decide) k) ?_
     show own_Go p e below _ (T3.setTop (mkF m 33 #[vR a0, vI p1] []))
     refine own_by (fun _ k => XS.iconst X3.here hx rfl (hb hby d5_33) k) ?_
     show own_Go p e below _ (T3.setTop (mkF m 34 #[vR a0, vI p1] [(.int (1 : Int32))]))
     refine own_by (fun _ k => XS.goto X3.here hx rfl (pc0 := 34) (pc' := 38) rfl (hb hby d5_34) (by decide) (by decide) k) ?_
     show own_Go p e below _ (T3.setTop (mkF m 38 #[vR a0, vI p1] [(.int (1 : Int32))]))
     exact own_retN X3 hx (t := .boolean) Bd.returns (by simp) (hb hby d5_38) hlk e3 ⟨_, rfl, N0, rfl, (ob_5_14 p1 f_a0_xml11 c1 c2 c4 c5)⟩ (by decide) (by decide)
    ·skip
     refine own_by (fun _ k => XS.icmpNo X3.here hx rfl (hb hby d5_23) rfl (feq c5).1 k) ?_
     show own_Go p e below _ (T3.setTop (mkF m 26 #[vR a0, vI p1] []))
     refine own_by (fun _ k => XS.iloadN X3.here hx rfl (hb hby d5_26) rfl k) ?_
     show own_Go p e below _ (T3.setTop (mkF m 27 #[vR a0, vI p1] [(.int p1)]))
     refine own_by (fun _ k => XS.sipush X3.here hx rfl (hb hby d5_27) k) ?_
     show own_Go p e below _ (T3.setTop (mkF m 30 #[vR a0, vI p1] [(.int (8232 : Int32)), (.int p1)]))
     by_cases c6 : p1 = (8232 : Int32)
     ·skip
      refine own_by (fun _ k => XS.icmpNo X3.here hx rfl (hb hby d5_30) rfl (teq c6).2 k) ?_
      show own_Go p e below _ (T3.setTop (mkF m 33 #[vR a0, vI p1] []))
      refine own_by (fun _ k => XS.iconst X3.here hx rfl (hb hby d5_33) k) ?_
      show own_Go p e below _ (T3.setTop (mkF m 34 #[vR a0, vI p1] [(.int (1 : Int32))]))
      refine own_by (fun _ k => XS.goto X3.here hx rfl (pc0 := 34) (pc' := 38) rfl (hb hby d5_34) (by decide) (by decide) k) ?_
      show own_Go p e below _ (T3.setTop (mkF m 38 #[vR a0, vI p1] [(.int (1 : Int32))]))
      exact own_retN X3 hx (t := .boolean) Bd.returns (by simp) (hb hby d5_38) hlk e3 ⟨_, rfl, N0, rfl, (ob_5_15 p1 f_a0_xml11 c1 c2 c4 c5 c6)⟩ (by decide) (by decide)
     ·skip
      refine own_by (fun _ k => XS.icmpYes X3.here hx rfl (pc0 := 30) (pc' := 37) rfl (hb hby d5_30) rfl (feq c6).2 (by decide) (by decide) k) ?_
      show own_Go p e below _ (T3.setTop (mkF m 37 #[vR a0, vI p1] []))
      refine own_by (fun _ k => XS.iconst X3.here hx rfl (hb hby d5_37) k) ?_
      show own_Go p e below _ (T3.setTop (mkF m 38 #[vR a0, vI p1] [(.int (0 : Int32))]))
      exact own_retN X3 hx (t := .boolean) Bd.returns (by simp) (hb hby d5_38) hlk e3 ⟨_, rfl, N0, rfl, (ob_5_16 p1 f_a0_xml11 c1 c2 c4 c5 c6)⟩ (by decide) (by decide)
theorem pd_28 : parseMethodDescriptor "(C)Z" = some ⟨[.char], some .boolean⟩ := by decide +kernel
theorem d6_0 : decode prog_53_method_2_code 0 = .ok (.aload_n 0, 1) := by decide +kernel
theorem d6_1 : decode prog_53_method_2_code 1 = .ok (.getfield 28, 3) := by decide +kernel
theorem d6_4 : decode prog_53_method_2_code 4 = .ok (.ifCond .eq 15, 3) := by decide +kernel
theorem d6_7 : decode prog_53_method_2_code 7 = .ok (.aload_n 0, 1) := by decide +kernel
theorem d6_8 : decode prog_53_method_2_code 8 = .ok (.iload_n 1, 1) := by decide +kernel
theorem d6_9 : decode prog_53_method_2_code 9 = .ok (.invokevirtual 31, 3) := by decide +kernel
theorem d6_12 : decode prog_53_method_2_code 12 = .ok (.ifCond .eq 7, 3) := by decide +kernel
theorem d6_15 : decode prog_53_method_2_code 15 = .ok (.iconst 1, 1) := by decide +kernel
theorem d6_16 : decode prog_53_method_2_code 16 = .ok (.goto 4, 3) := by decide +kernel
theorem d6_19 : decode prog_53_method_2_code 19 = .ok (.iconst 0, 1) := by decide +kernel
theorem d6_20 : decode prog_53_method_2_code 20 = .ok (.istore_n 2, 1) := by decide +kernel
theorem d6_21 : decode prog_53_method_2_code 21 = .ok (.aload_n 0, 1) := by decide +kernel
theorem d6_22 : decode prog_53_method_2_code 22 = .ok (.iload_n 1, 1) := by decide +kernel
theorem d6_23 : decode prog_53_method_2_code 23 = .ok (.invokevirtual 35, 3) := by decide +kernel
theorem d6_26 : decode prog_53_method_2_code 26 = .ok (.ifCond .ne 16, 3) := by decide +kernel
theorem d6_29 : decode prog_53_method_2_code 29 = .ok (.aload_n 0, 1) := by decide +kernel
theorem d6_30 : decode prog_53_method_2_code 30 = .ok (.dup, 1) := by decide +kernel
theorem d6_31 : decode prog_53_method_2_code 31 = .ok (.getfield 13, 3) := by decide +kernel
theorem d6_34 : decode prog_53_method_2_code 34 = .ok (.iconst 1, 1) := by decide +kernel
theorem d6_35 : decode prog_53_method_2_code 35 = .ok (.iadd, 1) := by decide +kernel
theorem d6_36 : decode prog_53_method_2_code 36 = .ok (.putfield 13, 3) := by decide +kernel
theorem d6_39 : decode prog_53_method_2_code 39 = .ok (.goto 22, 3) := by decide +kernel
theorem d6_42 : decode prog_53_method_2_code 42 = .ok (.iload_n 2, 1) := by decide +kernel
theorem d6_43 : decode prog_53_method_2_code 43 = .ok (.ifCond .ne 18, 3) := by decide +kernel
theorem d6_46 : decode prog_53_method_2_code 46 = .ok (.aload_n 0, 1) := by decide +kernel
theorem d6_47 : decode prog_53_method_2_code 47 = .ok (.dup, 1) := by decide +kernel
theorem d6_48 : decode prog_53_method_2_code 48 = .ok (.getfield 7, 3) := by decide +kernel
theorem d6_51 : decode prog_53_method_2_code 51 = .ok (.iconst 1, 1) := by decide +kernel
theorem d6_52 : decode prog_53_method_2_code 52 = .ok (.iadd, 1) := by decide +kernel
theorem d6_53 : decode prog_53_method_2_code 53 = .ok (.putfield 7, 3) := by decide +kernel
theorem d6_56 : decode prog_53_method_2_code 56 = .ok (.aload_n 0, 1) := by decide +kernel
theorem d6_57 : decode prog_53_method_2_code 57 = .ok (.iconst 1, 1) := by decide +kernel
theorem d6_58 : decode prog_53_method_2_code 58 = .ok (.putfield 13, 3) := by decide +kernel
theorem d6_61 : decode prog_53_method_2_code 61 = .ok (.aload_n 0, 1) := by decide +kernel
theorem d6_62 : decode prog_53_method_2_code 62 = .ok (.iload_n 1, 1) := by decide +kernel
theorem d6_63 : decode prog_53_method_2_code 63 = .ok (.bipush 13, 2) := by decide +kernel
theorem d6_65 : decode prog_53_method_2_code 65 = .ok (.if_icmp .ne 7, 3) := by decide +kernel
theorem d6_68 : decode prog_53_method_2_code 68 = .ok (.iconst 1, 1) := by decide +kernel
theorem d6_69 : decode prog_53_method_2_code 69 = .ok (.goto 4, 3) := by decide +kernel
theorem d6_72 : decode prog_53_method_2_code 72 = .ok (.iconst 0, 1) := by decide +kernel
theorem d6_73 : decode prog_53_method_2_code 73 = .ok (.putfield 28, 3) := by decide +kernel
theorem d6_76 : decode prog_53_method_2_code 76 = .ok (.return_, 1) := by decide +kernel
theorem pn_6 : plainName "com/example/margay/margay/index/LineCounter" = true := by first | (simp [plainName, overriddenIn]; done) | decide +kernel
theorem ef_6 (m : MethodId) (a0 : Addr) (p1 : Int32) : entryFrame m #[(.ref a0), (.int p1)] 3 = mkF m 0 #[vR a0, vI p1, .unset] [] := by first | (simp [entryFrame, mkF, argsToLocals, Value.category]; done) | rfl
theorem ob_6_17 (p1 : Int32) (f_a0_afterCarriageReturn : Int32) (f_a0_xml11 : Int32) (f_a0_column : Int32) (f_a0_line : Int32) (z13 : Int32) (o16 : Int32) (z34 : Int32) (z35 : Int32) (z51 : Int32) (hj14 : ((f_a0_afterCarriageReturn = (0 : Int32)) ∧ z13 = (0 : Int32)) ∨ (∃ (o4 : Int32), (¬ (f_a0_afterCarriageReturn = (0 : Int32))) ∧ (own_is (own_join p1 f_a0_xml11) o4) ∧ (o4 = (0 : Int32)) ∧ z13 = (0 : Int32)) ∨ (∃ (o4 : Int32), (¬ (f_a0_afterCarriageReturn = (0 : Int32))) ∧ (own_is (own_join p1 f_a0_xml11) o4) ∧ (¬ (o4 = (0 : Int32))) ∧ z13 = (1 : Int32))) (hp17 : own_is (own_ends p1 f_a0_xml11) o16) (hj43 : ((o16 = (0 : Int32)) ∧ z34 = (f_a0_column + (1 : Int32)) ∧ z35 = f_a0_line) ∨ ((¬ (o16 = (0 : Int32))) ∧ (z13 = (0 : Int32)) ∧ z34 = (1 : Int32) ∧ z35 = (f_a0_line + (1 : Int32))) ∨ ((¬ (o16 = (0 : Int32))) ∧ (¬ (z13 = (0 : Int32))) ∧ z34 = f_a0_column ∧ z35 = f_a0_line)) (hj52 : ((p1 = (13 : Int32)) ∧ z51 = (1 : Int32)) ∨ ((¬ (p1 = (13 : Int32))) ∧ z51 = (0 : Int32))) : own_cnt p1 f_a0_afterCarriageReturn f_a0_xml11 f_a0_column f_a0_line (nar .boolean z51) z34 z35 := by
  simp only [own_is, own_cnt, own_is] at *
  have n0 : nar .boolean (0 : Int32) = 0 := rfl
  have n1 : nar .boolean (1 : Int32) = 1 := rfl
  grind
def Q6 (Z : State) (a0 : Addr) (p1 : Int32) (f_a0_afterCarriageReturn : Int32) (f_a0_xml11 : Int32) (f_a0_column : Int32) (f_a0_line : Int32) (h0 : Heap) (n0 : Nat) (v : Option Value) (h : Heap) (L : List Loc) : Prop := ∃ (z5001 : Int32) (z5002 : Int32) (z5003 : Int32), v = none ∧ Fr n0 L ∧ Keep h0 h [a0] ∧ Fld Z h a0 "com/example/margay/margay/index/LineCounter" "afterCarriageReturn" "Z" (.int z5001) ∧ Fld Z h a0 "com/example/margay/margay/index/LineCounter" "xml11" "Z" (.int f_a0_xml11) ∧ Exa Z h a0 "com/example/margay/margay/index/LineCounter" ∧ Fld Z h a0 "com/example/margay/margay/index/LineCounter" "column" "I" (.int z5002) ∧ Fld Z h a0 "com/example/margay/margay/index/LineCounter" "line" "I" (.int z5003) ∧ (own_cnt p1 f_a0_afterCarriageReturn f_a0_xml11 f_a0_column f_a0_line z5001 z5002 z5003)
set_option maxRecDepth 65536 in
set_option maxHeartbeats 40000000 in
theorem rm6 (l : Launch) (Z : State) (A0 : Array Value) (hw : ∀ d ∈ tables_1, d.before A0 Z = true) (ws : List Jvm.Cond) (a0 : Addr) (p1 : Int32) (f_a0_afterCarriageReturn : Int32) (f_a0_xml11 : Int32) (f_a0_column : Int32) (f_a0_line : Int32) (h0 : Heap) (n0 : Nat) (Z0 : n0 ≤ h0.size) (P_F_a0_afterCarriageReturn : Fld Z h0 a0 "com/example/margay/margay/index/LineCounter" "afterCarriageReturn" "Z" (.int f_a0_afterCarriageReturn)) (P_F_a0_xml11 : Fld Z h0 a0 "com/example/margay/margay/index/LineCounter" "xml11" "Z" (.int f_a0_xml11)) (P_E_a0 : Exa Z h0 a0 "com/example/margay/margay/index/LineCounter") (P_F_a0_column : Fld Z h0 a0 "com/example/margay/margay/index/LineCounter" "column" "I" (.int f_a0_column)) (g_a0 : n0 ≤ a0) (P_F_a0_line : Fld Z h0 a0 "com/example/margay/margay/index/LineCounter" "line" "I" (.int f_a0_line)) :
    MetFree l (⟨"com/example/margay/margay/index/LineCounter", "count", "(C)V"⟩ : MethodName) (head1 (Jvm.Cond.code (⟨"com/example/margay/margay/index/LineCounter", "count", "(C)V"⟩ : MethodName) prog_53_method_2_code 3 none :: ws) ({ frames := 1, cells := 0, slots := 0, locals := 13 } : Room)) (fun a U => a = #[(.ref a0), (.int p1)] ∧ Z.Warmed39 U.vm ∧ U.heap = h0) (fun _ _ _ _ _ => True) (fun _ U o U' => ∃ v L, o = .returned v ∧ Q6 Z a0 p1 f_a0_afterCarriageReturn f_a0_xml11 f_a0_column f_a0_line h0 n0 v U'.heap L ∧ FrameEnd U o U' L 0 0) := by
 refine MetFree.of_bodySF (plainFor_of_name pn_6) hisR ?_
 intro p e s m args below meth c s₁ Bd hml0 hP hK
 obtain ⟨rfl, hZ, hh⟩ := hP
 have hwd := fun i {d : Jvm.Cond} (h : tables_1[i]? = some d) => hw d (List.mem_of_getElem? h)
 have hx := Bd.exec
 have hby := Bd.bytes
 have hml : c.maxLocals = 3 := hml0
 have hlk : meth.locks = false := Bd.notSynchronized
 have hown : s.vm.findClass "com/example/margay/margay/index/LineCounter" = some m.cls := findClass_of_methodNamed Bd.named
 have hnm := (name_of_methodNamed Bd.named Bd.method).1
 have X0 : Stand p l e ({ frames := 1, cells := 0, slots := 0, locals := 13 } : Room) s m #[(.ref a0), (.int p1)] below meth c s₁ [] 0 0 := Stand.of_body Bd
 have e0 : s₁.heap = h0 := by rw [← hh, Bd.state]; rfl
 have N0 := Fr.nil n0
 show own_Go p e below (own_Fin s 0 0 (Q6 Z a0 p1 f_a0_afterCarriageReturn f_a0_xml11 f_a0_column f_a0_line h0 n0)) _
 refine own_by (fun t k => castTop (ef_6 m a0 p1) k) ?_
 show own_Go p e below _ (s₁.setTop (mkF m 0 #[vR a0, vI p1, .unset] []))
 refine own_by (fun _ k => XS.aloadN X0.here hx rfl (hb hby d6_0) rfl rfl k) ?_
 show own_Go p e below _ (s₁.setTop (mkF m 1 #[vR a0, vI p1, .unset] [(.ref a0)]))
 obtain ⟨T1, X1, e1, st1⟩ := getF X0 hx hZ hown (host := "") (Or.inl (hwd 43 rfl)) Via.refl e0 P_F_a0_afterCarriageReturn (g := (mkF m 1 #[vR a0, vI p1, .unset] [(.ref a0)])) rfl rfl (hb hby d6_1)
 refine own_by st1 ?_
 show own_Go p e below _ (T1.setTop (mkF m 4 #[vR a0, vI p1, .unset] [(.int f_a0_afterCarriageReturn)]))
 have J7 : ∀ (T8 : State) (L9 : List Loc) (z13 : Int32), Stand p l e ({ frames := 1, cells := 0, slots := 0, locals := 13 } : Room) s m #[(.ref a0), (.int p1)] below meth c T8 L9 0 0 → T8.heap = h0 → Fr n0 L9 → (((f_a0_afterCarriageReturn = (0 : Int32)) ∧ z13 = (0 : Int32)) ∨ (∃ (o4 : Int32), (¬ (f_a0_afterCarriageReturn = (0 : Int32))) ∧ (own_is (own_join p1 f_a0_xml11) o4) ∧ (o4 = (0 : Int32)) ∧ z13 = (0 : Int32)) ∨ (∃ (o4 : Int32), (¬ (f_a0_afterCarriageReturn = (0 : Int32))) ∧ (own_is (own_join p1 f_a0_xml11) o4) ∧ (¬ (o4 = (0 : Int32))) ∧ z13 = (1 : Int32))) → own_Go p e below (own_Fin s 0 0 (Q6 Z a0 p1 f_a0_afterCarriageReturn f_a0_xml11 f_a0_column f_a0_line h0 n0)) (T8.setTop (mkF m 20 #[vR a0, vI p1, .unset] [(.int z13)])) := by
  intro T8 L9 z13 X10 e11 N12 hj14
  refine own_by (fun _ k => XS.istoreN X10.here hx rfl (hb hby d6_20) rfl (l' := #[vR a0, vI p1, vI z13]) rfl k) ?_
  show own_Go p e below _ (T8.setTop (mkF m 21 #[vR a0, vI p1, vI z13] []))
  refine own_by (fun _ k => XS.aloadN X10.here hx rfl (hb hby d6_21) rfl rfl k) ?_
  show own_Go p e below _ (T8.setTop (mkF m 22 #[vR a0, vI p1, vI z13] [(.ref a0)]))
  refine own_by (fun _ k => XS.iloadN X10.here hx rfl (hb hby d6_22) rfl k) ?_
  show own_Go p e below _ (T8.setTop (mkF m 23 #[vR a0, vI p1, vI z13] [(.int p1), (.ref a0)]))
  obtain ⟨cq15, kq15, qq15a, qq15b, qq15c⟩ := isOf hZ e11 P_E_a0
  obtain ⟨_, _, ⟨T15, L15, k15, n15⟩, -, X15, ⟨Lc15, hQ15, l15, y15, z15⟩, st15⟩ := X10.virtualBack hx (y := (⟨"com/example/margay/margay/index/LineCounter", "endsLine", "(C)Z"⟩ : MethodName)) (z := (⟨"com/example/margay/margay/index/LineCounter", "endsLine", "(C)Z"⟩ : MethodName)) hown (mvT hZ (hwd 45 rfl)) (mvT hZ (hwd 34 rfl)) (notFace_of_selects (args := #[]) (mvT hZ (hwd 36 rfl))) (mvT hZ (hwd 36 rfl)) (mvT hZ (hwd 35 rfl)) (by decide) (backOf (W := 0) (rm5 l Z A0 hw [] a0 p1 f_a0_xml11 h0 n0 Z0 P_F_a0_xml11) hZ (hwd 37 rfl) (hwd 2 rfl) (by decide) (by decide)) qq15a qq15c (g := (mkF m 23 #[vR a0, vI p1, vI z13] [(.int p1), (.ref a0)])) rfl (by rw [hml]; rfl) (Steps.refl _) (argsL := [(.int p1)]) (rest := []) (lenOf pd_28 rfl) rfl (by show 2 * 0 + _ ≤ _; exact Nat.le_of_eq rfl) (hb hby d6_23) (fun _ _ => ⟨rfl, e11, (by decide : 0 + 0 ≤ _), (by decide : 0 + 0 ≤ _)⟩)
  dsimp only [Pt.U, Pt.locs, Pt.cells, Pt.slots] at X15 l15 y15 z15 st15 hQ15
  subst l15 y15 z15
  obtain ⟨o16, rfl, Nq15, eq15, hp17⟩ := hQ15
  have N15 := Fr.app N12 Nq15
  refine own_by (fun _ k => st15.trans k) ?_
  show own_Go p e below _ (T15.setTop (mkF m 26 #[vR a0, vI p1, vI z13] [(.int o16)]))
  have J27 : ∀ (T28 : State) (L29 : List Loc) (h33 : Heap) (z34 : Int32) (z35 : Int32), Stand p l e ({ frames := 1, cells := 0, slots := 0, locals := 13 } : Room) s m #[(.ref a0), (.int p1)] below meth c T28 L29 0 0 → T28.heap = h33 → Fr n0 L29 → Keep h0 h33 [a0] → n0 ≤ h33.size → Fld Z h33 a0 "com/example/margay/margay/index/LineCounter" "afterCarriageReturn" "Z" (.int f_a0_afterCarriageReturn) → Fld Z h33 a0 "com/example/margay/margay/index/LineCounter" "xml11" "Z" (.int f_a0_xml11) → Exa Z h33 a0 "com/example/margay/margay/index/LineCounter" → Fld Z h33 a0 "com/example/margay/margay/index/LineCounter" "column" "I" (.int z34) → Fld Z h33 a0 "com/example/margay/margay/index/LineCounter" "line" "I" (.int z35) → (((o16 = (0 : Int32)) ∧ z34 = (f_a0_column + (1 : Int32)) ∧ z35 = f_a0_line) ∨ ((¬ (o16 = (0 : Int32))) ∧ (z13 = (0 : Int32)) ∧ z34 = (1 : Int32) ∧ z35 = (f_a0_line + (1 : Int32))) ∨ ((¬ (o16 = (0 : Int32))) ∧ (¬ (z13 = (0 : Int32))) ∧ z34 = f_a0_column ∧ z35 = f_a0_line)) → own_Go p e below (own_Fin s 0 0 (Q6 Z a0 p1 f_a0_afterCarriageReturn f_a0_xml11 f_a0_column f_a0_line h0 n0)) (T28.setTop (mkF m 61 #[vR a0, vI p1, vI z13] [])) := by
   intro T28 L29 h33 z34 z35 X30 e31 N32 K36 Z37 F38 F39 F40 F41 F42 hj43
   refine own_by (fun _ k => XS.aloadN X30.here hx rfl (hb hby d6_61) rfl rfl k) ?_
   show own_Go p e below _ (T28.setTop (mkF m 62 #[vR a0, vI p1, vI z13] [(.ref a0)]))
   refine own_by (fun _ k => XS.iloadN X30.here hx rfl (hb hby d6_62) rfl k) ?_
   show own_Go p e below _ (T28.setTop (mkF m 63 #[vR a0, vI p1, vI z13] [(.int p1), (.ref a0)]))
   refine own_by (fun _ k => XS.bipush X30.here hx rfl (hb hby d6_63) k) ?_
   show own_Go p e below _ (T28.setTop (mkF m 65 #[vR a0, vI p1, vI z13] [(.int (13 : Int32)), (.int p1), (.ref a0)]))
   have J45 : ∀ (T46 : State) (L47 : List Loc) (z51 : Int32), Stand p l e ({ frames := 1, cells := 0, slots := 0, locals := 13 } : Room) s m #[(.ref a0), (.int p1)] below meth c T46 L47 0 0 → T46.heap = h33 → Fr n0 L47 → (((p1 = (13 : Int32)) ∧ z51 = (1 : Int32)) ∨ ((¬ (p1 = (13 : Int32))) ∧ z51 = (0 : Int32))) → own_Go p e below (own_Fin s 0 0 (Q6 Z a0 p1 f_a0_afterCarriageReturn f_a0_xml11 f_a0_column f_a0_line h0 n0)) (T46.setTop (mkF m 73 #[vR a0, vI p1, vI z13] [(.int z51), (.ref a0)])) := by
    intro T46 L47 z51 X48 e49 N50 hj52
    obtain ⟨T53, h53, X53, e53, W53, st53⟩ := putFN X48 hx hZ hown (hwd 43 rfl) Via.refl e49 F38 F40 (Or.inl (hwd 44 rfl)) (hwd 1 rfl) (ty := .boolean) (v' := (.int (nar .boolean z51))) (by decide) rfl (fits_nar_bool _) (g := (mkF m 73 #[vR a0, vI p1, vI z13] [(.int z51), (.ref a0)])) rfl rfl (hb hby d6_73)
    have Fw53 : Fld Z h53 a0 "com/example/margay/margay/index/LineCounter" "afterCarriageReturn" "Z" (.int (nar .boolean z51)) := F38.same W53
    have K53 : Keep h0 h53 [a0] := K36.wr W53 (Or.inl (List.mem_of_getElem? (i := 0) rfl))
    have Z53 : n0 ≤ h53.size := Nat.le_trans Z37 (Keep.of_wr W53).1
    have N53 := Fr.snoc X53 N50 g_a0
    refine own_by st53 ?_
    show own_Go p e below _ (T53.setTop (mkF m 76 #[vR a0, vI p1, vI z13] []))
    have F54 : Fld Z h53 a0 "com/example/margay/margay/index/LineCounter" "xml11" "Z" (.int f_a0_xml11) := (F39.other W53 (Or.inr (slot_ne (Or.inr (hwd 27 rfl)) (Or.inl (hwd 44 rfl)) (by decide) (t := .boolean) (t' := .boolean) (by decide) (by decide))))
    have F55 : Exa Z h53 a0 "com/example/margay/margay/index/LineCounter" := (F40.wr W53)
    have F56 : Fld Z h53 a0 "com/example/margay/margay/index/LineCounter" "column" "I" (.int z34) := (F41.other W53 (Or.inr (slot_ne (Or.inl (hwd 12 rfl)) (Or.inl (hwd 44 rfl)) (by decide) (t := .int) (t' := .boolean) (by decide) (by decide))))
    have F57 : Fld Z h53 a0 "com/example/margay/margay/index/LineCounter" "line" "I" (.int z35) := (F42.other W53 (Or.inr (slot_ne (Or.inl (hwd 10 rfl)) (Or.inl (hwd 44 rfl)) (by decide) (t := .int) (t' := .boolean) (by decide) (by decide))))
    exact own_ret0 X53 hx Bd.returns (hb hby d6_76) hlk e53 ⟨(nar .boolean z51), z34, z35, rfl, N53, K53, Fw53, F54, F55, F56, F57, (ob_6_17 p1 f_a0_afterCarriageReturn f_a0_xml11 f_a0_column f_a0_line z13 o16 z34 z35 z51 hj14 hp17 hj43 hj52)⟩ (by decide) (by decide)
   by_cases c44 : p1 = (13 : Int32)
   ·skip
    refine own_by (fun _ k => XS.icmpNo X30.here hx rfl (hb hby d6_65) rfl (teq c44).2 k) ?_
    show own_Go p e below _ (T28.setTop (mkF m 68 #[vR a0, vI p1, vI z13] [(.ref a0)]))
    refine own_by (fun _ k => XS.iconst X30.here hx rfl (hb hby d6_68) k) ?_
    show own_Go p e below _ (T28.setTop (mkF m 69 #[vR a0, vI p1, vI z13] [(.int (1 : Int32)), (.ref a0)]))
    refine own_by (fun _ k => XS.goto X30.here hx rfl (pc0 := 69) (pc' := 73) rfl (hb hby d6_69) (by decide) (by decide) k) ?_
    show own_Go p e below _ (T28.setTop (mkF m 73 #[vR a0, vI p1, vI z13] [(.int (1 : Int32)), (.ref a0)]))
    exact J45 _ _ (1 : Int32) X30 e31 N32 (Or.inl ⟨c44, rfl⟩)
   ·skip
    refine own_by (fun _ k => XS.icmpYes X30.here hx rfl (pc0 := 65) (pc' := 72) rfl (hb hby d6_65) rfl (feq c44).2 (by decide) (by decide) k) ?_
    show own_Go p e below _ (T28.setTop (mkF m 72 #[vR a0, vI p1, vI z13] [(.ref a0)]))
    refine own_by (fun _ k => XS.iconst X30.here hx rfl (hb hby d6_72) k) ?_
    show own_Go p e below _ (T28.setTop (mkF m 73 #[vR a0, vI p1, vI z13] [(.int (0 : Int32)), (.ref a0)]))
    exact J45 _ _ (0 : Int32) X30 e31 N32 (Or.inr (⟨c44, rfl⟩))
  by_cases c18 : o16 = (0 : Int32)
  ·skip
   refine own_by (fun _ k => XS.ifNo X15.here hx rfl (hb hby d6_26) rfl ((if0 _ _).trans (teq c18).2) k) ?_
   show own_Go p e below _ (T15.setTop (mkF m 29 #[vR a0, vI p1, vI z13] []))
   refine own_by (fun _ k => XS.aloadN X15.here hx rfl (hb hby d6_29) rfl rfl k) ?_
   show own_Go p e below _ (T15.setTop (mkF m 30 #[vR a0, vI p1, vI z13] [(.ref a0)]))
   refine own_by (fun _ k => XS.dup X15.here hx rfl (hb hby d6_30) rfl rfl k) ?_
   show own_Go p e below _ (T15.setTop (mkF m 31 #[vR a0, vI p1, vI z13] [(.ref a0), (.ref a0)]))
   obtain ⟨T19, X19, e19, st19⟩ := getF X15 hx hZ hown (host := "") (Or.inl (hwd 11 rfl)) Via.refl eq15 P_F_a0_column (g := (mkF m 31 #[vR a0, vI p1, vI z13] [(.ref a0), (.ref a0)])) rfl rfl (hb hby d6_31)
   refine own_by st19 ?_
   show own_Go p e below _ (T19.setTop (mkF m 34 #[vR a0, vI p1, vI z13] [(.int f_a0_column), (.ref a0)]))
   refine own_by (fun _ k => XS.iconst X19.here hx rfl (hb hby d6_34) k) ?_
   show own_Go p e below _ (T19.setTop (mkF m 35 #[vR a0, vI p1, vI z13] [(.int (1 : Int32)), (.int f_a0_column), (.ref a0)]))
   refine own_by (fun _ k => XS.iadd X19.here hx rfl (hb hby d6_35) rfl k) ?_
   show own_Go p e below _ (T19.setTop (mkF m 36 #[vR a0, vI p1, vI z13] [(.int (f_a0_column + (1 : Int32))), (.ref a0)]))
   obtain ⟨T20, h20, X20, e20, W20, st20⟩ := putF X19 hx hZ hown (host := "") (Or.inl (hwd 11 rfl)) Via.refl e19 P_F_a0_column P_E_a0 (Or.inl (hwd 12 rfl)) (hwd 1 rfl) (ty := .int) (by decide) rfl rfl (g := (mkF m 36 #[vR a0, vI p1, vI z13] [(.int (f_a0_column + (1 : Int32))), (.ref a0)])) rfl rfl (hb hby d6_36)
   have Fw20 : Fld Z h20 a0 "com/example/margay/margay/index/LineCounter" "column" "I" (.int (f_a0_column + (1 : Int32))) := P_F_a0_column.same W20
   have K20 : Keep h0 h20 [a0] := (Keep.refl h0 [a0]).wr W20 (Or.inl (List.mem_of_getElem? (i := 0) rfl))
   have Z20 : n0 ≤ h20.size := Nat.le_trans Z0 (Keep.of_wr W20).1
   have N20 := Fr.snoc X20 N15 g_a0
   refine own_by st20 ?_
   show own_Go p e below _ (T20.setTop (mkF m 39 #[vR a0, vI p1, vI z13] []))
   refine own_by (fun _ k => XS.goto X20.here hx rfl (pc0 := 39) (pc' := 61) rfl (hb hby d6_39) (by decide) (by decide) k) ?_
   show own_Go p e below _ (T20.setTop (mkF m 61 #[vR a0, vI p1, vI z13] []))
   have F21 : Fld Z h20 a0 "com/example/margay/margay/index/LineCounter" "afterCarriageReturn" "Z" (.int f_a0_afterCarriageReturn) := (P_F_a0_afterCarriageReturn.other W20 (Or.inr (slot_ne (Or.inl (hwd 44 rfl)) (Or.inl (hwd 12 rfl)) (by decide) (t := .boolean) (t' := .int) (by decide) (by decide))))
   have F22 : Fld Z h20 a0 "com/example/margay/margay/index/LineCounter" "xml11" "Z" (.int f_a0_xml11) := (P_F_a0_xml11.other W20 (Or.inr (slot_ne (Or.inr (hwd 27 rfl)) (Or.inl (hwd 12 rfl)) (by decide) (t := .boolean) (t' := .int) (by decide) (by decide))))
   have F23 : Exa Z h20 a0 "com/example/margay/margay/index/LineCounter" := (P_E_a0.wr W20)
   have F24 : Fld Z h20 a0 "com/example/margay/margay/index/LineCounter" "line" "I" (.int f_a0_line) := (P_F_a0_line.other W20 (Or.inr (slot_ne (Or.inl (hwd 10 rfl)) (Or.inl (hwd 12 rfl)) (by decide) (t := .int) (t' := .int) (by decide) (by decide))))
   exact J27 _ _ _ ((f_a0_column + (1 : Int32))) f_a0_line X20 e20 N20 K20 Z20 F21 F22 F23 Fw20 F24 (Or.inl ⟨c18, rfl, rfl⟩)
  ·skip
   refine own_by (fun _ k => XS.ifYes X15.here hx rfl (pc0 := 26) (pc' := 42) rfl (hb hby d6_26) rfl ((if0 _ _).trans (feq c18).2) (by decide) (by decide) k) ?_
   show own_Go p e below _ (T15.setTop (mkF m 42 #[vR a0, vI p1, vI z13] []))
   refine own_by (fun _ k => XS.iloadN X15.here hx rfl (hb hby d6_42) rfl k) ?_
   show own_Go p e below _ (T15.setTop (mkF m 43 #[vR a0, vI p1, vI z13] [(.int z13)]))
   by_cases c21 : z13 = (0 : Int32)
   ·skip
    refine own_by (fun _ k => XS.ifNo X15.here hx rfl (hb hby d6_43) rfl ((if0 _ _).trans (teq c21).2) k) ?_
    show own_Go p e below _ (T15.setTop (mkF m 46 #[vR a0, vI p1, vI z13] []))
    refine own_by (fun _ k => XS.aloadN X15.here hx rfl (hb hby d6_46) rfl rfl k) ?_
    show own_Go p e below _ (T15.setTop (mkF m 47 #[vR a0, vI p1, vI z13] [(.ref a0)]))
    refine own_by (fun _ k => XS.dup X15.here hx rfl (hb hby d6_47) rfl rfl k) ?_
    show own_Go p e below _ (T15.setTop (mkF m 48 #[vR a0, vI p1, vI z13] [(.ref a0), (.ref a0)]))
    obtain ⟨T22, X22, e22, st22⟩ := getF X15 hx hZ hown (host := "") (Or.inl (hwd 9 rfl)) Via.refl eq15 P_F_a0_line (g := (mkF m 48 #[vR a0, vI p1, vI z13] [(.ref a0), (.ref a0)])) rfl rfl (hb hby d6_48)
    refine own_by st22 ?_
    show own_Go p e below _ (T22.setTop (mkF m 51 #[vR a0, vI p1, vI z13] [(.int f_a0_line), (.ref a0)]))
    refine own_by (fun _ k => XS.iconst X22.here hx rfl (hb hby d6_51) k) ?_
    show own_Go p e below _ (T22.setTop (mkF m 52 #[vR a0, vI p1, vI z13] [(.int (1 : Int32)), (.int f_a0_line), (.ref a0)]))
    refine own_by (fun _ k => XS.iadd X22.here hx rfl (hb hby d6_52) rfl k) ?_
    show own_Go p e below _ (T22.setTop (mkF m 53 #[vR a0, vI p1, vI z13] [(.int (f_a0_line + (1 : Int32))), (.ref a0)]))
    obtain ⟨T23, h23, X23, e23, W23, st23⟩ := putF X22 hx hZ hown (host := "") (Or.inl (hwd 9 rfl)) Via.refl e22 P_F_a0_line P_E_a0 (Or.inl (hwd 10 rfl)) (hwd 1 rfl) (ty := .int) (by decide) rfl rfl (g := (mkF m 53 #[vR a0, vI p1, vI z13] [(.int (f_a0_line + (1 : Int32))), (.ref a0)])) rfl rfl (hb hby d6_53)
    have Fw23 : Fld Z h23 a0 "com/example/margay/margay/index/LineCounter" "line" "I" (.int (f_a0_line + (1 : Int32))) := P_F_a0_line.same W23
    have K23 : Keep h0 h23 [a0] := (Keep.refl h0 [a0]).wr W23 (Or.inl (List.mem_of_getElem? (i := 0) rfl))
    have Z23 : n0 ≤ h23.size := Nat.le_trans Z0 (Keep.of_wr W23).1
    have N23 := Fr.snoc X23 N15 g_a0
    refine own_by st23 ?_
    show own_Go p e below _ (T23.setTop (mkF m 56 #[vR a0, vI p1, vI z13] []))
    refine own_by (fun _ k => XS.aloadN X23.here hx rfl (hb hby d6_56) rfl rfl k) ?_
    show own_Go p e below _ (T23.setTop (mkF m 57 #[vR a0, vI p1, vI z13] [(.ref a0)]))
    refine own_by (fun _ k => XS.iconst X23.here hx rfl (hb hby d6_57) k) ?_
    show own_Go p e below _ (T23.setTop (mkF m 58 #[vR a0, vI p1, vI z13] [(.int (1 : Int32)), (.ref a0)]))
    have F24 : Exa Z h23 a0 "com/example/margay/margay/index/LineCounter" := (P_E_a0.wr W23)
    have F25 : Fld Z h23 a0 "com/example/margay/margay/index/LineCounter" "column" "I" (.int f_a0_column) := (P_F_a0_column.other W23 (Or.inr (slot_ne (Or.inl (hwd 12 rfl)) (Or.inl (hwd 10 rfl)) (by decide) (t := .int) (t' := .int) (by decide) (by decide))))
    obtain ⟨T26, h26, X26, e26, W26, st26⟩ := putF X23 hx hZ hown (host := "") (Or.inl (hwd 11 rfl)) Via.refl e23 F25 F24 (Or.inl (hwd 12 rfl)) (hwd 1 rfl) (ty := .int) (by decide) rfl rfl (g := (mkF m 58 #[vR a0, vI p1, vI z13] [(.int (1 : Int32)), (.ref a0)])) rfl rfl (hb hby d6_58)
    have Fw26 : Fld Z h26 a0 "com/example/margay/margay/index/LineCounter" "column" "I" (.int (1 : Int32)) := F25.same W26
    have K26 : Keep h0 h26 [a0] := K23.wr W26 (Or.inl (List.mem_of_getElem? (i := 0) rfl))
    have Z26 : n0 ≤ h26.size := Nat.le_trans Z23 (Keep.of_wr W26).1
    have N26 := Fr.snoc X26 N23 g_a0
    refine own_by st26 ?_
    show own_Go p e below _ (T26.setTop (mkF m 61 #[vR a0, vI p1, vI z13] []))
    have F27 : Fld Z h26 a0 "com/example/margay/margay/index/LineCounter" "afterCarriageReturn" "Z" (.int f_a0_afterCarriageReturn) := ((P_F_a0_afterCarriageReturn.other W23 (Or.inr (slot_ne (Or.inl (hwd 44 rfl)) (Or.inl (hwd 10 rfl)) (by decide) (t := .boolean) (t' := .int) (by decide) (by decide)))).other W26 (Or.inr (slot_ne (Or.inl (hwd 44 rfl)) (Or.inl (hwd 12 rfl)) (by decide) (t := .boolean) (t' := .int) (by decide) (by decide))))
    have F28 : Fld Z h26 a0 "com/example/margay/margay/index/LineCounter" "xml11" "Z" (.int f_a0_xml11) := ((P_F_a0_xml11.other W23 (Or.inr (slot_ne (Or.inr (hwd 27 rfl)) (Or.inl (hwd 10 rfl)) (by decide) (t := .boolean) (t' := .int) (by decide) (by decide)))).other W26 (Or.inr (slot_ne (Or.inr (hwd 27 rfl)) (Or.inl (hwd 12 rfl)) (by decide) (t := .boolean) (t' := .int) (by decide) (by decide))))
    have F29 : Exa Z h26 a0 "com/example/margay/margay/index/LineCounter" := (F24.wr W26)
    have F30 : Fld Z h26 a0 "com/example/margay/margay/index/LineCounter" "line" "I" (.int (f_a0_line + (1 : Int32))) := (Fw23.other W26 (Or.inr (slot_ne (Or.inl (hwd 10 rfl)) (Or.inl (hwd 12 rfl)) (by decide) (t := .int) (t' := .int) (by decide) (by decide))))
    exact J27 _ _ _ (1 : Int32) ((f_a0_line + (1 : Int32))) X26 e26 N26 K26 Z26 F27 F28 F29 Fw26 F30 (Or.inr (Or.inl ⟨c18, c21, rfl, rfl⟩))
   ·skip
    refine own_by (fun _ k => XS.ifYes X15.here hx rfl (pc0 := 43) (pc' := 61) rfl (hb hby d6_43) rfl ((if0 _ _).trans (feq c21).2) (by decide) (by decide) k) ?_
    show own_Go p e below _ (T15.setTop (mkF m 61 #[vR a0, vI p1, vI z13] []))
    exact J27 _ _ _ f_a0_column f_a0_line X15 eq15 N15 (Keep.refl h0 [a0]) Z0 P_F_a0_afterCarriageReturn P_F_a0_xml11 P_E_a0 P_F_a0_column P_F_a0_line (Or.inr (Or.inr (⟨c18, c21, rfl, rfl⟩)))
 by_cases c2 : f_a0_afterCarriageReturn = (0 : Int32)
 ·skip
  refine own_by (fun _ k => XS.ifYes X1.here hx rfl (pc0 := 4) (pc' := 19) rfl (hb hby d6_4) rfl ((if0 _ _).trans (teq c2).1) (by decide) (by decide) k) ?_
  show own_Go p e below _ (T1.setTop (mkF m 19 #[vR a0, vI p1, .unset] []))
  refine own_by (fun _ k => XS.iconst X1.here hx rfl (hb hby d6_19) k) ?_
  show own_Go p e below _ (T1.setTop (mkF m 20 #[vR a0, vI p1, .unset] [(.int (0 : Int32))]))
  exact J7 _ _ (0 : Int32) X1 e1 N0 (Or.inl ⟨c2, rfl⟩)
 ·skip
  refine own_by (fun _ k => XS.ifNo X1.here hx rfl (hb hby d6_4) rfl ((if0 _ _).trans (feq c2).1) k) ?_
  show own_Go p e below _ (T1.setTop (mkF m 7 #[vR a0, vI p1, .unset] []))
  refine own_by (fun _ k => XS.aloadN X1.here hx rfl (hb hby d6_7) rfl rfl k) ?_
  show own_Go p e below _ (T1.setTop (mkF m 8 #[vR a0, vI p1, .unset] [(.ref a0)]))
  refine own_by (fun _ k => XS.iloadN X1.here hx rfl (hb hby d6_8) rfl k) ?_
  show own_Go p e below _ (T1.setTop (mkF m 9 #[vR a0, vI p1, .unset] [(.int p1), (.ref a0)]))
  obtain ⟨cq3, kq3, qq3a, qq3b, qq3c⟩ := isOf hZ e1 P_E_a0
  obtain ⟨_, _, ⟨T3, L3, k3, n3⟩, -, X3, ⟨Lc3, hQ3, l3, y3, z3⟩, st3⟩ := X1.virtualBack hx (y := (⟨"com/example/margay/margay/index/LineCounter", "endsLineWithCarriageReturn", "(C)Z"⟩ : MethodName)) (z := (⟨"com/example/margay/margay/index/LineCounter", "endsLineWithCarriageReturn", "(C)Z"⟩ : MethodName)) hown (mvT hZ (hwd 46 rfl)) (mvT hZ (hwd 29 rfl)) (notFace_of_selects (args := #[]) (mvT hZ (hwd 31 rfl))) (mvT hZ (hwd 31 rfl)) (mvT hZ (hwd 30 rfl)) (by decide) (backOf (W := 0) (rm4 l Z A0 hw [] a0 p1 f_a0_xml11 h0 n0 Z0 P_F_a0_xml11) hZ (hwd 32 rfl) (hwd 2 rfl) (by decide) (by decide)) qq3a qq3c (g := (mkF m 9 #[vR a0, vI p1, .unset] [(.int p1), (.ref a0)])) rfl (by rw [hml]; rfl) (Steps.refl _) (argsL := [(.int p1)]) (rest := []) (lenOf pd_28 rfl) rfl (by show 2 * 0 + _ ≤ _; exact Nat.le_of_eq rfl) (hb hby d6_9) (fun _ _ => ⟨rfl, e1, (by decide : 0 + 0 ≤ _), (by decide : 0 + 0 ≤ _)⟩)
  dsimp only [Pt.U, Pt.locs, Pt.cells, Pt.slots] at X3 l3 y3 z3 st3 hQ3
  subst l3 y3 z3
  obtain ⟨o4, rfl, Nq3, eq3, hp5⟩ := hQ3
  have N3 := Fr.app N0 Nq3
  refine own_by (fun _ k => st3.trans k) ?_
  show own_Go p e below _ (T3.setTop (mkF m 12 #[vR a0, vI p1, .unset] [(.int o4)]))
  by_cases c6 : o4 = (0 : Int32)
  ·skip
   refine own_by (fun _ k => XS.ifYes X3.here hx rfl (pc0 := 12) (pc' := 19) rfl (hb hby d6_12) rfl ((if0 _ _).trans (teq c6).1) (by decide) (by decide) k) ?_
   show own_Go p e below _ (T3.setTop (mkF m 19 #[vR a0, vI p1, .unset] []))
   refine own_by (fun _ k => XS.iconst X3.here hx rfl (hb hby d6_19) k) ?_
   show own_Go p e below _ (T3.setTop (mkF m 20 #[vR a0, vI p1, .unset] [(.int (0 : Int32))]))
   exact J7 _ _ (0 : Int32) X3 eq3 N3 (Or.inr (Or.inl ⟨o4, c2, hp5, c6, rfl⟩))
  ·skip
   refine own_by (fun _ k => XS.ifNo X3.here hx rfl (hb hby d6_12) rfl ((if0 _ _).trans (feq c6).1) k) ?_
   show own_Go p e below _ (T3.setTop (mkF m 15 #[vR a0, vI p1, .unset] []))
   refine own_by (fun _ k => XS.iconst X3.here hx rfl (hb hby d6_15) k) ?_
   show own_Go p e below _ (T3.setTop (mkF m 16 #[vR a0, vI p1, .unset] [(.int (1 : Int32))]))
   refine own_by (fun _ k => XS.goto X3.here hx rfl (pc0 := 16) (pc' := 20) rfl (hb hby d6_16) (by decide) (by decide) k) ?_
   show own_Go p e below _ (T3.setTop (mkF m 20 #[vR a0, vI p1, .unset] [(.int (1 : Int32))]))
   exact J7 _ _ (1 : Int32) X3 eq3 N3 (Or.inr (Or.inr (⟨o4, c2, hp5, c6, rfl⟩)))
theorem d7_0 : decode prog_53_method_5_code 0 = .ok (.aload_n 0, 1) := by decide +kernel
theorem d7_1 : decode prog_53_method_5_code 1 = .ok (.getfield 7, 3) := by decide +kernel
theorem d7_4 : decode prog_53_method_5_code 4 = .ok (.ireturn, 1) := by decide +kernel
theorem pn_7 : plainName "com/example/margay/margay/index/LineCounter" = true := by first | (simp [plainName, overriddenIn]; done) | decide +kernel
theorem ef_7 (m : MethodId) (a0 : Addr) : entryFrame m #[(.ref a0)] 1 = mkF m 0 #[vR a0] [] := by first | (simp [entryFrame, mkF, argsToLocals, Value.category]; done) | rfl
def Q7 (Z : State) (a0 : Addr) (f_a0_line : Int32) (h0 : Heap) (n0 : Nat) (v : Option Value) (h : Heap) (L : List Loc) : Prop := v = some (.int f_a0_line) ∧ Fr n0 L ∧ h = h0
set_option maxRecDepth 65536 in
set_option maxHeartbeats 40000000 in
theorem rm7 (l : Launch) (Z : State) (A0 : Array Value) (hw : ∀ d ∈ tables_1, d.before A0 Z = true) (ws : List Jvm.Cond) (a0 : Addr) (f_a0_line : Int32) (h0 : Heap) (n0 : Nat) (Z0 : n0 ≤ h0.size) (P_F_a0_line : Fld Z h0 a0 "com/example/margay/margay/index/LineCounter" "line" "I" (.int f_a0_line)) :
    MetFree l (⟨"com/example/margay/margay/index/LineCounter", "line", "()I"⟩ : MethodName) (head1 (Jvm.Cond.code (⟨"com/example/margay/margay/index/LineCounter", "line", "()I"⟩ : MethodName) prog_53_method_5_code 1 (some .int) :: ws) ({ frames := 0, cells := 0, slots := 0, locals := 0 } : Room)) (fun a U => a = #[(.ref a0)] ∧ Z.Warmed39 U.vm ∧ U.heap = h0) (fun _ _ _ _ _ => True) (fun _ U o U' => ∃ v L, o = .returned v ∧ Q7 Z a0 f_a0_line h0 n0 v U'.heap L ∧ FrameEnd U o U' L 0 0) := by
 refine MetFree.of_bodySF (plainFor_of_name pn_7) hisR ?_
 intro p e s m args below meth c s₁ Bd hml0 hP hK
 obtain ⟨rfl, hZ, hh⟩ := hP
 have hwd := fun i {d : Jvm.Cond} (h : tables_1[i]? = some d) => hw d (List.mem_of_getElem? h)
 have hx := Bd.exec
 have hby := Bd.bytes
 have hml : c.maxLocals = 1 := hml0
 have hlk : meth.locks = false := Bd.notSynchronized
 have hown : s.vm.findClass "com/example/margay/margay/index/LineCounter" = some m.cls := findClass_of_methodNamed Bd.named
 have hnm := (name_of_methodNamed Bd.named Bd.method).1
 have X0 : Stand p l e ({ frames := 0, cells := 0, slots := 0, locals := 0 } : Room) s m #[(.ref a0)] below meth c s₁ [] 0 0 := Stand.of_body Bd
 have e0 : s₁.heap = h0 := by rw [← hh, Bd.state]; rfl
 have N0 := Fr.nil n0
 show own_Go p e below (own_Fin s 0 0 (Q7 Z a0 f_a0_line h0 n0)) _
 refine own_by (fun t k => castTop (ef_7 m a0) k) ?_
 show own_Go p e below _ (s₁.setTop (mkF m 0 #[vR a0] []))
 refine own_by (fun _ k => XS.aloadN X0.here hx rfl (hb hby d7_0) rfl rfl k) ?_
 show own_Go p e below _ (s₁.setTop (mkF m 1 #[vR a0] [(.ref a0)]))
 obtain ⟨T1, X1, e1, st1⟩ := getF X0 hx hZ hown (host := "") (Or.inl (hwd 9 rfl)) Via.refl e0 P_F_a0_line (g := (mkF m 1 #[vR a0] [(.ref a0)])) rfl rfl (hb hby d7_1)
 refine own_by st1 ?_
 show own_Go p e below _ (T1.setTop (mkF m 4 #[vR a0] [(.int f_a0_line)]))
 exact own_retI X1 hx Bd.returns (hb hby d7_4) hlk e1 ⟨rfl, N0, rfl⟩ (by decide) (by decide)
theorem d8_0 : decode prog_53_method_6_code 0 = .ok (.aload_n 0, 1) := by decide +kernel
theorem d8_1 : decode prog_53_method_6_code 1 = .ok (.getfield 13, 3) := by decide +kernel
theorem d8_4 : decode prog_53_method_6_code 4 = .ok (.ireturn, 1) := by decide +kernel
theorem pn_8 : plainName "com/example/margay/margay/index/LineCounter" = true := by first | (simp [plainName, overriddenIn]; done) | decide +kernel
theorem ef_8 (m : MethodId) (a0 : Addr) : entryFrame m #[(.ref a0)] 1 = mkF m 0 #[vR a0] [] := by first | (simp [entryFrame, mkF, argsToLocals, Value.category]; done) | rfl
def Q8 (Z : State) (a0 : Addr) (f_a0_column : Int32) (h0 : Heap) (n0 : Nat) (v : Option Value) (h : Heap) (L : List Loc) : Prop := v = some (.int f_a0_column) ∧ Fr n0 L ∧ h = h0
set_option maxRecDepth 65536 in
set_option maxHeartbeats 40000000 in
theorem rm8 (l : Launch) (Z : State) (A0 : Array Value) (hw : ∀ d ∈ tables_1, d.before A0 Z = true) (ws : List Jvm.Cond) (a0 : Addr) (f_a0_column : Int32) (h0 : Heap) (n0 : Nat) (Z0 : n0 ≤ h0.size) (P_F_a0_column : Fld Z h0 a0 "com/example/margay/margay/index/LineCounter" "column" "I" (.int f_a0_column)) :
    MetFree l (⟨"com/example/margay/margay/index/LineCounter", "column", "()I"⟩ : MethodName) (head1 (Jvm.Cond.code (⟨"com/example/margay/margay/index/LineCounter", "column", "()I"⟩ : MethodName) prog_53_method_6_code 1 (some .int) :: ws) ({ frames := 0, cells := 0, slots := 0, locals := 0 } : Room)) (fun a U => a = #[(.ref a0)] ∧ Z.Warmed39 U.vm ∧ U.heap = h0) (fun _ _ _ _ _ => True) (fun _ U o U' => ∃ v L, o = .returned v ∧ Q8 Z a0 f_a0_column h0 n0 v U'.heap L ∧ FrameEnd U o U' L 0 0) := by
 refine MetFree.of_bodySF (plainFor_of_name pn_8) hisR ?_
 intro p e s m args below meth c s₁ Bd hml0 hP hK
 obtain ⟨rfl, hZ, hh⟩ := hP
 have hwd := fun i {d : Jvm.Cond} (h : tables_1[i]? = some d) => hw d (List.mem_of_getElem? h)
 have hx := Bd.exec
 have hby := Bd.bytes
 have hml : c.maxLocals = 1 := hml0
 have hlk : meth.locks = false := Bd.notSynchronized
 have hown : s.vm.findClass "com/example/margay/margay/index/LineCounter" = some m.cls := findClass_of_methodNamed Bd.named
 have hnm := (name_of_methodNamed Bd.named Bd.method).1
 have X0 : Stand p l e ({ frames := 0, cells := 0, slots := 0, locals := 0 } : Room) s m #[(.ref a0)] below meth c s₁ [] 0 0 := Stand.of_body Bd
 have e0 : s₁.heap = h0 := by rw [← hh, Bd.state]; rfl
 have N0 := Fr.nil n0
 show own_Go p e below (own_Fin s 0 0 (Q8 Z a0 f_a0_column h0 n0)) _
 refine own_by (fun t k => castTop (ef_8 m a0) k) ?_
 show own_Go p e below _ (s₁.setTop (mkF m 0 #[vR a0] []))
 refine own_by (fun _ k => XS.aloadN X0.here hx rfl (hb hby d8_0) rfl rfl k) ?_
 show own_Go p e below _ (s₁.setTop (mkF m 1 #[vR a0] [(.ref a0)]))
 obtain ⟨T1, X1, e1, st1⟩ := getF X0 hx hZ hown (host := "") (Or.inl (hwd 11 rfl)) Via.refl e0 P_F_a0_column (g := (mkF m 1 #[vR a0] [(.ref a0)])) rfl rfl (hb hby d8_1)
 refine own_by st1 ?_
 show own_Go p e below _ (T1.setTop (mkF m 4 #[vR a0] [(.int f_a0_column)]))
 exact own_retI X1 hx Bd.returns (hb hby d8_4) hlk e1 ⟨rfl, N0, rfl⟩ (by decide) (by decide)
theorem pd_3 : parseMethodDescriptor "(Ljava/lang/String;)V" = some ⟨[(.object "java/lang/String")], none⟩ := by decide +kernel
theorem pd_38 : parseMethodDescriptor "(C)V" = some ⟨[.char], none⟩ := by decide +kernel
theorem pd_47 : parseMethodDescriptor "()I" = some ⟨[], some .int⟩ := by decide +kernel
theorem pd_59 : parseMethodDescriptor "([C)V" = some ⟨[(.array .char)], none⟩ := by decide +kernel
theorem pn_0 : plainName "com/example/margay/margay/index/LineCounterEndsLineWithCarriageReturnPinLaw" = true := by first | (simp [plainName, overriddenIn]; done) | decide +kernel
theorem ef_0 (m : MethodId) (p0 : Int32) (p1 : Int32) (p2 : Int32) (p3 : Int32) (p4 : Int32) : entryFrame m #[(.int p0), (.int p1), (.int p2), (.int p3), (.int p4)] maxLocals = mkF m 0 #[vI p0, vI p1, vI p2, vI p3, vI p4, .unset, .unset, .unset, .unset, .unset, .unset, .unset, .unset, .unset, .unset] [] := by first | (simp [entryFrame, mkF, argsToLocals, Value.category, maxLocals]; done) | rfl
theorem ob_0_18 (f_CS : Int32) (p0 : Int32) (p3 : Int32) (p4 : Int32) (v1 : Int32) (v3 : Int32) (z23 : Int32) (z33 : Int32) (o43 : Int32) (o47 : Int32) (o58 : Int32) (o59 : Int32) (o60 : Int32) (o68 : Int32) (o69 : Int32) (o70 : Int32) (hn_CS : ¬ (f_CS = (0 : Int32))) (hv1 : (p0 &&& (3 : Int32)) = v1) (c2 : v1 = (0 : Int32)) (hv3 : (p3 &&& (3 : Int32)) = v3) (hj24 : ((v3 = (0 : Int32)) ∧ z23 = (10 : Int32)) ∨ ((¬ (v3 = (0 : Int32))) ∧ (v3 = (1 : Int32)) ∧ z23 = (133 : Int32)) ∨ (∃ (z14 : Int32), (¬ (v3 = (0 : Int32))) ∧ (¬ (v3 = (1 : Int32))) ∧ (v3 = (2 : Int32)) ∧ ((((p4 &&& (1 : Int32)) = (0 : Int32)) ∧ z14 = (13 : Int32)) ∨ ((¬ ((p4 &&& (1 : Int32)) = (0 : Int32))) ∧ z14 = (8232 : Int32))) ∧ z23 = z14) ∨ (∃ (v16 : Int32), (¬ (v3 = (0 : Int32))) ∧ (¬ (v3 = (1 : Int32))) ∧ (¬ (v3 = (2 : Int32))) ∧ ((p4.toUInt32.toUInt16.toUInt32.toInt32) = v16) ∧ z23 = v16)) (hj34 : ((z23 = (10 : Int32)) ∧ z33 = (1 : Int32)) ∨ ((¬ (z23 = (10 : Int32))) ∧ (z23 = (133 : Int32)) ∧ z33 = (0 : Int32)) ∨ ((¬ (z23 = (10 : Int32))) ∧ (¬ (z23 = (133 : Int32))) ∧ z33 = (0 : Int32))) (hp44 : own_is (own_join z23 (0 : Int32)) o43) (c45 : o43 = z33) (hp48 : own_is (own_ends z23 (0 : Int32)) o47) (c49 : o43 = (0 : Int32)) (hp66 : own_cnt (13 : Int32) (0 : Int32) (0 : Int32) (1 : Int32) (1 : Int32) o58 o59 o60) (hp76 : own_cnt z23 o58 (0 : Int32) o59 o60 o68 o69 o70) (c77 : z33 = (0 : Int32)) (c78 : o47 = (0 : Int32)) (c80 : o70 = (2 : Int32)) (c82 : ¬ (o69 = (2 : Int32))) : False := by
  have hE : own_is (own_join z23 (0 : Int32)) z33 := by
    clear c82 c80 c78 c77 hp76 hp66 c49 hp48 c45 hp44 hj24 hv3 c2 hv1
    simp only [own_is, own_join]
    grind
  have hx := (Or.inl ⟨rfl, rfl⟩ : own_xb (0 : Int32) (0 : Int32))
  obtain ⟨t1, t2, t3⟩ := own_two (Or.inl ⟨rfl, rfl⟩ : own_xb (0 : Int32) (0 : Int32)) hp66 hp76
  obtain ⟨r1, r2⟩ := t3 (fun h => own_is0 hp48 c78 ((own_ex hx).mpr h))
  first | exact c82 r1 | exact c82 r2
theorem ob_0_19 (f_CS : Int32) (p0 : Int32) (p3 : Int32) (p4 : Int32) (v1 : Int32) (v3 : Int32) (z23 : Int32) (z33 : Int32) (o43 : Int32) (o47 : Int32) (o58 : Int32) (o59 : Int32) (o60 : Int32) (o68 : Int32) (o69 : Int32) (o70 : Int32) (hn_CS : ¬ (f_CS = (0 : Int32))) (hv1 : (p0 &&& (3 : Int32)) = v1) (c2 : v1 = (0 : Int32)) (hv3 : (p3 &&& (3 : Int32)) = v3) (hj24 : ((v3 = (0 : Int32)) ∧ z23 = (10 : Int32)) ∨ ((¬ (v3 = (0 : Int32))) ∧ (v3 = (1 : Int32)) ∧ z23 = (133 : Int32)) ∨ (∃ (z14 : Int32), (¬ (v3 = (0 : Int32))) ∧ (¬ (v3 = (1 : Int32))) ∧ (v3 = (2 : Int32)) ∧ ((((p4 &&& (1 : Int32)) = (0 : Int32)) ∧ z14 = (13 : Int32)) ∨ ((¬ ((p4 &&& (1 : Int32)) = (0 : Int32))) ∧ z14 = (8232 : Int32))) ∧ z23 = z14) ∨ (∃ (v16 : Int32), (¬ (v3 = (0 : Int32))) ∧ (¬ (v3 = (1 : Int32))) ∧ (¬ (v3 = (2 : Int32))) ∧ ((p4.toUInt32.toUInt16.toUInt32.toInt32) = v16) ∧ z23 = v16)) (hj34 : ((z23 = (10 : Int32)) ∧ z33 = (1 : Int32)) ∨ ((¬ (z23 = (10 : Int32))) ∧ (z23 = (133 : Int32)) ∧ z33 = (0 : Int32)) ∨ ((¬ (z23 = (10 : Int32))) ∧ (¬ (z23 = (133 : Int32))) ∧ z33 = (0 : Int32))) (hp44 : own_is (own_join z23 (0 : Int32)) o43) (c45 : o43 = z33) (hp48 : own_is (own_ends z23 (0 : Int32)) o47) (c49 : o43 = (0 : Int32)) (hp66 : own_cnt (13 : Int32) (0 : Int32) (0 : Int32) (1 : Int32) (1 : Int32) o58 o59 o60) (hp76 : own_cnt z23 o58 (0 : Int32) o59 o60 o68 o69 o70) (c77 : z33 = (0 : Int32)) (c78 : o47 = (0 : Int32)) (c80 : ¬ (o70 = (2 : Int32))) : False := by
  have hE : own_is (own_join z23 (0 : Int32)) z33 := by
    clear c80 c78 c77 hp76 hp66 c49 hp48 c45 hp44 hj24 hv3 c2 hv1
    simp only [own_is, own_join]
    grind
  have hx := (Or.inl ⟨rfl, rfl⟩ : own_xb (0 : Int32) (0 : Int32))
  obtain ⟨t1, t2, t3⟩ := own_two (Or.inl ⟨rfl, rfl⟩ : own_xb (0 : Int32) (0 : Int32)) hp66 hp76
  obtain ⟨r1, r2⟩ := t3 (fun h => own_is0 hp48 c78 ((own_ex hx).mpr h))
  first | exact c80 r1 | exact c80 r2
theorem ob_0_20 (f_CS : Int32) (p0 : Int32) (p3 : Int32) (p4 : Int32) (v1 : Int32) (v3 : Int32) (z23 : Int32) (z33 : Int32) (o43 : Int32) (o47 : Int32) (o58 : Int32) (o59 : Int32) (o60 : Int32) (o68 : Int32) (o69 : Int32) (o70 : Int32) (hn_CS : ¬ (f_CS = (0 : Int32))) (hv1 : (p0 &&& (3 : Int32)) = v1) (c2 : v1 = (0 : Int32)) (hv3 : (p3 &&& (3 : Int32)) = v3) (hj24 : ((v3 = (0 : Int32)) ∧ z23 = (10 : Int32)) ∨ ((¬ (v3 = (0 : Int32))) ∧ (v3 = (1 : Int32)) ∧ z23 = (133 : Int32)) ∨ (∃ (z14 : Int32), (¬ (v3 = (0 : Int32))) ∧ (¬ (v3 = (1 : Int32))) ∧ (v3 = (2 : Int32)) ∧ ((((p4 &&& (1 : Int32)) = (0 : Int32)) ∧ z14 = (13 : Int32)) ∨ ((¬ ((p4 &&& (1 : Int32)) = (0 : Int32))) ∧ z14 = (8232 : Int32))) ∧ z23 = z14) ∨ (∃ (v16 : Int32), (¬ (v3 = (0 : Int32))) ∧ (¬ (v3 = (1 : Int32))) ∧ (¬ (v3 = (2 : Int32))) ∧ ((p4.toUInt32.toUInt16.toUInt32.toInt32) = v16) ∧ z23 = v16)) (hj34 : ((z23 = (10 : Int32)) ∧ z33 = (1 : Int32)) ∨ ((¬ (z23 = (10 : Int32))) ∧ (z23 = (133 : Int32)) ∧ z33 = (0 : Int32)) ∨ ((¬ (z23 = (10 : Int32))) ∧ (¬ (z23 = (133 : Int32))) ∧ z33 = (0 : Int32))) (hp44 : own_is (own_join z23 (0 : Int32)) o43) (c45 : o43 = z33) (hp48 : own_is (own_ends z23 (0 : Int32)) o47) (c49 : o43 = (0 : Int32)) (hp66 : own_cnt (13 : Int32) (0 : Int32) (0 : Int32) (1 : Int32) (1 : Int32) o58 o59 o60) (hp76 : own_cnt z23 o58 (0 : Int32) o59 o60 o68 o69 o70) (c77 : z33 = (0 : Int32)) (c78 : ¬ (o47 = (0 : Int32))) (c84 : o70 = (3 : Int32)) (c86 : ¬ (o69 = (1 : Int32))) : False := by
  have hE : own_is (own_join z23 (0 : Int32)) z33 := by
    clear c86 c84 c78 c77 hp76 hp66 c49 hp48 c45 hp44 hj24 hv3 c2 hv1
    simp only [own_is, own_join]
    grind
  have hx := (Or.inl ⟨rfl, rfl⟩ : own_xb (0 : Int32) (0 : Int32))
  obtain ⟨t1, t2, t3⟩ := own_two (Or.inl ⟨rfl, rfl⟩ : own_xb (0 : Int32) (0 : Int32)) hp66 hp76
  obtain ⟨r1, r2⟩ := t2 (own_is0 hE c77) ((own_ex hx).mp (own_is1 hp48 c78))
  first | exact c86 r1 | exact c86 r2
theorem ob_0_21 (f_CS : Int32) (p0 : Int32) (p3 : Int32) (p4 : Int32) (v1 : Int32) (v3 : Int32) (z23 : Int32) (z33 : Int32) (o43 : Int32) (o47 : Int32) (o58 : Int32) (o59 : Int32) (o60 : Int32) (o68 : Int32) (o69 : Int32) (o70 : Int32) (hn_CS : ¬ (f_CS = (0 : Int32))) (hv1 : (p0 &&& (3 : Int32)) = v1) (c2 : v1 = (0 : Int32)) (hv3 : (p3 &&& (3 : Int32)) = v3) (hj24 : ((v3 = (0 : Int32)) ∧ z23 = (10 : Int32)) ∨ ((¬ (v3 = (0 : Int32))) ∧ (v3 = (1 : Int32)) ∧ z23 = (133 : Int32)) ∨ (∃ (z14 : Int32), (¬ (v3 = (0 : Int32))) ∧ (¬ (v3 = (1 : Int32))) ∧ (v3 = (2 : Int32)) ∧ ((((p4 &&& (1 : Int32)) = (0 : Int32)) ∧ z14 = (13 : Int32)) ∨ ((¬ ((p4 &&& (1 : Int32)) = (0 : Int32))) ∧ z14 = (8232 : Int32))) ∧ z23 = z14) ∨ (∃ (v16 : Int32), (¬ (v3 = (0 : Int32))) ∧ (¬ (v3 = (1 : Int32))) ∧ (¬ (v3 = (2 : Int32))) ∧ ((p4.toUInt32.toUInt16.toUInt32.toInt32) = v16) ∧ z23 = v16)) (hj34 : ((z23 = (10 : Int32)) ∧ z33 = (1 : Int32)) ∨ ((¬ (z23 = (10 : Int32))) ∧ (z23 = (133 : Int32)) ∧ z33 = (0 : Int32)) ∨ ((¬ (z23 = (10 : Int32))) ∧ (¬ (z23 = (133 : Int32))) ∧ z33 = (0 : Int32))) (hp44 : own_is (own_join z23 (0 : Int32)) o43) (c45 : o43 = z33) (hp48 : own_is (own_ends z23 (0 : Int32)) o47) (c49 : o43 = (0 : Int32)) (hp66 : own_cnt (13 : Int32) (0 : Int32) (0 : Int32) (1 : Int32) (1 : Int32) o58 o59 o60) (hp76 : own_cnt z23 o58 (0 : Int32) o59 o60 o68 o69 o70) (c77 : z33 = (0 : Int32)) (c78 : ¬ (o47 = (0 : Int32))) (c84 : ¬ (o70 = (3 : Int32))) : False := by
  have hE : own_is (own_join z23 (0 : Int32)) z33 := by
    clear c84 c78 c77 hp76 hp66 c49 hp48 c45 hp44 hj24 hv3 c2 hv1
    simp only [own_is, own_join]
    grind
  have hx := (Or.inl ⟨rfl, rfl⟩ : own_xb (0 : Int32) (0 : Int32))
  obtain ⟨t1, t2, t3⟩ := own_two (Or.inl ⟨rfl, rfl⟩ : own_xb (0 : Int32) (0 : Int32)) hp66 hp76
  obtain ⟨r1, r2⟩ := t2 (own_is0 hE c77) ((own_ex hx).mp (own_is1 hp48 c78))
  first | exact c84 r1 | exact c84 r2
theorem ob_0_22 (f_CS : Int32) (p0 : Int32) (p3 : Int32) (p4 : Int32) (v1 : Int32) (v3 : Int32) (z23 : Int32) (z33 : Int32) (o43 : Int32) (o47 : Int32) (o58 : Int32) (o59 : Int32) (o60 : Int32) (o68 : Int32) (o69 : Int32) (o70 : Int32) (hn_CS : ¬ (f_CS = (0 : Int32))) (hv1 : (p0 &&& (3 : Int32)) = v1) (c2 : v1 = (0 : Int32)) (hv3 : (p3 &&& (3 : Int32)) = v3) (hj24 : ((v3 = (0 : Int32)) ∧ z23 = (10 : Int32)) ∨ ((¬ (v3 = (0 : Int32))) ∧ (v3 = (1 : Int32)) ∧ z23 = (133 : Int32)) ∨ (∃ (z14 : Int32), (¬ (v3 = (0 : Int32))) ∧ (¬ (v3 = (1 : Int32))) ∧ (v3 = (2 : Int32)) ∧ ((((p4 &&& (1 : Int32)) = (0 : Int32)) ∧ z14 = (13 : Int32)) ∨ ((¬ ((p4 &&& (1 : Int32)) = (0 : Int32))) ∧ z14 = (8232 : Int32))) ∧ z23 = z14) ∨ (∃ (v16 : Int32), (¬ (v3 = (0 : Int32))) ∧ (¬ (v3 = (1 : Int32))) ∧ (¬ (v3 = (2 : Int32))) ∧ ((p4.toUInt32.toUInt16.toUInt32.toInt32) = v16) ∧ z23 = v16)) (hj34 : ((z23 = (10 : Int32)) ∧ z33 = (1 : Int32)) ∨ ((¬ (z23 = (10 : Int32))) ∧ (z23 = (133 : Int32)) ∧ z33 = (0 : Int32)) ∨ ((¬ (z23 = (10 : Int32))) ∧ (¬ (z23 = (133 : Int32))) ∧ z33 = (0 : Int32))) (hp44 : own_is (own_join z23 (0 : Int32)) o43) (c45 : o43 = z33) (hp48 : own_is (own_ends z23 (0 : Int32)) o47) (c49 : o43 = (0 : Int32)) (hp66 : own_cnt (13 : Int32) (0 : Int32) (0 : Int32) (1 : Int32) (1 : Int32) o58 o59 o60) (hp76 : own_cnt z23 o58 (0 : Int32) o59 o60 o68 o69 o70) (c77 : ¬ (z33 = (0 : Int32))) (c88 : o70 = (2 : Int32)) (c90 : ¬ (o69 = (1 : Int32))) : False := by
  have hE : own_is (own_join z23 (0 : Int32)) z33 := by
    clear c90 c88 c77 hp76 hp66 c49 hp48 c45 hp44 hj24 hv3 c2 hv1
    simp only [own_is, own_join]
    grind
  have hx := (Or.inl ⟨rfl, rfl⟩ : own_xb (0 : Int32) (0 : Int32))
  obtain ⟨t1, t2, t3⟩ := own_two (Or.inl ⟨rfl, rfl⟩ : own_xb (0 : Int32) (0 : Int32)) hp66 hp76
  obtain ⟨r1, r2⟩ := t1 (own_is1 hE c77)
  first | exact c90 r1 | exact c90 r2
theorem ob_0_23 (f_CS : Int32) (p0 : Int32) (p3 : Int32) (p4 : Int32) (v1 : Int32) (v3 : Int32) (z23 : Int32) (z33 : Int32) (o43 : Int32) (o47 : Int32) (o58 : Int32) (o59 : Int32) (o60 : Int32) (o68 : Int32) (o69 : Int32) (o70 : Int32) (hn_CS : ¬ (f_CS = (0 : Int32))) (hv1 : (p0 &&& (3 : Int32)) = v1) (c2 : v1 = (0 : Int32)) (hv3 : (p3 &&& (3 : Int32)) = v3) (hj24 : ((v3 = (0 : Int32)) ∧ z23 = (10 : Int32)) ∨ ((¬ (v3 = (0 : Int32))) ∧ (v3 = (1 : Int32)) ∧ z23 = (133 : Int32)) ∨ (∃ (z14 : Int32), (¬ (v3 = (0 : Int32))) ∧ (¬ (v3 = (1 : Int32))) ∧ (v3 = (2 : Int32)) ∧ ((((p4 &&& (1 : Int32)) = (0 : Int32)) ∧ z14 = (13 : Int32)) ∨ ((¬ ((p4 &&& (1 : Int32)) = (0 : Int32))) ∧ z14 = (8232 : Int32))) ∧ z23 = z14) ∨ (∃ (v16 : Int32), (¬ (v3 = (0 : Int32))) ∧ (¬ (v3 = (1 : Int32))) ∧ (¬ (v3 = (2 : Int32))) ∧ ((p4.toUInt32.toUInt16.toUInt32.toInt32) = v16) ∧ z23 = v16)) (hj34 : ((z23 = (10 : Int32)) ∧ z33 = (1 : Int32)) ∨ ((¬ (z23 = (10 : Int32))) ∧ (z23 = (133 : Int32)) ∧ z33 = (0 : Int32)) ∨ ((¬ (z23 = (10 : Int32))) ∧ (¬ (z23 = (133 : Int32))) ∧ z33 = (0 : Int32))) (hp44 : own_is (own_join z23 (0 : Int32)) o43) (c45 : o43 = z33) (hp48 : own_is (own_ends z23 (0 : Int32)) o47) (c49 : o43 = (0 : Int32)) (hp66 : own_cnt (13 : Int32) (0 : Int32) (0 : Int32) (1 : Int32) (1 : Int32) o58 o59 o60) (hp76 : own_cnt z23 o58 (0 : Int32) o59 o60 o68 o69 o70) (c77 : ¬ (z33 = (0 : Int32))) (c88 : ¬ (o70 = (2 : Int32))) : False := by
  have hE : own_is (own_join z23 (0 : Int32)) z33 := by
    clear c88 c77 hp76 hp66 c49 hp48 c45 hp44 hj24 hv3 c2 hv1
    simp only [own_is, own_join]
    grind
  have hx := (Or.inl ⟨rfl, rfl⟩ : own_xb (0 : Int32) (0 : Int32))
  obtain ⟨t1, t2, t3⟩ := own_two (Or.inl ⟨rfl, rfl⟩ : own_xb (0 : Int32) (0 : Int32)) hp66 hp76
  obtain ⟨r1, r2⟩ := t1 (own_is1 hE c77)
  first | exact c88 r1 | exact c88 r2
theorem ob_0_24 (f_CS : Int32) (p0 : Int32) (p3 : Int32) (p4 : Int32) (v1 : Int32) (v3 : Int32) (z23 : Int32) (z33 : Int32) (o43 : Int32) (o47 : Int32) (hn_CS : ¬ (f_CS = (0 : Int32))) (hv1 : (p0 &&& (3 : Int32)) = v1) (c2 : v1 = (0 : Int32)) (hv3 : (p3 &&& (3 : Int32)) = v3) (hj24 : ((v3 = (0 : Int32)) ∧ z23 = (10 : Int32)) ∨ ((¬ (v3 = (0 : Int32))) ∧ (v3 = (1 : Int32)) ∧ z23 = (133 : Int32)) ∨ (∃ (z14 : Int32), (¬ (v3 = (0 : Int32))) ∧ (¬ (v3 = (1 : Int32))) ∧ (v3 = (2 : Int32)) ∧ ((((p4 &&& (1 : Int32)) = (0 : Int32)) ∧ z14 = (13 : Int32)) ∨ ((¬ ((p4 &&& (1 : Int32)) = (0 : Int32))) ∧ z14 = (8232 : Int32))) ∧ z23 = z14) ∨ (∃ (v16 : Int32), (¬ (v3 = (0 : Int32))) ∧ (¬ (v3 = (1 : Int32))) ∧ (¬ (v3 = (2 : Int32))) ∧ ((p4.toUInt32.toUInt16.toUInt32.toInt32) = v16) ∧ z23 = v16)) (hj34 : ((z23 = (10 : Int32)) ∧ z33 = (1 : Int32)) ∨ ((¬ (z23 = (10 : Int32))) ∧ (z23 = (133 : Int32)) ∧ z33 = (0 : Int32)) ∨ ((¬ (z23 = (10 : Int32))) ∧ (¬ (z23 = (133 : Int32))) ∧ z33 = (0 : Int32))) (hp44 : own_is (own_join z23 (0 : Int32)) o43) (c45 : o43 = z33) (hp48 : own_is (own_ends z23 (0 : Int32)) o47) (c49 : ¬ (o43 = (0 : Int32))) (c91 : o47 = (0 : Int32)) : False := by
  have hE : own_is (own_join z23 (0 : Int32)) z33 := by
    clear c91 c49 hp48 c45 hp44 hj24 hv3 c2 hv1
    simp only [own_is, own_join]
    grind
  have hx := (Or.inl ⟨rfl, rfl⟩ : own_xb (0 : Int32) (0 : Int32))
  exact own_is0 hp48 c91 (own_je (own_is1 hp44 c49))
theorem ob_0_25 (f_CS : Int32) (p0 : Int32) (p3 : Int32) (p4 : Int32) (v1 : Int32) (v3 : Int32) (z23 : Int32) (z33 : Int32) (o43 : Int32) (o47 : Int32) (o100 : Int32) (o101 : Int32) (o102 : Int32) (o110 : Int32) (o111 : Int32) (o112 : Int32) (hn_CS : ¬ (f_CS = (0 : Int32))) (hv1 : (p0 &&& (3 : Int32)) = v1) (c2 : v1 = (0 : Int32)) (hv3 : (p3 &&& (3 : Int32)) = v3) (hj24 : ((v3 = (0 : Int32)) ∧ z23 = (10 : Int32)) ∨ ((¬ (v3 = (0 : Int32))) ∧ (v3 = (1 : Int32)) ∧ z23 = (133 : Int32)) ∨ (∃ (z14 : Int32), (¬ (v3 = (0 : Int32))) ∧ (¬ (v3 = (1 : Int32))) ∧ (v3 = (2 : Int32)) ∧ ((((p4 &&& (1 : Int32)) = (0 : Int32)) ∧ z14 = (13 : Int32)) ∨ ((¬ ((p4 &&& (1 : Int32)) = (0 : Int32))) ∧ z14 = (8232 : Int32))) ∧ z23 = z14) ∨ (∃ (v16 : Int32), (¬ (v3 = (0 : Int32))) ∧ (¬ (v3 = (1 : Int32))) ∧ (¬ (v3 = (2 : Int32))) ∧ ((p4.toUInt32.toUInt16.toUInt32.toInt32) = v16) ∧ z23 = v16)) (hj34 : ((z23 = (10 : Int32)) ∧ z33 = (1 : Int32)) ∨ ((¬ (z23 = (10 : Int32))) ∧ (z23 = (133 : Int32)) ∧ z33 = (0 : Int32)) ∨ ((¬ (z23 = (10 : Int32))) ∧ (¬ (z23 = (133 : Int32))) ∧ z33 = (0 : Int32))) (hp44 : own_is (own_join z23 (0 : Int32)) o43) (c45 : o43 = z33) (hp48 : own_is (own_ends z23 (0 : Int32)) o47) (c49 : ¬ (o43 = (0 : Int32))) (c91 : ¬ (o47 = (0 : Int32))) (hp108 : own_cnt (13 : Int32) (0 : Int32) (0 : Int32) (1 : Int32) (1 : Int32) o100 o101 o102) (hp118 : own_cnt z23 o100 (0 : Int32) o101 o102 o110 o111 o112) (c119 : z33 = (0 : Int32)) (c121 : o112 = (3 : Int32)) (c123 : ¬ (o111 = (1 : Int32))) : False := by
  have hE : own_is (own_join z23 (0 : Int32)) z33 := by
    clear c123 c121 c119 hp118 hp108 c91 c49 hp48 c45 hp44 hj24 hv3 c2 hv1
    simp only [own_is, own_join]
    grind
  have hx := (Or.inl ⟨rfl, rfl⟩ : own_xb (0 : Int32) (0 : Int32))
  obtain ⟨t1, t2, t3⟩ := own_two (Or.inl ⟨rfl, rfl⟩ : own_xb (0 : Int32) (0 : Int32)) hp108 hp118
  obtain ⟨r1, r2⟩ := t2 (own_is0 hE c119) ((own_ex hx).mp (own_is1 hp48 c91))
  first | exact c123 r1 | exact c123 r2
theorem ob_0_26 (f_CS : Int32) (p0 : Int32) (p3 : Int32) (p4 : Int32) (v1 : Int32) (v3 : Int32) (z23 : Int32) (z33 : Int32) (o43 : Int32) (o47 : Int32) (o100 : Int32) (o101 : Int32) (o102 : Int32) (o110 : Int32) (o111 : Int32) (o112 : Int32) (hn_CS : ¬ (f_CS = (0 : Int32))) (hv1 : (p0 &&& (3 : Int32)) = v1) (c2 : v1 = (0 : Int32)) (hv3 : (p3 &&& (3 : Int32)) = v3) (hj24 : ((v3 = (0 : Int32)) ∧ z23 = (10 : Int32)) ∨ ((¬ (v3 = (0 : Int32))) ∧ (v3 = (1 : Int32)) ∧ z23 = (133 : Int32)) ∨ (∃ (z14 : Int32), (¬ (v3 = (0 : Int32))) ∧ (¬ (v3 = (1 : Int32))) ∧ (v3 = (2 : Int32)) ∧ ((((p4 &&& (1 : Int32)) = (0 : Int32)) ∧ z14 = (13 : Int32)) ∨ ((¬ ((p4 &&& (1 : Int32)) = (0 : Int32))) ∧ z14 = (8232 : Int32))) ∧ z23 = z14) ∨ (∃ (v16 : Int32), (¬ (v3 = (0 : Int32))) ∧ (¬ (v3 = (1 : Int32))) ∧ (¬ (v3 = (2 : Int32))) ∧ ((p4.toUInt32.toUInt16.toUInt32.toInt32) = v16) ∧ z23 = v16)) (hj34 : ((z23 = (10 : Int32)) ∧ z33 = (1 : Int32)) ∨ ((¬ (z23 = (10 : Int32))) ∧ (z23 = (133 : Int32)) ∧ z33 = (0 : Int32)) ∨ ((¬ (z23 = (10 : Int32))) ∧ (¬ (z23 = (133 : Int32))) ∧ z33 = (0 : Int32))) (hp44 : own_is (own_join z23 (0 : Int32)) o43) (c45 : o43 = z33) (hp48 : own_is (own_ends z23 (0 : Int32)) o47) (c49 : ¬ (o43 = (0 : Int32))) (c91 : ¬ (o47 = (0 : Int32))) (hp108 : own_cnt (13 : Int32) (0 : Int32) (0 : Int32) (1 : Int32) (1 : Int32) o100 o101 o102) (hp118 : own_cnt z23 o100 (0 : Int32) o101 o102 o110 o111 o112) (c119 : z33 = (0 : Int32)) (c121 : ¬ (o112 = (3 : Int32))) : False := by
  have hE : own_is (own_join z23 (0 : Int32)) z33 := by
    clear c121 c119 hp118 hp108 c91 c49 hp48 c45 hp44 hj24 hv3 c2 hv1
    simp only [own_is, own_join]
    grind
  have hx := (Or.inl ⟨rfl, rfl⟩ : own_xb (0 : Int32) (0 : Int32))
  obtain ⟨t1, t2, t3⟩ := own_two (Or.inl ⟨rfl, rfl⟩ : own_xb (0 : Int32) (0 : Int32)) hp108 hp118
  obtain ⟨r1, r2⟩ := t2 (own_is0 hE c119) ((own_ex hx).mp (own_is1 hp48 c91))
  first | exact c121 r1 | exact c121 r2
theorem ob_0_27 (f_CS : Int32) (p0 : Int32) (p3 : Int32) (p4 : Int32) (v1 : Int32) (v3 : Int32) (z23 : Int32) (z33 : Int32) (o43 : Int32) (o47 : Int32) (o100 : Int32) (o101 : Int32) (o102 : Int32) (o110 : Int32) (o111 : Int32) (o112 : Int32) (hn_CS : ¬ (f_CS = (0 : Int32))) (hv1 : (p0 &&& (3 : Int32)) = v1) (c2 : v1 = (0 : Int32)) (hv3 : (p3 &&& (3 : Int32)) = v3) (hj24 : ((v3 = (0 : Int32)) ∧ z23 = (10 : Int32)) ∨ ((¬ (v3 = (0 : Int32))) ∧ (v3 = (1 : Int32)) ∧ z23 = (133 : Int32)) ∨ (∃ (z14 : Int32), (¬ (v3 = (0 : Int32))) ∧ (¬ (v3 = (1 : Int32))) ∧ (v3 = (2 : Int32)) ∧ ((((p4 &&& (1 : Int32)) = (0 : Int32)) ∧ z14 = (13 : Int32)) ∨ ((¬ ((p4 &&& (1 : Int32)) = (0 : Int32))) ∧ z14 = (8232 : Int32))) ∧ z23 = z14) ∨ (∃ (v16 : Int32), (¬ (v3 = (0 : Int32))) ∧ (¬ (v3 = (1 : Int32))) ∧ (¬ (v3 = (2 : Int32))) ∧ ((p4.toUInt32.toUInt16.toUInt32.toInt32) = v16) ∧ z23 = v16)) (hj34 : ((z23 = (10 : Int32)) ∧ z33 = (1 : Int32)) ∨ ((¬ (z23 = (10 : Int32))) ∧ (z23 = (133 : Int32)) ∧ z33 = (0 : Int32)) ∨ ((¬ (z23 = (10 : Int32))) ∧ (¬ (z23 = (133 : Int32))) ∧ z33 = (0 : Int32))) (hp44 : own_is (own_join z23 (0 : Int32)) o43) (c45 : o43 = z33) (hp48 : own_is (own_ends z23 (0 : Int32)) o47) (c49 : ¬ (o43 = (0 : Int32))) (c91 : ¬ (o47 = (0 : Int32))) (hp108 : own_cnt (13 : Int32) (0 : Int32) (0 : Int32) (1 : Int32) (1 : Int32) o100 o101 o102) (hp118 : own_cnt z23 o100 (0 : Int32) o101 o102 o110 o111 o112) (c119 : ¬ (z33 = (0 : Int32))) (c125 : o112 = (2 : Int32)) (c127 : ¬ (o111 = (1 : Int32))) : False := by
  have hE : own_is (own_join z23 (0 : Int32)) z33 := by
    clear c127 c125 c119 hp118 hp108 c91 c49 hp48 c45 hp44 hj24 hv3 c2 hv1
    simp only [own_is, own_join]
    grind
  have hx := (Or.inl ⟨rfl, rfl⟩ : own_xb (0 : Int32) (0 : Int32))
  obtain ⟨t1, t2, t3⟩ := own_two (Or.inl ⟨rfl, rfl⟩ : own_xb (0 : Int32) (0 : Int32)) hp108 hp118
  obtain ⟨r1, r2⟩ := t1 (own_is1 hE c119)
  first | exact c127 r1 | exact c127 r2
theorem ob_0_28 (f_CS : Int32) (p0 : Int32) (p3 : Int32) (p4 : Int32) (v1 : Int32) (v3 : Int32) (z23 : Int32) (z33 : Int32) (o43 : Int32) (o47 : Int32) (o100 : Int32) (o101 : Int32) (o102 : Int32) (o110 : Int32) (o111 : Int32) (o112 : Int32) (hn_CS : ¬ (f_CS = (0 : Int32))) (hv1 : (p0 &&& (3 : Int32)) = v1) (c2 : v1 = (0 : Int32)) (hv3 : (p3 &&& (3 : Int32)) = v3) (hj24 : ((v3 = (0 : Int32)) ∧ z23 = (10 : Int32)) ∨ ((¬ (v3 = (0 : Int32))) ∧ (v3 = (1 : Int32)) ∧ z23 = (133 : Int32)) ∨ (∃ (z14 : Int32), (¬ (v3 = (0 : Int32))) ∧ (¬ (v3 = (1 : Int32))) ∧ (v3 = (2 : Int32)) ∧ ((((p4 &&& (1 : Int32)) = (0 : Int32)) ∧ z14 = (13 : Int32)) ∨ ((¬ ((p4 &&& (1 : Int32)) = (0 : Int32))) ∧ z14 = (8232 : Int32))) ∧ z23 = z14) ∨ (∃ (v16 : Int32), (¬ (v3 = (0 : Int32))) ∧ (¬ (v3 = (1 : Int32))) ∧ (¬ (v3 = (2 : Int32))) ∧ ((p4.toUInt32.toUInt16.toUInt32.toInt32) = v16) ∧ z23 = v16)) (hj34 : ((z23 = (10 : Int32)) ∧ z33 = (1 : Int32)) ∨ ((¬ (z23 = (10 : Int32))) ∧ (z23 = (133 : Int32)) ∧ z33 = (0 : Int32)) ∨ ((¬ (z23 = (10 : Int32))) ∧ (¬ (z23 = (133 : Int32))) ∧ z33 = (0 : Int32))) (hp44 : own_is (own_join z23 (0 : Int32)) o43) (c45 : o43 = z33) (hp48 : own_is (own_ends z23 (0 : Int32)) o47) (c49 : ¬ (o43 = (0 : Int32))) (c91 : ¬ (o47 = (0 : Int32))) (hp108 : own_cnt (13 : Int32) (0 : Int32) (0 : Int32) (1 : Int32) (1 : Int32) o100 o101 o102) (hp118 : own_cnt z23 o100 (0 : Int32) o101 o102 o110 o111 o112) (c119 : ¬ (z33 = (0 : Int32))) (c125 : ¬ (o112 = (2 : Int32))) : False := by
  have hE : own_is (own_join z23 (0 : Int32)) z33 := by
    clear c125 c119 hp118 hp108 c91 c49 hp48 c45 hp44 hj24 hv3 c2 hv1
    simp only [own_is, own_join]
    grind
  have hx := (Or.inl ⟨rfl, rfl⟩ : own_xb (0 : Int32) (0 : Int32))
  obtain ⟨t1, t2, t3⟩ := own_two (Or.inl ⟨rfl, rfl⟩ : own_xb (0 : Int32) (0 : Int32)) hp108 hp118
  obtain ⟨r1, r2⟩ := t1 (own_is1 hE c119)
  first | exact c125 r1 | exact c125 r2
theorem ob_0_29 (f_CS : Int32) (p0 : Int32) (p3 : Int32) (p4 : Int32) (v1 : Int32) (v3 : Int32) (z23 : Int32) (z33 : Int32) (o43 : Int32) (hn_CS : ¬ (f_CS = (0 : Int32))) (hv1 : (p0 &&& (3 : Int32)) = v1) (c2 : v1 = (0 : Int32)) (hv3 : (p3 &&& (3 : Int32)) = v3) (hj24 : ((v3 = (0 : Int32)) ∧ z23 = (10 : Int32)) ∨ ((¬ (v3 = (0 : Int32))) ∧ (v3 = (1 : Int32)) ∧ z23 = (133 : Int32)) ∨ (∃ (z14 : Int32), (¬ (v3 = (0 : Int32))) ∧ (¬ (v3 = (1 : Int32))) ∧ (v3 = (2 : Int32)) ∧ ((((p4 &&& (1 : Int32)) = (0 : Int32)) ∧ z14 = (13 : Int32)) ∨ ((¬ ((p4 &&& (1 : Int32)) = (0 : Int32))) ∧ z14 = (8232 : Int32))) ∧ z23 = z14) ∨ (∃ (v16 : Int32), (¬ (v3 = (0 : Int32))) ∧ (¬ (v3 = (1 : Int32))) ∧ (¬ (v3 = (2 : Int32))) ∧ ((p4.toUInt32.toUInt16.toUInt32.toInt32) = v16) ∧ z23 = v16)) (hj34 : ((z23 = (10 : Int32)) ∧ z33 = (1 : Int32)) ∨ ((¬ (z23 = (10 : Int32))) ∧ (z23 = (133 : Int32)) ∧ z33 = (0 : Int32)) ∨ ((¬ (z23 = (10 : Int32))) ∧ (¬ (z23 = (133 : Int32))) ∧ z33 = (0 : Int32))) (hp44 : own_is (own_join z23 (0 : Int32)) o43) (c45 : ¬ (o43 = z33)) : False := by
  have hE : own_is (own_join z23 (0 : Int32)) z33 := by
    clear c45 hp44 hj24 hv3 c2 hv1
    simp only [own_is, own_join]
    grind
  have hx := (Or.inl ⟨rfl, rfl⟩ : own_xb (0 : Int32) (0 : Int32))
  exact c45 (own_isE hp44 hE (own_jx hx))
theorem ob_0_30 (f_CS : Int32) (p0 : Int32) (p3 : Int32) (p4 : Int32) (v1 : Int32) (v130 : Int32) (z150 : Int32) (z160 : Int32) (o169 : Int32) (o177 : Int32) (o181 : Int32) (o191 : Int32) (o199 : Int32) (o200 : Int32) (o201 : Int32) (o209 : Int32) (o210 : Int32) (o211 : Int32) (hn_CS : ¬ (f_CS = (0 : Int32))) (hv1 : (p0 &&& (3 : Int32)) = v1) (c2 : ¬ (v1 = (0 : Int32))) (c128 : v1 = (1 : Int32)) (hv130 : (p3 &&& (3 : Int32)) = v130) (hj151 : ((v130 = (0 : Int32)) ∧ z150 = (10 : Int32)) ∨ ((¬ (v130 = (0 : Int32))) ∧ (v130 = (1 : Int32)) ∧ z150 = (133 : Int32)) ∨ (∃ (z141 : Int32), (¬ (v130 = (0 : Int32))) ∧ (¬ (v130 = (1 : Int32))) ∧ (v130 = (2 : Int32)) ∧ ((((p4 &&& (1 : Int32)) = (0 : Int32)) ∧ z141 = (13 : Int32)) ∨ ((¬ ((p4 &&& (1 : Int32)) = (0 : Int32))) ∧ z141 = (8232 : Int32))) ∧ z150 = z141) ∨ (∃ (v143 : Int32), (¬ (v130 = (0 : Int32))) ∧ (¬ (v130 = (1 : Int32))) ∧ (¬ (v130 = (2 : Int32))) ∧ ((p4.toUInt32.toUInt16.toUInt32.toInt32) = v143) ∧ z150 = v143)) (hj161 : ((z150 = (10 : Int32)) ∧ z160 = (1 : Int32)) ∨ ((¬ (z150 = (10 : Int32))) ∧ (z150 = (133 : Int32)) ∧ z160 = (1 : Int32)) ∨ ((¬ (z150 = (10 : Int32))) ∧ (¬ (z150 = (133 : Int32))) ∧ z160 = (0 : Int32))) (hp175 : (∃ (o14 : Int32), (own_eq3 (own_li [49, 46, 49]) (own_li [49, 46, 49]) o14) ∧ o169 = (nar .boolean o14))) (hp178 : own_is (own_join z150 o169) o177) (c179 : o177 = z160) (hp182 : own_is (own_ends z150 o169) o181) (c183 : o177 = (0 : Int32)) (hp197 : (∃ (o14 : Int32), (own_eq3 (own_li [49, 46, 49]) (own_li [49, 46, 49]) o14) ∧ o191 = (nar .boolean o14))) (hp207 : own_cnt (13 : Int32) (0 : Int32) o191 (1 : Int32) (1 : Int32) o199 o200 o201) (hp217 : own_cnt z150 o199 o191 o200 o201 o209 o210 o211) (c218 : z160 = (0 : Int32)) (c219 : o181 = (0 : Int32)) (c221 : o211 = (2 : Int32)) (c223 : ¬ (o210 = (2 : Int32))) : False := by
  have hE : own_is (own_join z150 (1 : Int32)) z160 := by
    clear c223 c221 c219 c218 hp217 hp207 hp197 c183 hp182 c179 hp178 hp175 hj151 hv130 c128 c2 hv1
    simp only [own_is, own_join]
    grind
  have hx := (own_x1 hp175)
  obtain ⟨t1, t2, t3⟩ := own_two (own_x1 hp197) hp207 hp217
  obtain ⟨r1, r2⟩ := t3 (fun h => own_is0 hp182 c219 ((own_ex hx).mpr h))
  first | exact c223 r1 | exact c223 r2
theorem ob_0_31 (f_CS : Int32) (p0 : Int32) (p3 : Int32) (p4 : Int32) (v1 : Int32) (v130 : Int32) (z150 : Int32) (z160 : Int32) (o169 : Int32) (o177 : Int32) (o181 : Int32) (o191 : Int32) (o199 : Int32) (o200 : Int32) (o201 : Int32) (o209 : Int32) (o210 : Int32) (o211 : Int32) (hn_CS : ¬ (f_CS = (0 : Int32))) (hv1 : (p0 &&& (3 : Int32)) = v1) (c2 : ¬ (v1 = (0 : Int32))) (c128 : v1 = (1 : Int32)) (hv130 : (p3 &&& (3 : Int32)) = v130) (hj151 : ((v130 = (0 : Int32)) ∧ z150 = (10 : Int32)) ∨ ((¬ (v130 = (0 : Int32))) ∧ (v130 = (1 : Int32)) ∧ z150 = (133 : Int32)) ∨ (∃ (z141 : Int32), (¬ (v130 = (0 : Int32))) ∧ (¬ (v130 = (1 : Int32))) ∧ (v130 = (2 : Int32)) ∧ ((((p4 &&& (1 : Int32)) = (0 : Int32)) ∧ z141 = (13 : Int32)) ∨ ((¬ ((p4 &&& (1 : Int32)) = (0 : Int32))) ∧ z141 = (8232 : Int32))) ∧ z150 = z141) ∨ (∃ (v143 : Int32), (¬ (v130 = (0 : Int32))) ∧ (¬ (v130 = (1 : Int32))) ∧ (¬ (v130 = (2 : Int32))) ∧ ((p4.toUInt32.toUInt16.toUInt32.toInt32) = v143) ∧ z150 = v143)) (hj161 : ((z150 = (10 : Int32)) ∧ z160 = (1 : Int32)) ∨ ((¬ (z150 = (10 : Int32))) ∧ (z150 = (133 : Int32)) ∧ z160 = (1 : Int32)) ∨ ((¬ (z150 = (10 : Int32))) ∧ (¬ (z150 = (133 : Int32))) ∧ z160 = (0 : Int32))) (hp175 : (∃ (o14 : Int32), (own_eq3 (own_li [49, 46, 49]) (own_li [49, 46, 49]) o14) ∧ o169 = (nar .boolean o14))) (hp178 : own_is (own_join z150 o169) o177) (c179 : o177 = z160) (hp182 : own_is (own_ends z150 o169) o181) (c183 : o177 = (0 : Int32)) (hp197 : (∃ (o14 : Int32), (own_eq3 (own_li [49, 46, 49]) (own_li [49, 46, 49]) o14) ∧ o191 = (nar .boolean o14))) (hp207 : own_cnt (13 : Int32) (0 : Int32) o191 (1 : Int32) (1 : Int32) o199 o200 o201) (hp217 : own_cnt z150 o199 o191 o200 o201 o209 o210 o211) (c218 : z160 = (0 : Int32)) (c219 : o181 = (0 : Int32)) (c221 : ¬ (o211 = (2 : Int32))) : False := by
  have hE : own_is (own_join z150 (1 : Int32)) z160 := by
    clear c221 c219 c218 hp217 hp207 hp197 c183 hp182 c179 hp178 hp175 hj151 hv130 c128 c2 hv1
    simp only [own_is, own_join]
    grind
  have hx := (own_x1 hp175)
  obtain ⟨t1, t2, t3⟩ := own_two (own_x1 hp197) hp207 hp217
  obtain ⟨r1, r2⟩ := t3 (fun h => own_is0 hp182 c219 ((own_ex hx).mpr h))
  first | exact c221 r1 | exact c221 r2
theorem ob_0_32 (f_CS : Int32) (p0 : Int32) (p3 : Int32) (p4 : Int32) (v1 : Int32) (v130 : Int32) (z150 : Int32) (z160 : Int32) (o169 : Int32) (o177 : Int32) (o181 : Int32) (o191 : Int32) (o199 : Int32) (o200 : Int32) (o201 : Int32) (o209 : Int32) (o210 : Int32) (o211 : Int32) (hn_CS : ¬ (f_CS = (0 : Int32))) (hv1 : (p0 &&& (3 : Int32)) = v1) (c2 : ¬ (v1 = (0 : Int32))) (c128 : v1 = (1 : Int32)) (hv130 : (p3 &&& (3 : Int32)) = v130) (hj151 : ((v130 = (0 : Int32)) ∧ z150 = (10 : Int32)) ∨ ((¬ (v130 = (0 : Int32))) ∧ (v130 = (1 : Int32)) ∧ z150 = (133 : Int32)) ∨ (∃ (z141 : Int32), (¬ (v130 = (0 : Int32))) ∧ (¬ (v130 = (1 : Int32))) ∧ (v130 = (2 : Int32)) ∧ ((((p4 &&& (1 : Int32)) = (0 : Int32)) ∧ z141 = (13 : Int32)) ∨ ((¬ ((p4 &&& (1 : Int32)) = (0 : Int32))) ∧ z141 = (8232 : Int32))) ∧ z150 = z141) ∨ (∃ (v143 : Int32), (¬ (v130 = (0 : Int32))) ∧ (¬ (v130 = (1 : Int32))) ∧ (¬ (v130 = (2 : Int32))) ∧ ((p4.toUInt32.toUInt16.toUInt32.toInt32) = v143) ∧ z150 = v143)) (hj161 : ((z150 = (10 : Int32)) ∧ z160 = (1 : Int32)) ∨ ((¬ (z150 = (10 : Int32))) ∧ (z150 = (133 : Int32)) ∧ z160 = (1 : Int32)) ∨ ((¬ (z150 = (10 : Int32))) ∧ (¬ (z150 = (133 : Int32))) ∧ z160 = (0 : Int32))) (hp175 : (∃ (o14 : Int32), (own_eq3 (own_li [49, 46, 49]) (own_li [49, 46, 49]) o14) ∧ o169 = (nar .boolean o14))) (hp178 : own_is (own_join z150 o169) o177) (c179 : o177 = z160) (hp182 : own_is (own_ends z150 o169) o181) (c183 : o177 = (0 : Int32)) (hp197 : (∃ (o14 : Int32), (own_eq3 (own_li [49, 46, 49]) (own_li [49, 46, 49]) o14) ∧ o191 = (nar .boolean o14))) (hp207 : own_cnt (13 : Int32) (0 : Int32) o191 (1 : Int32) (1 : Int32) o199 o200 o201) (hp217 : own_cnt z150 o199 o191 o200 o201 o209 o210 o211) (c218 : z160 = (0 : Int32)) (c219 : ¬ (o181 = (0 : Int32))) (c225 : o211 = (3 : Int32)) (c227 : ¬ (o210 = (1 : Int32))) : False := by
  have hE : own_is (own_join z150 (1 : Int32)) z160 := by
    clear c227 c225 c219 c218 hp217 hp207 hp197 c183 hp182 c179 hp178 hp175 hj151 hv130 c128 c2 hv1
    simp only [own_is, own_join]
    grind
  have hx := (own_x1 hp175)
  obtain ⟨t1, t2, t3⟩ := own_two (own_x1 hp197) hp207 hp217
  obtain ⟨r1, r2⟩ := t2 (own_is0 hE c218) ((own_ex hx).mp (own_is1 hp182 c219))
  first | exact c227 r1 | exact c227 r2
theorem ob_0_33 (f_CS : Int32) (p0 : Int32) (p3 : Int32) (p4 : Int32) (v1 : Int32) (v130 : Int32) (z150 : Int32) (z160 : Int32) (o169 : Int32) (o177 : Int32) (o181 : Int32) (o191 : Int32) (o199 : Int32) (o200 : Int32) (o201 : Int32) (o209 : Int32) (o210 : Int32) (o211 : Int32) (hn_CS : ¬ (f_CS = (0 : Int32))) (hv1 : (p0 &&& (3 : Int32)) = v1) (c2 : ¬ (v1 = (0 : Int32))) (c128 : v1 = (1 : Int32)) (hv130 : (p3 &&& (3 : Int32)) = v130) (hj151 : ((v130 = (0 : Int32)) ∧ z150 = (10 : Int32)) ∨ ((¬ (v130 = (0 : Int32))) ∧ (v130 = (1 : Int32)) ∧ z150 = (133 : Int32)) ∨ (∃ (z141 : Int32), (¬ (v130 = (0 : Int32))) ∧ (¬ (v130 = (1 : Int32))) ∧ (v130 = (2 : Int32)) ∧ ((((p4 &&& (1 : Int32)) = (0 : Int32)) ∧ z141 = (13 : Int32)) ∨ ((¬ ((p4 &&& (1 : Int32)) = (0 : Int32))) ∧ z141 = (8232 : Int32))) ∧ z150 = z141) ∨ (∃ (v143 : Int32), (¬ (v130 = (0 : Int32))) ∧ (¬ (v130 = (1 : Int32))) ∧ (¬ (v130 = (2 : Int32))) ∧ ((p4.toUInt32.toUInt16.toUInt32.toInt32) = v143) ∧ z150 = v143)) (hj161 : ((z150 = (10 : Int32)) ∧ z160 = (1 : Int32)) ∨ ((¬ (z150 = (10 : Int32))) ∧ (z150 = (133 : Int32)) ∧ z160 = (1 : Int32)) ∨ ((¬ (z150 = (10 : Int32))) ∧ (¬ (z150 = (133 : Int32))) ∧ z160 = (0 : Int32))) (hp175 : (∃ (o14 : Int32), (own_eq3 (own_li [49, 46, 49]) (own_li [49, 46, 49]) o14) ∧ o169 = (nar .boolean o14))) (hp178 : own_is (own_join z150 o169) o177) (c179 : o177 = z160) (hp182 : own_is (own_ends z150 o169) o181) (c183 : o177 = (0 : Int32)) (hp197 : (∃ (o14 : Int32), (own_eq3 (own_li [49, 46, 49]) (own_li [49, 46, 49]) o14) ∧ o191 = (nar .boolean o14))) (hp207 : own_cnt (13 : Int32) (0 : Int32) o191 (1 : Int32) (1 : Int32) o199 o200 o201) (hp217 : own_cnt z150 o199 o191 o200 o201 o209 o210 o211) (c218 : z160 = (0 : Int32)) (c219 : ¬ (o181 = (0 : Int32))) (c225 : ¬ (o211 = (3 : Int32))) : False := by
  have hE : own_is (own_join z150 (1 : Int32)) z160 := by
    clear c225 c219 c218 hp217 hp207 hp197 c183 hp182 c179 hp178 hp175 hj151 hv130 c128 c2 hv1
    simp only [own_is, own_join]
    grind
  have hx := (own_x1 hp175)
  obtain ⟨t1, t2, t3⟩ := own_two (own_x1 hp197) hp207 hp217
  obtain ⟨r1, r2⟩ := t2 (own_is0 hE c218) ((own_ex hx).mp (own_is1 hp182 c219))
  first | exact c225 r1 | exact c225 r2
theorem ob_0_34 (f_CS : Int32) (p0 : Int32) (p3 : Int32) (p4 : Int32) (v1 : Int32) (v130 : Int32) (z150 : Int32) (z160 : Int32) (o169 : Int32) (o177 : Int32) (o181 : Int32) (o191 : Int32) (o199 : Int32) (o200 : Int32) (o201 : Int32) (o209 : Int32) (o210 : Int32) (o211 : Int32) (hn_CS : ¬ (f_CS = (0 : Int32))) (hv1 : (p0 &&& (3 : Int32)) = v1) (c2 : ¬ (v1 = (0 : Int32))) (c128 : v1 = (1 : Int32)) (hv130 : (p3 &&& (3 : Int32)) = v130) (hj151 : ((v130 = (0 : Int32)) ∧ z150 = (10 : Int32)) ∨ ((¬ (v130 = (0 : Int32))) ∧ (v130 = (1 : Int32)) ∧ z150 = (133 : Int32)) ∨ (∃ (z141 : Int32), (¬ (v130 = (0 : Int32))) ∧ (¬ (v130 = (1 : Int32))) ∧ (v130 = (2 : Int32)) ∧ ((((p4 &&& (1 : Int32)) = (0 : Int32)) ∧ z141 = (13 : Int32)) ∨ ((¬ ((p4 &&& (1 : Int32)) = (0 : Int32))) ∧ z141 = (8232 : Int32))) ∧ z150 = z141) ∨ (∃ (v143 : Int32), (¬ (v130 = (0 : Int32))) ∧ (¬ (v130 = (1 : Int32))) ∧ (¬ (v130 = (2 : Int32))) ∧ ((p4.toUInt32.toUInt16.toUInt32.toInt32) = v143) ∧ z150 = v143)) (hj161 : ((z150 = (10 : Int32)) ∧ z160 = (1 : Int32)) ∨ ((¬ (z150 = (10 : Int32))) ∧ (z150 = (133 : Int32)) ∧ z160 = (1 : Int32)) ∨ ((¬ (z150 = (10 : Int32))) ∧ (¬ (z150 = (133 : Int32))) ∧ z160 = (0 : Int32))) (hp175 : (∃ (o14 : Int32), (own_eq3 (own_li [49, 46, 49]) (own_li [49, 46, 49]) o14) ∧ o169 = (nar .boolean o14))) (hp178 : own_is (own_join z150 o169) o177) (c179 : o177 = z160) (hp182 : own_is (own_ends z150 o169) o181) (c183 : o177 = (0 : Int32)) (hp197 : (∃ (o14 : Int32), (own_eq3 (own_li [49, 46, 49]) (own_li [49, 46, 49]) o14) ∧ o191 = (nar .boolean o14))) (hp207 : own_cnt (13 : Int32) (0 : Int32) o191 (1 : Int32) (1 : Int32) o199 o200 o201) (hp217 : own_cnt z150 o199 o191 o200 o201 o209 o210 o211) (c218 : ¬ (z160 = (0 : Int32))) (c229 : o211 = (2 : Int32)) (c231 : ¬ (o210 = (1 : Int32))) : False := by
  have hE : own_is (own_join z150 (1 : Int32)) z160 := by
    clear c231 c229 c218 hp217 hp207 hp197 c183 hp182 c179 hp178 hp175 hj151 hv130 c128 c2 hv1
    simp only [own_is, own_join]
    grind
  have hx := (own_x1 hp175)
  obtain ⟨t1, t2, t3⟩ := own_two (own_x1 hp197) hp207 hp217
  obtain ⟨r1, r2⟩ := t1 (own_is1 hE c218)
  first | exact c231 r1 | exact c231 r2
theorem ob_0_35 (f_CS : Int32) (p0 : Int32) (p3 : Int32) (p4 : Int32) (v1 : Int32) (v130 : Int32) (z150 : Int32) (z160 : Int32) (o169 : Int32) (o177 : Int32) (o181 : Int32) (o191 : Int32) (o199 : Int32) (o200 : Int32) (o201 : Int32) (o209 : Int32) (o210 : Int32) (o211 : Int32) (hn_CS : ¬ (f_CS = (0 : Int32))) (hv1 : (p0 &&& (3 : Int32)) = v1) (c2 : ¬ (v1 = (0 : Int32))) (c128 : v1 = (1 : Int32)) (hv130 : (p3 &&& (3 : Int32)) = v130) (hj151 : ((v130 = (0 : Int32)) ∧ z150 = (10 : Int32)) ∨ ((¬ (v130 = (0 : Int32))) ∧ (v130 = (1 : Int32)) ∧ z150 = (133 : Int32)) ∨ (∃ (z141 : Int32), (¬ (v130 = (0 : Int32))) ∧ (¬ (v130 = (1 : Int32))) ∧ (v130 = (2 : Int32)) ∧ ((((p4 &&& (1 : Int32)) = (0 : Int32)) ∧ z141 = (13 : Int32)) ∨ ((¬ ((p4 &&& (1 : Int32)) = (0 : Int32))) ∧ z141 = (8232 : Int32))) ∧ z150 = z141) ∨ (∃ (v143 : Int32), (¬ (v130 = (0 : Int32))) ∧ (¬ (v130 = (1 : Int32))) ∧ (¬ (v130 = (2 : Int32))) ∧ ((p4.toUInt32.toUInt16.toUInt32.toInt32) = v143) ∧ z150 = v143)) (hj161 : ((z150 = (10 : Int32)) ∧ z160 = (1 : Int32)) ∨ ((¬ (z150 = (10 : Int32))) ∧ (z150 = (133 : Int32)) ∧ z160 = (1 : Int32)) ∨ ((¬ (z150 = (10 : Int32))) ∧ (¬ (z150 = (133 : Int32))) ∧ z160 = (0 : Int32))) (hp175 : (∃ (o14 : Int32), (own_eq3 (own_li [49, 46, 49]) (own_li [49, 46, 49]) o14) ∧ o169 = (nar .boolean o14))) (hp178 : own_is (own_join z150 o169) o177) (c179 : o177 = z160) (hp182 : own_is (own_ends z150 o169) o181) (c183 : o177 = (0 : Int32)) (hp197 : (∃ (o14 : Int32), (own_eq3 (own_li [49, 46, 49]) (own_li [49, 46, 49]) o14) ∧ o191 = (nar .boolean o14))) (hp207 : own_cnt (13 : Int32) (0 : Int32) o191 (1 : Int32) (1 : Int32) o199 o200 o201) (hp217 : own_cnt z150 o199 o191 o200 o201 o209 o210 o211) (c218 : ¬ (z160 = (0 : Int32))) (c229 : ¬ (o211 = (2 : Int32))) : False := by
  have hE : own_is (own_join z150 (1 : Int32)) z160 := by
    clear c229 c218 hp217 hp207 hp197 c183 hp182 c179 hp178 hp175 hj151 hv130 c128 c2 hv1
    simp only [own_is, own_join]
    grind
  have hx := (own_x1 hp175)
  obtain ⟨t1, t2, t3⟩ := own_two (own_x1 hp197) hp207 hp217
  obtain ⟨r1, r2⟩ := t1 (own_is1 hE c218)
  first | exact c229 r1 | exact c229 r2
theorem ob_0_36 (f_CS : Int32) (p0 : Int32) (p3 : Int32) (p4 : Int32) (v1 : Int32) (v130 : Int32) (z150 : Int32) (z160 : Int32) (o169 : Int32) (o177 : Int32) (o181 : Int32) (hn_CS : ¬ (f_CS = (0 : Int32))) (hv1 : (p0 &&& (3 : Int32)) = v1) (c2 : ¬ (v1 = (0 : Int32))) (c128 : v1 = (1 : Int32)) (hv130 : (p3 &&& (3 : Int32)) = v130) (hj151 : ((v130 = (0 : Int32)) ∧ z150 = (10 : Int32)) ∨ ((¬ (v130 = (0 : Int32))) ∧ (v130 = (1 : Int32)) ∧ z150 = (133 : Int32)) ∨ (∃ (z141 : Int32), (¬ (v130 = (0 : Int32))) ∧ (¬ (v130 = (1 : Int32))) ∧ (v130 = (2 : Int32)) ∧ ((((p4 &&& (1 : Int32)) = (0 : Int32)) ∧ z141 = (13 : Int32)) ∨ ((¬ ((p4 &&& (1 : Int32)) = (0 : Int32))) ∧ z141 = (8232 : Int32))) ∧ z150 = z141) ∨ (∃ (v143 : Int32), (¬ (v130 = (0 : Int32))) ∧ (¬ (v130 = (1 : Int32))) ∧ (¬ (v130 = (2 : Int32))) ∧ ((p4.toUInt32.toUInt16.toUInt32.toInt32) = v143) ∧ z150 = v143)) (hj161 : ((z150 = (10 : Int32)) ∧ z160 = (1 : Int32)) ∨ ((¬ (z150 = (10 : Int32))) ∧ (z150 = (133 : Int32)) ∧ z160 = (1 : Int32)) ∨ ((¬ (z150 = (10 : Int32))) ∧ (¬ (z150 = (133 : Int32))) ∧ z160 = (0 : Int32))) (hp175 : (∃ (o14 : Int32), (own_eq3 (own_li [49, 46, 49]) (own_li [49, 46, 49]) o14) ∧ o169 = (nar .boolean o14))) (hp178 : own_is (own_join z150 o169) o177) (c179 : o177 = z160) (hp182 : own_is (own_ends z150 o169) o181) (c183 : ¬ (o177 = (0 : Int32))) (c232 : o181 = (0 : Int32)) : False := by
  have hE : own_is (own_join z150 (1 : Int32)) z160 := by
    clear c232 c183 hp182 c179 hp178 hp175 hj151 hv130 c128 c2 hv1
    simp only [own_is, own_join]
    grind
  have hx := (own_x1 hp175)
  exact own_is0 hp182 c232 (own_je (own_is1 hp178 c183))
theorem ob_0_37 (f_CS : Int32) (p0 : Int32) (p3 : Int32) (p4 : Int32) (v1 : Int32) (v130 : Int32) (z150 : Int32) (z160 : Int32) (o169 : Int32) (o177 : Int32) (o181 : Int32) (o240 : Int32) (o248 : Int32) (o249 : Int32) (o250 : Int32) (o258 : Int32) (o259 : Int32) (o260 : Int32) (hn_CS : ¬ (f_CS = (0 : Int32))) (hv1 : (p0 &&& (3 : Int32)) = v1) (c2 : ¬ (v1 = (0 : Int32))) (c128 : v1 = (1 : Int32)) (hv130 : (p3 &&& (3 : Int32)) = v130) (hj151 : ((v130 = (0 : Int32)) ∧ z150 = (10 : Int32)) ∨ ((¬ (v130 = (0 : Int32))) ∧ (v130 = (1 : Int32)) ∧ z150 = (133 : Int32)) ∨ (∃ (z141 : Int32), (¬ (v130 = (0 : Int32))) ∧ (¬ (v130 = (1 : Int32))) ∧ (v130 = (2 : Int32)) ∧ ((((p4 &&& (1 : Int32)) = (0 : Int32)) ∧ z141 = (13 : Int32)) ∨ ((¬ ((p4 &&& (1 : Int32)) = (0 : Int32))) ∧ z141 = (8232 : Int32))) ∧ z150 = z141) ∨ (∃ (v143 : Int32), (¬ (v130 = (0 : Int32))) ∧ (¬ (v130 = (1 : Int32))) ∧ (¬ (v130 = (2 : Int32))) ∧ ((p4.toUInt32.toUInt16.toUInt32.toInt32) = v143) ∧ z150 = v143)) (hj161 : ((z150 = (10 : Int32)) ∧ z160 = (1 : Int32)) ∨ ((¬ (z150 = (10 : Int32))) ∧ (z150 = (133 : Int32)) ∧ z160 = (1 : Int32)) ∨ ((¬ (z150 = (10 : Int32))) ∧ (¬ (z150 = (133 : Int32))) ∧ z160 = (0 : Int32))) (hp175 : (∃ (o14 : Int32), (own_eq3 (own_li [49, 46, 49]) (own_li [49, 46, 49]) o14) ∧ o169 = (nar .boolean o14))) (hp178 : own_is (own_join z150 o169) o177) (c179 : o177 = z160) (hp182 : own_is (own_ends z150 o169) o181) (c183 : ¬ (o177 = (0 : Int32))) (c232 : ¬ (o181 = (0 : Int32))) (hp246 : (∃ (o14 : Int32), (own_eq3 (own_li [49, 46, 49]) (own_li [49, 46, 49]) o14) ∧ o240 = (nar .boolean o14))) (hp256 : own_cnt (13 : Int32) (0 : Int32) o240 (1 : Int32) (1 : Int32) o248 o249 o250) (hp266 : own_cnt z150 o248 o240 o249 o250 o258 o259 o260) (c267 : z160 = (0 : Int32)) (c269 : o260 = (3 : Int32)) (c271 : ¬ (o259 = (1 : Int32))) : False := by
  have hE : own_is (own_join z150 (1 : Int32)) z160 := by
    clear c271 c269 c267 hp266 hp256 hp246 c232 c183 hp182 c179 hp178 hp175 hj151 hv130 c128 c2 hv1
    simp only [own_is, own_join]
    grind
  have hx := (own_x1 hp175)
  obtain ⟨t1, t2, t3⟩ := own_two (own_x1 hp246) hp256 hp266
  obtain ⟨r1, r2⟩ := t2 (own_is0 hE c267) ((own_ex hx).mp (own_is1 hp182 c232))
  first | exact c271 r1 | exact c271 r2
theorem ob_0_38 (f_CS : Int32) (p0 : Int32) (p3 : Int32) (p4 : Int32) (v1 : Int32) (v130 : Int32) (z150 : Int32) (z160 : Int32) (o169 : Int32) (o177 : Int32) (o181 : Int32) (o240 : Int32) (o248 : Int32) (o249 : Int32) (o250 : Int32) (o258 : Int32) (o259 : Int32) (o260 : Int32) (hn_CS : ¬ (f_CS = (0 : Int32))) (hv1 : (p0 &&& (3 : Int32)) = v1) (c2 : ¬ (v1 = (0 : Int32))) (c128 : v1 = (1 : Int32)) (hv130 : (p3 &&& (3 : Int32)) = v130) (hj151 : ((v130 = (0 : Int32)) ∧ z150 = (10 : Int32)) ∨ ((¬ (v130 = (0 : Int32))) ∧ (v130 = (1 : Int32)) ∧ z150 = (133 : Int32)) ∨ (∃ (z141 : Int32), (¬ (v130 = (0 : Int32))) ∧ (¬ (v130 = (1 : Int32))) ∧ (v130 = (2 : Int32)) ∧ ((((p4 &&& (1 : Int32)) = (0 : Int32)) ∧ z141 = (13 : Int32)) ∨ ((¬ ((p4 &&& (1 : Int32)) = (0 : Int32))) ∧ z141 = (8232 : Int32))) ∧ z150 = z141) ∨ (∃ (v143 : Int32), (¬ (v130 = (0 : Int32))) ∧ (¬ (v130 = (1 : Int32))) ∧ (¬ (v130 = (2 : Int32))) ∧ ((p4.toUInt32.toUInt16.toUInt32.toInt32) = v143) ∧ z150 = v143)) (hj161 : ((z150 = (10 : Int32)) ∧ z160 = (1 : Int32)) ∨ ((¬ (z150 = (10 : Int32))) ∧ (z150 = (133 : Int32)) ∧ z160 = (1 : Int32)) ∨ ((¬ (z150 = (10 : Int32))) ∧ (¬ (z150 = (133 : Int32))) ∧ z160 = (0 : Int32))) (hp175 : (∃ (o14 : Int32), (own_eq3 (own_li [49, 46, 49]) (own_li [49, 46, 49]) o14) ∧ o169 = (nar .boolean o14))) (hp178 : own_is (own_join z150 o169) o177) (c179 : o177 = z160) (hp182 : own_is (own_ends z150 o169) o181) (c183 : ¬ (o177 = (0 : Int32))) (c232 : ¬ (o181 = (0 : Int32))) (hp246 : (∃ (o14 : Int32), (own_eq3 (own_li [49, 46, 49]) (own_li [49, 46, 49]) o14) ∧ o240 = (nar .boolean o14))) (hp256 : own_cnt (13 : Int32) (0 : Int32) o240 (1 : Int32) (1 : Int32) o248 o249 o250) (hp266 : own_cnt z150 o248 o240 o249 o250 o258 o259 o260) (c267 : z160 = (0 : Int32)) (c269 : ¬ (o260 = (3 : Int32))) : False := by
  have hE : own_is (own_join z150 (1 : Int32)) z160 := by
    clear c269 c267 hp266 hp256 hp246 c232 c183 hp182 c179 hp178 hp175 hj151 hv130 c128 c2 hv1
    simp only [own_is, own_join]
    grind
  have hx := (own_x1 hp175)
  obtain ⟨t1, t2, t3⟩ := own_two (own_x1 hp246) hp256 hp266
  obtain ⟨r1, r2⟩ := t2 (own_is0 hE c267) ((own_ex hx).mp (own_is1 hp182 c232))
  first | exact c269 r1 | exact c269 r2
theorem ob_0_39 (f_CS : Int32) (p0 : Int32) (p3 : Int32) (p4 : Int32) (v1 : Int32) (v130 : Int32) (z150 : Int32) (z160 : Int32) (o169 : Int32) (o177 : Int32) (o181 : Int32) (o240 : Int32) (o248 : Int32) (o249 : Int32) (o250 : Int32) (o258 : Int32) (o259 : Int32) (o260 : Int32) (hn_CS : ¬ (f_CS = (0 : Int32))) (hv1 : (p0 &&& (3 : Int32)) = v1) (c2 : ¬ (v1 = (0 : Int32))) (c128 : v1 = (1 : Int32)) (hv130 : (p3 &&& (3 : Int32)) = v130) (hj151 : ((v130 = (0 : Int32)) ∧ z150 = (10 : Int32)) ∨ ((¬ (v130 = (0 : Int32))) ∧ (v130 = (1 : Int32)) ∧ z150 = (133 : Int32)) ∨ (∃ (z141 : Int32), (¬ (v130 = (0 : Int32))) ∧ (¬ (v130 = (1 : Int32))) ∧ (v130 = (2 : Int32)) ∧ ((((p4 &&& (1 : Int32)) = (0 : Int32)) ∧ z141 = (13 : Int32)) ∨ ((¬ ((p4 &&& (1 : Int32)) = (0 : Int32))) ∧ z141 = (8232 : Int32))) ∧ z150 = z141) ∨ (∃ (v143 : Int32), (¬ (v130 = (0 : Int32))) ∧ (¬ (v130 = (1 : Int32))) ∧ (¬ (v130 = (2 : Int32))) ∧ ((p4.toUInt32.toUInt16.toUInt32.toInt32) = v143) ∧ z150 = v143)) (hj161 : ((z150 = (10 : Int32)) ∧ z160 = (1 : Int32)) ∨ ((¬ (z150 = (10 : Int32))) ∧ (z150 = (133 : Int32)) ∧ z160 = (1 : Int32)) ∨ ((¬ (z150 = (10 : Int32))) ∧ (¬ (z150 = (133 : Int32))) ∧ z160 = (0 : Int32))) (hp175 : (∃ (o14 : Int32), (own_eq3 (own_li [49, 46, 49]) (own_li [49, 46, 49]) o14) ∧ o169 = (nar .boolean o14))) (hp178 : own_is (own_join z150 o169) o177) (c179 : o177 = z160) (hp182 : own_is (own_ends z150 o169) o181) (c183 : ¬ (o177 = (0 : Int32))) (c232 : ¬ (o181 = (0 : Int32))) (hp246 : (∃ (o14 : Int32), (own_eq3 (own_li [49, 46, 49]) (own_li [49, 46, 49]) o14) ∧ o240 = (nar .boolean o14))) (hp256 : own_cnt (13 : Int32) (0 : Int32) o240 (1 : Int32) (1 : Int32) o248 o249 o250) (hp266 : own_cnt z150 o248 o240 o249 o250 o258 o259 o260) (c267 : ¬ (z160 = (0 : Int32))) (c273 : o260 = (2 : Int32)) (c275 : ¬ (o259 = (1 : Int32))) : False := by
  have hE : own_is (own_join z150 (1 : Int32)) z160 := by
    clear c275 c273 c267 hp266 hp256 hp246 c232 c183 hp182 c179 hp178 hp175 hj151 hv130 c128 c2 hv1
    simp only [own_is, own_join]
    grind
  have hx := (own_x1 hp175)
  obtain ⟨t1, t2, t3⟩ := own_two (own_x1 hp246) hp256 hp266
  obtain ⟨r1, r2⟩ := t1 (own_is1 hE c267)
  first | exact c275 r1 | exact c275 r2
theorem ob_0_40 (f_CS : Int32) (p0 : Int32) (p3 : Int32) (p4 : Int32) (v1 : Int32) (v130 : Int32) (z150 : Int32) (z160 : Int32) (o169 : Int32) (o177 : Int32) (o181 : Int32) (o240 : Int32) (o248 : Int32) (o249 : Int32) (o250 : Int32) (o258 : Int32) (o259 : Int32) (o260 : Int32) (hn_CS : ¬ (f_CS = (0 : Int32))) (hv1 : (p0 &&& (3 : Int32)) = v1) (c2 : ¬ (v1 = (0 : Int32))) (c128 : v1 = (1 : Int32)) (hv130 : (p3 &&& (3 : Int32)) = v130) (hj151 : ((v130 = (0 : Int32)) ∧ z150 = (10 : Int32)) ∨ ((¬ (v130 = (0 : Int32))) ∧ (v130 = (1 : Int32)) ∧ z150 = (133 : Int32)) ∨ (∃ (z141 : Int32), (¬ (v130 = (0 : Int32))) ∧ (¬ (v130 = (1 : Int32))) ∧ (v130 = (2 : Int32)) ∧ ((((p4 &&& (1 : Int32)) = (0 : Int32)) ∧ z141 = (13 : Int32)) ∨ ((¬ ((p4 &&& (1 : Int32)) = (0 : Int32))) ∧ z141 = (8232 : Int32))) ∧ z150 = z141) ∨ (∃ (v143 : Int32), (¬ (v130 = (0 : Int32))) ∧ (¬ (v130 = (1 : Int32))) ∧ (¬ (v130 = (2 : Int32))) ∧ ((p4.toUInt32.toUInt16.toUInt32.toInt32) = v143) ∧ z150 = v143)) (hj161 : ((z150 = (10 : Int32)) ∧ z160 = (1 : Int32)) ∨ ((¬ (z150 = (10 : Int32))) ∧ (z150 = (133 : Int32)) ∧ z160 = (1 : Int32)) ∨ ((¬ (z150 = (10 : Int32))) ∧ (¬ (z150 = (133 : Int32))) ∧ z160 = (0 : Int32))) (hp175 : (∃ (o14 : Int32), (own_eq3 (own_li [49, 46, 49]) (own_li [49, 46, 49]) o14) ∧ o169 = (nar .boolean o14))) (hp178 : own_is (own_join z150 o169) o177) (c179 : o177 = z160) (hp182 : own_is (own_ends z150 o169) o181) (c183 : ¬ (o177 = (0 : Int32))) (c232 : ¬ (o181 = (0 : Int32))) (hp246 : (∃ (o14 : Int32), (own_eq3 (own_li [49, 46, 49]) (own_li [49, 46, 49]) o14) ∧ o240 = (nar .boolean o14))) (hp256 : own_cnt (13 : Int32) (0 : Int32) o240 (1 : Int32) (1 : Int32) o248 o249 o250) (hp266 : own_cnt z150 o248 o240 o249 o250 o258 o259 o260) (c267 : ¬ (z160 = (0 : Int32))) (c273 : ¬ (o260 = (2 : Int32))) : False := by
  have hE : own_is (own_join z150 (1 : Int32)) z160 := by
    clear c273 c267 hp266 hp256 hp246 c232 c183 hp182 c179 hp178 hp175 hj151 hv130 c128 c2 hv1
    simp only [own_is, own_join]
    grind
  have hx := (own_x1 hp175)
  obtain ⟨t1, t2, t3⟩ := own_two (own_x1 hp246) hp256 hp266
  obtain ⟨r1, r2⟩ := t1 (own_is1 hE c267)
  first | exact c273 r1 | exact c273 r2
theorem ob_0_41 (f_CS : Int32) (p0 : Int32) (p3 : Int32) (p4 : Int32) (v1 : Int32) (v130 : Int32) (z150 : Int32) (z160 : Int32) (o169 : Int32) (o177 : Int32) (hn_CS : ¬ (f_CS = (0 : Int32))) (hv1 : (p0 &&& (3 : Int32)) = v1) (c2 : ¬ (v1 = (0 : Int32))) (c128 : v1 = (1 : Int32)) (hv130 : (p3 &&& (3 : Int32)) = v130) (hj151 : ((v130 = (0 : Int32)) ∧ z150 = (10 : Int32)) ∨ ((¬ (v130 = (0 : Int32))) ∧ (v130 = (1 : Int32)) ∧ z150 = (133 : Int32)) ∨ (∃ (z141 : Int32), (¬ (v130 = (0 : Int32))) ∧ (¬ (v130 = (1 : Int32))) ∧ (v130 = (2 : Int32)) ∧ ((((p4 &&& (1 : Int32)) = (0 : Int32)) ∧ z141 = (13 : Int32)) ∨ ((¬ ((p4 &&& (1 : Int32)) = (0 : Int32))) ∧ z141 = (8232 : Int32))) ∧ z150 = z141) ∨ (∃ (v143 : Int32), (¬ (v130 = (0 : Int32))) ∧ (¬ (v130 = (1 : Int32))) ∧ (¬ (v130 = (2 : Int32))) ∧ ((p4.toUInt32.toUInt16.toUInt32.toInt32) = v143) ∧ z150 = v143)) (hj161 : ((z150 = (10 : Int32)) ∧ z160 = (1 : Int32)) ∨ ((¬ (z150 = (10 : Int32))) ∧ (z150 = (133 : Int32)) ∧ z160 = (1 : Int32)) ∨ ((¬ (z150 = (10 : Int32))) ∧ (¬ (z150 = (133 : Int32))) ∧ z160 = (0 : Int32))) (hp175 : (∃ (o14 : Int32), (own_eq3 (own_li [49, 46, 49]) (own_li [49, 46, 49]) o14) ∧ o169 = (nar .boolean o14))) (hp178 : own_is (own_join z150 o169) o177) (c179 : ¬ (o177 = z160)) : False := by
  have hE : own_is (own_join z150 (1 : Int32)) z160 := by
    clear c179 hp178 hp175 hj151 hv130 c128 c2 hv1
    simp only [own_is, own_join]
    grind
  have hx := (own_x1 hp175)
  exact c179 (own_isE hp178 hE (own_jx hx))
theorem ob_0_42 (f_CS : Int32) (p0 : Int32) (p3 : Int32) (p4 : Int32) (v1 : Int32) (v278 : Int32) (z298 : Int32) (z308 : Int32) (o317 : Int32) (o325 : Int32) (o329 : Int32) (o339 : Int32) (o347 : Int32) (o348 : Int32) (o349 : Int32) (o357 : Int32) (o358 : Int32) (o359 : Int32) (hn_CS : ¬ (f_CS = (0 : Int32))) (hv1 : (p0 &&& (3 : Int32)) = v1) (c2 : ¬ (v1 = (0 : Int32))) (c128 : ¬ (v1 = (1 : Int32))) (c276 : v1 = (2 : Int32)) (hv278 : (p3 &&& (3 : Int32)) = v278) (hj299 : ((v278 = (0 : Int32)) ∧ z298 = (10 : Int32)) ∨ ((¬ (v278 = (0 : Int32))) ∧ (v278 = (1 : Int32)) ∧ z298 = (133 : Int32)) ∨ (∃ (z289 : Int32), (¬ (v278 = (0 : Int32))) ∧ (¬ (v278 = (1 : Int32))) ∧ (v278 = (2 : Int32)) ∧ ((((p4 &&& (1 : Int32)) = (0 : Int32)) ∧ z289 = (13 : Int32)) ∨ ((¬ ((p4 &&& (1 : Int32)) = (0 : Int32))) ∧ z289 = (8232 : Int32))) ∧ z298 = z289) ∨ (∃ (v291 : Int32), (¬ (v278 = (0 : Int32))) ∧ (¬ (v278 = (1 : Int32))) ∧ (¬ (v278 = (2 : Int32))) ∧ ((p4.toUInt32.toUInt16.toUInt32.toInt32) = v291) ∧ z298 = v291)) (hj309 : ((z298 = (10 : Int32)) ∧ z308 = (1 : Int32)) ∨ ((¬ (z298 = (10 : Int32))) ∧ (z298 = (133 : Int32)) ∧ z308 = (0 : Int32)) ∨ ((¬ (z298 = (10 : Int32))) ∧ (¬ (z298 = (133 : Int32))) ∧ z308 = (0 : Int32))) (hp323 : (∃ (o14 : Int32), (own_eq3 (own_li [49, 46, 49]) (own_li [49, 46, 48]) o14) ∧ o317 = (nar .boolean o14))) (hp326 : own_is (own_join z298 o317) o325) (c327 : o325 = z308) (hp330 : own_is (own_ends z298 o317) o329) (c331 : o325 = (0 : Int32)) (hp345 : (∃ (o14 : Int32), (own_eq3 (own_li [49, 46, 49]) (own_li [49, 46, 48]) o14) ∧ o339 = (nar .boolean o14))) (hp355 : own_cnt (13 : Int32) (0 : Int32) o339 (1 : Int32) (1 : Int32) o347 o348 o349) (hp365 : own_cnt z298 o347 o339 o348 o349 o357 o358 o359) (c366 : z308 = (0 : Int32)) (c367 : o329 = (0 : Int32)) (c369 : o359 = (2 : Int32)) (c371 : ¬ (o358 = (2 : Int32))) : False := by
  have hE : own_is (own_join z298 (0 : Int32)) z308 := by
    clear c371 c369 c367 c366 hp365 hp355 hp345 c331 hp330 c327 hp326 hp323 hj299 hv278 c276 c128 c2 hv1
    simp only [own_is, own_join]
    grind
  have hx := (own_x0 hp323)
  obtain ⟨t1, t2, t3⟩ := own_two (own_x0 hp345) hp355 hp365
  obtain ⟨r1, r2⟩ := t3 (fun h => own_is0 hp330 c367 ((own_ex hx).mpr h))
  first | exact c371 r1 | exact c371 r2
theorem ob_0_43 (f_CS : Int32) (p0 : Int32) (p3 : Int32) (p4 : Int32) (v1 : Int32) (v278 : Int32) (z298 : Int32) (z308 : Int32) (o317 : Int32) (o325 : Int32) (o329 : Int32) (o339 : Int32) (o347 : Int32) (o348 : Int32) (o349 : Int32) (o357 : Int32) (o358 : Int32) (o359 : Int32) (hn_CS : ¬ (f_CS = (0 : Int32))) (hv1 : (p0 &&& (3 : Int32)) = v1) (c2 : ¬ (v1 = (0 : Int32))) (c128 : ¬ (v1 = (1 : Int32))) (c276 : v1 = (2 : Int32)) (hv278 : (p3 &&& (3 : Int32)) = v278) (hj299 : ((v278 = (0 : Int32)) ∧ z298 = (10 : Int32)) ∨ ((¬ (v278 = (0 : Int32))) ∧ (v278 = (1 : Int32)) ∧ z298 = (133 : Int32)) ∨ (∃ (z289 : Int32), (¬ (v278 = (0 : Int32))) ∧ (¬ (v278 = (1 : Int32))) ∧ (v278 = (2 : Int32)) ∧ ((((p4 &&& (1 : Int32)) = (0 : Int32)) ∧ z289 = (13 : Int32)) ∨ ((¬ ((p4 &&& (1 : Int32)) = (0 : Int32))) ∧ z289 = (8232 : Int32))) ∧ z298 = z289) ∨ (∃ (v291 : Int32), (¬ (v278 = (0 : Int32))) ∧ (¬ (v278 = (1 : Int32))) ∧ (¬ (v278 = (2 : Int32))) ∧ ((p4.toUInt32.toUInt16.toUInt32.toInt32) = v291) ∧ z298 = v291)) (hj309 : ((z298 = (10 : Int32)) ∧ z308 = (1 : Int32)) ∨ ((¬ (z298 = (10 : Int32))) ∧ (z298 = (133 : Int32)) ∧ z308 = (0 : Int32)) ∨ ((¬ (z298 = (10 : Int32))) ∧ (¬ (z298 = (133 : Int32))) ∧ z308 = (0 : Int32))) (hp323 : (∃ (o14 : Int32), (own_eq3 (own_li [49, 46, 49]) (own_li [49, 46, 48]) o14) ∧ o317 = (nar .boolean o14))) (hp326 : own_is (own_join z298 o317) o325) (c327 : o325 = z308) (hp330 : own_is (own_ends z298 o317) o329) (c331 : o325 = (0 : Int32)) (hp345 : (∃ (o14 : Int32), (own_eq3 (own_li [49, 46, 49]) (own_li [49, 46, 48]) o14) ∧ o339 = (nar .boolean o14))) (hp355 : own_cnt (13 : Int32) (0 : Int32) o339 (1 : Int32) (1 : Int32) o347 o348 o349) (hp365 : own_cnt z298 o347 o339 o348 o349 o357 o358 o359) (c366 : z308 = (0 : Int32)) (c367 : o329 = (0 : Int32)) (c369 : ¬ (o359 = (2 : Int32))) : False := by
  have hE : own_is (own_join z298 (0 : Int32)) z308 := by
    clear c369 c367 c366 hp365 hp355 hp345 c331 hp330 c327 hp326 hp323 hj299 hv278 c276 c128 c2 hv1
    simp only [own_is, own_join]
    grind
  have hx := (own_x0 hp323)
  obtain ⟨t1, t2, t3⟩ := own_two (own_x0 hp345) hp355 hp365
  obtain ⟨r1, r2⟩ := t3 (fun h => own_is0 hp330 c367 ((own_ex hx).mpr h))
  first | exact c369 r1 | exact c369 r2
theorem ob_0_44 (f_CS : Int32) (p0 : Int32) (p3 : Int32) (p4 : Int32) (v1 : Int32) (v278 : Int32) (z298 : Int32) (z308 : Int32) (o317 : Int32) (o325 : Int32) (o329 : Int32) (o339 : Int32) (o347 : Int32) (o348 : Int32) (o349 : Int32) (o357 : Int32) (o358 : Int32) (o359 : Int32) (hn_CS : ¬ (f_CS = (0 : Int32))) (hv1 : (p0 &&& (3 : Int32)) = v1) (c2 : ¬ (v1 = (0 : Int32))) (c128 : ¬ (v1 = (1 : Int32))) (c276 : v1 = (2 : Int32)) (hv278 : (p3 &&& (3 : Int32)) = v278) (hj299 : ((v278 = (0 : Int32)) ∧ z298 = (10 : Int32)) ∨ ((¬ (v278 = (0 : Int32))) ∧ (v278 = (1 : Int32)) ∧ z298 = (133 : Int32)) ∨ (∃ (z289 : Int32), (¬ (v278 = (0 : Int32))) ∧ (¬ (v278 = (1 : Int32))) ∧ (v278 = (2 : Int32)) ∧ ((((p4 &&& (1 : Int32)) = (0 : Int32)) ∧ z289 = (13 : Int32)) ∨ ((¬ ((p4 &&& (1 : Int32)) = (0 : Int32))) ∧ z289 = (8232 : Int32))) ∧ z298 = z289) ∨ (∃ (v291 : Int32), (¬ (v278 = (0 : Int32))) ∧ (¬ (v278 = (1 : Int32))) ∧ (¬ (v278 = (2 : Int32))) ∧ ((p4.toUInt32.toUInt16.toUInt32.toInt32) = v291) ∧ z298 = v291)) (hj309 : ((z298 = (10 : Int32)) ∧ z308 = (1 : Int32)) ∨ ((¬ (z298 = (10 : Int32))) ∧ (z298 = (133 : Int32)) ∧ z308 = (0 : Int32)) ∨ ((¬ (z298 = (10 : Int32))) ∧ (¬ (z298 = (133 : Int32))) ∧ z308 = (0 : Int32))) (hp323 : (∃ (o14 : Int32), (own_eq3 (own_li [49, 46, 49]) (own_li [49, 46, 48]) o14) ∧ o317 = (nar .boolean o14))) (hp326 : own_is (own_join z298 o317) o325) (c327 : o325 = z308) (hp330 : own_is (own_ends z298 o317) o329) (c331 : o325 = (0 : Int32)) (hp345 : (∃ (o14 : Int32), (own_eq3 (own_li [49, 46, 49]) (own_li [49, 46, 48]) o14) ∧ o339 = (nar .boolean o14))) (hp355 : own_cnt (13 : Int32) (0 : Int32) o339 (1 : Int32) (1 : Int32) o347 o348 o349) (hp365 : own_cnt z298 o347 o339 o348 o349 o357 o358 o359) (c366 : z308 = (0 : Int32)) (c367 : ¬ (o329 = (0 : Int32))) (c373 : o359 = (3 : Int32)) (c375 : ¬ (o358 = (1 : Int32))) : False := by
  have hE : own_is (own_join z298 (0 : Int32)) z308 := by
    clear c375 c373 c367 c366 hp365 hp355 hp345 c331 hp330 c327 hp326 hp323 hj299 hv278 c276 c128 c2 hv1
    simp only [own_is, own_join]
    grind
  have hx := (own_x0 hp323)
  obtain ⟨t1, t2, t3⟩ := own_two (own_x0 hp345) hp355 hp365
  obtain ⟨r1, r2⟩ := t2 (own_is0 hE c366) ((own_ex hx).mp (own_is1 hp330 c367))
  first | exact c375 r1 | exact c375 r2
theorem ob_0_45 (f_CS : Int32) (p0 : Int32) (p3 : Int32) (p4 : Int32) (v1 : Int32) (v278 : Int32) (z298 : Int32) (z308 : Int32) (o317 : Int32) (o325 : Int32) (o329 : Int32) (o339 : Int32) (o347 : Int32) (o348 : Int32) (o349 : Int32) (o357 : Int32) (o358 : Int32) (o359 : Int32) (hn_CS : ¬ (f_CS = (0 : Int32))) (hv1 : (p0 &&& (3 : Int32)) = v1) (c2 : ¬ (v1 = (0 : Int32))) (c128 : ¬ (v1 = (1 : Int32))) (c276 : v1 = (2 : Int32)) (hv278 : (p3 &&& (3 : Int32)) = v278) (hj299 : ((v278 = (0 : Int32)) ∧ z298 = (10 : Int32)) ∨ ((¬ (v278 = (0 : Int32))) ∧ (v278 = (1 : Int32)) ∧ z298 = (133 : Int32)) ∨ (∃ (z289 : Int32), (¬ (v278 = (0 : Int32))) ∧ (¬ (v278 = (1 : Int32))) ∧ (v278 = (2 : Int32)) ∧ ((((p4 &&& (1 : Int32)) = (0 : Int32)) ∧ z289 = (13 : Int32)) ∨ ((¬ ((p4 &&& (1 : Int32)) = (0 : Int32))) ∧ z289 = (8232 : Int32))) ∧ z298 = z289) ∨ (∃ (v291 : Int32), (¬ (v278 = (0 : Int32))) ∧ (¬ (v278 = (1 : Int32))) ∧ (¬ (v278 = (2 : Int32))) ∧ ((p4.toUInt32.toUInt16.toUInt32.toInt32) = v291) ∧ z298 = v291)) (hj309 : ((z298 = (10 : Int32)) ∧ z308 = (1 : Int32)) ∨ ((¬ (z298 = (10 : Int32))) ∧ (z298 = (133 : Int32)) ∧ z308 = (0 : Int32)) ∨ ((¬ (z298 = (10 : Int32))) ∧ (¬ (z298 = (133 : Int32))) ∧ z308 = (0 : Int32))) (hp323 : (∃ (o14 : Int32), (own_eq3 (own_li [49, 46, 49]) (own_li [49, 46, 48]) o14) ∧ o317 = (nar .boolean o14))) (hp326 : own_is (own_join z298 o317) o325) (c327 : o325 = z308) (hp330 : own_is (own_ends z298 o317) o329) (c331 : o325 = (0 : Int32)) (hp345 : (∃ (o14 : Int32), (own_eq3 (own_li [49, 46, 49]) (own_li [49, 46, 48]) o14) ∧ o339 = (nar .boolean o14))) (hp355 : own_cnt (13 : Int32) (0 : Int32) o339 (1 : Int32) (1 : Int32) o347 o348 o349) (hp365 : own_cnt z298 o347 o339 o348 o349 o357 o358 o359) (c366 : z308 = (0 : Int32)) (c367 : ¬ (o329 = (0 : Int32))) (c373 : ¬ (o359 = (3 : Int32))) : False := by
  have hE : own_is (own_join z298 (0 : Int32)) z308 := by
    clear c373 c367 c366 hp365 hp355 hp345 c331 hp330 c327 hp326 hp323 hj299 hv278 c276 c128 c2 hv1
    simp only [own_is, own_join]
    grind
  have hx := (own_x0 hp323)
  obtain ⟨t1, t2, t3⟩ := own_two (own_x0 hp345) hp355 hp365
  obtain ⟨r1, r2⟩ := t2 (own_is0 hE c366) ((own_ex hx).mp (own_is1 hp330 c367))
  first | exact c373 r1 | exact c373 r2
theorem ob_0_46 (f_CS : Int32) (p0 : Int32) (p3 : Int32) (p4 : Int32) (v1 : Int32) (v278 : Int32) (z298 : Int32) (z308 : Int32) (o317 : Int32) (o325 : Int32) (o329 : Int32) (o339 : Int32) (o347 : Int32) (o348 : Int32) (o349 : Int32) (o357 : Int32) (o358 : Int32) (o359 : Int32) (hn_CS : ¬ (f_CS = (0 : Int32))) (hv1 : (p0 &&& (3 : Int32)) = v1) (c2 : ¬ (v1 = (0 : Int32))) (c128 : ¬ (v1 = (1 : Int32))) (c276 : v1 = (2 : Int32)) (hv278 : (p3 &&& (3 : Int32)) = v278) (hj299 : ((v278 = (0 : Int32)) ∧ z298 = (10 : Int32)) ∨ ((¬ (v278 = (0 : Int32))) ∧ (v278 = (1 : Int32)) ∧ z298 = (133 : Int32)) ∨ (∃ (z289 : Int32), (¬ (v278 = (0 : Int32))) ∧ (¬ (v278 = (1 : Int32))) ∧ (v278 = (2 : Int32)) ∧ ((((p4 &&& (1 : Int32)) = (0 : Int32)) ∧ z289 = (13 : Int32)) ∨ ((¬ ((p4 &&& (1 : Int32)) = (0 : Int32))) ∧ z289 = (8232 : Int32))) ∧ z298 = z289) ∨ (∃ (v291 : Int32), (¬ (v278 = (0 : Int32))) ∧ (¬ (v278 = (1 : Int32))) ∧ (¬ (v278 = (2 : Int32))) ∧ ((p4.toUInt32.toUInt16.toUInt32.toInt32) = v291) ∧ z298 = v291)) (hj309 : ((z298 = (10 : Int32)) ∧ z308 = (1 : Int32)) ∨ ((¬ (z298 = (10 : Int32))) ∧ (z298 = (133 : Int32)) ∧ z308 = (0 : Int32)) ∨ ((¬ (z298 = (10 : Int32))) ∧ (¬ (z298 = (133 : Int32))) ∧ z308 = (0 : Int32))) (hp323 : (∃ (o14 : Int32), (own_eq3 (own_li [49, 46, 49]) (own_li [49, 46, 48]) o14) ∧ o317 = (nar .boolean o14))) (hp326 : own_is (own_join z298 o317) o325) (c327 : o325 = z308) (hp330 : own_is (own_ends z298 o317) o329) (c331 : o325 = (0 : Int32)) (hp345 : (∃ (o14 : Int32), (own_eq3 (own_li [49, 46, 49]) (own_li [49, 46, 48]) o14) ∧ o339 = (nar .boolean o14))) (hp355 : own_cnt (13 : Int32) (0 : Int32) o339 (1 : Int32) (1 : Int32) o347 o348 o349) (hp365 : own_cnt z298 o347 o339 o348 o349 o357 o358 o359) (c366 : ¬ (z308 = (0 : Int32))) (c377 : o359 = (2 : Int32)) (c379 : ¬ (o358 = (1 : Int32))) : False := by
  have hE : own_is (own_join z298 (0 : Int32)) z308 := by
    clear c379 c377 c366 hp365 hp355 hp345 c331 hp330 c327 hp326 hp323 hj299 hv278 c276 c128 c2 hv1
    simp only [own_is, own_join]
    grind
  have hx := (own_x0 hp323)
  obtain ⟨t1, t2, t3⟩ := own_two (own_x0 hp345) hp355 hp365
  obtain ⟨r1, r2⟩ := t1 (own_is1 hE c366)
  first | exact c379 r1 | exact c379 r2
theorem ob_0_47 (f_CS : Int32) (p0 : Int32) (p3 : Int32) (p4 : Int32) (v1 : Int32) (v278 : Int32) (z298 : Int32) (z308 : Int32) (o317 : Int32) (o325 : Int32) (o329 : Int32) (o339 : Int32) (o347 : Int32) (o348 : Int32) (o349 : Int32) (o357 : Int32) (o358 : Int32) (o359 : Int32) (hn_CS : ¬ (f_CS = (0 : Int32))) (hv1 : (p0 &&& (3 : Int32)) = v1) (c2 : ¬ (v1 = (0 : Int32))) (c128 : ¬ (v1 = (1 : Int32))) (c276 : v1 = (2 : Int32)) (hv278 : (p3 &&& (3 : Int32)) = v278) (hj299 : ((v278 = (0 : Int32)) ∧ z298 = (10 : Int32)) ∨ ((¬ (v278 = (0 : Int32))) ∧ (v278 = (1 : Int32)) ∧ z298 = (133 : Int32)) ∨ (∃ (z289 : Int32), (¬ (v278 = (0 : Int32))) ∧ (¬ (v278 = (1 : Int32))) ∧ (v278 = (2 : Int32)) ∧ ((((p4 &&& (1 : Int32)) = (0 : Int32)) ∧ z289 = (13 : Int32)) ∨ ((¬ ((p4 &&& (1 : Int32)) = (0 : Int32))) ∧ z289 = (8232 : Int32))) ∧ z298 = z289) ∨ (∃ (v291 : Int32), (¬ (v278 = (0 : Int32))) ∧ (¬ (v278 = (1 : Int32))) ∧ (¬ (v278 = (2 : Int32))) ∧ ((p4.toUInt32.toUInt16.toUInt32.toInt32) = v291) ∧ z298 = v291)) (hj309 : ((z298 = (10 : Int32)) ∧ z308 = (1 : Int32)) ∨ ((¬ (z298 = (10 : Int32))) ∧ (z298 = (133 : Int32)) ∧ z308 = (0 : Int32)) ∨ ((¬ (z298 = (10 : Int32))) ∧ (¬ (z298 = (133 : Int32))) ∧ z308 = (0 : Int32))) (hp323 : (∃ (o14 : Int32), (own_eq3 (own_li [49, 46, 49]) (own_li [49, 46, 48]) o14) ∧ o317 = (nar .boolean o14))) (hp326 : own_is (own_join z298 o317) o325) (c327 : o325 = z308) (hp330 : own_is (own_ends z298 o317) o329) (c331 : o325 = (0 : Int32)) (hp345 : (∃ (o14 : Int32), (own_eq3 (own_li [49, 46, 49]) (own_li [49, 46, 48]) o14) ∧ o339 = (nar .boolean o14))) (hp355 : own_cnt (13 : Int32) (0 : Int32) o339 (1 : Int32) (1 : Int32) o347 o348 o349) (hp365 : own_cnt z298 o347 o339 o348 o349 o357 o358 o359) (c366 : ¬ (z308 = (0 : Int32))) (c377 : ¬ (o359 = (2 : Int32))) : False := by
  have hE : own_is (own_join z298 (0 : Int32)) z308 := by
    clear c377 c366 hp365 hp355 hp345 c331 hp330 c327 hp326 hp323 hj299 hv278 c276 c128 c2 hv1
    simp only [own_is, own_join]
    grind
  have hx := (own_x0 hp323)
  obtain ⟨t1, t2, t3⟩ := own_two (own_x0 hp345) hp355 hp365
  obtain ⟨r1, r2⟩ := t1 (own_is1 hE c366)
  first | exact c377 r1 | exact c377 r2
theorem ob_0_48 (f_CS : Int32) (p0 : Int32) (p3 : Int32) (p4 : Int32) (v1 : Int32) (v278 : Int32) (z298 : Int32) (z308 : Int32) (o317 : Int32) (o325 : Int32) (o329 : Int32) (hn_CS : ¬ (f_CS = (0 : Int32))) (hv1 : (p0 &&& (3 : Int32)) = v1) (c2 : ¬ (v1 = (0 : Int32))) (c128 : ¬ (v1 = (1 : Int32))) (c276 : v1 = (2 : Int32)) (hv278 : (p3 &&& (3 : Int32)) = v278) (hj299 : ((v278 = (0 : Int32)) ∧ z298 = (10 : Int32)) ∨ ((¬ (v278 = (0 : Int32))) ∧ (v278 = (1 : Int32)) ∧ z298 = (133 : Int32)) ∨ (∃ (z289 : Int32), (¬ (v278 = (0 : Int32))) ∧ (¬ (v278 = (1 : Int32))) ∧ (v278 = (2 : Int32)) ∧ ((((p4 &&& (1 : Int32)) = (0 : Int32)) ∧ z289 = (13 : Int32)) ∨ ((¬ ((p4 &&& (1 : Int32)) = (0 : Int32))) ∧ z289 = (8232 : Int32))) ∧ z298 = z289) ∨ (∃ (v291 : Int32), (¬ (v278 = (0 : Int32))) ∧ (¬ (v278 = (1 : Int32))) ∧ (¬ (v278 = (2 : Int32))) ∧ ((p4.toUInt32.toUInt16.toUInt32.toInt32) = v291) ∧ z298 = v291)) (hj309 : ((z298 = (10 : Int32)) ∧ z308 = (1 : Int32)) ∨ ((¬ (z298 = (10 : Int32))) ∧ (z298 = (133 : Int32)) ∧ z308 = (0 : Int32)) ∨ ((¬ (z298 = (10 : Int32))) ∧ (¬ (z298 = (133 : Int32))) ∧ z308 = (0 : Int32))) (hp323 : (∃ (o14 : Int32), (own_eq3 (own_li [49, 46, 49]) (own_li [49, 46, 48]) o14) ∧ o317 = (nar .boolean o14))) (hp326 : own_is (own_join z298 o317) o325) (c327 : o325 = z308) (hp330 : own_is (own_ends z298 o317) o329) (c331 : ¬ (o325 = (0 : Int32))) (c380 : o329 = (0 : Int32)) : False := by
  have hE : own_is (own_join z298 (0 : Int32)) z308 := by
    clear c380 c331 hp330 c327 hp326 hp323 hj299 hv278 c276 c128 c2 hv1
    simp only [own_is, own_join]
    grind
  have hx := (own_x0 hp323)
  exact own_is0 hp330 c380 (own_je (own_is1 hp326 c331))
theorem ob_0_49 (f_CS : Int32) (p0 : Int32) (p3 : Int32) (p4 : Int32) (v1 : Int32) (v278 : Int32) (z298 : Int32) (z308 : Int32) (o317 : Int32) (o325 : Int32) (o329 : Int32) (o388 : Int32) (o396 : Int32) (o397 : Int32) (o398 : Int32) (o406 : Int32) (o407 : Int32) (o408 : Int32) (hn_CS : ¬ (f_CS = (0 : Int32))) (hv1 : (p0 &&& (3 : Int32)) = v1) (c2 : ¬ (v1 = (0 : Int32))) (c128 : ¬ (v1 = (1 : Int32))) (c276 : v1 = (2 : Int32)) (hv278 : (p3 &&& (3 : Int32)) = v278) (hj299 : ((v278 = (0 : Int32)) ∧ z298 = (10 : Int32)) ∨ ((¬ (v278 = (0 : Int32))) ∧ (v278 = (1 : Int32)) ∧ z298 = (133 : Int32)) ∨ (∃ (z289 : Int32), (¬ (v278 = (0 : Int32))) ∧ (¬ (v278 = (1 : Int32))) ∧ (v278 = (2 : Int32)) ∧ ((((p4 &&& (1 : Int32)) = (0 : Int32)) ∧ z289 = (13 : Int32)) ∨ ((¬ ((p4 &&& (1 : Int32)) = (0 : Int32))) ∧ z289 = (8232 : Int32))) ∧ z298 = z289) ∨ (∃ (v291 : Int32), (¬ (v278 = (0 : Int32))) ∧ (¬ (v278 = (1 : Int32))) ∧ (¬ (v278 = (2 : Int32))) ∧ ((p4.toUInt32.toUInt16.toUInt32.toInt32) = v291) ∧ z298 = v291)) (hj309 : ((z298 = (10 : Int32)) ∧ z308 = (1 : Int32)) ∨ ((¬ (z298 = (10 : Int32))) ∧ (z298 = (133 : Int32)) ∧ z308 = (0 : Int32)) ∨ ((¬ (z298 = (10 : Int32))) ∧ (¬ (z298 = (133 : Int32))) ∧ z308 = (0 : Int32))) (hp323 : (∃ (o14 : Int32), (own_eq3 (own_li [49, 46, 49]) (own_li [49, 46, 48]) o14) ∧ o317 = (nar .boolean o14))) (hp326 : own_is (own_join z298 o317) o325) (c327 : o325 = z308) (hp330 : own_is (own_ends z298 o317) o329) (c331 : ¬ (o325 = (0 : Int32))) (c380 : ¬ (o329 = (0 : Int32))) (hp394 : (∃ (o14 : Int32), (own_eq3 (own_li [49, 46, 49]) (own_li [49, 46, 48]) o14) ∧ o388 = (nar .boolean o14))) (hp404 : own_cnt (13 : Int32) (0 : Int32) o388 (1 : Int32) (1 : Int32) o396 o397 o398) (hp414 : own_cnt z298 o396 o388 o397 o398 o406 o407 o408) (c415 : z308 = (0 : Int32)) (c417 : o408 = (3 : Int32)) (c419 : ¬ (o407 = (1 : Int32))) : False := by
  have hE : own_is (own_join z298 (0 : Int32)) z308 := by
    clear c419 c417 c415 hp414 hp404 hp394 c380 c331 hp330 c327 hp326 hp323 hj299 hv278 c276 c128 c2 hv1
    simp only [own_is, own_join]
    grind
  have hx := (own_x0 hp323)
  obtain ⟨t1, t2, t3⟩ := own_two (own_x0 hp394) hp404 hp414
  obtain ⟨r1, r2⟩ := t2 (own_is0 hE c415) ((own_ex hx).mp (own_is1 hp330 c380))
  first | exact c419 r1 | exact c419 r2
theorem ob_0_50 (f_CS : Int32) (p0 : Int32) (p3 : Int32) (p4 : Int32) (v1 : Int32) (v278 : Int32) (z298 : Int32) (z308 : Int32) (o317 : Int32) (o325 : Int32) (o329 : Int32) (o388 : Int32) (o396 : Int32) (o397 : Int32) (o398 : Int32) (o406 : Int32) (o407 : Int32) (o408 : Int32) (hn_CS : ¬ (f_CS = (0 : Int32))) (hv1 : (p0 &&& (3 : Int32)) = v1) (c2 : ¬ (v1 = (0 : Int32))) (c128 : ¬ (v1 = (1 : Int32))) (c276 : v1 = (2 : Int32)) (hv278 : (p3 &&& (3 : Int32)) = v278) (hj299 : ((v278 = (0 : Int32)) ∧ z298 = (10 : Int32)) ∨ ((¬ (v278 = (0 : Int32))) ∧ (v278 = (1 : Int32)) ∧ z298 = (133 : Int32)) ∨ (∃ (z289 : Int32), (¬ (v278 = (0 : Int32))) ∧ (¬ (v278 = (1 : Int32))) ∧ (v278 = (2 : Int32)) ∧ ((((p4 &&& (1 : Int32)) = (0 : Int32)) ∧ z289 = (13 : Int32)) ∨ ((¬ ((p4 &&& (1 : Int32)) = (0 : Int32))) ∧ z289 = (8232 : Int32))) ∧ z298 = z289) ∨ (∃ (v291 : Int32), (¬ (v278 = (0 : Int32))) ∧ (¬ (v278 = (1 : Int32))) ∧ (¬ (v278 = (2 : Int32))) ∧ ((p4.toUInt32.toUInt16.toUInt32.toInt32) = v291) ∧ z298 = v291)) (hj309 : ((z298 = (10 : Int32)) ∧ z308 = (1 : Int32)) ∨ ((¬ (z298 = (10 : Int32))) ∧ (z298 = (133 : Int32)) ∧ z308 = (0 : Int32)) ∨ ((¬ (z298 = (10 : Int32))) ∧ (¬ (z298 = (133 : Int32))) ∧ z308 = (0 : Int32))) (hp323 : (∃ (o14 : Int32), (own_eq3 (own_li [49, 46, 49]) (own_li [49, 46, 48]) o14) ∧ o317 = (nar .boolean o14))) (hp326 : own_is (own_join z298 o317) o325) (c327 : o325 = z308) (hp330 : own_is (own_ends z298 o317) o329) (c331 : ¬ (o325 = (0 : Int32))) (c380 : ¬ (o329 = (0 : Int32))) (hp394 : (∃ (o14 : Int32), (own_eq3 (own_li [49, 46, 49]) (own_li [49, 46, 48]) o14) ∧ o388 = (nar .boolean o14))) (hp404 : own_cnt (13 : Int32) (0 : Int32) o388 (1 : Int32) (1 : Int32) o396 o397 o398) (hp414 : own_cnt z298 o396 o388 o397 o398 o406 o407 o408) (c415 : z308 = (0 : Int32)) (c417 : ¬ (o408 = (3 : Int32))) : False := by
  have hE : own_is (own_join z298 (0 : Int32)) z308 := by
    clear c417 c415 hp414 hp404 hp394 c380 c331 hp330 c327 hp326 hp323 hj299 hv278 c276 c128 c2 hv1
    simp only [own_is, own_join]
    grind
  have hx := (own_x0 hp323)
  obtain ⟨t1, t2, t3⟩ := own_two (own_x0 hp394) hp404 hp414
  obtain ⟨r1, r2⟩ := t2 (own_is0 hE c415) ((own_ex hx).mp (own_is1 hp330 c380))
  first | exact c417 r1 | exact c417 r2
theorem ob_0_51 (f_CS : Int32) (p0 : Int32) (p3 : Int32) (p4 : Int32) (v1 : Int32) (v278 : Int32) (z298 : Int32) (z308 : Int32) (o317 : Int32) (o325 : Int32) (o329 : Int32) (o388 : Int32) (o396 : Int32) (o397 : Int32) (o398 : Int32) (o406 : Int32) (o407 : Int32) (o408 : Int32) (hn_CS : ¬ (f_CS = (0 : Int32))) (hv1 : (p0 &&& (3 : Int32)) = v1) (c2 : ¬ (v1 = (0 : Int32))) (c128 : ¬ (v1 = (1 : Int32))) (c276 : v1 = (2 : Int32)) (hv278 : (p3 &&& (3 : Int32)) = v278) (hj299 : ((v278 = (0 : Int32)) ∧ z298 = (10 : Int32)) ∨ ((¬ (v278 = (0 : Int32))) ∧ (v278 = (1 : Int32)) ∧ z298 = (133 : Int32)) ∨ (∃ (z289 : Int32), (¬ (v278 = (0 : Int32))) ∧ (¬ (v278 = (1 : Int32))) ∧ (v278 = (2 : Int32)) ∧ ((((p4 &&& (1 : Int32)) = (0 : Int32)) ∧ z289 = (13 : Int32)) ∨ ((¬ ((p4 &&& (1 : Int32)) = (0 : Int32))) ∧ z289 = (8232 : Int32))) ∧ z298 = z289) ∨ (∃ (v291 : Int32), (¬ (v278 = (0 : Int32))) ∧ (¬ (v278 = (1 : Int32))) ∧ (¬ (v278 = (2 : Int32))) ∧ ((p4.toUInt32.toUInt16.toUInt32.toInt32) = v291) ∧ z298 = v291)) (hj309 : ((z298 = (10 : Int32)) ∧ z308 = (1 : Int32)) ∨ ((¬ (z298 = (10 : Int32))) ∧ (z298 = (133 : Int32)) ∧ z308 = (0 : Int32)) ∨ ((¬ (z298 = (10 : Int32))) ∧ (¬ (z298 = (133 : Int32))) ∧ z308 = (0 : Int32))) (hp323 : (∃ (o14 : Int32), (own_eq3 (own_li [49, 46, 49]) (own_li [49, 46, 48]) o14) ∧ o317 = (nar .boolean o14))) (hp326 : own_is (own_join z298 o317) o325) (c327 : o325 = z308) (hp330 : own_is (own_ends z298 o317) o329) (c331 : ¬ (o325 = (0 : Int32))) (c380 : ¬ (o329 = (0 : Int32))) (hp394 : (∃ (o14 : Int32), (own_eq3 (own_li [49, 46, 49]) (own_li [49, 46, 48]) o14) ∧ o388 = (nar .boolean o14))) (hp404 : own_cnt (13 : Int32) (0 : Int32) o388 (1 : Int32) (1 : Int32) o396 o397 o398) (hp414 : own_cnt z298 o396 o388 o397 o398 o406 o407 o408) (c415 : ¬ (z308 = (0 : Int32))) (c421 : o408 = (2 : Int32)) (c423 : ¬ (o407 = (1 : Int32))) : False := by
  have hE : own_is (own_join z298 (0 : Int32)) z308 := by
    clear c423 c421 c415 hp414 hp404 hp394 c380 c331 hp330 c327 hp326 hp323 hj299 hv278 c276 c128 c2 hv1
    simp only [own_is, own_join]
    grind
  have hx := (own_x0 hp323)
  obtain ⟨t1, t2, t3⟩ := own_two (own_x0 hp394) hp404 hp414
  obtain ⟨r1, r2⟩ := t1 (own_is1 hE c415)
  first | exact c423 r1 | exact c423 r2
theorem ob_0_52 (f_CS : Int32) (p0 : Int32) (p3 : Int32) (p4 : Int32) (v1 : Int32) (v278 : Int32) (z298 : Int32) (z308 : Int32) (o317 : Int32) (o325 : Int32) (o329 : Int32) (o388 : Int32) (o396 : Int32) (o397 : Int32) (o398 : Int32) (o406 : Int32) (o407 : Int32) (o408 : Int32) (hn_CS : ¬ (f_CS = (0 : Int32))) (hv1 : (p0 &&& (3 : Int32)) = v1) (c2 : ¬ (v1 = (0 : Int32))) (c128 : ¬ (v1 = (1 : Int32))) (c276 : v1 = (2 : Int32)) (hv278 : (p3 &&& (3 : Int32)) = v278) (hj299 : ((v278 = (0 : Int32)) ∧ z298 = (10 : Int32)) ∨ ((¬ (v278 = (0 : Int32))) ∧ (v278 = (1 : Int32)) ∧ z298 = (133 : Int32)) ∨ (∃ (z289 : Int32), (¬ (v278 = (0 : Int32))) ∧ (¬ (v278 = (1 : Int32))) ∧ (v278 = (2 : Int32)) ∧ ((((p4 &&& (1 : Int32)) = (0 : Int32)) ∧ z289 = (13 : Int32)) ∨ ((¬ ((p4 &&& (1 : Int32)) = (0 : Int32))) ∧ z289 = (8232 : Int32))) ∧ z298 = z289) ∨ (∃ (v291 : Int32), (¬ (v278 = (0 : Int32))) ∧ (¬ (v278 = (1 : Int32))) ∧ (¬ (v278 = (2 : Int32))) ∧ ((p4.toUInt32.toUInt16.toUInt32.toInt32) = v291) ∧ z298 = v291)) (hj309 : ((z298 = (10 : Int32)) ∧ z308 = (1 : Int32)) ∨ ((¬ (z298 = (10 : Int32))) ∧ (z298 = (133 : Int32)) ∧ z308 = (0 : Int32)) ∨ ((¬ (z298 = (10 : Int32))) ∧ (¬ (z298 = (133 : Int32))) ∧ z308 = (0 : Int32))) (hp323 : (∃ (o14 : Int32), (own_eq3 (own_li [49, 46, 49]) (own_li [49, 46, 48]) o14) ∧ o317 = (nar .boolean o14))) (hp326 : own_is (own_join z298 o317) o325) (c327 : o325 = z308) (hp330 : own_is (own_ends z298 o317) o329) (c331 : ¬ (o325 = (0 : Int32))) (c380 : ¬ (o329 = (0 : Int32))) (hp394 : (∃ (o14 : Int32), (own_eq3 (own_li [49, 46, 49]) (own_li [49, 46, 48]) o14) ∧ o388 = (nar .boolean o14))) (hp404 : own_cnt (13 : Int32) (0 : Int32) o388 (1 : Int32) (1 : Int32) o396 o397 o398) (hp414 : own_cnt z298 o396 o388 o397 o398 o406 o407 o408) (c415 : ¬ (z308 = (0 : Int32))) (c421 : ¬ (o408 = (2 : Int32))) : False := by
  have hE : own_is (own_join z298 (0 : Int32)) z308 := by
    clear c421 c415 hp414 hp404 hp394 c380 c331 hp330 c327 hp326 hp323 hj299 hv278 c276 c128 c2 hv1
    simp only [own_is, own_join]
    grind
  have hx := (own_x0 hp323)
  obtain ⟨t1, t2, t3⟩ := own_two (own_x0 hp394) hp404 hp414
  obtain ⟨r1, r2⟩ := t1 (own_is1 hE c415)
  first | exact c421 r1 | exact c421 r2
theorem ob_0_53 (f_CS : Int32) (p0 : Int32) (p3 : Int32) (p4 : Int32) (v1 : Int32) (v278 : Int32) (z298 : Int32) (z308 : Int32) (o317 : Int32) (o325 : Int32) (hn_CS : ¬ (f_CS = (0 : Int32))) (hv1 : (p0 &&& (3 : Int32)) = v1) (c2 : ¬ (v1 = (0 : Int32))) (c128 : ¬ (v1 = (1 : Int32))) (c276 : v1 = (2 : Int32)) (hv278 : (p3 &&& (3 : Int32)) = v278) (hj299 : ((v278 = (0 : Int32)) ∧ z298 = (10 : Int32)) ∨ ((¬ (v278 = (0 : Int32))) ∧ (v278 = (1 : Int32)) ∧ z298 = (133 : Int32)) ∨ (∃ (z289 : Int32), (¬ (v278 = (0 : Int32))) ∧ (¬ (v278 = (1 : Int32))) ∧ (v278 = (2 : Int32)) ∧ ((((p4 &&& (1 : Int32)) = (0 : Int32)) ∧ z289 = (13 : Int32)) ∨ ((¬ ((p4 &&& (1 : Int32)) = (0 : Int32))) ∧ z289 = (8232 : Int32))) ∧ z298 = z289) ∨ (∃ (v291 : Int32), (¬ (v278 = (0 : Int32))) ∧ (¬ (v278 = (1 : Int32))) ∧ (¬ (v278 = (2 : Int32))) ∧ ((p4.toUInt32.toUInt16.toUInt32.toInt32) = v291) ∧ z298 = v291)) (hj309 : ((z298 = (10 : Int32)) ∧ z308 = (1 : Int32)) ∨ ((¬ (z298 = (10 : Int32))) ∧ (z298 = (133 : Int32)) ∧ z308 = (0 : Int32)) ∨ ((¬ (z298 = (10 : Int32))) ∧ (¬ (z298 = (133 : Int32))) ∧ z308 = (0 : Int32))) (hp323 : (∃ (o14 : Int32), (own_eq3 (own_li [49, 46, 49]) (own_li [49, 46, 48]) o14) ∧ o317 = (nar .boolean o14))) (hp326 : own_is (own_join z298 o317) o325) (c327 : ¬ (o325 = z308)) : False := by
  have hE : own_is (own_join z298 (0 : Int32)) z308 := by
    clear c327 hp326 hp323 hj299 hv278 c276 c128 c2 hv1
    simp only [own_is, own_join]
    grind
  have hx := (own_x0 hp323)
  exact c327 (own_isE hp326 hE (own_jx hx))
theorem ob_0_54 (f_CS : Int32) (p0 : Int32) (p1 : Int32) (v1 : Int32) (hn_CS : ¬ (f_CS = (0 : Int32))) (hv1 : (p0 &&& (3 : Int32)) = v1) (c2 : ¬ (v1 = (0 : Int32))) (c128 : ¬ (v1 = (1 : Int32))) (c276 : ¬ (v1 = (2 : Int32))) : ¬ ((255 : Int32) < (nar .char ((p1 &&& (255 : Int32)).toUInt32.toUInt16.toUInt32.toInt32))) := by
  exact own_ch _
theorem ob_0_55 (f_CS : Int32) (p0 : Int32) (p1 : Int32) (v1 : Int32) (hn_CS : ¬ (f_CS = (0 : Int32))) (hv1 : (p0 &&& (3 : Int32)) = v1) (c2 : ¬ (v1 = (0 : Int32))) (c128 : ¬ (v1 = (1 : Int32))) (c276 : ¬ (v1 = (2 : Int32))) : ¬ ((255 : Int32) < (nar .char ((((p1.toUInt32 >>> ((8 : Int32) &&& 31).toUInt32).toInt32) &&& (255 : Int32)).toUInt32.toUInt16.toUInt32.toInt32))) := by
  exact own_ch _
theorem ob_0_56 (f_CS : Int32) (p0 : Int32) (p2 : Int32) (v1 : Int32) (hn_CS : ¬ (f_CS = (0 : Int32))) (hv1 : (p0 &&& (3 : Int32)) = v1) (c2 : ¬ (v1 = (0 : Int32))) (c128 : ¬ (v1 = (1 : Int32))) (c276 : ¬ (v1 = (2 : Int32))) : ¬ ((255 : Int32) < (nar .char ((p2 &&& (255 : Int32)).toUInt32.toUInt16.toUInt32.toInt32))) := by
  exact own_ch _
theorem ob_0_57 (f_CS : Int32) (p0 : Int32) (p1 : Int32) (p2 : Int32) (p3 : Int32) (p4 : Int32) (v1 : Int32) (z456 : Int32) (v458 : Int32) (z478 : Int32) (z489 : Int32) (o498 : Int32) (o506 : Int32) (o510 : Int32) (o520 : Int32) (o528 : Int32) (o529 : Int32) (o530 : Int32) (o538 : Int32) (o539 : Int32) (o540 : Int32) (hn_CS : ¬ (f_CS = (0 : Int32))) (hv1 : (p0 &&& (3 : Int32)) = v1) (c2 : ¬ (v1 = (0 : Int32))) (c128 : ¬ (v1 = (1 : Int32))) (c276 : ¬ (v1 = (2 : Int32))) (hj457 : (((nar .char ((p1 &&& (255 : Int32)).toUInt32.toUInt16.toUInt32.toInt32)) = (49 : Int32)) ∧ ((nar .char ((((p1.toUInt32 >>> ((8 : Int32) &&& 31).toUInt32).toInt32) &&& (255 : Int32)).toUInt32.toUInt16.toUInt32.toInt32)) = (46 : Int32)) ∧ ((nar .char ((p2 &&& (255 : Int32)).toUInt32.toUInt16.toUInt32.toInt32)) = (49 : Int32)) ∧ z456 = (1 : Int32)) ∨ (((nar .char ((p1 &&& (255 : Int32)).toUInt32.toUInt16.toUInt32.toInt32)) = (49 : Int32)) ∧ ((nar .char ((((p1.toUInt32 >>> ((8 : Int32) &&& 31).toUInt32).toInt32) &&& (255 : Int32)).toUInt32.toUInt16.toUInt32.toInt32)) = (46 : Int32)) ∧ (¬ ((nar .char ((p2 &&& (255 : Int32)).toUInt32.toUInt16.toUInt32.toInt32)) = (49 : Int32))) ∧ z456 = (0 : Int32)) ∨ (((nar .char ((p1 &&& (255 : Int32)).toUInt32.toUInt16.toUInt32.toInt32)) = (49 : Int32)) ∧ (¬ ((nar .char ((((p1.toUInt32 >>> ((8 : Int32) &&& 31).toUInt32).toInt32) &&& (255 : Int32)).toUInt32.toUInt16.toUInt32.toInt32)) = (46 : Int32))) ∧ z456 = (0 : Int32)) ∨ ((¬ ((nar .char ((p1 &&& (255 : Int32)).toUInt32.toUInt16.toUInt32.toInt32)) = (49 : Int32))) ∧ z456 = (0 : Int32))) (hv458 : (p3 &&& (3 : Int32)) = v458) (hj479 : ((v458 = (0 : Int32)) ∧ z478 = (10 : Int32)) ∨ ((¬ (v458 = (0 : Int32))) ∧ (v458 = (1 : Int32)) ∧ z478 = (133 : Int32)) ∨ (∃ (z469 : Int32), (¬ (v458 = (0 : Int32))) ∧ (¬ (v458 = (1 : Int32))) ∧ (v458 = (2 : Int32)) ∧ ((((p4 &&& (1 : Int32)) = (0 : Int32)) ∧ z469 = (13 : Int32)) ∨ ((¬ ((p4 &&& (1 : Int32)) = (0 : Int32))) ∧ z469 = (8232 : Int32))) ∧ z478 = z469) ∨ (∃ (v471 : Int32), (¬ (v458 = (0 : Int32))) ∧ (¬ (v458 = (1 : Int32))) ∧ (¬ (v458 = (2 : Int32))) ∧ ((p4.toUInt32.toUInt16.toUInt32.toInt32) = v471) ∧ z478 = v471)) (hj490 : ((z478 = (10 : Int32)) ∧ z489 = (1 : Int32)) ∨ ((¬ (z478 = (10 : Int32))) ∧ (z478 = (133 : Int32)) ∧ (z456 = (0 : Int32)) ∧ z489 = (0 : Int32)) ∨ ((¬ (z478 = (10 : Int32))) ∧ (z478 = (133 : Int32)) ∧ (¬ (z456 = (0 : Int32))) ∧ z489 = (1 : Int32)) ∨ ((¬ (z478 = (10 : Int32))) ∧ (¬ (z478 = (133 : Int32))) ∧ z489 = (0 : Int32))) (hp504 : (∃ (o14 : Int32), (own_eq3 (own_li [49, 46, 49]) (own_upd (own_upd (own_upd (fun _ => (0 : Int32)) 0 (nar .byte ((nar .char ((p1 &&& (255 : Int32)).toUInt32.toUInt16.toUInt32.toInt32)).toInt8.toInt32))) 1 (nar .byte ((nar .char ((((p1.toUInt32 >>> ((8 : Int32) &&& 31).toUInt32).toInt32) &&& (255 : Int32)).toUInt32.toUInt16.toUInt32.toInt32)).toInt8.toInt32))) 2 (nar .byte ((nar .char ((p2 &&& (255 : Int32)).toUInt32.toUInt16.toUInt32.toInt32)).toInt8.toInt32))) o14) ∧ o498 = (nar .boolean o14))) (hp507 : own_is (own_join z478 o498) o506) (c508 : o506 = z489) (hp511 : own_is (own_ends z478 o498) o510) (c512 : o506 = (0 : Int32)) (hp526 : (∃ (o14 : Int32), (own_eq3 (own_li [49, 46, 49]) (own_upd (own_upd (own_upd (fun _ => (0 : Int32)) 0 (nar .byte ((nar .char ((p1 &&& (255 : Int32)).toUInt32.toUInt16.toUInt32.toInt32)).toInt8.toInt32))) 1 (nar .byte ((nar .char ((((p1.toUInt32 >>> ((8 : Int32) &&& 31).toUInt32).toInt32) &&& (255 : Int32)).toUInt32.toUInt16.toUInt32.toInt32)).toInt8.toInt32))) 2 (nar .byte ((nar .char ((p2 &&& (255 : Int32)).toUInt32.toUInt16.toUInt32.toInt32)).toInt8.toInt32))) o14) ∧ o520 = (nar .boolean o14))) (hp536 : own_cnt (13 : Int32) (0 : Int32) o520 (1 : Int32) (1 : Int32) o528 o529 o530) (hp546 : own_cnt z478 o528 o520 o529 o530 o538 o539 o540) (c547 : z489 = (0 : Int32)) (c548 : o510 = (0 : Int32)) (c550 : o540 = (2 : Int32)) (c552 : ¬ (o539 = (2 : Int32))) : False := by
  have hE : own_is (own_join z478 z456) z489 := by
    clear c552 c550 c548 c547 hp546 hp536 hp526 c512 hp511 c508 hp507 hp504 hj479 hv458 hj457 c276 c128 c2 hv1
    simp only [own_is, own_join]
    grind
  have hx := (own_x3 ⟨own_ch _, own_ch0 _⟩ ⟨own_ch _, own_ch0 _⟩ ⟨own_ch _, own_ch0 _⟩ hj457 hp504)
  obtain ⟨t1, t2, t3⟩ := own_two (own_x3 ⟨own_ch _, own_ch0 _⟩ ⟨own_ch _, own_ch0 _⟩ ⟨own_ch _, own_ch0 _⟩ hj457 hp526) hp536 hp546
  obtain ⟨r1, r2⟩ := t3 (fun h => own_is0 hp511 c548 ((own_ex hx).mpr h))
  first | exact c552 r1 | exact c552 r2
theorem ob_0_58 (f_CS : Int32) (p0 : Int32) (p1 : Int32) (p2 : Int32) (p3 : Int32) (p4 : Int32) (v1 : Int32) (z456 : Int32) (v458 : Int32) (z478 : Int32) (z489 : Int32) (o498 : Int32) (o506 : Int32) (o510 : Int32) (o520 : Int32) (o528 : Int32) (o529 : Int32) (o530 : Int32) (o538 : Int32) (o539 : Int32) (o540 : Int32) (hn_CS : ¬ (f_CS = (0 : Int32))) (hv1 : (p0 &&& (3 : Int32)) = v1) (c2 : ¬ (v1 = (0 : Int32))) (c128 : ¬ (v1 = (1 : Int32))) (c276 : ¬ (v1 = (2 : Int32))) (hj457 : (((nar .char ((p1 &&& (255 : Int32)).toUInt32.toUInt16.toUInt32.toInt32)) = (49 : Int32)) ∧ ((nar .char ((((p1.toUInt32 >>> ((8 : Int32) &&& 31).toUInt32).toInt32) &&& (255 : Int32)).toUInt32.toUInt16.toUInt32.toInt32)) = (46 : Int32)) ∧ ((nar .char ((p2 &&& (255 : Int32)).toUInt32.toUInt16.toUInt32.toInt32)) = (49 : Int32)) ∧ z456 = (1 : Int32)) ∨ (((nar .char ((p1 &&& (255 : Int32)).toUInt32.toUInt16.toUInt32.toInt32)) = (49 : Int32)) ∧ ((nar .char ((((p1.toUInt32 >>> ((8 : Int32) &&& 31).toUInt32).toInt32) &&& (255 : Int32)).toUInt32.toUInt16.toUInt32.toInt32)) = (46 : Int32)) ∧ (¬ ((nar .char ((p2 &&& (255 : Int32)).toUInt32.toUInt16.toUInt32.toInt32)) = (49 : Int32))) ∧ z456 = (0 : Int32)) ∨ (((nar .char ((p1 &&& (255 : Int32)).toUInt32.toUInt16.toUInt32.toInt32)) = (49 : Int32)) ∧ (¬ ((nar .char ((((p1.toUInt32 >>> ((8 : Int32) &&& 31).toUInt32).toInt32) &&& (255 : Int32)).toUInt32.toUInt16.toUInt32.toInt32)) = (46 : Int32))) ∧ z456 = (0 : Int32)) ∨ ((¬ ((nar .char ((p1 &&& (255 : Int32)).toUInt32.toUInt16.toUInt32.toInt32)) = (49 : Int32))) ∧ z456 = (0 : Int32))) (hv458 : (p3 &&& (3 : Int32)) = v458) (hj479 : ((v458 = (0 : Int32)) ∧ z478 = (10 : Int32)) ∨ ((¬ (v458 = (0 : Int32))) ∧ (v458 = (1 : Int32)) ∧ z478 = (133 : Int32)) ∨ (∃ (z469 : Int32), (¬ (v458 = (0 : Int32))) ∧ (¬ (v458 = (1 : Int32))) ∧ (v458 = (2 : Int32)) ∧ ((((p4 &&& (1 : Int32)) = (0 : Int32)) ∧ z469 = (13 : Int32)) ∨ ((¬ ((p4 &&& (1 : Int32)) = (0 : Int32))) ∧ z469 = (8232 : Int32))) ∧ z478 = z469) ∨ (∃ (v471 : Int32), (¬ (v458 = (0 : Int32))) ∧ (¬ (v458 = (1 : Int32))) ∧ (¬ (v458 = (2 : Int32))) ∧ ((p4.toUInt32.toUInt16.toUInt32.toInt32) = v471) ∧ z478 = v471)) (hj490 : ((z478 = (10 : Int32)) ∧ z489 = (1 : Int32)) ∨ ((¬ (z478 = (10 : Int32))) ∧ (z478 = (133 : Int32)) ∧ (z456 = (0 : Int32)) ∧ z489 = (0 : Int32)) ∨ ((¬ (z478 = (10 : Int32))) ∧ (z478 = (133 : Int32)) ∧ (¬ (z456 = (0 : Int32))) ∧ z489 = (1 : Int32)) ∨ ((¬ (z478 = (10 : Int32))) ∧ (¬ (z478 = (133 : Int32))) ∧ z489 = (0 : Int32))) (hp504 : (∃ (o14 : Int32), (own_eq3 (own_li [49, 46, 49]) (own_upd (own_upd (own_upd (fun _ => (0 : Int32)) 0 (nar .byte ((nar .char ((p1 &&& (255 : Int32)).toUInt32.toUInt16.toUInt32.toInt32)).toInt8.toInt32))) 1 (nar .byte ((nar .char ((((p1.toUInt32 >>> ((8 : Int32) &&& 31).toUInt32).toInt32) &&& (255 : Int32)).toUInt32.toUInt16.toUInt32.toInt32)).toInt8.toInt32))) 2 (nar .byte ((nar .char ((p2 &&& (255 : Int32)).toUInt32.toUInt16.toUInt32.toInt32)).toInt8.toInt32))) o14) ∧ o498 = (nar .boolean o14))) (hp507 : own_is (own_join z478 o498) o506) (c508 : o506 = z489) (hp511 : own_is (own_ends z478 o498) o510) (c512 : o506 = (0 : Int32)) (hp526 : (∃ (o14 : Int32), (own_eq3 (own_li [49, 46, 49]) (own_upd (own_upd (own_upd (fun _ => (0 : Int32)) 0 (nar .byte ((nar .char ((p1 &&& (255 : Int32)).toUInt32.toUInt16.toUInt32.toInt32)).toInt8.toInt32))) 1 (nar .byte ((nar .char ((((p1.toUInt32 >>> ((8 : Int32) &&& 31).toUInt32).toInt32) &&& (255 : Int32)).toUInt32.toUInt16.toUInt32.toInt32)).toInt8.toInt32))) 2 (nar .byte ((nar .char ((p2 &&& (255 : Int32)).toUInt32.toUInt16.toUInt32.toInt32)).toInt8.toInt32))) o14) ∧ o520 = (nar .boolean o14))) (hp536 : own_cnt (13 : Int32) (0 : Int32) o520 (1 : Int32) (1 : Int32) o528 o529 o530) (hp546 : own_cnt z478 o528 o520 o529 o530 o538 o539 o540) (c547 : z489 = (0 : Int32)) (c548 : o510 = (0 : Int32)) (c550 : ¬ (o540 = (2 : Int32))) : False := by
  have hE : own_is (own_join z478 z456) z489 := by
    clear c550 c548 c547 hp546 hp536 hp526 c512 hp511 c508 hp507 hp504 hj479 hv458 hj457 c276 c128 c2 hv1
    simp only [own_is, own_join]
    grind
  have hx := (own_x3 ⟨own_ch _, own_ch0 _⟩ ⟨own_ch _, own_ch0 _⟩ ⟨own_ch _, own_ch0 _⟩ hj457 hp504)
  obtain ⟨t1, t2, t3⟩ := own_two (own_x3 ⟨own_ch _, own_ch0 _⟩ ⟨own_ch _, own_ch0 _⟩ ⟨own_ch _, own_ch0 _⟩ hj457 hp526) hp536 hp546
  obtain ⟨r1, r2⟩ := t3 (fun h => own_is0 hp511 c548 ((own_ex hx).mpr h))
  first | exact c550 r1 | exact c550 r2
theorem ob_0_59 (f_CS : Int32) (p0 : Int32) (p1 : Int32) (p2 : Int32) (p3 : Int32) (p4 : Int32) (v1 : Int32) (z456 : Int32) (v458 : Int32) (z478 : Int32) (z489 : Int32) (o498 : Int32) (o506 : Int32) (o510 : Int32) (o520 : Int32) (o528 : Int32) (o529 : Int32) (o530 : Int32) (o538 : Int32) (o539 : Int32) (o540 : Int32) (hn_CS : ¬ (f_CS = (0 : Int32))) (hv1 : (p0 &&& (3 : Int32)) = v1) (c2 : ¬ (v1 = (0 : Int32))) (c128 : ¬ (v1 = (1 : Int32))) (c276 : ¬ (v1 = (2 : Int32))) (hj457 : (((nar .char ((p1 &&& (255 : Int32)).toUInt32.toUInt16.toUInt32.toInt32)) = (49 : Int32)) ∧ ((nar .char ((((p1.toUInt32 >>> ((8 : Int32) &&& 31).toUInt32).toInt32) &&& (255 : Int32)).toUInt32.toUInt16.toUInt32.toInt32)) = (46 : Int32)) ∧ ((nar .char ((p2 &&& (255 : Int32)).toUInt32.toUInt16.toUInt32.toInt32)) = (49 : Int32)) ∧ z456 = (1 : Int32)) ∨ (((nar .char ((p1 &&& (255 : Int32)).toUInt32.toUInt16.toUInt32.toInt32)) = (49 : Int32)) ∧ ((nar .char ((((p1.toUInt32 >>> ((8 : Int32) &&& 31).toUInt32).toInt32) &&& (255 : Int32)).toUInt32.toUInt16.toUInt32.toInt32)) = (46 : Int32)) ∧ (¬ ((nar .char ((p2 &&& (255 : Int32)).toUInt32.toUInt16.toUInt32.toInt32)) = (49 : Int32))) ∧ z456 = (0 : Int32)) ∨ (((nar .char ((p1 &&& (255 : Int32)).toUInt32.toUInt16.toUInt32.toInt32)) = (49 : Int32)) ∧ (¬ ((nar .char ((((p1.toUInt32 >>> ((8 : Int32) &&& 31).toUInt32).toInt32) &&& (255 : Int32)).toUInt32.toUInt16.toUInt32.toInt32)) = (46 : Int32))) ∧ z456 = (0 : Int32)) ∨ ((¬ ((nar .char ((p1 &&& (255 : Int32)).toUInt32.toUInt16.toUInt32.toInt32)) = (49 : Int32))) ∧ z456 = (0 : Int32))) (hv458 : (p3 &&& (3 : Int32)) = v458) (hj479 : ((v458 = (0 : Int32)) ∧ z478 = (10 : Int32)) ∨ ((¬ (v458 = (0 : Int32))) ∧ (v458 = (1 : Int32)) ∧ z478 = (133 : Int32)) ∨ (∃ (z469 : Int32), (¬ (v458 = (0 : Int32))) ∧ (¬ (v458 = (1 : Int32))) ∧ (v458 = (2 : Int32)) ∧ ((((p4 &&& (1 : Int32)) = (0 : Int32)) ∧ z469 = (13 : Int32)) ∨ ((¬ ((p4 &&& (1 : Int32)) = (0 : Int32))) ∧ z469 = (8232 : Int32))) ∧ z478 = z469) ∨ (∃ (v471 : Int32), (¬ (v458 = (0 : Int32))) ∧ (¬ (v458 = (1 : Int32))) ∧ (¬ (v458 = (2 : Int32))) ∧ ((p4.toUInt32.toUInt16.toUInt32.toInt32) = v471) ∧ z478 = v471)) (hj490 : ((z478 = (10 : Int32)) ∧ z489 = (1 : Int32)) ∨ ((¬ (z478 = (10 : Int32))) ∧ (z478 = (133 : Int32)) ∧ (z456 = (0 : Int32)) ∧ z489 = (0 : Int32)) ∨ ((¬ (z478 = (10 : Int32))) ∧ (z478 = (133 : Int32)) ∧ (¬ (z456 = (0 : Int32))) ∧ z489 = (1 : Int32)) ∨ ((¬ (z478 = (10 : Int32))) ∧ (¬ (z478 = (133 : Int32))) ∧ z489 = (0 : Int32))) (hp504 : (∃ (o14 : Int32), (own_eq3 (own_li [49, 46, 49]) (own_upd (own_upd (own_upd (fun _ => (0 : Int32)) 0 (nar .byte ((nar .char ((p1 &&& (255 : Int32)).toUInt32.toUInt16.toUInt32.toInt32)).toInt8.toInt32))) 1 (nar .byte ((nar .char ((((p1.toUInt32 >>> ((8 : Int32) &&& 31).toUInt32).toInt32) &&& (255 : Int32)).toUInt32.toUInt16.toUInt32.toInt32)).toInt8.toInt32))) 2 (nar .byte ((nar .char ((p2 &&& (255 : Int32)).toUInt32.toUInt16.toUInt32.toInt32)).toInt8.toInt32))) o14) ∧ o498 = (nar .boolean o14))) (hp507 : own_is (own_join z478 o498) o506) (c508 : o506 = z489) (hp511 : own_is (own_ends z478 o498) o510) (c512 : o506 = (0 : Int32)) (hp526 : (∃ (o14 : Int32), (own_eq3 (own_li [49, 46, 49]) (own_upd (own_upd (own_upd (fun _ => (0 : Int32)) 0 (nar .byte ((nar .char ((p1 &&& (255 : Int32)).toUInt32.toUInt16.toUInt32.toInt32)).toInt8.toInt32))) 1 (nar .byte ((nar .char ((((p1.toUInt32 >>> ((8 : Int32) &&& 31).toUInt32).toInt32) &&& (255 : Int32)).toUInt32.toUInt16.toUInt32.toInt32)).toInt8.toInt32))) 2 (nar .byte ((nar .char ((p2 &&& (255 : Int32)).toUInt32.toUInt16.toUInt32.toInt32)).toInt8.toInt32))) o14) ∧ o520 = (nar .boolean o14))) (hp536 : own_cnt (13 : Int32) (0 : Int32) o520 (1 : Int32) (1 : Int32) o528 o529 o530) (hp546 : own_cnt z478 o528 o520 o529 o530 o538 o539 o540) (c547 : z489 = (0 : Int32)) (c548 : ¬ (o510 = (0 : Int32))) (c554 : o540 = (3 : Int32)) (c556 : ¬ (o539 = (1 : Int32))) : False := by
  have hE : own_is (own_join z478 z456) z489 := by
    clear c556 c554 c548 c547 hp546 hp536 hp526 c512 hp511 c508 hp507 hp504 hj479 hv458 hj457 c276 c128 c2 hv1
    simp only [own_is, own_join]
    grind
  have hx := (own_x3 ⟨own_ch _, own_ch0 _⟩ ⟨own_ch _, own_ch0 _⟩ ⟨own_ch _, own_ch0 _⟩ hj457 hp504)
  obtain ⟨t1, t2, t3⟩ := own_two (own_x3 ⟨own_ch _, own_ch0 _⟩ ⟨own_ch _, own_ch0 _⟩ ⟨own_ch _, own_ch0 _⟩ hj457 hp526) hp536 hp546
  obtain ⟨r1, r2⟩ := t2 (own_is0 hE c547) ((own_ex hx).mp (own_is1 hp511 c548))
  first | exact c556 r1 | exact c556 r2
theorem ob_0_60 (f_CS : Int32) (p0 : Int32) (p1 : Int32) (p2 : Int32) (p3 : Int32) (p4 : Int32) (v1 : Int32) (z456 : Int32) (v458 : Int32) (z478 : Int32) (z489 : Int32) (o498 : Int32) (o506 : Int32) (o510 : Int32) (o520 : Int32) (o528 : Int32) (o529 : Int32) (o530 : Int32) (o538 : Int32) (o539 : Int32) (o540 : Int32) (hn_CS : ¬ (f_CS = (0 : Int32))) (hv1 : (p0 &&& (3 : Int32)) = v1) (c2 : ¬ (v1 = (0 : Int32))) (c128 : ¬ (v1 = (1 : Int32))) (c276 : ¬ (v1 = (2 : Int32))) (hj457 : (((nar .char ((p1 &&& (255 : Int32)).toUInt32.toUInt16.toUInt32.toInt32)) = (49 : Int32)) ∧ ((nar .char ((((p1.toUInt32 >>> ((8 : Int32) &&& 31).toUInt32).toInt32) &&& (255 : Int32)).toUInt32.toUInt16.toUInt32.toInt32)) = (46 : Int32)) ∧ ((nar .char ((p2 &&& (255 : Int32)).toUInt32.toUInt16.toUInt32.toInt32)) = (49 : Int32)) ∧ z456 = (1 : Int32)) ∨ (((nar .char ((p1 &&& (255 : Int32)).toUInt32.toUInt16.toUInt32.toInt32)) = (49 : Int32)) ∧ ((nar .char ((((p1.toUInt32 >>> ((8 : Int32) &&& 31).toUInt32).toInt32) &&& (255 : Int32)).toUInt32.toUInt16.toUInt32.toInt32)) = (46 : Int32)) ∧ (¬ ((nar .char ((p2 &&& (255 : Int32)).toUInt32.toUInt16.toUInt32.toInt32)) = (49 : Int32))) ∧ z456 = (0 : Int32)) ∨ (((nar .char ((p1 &&& (255 : Int32)).toUInt32.toUInt16.toUInt32.toInt32)) = (49 : Int32)) ∧ (¬ ((nar .char ((((p1.toUInt32 >>> ((8 : Int32) &&& 31).toUInt32).toInt32) &&& (255 : Int32)).toUInt32.toUInt16.toUInt32.toInt32)) = (46 : Int32))) ∧ z456 = (0 : Int32)) ∨ ((¬ ((nar .char ((p1 &&& (255 : Int32)).toUInt32.toUInt16.toUInt32.toInt32)) = (49 : Int32))) ∧ z456 = (0 : Int32))) (hv458 : (p3 &&& (3 : Int32)) = v458) (hj479 : ((v458 = (0 : Int32)) ∧ z478 = (10 : Int32)) ∨ ((¬ (v458 = (0 : Int32))) ∧ (v458 = (1 : Int32)) ∧ z478 = (133 : Int32)) ∨ (∃ (z469 : Int32), (¬ (v458 = (0 : Int32))) ∧ (¬ (v458 = (1 : Int32))) ∧ (v458 = (2 : Int32)) ∧ ((((p4 &&& (1 : Int32)) = (0 : Int32)) ∧ z469 = (13 : Int32)) ∨ ((¬ ((p4 &&& (1 : Int32)) = (0 : Int32))) ∧ z469 = (8232 : Int32))) ∧ z478 = z469) ∨ (∃ (v471 : Int32), (¬ (v458 = (0 : Int32))) ∧ (¬ (v458 = (1 : Int32))) ∧ (¬ (v458 = (2 : Int32))) ∧ ((p4.toUInt32.toUInt16.toUInt32.toInt32) = v471) ∧ z478 = v471)) (hj490 : ((z478 = (10 : Int32)) ∧ z489 = (1 : Int32)) ∨ ((¬ (z478 = (10 : Int32))) ∧ (z478 = (133 : Int32)) ∧ (z456 = (0 : Int32)) ∧ z489 = (0 : Int32)) ∨ ((¬ (z478 = (10 : Int32))) ∧ (z478 = (133 : Int32)) ∧ (¬ (z456 = (0 : Int32))) ∧ z489 = (1 : Int32)) ∨ ((¬ (z478 = (10 : Int32))) ∧ (¬ (z478 = (133 : Int32))) ∧ z489 = (0 : Int32))) (hp504 : (∃ (o14 : Int32), (own_eq3 (own_li [49, 46, 49]) (own_upd (own_upd (own_upd (fun _ => (0 : Int32)) 0 (nar .byte ((nar .char ((p1 &&& (255 : Int32)).toUInt32.toUInt16.toUInt32.toInt32)).toInt8.toInt32))) 1 (nar .byte ((nar .char ((((p1.toUInt32 >>> ((8 : Int32) &&& 31).toUInt32).toInt32) &&& (255 : Int32)).toUInt32.toUInt16.toUInt32.toInt32)).toInt8.toInt32))) 2 (nar .byte ((nar .char ((p2 &&& (255 : Int32)).toUInt32.toUInt16.toUInt32.toInt32)).toInt8.toInt32))) o14) ∧ o498 = (nar .boolean o14))) (hp507 : own_is (own_join z478 o498) o506) (c508 : o506 = z489) (hp511 : own_is (own_ends z478 o498) o510) (c512 : o506 = (0 : Int32)) (hp526 : (∃ (o14 : Int32), (own_eq3 (own_li [49, 46, 49]) (own_upd (own_upd (own_upd (fun _ => (0 : Int32)) 0 (nar .byte ((nar .char ((p1 &&& (255 : Int32)).toUInt32.toUInt16.toUInt32.toInt32)).toInt8.toInt32))) 1 (nar .byte ((nar .char ((((p1.toUInt32 >>> ((8 : Int32) &&& 31).toUInt32).toInt32) &&& (255 : Int32)).toUInt32.toUInt16.toUInt32.toInt32)).toInt8.toInt32))) 2 (nar .byte ((nar .char ((p2 &&& (255 : Int32)).toUInt32.toUInt16.toUInt32.toInt32)).toInt8.toInt32))) o14) ∧ o520 = (nar .boolean o14))) (hp536 : own_cnt (13 : Int32) (0 : Int32) o520 (1 : Int32) (1 : Int32) o528 o529 o530) (hp546 : own_cnt z478 o528 o520 o529 o530 o538 o539 o540) (c547 : z489 = (0 : Int32)) (c548 : ¬ (o510 = (0 : Int32))) (c554 : ¬ (o540 = (3 : Int32))) : False := by
  have hE : own_is (own_join z478 z456) z489 := by
    clear c554 c548 c547 hp546 hp536 hp526 c512 hp511 c508 hp507 hp504 hj479 hv458 hj457 c276 c128 c2 hv1
    simp only [own_is, own_join]
    grind
  have hx := (own_x3 ⟨own_ch _, own_ch0 _⟩ ⟨own_ch _, own_ch0 _⟩ ⟨own_ch _, own_ch0 _⟩ hj457 hp504)
  obtain ⟨t1, t2, t3⟩ := own_two (own_x3 ⟨own_ch _, own_ch0 _⟩ ⟨own_ch _, own_ch0 _⟩ ⟨own_ch _, own_ch0 _⟩ hj457 hp526) hp536 hp546
  obtain ⟨r1, r2⟩ := t2 (own_is0 hE c547) ((own_ex hx).mp (own_is1 hp511 c548))
  first | exact c554 r1 | exact c554 r2
theorem ob_0_61 (f_CS : Int32) (p0 : Int32) (p1 : Int32) (p2 : Int32) (p3 : Int32) (p4 : Int32) (v1 : Int32) (z456 : Int32) (v458 : Int32) (z478 : Int32) (z489 : Int32) (o498 : Int32) (o506 : Int32) (o510 : Int32) (o520 : Int32) (o528 : Int32) (o529 : Int32) (o530 : Int32) (o538 : Int32) (o539 : Int32) (o540 : Int32) (hn_CS : ¬ (f_CS = (0 : Int32))) (hv1 : (p0 &&& (3 : Int32)) = v1) (c2 : ¬ (v1 = (0 : Int32))) (c128 : ¬ (v1 = (1 : Int32))) (c276 : ¬ (v1 = (2 : Int32))) (hj457 : (((nar .char ((p1 &&& (255 : Int32)).toUInt32.toUInt16.toUInt32.toInt32)) = (49 : Int32)) ∧ ((nar .char ((((p1.toUInt32 >>> ((8 : Int32) &&& 31).toUInt32).toInt32) &&& (255 : Int32)).toUInt32.toUInt16.toUInt32.toInt32)) = (46 : Int32)) ∧ ((nar .char ((p2 &&& (255 : Int32)).toUInt32.toUInt16.toUInt32.toInt32)) = (49 : Int32)) ∧ z456 = (1 : Int32)) ∨ (((nar .char ((p1 &&& (255 : Int32)).toUInt32.toUInt16.toUInt32.toInt32)) = (49 : Int32)) ∧ ((nar .char ((((p1.toUInt32 >>> ((8 : Int32) &&& 31).toUInt32).toInt32) &&& (255 : Int32)).toUInt32.toUInt16.toUInt32.toInt32)) = (46 : Int32)) ∧ (¬ ((nar .char ((p2 &&& (255 : Int32)).toUInt32.toUInt16.toUInt32.toInt32)) = (49 : Int32))) ∧ z456 = (0 : Int32)) ∨ (((nar .char ((p1 &&& (255 : Int32)).toUInt32.toUInt16.toUInt32.toInt32)) = (49 : Int32)) ∧ (¬ ((nar .char ((((p1.toUInt32 >>> ((8 : Int32) &&& 31).toUInt32).toInt32) &&& (255 : Int32)).toUInt32.toUInt16.toUInt32.toInt32)) = (46 : Int32))) ∧ z456 = (0 : Int32)) ∨ ((¬ ((nar .char ((p1 &&& (255 : Int32)).toUInt32.toUInt16.toUInt32.toInt32)) = (49 : Int32))) ∧ z456 = (0 : Int32))) (hv458 : (p3 &&& (3 : Int32)) = v458) (hj479 : ((v458 = (0 : Int32)) ∧ z478 = (10 : Int32)) ∨ ((¬ (v458 = (0 : Int32))) ∧ (v458 = (1 : Int32)) ∧ z478 = (133 : Int32)) ∨ (∃ (z469 : Int32), (¬ (v458 = (0 : Int32))) ∧ (¬ (v458 = (1 : Int32))) ∧ (v458 = (2 : Int32)) ∧ ((((p4 &&& (1 : Int32)) = (0 : Int32)) ∧ z469 = (13 : Int32)) ∨ ((¬ ((p4 &&& (1 : Int32)) = (0 : Int32))) ∧ z469 = (8232 : Int32))) ∧ z478 = z469) ∨ (∃ (v471 : Int32), (¬ (v458 = (0 : Int32))) ∧ (¬ (v458 = (1 : Int32))) ∧ (¬ (v458 = (2 : Int32))) ∧ ((p4.toUInt32.toUInt16.toUInt32.toInt32) = v471) ∧ z478 = v471)) (hj490 : ((z478 = (10 : Int32)) ∧ z489 = (1 : Int32)) ∨ ((¬ (z478 = (10 : Int32))) ∧ (z478 = (133 : Int32)) ∧ (z456 = (0 : Int32)) ∧ z489 = (0 : Int32)) ∨ ((¬ (z478 = (10 : Int32))) ∧ (z478 = (133 : Int32)) ∧ (¬ (z456 = (0 : Int32))) ∧ z489 = (1 : Int32)) ∨ ((¬ (z478 = (10 : Int32))) ∧ (¬ (z478 = (133 : Int32))) ∧ z489 = (0 : Int32))) (hp504 : (∃ (o14 : Int32), (own_eq3 (own_li [49, 46, 49]) (own_upd (own_upd (own_upd (fun _ => (0 : Int32)) 0 (nar .byte ((nar .char ((p1 &&& (255 : Int32)).toUInt32.toUInt16.toUInt32.toInt32)).toInt8.toInt32))) 1 (nar .byte ((nar .char ((((p1.toUInt32 >>> ((8 : Int32) &&& 31).toUInt32).toInt32) &&& (255 : Int32)).toUInt32.toUInt16.toUInt32.toInt32)).toInt8.toInt32))) 2 (nar .byte ((nar .char ((p2 &&& (255 : Int32)).toUInt32.toUInt16.toUInt32.toInt32)).toInt8.toInt32))) o14) ∧ o498 = (nar .boolean o14))) (hp507 : own_is (own_join z478 o498) o506) (c508 : o506 = z489) (hp511 : own_is (own_ends z478 o498) o510) (c512 : o506 = (0 : Int32)) (hp526 : (∃ (o14 : Int32), (own_eq3 (own_li [49, 46, 49]) (own_upd (own_upd (own_upd (fun _ => (0 : Int32)) 0 (nar .byte ((nar .char ((p1 &&& (255 : Int32)).toUInt32.toUInt16.toUInt32.toInt32)).toInt8.toInt32))) 1 (nar .byte ((nar .char ((((p1.toUInt32 >>> ((8 : Int32) &&& 31).toUInt32).toInt32) &&& (255 : Int32)).toUInt32.toUInt16.toUInt32.toInt32)).toInt8.toInt32))) 2 (nar .byte ((nar .char ((p2 &&& (255 : Int32)).toUInt32.toUInt16.toUInt32.toInt32)).toInt8.toInt32))) o14) ∧ o520 = (nar .boolean o14))) (hp536 : own_cnt (13 : Int32) (0 : Int32) o520 (1 : Int32) (1 : Int32) o528 o529 o530) (hp546 : own_cnt z478 o528 o520 o529 o530 o538 o539 o540) (c547 : ¬ (z489 = (0 : Int32))) (c558 : o540 = (2 : Int32)) (c560 : ¬ (o539 = (1 : Int32))) : False := by
  have hE : own_is (own_join z478 z456) z489 := by
    clear c560 c558 c547 hp546 hp536 hp526 c512 hp511 c508 hp507 hp504 hj479 hv458 hj457 c276 c128 c2 hv1
    simp only [own_is, own_join]
    grind
  have hx := (own_x3 ⟨own_ch _, own_ch0 _⟩ ⟨own_ch _, own_ch0 _⟩ ⟨own_ch _, own_ch0 _⟩ hj457 hp504)
  obtain ⟨t1, t2, t3⟩ := own_two (own_x3 ⟨own_ch _, own_ch0 _⟩ ⟨own_ch _, own_ch0 _⟩ ⟨own_ch _, own_ch0 _⟩ hj457 hp526) hp536 hp546
  obtain ⟨r1, r2⟩ := t1 (own_is1 hE c547)
  first | exact c560 r1 | exact c560 r2
theorem ob_0_62 (f_CS : Int32) (p0 : Int32) (p1 : Int32) (p2 : Int32) (p3 : Int32) (p4 : Int32) (v1 : Int32) (z456 : Int32) (v458 : Int32) (z478 : Int32) (z489 : Int32) (o498 : Int32) (o506 : Int32) (o510 : Int32) (o520 : Int32) (o528 : Int32) (o529 : Int32) (o530 : Int32) (o538 : Int32) (o539 : Int32) (o540 : Int32) (hn_CS : ¬ (f_CS = (0 : Int32))) (hv1 : (p0 &&& (3 : Int32)) = v1) (c2 : ¬ (v1 = (0 : Int32))) (c128 : ¬ (v1 = (1 : Int32))) (c276 : ¬ (v1 = (2 : Int32))) (hj457 : (((nar .char ((p1 &&& (255 : Int32)).toUInt32.toUInt16.toUInt32.toInt32)) = (49 : Int32)) ∧ ((nar .char ((((p1.toUInt32 >>> ((8 : Int32) &&& 31).toUInt32).toInt32) &&& (255 : Int32)).toUInt32.toUInt16.toUInt32.toInt32)) = (46 : Int32)) ∧ ((nar .char ((p2 &&& (255 : Int32)).toUInt32.toUInt16.toUInt32.toInt32)) = (49 : Int32)) ∧ z456 = (1 : Int32)) ∨ (((nar .char ((p1 &&& (255 : Int32)).toUInt32.toUInt16.toUInt32.toInt32)) = (49 : Int32)) ∧ ((nar .char ((((p1.toUInt32 >>> ((8 : Int32) &&& 31).toUInt32).toInt32) &&& (255 : Int32)).toUInt32.toUInt16.toUInt32.toInt32)) = (46 : Int32)) ∧ (¬ ((nar .char ((p2 &&& (255 : Int32)).toUInt32.toUInt16.toUInt32.toInt32)) = (49 : Int32))) ∧ z456 = (0 : Int32)) ∨ (((nar .char ((p1 &&& (255 : Int32)).toUInt32.toUInt16.toUInt32.toInt32)) = (49 : Int32)) ∧ (¬ ((nar .char ((((p1.toUInt32 >>> ((8 : Int32) &&& 31).toUInt32).toInt32) &&& (255 : Int32)).toUInt32.toUInt16.toUInt32.toInt32)) = (46 : Int32))) ∧ z456 = (0 : Int32)) ∨ ((¬ ((nar .char ((p1 &&& (255 : Int32)).toUInt32.toUInt16.toUInt32.toInt32)) = (49 : Int32))) ∧ z456 = (0 : Int32))) (hv458 : (p3 &&& (3 : Int32)) = v458) (hj479 : ((v458 = (0 : Int32)) ∧ z478 = (10 : Int32)) ∨ ((¬ (v458 = (0 : Int32))) ∧ (v458 = (1 : Int32)) ∧ z478 = (133 : Int32)) ∨ (∃ (z469 : Int32), (¬ (v458 = (0 : Int32))) ∧ (¬ (v458 = (1 : Int32))) ∧ (v458 = (2 : Int32)) ∧ ((((p4 &&& (1 : Int32)) = (0 : Int32)) ∧ z469 = (13 : Int32)) ∨ ((¬ ((p4 &&& (1 : Int32)) = (0 : Int32))) ∧ z469 = (8232 : Int32))) ∧ z478 = z469) ∨ (∃ (v471 : Int32), (¬ (v458 = (0 : Int32))) ∧ (¬ (v458 = (1 : Int32))) ∧ (¬ (v458 = (2 : Int32))) ∧ ((p4.toUInt32.toUInt16.toUInt32.toInt32) = v471) ∧ z478 = v471)) (hj490 : ((z478 = (10 : Int32)) ∧ z489 = (1 : Int32)) ∨ ((¬ (z478 = (10 : Int32))) ∧ (z478 = (133 : Int32)) ∧ (z456 = (0 : Int32)) ∧ z489 = (0 : Int32)) ∨ ((¬ (z478 = (10 : Int32))) ∧ (z478 = (133 : Int32)) ∧ (¬ (z456 = (0 : Int32))) ∧ z489 = (1 : Int32)) ∨ ((¬ (z478 = (10 : Int32))) ∧ (¬ (z478 = (133 : Int32))) ∧ z489 = (0 : Int32))) (hp504 : (∃ (o14 : Int32), (own_eq3 (own_li [49, 46, 49]) (own_upd (own_upd (own_upd (fun _ => (0 : Int32)) 0 (nar .byte ((nar .char ((p1 &&& (255 : Int32)).toUInt32.toUInt16.toUInt32.toInt32)).toInt8.toInt32))) 1 (nar .byte ((nar .char ((((p1.toUInt32 >>> ((8 : Int32) &&& 31).toUInt32).toInt32) &&& (255 : Int32)).toUInt32.toUInt16.toUInt32.toInt32)).toInt8.toInt32))) 2 (nar .byte ((nar .char ((p2 &&& (255 : Int32)).toUInt32.toUInt16.toUInt32.toInt32)).toInt8.toInt32))) o14) ∧ o498 = (nar .boolean o14))) (hp507 : own_is (own_join z478 o498) o506) (c508 : o506 = z489) (hp511 : own_is (own_ends z478 o498) o510) (c512 : o506 = (0 : Int32)) (hp526 : (∃ (o14 : Int32), (own_eq3 (own_li [49, 46, 49]) (own_upd (own_upd (own_upd (fun _ => (0 : Int32)) 0 (nar .byte ((nar .char ((p1 &&& (255 : Int32)).toUInt32.toUInt16.toUInt32.toInt32)).toInt8.toInt32))) 1 (nar .byte ((nar .char ((((p1.toUInt32 >>> ((8 : Int32) &&& 31).toUInt32).toInt32) &&& (255 : Int32)).toUInt32.toUInt16.toUInt32.toInt32)).toInt8.toInt32))) 2 (nar .byte ((nar .char ((p2 &&& (255 : Int32)).toUInt32.toUInt16.toUInt32.toInt32)).toInt8.toInt32))) o14) ∧ o520 = (nar .boolean o14))) (hp536 : own_cnt (13 : Int32) (0 : Int32) o520 (1 : Int32) (1 : Int32) o528 o529 o530) (hp546 : own_cnt z478 o528 o520 o529 o530 o538 o539 o540) (c547 : ¬ (z489 = (0 : Int32))) (c558 : ¬ (o540 = (2 : Int32))) : False := by
  have hE : own_is (own_join z478 z456) z489 := by
    clear c558 c547 hp546 hp536 hp526 c512 hp511 c508 hp507 hp504 hj479 hv458 hj457 c276 c128 c2 hv1
    simp only [own_is, own_join]
    grind
  have hx := (own_x3 ⟨own_ch _, own_ch0 _⟩ ⟨own_ch _, own_ch0 _⟩ ⟨own_ch _, own_ch0 _⟩ hj457 hp504)
  obtain ⟨t1, t2, t3⟩ := own_two (own_x3 ⟨own_ch _, own_ch0 _⟩ ⟨own_ch _, own_ch0 _⟩ ⟨own_ch _, own_ch0 _⟩ hj457 hp526) hp536 hp546
  obtain ⟨r1, r2⟩ := t1 (own_is1 hE c547)
  first | exact c558 r1 | exact c558 r2
theorem ob_0_63 (f_CS : Int32) (p0 : Int32) (p1 : Int32) (p2 : Int32) (p3 : Int32) (p4 : Int32) (v1 : Int32) (z456 : Int32) (v458 : Int32) (z478 : Int32) (z489 : Int32) (o498 : Int32) (o506 : Int32) (o510 : Int32) (hn_CS : ¬ (f_CS = (0 : Int32))) (hv1 : (p0 &&& (3 : Int32)) = v1) (c2 : ¬ (v1 = (0 : Int32))) (c128 : ¬ (v1 = (1 : Int32))) (c276 : ¬ (v1 = (2 : Int32))) (hj457 : (((nar .char ((p1 &&& (255 : Int32)).toUInt32.toUInt16.toUInt32.toInt32)) = (49 : Int32)) ∧ ((nar .char ((((p1.toUInt32 >>> ((8 : Int32) &&& 31).toUInt32).toInt32) &&& (255 : Int32)).toUInt32.toUInt16.toUInt32.toInt32)) = (46 : Int32)) ∧ ((nar .char ((p2 &&& (255 : Int32)).toUInt32.toUInt16.toUInt32.toInt32)) = (49 : Int32)) ∧ z456 = (1 : Int32)) ∨ (((nar .char ((p1 &&& (255 : Int32)).toUInt32.toUInt16.toUInt32.toInt32)) = (49 : Int32)) ∧ ((nar .char ((((p1.toUInt32 >>> ((8 : Int32) &&& 31).toUInt32).toInt32) &&& (255 : Int32)).toUInt32.toUInt16.toUInt32.toInt32)) = (46 : Int32)) ∧ (¬ ((nar .char ((p2 &&& (255 : Int32)).toUInt32.toUInt16.toUInt32.toInt32)) = (49 : Int32))) ∧ z456 = (0 : Int32)) ∨ (((nar .char ((p1 &&& (255 : Int32)).toUInt32.toUInt16.toUInt32.toInt32)) = (49 : Int32)) ∧ (¬ ((nar .char ((((p1.toUInt32 >>> ((8 : Int32) &&& 31).toUInt32).toInt32) &&& (255 : Int32)).toUInt32.toUInt16.toUInt32.toInt32)) = (46 : Int32))) ∧ z456 = (0 : Int32)) ∨ ((¬ ((nar .char ((p1 &&& (255 : Int32)).toUInt32.toUInt16.toUInt32.toInt32)) = (49 : Int32))) ∧ z456 = (0 : Int32))) (hv458 : (p3 &&& (3 : Int32)) = v458) (hj479 : ((v458 = (0 : Int32)) ∧ z478 = (10 : Int32)) ∨ ((¬ (v458 = (0 : Int32))) ∧ (v458 = (1 : Int32)) ∧ z478 = (133 : Int32)) ∨ (∃ (z469 : Int32), (¬ (v458 = (0 : Int32))) ∧ (¬ (v458 = (1 : Int32))) ∧ (v458 = (2 : Int32)) ∧ ((((p4 &&& (1 : Int32)) = (0 : Int32)) ∧ z469 = (13 : Int32)) ∨ ((¬ ((p4 &&& (1 : Int32)) = (0 : Int32))) ∧ z469 = (8232 : Int32))) ∧ z478 = z469) ∨ (∃ (v471 : Int32), (¬ (v458 = (0 : Int32))) ∧ (¬ (v458 = (1 : Int32))) ∧ (¬ (v458 = (2 : Int32))) ∧ ((p4.toUInt32.toUInt16.toUInt32.toInt32) = v471) ∧ z478 = v471)) (hj490 : ((z478 = (10 : Int32)) ∧ z489 = (1 : Int32)) ∨ ((¬ (z478 = (10 : Int32))) ∧ (z478 = (133 : Int32)) ∧ (z456 = (0 : Int32)) ∧ z489 = (0 : Int32)) ∨ ((¬ (z478 = (10 : Int32))) ∧ (z478 = (133 : Int32)) ∧ (¬ (z456 = (0 : Int32))) ∧ z489 = (1 : Int32)) ∨ ((¬ (z478 = (10 : Int32))) ∧ (¬ (z478 = (133 : Int32))) ∧ z489 = (0 : Int32))) (hp504 : (∃ (o14 : Int32), (own_eq3 (own_li [49, 46, 49]) (own_upd (own_upd (own_upd (fun _ => (0 : Int32)) 0 (nar .byte ((nar .char ((p1 &&& (255 : Int32)).toUInt32.toUInt16.toUInt32.toInt32)).toInt8.toInt32))) 1 (nar .byte ((nar .char ((((p1.toUInt32 >>> ((8 : Int32) &&& 31).toUInt32).toInt32) &&& (255 : Int32)).toUInt32.toUInt16.toUInt32.toInt32)).toInt8.toInt32))) 2 (nar .byte ((nar .char ((p2 &&& (255 : Int32)).toUInt32.toUInt16.toUInt32.toInt32)).toInt8.toInt32))) o14) ∧ o498 = (nar .boolean o14))) (hp507 : own_is (own_join z478 o498) o506) (c508 : o506 = z489) (hp511 : own_is (own_ends z478 o498) o510) (c512 : ¬ (o506 = (0 : Int32))) (c561 : o510 = (0 : Int32)) : False := by
  have hE : own_is (own_join z478 z456) z489 := by
    clear c561 c512 hp511 c508 hp507 hp504 hj479 hv458 hj457 c276 c128 c2 hv1
    simp only [own_is, own_join]
    grind
  have hx := (own_x3 ⟨own_ch _, own_ch0 _⟩ ⟨own_ch _, own_ch0 _⟩ ⟨own_ch _, own_ch0 _⟩ hj457 hp504)
  exact own_is0 hp511 c561 (own_je (own_is1 hp507 c512))
theorem ob_0_64 (f_CS : Int32) (p0 : Int32) (p1 : Int32) (p2 : Int32) (p3 : Int32) (p4 : Int32) (v1 : Int32) (z456 : Int32) (v458 : Int32) (z478 : Int32) (z489 : Int32) (o498 : Int32) (o506 : Int32) (o510 : Int32) (o569 : Int32) (o577 : Int32) (o578 : Int32) (o579 : Int32) (o587 : Int32) (o588 : Int32) (o589 : Int32) (hn_CS : ¬ (f_CS = (0 : Int32))) (hv1 : (p0 &&& (3 : Int32)) = v1) (c2 : ¬ (v1 = (0 : Int32))) (c128 : ¬ (v1 = (1 : Int32))) (c276 : ¬ (v1 = (2 : Int32))) (hj457 : (((nar .char ((p1 &&& (255 : Int32)).toUInt32.toUInt16.toUInt32.toInt32)) = (49 : Int32)) ∧ ((nar .char ((((p1.toUInt32 >>> ((8 : Int32) &&& 31).toUInt32).toInt32) &&& (255 : Int32)).toUInt32.toUInt16.toUInt32.toInt32)) = (46 : Int32)) ∧ ((nar .char ((p2 &&& (255 : Int32)).toUInt32.toUInt16.toUInt32.toInt32)) = (49 : Int32)) ∧ z456 = (1 : Int32)) ∨ (((nar .char ((p1 &&& (255 : Int32)).toUInt32.toUInt16.toUInt32.toInt32)) = (49 : Int32)) ∧ ((nar .char ((((p1.toUInt32 >>> ((8 : Int32) &&& 31).toUInt32).toInt32) &&& (255 : Int32)).toUInt32.toUInt16.toUInt32.toInt32)) = (46 : Int32)) ∧ (¬ ((nar .char ((p2 &&& (255 : Int32)).toUInt32.toUInt16.toUInt32.toInt32)) = (49 : Int32))) ∧ z456 = (0 : Int32)) ∨ (((nar .char ((p1 &&& (255 : Int32)).toUInt32.toUInt16.toUInt32.toInt32)) = (49 : Int32)) ∧ (¬ ((nar .char ((((p1.toUInt32 >>> ((8 : Int32) &&& 31).toUInt32).toInt32) &&& (255 : Int32)).toUInt32.toUInt16.toUInt32.toInt32)) = (46 : Int32))) ∧ z456 = (0 : Int32)) ∨ ((¬ ((nar .char ((p1 &&& (255 : Int32)).toUInt32.toUInt16.toUInt32.toInt32)) = (49 : Int32))) ∧ z456 = (0 : Int32))) (hv458 : (p3 &&& (3 : Int32)) = v458) (hj479 : ((v458 = (0 : Int32)) ∧ z478 = (10 : Int32)) ∨ ((¬ (v458 = (0 : Int32))) ∧ (v458 = (1 : Int32)) ∧ z478 = (133 : Int32)) ∨ (∃ (z469 : Int32), (¬ (v458 = (0 : Int32))) ∧ (¬ (v458 = (1 : Int32))) ∧ (v458 = (2 : Int32)) ∧ ((((p4 &&& (1 : Int32)) = (0 : Int32)) ∧ z469 = (13 : Int32)) ∨ ((¬ ((p4 &&& (1 : Int32)) = (0 : Int32))) ∧ z469 = (8232 : Int32))) ∧ z478 = z469) ∨ (∃ (v471 : Int32), (¬ (v458 = (0 : Int32))) ∧ (¬ (v458 = (1 : Int32))) ∧ (¬ (v458 = (2 : Int32))) ∧ ((p4.toUInt32.toUInt16.toUInt32.toInt32) = v471) ∧ z478 = v471)) (hj490 : ((z478 = (10 : Int32)) ∧ z489 = (1 : Int32)) ∨ ((¬ (z478 = (10 : Int32))) ∧ (z478 = (133 : Int32)) ∧ (z456 = (0 : Int32)) ∧ z489 = (0 : Int32)) ∨ ((¬ (z478 = (10 : Int32))) ∧ (z478 = (133 : Int32)) ∧ (¬ (z456 = (0 : Int32))) ∧ z489 = (1 : Int32)) ∨ ((¬ (z478 = (10 : Int32))) ∧ (¬ (z478 = (133 : Int32))) ∧ z489 = (0 : Int32))) (hp504 : (∃ (o14 : Int32), (own_eq3 (own_li [49, 46, 49]) (own_upd (own_upd (own_upd (fun _ => (0 : Int32)) 0 (nar .byte ((nar .char ((p1 &&& (255 : Int32)).toUInt32.toUInt16.toUInt32.toInt32)).toInt8.toInt32))) 1 (nar .byte ((nar .char ((((p1.toUInt32 >>> ((8 : Int32) &&& 31).toUInt32).toInt32) &&& (255 : Int32)).toUInt32.toUInt16.toUInt32.toInt32)).toInt8.toInt32))) 2 (nar .byte ((nar .char ((p2 &&& (255 : Int32)).toUInt32.toUInt16.toUInt32.toInt32)).toInt8.toInt32))) o14) ∧ o498 = (nar .boolean o14))) (hp507 : own_is (own_join z478 o498) o506) (c508 : o506 = z489) (hp511 : own_is (own_ends z478 o498) o510) (c512 : ¬ (o506 = (0 : Int32))) (c561 : ¬ (o510 = (0 : Int32))) (hp575 : (∃ (o14 : Int32), (own_eq3 (own_li [49, 46, 49]) (own_upd (own_upd (own_upd (fun _ => (0 : Int32)) 0 (nar .byte ((nar .char ((p1 &&& (255 : Int32)).toUInt32.toUInt16.toUInt32.toInt32)).toInt8.toInt32))) 1 (nar .byte ((nar .char ((((p1.toUInt32 >>> ((8 : Int32) &&& 31).toUInt32).toInt32) &&& (255 : Int32)).toUInt32.toUInt16.toUInt32.toInt32)).toInt8.toInt32))) 2 (nar .byte ((nar .char ((p2 &&& (255 : Int32)).toUInt32.toUInt16.toUInt32.toInt32)).toInt8.toInt32))) o14) ∧ o569 = (nar .boolean o14))) (hp585 : own_cnt (13 : Int32) (0 : Int32) o569 (1 : Int32) (1 : Int32) o577 o578 o579) (hp595 : own_cnt z478 o577 o569 o578 o579 o587 o588 o589) (c596 : z489 = (0 : Int32)) (c598 : o589 = (3 : Int32)) (c600 : ¬ (o588 = (1 : Int32))) : False := by
  have hE : own_is (own_join z478 z456) z489 := by
    clear c600 c598 c596 hp595 hp585 hp575 c561 c512 hp511 c508 hp507 hp504 hj479 hv458 hj457 c276 c128 c2 hv1
    simp only [own_is, own_join]
    grind
  have hx := (own_x3 ⟨own_ch _, own_ch0 _⟩ ⟨own_ch _, own_ch0 _⟩ ⟨own_ch _, own_ch0 _⟩ hj457 hp504)
  obtain ⟨t1, t2, t3⟩ := own_two (own_x3 ⟨own_ch _, own_ch0 _⟩ ⟨own_ch _, own_ch0 _⟩ ⟨own_ch _, own_ch0 _⟩ hj457 hp575) hp585 hp595
  obtain ⟨r1, r2⟩ := t2 (own_is0 hE c596) ((own_ex hx).mp (own_is1 hp511 c561))
  first | exact c600 r1 | exact c600 r2
theorem ob_0_65 (f_CS : Int32) (p0 : Int32) (p1 : Int32) (p2 : Int32) (p3 : Int32) (p4 : Int32) (v1 : Int32) (z456 : Int32) (v458 : Int32) (z478 : Int32) (z489 : Int32) (o498 : Int32) (o506 : Int32) (o510 : Int32) (o569 : Int32) (o577 : Int32) (o578 : Int32) (o579 : Int32) (o587 : Int32) (o588 : Int32) (o589 : Int32) (hn_CS : ¬ (f_CS = (0 : Int32))) (hv1 : (p0 &&& (3 : Int32)) = v1) (c2 : ¬ (v1 = (0 : Int32))) (c128 : ¬ (v1 = (1 : Int32))) (c276 : ¬ (v1 = (2 : Int32))) (hj457 : (((nar .char ((p1 &&& (255 : Int32)).toUInt32.toUInt16.toUInt32.toInt32)) = (49 : Int32)) ∧ ((nar .char ((((p1.toUInt32 >>> ((8 : Int32) &&& 31).toUInt32).toInt32) &&& (255 : Int32)).toUInt32.toUInt16.toUInt32.toInt32)) = (46 : Int32)) ∧ ((nar .char ((p2 &&& (255 : Int32)).toUInt32.toUInt16.toUInt32.toInt32)) = (49 : Int32)) ∧ z456 = (1 : Int32)) ∨ (((nar .char ((p1 &&& (255 : Int32)).toUInt32.toUInt16.toUInt32.toInt32)) = (49 : Int32)) ∧ ((nar .char ((((p1.toUInt32 >>> ((8 : Int32) &&& 31).toUInt32).toInt32) &&& (255 : Int32)).toUInt32.toUInt16.toUInt32.toInt32)) = (46 : Int32)) ∧ (¬ ((nar .char ((p2 &&& (255 : Int32)).toUInt32.toUInt16.toUInt32.toInt32)) = (49 : Int32))) ∧ z456 = (0 : Int32)) ∨ (((nar .char ((p1 &&& (255 : Int32)).toUInt32.toUInt16.toUInt32.toInt32)) = (49 : Int32)) ∧ (¬ ((nar .char ((((p1.toUInt32 >>> ((8 : Int32) &&& 31).toUInt32).toInt32) &&& (255 : Int32)).toUInt32.toUInt16.toUInt32.toInt32)) = (46 : Int32))) ∧ z456 = (0 : Int32)) ∨ ((¬ ((nar .char ((p1 &&& (255 : Int32)).toUInt32.toUInt16.toUInt32.toInt32)) = (49 : Int32))) ∧ z456 = (0 : Int32))) (hv458 : (p3 &&& (3 : Int32)) = v458) (hj479 : ((v458 = (0 : Int32)) ∧ z478 = (10 : Int32)) ∨ ((¬ (v458 = (0 : Int32))) ∧ (v458 = (1 : Int32)) ∧ z478 = (133 : Int32)) ∨ (∃ (z469 : Int32), (¬ (v458 = (0 : Int32))) ∧ (¬ (v458 = (1 : Int32))) ∧ (v458 = (2 : Int32)) ∧ ((((p4 &&& (1 : Int32)) = (0 : Int32)) ∧ z469 = (13 : Int32)) ∨ ((¬ ((p4 &&& (1 : Int32)) = (0 : Int32))) ∧ z469 = (8232 : Int32))) ∧ z478 = z469) ∨ (∃ (v471 : Int32), (¬ (v458 = (0 : Int32))) ∧ (¬ (v458 = (1 : Int32))) ∧ (¬ (v458 = (2 : Int32))) ∧ ((p4.toUInt32.toUInt16.toUInt32.toInt32) = v471) ∧ z478 = v471)) (hj490 : ((z478 = (10 : Int32)) ∧ z489 = (1 : Int32)) ∨ ((¬ (z478 = (10 : Int32))) ∧ (z478 = (133 : Int32)) ∧ (z456 = (0 : Int32)) ∧ z489 = (0 : Int32)) ∨ ((¬ (z478 = (10 : Int32))) ∧ (z478 = (133 : Int32)) ∧ (¬ (z456 = (0 : Int32))) ∧ z489 = (1 : Int32)) ∨ ((¬ (z478 = (10 : Int32))) ∧ (¬ (z478 = (133 : Int32))) ∧ z489 = (0 : Int32))) (hp504 : (∃ (o14 : Int32), (own_eq3 (own_li [49, 46, 49]) (own_upd (own_upd (own_upd (fun _ => (0 : Int32)) 0 (nar .byte ((nar .char ((p1 &&& (255 : Int32)).toUInt32.toUInt16.toUInt32.toInt32)).toInt8.toInt32))) 1 (nar .byte ((nar .char ((((p1.toUInt32 >>> ((8 : Int32) &&& 31).toUInt32).toInt32) &&& (255 : Int32)).toUInt32.toUInt16.toUInt32.toInt32)).toInt8.toInt32))) 2 (nar .byte ((nar .char ((p2 &&& (255 : Int32)).toUInt32.toUInt16.toUInt32.toInt32)).toInt8.toInt32))) o14) ∧ o498 = (nar .boolean o14))) (hp507 : own_is (own_join z478 o498) o506) (c508 : o506 = z489) (hp511 : own_is (own_ends z478 o498) o510) (c512 : ¬ (o506 = (0 : Int32))) (c561 : ¬ (o510 = (0 : Int32))) (hp575 : (∃ (o14 : Int32), (own_eq3 (own_li [49, 46, 49]) (own_upd (own_upd (own_upd (fun _ => (0 : Int32)) 0 (nar .byte ((nar .char ((p1 &&& (255 : Int32)).toUInt32.toUInt16.toUInt32.toInt32)).toInt8.toInt32))) 1 (nar .byte ((nar .char ((((p1.toUInt32 >>> ((8 : Int32) &&& 31).toUInt32).toInt32) &&& (255 : Int32)).toUInt32.toUInt16.toUInt32.toInt32)).toInt8.toInt32))) 2 (nar .byte ((nar .char ((p2 &&& (255 : Int32)).toUInt32.toUInt16.toUInt32.toInt32)).toInt8.toInt32))) o14) ∧ o569 = (nar .boolean o14))) (hp585 : own_cnt (13 : Int32) (0 : Int32) o569 (1 : Int32) (1 : Int32) o577 o578 o579) (hp595 : own_cnt z478 o577 o569 o578 o579 o587 o588 o589) (c596 : z489 = (0 : Int32)) (c598 : ¬ (o589 = (3 : Int32))) : False := by
  have hE : own_is (own_join z478 z456) z489 := by
    clear c598 c596 hp595 hp585 hp575 c561 c512 hp511 c508 hp507 hp504 hj479 hv458 hj457 c276 c128 c2 hv1
    simp only [own_is, own_join]
    grind
  have hx := (own_x3 ⟨own_ch _, own_ch0 _⟩ ⟨own_ch _, own_ch0 _⟩ ⟨own_ch _, own_ch0 _⟩ hj457 hp504)
  obtain ⟨t1, t2, t3⟩ := own_two (own_x3 ⟨own_ch _, own_ch0 _⟩ ⟨own_ch _, own_ch0 _⟩ ⟨own_ch _, own_ch0 _⟩ hj457 hp575) hp585 hp595
  obtain ⟨r1, r2⟩ := t2 (own_is0 hE c596) ((own_ex hx).mp (own_is1 hp511 c561))
  first | exact c598 r1 | exact c598 r2
theorem ob_0_66 (f_CS : Int32) (p0 : Int32) (p1 : Int32) (p2 : Int32) (p3 : Int32) (p4 : Int32) (v1 : Int32) (z456 : Int32) (v458 : Int32) (z478 : Int32) (z489 : Int32) (o498 : Int32) (o506 : Int32) (o510 : Int32) (o569 : Int32) (o577 : Int32) (o578 : Int32) (o579 : Int32) (o587 : Int32) (o588 : Int32) (o589 : Int32) (hn_CS : ¬ (f_CS = (0 : Int32))) (hv1 : (p0 &&& (3 : Int32)) = v1) (c2 : ¬ (v1 = (0 : Int32))) (c128 : ¬ (v1 = (1 : Int32))) (c276 : ¬ (v1 = (2 : Int32))) (hj457 : (((nar .char ((p1 &&& (255 : Int32)).toUInt32.toUInt16.toUInt32.toInt32)) = (49 : Int32)) ∧ ((nar .char ((((p1.toUInt32 >>> ((8 : Int32) &&& 31).toUInt32).toInt32) &&& (255 : Int32)).toUInt32.toUInt16.toUInt32.toInt32)) = (46 : Int32)) ∧ ((nar .char ((p2 &&& (255 : Int32)).toUInt32.toUInt16.toUInt32.toInt32)) = (49 : Int32)) ∧ z456 = (1 : Int32)) ∨ (((nar .char ((p1 &&& (255 : Int32)).toUInt32.toUInt16.toUInt32.toInt32)) = (49 : Int32)) ∧ ((nar .char ((((p1.toUInt32 >>> ((8 : Int32) &&& 31).toUInt32).toInt32) &&& (255 : Int32)).toUInt32.toUInt16.toUInt32.toInt32)) = (46 : Int32)) ∧ (¬ ((nar .char ((p2 &&& (255 : Int32)).toUInt32.toUInt16.toUInt32.toInt32)) = (49 : Int32))) ∧ z456 = (0 : Int32)) ∨ (((nar .char ((p1 &&& (255 : Int32)).toUInt32.toUInt16.toUInt32.toInt32)) = (49 : Int32)) ∧ (¬ ((nar .char ((((p1.toUInt32 >>> ((8 : Int32) &&& 31).toUInt32).toInt32) &&& (255 : Int32)).toUInt32.toUInt16.toUInt32.toInt32)) = (46 : Int32))) ∧ z456 = (0 : Int32)) ∨ ((¬ ((nar .char ((p1 &&& (255 : Int32)).toUInt32.toUInt16.toUInt32.toInt32)) = (49 : Int32))) ∧ z456 = (0 : Int32))) (hv458 : (p3 &&& (3 : Int32)) = v458) (hj479 : ((v458 = (0 : Int32)) ∧ z478 = (10 : Int32)) ∨ ((¬ (v458 = (0 : Int32))) ∧ (v458 = (1 : Int32)) ∧ z478 = (133 : Int32)) ∨ (∃ (z469 : Int32), (¬ (v458 = (0 : Int32))) ∧ (¬ (v458 = (1 : Int32))) ∧ (v458 = (2 : Int32)) ∧ ((((p4 &&& (1 : Int32)) = (0 : Int32)) ∧ z469 = (13 : Int32)) ∨ ((¬ ((p4 &&& (1 : Int32)) = (0 : Int32))) ∧ z469 = (8232 : Int32))) ∧ z478 = z469) ∨ (∃ (v471 : Int32), (¬ (v458 = (0 : Int32))) ∧ (¬ (v458 = (1 : Int32))) ∧ (¬ (v458 = (2 : Int32))) ∧ ((p4.toUInt32.toUInt16.toUInt32.toInt32) = v471) ∧ z478 = v471)) (hj490 : ((z478 = (10 : Int32)) ∧ z489 = (1 : Int32)) ∨ ((¬ (z478 = (10 : Int32))) ∧ (z478 = (133 : Int32)) ∧ (z456 = (0 : Int32)) ∧ z489 = (0 : Int32)) ∨ ((¬ (z478 = (10 : Int32))) ∧ (z478 = (133 : Int32)) ∧ (¬ (z456 = (0 : Int32))) ∧ z489 = (1 : Int32)) ∨ ((¬ (z478 = (10 : Int32))) ∧ (¬ (z478 = (133 : Int32))) ∧ z489 = (0 : Int32))) (hp504 : (∃ (o14 : Int32), (own_eq3 (own_li [49, 46, 49]) (own_upd (own_upd (own_upd (fun _ => (0 : Int32)) 0 (nar .byte ((nar .char ((p1 &&& (255 : Int32)).toUInt32.toUInt16.toUInt32.toInt32)).toInt8.toInt32))) 1 (nar .byte ((nar .char ((((p1.toUInt32 >>> ((8 : Int32) &&& 31).toUInt32).toInt32) &&& (255 : Int32)).toUInt32.toUInt16.toUInt32.toInt32)).toInt8.toInt32))) 2 (nar .byte ((nar .char ((p2 &&& (255 : Int32)).toUInt32.toUInt16.toUInt32.toInt32)).toInt8.toInt32))) o14) ∧ o498 = (nar .boolean o14))) (hp507 : own_is (own_join z478 o498) o506) (c508 : o506 = z489) (hp511 : own_is (own_ends z478 o498) o510) (c512 : ¬ (o506 = (0 : Int32))) (c561 : ¬ (o510 = (0 : Int32))) (hp575 : (∃ (o14 : Int32), (own_eq3 (own_li [49, 46, 49]) (own_upd (own_upd (own_upd (fun _ => (0 : Int32)) 0 (nar .byte ((nar .char ((p1 &&& (255 : Int32)).toUInt32.toUInt16.toUInt32.toInt32)).toInt8.toInt32))) 1 (nar .byte ((nar .char ((((p1.toUInt32 >>> ((8 : Int32) &&& 31).toUInt32).toInt32) &&& (255 : Int32)).toUInt32.toUInt16.toUInt32.toInt32)).toInt8.toInt32))) 2 (nar .byte ((nar .char ((p2 &&& (255 : Int32)).toUInt32.toUInt16.toUInt32.toInt32)).toInt8.toInt32))) o14) ∧ o569 = (nar .boolean o14))) (hp585 : own_cnt (13 : Int32) (0 : Int32) o569 (1 : Int32) (1 : Int32) o577 o578 o579) (hp595 : own_cnt z478 o577 o569 o578 o579 o587 o588 o589) (c596 : ¬ (z489 = (0 : Int32))) (c602 : o589 = (2 : Int32)) (c604 : ¬ (o588 = (1 : Int32))) : False := by
  have hE : own_is (own_join z478 z456) z489 := by
    clear c604 c602 c596 hp595 hp585 hp575 c561 c512 hp511 c508 hp507 hp504 hj479 hv458 hj457 c276 c128 c2 hv1
    simp only [own_is, own_join]
    grind
  have hx := (own_x3 ⟨own_ch _, own_ch0 _⟩ ⟨own_ch _, own_ch0 _⟩ ⟨own_ch _, own_ch0 _⟩ hj457 hp504)
  obtain ⟨t1, t2, t3⟩ := own_two (own_x3 ⟨own_ch _, own_ch0 _⟩ ⟨own_ch _, own_ch0 _⟩ ⟨own_ch _, own_ch0 _⟩ hj457 hp575) hp585 hp595
  obtain ⟨r1, r2⟩ := t1 (own_is1 hE c596)
  first | exact c604 r1 | exact c604 r2
theorem ob_0_67 (f_CS : Int32) (p0 : Int32) (p1 : Int32) (p2 : Int32) (p3 : Int32) (p4 : Int32) (v1 : Int32) (z456 : Int32) (v458 : Int32) (z478 : Int32) (z489 : Int32) (o498 : Int32) (o506 : Int32) (o510 : Int32) (o569 : Int32) (o577 : Int32) (o578 : Int32) (o579 : Int32) (o587 : Int32) (o588 : Int32) (o589 : Int32) (hn_CS : ¬ (f_CS = (0 : Int32))) (hv1 : (p0 &&& (3 : Int32)) = v1) (c2 : ¬ (v1 = (0 : Int32))) (c128 : ¬ (v1 = (1 : Int32))) (c276 : ¬ (v1 = (2 : Int32))) (hj457 : (((nar .char ((p1 &&& (255 : Int32)).toUInt32.toUInt16.toUInt32.toInt32)) = (49 : Int32)) ∧ ((nar .char ((((p1.toUInt32 >>> ((8 : Int32) &&& 31).toUInt32).toInt32) &&& (255 : Int32)).toUInt32.toUInt16.toUInt32.toInt32)) = (46 : Int32)) ∧ ((nar .char ((p2 &&& (255 : Int32)).toUInt32.toUInt16.toUInt32.toInt32)) = (49 : Int32)) ∧ z456 = (1 : Int32)) ∨ (((nar .char ((p1 &&& (255 : Int32)).toUInt32.toUInt16.toUInt32.toInt32)) = (49 : Int32)) ∧ ((nar .char ((((p1.toUInt32 >>> ((8 : Int32) &&& 31).toUInt32).toInt32) &&& (255 : Int32)).toUInt32.toUInt16.toUInt32.toInt32)) = (46 : Int32)) ∧ (¬ ((nar .char ((p2 &&& (255 : Int32)).toUInt32.toUInt16.toUInt32.toInt32)) = (49 : Int32))) ∧ z456 = (0 : Int32)) ∨ (((nar .char ((p1 &&& (255 : Int32)).toUInt32.toUInt16.toUInt32.toInt32)) = (49 : Int32)) ∧ (¬ ((nar .char ((((p1.toUInt32 >>> ((8 : Int32) &&& 31).toUInt32).toInt32) &&& (255 : Int32)).toUInt32.toUInt16.toUInt32.toInt32)) = (46 : Int32))) ∧ z456 = (0 : Int32)) ∨ ((¬ ((nar .char ((p1 &&& (255 : Int32)).toUInt32.toUInt16.toUInt32.toInt32)) = (49 : Int32))) ∧ z456 = (0 : Int32))) (hv458 : (p3 &&& (3 : Int32)) = v458) (hj479 : ((v458 = (0 : Int32)) ∧ z478 = (10 : Int32)) ∨ ((¬ (v458 = (0 : Int32))) ∧ (v458 = (1 : Int32)) ∧ z478 = (133 : Int32)) ∨ (∃ (z469 : Int32), (¬ (v458 = (0 : Int32))) ∧ (¬ (v458 = (1 : Int32))) ∧ (v458 = (2 : Int32)) ∧ ((((p4 &&& (1 : Int32)) = (0 : Int32)) ∧ z469 = (13 : Int32)) ∨ ((¬ ((p4 &&& (1 : Int32)) = (0 : Int32))) ∧ z469 = (8232 : Int32))) ∧ z478 = z469) ∨ (∃ (v471 : Int32), (¬ (v458 = (0 : Int32))) ∧ (¬ (v458 = (1 : Int32))) ∧ (¬ (v458 = (2 : Int32))) ∧ ((p4.toUInt32.toUInt16.toUInt32.toInt32) = v471) ∧ z478 = v471)) (hj490 : ((z478 = (10 : Int32)) ∧ z489 = (1 : Int32)) ∨ ((¬ (z478 = (10 : Int32))) ∧ (z478 = (133 : Int32)) ∧ (z456 = (0 : Int32)) ∧ z489 = (0 : Int32)) ∨ ((¬ (z478 = (10 : Int32))) ∧ (z478 = (133 : Int32)) ∧ (¬ (z456 = (0 : Int32))) ∧ z489 = (1 : Int32)) ∨ ((¬ (z478 = (10 : Int32))) ∧ (¬ (z478 = (133 : Int32))) ∧ z489 = (0 : Int32))) (hp504 : (∃ (o14 : Int32), (own_eq3 (own_li [49, 46, 49]) (own_upd (own_upd (own_upd (fun _ => (0 : Int32)) 0 (nar .byte ((nar .char ((p1 &&& (255 : Int32)).toUInt32.toUInt16.toUInt32.toInt32)).toInt8.toInt32))) 1 (nar .byte ((nar .char ((((p1.toUInt32 >>> ((8 : Int32) &&& 31).toUInt32).toInt32) &&& (255 : Int32)).toUInt32.toUInt16.toUInt32.toInt32)).toInt8.toInt32))) 2 (nar .byte ((nar .char ((p2 &&& (255 : Int32)).toUInt32.toUInt16.toUInt32.toInt32)).toInt8.toInt32))) o14) ∧ o498 = (nar .boolean o14))) (hp507 : own_is (own_join z478 o498) o506) (c508 : o506 = z489) (hp511 : own_is (own_ends z478 o498) o510) (c512 : ¬ (o506 = (0 : Int32))) (c561 : ¬ (o510 = (0 : Int32))) (hp575 : (∃ (o14 : Int32), (own_eq3 (own_li [49, 46, 49]) (own_upd (own_upd (own_upd (fun _ => (0 : Int32)) 0 (nar .byte ((nar .char ((p1 &&& (255 : Int32)).toUInt32.toUInt16.toUInt32.toInt32)).toInt8.toInt32))) 1 (nar .byte ((nar .char ((((p1.toUInt32 >>> ((8 : Int32) &&& 31).toUInt32).toInt32) &&& (255 : Int32)).toUInt32.toUInt16.toUInt32.toInt32)).toInt8.toInt32))) 2 (nar .byte ((nar .char ((p2 &&& (255 : Int32)).toUInt32.toUInt16.toUInt32.toInt32)).toInt8.toInt32))) o14) ∧ o569 = (nar .boolean o14))) (hp585 : own_cnt (13 : Int32) (0 : Int32) o569 (1 : Int32) (1 : Int32) o577 o578 o579) (hp595 : own_cnt z478 o577 o569 o578 o579 o587 o588 o589) (c596 : ¬ (z489 = (0 : Int32))) (c602 : ¬ (o589 = (2 : Int32))) : False := by
  have hE : own_is (own_join z478 z456) z489 := by
    clear c602 c596 hp595 hp585 hp575 c561 c512 hp511 c508 hp507 hp504 hj479 hv458 hj457 c276 c128 c2 hv1
    simp only [own_is, own_join]
    grind
  have hx := (own_x3 ⟨own_ch _, own_ch0 _⟩ ⟨own_ch _, own_ch0 _⟩ ⟨own_ch _, own_ch0 _⟩ hj457 hp504)
  obtain ⟨t1, t2, t3⟩ := own_two (own_x3 ⟨own_ch _, own_ch0 _⟩ ⟨own_ch _, own_ch0 _⟩ ⟨own_ch _, own_ch0 _⟩ hj457 hp575) hp585 hp595
  obtain ⟨r1, r2⟩ := t1 (own_is1 hE c596)
  first | exact c602 r1 | exact c602 r2
theorem ob_0_68 (f_CS : Int32) (p0 : Int32) (p1 : Int32) (p2 : Int32) (p3 : Int32) (p4 : Int32) (v1 : Int32) (z456 : Int32) (v458 : Int32) (z478 : Int32) (z489 : Int32) (o498 : Int32) (o506 : Int32) (hn_CS : ¬ (f_CS = (0 : Int32))) (hv1 : (p0 &&& (3 : Int32)) = v1) (c2 : ¬ (v1 = (0 : Int32))) (c128 : ¬ (v1 = (1 : Int32))) (c276 : ¬ (v1 = (2 : Int32))) (hj457 : (((nar .char ((p1 &&& (255 : Int32)).toUInt32.toUInt16.toUInt32.toInt32)) = (49 : Int32)) ∧ ((nar .char ((((p1.toUInt32 >>> ((8 : Int32) &&& 31).toUInt32).toInt32) &&& (255 : Int32)).toUInt32.toUInt16.toUInt32.toInt32)) = (46 : Int32)) ∧ ((nar .char ((p2 &&& (255 : Int32)).toUInt32.toUInt16.toUInt32.toInt32)) = (49 : Int32)) ∧ z456 = (1 : Int32)) ∨ (((nar .char ((p1 &&& (255 : Int32)).toUInt32.toUInt16.toUInt32.toInt32)) = (49 : Int32)) ∧ ((nar .char ((((p1.toUInt32 >>> ((8 : Int32) &&& 31).toUInt32).toInt32) &&& (255 : Int32)).toUInt32.toUInt16.toUInt32.toInt32)) = (46 : Int32)) ∧ (¬ ((nar .char ((p2 &&& (255 : Int32)).toUInt32.toUInt16.toUInt32.toInt32)) = (49 : Int32))) ∧ z456 = (0 : Int32)) ∨ (((nar .char ((p1 &&& (255 : Int32)).toUInt32.toUInt16.toUInt32.toInt32)) = (49 : Int32)) ∧ (¬ ((nar .char ((((p1.toUInt32 >>> ((8 : Int32) &&& 31).toUInt32).toInt32) &&& (255 : Int32)).toUInt32.toUInt16.toUInt32.toInt32)) = (46 : Int32))) ∧ z456 = (0 : Int32)) ∨ ((¬ ((nar .char ((p1 &&& (255 : Int32)).toUInt32.toUInt16.toUInt32.toInt32)) = (49 : Int32))) ∧ z456 = (0 : Int32))) (hv458 : (p3 &&& (3 : Int32)) = v458) (hj479 : ((v458 = (0 : Int32)) ∧ z478 = (10 : Int32)) ∨ ((¬ (v458 = (0 : Int32))) ∧ (v458 = (1 : Int32)) ∧ z478 = (133 : Int32)) ∨ (∃ (z469 : Int32), (¬ (v458 = (0 : Int32))) ∧ (¬ (v458 = (1 : Int32))) ∧ (v458 = (2 : Int32)) ∧ ((((p4 &&& (1 : Int32)) = (0 : Int32)) ∧ z469 = (13 : Int32)) ∨ ((¬ ((p4 &&& (1 : Int32)) = (0 : Int32))) ∧ z469 = (8232 : Int32))) ∧ z478 = z469) ∨ (∃ (v471 : Int32), (¬ (v458 = (0 : Int32))) ∧ (¬ (v458 = (1 : Int32))) ∧ (¬ (v458 = (2 : Int32))) ∧ ((p4.toUInt32.toUInt16.toUInt32.toInt32) = v471) ∧ z478 = v471)) (hj490 : ((z478 = (10 : Int32)) ∧ z489 = (1 : Int32)) ∨ ((¬ (z478 = (10 : Int32))) ∧ (z478 = (133 : Int32)) ∧ (z456 = (0 : Int32)) ∧ z489 = (0 : Int32)) ∨ ((¬ (z478 = (10 : Int32))) ∧ (z478 = (133 : Int32)) ∧ (¬ (z456 = (0 : Int32))) ∧ z489 = (1 : Int32)) ∨ ((¬ (z478 = (10 : Int32))) ∧ (¬ (z478 = (133 : Int32))) ∧ z489 = (0 : Int32))) (hp504 : (∃ (o14 : Int32), (own_eq3 (own_li [49, 46, 49]) (own_upd (own_upd (own_upd (fun _ => (0 : Int32)) 0 (nar .byte ((nar .char ((p1 &&& (255 : Int32)).toUInt32.toUInt16.toUInt32.toInt32)).toInt8.toInt32))) 1 (nar .byte ((nar .char ((((p1.toUInt32 >>> ((8 : Int32) &&& 31).toUInt32).toInt32) &&& (255 : Int32)).toUInt32.toUInt16.toUInt32.toInt32)).toInt8.toInt32))) 2 (nar .byte ((nar .char ((p2 &&& (255 : Int32)).toUInt32.toUInt16.toUInt32.toInt32)).toInt8.toInt32))) o14) ∧ o498 = (nar .boolean o14))) (hp507 : own_is (own_join z478 o498) o506) (c508 : ¬ (o506 = z489)) : False := by
  have hE : own_is (own_join z478 z456) z489 := by
    clear c508 hp507 hp504 hj479 hv458 hj457 c276 c128 c2 hv1
    simp only [own_is, own_join]
    grind
  have hx := (own_x3 ⟨own_ch _, own_ch0 _⟩ ⟨own_ch _, own_ch0 _⟩ ⟨own_ch _, own_ch0 _⟩ hj457 hp504)
  exact c508 (own_isE hp507 hE (own_jx hx))
def Q0 (Z : State) (f_CS : Int32) (p0 : Int32) (p1 : Int32) (p2 : Int32) (p3 : Int32) (p4 : Int32) (h0 : Heap) (n0 : Nat) (v : Option Value) (h : Heap) (L : List Loc) : Prop := v = some (.int (1 : Int32)) ∧ Fr n0 L
set_option maxRecDepth 65536 in
set_option maxHeartbeats 40000000 in
theorem rm0 (l : Launch) (Z : State) (A0 : Array Value) (hw : ∀ d ∈ tables_1, d.before A0 Z = true) (ws : List Jvm.Cond) (f_CS : Int32) (p0 : Int32) (p1 : Int32) (p2 : Int32) (p3 : Int32) (p4 : Int32) (h0 : Heap) (n0 : Nat) (Z0 : n0 ≤ h0.size) (P_S_CS : Sta Z h0 "java/lang/String" "COMPACT_STRINGS" "Z" (.int f_CS)) (hn_CS : ¬ (f_CS = (0 : Int32))) :
    MetFree l x (head1 (Jvm.Cond.code x code maxLocals ret :: ws) room_1) (fun a U => a = #[(.int p0), (.int p1), (.int p2), (.int p3), (.int p4)] ∧ Z.Warmed39 U.vm ∧ U.heap = h0 ∧ CHv Z consts_1 U.vm h0) (fun _ _ _ _ _ => True) (fun _ U o U' => ∃ v L, o = .returned v ∧ Q0 Z f_CS p0 p1 p2 p3 p4 h0 n0 v U'.heap L ∧ CHr Z consts_1 U.vm U.heap U'.vm U'.heap ∧ ReturnedEndW U o U' L 24 3200) := by
 refine MetFree.of_bodySF (plainFor_of_name pn_0) hisR ?_
 intro p e s m args below meth c s₁ Bd hml0 hP hK
 obtain ⟨rfl, hZ, hh, hC0⟩ := hP
 have hwd := fun i {d : Jvm.Cond} (h : tables_1[i]? = some d) => hw d (List.mem_of_getElem? h)
 have hx := Bd.exec
 have hby := Bd.bytes
 have hml : c.maxLocals = 15 := hml0
 have hlk : meth.locks = false := Bd.notSynchronized
 have hown : s.vm.findClass "com/example/margay/margay/index/LineCounterEndsLineWithCarriageReturnPinLaw" = some m.cls := findClass_of_methodNamed Bd.named
 have hnm := (name_of_methodNamed Bd.named Bd.method).1
 have X0 : Stand p l e room_1 (s.setVm s.vm) m #[(.int p0), (.int p1), (.int p2), (.int p3), (.int p4)] below meth c s₁ [] 0 0 := Stand.of_body Bd
 have e0 : s₁.heap = h0 := by rw [← hh, Bd.state]; rfl
 have N0 := Fr.nil n0
 have hEL := own_EW hw
 have hwS := fun a ha => hw a (own_atoms a ha)
 have CR0 : CHr Z consts_1 s.vm h0 s.vm h0 := CHr.refl hC0
 obtain ⟨kc0, hkc0⟩ : ∃ z, z = h0.size := ⟨_, rfl⟩
 have hk0 : kc0 ≤ h0.size := Nat.le_of_eq hkc0
 have hS : s.Since s.vm kc0 := own_since s kc0
 show own_Go p e below (own_FinW Z consts_1 s 24 3200 (Q0 Z f_CS p0 p1 p2 p3 p4 h0 n0)) _
 refine own_by (fun t k => castTop (ef_0 m p0 p1 p2 p3 p4) k) ?_
 show own_Go p e below _ (s₁.setTop (mkF m 0 #[vI p0, vI p1, vI p2, vI p3, vI p4, .unset, .unset, .unset, .unset, .unset, .unset, .unset, .unset, .unset, .unset] []))
 refine own_by (fun _ k => XS.iloadN X0.here hx rfl (hb hby at_0) rfl k) ?_
 show own_Go p e below _ (s₁.setTop (mkF m 1 #[vI p0, vI p1, vI p2, vI p3, vI p4, .unset, .unset, .unset, .unset, .unset, .unset, .unset, .unset, .unset, .unset] [(.int p0)]))
 refine own_by (fun _ k => XS.iconst X0.here hx rfl (hb hby at_1) k) ?_
 show own_Go p e below _ (s₁.setTop (mkF m 2 #[vI p0, vI p1, vI p2, vI p3, vI p4, .unset, .unset, .unset, .unset, .unset, .unset, .unset, .unset, .unset, .unset] [(.int (3 : Int32)), (.int p0)]))
 refine own_by (fun _ k => XS.iand X0.here hx rfl (hb hby at_2) rfl k) ?_
 show own_Go p e below _ (s₁.setTop (mkF m 3 #[vI p0, vI p1, vI p2, vI p3, vI p4, .unset, .unset, .unset, .unset, .unset, .unset, .unset, .unset, .unset, .unset] [(.int (p0 &&& (3 : Int32)))]))
 refine own_by (fun _ k => XS.istore X0.here hx rfl (hb hby at_3) rfl (l' := #[vI p0, vI p1, vI p2, vI p3, vI p4, .unset, .unset, vI (p0 &&& (3 : Int32)), .unset, .unset, .unset, .unset, .unset, .unset, .unset]) rfl k) ?_
 show own_Go p e below _ (s₁.setTop (mkF m 5 #[vI p0, vI p1, vI p2, vI p3, vI p4, .unset, .unset, vI (p0 &&& (3 : Int32)), .unset, .unset, .unset, .unset, .unset, .unset, .unset] []))
 generalize hv1 : (p0 &&& (3 : Int32)) = v1
 show own_Go p e below _ (s₁.setTop (mkF m 5 #[vI p0, vI p1, vI p2, vI p3, vI p4, .unset, .unset, vI v1, .unset, .unset, .unset, .unset, .unset, .unset, .unset] []))
 refine own_by (fun _ k => XS.iload X0.here hx rfl (hb hby at_5) rfl k) ?_
 show own_Go p e below _ (s₁.setTop (mkF m 7 #[vI p0, vI p1, vI p2, vI p3, vI p4, .unset, .unset, vI v1, .unset, .unset, .unset, .unset, .unset, .unset, .unset] [(.int v1)]))
 by_cases c2 : v1 = (0 : Int32)
 ·skip
  refine own_by (fun _ k => XS.ifNo X0.here hx rfl (hb hby at_7) rfl ((if0 _ _).trans (teq c2).2) k) ?_
  show own_Go p e below _ (s₁.setTop (mkF m 10 #[vI p0, vI p1, vI p2, vI p3, vI p4, .unset, .unset, vI v1, .unset, .unset, .unset, .unset, .unset, .unset, .unset] []))
  refine own_by (fun _ k => XS.aconstNull X0.here hx rfl (hb hby at_10) k) ?_
  show own_Go p e below _ (s₁.setTop (mkF m 11 #[vI p0, vI p1, vI p2, vI p3, vI p4, .unset, .unset, vI v1, .unset, .unset, .unset, .unset, .unset, .unset, .unset] [.null]))
  refine own_by (fun _ k => XS.astore X0.here hx rfl (hb hby at_11) rfl rfl (l' := #[vI p0, vI p1, vI p2, vI p3, vI p4, .val .null, .unset, vI v1, .unset, .unset, .unset, .unset, .unset, .unset, .unset]) rfl k) ?_
  show own_Go p e below _ (s₁.setTop (mkF m 13 #[vI p0, vI p1, vI p2, vI p3, vI p4, .val .null, .unset, vI v1, .unset, .unset, .unset, .unset, .unset, .unset, .unset] []))
  refine own_by (fun _ k => XS.iconst X0.here hx rfl (hb hby at_13) k) ?_
  show own_Go p e below _ (s₁.setTop (mkF m 14 #[vI p0, vI p1, vI p2, vI p3, vI p4, .val .null, .unset, vI v1, .unset, .unset, .unset, .unset, .unset, .unset, .unset] [(.int (0 : Int32))]))
  refine own_by (fun _ k => XS.istore X0.here hx rfl (hb hby at_14) rfl (l' := #[vI p0, vI p1, vI p2, vI p3, vI p4, .val .null, vI (0 : Int32), vI v1, .unset, .unset, .unset, .unset, .unset, .unset, .unset]) rfl k) ?_
  show own_Go p e below _ (s₁.setTop (mkF m 16 #[vI p0, vI p1, vI p2, vI p3, vI p4, .val .null, vI (0 : Int32), vI v1, .unset, .unset, .unset, .unset, .unset, .unset, .unset] []))
  refine own_by (fun _ k => XS.goto X0.here hx rfl (pc0 := 16) (pc' := 134) rfl (hb hby at_16) (by decide) (by decide) k) ?_
  show own_Go p e below _ (s₁.setTop (mkF m 134 #[vI p0, vI p1, vI p2, vI p3, vI p4, .val .null, vI (0 : Int32), vI v1, .unset, .unset, .unset, .unset, .unset, .unset, .unset] []))
  refine own_by (fun _ k => XS.iloadN X0.here hx rfl (hb hby at_134) rfl k) ?_
  show own_Go p e below _ (s₁.setTop (mkF m 135 #[vI p0, vI p1, vI p2, vI p3, vI p4, .val .null, vI (0 : Int32), vI v1, .unset, .unset, .unset, .unset, .unset, .unset, .unset] [(.int p3)]))
  refine own_by (fun _ k => XS.iconst X0.here hx rfl (hb hby at_135) k) ?_
  show own_Go p e below _ (s₁.setTop (mkF m 136 #[vI p0, vI p1, vI p2, vI p3, vI p4, .val .null, vI (0 : Int32), vI v1, .unset, .unset, .unset, .unset, .unset, .unset, .unset] [(.int (3 : Int32)), (.int p3)]))
  refine own_by (fun _ k => XS.iand X0.here hx rfl (hb hby at_136) rfl k) ?_
  show own_Go p e below _ (s₁.setTop (mkF m 137 #[vI p0, vI p1, vI p2, vI p3, vI p4, .val .null, vI (0 : Int32), vI v1, .unset, .unset, .unset, .unset, .unset, .unset, .unset] [(.int (p3 &&& (3 : Int32)))]))
  refine own_by (fun _ k => XS.istore X0.here hx rfl (hb hby at_137) rfl (l' := #[vI p0, vI p1, vI p2, vI p3, vI p4, .val .null, vI (0 : Int32), vI v1, .unset, vI (p3 &&& (3 : Int32)), .unset, .unset, .unset, .unset, .unset]) rfl k) ?_
  show own_Go p e below _ (s₁.setTop (mkF m 139 #[vI p0, vI p1, vI p2, vI p3, vI p4, .val .null, vI (0 : Int32), vI v1, .unset, vI (p3 &&& (3 : Int32)), .unset, .unset, .unset, .unset, .unset] []))
  generalize hv3 : (p3 &&& (3 : Int32)) = v3
  show own_Go p e below _ (s₁.setTop (mkF m 139 #[vI p0, vI p1, vI p2, vI p3, vI p4, .val .null, vI (0 : Int32), vI v1, .unset, vI v3, .unset, .unset, .unset, .unset, .unset] []))
  refine own_by (fun _ k => XS.iload X0.here hx rfl (hb hby at_139) rfl k) ?_
  show own_Go p e below _ (s₁.setTop (mkF m 141 #[vI p0, vI p1, vI p2, vI p3, vI p4, .val .null, vI (0 : Int32), vI v1, .unset, vI v3, .unset, .unset, .unset, .unset, .unset] [(.int v3)]))
  have J17 : ∀ (T18 : State) (L19 : List Loc) (z23 : Int32), Stand p l e room_1 (s.setVm s.vm) m #[(.int p0), (.int p1), (.int p2), (.int p3), (.int p4)] below meth c T18 L19 0 0 → T18.heap = h0 → Fr n0 L19 → (((v3 = (0 : Int32)) ∧ z23 = (10 : Int32)) ∨ ((¬ (v3 = (0 : Int32))) ∧ (v3 = (1 : Int32)) ∧ z23 = (133 : Int32)) ∨ (∃ (z14 : Int32), (¬ (v3 = (0 : Int32))) ∧ (¬ (v3 = (1 : Int32))) ∧ (v3 = (2 : Int32)) ∧ ((((p4 &&& (1 : Int32)) = (0 : Int32)) ∧ z14 = (13 : Int32)) ∨ ((¬ ((p4 &&& (1 : Int32)) = (0 : Int32))) ∧ z14 = (8232 : Int32))) ∧ z23 = z14) ∨ (∃ (v16 : Int32), (¬ (v3 = (0 : Int32))) ∧ (¬ (v3 = (1 : Int32))) ∧ (¬ (v3 = (2 : Int32))) ∧ ((p4.toUInt32.toUInt16.toUInt32.toInt32) = v16) ∧ z23 = v16)) → own_Go p e below (own_FinW Z consts_1 s 24 3200 (Q0 Z f_CS p0 p1 p2 p3 p4 h0 n0)) (T18.setTop (mkF m 196 #[vI p0, vI p1, vI p2, vI p3, vI p4, .val .null, vI (0 : Int32), vI v1, vI z23, vI v3, .unset, .unset, .unset, .unset, .unset] [])) := by
   intro T18 L19 z23 X20 e21 N22 hj24
   refine own_by (fun _ k => XS.iload X20.here hx rfl (hb hby at_196) rfl k) ?_
   show own_Go p e below _ (T18.setTop (mkF m 198 #[vI p0, vI p1, vI p2, vI p3, vI p4, .val .null, vI (0 : Int32), vI v1, vI z23, vI v3, .unset, .unset, .unset, .unset, .unset] [(.int z23)]))
   refine own_by (fun _ k => XS.bipush X20.here hx rfl (hb hby at_198) k) ?_
   show own_Go p e below _ (T18.setTop (mkF m 200 #[vI p0, vI p1, vI p2, vI p3, vI p4, .val .null, vI (0 : Int32), vI v1, vI z23, vI v3, .unset, .unset, .unset, .unset, .unset] [(.int (10 : Int32)), (.int z23)]))
   have J27 : ∀ (T28 : State) (L29 : List Loc) (z33 : Int32), Stand p l e room_1 (s.setVm s.vm) m #[(.int p0), (.int p1), (.int p2), (.int p3), (.int p4)] below meth c T28 L29 0 0 → T28.heap = h0 → Fr n0 L29 → (((z23 = (10 : Int32)) ∧ z33 = (1 : Int32)) ∨ ((¬ (z23 = (10 : Int32))) ∧ (z23 = (133 : Int32)) ∧ z33 = (0 : Int32)) ∨ ((¬ (z23 = (10 : Int32))) ∧ (¬ (z23 = (133 : Int32))) ∧ z33 = (0 : Int32))) → own_Go p e below (own_FinW Z consts_1 s 24 3200 (Q0 Z f_CS p0 p1 p2 p3 p4 h0 n0)) (T28.setTop (mkF m 221 #[vI p0, vI p1, vI p2, vI p3, vI p4, .val .null, vI (0 : Int32), vI v1, vI z23, vI v3, .unset, .unset, .unset, .unset, .unset] [(.int z33)])) := by
    intro T28 L29 z33 X30 e31 N32 hj34
    refine own_by (fun _ k => XS.istore X30.here hx rfl (hb hby at_221) rfl (l' := #[vI p0, vI p1, vI p2, vI p3, vI p4, .val .null, vI (0 : Int32), vI v1, vI z23, vI v3, vI z33, .unset, .unset, .unset, .unset]) rfl k) ?_
    show own_Go p e below _ (T28.setTop (mkF m 223 #[vI p0, vI p1, vI p2, vI p3, vI p4, .val .null, vI (0 : Int32), vI v1, vI z23, vI v3, vI z33, .unset, .unset, .unset, .unset] []))
    obtain ⟨T35, h35, X35, e35, E35, A35, D35, -, st35⟩ := newO X30 hx hZ hown (hwd 0 rfl) (hwd 1 rfl) (hwd 2 rfl) e31 (g := (mkF m 223 #[vI p0, vI p1, vI p2, vI p3, vI p4, .val .null, vI (0 : Int32), vI v1, vI z23, vI v3, vI z33, .unset, .unset, .unset, .unset] [])) rfl (hb hby at_223) (by decide) (by decide)
    obtain ⟨b35, g35⟩ : ∃ z, z = h0.size := ⟨_, rfl⟩
    have ge_b35 : n0 ≤ b35 := Nat.le_trans Z0 (Nat.le_of_eq g35.symm)
    have sz_b35 : h0.size ≤ b35 := Nat.le_trans (Keep.refl h0 []).1 (Nat.le_of_eq g35.symm)
    have R35 : CHr Z consts_1 s.vm h0 s.vm h35 := CHr.ext E35 CR0.1
    have CR35 : CHr Z consts_1 s.vm h0 s.vm h35 := CR0.trans R35
    have hk35 : kc0 ≤ h35.size := Nat.le_trans hk0 E35.1
    have S_b35 : Safe Z consts_1 s.vm h35 b35 := Safe.ext E35 CR0.1 (Safe.new (Nat.le_of_eq g35.symm))
    have K35 : Keep h0 h35 [] := (Keep.refl h0 []).ext E35
    have Z35 : n0 ≤ h35.size := Nat.le_trans Z0 E35.1
    rw [← g35] at A35 D35 st35
    have lt_b35 := A35.lt
    have F_line_b35 : Fld Z h35 b35 "com/example/margay/margay/index/LineCounter" "line" "I" (.int (0 : Int32)) := D35 (Or.inl (hwd 10 rfl)) (ty := .int) (by decide)
    have F_column_b35 : Fld Z h35 b35 "com/example/margay/margay/index/LineCounter" "column" "I" (.int (0 : Int32)) := D35 (Or.inl (hwd 12 rfl)) (ty := .int) (by decide)
    have F_xml11_b35 : Fld Z h35 b35 "com/example/margay/margay/index/LineCounter" "xml11" "Z" (.int (0 : Int32)) := D35 (Or.inr (hwd 27 rfl)) (ty := .boolean) (by decide)
    have F_afterCarriageReturn_b35 : Fld Z h35 b35 "com/example/margay/margay/index/LineCounter" "afterCarriageReturn" "Z" (.int (0 : Int32)) := D35 (Or.inl (hwd 44 rfl)) (ty := .boolean) (by decide)
    refine own_by st35 ?_
    show own_Go p e below _ (T35.setTop (mkF m 226 #[vI p0, vI p1, vI p2, vI p3, vI p4, .val .null, vI (0 : Int32), vI v1, vI z23, vI v3, vI z33, .unset, .unset, .unset, .unset] [(.ref b35)]))
    refine own_by (fun _ k => XS.dup X35.here hx rfl (hb hby at_226) rfl rfl k) ?_
    show own_Go p e below _ (T35.setTop (mkF m 227 #[vI p0, vI p1, vI p2, vI p3, vI p4, .val .null, vI (0 : Int32), vI v1, vI z23, vI v3, vI z33, .unset, .unset, .unset, .unset] [(.ref b35), (.ref b35)]))
    refine own_by (fun _ k => XS.aload X35.here hx rfl (hb hby at_227) rfl rfl k) ?_
    show own_Go p e below _ (T35.setTop (mkF m 229 #[vI p0, vI p1, vI p2, vI p3, vI p4, .val .null, vI (0 : Int32), vI v1, vI z23, vI v3, vI z33, .unset, .unset, .unset, .unset] [.null, (.ref b35), (.ref b35)]))
    obtain ⟨_, _, ⟨T36, L36, k36, n36⟩, -, X36', hSq36, hgr36, ⟨Lc36, hQ36, l36, y36, z36, R36⟩, st36⟩ := X35.specialBackS hx (y := (⟨"com/example/margay/margay/index/LineCounter", "<init>", "(Ljava/lang/String;)V"⟩ : MethodName)) rfl hown (mvT hZ (hwd 3 rfl)) (mvT hZ (hwd 4 rfl)) (mvT hZ (hwd 5 rfl)) (by decide) (backOfSH (W := 1) (rmlcN l Z A0 hw [] b35 (0 : Int32) (0 : Int32) (0 : Int32) (0 : Int32) h35 n0 Z35 A35 F_line_b35 ge_b35 F_column_b35 F_xml11_b35 F_afterCarriageReturn_b35) hZ (hwd 5 rfl) (hwd 2 rfl) (by decide) (by decide) hEL CR35.1) (g := (mkF m 229 #[vI p0, vI p1, vI p2, vI p3, vI p4, .val .null, vI (0 : Int32), vI v1, vI z23, vI v3, vI z33, .unset, .unset, .unset, .unset] [.null, (.ref b35), (.ref b35)])) rfl (by rw [hml]; rfl) (Steps.refl _) (a := b35) (argsL := [.null]) (rest := [(.ref b35)]) (lenOf pd_3 rfl) rfl (by show 2 * 0 + _ ≤ _; exact Nat.le_of_eq rfl) (hb hby at_229) (fun _ _ => ⟨rfl, e35, (by decide : 1 + 2 ≤ _), (by decide : 4 + 16 ≤ _)⟩)
    dsimp only [Pt.U, Pt.locs, Pt.cells, Pt.slots] at X36' l36 y36 z36 st36 hQ36 hSq36 hgr36 R36
    subst l36 y36 z36
    obtain ⟨X36, hS, hZ, hown⟩ := rebS hS (by rw [e35]; exact hk35) X36' hSq36 hgr36 hZ hown
    obtain ⟨kc36, hkc36⟩ : ∃ z, z = T36.heap.size := ⟨_, rfl⟩
    rw [← hkc36] at hS
    have hk36 : kc36 ≤ T36.heap.size := Nat.le_of_eq hkc36
    have CR36 : CHr Z consts_1 s.vm h0 T36.vm T36.heap := CR35.trans R36
    obtain ⟨rfl, Nq36, Kq36, F37, F38, F39, F40, F41⟩ := hQ36
    have N36 := Fr.app N32 Nq36
    have K36 : Keep h0 T36.heap [] := K35.trans Kq36 ((allS (Or.inr sz_b35) all0))
    have Z36 : n0 ≤ T36.heap.size := Nat.le_trans Z35 Kq36.1
    refine own_by (fun _ k => st36.trans k) ?_
    show own_Go p e below _ (T36.setTop (mkF m 232 #[vI p0, vI p1, vI p2, vI p3, vI p4, .val .null, vI (0 : Int32), vI v1, vI z23, vI v3, vI z33, .unset, .unset, .unset, .unset] [(.ref b35)]))
    refine own_by (fun _ k => XS.astore X36.here hx rfl (hb hby at_232) rfl rfl (l' := #[vI p0, vI p1, vI p2, vI p3, vI p4, .val .null, vI (0 : Int32), vI v1, vI z23, vI v3, vI z33, vR b35, .unset, .unset, .unset]) rfl k) ?_
    show own_Go p e below _ (T36.setTop (mkF m 234 #[vI p0, vI p1, vI p2, vI p3, vI p4, .val .null, vI (0 : Int32), vI v1, vI z23, vI v3, vI z33, vR b35, .unset, .unset, .unset] []))
    refine own_by (fun _ k => XS.aload X36.here hx rfl (hb hby at_234) rfl rfl k) ?_
    show own_Go p e below _ (T36.setTop (mkF m 236 #[vI p0, vI p1, vI p2, vI p3, vI p4, .val .null, vI (0 : Int32), vI v1, vI z23, vI v3, vI z33, vR b35, .unset, .unset, .unset] [(.ref b35)]))
    refine own_by (fun _ k => XS.iload X36.here hx rfl (hb hby at_236) rfl k) ?_
    show own_Go p e below _ (T36.setTop (mkF m 238 #[vI p0, vI p1, vI p2, vI p3, vI p4, .val .null, vI (0 : Int32), vI v1, vI z23, vI v3, vI z33, vR b35, .unset, .unset, .unset] [(.int z23), (.ref b35)]))
    obtain ⟨cq42, kq42, qq42a, qq42b, qq42c⟩ := isOf hZ rfl F37
    obtain ⟨_, _, ⟨T42, L42, k42, n42⟩, -, X42, ⟨Lc42, hQ42, l42, y42, z42⟩, st42⟩ := X36.virtualBack hx (y := (⟨"com/example/margay/margay/index/LineCounter", "endsLineWithCarriageReturn", "(C)Z"⟩ : MethodName)) (z := (⟨"com/example/margay/margay/index/LineCounter", "endsLineWithCarriageReturn", "(C)Z"⟩ : MethodName)) hown (mvT hZ (hwd 28 rfl)) (mvT hZ (hwd 29 rfl)) (notFace_of_selects (args := #[]) (mvT hZ (hwd 31 rfl))) (mvT hZ (hwd 31 rfl)) (mvT hZ (hwd 30 rfl)) (by decide) (backOf (W := 0) (rm4 l Z A0 hw [] b35 z23 (0 : Int32) T36.heap n0 Z36 F40) hZ (hwd 32 rfl) (hwd 2 rfl) (by decide) (by decide)) qq42a qq42c (g := (mkF m 238 #[vI p0, vI p1, vI p2, vI p3, vI p4, .val .null, vI (0 : Int32), vI v1, vI z23, vI v3, vI z33, vR b35, .unset, .unset, .unset] [(.int z23), (.ref b35)])) rfl (by rw [hml]; rfl) (Steps.refl _) (argsL := [(.int z23)]) (rest := []) (lenOf pd_28 rfl) rfl (by show 2 * 0 + _ ≤ _; exact Nat.le_of_eq rfl) (hb hby at_238) (fun _ _ => ⟨rfl, rfl, (by decide : 3 + 0 ≤ _), (by decide : 20 + 0 ≤ _)⟩)
    dsimp only [Pt.U, Pt.locs, Pt.cells, Pt.slots] at X42 l42 y42 z42 st42 hQ42
    subst l42 y42 z42
    obtain ⟨o43, rfl, Nq42, eq42, hp44⟩ := hQ42
    have N42 := Fr.app N36 Nq42
    refine own_by (fun _ k => st42.trans k) ?_
    show own_Go p e below _ (T42.setTop (mkF m 241 #[vI p0, vI p1, vI p2, vI p3, vI p4, .val .null, vI (0 : Int32), vI v1, vI z23, vI v3, vI z33, vR b35, .unset, .unset, .unset] [(.int o43)]))
    refine own_by (fun _ k => XS.istore X42.here hx rfl (hb hby at_241) rfl (l' := #[vI p0, vI p1, vI p2, vI p3, vI p4, .val .null, vI (0 : Int32), vI v1, vI z23, vI v3, vI z33, vR b35, vI o43, .unset, .unset]) rfl k) ?_
    show own_Go p e below _ (T42.setTop (mkF m 243 #[vI p0, vI p1, vI p2, vI p3, vI p4, .val .null, vI (0 : Int32), vI v1, vI z23, vI v3, vI z33, vR b35, vI o43, .unset, .unset] []))
    refine own_by (fun _ k => XS.iload X42.here hx rfl (hb hby at_243) rfl k) ?_
    show own_Go p e below _ (T42.setTop (mkF m 245 #[vI p0, vI p1, vI p2, vI p3, vI p4, .val .null, vI (0 : Int32), vI v1, vI z23, vI v3, vI z33, vR b35, vI o43, .unset, .unset] [(.int o43)]))
    refine own_by (fun _ k => XS.iload X42.here hx rfl (hb hby at_245) rfl k) ?_
    show own_Go p e below _ (T42.setTop (mkF m 247 #[vI p0, vI p1, vI p2, vI p3, vI p4, .val .null, vI (0 : Int32), vI v1, vI z23, vI v3, vI z33, vR b35, vI o43, .unset, .unset] [(.int z33), (.int o43)]))
    by_cases c45 : o43 = z33
    ·skip
     refine own_by (fun _ k => XS.icmpYes X42.here hx rfl (pc0 := 247) (pc' := 252) rfl (hb hby at_247) rfl (teq c45).1 (by decide) (by decide) k) ?_
     show own_Go p e below _ (T42.setTop (mkF m 252 #[vI p0, vI p1, vI p2, vI p3, vI p4, .val .null, vI (0 : Int32), vI v1, vI z23, vI v3, vI z33, vR b35, vI o43, .unset, .unset] []))
     refine own_by (fun _ k => XS.aload X42.here hx rfl (hb hby at_252) rfl rfl k) ?_
     show own_Go p e below _ (T42.setTop (mkF m 254 #[vI p0, vI p1, vI p2, vI p3, vI p4, .val .null, vI (0 : Int32), vI v1, vI z23, vI v3, vI z33, vR b35, vI o43, .unset, .unset] [(.ref b35)]))
     refine own_by (fun _ k => XS.iload X42.here hx rfl (hb hby at_254) rfl k) ?_
     show own_Go p e below _ (T42.setTop (mkF m 256 #[vI p0, vI p1, vI p2, vI p3, vI p4, .val .null, vI (0 : Int32), vI v1, vI z23, vI v3, vI z33, vR b35, vI o43, .unset, .unset] [(.int z23), (.ref b35)]))
     obtain ⟨cq46, kq46, qq46a, qq46b, qq46c⟩ := isOf hZ eq42 F37
     obtain ⟨_, _, ⟨T46, L46, k46, n46⟩, -, X46, ⟨Lc46, hQ46, l46, y46, z46⟩, st46⟩ := X42.virtualBack hx (y := (⟨"com/example/margay/margay/index/LineCounter", "endsLine", "(C)Z"⟩ : MethodName)) (z := (⟨"com/example/margay/margay/index/LineCounter", "endsLine", "(C)Z"⟩ : MethodName)) hown (mvT hZ (hwd 33 rfl)) (mvT hZ (hwd 34 rfl)) (notFace_of_selects (args := #[]) (mvT hZ (hwd 36 rfl))) (mvT hZ (hwd 36 rfl)) (mvT hZ (hwd 35 rfl)) (by decide) (backOf (W := 0) (rm5 l Z A0 hw [] b35 z23 (0 : Int32) T36.heap n0 Z36 F40) hZ (hwd 37 rfl) (hwd 2 rfl) (by decide) (by decide)) qq46a qq46c (g := (mkF m 256 #[vI p0, vI p1, vI p2, vI p3, vI p4, .val .null, vI (0 : Int32), vI v1, vI z23, vI v3, vI z33, vR b35, vI o43, .unset, .unset] [(.int z23), (.ref b35)])) rfl (by rw [hml]; rfl) (Steps.refl _) (argsL := [(.int z23)]) (rest := []) (lenOf pd_28 rfl) rfl (by show 2 * 0 + _ ≤ _; exact Nat.le_of_eq rfl) (hb hby at_256) (fun _ _ => ⟨rfl, eq42, (by decide : 3 + 0 ≤ _), (by decide : 20 + 0 ≤ _)⟩)
     dsimp only [Pt.U, Pt.locs, Pt.cells, Pt.slots] at X46 l46 y46 z46 st46 hQ46
     subst l46 y46 z46
     obtain ⟨o47, rfl, Nq46, eq46, hp48⟩ := hQ46
     have N46 := Fr.app N42 Nq46
     refine own_by (fun _ k => st46.trans k) ?_
     show own_Go p e below _ (T46.setTop (mkF m 259 #[vI p0, vI p1, vI p2, vI p3, vI p4, .val .null, vI (0 : Int32), vI v1, vI z23, vI v3, vI z33, vR b35, vI o43, .unset, .unset] [(.int o47)]))
     refine own_by (fun _ k => XS.istore X46.here hx rfl (hb hby at_259) rfl (l' := #[vI p0, vI p1, vI p2, vI p3, vI p4, .val .null, vI (0 : Int32), vI v1, vI z23, vI v3, vI z33, vR b35, vI o43, vI o47, .unset]) rfl k) ?_
     show own_Go p e below _ (T46.setTop (mkF m 261 #[vI p0, vI p1, vI p2, vI p3, vI p4, .val .null, vI (0 : Int32), vI v1, vI z23, vI v3, vI z33, vR b35, vI o43, vI o47, .unset] []))
     refine own_by (fun _ k => XS.iload X46.here hx rfl (hb hby at_261) rfl k) ?_
     show own_Go p e below _ (T46.setTop (mkF m 263 #[vI p0, vI p1, vI p2, vI p3, vI p4, .val .null, vI (0 : Int32), vI v1, vI z23, vI v3, vI z33, vR b35, vI o43, vI o47, .unset] [(.int o43)]))
     by_cases c49 : o43 = (0 : Int32)
     ·skip
      refine own_by (fun _ k => XS.ifYes X46.here hx rfl (pc0 := 263) (pc' := 273) rfl (hb hby at_263) rfl ((if0 _ _).trans (teq c49).1) (by decide) (by decide) k) ?_
      show own_Go p e below _ (T46.setTop (mkF m 273 #[vI p0, vI p1, vI p2, vI p3, vI p4, .val .null, vI (0 : Int32), vI v1, vI z23, vI v3, vI z33, vR b35, vI o43, vI o47, .unset] []))
      obtain ⟨T50, h50, X50, e50, E50, A50, D50, -, st50⟩ := newO X46 hx hZ hown (hwd 0 rfl) (hwd 1 rfl) (hwd 2 rfl) eq46 (g := (mkF m 273 #[vI p0, vI p1, vI p2, vI p3, vI p4, .val .null, vI (0 : Int32), vI v1, vI z23, vI v3, vI z33, vR b35, vI o43, vI o47, .unset] [])) rfl (hb hby at_273) (by decide) (by decide)
      obtain ⟨b50, g50⟩ : ∃ z, z = T36.heap.size := ⟨_, rfl⟩
      have ge_b50 : n0 ≤ b50 := Nat.le_trans Z36 (Nat.le_of_eq g50.symm)
      have sz_b50 : h0.size ≤ b50 := Nat.le_trans K36.1 (Nat.le_of_eq g50.symm)
      have R50 : CHr Z consts_1 T36.vm T36.heap T36.vm h50 := CHr.ext E50 CR36.1
      have CR50 : CHr Z consts_1 s.vm h0 T36.vm h50 := CR36.trans R50
      have hk50 : kc36 ≤ h50.size := Nat.le_trans hk36 E50.1
      have S_b50 : Safe Z consts_1 T36.vm h50 b50 := Safe.ext E50 CR36.1 (Safe.new (Nat.le_of_eq g50.symm))
      have K50 : Keep h0 h50 [] := K36.ext E50
      have Z50 : n0 ≤ h50.size := Nat.le_trans Z36 E50.1
      rw [← g50] at A50 D50 st50
      have lt_b50 := A50.lt
      have F_line_b50 : Fld Z h50 b50 "com/example/margay/margay/index/LineCounter" "line" "I" (.int (0 : Int32)) := D50 (Or.inl (hwd 10 rfl)) (ty := .int) (by decide)
      have F_column_b50 : Fld Z h50 b50 "com/example/margay/margay/index/LineCounter" "column" "I" (.int (0 : Int32)) := D50 (Or.inl (hwd 12 rfl)) (ty := .int) (by decide)
      have F_xml11_b50 : Fld Z h50 b50 "com/example/margay/margay/index/LineCounter" "xml11" "Z" (.int (0 : Int32)) := D50 (Or.inr (hwd 27 rfl)) (ty := .boolean) (by decide)
      have F_afterCarriageReturn_b50 : Fld Z h50 b50 "com/example/margay/margay/index/LineCounter" "afterCarriageReturn" "Z" (.int (0 : Int32)) := D50 (Or.inl (hwd 44 rfl)) (ty := .boolean) (by decide)
      refine own_by st50 ?_
      show own_Go p e below _ (T50.setTop (mkF m 276 #[vI p0, vI p1, vI p2, vI p3, vI p4, .val .null, vI (0 : Int32), vI v1, vI z23, vI v3, vI z33, vR b35, vI o43, vI o47, .unset] [(.ref b50)]))
      refine own_by (fun _ k => XS.dup X50.here hx rfl (hb hby at_276) rfl rfl k) ?_
      show own_Go p e below _ (T50.setTop (mkF m 277 #[vI p0, vI p1, vI p2, vI p3, vI p4, .val .null, vI (0 : Int32), vI v1, vI z23, vI v3, vI z33, vR b35, vI o43, vI o47, .unset] [(.ref b50), (.ref b50)]))
      refine own_by (fun _ k => XS.aload X50.here hx rfl (hb hby at_277) rfl rfl k) ?_
      show own_Go p e below _ (T50.setTop (mkF m 279 #[vI p0, vI p1, vI p2, vI p3, vI p4, .val .null, vI (0 : Int32), vI v1, vI z23, vI v3, vI z33, vR b35, vI o43, vI o47, .unset] [.null, (.ref b50), (.ref b50)]))
      obtain ⟨_, _, ⟨T51, L51, k51, n51⟩, -, X51', hSq51, hgr51, ⟨Lc51, hQ51, l51, y51, z51, R51⟩, st51⟩ := X50.specialBackS hx (y := (⟨"com/example/margay/margay/index/LineCounter", "<init>", "(Ljava/lang/String;)V"⟩ : MethodName)) rfl hown (mvT hZ (hwd 3 rfl)) (mvT hZ (hwd 4 rfl)) (mvT hZ (hwd 5 rfl)) (by decide) (backOfSH (W := 1) (rmlcN l Z A0 hw [] b50 (0 : Int32) (0 : Int32) (0 : Int32) (0 : Int32) h50 n0 Z50 A50 F_line_b50 ge_b50 F_column_b50 F_xml11_b50 F_afterCarriageReturn_b50) hZ (hwd 5 rfl) (hwd 2 rfl) (by decide) (by decide) hEL CR50.1) (g := (mkF m 279 #[vI p0, vI p1, vI p2, vI p3, vI p4, .val .null, vI (0 : Int32), vI v1, vI z23, vI v3, vI z33, vR b35, vI o43, vI o47, .unset] [.null, (.ref b50), (.ref b50)])) rfl (by rw [hml]; rfl) (Steps.refl _) (a := b50) (argsL := [.null]) (rest := [(.ref b50)]) (lenOf pd_3 rfl) rfl (by show 2 * 0 + _ ≤ _; exact Nat.le_of_eq rfl) (hb hby at_279) (fun _ _ => ⟨rfl, e50, (by decide : 4 + 2 ≤ _), (by decide : 24 + 16 ≤ _)⟩)
      dsimp only [Pt.U, Pt.locs, Pt.cells, Pt.slots] at X51' l51 y51 z51 st51 hQ51 hSq51 hgr51 R51
      subst l51 y51 z51
      obtain ⟨X51, hS, hZ, hown⟩ := rebS hS (by rw [e50]; exact hk50) X51' hSq51 hgr51 hZ hown
      obtain ⟨kc51, hkc51⟩ : ∃ z, z = T51.heap.size := ⟨_, rfl⟩
      rw [← hkc51] at hS
      have hk51 : kc51 ≤ T51.heap.size := Nat.le_of_eq hkc51
      have CR51 : CHr Z consts_1 s.vm h0 T51.vm T51.heap := CR50.trans R51
      obtain ⟨rfl, Nq51, Kq51, F52, F53, F54, F55, F56⟩ := hQ51
      have N51 := Fr.app N46 Nq51
      have K51 : Keep h0 T51.heap [] := K50.trans Kq51 ((allS (Or.inr sz_b50) all0))
      have Z51 : n0 ≤ T51.heap.size := Nat.le_trans Z50 Kq51.1
      refine own_by (fun _ k => st51.trans k) ?_
      show own_Go p e below _ (T51.setTop (mkF m 282 #[vI p0, vI p1, vI p2, vI p3, vI p4, .val .null, vI (0 : Int32), vI v1, vI z23, vI v3, vI z33, vR b35, vI o43, vI o47, .unset] [(.ref b50)]))
      refine own_by (fun _ k => XS.astore X51.here hx rfl (hb hby at_282) rfl rfl (l' := #[vI p0, vI p1, vI p2, vI p3, vI p4, .val .null, vI (0 : Int32), vI v1, vI z23, vI v3, vI z33, vR b35, vI o43, vI o47, vR b50]) rfl k) ?_
      show own_Go p e below _ (T51.setTop (mkF m 284 #[vI p0, vI p1, vI p2, vI p3, vI p4, .val .null, vI (0 : Int32), vI v1, vI z23, vI v3, vI z33, vR b35, vI o43, vI o47, vR b50] []))
      refine own_by (fun _ k => XS.aload X51.here hx rfl (hb hby at_284) rfl rfl k) ?_
      show own_Go p e below _ (T51.setTop (mkF m 286 #[vI p0, vI p1, vI p2, vI p3, vI p4, .val .null, vI (0 : Int32), vI v1, vI z23, vI v3, vI z33, vR b35, vI o43, vI o47, vR b50] [(.ref b50)]))
      refine own_by (fun _ k => XS.bipush X51.here hx rfl (hb hby at_286) k) ?_
      show own_Go p e below _ (T51.setTop (mkF m 288 #[vI p0, vI p1, vI p2, vI p3, vI p4, .val .null, vI (0 : Int32), vI v1, vI z23, vI v3, vI z33, vR b35, vI o43, vI o47, vR b50] [(.int (13 : Int32)), (.ref b50)]))
      obtain ⟨cq57, kq57, qq57a, qq57b, qq57c⟩ := isOf hZ rfl F52
      obtain ⟨_, _, ⟨T57, L57, k57, n57⟩, -, X57, ⟨Lc57, hQ57, l57, y57, z57⟩, st57⟩ := X51.virtualBack hx (y := (⟨"com/example/margay/margay/index/LineCounter", "count", "(C)V"⟩ : MethodName)) (z := (⟨"com/example/margay/margay/index/LineCounter", "count", "(C)V"⟩ : MethodName)) hown (mvT hZ (hwd 38 rfl)) (mvT hZ (hwd 39 rfl)) (notFace_of_selects (args := #[]) (mvT hZ (hwd 41 rfl))) (mvT hZ (hwd 41 rfl)) (mvT hZ (hwd 40 rfl)) (by decide) (backOf (W := 0) (rm6 l Z A0 hw [] b50 (13 : Int32) (0 : Int32) (0 : Int32) (1 : Int32) (1 : Int32) T51.heap n0 Z51 F56 F55 F52 F54 ge_b50 F53) hZ (hwd 42 rfl) (hwd 2 rfl) (by decide) (by decide)) qq57a qq57c (g := (mkF m 288 #[vI p0, vI p1, vI p2, vI p3, vI p4, .val .null, vI (0 : Int32), vI v1, vI z23, vI v3, vI z33, vR b35, vI o43, vI o47, vR b50] [(.int (13 : Int32)), (.ref b50)])) rfl (by rw [hml]; rfl) (Steps.refl _) (argsL := [(.int (13 : Int32))]) (rest := []) (lenOf pd_38 rfl) rfl (by show 2 * 0 + _ ≤ _; exact Nat.le_of_eq rfl) (hb hby at_288) (fun _ _ => ⟨rfl, rfl, (by decide : 6 + 0 ≤ _), (by decide : 40 + 0 ≤ _)⟩)
      dsimp only [Pt.U, Pt.locs, Pt.cells, Pt.slots] at X57 l57 y57 z57 st57 hQ57
      subst l57 y57 z57
      obtain ⟨o58, o59, o60, rfl, Nq57, Kq57, F61, F62, F63, F64, F65, hp66⟩ := hQ57
      have N57 := Fr.app N51 Nq57
      have R57 : CHr Z consts_1 T51.vm T51.heap T51.vm T57.heap := CHr.keep Kq57 ((allS (Safe.exa hZ.alike F52 (by decide) (by decide)) all0)) CR51.1
      have CR57 : CHr Z consts_1 s.vm h0 T51.vm T57.heap := CR51.trans R57
      have hk57 : kc51 ≤ T57.heap.size := Nat.le_trans hk51 Kq57.1
      have K57 : Keep h0 T57.heap [] := K51.trans Kq57 ((allS (Or.inr sz_b50) all0))
      have Z57 : n0 ≤ T57.heap.size := Nat.le_trans Z51 Kq57.1
      refine own_by (fun _ k => st57.trans k) ?_
      show own_Go p e below _ (T57.setTop (mkF m 291 #[vI p0, vI p1, vI p2, vI p3, vI p4, .val .null, vI (0 : Int32), vI v1, vI z23, vI v3, vI z33, vR b35, vI o43, vI o47, vR b50] []))
      refine own_by (fun _ k => XS.aload X57.here hx rfl (hb hby at_291) rfl rfl k) ?_
      show own_Go p e below _ (T57.setTop (mkF m 293 #[vI p0, vI p1, vI p2, vI p3, vI p4, .val .null, vI (0 : Int32), vI v1, vI z23, vI v3, vI z33, vR b35, vI o43, vI o47, vR b50] [(.ref b50)]))
      refine own_by (fun _ k => XS.iload X57.here hx rfl (hb hby at_293) rfl k) ?_
      show own_Go p e below _ (T57.setTop (mkF m 295 #[vI p0, vI p1, vI p2, vI p3, vI p4, .val .null, vI (0 : Int32), vI v1, vI z23, vI v3, vI z33, vR b35, vI o43, vI o47, vR b50] [(.int z23), (.ref b50)]))
      obtain ⟨cq67, kq67, qq67a, qq67b, qq67c⟩ := isOf hZ rfl F63
      obtain ⟨_, _, ⟨T67, L67, k67, n67⟩, -, X67, ⟨Lc67, hQ67, l67, y67, z67⟩, st67⟩ := X57.virtualBack hx (y := (⟨"com/example/margay/margay/index/LineCounter", "count", "(C)V"⟩ : MethodName)) (z := (⟨"com/example/margay/margay/index/LineCounter", "count", "(C)V"⟩ : MethodName)) hown (mvT hZ (hwd 38 rfl)) (mvT hZ (hwd 39 rfl)) (notFace_of_selects (args := #[]) (mvT hZ (hwd 41 rfl))) (mvT hZ (hwd 41 rfl)) (mvT hZ (hwd 40 rfl)) (by decide) (backOf (W := 0) (rm6 l Z A0 hw [] b50 z23 o58 (0 : Int32) o59 o60 T57.heap n0 Z57 F61 F62 F63 F64 ge_b50 F65) hZ (hwd 42 rfl) (hwd 2 rfl) (by decide) (by decide)) qq67a qq67c (g := (mkF m 295 #[vI p0, vI p1, vI p2, vI p3, vI p4, .val .null, vI (0 : Int32), vI v1, vI z23, vI v3, vI z33, vR b35, vI o43, vI o47, vR b50] [(.int z23), (.ref b50)])) rfl (by rw [hml]; rfl) (Steps.refl _) (argsL := [(.int z23)]) (rest := []) (lenOf pd_38 rfl) rfl (by show 2 * 0 + _ ≤ _; exact Nat.le_of_eq rfl) (hb hby at_295) (fun _ _ => ⟨rfl, rfl, (by decide : 6 + 0 ≤ _), (by decide : 40 + 0 ≤ _)⟩)
      dsimp only [Pt.U, Pt.locs, Pt.cells, Pt.slots] at X67 l67 y67 z67 st67 hQ67
      subst l67 y67 z67
      obtain ⟨o68, o69, o70, rfl, Nq67, Kq67, F71, F72, F73, F74, F75, hp76⟩ := hQ67
      have N67 := Fr.app N57 Nq67
      have R67 : CHr Z consts_1 T51.vm T57.heap T51.vm T67.heap := CHr.keep Kq67 ((allS (Safe.exa hZ.alike F63 (by decide) (by decide)) all0)) CR57.1
      have CR67 : CHr Z consts_1 s.vm h0 T51.vm T67.heap := CR57.trans R67
      have hk67 : kc51 ≤ T67.heap.size := Nat.le_trans hk57 Kq67.1
      have K67 : Keep h0 T67.heap [] := K57.trans Kq67 ((allS (Or.inr sz_b50) all0))
      have Z67 : n0 ≤ T67.heap.size := Nat.le_trans Z57 Kq67.1
      refine own_by (fun _ k => st67.trans k) ?_
      show own_Go p e below _ (T67.setTop (mkF m 298 #[vI p0, vI p1, vI p2, vI p3, vI p4, .val .null, vI (0 : Int32), vI v1, vI z23, vI v3, vI z33, vR b35, vI o43, vI o47, vR b50] []))
      refine own_by (fun _ k => XS.iload X67.here hx rfl (hb hby at_298) rfl k) ?_
      show own_Go p e below _ (T67.setTop (mkF m 300 #[vI p0, vI p1, vI p2, vI p3, vI p4, .val .null, vI (0 : Int32), vI v1, vI z23, vI v3, vI z33, vR b35, vI o43, vI o47, vR b50] [(.int z33)]))
      by_cases c77 : z33 = (0 : Int32)
      ·skip
       refine own_by (fun _ k => XS.ifYes X67.here hx rfl (pc0 := 300) (pc' := 327) rfl (hb hby at_300) rfl ((if0 _ _).trans (teq c77).1) (by decide) (by decide) k) ?_
       show own_Go p e below _ (T67.setTop (mkF m 327 #[vI p0, vI p1, vI p2, vI p3, vI p4, .val .null, vI (0 : Int32), vI v1, vI z23, vI v3, vI z33, vR b35, vI o43, vI o47, vR b50] []))
       refine own_by (fun _ k => XS.iload X67.here hx rfl (hb hby at_327) rfl k) ?_
       show own_Go p e below _ (T67.setTop (mkF m 329 #[vI p0, vI p1, vI p2, vI p3, vI p4, .val .null, vI (0 : Int32), vI v1, vI z23, vI v3, vI z33, vR b35, vI o43, vI o47, vR b50] [(.int o47)]))
       by_cases c78 : o47 = (0 : Int32)
       ·skip
        refine own_by (fun _ k => XS.ifYes X67.here hx rfl (pc0 := 329) (pc' := 356) rfl (hb hby at_329) rfl ((if0 _ _).trans (teq c78).1) (by decide) (by decide) k) ?_
        show own_Go p e below _ (T67.setTop (mkF m 356 #[vI p0, vI p1, vI p2, vI p3, vI p4, .val .null, vI (0 : Int32), vI v1, vI z23, vI v3, vI z33, vR b35, vI o43, vI o47, vR b50] []))
        refine own_by (fun _ k => XS.aload X67.here hx rfl (hb hby at_356) rfl rfl k) ?_
        show own_Go p e below _ (T67.setTop (mkF m 358 #[vI p0, vI p1, vI p2, vI p3, vI p4, .val .null, vI (0 : Int32), vI v1, vI z23, vI v3, vI z33, vR b35, vI o43, vI o47, vR b50] [(.ref b50)]))
        obtain ⟨cq79, kq79, qq79a, qq79b, qq79c⟩ := isOf hZ rfl F73
        obtain ⟨_, _, ⟨T79, L79, k79, n79⟩, -, X79, ⟨Lc79, hQ79, l79, y79, z79⟩, st79⟩ := X67.virtualBack hx (y := (⟨"com/example/margay/margay/index/LineCounter", "line", "()I"⟩ : MethodName)) (z := (⟨"com/example/margay/margay/index/LineCounter", "line", "()I"⟩ : MethodName)) hown (mvT hZ (hwd 47 rfl)) (mvT hZ (hwd 48 rfl)) (notFace_of_selects (args := #[]) (mvT hZ (hwd 50 rfl))) (mvT hZ (hwd 50 rfl)) (mvT hZ (hwd 49 rfl)) (by decide) (backOf (W := 0) (rm7 l Z A0 hw [] b50 o70 T67.heap n0 Z67 F75) hZ (hwd 51 rfl) (hwd 2 rfl) (by decide) (by decide)) qq79a qq79c (g := (mkF m 358 #[vI p0, vI p1, vI p2, vI p3, vI p4, .val .null, vI (0 : Int32), vI v1, vI z23, vI v3, vI z33, vR b35, vI o43, vI o47, vR b50] [(.ref b50)])) rfl (by rw [hml]; rfl) (Steps.refl _) (argsL := []) (rest := []) (lenOf pd_47 rfl) rfl (by show 2 * 0 + _ ≤ _; exact Nat.le_of_eq rfl) (hb hby at_358) (fun _ _ => ⟨rfl, rfl, (by decide : 6 + 0 ≤ _), (by decide : 40 + 0 ≤ _)⟩)
        dsimp only [Pt.U, Pt.locs, Pt.cells, Pt.slots] at X79 l79 y79 z79 st79 hQ79
        subst l79 y79 z79
        obtain ⟨rfl, Nq79, eq79⟩ := hQ79
        have N79 := Fr.app N67 Nq79
        refine own_by (fun _ k => st79.trans k) ?_
        show own_Go p e below _ (T79.setTop (mkF m 361 #[vI p0, vI p1, vI p2, vI p3, vI p4, .val .null, vI (0 : Int32), vI v1, vI z23, vI v3, vI z33, vR b35, vI o43, vI o47, vR b50] [(.int o70)]))
        refine own_by (fun _ k => XS.iconst X79.here hx rfl (hb hby at_361) k) ?_
        show own_Go p e below _ (T79.setTop (mkF m 362 #[vI p0, vI p1, vI p2, vI p3, vI p4, .val .null, vI (0 : Int32), vI v1, vI z23, vI v3, vI z33, vR b35, vI o43, vI o47, vR b50] [(.int (2 : Int32)), (.int o70)]))
        by_cases c80 : o70 = (2 : Int32)
        ·skip
         refine own_by (fun _ k => XS.icmpNo X79.here hx rfl (hb hby at_362) rfl (teq c80).2 k) ?_
         show own_Go p e below _ (T79.setTop (mkF m 365 #[vI p0, vI p1, vI p2, vI p3, vI p4, .val .null, vI (0 : Int32), vI v1, vI z23, vI v3, vI z33, vR b35, vI o43, vI o47, vR b50] []))
         refine own_by (fun _ k => XS.aload X79.here hx rfl (hb hby at_365) rfl rfl k) ?_
         show own_Go p e below _ (T79.setTop (mkF m 367 #[vI p0, vI p1, vI p2, vI p3, vI p4, .val .null, vI (0 : Int32), vI v1, vI z23, vI v3, vI z33, vR b35, vI o43, vI o47, vR b50] [(.ref b50)]))
         obtain ⟨cq81, kq81, qq81a, qq81b, qq81c⟩ := isOf hZ eq79 F73
         obtain ⟨_, _, ⟨T81, L81, k81, n81⟩, -, X81, ⟨Lc81, hQ81, l81, y81, z81⟩, st81⟩ := X79.virtualBack hx (y := (⟨"com/example/margay/margay/index/LineCounter", "column", "()I"⟩ : MethodName)) (z := (⟨"com/example/margay/margay/index/LineCounter", "column", "()I"⟩ : MethodName)) hown (mvT hZ (hwd 52 rfl)) (mvT hZ (hwd 53 rfl)) (notFace_of_selects (args := #[]) (mvT hZ (hwd 55 rfl))) (mvT hZ (hwd 55 rfl)) (mvT hZ (hwd 54 rfl)) (by decide) (backOf (W := 0) (rm8 l Z A0 hw [] b50 o69 T67.heap n0 Z67 F74) hZ (hwd 56 rfl) (hwd 2 rfl) (by decide) (by decide)) qq81a qq81c (g := (mkF m 367 #[vI p0, vI p1, vI p2, vI p3, vI p4, .val .null, vI (0 : Int32), vI v1, vI z23, vI v3, vI z33, vR b35, vI o43, vI o47, vR b50] [(.ref b50)])) rfl (by rw [hml]; rfl) (Steps.refl _) (argsL := []) (rest := []) (lenOf pd_47 rfl) rfl (by show 2 * 0 + _ ≤ _; exact Nat.le_of_eq rfl) (hb hby at_367) (fun _ _ => ⟨rfl, eq79, (by decide : 6 + 0 ≤ _), (by decide : 40 + 0 ≤ _)⟩)
         dsimp only [Pt.U, Pt.locs, Pt.cells, Pt.slots] at X81 l81 y81 z81 st81 hQ81
         subst l81 y81 z81
         obtain ⟨rfl, Nq81, eq81⟩ := hQ81
         have N81 := Fr.app N79 Nq81
         refine own_by (fun _ k => st81.trans k) ?_
         show own_Go p e below _ (T81.setTop (mkF m 370 #[vI p0, vI p1, vI p2, vI p3, vI p4, .val .null, vI (0 : Int32), vI v1, vI z23, vI v3, vI z33, vR b35, vI o43, vI o47, vR b50] [(.int o69)]))
         refine own_by (fun _ k => XS.iconst X81.here hx rfl (hb hby at_370) k) ?_
         show own_Go p e below _ (T81.setTop (mkF m 371 #[vI p0, vI p1, vI p2, vI p3, vI p4, .val .null, vI (0 : Int32), vI v1, vI z23, vI v3, vI z33, vR b35, vI o43, vI o47, vR b50] [(.int (2 : Int32)), (.int o69)]))
         by_cases c82 : o69 = (2 : Int32)
         ·skip
          refine own_by (fun _ k => XS.icmpNo X81.here hx rfl (hb hby at_371) rfl (teq c82).2 k) ?_
          show own_Go p e below _ (T81.setTop (mkF m 374 #[vI p0, vI p1, vI p2, vI p3, vI p4, .val .null, vI (0 : Int32), vI v1, vI z23, vI v3, vI z33, vR b35, vI o43, vI o47, vR b50] []))
          refine own_by (fun _ k => XS.iconst X81.here hx rfl (hb hby at_374) k) ?_
          show own_Go p e below _ (T81.setTop (mkF m 375 #[vI p0, vI p1, vI p2, vI p3, vI p4, .val .null, vI (0 : Int32), vI v1, vI z23, vI v3, vI z33, vR b35, vI o43, vI o47, vR b50] [(.int (1 : Int32))]))
          refine own_by (fun _ k => XS.goto X81.here hx rfl (pc0 := 375) (pc' := 379) rfl (hb hby at_375) (by decide) (by decide) k) ?_
          show own_Go p e below _ (T81.setTop (mkF m 379 #[vI p0, vI p1, vI p2, vI p3, vI p4, .val .null, vI (0 : Int32), vI v1, vI z23, vI v3, vI z33, vR b35, vI o43, vI o47, vR b50] [(.int (1 : Int32))]))
          exact own_retNW X81 hx hS hk67 hZ hEL hh CR67 (t := .boolean) Bd.returns (by simp) (hb hby at_379) hlk eq81 ⟨rfl, N81⟩ (by decide) (by decide)
         ·skip
          refine own_by (fun _ k => XS.icmpYes X81.here hx rfl (pc0 := 371) (pc' := 378) rfl (hb hby at_371) rfl (feq c82).2 (by decide) (by decide) k) ?_
          show own_Go p e below _ (T81.setTop (mkF m 378 #[vI p0, vI p1, vI p2, vI p3, vI p4, .val .null, vI (0 : Int32), vI v1, vI z23, vI v3, vI z33, vR b35, vI o43, vI o47, vR b50] []))
          refine own_by (fun _ k => XS.iconst X81.here hx rfl (hb hby at_378) k) ?_
          show own_Go p e below _ (T81.setTop (mkF m 379 #[vI p0, vI p1, vI p2, vI p3, vI p4, .val .null, vI (0 : Int32), vI v1, vI z23, vI v3, vI z33, vR b35, vI o43, vI o47, vR b50] [(.int (0 : Int32))]))
          exact own_retNW X81 hx hS hk67 hZ hEL hh CR67 (t := .boolean) Bd.returns (by simp) (hb hby at_379) hlk eq81 ⟨((ob_0_18 f_CS p0 p3 p4 v1 v3 z23 z33 o43 o47 o58 o59 o60 o68 o69 o70 hn_CS hv1 c2 hv3 hj24 hj34 hp44 c45 hp48 c49 hp66 hp76 c77 c78 c80 c82)).elim, N81⟩ (by decide) (by decide)
        ·skip
         refine own_by (fun _ k => XS.icmpYes X79.here hx rfl (pc0 := 362) (pc' := 378) rfl (hb hby at_362) rfl (feq c80).2 (by decide) (by decide) k) ?_
         show own_Go p e below _ (T79.setTop (mkF m 378 #[vI p0, vI p1, vI p2, vI p3, vI p4, .val .null, vI (0 : Int32), vI v1, vI z23, vI v3, vI z33, vR b35, vI o43, vI o47, vR b50] []))
         refine own_by (fun _ k => XS.iconst X79.here hx rfl (hb hby at_378) k) ?_
         show own_Go p e below _ (T79.setTop (mkF m 379 #[vI p0, vI p1, vI p2, vI p3, vI p4, .val .null, vI (0 : Int32), vI v1, vI z23, vI v3, vI z33, vR b35, vI o43, vI o47, vR b50] [(.int (0 : Int32))]))
         exact own_retNW X79 hx hS hk67 hZ hEL hh CR67 (t := .boolean) Bd.returns (by simp) (hb hby at_379) hlk eq79 ⟨((ob_0_19 f_CS p0 p3 p4 v1 v3 z23 z33 o43 o47 o58 o59 o60 o68 o69 o70 hn_CS hv1 c2 hv3 hj24 hj34 hp44 c45 hp48 c49 hp66 hp76 c77 c78 c80)).elim, N79⟩ (by decide) (by decide)
       ·skip
        refine own_by (fun _ k => XS.ifNo X67.here hx rfl (hb hby at_329) rfl ((if0 _ _).trans (feq c78).1) k) ?_
        show own_Go p e below _ (T67.setTop (mkF m 332 #[vI p0, vI p1, vI p2, vI p3, vI p4, .val .null, vI (0 : Int32), vI v1, vI z23, vI v3, vI z33, vR b35, vI o43, vI o47, vR b50] []))
        refine own_by (fun _ k => XS.aload X67.here hx rfl (hb hby at_332) rfl rfl k) ?_
        show own_Go p e below _ (T67.setTop (mkF m 334 #[vI p0, vI p1, vI p2, vI p3, vI p4, .val .null, vI (0 : Int32), vI v1, vI z23, vI v3, vI z33, vR b35, vI o43, vI o47, vR b50] [(.ref b50)]))
        obtain ⟨cq83, kq83, qq83a, qq83b, qq83c⟩ := isOf hZ rfl F73
        obtain ⟨_, _, ⟨T83, L83, k83, n83⟩, -, X83, ⟨Lc83, hQ83, l83, y83, z83⟩, st83⟩ := X67.virtualBack hx (y := (⟨"com/example/margay/margay/index/LineCounter", "line", "()I"⟩ : MethodName)) (z := (⟨"com/example/margay/margay/index/LineCounter", "line", "()I"⟩ : MethodName)) hown (mvT hZ (hwd 47 rfl)) (mvT hZ (hwd 48 rfl)) (notFace_of_selects (args := #[]) (mvT hZ (hwd 50 rfl))) (mvT hZ (hwd 50 rfl)) (mvT hZ (hwd 49 rfl)) (by decide) (backOf (W := 0) (rm7 l Z A0 hw [] b50 o70 T67.heap n0 Z67 F75) hZ (hwd 51 rfl) (hwd 2 rfl) (by decide) (by decide)) qq83a qq83c (g := (mkF m 334 #[vI p0, vI p1, vI p2, vI p3, vI p4, .val .null, vI (0 : Int32), vI v1, vI z23, vI v3, vI z33, vR b35, vI o43, vI o47, vR b50] [(.ref b50)])) rfl (by rw [hml]; rfl) (Steps.refl _) (argsL := []) (rest := []) (lenOf pd_47 rfl) rfl (by show 2 * 0 + _ ≤ _; exact Nat.le_of_eq rfl) (hb hby at_334) (fun _ _ => ⟨rfl, rfl, (by decide : 6 + 0 ≤ _), (by decide : 40 + 0 ≤ _)⟩)
        dsimp only [Pt.U, Pt.locs, Pt.cells, Pt.slots] at X83 l83 y83 z83 st83 hQ83
        subst l83 y83 z83
        obtain ⟨rfl, Nq83, eq83⟩ := hQ83
        have N83 := Fr.app N67 Nq83
        refine own_by (fun _ k => st83.trans k) ?_
        show own_Go p e below _ (T83.setTop (mkF m 337 #[vI p0, vI p1, vI p2, vI p3, vI p4, .val .null, vI (0 : Int32), vI v1, vI z23, vI v3, vI z33, vR b35, vI o43, vI o47, vR b50] [(.int o70)]))
        refine own_by (fun _ k => XS.iconst X83.here hx rfl (hb hby at_337) k) ?_
        show own_Go p e below _ (T83.setTop (mkF m 338 #[vI p0, vI p1, vI p2, vI p3, vI p4, .val .null, vI (0 : Int32), vI v1, vI z23, vI v3, vI z33, vR b35, vI o43, vI o47, vR b50] [(.int (3 : Int32)), (.int o70)]))
        by_cases c84 : o70 = (3 : Int32)
        ·skip
         refine own_by (fun _ k => XS.icmpNo X83.here hx rfl (hb hby at_338) rfl (teq c84).2 k) ?_
         show own_Go p e below _ (T83.setTop (mkF m 341 #[vI p0, vI p1, vI p2, vI p3, vI p4, .val .null, vI (0 : Int32), vI v1, vI z23, vI v3, vI z33, vR b35, vI o43, vI o47, vR b50] []))
         refine own_by (fun _ k => XS.aload X83.here hx rfl (hb hby at_341) rfl rfl k) ?_
         show own_Go p e below _ (T83.setTop (mkF m 343 #[vI p0, vI p1, vI p2, vI p3, vI p4, .val .null, vI (0 : Int32), vI v1, vI z23, vI v3, vI z33, vR b35, vI o43, vI o47, vR b50] [(.ref b50)]))
         obtain ⟨cq85, kq85, qq85a, qq85b, qq85c⟩ := isOf hZ eq83 F73
         obtain ⟨_, _, ⟨T85, L85, k85, n85⟩, -, X85, ⟨Lc85, hQ85, l85, y85, z85⟩, st85⟩ := X83.virtualBack hx (y := (⟨"com/example/margay/margay/index/LineCounter", "column", "()I"⟩ : MethodName)) (z := (⟨"com/example/margay/margay/index/LineCounter", "column", "()I"⟩ : MethodName)) hown (mvT hZ (hwd 52 rfl)) (mvT hZ (hwd 53 rfl)) (notFace_of_selects (args := #[]) (mvT hZ (hwd 55 rfl))) (mvT hZ (hwd 55 rfl)) (mvT hZ (hwd 54 rfl)) (by decide) (backOf (W := 0) (rm8 l Z A0 hw [] b50 o69 T67.heap n0 Z67 F74) hZ (hwd 56 rfl) (hwd 2 rfl) (by decide) (by decide)) qq85a qq85c (g := (mkF m 343 #[vI p0, vI p1, vI p2, vI p3, vI p4, .val .null, vI (0 : Int32), vI v1, vI z23, vI v3, vI z33, vR b35, vI o43, vI o47, vR b50] [(.ref b50)])) rfl (by rw [hml]; rfl) (Steps.refl _) (argsL := []) (rest := []) (lenOf pd_47 rfl) rfl (by show 2 * 0 + _ ≤ _; exact Nat.le_of_eq rfl) (hb hby at_343) (fun _ _ => ⟨rfl, eq83, (by decide : 6 + 0 ≤ _), (by decide : 40 + 0 ≤ _)⟩)
         dsimp only [Pt.U, Pt.locs, Pt.cells, Pt.slots] at X85 l85 y85 z85 st85 hQ85
         subst l85 y85 z85
         obtain ⟨rfl, Nq85, eq85⟩ := hQ85
         have N85 := Fr.app N83 Nq85
         refine own_by (fun _ k => st85.trans k) ?_
         show own_Go p e below _ (T85.setTop (mkF m 346 #[vI p0, vI p1, vI p2, vI p3, vI p4, .val .null, vI (0 : Int32), vI v1, vI z23, vI v3, vI z33, vR b35, vI o43, vI o47, vR b50] [(.int o69)]))
         refine own_by (fun _ k => XS.iconst X85.here hx rfl (hb hby at_346) k) ?_
         show own_Go p e below _ (T85.setTop (mkF m 347 #[vI p0, vI p1, vI p2, vI p3, vI p4, .val .null, vI (0 : Int32), vI v1, vI z23, vI v3, vI z33, vR b35, vI o43, vI o47, vR b50] [(.int (1 : Int32)), (.int o69)]))
         by_cases c86 : o69 = (1 : Int32)
         ·skip
          refine own_by (fun _ k => XS.icmpNo X85.here hx rfl (hb hby at_347) rfl (teq c86).2 k) ?_
          show own_Go p e below _ (T85.setTop (mkF m 350 #[vI p0, vI p1, vI p2, vI p3, vI p4, .val .null, vI (0 : Int32), vI v1, vI z23, vI v3, vI z33, vR b35, vI o43, vI o47, vR b50] []))
          refine own_by (fun _ k => XS.iconst X85.here hx rfl (hb hby at_350) k) ?_
          show own_Go p e below _ (T85.setTop (mkF m 351 #[vI p0, vI p1, vI p2, vI p3, vI p4, .val .null, vI (0 : Int32), vI v1, vI z23, vI v3, vI z33, vR b35, vI o43, vI o47, vR b50] [(.int (1 : Int32))]))
          refine own_by (fun _ k => XS.goto X85.here hx rfl (pc0 := 351) (pc' := 355) rfl (hb hby at_351) (by decide) (by decide) k) ?_
          show own_Go p e below _ (T85.setTop (mkF m 355 #[vI p0, vI p1, vI p2, vI p3, vI p4, .val .null, vI (0 : Int32), vI v1, vI z23, vI v3, vI z33, vR b35, vI o43, vI o47, vR b50] [(.int (1 : Int32))]))
          exact own_retNW X85 hx hS hk67 hZ hEL hh CR67 (t := .boolean) Bd.returns (by simp) (hb hby at_355) hlk eq85 ⟨rfl, N85⟩ (by decide) (by decide)
         ·skip
          refine own_by (fun _ k => XS.icmpYes X85.here hx rfl (pc0 := 347) (pc' := 354) rfl (hb hby at_347) rfl (feq c86).2 (by decide) (by decide) k) ?_
          show own_Go p e below _ (T85.setTop (mkF m 354 #[vI p0, vI p1, vI p2, vI p3, vI p4, .val .null, vI (0 : Int32), vI v1, vI z23, vI v3, vI z33, vR b35, vI o43, vI o47, vR b50] []))
          refine own_by (fun _ k => XS.iconst X85.here hx rfl (hb hby at_354) k) ?_
          show own_Go p e below _ (T85.setTop (mkF m 355 #[vI p0, vI p1, vI p2, vI p3, vI p4, .val .null, vI (0 : Int32), vI v1, vI z23, vI v3, vI z33, vR b35, vI o43, vI o47, vR b50] [(.int (0 : Int32))]))
          exact own_retNW X85 hx hS hk67 hZ hEL hh CR67 (t := .boolean) Bd.returns (by simp) (hb hby at_355) hlk eq85 ⟨((ob_0_20 f_CS p0 p3 p4 v1 v3 z23 z33 o43 o47 o58 o59 o60 o68 o69 o70 hn_CS hv1 c2 hv3 hj24 hj34 hp44 c45 hp48 c49 hp66 hp76 c77 c78 c84 c86)).elim, N85⟩ (by decide) (by decide)
        ·skip
         refine own_by (fun _ k => XS.icmpYes X83.here hx rfl (pc0 := 338) (pc' := 354) rfl (hb hby at_338) rfl (feq c84).2 (by decide) (by decide) k) ?_
         show own_Go p e below _ (T83.setTop (mkF m 354 #[vI p0, vI p1, vI p2, vI p3, vI p4, .val .null, vI (0 : Int32), vI v1, vI z23, vI v3, vI z33, vR b35, vI o43, vI o47, vR b50] []))
         refine own_by (fun _ k => XS.iconst X83.here hx rfl (hb hby at_354) k) ?_
         show own_Go p e below _ (T83.setTop (mkF m 355 #[vI p0, vI p1, vI p2, vI p3, vI p4, .val .null, vI (0 : Int32), vI v1, vI z23, vI v3, vI z33, vR b35, vI o43, vI o47, vR b50] [(.int (0 : Int32))]))
         exact own_retNW X83 hx hS hk67 hZ hEL hh CR67 (t := .boolean) Bd.returns (by simp) (hb hby at_355) hlk eq83 ⟨((ob_0_21 f_CS p0 p3 p4 v1 v3 z23 z33 o43 o47 o58 o59 o60 o68 o69 o70 hn_CS hv1 c2 hv3 hj24 hj34 hp44 c45 hp48 c49 hp66 hp76 c77 c78 c84)).elim, N83⟩ (by decide) (by decide)
      ·skip
       refine own_by (fun _ k => XS.ifNo X67.here hx rfl (hb hby at_300) rfl ((if0 _ _).trans (feq c77).1) k) ?_
       show own_Go p e below _ (T67.setTop (mkF m 303 #[vI p0, vI p1, vI p2, vI p3, vI p4, .val .null, vI (0 : Int32), vI v1, vI z23, vI v3, vI z33, vR b35, vI o43, vI o47, vR b50] []))
       refine own_by (fun _ k => XS.aload X67.here hx rfl (hb hby at_303) rfl rfl k) ?_
       show own_Go p e below _ (T67.setTop (mkF m 305 #[vI p0, vI p1, vI p2, vI p3, vI p4, .val .null, vI (0 : Int32), vI v1, vI z23, vI v3, vI z33, vR b35, vI o43, vI o47, vR b50] [(.ref b50)]))
       obtain ⟨cq87, kq87, qq87a, qq87b, qq87c⟩ := isOf hZ rfl F73
       obtain ⟨_, _, ⟨T87, L87, k87, n87⟩, -, X87, ⟨Lc87, hQ87, l87, y87, z87⟩, st87⟩ := X67.virtualBack hx (y := (⟨"com/example/margay/margay/index/LineCounter", "line", "()I"⟩ : MethodName)) (z := (⟨"com/example/margay/margay/index/LineCounter", "line", "()I"⟩ : MethodName)) hown (mvT hZ (hwd 47 rfl)) (mvT hZ (hwd 48 rfl)) (notFace_of_selects (args := #[]) (mvT hZ (hwd 50 rfl))) (mvT hZ (hwd 50 rfl)) (mvT hZ (hwd 49 rfl)) (by decide) (backOf (W := 0) (rm7 l Z A0 hw [] b50 o70 T67.heap n0 Z67 F75) hZ (hwd 51 rfl) (hwd 2 rfl) (by decide) (by decide)) qq87a qq87c (g := (mkF m 305 #[vI p0, vI p1, vI p2, vI p3, vI p4, .val .null, vI (0 : Int32), vI v1, vI z23, vI v3, vI z33, vR b35, vI o43, vI o47, vR b50] [(.ref b50)])) rfl (by rw [hml]; rfl) (Steps.refl _) (argsL := []) (rest := []) (lenOf pd_47 rfl) rfl (by show 2 * 0 + _ ≤ _; exact Nat.le_of_eq rfl) (hb hby at_305) (fun _ _ => ⟨rfl, rfl, (by decide : 6 + 0 ≤ _), (by decide : 40 + 0 ≤ _)⟩)
       dsimp only [Pt.U, Pt.locs, Pt.cells, Pt.slots] at X87 l87 y87 z87 st87 hQ87
       subst l87 y87 z87
       obtain ⟨rfl, Nq87, eq87⟩ := hQ87
       have N87 := Fr.app N67 Nq87
       refine own_by (fun _ k => st87.trans k) ?_
       show own_Go p e below _ (T87.setTop (mkF m 308 #[vI p0, vI p1, vI p2, vI p3, vI p4, .val .null, vI (0 : Int32), vI v1, vI z23, vI v3, vI z33, vR b35, vI o43, vI o47, vR b50] [(.int o70)]))
       refine own_by (fun _ k => XS.iconst X87.here hx rfl (hb hby at_308) k) ?_
       show own_Go p e below _ (T87.setTop (mkF m 309 #[vI p0, vI p1, vI p2, vI p3, vI p4, .val .null, vI (0 : Int32), vI v1, vI z23, vI v3, vI z33, vR b35, vI o43, vI o47, vR b50] [(.int (2 : Int32)), (.int o70)]))
       by_cases c88 : o70 = (2 : Int32)
       ·skip
        refine own_by (fun _ k => XS.icmpNo X87.here hx rfl (hb hby at_309) rfl (teq c88).2 k) ?_
        show own_Go p e below _ (T87.setTop (mkF m 312 #[vI p0, vI p1, vI p2, vI p3, vI p4, .val .null, vI (0 : Int32), vI v1, vI z23, vI v3, vI z33, vR b35, vI o43, vI o47, vR b50] []))
        refine own_by (fun _ k => XS.aload X87.here hx rfl (hb hby at_312) rfl rfl k) ?_
        show own_Go p e below _ (T87.setTop (mkF m 314 #[vI p0, vI p1, vI p2, vI p3, vI p4, .val .null, vI (0 : Int32), vI v1, vI z23, vI v3, vI z33, vR b35, vI o43, vI o47, vR b50] [(.ref b50)]))
        obtain ⟨cq89, kq89, qq89a, qq89b, qq89c⟩ := isOf hZ eq87 F73
        obtain ⟨_, _, ⟨T89, L89, k89, n89⟩, -, X89, ⟨Lc89, hQ89, l89, y89, z89⟩, st89⟩ := X87.virtualBack hx (y := (⟨"com/example/margay/margay/index/LineCounter", "column", "()I"⟩ : MethodName)) (z := (⟨"com/example/margay/margay/index/LineCounter", "column", "()I"⟩ : MethodName)) hown (mvT hZ (hwd 52 rfl)) (mvT hZ (hwd 53 rfl)) (notFace_of_selects (args := #[]) (mvT hZ (hwd 55 rfl))) (mvT hZ (hwd 55 rfl)) (mvT hZ (hwd 54 rfl)) (by decide) (backOf (W := 0) (rm8 l Z A0 hw [] b50 o69 T67.heap n0 Z67 F74) hZ (hwd 56 rfl) (hwd 2 rfl) (by decide) (by decide)) qq89a qq89c (g := (mkF m 314 #[vI p0, vI p1, vI p2, vI p3, vI p4, .val .null, vI (0 : Int32), vI v1, vI z23, vI v3, vI z33, vR b35, vI o43, vI o47, vR b50] [(.ref b50)])) rfl (by rw [hml]; rfl) (Steps.refl _) (argsL := []) (rest := []) (lenOf pd_47 rfl) rfl (by show 2 * 0 + _ ≤ _; exact Nat.le_of_eq rfl) (hb hby at_314) (fun _ _ => ⟨rfl, eq87, (by decide : 6 + 0 ≤ _), (by decide : 40 + 0 ≤ _)⟩)
        dsimp only [Pt.U, Pt.locs, Pt.cells, Pt.slots] at X89 l89 y89 z89 st89 hQ89
        subst l89 y89 z89
        obtain ⟨rfl, Nq89, eq89⟩ := hQ89
        have N89 := Fr.app N87 Nq89
        refine own_by (fun _ k => st89.trans k) ?_
        show own_Go p e below _ (T89.setTop (mkF m 317 #[vI p0, vI p1, vI p2, vI p3, vI p4, .val .null, vI (0 : Int32), vI v1, vI z23, vI v3, vI z33, vR b35, vI o43, vI o47, vR b50] [(.int o69)]))
        refine own_by (fun _ k => XS.iconst X89.here hx rfl (hb hby at_317) k) ?_
        show own_Go p e below _ (T89.setTop (mkF m 318 #[vI p0, vI p1, vI p2, vI p3, vI p4, .val .null, vI (0 : Int32), vI v1, vI z23, vI v3, vI z33, vR b35, vI o43, vI o47, vR b50] [(.int (1 : Int32)), (.int o69)]))
        by_cases c90 : o69 = (1 : Int32)
        ·skip
         refine own_by (fun _ k => XS.icmpNo X89.here hx rfl (hb hby at_318) rfl (teq c90).2 k) ?_
         show own_Go p e below _ (T89.setTop (mkF m 321 #[vI p0, vI p1, vI p2, vI p3, vI p4, .val .null, vI (0 : Int32), vI v1, vI z23, vI v3, vI z33, vR b35, vI o43, vI o47, vR b50] []))
         refine own_by (fun _ k => XS.iconst X89.here hx rfl (hb hby at_321) k) ?_
         show own_Go p e below _ (T89.setTop (mkF m 322 #[vI p0, vI p1, vI p2, vI p3, vI p4, .val .null, vI (0 : Int32), vI v1, vI z23, vI v3, vI z33, vR b35, vI o43, vI o47, vR b50] [(.int (1 : Int32))]))
         refine own_by (fun _ k => XS.goto X89.here hx rfl (pc0 := 322) (pc' := 326) rfl (hb hby at_322) (by decide) (by decide) k) ?_
         show own_Go p e below _ (T89.setTop (mkF m 326 #[vI p0, vI p1, vI p2, vI p3, vI p4, .val .null, vI (0 : Int32), vI v1, vI z23, vI v3, vI z33, vR b35, vI o43, vI o47, vR b50] [(.int (1 : Int32))]))
         exact own_retNW X89 hx hS hk67 hZ hEL hh CR67 (t := .boolean) Bd.returns (by simp) (hb hby at_326) hlk eq89 ⟨rfl, N89⟩ (by decide) (by decide)
        ·skip
         refine own_by (fun _ k => XS.icmpYes X89.here hx rfl (pc0 := 318) (pc' := 325) rfl (hb hby at_318) rfl (feq c90).2 (by decide) (by decide) k) ?_
         show own_Go p e below _ (T89.setTop (mkF m 325 #[vI p0, vI p1, vI p2, vI p3, vI p4, .val .null, vI (0 : Int32), vI v1, vI z23, vI v3, vI z33, vR b35, vI o43, vI o47, vR b50] []))
         refine own_by (fun _ k => XS.iconst X89.here hx rfl (hb hby at_325) k) ?_
         show own_Go p e below _ (T89.setTop (mkF m 326 #[vI p0, vI p1, vI p2, vI p3, vI p4, .val .null, vI (0 : Int32), vI v1, vI z23, vI v3, vI z33, vR b35, vI o43, vI o47, vR b50] [(.int (0 : Int32))]))
         exact own_retNW X89 hx hS hk67 hZ hEL hh CR67 (t := .boolean) Bd.returns (by simp) (hb hby at_326) hlk eq89 ⟨((ob_0_22 f_CS p0 p3 p4 v1 v3 z23 z33 o43 o47 o58 o59 o60 o68 o69 o70 hn_CS hv1 c2 hv3 hj24 hj34 hp44 c45 hp48 c49 hp66 hp76 c77 c88 c90)).elim, N89⟩ (by decide) (by decide)
       ·skip
        refine own_by (fun _ k => XS.icmpYes X87.here hx rfl (pc0 := 309) (pc' := 325) rfl (hb hby at_309) rfl (feq c88).2 (by decide) (by decide) k) ?_
        show own_Go p e below _ (T87.setTop (mkF m 325 #[vI p0, vI p1, vI p2, vI p3, vI p4, .val .null, vI (0 : Int32), vI v1, vI z23, vI v3, vI z33, vR b35, vI o43, vI o47, vR b50] []))
        refine own_by (fun _ k => XS.iconst X87.here hx rfl (hb hby at_325) k) ?_
        show own_Go p e below _ (T87.setTop (mkF m 326 #[vI p0, vI p1, vI p2, vI p3, vI p4, .val .null, vI (0 : Int32), vI v1, vI z23, vI v3, vI z33, vR b35, vI o43, vI o47, vR b50] [(.int (0 : Int32))]))
        exact own_retNW X87 hx hS hk67 hZ hEL hh CR67 (t := .boolean) Bd.returns (by simp) (hb hby at_326) hlk eq87 ⟨((ob_0_23 f_CS p0 p3 p4 v1 v3 z23 z33 o43 o47 o58 o59 o60 o68 o69 o70 hn_CS hv1 c2 hv3 hj24 hj34 hp44 c45 hp48 c49 hp66 hp76 c77 c88)).elim, N87⟩ (by decide) (by decide)
     ·skip
      refine own_by (fun _ k => XS.ifNo X46.here hx rfl (hb hby at_263) rfl ((if0 _ _).trans (feq c49).1) k) ?_
      show own_Go p e below _ (T46.setTop (mkF m 266 #[vI p0, vI p1, vI p2, vI p3, vI p4, .val .null, vI (0 : Int32), vI v1, vI z23, vI v3, vI z33, vR b35, vI o43, vI o47, .unset] []))
      refine own_by (fun _ k => XS.iload X46.here hx rfl (hb hby at_266) rfl k) ?_
      show own_Go p e below _ (T46.setTop (mkF m 268 #[vI p0, vI p1, vI p2, vI p3, vI p4, .val .null, vI (0 : Int32), vI v1, vI z23, vI v3, vI z33, vR b35, vI o43, vI o47, .unset] [(.int o47)]))
      by_cases c91 : o47 = (0 : Int32)
      ·skip
       refine own_by (fun _ k => XS.ifNo X46.here hx rfl (hb hby at_268) rfl ((if0 _ _).trans (teq c91).2) k) ?_
       show own_Go p e below _ (T46.setTop (mkF m 271 #[vI p0, vI p1, vI p2, vI p3, vI p4, .val .null, vI (0 : Int32), vI v1, vI z23, vI v3, vI z33, vR b35, vI o43, vI o47, .unset] []))
       refine own_by (fun _ k => XS.iconst X46.here hx rfl (hb hby at_271) k) ?_
       show own_Go p e below _ (T46.setTop (mkF m 272 #[vI p0, vI p1, vI p2, vI p3, vI p4, .val .null, vI (0 : Int32), vI v1, vI z23, vI v3, vI z33, vR b35, vI o43, vI o47, .unset] [(.int (0 : Int32))]))
       exact own_retNW X46 hx hS hk36 hZ hEL hh CR36 (t := .boolean) Bd.returns (by simp) (hb hby at_272) hlk eq46 ⟨((ob_0_24 f_CS p0 p3 p4 v1 v3 z23 z33 o43 o47 hn_CS hv1 c2 hv3 hj24 hj34 hp44 c45 hp48 c49 c91)).elim, N46⟩ (by decide) (by decide)
      ·skip
       refine own_by (fun _ k => XS.ifYes X46.here hx rfl (pc0 := 268) (pc' := 273) rfl (hb hby at_268) rfl ((if0 _ _).trans (feq c91).2) (by decide) (by decide) k) ?_
       show own_Go p e below _ (T46.setTop (mkF m 273 #[vI p0, vI p1, vI p2, vI p3, vI p4, .val .null, vI (0 : Int32), vI v1, vI z23, vI v3, vI z33, vR b35, vI o43, vI o47, .unset] []))
       obtain ⟨T92, h92, X92, e92, E92, A92, D92, -, st92⟩ := newO X46 hx hZ hown (hwd 0 rfl) (hwd 1 rfl) (hwd 2 rfl) eq46 (g := (mkF m 273 #[vI p0, vI p1, vI p2, vI p3, vI p4, .val .null, vI (0 : Int32), vI v1, vI z23, vI v3, vI z33, vR b35, vI o43, vI o47, .unset] [])) rfl (hb hby at_273) (by decide) (by decide)
       obtain ⟨b92, g92⟩ : ∃ z, z = T36.heap.size := ⟨_, rfl⟩
       have ge_b92 : n0 ≤ b92 := Nat.le_trans Z36 (Nat.le_of_eq g92.symm)
       have sz_b92 : h0.size ≤ b92 := Nat.le_trans K36.1 (Nat.le_of_eq g92.symm)
       have R92 : CHr Z consts_1 T36.vm T36.heap T36.vm h92 := CHr.ext E92 CR36.1
       have CR92 : CHr Z consts_1 s.vm h0 T36.vm h92 := CR36.trans R92
       have hk92 : kc36 ≤ h92.size := Nat.le_trans hk36 E92.1
       have S_b92 : Safe Z consts_1 T36.vm h92 b92 := Safe.ext E92 CR36.1 (Safe.new (Nat.le_of_eq g92.symm))
       have K92 : Keep h0 h92 [] := K36.ext E92
       have Z92 : n0 ≤ h92.size := Nat.le_trans Z36 E92.1
       rw [← g92] at A92 D92 st92
       have lt_b92 := A92.lt
       have F_line_b92 : Fld Z h92 b92 "com/example/margay/margay/index/LineCounter" "line" "I" (.int (0 : Int32)) := D92 (Or.inl (hwd 10 rfl)) (ty := .int) (by decide)
       have F_column_b92 : Fld Z h92 b92 "com/example/margay/margay/index/LineCounter" "column" "I" (.int (0 : Int32)) := D92 (Or.inl (hwd 12 rfl)) (ty := .int) (by decide)
       have F_xml11_b92 : Fld Z h92 b92 "com/example/margay/margay/index/LineCounter" "xml11" "Z" (.int (0 : Int32)) := D92 (Or.inr (hwd 27 rfl)) (ty := .boolean) (by decide)
       have F_afterCarriageReturn_b92 : Fld Z h92 b92 "com/example/margay/margay/index/LineCounter" "afterCarriageReturn" "Z" (.int (0 : Int32)) := D92 (Or.inl (hwd 44 rfl)) (ty := .boolean) (by decide)
       refine own_by st92 ?_
       show own_Go p e below _ (T92.setTop (mkF m 276 #[vI p0, vI p1, vI p2, vI p3, vI p4, .val .null, vI (0 : Int32), vI v1, vI z23, vI v3, vI z33, vR b35, vI o43, vI o47, .unset] [(.ref b92)]))
       refine own_by (fun _ k => XS.dup X92.here hx rfl (hb hby at_276) rfl rfl k) ?_
       show own_Go p e below _ (T92.setTop (mkF m 277 #[vI p0, vI p1, vI p2, vI p3, vI p4, .val .null, vI (0 : Int32), vI v1, vI z23, vI v3, vI z33, vR b35, vI o43, vI o47, .unset] [(.ref b92), (.ref b92)]))
       refine own_by (fun _ k => XS.aload X92.here hx rfl (hb hby at_277) rfl rfl k) ?_
       show own_Go p e below _ (T92.setTop (mkF m 279 #[vI p0, vI p1, vI p2, vI p3, vI p4, .val .null, vI (0 : Int32), vI v1, vI z23, vI v3, vI z33, vR b35, vI o43, vI o47, .unset] [.null, (.ref b92), (.ref b92)]))
       obtain ⟨_, _, ⟨T93, L93, k93, n93⟩, -, X93', hSq93, hgr93, ⟨Lc93, hQ93, l93, y93, z93, R93⟩, st93⟩ := X92.specialBackS hx (y := (⟨"com/example/margay/margay/index/LineCounter", "<init>", "(Ljava/lang/String;)V"⟩ : MethodName)) rfl hown (mvT hZ (hwd 3 rfl)) (mvT hZ (hwd 4 rfl)) (mvT hZ (hwd 5 rfl)) (by decide) (backOfSH (W := 1) (rmlcN l Z A0 hw [] b92 (0 : Int32) (0 : Int32) (0 : Int32) (0 : Int32) h92 n0 Z92 A92 F_line_b92 ge_b92 F_column_b92 F_xml11_b92 F_afterCarriageReturn_b92) hZ (hwd 5 rfl) (hwd 2 rfl) (by decide) (by decide) hEL CR92.1) (g := (mkF m 279 #[vI p0, vI p1, vI p2, vI p3, vI p4, .val .null, vI (0 : Int32), vI v1, vI z23, vI v3, vI z33, vR b35, vI o43, vI o47, .unset] [.null, (.ref b92), (.ref b92)])) rfl (by rw [hml]; rfl) (Steps.refl _) (a := b92) (argsL := [.null]) (rest := [(.ref b92)]) (lenOf pd_3 rfl) rfl (by show 2 * 0 + _ ≤ _; exact Nat.le_of_eq rfl) (hb hby at_279) (fun _ _ => ⟨rfl, e92, (by decide : 4 + 2 ≤ _), (by decide : 24 + 16 ≤ _)⟩)
       dsimp only [Pt.U, Pt.locs, Pt.cells, Pt.slots] at X93' l93 y93 z93 st93 hQ93 hSq93 hgr93 R93
       subst l93 y93 z93
       obtain ⟨X93, hS, hZ, hown⟩ := rebS hS (by rw [e92]; exact hk92) X93' hSq93 hgr93 hZ hown
       obtain ⟨kc93, hkc93⟩ : ∃ z, z = T93.heap.size := ⟨_, rfl⟩
       rw [← hkc93] at hS
       have hk93 : kc93 ≤ T93.heap.size := Nat.le_of_eq hkc93
       have CR93 : CHr Z consts_1 s.vm h0 T93.vm T93.heap := CR92.trans R93
       obtain ⟨rfl, Nq93, Kq93, F94, F95, F96, F97, F98⟩ := hQ93
       have N93 := Fr.app N46 Nq93
       have K93 : Keep h0 T93.heap [] := K92.trans Kq93 ((allS (Or.inr sz_b92) all0))
       have Z93 : n0 ≤ T93.heap.size := Nat.le_trans Z92 Kq93.1
       refine own_by (fun _ k => st93.trans k) ?_
       show own_Go p e below _ (T93.setTop (mkF m 282 #[vI p0, vI p1, vI p2, vI p3, vI p4, .val .null, vI (0 : Int32), vI v1, vI z23, vI v3, vI z33, vR b35, vI o43, vI o47, .unset] [(.ref b92)]))
       refine own_by (fun _ k => XS.astore X93.here hx rfl (hb hby at_282) rfl rfl (l' := #[vI p0, vI p1, vI p2, vI p3, vI p4, .val .null, vI (0 : Int32), vI v1, vI z23, vI v3, vI z33, vR b35, vI o43, vI o47, vR b92]) rfl k) ?_
       show own_Go p e below _ (T93.setTop (mkF m 284 #[vI p0, vI p1, vI p2, vI p3, vI p4, .val .null, vI (0 : Int32), vI v1, vI z23, vI v3, vI z33, vR b35, vI o43, vI o47, vR b92] []))
       refine own_by (fun _ k => XS.aload X93.here hx rfl (hb hby at_284) rfl rfl k) ?_
       show own_Go p e below _ (T93.setTop (mkF m 286 #[vI p0, vI p1, vI p2, vI p3, vI p4, .val .null, vI (0 : Int32), vI v1, vI z23, vI v3, vI z33, vR b35, vI o43, vI o47, vR b92] [(.ref b92)]))
       refine own_by (fun _ k => XS.bipush X93.here hx rfl (hb hby at_286) k) ?_
       show own_Go p e below _ (T93.setTop (mkF m 288 #[vI p0, vI p1, vI p2, vI p3, vI p4, .val .null, vI (0 : Int32), vI v1, vI z23, vI v3, vI z33, vR b35, vI o43, vI o47, vR b92] [(.int (13 : Int32)), (.ref b92)]))
       obtain ⟨cq99, kq99, qq99a, qq99b, qq99c⟩ := isOf hZ rfl F94
       obtain ⟨_, _, ⟨T99, L99, k99, n99⟩, -, X99, ⟨Lc99, hQ99, l99, y99, z99⟩, st99⟩ := X93.virtualBack hx (y := (⟨"com/example/margay/margay/index/LineCounter", "count", "(C)V"⟩ : MethodName)) (z := (⟨"com/example/margay/margay/index/LineCounter", "count", "(C)V"⟩ : MethodName)) hown (mvT hZ (hwd 38 rfl)) (mvT hZ (hwd 39 rfl)) (notFace_of_selects (args := #[]) (mvT hZ (hwd 41 rfl))) (mvT hZ (hwd 41 rfl)) (mvT hZ (hwd 40 rfl)) (by decide) (backOf (W := 0) (rm6 l Z A0 hw [] b92 (13 : Int32) (0 : Int32) (0 : Int32) (1 : Int32) (1 : Int32) T93.heap n0 Z93 F98 F97 F94 F96 ge_b92 F95) hZ (hwd 42 rfl) (hwd 2 rfl) (by decide) (by decide)) qq99a qq99c (g := (mkF m 288 #[vI p0, vI p1, vI p2, vI p3, vI p4, .val .null, vI (0 : Int32), vI v1, vI z23, vI v3, vI z33, vR b35, vI o43, vI o47, vR b92] [(.int (13 : Int32)), (.ref b92)])) rfl (by rw [hml]; rfl) (Steps.refl _) (argsL := [(.int (13 : Int32))]) (rest := []) (lenOf pd_38 rfl) rfl (by show 2 * 0 + _ ≤ _; exact Nat.le_of_eq rfl) (hb hby at_288) (fun _ _ => ⟨rfl, rfl, (by decide : 6 + 0 ≤ _), (by decide : 40 + 0 ≤ _)⟩)
       dsimp only [Pt.U, Pt.locs, Pt.cells, Pt.slots] at X99 l99 y99 z99 st99 hQ99
       subst l99 y99 z99
       obtain ⟨o100, o101, o102, rfl, Nq99, Kq99, F103, F104, F105, F106, F107, hp108⟩ := hQ99
       have N99 := Fr.app N93 Nq99
       have R99 : CHr Z consts_1 T93.vm T93.heap T93.vm T99.heap := CHr.keep Kq99 ((allS (Safe.exa hZ.alike F94 (by decide) (by decide)) all0)) CR93.1
       have CR99 : CHr Z consts_1 s.vm h0 T93.vm T99.heap := CR93.trans R99
       have hk99 : kc93 ≤ T99.heap.size := Nat.le_trans hk93 Kq99.1
       have K99 : Keep h0 T99.heap [] := K93.trans Kq99 ((allS (Or.inr sz_b92) all0))
       have Z99 : n0 ≤ T99.heap.size := Nat.le_trans Z93 Kq99.1
       refine own_by (fun _ k => st99.trans k) ?_
       show own_Go p e below _ (T99.setTop (mkF m 291 #[vI p0, vI p1, vI p2, vI p3, vI p4, .val .null, vI (0 : Int32), vI v1, vI z23, vI v3, vI z33, vR b35, vI o43, vI o47, vR b92] []))
       refine own_by (fun _ k => XS.aload X99.here hx rfl (hb hby at_291) rfl rfl k) ?_
       show own_Go p e below _ (T99.setTop (mkF m 293 #[vI p0, vI p1, vI p2, vI p3, vI p4, .val .null, vI (0 : Int32), vI v1, vI z23, vI v3, vI z33, vR b35, vI o43, vI o47, vR b92] [(.ref b92)]))
       refine own_by (fun _ k => XS.iload X99.here hx rfl (hb hby at_293) rfl k) ?_
       show own_Go p e below _ (T99.setTop (mkF m 295 #[vI p0, vI p1, vI p2, vI p3, vI p4, .val .null, vI (0 : Int32), vI v1, vI z23, vI v3, vI z33, vR b35, vI o43, vI o47, vR b92] [(.int z23), (.ref b92)]))
       obtain ⟨cq109, kq109, qq109a, qq109b, qq109c⟩ := isOf hZ rfl F105
       obtain ⟨_, _, ⟨T109, L109, k109, n109⟩, -, X109, ⟨Lc109, hQ109, l109, y109, z109⟩, st109⟩ := X99.virtualBack hx (y := (⟨"com/example/margay/margay/index/LineCounter", "count", "(C)V"⟩ : MethodName)) (z := (⟨"com/example/margay/margay/index/LineCounter", "count", "(C)V"⟩ : MethodName)) hown (mvT hZ (hwd 38 rfl)) (mvT hZ (hwd 39 rfl)) (notFace_of_selects (args := #[]) (mvT hZ (hwd 41 rfl))) (mvT hZ (hwd 41 rfl)) (mvT hZ (hwd 40 rfl)) (by decide) (backOf (W := 0) (rm6 l Z A0 hw [] b92 z23 o100 (0 : Int32) o101 o102 T99.heap n0 Z99 F103 F104 F105 F106 ge_b92 F107) hZ (hwd 42 rfl) (hwd 2 rfl) (by decide) (by decide)) qq109a qq109c (g := (mkF m 295 #[vI p0, vI p1, vI p2, vI p3, vI p4, .val .null, vI (0 : Int32), vI v1, vI z23, vI v3, vI z33, vR b35, vI o43, vI o47, vR b92] [(.int z23), (.ref b92)])) rfl (by rw [hml]; rfl) (Steps.refl _) (argsL := [(.int z23)]) (rest := []) (lenOf pd_38 rfl) rfl (by show 2 * 0 + _ ≤ _; exact Nat.le_of_eq rfl) (hb hby at_295) (fun _ _ => ⟨rfl, rfl, (by decide : 6 + 0 ≤ _), (by decide : 40 + 0 ≤ _)⟩)
       dsimp only [Pt.U, Pt.locs, Pt.cells, Pt.slots] at X109 l109 y109 z109 st109 hQ109
       subst l109 y109 z109
       obtain ⟨o110, o111, o112, rfl, Nq109, Kq109, F113, F114, F115, F116, F117, hp118⟩ := hQ109
       have N109 := Fr.app N99 Nq109
       have R109 : CHr Z consts_1 T93.vm T99.heap T93.vm T109.heap := CHr.keep Kq109 ((allS (Safe.exa hZ.alike F105 (by decide) (by decide)) all0)) CR99.1
       have CR109 : CHr Z consts_1 s.vm h0 T93.vm T109.heap := CR99.trans R109
       have hk109 : kc93 ≤ T109.heap.size := Nat.le_trans hk99 Kq109.1
       have K109 : Keep h0 T109.heap [] := K99.trans Kq109 ((allS (Or.inr sz_b92) all0))
       have Z109 : n0 ≤ T109.heap.size := Nat.le_trans Z99 Kq109.1
       refine own_by (fun _ k => st109.trans k) ?_
       show own_Go p e below _ (T109.setTop (mkF m 298 #[vI p0, vI p1, vI p2, vI p3, vI p4, .val .null, vI (0 : Int32), vI v1, vI z23, vI v3, vI z33, vR b35, vI o43, vI o47, vR b92] []))
       refine own_by (fun _ k => XS.iload X109.here hx rfl (hb hby at_298) rfl k) ?_
       show own_Go p e below _ (T109.setTop (mkF m 300 #[vI p0, vI p1, vI p2, vI p3, vI p4, .val .null, vI (0 : Int32), vI v1, vI z23, vI v3, vI z33, vR b35, vI o43, vI o47, vR b92] [(.int z33)]))
       by_cases c119 : z33 = (0 : Int32)
       ·skip
        refine own_by (fun _ k => XS.ifYes X109.here hx rfl (pc0 := 300) (pc' := 327) rfl (hb hby at_300) rfl ((if0 _ _).trans (teq c119).1) (by decide) (by decide) k) ?_
        show own_Go p e below _ (T109.setTop (mkF m 327 #[vI p0, vI p1, vI p2, vI p3, vI p4, .val .null, vI (0 : Int32), vI v1, vI z23, vI v3, vI z33, vR b35, vI o43, vI o47, vR b92] []))
        refine own_by (fun _ k => XS.iload X109.here hx rfl (hb hby at_327) rfl k) ?_
        show own_Go p e below _ (T109.setTop (mkF m 329 #[vI p0, vI p1, vI p2, vI p3, vI p4, .val .null, vI (0 : Int32), vI v1, vI z23, vI v3, vI z33, vR b35, vI o43, vI o47, vR b92] [(.int o47)]))
        refine own_by (fun _ k => XS.ifNo X109.here hx rfl (hb hby at_329) rfl ((if0 _ _).trans (feq c91).1) k) ?_
        show own_Go p e below _ (T109.setTop (mkF m 332 #[vI p0, vI p1, vI p2, vI p3, vI p4, .val .null, vI (0 : Int32), vI v1, vI z23, vI v3, vI z33, vR b35, vI o43, vI o47, vR b92] []))
        refine own_by (fun _ k => XS.aload X109.here hx rfl (hb hby at_332) rfl rfl k) ?_
        show own_Go p e below _ (T109.setTop (mkF m 334 #[vI p0, vI p1, vI p2, vI p3, vI p4, .val .null, vI (0 : Int32), vI v1, vI z23, vI v3, vI z33, vR b35, vI o43, vI o47, vR b92] [(.ref b92)]))
        obtain ⟨cq120, kq120, qq120a, qq120b, qq120c⟩ := isOf hZ rfl F115
        obtain ⟨_, _, ⟨T120, L120, k120, n120⟩, -, X120, ⟨Lc120, hQ120, l120, y120, z120⟩, st120⟩ := X109.virtualBack hx (y := (⟨"com/example/margay/margay/index/LineCounter", "line", "()I"⟩ : MethodName)) (z := (⟨"com/example/margay/margay/index/LineCounter", "line", "()I"⟩ : MethodName)) hown (mvT hZ (hwd 47 rfl)) (mvT hZ (hwd 48 rfl)) (notFace_of_selects (args := #[]) (mvT hZ (hwd 50 rfl))) (mvT hZ (hwd 50 rfl)) (mvT hZ (hwd 49 rfl)) (by decide) (backOf (W := 0) (rm7 l Z A0 hw [] b92 o112 T109.heap n0 Z109 F117) hZ (hwd 51 rfl) (hwd 2 rfl) (by decide) (by decide)) qq120a qq120c (g := (mkF m 334 #[vI p0, vI p1, vI p2, vI p3, vI p4, .val .null, vI (0 : Int32), vI v1, vI z23, vI v3, vI z33, vR b35, vI o43, vI o47, vR b92] [(.ref b92)])) rfl (by rw [hml]; rfl) (Steps.refl _) (argsL := []) (rest := []) (lenOf pd_47 rfl) rfl (by show 2 * 0 + _ ≤ _; exact Nat.le_of_eq rfl) (hb hby at_334) (fun _ _ => ⟨rfl, rfl, (by decide : 6 + 0 ≤ _), (by decide : 40 + 0 ≤ _)⟩)
        dsimp only [Pt.U, Pt.locs, Pt.cells, Pt.slots] at X120 l120 y120 z120 st120 hQ120
        subst l120 y120 z120
        obtain ⟨rfl, Nq120, eq120⟩ := hQ120
        have N120 := Fr.app N109 Nq120
        refine own_by (fun _ k => st120.trans k) ?_
        show own_Go p e below _ (T120.setTop (mkF m 337 #[vI p0, vI p1, vI p2, vI p3, vI p4, .val .null, vI (0 : Int32), vI v1, vI z23, vI v3, vI z33, vR b35, vI o43, vI o47, vR b92] [(.int o112)]))
        refine own_by (fun _ k => XS.iconst X120.here hx rfl (hb hby at_337) k) ?_
        show own_Go p e below _ (T120.setTop (mkF m 338 #[vI p0, vI p1, vI p2, vI p3, vI p4, .val .null, vI (0 : Int32), vI v1, vI z23, vI v3, vI z33, vR b35, vI o43, vI o47, vR b92] [(.int (3 : Int32)), (.int o112)]))
        by_cases c121 : o112 = (3 : Int32)
        ·skip
         refine own_by (fun _ k => XS.icmpNo X120.here hx rfl (hb hby at_338) rfl (teq c121).2 k) ?_
         show own_Go p e below _ (T120.setTop (mkF m 341 #[vI p0, vI p1, vI p2, vI p3, vI p4, .val .null, vI (0 : Int32), vI v1, vI z23, vI v3, vI z33, vR b35, vI o43, vI o47, vR b92] []))
         refine own_by (fun _ k => XS.aload X120.here hx rfl (hb hby at_341) rfl rfl k) ?_
         show own_Go p e below _ (T120.setTop (mkF m 343 #[vI p0, vI p1, vI p2, vI p3, vI p4, .val .null, vI (0 : Int32), vI v1, vI z23, vI v3, vI z33, vR b35, vI o43, vI o47, vR b92] [(.ref b92)]))
         obtain ⟨cq122, kq122, qq122a, qq122b, qq122c⟩ := isOf hZ eq120 F115
         obtain ⟨_, _, ⟨T122, L122, k122, n122⟩, -, X122, ⟨Lc122, hQ122, l122, y122, z122⟩, st122⟩ := X120.virtualBack hx (y := (⟨"com/example/margay/margay/index/LineCounter", "column", "()I"⟩ : MethodName)) (z := (⟨"com/example/margay/margay/index/LineCounter", "column", "()I"⟩ : MethodName)) hown (mvT hZ (hwd 52 rfl)) (mvT hZ (hwd 53 rfl)) (notFace_of_selects (args := #[]) (mvT hZ (hwd 55 rfl))) (mvT hZ (hwd 55 rfl)) (mvT hZ (hwd 54 rfl)) (by decide) (backOf (W := 0) (rm8 l Z A0 hw [] b92 o111 T109.heap n0 Z109 F116) hZ (hwd 56 rfl) (hwd 2 rfl) (by decide) (by decide)) qq122a qq122c (g := (mkF m 343 #[vI p0, vI p1, vI p2, vI p3, vI p4, .val .null, vI (0 : Int32), vI v1, vI z23, vI v3, vI z33, vR b35, vI o43, vI o47, vR b92] [(.ref b92)])) rfl (by rw [hml]; rfl) (Steps.refl _) (argsL := []) (rest := []) (lenOf pd_47 rfl) rfl (by show 2 * 0 + _ ≤ _; exact Nat.le_of_eq rfl) (hb hby at_343) (fun _ _ => ⟨rfl, eq120, (by decide : 6 + 0 ≤ _), (by decide : 40 + 0 ≤ _)⟩)
         dsimp only [Pt.U, Pt.locs, Pt.cells, Pt.slots] at X122 l122 y122 z122 st122 hQ122
         subst l122 y122 z122
         obtain ⟨rfl, Nq122, eq122⟩ := hQ122
         have N122 := Fr.app N120 Nq122
         refine own_by (fun _ k => st122.trans k) ?_
         show own_Go p e below _ (T122.setTop (mkF m 346 #[vI p0, vI p1, vI p2, vI p3, vI p4, .val .null, vI (0 : Int32), vI v1, vI z23, vI v3, vI z33, vR b35, vI o43, vI o47, vR b92] [(.int o111)]))
         refine own_by (fun _ k => XS.iconst X122.here hx rfl (hb hby at_346) k) ?_
         show own_Go p e below _ (T122.setTop (mkF m 347 #[vI p0, vI p1, vI p2, vI p3, vI p4, .val .null, vI (0 : Int32), vI v1, vI z23, vI v3, vI z33, vR b35, vI o43, vI o47, vR b92] [(.int (1 : Int32)), (.int o111)]))
         by_cases c123 : o111 = (1 : Int32)
         ·skip
          refine own_by (fun _ k => XS.icmpNo X122.here hx rfl (hb hby at_347) rfl (teq c123).2 k) ?_
          show own_Go p e below _ (T122.setTop (mkF m 350 #[vI p0, vI p1, vI p2, vI p3, vI p4, .val .null, vI (0 : Int32), vI v1, vI z23, vI v3, vI z33, vR b35, vI o43, vI o47, vR b92] []))
          refine own_by (fun _ k => XS.iconst X122.here hx rfl (hb hby at_350) k) ?_
          show own_Go p e below _ (T122.setTop (mkF m 351 #[vI p0, vI p1, vI p2, vI p3, vI p4, .val .null, vI (0 : Int32), vI v1, vI z23, vI v3, vI z33, vR b35, vI o43, vI o47, vR b92] [(.int (1 : Int32))]))
          refine own_by (fun _ k => XS.goto X122.here hx rfl (pc0 := 351) (pc' := 355) rfl (hb hby at_351) (by decide) (by decide) k) ?_
          show own_Go p e below _ (T122.setTop (mkF m 355 #[vI p0, vI p1, vI p2, vI p3, vI p4, .val .null, vI (0 : Int32), vI v1, vI z23, vI v3, vI z33, vR b35, vI o43, vI o47, vR b92] [(.int (1 : Int32))]))
          exact own_retNW X122 hx hS hk109 hZ hEL hh CR109 (t := .boolean) Bd.returns (by simp) (hb hby at_355) hlk eq122 ⟨rfl, N122⟩ (by decide) (by decide)
         ·skip
          refine own_by (fun _ k => XS.icmpYes X122.here hx rfl (pc0 := 347) (pc' := 354) rfl (hb hby at_347) rfl (feq c123).2 (by decide) (by decide) k) ?_
          show own_Go p e below _ (T122.setTop (mkF m 354 #[vI p0, vI p1, vI p2, vI p3, vI p4, .val .null, vI (0 : Int32), vI v1, vI z23, vI v3, vI z33, vR b35, vI o43, vI o47, vR b92] []))
          refine own_by (fun _ k => XS.iconst X122.here hx rfl (hb hby at_354) k) ?_
          show own_Go p e below _ (T122.setTop (mkF m 355 #[vI p0, vI p1, vI p2, vI p3, vI p4, .val .null, vI (0 : Int32), vI v1, vI z23, vI v3, vI z33, vR b35, vI o43, vI o47, vR b92] [(.int (0 : Int32))]))
          exact own_retNW X122 hx hS hk109 hZ hEL hh CR109 (t := .boolean) Bd.returns (by simp) (hb hby at_355) hlk eq122 ⟨((ob_0_25 f_CS p0 p3 p4 v1 v3 z23 z33 o43 o47 o100 o101 o102 o110 o111 o112 hn_CS hv1 c2 hv3 hj24 hj34 hp44 c45 hp48 c49 c91 hp108 hp118 c119 c121 c123)).elim, N122⟩ (by decide) (by decide)
        ·skip
         refine own_by (fun _ k => XS.icmpYes X120.here hx rfl (pc0 := 338) (pc' := 354) rfl (hb hby at_338) rfl (feq c121).2 (by decide) (by decide) k) ?_
         show own_Go p e below _ (T120.setTop (mkF m 354 #[vI p0, vI p1, vI p2, vI p3, vI p4, .val .null, vI (0 : Int32), vI v1, vI z23, vI v3, vI z33, vR b35, vI o43, vI o47, vR b92] []))
         refine own_by (fun _ k => XS.iconst X120.here hx rfl (hb hby at_354) k) ?_
         show own_Go p e below _ (T120.setTop (mkF m 355 #[vI p0, vI p1, vI p2, vI p3, vI p4, .val .null, vI (0 : Int32), vI v1, vI z23, vI v3, vI z33, vR b35, vI o43, vI o47, vR b92] [(.int (0 : Int32))]))
         exact own_retNW X120 hx hS hk109 hZ hEL hh CR109 (t := .boolean) Bd.returns (by simp) (hb hby at_355) hlk eq120 ⟨((ob_0_26 f_CS p0 p3 p4 v1 v3 z23 z33 o43 o47 o100 o101 o102 o110 o111 o112 hn_CS hv1 c2 hv3 hj24 hj34 hp44 c45 hp48 c49 c91 hp108 hp118 c119 c121)).elim, N120⟩ (by decide) (by decide)
       ·skip
        refine own_by (fun _ k => XS.ifNo X109.here hx rfl (hb hby at_300) rfl ((if0 _ _).trans (feq c119).1) k) ?_
        show own_Go p e below _ (T109.setTop (mkF m 303 #[vI p0, vI p1, vI p2, vI p3, vI p4, .val .null, vI (0 : Int32), vI v1, vI z23, vI v3, vI z33, vR b35, vI o43, vI o47, vR b92] []))
        refine own_by (fun _ k => XS.aload X109.here hx rfl (hb hby at_303) rfl rfl k) ?_
        show own_Go p e below _ (T109.setTop (mkF m 305 #[vI p0, vI p1, vI p2, vI p3, vI p4, .val .null, vI (0 : Int32), vI v1, vI z23, vI v3, vI z33, vR b35, vI o43, vI o47, vR b92] [(.ref b92)]))
        obtain ⟨cq124, kq124, qq124a, qq124b, qq124c⟩ := isOf hZ rfl F115
        obtain ⟨_, _, ⟨T124, L124, k124, n124⟩, -, X124, ⟨Lc124, hQ124, l124, y124, z124⟩, st124⟩ := X109.virtualBack hx (y := (⟨"com/example/margay/margay/index/LineCounter", "line", "()I"⟩ : MethodName)) (z := (⟨"com/example/margay/margay/index/LineCounter", "line", "()I"⟩ : MethodName)) hown (mvT hZ (hwd 47 rfl)) (mvT hZ (hwd 48 rfl)) (notFace_of_selects (args := #[]) (mvT hZ (hwd 50 rfl))) (mvT hZ (hwd 50 rfl)) (mvT hZ (hwd 49 rfl)) (by decide) (backOf (W := 0) (rm7 l Z A0 hw [] b92 o112 T109.heap n0 Z109 F117) hZ (hwd 51 rfl) (hwd 2 rfl) (by decide) (by decide)) qq124a qq124c (g := (mkF m 305 #[vI p0, vI p1, vI p2, vI p3, vI p4, .val .null, vI (0 : Int32), vI v1, vI z23, vI v3, vI z33, vR b35, vI o43, vI o47, vR b92] [(.ref b92)])) rfl (by rw [hml]; rfl) (Steps.refl _) (argsL := []) (rest := []) (lenOf pd_47 rfl) rfl (by show 2 * 0 + _ ≤ _; exact Nat.le_of_eq rfl) (hb hby at_305) (fun _ _ => ⟨rfl, rfl, (by decide : 6 + 0 ≤ _), (by decide : 40 + 0 ≤ _)⟩)
        dsimp only [Pt.U, Pt.locs, Pt.cells, Pt.slots] at X124 l124 y124 z124 st124 hQ124
        subst l124 y124 z124
        obtain ⟨rfl, Nq124, eq124⟩ := hQ124
        have N124 := Fr.app N109 Nq124
        refine own_by (fun _ k => st124.trans k) ?_
        show own_Go p e below _ (T124.setTop (mkF m 308 #[vI p0, vI p1, vI p2, vI p3, vI p4, .val .null, vI (0 : Int32), vI v1, vI z23, vI v3, vI z33, vR b35, vI o43, vI o47, vR b92] [(.int o112)]))
        refine own_by (fun _ k => XS.iconst X124.here hx rfl (hb hby at_308) k) ?_
        show own_Go p e below _ (T124.setTop (mkF m 309 #[vI p0, vI p1, vI p2, vI p3, vI p4, .val .null, vI (0 : Int32), vI v1, vI z23, vI v3, vI z33, vR b35, vI o43, vI o47, vR b92] [(.int (2 : Int32)), (.int o112)]))
        by_cases c125 : o112 = (2 : Int32)
        ·skip
         refine own_by (fun _ k => XS.icmpNo X124.here hx rfl (hb hby at_309) rfl (teq c125).2 k) ?_
         show own_Go p e below _ (T124.setTop (mkF m 312 #[vI p0, vI p1, vI p2, vI p3, vI p4, .val .null, vI (0 : Int32), vI v1, vI z23, vI v3, vI z33, vR b35, vI o43, vI o47, vR b92] []))
         refine own_by (fun _ k => XS.aload X124.here hx rfl (hb hby at_312) rfl rfl k) ?_
         show own_Go p e below _ (T124.setTop (mkF m 314 #[vI p0, vI p1, vI p2, vI p3, vI p4, .val .null, vI (0 : Int32), vI v1, vI z23, vI v3, vI z33, vR b35, vI o43, vI o47, vR b92] [(.ref b92)]))
         obtain ⟨cq126, kq126, qq126a, qq126b, qq126c⟩ := isOf hZ eq124 F115
         obtain ⟨_, _, ⟨T126, L126, k126, n126⟩, -, X126, ⟨Lc126, hQ126, l126, y126, z126⟩, st126⟩ := X124.virtualBack hx (y := (⟨"com/example/margay/margay/index/LineCounter", "column", "()I"⟩ : MethodName)) (z := (⟨"com/example/margay/margay/index/LineCounter", "column", "()I"⟩ : MethodName)) hown (mvT hZ (hwd 52 rfl)) (mvT hZ (hwd 53 rfl)) (notFace_of_selects (args := #[]) (mvT hZ (hwd 55 rfl))) (mvT hZ (hwd 55 rfl)) (mvT hZ (hwd 54 rfl)) (by decide) (backOf (W := 0) (rm8 l Z A0 hw [] b92 o111 T109.heap n0 Z109 F116) hZ (hwd 56 rfl) (hwd 2 rfl) (by decide) (by decide)) qq126a qq126c (g := (mkF m 314 #[vI p0, vI p1, vI p2, vI p3, vI p4, .val .null, vI (0 : Int32), vI v1, vI z23, vI v3, vI z33, vR b35, vI o43, vI o47, vR b92] [(.ref b92)])) rfl (by rw [hml]; rfl) (Steps.refl _) (argsL := []) (rest := []) (lenOf pd_47 rfl) rfl (by show 2 * 0 + _ ≤ _; exact Nat.le_of_eq rfl) (hb hby at_314) (fun _ _ => ⟨rfl, eq124, (by decide : 6 + 0 ≤ _), (by decide : 40 + 0 ≤ _)⟩)
         dsimp only [Pt.U, Pt.locs, Pt.cells, Pt.slots] at X126 l126 y126 z126 st126 hQ126
         subst l126 y126 z126
         obtain ⟨rfl, Nq126, eq126⟩ := hQ126
         have N126 := Fr.app N124 Nq126
         refine own_by (fun _ k => st126.trans k) ?_
         show own_Go p e below _ (T126.setTop (mkF m 317 #[vI p0, vI p1, vI p2, vI p3, vI p4, .val .null, vI (0 : Int32), vI v1, vI z23, vI v3, vI z33, vR b35, vI o43, vI o47, vR b92] [(.int o111)]))
         refine own_by (fun _ k => XS.iconst X126.here hx rfl (hb hby at_317) k) ?_
         show own_Go p e below _ (T126.setTop (mkF m 318 #[vI p0, vI p1, vI p2, vI p3, vI p4, .val .null, vI (0 : Int32), vI v1, vI z23, vI v3, vI z33, vR b35, vI o43, vI o47, vR b92] [(.int (1 : Int32)), (.int o111)]))
         by_cases c127 : o111 = (1 : Int32)
         ·skip
          refine own_by (fun _ k => XS.icmpNo X126.here hx rfl (hb hby at_318) rfl (teq c127).2 k) ?_
          show own_Go p e below _ (T126.setTop (mkF m 321 #[vI p0, vI p1, vI p2, vI p3, vI p4, .val .null, vI (0 : Int32), vI v1, vI z23, vI v3, vI z33, vR b35, vI o43, vI o47, vR b92] []))
          refine own_by (fun _ k => XS.iconst X126.here hx rfl (hb hby at_321) k) ?_
          show own_Go p e below _ (T126.setTop (mkF m 322 #[vI p0, vI p1, vI p2, vI p3, vI p4, .val .null, vI (0 : Int32), vI v1, vI z23, vI v3, vI z33, vR b35, vI o43, vI o47, vR b92] [(.int (1 : Int32))]))
          refine own_by (fun _ k => XS.goto X126.here hx rfl (pc0 := 322) (pc' := 326) rfl (hb hby at_322) (by decide) (by decide) k) ?_
          show own_Go p e below _ (T126.setTop (mkF m 326 #[vI p0, vI p1, vI p2, vI p3, vI p4, .val .null, vI (0 : Int32), vI v1, vI z23, vI v3, vI z33, vR b35, vI o43, vI o47, vR b92] [(.int (1 : Int32))]))
          exact own_retNW X126 hx hS hk109 hZ hEL hh CR109 (t := .boolean) Bd.returns (by simp) (hb hby at_326) hlk eq126 ⟨rfl, N126⟩ (by decide) (by decide)
         ·skip
          refine own_by (fun _ k => XS.icmpYes X126.here hx rfl (pc0 := 318) (pc' := 325) rfl (hb hby at_318) rfl (feq c127).2 (by decide) (by decide) k) ?_
          show own_Go p e below _ (T126.setTop (mkF m 325 #[vI p0, vI p1, vI p2, vI p3, vI p4, .val .null, vI (0 : Int32), vI v1, vI z23, vI v3, vI z33, vR b35, vI o43, vI o47, vR b92] []))
          refine own_by (fun _ k => XS.iconst X126.here hx rfl (hb hby at_325) k) ?_
          show own_Go p e below _ (T126.setTop (mkF m 326 #[vI p0, vI p1, vI p2, vI p3, vI p4, .val .null, vI (0 : Int32), vI v1, vI z23, vI v3, vI z33, vR b35, vI o43, vI o47, vR b92] [(.int (0 : Int32))]))
          exact own_retNW X126 hx hS hk109 hZ hEL hh CR109 (t := .boolean) Bd.returns (by simp) (hb hby at_326) hlk eq126 ⟨((ob_0_27 f_CS p0 p3 p4 v1 v3 z23 z33 o43 o47 o100 o101 o102 o110 o111 o112 hn_CS hv1 c2 hv3 hj24 hj34 hp44 c45 hp48 c49 c91 hp108 hp118 c119 c125 c127)).elim, N126⟩ (by decide) (by decide)
        ·skip
         refine own_by (fun _ k => XS.icmpYes X124.here hx rfl (pc0 := 309) (pc' := 325) rfl (hb hby at_309) rfl (feq c125).2 (by decide) (by decide) k) ?_
         show own_Go p e below _ (T124.setTop (mkF m 325 #[vI p0, vI p1, vI p2, vI p3, vI p4, .val .null, vI (0 : Int32), vI v1, vI z23, vI v3, vI z33, vR b35, vI o43, vI o47, vR b92] []))
         refine own_by (fun _ k => XS.iconst X124.here hx rfl (hb hby at_325) k) ?_
         show own_Go p e below _ (T124.setTop (mkF m 326 #[vI p0, vI p1, vI p2, vI p3, vI p4, .val .null, vI (0 : Int32), vI v1, vI z23, vI v3, vI z33, vR b35, vI o43, vI o47, vR b92] [(.int (0 : Int32))]))
         exact own_retNW X124 hx hS hk109 hZ hEL hh CR109 (t := .boolean) Bd.returns (by simp) (hb hby at_326) hlk eq124 ⟨((ob_0_28 f_CS p0 p3 p4 v1 v3 z23 z33 o43 o47 o100 o101 o102 o110 o111 o112 hn_CS hv1 c2 hv3 hj24 hj34 hp44 c45 hp48 c49 c91 hp108 hp118 c119 c125)).elim, N124⟩ (by decide) (by decide)
    ·skip
     refine own_by (fun _ k => XS.icmpNo X42.here hx rfl (hb hby at_247) rfl (feq c45).1 k) ?_
     show own_Go p e below _ (T42.setTop (mkF m 250 #[vI p0, vI p1, vI p2, vI p3, vI p4, .val .null, vI (0 : Int32), vI v1, vI z23, vI v3, vI z33, vR b35, vI o43, .unset, .unset] []))
     refine own_by (fun _ k => XS.iconst X42.here hx rfl (hb hby at_250) k) ?_
     show own_Go p e below _ (T42.setTop (mkF m 251 #[vI p0, vI p1, vI p2, vI p3, vI p4, .val .null, vI (0 : Int32), vI v1, vI z23, vI v3, vI z33, vR b35, vI o43, .unset, .unset] [(.int (0 : Int32))]))
     exact own_retNW X42 hx hS hk36 hZ hEL hh CR36 (t := .boolean) Bd.returns (by simp) (hb hby at_251) hlk eq42 ⟨((ob_0_29 f_CS p0 p3 p4 v1 v3 z23 z33 o43 hn_CS hv1 c2 hv3 hj24 hj34 hp44 c45)).elim, N42⟩ (by decide) (by decide)
   by_cases c25 : z23 = (10 : Int32)
   ·skip
    refine own_by (fun _ k => XS.icmpYes X20.here hx rfl (pc0 := 200) (pc' := 216) rfl (hb hby at_200) rfl (teq c25).1 (by decide) (by decide) k) ?_
    show own_Go p e below _ (T18.setTop (mkF m 216 #[vI p0, vI p1, vI p2, vI p3, vI p4, .val .null, vI (0 : Int32), vI v1, vI z23, vI v3, .unset, .unset, .unset, .unset, .unset] []))
    refine own_by (fun _ k => XS.iconst X20.here hx rfl (hb hby at_216) k) ?_
    show own_Go p e below _ (T18.setTop (mkF m 217 #[vI p0, vI p1, vI p2, vI p3, vI p4, .val .null, vI (0 : Int32), vI v1, vI z23, vI v3, .unset, .unset, .unset, .unset, .unset] [(.int (1 : Int32))]))
    refine own_by (fun _ k => XS.goto X20.here hx rfl (pc0 := 217) (pc' := 221) rfl (hb hby at_217) (by decide) (by decide) k) ?_
    show own_Go p e below _ (T18.setTop (mkF m 221 #[vI p0, vI p1, vI p2, vI p3, vI p4, .val .null, vI (0 : Int32), vI v1, vI z23, vI v3, .unset, .unset, .unset, .unset, .unset] [(.int (1 : Int32))]))
    exact J27 _ _ (1 : Int32) X20 e21 N22 (Or.inl ⟨c25, rfl⟩)
   ·skip
    refine own_by (fun _ k => XS.icmpNo X20.here hx rfl (hb hby at_200) rfl (feq c25).1 k) ?_
    show own_Go p e below _ (T18.setTop (mkF m 203 #[vI p0, vI p1, vI p2, vI p3, vI p4, .val .null, vI (0 : Int32), vI v1, vI z23, vI v3, .unset, .unset, .unset, .unset, .unset] []))
    refine own_by (fun _ k => XS.iload X20.here hx rfl (hb hby at_203) rfl k) ?_
    show own_Go p e below _ (T18.setTop (mkF m 205 #[vI p0, vI p1, vI p2, vI p3, vI p4, .val .null, vI (0 : Int32), vI v1, vI z23, vI v3, .unset, .unset, .unset, .unset, .unset] [(.int z23)]))
    refine own_by (fun _ k => XS.sipush X20.here hx rfl (hb hby at_205) k) ?_
    show own_Go p e below _ (T18.setTop (mkF m 208 #[vI p0, vI p1, vI p2, vI p3, vI p4, .val .null, vI (0 : Int32), vI v1, vI z23, vI v3, .unset, .unset, .unset, .unset, .unset] [(.int (133 : Int32)), (.int z23)]))
    by_cases c26 : z23 = (133 : Int32)
    ·skip
     refine own_by (fun _ k => XS.icmpNo X20.here hx rfl (hb hby at_208) rfl (teq c26).2 k) ?_
     show own_Go p e below _ (T18.setTop (mkF m 211 #[vI p0, vI p1, vI p2, vI p3, vI p4, .val .null, vI (0 : Int32), vI v1, vI z23, vI v3, .unset, .unset, .unset, .unset, .unset] []))
     refine own_by (fun _ k => XS.iload X20.here hx rfl (hb hby at_211) rfl k) ?_
     show own_Go p e below _ (T18.setTop (mkF m 213 #[vI p0, vI p1, vI p2, vI p3, vI p4, .val .null, vI (0 : Int32), vI v1, vI z23, vI v3, .unset, .unset, .unset, .unset, .unset] [(.int (0 : Int32))]))
     refine own_by (fun _ k => XS.ifYes X20.here hx rfl (pc0 := 213) (pc' := 220) rfl (hb hby at_213) rfl ((if0 _ _).trans (teq (by decide : (0 : Int32) = (0 : Int32))).1) (by decide) (by decide) k) ?_
     show own_Go p e below _ (T18.setTop (mkF m 220 #[vI p0, vI p1, vI p2, vI p3, vI p4, .val .null, vI (0 : Int32), vI v1, vI z23, vI v3, .unset, .unset, .unset, .unset, .unset] []))
     refine own_by (fun _ k => XS.iconst X20.here hx rfl (hb hby at_220) k) ?_
     show own_Go p e below _ (T18.setTop (mkF m 221 #[vI p0, vI p1, vI p2, vI p3, vI p4, .val .null, vI (0 : Int32), vI v1, vI z23, vI v3, .unset, .unset, .unset, .unset, .unset] [(.int (0 : Int32))]))
     exact J27 _ _ (0 : Int32) X20 e21 N22 (Or.inr (Or.inl ⟨c25, c26, rfl⟩))
    ·skip
     refine own_by (fun _ k => XS.icmpYes X20.here hx rfl (pc0 := 208) (pc' := 220) rfl (hb hby at_208) rfl (feq c26).2 (by decide) (by decide) k) ?_
     show own_Go p e below _ (T18.setTop (mkF m 220 #[vI p0, vI p1, vI p2, vI p3, vI p4, .val .null, vI (0 : Int32), vI v1, vI z23, vI v3, .unset, .unset, .unset, .unset, .unset] []))
     refine own_by (fun _ k => XS.iconst X20.here hx rfl (hb hby at_220) k) ?_
     show own_Go p e below _ (T18.setTop (mkF m 221 #[vI p0, vI p1, vI p2, vI p3, vI p4, .val .null, vI (0 : Int32), vI v1, vI z23, vI v3, .unset, .unset, .unset, .unset, .unset] [(.int (0 : Int32))]))
     exact J27 _ _ (0 : Int32) X20 e21 N22 (Or.inr (Or.inr (⟨c25, c26, rfl⟩)))
  by_cases c4 : v3 = (0 : Int32)
  ·skip
   refine own_by (fun _ k => XS.ifNo X0.here hx rfl (hb hby at_141) rfl ((if0 _ _).trans (teq c4).2) k) ?_
   show own_Go p e below _ (s₁.setTop (mkF m 144 #[vI p0, vI p1, vI p2, vI p3, vI p4, .val .null, vI (0 : Int32), vI v1, .unset, vI v3, .unset, .unset, .unset, .unset, .unset] []))
   refine own_by (fun _ k => XS.bipush X0.here hx rfl (hb hby at_144) k) ?_
   show own_Go p e below _ (s₁.setTop (mkF m 146 #[vI p0, vI p1, vI p2, vI p3, vI p4, .val .null, vI (0 : Int32), vI v1, .unset, vI v3, .unset, .unset, .unset, .unset, .unset] [(.int (10 : Int32))]))
   refine own_by (fun _ k => XS.istore X0.here hx rfl (hb hby at_146) rfl (l' := #[vI p0, vI p1, vI p2, vI p3, vI p4, .val .null, vI (0 : Int32), vI v1, vI (10 : Int32), vI v3, .unset, .unset, .unset, .unset, .unset]) rfl k) ?_
   show own_Go p e below _ (s₁.setTop (mkF m 148 #[vI p0, vI p1, vI p2, vI p3, vI p4, .val .null, vI (0 : Int32), vI v1, vI (10 : Int32), vI v3, .unset, .unset, .unset, .unset, .unset] []))
   refine own_by (fun _ k => XS.goto X0.here hx rfl (pc0 := 148) (pc' := 196) rfl (hb hby at_148) (by decide) (by decide) k) ?_
   show own_Go p e below _ (s₁.setTop (mkF m 196 #[vI p0, vI p1, vI p2, vI p3, vI p4, .val .null, vI (0 : Int32), vI v1, vI (10 : Int32), vI v3, .unset, .unset, .unset, .unset, .unset] []))
   exact J17 _ _ (10 : Int32) X0 e0 N0 (Or.inl ⟨c4, rfl⟩)
  ·skip
   refine own_by (fun _ k => XS.ifYes X0.here hx rfl (pc0 := 141) (pc' := 151) rfl (hb hby at_141) rfl ((if0 _ _).trans (feq c4).2) (by decide) (by decide) k) ?_
   show own_Go p e below _ (s₁.setTop (mkF m 151 #[vI p0, vI p1, vI p2, vI p3, vI p4, .val .null, vI (0 : Int32), vI v1, .unset, vI v3, .unset, .unset, .unset, .unset, .unset] []))
   refine own_by (fun _ k => XS.iload X0.here hx rfl (hb hby at_151) rfl k) ?_
   show own_Go p e below _ (s₁.setTop (mkF m 153 #[vI p0, vI p1, vI p2, vI p3, vI p4, .val .null, vI (0 : Int32), vI v1, .unset, vI v3, .unset, .unset, .unset, .unset, .unset] [(.int v3)]))
   refine own_by (fun _ k => XS.iconst X0.here hx rfl (hb hby at_153) k) ?_
   show own_Go p e below _ (s₁.setTop (mkF m 154 #[vI p0, vI p1, vI p2, vI p3, vI p4, .val .null, vI (0 : Int32), vI v1, .unset, vI v3, .unset, .unset, .unset, .unset, .unset] [(.int (1 : Int32)), (.int v3)]))
   by_cases c5 : v3 = (1 : Int32)
   ·skip
    refine own_by (fun _ k => XS.icmpNo X0.here hx rfl (hb hby at_154) rfl (teq c5).2 k) ?_
    show own_Go p e below _ (s₁.setTop (mkF m 157 #[vI p0, vI p1, vI p2, vI p3, vI p4, .val .null, vI (0 : Int32), vI v1, .unset, vI v3, .unset, .unset, .unset, .unset, .unset] []))
    refine own_by (fun _ k => XS.sipush X0.here hx rfl (hb hby at_157) k) ?_
    show own_Go p e below _ (s₁.setTop (mkF m 160 #[vI p0, vI p1, vI p2, vI p3, vI p4, .val .null, vI (0 : Int32), vI v1, .unset, vI v3, .unset, .unset, .unset, .unset, .unset] [(.int (133 : Int32))]))
    refine own_by (fun _ k => XS.istore X0.here hx rfl (hb hby at_160) rfl (l' := #[vI p0, vI p1, vI p2, vI p3, vI p4, .val .null, vI (0 : Int32), vI v1, vI (133 : Int32), vI v3, .unset, .unset, .unset, .unset, .unset]) rfl k) ?_
    show own_Go p e below _ (s₁.setTop (mkF m 162 #[vI p0, vI p1, vI p2, vI p3, vI p4, .val .null, vI (0 : Int32), vI v1, vI (133 : Int32), vI v3, .unset, .unset, .unset, .unset, .unset] []))
    refine own_by (fun _ k => XS.goto X0.here hx rfl (pc0 := 162) (pc' := 196) rfl (hb hby at_162) (by decide) (by decide) k) ?_
    show own_Go p e below _ (s₁.setTop (mkF m 196 #[vI p0, vI p1, vI p2, vI p3, vI p4, .val .null, vI (0 : Int32), vI v1, vI (133 : Int32), vI v3, .unset, .unset, .unset, .unset, .unset] []))
    exact J17 _ _ (133 : Int32) X0 e0 N0 (Or.inr (Or.inl ⟨c4, c5, rfl⟩))
   ·skip
    refine own_by (fun _ k => XS.icmpYes X0.here hx rfl (pc0 := 154) (pc' := 165) rfl (hb hby at_154) rfl (feq c5).2 (by decide) (by decide) k) ?_
    show own_Go p e below _ (s₁.setTop (mkF m 165 #[vI p0, vI p1, vI p2, vI p3, vI p4, .val .null, vI (0 : Int32), vI v1, .unset, vI v3, .unset, .unset, .unset, .unset, .unset] []))
    refine own_by (fun _ k => XS.iload X0.here hx rfl (hb hby at_165) rfl k) ?_
    show own_Go p e below _ (s₁.setTop (mkF m 167 #[vI p0, vI p1, vI p2, vI p3, vI p4, .val .null, vI (0 : Int32), vI v1, .unset, vI v3, .unset, .unset, .unset, .unset, .unset] [(.int v3)]))
    refine own_by (fun _ k => XS.iconst X0.here hx rfl (hb hby at_167) k) ?_
    show own_Go p e below _ (s₁.setTop (mkF m 168 #[vI p0, vI p1, vI p2, vI p3, vI p4, .val .null, vI (0 : Int32), vI v1, .unset, vI v3, .unset, .unset, .unset, .unset, .unset] [(.int (2 : Int32)), (.int v3)]))
    by_cases c6 : v3 = (2 : Int32)
    ·skip
     refine own_by (fun _ k => XS.icmpNo X0.here hx rfl (hb hby at_168) rfl (teq c6).2 k) ?_
     show own_Go p e below _ (s₁.setTop (mkF m 171 #[vI p0, vI p1, vI p2, vI p3, vI p4, .val .null, vI (0 : Int32), vI v1, .unset, vI v3, .unset, .unset, .unset, .unset, .unset] []))
     refine own_by (fun _ k => XS.iload X0.here hx rfl (hb hby at_171) rfl k) ?_
     show own_Go p e below _ (s₁.setTop (mkF m 173 #[vI p0, vI p1, vI p2, vI p3, vI p4, .val .null, vI (0 : Int32), vI v1, .unset, vI v3, .unset, .unset, .unset, .unset, .unset] [(.int p4)]))
     refine own_by (fun _ k => XS.iconst X0.here hx rfl (hb hby at_173) k) ?_
     show own_Go p e below _ (s₁.setTop (mkF m 174 #[vI p0, vI p1, vI p2, vI p3, vI p4, .val .null, vI (0 : Int32), vI v1, .unset, vI v3, .unset, .unset, .unset, .unset, .unset] [(.int (1 : Int32)), (.int p4)]))
     refine own_by (fun _ k => XS.iand X0.here hx rfl (hb hby at_174) rfl k) ?_
     show own_Go p e below _ (s₁.setTop (mkF m 175 #[vI p0, vI p1, vI p2, vI p3, vI p4, .val .null, vI (0 : Int32), vI v1, .unset, vI v3, .unset, .unset, .unset, .unset, .unset] [(.int (p4 &&& (1 : Int32)))]))
     have J8 : ∀ (T9 : State) (L10 : List Loc) (z14 : Int32), Stand p l e room_1 (s.setVm s.vm) m #[(.int p0), (.int p1), (.int p2), (.int p3), (.int p4)] below meth c T9 L10 0 0 → T9.heap = h0 → Fr n0 L10 → ((((p4 &&& (1 : Int32)) = (0 : Int32)) ∧ z14 = (13 : Int32)) ∨ ((¬ ((p4 &&& (1 : Int32)) = (0 : Int32))) ∧ z14 = (8232 : Int32))) → own_Go p e below (own_FinW Z consts_1 s 24 3200 (Q0 Z f_CS p0 p1 p2 p3 p4 h0 n0)) (T9.setTop (mkF m 186 #[vI p0, vI p1, vI p2, vI p3, vI p4, .val .null, vI (0 : Int32), vI v1, .unset, vI v3, .unset, .unset, .unset, .unset, .unset] [(.int z14)])) := by
      intro T9 L10 z14 X11 e12 N13 hj15
      refine own_by (fun _ k => XS.istore X11.here hx rfl (hb hby at_186) rfl (l' := #[vI p0, vI p1, vI p2, vI p3, vI p4, .val .null, vI (0 : Int32), vI v1, vI z14, vI v3, .unset, .unset, .unset, .unset, .unset]) rfl k) ?_
      show own_Go p e below _ (T9.setTop (mkF m 188 #[vI p0, vI p1, vI p2, vI p3, vI p4, .val .null, vI (0 : Int32), vI v1, vI z14, vI v3, .unset, .unset, .unset, .unset, .unset] []))
      refine own_by (fun _ k => XS.goto X11.here hx rfl (pc0 := 188) (pc' := 196) rfl (hb hby at_188) (by decide) (by decide) k) ?_
      show own_Go p e below _ (T9.setTop (mkF m 196 #[vI p0, vI p1, vI p2, vI p3, vI p4, .val .null, vI (0 : Int32), vI v1, vI z14, vI v3, .unset, .unset, .unset, .unset, .unset] []))
      exact J17 _ _ z14 X11 e12 N13 (Or.inr (Or.inr (Or.inl ⟨z14, c4, c5, c6, hj15, rfl⟩)))
     by_cases c7 : (p4 &&& (1 : Int32)) = (0 : Int32)
     ·skip
      refine own_by (fun _ k => XS.ifNo X0.here hx rfl (hb hby at_175) rfl ((if0 _ _).trans (teq c7).2) k) ?_
      show own_Go p e below _ (s₁.setTop (mkF m 178 #[vI p0, vI p1, vI p2, vI p3, vI p4, .val .null, vI (0 : Int32), vI v1, .unset, vI v3, .unset, .unset, .unset, .unset, .unset] []))
      refine own_by (fun _ k => XS.bipush X0.here hx rfl (hb hby at_178) k) ?_
      show own_Go p e below _ (s₁.setTop (mkF m 180 #[vI p0, vI p1, vI p2, vI p3, vI p4, .val .null, vI (0 : Int32), vI v1, .unset, vI v3, .unset, .unset, .unset, .unset, .unset] [(.int (13 : Int32))]))
      refine own_by (fun _ k => XS.goto X0.here hx rfl (pc0 := 180) (pc' := 186) rfl (hb hby at_180) (by decide) (by decide) k) ?_
      show own_Go p e below _ (s₁.setTop (mkF m 186 #[vI p0, vI p1, vI p2, vI p3, vI p4, .val .null, vI (0 : Int32), vI v1, .unset, vI v3, .unset, .unset, .unset, .unset, .unset] [(.int (13 : Int32))]))
      exact J8 _ _ (13 : Int32) X0 e0 N0 (Or.inl ⟨c7, rfl⟩)
     ·skip
      refine own_by (fun _ k => XS.ifYes X0.here hx rfl (pc0 := 175) (pc' := 183) rfl (hb hby at_175) rfl ((if0 _ _).trans (feq c7).2) (by decide) (by decide) k) ?_
      show own_Go p e below _ (s₁.setTop (mkF m 183 #[vI p0, vI p1, vI p2, vI p3, vI p4, .val .null, vI (0 : Int32), vI v1, .unset, vI v3, .unset, .unset, .unset, .unset, .unset] []))
      refine own_by (fun _ k => XS.sipush X0.here hx rfl (hb hby at_183) k) ?_
      show own_Go p e below _ (s₁.setTop (mkF m 186 #[vI p0, vI p1, vI p2, vI p3, vI p4, .val .null, vI (0 : Int32), vI v1, .unset, vI v3, .unset, .unset, .unset, .unset, .unset] [(.int (8232 : Int32))]))
      exact J8 _ _ (8232 : Int32) X0 e0 N0 (Or.inr (⟨c7, rfl⟩))
    ·skip
     refine own_by (fun _ k => XS.icmpYes X0.here hx rfl (pc0 := 168) (pc' := 191) rfl (hb hby at_168) rfl (feq c6).2 (by decide) (by decide) k) ?_
     show own_Go p e below _ (s₁.setTop (mkF m 191 #[vI p0, vI p1, vI p2, vI p3, vI p4, .val .null, vI (0 : Int32), vI v1, .unset, vI v3, .unset, .unset, .unset, .unset, .unset] []))
     refine own_by (fun _ k => XS.iload X0.here hx rfl (hb hby at_191) rfl k) ?_
     show own_Go p e below _ (s₁.setTop (mkF m 193 #[vI p0, vI p1, vI p2, vI p3, vI p4, .val .null, vI (0 : Int32), vI v1, .unset, vI v3, .unset, .unset, .unset, .unset, .unset] [(.int p4)]))
     refine own_by (fun _ k => XS.i2c X0.here hx rfl (hb hby at_193) rfl k) ?_
     show own_Go p e below _ (s₁.setTop (mkF m 194 #[vI p0, vI p1, vI p2, vI p3, vI p4, .val .null, vI (0 : Int32), vI v1, .unset, vI v3, .unset, .unset, .unset, .unset, .unset] [(.int (p4.toUInt32.toUInt16.toUInt32.toInt32))]))
     refine own_by (fun _ k => XS.istore X0.here hx rfl (hb hby at_194) rfl (l' := #[vI p0, vI p1, vI p2, vI p3, vI p4, .val .null, vI (0 : Int32), vI v1, vI (p4.toUInt32.toUInt16.toUInt32.toInt32), vI v3, .unset, .unset, .unset, .unset, .unset]) rfl k) ?_
     show own_Go p e below _ (s₁.setTop (mkF m 196 #[vI p0, vI p1, vI p2, vI p3, vI p4, .val .null, vI (0 : Int32), vI v1, vI (p4.toUInt32.toUInt16.toUInt32.toInt32), vI v3, .unset, .unset, .unset, .unset, .unset] []))
     generalize hv16 : (p4.toUInt32.toUInt16.toUInt32.toInt32) = v16
     show own_Go p e below _ (s₁.setTop (mkF m 196 #[vI p0, vI p1, vI p2, vI p3, vI p4, .val .null, vI (0 : Int32), vI v1, vI v16, vI v3, .unset, .unset, .unset, .unset, .unset] []))
     exact J17 _ _ v16 X0 e0 N0 (Or.inr (Or.inr (Or.inr (⟨v16, c4, c5, c6, hv16, rfl⟩))))
 ·skip
  refine own_by (fun _ k => XS.ifYes X0.here hx rfl (pc0 := 7) (pc' := 19) rfl (hb hby at_7) rfl ((if0 _ _).trans (feq c2).2) (by decide) (by decide) k) ?_
  show own_Go p e below _ (s₁.setTop (mkF m 19 #[vI p0, vI p1, vI p2, vI p3, vI p4, .unset, .unset, vI v1, .unset, .unset, .unset, .unset, .unset, .unset, .unset] []))
  refine own_by (fun _ k => XS.iload X0.here hx rfl (hb hby at_19) rfl k) ?_
  show own_Go p e below _ (s₁.setTop (mkF m 21 #[vI p0, vI p1, vI p2, vI p3, vI p4, .unset, .unset, vI v1, .unset, .unset, .unset, .unset, .unset, .unset, .unset] [(.int v1)]))
  refine own_by (fun _ k => XS.iconst X0.here hx rfl (hb hby at_21) k) ?_
  show own_Go p e below _ (s₁.setTop (mkF m 22 #[vI p0, vI p1, vI p2, vI p3, vI p4, .unset, .unset, vI v1, .unset, .unset, .unset, .unset, .unset, .unset, .unset] [(.int (1 : Int32)), (.int v1)]))
  by_cases c128 : v1 = (1 : Int32)
  ·skip
   refine own_by (fun _ k => XS.icmpNo X0.here hx rfl (hb hby at_22) rfl (teq c128).2 k) ?_
   show own_Go p e below _ (s₁.setTop (mkF m 25 #[vI p0, vI p1, vI p2, vI p3, vI p4, .unset, .unset, vI v1, .unset, .unset, .unset, .unset, .unset, .unset, .unset] []))
   obtain ⟨b129, T129, h129, kc129, t129, kk129, X129, e129, E129, hS, hk129, hZ, hown, A129, C129, F129, V129, lt129, ltb129, R129, Li129, -, st129⟩ := ldcCH X0 hx hZ hown (hwd 86 rfl) hwS e0 hS hk0 hEL (by decide) CR0.1 (vs := ([49, 46, 49] : List Int32).map Value.int) (z := (3 : Int32)) ⟨by decide, by decide⟩ (by decide) (by decide) (g := (mkF m 25 #[vI p0, vI p1, vI p2, vI p3, vI p4, .unset, .unset, vI v1, .unset, .unset, .unset, .unset, .unset, .unset, .unset] [])) rfl (hb hby at_25) (n := 12) (by decide) (by decide) (by decide) (by decide)
   have V129' : own_Arf Z h129 t129 kk129 .byte (3 : Int32) (fun i => .int ((own_li [49, 46, 49]) i)) := own_arfLi V129
   have CR129 : CHr Z consts_1 s.vm h0 T129.vm h129 := CR0.trans R129
   have K129 : Keep h0 h129 [] := (Keep.refl h0 []).ext E129
   have Z129 : n0 ≤ h129.size := Nat.le_trans Z0 E129.1
   refine own_by st129 ?_
   show own_Go p e below _ (T129.setTop (mkF m 27 #[vI p0, vI p1, vI p2, vI p3, vI p4, .unset, .unset, vI v1, .unset, .unset, .unset, .unset, .unset, .unset, .unset] [(.ref b129)]))
   refine own_by (fun _ k => XS.astore X129.here hx rfl (hb hby at_27) rfl rfl (l' := #[vI p0, vI p1, vI p2, vI p3, vI p4, vR b129, .unset, vI v1, .unset, .unset, .unset, .unset, .unset, .unset, .unset]) rfl k) ?_
   show own_Go p e below _ (T129.setTop (mkF m 29 #[vI p0, vI p1, vI p2, vI p3, vI p4, vR b129, .unset, vI v1, .unset, .unset, .unset, .unset, .unset, .unset, .unset] []))
   refine own_by (fun _ k => XS.iconst X129.here hx rfl (hb hby at_29) k) ?_
   show own_Go p e below _ (T129.setTop (mkF m 30 #[vI p0, vI p1, vI p2, vI p3, vI p4, vR b129, .unset, vI v1, .unset, .unset, .unset, .unset, .unset, .unset, .unset] [(.int (1 : Int32))]))
   refine own_by (fun _ k => XS.istore X129.here hx rfl (hb hby at_30) rfl (l' := #[vI p0, vI p1, vI p2, vI p3, vI p4, vR b129, vI (1 : Int32), vI v1, .unset, .unset, .unset, .unset, .unset, .unset, .unset]) rfl k) ?_
   show own_Go p e below _ (T129.setTop (mkF m 32 #[vI p0, vI p1, vI p2, vI p3, vI p4, vR b129, vI (1 : Int32), vI v1, .unset, .unset, .unset, .unset, .unset, .unset, .unset] []))
   refine own_by (fun _ k => XS.goto X129.here hx rfl (pc0 := 32) (pc' := 134) rfl (hb hby at_32) (by decide) (by decide) k) ?_
   show own_Go p e below _ (T129.setTop (mkF m 134 #[vI p0, vI p1, vI p2, vI p3, vI p4, vR b129, vI (1 : Int32), vI v1, .unset, .unset, .unset, .unset, .unset, .unset, .unset] []))
   refine own_by (fun _ k => XS.iloadN X129.here hx rfl (hb hby at_134) rfl k) ?_
   show own_Go p e below _ (T129.setTop (mkF m 135 #[vI p0, vI p1, vI p2, vI p3, vI p4, vR b129, vI (1 : Int32), vI v1, .unset, .unset, .unset, .unset, .unset, .unset, .unset] [(.int p3)]))
   refine own_by (fun _ k => XS.iconst X129.here hx rfl (hb hby at_135) k) ?_
   show own_Go p e below _ (T129.setTop (mkF m 136 #[vI p0, vI p1, vI p2, vI p3, vI p4, vR b129, vI (1 : Int32), vI v1, .unset, .unset, .unset, .unset, .unset, .unset, .unset] [(.int (3 : Int32)), (.int p3)]))
   refine own_by (fun _ k => XS.iand X129.here hx rfl (hb hby at_136) rfl k) ?_
   show own_Go p e below _ (T129.setTop (mkF m 137 #[vI p0, vI p1, vI p2, vI p3, vI p4, vR b129, vI (1 : Int32), vI v1, .unset, .unset, .unset, .unset, .unset, .unset, .unset] [(.int (p3 &&& (3 : Int32)))]))
   refine own_by (fun _ k => XS.istore X129.here hx rfl (hb hby at_137) rfl (l' := #[vI p0, vI p1, vI p2, vI p3, vI p4, vR b129, vI (1 : Int32), vI v1, .unset, vI (p3 &&& (3 : Int32)), .unset, .unset, .unset, .unset, .unset]) rfl k) ?_
   show own_Go p e below _ (T129.setTop (mkF m 139 #[vI p0, vI p1, vI p2, vI p3, vI p4, vR b129, vI (1 : Int32), vI v1, .unset, vI (p3 &&& (3 : Int32)), .unset, .unset, .unset, .unset, .unset] []))
   generalize hv130 : (p3 &&& (3 : Int32)) = v130
   show own_Go p e below _ (T129.setTop (mkF m 139 #[vI p0, vI p1, vI p2, vI p3, vI p4, vR b129, vI (1 : Int32), vI v1, .unset, vI v130, .unset, .unset, .unset, .unset, .unset] []))
   refine own_by (fun _ k => XS.iload X129.here hx rfl (hb hby at_139) rfl k) ?_
   show own_Go p e below _ (T129.setTop (mkF m 141 #[vI p0, vI p1, vI p2, vI p3, vI p4, vR b129, vI (1 : Int32), vI v1, .unset, vI v130, .unset, .unset, .unset, .unset, .unset] [(.int v130)]))
   have J144 : ∀ (T145 : State) (L146 : List Loc) (z150 : Int32), Stand p l e room_1 (s.setVm T129.vm) m #[(.int p0), (.int p1), (.int p2), (.int p3), (.int p4)] below meth c T145 L146 2 16 → T145.heap = h129 → Fr n0 L146 → (((v130 = (0 : Int32)) ∧ z150 = (10 : Int32)) ∨ ((¬ (v130 = (0 : Int32))) ∧ (v130 = (1 : Int32)) ∧ z150 = (133 : Int32)) ∨ (∃ (z141 : Int32), (¬ (v130 = (0 : Int32))) ∧ (¬ (v130 = (1 : Int32))) ∧ (v130 = (2 : Int32)) ∧ ((((p4 &&& (1 : Int32)) = (0 : Int32)) ∧ z141 = (13 : Int32)) ∨ ((¬ ((p4 &&& (1 : Int32)) = (0 : Int32))) ∧ z141 = (8232 : Int32))) ∧ z150 = z141) ∨ (∃ (v143 : Int32), (¬ (v130 = (0 : Int32))) ∧ (¬ (v130 = (1 : Int32))) ∧ (¬ (v130 = (2 : Int32))) ∧ ((p4.toUInt32.toUInt16.toUInt32.toInt32) = v143) ∧ z150 = v143)) → own_Go p e below (own_FinW Z consts_1 s 24 3200 (Q0 Z f_CS p0 p1 p2 p3 p4 h0 n0)) (T145.setTop (mkF m 196 #[vI p0, vI p1, vI p2, vI p3, vI p4, vR b129, vI (1 : Int32), vI v1, vI z150, vI v130, .unset, .unset, .unset, .unset, .unset] [])) := by
    intro T145 L146 z150 X147 e148 N149 hj151
    refine own_by (fun _ k => XS.iload X147.here hx rfl (hb hby at_196) rfl k) ?_
    show own_Go p e below _ (T145.setTop (mkF m 198 #[vI p0, vI p1, vI p2, vI p3, vI p4, vR b129, vI (1 : Int32), vI v1, vI z150, vI v130, .unset, .unset, .unset, .unset, .unset] [(.int z150)]))
    refine own_by (fun _ k => XS.bipush X147.here hx rfl (hb hby at_198) k) ?_
    show own_Go p e below _ (T145.setTop (mkF m 200 #[vI p0, vI p1, vI p2, vI p3, vI p4, vR b129, vI (1 : Int32), vI v1, vI z150, vI v130, .unset, .unset, .unset, .unset, .unset] [(.int (10 : Int32)), (.int z150)]))
    have J154 : ∀ (T155 : State) (L156 : List Loc) (z160 : Int32), Stand p l e room_1 (s.setVm T129.vm) m #[(.int p0), (.int p1), (.int p2), (.int p3), (.int p4)] below meth c T155 L156 2 16 → T155.heap = h129 → Fr n0 L156 → (((z150 = (10 : Int32)) ∧ z160 = (1 : Int32)) ∨ ((¬ (z150 = (10 : Int32))) ∧ (z150 = (133 : Int32)) ∧ z160 = (1 : Int32)) ∨ ((¬ (z150 = (10 : Int32))) ∧ (¬ (z150 = (133 : Int32))) ∧ z160 = (0 : Int32))) → own_Go p e below (own_FinW Z consts_1 s 24 3200 (Q0 Z f_CS p0 p1 p2 p3 p4 h0 n0)) (T155.setTop (mkF m 221 #[vI p0, vI p1, vI p2, vI p3, vI p4, vR b129, vI (1 : Int32), vI v1, vI z150, vI v130, .unset, .unset, .unset, .unset, .unset] [(.int z160)])) := by
     intro T155 L156 z160 X157 e158 N159 hj161
     refine own_by (fun _ k => XS.istore X157.here hx rfl (hb hby at_221) rfl (l' := #[vI p0, vI p1, vI p2, vI p3, vI p4, vR b129, vI (1 : Int32), vI v1, vI z150, vI v130, vI z160, .unset, .unset, .unset, .unset]) rfl k) ?_
     show own_Go p e below _ (T155.setTop (mkF m 223 #[vI p0, vI p1, vI p2, vI p3, vI p4, vR b129, vI (1 : Int32), vI v1, vI z150, vI v130, vI z160, .unset, .unset, .unset, .unset] []))
     obtain ⟨T162, h162, X162, e162, E162, A162, D162, -, st162⟩ := newO X157 hx hZ hown (hwd 0 rfl) (hwd 1 rfl) (hwd 2 rfl) e158 (g := (mkF m 223 #[vI p0, vI p1, vI p2, vI p3, vI p4, vR b129, vI (1 : Int32), vI v1, vI z150, vI v130, vI z160, .unset, .unset, .unset, .unset] [])) rfl (hb hby at_223) (by decide) (by decide)
     obtain ⟨b162, g162⟩ : ∃ z, z = h129.size := ⟨_, rfl⟩
     have ge_b162 : n0 ≤ b162 := Nat.le_trans Z129 (Nat.le_of_eq g162.symm)
     have sz_b162 : h0.size ≤ b162 := Nat.le_trans K129.1 (Nat.le_of_eq g162.symm)
     have R162 : CHr Z consts_1 T129.vm h129 T129.vm h162 := CHr.ext E162 CR129.1
     have CR162 : CHr Z consts_1 s.vm h0 T129.vm h162 := CR129.trans R162
     have hk162 : kc129 ≤ h162.size := Nat.le_trans hk129 E162.1
     have S_b162 : Safe Z consts_1 T129.vm h162 b162 := Safe.ext E162 CR129.1 (Safe.new (Nat.le_of_eq g162.symm))
     have K162 : Keep h0 h162 [] := K129.ext E162
     have Z162 : n0 ≤ h162.size := Nat.le_trans Z129 E162.1
     rw [← g162] at A162 D162 st162
     have lt_b162 := A162.lt
     have F_line_b162 : Fld Z h162 b162 "com/example/margay/margay/index/LineCounter" "line" "I" (.int (0 : Int32)) := D162 (Or.inl (hwd 10 rfl)) (ty := .int) (by decide)
     have F_column_b162 : Fld Z h162 b162 "com/example/margay/margay/index/LineCounter" "column" "I" (.int (0 : Int32)) := D162 (Or.inl (hwd 12 rfl)) (ty := .int) (by decide)
     have F_xml11_b162 : Fld Z h162 b162 "com/example/margay/margay/index/LineCounter" "xml11" "Z" (.int (0 : Int32)) := D162 (Or.inr (hwd 27 rfl)) (ty := .boolean) (by decide)
     have F_afterCarriageReturn_b162 : Fld Z h162 b162 "com/example/margay/margay/index/LineCounter" "afterCarriageReturn" "Z" (.int (0 : Int32)) := D162 (Or.inl (hwd 44 rfl)) (ty := .boolean) (by decide)
     refine own_by st162 ?_
     show own_Go p e below _ (T162.setTop (mkF m 226 #[vI p0, vI p1, vI p2, vI p3, vI p4, vR b129, vI (1 : Int32), vI v1, vI z150, vI v130, vI z160, .unset, .unset, .unset, .unset] [(.ref b162)]))
     refine own_by (fun _ k => XS.dup X162.here hx rfl (hb hby at_226) rfl rfl k) ?_
     show own_Go p e below _ (T162.setTop (mkF m 227 #[vI p0, vI p1, vI p2, vI p3, vI p4, vR b129, vI (1 : Int32), vI v1, vI z150, vI v130, vI z160, .unset, .unset, .unset, .unset] [(.ref b162), (.ref b162)]))
     refine own_by (fun _ k => XS.aload X162.here hx rfl (hb hby at_227) rfl rfl k) ?_
     show own_Go p e below _ (T162.setTop (mkF m 229 #[vI p0, vI p1, vI p2, vI p3, vI p4, vR b129, vI (1 : Int32), vI v1, vI z150, vI v130, vI z160, .unset, .unset, .unset, .unset] [(.ref b129), (.ref b162), (.ref b162)]))
     have F163 : Exa Z h162 b129 "java/lang/String" := (A129.ext E162)
     have F164 : Fld Z h162 b129 "java/lang/String" "coder" "B" (.int (0 : Int32)) := (C129.ext E162)
     have F165 : Fld Z h162 b129 "java/lang/String" "value" "[B" (.ref t129) := (F129.ext E162)
     have F166 : own_Arf Z h162 t129 kk129 .byte (3 : Int32) (fun i => .int ((own_li [49, 46, 49]) i)) := (V129'.ext E162)
     have F167 : Sta Z h162 "java/lang/String" "COMPACT_STRINGS" "Z" (.int f_CS) := ((P_S_CS.ext E129).ext E162)
     obtain ⟨_, _, ⟨T168, L168, k168, n168⟩, -, X168', hSq168, hgr168, ⟨Lc168, hQ168, l168, y168, z168, R168⟩, st168⟩ := X162.specialBackS hx (y := (⟨"com/example/margay/margay/index/LineCounter", "<init>", "(Ljava/lang/String;)V"⟩ : MethodName)) rfl hown (mvT hZ (hwd 3 rfl)) (mvT hZ (hwd 4 rfl)) (mvT hZ (hwd 5 rfl)) (by decide) (backOfSH (W := 1) (rmlcR l Z A0 hw [] t129 kk129 (own_li [49, 46, 49]) f_CS b162 b129 (0 : Int32) (0 : Int32) (0 : Int32) (0 : Int32) h162 n0 Z162 F163 F164 F165 F166 F167 hn_CS A162 F_line_b162 ge_b162 F_column_b162 F_xml11_b162 F_afterCarriageReturn_b162) hZ (hwd 5 rfl) (hwd 2 rfl) (by decide) (by decide) hEL CR162.1) (g := (mkF m 229 #[vI p0, vI p1, vI p2, vI p3, vI p4, vR b129, vI (1 : Int32), vI v1, vI z150, vI v130, vI z160, .unset, .unset, .unset, .unset] [(.ref b129), (.ref b162), (.ref b162)])) rfl (by rw [hml]; rfl) (Steps.refl _) (a := b162) (argsL := [(.ref b129)]) (rest := [(.ref b162)]) (lenOf pd_3 rfl) rfl (by show 2 * 0 + _ ≤ _; exact Nat.le_of_eq rfl) (hb hby at_229) (fun _ _ => ⟨rfl, e162, (by decide : 3 + 2 ≤ _), (by decide : 20 + 16 ≤ _)⟩)
     dsimp only [Pt.U, Pt.locs, Pt.cells, Pt.slots] at X168' l168 y168 z168 st168 hQ168 hSq168 hgr168 R168
     subst l168 y168 z168
     obtain ⟨X168, hS, hZ, hown⟩ := rebS hS (by rw [e162]; exact hk162) X168' hSq168 hgr168 hZ hown
     obtain ⟨kc168, hkc168⟩ : ∃ z, z = T168.heap.size := ⟨_, rfl⟩
     rw [← hkc168] at hS
     have hk168 : kc168 ≤ T168.heap.size := Nat.le_of_eq hkc168
     have CR168 : CHr Z consts_1 s.vm h0 T168.vm T168.heap := CR162.trans R168
     obtain ⟨o169, rfl, Nq168, Kq168, F170, F171, F172, F173, F174, hp175⟩ := hQ168
     have N168 := Fr.app N159 Nq168
     have K168 : Keep h0 T168.heap [] := K162.trans Kq168 ((allS (Or.inr sz_b162) all0))
     have Z168 : n0 ≤ T168.heap.size := Nat.le_trans Z162 Kq168.1
     refine own_by (fun _ k => st168.trans k) ?_
     show own_Go p e below _ (T168.setTop (mkF m 232 #[vI p0, vI p1, vI p2, vI p3, vI p4, vR b129, vI (1 : Int32), vI v1, vI z150, vI v130, vI z160, .unset, .unset, .unset, .unset] [(.ref b162)]))
     refine own_by (fun _ k => XS.astore X168.here hx rfl (hb hby at_232) rfl rfl (l' := #[vI p0, vI p1, vI p2, vI p3, vI p4, vR b129, vI (1 : Int32), vI v1, vI z150, vI v130, vI z160, vR b162, .unset, .unset, .unset]) rfl k) ?_
     show own_Go p e below _ (T168.setTop (mkF m 234 #[vI p0, vI p1, vI p2, vI p3, vI p4, vR b129, vI (1 : Int32), vI v1, vI z150, vI v130, vI z160, vR b162, .unset, .unset, .unset] []))
     refine own_by (fun _ k => XS.aload X168.here hx rfl (hb hby at_234) rfl rfl k) ?_
     show own_Go p e below _ (T168.setTop (mkF m 236 #[vI p0, vI p1, vI p2, vI p3, vI p4, vR b129, vI (1 : Int32), vI v1, vI z150, vI v130, vI z160, vR b162, .unset, .unset, .unset] [(.ref b162)]))
     refine own_by (fun _ k => XS.iload X168.here hx rfl (hb hby at_236) rfl k) ?_
     show own_Go p e below _ (T168.setTop (mkF m 238 #[vI p0, vI p1, vI p2, vI p3, vI p4, vR b129, vI (1 : Int32), vI v1, vI z150, vI v130, vI z160, vR b162, .unset, .unset, .unset] [(.int z150), (.ref b162)]))
     obtain ⟨cq176, kq176, qq176a, qq176b, qq176c⟩ := isOf hZ rfl F170
     obtain ⟨_, _, ⟨T176, L176, k176, n176⟩, -, X176, ⟨Lc176, hQ176, l176, y176, z176⟩, st176⟩ := X168.virtualBack hx (y := (⟨"com/example/margay/margay/index/LineCounter", "endsLineWithCarriageReturn", "(C)Z"⟩ : MethodName)) (z := (⟨"com/example/margay/margay/index/LineCounter", "endsLineWithCarriageReturn", "(C)Z"⟩ : MethodName)) hown (mvT hZ (hwd 28 rfl)) (mvT hZ (hwd 29 rfl)) (notFace_of_selects (args := #[]) (mvT hZ (hwd 31 rfl))) (mvT hZ (hwd 31 rfl)) (mvT hZ (hwd 30 rfl)) (by decide) (backOf (W := 0) (rm4 l Z A0 hw [] b162 z150 o169 T168.heap n0 Z168 F173) hZ (hwd 32 rfl) (hwd 2 rfl) (by decide) (by decide)) qq176a qq176c (g := (mkF m 238 #[vI p0, vI p1, vI p2, vI p3, vI p4, vR b129, vI (1 : Int32), vI v1, vI z150, vI v130, vI z160, vR b162, .unset, .unset, .unset] [(.int z150), (.ref b162)])) rfl (by rw [hml]; rfl) (Steps.refl _) (argsL := [(.int z150)]) (rest := []) (lenOf pd_28 rfl) rfl (by show 2 * 0 + _ ≤ _; exact Nat.le_of_eq rfl) (hb hby at_238) (fun _ _ => ⟨rfl, rfl, (by decide : 5 + 0 ≤ _), (by decide : 36 + 0 ≤ _)⟩)
     dsimp only [Pt.U, Pt.locs, Pt.cells, Pt.slots] at X176 l176 y176 z176 st176 hQ176
     subst l176 y176 z176
     obtain ⟨o177, rfl, Nq176, eq176, hp178⟩ := hQ176
     have N176 := Fr.app N168 Nq176
     refine own_by (fun _ k => st176.trans k) ?_
     show own_Go p e below _ (T176.setTop (mkF m 241 #[vI p0, vI p1, vI p2, vI p3, vI p4, vR b129, vI (1 : Int32), vI v1, vI z150, vI v130, vI z160, vR b162, .unset, .unset, .unset] [(.int o177)]))
     refine own_by (fun _ k => XS.istore X176.here hx rfl (hb hby at_241) rfl (l' := #[vI p0, vI p1, vI p2, vI p3, vI p4, vR b129, vI (1 : Int32), vI v1, vI z150, vI v130, vI z160, vR b162, vI o177, .unset, .unset]) rfl k) ?_
     show own_Go p e below _ (T176.setTop (mkF m 243 #[vI p0, vI p1, vI p2, vI p3, vI p4, vR b129, vI (1 : Int32), vI v1, vI z150, vI v130, vI z160, vR b162, vI o177, .unset, .unset] []))
     refine own_by (fun _ k => XS.iload X176.here hx rfl (hb hby at_243) rfl k) ?_
     show own_Go p e below _ (T176.setTop (mkF m 245 #[vI p0, vI p1, vI p2, vI p3, vI p4, vR b129, vI (1 : Int32), vI v1, vI z150, vI v130, vI z160, vR b162, vI o177, .unset, .unset] [(.int o177)]))
     refine own_by (fun _ k => XS.iload X176.here hx rfl (hb hby at_245) rfl k) ?_
     show own_Go p e below _ (T176.setTop (mkF m 247 #[vI p0, vI p1, vI p2, vI p3, vI p4, vR b129, vI (1 : Int32), vI v1, vI z150, vI v130, vI z160, vR b162, vI o177, .unset, .unset] [(.int z160), (.int o177)]))
     by_cases c179 : o177 = z160
     ·skip
      refine own_by (fun _ k => XS.icmpYes X176.here hx rfl (pc0 := 247) (pc' := 252) rfl (hb hby at_247) rfl (teq c179).1 (by decide) (by decide) k) ?_
      show own_Go p e below _ (T176.setTop (mkF m 252 #[vI p0, vI p1, vI p2, vI p3, vI p4, vR b129, vI (1 : Int32), vI v1, vI z150, vI v130, vI z160, vR b162, vI o177, .unset, .unset] []))
      refine own_by (fun _ k => XS.aload X176.here hx rfl (hb hby at_252) rfl rfl k) ?_
      show own_Go p e below _ (T176.setTop (mkF m 254 #[vI p0, vI p1, vI p2, vI p3, vI p4, vR b129, vI (1 : Int32), vI v1, vI z150, vI v130, vI z160, vR b162, vI o177, .unset, .unset] [(.ref b162)]))
      refine own_by (fun _ k => XS.iload X176.here hx rfl (hb hby at_254) rfl k) ?_
      show own_Go p e below _ (T176.setTop (mkF m 256 #[vI p0, vI p1, vI p2, vI p3, vI p4, vR b129, vI (1 : Int32), vI v1, vI z150, vI v130, vI z160, vR b162, vI o177, .unset, .unset] [(.int z150), (.ref b162)]))
      obtain ⟨cq180, kq180, qq180a, qq180b, qq180c⟩ := isOf hZ eq176 F170
      obtain ⟨_, _, ⟨T180, L180, k180, n180⟩, -, X180, ⟨Lc180, hQ180, l180, y180, z180⟩, st180⟩ := X176.virtualBack hx (y := (⟨"com/example/margay/margay/index/LineCounter", "endsLine", "(C)Z"⟩ : MethodName)) (z := (⟨"com/example/margay/margay/index/LineCounter", "endsLine", "(C)Z"⟩ : MethodName)) hown (mvT hZ (hwd 33 rfl)) (mvT hZ (hwd 34 rfl)) (notFace_of_selects (args := #[]) (mvT hZ (hwd 36 rfl))) (mvT hZ (hwd 36 rfl)) (mvT hZ (hwd 35 rfl)) (by decide) (backOf (W := 0) (rm5 l Z A0 hw [] b162 z150 o169 T168.heap n0 Z168 F173) hZ (hwd 37 rfl) (hwd 2 rfl) (by decide) (by decide)) qq180a qq180c (g := (mkF m 256 #[vI p0, vI p1, vI p2, vI p3, vI p4, vR b129, vI (1 : Int32), vI v1, vI z150, vI v130, vI z160, vR b162, vI o177, .unset, .unset] [(.int z150), (.ref b162)])) rfl (by rw [hml]; rfl) (Steps.refl _) (argsL := [(.int z150)]) (rest := []) (lenOf pd_28 rfl) rfl (by show 2 * 0 + _ ≤ _; exact Nat.le_of_eq rfl) (hb hby at_256) (fun _ _ => ⟨rfl, eq176, (by decide : 5 + 0 ≤ _), (by decide : 36 + 0 ≤ _)⟩)
      dsimp only [Pt.U, Pt.locs, Pt.cells, Pt.slots] at X180 l180 y180 z180 st180 hQ180
      subst l180 y180 z180
      obtain ⟨o181, rfl, Nq180, eq180, hp182⟩ := hQ180
      have N180 := Fr.app N176 Nq180
      refine own_by (fun _ k => st180.trans k) ?_
      show own_Go p e below _ (T180.setTop (mkF m 259 #[vI p0, vI p1, vI p2, vI p3, vI p4, vR b129, vI (1 : Int32), vI v1, vI z150, vI v130, vI z160, vR b162, vI o177, .unset, .unset] [(.int o181)]))
      refine own_by (fun _ k => XS.istore X180.here hx rfl (hb hby at_259) rfl (l' := #[vI p0, vI p1, vI p2, vI p3, vI p4, vR b129, vI (1 : Int32), vI v1, vI z150, vI v130, vI z160, vR b162, vI o177, vI o181, .unset]) rfl k) ?_
      show own_Go p e below _ (T180.setTop (mkF m 261 #[vI p0, vI p1, vI p2, vI p3, vI p4, vR b129, vI (1 : Int32), vI v1, vI z150, vI v130, vI z160, vR b162, vI o177, vI o181, .unset] []))
      refine own_by (fun _ k => XS.iload X180.here hx rfl (hb hby at_261) rfl k) ?_
      show own_Go p e below _ (T180.setTop (mkF m 263 #[vI p0, vI p1, vI p2, vI p3, vI p4, vR b129, vI (1 : Int32), vI v1, vI z150, vI v130, vI z160, vR b162, vI o177, vI o181, .unset] [(.int o177)]))
      by_cases c183 : o177 = (0 : Int32)
      ·skip
       refine own_by (fun _ k => XS.ifYes X180.here hx rfl (pc0 := 263) (pc' := 273) rfl (hb hby at_263) rfl ((if0 _ _).trans (teq c183).1) (by decide) (by decide) k) ?_
       show own_Go p e below _ (T180.setTop (mkF m 273 #[vI p0, vI p1, vI p2, vI p3, vI p4, vR b129, vI (1 : Int32), vI v1, vI z150, vI v130, vI z160, vR b162, vI o177, vI o181, .unset] []))
       obtain ⟨T184, h184, X184, e184, E184, A184, D184, -, st184⟩ := newO X180 hx hZ hown (hwd 0 rfl) (hwd 1 rfl) (hwd 2 rfl) eq180 (g := (mkF m 273 #[vI p0, vI p1, vI p2, vI p3, vI p4, vR b129, vI (1 : Int32), vI v1, vI z150, vI v130, vI z160, vR b162, vI o177, vI o181, .unset] [])) rfl (hb hby at_273) (by decide) (by decide)
       obtain ⟨b184, g184⟩ : ∃ z, z = T168.heap.size := ⟨_, rfl⟩
       have ge_b184 : n0 ≤ b184 := Nat.le_trans Z168 (Nat.le_of_eq g184.symm)
       have sz_b184 : h0.size ≤ b184 := Nat.le_trans K168.1 (Nat.le_of_eq g184.symm)
       have R184 : CHr Z consts_1 T168.vm T168.heap T168.vm h184 := CHr.ext E184 CR168.1
       have CR184 : CHr Z consts_1 s.vm h0 T168.vm h184 := CR168.trans R184
       have hk184 : kc168 ≤ h184.size := Nat.le_trans hk168 E184.1
       have S_b184 : Safe Z consts_1 T168.vm h184 b184 := Safe.ext E184 CR168.1 (Safe.new (Nat.le_of_eq g184.symm))
       have K184 : Keep h0 h184 [] := K168.ext E184
       have Z184 : n0 ≤ h184.size := Nat.le_trans Z168 E184.1
       rw [← g184] at A184 D184 st184
       have lt_b184 := A184.lt
       have F_line_b184 : Fld Z h184 b184 "com/example/margay/margay/index/LineCounter" "line" "I" (.int (0 : Int32)) := D184 (Or.inl (hwd 10 rfl)) (ty := .int) (by decide)
       have F_column_b184 : Fld Z h184 b184 "com/example/margay/margay/index/LineCounter" "column" "I" (.int (0 : Int32)) := D184 (Or.inl (hwd 12 rfl)) (ty := .int) (by decide)
       have F_xml11_b184 : Fld Z h184 b184 "com/example/margay/margay/index/LineCounter" "xml11" "Z" (.int (0 : Int32)) := D184 (Or.inr (hwd 27 rfl)) (ty := .boolean) (by decide)
       have F_afterCarriageReturn_b184 : Fld Z h184 b184 "com/example/margay/margay/index/LineCounter" "afterCarriageReturn" "Z" (.int (0 : Int32)) := D184 (Or.inl (hwd 44 rfl)) (ty := .boolean) (by decide)
       refine own_by st184 ?_
       show own_Go p e below _ (T184.setTop (mkF m 276 #[vI p0, vI p1, vI p2, vI p3, vI p4, vR b129, vI (1 : Int32), vI v1, vI z150, vI v130, vI z160, vR b162, vI o177, vI o181, .unset] [(.ref b184)]))
       refine own_by (fun _ k => XS.dup X184.here hx rfl (hb hby at_276) rfl rfl k) ?_
       show own_Go p e below _ (T184.setTop (mkF m 277 #[vI p0, vI p1, vI p2, vI p3, vI p4, vR b129, vI (1 : Int32), vI v1, vI z150, vI v130, vI z160, vR b162, vI o177, vI o181, .unset] [(.ref b184), (.ref b184)]))
       refine own_by (fun _ k => XS.aload X184.here hx rfl (hb hby at_277) rfl rfl k) ?_
       show own_Go p e below _ (T184.setTop (mkF m 279 #[vI p0, vI p1, vI p2, vI p3, vI p4, vR b129, vI (1 : Int32), vI v1, vI z150, vI v130, vI z160, vR b162, vI o177, vI o181, .unset] [(.ref b129), (.ref b184), (.ref b184)]))
       have F185 : Exa Z h184 b129 "java/lang/String" := ((F163.keep Kq168).ext E184)
       have F186 : Fld Z h184 b129 "java/lang/String" "coder" "B" (.int (0 : Int32)) := ((F164.keep Kq168 (ninS (Nat.ne_of_lt (Nat.lt_of_lt_of_le (A129).lt (Nat.le_of_eq g162.symm))) nin0)).ext E184)
       have F187 : Fld Z h184 b129 "java/lang/String" "value" "[B" (.ref t129) := ((F165.keep Kq168 (ninS (Nat.ne_of_lt (Nat.lt_of_lt_of_le (A129).lt (Nat.le_of_eq g162.symm))) nin0)).ext E184)
       have F188 : own_Arf Z h184 t129 kk129 .byte (3 : Int32) (fun i => .int ((own_li [49, 46, 49]) i)) := ((F166.keep Kq168 (ninS (Nat.ne_of_lt (Nat.lt_of_lt_of_le (V129').lt (Nat.le_of_eq g162.symm))) nin0)).ext E184)
       have F189 : Sta Z h184 "java/lang/String" "COMPACT_STRINGS" "Z" (.int f_CS) := ((own_staKeep F167 Kq168 (allS (own_exaPlain A162) all0)).ext E184)
       obtain ⟨_, _, ⟨T190, L190, k190, n190⟩, -, X190', hSq190, hgr190, ⟨Lc190, hQ190, l190, y190, z190, R190⟩, st190⟩ := X184.specialBackS hx (y := (⟨"com/example/margay/margay/index/LineCounter", "<init>", "(Ljava/lang/String;)V"⟩ : MethodName)) rfl hown (mvT hZ (hwd 3 rfl)) (mvT hZ (hwd 4 rfl)) (mvT hZ (hwd 5 rfl)) (by decide) (backOfSH (W := 1) (rmlcR l Z A0 hw [] t129 kk129 (own_li [49, 46, 49]) f_CS b184 b129 (0 : Int32) (0 : Int32) (0 : Int32) (0 : Int32) h184 n0 Z184 F185 F186 F187 F188 F189 hn_CS A184 F_line_b184 ge_b184 F_column_b184 F_xml11_b184 F_afterCarriageReturn_b184) hZ (hwd 5 rfl) (hwd 2 rfl) (by decide) (by decide) hEL CR184.1) (g := (mkF m 279 #[vI p0, vI p1, vI p2, vI p3, vI p4, vR b129, vI (1 : Int32), vI v1, vI z150, vI v130, vI z160, vR b162, vI o177, vI o181, .unset] [(.ref b129), (.ref b184), (.ref b184)])) rfl (by rw [hml]; rfl) (Steps.refl _) (a := b184) (argsL := [(.ref b129)]) (rest := [(.ref b184)]) (lenOf pd_3 rfl) rfl (by show 2 * 0 + _ ≤ _; exact Nat.le_of_eq rfl) (hb hby at_279) (fun _ _ => ⟨rfl, e184, (by decide : 6 + 2 ≤ _), (by decide : 40 + 16 ≤ _)⟩)
       dsimp only [Pt.U, Pt.locs, Pt.cells, Pt.slots] at X190' l190 y190 z190 st190 hQ190 hSq190 hgr190 R190
       subst l190 y190 z190
       obtain ⟨X190, hS, hZ, hown⟩ := rebS hS (by rw [e184]; exact hk184) X190' hSq190 hgr190 hZ hown
       obtain ⟨kc190, hkc190⟩ : ∃ z, z = T190.heap.size := ⟨_, rfl⟩
       rw [← hkc190] at hS
       have hk190 : kc190 ≤ T190.heap.size := Nat.le_of_eq hkc190
       have CR190 : CHr Z consts_1 s.vm h0 T190.vm T190.heap := CR184.trans R190
       obtain ⟨o191, rfl, Nq190, Kq190, F192, F193, F194, F195, F196, hp197⟩ := hQ190
       have N190 := Fr.app N180 Nq190
       have K190 : Keep h0 T190.heap [] := K184.trans Kq190 ((allS (Or.inr sz_b184) all0))
       have Z190 : n0 ≤ T190.heap.size := Nat.le_trans Z184 Kq190.1
       refine own_by (fun _ k => st190.trans k) ?_
       show own_Go p e below _ (T190.setTop (mkF m 282 #[vI p0, vI p1, vI p2, vI p3, vI p4, vR b129, vI (1 : Int32), vI v1, vI z150, vI v130, vI z160, vR b162, vI o177, vI o181, .unset] [(.ref b184)]))
       refine own_by (fun _ k => XS.astore X190.here hx rfl (hb hby at_282) rfl rfl (l' := #[vI p0, vI p1, vI p2, vI p3, vI p4, vR b129, vI (1 : Int32), vI v1, vI z150, vI v130, vI z160, vR b162, vI o177, vI o181, vR b184]) rfl k) ?_
       show own_Go p e below _ (T190.setTop (mkF m 284 #[vI p0, vI p1, vI p2, vI p3, vI p4, vR b129, vI (1 : Int32), vI v1, vI z150, vI v130, vI z160, vR b162, vI o177, vI o181, vR b184] []))
       refine own_by (fun _ k => XS.aload X190.here hx rfl (hb hby at_284) rfl rfl k) ?_
       show own_Go p e below _ (T190.setTop (mkF m 286 #[vI p0, vI p1, vI p2, vI p3, vI p4, vR b129, vI (1 : Int32), vI v1, vI z150, vI v130, vI z160, vR b162, vI o177, vI o181, vR b184] [(.ref b184)]))
       refine own_by (fun _ k => XS.bipush X190.here hx rfl (hb hby at_286) k) ?_
       show own_Go p e below _ (T190.setTop (mkF m 288 #[vI p0, vI p1, vI p2, vI p3, vI p4, vR b129, vI (1 : Int32), vI v1, vI z150, vI v130, vI z160, vR b162, vI o177, vI o181, vR b184] [(.int (13 : Int32)), (.ref b184)]))
       obtain ⟨cq198, kq198, qq198a, qq198b, qq198c⟩ := isOf hZ rfl F192
       obtain ⟨_, _, ⟨T198, L198, k198, n198⟩, -, X198, ⟨Lc198, hQ198, l198, y198, z198⟩, st198⟩ := X190.virtualBack hx (y := (⟨"com/example/margay/margay/index/LineCounter", "count", "(C)V"⟩ : MethodName)) (z := (⟨"com/example/margay/margay/index/LineCounter", "count", "(C)V"⟩ : MethodName)) hown (mvT hZ (hwd 38 rfl)) (mvT hZ (hwd 39 rfl)) (notFace_of_selects (args := #[]) (mvT hZ (hwd 41 rfl))) (mvT hZ (hwd 41 rfl)) (mvT hZ (hwd 40 rfl)) (by decide) (backOf (W := 0) (rm6 l Z A0 hw [] b184 (13 : Int32) (0 : Int32) o191 (1 : Int32) (1 : Int32) T190.heap n0 Z190 F196 F195 F192 F194 ge_b184 F193) hZ (hwd 42 rfl) (hwd 2 rfl) (by decide) (by decide)) qq198a qq198c (g := (mkF m 288 #[vI p0, vI p1, vI p2, vI p3, vI p4, vR b129, vI (1 : Int32), vI v1, vI z150, vI v130, vI z160, vR b162, vI o177, vI o181, vR b184] [(.int (13 : Int32)), (.ref b184)])) rfl (by rw [hml]; rfl) (Steps.refl _) (argsL := [(.int (13 : Int32))]) (rest := []) (lenOf pd_38 rfl) rfl (by show 2 * 0 + _ ≤ _; exact Nat.le_of_eq rfl) (hb hby at_288) (fun _ _ => ⟨rfl, rfl, (by decide : 8 + 0 ≤ _), (by decide : 56 + 0 ≤ _)⟩)
       dsimp only [Pt.U, Pt.locs, Pt.cells, Pt.slots] at X198 l198 y198 z198 st198 hQ198
       subst l198 y198 z198
       obtain ⟨o199, o200, o201, rfl, Nq198, Kq198, F202, F203, F204, F205, F206, hp207⟩ := hQ198
       have N198 := Fr.app N190 Nq198
       have R198 : CHr Z consts_1 T190.vm T190.heap T190.vm T198.heap := CHr.keep Kq198 ((allS (Safe.exa hZ.alike F192 (by decide) (by decide)) all0)) CR190.1
       have CR198 : CHr Z consts_1 s.vm h0 T190.vm T198.heap := CR190.trans R198
       have hk198 : kc190 ≤ T198.heap.size := Nat.le_trans hk190 Kq198.1
       have K198 : Keep h0 T198.heap [] := K190.trans Kq198 ((allS (Or.inr sz_b184) all0))
       have Z198 : n0 ≤ T198.heap.size := Nat.le_trans Z190 Kq198.1
       refine own_by (fun _ k => st198.trans k) ?_
       show own_Go p e below _ (T198.setTop (mkF m 291 #[vI p0, vI p1, vI p2, vI p3, vI p4, vR b129, vI (1 : Int32), vI v1, vI z150, vI v130, vI z160, vR b162, vI o177, vI o181, vR b184] []))
       refine own_by (fun _ k => XS.aload X198.here hx rfl (hb hby at_291) rfl rfl k) ?_
       show own_Go p e below _ (T198.setTop (mkF m 293 #[vI p0, vI p1, vI p2, vI p3, vI p4, vR b129, vI (1 : Int32), vI v1, vI z150, vI v130, vI z160, vR b162, vI o177, vI o181, vR b184] [(.ref b184)]))
       refine own_by (fun _ k => XS.iload X198.here hx rfl (hb hby at_293) rfl k) ?_
       show own_Go p e below _ (T198.setTop (mkF m 295 #[vI p0, vI p1, vI p2, vI p3, vI p4, vR b129, vI (1 : Int32), vI v1, vI z150, vI v130, vI z160, vR b162, vI o177, vI o181, vR b184] [(.int z150), (.ref b184)]))
       obtain ⟨cq208, kq208, qq208a, qq208b, qq208c⟩ := isOf hZ rfl F204
       obtain ⟨_, _, ⟨T208, L208, k208, n208⟩, -, X208, ⟨Lc208, hQ208, l208, y208, z208⟩, st208⟩ := X198.virtualBack hx (y := (⟨"com/example/margay/margay/index/LineCounter", "count", "(C)V"⟩ : MethodName)) (z := (⟨"com/example/margay/margay/index/LineCounter", "count", "(C)V"⟩ : MethodName)) hown (mvT hZ (hwd 38 rfl)) (mvT hZ (hwd 39 rfl)) (notFace_of_selects (args := #[]) (mvT hZ (hwd 41 rfl))) (mvT hZ (hwd 41 rfl)) (mvT hZ (hwd 40 rfl)) (by decide) (backOf (W := 0) (rm6 l Z A0 hw [] b184 z150 o199 o191 o200 o201 T198.heap n0 Z198 F202 F203 F204 F205 ge_b184 F206) hZ (hwd 42 rfl) (hwd 2 rfl) (by decide) (by decide)) qq208a qq208c (g := (mkF m 295 #[vI p0, vI p1, vI p2, vI p3, vI p4, vR b129, vI (1 : Int32), vI v1, vI z150, vI v130, vI z160, vR b162, vI o177, vI o181, vR b184] [(.int z150), (.ref b184)])) rfl (by rw [hml]; rfl) (Steps.refl _) (argsL := [(.int z150)]) (rest := []) (lenOf pd_38 rfl) rfl (by show 2 * 0 + _ ≤ _; exact Nat.le_of_eq rfl) (hb hby at_295) (fun _ _ => ⟨rfl, rfl, (by decide : 8 + 0 ≤ _), (by decide : 56 + 0 ≤ _)⟩)
       dsimp only [Pt.U, Pt.locs, Pt.cells, Pt.slots] at X208 l208 y208 z208 st208 hQ208
       subst l208 y208 z208
       obtain ⟨o209, o210, o211, rfl, Nq208, Kq208, F212, F213, F214, F215, F216, hp217⟩ := hQ208
       have N208 := Fr.app N198 Nq208
       have R208 : CHr Z consts_1 T190.vm T198.heap T190.vm T208.heap := CHr.keep Kq208 ((allS (Safe.exa hZ.alike F204 (by decide) (by decide)) all0)) CR198.1
       have CR208 : CHr Z consts_1 s.vm h0 T190.vm T208.heap := CR198.trans R208
       have hk208 : kc190 ≤ T208.heap.size := Nat.le_trans hk198 Kq208.1
       have K208 : Keep h0 T208.heap [] := K198.trans Kq208 ((allS (Or.inr sz_b184) all0))
       have Z208 : n0 ≤ T208.heap.size := Nat.le_trans Z198 Kq208.1
       refine own_by (fun _ k => st208.trans k) ?_
       show own_Go p e below _ (T208.setTop (mkF m 298 #[vI p0, vI p1, vI p2, vI p3, vI p4, vR b129, vI (1 : Int32), vI v1, vI z150, vI v130, vI z160, vR b162, vI o177, vI o181, vR b184] []))
       refine own_by (fun _ k => XS.iload X208.here hx rfl (hb hby at_298) rfl k) ?_
       show own_Go p e below _ (T208.setTop (mkF m 300 #[vI p0, vI p1, vI p2, vI p3, vI p4, vR b129, vI (1 : Int32), vI v1, vI z150, vI v130, vI z160, vR b162, vI o177, vI o181, vR b184] [(.int z160)]))
       by_cases c218 : z160 = (0 : Int32)
       ·skip
        refine own_by (fun _ k => XS.ifYes X208.here hx rfl (pc0 := 300) (pc' := 327) rfl (hb hby at_300) rfl ((if0 _ _).trans (teq c218).1) (by decide) (by decide) k) ?_
        show own_Go p e below _ (T208.setTop (mkF m 327 #[vI p0, vI p1, vI p2, vI p3, vI p4, vR b129, vI (1 : Int32), vI v1, vI z150, vI v130, vI z160, vR b162, vI o177, vI o181, vR b184] []))
        refine own_by (fun _ k => XS.iload X208.here hx rfl (hb hby at_327) rfl k) ?_
        show own_Go p e below _ (T208.setTop (mkF m 329 #[vI p0, vI p1, vI p2, vI p3, vI p4, vR b129, vI (1 : Int32), vI v1, vI z150, vI v130, vI z160, vR b162, vI o177, vI o181, vR b184] [(.int o181)]))
        by_cases c219 : o181 = (0 : Int32)
        ·skip
         refine own_by (fun _ k => XS.ifYes X208.here hx rfl (pc0 := 329) (pc' := 356) rfl (hb hby at_329) rfl ((if0 _ _).trans (teq c219).1) (by decide) (by decide) k) ?_
         show own_Go p e below _ (T208.setTop (mkF m 356 #[vI p0, vI p1, vI p2, vI p3, vI p4, vR b129, vI (1 : Int32), vI v1, vI z150, vI v130, vI z160, vR b162, vI o177, vI o181, vR b184] []))
         refine own_by (fun _ k => XS.aload X208.here hx rfl (hb hby at_356) rfl rfl k) ?_
         show own_Go p e below _ (T208.setTop (mkF m 358 #[vI p0, vI p1, vI p2, vI p3, vI p4, vR b129, vI (1 : Int32), vI v1, vI z150, vI v130, vI z160, vR b162, vI o177, vI o181, vR b184] [(.ref b184)]))
         obtain ⟨cq220, kq220, qq220a, qq220b, qq220c⟩ := isOf hZ rfl F214
         obtain ⟨_, _, ⟨T220, L220, k220, n220⟩, -, X220, ⟨Lc220, hQ220, l220, y220, z220⟩, st220⟩ := X208.virtualBack hx (y := (⟨"com/example/margay/margay/index/LineCounter", "line", "()I"⟩ : MethodName)) (z := (⟨"com/example/margay/margay/index/LineCounter", "line", "()I"⟩ : MethodName)) hown (mvT hZ (hwd 47 rfl)) (mvT hZ (hwd 48 rfl)) (notFace_of_selects (args := #[]) (mvT hZ (hwd 50 rfl))) (mvT hZ (hwd 50 rfl)) (mvT hZ (hwd 49 rfl)) (by decide) (backOf (W := 0) (rm7 l Z A0 hw [] b184 o211 T208.heap n0 Z208 F216) hZ (hwd 51 rfl) (hwd 2 rfl) (by decide) (by decide)) qq220a qq220c (g := (mkF m 358 #[vI p0, vI p1, vI p2, vI p3, vI p4, vR b129, vI (1 : Int32), vI v1, vI z150, vI v130, vI z160, vR b162, vI o177, vI o181, vR b184] [(.ref b184)])) rfl (by rw [hml]; rfl) (Steps.refl _) (argsL := []) (rest := []) (lenOf pd_47 rfl) rfl (by show 2 * 0 + _ ≤ _; exact Nat.le_of_eq rfl) (hb hby at_358) (fun _ _ => ⟨rfl, rfl, (by decide : 8 + 0 ≤ _), (by decide : 56 + 0 ≤ _)⟩)
         dsimp only [Pt.U, Pt.locs, Pt.cells, Pt.slots] at X220 l220 y220 z220 st220 hQ220
         subst l220 y220 z220
         obtain ⟨rfl, Nq220, eq220⟩ := hQ220
         have N220 := Fr.app N208 Nq220
         refine own_by (fun _ k => st220.trans k) ?_
         show own_Go p e below _ (T220.setTop (mkF m 361 #[vI p0, vI p1, vI p2, vI p3, vI p4, vR b129, vI (1 : Int32), vI v1, vI z150, vI v130, vI z160, vR b162, vI o177, vI o181, vR b184] [(.int o211)]))
         refine own_by (fun _ k => XS.iconst X220.here hx rfl (hb hby at_361) k) ?_
         show own_Go p e below _ (T220.setTop (mkF m 362 #[vI p0, vI p1, vI p2, vI p3, vI p4, vR b129, vI (1 : Int32), vI v1, vI z150, vI v130, vI z160, vR b162, vI o177, vI o181, vR b184] [(.int (2 : Int32)), (.int o211)]))
         by_cases c221 : o211 = (2 : Int32)
         ·skip
          refine own_by (fun _ k => XS.icmpNo X220.here hx rfl (hb hby at_362) rfl (teq c221).2 k) ?_
          show own_Go p e below _ (T220.setTop (mkF m 365 #[vI p0, vI p1, vI p2, vI p3, vI p4, vR b129, vI (1 : Int32), vI v1, vI z150, vI v130, vI z160, vR b162, vI o177, vI o181, vR b184] []))
          refine own_by (fun _ k => XS.aload X220.here hx rfl (hb hby at_365) rfl rfl k) ?_
          show own_Go p e below _ (T220.setTop (mkF m 367 #[vI p0, vI p1, vI p2, vI p3, vI p4, vR b129, vI (1 : Int32), vI v1, vI z150, vI v130, vI z160, vR b162, vI o177, vI o181, vR b184] [(.ref b184)]))
          obtain ⟨cq222, kq222, qq222a, qq222b, qq222c⟩ := isOf hZ eq220 F214
          obtain ⟨_, _, ⟨T222, L222, k222, n222⟩, -, X222, ⟨Lc222, hQ222, l222, y222, z222⟩, st222⟩ := X220.virtualBack hx (y := (⟨"com/example/margay/margay/index/LineCounter", "column", "()I"⟩ : MethodName)) (z := (⟨"com/example/margay/margay/index/LineCounter", "column", "()I"⟩ : MethodName)) hown (mvT hZ (hwd 52 rfl)) (mvT hZ (hwd 53 rfl)) (notFace_of_selects (args := #[]) (mvT hZ (hwd 55 rfl))) (mvT hZ (hwd 55 rfl)) (mvT hZ (hwd 54 rfl)) (by decide) (backOf (W := 0) (rm8 l Z A0 hw [] b184 o210 T208.heap n0 Z208 F215) hZ (hwd 56 rfl) (hwd 2 rfl) (by decide) (by decide)) qq222a qq222c (g := (mkF m 367 #[vI p0, vI p1, vI p2, vI p3, vI p4, vR b129, vI (1 : Int32), vI v1, vI z150, vI v130, vI z160, vR b162, vI o177, vI o181, vR b184] [(.ref b184)])) rfl (by rw [hml]; rfl) (Steps.refl _) (argsL := []) (rest := []) (lenOf pd_47 rfl) rfl (by show 2 * 0 + _ ≤ _; exact Nat.le_of_eq rfl) (hb hby at_367) (fun _ _ => ⟨rfl, eq220, (by decide : 8 + 0 ≤ _), (by decide : 56 + 0 ≤ _)⟩)
          dsimp only [Pt.U, Pt.locs, Pt.cells, Pt.slots] at X222 l222 y222 z222 st222 hQ222
          subst l222 y222 z222
          obtain ⟨rfl, Nq222, eq222⟩ := hQ222
          have N222 := Fr.app N220 Nq222
          refine own_by (fun _ k => st222.trans k) ?_
          show own_Go p e below _ (T222.setTop (mkF m 370 #[vI p0, vI p1, vI p2, vI p3, vI p4, vR b129, vI (1 : Int32), vI v1, vI z150, vI v130, vI z160, vR b162, vI o177, vI o181, vR b184] [(.int o210)]))
          refine own_by (fun _ k => XS.iconst X222.here hx rfl (hb hby at_370) k) ?_
          show own_Go p e below _ (T222.setTop (mkF m 371 #[vI p0, vI p1, vI p2, vI p3, vI p4, vR b129, vI (1 : Int32), vI v1, vI z150, vI v130, vI z160, vR b162, vI o177, vI o181, vR b184] [(.int (2 : Int32)), (.int o210)]))
          by_cases c223 : o210 = (2 : Int32)
          ·skip
           refine own_by (fun _ k => XS.icmpNo X222.here hx rfl (hb hby at_371) rfl (teq c223).2 k) ?_
           show own_Go p e below _ (T222.setTop (mkF m 374 #[vI p0, vI p1, vI p2, vI p3, vI p4, vR b129, vI (1 : Int32), vI v1, vI z150, vI v130, vI z160, vR b162, vI o177, vI o181, vR b184] []))
           refine own_by (fun _ k => XS.iconst X222.here hx rfl (hb hby at_374) k) ?_
           show own_Go p e below _ (T222.setTop (mkF m 375 #[vI p0, vI p1, vI p2, vI p3, vI p4, vR b129, vI (1 : Int32), vI v1, vI z150, vI v130, vI z160, vR b162, vI o177, vI o181, vR b184] [(.int (1 : Int32))]))
           refine own_by (fun _ k => XS.goto X222.here hx rfl (pc0 := 375) (pc' := 379) rfl (hb hby at_375) (by decide) (by decide) k) ?_
           show own_Go p e below _ (T222.setTop (mkF m 379 #[vI p0, vI p1, vI p2, vI p3, vI p4, vR b129, vI (1 : Int32), vI v1, vI z150, vI v130, vI z160, vR b162, vI o177, vI o181, vR b184] [(.int (1 : Int32))]))
           exact own_retNW X222 hx hS hk208 hZ hEL hh CR208 (t := .boolean) Bd.returns (by simp) (hb hby at_379) hlk eq222 ⟨rfl, N222⟩ (by decide) (by decide)
          ·skip
           refine own_by (fun _ k => XS.icmpYes X222.here hx rfl (pc0 := 371) (pc' := 378) rfl (hb hby at_371) rfl (feq c223).2 (by decide) (by decide) k) ?_
           show own_Go p e below _ (T222.setTop (mkF m 378 #[vI p0, vI p1, vI p2, vI p3, vI p4, vR b129, vI (1 : Int32), vI v1, vI z150, vI v130, vI z160, vR b162, vI o177, vI o181, vR b184] []))
           refine own_by (fun _ k => XS.iconst X222.here hx rfl (hb hby at_378) k) ?_
           show own_Go p e below _ (T222.setTop (mkF m 379 #[vI p0, vI p1, vI p2, vI p3, vI p4, vR b129, vI (1 : Int32), vI v1, vI z150, vI v130, vI z160, vR b162, vI o177, vI o181, vR b184] [(.int (0 : Int32))]))
           exact own_retNW X222 hx hS hk208 hZ hEL hh CR208 (t := .boolean) Bd.returns (by simp) (hb hby at_379) hlk eq222 ⟨((ob_0_30 f_CS p0 p3 p4 v1 v130 z150 z160 o169 o177 o181 o191 o199 o200 o201 o209 o210 o211 hn_CS hv1 c2 c128 hv130 hj151 hj161 hp175 hp178 c179 hp182 c183 hp197 hp207 hp217 c218 c219 c221 c223)).elim, N222⟩ (by decide) (by decide)
         ·skip
          refine own_by (fun _ k => XS.icmpYes X220.here hx rfl (pc0 := 362) (pc' := 378) rfl (hb hby at_362) rfl (feq c221).2 (by decide) (by decide) k) ?_
          show own_Go p e below _ (T220.setTop (mkF m 378 #[vI p0, vI p1, vI p2, vI p3, vI p4, vR b129, vI (1 : Int32), vI v1, vI z150, vI v130, vI z160, vR b162, vI o177, vI o181, vR b184] []))
          refine own_by (fun _ k => XS.iconst X220.here hx rfl (hb hby at_378) k) ?_
          show own_Go p e below _ (T220.setTop (mkF m 379 #[vI p0, vI p1, vI p2, vI p3, vI p4, vR b129, vI (1 : Int32), vI v1, vI z150, vI v130, vI z160, vR b162, vI o177, vI o181, vR b184] [(.int (0 : Int32))]))
          exact own_retNW X220 hx hS hk208 hZ hEL hh CR208 (t := .boolean) Bd.returns (by simp) (hb hby at_379) hlk eq220 ⟨((ob_0_31 f_CS p0 p3 p4 v1 v130 z150 z160 o169 o177 o181 o191 o199 o200 o201 o209 o210 o211 hn_CS hv1 c2 c128 hv130 hj151 hj161 hp175 hp178 c179 hp182 c183 hp197 hp207 hp217 c218 c219 c221)).elim, N220⟩ (by decide) (by decide)
        ·skip
         refine own_by (fun _ k => XS.ifNo X208.here hx rfl (hb hby at_329) rfl ((if0 _ _).trans (feq c219).1) k) ?_
         show own_Go p e below _ (T208.setTop (mkF m 332 #[vI p0, vI p1, vI p2, vI p3, vI p4, vR b129, vI (1 : Int32), vI v1, vI z150, vI v130, vI z160, vR b162, vI o177, vI o181, vR b184] []))
         refine own_by (fun _ k => XS.aload X208.here hx rfl (hb hby at_332) rfl rfl k) ?_
         show own_Go p e below _ (T208.setTop (mkF m 334 #[vI p0, vI p1, vI p2, vI p3, vI p4, vR b129, vI (1 : Int32), vI v1, vI z150, vI v130, vI z160, vR b162, vI o177, vI o181, vR b184] [(.ref b184)]))
         obtain ⟨cq224, kq224, qq224a, qq224b, qq224c⟩ := isOf hZ rfl F214
         obtain ⟨_, _, ⟨T224, L224, k224, n224⟩, -, X224, ⟨Lc224, hQ224, l224, y224, z224⟩, st224⟩ := X208.virtualBack hx (y := (⟨"com/example/margay/margay/index/LineCounter", "line", "()I"⟩ : MethodName)) (z := (⟨"com/example/margay/margay/index/LineCounter", "line", "()I"⟩ : MethodName)) hown (mvT hZ (hwd 47 rfl)) (mvT hZ (hwd 48 rfl)) (notFace_of_selects (args := #[]) (mvT hZ (hwd 50 rfl))) (mvT hZ (hwd 50 rfl)) (mvT hZ (hwd 49 rfl)) (by decide) (backOf (W := 0) (rm7 l Z A0 hw [] b184 o211 T208.heap n0 Z208 F216) hZ (hwd 51 rfl) (hwd 2 rfl) (by decide) (by decide)) qq224a qq224c (g := (mkF m 334 #[vI p0, vI p1, vI p2, vI p3, vI p4, vR b129, vI (1 : Int32), vI v1, vI z150, vI v130, vI z160, vR b162, vI o177, vI o181, vR b184] [(.ref b184)])) rfl (by rw [hml]; rfl) (Steps.refl _) (argsL := []) (rest := []) (lenOf pd_47 rfl) rfl (by show 2 * 0 + _ ≤ _; exact Nat.le_of_eq rfl) (hb hby at_334) (fun _ _ => ⟨rfl, rfl, (by decide : 8 + 0 ≤ _), (by decide : 56 + 0 ≤ _)⟩)
         dsimp only [Pt.U, Pt.locs, Pt.cells, Pt.slots] at X224 l224 y224 z224 st224 hQ224
         subst l224 y224 z224
         obtain ⟨rfl, Nq224, eq224⟩ := hQ224
         have N224 := Fr.app N208 Nq224
         refine own_by (fun _ k => st224.trans k) ?_
         show own_Go p e below _ (T224.setTop (mkF m 337 #[vI p0, vI p1, vI p2, vI p3, vI p4, vR b129, vI (1 : Int32), vI v1, vI z150, vI v130, vI z160, vR b162, vI o177, vI o181, vR b184] [(.int o211)]))
         refine own_by (fun _ k => XS.iconst X224.here hx rfl (hb hby at_337) k) ?_
         show own_Go p e below _ (T224.setTop (mkF m 338 #[vI p0, vI p1, vI p2, vI p3, vI p4, vR b129, vI (1 : Int32), vI v1, vI z150, vI v130, vI z160, vR b162, vI o177, vI o181, vR b184] [(.int (3 : Int32)), (.int o211)]))
         by_cases c225 : o211 = (3 : Int32)
         ·skip
          refine own_by (fun _ k => XS.icmpNo X224.here hx rfl (hb hby at_338) rfl (teq c225).2 k) ?_
          show own_Go p e below _ (T224.setTop (mkF m 341 #[vI p0, vI p1, vI p2, vI p3, vI p4, vR b129, vI (1 : Int32), vI v1, vI z150, vI v130, vI z160, vR b162, vI o177, vI o181, vR b184] []))
          refine own_by (fun _ k => XS.aload X224.here hx rfl (hb hby at_341) rfl rfl k) ?_
          show own_Go p e below _ (T224.setTop (mkF m 343 #[vI p0, vI p1, vI p2, vI p3, vI p4, vR b129, vI (1 : Int32), vI v1, vI z150, vI v130, vI z160, vR b162, vI o177, vI o181, vR b184] [(.ref b184)]))
          obtain ⟨cq226, kq226, qq226a, qq226b, qq226c⟩ := isOf hZ eq224 F214
          obtain ⟨_, _, ⟨T226, L226, k226, n226⟩, -, X226, ⟨Lc226, hQ226, l226, y226, z226⟩, st226⟩ := X224.virtualBack hx (y := (⟨"com/example/margay/margay/index/LineCounter", "column", "()I"⟩ : MethodName)) (z := (⟨"com/example/margay/margay/index/LineCounter", "column", "()I"⟩ : MethodName)) hown (mvT hZ (hwd 52 rfl)) (mvT hZ (hwd 53 rfl)) (notFace_of_selects (args := #[]) (mvT hZ (hwd 55 rfl))) (mvT hZ (hwd 55 rfl)) (mvT hZ (hwd 54 rfl)) (by decide) (backOf (W := 0) (rm8 l Z A0 hw [] b184 o210 T208.heap n0 Z208 F215) hZ (hwd 56 rfl) (hwd 2 rfl) (by decide) (by decide)) qq226a qq226c (g := (mkF m 343 #[vI p0, vI p1, vI p2, vI p3, vI p4, vR b129, vI (1 : Int32), vI v1, vI z150, vI v130, vI z160, vR b162, vI o177, vI o181, vR b184] [(.ref b184)])) rfl (by rw [hml]; rfl) (Steps.refl _) (argsL := []) (rest := []) (lenOf pd_47 rfl) rfl (by show 2 * 0 + _ ≤ _; exact Nat.le_of_eq rfl) (hb hby at_343) (fun _ _ => ⟨rfl, eq224, (by decide : 8 + 0 ≤ _), (by decide : 56 + 0 ≤ _)⟩)
          dsimp only [Pt.U, Pt.locs, Pt.cells, Pt.slots] at X226 l226 y226 z226 st226 hQ226
          subst l226 y226 z226
          obtain ⟨rfl, Nq226, eq226⟩ := hQ226
          have N226 := Fr.app N224 Nq226
          refine own_by (fun _ k => st226.trans k) ?_
          show own_Go p e below _ (T226.setTop (mkF m 346 #[vI p0, vI p1, vI p2, vI p3, vI p4, vR b129, vI (1 : Int32), vI v1, vI z150, vI v130, vI z160, vR b162, vI o177, vI o181, vR b184] [(.int o210)]))
          refine own_by (fun _ k => XS.iconst X226.here hx rfl (hb hby at_346) k) ?_
          show own_Go p e below _ (T226.setTop (mkF m 347 #[vI p0, vI p1, vI p2, vI p3, vI p4, vR b129, vI (1 : Int32), vI v1, vI z150, vI v130, vI z160, vR b162, vI o177, vI o181, vR b184] [(.int (1 : Int32)), (.int o210)]))
          by_cases c227 : o210 = (1 : Int32)
          ·skip
           refine own_by (fun _ k => XS.icmpNo X226.here hx rfl (hb hby at_347) rfl (teq c227).2 k) ?_
           show own_Go p e below _ (T226.setTop (mkF m 350 #[vI p0, vI p1, vI p2, vI p3, vI p4, vR b129, vI (1 : Int32), vI v1, vI z150, vI v130, vI z160, vR b162, vI o177, vI o181, vR b184] []))
           refine own_by (fun _ k => XS.iconst X226.here hx rfl (hb hby at_350) k) ?_
           show own_Go p e below _ (T226.setTop (mkF m 351 #[vI p0, vI p1, vI p2, vI p3, vI p4, vR b129, vI (1 : Int32), vI v1, vI z150, vI v130, vI z160, vR b162, vI o177, vI o181, vR b184] [(.int (1 : Int32))]))
           refine own_by (fun _ k => XS.goto X226.here hx rfl (pc0 := 351) (pc' := 355) rfl (hb hby at_351) (by decide) (by decide) k) ?_
           show own_Go p e below _ (T226.setTop (mkF m 355 #[vI p0, vI p1, vI p2, vI p3, vI p4, vR b129, vI (1 : Int32), vI v1, vI z150, vI v130, vI z160, vR b162, vI o177, vI o181, vR b184] [(.int (1 : Int32))]))
           exact own_retNW X226 hx hS hk208 hZ hEL hh CR208 (t := .boolean) Bd.returns (by simp) (hb hby at_355) hlk eq226 ⟨rfl, N226⟩ (by decide) (by decide)
          ·skip
           refine own_by (fun _ k => XS.icmpYes X226.here hx rfl (pc0 := 347) (pc' := 354) rfl (hb hby at_347) rfl (feq c227).2 (by decide) (by decide) k) ?_
           show own_Go p e below _ (T226.setTop (mkF m 354 #[vI p0, vI p1, vI p2, vI p3, vI p4, vR b129, vI (1 : Int32), vI v1, vI z150, vI v130, vI z160, vR b162, vI o177, vI o181, vR b184] []))
           refine own_by (fun _ k => XS.iconst X226.here hx rfl (hb hby at_354) k) ?_
           show own_Go p e below _ (T226.setTop (mkF m 355 #[vI p0, vI p1, vI p2, vI p3, vI p4, vR b129, vI (1 : Int32), vI v1, vI z150, vI v130, vI z160, vR b162, vI o177, vI o181, vR b184] [(.int (0 : Int32))]))
           exact own_retNW X226 hx hS hk208 hZ hEL hh CR208 (t := .boolean) Bd.returns (by simp) (hb hby at_355) hlk eq226 ⟨((ob_0_32 f_CS p0 p3 p4 v1 v130 z150 z160 o169 o177 o181 o191 o199 o200 o201 o209 o210 o211 hn_CS hv1 c2 c128 hv130 hj151 hj161 hp175 hp178 c179 hp182 c183 hp197 hp207 hp217 c218 c219 c225 c227)).elim, N226⟩ (by decide) (by decide)
         ·skip
          refine own_by (fun _ k => XS.icmpYes X224.here hx rfl (pc0 := 338) (pc' := 354) rfl (hb hby at_338) rfl (feq c225).2 (by decide) (by decide) k) ?_
          show own_Go p e below _ (T224.setTop (mkF m 354 #[vI p0, vI p1, vI p2, vI p3, vI p4, vR b129, vI (1 : Int32), vI v1, vI z150, vI v130, vI z160, vR b162, vI o177, vI o181, vR b184] []))
          refine own_by (fun _ k => XS.iconst X224.here hx rfl (hb hby at_354) k) ?_
          show own_Go p e below _ (T224.setTop (mkF m 355 #[vI p0, vI p1, vI p2, vI p3, vI p4, vR b129, vI (1 : Int32), vI v1, vI z150, vI v130, vI z160, vR b162, vI o177, vI o181, vR b184] [(.int (0 : Int32))]))
          exact own_retNW X224 hx hS hk208 hZ hEL hh CR208 (t := .boolean) Bd.returns (by simp) (hb hby at_355) hlk eq224 ⟨((ob_0_33 f_CS p0 p3 p4 v1 v130 z150 z160 o169 o177 o181 o191 o199 o200 o201 o209 o210 o211 hn_CS hv1 c2 c128 hv130 hj151 hj161 hp175 hp178 c179 hp182 c183 hp197 hp207 hp217 c218 c219 c225)).elim, N224⟩ (by decide) (by decide)
       ·skip
        refine own_by (fun _ k => XS.ifNo X208.here hx rfl (hb hby at_300) rfl ((if0 _ _).trans (feq c218).1) k) ?_
        show own_Go p e below _ (T208.setTop (mkF m 303 #[vI p0, vI p1, vI p2, vI p3, vI p4, vR b129, vI (1 : Int32), vI v1, vI z150, vI v130, vI z160, vR b162, vI o177, vI o181, vR b184] []))
        refine own_by (fun _ k => XS.aload X208.here hx rfl (hb hby at_303) rfl rfl k) ?_
        show own_Go p e below _ (T208.setTop (mkF m 305 #[vI p0, vI p1, vI p2, vI p3, vI p4, vR b129, vI (1 : Int32), vI v1, vI z150, vI v130, vI z160, vR b162, vI o177, vI o181, vR b184] [(.ref b184)]))
        obtain ⟨cq228, kq228, qq228a, qq228b, qq228c⟩ := isOf hZ rfl F214
        obtain ⟨_, _, ⟨T228, L228, k228, n228⟩, -, X228, ⟨Lc228, hQ228, l228, y228, z228⟩, st228⟩ := X208.virtualBack hx (y := (⟨"com/example/margay/margay/index/LineCounter", "line", "()I"⟩ : MethodName)) (z := (⟨"com/example/margay/margay/index/LineCounter", "line", "()I"⟩ : MethodName)) hown (mvT hZ (hwd 47 rfl)) (mvT hZ (hwd 48 rfl)) (notFace_of_selects (args := #[]) (mvT hZ (hwd 50 rfl))) (mvT hZ (hwd 50 rfl)) (mvT hZ (hwd 49 rfl)) (by decide) (backOf (W := 0) (rm7 l Z A0 hw [] b184 o211 T208.heap n0 Z208 F216) hZ (hwd 51 rfl) (hwd 2 rfl) (by decide) (by decide)) qq228a qq228c (g := (mkF m 305 #[vI p0, vI p1, vI p2, vI p3, vI p4, vR b129, vI (1 : Int32), vI v1, vI z150, vI v130, vI z160, vR b162, vI o177, vI o181, vR b184] [(.ref b184)])) rfl (by rw [hml]; rfl) (Steps.refl _) (argsL := []) (rest := []) (lenOf pd_47 rfl) rfl (by show 2 * 0 + _ ≤ _; exact Nat.le_of_eq rfl) (hb hby at_305) (fun _ _ => ⟨rfl, rfl, (by decide : 8 + 0 ≤ _), (by decide : 56 + 0 ≤ _)⟩)
        dsimp only [Pt.U, Pt.locs, Pt.cells, Pt.slots] at X228 l228 y228 z228 st228 hQ228
        subst l228 y228 z228
        obtain ⟨rfl, Nq228, eq228⟩ := hQ228
        have N228 := Fr.app N208 Nq228
        refine own_by (fun _ k => st228.trans k) ?_
        show own_Go p e below _ (T228.setTop (mkF m 308 #[vI p0, vI p1, vI p2, vI p3, vI p4, vR b129, vI (1 : Int32), vI v1, vI z150, vI v130, vI z160, vR b162, vI o177, vI o181, vR b184] [(.int o211)]))
        refine own_by (fun _ k => XS.iconst X228.here hx rfl (hb hby at_308) k) ?_
        show own_Go p e below _ (T228.setTop (mkF m 309 #[vI p0, vI p1, vI p2, vI p3, vI p4, vR b129, vI (1 : Int32), vI v1, vI z150, vI v130, vI z160, vR b162, vI o177, vI o181, vR b184] [(.int (2 : Int32)), (.int o211)]))
        by_cases c229 : o211 = (2 : Int32)
        ·skip
         refine own_by (fun _ k => XS.icmpNo X228.here hx rfl (hb hby at_309) rfl (teq c229).2 k) ?_
         show own_Go p e below _ (T228.setTop (mkF m 312 #[vI p0, vI p1, vI p2, vI p3, vI p4, vR b129, vI (1 : Int32), vI v1, vI z150, vI v130, vI z160, vR b162, vI o177, vI o181, vR b184] []))
         refine own_by (fun _ k => XS.aload X228.here hx rfl (hb hby at_312) rfl rfl k) ?_
         show own_Go p e below _ (T228.setTop (mkF m 314 #[vI p0, vI p1, vI p2, vI p3, vI p4, vR b129, vI (1 : Int32), vI v1, vI z150, vI v130, vI z160, vR b162, vI o177, vI o181, vR b184] [(.ref b184)]))
         obtain ⟨cq230, kq230, qq230a, qq230b, qq230c⟩ := isOf hZ eq228 F214
         obtain ⟨_, _, ⟨T230, L230, k230, n230⟩, -, X230, ⟨Lc230, hQ230, l230, y230, z230⟩, st230⟩ := X228.virtualBack hx (y := (⟨"com/example/margay/margay/index/LineCounter", "column", "()I"⟩ : MethodName)) (z := (⟨"com/example/margay/margay/index/LineCounter", "column", "()I"⟩ : MethodName)) hown (mvT hZ (hwd 52 rfl)) (mvT hZ (hwd 53 rfl)) (notFace_of_selects (args := #[]) (mvT hZ (hwd 55 rfl))) (mvT hZ (hwd 55 rfl)) (mvT hZ (hwd 54 rfl)) (by decide) (backOf (W := 0) (rm8 l Z A0 hw [] b184 o210 T208.heap n0 Z208 F215) hZ (hwd 56 rfl) (hwd 2 rfl) (by decide) (by decide)) qq230a qq230c (g := (mkF m 314 #[vI p0, vI p1, vI p2, vI p3, vI p4, vR b129, vI (1 : Int32), vI v1, vI z150, vI v130, vI z160, vR b162, vI o177, vI o181, vR b184] [(.ref b184)])) rfl (by rw [hml]; rfl) (Steps.refl _) (argsL := []) (rest := []) (lenOf pd_47 rfl) rfl (by show 2 * 0 + _ ≤ _; exact Nat.le_of_eq rfl) (hb hby at_314) (fun _ _ => ⟨rfl, eq228, (by decide : 8 + 0 ≤ _), (by decide : 56 + 0 ≤ _)⟩)
         dsimp only [Pt.U, Pt.locs, Pt.cells, Pt.slots] at X230 l230 y230 z230 st230 hQ230
         subst l230 y230 z230
         obtain ⟨rfl, Nq230, eq230⟩ := hQ230
         have N230 := Fr.app N228 Nq230
         refine own_by (fun _ k => st230.trans k) ?_
         show own_Go p e below _ (T230.setTop (mkF m 317 #[vI p0, vI p1, vI p2, vI p3, vI p4, vR b129, vI (1 : Int32), vI v1, vI z150, vI v130, vI z160, vR b162, vI o177, vI o181, vR b184] [(.int o210)]))
         refine own_by (fun _ k => XS.iconst X230.here hx rfl (hb hby at_317) k) ?_
         show own_Go p e below _ (T230.setTop (mkF m 318 #[vI p0, vI p1, vI p2, vI p3, vI p4, vR b129, vI (1 : Int32), vI v1, vI z150, vI v130, vI z160, vR b162, vI o177, vI o181, vR b184] [(.int (1 : Int32)), (.int o210)]))
         by_cases c231 : o210 = (1 : Int32)
         ·skip
          refine own_by (fun _ k => XS.icmpNo X230.here hx rfl (hb hby at_318) rfl (teq c231).2 k) ?_
          show own_Go p e below _ (T230.setTop (mkF m 321 #[vI p0, vI p1, vI p2, vI p3, vI p4, vR b129, vI (1 : Int32), vI v1, vI z150, vI v130, vI z160, vR b162, vI o177, vI o181, vR b184] []))
          refine own_by (fun _ k => XS.iconst X230.here hx rfl (hb hby at_321) k) ?_
          show own_Go p e below _ (T230.setTop (mkF m 322 #[vI p0, vI p1, vI p2, vI p3, vI p4, vR b129, vI (1 : Int32), vI v1, vI z150, vI v130, vI z160, vR b162, vI o177, vI o181, vR b184] [(.int (1 : Int32))]))
          refine own_by (fun _ k => XS.goto X230.here hx rfl (pc0 := 322) (pc' := 326) rfl (hb hby at_322) (by decide) (by decide) k) ?_
          show own_Go p e below _ (T230.setTop (mkF m 326 #[vI p0, vI p1, vI p2, vI p3, vI p4, vR b129, vI (1 : Int32), vI v1, vI z150, vI v130, vI z160, vR b162, vI o177, vI o181, vR b184] [(.int (1 : Int32))]))
          exact own_retNW X230 hx hS hk208 hZ hEL hh CR208 (t := .boolean) Bd.returns (by simp) (hb hby at_326) hlk eq230 ⟨rfl, N230⟩ (by decide) (by decide)
         ·skip
          refine own_by (fun _ k => XS.icmpYes X230.here hx rfl (pc0 := 318) (pc' := 325) rfl (hb hby at_318) rfl (feq c231).2 (by decide) (by decide) k) ?_
          show own_Go p e below _ (T230.setTop (mkF m 325 #[vI p0, vI p1, vI p2, vI p3, vI p4, vR b129, vI (1 : Int32), vI v1, vI z150, vI v130, vI z160, vR b162, vI o177, vI o181, vR b184] []))
          refine own_by (fun _ k => XS.iconst X230.here hx rfl (hb hby at_325) k) ?_
          show own_Go p e below _ (T230.setTop (mkF m 326 #[vI p0, vI p1, vI p2, vI p3, vI p4, vR b129, vI (1 : Int32), vI v1, vI z150, vI v130, vI z160, vR b162, vI o177, vI o181, vR b184] [(.int (0 : Int32))]))
          exact own_retNW X230 hx hS hk208 hZ hEL hh CR208 (t := .boolean) Bd.returns (by simp) (hb hby at_326) hlk eq230 ⟨((ob_0_34 f_CS p0 p3 p4 v1 v130 z150 z160 o169 o177 o181 o191 o199 o200 o201 o209 o210 o211 hn_CS hv1 c2 c128 hv130 hj151 hj161 hp175 hp178 c179 hp182 c183 hp197 hp207 hp217 c218 c229 c231)).elim, N230⟩ (by decide) (by decide)
        ·skip
         refine own_by (fun _ k => XS.icmpYes X228.here hx rfl (pc0 := 309) (pc' := 325) rfl (hb hby at_309) rfl (feq c229).2 (by decide) (by decide) k) ?_
         show own_Go p e below _ (T228.setTop (mkF m 325 #[vI p0, vI p1, vI p2, vI p3, vI p4, vR b129, vI (1 : Int32), vI v1, vI z150, vI v130, vI z160, vR b162, vI o177, vI o181, vR b184] []))
         refine own_by (fun _ k => XS.iconst X228.here hx rfl (hb hby at_325) k) ?_
         show own_Go p e below _ (T228.setTop (mkF m 326 #[vI p0, vI p1, vI p2, vI p3, vI p4, vR b129, vI (1 : Int32), vI v1, vI z150, vI v130, vI z160, vR b162, vI o177, vI o181, vR b184] [(.int (0 : Int32))]))
         exact own_retNW X228 hx hS hk208 hZ hEL hh CR208 (t := .boolean) Bd.returns (by simp) (hb hby at_326) hlk eq228 ⟨((ob_0_35 f_CS p0 p3 p4 v1 v130 z150 z160 o169 o177 o181 o191 o199 o200 o201 o209 o210 o211 hn_CS hv1 c2 c128 hv130 hj151 hj161 hp175 hp178 c179 hp182 c183 hp197 hp207 hp217 c218 c229)).elim, N228⟩ (by decide) (by decide)
      ·skip
       refine own_by (fun _ k => XS.ifNo X180.here hx rfl (hb hby at_263) rfl ((if0 _ _).trans (feq c183).1) k) ?_
       show own_Go p e below _ (T180.setTop (mkF m 266 #[vI p0, vI p1, vI p2, vI p3, vI p4, vR b129, vI (1 : Int32), vI v1, vI z150, vI v130, vI z160, vR b162, vI o177, vI o181, .unset] []))
       refine own_by (fun _ k => XS.iload X180.here hx rfl (hb hby at_266) rfl k) ?_
       show own_Go p e below _ (T180.setTop (mkF m 268 #[vI p0, vI p1, vI p2, vI p3, vI p4, vR b129, vI (1 : Int32), vI v1, vI z150, vI v130, vI z160, vR b162, vI o177, vI o181, .unset] [(.int o181)]))
       by_cases c232 : o181 = (0 : Int32)
       ·skip
        refine own_by (fun _ k => XS.ifNo X180.here hx rfl (hb hby at_268) rfl ((if0 _ _).trans (teq c232).2) k) ?_
        show own_Go p e below _ (T180.setTop (mkF m 271 #[vI p0, vI p1, vI p2, vI p3, vI p4, vR b129, vI (1 : Int32), vI v1, vI z150, vI v130, vI z160, vR b162, vI o177, vI o181, .unset] []))
        refine own_by (fun _ k => XS.iconst X180.here hx rfl (hb hby at_271) k) ?_
        show own_Go p e below _ (T180.setTop (mkF m 272 #[vI p0, vI p1, vI p2, vI p3, vI p4, vR b129, vI (1 : Int32), vI v1, vI z150, vI v130, vI z160, vR b162, vI o177, vI o181, .unset] [(.int (0 : Int32))]))
        exact own_retNW X180 hx hS hk168 hZ hEL hh CR168 (t := .boolean) Bd.returns (by simp) (hb hby at_272) hlk eq180 ⟨((ob_0_36 f_CS p0 p3 p4 v1 v130 z150 z160 o169 o177 o181 hn_CS hv1 c2 c128 hv130 hj151 hj161 hp175 hp178 c179 hp182 c183 c232)).elim, N180⟩ (by decide) (by decide)
       ·skip
        refine own_by (fun _ k => XS.ifYes X180.here hx rfl (pc0 := 268) (pc' := 273) rfl (hb hby at_268) rfl ((if0 _ _).trans (feq c232).2) (by decide) (by decide) k) ?_
        show own_Go p e below _ (T180.setTop (mkF m 273 #[vI p0, vI p1, vI p2, vI p3, vI p4, vR b129, vI (1 : Int32), vI v1, vI z150, vI v130, vI z160, vR b162, vI o177, vI o181, .unset] []))
        obtain ⟨T233, h233, X233, e233, E233, A233, D233, -, st233⟩ := newO X180 hx hZ hown (hwd 0 rfl) (hwd 1 rfl) (hwd 2 rfl) eq180 (g := (mkF m 273 #[vI p0, vI p1, vI p2, vI p3, vI p4, vR b129, vI (1 : Int32), vI v1, vI z150, vI v130, vI z160, vR b162, vI o177, vI o181, .unset] [])) rfl (hb hby at_273) (by decide) (by decide)
        obtain ⟨b233, g233⟩ : ∃ z, z = T168.heap.size := ⟨_, rfl⟩
        have ge_b233 : n0 ≤ b233 := Nat.le_trans Z168 (Nat.le_of_eq g233.symm)
        have sz_b233 : h0.size ≤ b233 := Nat.le_trans K168.1 (Nat.le_of_eq g233.symm)
        have R233 : CHr Z consts_1 T168.vm T168.heap T168.vm h233 := CHr.ext E233 CR168.1
        have CR233 : CHr Z consts_1 s.vm h0 T168.vm h233 := CR168.trans R233
        have hk233 : kc168 ≤ h233.size := Nat.le_trans hk168 E233.1
        have S_b233 : Safe Z consts_1 T168.vm h233 b233 := Safe.ext E233 CR168.1 (Safe.new (Nat.le_of_eq g233.symm))
        have K233 : Keep h0 h233 [] := K168.ext E233
        have Z233 : n0 ≤ h233.size := Nat.le_trans Z168 E233.1
        rw [← g233] at A233 D233 st233
        have lt_b233 := A233.lt
        have F_line_b233 : Fld Z h233 b233 "com/example/margay/margay/index/LineCounter" "line" "I" (.int (0 : Int32)) := D233 (Or.inl (hwd 10 rfl)) (ty := .int) (by decide)
        have F_column_b233 : Fld Z h233 b233 "com/example/margay/margay/index/LineCounter" "column" "I" (.int (0 : Int32)) := D233 (Or.inl (hwd 12 rfl)) (ty := .int) (by decide)
        have F_xml11_b233 : Fld Z h233 b233 "com/example/margay/margay/index/LineCounter" "xml11" "Z" (.int (0 : Int32)) := D233 (Or.inr (hwd 27 rfl)) (ty := .boolean) (by decide)
        have F_afterCarriageReturn_b233 : Fld Z h233 b233 "com/example/margay/margay/index/LineCounter" "afterCarriageReturn" "Z" (.int (0 : Int32)) := D233 (Or.inl (hwd 44 rfl)) (ty := .boolean) (by decide)
        refine own_by st233 ?_
        show own_Go p e below _ (T233.setTop (mkF m 276 #[vI p0, vI p1, vI p2, vI p3, vI p4, vR b129, vI (1 : Int32), vI v1, vI z150, vI v130, vI z160, vR b162, vI o177, vI o181, .unset] [(.ref b233)]))
        refine own_by (fun _ k => XS.dup X233.here hx rfl (hb hby at_276) rfl rfl k) ?_
        show own_Go p e below _ (T233.setTop (mkF m 277 #[vI p0, vI p1, vI p2, vI p3, vI p4, vR b129, vI (1 : Int32), vI v1, vI z150, vI v130, vI z160, vR b162, vI o177, vI o181, .unset] [(.ref b233), (.ref b233)]))
        refine own_by (fun _ k => XS.aload X233.here hx rfl (hb hby at_277) rfl rfl k) ?_
        show own_Go p e below _ (T233.setTop (mkF m 279 #[vI p0, vI p1, vI p2, vI p3, vI p4, vR b129, vI (1 : Int32), vI v1, vI z150, vI v130, vI z160, vR b162, vI o177, vI o181, .unset] [(.ref b129), (.ref b233), (.ref b233)]))
        have F234 : Exa Z h233 b129 "java/lang/String" := ((F163.keep Kq168).ext E233)
        have F235 : Fld Z h233 b129 "java/lang/String" "coder" "B" (.int (0 : Int32)) := ((F164.keep Kq168 (ninS (Nat.ne_of_lt (Nat.lt_of_lt_of_le (A129).lt (Nat.le_of_eq g162.symm))) nin0)).ext E233)
        have F236 : Fld Z h233 b129 "java/lang/String" "value" "[B" (.ref t129) := ((F165.keep Kq168 (ninS (Nat.ne_of_lt (Nat.lt_of_lt_of_le (A129).lt (Nat.le_of_eq g162.symm))) nin0)).ext E233)
        have F237 : own_Arf Z h233 t129 kk129 .byte (3 : Int32) (fun i => .int ((own_li [49, 46, 49]) i)) := ((F166.keep Kq168 (ninS (Nat.ne_of_lt (Nat.lt_of_lt_of_le (V129').lt (Nat.le_of_eq g162.symm))) nin0)).ext E233)
        have F238 : Sta Z h233 "java/lang/String" "COMPACT_STRINGS" "Z" (.int f_CS) := ((own_staKeep F167 Kq168 (allS (own_exaPlain A162) all0)).ext E233)
        obtain ⟨_, _, ⟨T239, L239, k239, n239⟩, -, X239', hSq239, hgr239, ⟨Lc239, hQ239, l239, y239, z239, R239⟩, st239⟩ := X233.specialBackS hx (y := (⟨"com/example/margay/margay/index/LineCounter", "<init>", "(Ljava/lang/String;)V"⟩ : MethodName)) rfl hown (mvT hZ (hwd 3 rfl)) (mvT hZ (hwd 4 rfl)) (mvT hZ (hwd 5 rfl)) (by decide) (backOfSH (W := 1) (rmlcR l Z A0 hw [] t129 kk129 (own_li [49, 46, 49]) f_CS b233 b129 (0 : Int32) (0 : Int32) (0 : Int32) (0 : Int32) h233 n0 Z233 F234 F235 F236 F237 F238 hn_CS A233 F_line_b233 ge_b233 F_column_b233 F_xml11_b233 F_afterCarriageReturn_b233) hZ (hwd 5 rfl) (hwd 2 rfl) (by decide) (by decide) hEL CR233.1) (g := (mkF m 279 #[vI p0, vI p1, vI p2, vI p3, vI p4, vR b129, vI (1 : Int32), vI v1, vI z150, vI v130, vI z160, vR b162, vI o177, vI o181, .unset] [(.ref b129), (.ref b233), (.ref b233)])) rfl (by rw [hml]; rfl) (Steps.refl _) (a := b233) (argsL := [(.ref b129)]) (rest := [(.ref b233)]) (lenOf pd_3 rfl) rfl (by show 2 * 0 + _ ≤ _; exact Nat.le_of_eq rfl) (hb hby at_279) (fun _ _ => ⟨rfl, e233, (by decide : 6 + 2 ≤ _), (by decide : 40 + 16 ≤ _)⟩)
        dsimp only [Pt.U, Pt.locs, Pt.cells, Pt.slots] at X239' l239 y239 z239 st239 hQ239 hSq239 hgr239 R239
        subst l239 y239 z239
        obtain ⟨X239, hS, hZ, hown⟩ := rebS hS (by rw [e233]; exact hk233) X239' hSq239 hgr239 hZ hown
        obtain ⟨kc239, hkc239⟩ : ∃ z, z = T239.heap.size := ⟨_, rfl⟩
        rw [← hkc239] at hS
        have hk239 : kc239 ≤ T239.heap.size := Nat.le_of_eq hkc239
        have CR239 : CHr Z consts_1 s.vm h0 T239.vm T239.heap := CR233.trans R239
        obtain ⟨o240, rfl, Nq239, Kq239, F241, F242, F243, F244, F245, hp246⟩ := hQ239
        have N239 := Fr.app N180 Nq239
        have K239 : Keep h0 T239.heap [] := K233.trans Kq239 ((allS (Or.inr sz_b233) all0))
        have Z239 : n0 ≤ T239.heap.size := Nat.le_trans Z233 Kq239.1
        refine own_by (fun _ k => st239.trans k) ?_
        show own_Go p e below _ (T239.setTop (mkF m 282 #[vI p0, vI p1, vI p2, vI p3, vI p4, vR b129, vI (1 : Int32), vI v1, vI z150, vI v130, vI z160, vR b162, vI o177, vI o181, .unset] [(.ref b233)]))
        refine own_by (fun _ k => XS.astore X239.here hx rfl (hb hby at_282) rfl rfl (l' := #[vI p0, vI p1, vI p2, vI p3, vI p4, vR b129, vI (1 : Int32), vI v1, vI z150, vI v130, vI z160, vR b162, vI o177, vI o181, vR b233]) rfl k) ?_
        show own_Go p e below _ (T239.setTop (mkF m 284 #[vI p0, vI p1, vI p2, vI p3, vI p4, vR b129, vI (1 : Int32), vI v1, vI z150, vI v130, vI z160, vR b162, vI o177, vI o181, vR b233] []))
        refine own_by (fun _ k => XS.aload X239.here hx rfl (hb hby at_284) rfl rfl k) ?_
        show own_Go p e below _ (T239.setTop (mkF m 286 #[vI p0, vI p1, vI p2, vI p3, vI p4, vR b129, vI (1 : Int32), vI v1, vI z150, vI v130, vI z160, vR b162, vI o177, vI o181, vR b233] [(.ref b233)]))
        refine own_by (fun _ k => XS.bipush X239.here hx rfl (hb hby at_286) k) ?_
        show own_Go p e below _ (T239.setTop (mkF m 288 #[vI p0, vI p1, vI p2, vI p3, vI p4, vR b129, vI (1 : Int32), vI v1, vI z150, vI v130, vI z160, vR b162, vI o177, vI o181, vR b233] [(.int (13 : Int32)), (.ref b233)]))
        obtain ⟨cq247, kq247, qq247a, qq247b, qq247c⟩ := isOf hZ rfl F241
        obtain ⟨_, _, ⟨T247, L247, k247, n247⟩, -, X247, ⟨Lc247, hQ247, l247, y247, z247⟩, st247⟩ := X239.virtualBack hx (y := (⟨"com/example/margay/margay/index/LineCounter", "count", "(C)V"⟩ : MethodName)) (z := (⟨"com/example/margay/margay/index/LineCounter", "count", "(C)V"⟩ : MethodName)) hown (mvT hZ (hwd 38 rfl)) (mvT hZ (hwd 39 rfl)) (notFace_of_selects (args := #[]) (mvT hZ (hwd 41 rfl))) (mvT hZ (hwd 41 rfl)) (mvT hZ (hwd 40 rfl)) (by decide) (backOf (W := 0) (rm6 l Z A0 hw [] b233 (13 : Int32) (0 : Int32) o240 (1 : Int32) (1 : Int32) T239.heap n0 Z239 F245 F244 F241 F243 ge_b233 F242) hZ (hwd 42 rfl) (hwd 2 rfl) (by decide) (by decide)) qq247a qq247c (g := (mkF m 288 #[vI p0, vI p1, vI p2, vI p3, vI p4, vR b129, vI (1 : Int32), vI v1, vI z150, vI v130, vI z160, vR b162, vI o177, vI o181, vR b233] [(.int (13 : Int32)), (.ref b233)])) rfl (by rw [hml]; rfl) (Steps.refl _) (argsL := [(.int (13 : Int32))]) (rest := []) (lenOf pd_38 rfl) rfl (by show 2 * 0 + _ ≤ _; exact Nat.le_of_eq rfl) (hb hby at_288) (fun _ _ => ⟨rfl, rfl, (by decide : 8 + 0 ≤ _), (by decide : 56 + 0 ≤ _)⟩)
        dsimp only [Pt.U, Pt.locs, Pt.cells, Pt.slots] at X247 l247 y247 z247 st247 hQ247
        subst l247 y247 z247
        obtain ⟨o248, o249, o250, rfl, Nq247, Kq247, F251, F252, F253, F254, F255, hp256⟩ := hQ247
        have N247 := Fr.app N239 Nq247
        have R247 : CHr Z consts_1 T239.vm T239.heap T239.vm T247.heap := CHr.keep Kq247 ((allS (Safe.exa hZ.alike F241 (by decide) (by decide)) all0)) CR239.1
        have CR247 : CHr Z consts_1 s.vm h0 T239.vm T247.heap := CR239.trans R247
        have hk247 : kc239 ≤ T247.heap.size := Nat.le_trans hk239 Kq247.1
        have K247 : Keep h0 T247.heap [] := K239.trans Kq247 ((allS (Or.inr sz_b233) all0))
        have Z247 : n0 ≤ T247.heap.size := Nat.le_trans Z239 Kq247.1
        refine own_by (fun _ k => st247.trans k) ?_
        show own_Go p e below _ (T247.setTop (mkF m 291 #[vI p0, vI p1, vI p2, vI p3, vI p4, vR b129, vI (1 : Int32), vI v1, vI z150, vI v130, vI z160, vR b162, vI o177, vI o181, vR b233] []))
        refine own_by (fun _ k => XS.aload X247.here hx rfl (hb hby at_291) rfl rfl k) ?_
        show own_Go p e below _ (T247.setTop (mkF m 293 #[vI p0, vI p1, vI p2, vI p3, vI p4, vR b129, vI (1 : Int32), vI v1, vI z150, vI v130, vI z160, vR b162, vI o177, vI o181, vR b233] [(.ref b233)]))
        refine own_by (fun _ k => XS.iload X247.here hx rfl (hb hby at_293) rfl k) ?_
        show own_Go p e below _ (T247.setTop (mkF m 295 #[vI p0, vI p1, vI p2, vI p3, vI p4, vR b129, vI (1 : Int32), vI v1, vI z150, vI v130, vI z160, vR b162, vI o177, vI o181, vR b233] [(.int z150), (.ref b233)]))
        obtain ⟨cq257, kq257, qq257a, qq257b, qq257c⟩ := isOf hZ rfl F253
        obtain ⟨_, _, ⟨T257, L257, k257, n257⟩, -, X257, ⟨Lc257, hQ257, l257, y257, z257⟩, st257⟩ := X247.virtualBack hx (y := (⟨"com/example/margay/margay/index/LineCounter", "count", "(C)V"⟩ : MethodName)) (z := (⟨"com/example/margay/margay/index/LineCounter", "count", "(C)V"⟩ : MethodName)) hown (mvT hZ (hwd 38 rfl)) (mvT hZ (hwd 39 rfl)) (notFace_of_selects (args := #[]) (mvT hZ (hwd 41 rfl))) (mvT hZ (hwd 41 rfl)) (mvT hZ (hwd 40 rfl)) (by decide) (backOf (W := 0) (rm6 l Z A0 hw [] b233 z150 o248 o240 o249 o250 T247.heap n0 Z247 F251 F252 F253 F254 ge_b233 F255) hZ (hwd 42 rfl) (hwd 2 rfl) (by decide) (by decide)) qq257a qq257c (g := (mkF m 295 #[vI p0, vI p1, vI p2, vI p3, vI p4, vR b129, vI (1 : Int32), vI v1, vI z150, vI v130, vI z160, vR b162, vI o177, vI o181, vR b233] [(.int z150), (.ref b233)])) rfl (by rw [hml]; rfl) (Steps.refl _) (argsL := [(.int z150)]) (rest := []) (lenOf pd_38 rfl) rfl (by show 2 * 0 + _ ≤ _; exact Nat.le_of_eq rfl) (hb hby at_295) (fun _ _ => ⟨rfl, rfl, (by decide : 8 + 0 ≤ _), (by decide : 56 + 0 ≤ _)⟩)
        dsimp only [Pt.U, Pt.locs, Pt.cells, Pt.slots] at X257 l257 y257 z257 st257 hQ257
        subst l257 y257 z257
        obtain ⟨o258, o259, o260, rfl, Nq257, Kq257, F261, F262, F263, F264, F265, hp266⟩ := hQ257
        have N257 := Fr.app N247 Nq257
        have R257 : CHr Z consts_1 T239.vm T247.heap T239.vm T257.heap := CHr.keep Kq257 ((allS (Safe.exa hZ.alike F253 (by decide) (by decide)) all0)) CR247.1
        have CR257 : CHr Z consts_1 s.vm h0 T239.vm T257.heap := CR247.trans R257
        have hk257 : kc239 ≤ T257.heap.size := Nat.le_trans hk247 Kq257.1
        have K257 : Keep h0 T257.heap [] := K247.trans Kq257 ((allS (Or.inr sz_b233) all0))
        have Z257 : n0 ≤ T257.heap.size := Nat.le_trans Z247 Kq257.1
        refine own_by (fun _ k => st257.trans k) ?_
        show own_Go p e below _ (T257.setTop (mkF m 298 #[vI p0, vI p1, vI p2, vI p3, vI p4, vR b129, vI (1 : Int32), vI v1, vI z150, vI v130, vI z160, vR b162, vI o177, vI o181, vR b233] []))
        refine own_by (fun _ k => XS.iload X257.here hx rfl (hb hby at_298) rfl k) ?_
        show own_Go p e below _ (T257.setTop (mkF m 300 #[vI p0, vI p1, vI p2, vI p3, vI p4, vR b129, vI (1 : Int32), vI v1, vI z150, vI v130, vI z160, vR b162, vI o177, vI o181, vR b233] [(.int z160)]))
        by_cases c267 : z160 = (0 : Int32)
        ·skip
         refine own_by (fun _ k => XS.ifYes X257.here hx rfl (pc0 := 300) (pc' := 327) rfl (hb hby at_300) rfl ((if0 _ _).trans (teq c267).1) (by decide) (by decide) k) ?_
         show own_Go p e below _ (T257.setTop (mkF m 327 #[vI p0, vI p1, vI p2, vI p3, vI p4, vR b129, vI (1 : Int32), vI v1, vI z150, vI v130, vI z160, vR b162, vI o177, vI o181, vR b233] []))
         refine own_by (fun _ k => XS.iload X257.here hx rfl (hb hby at_327) rfl k) ?_
         show own_Go p e below _ (T257.setTop (mkF m 329 #[vI p0, vI p1, vI p2, vI p3, vI p4, vR b129, vI (1 : Int32), vI v1, vI z150, vI v130, vI z160, vR b162, vI o177, vI o181, vR b233] [(.int o181)]))
         refine own_by (fun _ k => XS.ifNo X257.here hx rfl (hb hby at_329) rfl ((if0 _ _).trans (feq c232).1) k) ?_
         show own_Go p e below _ (T257.setTop (mkF m 332 #[vI p0, vI p1, vI p2, vI p3, vI p4, vR b129, vI (1 : Int32), vI v1, vI z150, vI v130, vI z160, vR b162, vI o177, vI o181, vR b233] []))
         refine own_by (fun _ k => XS.aload X257.here hx rfl (hb hby at_332) rfl rfl k) ?_
         show own_Go p e below _ (T257.setTop (mkF m 334 #[vI p0, vI p1, vI p2, vI p3, vI p4, vR b129, vI (1 : Int32), vI v1, vI z150, vI v130, vI z160, vR b162, vI o177, vI o181, vR b233] [(.ref b233)]))
         obtain ⟨cq268, kq268, qq268a, qq268b, qq268c⟩ := isOf hZ rfl F263
         obtain ⟨_, _, ⟨T268, L268, k268, n268⟩, -, X268, ⟨Lc268, hQ268, l268, y268, z268⟩, st268⟩ := X257.virtualBack hx (y := (⟨"com/example/margay/margay/index/LineCounter", "line", "()I"⟩ : MethodName)) (z := (⟨"com/example/margay/margay/index/LineCounter", "line", "()I"⟩ : MethodName)) hown (mvT hZ (hwd 47 rfl)) (mvT hZ (hwd 48 rfl)) (notFace_of_selects (args := #[]) (mvT hZ (hwd 50 rfl))) (mvT hZ (hwd 50 rfl)) (mvT hZ (hwd 49 rfl)) (by decide) (backOf (W := 0) (rm7 l Z A0 hw [] b233 o260 T257.heap n0 Z257 F265) hZ (hwd 51 rfl) (hwd 2 rfl) (by decide) (by decide)) qq268a qq268c (g := (mkF m 334 #[vI p0, vI p1, vI p2, vI p3, vI p4, vR b129, vI (1 : Int32), vI v1, vI z150, vI v130, vI z160, vR b162, vI o177, vI o181, vR b233] [(.ref b233)])) rfl (by rw [hml]; rfl) (Steps.refl _) (argsL := []) (rest := []) (lenOf pd_47 rfl) rfl (by show 2 * 0 + _ ≤ _; exact Nat.le_of_eq rfl) (hb hby at_334) (fun _ _ => ⟨rfl, rfl, (by decide : 8 + 0 ≤ _), (by decide : 56 + 0 ≤ _)⟩)
         dsimp only [Pt.U, Pt.locs, Pt.cells, Pt.slots] at X268 l268 y268 z268 st268 hQ268
         subst l268 y268 z268
         obtain ⟨rfl, Nq268, eq268⟩ := hQ268
         have N268 := Fr.app N257 Nq268
         refine own_by (fun _ k => st268.trans k) ?_
         show own_Go p e below _ (T268.setTop (mkF m 337 #[vI p0, vI p1, vI p2, vI p3, vI p4, vR b129, vI (1 : Int32), vI v1, vI z150, vI v130, vI z160, vR b162, vI o177, vI o181, vR b233] [(.int o260)]))
         refine own_by (fun _ k => XS.iconst X268.here hx rfl (hb hby at_337) k) ?_
         show own_Go p e below _ (T268.setTop (mkF m 338 #[vI p0, vI p1, vI p2, vI p3, vI p4, vR b129, vI (1 : Int32), vI v1, vI z150, vI v130, vI z160, vR b162, vI o177, vI o181, vR b233] [(.int (3 : Int32)), (.int o260)]))
         by_cases c269 : o260 = (3 : Int32)
         ·skip
          refine own_by (fun _ k => XS.icmpNo X268.here hx rfl (hb hby at_338) rfl (teq c269).2 k) ?_
          show own_Go p e below _ (T268.setTop (mkF m 341 #[vI p0, vI p1, vI p2, vI p3, vI p4, vR b129, vI (1 : Int32), vI v1, vI z150, vI v130, vI z160, vR b162, vI o177, vI o181, vR b233] []))
          refine own_by (fun _ k => XS.aload X268.here hx rfl (hb hby at_341) rfl rfl k) ?_
          show own_Go p e below _ (T268.setTop (mkF m 343 #[vI p0, vI p1, vI p2, vI p3, vI p4, vR b129, vI (1 : Int32), vI v1, vI z150, vI v130, vI z160, vR b162, vI o177, vI o181, vR b233] [(.ref b233)]))
          obtain ⟨cq270, kq270, qq270a, qq270b, qq270c⟩ := isOf hZ eq268 F263
          obtain ⟨_, _, ⟨T270, L270, k270, n270⟩, -, X270, ⟨Lc270, hQ270, l270, y270, z270⟩, st270⟩ := X268.virtualBack hx (y := (⟨"com/example/margay/margay/index/LineCounter", "column", "()I"⟩ : MethodName)) (z := (⟨"com/example/margay/margay/index/LineCounter", "column", "()I"⟩ : MethodName)) hown (mvT hZ (hwd 52 rfl)) (mvT hZ (hwd 53 rfl)) (notFace_of_selects (args := #[]) (mvT hZ (hwd 55 rfl))) (mvT hZ (hwd 55 rfl)) (mvT hZ (hwd 54 rfl)) (by decide) (backOf (W := 0) (rm8 l Z A0 hw [] b233 o259 T257.heap n0 Z257 F264) hZ (hwd 56 rfl) (hwd 2 rfl) (by decide) (by decide)) qq270a qq270c (g := (mkF m 343 #[vI p0, vI p1, vI p2, vI p3, vI p4, vR b129, vI (1 : Int32), vI v1, vI z150, vI v130, vI z160, vR b162, vI o177, vI o181, vR b233] [(.ref b233)])) rfl (by rw [hml]; rfl) (Steps.refl _) (argsL := []) (rest := []) (lenOf pd_47 rfl) rfl (by show 2 * 0 + _ ≤ _; exact Nat.le_of_eq rfl) (hb hby at_343) (fun _ _ => ⟨rfl, eq268, (by decide : 8 + 0 ≤ _), (by decide : 56 + 0 ≤ _)⟩)
          dsimp only [Pt.U, Pt.locs, Pt.cells, Pt.slots] at X270 l270 y270 z270 st270 hQ270
          subst l270 y270 z270
          obtain ⟨rfl, Nq270, eq270⟩ := hQ270
          have N270 := Fr.app N268 Nq270
          refine own_by (fun _ k => st270.trans k) ?_
          show own_Go p e below _ (T270.setTop (mkF m 346 #[vI p0, vI p1, vI p2, vI p3, vI p4, vR b129, vI (1 : Int32), vI v1, vI z150, vI v130, vI z160, vR b162, vI o177, vI o181, vR b233] [(.int o259)]))
          refine own_by (fun _ k => XS.iconst X270.here hx rfl (hb hby at_346) k) ?_
          show own_Go p e below _ (T270.setTop (mkF m 347 #[vI p0, vI p1, vI p2, vI p3, vI p4, vR b129, vI (1 : Int32), vI v1, vI z150, vI v130, vI z160, vR b162, vI o177, vI o181, vR b233] [(.int (1 : Int32)), (.int o259)]))
          by_cases c271 : o259 = (1 : Int32)
          ·skip
           refine own_by (fun _ k => XS.icmpNo X270.here hx rfl (hb hby at_347) rfl (teq c271).2 k) ?_
           show own_Go p e below _ (T270.setTop (mkF m 350 #[vI p0, vI p1, vI p2, vI p3, vI p4, vR b129, vI (1 : Int32), vI v1, vI z150, vI v130, vI z160, vR b162, vI o177, vI o181, vR b233] []))
           refine own_by (fun _ k => XS.iconst X270.here hx rfl (hb hby at_350) k) ?_
           show own_Go p e below _ (T270.setTop (mkF m 351 #[vI p0, vI p1, vI p2, vI p3, vI p4, vR b129, vI (1 : Int32), vI v1, vI z150, vI v130, vI z160, vR b162, vI o177, vI o181, vR b233] [(.int (1 : Int32))]))
           refine own_by (fun _ k => XS.goto X270.here hx rfl (pc0 := 351) (pc' := 355) rfl (hb hby at_351) (by decide) (by decide) k) ?_
           show own_Go p e below _ (T270.setTop (mkF m 355 #[vI p0, vI p1, vI p2, vI p3, vI p4, vR b129, vI (1 : Int32), vI v1, vI z150, vI v130, vI z160, vR b162, vI o177, vI o181, vR b233] [(.int (1 : Int32))]))
           exact own_retNW X270 hx hS hk257 hZ hEL hh CR257 (t := .boolean) Bd.returns (by simp) (hb hby at_355) hlk eq270 ⟨rfl, N270⟩ (by decide) (by decide)
          ·skip
           refine own_by (fun _ k => XS.icmpYes X270.here hx rfl (pc0 := 347) (pc' := 354) rfl (hb hby at_347) rfl (feq c271).2 (by decide) (by decide) k) ?_
           show own_Go p e below _ (T270.setTop (mkF m 354 #[vI p0, vI p1, vI p2, vI p3, vI p4, vR b129, vI (1 : Int32), vI v1, vI z150, vI v130, vI z160, vR b162, vI o177, vI o181, vR b233] []))
           refine own_by (fun _ k => XS.iconst X270.here hx rfl (hb hby at_354) k) ?_
           show own_Go p e below _ (T270.setTop (mkF m 355 #[vI p0, vI p1, vI p2, vI p3, vI p4, vR b129, vI (1 : Int32), vI v1, vI z150, vI v130, vI z160, vR b162, vI o177, vI o181, vR b233] [(.int (0 : Int32))]))
           exact own_retNW X270 hx hS hk257 hZ hEL hh CR257 (t := .boolean) Bd.returns (by simp) (hb hby at_355) hlk eq270 ⟨((ob_0_37 f_CS p0 p3 p4 v1 v130 z150 z160 o169 o177 o181 o240 o248 o249 o250 o258 o259 o260 hn_CS hv1 c2 c128 hv130 hj151 hj161 hp175 hp178 c179 hp182 c183 c232 hp246 hp256 hp266 c267 c269 c271)).elim, N270⟩ (by decide) (by decide)
         ·skip
          refine own_by (fun _ k => XS.icmpYes X268.here hx rfl (pc0 := 338) (pc' := 354) rfl (hb hby at_338) rfl (feq c269).2 (by decide) (by decide) k) ?_
          show own_Go p e below _ (T268.setTop (mkF m 354 #[vI p0, vI p1, vI p2, vI p3, vI p4, vR b129, vI (1 : Int32), vI v1, vI z150, vI v130, vI z160, vR b162, vI o177, vI o181, vR b233] []))
          refine own_by (fun _ k => XS.iconst X268.here hx rfl (hb hby at_354) k) ?_
          show own_Go p e below _ (T268.setTop (mkF m 355 #[vI p0, vI p1, vI p2, vI p3, vI p4, vR b129, vI (1 : Int32), vI v1, vI z150, vI v130, vI z160, vR b162, vI o177, vI o181, vR b233] [(.int (0 : Int32))]))
          exact own_retNW X268 hx hS hk257 hZ hEL hh CR257 (t := .boolean) Bd.returns (by simp) (hb hby at_355) hlk eq268 ⟨((ob_0_38 f_CS p0 p3 p4 v1 v130 z150 z160 o169 o177 o181 o240 o248 o249 o250 o258 o259 o260 hn_CS hv1 c2 c128 hv130 hj151 hj161 hp175 hp178 c179 hp182 c183 c232 hp246 hp256 hp266 c267 c269)).elim, N268⟩ (by decide) (by decide)
        ·skip
         refine own_by (fun _ k => XS.ifNo X257.here hx rfl (hb hby at_300) rfl ((if0 _ _).trans (feq c267).1) k) ?_
         show own_Go p e below _ (T257.setTop (mkF m 303 #[vI p0, vI p1, vI p2, vI p3, vI p4, vR b129, vI (1 : Int32), vI v1, vI z150, vI v130, vI z160, vR b162, vI o177, vI o181, vR b233] []))
         refine own_by (fun _ k => XS.aload X257.here hx rfl (hb hby at_303) rfl rfl k) ?_
         show own_Go p e below _ (T257.setTop (mkF m 305 #[vI p0, vI p1, vI p2, vI p3, vI p4, vR b129, vI (1 : Int32), vI v1, vI z150, vI v130, vI z160, vR b162, vI o177, vI o181, vR b233] [(.ref b233)]))
         obtain ⟨cq272, kq272, qq272a, qq272b, qq272c⟩ := isOf hZ rfl F263
         obtain ⟨_, _, ⟨T272, L272, k272, n272⟩, -, X272, ⟨Lc272, hQ272, l272, y272, z272⟩, st272⟩ := X257.virtualBack hx (y := (⟨"com/example/margay/margay/index/LineCounter", "line", "()I"⟩ : MethodName)) (z := (⟨"com/example/margay/margay/index/LineCounter", "line", "()I"⟩ : MethodName)) hown (mvT hZ (hwd 47 rfl)) (mvT hZ (hwd 48 rfl)) (notFace_of_selects (args := #[]) (mvT hZ (hwd 50 rfl))) (mvT hZ (hwd 50 rfl)) (mvT hZ (hwd 49 rfl)) (by decide) (backOf (W := 0) (rm7 l Z A0 hw [] b233 o260 T257.heap n0 Z257 F265) hZ (hwd 51 rfl) (hwd 2 rfl) (by decide) (by decide)) qq272a qq272c (g := (mkF m 305 #[vI p0, vI p1, vI p2, vI p3, vI p4, vR b129, vI (1 : Int32), vI v1, vI z150, vI v130, vI z160, vR b162, vI o177, vI o181, vR b233] [(.ref b233)])) rfl (by rw [hml]; rfl) (Steps.refl _) (argsL := []) (rest := []) (lenOf pd_47 rfl) rfl (by show 2 * 0 + _ ≤ _; exact Nat.le_of_eq rfl) (hb hby at_305) (fun _ _ => ⟨rfl, rfl, (by decide : 8 + 0 ≤ _), (by decide : 56 + 0 ≤ _)⟩)
         dsimp only [Pt.U, Pt.locs, Pt.cells, Pt.slots] at X272 l272 y272 z272 st272 hQ272
         subst l272 y272 z272
         obtain ⟨rfl, Nq272, eq272⟩ := hQ272
         have N272 := Fr.app N257 Nq272
         refine own_by (fun _ k => st272.trans k) ?_
         show own_Go p e below _ (T272.setTop (mkF m 308 #[vI p0, vI p1, vI p2, vI p3, vI p4, vR b129, vI (1 : Int32), vI v1, vI z150, vI v130, vI z160, vR b162, vI o177, vI o181, vR b233] [(.int o260)]))
         refine own_by (fun _ k => XS.iconst X272.here hx rfl (hb hby at_308) k) ?_
         show own_Go p e below _ (T272.setTop (mkF m 309 #[vI p0, vI p1, vI p2, vI p3, vI p4, vR b129, vI (1 : Int32), vI v1, vI z150, vI v130, vI z160, vR b162, vI o177, vI o181, vR b233] [(.int (2 : Int32)), (.int o260)]))
         by_cases c273 : o260 = (2 : Int32)
         ·skip
          refine own_by (fun _ k => XS.icmpNo X272.here hx rfl (hb hby at_309) rfl (teq c273).2 k) ?_
          show own_Go p e below _ (T272.setTop (mkF m 312 #[vI p0, vI p1, vI p2, vI p3, vI p4, vR b129, vI (1 : Int32), vI v1, vI z150, vI v130, vI z160, vR b162, vI o177, vI o181, vR b233] []))
          refine own_by (fun _ k => XS.aload X272.here hx rfl (hb hby at_312) rfl rfl k) ?_
          show own_Go p e below _ (T272.setTop (mkF m 314 #[vI p0, vI p1, vI p2, vI p3, vI p4, vR b129, vI (1 : Int32), vI v1, vI z150, vI v130, vI z160, vR b162, vI o177, vI o181, vR b233] [(.ref b233)]))
          obtain ⟨cq274, kq274, qq274a, qq274b, qq274c⟩ := isOf hZ eq272 F263
          obtain ⟨_, _, ⟨T274, L274, k274, n274⟩, -, X274, ⟨Lc274, hQ274, l274, y274, z274⟩, st274⟩ := X272.virtualBack hx (y := (⟨"com/example/margay/margay/index/LineCounter", "column", "()I"⟩ : MethodName)) (z := (⟨"com/example/margay/margay/index/LineCounter", "column", "()I"⟩ : MethodName)) hown (mvT hZ (hwd 52 rfl)) (mvT hZ (hwd 53 rfl)) (notFace_of_selects (args := #[]) (mvT hZ (hwd 55 rfl))) (mvT hZ (hwd 55 rfl)) (mvT hZ (hwd 54 rfl)) (by decide) (backOf (W := 0) (rm8 l Z A0 hw [] b233 o259 T257.heap n0 Z257 F264) hZ (hwd 56 rfl) (hwd 2 rfl) (by decide) (by decide)) qq274a qq274c (g := (mkF m 314 #[vI p0, vI p1, vI p2, vI p3, vI p4, vR b129, vI (1 : Int32), vI v1, vI z150, vI v130, vI z160, vR b162, vI o177, vI o181, vR b233] [(.ref b233)])) rfl (by rw [hml]; rfl) (Steps.refl _) (argsL := []) (rest := []) (lenOf pd_47 rfl) rfl (by show 2 * 0 + _ ≤ _; exact Nat.le_of_eq rfl) (hb hby at_314) (fun _ _ => ⟨rfl, eq272, (by decide : 8 + 0 ≤ _), (by decide : 56 + 0 ≤ _)⟩)
          dsimp only [Pt.U, Pt.locs, Pt.cells, Pt.slots] at X274 l274 y274 z274 st274 hQ274
          subst l274 y274 z274
          obtain ⟨rfl, Nq274, eq274⟩ := hQ274
          have N274 := Fr.app N272 Nq274
          refine own_by (fun _ k => st274.trans k) ?_
          show own_Go p e below _ (T274.setTop (mkF m 317 #[vI p0, vI p1, vI p2, vI p3, vI p4, vR b129, vI (1 : Int32), vI v1, vI z150, vI v130, vI z160, vR b162, vI o177, vI o181, vR b233] [(.int o259)]))
          refine own_by (fun _ k => XS.iconst X274.here hx rfl (hb hby at_317) k) ?_
          show own_Go p e below _ (T274.setTop (mkF m 318 #[vI p0, vI p1, vI p2, vI p3, vI p4, vR b129, vI (1 : Int32), vI v1, vI z150, vI v130, vI z160, vR b162, vI o177, vI o181, vR b233] [(.int (1 : Int32)), (.int o259)]))
          by_cases c275 : o259 = (1 : Int32)
          ·skip
           refine own_by (fun _ k => XS.icmpNo X274.here hx rfl (hb hby at_318) rfl (teq c275).2 k) ?_
           show own_Go p e below _ (T274.setTop (mkF m 321 #[vI p0, vI p1, vI p2, vI p3, vI p4, vR b129, vI (1 : Int32), vI v1, vI z150, vI v130, vI z160, vR b162, vI o177, vI o181, vR b233] []))
           refine own_by (fun _ k => XS.iconst X274.here hx rfl (hb hby at_321) k) ?_
           show own_Go p e below _ (T274.setTop (mkF m 322 #[vI p0, vI p1, vI p2, vI p3, vI p4, vR b129, vI (1 : Int32), vI v1, vI z150, vI v130, vI z160, vR b162, vI o177, vI o181, vR b233] [(.int (1 : Int32))]))
           refine own_by (fun _ k => XS.goto X274.here hx rfl (pc0 := 322) (pc' := 326) rfl (hb hby at_322) (by decide) (by decide) k) ?_
           show own_Go p e below _ (T274.setTop (mkF m 326 #[vI p0, vI p1, vI p2, vI p3, vI p4, vR b129, vI (1 : Int32), vI v1, vI z150, vI v130, vI z160, vR b162, vI o177, vI o181, vR b233] [(.int (1 : Int32))]))
           exact own_retNW X274 hx hS hk257 hZ hEL hh CR257 (t := .boolean) Bd.returns (by simp) (hb hby at_326) hlk eq274 ⟨rfl, N274⟩ (by decide) (by decide)
          ·skip
           refine own_by (fun _ k => XS.icmpYes X274.here hx rfl (pc0 := 318) (pc' := 325) rfl (hb hby at_318) rfl (feq c275).2 (by decide) (by decide) k) ?_
           show own_Go p e below _ (T274.setTop (mkF m 325 #[vI p0, vI p1, vI p2, vI p3, vI p4, vR b129, vI (1 : Int32), vI v1, vI z150, vI v130, vI z160, vR b162, vI o177, vI o181, vR b233] []))
           refine own_by (fun _ k => XS.iconst X274.here hx rfl (hb hby at_325) k) ?_
           show own_Go p e below _ (T274.setTop (mkF m 326 #[vI p0, vI p1, vI p2, vI p3, vI p4, vR b129, vI (1 : Int32), vI v1, vI z150, vI v130, vI z160, vR b162, vI o177, vI o181, vR b233] [(.int (0 : Int32))]))
           exact own_retNW X274 hx hS hk257 hZ hEL hh CR257 (t := .boolean) Bd.returns (by simp) (hb hby at_326) hlk eq274 ⟨((ob_0_39 f_CS p0 p3 p4 v1 v130 z150 z160 o169 o177 o181 o240 o248 o249 o250 o258 o259 o260 hn_CS hv1 c2 c128 hv130 hj151 hj161 hp175 hp178 c179 hp182 c183 c232 hp246 hp256 hp266 c267 c273 c275)).elim, N274⟩ (by decide) (by decide)
         ·skip
          refine own_by (fun _ k => XS.icmpYes X272.here hx rfl (pc0 := 309) (pc' := 325) rfl (hb hby at_309) rfl (feq c273).2 (by decide) (by decide) k) ?_
          show own_Go p e below _ (T272.setTop (mkF m 325 #[vI p0, vI p1, vI p2, vI p3, vI p4, vR b129, vI (1 : Int32), vI v1, vI z150, vI v130, vI z160, vR b162, vI o177, vI o181, vR b233] []))
          refine own_by (fun _ k => XS.iconst X272.here hx rfl (hb hby at_325) k) ?_
          show own_Go p e below _ (T272.setTop (mkF m 326 #[vI p0, vI p1, vI p2, vI p3, vI p4, vR b129, vI (1 : Int32), vI v1, vI z150, vI v130, vI z160, vR b162, vI o177, vI o181, vR b233] [(.int (0 : Int32))]))
          exact own_retNW X272 hx hS hk257 hZ hEL hh CR257 (t := .boolean) Bd.returns (by simp) (hb hby at_326) hlk eq272 ⟨((ob_0_40 f_CS p0 p3 p4 v1 v130 z150 z160 o169 o177 o181 o240 o248 o249 o250 o258 o259 o260 hn_CS hv1 c2 c128 hv130 hj151 hj161 hp175 hp178 c179 hp182 c183 c232 hp246 hp256 hp266 c267 c273)).elim, N272⟩ (by decide) (by decide)
     ·skip
      refine own_by (fun _ k => XS.icmpNo X176.here hx rfl (hb hby at_247) rfl (feq c179).1 k) ?_
      show own_Go p e below _ (T176.setTop (mkF m 250 #[vI p0, vI p1, vI p2, vI p3, vI p4, vR b129, vI (1 : Int32), vI v1, vI z150, vI v130, vI z160, vR b162, vI o177, .unset, .unset] []))
      refine own_by (fun _ k => XS.iconst X176.here hx rfl (hb hby at_250) k) ?_
      show own_Go p e below _ (T176.setTop (mkF m 251 #[vI p0, vI p1, vI p2, vI p3, vI p4, vR b129, vI (1 : Int32), vI v1, vI z150, vI v130, vI z160, vR b162, vI o177, .unset, .unset] [(.int (0 : Int32))]))
      exact own_retNW X176 hx hS hk168 hZ hEL hh CR168 (t := .boolean) Bd.returns (by simp) (hb hby at_251) hlk eq176 ⟨((ob_0_41 f_CS p0 p3 p4 v1 v130 z150 z160 o169 o177 hn_CS hv1 c2 c128 hv130 hj151 hj161 hp175 hp178 c179)).elim, N176⟩ (by decide) (by decide)
    by_cases c152 : z150 = (10 : Int32)
    ·skip
     refine own_by (fun _ k => XS.icmpYes X147.here hx rfl (pc0 := 200) (pc' := 216) rfl (hb hby at_200) rfl (teq c152).1 (by decide) (by decide) k) ?_
     show own_Go p e below _ (T145.setTop (mkF m 216 #[vI p0, vI p1, vI p2, vI p3, vI p4, vR b129, vI (1 : Int32), vI v1, vI z150, vI v130, .unset, .unset, .unset, .unset, .unset] []))
     refine own_by (fun _ k => XS.iconst X147.here hx rfl (hb hby at_216) k) ?_
     show own_Go p e below _ (T145.setTop (mkF m 217 #[vI p0, vI p1, vI p2, vI p3, vI p4, vR b129, vI (1 : Int32), vI v1, vI z150, vI v130, .unset, .unset, .unset, .unset, .unset] [(.int (1 : Int32))]))
     refine own_by (fun _ k => XS.goto X147.here hx rfl (pc0 := 217) (pc' := 221) rfl (hb hby at_217) (by decide) (by decide) k) ?_
     show own_Go p e below _ (T145.setTop (mkF m 221 #[vI p0, vI p1, vI p2, vI p3, vI p4, vR b129, vI (1 : Int32), vI v1, vI z150, vI v130, .unset, .unset, .unset, .unset, .unset] [(.int (1 : Int32))]))
     exact J154 _ _ (1 : Int32) X147 e148 N149 (Or.inl ⟨c152, rfl⟩)
    ·skip
     refine own_by (fun _ k => XS.icmpNo X147.here hx rfl (hb hby at_200) rfl (feq c152).1 k) ?_
     show own_Go p e below _ (T145.setTop (mkF m 203 #[vI p0, vI p1, vI p2, vI p3, vI p4, vR b129, vI (1 : Int32), vI v1, vI z150, vI v130, .unset, .unset, .unset, .unset, .unset] []))
     refine own_by (fun _ k => XS.iload X147.here hx rfl (hb hby at_203) rfl k) ?_
     show own_Go p e below _ (T145.setTop (mkF m 205 #[vI p0, vI p1, vI p2, vI p3, vI p4, vR b129, vI (1 : Int32), vI v1, vI z150, vI v130, .unset, .unset, .unset, .unset, .unset] [(.int z150)]))
     refine own_by (fun _ k => XS.sipush X147.here hx rfl (hb hby at_205) k) ?_
     show own_Go p e below _ (T145.setTop (mkF m 208 #[vI p0, vI p1, vI p2, vI p3, vI p4, vR b129, vI (1 : Int32), vI v1, vI z150, vI v130, .unset, .unset, .unset, .unset, .unset] [(.int (133 : Int32)), (.int z150)]))
     by_cases c153 : z150 = (133 : Int32)
     ·skip
      refine own_by (fun _ k => XS.icmpNo X147.here hx rfl (hb hby at_208) rfl (teq c153).2 k) ?_
      show own_Go p e below _ (T145.setTop (mkF m 211 #[vI p0, vI p1, vI p2, vI p3, vI p4, vR b129, vI (1 : Int32), vI v1, vI z150, vI v130, .unset, .unset, .unset, .unset, .unset] []))
      refine own_by (fun _ k => XS.iload X147.here hx rfl (hb hby at_211) rfl k) ?_
      show own_Go p e below _ (T145.setTop (mkF m 213 #[vI p0, vI p1, vI p2, vI p3, vI p4, vR b129, vI (1 : Int32), vI v1, vI z150, vI v130, .unset, .unset, .unset, .unset, .unset] [(.int (1 : Int32))]))
      refine own_by (fun _ k => XS.ifNo X147.here hx rfl (hb hby at_213) rfl ((if0 _ _).trans (feq (by decide : ¬ ((1 : Int32) = (0 : Int32)))).1) k) ?_
      show own_Go p e below _ (T145.setTop (mkF m 216 #[vI p0, vI p1, vI p2, vI p3, vI p4, vR b129, vI (1 : Int32), vI v1, vI z150, vI v130, .unset, .unset, .unset, .unset, .unset] []))
      refine own_by (fun _ k => XS.iconst X147.here hx rfl (hb hby at_216) k) ?_
      show own_Go p e below _ (T145.setTop (mkF m 217 #[vI p0, vI p1, vI p2, vI p3, vI p4, vR b129, vI (1 : Int32), vI v1, vI z150, vI v130, .unset, .unset, .unset, .unset, .unset] [(.int (1 : Int32))]))
      refine own_by (fun _ k => XS.goto X147.here hx rfl (pc0 := 217) (pc' := 221) rfl (hb hby at_217) (by decide) (by decide) k) ?_
      show own_Go p e below _ (T145.setTop (mkF m 221 #[vI p0, vI p1, vI p2, vI p3, vI p4, vR b129, vI (1 : Int32), vI v1, vI z150, vI v130, .unset, .unset, .unset, .unset, .unset] [(.int (1 : Int32))]))
      exact J154 _ _ (1 : Int32) X147 e148 N149 (Or.inr (Or.inl ⟨c152, c153, rfl⟩))
     ·skip
      refine own_by (fun _ k => XS.icmpYes X147.here hx rfl (pc0 := 208) (pc' := 220) rfl (hb hby at_208) rfl (feq c153).2 (by decide) (by decide) k) ?_
      show own_Go p e below _ (T145.setTop (mkF m 220 #[vI p0, vI p1, vI p2, vI p3, vI p4, vR b129, vI (1 : Int32), vI v1, vI z150, vI v130, .unset, .unset, .unset, .unset, .unset] []))
      refine own_by (fun _ k => XS.iconst X147.here hx rfl (hb hby at_220) k) ?_
      show own_Go p e below _ (T145.setTop (mkF m 221 #[vI p0, vI p1, vI p2, vI p3, vI p4, vR b129, vI (1 : Int32), vI v1, vI z150, vI v130, .unset, .unset, .unset, .unset, .unset] [(.int (0 : Int32))]))
      exact J154 _ _ (0 : Int32) X147 e148 N149 (Or.inr (Or.inr (⟨c152, c153, rfl⟩)))
   by_cases c131 : v130 = (0 : Int32)
   ·skip
    refine own_by (fun _ k => XS.ifNo X129.here hx rfl (hb hby at_141) rfl ((if0 _ _).trans (teq c131).2) k) ?_
    show own_Go p e below _ (T129.setTop (mkF m 144 #[vI p0, vI p1, vI p2, vI p3, vI p4, vR b129, vI (1 : Int32), vI v1, .unset, vI v130, .unset, .unset, .unset, .unset, .unset] []))
    refine own_by (fun _ k => XS.bipush X129.here hx rfl (hb hby at_144) k) ?_
    show own_Go p e below _ (T129.setTop (mkF m 146 #[vI p0, vI p1, vI p2, vI p3, vI p4, vR b129, vI (1 : Int32), vI v1, .unset, vI v130, .unset, .unset, .unset, .unset, .unset] [(.int (10 : Int32))]))
    refine own_by (fun _ k => XS.istore X129.here hx rfl (hb hby at_146) rfl (l' := #[vI p0, vI p1, vI p2, vI p3, vI p4, vR b129, vI (1 : Int32), vI v1, vI (10 : Int32), vI v130, .unset, .unset, .unset, .unset, .unset]) rfl k) ?_
    show own_Go p e below _ (T129.setTop (mkF m 148 #[vI p0, vI p1, vI p2, vI p3, vI p4, vR b129, vI (1 : Int32), vI v1, vI (10 : Int32), vI v130, .unset, .unset, .unset, .unset, .unset] []))
    refine own_by (fun _ k => XS.goto X129.here hx rfl (pc0 := 148) (pc' := 196) rfl (hb hby at_148) (by decide) (by decide) k) ?_
    show own_Go p e below _ (T129.setTop (mkF m 196 #[vI p0, vI p1, vI p2, vI p3, vI p4, vR b129, vI (1 : Int32), vI v1, vI (10 : Int32), vI v130, .unset, .unset, .unset, .unset, .unset] []))
    exact J144 _ _ (10 : Int32) X129 e129 N0 (Or.inl ⟨c131, rfl⟩)
   ·skip
    refine own_by (fun _ k => XS.ifYes X129.here hx rfl (pc0 := 141) (pc' := 151) rfl (hb hby at_141) rfl ((if0 _ _).trans (feq c131).2) (by decide) (by decide) k) ?_
    show own_Go p e below _ (T129.setTop (mkF m 151 #[vI p0, vI p1, vI p2, vI p3, vI p4, vR b129, vI (1 : Int32), vI v1, .unset, vI v130, .unset, .unset, .unset, .unset, .unset] []))
    refine own_by (fun _ k => XS.iload X129.here hx rfl (hb hby at_151) rfl k) ?_
    show own_Go p e below _ (T129.setTop (mkF m 153 #[vI p0, vI p1, vI p2, vI p3, vI p4, vR b129, vI (1 : Int32), vI v1, .unset, vI v130, .unset, .unset, .unset, .unset, .unset] [(.int v130)]))
    refine own_by (fun _ k => XS.iconst X129.here hx rfl (hb hby at_153) k) ?_
    show own_Go p e below _ (T129.setTop (mkF m 154 #[vI p0, vI p1, vI p2, vI p3, vI p4, vR b129, vI (1 : Int32), vI v1, .unset, vI v130, .unset, .unset, .unset, .unset, .unset] [(.int (1 : Int32)), (.int v130)]))
    by_cases c132 : v130 = (1 : Int32)
    ·skip
     refine own_by (fun _ k => XS.icmpNo X129.here hx rfl (hb hby at_154) rfl (teq c132).2 k) ?_
     show own_Go p e below _ (T129.setTop (mkF m 157 #[vI p0, vI p1, vI p2, vI p3, vI p4, vR b129, vI (1 : Int32), vI v1, .unset, vI v130, .unset, .unset, .unset, .unset, .unset] []))
     refine own_by (fun _ k => XS.sipush X129.here hx rfl (hb hby at_157) k) ?_
     show own_Go p e below _ (T129.setTop (mkF m 160 #[vI p0, vI p1, vI p2, vI p3, vI p4, vR b129, vI (1 : Int32), vI v1, .unset, vI v130, .unset, .unset, .unset, .unset, .unset] [(.int (133 : Int32))]))
     refine own_by (fun _ k => XS.istore X129.here hx rfl (hb hby at_160) rfl (l' := #[vI p0, vI p1, vI p2, vI p3, vI p4, vR b129, vI (1 : Int32), vI v1, vI (133 : Int32), vI v130, .unset, .unset, .unset, .unset, .unset]) rfl k) ?_
     show own_Go p e below _ (T129.setTop (mkF m 162 #[vI p0, vI p1, vI p2, vI p3, vI p4, vR b129, vI (1 : Int32), vI v1, vI (133 : Int32), vI v130, .unset, .unset, .unset, .unset, .unset] []))
     refine own_by (fun _ k => XS.goto X129.here hx rfl (pc0 := 162) (pc' := 196) rfl (hb hby at_162) (by decide) (by decide) k) ?_
     show own_Go p e below _ (T129.setTop (mkF m 196 #[vI p0, vI p1, vI p2, vI p3, vI p4, vR b129, vI (1 : Int32), vI v1, vI (133 : Int32), vI v130, .unset, .unset, .unset, .unset, .unset] []))
     exact J144 _ _ (133 : Int32) X129 e129 N0 (Or.inr (Or.inl ⟨c131, c132, rfl⟩))
    ·skip
     refine own_by (fun _ k => XS.icmpYes X129.here hx rfl (pc0 := 154) (pc' := 165) rfl (hb hby at_154) rfl (feq c132).2 (by decide) (by decide) k) ?_
     show own_Go p e below _ (T129.setTop (mkF m 165 #[vI p0, vI p1, vI p2, vI p3, vI p4, vR b129, vI (1 : Int32), vI v1, .unset, vI v130, .unset, .unset, .unset, .unset, .unset] []))
     refine own_by (fun _ k => XS.iload X129.here hx rfl (hb hby at_165) rfl k) ?_
     show own_Go p e below _ (T129.setTop (mkF m 167 #[vI p0, vI p1, vI p2, vI p3, vI p4, vR b129, vI (1 : Int32), vI v1, .unset, vI v130, .unset, .unset, .unset, .unset, .unset] [(.int v130)]))
     refine own_by (fun _ k => XS.iconst X129.here hx rfl (hb hby at_167) k) ?_
     show own_Go p e below _ (T129.setTop (mkF m 168 #[vI p0, vI p1, vI p2, vI p3, vI p4, vR b129, vI (1 : Int32), vI v1, .unset, vI v130, .unset, .unset, .unset, .unset, .unset] [(.int (2 : Int32)), (.int v130)]))
     by_cases c133 : v130 = (2 : Int32)
     ·skip
      refine own_by (fun _ k => XS.icmpNo X129.here hx rfl (hb hby at_168) rfl (teq c133).2 k) ?_
      show own_Go p e below _ (T129.setTop (mkF m 171 #[vI p0, vI p1, vI p2, vI p3, vI p4, vR b129, vI (1 : Int32), vI v1, .unset, vI v130, .unset, .unset, .unset, .unset, .unset] []))
      refine own_by (fun _ k => XS.iload X129.here hx rfl (hb hby at_171) rfl k) ?_
      show own_Go p e below _ (T129.setTop (mkF m 173 #[vI p0, vI p1, vI p2, vI p3, vI p4, vR b129, vI (1 : Int32), vI v1, .unset, vI v130, .unset, .unset, .unset, .unset, .unset] [(.int p4)]))
      refine own_by (fun _ k => XS.iconst X129.here hx rfl (hb hby at_173) k) ?_
      show own_Go p e below _ (T129.setTop (mkF m 174 #[vI p0, vI p1, vI p2, vI p3, vI p4, vR b129, vI (1 : Int32), vI v1, .unset, vI v130, .unset, .unset, .unset, .unset, .unset] [(.int (1 : Int32)), (.int p4)]))
      refine own_by (fun _ k => XS.iand X129.here hx rfl (hb hby at_174) rfl k) ?_
      show own_Go p e below _ (T129.setTop (mkF m 175 #[vI p0, vI p1, vI p2, vI p3, vI p4, vR b129, vI (1 : Int32), vI v1, .unset, vI v130, .unset, .unset, .unset, .unset, .unset] [(.int (p4 &&& (1 : Int32)))]))
      have J135 : ∀ (T136 : State) (L137 : List Loc) (z141 : Int32), Stand p l e room_1 (s.setVm T129.vm) m #[(.int p0), (.int p1), (.int p2), (.int p3), (.int p4)] below meth c T136 L137 2 16 → T136.heap = h129 → Fr n0 L137 → ((((p4 &&& (1 : Int32)) = (0 : Int32)) ∧ z141 = (13 : Int32)) ∨ ((¬ ((p4 &&& (1 : Int32)) = (0 : Int32))) ∧ z141 = (8232 : Int32))) → own_Go p e below (own_FinW Z consts_1 s 24 3200 (Q0 Z f_CS p0 p1 p2 p3 p4 h0 n0)) (T136.setTop (mkF m 186 #[vI p0, vI p1, vI p2, vI p3, vI p4, vR b129, vI (1 : Int32), vI v1, .unset, vI v130, .unset, .unset, .unset, .unset, .unset] [(.int z141)])) := by
       intro T136 L137 z141 X138 e139 N140 hj142
       refine own_by (fun _ k => XS.istore X138.here hx rfl (hb hby at_186) rfl (l' := #[vI p0, vI p1, vI p2, vI p3, vI p4, vR b129, vI (1 : Int32), vI v1, vI z141, vI v130, .unset, .unset, .unset, .unset, .unset]) rfl k) ?_
       show own_Go p e below _ (T136.setTop (mkF m 188 #[vI p0, vI p1, vI p2, vI p3, vI p4, vR b129, vI (1 : Int32), vI v1, vI z141, vI v130, .unset, .unset, .unset, .unset, .unset] []))
       refine own_by (fun _ k => XS.goto X138.here hx rfl (pc0 := 188) (pc' := 196) rfl (hb hby at_188) (by decide) (by decide) k) ?_
       show own_Go p e below _ (T136.setTop (mkF m 196 #[vI p0, vI p1, vI p2, vI p3, vI p4, vR b129, vI (1 : Int32), vI v1, vI z141, vI v130, .unset, .unset, .unset, .unset, .unset] []))
       exact J144 _ _ z141 X138 e139 N140 (Or.inr (Or.inr (Or.inl ⟨z141, c131, c132, c133, hj142, rfl⟩)))
      by_cases c134 : (p4 &&& (1 : Int32)) = (0 : Int32)
      ·skip
       refine own_by (fun _ k => XS.ifNo X129.here hx rfl (hb hby at_175) rfl ((if0 _ _).trans (teq c134).2) k) ?_
       show own_Go p e below _ (T129.setTop (mkF m 178 #[vI p0, vI p1, vI p2, vI p3, vI p4, vR b129, vI (1 : Int32), vI v1, .unset, vI v130, .unset, .unset, .unset, .unset, .unset] []))
       refine own_by (fun _ k => XS.bipush X129.here hx rfl (hb hby at_178) k) ?_
       show own_Go p e below _ (T129.setTop (mkF m 180 #[vI p0, vI p1, vI p2, vI p3, vI p4, vR b129, vI (1 : Int32), vI v1, .unset, vI v130, .unset, .unset, .unset, .unset, .unset] [(.int (13 : Int32))]))
       refine own_by (fun _ k => XS.goto X129.here hx rfl (pc0 := 180) (pc' := 186) rfl (hb hby at_180) (by decide) (by decide) k) ?_
       show own_Go p e below _ (T129.setTop (mkF m 186 #[vI p0, vI p1, vI p2, vI p3, vI p4, vR b129, vI (1 : Int32), vI v1, .unset, vI v130, .unset, .unset, .unset, .unset, .unset] [(.int (13 : Int32))]))
       exact J135 _ _ (13 : Int32) X129 e129 N0 (Or.inl ⟨c134, rfl⟩)
      ·skip
       refine own_by (fun _ k => XS.ifYes X129.here hx rfl (pc0 := 175) (pc' := 183) rfl (hb hby at_175) rfl ((if0 _ _).trans (feq c134).2) (by decide) (by decide) k) ?_
       show own_Go p e below _ (T129.setTop (mkF m 183 #[vI p0, vI p1, vI p2, vI p3, vI p4, vR b129, vI (1 : Int32), vI v1, .unset, vI v130, .unset, .unset, .unset, .unset, .unset] []))
       refine own_by (fun _ k => XS.sipush X129.here hx rfl (hb hby at_183) k) ?_
       show own_Go p e below _ (T129.setTop (mkF m 186 #[vI p0, vI p1, vI p2, vI p3, vI p4, vR b129, vI (1 : Int32), vI v1, .unset, vI v130, .unset, .unset, .unset, .unset, .unset] [(.int (8232 : Int32))]))
       exact J135 _ _ (8232 : Int32) X129 e129 N0 (Or.inr (⟨c134, rfl⟩))
     ·skip
      refine own_by (fun _ k => XS.icmpYes X129.here hx rfl (pc0 := 168) (pc' := 191) rfl (hb hby at_168) rfl (feq c133).2 (by decide) (by decide) k) ?_
      show own_Go p e below _ (T129.setTop (mkF m 191 #[vI p0, vI p1, vI p2, vI p3, vI p4, vR b129, vI (1 : Int32), vI v1, .unset, vI v130, .unset, .unset, .unset, .unset, .unset] []))
      refine own_by (fun _ k => XS.iload X129.here hx rfl (hb hby at_191) rfl k) ?_
      show own_Go p e below _ (T129.setTop (mkF m 193 #[vI p0, vI p1, vI p2, vI p3, vI p4, vR b129, vI (1 : Int32), vI v1, .unset, vI v130, .unset, .unset, .unset, .unset, .unset] [(.int p4)]))
      refine own_by (fun _ k => XS.i2c X129.here hx rfl (hb hby at_193) rfl k) ?_
      show own_Go p e below _ (T129.setTop (mkF m 194 #[vI p0, vI p1, vI p2, vI p3, vI p4, vR b129, vI (1 : Int32), vI v1, .unset, vI v130, .unset, .unset, .unset, .unset, .unset] [(.int (p4.toUInt32.toUInt16.toUInt32.toInt32))]))
      refine own_by (fun _ k => XS.istore X129.here hx rfl (hb hby at_194) rfl (l' := #[vI p0, vI p1, vI p2, vI p3, vI p4, vR b129, vI (1 : Int32), vI v1, vI (p4.toUInt32.toUInt16.toUInt32.toInt32), vI v130, .unset, .unset, .unset, .unset, .unset]) rfl k) ?_
      show own_Go p e below _ (T129.setTop (mkF m 196 #[vI p0, vI p1, vI p2, vI p3, vI p4, vR b129, vI (1 : Int32), vI v1, vI (p4.toUInt32.toUInt16.toUInt32.toInt32), vI v130, .unset, .unset, .unset, .unset, .unset] []))
      generalize hv143 : (p4.toUInt32.toUInt16.toUInt32.toInt32) = v143
      show own_Go p e below _ (T129.setTop (mkF m 196 #[vI p0, vI p1, vI p2, vI p3, vI p4, vR b129, vI (1 : Int32), vI v1, vI v143, vI v130, .unset, .unset, .unset, .unset, .unset] []))
      exact J144 _ _ v143 X129 e129 N0 (Or.inr (Or.inr (Or.inr (⟨v143, c131, c132, c133, hv143, rfl⟩))))
  ·skip
   refine own_by (fun _ k => XS.icmpYes X0.here hx rfl (pc0 := 22) (pc' := 35) rfl (hb hby at_22) rfl (feq c128).2 (by decide) (by decide) k) ?_
   show own_Go p e below _ (s₁.setTop (mkF m 35 #[vI p0, vI p1, vI p2, vI p3, vI p4, .unset, .unset, vI v1, .unset, .unset, .unset, .unset, .unset, .unset, .unset] []))
   refine own_by (fun _ k => XS.iload X0.here hx rfl (hb hby at_35) rfl k) ?_
   show own_Go p e below _ (s₁.setTop (mkF m 37 #[vI p0, vI p1, vI p2, vI p3, vI p4, .unset, .unset, vI v1, .unset, .unset, .unset, .unset, .unset, .unset, .unset] [(.int v1)]))
   refine own_by (fun _ k => XS.iconst X0.here hx rfl (hb hby at_37) k) ?_
   show own_Go p e below _ (s₁.setTop (mkF m 38 #[vI p0, vI p1, vI p2, vI p3, vI p4, .unset, .unset, vI v1, .unset, .unset, .unset, .unset, .unset, .unset, .unset] [(.int (2 : Int32)), (.int v1)]))
   by_cases c276 : v1 = (2 : Int32)
   ·skip
    refine own_by (fun _ k => XS.icmpNo X0.here hx rfl (hb hby at_38) rfl (teq c276).2 k) ?_
    show own_Go p e below _ (s₁.setTop (mkF m 41 #[vI p0, vI p1, vI p2, vI p3, vI p4, .unset, .unset, vI v1, .unset, .unset, .unset, .unset, .unset, .unset, .unset] []))
    obtain ⟨b277, T277, h277, kc277, t277, kk277, X277, e277, E277, hS, hk277, hZ, hown, A277, C277, F277, V277, lt277, ltb277, R277, Li277, -, st277⟩ := ldcCH X0 hx hZ hown (hwd 85 rfl) hwS e0 hS hk0 hEL (by decide) CR0.1 (vs := ([49, 46, 48] : List Int32).map Value.int) (z := (3 : Int32)) ⟨by decide, by decide⟩ (by decide) (by decide) (g := (mkF m 41 #[vI p0, vI p1, vI p2, vI p3, vI p4, .unset, .unset, vI v1, .unset, .unset, .unset, .unset, .unset, .unset, .unset] [])) rfl (hb hby at_41) (n := 12) (by decide) (by decide) (by decide) (by decide)
    have V277' : own_Arf Z h277 t277 kk277 .byte (3 : Int32) (fun i => .int ((own_li [49, 46, 48]) i)) := own_arfLi V277
    have CR277 : CHr Z consts_1 s.vm h0 T277.vm h277 := CR0.trans R277
    have K277 : Keep h0 h277 [] := (Keep.refl h0 []).ext E277
    have Z277 : n0 ≤ h277.size := Nat.le_trans Z0 E277.1
    refine own_by st277 ?_
    show own_Go p e below _ (T277.setTop (mkF m 43 #[vI p0, vI p1, vI p2, vI p3, vI p4, .unset, .unset, vI v1, .unset, .unset, .unset, .unset, .unset, .unset, .unset] [(.ref b277)]))
    refine own_by (fun _ k => XS.astore X277.here hx rfl (hb hby at_43) rfl rfl (l' := #[vI p0, vI p1, vI p2, vI p3, vI p4, vR b277, .unset, vI v1, .unset, .unset, .unset, .unset, .unset, .unset, .unset]) rfl k) ?_
    show own_Go p e below _ (T277.setTop (mkF m 45 #[vI p0, vI p1, vI p2, vI p3, vI p4, vR b277, .unset, vI v1, .unset, .unset, .unset, .unset, .unset, .unset, .unset] []))
    refine own_by (fun _ k => XS.iconst X277.here hx rfl (hb hby at_45) k) ?_
    show own_Go p e below _ (T277.setTop (mkF m 46 #[vI p0, vI p1, vI p2, vI p3, vI p4, vR b277, .unset, vI v1, .unset, .unset, .unset, .unset, .unset, .unset, .unset] [(.int (0 : Int32))]))
    refine own_by (fun _ k => XS.istore X277.here hx rfl (hb hby at_46) rfl (l' := #[vI p0, vI p1, vI p2, vI p3, vI p4, vR b277, vI (0 : Int32), vI v1, .unset, .unset, .unset, .unset, .unset, .unset, .unset]) rfl k) ?_
    show own_Go p e below _ (T277.setTop (mkF m 48 #[vI p0, vI p1, vI p2, vI p3, vI p4, vR b277, vI (0 : Int32), vI v1, .unset, .unset, .unset, .unset, .unset, .unset, .unset] []))
    refine own_by (fun _ k => XS.goto X277.here hx rfl (pc0 := 48) (pc' := 134) rfl (hb hby at_48) (by decide) (by decide) k) ?_
    show own_Go p e below _ (T277.setTop (mkF m 134 #[vI p0, vI p1, vI p2, vI p3, vI p4, vR b277, vI (0 : Int32), vI v1, .unset, .unset, .unset, .unset, .unset, .unset, .unset] []))
    refine own_by (fun _ k => XS.iloadN X277.here hx rfl (hb hby at_134) rfl k) ?_
    show own_Go p e below _ (T277.setTop (mkF m 135 #[vI p0, vI p1, vI p2, vI p3, vI p4, vR b277, vI (0 : Int32), vI v1, .unset, .unset, .unset, .unset, .unset, .unset, .unset] [(.int p3)]))
    refine own_by (fun _ k => XS.iconst X277.here hx rfl (hb hby at_135) k) ?_
    show own_Go p e below _ (T277.setTop (mkF m 136 #[vI p0, vI p1, vI p2, vI p3, vI p4, vR b277, vI (0 : Int32), vI v1, .unset, .unset, .unset, .unset, .unset, .unset, .unset] [(.int (3 : Int32)), (.int p3)]))
    refine own_by (fun _ k => XS.iand X277.here hx rfl (hb hby at_136) rfl k) ?_
    show own_Go p e below _ (T277.setTop (mkF m 137 #[vI p0, vI p1, vI p2, vI p3, vI p4, vR b277, vI (0 : Int32), vI v1, .unset, .unset, .unset, .unset, .unset, .unset, .unset] [(.int (p3 &&& (3 : Int32)))]))
    refine own_by (fun _ k => XS.istore X277.here hx rfl (hb hby at_137) rfl (l' := #[vI p0, vI p1, vI p2, vI p3, vI p4, vR b277, vI (0 : Int32), vI v1, .unset, vI (p3 &&& (3 : Int32)), .unset, .unset, .unset, .unset, .unset]) rfl k) ?_
    show own_Go p e below _ (T277.setTop (mkF m 139 #[vI p0, vI p1, vI p2, vI p3, vI p4, vR b277, vI (0 : Int32), vI v1, .unset, vI (p3 &&& (3 : Int32)), .unset, .unset, .unset, .unset, .unset] []))
    generalize hv278 : (p3 &&& (3 : Int32)) = v278
    show own_Go p e below _ (T277.setTop (mkF m 139 #[vI p0, vI p1, vI p2, vI p3, vI p4, vR b277, vI (0 : Int32), vI v1, .unset, vI v278, .unset, .unset, .unset, .unset, .unset] []))
    refine own_by (fun _ k => XS.iload X277.here hx rfl (hb hby at_139) rfl k) ?_
    show own_Go p e below _ (T277.setTop (mkF m 141 #[vI p0, vI p1, vI p2, vI p3, vI p4, vR b277, vI (0 : Int32), vI v1, .unset, vI v278, .unset, .unset, .unset, .unset, .unset] [(.int v278)]))
    have J292 : ∀ (T293 : State) (L294 : List Loc) (z298 : Int32), Stand p l e room_1 (s.setVm T277.vm) m #[(.int p0), (.int p1), (.int p2), (.int p3), (.int p4)] below meth c T293 L294 2 16 → T293.heap = h277 → Fr n0 L294 → (((v278 = (0 : Int32)) ∧ z298 = (10 : Int32)) ∨ ((¬ (v278 = (0 : Int32))) ∧ (v278 = (1 : Int32)) ∧ z298 = (133 : Int32)) ∨ (∃ (z289 : Int32), (¬ (v278 = (0 : Int32))) ∧ (¬ (v278 = (1 : Int32))) ∧ (v278 = (2 : Int32)) ∧ ((((p4 &&& (1 : Int32)) = (0 : Int32)) ∧ z289 = (13 : Int32)) ∨ ((¬ ((p4 &&& (1 : Int32)) = (0 : Int32))) ∧ z289 = (8232 : Int32))) ∧ z298 = z289) ∨ (∃ (v291 : Int32), (¬ (v278 = (0 : Int32))) ∧ (¬ (v278 = (1 : Int32))) ∧ (¬ (v278 = (2 : Int32))) ∧ ((p4.toUInt32.toUInt16.toUInt32.toInt32) = v291) ∧ z298 = v291)) → own_Go p e below (own_FinW Z consts_1 s 24 3200 (Q0 Z f_CS p0 p1 p2 p3 p4 h0 n0)) (T293.setTop (mkF m 196 #[vI p0, vI p1, vI p2, vI p3, vI p4, vR b277, vI (0 : Int32), vI v1, vI z298, vI v278, .unset, .unset, .unset, .unset, .unset] [])) := by
     intro T293 L294 z298 X295 e296 N297 hj299
     refine own_by (fun _ k => XS.iload X295.here hx rfl (hb hby at_196) rfl k) ?_
     show own_Go p e below _ (T293.setTop (mkF m 198 #[vI p0, vI p1, vI p2, vI p3, vI p4, vR b277, vI (0 : Int32), vI v1, vI z298, vI v278, .unset, .unset, .unset, .unset, .unset] [(.int z298)]))
     refine own_by (fun _ k => XS.bipush X295.here hx rfl (hb hby at_198) k) ?_
     show own_Go p e below _ (T293.setTop (mkF m 200 #[vI p0, vI p1, vI p2, vI p3, vI p4, vR b277, vI (0 : Int32), vI v1, vI z298, vI v278, .unset, .unset, .unset, .unset, .unset] [(.int (10 : Int32)), (.int z298)]))
     have J302 : ∀ (T303 : State) (L304 : List Loc) (z308 : Int32), Stand p l e room_1 (s.setVm T277.vm) m #[(.int p0), (.int p1), (.int p2), (.int p3), (.int p4)] below meth c T303 L304 2 16 → T303.heap = h277 → Fr n0 L304 → (((z298 = (10 : Int32)) ∧ z308 = (1 : Int32)) ∨ ((¬ (z298 = (10 : Int32))) ∧ (z298 = (133 : Int32)) ∧ z308 = (0 : Int32)) ∨ ((¬ (z298 = (10 : Int32))) ∧ (¬ (z298 = (133 : Int32))) ∧ z308 = (0 : Int32))) → own_Go p e below (own_FinW Z consts_1 s 24 3200 (Q0 Z f_CS p0 p1 p2 p3 p4 h0 n0)) (T303.setTop (mkF m 221 #[vI p0, vI p1, vI p2, vI p3, vI p4, vR b277, vI (0 : Int32), vI v1, vI z298, vI v278, .unset, .unset, .unset, .unset, .unset] [(.int z308)])) := by
      intro T303 L304 z308 X305 e306 N307 hj309
      refine own_by (fun _ k => XS.istore X305.here hx rfl (hb hby at_221) rfl (l' := #[vI p0, vI p1, vI p2, vI p3, vI p4, vR b277, vI (0 : Int32), vI v1, vI z298, vI v278, vI z308, .unset, .unset, .unset, .unset]) rfl k) ?_
      show own_Go p e below _ (T303.setTop (mkF m 223 #[vI p0, vI p1, vI p2, vI p3, vI p4, vR b277, vI (0 : Int32), vI v1, vI z298, vI v278, vI z308, .unset, .unset, .unset, .unset] []))
      obtain ⟨T310, h310, X310, e310, E310, A310, D310, -, st310⟩ := newO X305 hx hZ hown (hwd 0 rfl) (hwd 1 rfl) (hwd 2 rfl) e306 (g := (mkF m 223 #[vI p0, vI p1, vI p2, vI p3, vI p4, vR b277, vI (0 : Int32), vI v1, vI z298, vI v278, vI z308, .unset, .unset, .unset, .unset] [])) rfl (hb hby at_223) (by decide) (by decide)
      obtain ⟨b310, g310⟩ : ∃ z, z = h277.size := ⟨_, rfl⟩
      have ge_b310 : n0 ≤ b310 := Nat.le_trans Z277 (Nat.le_of_eq g310.symm)
      have sz_b310 : h0.size ≤ b310 := Nat.le_trans K277.1 (Nat.le_of_eq g310.symm)
      have R310 : CHr Z consts_1 T277.vm h277 T277.vm h310 := CHr.ext E310 CR277.1
      have CR310 : CHr Z consts_1 s.vm h0 T277.vm h310 := CR277.trans R310
      have hk310 : kc277 ≤ h310.size := Nat.le_trans hk277 E310.1
      have S_b310 : Safe Z consts_1 T277.vm h310 b310 := Safe.ext E310 CR277.1 (Safe.new (Nat.le_of_eq g310.symm))
      have K310 : Keep h0 h310 [] := K277.ext E310
      have Z310 : n0 ≤ h310.size := Nat.le_trans Z277 E310.1
      rw [← g310] at A310 D310 st310
      have lt_b310 := A310.lt
      have F_line_b310 : Fld Z h310 b310 "com/example/margay/margay/index/LineCounter" "line" "I" (.int (0 : Int32)) := D310 (Or.inl (hwd 10 rfl)) (ty := .int) (by decide)
      have F_column_b310 : Fld Z h310 b310 "com/example/margay/margay/index/LineCounter" "column" "I" (.int (0 : Int32)) := D310 (Or.inl (hwd 12 rfl)) (ty := .int) (by decide)
      have F_xml11_b310 : Fld Z h310 b310 "com/example/margay/margay/index/LineCounter" "xml11" "Z" (.int (0 : Int32)) := D310 (Or.inr (hwd 27 rfl)) (ty := .boolean) (by decide)
      have F_afterCarriageReturn_b310 : Fld Z h310 b310 "com/example/margay/margay/index/LineCounter" "afterCarriageReturn" "Z" (.int (0 : Int32)) := D310 (Or.inl (hwd 44 rfl)) (ty := .boolean) (by decide)
      refine own_by st310 ?_
      show own_Go p e below _ (T310.setTop (mkF m 226 #[vI p0, vI p1, vI p2, vI p3, vI p4, vR b277, vI (0 : Int32), vI v1, vI z298, vI v278, vI z308, .unset, .unset, .unset, .unset] [(.ref b310)]))
      refine own_by (fun _ k => XS.dup X310.here hx rfl (hb hby at_226) rfl rfl k) ?_
      show own_Go p e below _ (T310.setTop (mkF m 227 #[vI p0, vI p1, vI p2, vI p3, vI p4, vR b277, vI (0 : Int32), vI v1, vI z298, vI v278, vI z308, .unset, .unset, .unset, .unset] [(.ref b310), (.ref b310)]))
      refine own_by (fun _ k => XS.aload X310.here hx rfl (hb hby at_227) rfl rfl k) ?_
      show own_Go p e below _ (T310.setTop (mkF m 229 #[vI p0, vI p1, vI p2, vI p3, vI p4, vR b277, vI (0 : Int32), vI v1, vI z298, vI v278, vI z308, .unset, .unset, .unset, .unset] [(.ref b277), (.ref b310), (.ref b310)]))
      have F311 : Exa Z h310 b277 "java/lang/String" := (A277.ext E310)
      have F312 : Fld Z h310 b277 "java/lang/String" "coder" "B" (.int (0 : Int32)) := (C277.ext E310)
      have F313 : Fld Z h310 b277 "java/lang/String" "value" "[B" (.ref t277) := (F277.ext E310)
      have F314 : own_Arf Z h310 t277 kk277 .byte (3 : Int32) (fun i => .int ((own_li [49, 46, 48]) i)) := (V277'.ext E310)
      have F315 : Sta Z h310 "java/lang/String" "COMPACT_STRINGS" "Z" (.int f_CS) := ((P_S_CS.ext E277).ext E310)
      obtain ⟨_, _, ⟨T316, L316, k316, n316⟩, -, X316', hSq316, hgr316, ⟨Lc316, hQ316, l316, y316, z316, R316⟩, st316⟩ := X310.specialBackS hx (y := (⟨"com/example/margay/margay/index/LineCounter", "<init>", "(Ljava/lang/String;)V"⟩ : MethodName)) rfl hown (mvT hZ (hwd 3 rfl)) (mvT hZ (hwd 4 rfl)) (mvT hZ (hwd 5 rfl)) (by decide) (backOfSH (W := 1) (rmlcR l Z A0 hw [] t277 kk277 (own_li [49, 46, 48]) f_CS b310 b277 (0 : Int32) (0 : Int32) (0 : Int32) (0 : Int32) h310 n0 Z310 F311 F312 F313 F314 F315 hn_CS A310 F_line_b310 ge_b310 F_column_b310 F_xml11_b310 F_afterCarriageReturn_b310) hZ (hwd 5 rfl) (hwd 2 rfl) (by decide) (by decide) hEL CR310.1) (g := (mkF m 229 #[vI p0, vI p1, vI p2, vI p3, vI p4, vR b277, vI (0 : Int32), vI v1, vI z298, vI v278, vI z308, .unset, .unset, .unset, .unset] [(.ref b277), (.ref b310), (.ref b310)])) rfl (by rw [hml]; rfl) (Steps.refl _) (a := b310) (argsL := [(.ref b277)]) (rest := [(.ref b310)]) (lenOf pd_3 rfl) rfl (by show 2 * 0 + _ ≤ _; exact Nat.le_of_eq rfl) (hb hby at_229) (fun _ _ => ⟨rfl, e310, (by decide : 3 + 2 ≤ _), (by decide : 20 + 16 ≤ _)⟩)
      dsimp only [Pt.U, Pt.locs, Pt.cells, Pt.slots] at X316' l316 y316 z316 st316 hQ316 hSq316 hgr316 R316
      subst l316 y316 z316
      obtain ⟨X316, hS, hZ, hown⟩ := rebS hS (by rw [e310]; exact hk310) X316' hSq316 hgr316 hZ hown
      obtain ⟨kc316, hkc316⟩ : ∃ z, z = T316.heap.size := ⟨_, rfl⟩
      rw [← hkc316] at hS
      have hk316 : kc316 ≤ T316.heap.size := Nat.le_of_eq hkc316
      have CR316 : CHr Z consts_1 s.vm h0 T316.vm T316.heap := CR310.trans R316
      obtain ⟨o317, rfl, Nq316, Kq316, F318, F319, F320, F321, F322, hp323⟩ := hQ316
      have N316 := Fr.app N307 Nq316
      have K316 : Keep h0 T316.heap [] := K310.trans Kq316 ((allS (Or.inr sz_b310) all0))
      have Z316 : n0 ≤ T316.heap.size := Nat.le_trans Z310 Kq316.1
      refine own_by (fun _ k => st316.trans k) ?_
      show own_Go p e below _ (T316.setTop (mkF m 232 #[vI p0, vI p1, vI p2, vI p3, vI p4, vR b277, vI (0 : Int32), vI v1, vI z298, vI v278, vI z308, .unset, .unset, .unset, .unset] [(.ref b310)]))
      refine own_by (fun _ k => XS.astore X316.here hx rfl (hb hby at_232) rfl rfl (l' := #[vI p0, vI p1, vI p2, vI p3, vI p4, vR b277, vI (0 : Int32), vI v1, vI z298, vI v278, vI z308, vR b310, .unset, .unset, .unset]) rfl k) ?_
      show own_Go p e below _ (T316.setTop (mkF m 234 #[vI p0, vI p1, vI p2, vI p3, vI p4, vR b277, vI (0 : Int32), vI v1, vI z298, vI v278, vI z308, vR b310, .unset, .unset, .unset] []))
      refine own_by (fun _ k => XS.aload X316.here hx rfl (hb hby at_234) rfl rfl k) ?_
      show own_Go p e below _ (T316.setTop (mkF m 236 #[vI p0, vI p1, vI p2, vI p3, vI p4, vR b277, vI (0 : Int32), vI v1, vI z298, vI v278, vI z308, vR b310, .unset, .unset, .unset] [(.ref b310)]))
      refine own_by (fun _ k => XS.iload X316.here hx rfl (hb hby at_236) rfl k) ?_
      show own_Go p e below _ (T316.setTop (mkF m 238 #[vI p0, vI p1, vI p2, vI p3, vI p4, vR b277, vI (0 : Int32), vI v1, vI z298, vI v278, vI z308, vR b310, .unset, .unset, .unset] [(.int z298), (.ref b310)]))
      obtain ⟨cq324, kq324, qq324a, qq324b, qq324c⟩ := isOf hZ rfl F318
      obtain ⟨_, _, ⟨T324, L324, k324, n324⟩, -, X324, ⟨Lc324, hQ324, l324, y324, z324⟩, st324⟩ := X316.virtualBack hx (y := (⟨"com/example/margay/margay/index/LineCounter", "endsLineWithCarriageReturn", "(C)Z"⟩ : MethodName)) (z := (⟨"com/example/margay/margay/index/LineCounter", "endsLineWithCarriageReturn", "(C)Z"⟩ : MethodName)) hown (mvT hZ (hwd 28 rfl)) (mvT hZ (hwd 29 rfl)) (notFace_of_selects (args := #[]) (mvT hZ (hwd 31 rfl))) (mvT hZ (hwd 31 rfl)) (mvT hZ (hwd 30 rfl)) (by decide) (backOf (W := 0) (rm4 l Z A0 hw [] b310 z298 o317 T316.heap n0 Z316 F321) hZ (hwd 32 rfl) (hwd 2 rfl) (by decide) (by decide)) qq324a qq324c (g := (mkF m 238 #[vI p0, vI p1, vI p2, vI p3, vI p4, vR b277, vI (0 : Int32), vI v1, vI z298, vI v278, vI z308, vR b310, .unset, .unset, .unset] [(.int z298), (.ref b310)])) rfl (by rw [hml]; rfl) (Steps.refl _) (argsL := [(.int z298)]) (rest := []) (lenOf pd_28 rfl) rfl (by show 2 * 0 + _ ≤ _; exact Nat.le_of_eq rfl) (hb hby at_238) (fun _ _ => ⟨rfl, rfl, (by decide : 5 + 0 ≤ _), (by decide : 36 + 0 ≤ _)⟩)
      dsimp only [Pt.U, Pt.locs, Pt.cells, Pt.slots] at X324 l324 y324 z324 st324 hQ324
      subst l324 y324 z324
      obtain ⟨o325, rfl, Nq324, eq324, hp326⟩ := hQ324
      have N324 := Fr.app N316 Nq324
      refine own_by (fun _ k => st324.trans k) ?_
      show own_Go p e below _ (T324.setTop (mkF m 241 #[vI p0, vI p1, vI p2, vI p3, vI p4, vR b277, vI (0 : Int32), vI v1, vI z298, vI v278, vI z308, vR b310, .unset, .unset, .unset] [(.int o325)]))
      refine own_by (fun _ k => XS.istore X324.here hx rfl (hb hby at_241) rfl (l' := #[vI p0, vI p1, vI p2, vI p3, vI p4, vR b277, vI (0 : Int32), vI v1, vI z298, vI v278, vI z308, vR b310, vI o325, .unset, .unset]) rfl k) ?_
      show own_Go p e below _ (T324.setTop (mkF m 243 #[vI p0, vI p1, vI p2, vI p3, vI p4, vR b277, vI (0 : Int32), vI v1, vI z298, vI v278, vI z308, vR b310, vI o325, .unset, .unset] []))
      refine own_by (fun _ k => XS.iload X324.here hx rfl (hb hby at_243) rfl k) ?_
      show own_Go p e below _ (T324.setTop (mkF m 245 #[vI p0, vI p1, vI p2, vI p3, vI p4, vR b277, vI (0 : Int32), vI v1, vI z298, vI v278, vI z308, vR b310, vI o325, .unset, .unset] [(.int o325)]))
      refine own_by (fun _ k => XS.iload X324.here hx rfl (hb hby at_245) rfl k) ?_
      show own_Go p e below _ (T324.setTop (mkF m 247 #[vI p0, vI p1, vI p2, vI p3, vI p4, vR b277, vI (0 : Int32), vI v1, vI z298, vI v278, vI z308, vR b310, vI o325, .unset, .unset] [(.int z308), (.int o325)]))
      by_cases c327 : o325 = z308
      ·skip
       refine own_by (fun _ k => XS.icmpYes X324.here hx rfl (pc0 := 247) (pc' := 252) rfl (hb hby at_247) rfl (teq c327).1 (by decide) (by decide) k) ?_
       show own_Go p e below _ (T324.setTop (mkF m 252 #[vI p0, vI p1, vI p2, vI p3, vI p4, vR b277, vI (0 : Int32), vI v1, vI z298, vI v278, vI z308, vR b310, vI o325, .unset, .unset] []))
       refine own_by (fun _ k => XS.aload X324.here hx rfl (hb hby at_252) rfl rfl k) ?_
       show own_Go p e below _ (T324.setTop (mkF m 254 #[vI p0, vI p1, vI p2, vI p3, vI p4, vR b277, vI (0 : Int32), vI v1, vI z298, vI v278, vI z308, vR b310, vI o325, .unset, .unset] [(.ref b310)]))
       refine own_by (fun _ k => XS.iload X324.here hx rfl (hb hby at_254) rfl k) ?_
       show own_Go p e below _ (T324.setTop (mkF m 256 #[vI p0, vI p1, vI p2, vI p3, vI p4, vR b277, vI (0 : Int32), vI v1, vI z298, vI v278, vI z308, vR b310, vI o325, .unset, .unset] [(.int z298), (.ref b310)]))
       obtain ⟨cq328, kq328, qq328a, qq328b, qq328c⟩ := isOf hZ eq324 F318
       obtain ⟨_, _, ⟨T328, L328, k328, n328⟩, -, X328, ⟨Lc328, hQ328, l328, y328, z328⟩, st328⟩ := X324.virtualBack hx (y := (⟨"com/example/margay/margay/index/LineCounter", "endsLine", "(C)Z"⟩ : MethodName)) (z := (⟨"com/example/margay/margay/index/LineCounter", "endsLine", "(C)Z"⟩ : MethodName)) hown (mvT hZ (hwd 33 rfl)) (mvT hZ (hwd 34 rfl)) (notFace_of_selects (args := #[]) (mvT hZ (hwd 36 rfl))) (mvT hZ (hwd 36 rfl)) (mvT hZ (hwd 35 rfl)) (by decide) (backOf (W := 0) (rm5 l Z A0 hw [] b310 z298 o317 T316.heap n0 Z316 F321) hZ (hwd 37 rfl) (hwd 2 rfl) (by decide) (by decide)) qq328a qq328c (g := (mkF m 256 #[vI p0, vI p1, vI p2, vI p3, vI p4, vR b277, vI (0 : Int32), vI v1, vI z298, vI v278, vI z308, vR b310, vI o325, .unset, .unset] [(.int z298), (.ref b310)])) rfl (by rw [hml]; rfl) (Steps.refl _) (argsL := [(.int z298)]) (rest := []) (lenOf pd_28 rfl) rfl (by show 2 * 0 + _ ≤ _; exact Nat.le_of_eq rfl) (hb hby at_256) (fun _ _ => ⟨rfl, eq324, (by decide : 5 + 0 ≤ _), (by decide : 36 + 0 ≤ _)⟩)
       dsimp only [Pt.U, Pt.locs, Pt.cells, Pt.slots] at X328 l328 y328 z328 st328 hQ328
       subst l328 y328 z328
       obtain ⟨o329, rfl, Nq328, eq328, hp330⟩ := hQ328
       have N328 := Fr.app N324 Nq328
       refine own_by (fun _ k => st328.trans k) ?_
       show own_Go p e below _ (T328.setTop (mkF m 259 #[vI p0, vI p1, vI p2, vI p3, vI p4, vR b277, vI (0 : Int32), vI v1, vI z298, vI v278, vI z308, vR b310, vI o325, .unset, .unset] [(.int o329)]))
       refine own_by (fun _ k => XS.istore X328.here hx rfl (hb hby at_259) rfl (l' := #[vI p0, vI p1, vI p2, vI p3, vI p4, vR b277, vI (0 : Int32), vI v1, vI z298, vI v278, vI z308, vR b310, vI o325, vI o329, .unset]) rfl k) ?_
       show own_Go p e below _ (T328.setTop (mkF m 261 #[vI p0, vI p1, vI p2, vI p3, vI p4, vR b277, vI (0 : Int32), vI v1, vI z298, vI v278, vI z308, vR b310, vI o325, vI o329, .unset] []))
       refine own_by (fun _ k => XS.iload X328.here hx rfl (hb hby at_261) rfl k) ?_
       show own_Go p e below _ (T328.setTop (mkF m 263 #[vI p0, vI p1, vI p2, vI p3, vI p4, vR b277, vI (0 : Int32), vI v1, vI z298, vI v278, vI z308, vR b310, vI o325, vI o329, .unset] [(.int o325)]))
       by_cases c331 : o325 = (0 : Int32)
       ·skip
        refine own_by (fun _ k => XS.ifYes X328.here hx rfl (pc0 := 263) (pc' := 273) rfl (hb hby at_263) rfl ((if0 _ _).trans (teq c331).1) (by decide) (by decide) k) ?_
        show own_Go p e below _ (T328.setTop (mkF m 273 #[vI p0, vI p1, vI p2, vI p3, vI p4, vR b277, vI (0 : Int32), vI v1, vI z298, vI v278, vI z308, vR b310, vI o325, vI o329, .unset] []))
        obtain ⟨T332, h332, X332, e332, E332, A332, D332, -, st332⟩ := newO X328 hx hZ hown (hwd 0 rfl) (hwd 1 rfl) (hwd 2 rfl) eq328 (g := (mkF m 273 #[vI p0, vI p1, vI p2, vI p3, vI p4, vR b277, vI (0 : Int32), vI v1, vI z298, vI v278, vI z308, vR b310, vI o325, vI o329, .unset] [])) rfl (hb hby at_273) (by decide) (by decide)
        obtain ⟨b332, g332⟩ : ∃ z, z = T316.heap.size := ⟨_, rfl⟩
        have ge_b332 : n0 ≤ b332 := Nat.le_trans Z316 (Nat.le_of_eq g332.symm)
        have sz_b332 : h0.size ≤ b332 := Nat.le_trans K316.1 (Nat.le_of_eq g332.symm)
        have R332 : CHr Z consts_1 T316.vm T316.heap T316.vm h332 := CHr.ext E332 CR316.1
        have CR332 : CHr Z consts_1 s.vm h0 T316.vm h332 := CR316.trans R332
        have hk332 : kc316 ≤ h332.size := Nat.le_trans hk316 E332.1
        have S_b332 : Safe Z consts_1 T316.vm h332 b332 := Safe.ext E332 CR316.1 (Safe.new (Nat.le_of_eq g332.symm))
        have K332 : Keep h0 h332 [] := K316.ext E332
        have Z332 : n0 ≤ h332.size := Nat.le_trans Z316 E332.1
        rw [← g332] at A332 D332 st332
        have lt_b332 := A332.lt
        have F_line_b332 : Fld Z h332 b332 "com/example/margay/margay/index/LineCounter" "line" "I" (.int (0 : Int32)) := D332 (Or.inl (hwd 10 rfl)) (ty := .int) (by decide)
        have F_column_b332 : Fld Z h332 b332 "com/example/margay/margay/index/LineCounter" "column" "I" (.int (0 : Int32)) := D332 (Or.inl (hwd 12 rfl)) (ty := .int) (by decide)
        have F_xml11_b332 : Fld Z h332 b332 "com/example/margay/margay/index/LineCounter" "xml11" "Z" (.int (0 : Int32)) := D332 (Or.inr (hwd 27 rfl)) (ty := .boolean) (by decide)
        have F_afterCarriageReturn_b332 : Fld Z h332 b332 "com/example/margay/margay/index/LineCounter" "afterCarriageReturn" "Z" (.int (0 : Int32)) := D332 (Or.inl (hwd 44 rfl)) (ty := .boolean) (by decide)
        refine own_by st332 ?_
        show own_Go p e below _ (T332.setTop (mkF m 276 #[vI p0, vI p1, vI p2, vI p3, vI p4, vR b277, vI (0 : Int32), vI v1, vI z298, vI v278, vI z308, vR b310, vI o325, vI o329, .unset] [(.ref b332)]))
        refine own_by (fun _ k => XS.dup X332.here hx rfl (hb hby at_276) rfl rfl k) ?_
        show own_Go p e below _ (T332.setTop (mkF m 277 #[vI p0, vI p1, vI p2, vI p3, vI p4, vR b277, vI (0 : Int32), vI v1, vI z298, vI v278, vI z308, vR b310, vI o325, vI o329, .unset] [(.ref b332), (.ref b332)]))
        refine own_by (fun _ k => XS.aload X332.here hx rfl (hb hby at_277) rfl rfl k) ?_
        show own_Go p e below _ (T332.setTop (mkF m 279 #[vI p0, vI p1, vI p2, vI p3, vI p4, vR b277, vI (0 : Int32), vI v1, vI z298, vI v278, vI z308, vR b310, vI o325, vI o329, .unset] [(.ref b277), (.ref b332), (.ref b332)]))
        have F333 : Exa Z h332 b277 "java/lang/String" := ((F311.keep Kq316).ext E332)
        have F334 : Fld Z h332 b277 "java/lang/String" "coder" "B" (.int (0 : Int32)) := ((F312.keep Kq316 (ninS (Nat.ne_of_lt (Nat.lt_of_lt_of_le (A277).lt (Nat.le_of_eq g310.symm))) nin0)).ext E332)
        have F335 : Fld Z h332 b277 "java/lang/String" "value" "[B" (.ref t277) := ((F313.keep Kq316 (ninS (Nat.ne_of_lt (Nat.lt_of_lt_of_le (A277).lt (Nat.le_of_eq g310.symm))) nin0)).ext E332)
        have F336 : own_Arf Z h332 t277 kk277 .byte (3 : Int32) (fun i => .int ((own_li [49, 46, 48]) i)) := ((F314.keep Kq316 (ninS (Nat.ne_of_lt (Nat.lt_of_lt_of_le (V277').lt (Nat.le_of_eq g310.symm))) nin0)).ext E332)
        have F337 : Sta Z h332 "java/lang/String" "COMPACT_STRINGS" "Z" (.int f_CS) := ((own_staKeep F315 Kq316 (allS (own_exaPlain A310) all0)).ext E332)
        obtain ⟨_, _, ⟨T338, L338, k338, n338⟩, -, X338', hSq338, hgr338, ⟨Lc338, hQ338, l338, y338, z338, R338⟩, st338⟩ := X332.specialBackS hx (y := (⟨"com/example/margay/margay/index/LineCounter", "<init>", "(Ljava/lang/String;)V"⟩ : MethodName)) rfl hown (mvT hZ (hwd 3 rfl)) (mvT hZ (hwd 4 rfl)) (mvT hZ (hwd 5 rfl)) (by decide) (backOfSH (W := 1) (rmlcR l Z A0 hw [] t277 kk277 (own_li [49, 46, 48]) f_CS b332 b277 (0 : Int32) (0 : Int32) (0 : Int32) (0 : Int32) h332 n0 Z332 F333 F334 F335 F336 F337 hn_CS A332 F_line_b332 ge_b332 F_column_b332 F_xml11_b332 F_afterCarriageReturn_b332) hZ (hwd 5 rfl) (hwd 2 rfl) (by decide) (by decide) hEL CR332.1) (g := (mkF m 279 #[vI p0, vI p1, vI p2, vI p3, vI p4, vR b277, vI (0 : Int32), vI v1, vI z298, vI v278, vI z308, vR b310, vI o325, vI o329, .unset] [(.ref b277), (.ref b332), (.ref b332)])) rfl (by rw [hml]; rfl) (Steps.refl _) (a := b332) (argsL := [(.ref b277)]) (rest := [(.ref b332)]) (lenOf pd_3 rfl) rfl (by show 2 * 0 + _ ≤ _; exact Nat.le_of_eq rfl) (hb hby at_279) (fun _ _ => ⟨rfl, e332, (by decide : 6 + 2 ≤ _), (by decide : 40 + 16 ≤ _)⟩)
        dsimp only [Pt.U, Pt.locs, Pt.cells, Pt.slots] at X338' l338 y338 z338 st338 hQ338 hSq338 hgr338 R338
        subst l338 y338 z338
        obtain ⟨X338, hS, hZ, hown⟩ := rebS hS (by rw [e332]; exact hk332) X338' hSq338 hgr338 hZ hown
        obtain ⟨kc338, hkc338⟩ : ∃ z, z = T338.heap.size := ⟨_, rfl⟩
        rw [← hkc338] at hS
        have hk338 : kc338 ≤ T338.heap.size := Nat.le_of_eq hkc338
        have CR338 : CHr Z consts_1 s.vm h0 T338.vm T338.heap := CR332.trans R338
        obtain ⟨o339, rfl, Nq338, Kq338, F340, F341, F342, F343, F344, hp345⟩ := hQ338
        have N338 := Fr.app N328 Nq338
        have K338 : Keep h0 T338.heap [] := K332.trans Kq338 ((allS (Or.inr sz_b332) all0))
        have Z338 : n0 ≤ T338.heap.size := Nat.le_trans Z332 Kq338.1
        refine own_by (fun _ k => st338.trans k) ?_
        show own_Go p e below _ (T338.setTop (mkF m 282 #[vI p0, vI p1, vI p2, vI p3, vI p4, vR b277, vI (0 : Int32), vI v1, vI z298, vI v278, vI z308, vR b310, vI o325, vI o329, .unset] [(.ref b332)]))
        refine own_by (fun _ k => XS.astore X338.here hx rfl (hb hby at_282) rfl rfl (l' := #[vI p0, vI p1, vI p2, vI p3, vI p4, vR b277, vI (0 : Int32), vI v1, vI z298, vI v278, vI z308, vR b310, vI o325, vI o329, vR b332]) rfl k) ?_
        show own_Go p e below _ (T338.setTop (mkF m 284 #[vI p0, vI p1, vI p2, vI p3, vI p4, vR b277, vI (0 : Int32), vI v1, vI z298, vI v278, vI z308, vR b310, vI o325, vI o329, vR b332] []))
        refine own_by (fun _ k => XS.aload X338.here hx rfl (hb hby at_284) rfl rfl k) ?_
        show own_Go p e below _ (T338.setTop (mkF m 286 #[vI p0, vI p1, vI p2, vI p3, vI p4, vR b277, vI (0 : Int32), vI v1, vI z298, vI v278, vI z308, vR b310, vI o325, vI o329, vR b332] [(.ref b332)]))
        refine own_by (fun _ k => XS.bipush X338.here hx rfl (hb hby at_286) k) ?_
        show own_Go p e below _ (T338.setTop (mkF m 288 #[vI p0, vI p1, vI p2, vI p3, vI p4, vR b277, vI (0 : Int32), vI v1, vI z298, vI v278, vI z308, vR b310, vI o325, vI o329, vR b332] [(.int (13 : Int32)), (.ref b332)]))
        obtain ⟨cq346, kq346, qq346a, qq346b, qq346c⟩ := isOf hZ rfl F340
        obtain ⟨_, _, ⟨T346, L346, k346, n346⟩, -, X346, ⟨Lc346, hQ346, l346, y346, z346⟩, st346⟩ := X338.virtualBack hx (y := (⟨"com/example/margay/margay/index/LineCounter", "count", "(C)V"⟩ : MethodName)) (z := (⟨"com/example/margay/margay/index/LineCounter", "count", "(C)V"⟩ : MethodName)) hown (mvT hZ (hwd 38 rfl)) (mvT hZ (hwd 39 rfl)) (notFace_of_selects (args := #[]) (mvT hZ (hwd 41 rfl))) (mvT hZ (hwd 41 rfl)) (mvT hZ (hwd 40 rfl)) (by decide) (backOf (W := 0) (rm6 l Z A0 hw [] b332 (13 : Int32) (0 : Int32) o339 (1 : Int32) (1 : Int32) T338.heap n0 Z338 F344 F343 F340 F342 ge_b332 F341) hZ (hwd 42 rfl) (hwd 2 rfl) (by decide) (by decide)) qq346a qq346c (g := (mkF m 288 #[vI p0, vI p1, vI p2, vI p3, vI p4, vR b277, vI (0 : Int32), vI v1, vI z298, vI v278, vI z308, vR b310, vI o325, vI o329, vR b332] [(.int (13 : Int32)), (.ref b332)])) rfl (by rw [hml]; rfl) (Steps.refl _) (argsL := [(.int (13 : Int32))]) (rest := []) (lenOf pd_38 rfl) rfl (by show 2 * 0 + _ ≤ _; exact Nat.le_of_eq rfl) (hb hby at_288) (fun _ _ => ⟨rfl, rfl, (by decide : 8 + 0 ≤ _), (by decide : 56 + 0 ≤ _)⟩)
        dsimp only [Pt.U, Pt.locs, Pt.cells, Pt.slots] at X346 l346 y346 z346 st346 hQ346
        subst l346 y346 z346
        obtain ⟨o347, o348, o349, rfl, Nq346, Kq346, F350, F351, F352, F353, F354, hp355⟩ := hQ346
        have N346 := Fr.app N338 Nq346
        have R346 : CHr Z consts_1 T338.vm T338.heap T338.vm T346.heap := CHr.keep Kq346 ((allS (Safe.exa hZ.alike F340 (by decide) (by decide)) all0)) CR338.1
        have CR346 : CHr Z consts_1 s.vm h0 T338.vm T346.heap := CR338.trans R346
        have hk346 : kc338 ≤ T346.heap.size := Nat.le_trans hk338 Kq346.1
        have K346 : Keep h0 T346.heap [] := K338.trans Kq346 ((allS (Or.inr sz_b332) all0))
        have Z346 : n0 ≤ T346.heap.size := Nat.le_trans Z338 Kq346.1
        refine own_by (fun _ k => st346.trans k) ?_
        show own_Go p e below _ (T346.setTop (mkF m 291 #[vI p0, vI p1, vI p2, vI p3, vI p4, vR b277, vI (0 : Int32), vI v1, vI z298, vI v278, vI z308, vR b310, vI o325, vI o329, vR b332] []))
        refine own_by (fun _ k => XS.aload X346.here hx rfl (hb hby at_291) rfl rfl k) ?_
        show own_Go p e below _ (T346.setTop (mkF m 293 #[vI p0, vI p1, vI p2, vI p3, vI p4, vR b277, vI (0 : Int32), vI v1, vI z298, vI v278, vI z308, vR b310, vI o325, vI o329, vR b332] [(.ref b332)]))
        refine own_by (fun _ k => XS.iload X346.here hx rfl (hb hby at_293) rfl k) ?_
        show own_Go p e below _ (T346.setTop (mkF m 295 #[vI p0, vI p1, vI p2, vI p3, vI p4, vR b277, vI (0 : Int32), vI v1, vI z298, vI v278, vI z308, vR b310, vI o325, vI o329, vR b332] [(.int z298), (.ref b332)]))
        obtain ⟨cq356, kq356, qq356a, qq356b, qq356c⟩ := isOf hZ rfl F352
        obtain ⟨_, _, ⟨T356, L356, k356, n356⟩, -, X356, ⟨Lc356, hQ356, l356, y356, z356⟩, st356⟩ := X346.virtualBack hx (y := (⟨"com/example/margay/margay/index/LineCounter", "count", "(C)V"⟩ : MethodName)) (z := (⟨"com/example/margay/margay/index/LineCounter", "count", "(C)V"⟩ : MethodName)) hown (mvT hZ (hwd 38 rfl)) (mvT hZ (hwd 39 rfl)) (notFace_of_selects (args := #[]) (mvT hZ (hwd 41 rfl))) (mvT hZ (hwd 41 rfl)) (mvT hZ (hwd 40 rfl)) (by decide) (backOf (W := 0) (rm6 l Z A0 hw [] b332 z298 o347 o339 o348 o349 T346.heap n0 Z346 F350 F351 F352 F353 ge_b332 F354) hZ (hwd 42 rfl) (hwd 2 rfl) (by decide) (by decide)) qq356a qq356c (g := (mkF m 295 #[vI p0, vI p1, vI p2, vI p3, vI p4, vR b277, vI (0 : Int32), vI v1, vI z298, vI v278, vI z308, vR b310, vI o325, vI o329, vR b332] [(.int z298), (.ref b332)])) rfl (by rw [hml]; rfl) (Steps.refl _) (argsL := [(.int z298)]) (rest := []) (lenOf pd_38 rfl) rfl (by show 2 * 0 + _ ≤ _; exact Nat.le_of_eq rfl) (hb hby at_295) (fun _ _ => ⟨rfl, rfl, (by decide : 8 + 0 ≤ _), (by decide : 56 + 0 ≤ _)⟩)
        dsimp only [Pt.U, Pt.locs, Pt.cells, Pt.slots] at X356 l356 y356 z356 st356 hQ356
        subst l356 y356 z356
        obtain ⟨o357, o358, o359, rfl, Nq356, Kq356, F360, F361, F362, F363, F364, hp365⟩ := hQ356
        have N356 := Fr.app N346 Nq356
        have R356 : CHr Z consts_1 T338.vm T346.heap T338.vm T356.heap := CHr.keep Kq356 ((allS (Safe.exa hZ.alike F352 (by decide) (by decide)) all0)) CR346.1
        have CR356 : CHr Z consts_1 s.vm h0 T338.vm T356.heap := CR346.trans R356
        have hk356 : kc338 ≤ T356.heap.size := Nat.le_trans hk346 Kq356.1
        have K356 : Keep h0 T356.heap [] := K346.trans Kq356 ((allS (Or.inr sz_b332) all0))
        have Z356 : n0 ≤ T356.heap.size := Nat.le_trans Z346 Kq356.1
        refine own_by (fun _ k => st356.trans k) ?_
        show own_Go p e below _ (T356.setTop (mkF m 298 #[vI p0, vI p1, vI p2, vI p3, vI p4, vR b277, vI (0 : Int32), vI v1, vI z298, vI v278, vI z308, vR b310, vI o325, vI o329, vR b332] []))
        refine own_by (fun _ k => XS.iload X356.here hx rfl (hb hby at_298) rfl k) ?_
        show own_Go p e below _ (T356.setTop (mkF m 300 #[vI p0, vI p1, vI p2, vI p3, vI p4, vR b277, vI (0 : Int32), vI v1, vI z298, vI v278, vI z308, vR b310, vI o325, vI o329, vR b332] [(.int z308)]))
        by_cases c366 : z308 = (0 : Int32)
        ·skip
         refine own_by (fun _ k => XS.ifYes X356.here hx rfl (pc0 := 300) (pc' := 327) rfl (hb hby at_300) rfl ((if0 _ _).trans (teq c366).1) (by decide) (by decide) k) ?_
         show own_Go p e below _ (T356.setTop (mkF m 327 #[vI p0, vI p1, vI p2, vI p3, vI p4, vR b277, vI (0 : Int32), vI v1, vI z298, vI v278, vI z308, vR b310, vI o325, vI o329, vR b332] []))
         refine own_by (fun _ k => XS.iload X356.here hx rfl (hb hby at_327) rfl k) ?_
         show own_Go p e below _ (T356.setTop (mkF m 329 #[vI p0, vI p1, vI p2, vI p3, vI p4, vR b277, vI (0 : Int32), vI v1, vI z298, vI v278, vI z308, vR b310, vI o325, vI o329, vR b332] [(.int o329)]))
         by_cases c367 : o329 = (0 : Int32)
         ·skip
          refine own_by (fun _ k => XS.ifYes X356.here hx rfl (pc0 := 329) (pc' := 356) rfl (hb hby at_329) rfl ((if0 _ _).trans (teq c367).1) (by decide) (by decide) k) ?_
          show own_Go p e below _ (T356.setTop (mkF m 356 #[vI p0, vI p1, vI p2, vI p3, vI p4, vR b277, vI (0 : Int32), vI v1, vI z298, vI v278, vI z308, vR b310, vI o325, vI o329, vR b332] []))
          refine own_by (fun _ k => XS.aload X356.here hx rfl (hb hby at_356) rfl rfl k) ?_
          show own_Go p e below _ (T356.setTop (mkF m 358 #[vI p0, vI p1, vI p2, vI p3, vI p4, vR b277, vI (0 : Int32), vI v1, vI z298, vI v278, vI z308, vR b310, vI o325, vI o329, vR b332] [(.ref b332)]))
          obtain ⟨cq368, kq368, qq368a, qq368b, qq368c⟩ := isOf hZ rfl F362
          obtain ⟨_, _, ⟨T368, L368, k368, n368⟩, -, X368, ⟨Lc368, hQ368, l368, y368, z368⟩, st368⟩ := X356.virtualBack hx (y := (⟨"com/example/margay/margay/index/LineCounter", "line", "()I"⟩ : MethodName)) (z := (⟨"com/example/margay/margay/index/LineCounter", "line", "()I"⟩ : MethodName)) hown (mvT hZ (hwd 47 rfl)) (mvT hZ (hwd 48 rfl)) (notFace_of_selects (args := #[]) (mvT hZ (hwd 50 rfl))) (mvT hZ (hwd 50 rfl)) (mvT hZ (hwd 49 rfl)) (by decide) (backOf (W := 0) (rm7 l Z A0 hw [] b332 o359 T356.heap n0 Z356 F364) hZ (hwd 51 rfl) (hwd 2 rfl) (by decide) (by decide)) qq368a qq368c (g := (mkF m 358 #[vI p0, vI p1, vI p2, vI p3, vI p4, vR b277, vI (0 : Int32), vI v1, vI z298, vI v278, vI z308, vR b310, vI o325, vI o329, vR b332] [(.ref b332)])) rfl (by rw [hml]; rfl) (Steps.refl _) (argsL := []) (rest := []) (lenOf pd_47 rfl) rfl (by show 2 * 0 + _ ≤ _; exact Nat.le_of_eq rfl) (hb hby at_358) (fun _ _ => ⟨rfl, rfl, (by decide : 8 + 0 ≤ _), (by decide : 56 + 0 ≤ _)⟩)
          dsimp only [Pt.U, Pt.locs, Pt.cells, Pt.slots] at X368 l368 y368 z368 st368 hQ368
          subst l368 y368 z368
          obtain ⟨rfl, Nq368, eq368⟩ := hQ368
          have N368 := Fr.app N356 Nq368
          refine own_by (fun _ k => st368.trans k) ?_
          show own_Go p e below _ (T368.setTop (mkF m 361 #[vI p0, vI p1, vI p2, vI p3, vI p4, vR b277, vI (0 : Int32), vI v1, vI z298, vI v278, vI z308, vR b310, vI o325, vI o329, vR b332] [(.int o359)]))
          refine own_by (fun _ k => XS.iconst X368.here hx rfl (hb hby at_361) k) ?_
          show own_Go p e below _ (T368.setTop (mkF m 362 #[vI p0, vI p1, vI p2, vI p3, vI p4, vR b277, vI (0 : Int32), vI v1, vI z298, vI v278, vI z308, vR b310, vI o325, vI o329, vR b332] [(.int (2 : Int32)), (.int o359)]))
          by_cases c369 : o359 = (2 : Int32)
          ·skip
           refine own_by (fun _ k => XS.icmpNo X368.here hx rfl (hb hby at_362) rfl (teq c369).2 k) ?_
           show own_Go p e below _ (T368.setTop (mkF m 365 #[vI p0, vI p1, vI p2, vI p3, vI p4, vR b277, vI (0 : Int32), vI v1, vI z298, vI v278, vI z308, vR b310, vI o325, vI o329, vR b332] []))
           refine own_by (fun _ k => XS.aload X368.here hx rfl (hb hby at_365) rfl rfl k) ?_
           show own_Go p e below _ (T368.setTop (mkF m 367 #[vI p0, vI p1, vI p2, vI p3, vI p4, vR b277, vI (0 : Int32), vI v1, vI z298, vI v278, vI z308, vR b310, vI o325, vI o329, vR b332] [(.ref b332)]))
           obtain ⟨cq370, kq370, qq370a, qq370b, qq370c⟩ := isOf hZ eq368 F362
           obtain ⟨_, _, ⟨T370, L370, k370, n370⟩, -, X370, ⟨Lc370, hQ370, l370, y370, z370⟩, st370⟩ := X368.virtualBack hx (y := (⟨"com/example/margay/margay/index/LineCounter", "column", "()I"⟩ : MethodName)) (z := (⟨"com/example/margay/margay/index/LineCounter", "column", "()I"⟩ : MethodName)) hown (mvT hZ (hwd 52 rfl)) (mvT hZ (hwd 53 rfl)) (notFace_of_selects (args := #[]) (mvT hZ (hwd 55 rfl))) (mvT hZ (hwd 55 rfl)) (mvT hZ (hwd 54 rfl)) (by decide) (backOf (W := 0) (rm8 l Z A0 hw [] b332 o358 T356.heap n0 Z356 F363) hZ (hwd 56 rfl) (hwd 2 rfl) (by decide) (by decide)) qq370a qq370c (g := (mkF m 367 #[vI p0, vI p1, vI p2, vI p3, vI p4, vR b277, vI (0 : Int32), vI v1, vI z298, vI v278, vI z308, vR b310, vI o325, vI o329, vR b332] [(.ref b332)])) rfl (by rw [hml]; rfl) (Steps.refl _) (argsL := []) (rest := []) (lenOf pd_47 rfl) rfl (by show 2 * 0 + _ ≤ _; exact Nat.le_of_eq rfl) (hb hby at_367) (fun _ _ => ⟨rfl, eq368, (by decide : 8 + 0 ≤ _), (by decide : 56 + 0 ≤ _)⟩)
           dsimp only [Pt.U, Pt.locs, Pt.cells, Pt.slots] at X370 l370 y370 z370 st370 hQ370
           subst l370 y370 z370
           obtain ⟨rfl, Nq370, eq370⟩ := hQ370
           have N370 := Fr.app N368 Nq370
           refine own_by (fun _ k => st370.trans k) ?_
           show own_Go p e below _ (T370.setTop (mkF m 370 #[vI p0, vI p1, vI p2, vI p3, vI p4, vR b277, vI (0 : Int32), vI v1, vI z298, vI v278, vI z308, vR b310, vI o325, vI o329, vR b332] [(.int o358)]))
           refine own_by (fun _ k => XS.iconst X370.here hx rfl (hb hby at_370) k) ?_
           show own_Go p e below _ (T370.setTop (mkF m 371 #[vI p0, vI p1, vI p2, vI p3, vI p4, vR b277, vI (0 : Int32), vI v1, vI z298, vI v278, vI z308, vR b310, vI o325, vI o329, vR b332] [(.int (2 : Int32)), (.int o358)]))
           by_cases c371 : o358 = (2 : Int32)
           ·skip
            refine own_by (fun _ k => XS.icmpNo X370.here hx rfl (hb hby at_371) rfl (teq c371).2 k) ?_
            show own_Go p e below _ (T370.setTop (mkF m 374 #[vI p0, vI p1, vI p2, vI p3, vI p4, vR b277, vI (0 : Int32), vI v1, vI z298, vI v278, vI z308, vR b310, vI o325, vI o329, vR b332] []))
            refine own_by (fun _ k => XS.iconst X370.here hx rfl (hb hby at_374) k) ?_
            show own_Go p e below _ (T370.setTop (mkF m 375 #[vI p0, vI p1, vI p2, vI p3, vI p4, vR b277, vI (0 : Int32), vI v1, vI z298, vI v278, vI z308, vR b310, vI o325, vI o329, vR b332] [(.int (1 : Int32))]))
            refine own_by (fun _ k => XS.goto X370.here hx rfl (pc0 := 375) (pc' := 379) rfl (hb hby at_375) (by decide) (by decide) k) ?_
            show own_Go p e below _ (T370.setTop (mkF m 379 #[vI p0, vI p1, vI p2, vI p3, vI p4, vR b277, vI (0 : Int32), vI v1, vI z298, vI v278, vI z308, vR b310, vI o325, vI o329, vR b332] [(.int (1 : Int32))]))
            exact own_retNW X370 hx hS hk356 hZ hEL hh CR356 (t := .boolean) Bd.returns (by simp) (hb hby at_379) hlk eq370 ⟨rfl, N370⟩ (by decide) (by decide)
           ·skip
            refine own_by (fun _ k => XS.icmpYes X370.here hx rfl (pc0 := 371) (pc' := 378) rfl (hb hby at_371) rfl (feq c371).2 (by decide) (by decide) k) ?_
            show own_Go p e below _ (T370.setTop (mkF m 378 #[vI p0, vI p1, vI p2, vI p3, vI p4, vR b277, vI (0 : Int32), vI v1, vI z298, vI v278, vI z308, vR b310, vI o325, vI o329, vR b332] []))
            refine own_by (fun _ k => XS.iconst X370.here hx rfl (hb hby at_378) k) ?_
            show own_Go p e below _ (T370.setTop (mkF m 379 #[vI p0, vI p1, vI p2, vI p3, vI p4, vR b277, vI (0 : Int32), vI v1, vI z298, vI v278, vI z308, vR b310, vI o325, vI o329, vR b332] [(.int (0 : Int32))]))
            exact own_retNW X370 hx hS hk356 hZ hEL hh CR356 (t := .boolean) Bd.returns (by simp) (hb hby at_379) hlk eq370 ⟨((ob_0_42 f_CS p0 p3 p4 v1 v278 z298 z308 o317 o325 o329 o339 o347 o348 o349 o357 o358 o359 hn_CS hv1 c2 c128 c276 hv278 hj299 hj309 hp323 hp326 c327 hp330 c331 hp345 hp355 hp365 c366 c367 c369 c371)).elim, N370⟩ (by decide) (by decide)
          ·skip
           refine own_by (fun _ k => XS.icmpYes X368.here hx rfl (pc0 := 362) (pc' := 378) rfl (hb hby at_362) rfl (feq c369).2 (by decide) (by decide) k) ?_
           show own_Go p e below _ (T368.setTop (mkF m 378 #[vI p0, vI p1, vI p2, vI p3, vI p4, vR b277, vI (0 : Int32), vI v1, vI z298, vI v278, vI z308, vR b310, vI o325, vI o329, vR b332] []))
           refine own_by (fun _ k => XS.iconst X368.here hx rfl (hb hby at_378) k) ?_
           show own_Go p e below _ (T368.setTop (mkF m 379 #[vI p0, vI p1, vI p2, vI p3, vI p4, vR b277, vI (0 : Int32), vI v1, vI z298, vI v278, vI z308, vR b310, vI o325, vI o329, vR b332] [(.int (0 : Int32))]))
           exact own_retNW X368 hx hS hk356 hZ hEL hh CR356 (t := .boolean) Bd.returns (by simp) (hb hby at_379) hlk eq368 ⟨((ob_0_43 f_CS p0 p3 p4 v1 v278 z298 z308 o317 o325 o329 o339 o347 o348 o349 o357 o358 o359 hn_CS hv1 c2 c128 c276 hv278 hj299 hj309 hp323 hp326 c327 hp330 c331 hp345 hp355 hp365 c366 c367 c369)).elim, N368⟩ (by decide) (by decide)
         ·skip
          refine own_by (fun _ k => XS.ifNo X356.here hx rfl (hb hby at_329) rfl ((if0 _ _).trans (feq c367).1) k) ?_
          show own_Go p e below _ (T356.setTop (mkF m 332 #[vI p0, vI p1, vI p2, vI p3, vI p4, vR b277, vI (0 : Int32), vI v1, vI z298, vI v278, vI z308, vR b310, vI o325, vI o329, vR b332] []))
          refine own_by (fun _ k => XS.aload X356.here hx rfl (hb hby at_332) rfl rfl k) ?_
          show own_Go p e below _ (T356.setTop (mkF m 334 #[vI p0, vI p1, vI p2, vI p3, vI p4, vR b277, vI (0 : Int32), vI v1, vI z298, vI v278, vI z308, vR b310, vI o325, vI o329, vR b332] [(.ref b332)]))
          obtain ⟨cq372, kq372, qq372a, qq372b, qq372c⟩ := isOf hZ rfl F362
          obtain ⟨_, _, ⟨T372, L372, k372, n372⟩, -, X372, ⟨Lc372, hQ372, l372, y372, z372⟩, st372⟩ := X356.virtualBack hx (y := (⟨"com/example/margay/margay/index/LineCounter", "line", "()I"⟩ : MethodName)) (z := (⟨"com/example/margay/margay/index/LineCounter", "line", "()I"⟩ : MethodName)) hown (mvT hZ (hwd 47 rfl)) (mvT hZ (hwd 48 rfl)) (notFace_of_selects (args := #[]) (mvT hZ (hwd 50 rfl))) (mvT hZ (hwd 50 rfl)) (mvT hZ (hwd 49 rfl)) (by decide) (backOf (W := 0) (rm7 l Z A0 hw [] b332 o359 T356.heap n0 Z356 F364) hZ (hwd 51 rfl) (hwd 2 rfl) (by decide) (by decide)) qq372a qq372c (g := (mkF m 334 #[vI p0, vI p1, vI p2, vI p3, vI p4, vR b277, vI (0 : Int32), vI v1, vI z298, vI v278, vI z308, vR b310, vI o325, vI o329, vR b332] [(.ref b332)])) rfl (by rw [hml]; rfl) (Steps.refl _) (argsL := []) (rest := []) (lenOf pd_47 rfl) rfl (by show 2 * 0 + _ ≤ _; exact Nat.le_of_eq rfl) (hb hby at_334) (fun _ _ => ⟨rfl, rfl, (by decide : 8 + 0 ≤ _), (by decide : 56 + 0 ≤ _)⟩)
          dsimp only [Pt.U, Pt.locs, Pt.cells, Pt.slots] at X372 l372 y372 z372 st372 hQ372
          subst l372 y372 z372
          obtain ⟨rfl, Nq372, eq372⟩ := hQ372
          have N372 := Fr.app N356 Nq372
          refine own_by (fun _ k => st372.trans k) ?_
          show own_Go p e below _ (T372.setTop (mkF m 337 #[vI p0, vI p1, vI p2, vI p3, vI p4, vR b277, vI (0 : Int32), vI v1, vI z298, vI v278, vI z308, vR b310, vI o325, vI o329, vR b332] [(.int o359)]))
          refine own_by (fun _ k => XS.iconst X372.here hx rfl (hb hby at_337) k) ?_
          show own_Go p e below _ (T372.setTop (mkF m 338 #[vI p0, vI p1, vI p2, vI p3, vI p4, vR b277, vI (0 : Int32), vI v1, vI z298, vI v278, vI z308, vR b310, vI o325, vI o329, vR b332] [(.int (3 : Int32)), (.int o359)]))
          by_cases c373 : o359 = (3 : Int32)
          ·skip
           refine own_by (fun _ k => XS.icmpNo X372.here hx rfl (hb hby at_338) rfl (teq c373).2 k) ?_
           show own_Go p e below _ (T372.setTop (mkF m 341 #[vI p0, vI p1, vI p2, vI p3, vI p4, vR b277, vI (0 : Int32), vI v1, vI z298, vI v278, vI z308, vR b310, vI o325, vI o329, vR b332] []))
           refine own_by (fun _ k => XS.aload X372.here hx rfl (hb hby at_341) rfl rfl k) ?_
           show own_Go p e below _ (T372.setTop (mkF m 343 #[vI p0, vI p1, vI p2, vI p3, vI p4, vR b277, vI (0 : Int32), vI v1, vI z298, vI v278, vI z308, vR b310, vI o325, vI o329, vR b332] [(.ref b332)]))
           obtain ⟨cq374, kq374, qq374a, qq374b, qq374c⟩ := isOf hZ eq372 F362
           obtain ⟨_, _, ⟨T374, L374, k374, n374⟩, -, X374, ⟨Lc374, hQ374, l374, y374, z374⟩, st374⟩ := X372.virtualBack hx (y := (⟨"com/example/margay/margay/index/LineCounter", "column", "()I"⟩ : MethodName)) (z := (⟨"com/example/margay/margay/index/LineCounter", "column", "()I"⟩ : MethodName)) hown (mvT hZ (hwd 52 rfl)) (mvT hZ (hwd 53 rfl)) (notFace_of_selects (args := #[]) (mvT hZ (hwd 55 rfl))) (mvT hZ (hwd 55 rfl)) (mvT hZ (hwd 54 rfl)) (by decide) (backOf (W := 0) (rm8 l Z A0 hw [] b332 o358 T356.heap n0 Z356 F363) hZ (hwd 56 rfl) (hwd 2 rfl) (by decide) (by decide)) qq374a qq374c (g := (mkF m 343 #[vI p0, vI p1, vI p2, vI p3, vI p4, vR b277, vI (0 : Int32), vI v1, vI z298, vI v278, vI z308, vR b310, vI o325, vI o329, vR b332] [(.ref b332)])) rfl (by rw [hml]; rfl) (Steps.refl _) (argsL := []) (rest := []) (lenOf pd_47 rfl) rfl (by show 2 * 0 + _ ≤ _; exact Nat.le_of_eq rfl) (hb hby at_343) (fun _ _ => ⟨rfl, eq372, (by decide : 8 + 0 ≤ _), (by decide : 56 + 0 ≤ _)⟩)
           dsimp only [Pt.U, Pt.locs, Pt.cells, Pt.slots] at X374 l374 y374 z374 st374 hQ374
           subst l374 y374 z374
           obtain ⟨rfl, Nq374, eq374⟩ := hQ374
           have N374 := Fr.app N372 Nq374
           refine own_by (fun _ k => st374.trans k) ?_
           show own_Go p e below _ (T374.setTop (mkF m 346 #[vI p0, vI p1, vI p2, vI p3, vI p4, vR b277, vI (0 : Int32), vI v1, vI z298, vI v278, vI z308, vR b310, vI o325, vI o329, vR b332] [(.int o358)]))
           refine own_by (fun _ k => XS.iconst X374.here hx rfl (hb hby at_346) k) ?_
           show own_Go p e below _ (T374.setTop (mkF m 347 #[vI p0, vI p1, vI p2, vI p3, vI p4, vR b277, vI (0 : Int32), vI v1, vI z298, vI v278, vI z308, vR b310, vI o325, vI o329, vR b332] [(.int (1 : Int32)), (.int o358)]))
           by_cases c375 : o358 = (1 : Int32)
           ·skip
            refine own_by (fun _ k => XS.icmpNo X374.here hx rfl (hb hby at_347) rfl (teq c375).2 k) ?_
            show own_Go p e below _ (T374.setTop (mkF m 350 #[vI p0, vI p1, vI p2, vI p3, vI p4, vR b277, vI (0 : Int32), vI v1, vI z298, vI v278, vI z308, vR b310, vI o325, vI o329, vR b332] []))
            refine own_by (fun _ k => XS.iconst X374.here hx rfl (hb hby at_350) k) ?_
            show own_Go p e below _ (T374.setTop (mkF m 351 #[vI p0, vI p1, vI p2, vI p3, vI p4, vR b277, vI (0 : Int32), vI v1, vI z298, vI v278, vI z308, vR b310, vI o325, vI o329, vR b332] [(.int (1 : Int32))]))
            refine own_by (fun _ k => XS.goto X374.here hx rfl (pc0 := 351) (pc' := 355) rfl (hb hby at_351) (by decide) (by decide) k) ?_
            show own_Go p e below _ (T374.setTop (mkF m 355 #[vI p0, vI p1, vI p2, vI p3, vI p4, vR b277, vI (0 : Int32), vI v1, vI z298, vI v278, vI z308, vR b310, vI o325, vI o329, vR b332] [(.int (1 : Int32))]))
            exact own_retNW X374 hx hS hk356 hZ hEL hh CR356 (t := .boolean) Bd.returns (by simp) (hb hby at_355) hlk eq374 ⟨rfl, N374⟩ (by decide) (by decide)
           ·skip
            refine own_by (fun _ k => XS.icmpYes X374.here hx rfl (pc0 := 347) (pc' := 354) rfl (hb hby at_347) rfl (feq c375).2 (by decide) (by decide) k) ?_
            show own_Go p e below _ (T374.setTop (mkF m 354 #[vI p0, vI p1, vI p2, vI p3, vI p4, vR b277, vI (0 : Int32), vI v1, vI z298, vI v278, vI z308, vR b310, vI o325, vI o329, vR b332] []))
            refine own_by (fun _ k => XS.iconst X374.here hx rfl (hb hby at_354) k) ?_
            show own_Go p e below _ (T374.setTop (mkF m 355 #[vI p0, vI p1, vI p2, vI p3, vI p4, vR b277, vI (0 : Int32), vI v1, vI z298, vI v278, vI z308, vR b310, vI o325, vI o329, vR b332] [(.int (0 : Int32))]))
            exact own_retNW X374 hx hS hk356 hZ hEL hh CR356 (t := .boolean) Bd.returns (by simp) (hb hby at_355) hlk eq374 ⟨((ob_0_44 f_CS p0 p3 p4 v1 v278 z298 z308 o317 o325 o329 o339 o347 o348 o349 o357 o358 o359 hn_CS hv1 c2 c128 c276 hv278 hj299 hj309 hp323 hp326 c327 hp330 c331 hp345 hp355 hp365 c366 c367 c373 c375)).elim, N374⟩ (by decide) (by decide)
          ·skip
           refine own_by (fun _ k => XS.icmpYes X372.here hx rfl (pc0 := 338) (pc' := 354) rfl (hb hby at_338) rfl (feq c373).2 (by decide) (by decide) k) ?_
           show own_Go p e below _ (T372.setTop (mkF m 354 #[vI p0, vI p1, vI p2, vI p3, vI p4, vR b277, vI (0 : Int32), vI v1, vI z298, vI v278, vI z308, vR b310, vI o325, vI o329, vR b332] []))
           refine own_by (fun _ k => XS.iconst X372.here hx rfl (hb hby at_354) k) ?_
           show own_Go p e below _ (T372.setTop (mkF m 355 #[vI p0, vI p1, vI p2, vI p3, vI p4, vR b277, vI (0 : Int32), vI v1, vI z298, vI v278, vI z308, vR b310, vI o325, vI o329, vR b332] [(.int (0 : Int32))]))
           exact own_retNW X372 hx hS hk356 hZ hEL hh CR356 (t := .boolean) Bd.returns (by simp) (hb hby at_355) hlk eq372 ⟨((ob_0_45 f_CS p0 p3 p4 v1 v278 z298 z308 o317 o325 o329 o339 o347 o348 o349 o357 o358 o359 hn_CS hv1 c2 c128 c276 hv278 hj299 hj309 hp323 hp326 c327 hp330 c331 hp345 hp355 hp365 c366 c367 c373)).elim, N372⟩ (by decide) (by decide)
        ·skip
         refine own_by (fun _ k => XS.ifNo X356.here hx rfl (hb hby at_300) rfl ((if0 _ _).trans (feq c366).1) k) ?_
         show own_Go p e below _ (T356.setTop (mkF m 303 #[vI p0, vI p1, vI p2, vI p3, vI p4, vR b277, vI (0 : Int32), vI v1, vI z298, vI v278, vI z308, vR b310, vI o325, vI o329, vR b332] []))
         refine own_by (fun _ k => XS.aload X356.here hx rfl (hb hby at_303) rfl rfl k) ?_
         show own_Go p e below _ (T356.setTop (mkF m 305 #[vI p0, vI p1, vI p2, vI p3, vI p4, vR b277, vI (0 : Int32), vI v1, vI z298, vI v278, vI z308, vR b310, vI o325, vI o329, vR b332] [(.ref b332)]))
         obtain ⟨cq376, kq376, qq376a, qq376b, qq376c⟩ := isOf hZ rfl F362
         obtain ⟨_, _, ⟨T376, L376, k376, n376⟩, -, X376, ⟨Lc376, hQ376, l376, y376, z376⟩, st376⟩ := X356.virtualBack hx (y := (⟨"com/example/margay/margay/index/LineCounter", "line", "()I"⟩ : MethodName)) (z := (⟨"com/example/margay/margay/index/LineCounter", "line", "()I"⟩ : MethodName)) hown (mvT hZ (hwd 47 rfl)) (mvT hZ (hwd 48 rfl)) (notFace_of_selects (args := #[]) (mvT hZ (hwd 50 rfl))) (mvT hZ (hwd 50 rfl)) (mvT hZ (hwd 49 rfl)) (by decide) (backOf (W := 0) (rm7 l Z A0 hw [] b332 o359 T356.heap n0 Z356 F364) hZ (hwd 51 rfl) (hwd 2 rfl) (by decide) (by decide)) qq376a qq376c (g := (mkF m 305 #[vI p0, vI p1, vI p2, vI p3, vI p4, vR b277, vI (0 : Int32), vI v1, vI z298, vI v278, vI z308, vR b310, vI o325, vI o329, vR b332] [(.ref b332)])) rfl (by rw [hml]; rfl) (Steps.refl _) (argsL := []) (rest := []) (lenOf pd_47 rfl) rfl (by show 2 * 0 + _ ≤ _; exact Nat.le_of_eq rfl) (hb hby at_305) (fun _ _ => ⟨rfl, rfl, (by decide : 8 + 0 ≤ _), (by decide : 56 + 0 ≤ _)⟩)
         dsimp only [Pt.U, Pt.locs, Pt.cells, Pt.slots] at X376 l376 y376 z376 st376 hQ376
         subst l376 y376 z376
         obtain ⟨rfl, Nq376, eq376⟩ := hQ376
         have N376 := Fr.app N356 Nq376
         refine own_by (fun _ k => st376.trans k) ?_
         show own_Go p e below _ (T376.setTop (mkF m 308 #[vI p0, vI p1, vI p2, vI p3, vI p4, vR b277, vI (0 : Int32), vI v1, vI z298, vI v278, vI z308, vR b310, vI o325, vI o329, vR b332] [(.int o359)]))
         refine own_by (fun _ k => XS.iconst X376.here hx rfl (hb hby at_308) k) ?_
         show own_Go p e below _ (T376.setTop (mkF m 309 #[vI p0, vI p1, vI p2, vI p3, vI p4, vR b277, vI (0 : Int32), vI v1, vI z298, vI v278, vI z308, vR b310, vI o325, vI o329, vR b332] [(.int (2 : Int32)), (.int o359)]))
         by_cases c377 : o359 = (2 : Int32)
         ·skip
          refine own_by (fun _ k => XS.icmpNo X376.here hx rfl (hb hby at_309) rfl (teq c377).2 k) ?_
          show own_Go p e below _ (T376.setTop (mkF m 312 #[vI p0, vI p1, vI p2, vI p3, vI p4, vR b277, vI (0 : Int32), vI v1, vI z298, vI v278, vI z308, vR b310, vI o325, vI o329, vR b332] []))
          refine own_by (fun _ k => XS.aload X376.here hx rfl (hb hby at_312) rfl rfl k) ?_
          show own_Go p e below _ (T376.setTop (mkF m 314 #[vI p0, vI p1, vI p2, vI p3, vI p4, vR b277, vI (0 : Int32), vI v1, vI z298, vI v278, vI z308, vR b310, vI o325, vI o329, vR b332] [(.ref b332)]))
          obtain ⟨cq378, kq378, qq378a, qq378b, qq378c⟩ := isOf hZ eq376 F362
          obtain ⟨_, _, ⟨T378, L378, k378, n378⟩, -, X378, ⟨Lc378, hQ378, l378, y378, z378⟩, st378⟩ := X376.virtualBack hx (y := (⟨"com/example/margay/margay/index/LineCounter", "column", "()I"⟩ : MethodName)) (z := (⟨"com/example/margay/margay/index/LineCounter", "column", "()I"⟩ : MethodName)) hown (mvT hZ (hwd 52 rfl)) (mvT hZ (hwd 53 rfl)) (notFace_of_selects (args := #[]) (mvT hZ (hwd 55 rfl))) (mvT hZ (hwd 55 rfl)) (mvT hZ (hwd 54 rfl)) (by decide) (backOf (W := 0) (rm8 l Z A0 hw [] b332 o358 T356.heap n0 Z356 F363) hZ (hwd 56 rfl) (hwd 2 rfl) (by decide) (by decide)) qq378a qq378c (g := (mkF m 314 #[vI p0, vI p1, vI p2, vI p3, vI p4, vR b277, vI (0 : Int32), vI v1, vI z298, vI v278, vI z308, vR b310, vI o325, vI o329, vR b332] [(.ref b332)])) rfl (by rw [hml]; rfl) (Steps.refl _) (argsL := []) (rest := []) (lenOf pd_47 rfl) rfl (by show 2 * 0 + _ ≤ _; exact Nat.le_of_eq rfl) (hb hby at_314) (fun _ _ => ⟨rfl, eq376, (by decide : 8 + 0 ≤ _), (by decide : 56 + 0 ≤ _)⟩)
          dsimp only [Pt.U, Pt.locs, Pt.cells, Pt.slots] at X378 l378 y378 z378 st378 hQ378
          subst l378 y378 z378
          obtain ⟨rfl, Nq378, eq378⟩ := hQ378
          have N378 := Fr.app N376 Nq378
          refine own_by (fun _ k => st378.trans k) ?_
          show own_Go p e below _ (T378.setTop (mkF m 317 #[vI p0, vI p1, vI p2, vI p3, vI p4, vR b277, vI (0 : Int32), vI v1, vI z298, vI v278, vI z308, vR b310, vI o325, vI o329, vR b332] [(.int o358)]))
          refine own_by (fun _ k => XS.iconst X378.here hx rfl (hb hby at_317) k) ?_
          show own_Go p e below _ (T378.setTop (mkF m 318 #[vI p0, vI p1, vI p2, vI p3, vI p4, vR b277, vI (0 : Int32), vI v1, vI z298, vI v278, vI z308, vR b310, vI o325, vI o329, vR b332] [(.int (1 : Int32)), (.int o358)]))
          by_cases c379 : o358 = (1 : Int32)
          ·skip
           refine own_by (fun _ k => XS.icmpNo X378.here hx rfl (hb hby at_318) rfl (teq c379).2 k) ?_
           show own_Go p e below _ (T378.setTop (mkF m 321 #[vI p0, vI p1, vI p2, vI p3, vI p4, vR b277, vI (0 : Int32), vI v1, vI z298, vI v278, vI z308, vR b310, vI o325, vI o329, vR b332] []))
           refine own_by (fun _ k => XS.iconst X378.here hx rfl (hb hby at_321) k) ?_
           show own_Go p e below _ (T378.setTop (mkF m 322 #[vI p0, vI p1, vI p2, vI p3, vI p4, vR b277, vI (0 : Int32), vI v1, vI z298, vI v278, vI z308, vR b310, vI o325, vI o329, vR b332] [(.int (1 : Int32))]))
           refine own_by (fun _ k => XS.goto X378.here hx rfl (pc0 := 322) (pc' := 326) rfl (hb hby at_322) (by decide) (by decide) k) ?_
           show own_Go p e below _ (T378.setTop (mkF m 326 #[vI p0, vI p1, vI p2, vI p3, vI p4, vR b277, vI (0 : Int32), vI v1, vI z298, vI v278, vI z308, vR b310, vI o325, vI o329, vR b332] [(.int (1 : Int32))]))
           exact own_retNW X378 hx hS hk356 hZ hEL hh CR356 (t := .boolean) Bd.returns (by simp) (hb hby at_326) hlk eq378 ⟨rfl, N378⟩ (by decide) (by decide)
          ·skip
           refine own_by (fun _ k => XS.icmpYes X378.here hx rfl (pc0 := 318) (pc' := 325) rfl (hb hby at_318) rfl (feq c379).2 (by decide) (by decide) k) ?_
           show own_Go p e below _ (T378.setTop (mkF m 325 #[vI p0, vI p1, vI p2, vI p3, vI p4, vR b277, vI (0 : Int32), vI v1, vI z298, vI v278, vI z308, vR b310, vI o325, vI o329, vR b332] []))
           refine own_by (fun _ k => XS.iconst X378.here hx rfl (hb hby at_325) k) ?_
           show own_Go p e below _ (T378.setTop (mkF m 326 #[vI p0, vI p1, vI p2, vI p3, vI p4, vR b277, vI (0 : Int32), vI v1, vI z298, vI v278, vI z308, vR b310, vI o325, vI o329, vR b332] [(.int (0 : Int32))]))
           exact own_retNW X378 hx hS hk356 hZ hEL hh CR356 (t := .boolean) Bd.returns (by simp) (hb hby at_326) hlk eq378 ⟨((ob_0_46 f_CS p0 p3 p4 v1 v278 z298 z308 o317 o325 o329 o339 o347 o348 o349 o357 o358 o359 hn_CS hv1 c2 c128 c276 hv278 hj299 hj309 hp323 hp326 c327 hp330 c331 hp345 hp355 hp365 c366 c377 c379)).elim, N378⟩ (by decide) (by decide)
         ·skip
          refine own_by (fun _ k => XS.icmpYes X376.here hx rfl (pc0 := 309) (pc' := 325) rfl (hb hby at_309) rfl (feq c377).2 (by decide) (by decide) k) ?_
          show own_Go p e below _ (T376.setTop (mkF m 325 #[vI p0, vI p1, vI p2, vI p3, vI p4, vR b277, vI (0 : Int32), vI v1, vI z298, vI v278, vI z308, vR b310, vI o325, vI o329, vR b332] []))
          refine own_by (fun _ k => XS.iconst X376.here hx rfl (hb hby at_325) k) ?_
          show own_Go p e below _ (T376.setTop (mkF m 326 #[vI p0, vI p1, vI p2, vI p3, vI p4, vR b277, vI (0 : Int32), vI v1, vI z298, vI v278, vI z308, vR b310, vI o325, vI o329, vR b332] [(.int (0 : Int32))]))
          exact own_retNW X376 hx hS hk356 hZ hEL hh CR356 (t := .boolean) Bd.returns (by simp) (hb hby at_326) hlk eq376 ⟨((ob_0_47 f_CS p0 p3 p4 v1 v278 z298 z308 o317 o325 o329 o339 o347 o348 o349 o357 o358 o359 hn_CS hv1 c2 c128 c276 hv278 hj299 hj309 hp323 hp326 c327 hp330 c331 hp345 hp355 hp365 c366 c377)).elim, N376⟩ (by decide) (by decide)
       ·skip
        refine own_by (fun _ k => XS.ifNo X328.here hx rfl (hb hby at_263) rfl ((if0 _ _).trans (feq c331).1) k) ?_
        show own_Go p e below _ (T328.setTop (mkF m 266 #[vI p0, vI p1, vI p2, vI p3, vI p4, vR b277, vI (0 : Int32), vI v1, vI z298, vI v278, vI z308, vR b310, vI o325, vI o329, .unset] []))
        refine own_by (fun _ k => XS.iload X328.here hx rfl (hb hby at_266) rfl k) ?_
        show own_Go p e below _ (T328.setTop (mkF m 268 #[vI p0, vI p1, vI p2, vI p3, vI p4, vR b277, vI (0 : Int32), vI v1, vI z298, vI v278, vI z308, vR b310, vI o325, vI o329, .unset] [(.int o329)]))
        by_cases c380 : o329 = (0 : Int32)
        ·skip
         refine own_by (fun _ k => XS.ifNo X328.here hx rfl (hb hby at_268) rfl ((if0 _ _).trans (teq c380).2) k) ?_
         show own_Go p e below _ (T328.setTop (mkF m 271 #[vI p0, vI p1, vI p2, vI p3, vI p4, vR b277, vI (0 : Int32), vI v1, vI z298, vI v278, vI z308, vR b310, vI o325, vI o329, .unset] []))
         refine own_by (fun _ k => XS.iconst X328.here hx rfl (hb hby at_271) k) ?_
         show own_Go p e below _ (T328.setTop (mkF m 272 #[vI p0, vI p1, vI p2, vI p3, vI p4, vR b277, vI (0 : Int32), vI v1, vI z298, vI v278, vI z308, vR b310, vI o325, vI o329, .unset] [(.int (0 : Int32))]))
         exact own_retNW X328 hx hS hk316 hZ hEL hh CR316 (t := .boolean) Bd.returns (by simp) (hb hby at_272) hlk eq328 ⟨((ob_0_48 f_CS p0 p3 p4 v1 v278 z298 z308 o317 o325 o329 hn_CS hv1 c2 c128 c276 hv278 hj299 hj309 hp323 hp326 c327 hp330 c331 c380)).elim, N328⟩ (by decide) (by decide)
        ·skip
         refine own_by (fun _ k => XS.ifYes X328.here hx rfl (pc0 := 268) (pc' := 273) rfl (hb hby at_268) rfl ((if0 _ _).trans (feq c380).2) (by decide) (by decide) k) ?_
         show own_Go p e below _ (T328.setTop (mkF m 273 #[vI p0, vI p1, vI p2, vI p3, vI p4, vR b277, vI (0 : Int32), vI v1, vI z298, vI v278, vI z308, vR b310, vI o325, vI o329, .unset] []))
         obtain ⟨T381, h381, X381, e381, E381, A381, D381, -, st381⟩ := newO X328 hx hZ hown (hwd 0 rfl) (hwd 1 rfl) (hwd 2 rfl) eq328 (g := (mkF m 273 #[vI p0, vI p1, vI p2, vI p3, vI p4, vR b277, vI (0 : Int32), vI v1, vI z298, vI v278, vI z308, vR b310, vI o325, vI o329, .unset] [])) rfl (hb hby at_273) (by decide) (by decide)
         obtain ⟨b381, g381⟩ : ∃ z, z = T316.heap.size := ⟨_, rfl⟩
         have ge_b381 : n0 ≤ b381 := Nat.le_trans Z316 (Nat.le_of_eq g381.symm)
         have sz_b381 : h0.size ≤ b381 := Nat.le_trans K316.1 (Nat.le_of_eq g381.symm)
         have R381 : CHr Z consts_1 T316.vm T316.heap T316.vm h381 := CHr.ext E381 CR316.1
         have CR381 : CHr Z consts_1 s.vm h0 T316.vm h381 := CR316.trans R381
         have hk381 : kc316 ≤ h381.size := Nat.le_trans hk316 E381.1
         have S_b381 : Safe Z consts_1 T316.vm h381 b381 := Safe.ext E381 CR316.1 (Safe.new (Nat.le_of_eq g381.symm))
         have K381 : Keep h0 h381 [] := K316.ext E381
         have Z381 : n0 ≤ h381.size := Nat.le_trans Z316 E381.1
         rw [← g381] at A381 D381 st381
         have lt_b381 := A381.lt
         have F_line_b381 : Fld Z h381 b381 "com/example/margay/margay/index/LineCounter" "line" "I" (.int (0 : Int32)) := D381 (Or.inl (hwd 10 rfl)) (ty := .int) (by decide)
         have F_column_b381 : Fld Z h381 b381 "com/example/margay/margay/index/LineCounter" "column" "I" (.int (0 : Int32)) := D381 (Or.inl (hwd 12 rfl)) (ty := .int) (by decide)
         have F_xml11_b381 : Fld Z h381 b381 "com/example/margay/margay/index/LineCounter" "xml11" "Z" (.int (0 : Int32)) := D381 (Or.inr (hwd 27 rfl)) (ty := .boolean) (by decide)
         have F_afterCarriageReturn_b381 : Fld Z h381 b381 "com/example/margay/margay/index/LineCounter" "afterCarriageReturn" "Z" (.int (0 : Int32)) := D381 (Or.inl (hwd 44 rfl)) (ty := .boolean) (by decide)
         refine own_by st381 ?_
         show own_Go p e below _ (T381.setTop (mkF m 276 #[vI p0, vI p1, vI p2, vI p3, vI p4, vR b277, vI (0 : Int32), vI v1, vI z298, vI v278, vI z308, vR b310, vI o325, vI o329, .unset] [(.ref b381)]))
         refine own_by (fun _ k => XS.dup X381.here hx rfl (hb hby at_276) rfl rfl k) ?_
         show own_Go p e below _ (T381.setTop (mkF m 277 #[vI p0, vI p1, vI p2, vI p3, vI p4, vR b277, vI (0 : Int32), vI v1, vI z298, vI v278, vI z308, vR b310, vI o325, vI o329, .unset] [(.ref b381), (.ref b381)]))
         refine own_by (fun _ k => XS.aload X381.here hx rfl (hb hby at_277) rfl rfl k) ?_
         show own_Go p e below _ (T381.setTop (mkF m 279 #[vI p0, vI p1, vI p2, vI p3, vI p4, vR b277, vI (0 : Int32), vI v1, vI z298, vI v278, vI z308, vR b310, vI o325, vI o329, .unset] [(.ref b277), (.ref b381), (.ref b381)]))
         have F382 : Exa Z h381 b277 "java/lang/String" := ((F311.keep Kq316).ext E381)
         have F383 : Fld Z h381 b277 "java/lang/String" "coder" "B" (.int (0 : Int32)) := ((F312.keep Kq316 (ninS (Nat.ne_of_lt (Nat.lt_of_lt_of_le (A277).lt (Nat.le_of_eq g310.symm))) nin0)).ext E381)
         have F384 : Fld Z h381 b277 "java/lang/String" "value" "[B" (.ref t277) := ((F313.keep Kq316 (ninS (Nat.ne_of_lt (Nat.lt_of_lt_of_le (A277).lt (Nat.le_of_eq g310.symm))) nin0)).ext E381)
         have F385 : own_Arf Z h381 t277 kk277 .byte (3 : Int32) (fun i => .int ((own_li [49, 46, 48]) i)) := ((F314.keep Kq316 (ninS (Nat.ne_of_lt (Nat.lt_of_lt_of_le (V277').lt (Nat.le_of_eq g310.symm))) nin0)).ext E381)
         have F386 : Sta Z h381 "java/lang/String" "COMPACT_STRINGS" "Z" (.int f_CS) := ((own_staKeep F315 Kq316 (allS (own_exaPlain A310) all0)).ext E381)
         obtain ⟨_, _, ⟨T387, L387, k387, n387⟩, -, X387', hSq387, hgr387, ⟨Lc387, hQ387, l387, y387, z387, R387⟩, st387⟩ := X381.specialBackS hx (y := (⟨"com/example/margay/margay/index/LineCounter", "<init>", "(Ljava/lang/String;)V"⟩ : MethodName)) rfl hown (mvT hZ (hwd 3 rfl)) (mvT hZ (hwd 4 rfl)) (mvT hZ (hwd 5 rfl)) (by decide) (backOfSH (W := 1) (rmlcR l Z A0 hw [] t277 kk277 (own_li [49, 46, 48]) f_CS b381 b277 (0 : Int32) (0 : Int32) (0 : Int32) (0 : Int32) h381 n0 Z381 F382 F383 F384 F385 F386 hn_CS A381 F_line_b381 ge_b381 F_column_b381 F_xml11_b381 F_afterCarriageReturn_b381) hZ (hwd 5 rfl) (hwd 2 rfl) (by decide) (by decide) hEL CR381.1) (g := (mkF m 279 #[vI p0, vI p1, vI p2, vI p3, vI p4, vR b277, vI (0 : Int32), vI v1, vI z298, vI v278, vI z308, vR b310, vI o325, vI o329, .unset] [(.ref b277), (.ref b381), (.ref b381)])) rfl (by rw [hml]; rfl) (Steps.refl _) (a := b381) (argsL := [(.ref b277)]) (rest := [(.ref b381)]) (lenOf pd_3 rfl) rfl (by show 2 * 0 + _ ≤ _; exact Nat.le_of_eq rfl) (hb hby at_279) (fun _ _ => ⟨rfl, e381, (by decide : 6 + 2 ≤ _), (by decide : 40 + 16 ≤ _)⟩)
         dsimp only [Pt.U, Pt.locs, Pt.cells, Pt.slots] at X387' l387 y387 z387 st387 hQ387 hSq387 hgr387 R387
         subst l387 y387 z387
         obtain ⟨X387, hS, hZ, hown⟩ := rebS hS (by rw [e381]; exact hk381) X387' hSq387 hgr387 hZ hown
         obtain ⟨kc387, hkc387⟩ : ∃ z, z = T387.heap.size := ⟨_, rfl⟩
         rw [← hkc387] at hS
         have hk387 : kc387 ≤ T387.heap.size := Nat.le_of_eq hkc387
         have CR387 : CHr Z consts_1 s.vm h0 T387.vm T387.heap := CR381.trans R387
         obtain ⟨o388, rfl, Nq387, Kq387, F389, F390, F391, F392, F393, hp394⟩ := hQ387
         have N387 := Fr.app N328 Nq387
         have K387 : Keep h0 T387.heap [] := K381.trans Kq387 ((allS (Or.inr sz_b381) all0))
         have Z387 : n0 ≤ T387.heap.size := Nat.le_trans Z381 Kq387.1
         refine own_by (fun _ k => st387.trans k) ?_
         show own_Go p e below _ (T387.setTop (mkF m 282 #[vI p0, vI p1, vI p2, vI p3, vI p4, vR b277, vI (0 : Int32), vI v1, vI z298, vI v278, vI z308, vR b310, vI o325, vI o329, .unset] [(.ref b381)]))
         refine own_by (fun _ k => XS.astore X387.here hx rfl (hb hby at_282) rfl rfl (l' := #[vI p0, vI p1, vI p2, vI p3, vI p4, vR b277, vI (0 : Int32), vI v1, vI z298, vI v278, vI z308, vR b310, vI o325, vI o329, vR b381]) rfl k) ?_
         show own_Go p e below _ (T387.setTop (mkF m 284 #[vI p0, vI p1, vI p2, vI p3, vI p4, vR b277, vI (0 : Int32), vI v1, vI z298, vI v278, vI z308, vR b310, vI o325, vI o329, vR b381] []))
         refine own_by (fun _ k => XS.aload X387.here hx rfl (hb hby at_284) rfl rfl k) ?_
         show own_Go p e below _ (T387.setTop (mkF m 286 #[vI p0, vI p1, vI p2, vI p3, vI p4, vR b277, vI (0 : Int32), vI v1, vI z298, vI v278, vI z308, vR b310, vI o325, vI o329, vR b381] [(.ref b381)]))
         refine own_by (fun _ k => XS.bipush X387.here hx rfl (hb hby at_286) k) ?_
         show own_Go p e below _ (T387.setTop (mkF m 288 #[vI p0, vI p1, vI p2, vI p3, vI p4, vR b277, vI (0 : Int32), vI v1, vI z298, vI v278, vI z308, vR b310, vI o325, vI o329, vR b381] [(.int (13 : Int32)), (.ref b381)]))
         obtain ⟨cq395, kq395, qq395a, qq395b, qq395c⟩ := isOf hZ rfl F389
         obtain ⟨_, _, ⟨T395, L395, k395, n395⟩, -, X395, ⟨Lc395, hQ395, l395, y395, z395⟩, st395⟩ := X387.virtualBack hx (y := (⟨"com/example/margay/margay/index/LineCounter", "count", "(C)V"⟩ : MethodName)) (z := (⟨"com/example/margay/margay/index/LineCounter", "count", "(C)V"⟩ : MethodName)) hown (mvT hZ (hwd 38 rfl)) (mvT hZ (hwd 39 rfl)) (notFace_of_selects (args := #[]) (mvT hZ (hwd 41 rfl))) (mvT hZ (hwd 41 rfl)) (mvT hZ (hwd 40 rfl)) (by decide) (backOf (W := 0) (rm6 l Z A0 hw [] b381 (13 : Int32) (0 : Int32) o388 (1 : Int32) (1 : Int32) T387.heap n0 Z387 F393 F392 F389 F391 ge_b381 F390) hZ (hwd 42 rfl) (hwd 2 rfl) (by decide) (by decide)) qq395a qq395c (g := (mkF m 288 #[vI p0, vI p1, vI p2, vI p3, vI p4, vR b277, vI (0 : Int32), vI v1, vI z298, vI v278, vI z308, vR b310, vI o325, vI o329, vR b381] [(.int (13 : Int32)), (.ref b381)])) rfl (by rw [hml]; rfl) (Steps.refl _) (argsL := [(.int (13 : Int32))]) (rest := []) (lenOf pd_38 rfl) rfl (by show 2 * 0 + _ ≤ _; exact Nat.le_of_eq rfl) (hb hby at_288) (fun _ _ => ⟨rfl, rfl, (by decide : 8 + 0 ≤ _), (by decide : 56 + 0 ≤ _)⟩)
         dsimp only [Pt.U, Pt.locs, Pt.cells, Pt.slots] at X395 l395 y395 z395 st395 hQ395
         subst l395 y395 z395
         obtain ⟨o396, o397, o398, rfl, Nq395, Kq395, F399, F400, F401, F402, F403, hp404⟩ := hQ395
         have N395 := Fr.app N387 Nq395
         have R395 : CHr Z consts_1 T387.vm T387.heap T387.vm T395.heap := CHr.keep Kq395 ((allS (Safe.exa hZ.alike F389 (by decide) (by decide)) all0)) CR387.1
         have CR395 : CHr Z consts_1 s.vm h0 T387.vm T395.heap := CR387.trans R395
         have hk395 : kc387 ≤ T395.heap.size := Nat.le_trans hk387 Kq395.1
         have K395 : Keep h0 T395.heap [] := K387.trans Kq395 ((allS (Or.inr sz_b381) all0))
         have Z395 : n0 ≤ T395.heap.size := Nat.le_trans Z387 Kq395.1
         refine own_by (fun _ k => st395.trans k) ?_
         show own_Go p e below _ (T395.setTop (mkF m 291 #[vI p0, vI p1, vI p2, vI p3, vI p4, vR b277, vI (0 : Int32), vI v1, vI z298, vI v278, vI z308, vR b310, vI o325, vI o329, vR b381] []))
         refine own_by (fun _ k => XS.aload X395.here hx rfl (hb hby at_291) rfl rfl k) ?_
         show own_Go p e below _ (T395.setTop (mkF m 293 #[vI p0, vI p1, vI p2, vI p3, vI p4, vR b277, vI (0 : Int32), vI v1, vI z298, vI v278, vI z308, vR b310, vI o325, vI o329, vR b381] [(.ref b381)]))
         refine own_by (fun _ k => XS.iload X395.here hx rfl (hb hby at_293) rfl k) ?_
         show own_Go p e below _ (T395.setTop (mkF m 295 #[vI p0, vI p1, vI p2, vI p3, vI p4, vR b277, vI (0 : Int32), vI v1, vI z298, vI v278, vI z308, vR b310, vI o325, vI o329, vR b381] [(.int z298), (.ref b381)]))
         obtain ⟨cq405, kq405, qq405a, qq405b, qq405c⟩ := isOf hZ rfl F401
         obtain ⟨_, _, ⟨T405, L405, k405, n405⟩, -, X405, ⟨Lc405, hQ405, l405, y405, z405⟩, st405⟩ := X395.virtualBack hx (y := (⟨"com/example/margay/margay/index/LineCounter", "count", "(C)V"⟩ : MethodName)) (z := (⟨"com/example/margay/margay/index/LineCounter", "count", "(C)V"⟩ : MethodName)) hown (mvT hZ (hwd 38 rfl)) (mvT hZ (hwd 39 rfl)) (notFace_of_selects (args := #[]) (mvT hZ (hwd 41 rfl))) (mvT hZ (hwd 41 rfl)) (mvT hZ (hwd 40 rfl)) (by decide) (backOf (W := 0) (rm6 l Z A0 hw [] b381 z298 o396 o388 o397 o398 T395.heap n0 Z395 F399 F400 F401 F402 ge_b381 F403) hZ (hwd 42 rfl) (hwd 2 rfl) (by decide) (by decide)) qq405a qq405c (g := (mkF m 295 #[vI p0, vI p1, vI p2, vI p3, vI p4, vR b277, vI (0 : Int32), vI v1, vI z298, vI v278, vI z308, vR b310, vI o325, vI o329, vR b381] [(.int z298), (.ref b381)])) rfl (by rw [hml]; rfl) (Steps.refl _) (argsL := [(.int z298)]) (rest := []) (lenOf pd_38 rfl) rfl (by show 2 * 0 + _ ≤ _; exact Nat.le_of_eq rfl) (hb hby at_295) (fun _ _ => ⟨rfl, rfl, (by decide : 8 + 0 ≤ _), (by decide : 56 + 0 ≤ _)⟩)
         dsimp only [Pt.U, Pt.locs, Pt.cells, Pt.slots] at X405 l405 y405 z405 st405 hQ405
         subst l405 y405 z405
         obtain ⟨o406, o407, o408, rfl, Nq405, Kq405, F409, F410, F411, F412, F413, hp414⟩ := hQ405
         have N405 := Fr.app N395 Nq405
         have R405 : CHr Z consts_1 T387.vm T395.heap T387.vm T405.heap := CHr.keep Kq405 ((allS (Safe.exa hZ.alike F401 (by decide) (by decide)) all0)) CR395.1
         have CR405 : CHr Z consts_1 s.vm h0 T387.vm T405.heap := CR395.trans R405
         have hk405 : kc387 ≤ T405.heap.size := Nat.le_trans hk395 Kq405.1
         have K405 : Keep h0 T405.heap [] := K395.trans Kq405 ((allS (Or.inr sz_b381) all0))
         have Z405 : n0 ≤ T405.heap.size := Nat.le_trans Z395 Kq405.1
         refine own_by (fun _ k => st405.trans k) ?_
         show own_Go p e below _ (T405.setTop (mkF m 298 #[vI p0, vI p1, vI p2, vI p3, vI p4, vR b277, vI (0 : Int32), vI v1, vI z298, vI v278, vI z308, vR b310, vI o325, vI o329, vR b381] []))
         refine own_by (fun _ k => XS.iload X405.here hx rfl (hb hby at_298) rfl k) ?_
         show own_Go p e below _ (T405.setTop (mkF m 300 #[vI p0, vI p1, vI p2, vI p3, vI p4, vR b277, vI (0 : Int32), vI v1, vI z298, vI v278, vI z308, vR b310, vI o325, vI o329, vR b381] [(.int z308)]))
         by_cases c415 : z308 = (0 : Int32)
         ·skip
          refine own_by (fun _ k => XS.ifYes X405.here hx rfl (pc0 := 300) (pc' := 327) rfl (hb hby at_300) rfl ((if0 _ _).trans (teq c415).1) (by decide) (by decide) k) ?_
          show own_Go p e below _ (T405.setTop (mkF m 327 #[vI p0, vI p1, vI p2, vI p3, vI p4, vR b277, vI (0 : Int32), vI v1, vI z298, vI v278, vI z308, vR b310, vI o325, vI o329, vR b381] []))
          refine own_by (fun _ k => XS.iload X405.here hx rfl (hb hby at_327) rfl k) ?_
          show own_Go p e below _ (T405.setTop (mkF m 329 #[vI p0, vI p1, vI p2, vI p3, vI p4, vR b277, vI (0 : Int32), vI v1, vI z298, vI v278, vI z308, vR b310, vI o325, vI o329, vR b381] [(.int o329)]))
          refine own_by (fun _ k => XS.ifNo X405.here hx rfl (hb hby at_329) rfl ((if0 _ _).trans (feq c380).1) k) ?_
          show own_Go p e below _ (T405.setTop (mkF m 332 #[vI p0, vI p1, vI p2, vI p3, vI p4, vR b277, vI (0 : Int32), vI v1, vI z298, vI v278, vI z308, vR b310, vI o325, vI o329, vR b381] []))
          refine own_by (fun _ k => XS.aload X405.here hx rfl (hb hby at_332) rfl rfl k) ?_
          show own_Go p e below _ (T405.setTop (mkF m 334 #[vI p0, vI p1, vI p2, vI p3, vI p4, vR b277, vI (0 : Int32), vI v1, vI z298, vI v278, vI z308, vR b310, vI o325, vI o329, vR b381] [(.ref b381)]))
          obtain ⟨cq416, kq416, qq416a, qq416b, qq416c⟩ := isOf hZ rfl F411
          obtain ⟨_, _, ⟨T416, L416, k416, n416⟩, -, X416, ⟨Lc416, hQ416, l416, y416, z416⟩, st416⟩ := X405.virtualBack hx (y := (⟨"com/example/margay/margay/index/LineCounter", "line", "()I"⟩ : MethodName)) (z := (⟨"com/example/margay/margay/index/LineCounter", "line", "()I"⟩ : MethodName)) hown (mvT hZ (hwd 47 rfl)) (mvT hZ (hwd 48 rfl)) (notFace_of_selects (args := #[]) (mvT hZ (hwd 50 rfl))) (mvT hZ (hwd 50 rfl)) (mvT hZ (hwd 49 rfl)) (by decide) (backOf (W := 0) (rm7 l Z A0 hw [] b381 o408 T405.heap n0 Z405 F413) hZ (hwd 51 rfl) (hwd 2 rfl) (by decide) (by decide)) qq416a qq416c (g := (mkF m 334 #[vI p0, vI p1, vI p2, vI p3, vI p4, vR b277, vI (0 : Int32), vI v1, vI z298, vI v278, vI z308, vR b310, vI o325, vI o329, vR b381] [(.ref b381)])) rfl (by rw [hml]; rfl) (Steps.refl _) (argsL := []) (rest := []) (lenOf pd_47 rfl) rfl (by show 2 * 0 + _ ≤ _; exact Nat.le_of_eq rfl) (hb hby at_334) (fun _ _ => ⟨rfl, rfl, (by decide : 8 + 0 ≤ _), (by decide : 56 + 0 ≤ _)⟩)
          dsimp only [Pt.U, Pt.locs, Pt.cells, Pt.slots] at X416 l416 y416 z416 st416 hQ416
          subst l416 y416 z416
          obtain ⟨rfl, Nq416, eq416⟩ := hQ416
          have N416 := Fr.app N405 Nq416
          refine own_by (fun _ k => st416.trans k) ?_
          show own_Go p e below _ (T416.setTop (mkF m 337 #[vI p0, vI p1, vI p2, vI p3, vI p4, vR b277, vI (0 : Int32), vI v1, vI z298, vI v278, vI z308, vR b310, vI o325, vI o329, vR b381] [(.int o408)]))
          refine own_by (fun _ k => XS.iconst X416.here hx rfl (hb hby at_337) k) ?_
          show own_Go p e below _ (T416.setTop (mkF m 338 #[vI p0, vI p1, vI p2, vI p3, vI p4, vR b277, vI (0 : Int32), vI v1, vI z298, vI v278, vI z308, vR b310, vI o325, vI o329, vR b381] [(.int (3 : Int32)), (.int o408)]))
          by_cases c417 : o408 = (3 : Int32)
          ·skip
           refine own_by (fun _ k => XS.icmpNo X416.here hx rfl (hb hby at_338) rfl (teq c417).2 k) ?_
           show own_Go p e below _ (T416.setTop (mkF m 341 #[vI p0, vI p1, vI p2, vI p3, vI p4, vR b277, vI (0 : Int32), vI v1, vI z298, vI v278, vI z308, vR b310, vI o325, vI o329, vR b381] []))
           refine own_by (fun _ k => XS.aload X416.here hx rfl (hb hby at_341) rfl rfl k) ?_
           show own_Go p e below _ (T416.setTop (mkF m 343 #[vI p0, vI p1, vI p2, vI p3, vI p4, vR b277, vI (0 : Int32), vI v1, vI z298, vI v278, vI z308, vR b310, vI o325, vI o329, vR b381] [(.ref b381)]))
           obtain ⟨cq418, kq418, qq418a, qq418b, qq418c⟩ := isOf hZ eq416 F411
           obtain ⟨_, _, ⟨T418, L418, k418, n418⟩, -, X418, ⟨Lc418, hQ418, l418, y418, z418⟩, st418⟩ := X416.virtualBack hx (y := (⟨"com/example/margay/margay/index/LineCounter", "column", "()I"⟩ : MethodName)) (z := (⟨"com/example/margay/margay/index/LineCounter", "column", "()I"⟩ : MethodName)) hown (mvT hZ (hwd 52 rfl)) (mvT hZ (hwd 53 rfl)) (notFace_of_selects (args := #[]) (mvT hZ (hwd 55 rfl))) (mvT hZ (hwd 55 rfl)) (mvT hZ (hwd 54 rfl)) (by decide) (backOf (W := 0) (rm8 l Z A0 hw [] b381 o407 T405.heap n0 Z405 F412) hZ (hwd 56 rfl) (hwd 2 rfl) (by decide) (by decide)) qq418a qq418c (g := (mkF m 343 #[vI p0, vI p1, vI p2, vI p3, vI p4, vR b277, vI (0 : Int32), vI v1, vI z298, vI v278, vI z308, vR b310, vI o325, vI o329, vR b381] [(.ref b381)])) rfl (by rw [hml]; rfl) (Steps.refl _) (argsL := []) (rest := []) (lenOf pd_47 rfl) rfl (by show 2 * 0 + _ ≤ _; exact Nat.le_of_eq rfl) (hb hby at_343) (fun _ _ => ⟨rfl, eq416, (by decide : 8 + 0 ≤ _), (by decide : 56 + 0 ≤ _)⟩)
           dsimp only [Pt.U, Pt.locs, Pt.cells, Pt.slots] at X418 l418 y418 z418 st418 hQ418
           subst l418 y418 z418
           obtain ⟨rfl, Nq418, eq418⟩ := hQ418
           have N418 := Fr.app N416 Nq418
           refine own_by (fun _ k => st418.trans k) ?_
           show own_Go p e below _ (T418.setTop (mkF m 346 #[vI p0, vI p1, vI p2, vI p3, vI p4, vR b277, vI (0 : Int32), vI v1, vI z298, vI v278, vI z308, vR b310, vI o325, vI o329, vR b381] [(.int o407)]))
           refine own_by (fun _ k => XS.iconst X418.here hx rfl (hb hby at_346) k) ?_
           show own_Go p e below _ (T418.setTop (mkF m 347 #[vI p0, vI p1, vI p2, vI p3, vI p4, vR b277, vI (0 : Int32), vI v1, vI z298, vI v278, vI z308, vR b310, vI o325, vI o329, vR b381] [(.int (1 : Int32)), (.int o407)]))
           by_cases c419 : o407 = (1 : Int32)
           ·skip
            refine own_by (fun _ k => XS.icmpNo X418.here hx rfl (hb hby at_347) rfl (teq c419).2 k) ?_
            show own_Go p e below _ (T418.setTop (mkF m 350 #[vI p0, vI p1, vI p2, vI p3, vI p4, vR b277, vI (0 : Int32), vI v1, vI z298, vI v278, vI z308, vR b310, vI o325, vI o329, vR b381] []))
            refine own_by (fun _ k => XS.iconst X418.here hx rfl (hb hby at_350) k) ?_
            show own_Go p e below _ (T418.setTop (mkF m 351 #[vI p0, vI p1, vI p2, vI p3, vI p4, vR b277, vI (0 : Int32), vI v1, vI z298, vI v278, vI z308, vR b310, vI o325, vI o329, vR b381] [(.int (1 : Int32))]))
            refine own_by (fun _ k => XS.goto X418.here hx rfl (pc0 := 351) (pc' := 355) rfl (hb hby at_351) (by decide) (by decide) k) ?_
            show own_Go p e below _ (T418.setTop (mkF m 355 #[vI p0, vI p1, vI p2, vI p3, vI p4, vR b277, vI (0 : Int32), vI v1, vI z298, vI v278, vI z308, vR b310, vI o325, vI o329, vR b381] [(.int (1 : Int32))]))
            exact own_retNW X418 hx hS hk405 hZ hEL hh CR405 (t := .boolean) Bd.returns (by simp) (hb hby at_355) hlk eq418 ⟨rfl, N418⟩ (by decide) (by decide)
           ·skip
            refine own_by (fun _ k => XS.icmpYes X418.here hx rfl (pc0 := 347) (pc' := 354) rfl (hb hby at_347) rfl (feq c419).2 (by decide) (by decide) k) ?_
            show own_Go p e below _ (T418.setTop (mkF m 354 #[vI p0, vI p1, vI p2, vI p3, vI p4, vR b277, vI (0 : Int32), vI v1, vI z298, vI v278, vI z308, vR b310, vI o325, vI o329, vR b381] []))
            refine own_by (fun _ k => XS.iconst X418.here hx rfl (hb hby at_354) k) ?_
            show own_Go p e below _ (T418.setTop (mkF m 355 #[vI p0, vI p1, vI p2, vI p3, vI p4, vR b277, vI (0 : Int32), vI v1, vI z298, vI v278, vI z308, vR b310, vI o325, vI o329, vR b381] [(.int (0 : Int32))]))
            exact own_retNW X418 hx hS hk405 hZ hEL hh CR405 (t := .boolean) Bd.returns (by simp) (hb hby at_355) hlk eq418 ⟨((ob_0_49 f_CS p0 p3 p4 v1 v278 z298 z308 o317 o325 o329 o388 o396 o397 o398 o406 o407 o408 hn_CS hv1 c2 c128 c276 hv278 hj299 hj309 hp323 hp326 c327 hp330 c331 c380 hp394 hp404 hp414 c415 c417 c419)).elim, N418⟩ (by decide) (by decide)
          ·skip
           refine own_by (fun _ k => XS.icmpYes X416.here hx rfl (pc0 := 338) (pc' := 354) rfl (hb hby at_338) rfl (feq c417).2 (by decide) (by decide) k) ?_
           show own_Go p e below _ (T416.setTop (mkF m 354 #[vI p0, vI p1, vI p2, vI p3, vI p4, vR b277, vI (0 : Int32), vI v1, vI z298, vI v278, vI z308, vR b310, vI o325, vI o329, vR b381] []))
           refine own_by (fun _ k => XS.iconst X416.here hx rfl (hb hby at_354) k) ?_
           show own_Go p e below _ (T416.setTop (mkF m 355 #[vI p0, vI p1, vI p2, vI p3, vI p4, vR b277, vI (0 : Int32), vI v1, vI z298, vI v278, vI z308, vR b310, vI o325, vI o329, vR b381] [(.int (0 : Int32))]))
           exact own_retNW X416 hx hS hk405 hZ hEL hh CR405 (t := .boolean) Bd.returns (by simp) (hb hby at_355) hlk eq416 ⟨((ob_0_50 f_CS p0 p3 p4 v1 v278 z298 z308 o317 o325 o329 o388 o396 o397 o398 o406 o407 o408 hn_CS hv1 c2 c128 c276 hv278 hj299 hj309 hp323 hp326 c327 hp330 c331 c380 hp394 hp404 hp414 c415 c417)).elim, N416⟩ (by decide) (by decide)
         ·skip
          refine own_by (fun _ k => XS.ifNo X405.here hx rfl (hb hby at_300) rfl ((if0 _ _).trans (feq c415).1) k) ?_
          show own_Go p e below _ (T405.setTop (mkF m 303 #[vI p0, vI p1, vI p2, vI p3, vI p4, vR b277, vI (0 : Int32), vI v1, vI z298, vI v278, vI z308, vR b310, vI o325, vI o329, vR b381] []))
          refine own_by (fun _ k => XS.aload X405.here hx rfl (hb hby at_303) rfl rfl k) ?_
          show own_Go p e below _ (T405.setTop (mkF m 305 #[vI p0, vI p1, vI p2, vI p3, vI p4, vR b277, vI (0 : Int32), vI v1, vI z298, vI v278, vI z308, vR b310, vI o325, vI o329, vR b381] [(.ref b381)]))
          obtain ⟨cq420, kq420, qq420a, qq420b, qq420c⟩ := isOf hZ rfl F411
          obtain ⟨_, _, ⟨T420, L420, k420, n420⟩, -, X420, ⟨Lc420, hQ420, l420, y420, z420⟩, st420⟩ := X405.virtualBack hx (y := (⟨"com/example/margay/margay/index/LineCounter", "line", "()I"⟩ : MethodName)) (z := (⟨"com/example/margay/margay/index/LineCounter", "line", "()I"⟩ : MethodName)) hown (mvT hZ (hwd 47 rfl)) (mvT hZ (hwd 48 rfl)) (notFace_of_selects (args := #[]) (mvT hZ (hwd 50 rfl))) (mvT hZ (hwd 50 rfl)) (mvT hZ (hwd 49 rfl)) (by decide) (backOf (W := 0) (rm7 l Z A0 hw [] b381 o408 T405.heap n0 Z405 F413) hZ (hwd 51 rfl) (hwd 2 rfl) (by decide) (by decide)) qq420a qq420c (g := (mkF m 305 #[vI p0, vI p1, vI p2, vI p3, vI p4, vR b277, vI (0 : Int32), vI v1, vI z298, vI v278, vI z308, vR b310, vI o325, vI o329, vR b381] [(.ref b381)])) rfl (by rw [hml]; rfl) (Steps.refl _) (argsL := []) (rest := []) (lenOf pd_47 rfl) rfl (by show 2 * 0 + _ ≤ _; exact Nat.le_of_eq rfl) (hb hby at_305) (fun _ _ => ⟨rfl, rfl, (by decide : 8 + 0 ≤ _), (by decide : 56 + 0 ≤ _)⟩)
          dsimp only [Pt.U, Pt.locs, Pt.cells, Pt.slots] at X420 l420 y420 z420 st420 hQ420
          subst l420 y420 z420
          obtain ⟨rfl, Nq420, eq420⟩ := hQ420
          have N420 := Fr.app N405 Nq420
          refine own_by (fun _ k => st420.trans k) ?_
          show own_Go p e below _ (T420.setTop (mkF m 308 #[vI p0, vI p1, vI p2, vI p3, vI p4, vR b277, vI (0 : Int32), vI v1, vI z298, vI v278, vI z308, vR b310, vI o325, vI o329, vR b381] [(.int o408)]))
          refine own_by (fun _ k => XS.iconst X420.here hx rfl (hb hby at_308) k) ?_
          show own_Go p e below _ (T420.setTop (mkF m 309 #[vI p0, vI p1, vI p2, vI p3, vI p4, vR b277, vI (0 : Int32), vI v1, vI z298, vI v278, vI z308, vR b310, vI o325, vI o329, vR b381] [(.int (2 : Int32)), (.int o408)]))
          by_cases c421 : o408 = (2 : Int32)
          ·skip
           refine own_by (fun _ k => XS.icmpNo X420.here hx rfl (hb hby at_309) rfl (teq c421).2 k) ?_
           show own_Go p e below _ (T420.setTop (mkF m 312 #[vI p0, vI p1, vI p2, vI p3, vI p4, vR b277, vI (0 : Int32), vI v1, vI z298, vI v278, vI z308, vR b310, vI o325, vI o329, vR b381] []))
           refine own_by (fun _ k => XS.aload X420.here hx rfl (hb hby at_312) rfl rfl k) ?_
           show own_Go p e below _ (T420.setTop (mkF m 314 #[vI p0, vI p1, vI p2, vI p3, vI p4, vR b277, vI (0 : Int32), vI v1, vI z298, vI v278, vI z308, vR b310, vI o325, vI o329, vR b381] [(.ref b381)]))
           obtain ⟨cq422, kq422, qq422a, qq422b, qq422c⟩ := isOf hZ eq420 F411
           obtain ⟨_, _, ⟨T422, L422, k422, n422⟩, -, X422, ⟨Lc422, hQ422, l422, y422, z422⟩, st422⟩ := X420.virtualBack hx (y := (⟨"com/example/margay/margay/index/LineCounter", "column", "()I"⟩ : MethodName)) (z := (⟨"com/example/margay/margay/index/LineCounter", "column", "()I"⟩ : MethodName)) hown (mvT hZ (hwd 52 rfl)) (mvT hZ (hwd 53 rfl)) (notFace_of_selects (args := #[]) (mvT hZ (hwd 55 rfl))) (mvT hZ (hwd 55 rfl)) (mvT hZ (hwd 54 rfl)) (by decide) (backOf (W := 0) (rm8 l Z A0 hw [] b381 o407 T405.heap n0 Z405 F412) hZ (hwd 56 rfl) (hwd 2 rfl) (by decide) (by decide)) qq422a qq422c (g := (mkF m 314 #[vI p0, vI p1, vI p2, vI p3, vI p4, vR b277, vI (0 : Int32), vI v1, vI z298, vI v278, vI z308, vR b310, vI o325, vI o329, vR b381] [(.ref b381)])) rfl (by rw [hml]; rfl) (Steps.refl _) (argsL := []) (rest := []) (lenOf pd_47 rfl) rfl (by show 2 * 0 + _ ≤ _; exact Nat.le_of_eq rfl) (hb hby at_314) (fun _ _ => ⟨rfl, eq420, (by decide : 8 + 0 ≤ _), (by decide : 56 + 0 ≤ _)⟩)
           dsimp only [Pt.U, Pt.locs, Pt.cells, Pt.slots] at X422 l422 y422 z422 st422 hQ422
           subst l422 y422 z422
           obtain ⟨rfl, Nq422, eq422⟩ := hQ422
           have N422 := Fr.app N420 Nq422
           refine own_by (fun _ k => st422.trans k) ?_
           show own_Go p e below _ (T422.setTop (mkF m 317 #[vI p0, vI p1, vI p2, vI p3, vI p4, vR b277, vI (0 : Int32), vI v1, vI z298, vI v278, vI z308, vR b310, vI o325, vI o329, vR b381] [(.int o407)]))
           refine own_by (fun _ k => XS.iconst X422.here hx rfl (hb hby at_317) k) ?_
           show own_Go p e below _ (T422.setTop (mkF m 318 #[vI p0, vI p1, vI p2, vI p3, vI p4, vR b277, vI (0 : Int32), vI v1, vI z298, vI v278, vI z308, vR b310, vI o325, vI o329, vR b381] [(.int (1 : Int32)), (.int o407)]))
           by_cases c423 : o407 = (1 : Int32)
           ·skip
            refine own_by (fun _ k => XS.icmpNo X422.here hx rfl (hb hby at_318) rfl (teq c423).2 k) ?_
            show own_Go p e below _ (T422.setTop (mkF m 321 #[vI p0, vI p1, vI p2, vI p3, vI p4, vR b277, vI (0 : Int32), vI v1, vI z298, vI v278, vI z308, vR b310, vI o325, vI o329, vR b381] []))
            refine own_by (fun _ k => XS.iconst X422.here hx rfl (hb hby at_321) k) ?_
            show own_Go p e below _ (T422.setTop (mkF m 322 #[vI p0, vI p1, vI p2, vI p3, vI p4, vR b277, vI (0 : Int32), vI v1, vI z298, vI v278, vI z308, vR b310, vI o325, vI o329, vR b381] [(.int (1 : Int32))]))
            refine own_by (fun _ k => XS.goto X422.here hx rfl (pc0 := 322) (pc' := 326) rfl (hb hby at_322) (by decide) (by decide) k) ?_
            show own_Go p e below _ (T422.setTop (mkF m 326 #[vI p0, vI p1, vI p2, vI p3, vI p4, vR b277, vI (0 : Int32), vI v1, vI z298, vI v278, vI z308, vR b310, vI o325, vI o329, vR b381] [(.int (1 : Int32))]))
            exact own_retNW X422 hx hS hk405 hZ hEL hh CR405 (t := .boolean) Bd.returns (by simp) (hb hby at_326) hlk eq422 ⟨rfl, N422⟩ (by decide) (by decide)
           ·skip
            refine own_by (fun _ k => XS.icmpYes X422.here hx rfl (pc0 := 318) (pc' := 325) rfl (hb hby at_318) rfl (feq c423).2 (by decide) (by decide) k) ?_
            show own_Go p e below _ (T422.setTop (mkF m 325 #[vI p0, vI p1, vI p2, vI p3, vI p4, vR b277, vI (0 : Int32), vI v1, vI z298, vI v278, vI z308, vR b310, vI o325, vI o329, vR b381] []))
            refine own_by (fun _ k => XS.iconst X422.here hx rfl (hb hby at_325) k) ?_
            show own_Go p e below _ (T422.setTop (mkF m 326 #[vI p0, vI p1, vI p2, vI p3, vI p4, vR b277, vI (0 : Int32), vI v1, vI z298, vI v278, vI z308, vR b310, vI o325, vI o329, vR b381] [(.int (0 : Int32))]))
            exact own_retNW X422 hx hS hk405 hZ hEL hh CR405 (t := .boolean) Bd.returns (by simp) (hb hby at_326) hlk eq422 ⟨((ob_0_51 f_CS p0 p3 p4 v1 v278 z298 z308 o317 o325 o329 o388 o396 o397 o398 o406 o407 o408 hn_CS hv1 c2 c128 c276 hv278 hj299 hj309 hp323 hp326 c327 hp330 c331 c380 hp394 hp404 hp414 c415 c421 c423)).elim, N422⟩ (by decide) (by decide)
          ·skip
           refine own_by (fun _ k => XS.icmpYes X420.here hx rfl (pc0 := 309) (pc' := 325) rfl (hb hby at_309) rfl (feq c421).2 (by decide) (by decide) k) ?_
           show own_Go p e below _ (T420.setTop (mkF m 325 #[vI p0, vI p1, vI p2, vI p3, vI p4, vR b277, vI (0 : Int32), vI v1, vI z298, vI v278, vI z308, vR b310, vI o325, vI o329, vR b381] []))
           refine own_by (fun _ k => XS.iconst X420.here hx rfl (hb hby at_325) k) ?_
           show own_Go p e below _ (T420.setTop (mkF m 326 #[vI p0, vI p1, vI p2, vI p3, vI p4, vR b277, vI (0 : Int32), vI v1, vI z298, vI v278, vI z308, vR b310, vI o325, vI o329, vR b381] [(.int (0 : Int32))]))
           exact own_retNW X420 hx hS hk405 hZ hEL hh CR405 (t := .boolean) Bd.returns (by simp) (hb hby at_326) hlk eq420 ⟨((ob_0_52 f_CS p0 p3 p4 v1 v278 z298 z308 o317 o325 o329 o388 o396 o397 o398 o406 o407 o408 hn_CS hv1 c2 c128 c276 hv278 hj299 hj309 hp323 hp326 c327 hp330 c331 c380 hp394 hp404 hp414 c415 c421)).elim, N420⟩ (by decide) (by decide)
      ·skip
       refine own_by (fun _ k => XS.icmpNo X324.here hx rfl (hb hby at_247) rfl (feq c327).1 k) ?_
       show own_Go p e below _ (T324.setTop (mkF m 250 #[vI p0, vI p1, vI p2, vI p3, vI p4, vR b277, vI (0 : Int32), vI v1, vI z298, vI v278, vI z308, vR b310, vI o325, .unset, .unset] []))
       refine own_by (fun _ k => XS.iconst X324.here hx rfl (hb hby at_250) k) ?_
       show own_Go p e below _ (T324.setTop (mkF m 251 #[vI p0, vI p1, vI p2, vI p3, vI p4, vR b277, vI (0 : Int32), vI v1, vI z298, vI v278, vI z308, vR b310, vI o325, .unset, .unset] [(.int (0 : Int32))]))
       exact own_retNW X324 hx hS hk316 hZ hEL hh CR316 (t := .boolean) Bd.returns (by simp) (hb hby at_251) hlk eq324 ⟨((ob_0_53 f_CS p0 p3 p4 v1 v278 z298 z308 o317 o325 hn_CS hv1 c2 c128 c276 hv278 hj299 hj309 hp323 hp326 c327)).elim, N324⟩ (by decide) (by decide)
     by_cases c300 : z298 = (10 : Int32)
     ·skip
      refine own_by (fun _ k => XS.icmpYes X295.here hx rfl (pc0 := 200) (pc' := 216) rfl (hb hby at_200) rfl (teq c300).1 (by decide) (by decide) k) ?_
      show own_Go p e below _ (T293.setTop (mkF m 216 #[vI p0, vI p1, vI p2, vI p3, vI p4, vR b277, vI (0 : Int32), vI v1, vI z298, vI v278, .unset, .unset, .unset, .unset, .unset] []))
      refine own_by (fun _ k => XS.iconst X295.here hx rfl (hb hby at_216) k) ?_
      show own_Go p e below _ (T293.setTop (mkF m 217 #[vI p0, vI p1, vI p2, vI p3, vI p4, vR b277, vI (0 : Int32), vI v1, vI z298, vI v278, .unset, .unset, .unset, .unset, .unset] [(.int (1 : Int32))]))
      refine own_by (fun _ k => XS.goto X295.here hx rfl (pc0 := 217) (pc' := 221) rfl (hb hby at_217) (by decide) (by decide) k) ?_
      show own_Go p e below _ (T293.setTop (mkF m 221 #[vI p0, vI p1, vI p2, vI p3, vI p4, vR b277, vI (0 : Int32), vI v1, vI z298, vI v278, .unset, .unset, .unset, .unset, .unset] [(.int (1 : Int32))]))
      exact J302 _ _ (1 : Int32) X295 e296 N297 (Or.inl ⟨c300, rfl⟩)
     ·skip
      refine own_by (fun _ k => XS.icmpNo X295.here hx rfl (hb hby at_200) rfl (feq c300).1 k) ?_
      show own_Go p e below _ (T293.setTop (mkF m 203 #[vI p0, vI p1, vI p2, vI p3, vI p4, vR b277, vI (0 : Int32), vI v1, vI z298, vI v278, .unset, .unset, .unset, .unset, .unset] []))
      refine own_by (fun _ k => XS.iload X295.here hx rfl (hb hby at_203) rfl k) ?_
      show own_Go p e below _ (T293.setTop (mkF m 205 #[vI p0, vI p1, vI p2, vI p3, vI p4, vR b277, vI (0 : Int32), vI v1, vI z298, vI v278, .unset, .unset, .unset, .unset, .unset] [(.int z298)]))
      refine own_by (fun _ k => XS.sipush X295.here hx rfl (hb hby at_205) k) ?_
      show own_Go p e below _ (T293.setTop (mkF m 208 #[vI p0, vI p1, vI p2, vI p3, vI p4, vR b277, vI (0 : Int32), vI v1, vI z298, vI v278, .unset, .unset, .unset, .unset, .unset] [(.int (133 : Int32)), (.int z298)]))
      by_cases c301 : z298 = (133 : Int32)
      ·skip
       refine own_by (fun _ k => XS.icmpNo X295.here hx rfl (hb hby at_208) rfl (teq c301).2 k) ?_
       show own_Go p e below _ (T293.setTop (mkF m 211 #[vI p0, vI p1, vI p2, vI p3, vI p4, vR b277, vI (0 : Int32), vI v1, vI z298, vI v278, .unset, .unset, .unset, .unset, .unset] []))
       refine own_by (fun _ k => XS.iload X295.here hx rfl (hb hby at_211) rfl k) ?_
       show own_Go p e below _ (T293.setTop (mkF m 213 #[vI p0, vI p1, vI p2, vI p3, vI p4, vR b277, vI (0 : Int32), vI v1, vI z298, vI v278, .unset, .unset, .unset, .unset, .unset] [(.int (0 : Int32))]))
       refine own_by (fun _ k => XS.ifYes X295.here hx rfl (pc0 := 213) (pc' := 220) rfl (hb hby at_213) rfl ((if0 _ _).trans (teq (by decide : (0 : Int32) = (0 : Int32))).1) (by decide) (by decide) k) ?_
       show own_Go p e below _ (T293.setTop (mkF m 220 #[vI p0, vI p1, vI p2, vI p3, vI p4, vR b277, vI (0 : Int32), vI v1, vI z298, vI v278, .unset, .unset, .unset, .unset, .unset] []))
       refine own_by (fun _ k => XS.iconst X295.here hx rfl (hb hby at_220) k) ?_
       show own_Go p e below _ (T293.setTop (mkF m 221 #[vI p0, vI p1, vI p2, vI p3, vI p4, vR b277, vI (0 : Int32), vI v1, vI z298, vI v278, .unset, .unset, .unset, .unset, .unset] [(.int (0 : Int32))]))
       exact J302 _ _ (0 : Int32) X295 e296 N297 (Or.inr (Or.inl ⟨c300, c301, rfl⟩))
      ·skip
       refine own_by (fun _ k => XS.icmpYes X295.here hx rfl (pc0 := 208) (pc' := 220) rfl (hb hby at_208) rfl (feq c301).2 (by decide) (by decide) k) ?_
       show own_Go p e below _ (T293.setTop (mkF m 220 #[vI p0, vI p1, vI p2, vI p3, vI p4, vR b277, vI (0 : Int32), vI v1, vI z298, vI v278, .unset, .unset, .unset, .unset, .unset] []))
       refine own_by (fun _ k => XS.iconst X295.here hx rfl (hb hby at_220) k) ?_
       show own_Go p e below _ (T293.setTop (mkF m 221 #[vI p0, vI p1, vI p2, vI p3, vI p4, vR b277, vI (0 : Int32), vI v1, vI z298, vI v278, .unset, .unset, .unset, .unset, .unset] [(.int (0 : Int32))]))
       exact J302 _ _ (0 : Int32) X295 e296 N297 (Or.inr (Or.inr (⟨c300, c301, rfl⟩)))
    by_cases c279 : v278 = (0 : Int32)
    ·skip
     refine own_by (fun _ k => XS.ifNo X277.here hx rfl (hb hby at_141) rfl ((if0 _ _).trans (teq c279).2) k) ?_
     show own_Go p e below _ (T277.setTop (mkF m 144 #[vI p0, vI p1, vI p2, vI p3, vI p4, vR b277, vI (0 : Int32), vI v1, .unset, vI v278, .unset, .unset, .unset, .unset, .unset] []))
     refine own_by (fun _ k => XS.bipush X277.here hx rfl (hb hby at_144) k) ?_
     show own_Go p e below _ (T277.setTop (mkF m 146 #[vI p0, vI p1, vI p2, vI p3, vI p4, vR b277, vI (0 : Int32), vI v1, .unset, vI v278, .unset, .unset, .unset, .unset, .unset] [(.int (10 : Int32))]))
     refine own_by (fun _ k => XS.istore X277.here hx rfl (hb hby at_146) rfl (l' := #[vI p0, vI p1, vI p2, vI p3, vI p4, vR b277, vI (0 : Int32), vI v1, vI (10 : Int32), vI v278, .unset, .unset, .unset, .unset, .unset]) rfl k) ?_
     show own_Go p e below _ (T277.setTop (mkF m 148 #[vI p0, vI p1, vI p2, vI p3, vI p4, vR b277, vI (0 : Int32), vI v1, vI (10 : Int32), vI v278, .unset, .unset, .unset, .unset, .unset] []))
     refine own_by (fun _ k => XS.goto X277.here hx rfl (pc0 := 148) (pc' := 196) rfl (hb hby at_148) (by decide) (by decide) k) ?_
     show own_Go p e below _ (T277.setTop (mkF m 196 #[vI p0, vI p1, vI p2, vI p3, vI p4, vR b277, vI (0 : Int32), vI v1, vI (10 : Int32), vI v278, .unset, .unset, .unset, .unset, .unset] []))
     exact J292 _ _ (10 : Int32) X277 e277 N0 (Or.inl ⟨c279, rfl⟩)
    ·skip
     refine own_by (fun _ k => XS.ifYes X277.here hx rfl (pc0 := 141) (pc' := 151) rfl (hb hby at_141) rfl ((if0 _ _).trans (feq c279).2) (by decide) (by decide) k) ?_
     show own_Go p e below _ (T277.setTop (mkF m 151 #[vI p0, vI p1, vI p2, vI p3, vI p4, vR b277, vI (0 : Int32), vI v1, .unset, vI v278, .unset, .unset, .unset, .unset, .unset] []))
     refine own_by (fun _ k => XS.iload X277.here hx rfl (hb hby at_151) rfl k) ?_
     show own_Go p e below _ (T277.setTop (mkF m 153 #[vI p0, vI p1, vI p2, vI p3, vI p4, vR b277, vI (0 : Int32), vI v1, .unset, vI v278, .unset, .unset, .unset, .unset, .unset] [(.int v278)]))
     refine own_by (fun _ k => XS.iconst X277.here hx rfl (hb hby at_153) k) ?_
     show own_Go p e below _ (T277.setTop (mkF m 154 #[vI p0, vI p1, vI p2, vI p3, vI p4, vR b277, vI (0 : Int32), vI v1, .unset, vI v278, .unset, .unset, .unset, .unset, .unset] [(.int (1 : Int32)), (.int v278)]))
     by_cases c280 : v278 = (1 : Int32)
     ·skip
      refine own_by (fun _ k => XS.icmpNo X277.here hx rfl (hb hby at_154) rfl (teq c280).2 k) ?_
      show own_Go p e below _ (T277.setTop (mkF m 157 #[vI p0, vI p1, vI p2, vI p3, vI p4, vR b277, vI (0 : Int32), vI v1, .unset, vI v278, .unset, .unset, .unset, .unset, .unset] []))
      refine own_by (fun _ k => XS.sipush X277.here hx rfl (hb hby at_157) k) ?_
      show own_Go p e below _ (T277.setTop (mkF m 160 #[vI p0, vI p1, vI p2, vI p3, vI p4, vR b277, vI (0 : Int32), vI v1, .unset, vI v278, .unset, .unset, .unset, .unset, .unset] [(.int (133 : Int32))]))
      refine own_by (fun _ k => XS.istore X277.here hx rfl (hb hby at_160) rfl (l' := #[vI p0, vI p1, vI p2, vI p3, vI p4, vR b277, vI (0 : Int32), vI v1, vI (133 : Int32), vI v278, .unset, .unset, .unset, .unset, .unset]) rfl k) ?_
      show own_Go p e below _ (T277.setTop (mkF m 162 #[vI p0, vI p1, vI p2, vI p3, vI p4, vR b277, vI (0 : Int32), vI v1, vI (133 : Int32), vI v278, .unset, .unset, .unset, .unset, .unset] []))
      refine own_by (fun _ k => XS.goto X277.here hx rfl (pc0 := 162) (pc' := 196) rfl (hb hby at_162) (by decide) (by decide) k) ?_
      show own_Go p e below _ (T277.setTop (mkF m 196 #[vI p0, vI p1, vI p2, vI p3, vI p4, vR b277, vI (0 : Int32), vI v1, vI (133 : Int32), vI v278, .unset, .unset, .unset, .unset, .unset] []))
      exact J292 _ _ (133 : Int32) X277 e277 N0 (Or.inr (Or.inl ⟨c279, c280, rfl⟩))
     ·skip
      refine own_by (fun _ k => XS.icmpYes X277.here hx rfl (pc0 := 154) (pc' := 165) rfl (hb hby at_154) rfl (feq c280).2 (by decide) (by decide) k) ?_
      show own_Go p e below _ (T277.setTop (mkF m 165 #[vI p0, vI p1, vI p2, vI p3, vI p4, vR b277, vI (0 : Int32), vI v1, .unset, vI v278, .unset, .unset, .unset, .unset, .unset] []))
      refine own_by (fun _ k => XS.iload X277.here hx rfl (hb hby at_165) rfl k) ?_
      show own_Go p e below _ (T277.setTop (mkF m 167 #[vI p0, vI p1, vI p2, vI p3, vI p4, vR b277, vI (0 : Int32), vI v1, .unset, vI v278, .unset, .unset, .unset, .unset, .unset] [(.int v278)]))
      refine own_by (fun _ k => XS.iconst X277.here hx rfl (hb hby at_167) k) ?_
      show own_Go p e below _ (T277.setTop (mkF m 168 #[vI p0, vI p1, vI p2, vI p3, vI p4, vR b277, vI (0 : Int32), vI v1, .unset, vI v278, .unset, .unset, .unset, .unset, .unset] [(.int (2 : Int32)), (.int v278)]))
      by_cases c281 : v278 = (2 : Int32)
      ·skip
       refine own_by (fun _ k => XS.icmpNo X277.here hx rfl (hb hby at_168) rfl (teq c281).2 k) ?_
       show own_Go p e below _ (T277.setTop (mkF m 171 #[vI p0, vI p1, vI p2, vI p3, vI p4, vR b277, vI (0 : Int32), vI v1, .unset, vI v278, .unset, .unset, .unset, .unset, .unset] []))
       refine own_by (fun _ k => XS.iload X277.here hx rfl (hb hby at_171) rfl k) ?_
       show own_Go p e below _ (T277.setTop (mkF m 173 #[vI p0, vI p1, vI p2, vI p3, vI p4, vR b277, vI (0 : Int32), vI v1, .unset, vI v278, .unset, .unset, .unset, .unset, .unset] [(.int p4)]))
       refine own_by (fun _ k => XS.iconst X277.here hx rfl (hb hby at_173) k) ?_
       show own_Go p e below _ (T277.setTop (mkF m 174 #[vI p0, vI p1, vI p2, vI p3, vI p4, vR b277, vI (0 : Int32), vI v1, .unset, vI v278, .unset, .unset, .unset, .unset, .unset] [(.int (1 : Int32)), (.int p4)]))
       refine own_by (fun _ k => XS.iand X277.here hx rfl (hb hby at_174) rfl k) ?_
       show own_Go p e below _ (T277.setTop (mkF m 175 #[vI p0, vI p1, vI p2, vI p3, vI p4, vR b277, vI (0 : Int32), vI v1, .unset, vI v278, .unset, .unset, .unset, .unset, .unset] [(.int (p4 &&& (1 : Int32)))]))
       have J283 : ∀ (T284 : State) (L285 : List Loc) (z289 : Int32), Stand p l e room_1 (s.setVm T277.vm) m #[(.int p0), (.int p1), (.int p2), (.int p3), (.int p4)] below meth c T284 L285 2 16 → T284.heap = h277 → Fr n0 L285 → ((((p4 &&& (1 : Int32)) = (0 : Int32)) ∧ z289 = (13 : Int32)) ∨ ((¬ ((p4 &&& (1 : Int32)) = (0 : Int32))) ∧ z289 = (8232 : Int32))) → own_Go p e below (own_FinW Z consts_1 s 24 3200 (Q0 Z f_CS p0 p1 p2 p3 p4 h0 n0)) (T284.setTop (mkF m 186 #[vI p0, vI p1, vI p2, vI p3, vI p4, vR b277, vI (0 : Int32), vI v1, .unset, vI v278, .unset, .unset, .unset, .unset, .unset] [(.int z289)])) := by
        intro T284 L285 z289 X286 e287 N288 hj290
        refine own_by (fun _ k => XS.istore X286.here hx rfl (hb hby at_186) rfl (l' := #[vI p0, vI p1, vI p2, vI p3, vI p4, vR b277, vI (0 : Int32), vI v1, vI z289, vI v278, .unset, .unset, .unset, .unset, .unset]) rfl k) ?_
        show own_Go p e below _ (T284.setTop (mkF m 188 #[vI p0, vI p1, vI p2, vI p3, vI p4, vR b277, vI (0 : Int32), vI v1, vI z289, vI v278, .unset, .unset, .unset, .unset, .unset] []))
        refine own_by (fun _ k => XS.goto X286.here hx rfl (pc0 := 188) (pc' := 196) rfl (hb hby at_188) (by decide) (by decide) k) ?_
        show own_Go p e below _ (T284.setTop (mkF m 196 #[vI p0, vI p1, vI p2, vI p3, vI p4, vR b277, vI (0 : Int32), vI v1, vI z289, vI v278, .unset, .unset, .unset, .unset, .unset] []))
        exact J292 _ _ z289 X286 e287 N288 (Or.inr (Or.inr (Or.inl ⟨z289, c279, c280, c281, hj290, rfl⟩)))
       by_cases c282 : (p4 &&& (1 : Int32)) = (0 : Int32)
       ·skip
        refine own_by (fun _ k => XS.ifNo X277.here hx rfl (hb hby at_175) rfl ((if0 _ _).trans (teq c282).2) k) ?_
        show own_Go p e below _ (T277.setTop (mkF m 178 #[vI p0, vI p1, vI p2, vI p3, vI p4, vR b277, vI (0 : Int32), vI v1, .unset, vI v278, .unset, .unset, .unset, .unset, .unset] []))
        refine own_by (fun _ k => XS.bipush X277.here hx rfl (hb hby at_178) k) ?_
        show own_Go p e below _ (T277.setTop (mkF m 180 #[vI p0, vI p1, vI p2, vI p3, vI p4, vR b277, vI (0 : Int32), vI v1, .unset, vI v278, .unset, .unset, .unset, .unset, .unset] [(.int (13 : Int32))]))
        refine own_by (fun _ k => XS.goto X277.here hx rfl (pc0 := 180) (pc' := 186) rfl (hb hby at_180) (by decide) (by decide) k) ?_
        show own_Go p e below _ (T277.setTop (mkF m 186 #[vI p0, vI p1, vI p2, vI p3, vI p4, vR b277, vI (0 : Int32), vI v1, .unset, vI v278, .unset, .unset, .unset, .unset, .unset] [(.int (13 : Int32))]))
        exact J283 _ _ (13 : Int32) X277 e277 N0 (Or.inl ⟨c282, rfl⟩)
       ·skip
        refine own_by (fun _ k => XS.ifYes X277.here hx rfl (pc0 := 175) (pc' := 183) rfl (hb hby at_175) rfl ((if0 _ _).trans (feq c282).2) (by decide) (by decide) k) ?_
        show own_Go p e below _ (T277.setTop (mkF m 183 #[vI p0, vI p1, vI p2, vI p3, vI p4, vR b277, vI (0 : Int32), vI v1, .unset, vI v278, .unset, .unset, .unset, .unset, .unset] []))
        refine own_by (fun _ k => XS.sipush X277.here hx rfl (hb hby at_183) k) ?_
        show own_Go p e below _ (T277.setTop (mkF m 186 #[vI p0, vI p1, vI p2, vI p3, vI p4, vR b277, vI (0 : Int32), vI v1, .unset, vI v278, .unset, .unset, .unset, .unset, .unset] [(.int (8232 : Int32))]))
        exact J283 _ _ (8232 : Int32) X277 e277 N0 (Or.inr (⟨c282, rfl⟩))
      ·skip
       refine own_by (fun _ k => XS.icmpYes X277.here hx rfl (pc0 := 168) (pc' := 191) rfl (hb hby at_168) rfl (feq c281).2 (by decide) (by decide) k) ?_
       show own_Go p e below _ (T277.setTop (mkF m 191 #[vI p0, vI p1, vI p2, vI p3, vI p4, vR b277, vI (0 : Int32), vI v1, .unset, vI v278, .unset, .unset, .unset, .unset, .unset] []))
       refine own_by (fun _ k => XS.iload X277.here hx rfl (hb hby at_191) rfl k) ?_
       show own_Go p e below _ (T277.setTop (mkF m 193 #[vI p0, vI p1, vI p2, vI p3, vI p4, vR b277, vI (0 : Int32), vI v1, .unset, vI v278, .unset, .unset, .unset, .unset, .unset] [(.int p4)]))
       refine own_by (fun _ k => XS.i2c X277.here hx rfl (hb hby at_193) rfl k) ?_
       show own_Go p e below _ (T277.setTop (mkF m 194 #[vI p0, vI p1, vI p2, vI p3, vI p4, vR b277, vI (0 : Int32), vI v1, .unset, vI v278, .unset, .unset, .unset, .unset, .unset] [(.int (p4.toUInt32.toUInt16.toUInt32.toInt32))]))
       refine own_by (fun _ k => XS.istore X277.here hx rfl (hb hby at_194) rfl (l' := #[vI p0, vI p1, vI p2, vI p3, vI p4, vR b277, vI (0 : Int32), vI v1, vI (p4.toUInt32.toUInt16.toUInt32.toInt32), vI v278, .unset, .unset, .unset, .unset, .unset]) rfl k) ?_
       show own_Go p e below _ (T277.setTop (mkF m 196 #[vI p0, vI p1, vI p2, vI p3, vI p4, vR b277, vI (0 : Int32), vI v1, vI (p4.toUInt32.toUInt16.toUInt32.toInt32), vI v278, .unset, .unset, .unset, .unset, .unset] []))
       generalize hv291 : (p4.toUInt32.toUInt16.toUInt32.toInt32) = v291
       show own_Go p e below _ (T277.setTop (mkF m 196 #[vI p0, vI p1, vI p2, vI p3, vI p4, vR b277, vI (0 : Int32), vI v1, vI v291, vI v278, .unset, .unset, .unset, .unset, .unset] []))
       exact J292 _ _ v291 X277 e277 N0 (Or.inr (Or.inr (Or.inr (⟨v291, c279, c280, c281, hv291, rfl⟩))))
   ·skip
    refine own_by (fun _ k => XS.icmpYes X0.here hx rfl (pc0 := 38) (pc' := 51) rfl (hb hby at_38) rfl (feq c276).2 (by decide) (by decide) k) ?_
    show own_Go p e below _ (s₁.setTop (mkF m 51 #[vI p0, vI p1, vI p2, vI p3, vI p4, .unset, .unset, vI v1, .unset, .unset, .unset, .unset, .unset, .unset, .unset] []))
    refine own_by (fun _ k => XS.iconst X0.here hx rfl (hb hby at_51) k) ?_
    show own_Go p e below _ (s₁.setTop (mkF m 52 #[vI p0, vI p1, vI p2, vI p3, vI p4, .unset, .unset, vI v1, .unset, .unset, .unset, .unset, .unset, .unset, .unset] [(.int (3 : Int32))]))
    obtain ⟨T424, h424, k424, X424, e424, E424, A424, st424⟩ := newP X0 hx hZ (hwd 57 rfl) e0 (g := (mkF m 52 #[vI p0, vI p1, vI p2, vI p3, vI p4, .unset, .unset, vI v1, .unset, .unset, .unset, .unset, .unset, .unset, .unset] [(.int (3 : Int32))])) rfl (hb hby at_52) rfl (by decide) (cap := 3) (by decide) (by decide) (by decide) (by decide)
    obtain ⟨b424, g424⟩ : ∃ z, z = h0.size := ⟨_, rfl⟩
    have ge_b424 : n0 ≤ b424 := Nat.le_trans Z0 (Nat.le_of_eq g424.symm)
    have sz_b424 : h0.size ≤ b424 := Nat.le_trans (Keep.refl h0 []).1 (Nat.le_of_eq g424.symm)
    have R424 : CHr Z consts_1 s.vm h0 s.vm h424 := CHr.ext E424 CR0.1
    have CR424 : CHr Z consts_1 s.vm h0 s.vm h424 := CR0.trans R424
    have hk424 : kc0 ≤ h424.size := Nat.le_trans hk0 E424.1
    have S_b424 : Safe Z consts_1 s.vm h424 b424 := Safe.ext E424 CR0.1 (Safe.new (Nat.le_of_eq g424.symm))
    have K424 : Keep h0 h424 [] := (Keep.refl h0 []).ext E424
    have Z424 : n0 ≤ h424.size := Nat.le_trans Z0 E424.1
    rw [← g424] at A424 st424
    have V424 : own_Arf Z h424 b424 k424 .char (3 : Int32) (fun i => .int ((fun _ => (0 : Int32)) i)) := own_arfNew A424 (by decide)
    refine own_by st424 ?_
    show own_Go p e below _ (T424.setTop (mkF m 54 #[vI p0, vI p1, vI p2, vI p3, vI p4, .unset, .unset, vI v1, .unset, .unset, .unset, .unset, .unset, .unset, .unset] [(.ref b424)]))
    refine own_by (fun _ k => XS.astore X424.here hx rfl (hb hby at_54) rfl rfl (l' := #[vI p0, vI p1, vI p2, vI p3, vI p4, .unset, .unset, vI v1, vR b424, .unset, .unset, .unset, .unset, .unset, .unset]) rfl k) ?_
    show own_Go p e below _ (T424.setTop (mkF m 56 #[vI p0, vI p1, vI p2, vI p3, vI p4, .unset, .unset, vI v1, vR b424, .unset, .unset, .unset, .unset, .unset, .unset] []))
    refine own_by (fun _ k => XS.aload X424.here hx rfl (hb hby at_56) rfl rfl k) ?_
    show own_Go p e below _ (T424.setTop (mkF m 58 #[vI p0, vI p1, vI p2, vI p3, vI p4, .unset, .unset, vI v1, vR b424, .unset, .unset, .unset, .unset, .unset, .unset] [(.ref b424)]))
    refine own_by (fun _ k => XS.iconst X424.here hx rfl (hb hby at_58) k) ?_
    show own_Go p e below _ (T424.setTop (mkF m 59 #[vI p0, vI p1, vI p2, vI p3, vI p4, .unset, .unset, vI v1, vR b424, .unset, .unset, .unset, .unset, .unset, .unset] [(.int (0 : Int32)), (.ref b424)]))
    refine own_by (fun _ k => XS.iloadN X424.here hx rfl (hb hby at_59) rfl k) ?_
    show own_Go p e below _ (T424.setTop (mkF m 60 #[vI p0, vI p1, vI p2, vI p3, vI p4, .unset, .unset, vI v1, vR b424, .unset, .unset, .unset, .unset, .unset, .unset] [(.int p1), (.int (0 : Int32)), (.ref b424)]))
    refine own_by (fun _ k => XS.sipush X424.here hx rfl (hb hby at_60) k) ?_
    show own_Go p e below _ (T424.setTop (mkF m 63 #[vI p0, vI p1, vI p2, vI p3, vI p4, .unset, .unset, vI v1, vR b424, .unset, .unset, .unset, .unset, .unset, .unset] [(.int (255 : Int32)), (.int p1), (.int (0 : Int32)), (.ref b424)]))
    refine own_by (fun _ k => XS.iand X424.here hx rfl (hb hby at_63) rfl k) ?_
    show own_Go p e below _ (T424.setTop (mkF m 64 #[vI p0, vI p1, vI p2, vI p3, vI p4, .unset, .unset, vI v1, vR b424, .unset, .unset, .unset, .unset, .unset, .unset] [(.int (p1 &&& (255 : Int32))), (.int (0 : Int32)), (.ref b424)]))
    refine own_by (fun _ k => XS.i2c X424.here hx rfl (hb hby at_64) rfl k) ?_
    show own_Go p e below _ (T424.setTop (mkF m 65 #[vI p0, vI p1, vI p2, vI p3, vI p4, .unset, .unset, vI v1, vR b424, .unset, .unset, .unset, .unset, .unset, .unset] [(.int ((p1 &&& (255 : Int32)).toUInt32.toUInt16.toUInt32.toInt32)), (.int (0 : Int32)), (.ref b424)]))
    obtain ⟨cl425, Ar425, qq425, S425, M425, H425, G425⟩ := id V424
    have hin425 : ¬ ((0 : Int32) < 0 ∨ cl425.slots.size ≤ ((0 : Int32)).toNatClampNeg) := inb_of S425 ⟨by decide, by decide⟩
    obtain ⟨T426, h426, X426, e426, W426, st426⟩ := stC X424 hx hZ e424 Ar425 (j := (0 : Int32)) hin425 (g := (mkF m 65 #[vI p0, vI p1, vI p2, vI p3, vI p4, .unset, .unset, vI v1, vR b424, .unset, .unset, .unset, .unset, .unset, .unset] [(.int ((p1 &&& (255 : Int32)).toUInt32.toUInt16.toUInt32.toInt32)), (.int (0 : Int32)), (.ref b424)])) rfl rfl (hb hby at_65)
    have V426 : own_Arf Z h426 b424 k424 .char (3 : Int32) (fun i => .int ((own_upd (fun _ => (0 : Int32)) 0 (nar .char ((p1 &&& (255 : Int32)).toUInt32.toUInt16.toUInt32.toInt32))) i)) := own_arfSetI Ar425 qq425 S425 M425 H425 G425 (fits_nar_char _) W426
    have R426 : CHr Z consts_1 s.vm h424 s.vm h426 := CHr.wr W426 (own_arfSafe V424 hZ.alike (by decide)) CR424.1
    have CR426 : CHr Z consts_1 s.vm h0 s.vm h426 := CR424.trans R426
    have hk426 : kc0 ≤ h426.size := Nat.le_trans hk424 (Keep.of_wr W426).1
    have K426 : Keep h0 h426 [] := K424.wr W426 (Or.inr sz_b424)
    have Z426 : n0 ≤ h426.size := Nat.le_trans Z424 (Keep.of_wr W426).1
    have N426 := Fr.snoc X426 N0 ge_b424
    refine own_by st426 ?_
    show own_Go p e below _ (T426.setTop (mkF m 66 #[vI p0, vI p1, vI p2, vI p3, vI p4, .unset, .unset, vI v1, vR b424, .unset, .unset, .unset, .unset, .unset, .unset] []))
    refine own_by (fun _ k => XS.aload X426.here hx rfl (hb hby at_66) rfl rfl k) ?_
    show own_Go p e below _ (T426.setTop (mkF m 68 #[vI p0, vI p1, vI p2, vI p3, vI p4, .unset, .unset, vI v1, vR b424, .unset, .unset, .unset, .unset, .unset, .unset] [(.ref b424)]))
    refine own_by (fun _ k => XS.iconst X426.here hx rfl (hb hby at_68) k) ?_
    show own_Go p e below _ (T426.setTop (mkF m 69 #[vI p0, vI p1, vI p2, vI p3, vI p4, .unset, .unset, vI v1, vR b424, .unset, .unset, .unset, .unset, .unset, .unset] [(.int (1 : Int32)), (.ref b424)]))
    refine own_by (fun _ k => XS.iloadN X426.here hx rfl (hb hby at_69) rfl k) ?_
    show own_Go p e below _ (T426.setTop (mkF m 70 #[vI p0, vI p1, vI p2, vI p3, vI p4, .unset, .unset, vI v1, vR b424, .unset, .unset, .unset, .unset, .unset, .unset] [(.int p1), (.int (1 : Int32)), (.ref b424)]))
    refine own_by (fun _ k => XS.bipush X426.here hx rfl (hb hby at_70) k) ?_
    show own_Go p e below _ (T426.setTop (mkF m 72 #[vI p0, vI p1, vI p2, vI p3, vI p4, .unset, .unset, vI v1, vR b424, .unset, .unset, .unset, .unset, .unset, .unset] [(.int (8 : Int32)), (.int p1), (.int (1 : Int32)), (.ref b424)]))
    refine own_by (fun _ k => XS.iushr X426.here hx rfl (hb hby at_72) rfl k) ?_
    show own_Go p e below _ (T426.setTop (mkF m 73 #[vI p0, vI p1, vI p2, vI p3, vI p4, .unset, .unset, vI v1, vR b424, .unset, .unset, .unset, .unset, .unset, .unset] [(.int ((p1.toUInt32 >>> ((8 : Int32) &&& 31).toUInt32).toInt32)), (.int (1 : Int32)), (.ref b424)]))
    refine own_by (fun _ k => XS.sipush X426.here hx rfl (hb hby at_73) k) ?_
    show own_Go p e below _ (T426.setTop (mkF m 76 #[vI p0, vI p1, vI p2, vI p3, vI p4, .unset, .unset, vI v1, vR b424, .unset, .unset, .unset, .unset, .unset, .unset] [(.int (255 : Int32)), (.int ((p1.toUInt32 >>> ((8 : Int32) &&& 31).toUInt32).toInt32)), (.int (1 : Int32)), (.ref b424)]))
    refine own_by (fun _ k => XS.iand X426.here hx rfl (hb hby at_76) rfl k) ?_
    show own_Go p e below _ (T426.setTop (mkF m 77 #[vI p0, vI p1, vI p2, vI p3, vI p4, .unset, .unset, vI v1, vR b424, .unset, .unset, .unset, .unset, .unset, .unset] [(.int (((p1.toUInt32 >>> ((8 : Int32) &&& 31).toUInt32).toInt32) &&& (255 : Int32))), (.int (1 : Int32)), (.ref b424)]))
    refine own_by (fun _ k => XS.i2c X426.here hx rfl (hb hby at_77) rfl k) ?_
    show own_Go p e below _ (T426.setTop (mkF m 78 #[vI p0, vI p1, vI p2, vI p3, vI p4, .unset, .unset, vI v1, vR b424, .unset, .unset, .unset, .unset, .unset, .unset] [(.int ((((p1.toUInt32 >>> ((8 : Int32) &&& 31).toUInt32).toInt32) &&& (255 : Int32)).toUInt32.toUInt16.toUInt32.toInt32)), (.int (1 : Int32)), (.ref b424)]))
    obtain ⟨cl427, Ar427, qq427, S427, M427, H427, G427⟩ := id V426
    have hin427 : ¬ ((1 : Int32) < 0 ∨ cl427.slots.size ≤ ((1 : Int32)).toNatClampNeg) := inb_of S427 ⟨by decide, by decide⟩
    obtain ⟨T428, h428, X428, e428, W428, st428⟩ := stC X426 hx hZ e426 Ar427 (j := (1 : Int32)) hin427 (g := (mkF m 78 #[vI p0, vI p1, vI p2, vI p3, vI p4, .unset, .unset, vI v1, vR b424, .unset, .unset, .unset, .unset, .unset, .unset] [(.int ((((p1.toUInt32 >>> ((8 : Int32) &&& 31).toUInt32).toInt32) &&& (255 : Int32)).toUInt32.toUInt16.toUInt32.toInt32)), (.int (1 : Int32)), (.ref b424)])) rfl rfl (hb hby at_78)
    have V428 : own_Arf Z h428 b424 k424 .char (3 : Int32) (fun i => .int ((own_upd (own_upd (fun _ => (0 : Int32)) 0 (nar .char ((p1 &&& (255 : Int32)).toUInt32.toUInt16.toUInt32.toInt32))) 1 (nar .char ((((p1.toUInt32 >>> ((8 : Int32) &&& 31).toUInt32).toInt32) &&& (255 : Int32)).toUInt32.toUInt16.toUInt32.toInt32))) i)) := own_arfSetI Ar427 qq427 S427 M427 H427 G427 (fits_nar_char _) W428
    have R428 : CHr Z consts_1 s.vm h426 s.vm h428 := CHr.wr W428 (own_arfSafe V426 hZ.alike (by decide)) CR426.1
    have CR428 : CHr Z consts_1 s.vm h0 s.vm h428 := CR426.trans R428
    have hk428 : kc0 ≤ h428.size := Nat.le_trans hk426 (Keep.of_wr W428).1
    have K428 : Keep h0 h428 [] := K426.wr W428 (Or.inr sz_b424)
    have Z428 : n0 ≤ h428.size := Nat.le_trans Z426 (Keep.of_wr W428).1
    have N428 := Fr.snoc X428 N426 ge_b424
    refine own_by st428 ?_
    show own_Go p e below _ (T428.setTop (mkF m 79 #[vI p0, vI p1, vI p2, vI p3, vI p4, .unset, .unset, vI v1, vR b424, .unset, .unset, .unset, .unset, .unset, .unset] []))
    refine own_by (fun _ k => XS.aload X428.here hx rfl (hb hby at_79) rfl rfl k) ?_
    show own_Go p e below _ (T428.setTop (mkF m 81 #[vI p0, vI p1, vI p2, vI p3, vI p4, .unset, .unset, vI v1, vR b424, .unset, .unset, .unset, .unset, .unset, .unset] [(.ref b424)]))
    refine own_by (fun _ k => XS.iconst X428.here hx rfl (hb hby at_81) k) ?_
    show own_Go p e below _ (T428.setTop (mkF m 82 #[vI p0, vI p1, vI p2, vI p3, vI p4, .unset, .unset, vI v1, vR b424, .unset, .unset, .unset, .unset, .unset, .unset] [(.int (2 : Int32)), (.ref b424)]))
    refine own_by (fun _ k => XS.iloadN X428.here hx rfl (hb hby at_82) rfl k) ?_
    show own_Go p e below _ (T428.setTop (mkF m 83 #[vI p0, vI p1, vI p2, vI p3, vI p4, .unset, .unset, vI v1, vR b424, .unset, .unset, .unset, .unset, .unset, .unset] [(.int p2), (.int (2 : Int32)), (.ref b424)]))
    refine own_by (fun _ k => XS.sipush X428.here hx rfl (hb hby at_83) k) ?_
    show own_Go p e below _ (T428.setTop (mkF m 86 #[vI p0, vI p1, vI p2, vI p3, vI p4, .unset, .unset, vI v1, vR b424, .unset, .unset, .unset, .unset, .unset, .unset] [(.int (255 : Int32)), (.int p2), (.int (2 : Int32)), (.ref b424)]))
    refine own_by (fun _ k => XS.iand X428.here hx rfl (hb hby at_86) rfl k) ?_
    show own_Go p e below _ (T428.setTop (mkF m 87 #[vI p0, vI p1, vI p2, vI p3, vI p4, .unset, .unset, vI v1, vR b424, .unset, .unset, .unset, .unset, .unset, .unset] [(.int (p2 &&& (255 : Int32))), (.int (2 : Int32)), (.ref b424)]))
    refine own_by (fun _ k => XS.i2c X428.here hx rfl (hb hby at_87) rfl k) ?_
    show own_Go p e below _ (T428.setTop (mkF m 88 #[vI p0, vI p1, vI p2, vI p3, vI p4, .unset, .unset, vI v1, vR b424, .unset, .unset, .unset, .unset, .unset, .unset] [(.int ((p2 &&& (255 : Int32)).toUInt32.toUInt16.toUInt32.toInt32)), (.int (2 : Int32)), (.ref b424)]))
    obtain ⟨cl429, Ar429, qq429, S429, M429, H429, G429⟩ := id V428
    have hin429 : ¬ ((2 : Int32) < 0 ∨ cl429.slots.size ≤ ((2 : Int32)).toNatClampNeg) := inb_of S429 ⟨by decide, by decide⟩
    obtain ⟨T430, h430, X430, e430, W430, st430⟩ := stC X428 hx hZ e428 Ar429 (j := (2 : Int32)) hin429 (g := (mkF m 88 #[vI p0, vI p1, vI p2, vI p3, vI p4, .unset, .unset, vI v1, vR b424, .unset, .unset, .unset, .unset, .unset, .unset] [(.int ((p2 &&& (255 : Int32)).toUInt32.toUInt16.toUInt32.toInt32)), (.int (2 : Int32)), (.ref b424)])) rfl rfl (hb hby at_88)
    have V430 : own_Arf Z h430 b424 k424 .char (3 : Int32) (fun i => .int ((own_upd (own_upd (own_upd (fun _ => (0 : Int32)) 0 (nar .char ((p1 &&& (255 : Int32)).toUInt32.toUInt16.toUInt32.toInt32))) 1 (nar .char ((((p1.toUInt32 >>> ((8 : Int32) &&& 31).toUInt32).toInt32) &&& (255 : Int32)).toUInt32.toUInt16.toUInt32.toInt32))) 2 (nar .char ((p2 &&& (255 : Int32)).toUInt32.toUInt16.toUInt32.toInt32))) i)) := own_arfSetI Ar429 qq429 S429 M429 H429 G429 (fits_nar_char _) W430
    have R430 : CHr Z consts_1 s.vm h428 s.vm h430 := CHr.wr W430 (own_arfSafe V428 hZ.alike (by decide)) CR428.1
    have CR430 : CHr Z consts_1 s.vm h0 s.vm h430 := CR428.trans R430
    have hk430 : kc0 ≤ h430.size := Nat.le_trans hk428 (Keep.of_wr W430).1
    have K430 : Keep h0 h430 [] := K428.wr W430 (Or.inr sz_b424)
    have Z430 : n0 ≤ h430.size := Nat.le_trans Z428 (Keep.of_wr W430).1
    have N430 := Fr.snoc X430 N428 ge_b424
    refine own_by st430 ?_
    show own_Go p e below _ (T430.setTop (mkF m 89 #[vI p0, vI p1, vI p2, vI p3, vI p4, .unset, .unset, vI v1, vR b424, .unset, .unset, .unset, .unset, .unset, .unset] []))
    obtain ⟨T431, h431, X431, e431, E431, A431, D431, -, st431⟩ := newO X430 hx hZ hown (hwd 58 rfl) (hwd 15 rfl) (hwd 14 rfl) e430 (g := (mkF m 89 #[vI p0, vI p1, vI p2, vI p3, vI p4, .unset, .unset, vI v1, vR b424, .unset, .unset, .unset, .unset, .unset, .unset] [])) rfl (hb hby at_89) (by decide) (by decide)
    obtain ⟨b431, g431⟩ : ∃ z, z = h430.size := ⟨_, rfl⟩
    have ge_b431 : n0 ≤ b431 := Nat.le_trans Z430 (Nat.le_of_eq g431.symm)
    have sz_b431 : h0.size ≤ b431 := Nat.le_trans K430.1 (Nat.le_of_eq g431.symm)
    have R431 : CHr Z consts_1 s.vm h430 s.vm h431 := CHr.ext E431 CR430.1
    have CR431 : CHr Z consts_1 s.vm h0 s.vm h431 := CR430.trans R431
    have hk431 : kc0 ≤ h431.size := Nat.le_trans hk430 E431.1
    have S_b431 : Safe Z consts_1 s.vm h431 b431 := Safe.ext E431 CR430.1 (Safe.new (Nat.le_of_eq g431.symm))
    have K431 : Keep h0 h431 [] := K430.ext E431
    have Z431 : n0 ≤ h431.size := Nat.le_trans Z430 E431.1
    rw [← g431] at A431 D431 st431
    have lt_b431 := A431.lt
    have F_value_b431 : Fld Z h431 b431 "java/lang/String" "value" "[B" .null := D431 (Or.inr (hwd 17 rfl)) (ty := (.array .byte)) (by decide)
    have F_coder_b431 : Fld Z h431 b431 "java/lang/String" "coder" "B" (.int (0 : Int32)) := D431 (Or.inr (hwd 18 rfl)) (ty := .byte) (by decide)
    refine own_by st431 ?_
    show own_Go p e below _ (T431.setTop (mkF m 92 #[vI p0, vI p1, vI p2, vI p3, vI p4, .unset, .unset, vI v1, vR b424, .unset, .unset, .unset, .unset, .unset, .unset] [(.ref b431)]))
    refine own_by (fun _ k => XS.dup X431.here hx rfl (hb hby at_92) rfl rfl k) ?_
    show own_Go p e below _ (T431.setTop (mkF m 93 #[vI p0, vI p1, vI p2, vI p3, vI p4, .unset, .unset, vI v1, vR b424, .unset, .unset, .unset, .unset, .unset, .unset] [(.ref b431), (.ref b431)]))
    refine own_by (fun _ k => XS.aload X431.here hx rfl (hb hby at_93) rfl rfl k) ?_
    show own_Go p e below _ (T431.setTop (mkF m 95 #[vI p0, vI p1, vI p2, vI p3, vI p4, .unset, .unset, vI v1, vR b424, .unset, .unset, .unset, .unset, .unset, .unset] [(.ref b424), (.ref b431), (.ref b431)]))
    have F432 : own_Arf Z h431 b424 k424 .char (3 : Int32) (fun i => .int ((own_upd (own_upd (own_upd (fun _ => (0 : Int32)) 0 (nar .char ((p1 &&& (255 : Int32)).toUInt32.toUInt16.toUInt32.toInt32))) 1 (nar .char ((((p1.toUInt32 >>> ((8 : Int32) &&& 31).toUInt32).toInt32) &&& (255 : Int32)).toUInt32.toUInt16.toUInt32.toInt32))) 2 (nar .char ((p2 &&& (255 : Int32)).toUInt32.toUInt16.toUInt32.toInt32))) i)) := (V430.ext E431)
    have F433 : Sta Z h431 "java/lang/String" "COMPACT_STRINGS" "Z" (.int f_CS) := (((((P_S_CS.ext E424).wr W426).wr W428).wr W430).ext E431)
    obtain ⟨_, _, ⟨T434, L434, k434, n434⟩, -, X434, ⟨Lc434, hQ434, l434, y434, z434⟩, st434⟩ := X431.specialBack hx (y := (⟨"java/lang/String", "<init>", "([C)V"⟩ : MethodName)) rfl hown (mvT hZ (hwd 59 rfl)) (mvT hZ (hwd 60 rfl)) (mvT hZ (hwd 61 rfl)) (by decide) (backOf (W := 1) (rmsi l Z A0 hw [] k424 (own_upd (own_upd (own_upd (fun _ => (0 : Int32)) 0 (nar .char ((p1 &&& (255 : Int32)).toUInt32.toUInt16.toUInt32.toInt32))) 1 (nar .char ((((p1.toUInt32 >>> ((8 : Int32) &&& 31).toUInt32).toInt32) &&& (255 : Int32)).toUInt32.toUInt16.toUInt32.toInt32))) 2 (nar .char ((p2 &&& (255 : Int32)).toUInt32.toUInt16.toUInt32.toInt32))) f_CS b431 b424 (0 : Int32) (.null) h431 n0 Z431 F432 F433 hn_CS (ob_0_54 f_CS p0 p1 v1 hn_CS hv1 c2 c128 c276) (ob_0_55 f_CS p0 p1 v1 hn_CS hv1 c2 c128 c276) (ob_0_56 f_CS p0 p2 v1 hn_CS hv1 c2 c128 c276) A431 F_coder_b431 F_value_b431 ge_b431) hZ (hwd 61 rfl) (hwd 14 rfl) (by decide) (by decide)) (g := (mkF m 95 #[vI p0, vI p1, vI p2, vI p3, vI p4, .unset, .unset, vI v1, vR b424, .unset, .unset, .unset, .unset, .unset, .unset] [(.ref b424), (.ref b431), (.ref b431)])) rfl (by rw [hml]; rfl) (Steps.refl _) (a := b431) (argsL := [(.ref b424)]) (rest := [(.ref b431)]) (lenOf pd_59 rfl) rfl (by show 2 * 0 + _ ≤ _; exact Nat.le_of_eq rfl) (hb hby at_95) (fun _ _ => ⟨rfl, e431, (by decide : 2 + 1 ≤ _), (by decide : 7 + 3 ≤ _)⟩)
    dsimp only [Pt.U, Pt.locs, Pt.cells, Pt.slots] at X434 l434 y434 z434 st434 hQ434
    subst l434 y434 z434
    obtain ⟨b435, b436, rfl, Nq434, Kq434, F437, F438, F439, hp440, hp441, F442⟩ := hQ434
    have N434 := Fr.app N430 Nq434
    have R434 : CHr Z consts_1 s.vm h431 s.vm T434.heap := CHr.keep Kq434 ((allS S_b431 all0)) CR431.1
    have CR434 : CHr Z consts_1 s.vm h0 s.vm T434.heap := CR431.trans R434
    have hk434 : kc0 ≤ T434.heap.size := Nat.le_trans hk431 Kq434.1
    have K434 : Keep h0 T434.heap [] := K431.trans Kq434 ((allS (Or.inr sz_b431) all0))
    have Z434 : n0 ≤ T434.heap.size := Nat.le_trans Z431 Kq434.1
    have sz_b435 : h0.size ≤ b435 := Nat.le_trans K431.1 hp441
    refine own_by (fun _ k => st434.trans k) ?_
    show own_Go p e below _ (T434.setTop (mkF m 98 #[vI p0, vI p1, vI p2, vI p3, vI p4, .unset, .unset, vI v1, vR b424, .unset, .unset, .unset, .unset, .unset, .unset] [(.ref b431)]))
    refine own_by (fun _ k => XS.astore X434.here hx rfl (hb hby at_98) rfl rfl (l' := #[vI p0, vI p1, vI p2, vI p3, vI p4, vR b431, .unset, vI v1, vR b424, .unset, .unset, .unset, .unset, .unset, .unset]) rfl k) ?_
    show own_Go p e below _ (T434.setTop (mkF m 100 #[vI p0, vI p1, vI p2, vI p3, vI p4, vR b431, .unset, vI v1, vR b424, .unset, .unset, .unset, .unset, .unset, .unset] []))
    refine own_by (fun _ k => XS.aload X434.here hx rfl (hb hby at_100) rfl rfl k) ?_
    show own_Go p e below _ (T434.setTop (mkF m 102 #[vI p0, vI p1, vI p2, vI p3, vI p4, vR b431, .unset, vI v1, vR b424, .unset, .unset, .unset, .unset, .unset, .unset] [(.ref b424)]))
    refine own_by (fun _ k => XS.iconst X434.here hx rfl (hb hby at_102) k) ?_
    show own_Go p e below _ (T434.setTop (mkF m 103 #[vI p0, vI p1, vI p2, vI p3, vI p4, vR b431, .unset, vI v1, vR b424, .unset, .unset, .unset, .unset, .unset, .unset] [(.int (0 : Int32)), (.ref b424)]))
    have F443 : own_Arf Z T434.heap b424 k424 .char (3 : Int32) (fun i => .int ((own_upd (own_upd (own_upd (fun _ => (0 : Int32)) 0 (nar .char ((p1 &&& (255 : Int32)).toUInt32.toUInt16.toUInt32.toInt32))) 1 (nar .char ((((p1.toUInt32 >>> ((8 : Int32) &&& 31).toUInt32).toInt32) &&& (255 : Int32)).toUInt32.toUInt16.toUInt32.toInt32))) 2 (nar .char ((p2 &&& (255 : Int32)).toUInt32.toUInt16.toUInt32.toInt32))) i)) := (F432.keep Kq434 (ninS (Nat.ne_of_lt (Nat.lt_of_lt_of_le (V430).lt (Nat.le_of_eq g431.symm))) nin0))
    obtain ⟨cl444, Ar444, qq444, S444, M444, H444, G444⟩ := id F443
    have hin444 : ¬ ((0 : Int32) < 0 ∨ cl444.slots.size ≤ ((0 : Int32)).toNatClampNeg) := inb_of S444 ⟨by decide, by decide⟩
    refine own_by (fun t k => X434.caload hx (j := (0 : Int32)) (v := (.int (nar .char ((p1 &&& (255 : Int32)).toUInt32.toUInt16.toUInt32.toInt32)))) Ar444.1 (State.isArrayOf_alike hZ.alike Ar444.2.1) Ar444.2.2 hin444 (H444 _ (Nat.lt_of_not_le fun y => hin444 (Or.inr y))) (g := (mkF m 103 #[vI p0, vI p1, vI p2, vI p3, vI p4, vR b431, .unset, vI v1, vR b424, .unset, .unset, .unset, .unset, .unset, .unset] [(.int (0 : Int32)), (.ref b424)])) rfl rfl (hb hby at_103) _ k) ?_
    show own_Go p e below _ (T434.setTop (mkF m 104 #[vI p0, vI p1, vI p2, vI p3, vI p4, vR b431, .unset, vI v1, vR b424, .unset, .unset, .unset, .unset, .unset, .unset] [(.int (nar .char ((p1 &&& (255 : Int32)).toUInt32.toUInt16.toUInt32.toInt32)))]))
    refine own_by (fun _ k => XS.bipush X434.here hx rfl (hb hby at_104) k) ?_
    show own_Go p e below _ (T434.setTop (mkF m 106 #[vI p0, vI p1, vI p2, vI p3, vI p4, vR b431, .unset, vI v1, vR b424, .unset, .unset, .unset, .unset, .unset, .unset] [(.int (49 : Int32)), (.int (nar .char ((p1 &&& (255 : Int32)).toUInt32.toUInt16.toUInt32.toInt32)))]))
    have J450 : ∀ (T451 : State) (L452 : List Loc) (z456 : Int32), Stand p l e room_1 (s.setVm s.vm) m #[(.int p0), (.int p1), (.int p2), (.int p3), (.int p4)] below meth c T451 L452 3 10 → T451.heap = T434.heap → Fr n0 L452 → ((((nar .char ((p1 &&& (255 : Int32)).toUInt32.toUInt16.toUInt32.toInt32)) = (49 : Int32)) ∧ ((nar .char ((((p1.toUInt32 >>> ((8 : Int32) &&& 31).toUInt32).toInt32) &&& (255 : Int32)).toUInt32.toUInt16.toUInt32.toInt32)) = (46 : Int32)) ∧ ((nar .char ((p2 &&& (255 : Int32)).toUInt32.toUInt16.toUInt32.toInt32)) = (49 : Int32)) ∧ z456 = (1 : Int32)) ∨ (((nar .char ((p1 &&& (255 : Int32)).toUInt32.toUInt16.toUInt32.toInt32)) = (49 : Int32)) ∧ ((nar .char ((((p1.toUInt32 >>> ((8 : Int32) &&& 31).toUInt32).toInt32) &&& (255 : Int32)).toUInt32.toUInt16.toUInt32.toInt32)) = (46 : Int32)) ∧ (¬ ((nar .char ((p2 &&& (255 : Int32)).toUInt32.toUInt16.toUInt32.toInt32)) = (49 : Int32))) ∧ z456 = (0 : Int32)) ∨ (((nar .char ((p1 &&& (255 : Int32)).toUInt32.toUInt16.toUInt32.toInt32)) = (49 : Int32)) ∧ (¬ ((nar .char ((((p1.toUInt32 >>> ((8 : Int32) &&& 31).toUInt32).toInt32) &&& (255 : Int32)).toUInt32.toUInt16.toUInt32.toInt32)) = (46 : Int32))) ∧ z456 = (0 : Int32)) ∨ ((¬ ((nar .char ((p1 &&& (255 : Int32)).toUInt32.toUInt16.toUInt32.toInt32)) = (49 : Int32))) ∧ z456 = (0 : Int32))) → own_Go p e below (own_FinW Z consts_1 s 24 3200 (Q0 Z f_CS p0 p1 p2 p3 p4 h0 n0)) (T451.setTop (mkF m 132 #[vI p0, vI p1, vI p2, vI p3, vI p4, vR b431, .unset, vI v1, vR b424, .unset, .unset, .unset, .unset, .unset, .unset] [(.int z456)])) := by
     intro T451 L452 z456 X453 e454 N455 hj457
     refine own_by (fun _ k => XS.istore X453.here hx rfl (hb hby at_132) rfl (l' := #[vI p0, vI p1, vI p2, vI p3, vI p4, vR b431, vI z456, vI v1, vR b424, .unset, .unset, .unset, .unset, .unset, .unset]) rfl k) ?_
     show own_Go p e below _ (T451.setTop (mkF m 134 #[vI p0, vI p1, vI p2, vI p3, vI p4, vR b431, vI z456, vI v1, vR b424, .unset, .unset, .unset, .unset, .unset, .unset] []))
     refine own_by (fun _ k => XS.iloadN X453.here hx rfl (hb hby at_134) rfl k) ?_
     show own_Go p e below _ (T451.setTop (mkF m 135 #[vI p0, vI p1, vI p2, vI p3, vI p4, vR b431, vI z456, vI v1, vR b424, .unset, .unset, .unset, .unset, .unset, .unset] [(.int p3)]))
     refine own_by (fun _ k => XS.iconst X453.here hx rfl (hb hby at_135) k) ?_
     show own_Go p e below _ (T451.setTop (mkF m 136 #[vI p0, vI p1, vI p2, vI p3, vI p4, vR b431, vI z456, vI v1, vR b424, .unset, .unset, .unset, .unset, .unset, .unset] [(.int (3 : Int32)), (.int p3)]))
     refine own_by (fun _ k => XS.iand X453.here hx rfl (hb hby at_136) rfl k) ?_
     show own_Go p e below _ (T451.setTop (mkF m 137 #[vI p0, vI p1, vI p2, vI p3, vI p4, vR b431, vI z456, vI v1, vR b424, .unset, .unset, .unset, .unset, .unset, .unset] [(.int (p3 &&& (3 : Int32)))]))
     refine own_by (fun _ k => XS.istore X453.here hx rfl (hb hby at_137) rfl (l' := #[vI p0, vI p1, vI p2, vI p3, vI p4, vR b431, vI z456, vI v1, vR b424, vI (p3 &&& (3 : Int32)), .unset, .unset, .unset, .unset, .unset]) rfl k) ?_
     show own_Go p e below _ (T451.setTop (mkF m 139 #[vI p0, vI p1, vI p2, vI p3, vI p4, vR b431, vI z456, vI v1, vR b424, vI (p3 &&& (3 : Int32)), .unset, .unset, .unset, .unset, .unset] []))
     generalize hv458 : (p3 &&& (3 : Int32)) = v458
     show own_Go p e below _ (T451.setTop (mkF m 139 #[vI p0, vI p1, vI p2, vI p3, vI p4, vR b431, vI z456, vI v1, vR b424, vI v458, .unset, .unset, .unset, .unset, .unset] []))
     refine own_by (fun _ k => XS.iload X453.here hx rfl (hb hby at_139) rfl k) ?_
     show own_Go p e below _ (T451.setTop (mkF m 141 #[vI p0, vI p1, vI p2, vI p3, vI p4, vR b431, vI z456, vI v1, vR b424, vI v458, .unset, .unset, .unset, .unset, .unset] [(.int v458)]))
     have J472 : ∀ (T473 : State) (L474 : List Loc) (z478 : Int32), Stand p l e room_1 (s.setVm s.vm) m #[(.int p0), (.int p1), (.int p2), (.int p3), (.int p4)] below meth c T473 L474 3 10 → T473.heap = T434.heap → Fr n0 L474 → (((v458 = (0 : Int32)) ∧ z478 = (10 : Int32)) ∨ ((¬ (v458 = (0 : Int32))) ∧ (v458 = (1 : Int32)) ∧ z478 = (133 : Int32)) ∨ (∃ (z469 : Int32), (¬ (v458 = (0 : Int32))) ∧ (¬ (v458 = (1 : Int32))) ∧ (v458 = (2 : Int32)) ∧ ((((p4 &&& (1 : Int32)) = (0 : Int32)) ∧ z469 = (13 : Int32)) ∨ ((¬ ((p4 &&& (1 : Int32)) = (0 : Int32))) ∧ z469 = (8232 : Int32))) ∧ z478 = z469) ∨ (∃ (v471 : Int32), (¬ (v458 = (0 : Int32))) ∧ (¬ (v458 = (1 : Int32))) ∧ (¬ (v458 = (2 : Int32))) ∧ ((p4.toUInt32.toUInt16.toUInt32.toInt32) = v471) ∧ z478 = v471)) → own_Go p e below (own_FinW Z consts_1 s 24 3200 (Q0 Z f_CS p0 p1 p2 p3 p4 h0 n0)) (T473.setTop (mkF m 196 #[vI p0, vI p1, vI p2, vI p3, vI p4, vR b431, vI z456, vI v1, vI z478, vI v458, .unset, .unset, .unset, .unset, .unset] [])) := by
      intro T473 L474 z478 X475 e476 N477 hj479
      refine own_by (fun _ k => XS.iload X475.here hx rfl (hb hby at_196) rfl k) ?_
      show own_Go p e below _ (T473.setTop (mkF m 198 #[vI p0, vI p1, vI p2, vI p3, vI p4, vR b431, vI z456, vI v1, vI z478, vI v458, .unset, .unset, .unset, .unset, .unset] [(.int z478)]))
      refine own_by (fun _ k => XS.bipush X475.here hx rfl (hb hby at_198) k) ?_
      show own_Go p e below _ (T473.setTop (mkF m 200 #[vI p0, vI p1, vI p2, vI p3, vI p4, vR b431, vI z456, vI v1, vI z478, vI v458, .unset, .unset, .unset, .unset, .unset] [(.int (10 : Int32)), (.int z478)]))
      have J483 : ∀ (T484 : State) (L485 : List Loc) (z489 : Int32), Stand p l e room_1 (s.setVm s.vm) m #[(.int p0), (.int p1), (.int p2), (.int p3), (.int p4)] below meth c T484 L485 3 10 → T484.heap = T434.heap → Fr n0 L485 → (((z478 = (10 : Int32)) ∧ z489 = (1 : Int32)) ∨ ((¬ (z478 = (10 : Int32))) ∧ (z478 = (133 : Int32)) ∧ (z456 = (0 : Int32)) ∧ z489 = (0 : Int32)) ∨ ((¬ (z478 = (10 : Int32))) ∧ (z478 = (133 : Int32)) ∧ (¬ (z456 = (0 : Int32))) ∧ z489 = (1 : Int32)) ∨ ((¬ (z478 = (10 : Int32))) ∧ (¬ (z478 = (133 : Int32))) ∧ z489 = (0 : Int32))) → own_Go p e below (own_FinW Z consts_1 s 24 3200 (Q0 Z f_CS p0 p1 p2 p3 p4 h0 n0)) (T484.setTop (mkF m 221 #[vI p0, vI p1, vI p2, vI p3, vI p4, vR b431, vI z456, vI v1, vI z478, vI v458, .unset, .unset, .unset, .unset, .unset] [(.int z489)])) := by
       intro T484 L485 z489 X486 e487 N488 hj490
       refine own_by (fun _ k => XS.istore X486.here hx rfl (hb hby at_221) rfl (l' := #[vI p0, vI p1, vI p2, vI p3, vI p4, vR b431, vI z456, vI v1, vI z478, vI v458, vI z489, .unset, .unset, .unset, .unset]) rfl k) ?_
       show own_Go p e below _ (T484.setTop (mkF m 223 #[vI p0, vI p1, vI p2, vI p3, vI p4, vR b431, vI z456, vI v1, vI z478, vI v458, vI z489, .unset, .unset, .unset, .unset] []))
       obtain ⟨T491, h491, X491, e491, E491, A491, D491, -, st491⟩ := newO X486 hx hZ hown (hwd 0 rfl) (hwd 1 rfl) (hwd 2 rfl) e487 (g := (mkF m 223 #[vI p0, vI p1, vI p2, vI p3, vI p4, vR b431, vI z456, vI v1, vI z478, vI v458, vI z489, .unset, .unset, .unset, .unset] [])) rfl (hb hby at_223) (by decide) (by decide)
       obtain ⟨b491, g491⟩ : ∃ z, z = T434.heap.size := ⟨_, rfl⟩
       have ge_b491 : n0 ≤ b491 := Nat.le_trans Z434 (Nat.le_of_eq g491.symm)
       have sz_b491 : h0.size ≤ b491 := Nat.le_trans K434.1 (Nat.le_of_eq g491.symm)
       have R491 : CHr Z consts_1 s.vm T434.heap s.vm h491 := CHr.ext E491 CR434.1
       have CR491 : CHr Z consts_1 s.vm h0 s.vm h491 := CR434.trans R491
       have hk491 : kc0 ≤ h491.size := Nat.le_trans hk434 E491.1
       have S_b491 : Safe Z consts_1 s.vm h491 b491 := Safe.ext E491 CR434.1 (Safe.new (Nat.le_of_eq g491.symm))
       have K491 : Keep h0 h491 [] := K434.ext E491
       have Z491 : n0 ≤ h491.size := Nat.le_trans Z434 E491.1
       rw [← g491] at A491 D491 st491
       have lt_b491 := A491.lt
       have F_line_b491 : Fld Z h491 b491 "com/example/margay/margay/index/LineCounter" "line" "I" (.int (0 : Int32)) := D491 (Or.inl (hwd 10 rfl)) (ty := .int) (by decide)
       have F_column_b491 : Fld Z h491 b491 "com/example/margay/margay/index/LineCounter" "column" "I" (.int (0 : Int32)) := D491 (Or.inl (hwd 12 rfl)) (ty := .int) (by decide)
       have F_xml11_b491 : Fld Z h491 b491 "com/example/margay/margay/index/LineCounter" "xml11" "Z" (.int (0 : Int32)) := D491 (Or.inr (hwd 27 rfl)) (ty := .boolean) (by decide)
       have F_afterCarriageReturn_b491 : Fld Z h491 b491 "com/example/margay/margay/index/LineCounter" "afterCarriageReturn" "Z" (.int (0 : Int32)) := D491 (Or.inl (hwd 44 rfl)) (ty := .boolean) (by decide)
       refine own_by st491 ?_
       show own_Go p e below _ (T491.setTop (mkF m 226 #[vI p0, vI p1, vI p2, vI p3, vI p4, vR b431, vI z456, vI v1, vI z478, vI v458, vI z489, .unset, .unset, .unset, .unset] [(.ref b491)]))
       refine own_by (fun _ k => XS.dup X491.here hx rfl (hb hby at_226) rfl rfl k) ?_
       show own_Go p e below _ (T491.setTop (mkF m 227 #[vI p0, vI p1, vI p2, vI p3, vI p4, vR b431, vI z456, vI v1, vI z478, vI v458, vI z489, .unset, .unset, .unset, .unset] [(.ref b491), (.ref b491)]))
       refine own_by (fun _ k => XS.aload X491.here hx rfl (hb hby at_227) rfl rfl k) ?_
       show own_Go p e below _ (T491.setTop (mkF m 229 #[vI p0, vI p1, vI p2, vI p3, vI p4, vR b431, vI z456, vI v1, vI z478, vI v458, vI z489, .unset, .unset, .unset, .unset] [(.ref b431), (.ref b491), (.ref b491)]))
       have F492 : Exa Z h491 b431 "java/lang/String" := (F437.ext E491)
       have F493 : Fld Z h491 b431 "java/lang/String" "coder" "B" (.int (0 : Int32)) := (F438.ext E491)
       have F494 : Fld Z h491 b431 "java/lang/String" "value" "[B" (.ref b435) := (F439.ext E491)
       have F495 : own_Arf Z h491 b435 b436 .byte (3 : Int32) (fun i => .int ((own_upd (own_upd (own_upd (fun _ => (0 : Int32)) 0 (nar .byte ((nar .char ((p1 &&& (255 : Int32)).toUInt32.toUInt16.toUInt32.toInt32)).toInt8.toInt32))) 1 (nar .byte ((nar .char ((((p1.toUInt32 >>> ((8 : Int32) &&& 31).toUInt32).toInt32) &&& (255 : Int32)).toUInt32.toUInt16.toUInt32.toInt32)).toInt8.toInt32))) 2 (nar .byte ((nar .char ((p2 &&& (255 : Int32)).toUInt32.toUInt16.toUInt32.toInt32)).toInt8.toInt32))) i)) := (F442.ext E491)
       have F496 : Sta Z h491 "java/lang/String" "COMPACT_STRINGS" "Z" (.int f_CS) := ((own_staKeep F433 Kq434 (allS (own_exaPlain A431) all0)).ext E491)
       obtain ⟨_, _, ⟨T497, L497, k497, n497⟩, -, X497', hSq497, hgr497, ⟨Lc497, hQ497, l497, y497, z497, R497⟩, st497⟩ := X491.specialBackS hx (y := (⟨"com/example/margay/margay/index/LineCounter", "<init>", "(Ljava/lang/String;)V"⟩ : MethodName)) rfl hown (mvT hZ (hwd 3 rfl)) (mvT hZ (hwd 4 rfl)) (mvT hZ (hwd 5 rfl)) (by decide) (backOfSH (W := 1) (rmlcR l Z A0 hw [] b435 b436 (own_upd (own_upd (own_upd (fun _ => (0 : Int32)) 0 (nar .byte ((nar .char ((p1 &&& (255 : Int32)).toUInt32.toUInt16.toUInt32.toInt32)).toInt8.toInt32))) 1 (nar .byte ((nar .char ((((p1.toUInt32 >>> ((8 : Int32) &&& 31).toUInt32).toInt32) &&& (255 : Int32)).toUInt32.toUInt16.toUInt32.toInt32)).toInt8.toInt32))) 2 (nar .byte ((nar .char ((p2 &&& (255 : Int32)).toUInt32.toUInt16.toUInt32.toInt32)).toInt8.toInt32))) f_CS b491 b431 (0 : Int32) (0 : Int32) (0 : Int32) (0 : Int32) h491 n0 Z491 F492 F493 F494 F495 F496 hn_CS A491 F_line_b491 ge_b491 F_column_b491 F_xml11_b491 F_afterCarriageReturn_b491) hZ (hwd 5 rfl) (hwd 2 rfl) (by decide) (by decide) hEL CR491.1) (g := (mkF m 229 #[vI p0, vI p1, vI p2, vI p3, vI p4, vR b431, vI z456, vI v1, vI z478, vI v458, vI z489, .unset, .unset, .unset, .unset] [(.ref b431), (.ref b491), (.ref b491)])) rfl (by rw [hml]; rfl) (Steps.refl _) (a := b491) (argsL := [(.ref b431)]) (rest := [(.ref b491)]) (lenOf pd_3 rfl) rfl (by show 2 * 0 + _ ≤ _; exact Nat.le_of_eq rfl) (hb hby at_229) (fun _ _ => ⟨rfl, e491, (by decide : 4 + 2 ≤ _), (by decide : 14 + 16 ≤ _)⟩)
       dsimp only [Pt.U, Pt.locs, Pt.cells, Pt.slots] at X497' l497 y497 z497 st497 hQ497 hSq497 hgr497 R497
       subst l497 y497 z497
       obtain ⟨X497, hS, hZ, hown⟩ := rebS hS (by rw [e491]; exact hk491) X497' hSq497 hgr497 hZ hown
       obtain ⟨kc497, hkc497⟩ : ∃ z, z = T497.heap.size := ⟨_, rfl⟩
       rw [← hkc497] at hS
       have hk497 : kc497 ≤ T497.heap.size := Nat.le_of_eq hkc497
       have CR497 : CHr Z consts_1 s.vm h0 T497.vm T497.heap := CR491.trans R497
       obtain ⟨o498, rfl, Nq497, Kq497, F499, F500, F501, F502, F503, hp504⟩ := hQ497
       have N497 := Fr.app N488 Nq497
       have K497 : Keep h0 T497.heap [] := K491.trans Kq497 ((allS (Or.inr sz_b491) all0))
       have Z497 : n0 ≤ T497.heap.size := Nat.le_trans Z491 Kq497.1
       refine own_by (fun _ k => st497.trans k) ?_
       show own_Go p e below _ (T497.setTop (mkF m 232 #[vI p0, vI p1, vI p2, vI p3, vI p4, vR b431, vI z456, vI v1, vI z478, vI v458, vI z489, .unset, .unset, .unset, .unset] [(.ref b491)]))
       refine own_by (fun _ k => XS.astore X497.here hx rfl (hb hby at_232) rfl rfl (l' := #[vI p0, vI p1, vI p2, vI p3, vI p4, vR b431, vI z456, vI v1, vI z478, vI v458, vI z489, vR b491, .unset, .unset, .unset]) rfl k) ?_
       show own_Go p e below _ (T497.setTop (mkF m 234 #[vI p0, vI p1, vI p2, vI p3, vI p4, vR b431, vI z456, vI v1, vI z478, vI v458, vI z489, vR b491, .unset, .unset, .unset] []))
       refine own_by (fun _ k => XS.aload X497.here hx rfl (hb hby at_234) rfl rfl k) ?_
       show own_Go p e below _ (T497.setTop (mkF m 236 #[vI p0, vI p1, vI p2, vI p3, vI p4, vR b431, vI z456, vI v1, vI z478, vI v458, vI z489, vR b491, .unset, .unset, .unset] [(.ref b491)]))
       refine own_by (fun _ k => XS.iload X497.here hx rfl (hb hby at_236) rfl k) ?_
       show own_Go p e below _ (T497.setTop (mkF m 238 #[vI p0, vI p1, vI p2, vI p3, vI p4, vR b431, vI z456, vI v1, vI z478, vI v458, vI z489, vR b491, .unset, .unset, .unset] [(.int z478), (.ref b491)]))
       obtain ⟨cq505, kq505, qq505a, qq505b, qq505c⟩ := isOf hZ rfl F499
       obtain ⟨_, _, ⟨T505, L505, k505, n505⟩, -, X505, ⟨Lc505, hQ505, l505, y505, z505⟩, st505⟩ := X497.virtualBack hx (y := (⟨"com/example/margay/margay/index/LineCounter", "endsLineWithCarriageReturn", "(C)Z"⟩ : MethodName)) (z := (⟨"com/example/margay/margay/index/LineCounter", "endsLineWithCarriageReturn", "(C)Z"⟩ : MethodName)) hown (mvT hZ (hwd 28 rfl)) (mvT hZ (hwd 29 rfl)) (notFace_of_selects (args := #[]) (mvT hZ (hwd 31 rfl))) (mvT hZ (hwd 31 rfl)) (mvT hZ (hwd 30 rfl)) (by decide) (backOf (W := 0) (rm4 l Z A0 hw [] b491 z478 o498 T497.heap n0 Z497 F502) hZ (hwd 32 rfl) (hwd 2 rfl) (by decide) (by decide)) qq505a qq505c (g := (mkF m 238 #[vI p0, vI p1, vI p2, vI p3, vI p4, vR b431, vI z456, vI v1, vI z478, vI v458, vI z489, vR b491, .unset, .unset, .unset] [(.int z478), (.ref b491)])) rfl (by rw [hml]; rfl) (Steps.refl _) (argsL := [(.int z478)]) (rest := []) (lenOf pd_28 rfl) rfl (by show 2 * 0 + _ ≤ _; exact Nat.le_of_eq rfl) (hb hby at_238) (fun _ _ => ⟨rfl, rfl, (by decide : 6 + 0 ≤ _), (by decide : 30 + 0 ≤ _)⟩)
       dsimp only [Pt.U, Pt.locs, Pt.cells, Pt.slots] at X505 l505 y505 z505 st505 hQ505
       subst l505 y505 z505
       obtain ⟨o506, rfl, Nq505, eq505, hp507⟩ := hQ505
       have N505 := Fr.app N497 Nq505
       refine own_by (fun _ k => st505.trans k) ?_
       show own_Go p e below _ (T505.setTop (mkF m 241 #[vI p0, vI p1, vI p2, vI p3, vI p4, vR b431, vI z456, vI v1, vI z478, vI v458, vI z489, vR b491, .unset, .unset, .unset] [(.int o506)]))
       refine own_by (fun _ k => XS.istore X505.here hx rfl (hb hby at_241) rfl (l' := #[vI p0, vI p1, vI p2, vI p3, vI p4, vR b431, vI z456, vI v1, vI z478, vI v458, vI z489, vR b491, vI o506, .unset, .unset]) rfl k) ?_
       show own_Go p e below _ (T505.setTop (mkF m 243 #[vI p0, vI p1, vI p2, vI p3, vI p4, vR b431, vI z456, vI v1, vI z478, vI v458, vI z489, vR b491, vI o506, .unset, .unset] []))
       refine own_by (fun _ k => XS.iload X505.here hx rfl (hb hby at_243) rfl k) ?_
       show own_Go p e below _ (T505.setTop (mkF m 245 #[vI p0, vI p1, vI p2, vI p3, vI p4, vR b431, vI z456, vI v1, vI z478, vI v458, vI z489, vR b491, vI o506, .unset, .unset] [(.int o506)]))
       refine own_by (fun _ k => XS.iload X505.here hx rfl (hb hby at_245) rfl k) ?_
       show own_Go p e below _ (T505.setTop (mkF m 247 #[vI p0, vI p1, vI p2, vI p3, vI p4, vR b431, vI z456, vI v1, vI z478, vI v458, vI z489, vR b491, vI o506, .unset, .unset] [(.int z489), (.int o506)]))
       by_cases c508 : o506 = z489
       ·skip
        refine own_by (fun _ k => XS.icmpYes X505.here hx rfl (pc0 := 247) (pc' := 252) rfl (hb hby at_247) rfl (teq c508).1 (by decide) (by decide) k) ?_
        show own_Go p e below _ (T505.setTop (mkF m 252 #[vI p0, vI p1, vI p2, vI p3, vI p4, vR b431, vI z456, vI v1, vI z478, vI v458, vI z489, vR b491, vI o506, .unset, .unset] []))
        refine own_by (fun _ k => XS.aload X505.here hx rfl (hb hby at_252) rfl rfl k) ?_
        show own_Go p e below _ (T505.setTop (mkF m 254 #[vI p0, vI p1, vI p2, vI p3, vI p4, vR b431, vI z456, vI v1, vI z478, vI v458, vI z489, vR b491, vI o506, .unset, .unset] [(.ref b491)]))
        refine own_by (fun _ k => XS.iload X505.here hx rfl (hb hby at_254) rfl k) ?_
        show own_Go p e below _ (T505.setTop (mkF m 256 #[vI p0, vI p1, vI p2, vI p3, vI p4, vR b431, vI z456, vI v1, vI z478, vI v458, vI z489, vR b491, vI o506, .unset, .unset] [(.int z478), (.ref b491)]))
        obtain ⟨cq509, kq509, qq509a, qq509b, qq509c⟩ := isOf hZ eq505 F499
        obtain ⟨_, _, ⟨T509, L509, k509, n509⟩, -, X509, ⟨Lc509, hQ509, l509, y509, z509⟩, st509⟩ := X505.virtualBack hx (y := (⟨"com/example/margay/margay/index/LineCounter", "endsLine", "(C)Z"⟩ : MethodName)) (z := (⟨"com/example/margay/margay/index/LineCounter", "endsLine", "(C)Z"⟩ : MethodName)) hown (mvT hZ (hwd 33 rfl)) (mvT hZ (hwd 34 rfl)) (notFace_of_selects (args := #[]) (mvT hZ (hwd 36 rfl))) (mvT hZ (hwd 36 rfl)) (mvT hZ (hwd 35 rfl)) (by decide) (backOf (W := 0) (rm5 l Z A0 hw [] b491 z478 o498 T497.heap n0 Z497 F502) hZ (hwd 37 rfl) (hwd 2 rfl) (by decide) (by decide)) qq509a qq509c (g := (mkF m 256 #[vI p0, vI p1, vI p2, vI p3, vI p4, vR b431, vI z456, vI v1, vI z478, vI v458, vI z489, vR b491, vI o506, .unset, .unset] [(.int z478), (.ref b491)])) rfl (by rw [hml]; rfl) (Steps.refl _) (argsL := [(.int z478)]) (rest := []) (lenOf pd_28 rfl) rfl (by show 2 * 0 + _ ≤ _; exact Nat.le_of_eq rfl) (hb hby at_256) (fun _ _ => ⟨rfl, eq505, (by decide : 6 + 0 ≤ _), (by decide : 30 + 0 ≤ _)⟩)
        dsimp only [Pt.U, Pt.locs, Pt.cells, Pt.slots] at X509 l509 y509 z509 st509 hQ509
        subst l509 y509 z509
        obtain ⟨o510, rfl, Nq509, eq509, hp511⟩ := hQ509
        have N509 := Fr.app N505 Nq509
        refine own_by (fun _ k => st509.trans k) ?_
        show own_Go p e below _ (T509.setTop (mkF m 259 #[vI p0, vI p1, vI p2, vI p3, vI p4, vR b431, vI z456, vI v1, vI z478, vI v458, vI z489, vR b491, vI o506, .unset, .unset] [(.int o510)]))
        refine own_by (fun _ k => XS.istore X509.here hx rfl (hb hby at_259) rfl (l' := #[vI p0, vI p1, vI p2, vI p3, vI p4, vR b431, vI z456, vI v1, vI z478, vI v458, vI z489, vR b491, vI o506, vI o510, .unset]) rfl k) ?_
        show own_Go p e below _ (T509.setTop (mkF m 261 #[vI p0, vI p1, vI p2, vI p3, vI p4, vR b431, vI z456, vI v1, vI z478, vI v458, vI z489, vR b491, vI o506, vI o510, .unset] []))
        refine own_by (fun _ k => XS.iload X509.here hx rfl (hb hby at_261) rfl k) ?_
        show own_Go p e below _ (T509.setTop (mkF m 263 #[vI p0, vI p1, vI p2, vI p3, vI p4, vR b431, vI z456, vI v1, vI z478, vI v458, vI z489, vR b491, vI o506, vI o510, .unset] [(.int o506)]))
        by_cases c512 : o506 = (0 : Int32)
        ·skip
         refine own_by (fun _ k => XS.ifYes X509.here hx rfl (pc0 := 263) (pc' := 273) rfl (hb hby at_263) rfl ((if0 _ _).trans (teq c512).1) (by decide) (by decide) k) ?_
         show own_Go p e below _ (T509.setTop (mkF m 273 #[vI p0, vI p1, vI p2, vI p3, vI p4, vR b431, vI z456, vI v1, vI z478, vI v458, vI z489, vR b491, vI o506, vI o510, .unset] []))
         obtain ⟨T513, h513, X513, e513, E513, A513, D513, -, st513⟩ := newO X509 hx hZ hown (hwd 0 rfl) (hwd 1 rfl) (hwd 2 rfl) eq509 (g := (mkF m 273 #[vI p0, vI p1, vI p2, vI p3, vI p4, vR b431, vI z456, vI v1, vI z478, vI v458, vI z489, vR b491, vI o506, vI o510, .unset] [])) rfl (hb hby at_273) (by decide) (by decide)
         obtain ⟨b513, g513⟩ : ∃ z, z = T497.heap.size := ⟨_, rfl⟩
         have ge_b513 : n0 ≤ b513 := Nat.le_trans Z497 (Nat.le_of_eq g513.symm)
         have sz_b513 : h0.size ≤ b513 := Nat.le_trans K497.1 (Nat.le_of_eq g513.symm)
         have R513 : CHr Z consts_1 T497.vm T497.heap T497.vm h513 := CHr.ext E513 CR497.1
         have CR513 : CHr Z consts_1 s.vm h0 T497.vm h513 := CR497.trans R513
         have hk513 : kc497 ≤ h513.size := Nat.le_trans hk497 E513.1
         have S_b513 : Safe Z consts_1 T497.vm h513 b513 := Safe.ext E513 CR497.1 (Safe.new (Nat.le_of_eq g513.symm))
         have K513 : Keep h0 h513 [] := K497.ext E513
         have Z513 : n0 ≤ h513.size := Nat.le_trans Z497 E513.1
         rw [← g513] at A513 D513 st513
         have lt_b513 := A513.lt
         have F_line_b513 : Fld Z h513 b513 "com/example/margay/margay/index/LineCounter" "line" "I" (.int (0 : Int32)) := D513 (Or.inl (hwd 10 rfl)) (ty := .int) (by decide)
         have F_column_b513 : Fld Z h513 b513 "com/example/margay/margay/index/LineCounter" "column" "I" (.int (0 : Int32)) := D513 (Or.inl (hwd 12 rfl)) (ty := .int) (by decide)
         have F_xml11_b513 : Fld Z h513 b513 "com/example/margay/margay/index/LineCounter" "xml11" "Z" (.int (0 : Int32)) := D513 (Or.inr (hwd 27 rfl)) (ty := .boolean) (by decide)
         have F_afterCarriageReturn_b513 : Fld Z h513 b513 "com/example/margay/margay/index/LineCounter" "afterCarriageReturn" "Z" (.int (0 : Int32)) := D513 (Or.inl (hwd 44 rfl)) (ty := .boolean) (by decide)
         refine own_by st513 ?_
         show own_Go p e below _ (T513.setTop (mkF m 276 #[vI p0, vI p1, vI p2, vI p3, vI p4, vR b431, vI z456, vI v1, vI z478, vI v458, vI z489, vR b491, vI o506, vI o510, .unset] [(.ref b513)]))
         refine own_by (fun _ k => XS.dup X513.here hx rfl (hb hby at_276) rfl rfl k) ?_
         show own_Go p e below _ (T513.setTop (mkF m 277 #[vI p0, vI p1, vI p2, vI p3, vI p4, vR b431, vI z456, vI v1, vI z478, vI v458, vI z489, vR b491, vI o506, vI o510, .unset] [(.ref b513), (.ref b513)]))
         refine own_by (fun _ k => XS.aload X513.here hx rfl (hb hby at_277) rfl rfl k) ?_
         show own_Go p e below _ (T513.setTop (mkF m 279 #[vI p0, vI p1, vI p2, vI p3, vI p4, vR b431, vI z456, vI v1, vI z478, vI v458, vI z489, vR b491, vI o506, vI o510, .unset] [(.ref b431), (.ref b513), (.ref b513)]))
         have F514 : Exa Z h513 b431 "java/lang/String" := ((F492.keep Kq497).ext E513)
         have F515 : Fld Z h513 b431 "java/lang/String" "coder" "B" (.int (0 : Int32)) := ((F493.keep Kq497 (ninS (Nat.ne_of_lt (Nat.lt_of_lt_of_le (F437).lt (Nat.le_of_eq g491.symm))) nin0)).ext E513)
         have F516 : Fld Z h513 b431 "java/lang/String" "value" "[B" (.ref b435) := ((F494.keep Kq497 (ninS (Nat.ne_of_lt (Nat.lt_of_lt_of_le (F437).lt (Nat.le_of_eq g491.symm))) nin0)).ext E513)
         have F517 : own_Arf Z h513 b435 b436 .byte (3 : Int32) (fun i => .int ((own_upd (own_upd (own_upd (fun _ => (0 : Int32)) 0 (nar .byte ((nar .char ((p1 &&& (255 : Int32)).toUInt32.toUInt16.toUInt32.toInt32)).toInt8.toInt32))) 1 (nar .byte ((nar .char ((((p1.toUInt32 >>> ((8 : Int32) &&& 31).toUInt32).toInt32) &&& (255 : Int32)).toUInt32.toUInt16.toUInt32.toInt32)).toInt8.toInt32))) 2 (nar .byte ((nar .char ((p2 &&& (255 : Int32)).toUInt32.toUInt16.toUInt32.toInt32)).toInt8.toInt32))) i)) := ((F495.keep Kq497 (ninS (Nat.ne_of_lt (Nat.lt_of_lt_of_le (F442).lt (Nat.le_of_eq g491.symm))) nin0)).ext E513)
         have F518 : Sta Z h513 "java/lang/String" "COMPACT_STRINGS" "Z" (.int f_CS) := ((own_staKeep F496 Kq497 (allS (own_exaPlain A491) all0)).ext E513)
         obtain ⟨_, _, ⟨T519, L519, k519, n519⟩, -, X519', hSq519, hgr519, ⟨Lc519, hQ519, l519, y519, z519, R519⟩, st519⟩ := X513.specialBackS hx (y := (⟨"com/example/margay/margay/index/LineCounter", "<init>", "(Ljava/lang/String;)V"⟩ : MethodName)) rfl hown (mvT hZ (hwd 3 rfl)) (mvT hZ (hwd 4 rfl)) (mvT hZ (hwd 5 rfl)) (by decide) (backOfSH (W := 1) (rmlcR l Z A0 hw [] b435 b436 (own_upd (own_upd (own_upd (fun _ => (0 : Int32)) 0 (nar .byte ((nar .char ((p1 &&& (255 : Int32)).toUInt32.toUInt16.toUInt32.toInt32)).toInt8.toInt32))) 1 (nar .byte ((nar .char ((((p1.toUInt32 >>> ((8 : Int32) &&& 31).toUInt32).toInt32) &&& (255 : Int32)).toUInt32.toUInt16.toUInt32.toInt32)).toInt8.toInt32))) 2 (nar .byte ((nar .char ((p2 &&& (255 : Int32)).toUInt32.toUInt16.toUInt32.toInt32)).toInt8.toInt32))) f_CS b513 b431 (0 : Int32) (0 : Int32) (0 : Int32) (0 : Int32) h513 n0 Z513 F514 F515 F516 F517 F518 hn_CS A513 F_line_b513 ge_b513 F_column_b513 F_xml11_b513 F_afterCarriageReturn_b513) hZ (hwd 5 rfl) (hwd 2 rfl) (by decide) (by decide) hEL CR513.1) (g := (mkF m 279 #[vI p0, vI p1, vI p2, vI p3, vI p4, vR b431, vI z456, vI v1, vI z478, vI v458, vI z489, vR b491, vI o506, vI o510, .unset] [(.ref b431), (.ref b513), (.ref b513)])) rfl (by rw [hml]; rfl) (Steps.refl _) (a := b513) (argsL := [(.ref b431)]) (rest := [(.ref b513)]) (lenOf pd_3 rfl) rfl (by show 2 * 0 + _ ≤ _; exact Nat.le_of_eq rfl) (hb hby at_279) (fun _ _ => ⟨rfl, e513, (by decide : 7 + 2 ≤ _), (by decide : 34 + 16 ≤ _)⟩)
         dsimp only [Pt.U, Pt.locs, Pt.cells, Pt.slots] at X519' l519 y519 z519 st519 hQ519 hSq519 hgr519 R519
         subst l519 y519 z519
         obtain ⟨X519, hS, hZ, hown⟩ := rebS hS (by rw [e513]; exact hk513) X519' hSq519 hgr519 hZ hown
         obtain ⟨kc519, hkc519⟩ : ∃ z, z = T519.heap.size := ⟨_, rfl⟩
         rw [← hkc519] at hS
         have hk519 : kc519 ≤ T519.heap.size := Nat.le_of_eq hkc519
         have CR519 : CHr Z consts_1 s.vm h0 T519.vm T519.heap := CR513.trans R519
         obtain ⟨o520, rfl, Nq519, Kq519, F521, F522, F523, F524, F525, hp526⟩ := hQ519
         have N519 := Fr.app N509 Nq519
         have K519 : Keep h0 T519.heap [] := K513.trans Kq519 ((allS (Or.inr sz_b513) all0))
         have Z519 : n0 ≤ T519.heap.size := Nat.le_trans Z513 Kq519.1
         refine own_by (fun _ k => st519.trans k) ?_
         show own_Go p e below _ (T519.setTop (mkF m 282 #[vI p0, vI p1, vI p2, vI p3, vI p4, vR b431, vI z456, vI v1, vI z478, vI v458, vI z489, vR b491, vI o506, vI o510, .unset] [(.ref b513)]))
         refine own_by (fun _ k => XS.astore X519.here hx rfl (hb hby at_282) rfl rfl (l' := #[vI p0, vI p1, vI p2, vI p3, vI p4, vR b431, vI z456, vI v1, vI z478, vI v458, vI z489, vR b491, vI o506, vI o510, vR b513]) rfl k) ?_
         show own_Go p e below _ (T519.setTop (mkF m 284 #[vI p0, vI p1, vI p2, vI p3, vI p4, vR b431, vI z456, vI v1, vI z478, vI v458, vI z489, vR b491, vI o506, vI o510, vR b513] []))
         refine own_by (fun _ k => XS.aload X519.here hx rfl (hb hby at_284) rfl rfl k) ?_
         show own_Go p e below _ (T519.setTop (mkF m 286 #[vI p0, vI p1, vI p2, vI p3, vI p4, vR b431, vI z456, vI v1, vI z478, vI v458, vI z489, vR b491, vI o506, vI o510, vR b513] [(.ref b513)]))
         refine own_by (fun _ k => XS.bipush X519.here hx rfl (hb hby at_286) k) ?_
         show own_Go p e below _ (T519.setTop (mkF m 288 #[vI p0, vI p1, vI p2, vI p3, vI p4, vR b431, vI z456, vI v1, vI z478, vI v458, vI z489, vR b491, vI o506, vI o510, vR b513] [(.int (13 : Int32)), (.ref b513)]))
         obtain ⟨cq527, kq527, qq527a, qq527b, qq527c⟩ := isOf hZ rfl F521
         obtain ⟨_, _, ⟨T527, L527, k527, n527⟩, -, X527, ⟨Lc527, hQ527, l527, y527, z527⟩, st527⟩ := X519.virtualBack hx (y := (⟨"com/example/margay/margay/index/LineCounter", "count", "(C)V"⟩ : MethodName)) (z := (⟨"com/example/margay/margay/index/LineCounter", "count", "(C)V"⟩ : MethodName)) hown (mvT hZ (hwd 38 rfl)) (mvT hZ (hwd 39 rfl)) (notFace_of_selects (args := #[]) (mvT hZ (hwd 41 rfl))) (mvT hZ (hwd 41 rfl)) (mvT hZ (hwd 40 rfl)) (by decide) (backOf (W := 0) (rm6 l Z A0 hw [] b513 (13 : Int32) (0 : Int32) o520 (1 : Int32) (1 : Int32) T519.heap n0 Z519 F525 F524 F521 F523 ge_b513 F522) hZ (hwd 42 rfl) (hwd 2 rfl) (by decide) (by decide)) qq527a qq527c (g := (mkF m 288 #[vI p0, vI p1, vI p2, vI p3, vI p4, vR b431, vI z456, vI v1, vI z478, vI v458, vI z489, vR b491, vI o506, vI o510, vR b513] [(.int (13 : Int32)), (.ref b513)])) rfl (by rw [hml]; rfl) (Steps.refl _) (argsL := [(.int (13 : Int32))]) (rest := []) (lenOf pd_38 rfl) rfl (by show 2 * 0 + _ ≤ _; exact Nat.le_of_eq rfl) (hb hby at_288) (fun _ _ => ⟨rfl, rfl, (by decide : 9 + 0 ≤ _), (by decide : 50 + 0 ≤ _)⟩)
         dsimp only [Pt.U, Pt.locs, Pt.cells, Pt.slots] at X527 l527 y527 z527 st527 hQ527
         subst l527 y527 z527
         obtain ⟨o528, o529, o530, rfl, Nq527, Kq527, F531, F532, F533, F534, F535, hp536⟩ := hQ527
         have N527 := Fr.app N519 Nq527
         have R527 : CHr Z consts_1 T519.vm T519.heap T519.vm T527.heap := CHr.keep Kq527 ((allS (Safe.exa hZ.alike F521 (by decide) (by decide)) all0)) CR519.1
         have CR527 : CHr Z consts_1 s.vm h0 T519.vm T527.heap := CR519.trans R527
         have hk527 : kc519 ≤ T527.heap.size := Nat.le_trans hk519 Kq527.1
         have K527 : Keep h0 T527.heap [] := K519.trans Kq527 ((allS (Or.inr sz_b513) all0))
         have Z527 : n0 ≤ T527.heap.size := Nat.le_trans Z519 Kq527.1
         refine own_by (fun _ k => st527.trans k) ?_
         show own_Go p e below _ (T527.setTop (mkF m 291 #[vI p0, vI p1, vI p2, vI p3, vI p4, vR b431, vI z456, vI v1, vI z478, vI v458, vI z489, vR b491, vI o506, vI o510, vR b513] []))
         refine own_by (fun _ k => XS.aload X527.here hx rfl (hb hby at_291) rfl rfl k) ?_
         show own_Go p e below _ (T527.setTop (mkF m 293 #[vI p0, vI p1, vI p2, vI p3, vI p4, vR b431, vI z456, vI v1, vI z478, vI v458, vI z489, vR b491, vI o506, vI o510, vR b513] [(.ref b513)]))
         refine own_by (fun _ k => XS.iload X527.here hx rfl (hb hby at_293) rfl k) ?_
         show own_Go p e below _ (T527.setTop (mkF m 295 #[vI p0, vI p1, vI p2, vI p3, vI p4, vR b431, vI z456, vI v1, vI z478, vI v458, vI z489, vR b491, vI o506, vI o510, vR b513] [(.int z478), (.ref b513)]))
         obtain ⟨cq537, kq537, qq537a, qq537b, qq537c⟩ := isOf hZ rfl F533
         obtain ⟨_, _, ⟨T537, L537, k537, n537⟩, -, X537, ⟨Lc537, hQ537, l537, y537, z537⟩, st537⟩ := X527.virtualBack hx (y := (⟨"com/example/margay/margay/index/LineCounter", "count", "(C)V"⟩ : MethodName)) (z := (⟨"com/example/margay/margay/index/LineCounter", "count", "(C)V"⟩ : MethodName)) hown (mvT hZ (hwd 38 rfl)) (mvT hZ (hwd 39 rfl)) (notFace_of_selects (args := #[]) (mvT hZ (hwd 41 rfl))) (mvT hZ (hwd 41 rfl)) (mvT hZ (hwd 40 rfl)) (by decide) (backOf (W := 0) (rm6 l Z A0 hw [] b513 z478 o528 o520 o529 o530 T527.heap n0 Z527 F531 F532 F533 F534 ge_b513 F535) hZ (hwd 42 rfl) (hwd 2 rfl) (by decide) (by decide)) qq537a qq537c (g := (mkF m 295 #[vI p0, vI p1, vI p2, vI p3, vI p4, vR b431, vI z456, vI v1, vI z478, vI v458, vI z489, vR b491, vI o506, vI o510, vR b513] [(.int z478), (.ref b513)])) rfl (by rw [hml]; rfl) (Steps.refl _) (argsL := [(.int z478)]) (rest := []) (lenOf pd_38 rfl) rfl (by show 2 * 0 + _ ≤ _; exact Nat.le_of_eq rfl) (hb hby at_295) (fun _ _ => ⟨rfl, rfl, (by decide : 9 + 0 ≤ _), (by decide : 50 + 0 ≤ _)⟩)
         dsimp only [Pt.U, Pt.locs, Pt.cells, Pt.slots] at X537 l537 y537 z537 st537 hQ537
         subst l537 y537 z537
         obtain ⟨o538, o539, o540, rfl, Nq537, Kq537, F541, F542, F543, F544, F545, hp546⟩ := hQ537
         have N537 := Fr.app N527 Nq537
         have R537 : CHr Z consts_1 T519.vm T527.heap T519.vm T537.heap := CHr.keep Kq537 ((allS (Safe.exa hZ.alike F533 (by decide) (by decide)) all0)) CR527.1
         have CR537 : CHr Z consts_1 s.vm h0 T519.vm T537.heap := CR527.trans R537
         have hk537 : kc519 ≤ T537.heap.size := Nat.le_trans hk527 Kq537.1
         have K537 : Keep h0 T537.heap [] := K527.trans Kq537 ((allS (Or.inr sz_b513) all0))
         have Z537 : n0 ≤ T537.heap.size := Nat.le_trans Z527 Kq537.1
         refine own_by (fun _ k => st537.trans k) ?_
         show own_Go p e below _ (T537.setTop (mkF m 298 #[vI p0, vI p1, vI p2, vI p3, vI p4, vR b431, vI z456, vI v1, vI z478, vI v458, vI z489, vR b491, vI o506, vI o510, vR b513] []))
         refine own_by (fun _ k => XS.iload X537.here hx rfl (hb hby at_298) rfl k) ?_
         show own_Go p e below _ (T537.setTop (mkF m 300 #[vI p0, vI p1, vI p2, vI p3, vI p4, vR b431, vI z456, vI v1, vI z478, vI v458, vI z489, vR b491, vI o506, vI o510, vR b513] [(.int z489)]))
         by_cases c547 : z489 = (0 : Int32)
         ·skip
          refine own_by (fun _ k => XS.ifYes X537.here hx rfl (pc0 := 300) (pc' := 327) rfl (hb hby at_300) rfl ((if0 _ _).trans (teq c547).1) (by decide) (by decide) k) ?_
          show own_Go p e below _ (T537.setTop (mkF m 327 #[vI p0, vI p1, vI p2, vI p3, vI p4, vR b431, vI z456, vI v1, vI z478, vI v458, vI z489, vR b491, vI o506, vI o510, vR b513] []))
          refine own_by (fun _ k => XS.iload X537.here hx rfl (hb hby at_327) rfl k) ?_
          show own_Go p e below _ (T537.setTop (mkF m 329 #[vI p0, vI p1, vI p2, vI p3, vI p4, vR b431, vI z456, vI v1, vI z478, vI v458, vI z489, vR b491, vI o506, vI o510, vR b513] [(.int o510)]))
          by_cases c548 : o510 = (0 : Int32)
          ·skip
           refine own_by (fun _ k => XS.ifYes X537.here hx rfl (pc0 := 329) (pc' := 356) rfl (hb hby at_329) rfl ((if0 _ _).trans (teq c548).1) (by decide) (by decide) k) ?_
           show own_Go p e below _ (T537.setTop (mkF m 356 #[vI p0, vI p1, vI p2, vI p3, vI p4, vR b431, vI z456, vI v1, vI z478, vI v458, vI z489, vR b491, vI o506, vI o510, vR b513] []))
           refine own_by (fun _ k => XS.aload X537.here hx rfl (hb hby at_356) rfl rfl k) ?_
           show own_Go p e below _ (T537.setTop (mkF m 358 #[vI p0, vI p1, vI p2, vI p3, vI p4, vR b431, vI z456, vI v1, vI z478, vI v458, vI z489, vR b491, vI o506, vI o510, vR b513] [(.ref b513)]))
           obtain ⟨cq549, kq549, qq549a, qq549b, qq549c⟩ := isOf hZ rfl F543
           obtain ⟨_, _, ⟨T549, L549, k549, n549⟩, -, X549, ⟨Lc549, hQ549, l549, y549, z549⟩, st549⟩ := X537.virtualBack hx (y := (⟨"com/example/margay/margay/index/LineCounter", "line", "()I"⟩ : MethodName)) (z := (⟨"com/example/margay/margay/index/LineCounter", "line", "()I"⟩ : MethodName)) hown (mvT hZ (hwd 47 rfl)) (mvT hZ (hwd 48 rfl)) (notFace_of_selects (args := #[]) (mvT hZ (hwd 50 rfl))) (mvT hZ (hwd 50 rfl)) (mvT hZ (hwd 49 rfl)) (by decide) (backOf (W := 0) (rm7 l Z A0 hw [] b513 o540 T537.heap n0 Z537 F545) hZ (hwd 51 rfl) (hwd 2 rfl) (by decide) (by decide)) qq549a qq549c (g := (mkF m 358 #[vI p0, vI p1, vI p2, vI p3, vI p4, vR b431, vI z456, vI v1, vI z478, vI v458, vI z489, vR b491, vI o506, vI o510, vR b513] [(.ref b513)])) rfl (by rw [hml]; rfl) (Steps.refl _) (argsL := []) (rest := []) (lenOf pd_47 rfl) rfl (by show 2 * 0 + _ ≤ _; exact Nat.le_of_eq rfl) (hb hby at_358) (fun _ _ => ⟨rfl, rfl, (by decide : 9 + 0 ≤ _), (by decide : 50 + 0 ≤ _)⟩)
           dsimp only [Pt.U, Pt.locs, Pt.cells, Pt.slots] at X549 l549 y549 z549 st549 hQ549
           subst l549 y549 z549
           obtain ⟨rfl, Nq549, eq549⟩ := hQ549
           have N549 := Fr.app N537 Nq549
           refine own_by (fun _ k => st549.trans k) ?_
           show own_Go p e below _ (T549.setTop (mkF m 361 #[vI p0, vI p1, vI p2, vI p3, vI p4, vR b431, vI z456, vI v1, vI z478, vI v458, vI z489, vR b491, vI o506, vI o510, vR b513] [(.int o540)]))
           refine own_by (fun _ k => XS.iconst X549.here hx rfl (hb hby at_361) k) ?_
           show own_Go p e below _ (T549.setTop (mkF m 362 #[vI p0, vI p1, vI p2, vI p3, vI p4, vR b431, vI z456, vI v1, vI z478, vI v458, vI z489, vR b491, vI o506, vI o510, vR b513] [(.int (2 : Int32)), (.int o540)]))
           by_cases c550 : o540 = (2 : Int32)
           ·skip
            refine own_by (fun _ k => XS.icmpNo X549.here hx rfl (hb hby at_362) rfl (teq c550).2 k) ?_
            show own_Go p e below _ (T549.setTop (mkF m 365 #[vI p0, vI p1, vI p2, vI p3, vI p4, vR b431, vI z456, vI v1, vI z478, vI v458, vI z489, vR b491, vI o506, vI o510, vR b513] []))
            refine own_by (fun _ k => XS.aload X549.here hx rfl (hb hby at_365) rfl rfl k) ?_
            show own_Go p e below _ (T549.setTop (mkF m 367 #[vI p0, vI p1, vI p2, vI p3, vI p4, vR b431, vI z456, vI v1, vI z478, vI v458, vI z489, vR b491, vI o506, vI o510, vR b513] [(.ref b513)]))
            obtain ⟨cq551, kq551, qq551a, qq551b, qq551c⟩ := isOf hZ eq549 F543
            obtain ⟨_, _, ⟨T551, L551, k551, n551⟩, -, X551, ⟨Lc551, hQ551, l551, y551, z551⟩, st551⟩ := X549.virtualBack hx (y := (⟨"com/example/margay/margay/index/LineCounter", "column", "()I"⟩ : MethodName)) (z := (⟨"com/example/margay/margay/index/LineCounter", "column", "()I"⟩ : MethodName)) hown (mvT hZ (hwd 52 rfl)) (mvT hZ (hwd 53 rfl)) (notFace_of_selects (args := #[]) (mvT hZ (hwd 55 rfl))) (mvT hZ (hwd 55 rfl)) (mvT hZ (hwd 54 rfl)) (by decide) (backOf (W := 0) (rm8 l Z A0 hw [] b513 o539 T537.heap n0 Z537 F544) hZ (hwd 56 rfl) (hwd 2 rfl) (by decide) (by decide)) qq551a qq551c (g := (mkF m 367 #[vI p0, vI p1, vI p2, vI p3, vI p4, vR b431, vI z456, vI v1, vI z478, vI v458, vI z489, vR b491, vI o506, vI o510, vR b513] [(.ref b513)])) rfl (by rw [hml]; rfl) (Steps.refl _) (argsL := []) (rest := []) (lenOf pd_47 rfl) rfl (by show 2 * 0 + _ ≤ _; exact Nat.le_of_eq rfl) (hb hby at_367) (fun _ _ => ⟨rfl, eq549, (by decide : 9 + 0 ≤ _), (by decide : 50 + 0 ≤ _)⟩)
            dsimp only [Pt.U, Pt.locs, Pt.cells, Pt.slots] at X551 l551 y551 z551 st551 hQ551
            subst l551 y551 z551
            obtain ⟨rfl, Nq551, eq551⟩ := hQ551
            have N551 := Fr.app N549 Nq551
            refine own_by (fun _ k => st551.trans k) ?_
            show own_Go p e below _ (T551.setTop (mkF m 370 #[vI p0, vI p1, vI p2, vI p3, vI p4, vR b431, vI z456, vI v1, vI z478, vI v458, vI z489, vR b491, vI o506, vI o510, vR b513] [(.int o539)]))
            refine own_by (fun _ k => XS.iconst X551.here hx rfl (hb hby at_370) k) ?_
            show own_Go p e below _ (T551.setTop (mkF m 371 #[vI p0, vI p1, vI p2, vI p3, vI p4, vR b431, vI z456, vI v1, vI z478, vI v458, vI z489, vR b491, vI o506, vI o510, vR b513] [(.int (2 : Int32)), (.int o539)]))
            by_cases c552 : o539 = (2 : Int32)
            ·skip
             refine own_by (fun _ k => XS.icmpNo X551.here hx rfl (hb hby at_371) rfl (teq c552).2 k) ?_
             show own_Go p e below _ (T551.setTop (mkF m 374 #[vI p0, vI p1, vI p2, vI p3, vI p4, vR b431, vI z456, vI v1, vI z478, vI v458, vI z489, vR b491, vI o506, vI o510, vR b513] []))
             refine own_by (fun _ k => XS.iconst X551.here hx rfl (hb hby at_374) k) ?_
             show own_Go p e below _ (T551.setTop (mkF m 375 #[vI p0, vI p1, vI p2, vI p3, vI p4, vR b431, vI z456, vI v1, vI z478, vI v458, vI z489, vR b491, vI o506, vI o510, vR b513] [(.int (1 : Int32))]))
             refine own_by (fun _ k => XS.goto X551.here hx rfl (pc0 := 375) (pc' := 379) rfl (hb hby at_375) (by decide) (by decide) k) ?_
             show own_Go p e below _ (T551.setTop (mkF m 379 #[vI p0, vI p1, vI p2, vI p3, vI p4, vR b431, vI z456, vI v1, vI z478, vI v458, vI z489, vR b491, vI o506, vI o510, vR b513] [(.int (1 : Int32))]))
             exact own_retNW X551 hx hS hk537 hZ hEL hh CR537 (t := .boolean) Bd.returns (by simp) (hb hby at_379) hlk eq551 ⟨rfl, N551⟩ (by decide) (by decide)
            ·skip
             refine own_by (fun _ k => XS.icmpYes X551.here hx rfl (pc0 := 371) (pc' := 378) rfl (hb hby at_371) rfl (feq c552).2 (by decide) (by decide) k) ?_
             show own_Go p e below _ (T551.setTop (mkF m 378 #[vI p0, vI p1, vI p2, vI p3, vI p4, vR b431, vI z456, vI v1, vI z478, vI v458, vI z489, vR b491, vI o506, vI o510, vR b513] []))
             refine own_by (fun _ k => XS.iconst X551.here hx rfl (hb hby at_378) k) ?_
             show own_Go p e below _ (T551.setTop (mkF m 379 #[vI p0, vI p1, vI p2, vI p3, vI p4, vR b431, vI z456, vI v1, vI z478, vI v458, vI z489, vR b491, vI o506, vI o510, vR b513] [(.int (0 : Int32))]))
             exact own_retNW X551 hx hS hk537 hZ hEL hh CR537 (t := .boolean) Bd.returns (by simp) (hb hby at_379) hlk eq551 ⟨((ob_0_57 f_CS p0 p1 p2 p3 p4 v1 z456 v458 z478 z489 o498 o506 o510 o520 o528 o529 o530 o538 o539 o540 hn_CS hv1 c2 c128 c276 hj457 hv458 hj479 hj490 hp504 hp507 c508 hp511 c512 hp526 hp536 hp546 c547 c548 c550 c552)).elim, N551⟩ (by decide) (by decide)
           ·skip
            refine own_by (fun _ k => XS.icmpYes X549.here hx rfl (pc0 := 362) (pc' := 378) rfl (hb hby at_362) rfl (feq c550).2 (by decide) (by decide) k) ?_
            show own_Go p e below _ (T549.setTop (mkF m 378 #[vI p0, vI p1, vI p2, vI p3, vI p4, vR b431, vI z456, vI v1, vI z478, vI v458, vI z489, vR b491, vI o506, vI o510, vR b513] []))
            refine own_by (fun _ k => XS.iconst X549.here hx rfl (hb hby at_378) k) ?_
            show own_Go p e below _ (T549.setTop (mkF m 379 #[vI p0, vI p1, vI p2, vI p3, vI p4, vR b431, vI z456, vI v1, vI z478, vI v458, vI z489, vR b491, vI o506, vI o510, vR b513] [(.int (0 : Int32))]))
            exact own_retNW X549 hx hS hk537 hZ hEL hh CR537 (t := .boolean) Bd.returns (by simp) (hb hby at_379) hlk eq549 ⟨((ob_0_58 f_CS p0 p1 p2 p3 p4 v1 z456 v458 z478 z489 o498 o506 o510 o520 o528 o529 o530 o538 o539 o540 hn_CS hv1 c2 c128 c276 hj457 hv458 hj479 hj490 hp504 hp507 c508 hp511 c512 hp526 hp536 hp546 c547 c548 c550)).elim, N549⟩ (by decide) (by decide)
          ·skip
           refine own_by (fun _ k => XS.ifNo X537.here hx rfl (hb hby at_329) rfl ((if0 _ _).trans (feq c548).1) k) ?_
           show own_Go p e below _ (T537.setTop (mkF m 332 #[vI p0, vI p1, vI p2, vI p3, vI p4, vR b431, vI z456, vI v1, vI z478, vI v458, vI z489, vR b491, vI o506, vI o510, vR b513] []))
           refine own_by (fun _ k => XS.aload X537.here hx rfl (hb hby at_332) rfl rfl k) ?_
           show own_Go p e below _ (T537.setTop (mkF m 334 #[vI p0, vI p1, vI p2, vI p3, vI p4, vR b431, vI z456, vI v1, vI z478, vI v458, vI z489, vR b491, vI o506, vI o510, vR b513] [(.ref b513)]))
           obtain ⟨cq553, kq553, qq553a, qq553b, qq553c⟩ := isOf hZ rfl F543
           obtain ⟨_, _, ⟨T553, L553, k553, n553⟩, -, X553, ⟨Lc553, hQ553, l553, y553, z553⟩, st553⟩ := X537.virtualBack hx (y := (⟨"com/example/margay/margay/index/LineCounter", "line", "()I"⟩ : MethodName)) (z := (⟨"com/example/margay/margay/index/LineCounter", "line", "()I"⟩ : MethodName)) hown (mvT hZ (hwd 47 rfl)) (mvT hZ (hwd 48 rfl)) (notFace_of_selects (args := #[]) (mvT hZ (hwd 50 rfl))) (mvT hZ (hwd 50 rfl)) (mvT hZ (hwd 49 rfl)) (by decide) (backOf (W := 0) (rm7 l Z A0 hw [] b513 o540 T537.heap n0 Z537 F545) hZ (hwd 51 rfl) (hwd 2 rfl) (by decide) (by decide)) qq553a qq553c (g := (mkF m 334 #[vI p0, vI p1, vI p2, vI p3, vI p4, vR b431, vI z456, vI v1, vI z478, vI v458, vI z489, vR b491, vI o506, vI o510, vR b513] [(.ref b513)])) rfl (by rw [hml]; rfl) (Steps.refl _) (argsL := []) (rest := []) (lenOf pd_47 rfl) rfl (by show 2 * 0 + _ ≤ _; exact Nat.le_of_eq rfl) (hb hby at_334) (fun _ _ => ⟨rfl, rfl, (by decide : 9 + 0 ≤ _), (by decide : 50 + 0 ≤ _)⟩)
           dsimp only [Pt.U, Pt.locs, Pt.cells, Pt.slots] at X553 l553 y553 z553 st553 hQ553
           subst l553 y553 z553
           obtain ⟨rfl, Nq553, eq553⟩ := hQ553
           have N553 := Fr.app N537 Nq553
           refine own_by (fun _ k => st553.trans k) ?_
           show own_Go p e below _ (T553.setTop (mkF m 337 #[vI p0, vI p1, vI p2, vI p3, vI p4, vR b431, vI z456, vI v1, vI z478, vI v458, vI z489, vR b491, vI o506, vI o510, vR b513] [(.int o540)]))
           refine own_by (fun _ k => XS.iconst X553.here hx rfl (hb hby at_337) k) ?_
           show own_Go p e below _ (T553.setTop (mkF m 338 #[vI p0, vI p1, vI p2, vI p3, vI p4, vR b431, vI z456, vI v1, vI z478, vI v458, vI z489, vR b491, vI o506, vI o510, vR b513] [(.int (3 : Int32)), (.int o540)]))
           by_cases c554 : o540 = (3 : Int32)
           ·skip
            refine own_by (fun _ k => XS.icmpNo X553.here hx rfl (hb hby at_338) rfl (teq c554).2 k) ?_
            show own_Go p e below _ (T553.setTop (mkF m 341 #[vI p0, vI p1, vI p2, vI p3, vI p4, vR b431, vI z456, vI v1, vI z478, vI v458, vI z489, vR b491, vI o506, vI o510, vR b513] []))
            refine own_by (fun _ k => XS.aload X553.here hx rfl (hb hby at_341) rfl rfl k) ?_
            show own_Go p e below _ (T553.setTop (mkF m 343 #[vI p0, vI p1, vI p2, vI p3, vI p4, vR b431, vI z456, vI v1, vI z478, vI v458, vI z489, vR b491, vI o506, vI o510, vR b513] [(.ref b513)]))
            obtain ⟨cq555, kq555, qq555a, qq555b, qq555c⟩ := isOf hZ eq553 F543
            obtain ⟨_, _, ⟨T555, L555, k555, n555⟩, -, X555, ⟨Lc555, hQ555, l555, y555, z555⟩, st555⟩ := X553.virtualBack hx (y := (⟨"com/example/margay/margay/index/LineCounter", "column", "()I"⟩ : MethodName)) (z := (⟨"com/example/margay/margay/index/LineCounter", "column", "()I"⟩ : MethodName)) hown (mvT hZ (hwd 52 rfl)) (mvT hZ (hwd 53 rfl)) (notFace_of_selects (args := #[]) (mvT hZ (hwd 55 rfl))) (mvT hZ (hwd 55 rfl)) (mvT hZ (hwd 54 rfl)) (by decide) (backOf (W := 0) (rm8 l Z A0 hw [] b513 o539 T537.heap n0 Z537 F544) hZ (hwd 56 rfl) (hwd 2 rfl) (by decide) (by decide)) qq555a qq555c (g := (mkF m 343 #[vI p0, vI p1, vI p2, vI p3, vI p4, vR b431, vI z456, vI v1, vI z478, vI v458, vI z489, vR b491, vI o506, vI o510, vR b513] [(.ref b513)])) rfl (by rw [hml]; rfl) (Steps.refl _) (argsL := []) (rest := []) (lenOf pd_47 rfl) rfl (by show 2 * 0 + _ ≤ _; exact Nat.le_of_eq rfl) (hb hby at_343) (fun _ _ => ⟨rfl, eq553, (by decide : 9 + 0 ≤ _), (by decide : 50 + 0 ≤ _)⟩)
            dsimp only [Pt.U, Pt.locs, Pt.cells, Pt.slots] at X555 l555 y555 z555 st555 hQ555
            subst l555 y555 z555
            obtain ⟨rfl, Nq555, eq555⟩ := hQ555
            have N555 := Fr.app N553 Nq555
            refine own_by (fun _ k => st555.trans k) ?_
            show own_Go p e below _ (T555.setTop (mkF m 346 #[vI p0, vI p1, vI p2, vI p3, vI p4, vR b431, vI z456, vI v1, vI z478, vI v458, vI z489, vR b491, vI o506, vI o510, vR b513] [(.int o539)]))
            refine own_by (fun _ k => XS.iconst X555.here hx rfl (hb hby at_346) k) ?_
            show own_Go p e below _ (T555.setTop (mkF m 347 #[vI p0, vI p1, vI p2, vI p3, vI p4, vR b431, vI z456, vI v1, vI z478, vI v458, vI z489, vR b491, vI o506, vI o510, vR b513] [(.int (1 : Int32)), (.int o539)]))
            by_cases c556 : o539 = (1 : Int32)
            ·skip
             refine own_by (fun _ k => XS.icmpNo X555.here hx rfl (hb hby at_347) rfl (teq c556).2 k) ?_
             show own_Go p e below _ (T555.setTop (mkF m 350 #[vI p0, vI p1, vI p2, vI p3, vI p4, vR b431, vI z456, vI v1, vI z478, vI v458, vI z489, vR b491, vI o506, vI o510, vR b513] []))
             refine own_by (fun _ k => XS.iconst X555.here hx rfl (hb hby at_350) k) ?_
             show own_Go p e below _ (T555.setTop (mkF m 351 #[vI p0, vI p1, vI p2, vI p3, vI p4, vR b431, vI z456, vI v1, vI z478, vI v458, vI z489, vR b491, vI o506, vI o510, vR b513] [(.int (1 : Int32))]))
             refine own_by (fun _ k => XS.goto X555.here hx rfl (pc0 := 351) (pc' := 355) rfl (hb hby at_351) (by decide) (by decide) k) ?_
             show own_Go p e below _ (T555.setTop (mkF m 355 #[vI p0, vI p1, vI p2, vI p3, vI p4, vR b431, vI z456, vI v1, vI z478, vI v458, vI z489, vR b491, vI o506, vI o510, vR b513] [(.int (1 : Int32))]))
             exact own_retNW X555 hx hS hk537 hZ hEL hh CR537 (t := .boolean) Bd.returns (by simp) (hb hby at_355) hlk eq555 ⟨rfl, N555⟩ (by decide) (by decide)
            ·skip
             refine own_by (fun _ k => XS.icmpYes X555.here hx rfl (pc0 := 347) (pc' := 354) rfl (hb hby at_347) rfl (feq c556).2 (by decide) (by decide) k) ?_
             show own_Go p e below _ (T555.setTop (mkF m 354 #[vI p0, vI p1, vI p2, vI p3, vI p4, vR b431, vI z456, vI v1, vI z478, vI v458, vI z489, vR b491, vI o506, vI o510, vR b513] []))
             refine own_by (fun _ k => XS.iconst X555.here hx rfl (hb hby at_354) k) ?_
             show own_Go p e below _ (T555.setTop (mkF m 355 #[vI p0, vI p1, vI p2, vI p3, vI p4, vR b431, vI z456, vI v1, vI z478, vI v458, vI z489, vR b491, vI o506, vI o510, vR b513] [(.int (0 : Int32))]))
             exact own_retNW X555 hx hS hk537 hZ hEL hh CR537 (t := .boolean) Bd.returns (by simp) (hb hby at_355) hlk eq555 ⟨((ob_0_59 f_CS p0 p1 p2 p3 p4 v1 z456 v458 z478 z489 o498 o506 o510 o520 o528 o529 o530 o538 o539 o540 hn_CS hv1 c2 c128 c276 hj457 hv458 hj479 hj490 hp504 hp507 c508 hp511 c512 hp526 hp536 hp546 c547 c548 c554 c556)).elim, N555⟩ (by decide) (by decide)
           ·skip
            refine own_by (fun _ k => XS.icmpYes X553.here hx rfl (pc0 := 338) (pc' := 354) rfl (hb hby at_338) rfl (feq c554).2 (by decide) (by decide) k) ?_
            show own_Go p e below _ (T553.setTop (mkF m 354 #[vI p0, vI p1, vI p2, vI p3, vI p4, vR b431, vI z456, vI v1, vI z478, vI v458, vI z489, vR b491, vI o506, vI o510, vR b513] []))
            refine own_by (fun _ k => XS.iconst X553.here hx rfl (hb hby at_354) k) ?_
            show own_Go p e below _ (T553.setTop (mkF m 355 #[vI p0, vI p1, vI p2, vI p3, vI p4, vR b431, vI z456, vI v1, vI z478, vI v458, vI z489, vR b491, vI o506, vI o510, vR b513] [(.int (0 : Int32))]))
            exact own_retNW X553 hx hS hk537 hZ hEL hh CR537 (t := .boolean) Bd.returns (by simp) (hb hby at_355) hlk eq553 ⟨((ob_0_60 f_CS p0 p1 p2 p3 p4 v1 z456 v458 z478 z489 o498 o506 o510 o520 o528 o529 o530 o538 o539 o540 hn_CS hv1 c2 c128 c276 hj457 hv458 hj479 hj490 hp504 hp507 c508 hp511 c512 hp526 hp536 hp546 c547 c548 c554)).elim, N553⟩ (by decide) (by decide)
         ·skip
          refine own_by (fun _ k => XS.ifNo X537.here hx rfl (hb hby at_300) rfl ((if0 _ _).trans (feq c547).1) k) ?_
          show own_Go p e below _ (T537.setTop (mkF m 303 #[vI p0, vI p1, vI p2, vI p3, vI p4, vR b431, vI z456, vI v1, vI z478, vI v458, vI z489, vR b491, vI o506, vI o510, vR b513] []))
          refine own_by (fun _ k => XS.aload X537.here hx rfl (hb hby at_303) rfl rfl k) ?_
          show own_Go p e below _ (T537.setTop (mkF m 305 #[vI p0, vI p1, vI p2, vI p3, vI p4, vR b431, vI z456, vI v1, vI z478, vI v458, vI z489, vR b491, vI o506, vI o510, vR b513] [(.ref b513)]))
          obtain ⟨cq557, kq557, qq557a, qq557b, qq557c⟩ := isOf hZ rfl F543
          obtain ⟨_, _, ⟨T557, L557, k557, n557⟩, -, X557, ⟨Lc557, hQ557, l557, y557, z557⟩, st557⟩ := X537.virtualBack hx (y := (⟨"com/example/margay/margay/index/LineCounter", "line", "()I"⟩ : MethodName)) (z := (⟨"com/example/margay/margay/index/LineCounter", "line", "()I"⟩ : MethodName)) hown (mvT hZ (hwd 47 rfl)) (mvT hZ (hwd 48 rfl)) (notFace_of_selects (args := #[]) (mvT hZ (hwd 50 rfl))) (mvT hZ (hwd 50 rfl)) (mvT hZ (hwd 49 rfl)) (by decide) (backOf (W := 0) (rm7 l Z A0 hw [] b513 o540 T537.heap n0 Z537 F545) hZ (hwd 51 rfl) (hwd 2 rfl) (by decide) (by decide)) qq557a qq557c (g := (mkF m 305 #[vI p0, vI p1, vI p2, vI p3, vI p4, vR b431, vI z456, vI v1, vI z478, vI v458, vI z489, vR b491, vI o506, vI o510, vR b513] [(.ref b513)])) rfl (by rw [hml]; rfl) (Steps.refl _) (argsL := []) (rest := []) (lenOf pd_47 rfl) rfl (by show 2 * 0 + _ ≤ _; exact Nat.le_of_eq rfl) (hb hby at_305) (fun _ _ => ⟨rfl, rfl, (by decide : 9 + 0 ≤ _), (by decide : 50 + 0 ≤ _)⟩)
          dsimp only [Pt.U, Pt.locs, Pt.cells, Pt.slots] at X557 l557 y557 z557 st557 hQ557
          subst l557 y557 z557
          obtain ⟨rfl, Nq557, eq557⟩ := hQ557
          have N557 := Fr.app N537 Nq557
          refine own_by (fun _ k => st557.trans k) ?_
          show own_Go p e below _ (T557.setTop (mkF m 308 #[vI p0, vI p1, vI p2, vI p3, vI p4, vR b431, vI z456, vI v1, vI z478, vI v458, vI z489, vR b491, vI o506, vI o510, vR b513] [(.int o540)]))
          refine own_by (fun _ k => XS.iconst X557.here hx rfl (hb hby at_308) k) ?_
          show own_Go p e below _ (T557.setTop (mkF m 309 #[vI p0, vI p1, vI p2, vI p3, vI p4, vR b431, vI z456, vI v1, vI z478, vI v458, vI z489, vR b491, vI o506, vI o510, vR b513] [(.int (2 : Int32)), (.int o540)]))
          by_cases c558 : o540 = (2 : Int32)
          ·skip
           refine own_by (fun _ k => XS.icmpNo X557.here hx rfl (hb hby at_309) rfl (teq c558).2 k) ?_
           show own_Go p e below _ (T557.setTop (mkF m 312 #[vI p0, vI p1, vI p2, vI p3, vI p4, vR b431, vI z456, vI v1, vI z478, vI v458, vI z489, vR b491, vI o506, vI o510, vR b513] []))
           refine own_by (fun _ k => XS.aload X557.here hx rfl (hb hby at_312) rfl rfl k) ?_
           show own_Go p e below _ (T557.setTop (mkF m 314 #[vI p0, vI p1, vI p2, vI p3, vI p4, vR b431, vI z456, vI v1, vI z478, vI v458, vI z489, vR b491, vI o506, vI o510, vR b513] [(.ref b513)]))
           obtain ⟨cq559, kq559, qq559a, qq559b, qq559c⟩ := isOf hZ eq557 F543
           obtain ⟨_, _, ⟨T559, L559, k559, n559⟩, -, X559, ⟨Lc559, hQ559, l559, y559, z559⟩, st559⟩ := X557.virtualBack hx (y := (⟨"com/example/margay/margay/index/LineCounter", "column", "()I"⟩ : MethodName)) (z := (⟨"com/example/margay/margay/index/LineCounter", "column", "()I"⟩ : MethodName)) hown (mvT hZ (hwd 52 rfl)) (mvT hZ (hwd 53 rfl)) (notFace_of_selects (args := #[]) (mvT hZ (hwd 55 rfl))) (mvT hZ (hwd 55 rfl)) (mvT hZ (hwd 54 rfl)) (by decide) (backOf (W := 0) (rm8 l Z A0 hw [] b513 o539 T537.heap n0 Z537 F544) hZ (hwd 56 rfl) (hwd 2 rfl) (by decide) (by decide)) qq559a qq559c (g := (mkF m 314 #[vI p0, vI p1, vI p2, vI p3, vI p4, vR b431, vI z456, vI v1, vI z478, vI v458, vI z489, vR b491, vI o506, vI o510, vR b513] [(.ref b513)])) rfl (by rw [hml]; rfl) (Steps.refl _) (argsL := []) (rest := []) (lenOf pd_47 rfl) rfl (by show 2 * 0 + _ ≤ _; exact Nat.le_of_eq rfl) (hb hby at_314) (fun _ _ => ⟨rfl, eq557, (by decide : 9 + 0 ≤ _), (by decide : 50 + 0 ≤ _)⟩)
           dsimp only [Pt.U, Pt.locs, Pt.cells, Pt.slots] at X559 l559 y559 z559 st559 hQ559
           subst l559 y559 z559
           obtain ⟨rfl, Nq559, eq559⟩ := hQ559
           have N559 := Fr.app N557 Nq559
           refine own_by (fun _ k => st559.trans k) ?_
           show own_Go p e below _ (T559.setTop (mkF m 317 #[vI p0, vI p1, vI p2, vI p3, vI p4, vR b431, vI z456, vI v1, vI z478, vI v458, vI z489, vR b491, vI o506, vI o510, vR b513] [(.int o539)]))
           refine own_by (fun _ k => XS.iconst X559.here hx rfl (hb hby at_317) k) ?_
           show own_Go p e below _ (T559.setTop (mkF m 318 #[vI p0, vI p1, vI p2, vI p3, vI p4, vR b431, vI z456, vI v1, vI z478, vI v458, vI z489, vR b491, vI o506, vI o510, vR b513] [(.int (1 : Int32)), (.int o539)]))
           by_cases c560 : o539 = (1 : Int32)
           ·skip
            refine own_by (fun _ k => XS.icmpNo X559.here hx rfl (hb hby at_318) rfl (teq c560).2 k) ?_
            show own_Go p e below _ (T559.setTop (mkF m 321 #[vI p0, vI p1, vI p2, vI p3, vI p4, vR b431, vI z456, vI v1, vI z478, vI v458, vI z489, vR b491, vI o506, vI o510, vR b513] []))
            refine own_by (fun _ k => XS.iconst X559.here hx rfl (hb hby at_321) k) ?_
            show own_Go p e below _ (T559.setTop (mkF m 322 #[vI p0, vI p1, vI p2, vI p3, vI p4, vR b431, vI z456, vI v1, vI z478, vI v458, vI z489, vR b491, vI o506, vI o510, vR b513] [(.int (1 : Int32))]))
            refine own_by (fun _ k => XS.goto X559.here hx rfl (pc0 := 322) (pc' := 326) rfl (hb hby at_322) (by decide) (by decide) k) ?_
            show own_Go p e below _ (T559.setTop (mkF m 326 #[vI p0, vI p1, vI p2, vI p3, vI p4, vR b431, vI z456, vI v1, vI z478, vI v458, vI z489, vR b491, vI o506, vI o510, vR b513] [(.int (1 : Int32))]))
            exact own_retNW X559 hx hS hk537 hZ hEL hh CR537 (t := .boolean) Bd.returns (by simp) (hb hby at_326) hlk eq559 ⟨rfl, N559⟩ (by decide) (by decide)
           ·skip
            refine own_by (fun _ k => XS.icmpYes X559.here hx rfl (pc0 := 318) (pc' := 325) rfl (hb hby at_318) rfl (feq c560).2 (by decide) (by decide) k) ?_
            show own_Go p e below _ (T559.setTop (mkF m 325 #[vI p0, vI p1, vI p2, vI p3, vI p4, vR b431, vI z456, vI v1, vI z478, vI v458, vI z489, vR b491, vI o506, vI o510, vR b513] []))
            refine own_by (fun _ k => XS.iconst X559.here hx rfl (hb hby at_325) k) ?_
            show own_Go p e below _ (T559.setTop (mkF m 326 #[vI p0, vI p1, vI p2, vI p3, vI p4, vR b431, vI z456, vI v1, vI z478, vI v458, vI z489, vR b491, vI o506, vI o510, vR b513] [(.int (0 : Int32))]))
            exact own_retNW X559 hx hS hk537 hZ hEL hh CR537 (t := .boolean) Bd.returns (by simp) (hb hby at_326) hlk eq559 ⟨((ob_0_61 f_CS p0 p1 p2 p3 p4 v1 z456 v458 z478 z489 o498 o506 o510 o520 o528 o529 o530 o538 o539 o540 hn_CS hv1 c2 c128 c276 hj457 hv458 hj479 hj490 hp504 hp507 c508 hp511 c512 hp526 hp536 hp546 c547 c558 c560)).elim, N559⟩ (by decide) (by decide)
          ·skip
           refine own_by (fun _ k => XS.icmpYes X557.here hx rfl (pc0 := 309) (pc' := 325) rfl (hb hby at_309) rfl (feq c558).2 (by decide) (by decide) k) ?_
           show own_Go p e below _ (T557.setTop (mkF m 325 #[vI p0, vI p1, vI p2, vI p3, vI p4, vR b431, vI z456, vI v1, vI z478, vI v458, vI z489, vR b491, vI o506, vI o510, vR b513] []))
           refine own_by (fun _ k => XS.iconst X557.here hx rfl (hb hby at_325) k) ?_
           show own_Go p e below _ (T557.setTop (mkF m 326 #[vI p0, vI p1, vI p2, vI p3, vI p4, vR b431, vI z456, vI v1, vI z478, vI v458, vI z489, vR b491, vI o506, vI o510, vR b513] [(.int (0 : Int32))]))
           exact own_retNW X557 hx hS hk537 hZ hEL hh CR537 (t := .boolean) Bd.returns (by simp) (hb hby at_326) hlk eq557 ⟨((ob_0_62 f_CS p0 p1 p2 p3 p4 v1 z456 v458 z478 z489 o498 o506 o510 o520 o528 o529 o530 o538 o539 o540 hn_CS hv1 c2 c128 c276 hj457 hv458 hj479 hj490 hp504 hp507 c508 hp511 c512 hp526 hp536 hp546 c547 c558)).elim, N557⟩ (by decide) (by decide)
        ·skip
         refine own_by (fun _ k => XS.ifNo X509.here hx rfl (hb hby at_263) rfl ((if0 _ _).trans (feq c512).1) k) ?_
         show own_Go p e below _ (T509.setTop (mkF m 266 #[vI p0, vI p1, vI p2, vI p3, vI p4, vR b431, vI z456, vI v1, vI z478, vI v458, vI z489, vR b491, vI o506, vI o510, .unset] []))
         refine own_by (fun _ k => XS.iload X509.here hx rfl (hb hby at_266) rfl k) ?_
         show own_Go p e below _ (T509.setTop (mkF m 268 #[vI p0, vI p1, vI p2, vI p3, vI p4, vR b431, vI z456, vI v1, vI z478, vI v458, vI z489, vR b491, vI o506, vI o510, .unset] [(.int o510)]))
         by_cases c561 : o510 = (0 : Int32)
         ·skip
          refine own_by (fun _ k => XS.ifNo X509.here hx rfl (hb hby at_268) rfl ((if0 _ _).trans (teq c561).2) k) ?_
          show own_Go p e below _ (T509.setTop (mkF m 271 #[vI p0, vI p1, vI p2, vI p3, vI p4, vR b431, vI z456, vI v1, vI z478, vI v458, vI z489, vR b491, vI o506, vI o510, .unset] []))
          refine own_by (fun _ k => XS.iconst X509.here hx rfl (hb hby at_271) k) ?_
          show own_Go p e below _ (T509.setTop (mkF m 272 #[vI p0, vI p1, vI p2, vI p3, vI p4, vR b431, vI z456, vI v1, vI z478, vI v458, vI z489, vR b491, vI o506, vI o510, .unset] [(.int (0 : Int32))]))
          exact own_retNW X509 hx hS hk497 hZ hEL hh CR497 (t := .boolean) Bd.returns (by simp) (hb hby at_272) hlk eq509 ⟨((ob_0_63 f_CS p0 p1 p2 p3 p4 v1 z456 v458 z478 z489 o498 o506 o510 hn_CS hv1 c2 c128 c276 hj457 hv458 hj479 hj490 hp504 hp507 c508 hp511 c512 c561)).elim, N509⟩ (by decide) (by decide)
         ·skip
          refine own_by (fun _ k => XS.ifYes X509.here hx rfl (pc0 := 268) (pc' := 273) rfl (hb hby at_268) rfl ((if0 _ _).trans (feq c561).2) (by decide) (by decide) k) ?_
          show own_Go p e below _ (T509.setTop (mkF m 273 #[vI p0, vI p1, vI p2, vI p3, vI p4, vR b431, vI z456, vI v1, vI z478, vI v458, vI z489, vR b491, vI o506, vI o510, .unset] []))
          obtain ⟨T562, h562, X562, e562, E562, A562, D562, -, st562⟩ := newO X509 hx hZ hown (hwd 0 rfl) (hwd 1 rfl) (hwd 2 rfl) eq509 (g := (mkF m 273 #[vI p0, vI p1, vI p2, vI p3, vI p4, vR b431, vI z456, vI v1, vI z478, vI v458, vI z489, vR b491, vI o506, vI o510, .unset] [])) rfl (hb hby at_273) (by decide) (by decide)
          obtain ⟨b562, g562⟩ : ∃ z, z = T497.heap.size := ⟨_, rfl⟩
          have ge_b562 : n0 ≤ b562 := Nat.le_trans Z497 (Nat.le_of_eq g562.symm)
          have sz_b562 : h0.size ≤ b562 := Nat.le_trans K497.1 (Nat.le_of_eq g562.symm)
          have R562 : CHr Z consts_1 T497.vm T497.heap T497.vm h562 := CHr.ext E562 CR497.1
          have CR562 : CHr Z consts_1 s.vm h0 T497.vm h562 := CR497.trans R562
          have hk562 : kc497 ≤ h562.size := Nat.le_trans hk497 E562.1
          have S_b562 : Safe Z consts_1 T497.vm h562 b562 := Safe.ext E562 CR497.1 (Safe.new (Nat.le_of_eq g562.symm))
          have K562 : Keep h0 h562 [] := K497.ext E562
          have Z562 : n0 ≤ h562.size := Nat.le_trans Z497 E562.1
          rw [← g562] at A562 D562 st562
          have lt_b562 := A562.lt
          have F_line_b562 : Fld Z h562 b562 "com/example/margay/margay/index/LineCounter" "line" "I" (.int (0 : Int32)) := D562 (Or.inl (hwd 10 rfl)) (ty := .int) (by decide)
          have F_column_b562 : Fld Z h562 b562 "com/example/margay/margay/index/LineCounter" "column" "I" (.int (0 : Int32)) := D562 (Or.inl (hwd 12 rfl)) (ty := .int) (by decide)
          have F_xml11_b562 : Fld Z h562 b562 "com/example/margay/margay/index/LineCounter" "xml11" "Z" (.int (0 : Int32)) := D562 (Or.inr (hwd 27 rfl)) (ty := .boolean) (by decide)
          have F_afterCarriageReturn_b562 : Fld Z h562 b562 "com/example/margay/margay/index/LineCounter" "afterCarriageReturn" "Z" (.int (0 : Int32)) := D562 (Or.inl (hwd 44 rfl)) (ty := .boolean) (by decide)
          refine own_by st562 ?_
          show own_Go p e below _ (T562.setTop (mkF m 276 #[vI p0, vI p1, vI p2, vI p3, vI p4, vR b431, vI z456, vI v1, vI z478, vI v458, vI z489, vR b491, vI o506, vI o510, .unset] [(.ref b562)]))
          refine own_by (fun _ k => XS.dup X562.here hx rfl (hb hby at_276) rfl rfl k) ?_
          show own_Go p e below _ (T562.setTop (mkF m 277 #[vI p0, vI p1, vI p2, vI p3, vI p4, vR b431, vI z456, vI v1, vI z478, vI v458, vI z489, vR b491, vI o506, vI o510, .unset] [(.ref b562), (.ref b562)]))
          refine own_by (fun _ k => XS.aload X562.here hx rfl (hb hby at_277) rfl rfl k) ?_
          show own_Go p e below _ (T562.setTop (mkF m 279 #[vI p0, vI p1, vI p2, vI p3, vI p4, vR b431, vI z456, vI v1, vI z478, vI v458, vI z489, vR b491, vI o506, vI o510, .unset] [(.ref b431), (.ref b562), (.ref b562)]))
          have F563 : Exa Z h562 b431 "java/lang/String" := ((F492.keep Kq497).ext E562)
          have F564 : Fld Z h562 b431 "java/lang/String" "coder" "B" (.int (0 : Int32)) := ((F493.keep Kq497 (ninS (Nat.ne_of_lt (Nat.lt_of_lt_of_le (F437).lt (Nat.le_of_eq g491.symm))) nin0)).ext E562)
          have F565 : Fld Z h562 b431 "java/lang/String" "value" "[B" (.ref b435) := ((F494.keep Kq497 (ninS (Nat.ne_of_lt (Nat.lt_of_lt_of_le (F437).lt (Nat.le_of_eq g491.symm))) nin0)).ext E562)
          have F566 : own_Arf Z h562 b435 b436 .byte (3 : Int32) (fun i => .int ((own_upd (own_upd (own_upd (fun _ => (0 : Int32)) 0 (nar .byte ((nar .char ((p1 &&& (255 : Int32)).toUInt32.toUInt16.toUInt32.toInt32)).toInt8.toInt32))) 1 (nar .byte ((nar .char ((((p1.toUInt32 >>> ((8 : Int32) &&& 31).toUInt32).toInt32) &&& (255 : Int32)).toUInt32.toUInt16.toUInt32.toInt32)).toInt8.toInt32))) 2 (nar .byte ((nar .char ((p2 &&& (255 : Int32)).toUInt32.toUInt16.toUInt32.toInt32)).toInt8.toInt32))) i)) := ((F495.keep Kq497 (ninS (Nat.ne_of_lt (Nat.lt_of_lt_of_le (F442).lt (Nat.le_of_eq g491.symm))) nin0)).ext E562)
          have F567 : Sta Z h562 "java/lang/String" "COMPACT_STRINGS" "Z" (.int f_CS) := ((own_staKeep F496 Kq497 (allS (own_exaPlain A491) all0)).ext E562)
          obtain ⟨_, _, ⟨T568, L568, k568, n568⟩, -, X568', hSq568, hgr568, ⟨Lc568, hQ568, l568, y568, z568, R568⟩, st568⟩ := X562.specialBackS hx (y := (⟨"com/example/margay/margay/index/LineCounter", "<init>", "(Ljava/lang/String;)V"⟩ : MethodName)) rfl hown (mvT hZ (hwd 3 rfl)) (mvT hZ (hwd 4 rfl)) (mvT hZ (hwd 5 rfl)) (by decide) (backOfSH (W := 1) (rmlcR l Z A0 hw [] b435 b436 (own_upd (own_upd (own_upd (fun _ => (0 : Int32)) 0 (nar .byte ((nar .char ((p1 &&& (255 : Int32)).toUInt32.toUInt16.toUInt32.toInt32)).toInt8.toInt32))) 1 (nar .byte ((nar .char ((((p1.toUInt32 >>> ((8 : Int32) &&& 31).toUInt32).toInt32) &&& (255 : Int32)).toUInt32.toUInt16.toUInt32.toInt32)).toInt8.toInt32))) 2 (nar .byte ((nar .char ((p2 &&& (255 : Int32)).toUInt32.toUInt16.toUInt32.toInt32)).toInt8.toInt32))) f_CS b562 b431 (0 : Int32) (0 : Int32) (0 : Int32) (0 : Int32) h562 n0 Z562 F563 F564 F565 F566 F567 hn_CS A562 F_line_b562 ge_b562 F_column_b562 F_xml11_b562 F_afterCarriageReturn_b562) hZ (hwd 5 rfl) (hwd 2 rfl) (by decide) (by decide) hEL CR562.1) (g := (mkF m 279 #[vI p0, vI p1, vI p2, vI p3, vI p4, vR b431, vI z456, vI v1, vI z478, vI v458, vI z489, vR b491, vI o506, vI o510, .unset] [(.ref b431), (.ref b562), (.ref b562)])) rfl (by rw [hml]; rfl) (Steps.refl _) (a := b562) (argsL := [(.ref b431)]) (rest := [(.ref b562)]) (lenOf pd_3 rfl) rfl (by show 2 * 0 + _ ≤ _; exact Nat.le_of_eq rfl) (hb hby at_279) (fun _ _ => ⟨rfl, e562, (by decide : 7 + 2 ≤ _), (by decide : 34 + 16 ≤ _)⟩)
          dsimp only [Pt.U, Pt.locs, Pt.cells, Pt.slots] at X568' l568 y568 z568 st568 hQ568 hSq568 hgr568 R568
          subst l568 y568 z568
          obtain ⟨X568, hS, hZ, hown⟩ := rebS hS (by rw [e562]; exact hk562) X568' hSq568 hgr568 hZ hown
          obtain ⟨kc568, hkc568⟩ : ∃ z, z = T568.heap.size := ⟨_, rfl⟩
          rw [← hkc568] at hS
          have hk568 : kc568 ≤ T568.heap.size := Nat.le_of_eq hkc568
          have CR568 : CHr Z consts_1 s.vm h0 T568.vm T568.heap := CR562.trans R568
          obtain ⟨o569, rfl, Nq568, Kq568, F570, F571, F572, F573, F574, hp575⟩ := hQ568
          have N568 := Fr.app N509 Nq568
          have K568 : Keep h0 T568.heap [] := K562.trans Kq568 ((allS (Or.inr sz_b562) all0))
          have Z568 : n0 ≤ T568.heap.size := Nat.le_trans Z562 Kq568.1
          refine own_by (fun _ k => st568.trans k) ?_
          show own_Go p e below _ (T568.setTop (mkF m 282 #[vI p0, vI p1, vI p2, vI p3, vI p4, vR b431, vI z456, vI v1, vI z478, vI v458, vI z489, vR b491, vI o506, vI o510, .unset] [(.ref b562)]))
          refine own_by (fun _ k => XS.astore X568.here hx rfl (hb hby at_282) rfl rfl (l' := #[vI p0, vI p1, vI p2, vI p3, vI p4, vR b431, vI z456, vI v1, vI z478, vI v458, vI z489, vR b491, vI o506, vI o510, vR b562]) rfl k) ?_
          show own_Go p e below _ (T568.setTop (mkF m 284 #[vI p0, vI p1, vI p2, vI p3, vI p4, vR b431, vI z456, vI v1, vI z478, vI v458, vI z489, vR b491, vI o506, vI o510, vR b562] []))
          refine own_by (fun _ k => XS.aload X568.here hx rfl (hb hby at_284) rfl rfl k) ?_
          show own_Go p e below _ (T568.setTop (mkF m 286 #[vI p0, vI p1, vI p2, vI p3, vI p4, vR b431, vI z456, vI v1, vI z478, vI v458, vI z489, vR b491, vI o506, vI o510, vR b562] [(.ref b562)]))
          refine own_by (fun _ k => XS.bipush X568.here hx rfl (hb hby at_286) k) ?_
          show own_Go p e below _ (T568.setTop (mkF m 288 #[vI p0, vI p1, vI p2, vI p3, vI p4, vR b431, vI z456, vI v1, vI z478, vI v458, vI z489, vR b491, vI o506, vI o510, vR b562] [(.int (13 : Int32)), (.ref b562)]))
          obtain ⟨cq576, kq576, qq576a, qq576b, qq576c⟩ := isOf hZ rfl F570
          obtain ⟨_, _, ⟨T576, L576, k576, n576⟩, -, X576, ⟨Lc576, hQ576, l576, y576, z576⟩, st576⟩ := X568.virtualBack hx (y := (⟨"com/example/margay/margay/index/LineCounter", "count", "(C)V"⟩ : MethodName)) (z := (⟨"com/example/margay/margay/index/LineCounter", "count", "(C)V"⟩ : MethodName)) hown (mvT hZ (hwd 38 rfl)) (mvT hZ (hwd 39 rfl)) (notFace_of_selects (args := #[]) (mvT hZ (hwd 41 rfl))) (mvT hZ (hwd 41 rfl)) (mvT hZ (hwd 40 rfl)) (by decide) (backOf (W := 0) (rm6 l Z A0 hw [] b562 (13 : Int32) (0 : Int32) o569 (1 : Int32) (1 : Int32) T568.heap n0 Z568 F574 F573 F570 F572 ge_b562 F571) hZ (hwd 42 rfl) (hwd 2 rfl) (by decide) (by decide)) qq576a qq576c (g := (mkF m 288 #[vI p0, vI p1, vI p2, vI p3, vI p4, vR b431, vI z456, vI v1, vI z478, vI v458, vI z489, vR b491, vI o506, vI o510, vR b562] [(.int (13 : Int32)), (.ref b562)])) rfl (by rw [hml]; rfl) (Steps.refl _) (argsL := [(.int (13 : Int32))]) (rest := []) (lenOf pd_38 rfl) rfl (by show 2 * 0 + _ ≤ _; exact Nat.le_of_eq rfl) (hb hby at_288) (fun _ _ => ⟨rfl, rfl, (by decide : 9 + 0 ≤ _), (by decide : 50 + 0 ≤ _)⟩)
          dsimp only [Pt.U, Pt.locs, Pt.cells, Pt.slots] at X576 l576 y576 z576 st576 hQ576
          subst l576 y576 z576
          obtain ⟨o577, o578, o579, rfl, Nq576, Kq576, F580, F581, F582, F583, F584, hp585⟩ := hQ576
          have N576 := Fr.app N568 Nq576
          have R576 : CHr Z consts_1 T568.vm T568.heap T568.vm T576.heap := CHr.keep Kq576 ((allS (Safe.exa hZ.alike F570 (by decide) (by decide)) all0)) CR568.1
          have CR576 : CHr Z consts_1 s.vm h0 T568.vm T576.heap := CR568.trans R576
          have hk576 : kc568 ≤ T576.heap.size := Nat.le_trans hk568 Kq576.1
          have K576 : Keep h0 T576.heap [] := K568.trans Kq576 ((allS (Or.inr sz_b562) all0))
          have Z576 : n0 ≤ T576.heap.size := Nat.le_trans Z568 Kq576.1
          refine own_by (fun _ k => st576.trans k) ?_
          show own_Go p e below _ (T576.setTop (mkF m 291 #[vI p0, vI p1, vI p2, vI p3, vI p4, vR b431, vI z456, vI v1, vI z478, vI v458, vI z489, vR b491, vI o506, vI o510, vR b562] []))
          refine own_by (fun _ k => XS.aload X576.here hx rfl (hb hby at_291) rfl rfl k) ?_
          show own_Go p e below _ (T576.setTop (mkF m 293 #[vI p0, vI p1, vI p2, vI p3, vI p4, vR b431, vI z456, vI v1, vI z478, vI v458, vI z489, vR b491, vI o506, vI o510, vR b562] [(.ref b562)]))
          refine own_by (fun _ k => XS.iload X576.here hx rfl (hb hby at_293) rfl k) ?_
          show own_Go p e below _ (T576.setTop (mkF m 295 #[vI p0, vI p1, vI p2, vI p3, vI p4, vR b431, vI z456, vI v1, vI z478, vI v458, vI z489, vR b491, vI o506, vI o510, vR b562] [(.int z478), (.ref b562)]))
          obtain ⟨cq586, kq586, qq586a, qq586b, qq586c⟩ := isOf hZ rfl F582
          obtain ⟨_, _, ⟨T586, L586, k586, n586⟩, -, X586, ⟨Lc586, hQ586, l586, y586, z586⟩, st586⟩ := X576.virtualBack hx (y := (⟨"com/example/margay/margay/index/LineCounter", "count", "(C)V"⟩ : MethodName)) (z := (⟨"com/example/margay/margay/index/LineCounter", "count", "(C)V"⟩ : MethodName)) hown (mvT hZ (hwd 38 rfl)) (mvT hZ (hwd 39 rfl)) (notFace_of_selects (args := #[]) (mvT hZ (hwd 41 rfl))) (mvT hZ (hwd 41 rfl)) (mvT hZ (hwd 40 rfl)) (by decide) (backOf (W := 0) (rm6 l Z A0 hw [] b562 z478 o577 o569 o578 o579 T576.heap n0 Z576 F580 F581 F582 F583 ge_b562 F584) hZ (hwd 42 rfl) (hwd 2 rfl) (by decide) (by decide)) qq586a qq586c (g := (mkF m 295 #[vI p0, vI p1, vI p2, vI p3, vI p4, vR b431, vI z456, vI v1, vI z478, vI v458, vI z489, vR b491, vI o506, vI o510, vR b562] [(.int z478), (.ref b562)])) rfl (by rw [hml]; rfl) (Steps.refl _) (argsL := [(.int z478)]) (rest := []) (lenOf pd_38 rfl) rfl (by show 2 * 0 + _ ≤ _; exact Nat.le_of_eq rfl) (hb hby at_295) (fun _ _ => ⟨rfl, rfl, (by decide : 9 + 0 ≤ _), (by decide : 50 + 0 ≤ _)⟩)
          dsimp only [Pt.U, Pt.locs, Pt.cells, Pt.slots] at X586 l586 y586 z586 st586 hQ586
          subst l586 y586 z586
          obtain ⟨o587, o588, o589, rfl, Nq586, Kq586, F590, F591, F592, F593, F594, hp595⟩ := hQ586
          have N586 := Fr.app N576 Nq586
          have R586 : CHr Z consts_1 T568.vm T576.heap T568.vm T586.heap := CHr.keep Kq586 ((allS (Safe.exa hZ.alike F582 (by decide) (by decide)) all0)) CR576.1
          have CR586 : CHr Z consts_1 s.vm h0 T568.vm T586.heap := CR576.trans R586
          have hk586 : kc568 ≤ T586.heap.size := Nat.le_trans hk576 Kq586.1
          have K586 : Keep h0 T586.heap [] := K576.trans Kq586 ((allS (Or.inr sz_b562) all0))
          have Z586 : n0 ≤ T586.heap.size := Nat.le_trans Z576 Kq586.1
          refine own_by (fun _ k => st586.trans k) ?_
          show own_Go p e below _ (T586.setTop (mkF m 298 #[vI p0, vI p1, vI p2, vI p3, vI p4, vR b431, vI z456, vI v1, vI z478, vI v458, vI z489, vR b491, vI o506, vI o510, vR b562] []))
          refine own_by (fun _ k => XS.iload X586.here hx rfl (hb hby at_298) rfl k) ?_
          show own_Go p e below _ (T586.setTop (mkF m 300 #[vI p0, vI p1, vI p2, vI p3, vI p4, vR b431, vI z456, vI v1, vI z478, vI v458, vI z489, vR b491, vI o506, vI o510, vR b562] [(.int z489)]))
          by_cases c596 : z489 = (0 : Int32)
          ·skip
           refine own_by (fun _ k => XS.ifYes X586.here hx rfl (pc0 := 300) (pc' := 327) rfl (hb hby at_300) rfl ((if0 _ _).trans (teq c596).1) (by decide) (by decide) k) ?_
           show own_Go p e below _ (T586.setTop (mkF m 327 #[vI p0, vI p1, vI p2, vI p3, vI p4, vR b431, vI z456, vI v1, vI z478, vI v458, vI z489, vR b491, vI o506, vI o510, vR b562] []))
           refine own_by (fun _ k => XS.iload X586.here hx rfl (hb hby at_327) rfl k) ?_
           show own_Go p e below _ (T586.setTop (mkF m 329 #[vI p0, vI p1, vI p2, vI p3, vI p4, vR b431, vI z456, vI v1, vI z478, vI v458, vI z489, vR b491, vI o506, vI o510, vR b562] [(.int o510)]))
           refine own_by (fun _ k => XS.ifNo X586.here hx rfl (hb hby at_329) rfl ((if0 _ _).trans (feq c561).1) k) ?_
           show own_Go p e below _ (T586.setTop (mkF m 332 #[vI p0, vI p1, vI p2, vI p3, vI p4, vR b431, vI z456, vI v1, vI z478, vI v458, vI z489, vR b491, vI o506, vI o510, vR b562] []))
           refine own_by (fun _ k => XS.aload X586.here hx rfl (hb hby at_332) rfl rfl k) ?_
           show own_Go p e below _ (T586.setTop (mkF m 334 #[vI p0, vI p1, vI p2, vI p3, vI p4, vR b431, vI z456, vI v1, vI z478, vI v458, vI z489, vR b491, vI o506, vI o510, vR b562] [(.ref b562)]))
           obtain ⟨cq597, kq597, qq597a, qq597b, qq597c⟩ := isOf hZ rfl F592
           obtain ⟨_, _, ⟨T597, L597, k597, n597⟩, -, X597, ⟨Lc597, hQ597, l597, y597, z597⟩, st597⟩ := X586.virtualBack hx (y := (⟨"com/example/margay/margay/index/LineCounter", "line", "()I"⟩ : MethodName)) (z := (⟨"com/example/margay/margay/index/LineCounter", "line", "()I"⟩ : MethodName)) hown (mvT hZ (hwd 47 rfl)) (mvT hZ (hwd 48 rfl)) (notFace_of_selects (args := #[]) (mvT hZ (hwd 50 rfl))) (mvT hZ (hwd 50 rfl)) (mvT hZ (hwd 49 rfl)) (by decide) (backOf (W := 0) (rm7 l Z A0 hw [] b562 o589 T586.heap n0 Z586 F594) hZ (hwd 51 rfl) (hwd 2 rfl) (by decide) (by decide)) qq597a qq597c (g := (mkF m 334 #[vI p0, vI p1, vI p2, vI p3, vI p4, vR b431, vI z456, vI v1, vI z478, vI v458, vI z489, vR b491, vI o506, vI o510, vR b562] [(.ref b562)])) rfl (by rw [hml]; rfl) (Steps.refl _) (argsL := []) (rest := []) (lenOf pd_47 rfl) rfl (by show 2 * 0 + _ ≤ _; exact Nat.le_of_eq rfl) (hb hby at_334) (fun _ _ => ⟨rfl, rfl, (by decide : 9 + 0 ≤ _), (by decide : 50 + 0 ≤ _)⟩)
           dsimp only [Pt.U, Pt.locs, Pt.cells, Pt.slots] at X597 l597 y597 z597 st597 hQ597
           subst l597 y597 z597
           obtain ⟨rfl, Nq597, eq597⟩ := hQ597
           have N597 := Fr.app N586 Nq597
           refine own_by (fun _ k => st597.trans k) ?_
           show own_Go p e below _ (T597.setTop (mkF m 337 #[vI p0, vI p1, vI p2, vI p3, vI p4, vR b431, vI z456, vI v1, vI z478, vI v458, vI z489, vR b491, vI o506, vI o510, vR b562] [(.int o589)]))
           refine own_by (fun _ k => XS.iconst X597.here hx rfl (hb hby at_337) k) ?_
           show own_Go p e below _ (T597.setTop (mkF m 338 #[vI p0, vI p1, vI p2, vI p3, vI p4, vR b431, vI z456, vI v1, vI z478, vI v458, vI z489, vR b491, vI o506, vI o510, vR b562] [(.int (3 : Int32)), (.int o589)]))
           by_cases c598 : o589 = (3 : Int32)
           ·skip
            refine own_by (fun _ k => XS.icmpNo X597.here hx rfl (hb hby at_338) rfl (teq c598).2 k) ?_
            show own_Go p e below _ (T597.setTop (mkF m 341 #[vI p0, vI p1, vI p2, vI p3, vI p4, vR b431, vI z456, vI v1, vI z478, vI v458, vI z489, vR b491, vI o506, vI o510, vR b562] []))
            refine own_by (fun _ k => XS.aload X597.here hx rfl (hb hby at_341) rfl rfl k) ?_
            show own_Go p e below _ (T597.setTop (mkF m 343 #[vI p0, vI p1, vI p2, vI p3, vI p4, vR b431, vI z456, vI v1, vI z478, vI v458, vI z489, vR b491, vI o506, vI o510, vR b562] [(.ref b562)]))
            obtain ⟨cq599, kq599, qq599a, qq599b, qq599c⟩ := isOf hZ eq597 F592
            obtain ⟨_, _, ⟨T599, L599, k599, n599⟩, -, X599, ⟨Lc599, hQ599, l599, y599, z599⟩, st599⟩ := X597.virtualBack hx (y := (⟨"com/example/margay/margay/index/LineCounter", "column", "()I"⟩ : MethodName)) (z := (⟨"com/example/margay/margay/index/LineCounter", "column", "()I"⟩ : MethodName)) hown (mvT hZ (hwd 52 rfl)) (mvT hZ (hwd 53 rfl)) (notFace_of_selects (args := #[]) (mvT hZ (hwd 55 rfl))) (mvT hZ (hwd 55 rfl)) (mvT hZ (hwd 54 rfl)) (by decide) (backOf (W := 0) (rm8 l Z A0 hw [] b562 o588 T586.heap n0 Z586 F593) hZ (hwd 56 rfl) (hwd 2 rfl) (by decide) (by decide)) qq599a qq599c (g := (mkF m 343 #[vI p0, vI p1, vI p2, vI p3, vI p4, vR b431, vI z456, vI v1, vI z478, vI v458, vI z489, vR b491, vI o506, vI o510, vR b562] [(.ref b562)])) rfl (by rw [hml]; rfl) (Steps.refl _) (argsL := []) (rest := []) (lenOf pd_47 rfl) rfl (by show 2 * 0 + _ ≤ _; exact Nat.le_of_eq rfl) (hb hby at_343) (fun _ _ => ⟨rfl, eq597, (by decide : 9 + 0 ≤ _), (by decide : 50 + 0 ≤ _)⟩)
            dsimp only [Pt.U, Pt.locs, Pt.cells, Pt.slots] at X599 l599 y599 z599 st599 hQ599
            subst l599 y599 z599
            obtain ⟨rfl, Nq599, eq599⟩ := hQ599
            have N599 := Fr.app N597 Nq599
            refine own_by (fun _ k => st599.trans k) ?_
            show own_Go p e below _ (T599.setTop (mkF m 346 #[vI p0, vI p1, vI p2, vI p3, vI p4, vR b431, vI z456, vI v1, vI z478, vI v458, vI z489, vR b491, vI o506, vI o510, vR b562] [(.int o588)]))
            refine own_by (fun _ k => XS.iconst X599.here hx rfl (hb hby at_346) k) ?_
            show own_Go p e below _ (T599.setTop (mkF m 347 #[vI p0, vI p1, vI p2, vI p3, vI p4, vR b431, vI z456, vI v1, vI z478, vI v458, vI z489, vR b491, vI o506, vI o510, vR b562] [(.int (1 : Int32)), (.int o588)]))
            by_cases c600 : o588 = (1 : Int32)
            ·skip
             refine own_by (fun _ k => XS.icmpNo X599.here hx rfl (hb hby at_347) rfl (teq c600).2 k) ?_
             show own_Go p e below _ (T599.setTop (mkF m 350 #[vI p0, vI p1, vI p2, vI p3, vI p4, vR b431, vI z456, vI v1, vI z478, vI v458, vI z489, vR b491, vI o506, vI o510, vR b562] []))
             refine own_by (fun _ k => XS.iconst X599.here hx rfl (hb hby at_350) k) ?_
             show own_Go p e below _ (T599.setTop (mkF m 351 #[vI p0, vI p1, vI p2, vI p3, vI p4, vR b431, vI z456, vI v1, vI z478, vI v458, vI z489, vR b491, vI o506, vI o510, vR b562] [(.int (1 : Int32))]))
             refine own_by (fun _ k => XS.goto X599.here hx rfl (pc0 := 351) (pc' := 355) rfl (hb hby at_351) (by decide) (by decide) k) ?_
             show own_Go p e below _ (T599.setTop (mkF m 355 #[vI p0, vI p1, vI p2, vI p3, vI p4, vR b431, vI z456, vI v1, vI z478, vI v458, vI z489, vR b491, vI o506, vI o510, vR b562] [(.int (1 : Int32))]))
             exact own_retNW X599 hx hS hk586 hZ hEL hh CR586 (t := .boolean) Bd.returns (by simp) (hb hby at_355) hlk eq599 ⟨rfl, N599⟩ (by decide) (by decide)
            ·skip
             refine own_by (fun _ k => XS.icmpYes X599.here hx rfl (pc0 := 347) (pc' := 354) rfl (hb hby at_347) rfl (feq c600).2 (by decide) (by decide) k) ?_
             show own_Go p e below _ (T599.setTop (mkF m 354 #[vI p0, vI p1, vI p2, vI p3, vI p4, vR b431, vI z456, vI v1, vI z478, vI v458, vI z489, vR b491, vI o506, vI o510, vR b562] []))
             refine own_by (fun _ k => XS.iconst X599.here hx rfl (hb hby at_354) k) ?_
             show own_Go p e below _ (T599.setTop (mkF m 355 #[vI p0, vI p1, vI p2, vI p3, vI p4, vR b431, vI z456, vI v1, vI z478, vI v458, vI z489, vR b491, vI o506, vI o510, vR b562] [(.int (0 : Int32))]))
             exact own_retNW X599 hx hS hk586 hZ hEL hh CR586 (t := .boolean) Bd.returns (by simp) (hb hby at_355) hlk eq599 ⟨((ob_0_64 f_CS p0 p1 p2 p3 p4 v1 z456 v458 z478 z489 o498 o506 o510 o569 o577 o578 o579 o587 o588 o589 hn_CS hv1 c2 c128 c276 hj457 hv458 hj479 hj490 hp504 hp507 c508 hp511 c512 c561 hp575 hp585 hp595 c596 c598 c600)).elim, N599⟩ (by decide) (by decide)
           ·skip
            refine own_by (fun _ k => XS.icmpYes X597.here hx rfl (pc0 := 338) (pc' := 354) rfl (hb hby at_338) rfl (feq c598).2 (by decide) (by decide) k) ?_
            show own_Go p e below _ (T597.setTop (mkF m 354 #[vI p0, vI p1, vI p2, vI p3, vI p4, vR b431, vI z456, vI v1, vI z478, vI v458, vI z489, vR b491, vI o506, vI o510, vR b562] []))
            refine own_by (fun _ k => XS.iconst X597.here hx rfl (hb hby at_354) k) ?_
            show own_Go p e below _ (T597.setTop (mkF m 355 #[vI p0, vI p1, vI p2, vI p3, vI p4, vR b431, vI z456, vI v1, vI z478, vI v458, vI z489, vR b491, vI o506, vI o510, vR b562] [(.int (0 : Int32))]))
            exact own_retNW X597 hx hS hk586 hZ hEL hh CR586 (t := .boolean) Bd.returns (by simp) (hb hby at_355) hlk eq597 ⟨((ob_0_65 f_CS p0 p1 p2 p3 p4 v1 z456 v458 z478 z489 o498 o506 o510 o569 o577 o578 o579 o587 o588 o589 hn_CS hv1 c2 c128 c276 hj457 hv458 hj479 hj490 hp504 hp507 c508 hp511 c512 c561 hp575 hp585 hp595 c596 c598)).elim, N597⟩ (by decide) (by decide)
          ·skip
           refine own_by (fun _ k => XS.ifNo X586.here hx rfl (hb hby at_300) rfl ((if0 _ _).trans (feq c596).1) k) ?_
           show own_Go p e below _ (T586.setTop (mkF m 303 #[vI p0, vI p1, vI p2, vI p3, vI p4, vR b431, vI z456, vI v1, vI z478, vI v458, vI z489, vR b491, vI o506, vI o510, vR b562] []))
           refine own_by (fun _ k => XS.aload X586.here hx rfl (hb hby at_303) rfl rfl k) ?_
           show own_Go p e below _ (T586.setTop (mkF m 305 #[vI p0, vI p1, vI p2, vI p3, vI p4, vR b431, vI z456, vI v1, vI z478, vI v458, vI z489, vR b491, vI o506, vI o510, vR b562] [(.ref b562)]))
           obtain ⟨cq601, kq601, qq601a, qq601b, qq601c⟩ := isOf hZ rfl F592
           obtain ⟨_, _, ⟨T601, L601, k601, n601⟩, -, X601, ⟨Lc601, hQ601, l601, y601, z601⟩, st601⟩ := X586.virtualBack hx (y := (⟨"com/example/margay/margay/index/LineCounter", "line", "()I"⟩ : MethodName)) (z := (⟨"com/example/margay/margay/index/LineCounter", "line", "()I"⟩ : MethodName)) hown (mvT hZ (hwd 47 rfl)) (mvT hZ (hwd 48 rfl)) (notFace_of_selects (args := #[]) (mvT hZ (hwd 50 rfl))) (mvT hZ (hwd 50 rfl)) (mvT hZ (hwd 49 rfl)) (by decide) (backOf (W := 0) (rm7 l Z A0 hw [] b562 o589 T586.heap n0 Z586 F594) hZ (hwd 51 rfl) (hwd 2 rfl) (by decide) (by decide)) qq601a qq601c (g := (mkF m 305 #[vI p0, vI p1, vI p2, vI p3, vI p4, vR b431, vI z456, vI v1, vI z478, vI v458, vI z489, vR b491, vI o506, vI o510, vR b562] [(.ref b562)])) rfl (by rw [hml]; rfl) (Steps.refl _) (argsL := []) (rest := []) (lenOf pd_47 rfl) rfl (by show 2 * 0 + _ ≤ _; exact Nat.le_of_eq rfl) (hb hby at_305) (fun _ _ => ⟨rfl, rfl, (by decide : 9 + 0 ≤ _), (by decide : 50 + 0 ≤ _)⟩)
           dsimp only [Pt.U, Pt.locs, Pt.cells, Pt.slots] at X601 l601 y601 z601 st601 hQ601
           subst l601 y601 z601
           obtain ⟨rfl, Nq601, eq601⟩ := hQ601
           have N601 := Fr.app N586 Nq601
           refine own_by (fun _ k => st601.trans k) ?_
           show own_Go p e below _ (T601.setTop (mkF m 308 #[vI p0, vI p1, vI p2, vI p3, vI p4, vR b431, vI z456, vI v1, vI z478, vI v458, vI z489, vR b491, vI o506, vI o510, vR b562] [(.int o589)]))
           refine own_by (fun _ k => XS.iconst X601.here hx rfl (hb hby at_308) k) ?_
           show own_Go p e below _ (T601.setTop (mkF m 309 #[vI p0, vI p1, vI p2, vI p3, vI p4, vR b431, vI z456, vI v1, vI z478, vI v458, vI z489, vR b491, vI o506, vI o510, vR b562] [(.int (2 : Int32)), (.int o589)]))
           by_cases c602 : o589 = (2 : Int32)
           ·skip
            refine own_by (fun _ k => XS.icmpNo X601.here hx rfl (hb hby at_309) rfl (teq c602).2 k) ?_
            show own_Go p e below _ (T601.setTop (mkF m 312 #[vI p0, vI p1, vI p2, vI p3, vI p4, vR b431, vI z456, vI v1, vI z478, vI v458, vI z489, vR b491, vI o506, vI o510, vR b562] []))
            refine own_by (fun _ k => XS.aload X601.here hx rfl (hb hby at_312) rfl rfl k) ?_
            show own_Go p e below _ (T601.setTop (mkF m 314 #[vI p0, vI p1, vI p2, vI p3, vI p4, vR b431, vI z456, vI v1, vI z478, vI v458, vI z489, vR b491, vI o506, vI o510, vR b562] [(.ref b562)]))
            obtain ⟨cq603, kq603, qq603a, qq603b, qq603c⟩ := isOf hZ eq601 F592
            obtain ⟨_, _, ⟨T603, L603, k603, n603⟩, -, X603, ⟨Lc603, hQ603, l603, y603, z603⟩, st603⟩ := X601.virtualBack hx (y := (⟨"com/example/margay/margay/index/LineCounter", "column", "()I"⟩ : MethodName)) (z := (⟨"com/example/margay/margay/index/LineCounter", "column", "()I"⟩ : MethodName)) hown (mvT hZ (hwd 52 rfl)) (mvT hZ (hwd 53 rfl)) (notFace_of_selects (args := #[]) (mvT hZ (hwd 55 rfl))) (mvT hZ (hwd 55 rfl)) (mvT hZ (hwd 54 rfl)) (by decide) (backOf (W := 0) (rm8 l Z A0 hw [] b562 o588 T586.heap n0 Z586 F593) hZ (hwd 56 rfl) (hwd 2 rfl) (by decide) (by decide)) qq603a qq603c (g := (mkF m 314 #[vI p0, vI p1, vI p2, vI p3, vI p4, vR b431, vI z456, vI v1, vI z478, vI v458, vI z489, vR b491, vI o506, vI o510, vR b562] [(.ref b562)])) rfl (by rw [hml]; rfl) (Steps.refl _) (argsL := []) (rest := []) (lenOf pd_47 rfl) rfl (by show 2 * 0 + _ ≤ _; exact Nat.le_of_eq rfl) (hb hby at_314) (fun _ _ => ⟨rfl, eq601, (by decide : 9 + 0 ≤ _), (by decide : 50 + 0 ≤ _)⟩)
            dsimp only [Pt.U, Pt.locs, Pt.cells, Pt.slots] at X603 l603 y603 z603 st603 hQ603
            subst l603 y603 z603
            obtain ⟨rfl, Nq603, eq603⟩ := hQ603
            have N603 := Fr.app N601 Nq603
            refine own_by (fun _ k => st603.trans k) ?_
            show own_Go p e below _ (T603.setTop (mkF m 317 #[vI p0, vI p1, vI p2, vI p3, vI p4, vR b431, vI z456, vI v1, vI z478, vI v458, vI z489, vR b491, vI o506, vI o510, vR b562] [(.int o588)]))
            refine own_by (fun _ k => XS.iconst X603.here hx rfl (hb hby at_317) k) ?_
            show own_Go p e below _ (T603.setTop (mkF m 318 #[vI p0, vI p1, vI p2, vI p3, vI p4, vR b431, vI z456, vI v1, vI z478, vI v458, vI z489, vR b491, vI o506, vI o510, vR b562] [(.int (1 : Int32)), (.int o588)]))
            by_cases c604 : o588 = (1 : Int32)
            ·skip
             refine own_by (fun _ k => XS.icmpNo X603.here hx rfl (hb hby at_318) rfl (teq c604).2 k) ?_
             show own_Go p e below _ (T603.setTop (mkF m 321 #[vI p0, vI p1, vI p2, vI p3, vI p4, vR b431, vI z456, vI v1, vI z478, vI v458, vI z489, vR b491, vI o506, vI o510, vR b562] []))
             refine own_by (fun _ k => XS.iconst X603.here hx rfl (hb hby at_321) k) ?_
             show own_Go p e below _ (T603.setTop (mkF m 322 #[vI p0, vI p1, vI p2, vI p3, vI p4, vR b431, vI z456, vI v1, vI z478, vI v458, vI z489, vR b491, vI o506, vI o510, vR b562] [(.int (1 : Int32))]))
             refine own_by (fun _ k => XS.goto X603.here hx rfl (pc0 := 322) (pc' := 326) rfl (hb hby at_322) (by decide) (by decide) k) ?_
             show own_Go p e below _ (T603.setTop (mkF m 326 #[vI p0, vI p1, vI p2, vI p3, vI p4, vR b431, vI z456, vI v1, vI z478, vI v458, vI z489, vR b491, vI o506, vI o510, vR b562] [(.int (1 : Int32))]))
             exact own_retNW X603 hx hS hk586 hZ hEL hh CR586 (t := .boolean) Bd.returns (by simp) (hb hby at_326) hlk eq603 ⟨rfl, N603⟩ (by decide) (by decide)
            ·skip
             refine own_by (fun _ k => XS.icmpYes X603.here hx rfl (pc0 := 318) (pc' := 325) rfl (hb hby at_318) rfl (feq c604).2 (by decide) (by decide) k) ?_
             show own_Go p e below _ (T603.setTop (mkF m 325 #[vI p0, vI p1, vI p2, vI p3, vI p4, vR b431, vI z456, vI v1, vI z478, vI v458, vI z489, vR b491, vI o506, vI o510, vR b562] []))
             refine own_by (fun _ k => XS.iconst X603.here hx rfl (hb hby at_325) k) ?_
             show own_Go p e below _ (T603.setTop (mkF m 326 #[vI p0, vI p1, vI p2, vI p3, vI p4, vR b431, vI z456, vI v1, vI z478, vI v458, vI z489, vR b491, vI o506, vI o510, vR b562] [(.int (0 : Int32))]))
             exact own_retNW X603 hx hS hk586 hZ hEL hh CR586 (t := .boolean) Bd.returns (by simp) (hb hby at_326) hlk eq603 ⟨((ob_0_66 f_CS p0 p1 p2 p3 p4 v1 z456 v458 z478 z489 o498 o506 o510 o569 o577 o578 o579 o587 o588 o589 hn_CS hv1 c2 c128 c276 hj457 hv458 hj479 hj490 hp504 hp507 c508 hp511 c512 c561 hp575 hp585 hp595 c596 c602 c604)).elim, N603⟩ (by decide) (by decide)
           ·skip
            refine own_by (fun _ k => XS.icmpYes X601.here hx rfl (pc0 := 309) (pc' := 325) rfl (hb hby at_309) rfl (feq c602).2 (by decide) (by decide) k) ?_
            show own_Go p e below _ (T601.setTop (mkF m 325 #[vI p0, vI p1, vI p2, vI p3, vI p4, vR b431, vI z456, vI v1, vI z478, vI v458, vI z489, vR b491, vI o506, vI o510, vR b562] []))
            refine own_by (fun _ k => XS.iconst X601.here hx rfl (hb hby at_325) k) ?_
            show own_Go p e below _ (T601.setTop (mkF m 326 #[vI p0, vI p1, vI p2, vI p3, vI p4, vR b431, vI z456, vI v1, vI z478, vI v458, vI z489, vR b491, vI o506, vI o510, vR b562] [(.int (0 : Int32))]))
            exact own_retNW X601 hx hS hk586 hZ hEL hh CR586 (t := .boolean) Bd.returns (by simp) (hb hby at_326) hlk eq601 ⟨((ob_0_67 f_CS p0 p1 p2 p3 p4 v1 z456 v458 z478 z489 o498 o506 o510 o569 o577 o578 o579 o587 o588 o589 hn_CS hv1 c2 c128 c276 hj457 hv458 hj479 hj490 hp504 hp507 c508 hp511 c512 c561 hp575 hp585 hp595 c596 c602)).elim, N601⟩ (by decide) (by decide)
       ·skip
        refine own_by (fun _ k => XS.icmpNo X505.here hx rfl (hb hby at_247) rfl (feq c508).1 k) ?_
        show own_Go p e below _ (T505.setTop (mkF m 250 #[vI p0, vI p1, vI p2, vI p3, vI p4, vR b431, vI z456, vI v1, vI z478, vI v458, vI z489, vR b491, vI o506, .unset, .unset] []))
        refine own_by (fun _ k => XS.iconst X505.here hx rfl (hb hby at_250) k) ?_
        show own_Go p e below _ (T505.setTop (mkF m 251 #[vI p0, vI p1, vI p2, vI p3, vI p4, vR b431, vI z456, vI v1, vI z478, vI v458, vI z489, vR b491, vI o506, .unset, .unset] [(.int (0 : Int32))]))
        exact own_retNW X505 hx hS hk497 hZ hEL hh CR497 (t := .boolean) Bd.returns (by simp) (hb hby at_251) hlk eq505 ⟨((ob_0_68 f_CS p0 p1 p2 p3 p4 v1 z456 v458 z478 z489 o498 o506 hn_CS hv1 c2 c128 c276 hj457 hv458 hj479 hj490 hp504 hp507 c508)).elim, N505⟩ (by decide) (by decide)
      by_cases c480 : z478 = (10 : Int32)
      ·skip
       refine own_by (fun _ k => XS.icmpYes X475.here hx rfl (pc0 := 200) (pc' := 216) rfl (hb hby at_200) rfl (teq c480).1 (by decide) (by decide) k) ?_
       show own_Go p e below _ (T473.setTop (mkF m 216 #[vI p0, vI p1, vI p2, vI p3, vI p4, vR b431, vI z456, vI v1, vI z478, vI v458, .unset, .unset, .unset, .unset, .unset] []))
       refine own_by (fun _ k => XS.iconst X475.here hx rfl (hb hby at_216) k) ?_
       show own_Go p e below _ (T473.setTop (mkF m 217 #[vI p0, vI p1, vI p2, vI p3, vI p4, vR b431, vI z456, vI v1, vI z478, vI v458, .unset, .unset, .unset, .unset, .unset] [(.int (1 : Int32))]))
       refine own_by (fun _ k => XS.goto X475.here hx rfl (pc0 := 217) (pc' := 221) rfl (hb hby at_217) (by decide) (by decide) k) ?_
       show own_Go p e below _ (T473.setTop (mkF m 221 #[vI p0, vI p1, vI p2, vI p3, vI p4, vR b431, vI z456, vI v1, vI z478, vI v458, .unset, .unset, .unset, .unset, .unset] [(.int (1 : Int32))]))
       exact J483 _ _ (1 : Int32) X475 e476 N477 (Or.inl ⟨c480, rfl⟩)
      ·skip
       refine own_by (fun _ k => XS.icmpNo X475.here hx rfl (hb hby at_200) rfl (feq c480).1 k) ?_
       show own_Go p e below _ (T473.setTop (mkF m 203 #[vI p0, vI p1, vI p2, vI p3, vI p4, vR b431, vI z456, vI v1, vI z478, vI v458, .unset, .unset, .unset, .unset, .unset] []))
       refine own_by (fun _ k => XS.iload X475.here hx rfl (hb hby at_203) rfl k) ?_
       show own_Go p e below _ (T473.setTop (mkF m 205 #[vI p0, vI p1, vI p2, vI p3, vI p4, vR b431, vI z456, vI v1, vI z478, vI v458, .unset, .unset, .unset, .unset, .unset] [(.int z478)]))
       refine own_by (fun _ k => XS.sipush X475.here hx rfl (hb hby at_205) k) ?_
       show own_Go p e below _ (T473.setTop (mkF m 208 #[vI p0, vI p1, vI p2, vI p3, vI p4, vR b431, vI z456, vI v1, vI z478, vI v458, .unset, .unset, .unset, .unset, .unset] [(.int (133 : Int32)), (.int z478)]))
       by_cases c481 : z478 = (133 : Int32)
       ·skip
        refine own_by (fun _ k => XS.icmpNo X475.here hx rfl (hb hby at_208) rfl (teq c481).2 k) ?_
        show own_Go p e below _ (T473.setTop (mkF m 211 #[vI p0, vI p1, vI p2, vI p3, vI p4, vR b431, vI z456, vI v1, vI z478, vI v458, .unset, .unset, .unset, .unset, .unset] []))
        refine own_by (fun _ k => XS.iload X475.here hx rfl (hb hby at_211) rfl k) ?_
        show own_Go p e below _ (T473.setTop (mkF m 213 #[vI p0, vI p1, vI p2, vI p3, vI p4, vR b431, vI z456, vI v1, vI z478, vI v458, .unset, .unset, .unset, .unset, .unset] [(.int z456)]))
        by_cases c482 : z456 = (0 : Int32)
        ·skip
         refine own_by (fun _ k => XS.ifYes X475.here hx rfl (pc0 := 213) (pc' := 220) rfl (hb hby at_213) rfl ((if0 _ _).trans (teq c482).1) (by decide) (by decide) k) ?_
         show own_Go p e below _ (T473.setTop (mkF m 220 #[vI p0, vI p1, vI p2, vI p3, vI p4, vR b431, vI z456, vI v1, vI z478, vI v458, .unset, .unset, .unset, .unset, .unset] []))
         refine own_by (fun _ k => XS.iconst X475.here hx rfl (hb hby at_220) k) ?_
         show own_Go p e below _ (T473.setTop (mkF m 221 #[vI p0, vI p1, vI p2, vI p3, vI p4, vR b431, vI z456, vI v1, vI z478, vI v458, .unset, .unset, .unset, .unset, .unset] [(.int (0 : Int32))]))
         exact J483 _ _ (0 : Int32) X475 e476 N477 (Or.inr (Or.inl ⟨c480, c481, c482, rfl⟩))
        ·skip
         refine own_by (fun _ k => XS.ifNo X475.here hx rfl (hb hby at_213) rfl ((if0 _ _).trans (feq c482).1) k) ?_
         show own_Go p e below _ (T473.setTop (mkF m 216 #[vI p0, vI p1, vI p2, vI p3, vI p4, vR b431, vI z456, vI v1, vI z478, vI v458, .unset, .unset, .unset, .unset, .unset] []))
         refine own_by (fun _ k => XS.iconst X475.here hx rfl (hb hby at_216) k) ?_
         show own_Go p e below _ (T473.setTop (mkF m 217 #[vI p0, vI p1, vI p2, vI p3, vI p4, vR b431, vI z456, vI v1, vI z478, vI v458, .unset, .unset, .unset, .unset, .unset] [(.int (1 : Int32))]))
         refine own_by (fun _ k => XS.goto X475.here hx rfl (pc0 := 217) (pc' := 221) rfl (hb hby at_217) (by decide) (by decide) k) ?_
         show own_Go p e below _ (T473.setTop (mkF m 221 #[vI p0, vI p1, vI p2, vI p3, vI p4, vR b431, vI z456, vI v1, vI z478, vI v458, .unset, .unset, .unset, .unset, .unset] [(.int (1 : Int32))]))
         exact J483 _ _ (1 : Int32) X475 e476 N477 (Or.inr (Or.inr (Or.inl ⟨c480, c481, c482, rfl⟩)))
       ·skip
        refine own_by (fun _ k => XS.icmpYes X475.here hx rfl (pc0 := 208) (pc' := 220) rfl (hb hby at_208) rfl (feq c481).2 (by decide) (by decide) k) ?_
        show own_Go p e below _ (T473.setTop (mkF m 220 #[vI p0, vI p1, vI p2, vI p3, vI p4, vR b431, vI z456, vI v1, vI z478, vI v458, .unset, .unset, .unset, .unset, .unset] []))
        refine own_by (fun _ k => XS.iconst X475.here hx rfl (hb hby at_220) k) ?_
        show own_Go p e below _ (T473.setTop (mkF m 221 #[vI p0, vI p1, vI p2, vI p3, vI p4, vR b431, vI z456, vI v1, vI z478, vI v458, .unset, .unset, .unset, .unset, .unset] [(.int (0 : Int32))]))
        exact J483 _ _ (0 : Int32) X475 e476 N477 (Or.inr (Or.inr (Or.inr (⟨c480, c481, rfl⟩))))
     by_cases c459 : v458 = (0 : Int32)
     ·skip
      refine own_by (fun _ k => XS.ifNo X453.here hx rfl (hb hby at_141) rfl ((if0 _ _).trans (teq c459).2) k) ?_
      show own_Go p e below _ (T451.setTop (mkF m 144 #[vI p0, vI p1, vI p2, vI p3, vI p4, vR b431, vI z456, vI v1, vR b424, vI v458, .unset, .unset, .unset, .unset, .unset] []))
      refine own_by (fun _ k => XS.bipush X453.here hx rfl (hb hby at_144) k) ?_
      show own_Go p e below _ (T451.setTop (mkF m 146 #[vI p0, vI p1, vI p2, vI p3, vI p4, vR b431, vI z456, vI v1, vR b424, vI v458, .unset, .unset, .unset, .unset, .unset] [(.int (10 : Int32))]))
      refine own_by (fun _ k => XS.istore X453.here hx rfl (hb hby at_146) rfl (l' := #[vI p0, vI p1, vI p2, vI p3, vI p4, vR b431, vI z456, vI v1, vI (10 : Int32), vI v458, .unset, .unset, .unset, .unset, .unset]) rfl k) ?_
      show own_Go p e below _ (T451.setTop (mkF m 148 #[vI p0, vI p1, vI p2, vI p3, vI p4, vR b431, vI z456, vI v1, vI (10 : Int32), vI v458, .unset, .unset, .unset, .unset, .unset] []))
      refine own_by (fun _ k => XS.goto X453.here hx rfl (pc0 := 148) (pc' := 196) rfl (hb hby at_148) (by decide) (by decide) k) ?_
      show own_Go p e below _ (T451.setTop (mkF m 196 #[vI p0, vI p1, vI p2, vI p3, vI p4, vR b431, vI z456, vI v1, vI (10 : Int32), vI v458, .unset, .unset, .unset, .unset, .unset] []))
      exact J472 _ _ (10 : Int32) X453 e454 N455 (Or.inl ⟨c459, rfl⟩)
     ·skip
      refine own_by (fun _ k => XS.ifYes X453.here hx rfl (pc0 := 141) (pc' := 151) rfl (hb hby at_141) rfl ((if0 _ _).trans (feq c459).2) (by decide) (by decide) k) ?_
      show own_Go p e below _ (T451.setTop (mkF m 151 #[vI p0, vI p1, vI p2, vI p3, vI p4, vR b431, vI z456, vI v1, vR b424, vI v458, .unset, .unset, .unset, .unset, .unset] []))
      refine own_by (fun _ k => XS.iload X453.here hx rfl (hb hby at_151) rfl k) ?_
      show own_Go p e below _ (T451.setTop (mkF m 153 #[vI p0, vI p1, vI p2, vI p3, vI p4, vR b431, vI z456, vI v1, vR b424, vI v458, .unset, .unset, .unset, .unset, .unset] [(.int v458)]))
      refine own_by (fun _ k => XS.iconst X453.here hx rfl (hb hby at_153) k) ?_
      show own_Go p e below _ (T451.setTop (mkF m 154 #[vI p0, vI p1, vI p2, vI p3, vI p4, vR b431, vI z456, vI v1, vR b424, vI v458, .unset, .unset, .unset, .unset, .unset] [(.int (1 : Int32)), (.int v458)]))
      by_cases c460 : v458 = (1 : Int32)
      ·skip
       refine own_by (fun _ k => XS.icmpNo X453.here hx rfl (hb hby at_154) rfl (teq c460).2 k) ?_
       show own_Go p e below _ (T451.setTop (mkF m 157 #[vI p0, vI p1, vI p2, vI p3, vI p4, vR b431, vI z456, vI v1, vR b424, vI v458, .unset, .unset, .unset, .unset, .unset] []))
       refine own_by (fun _ k => XS.sipush X453.here hx rfl (hb hby at_157) k) ?_
       show own_Go p e below _ (T451.setTop (mkF m 160 #[vI p0, vI p1, vI p2, vI p3, vI p4, vR b431, vI z456, vI v1, vR b424, vI v458, .unset, .unset, .unset, .unset, .unset] [(.int (133 : Int32))]))
       refine own_by (fun _ k => XS.istore X453.here hx rfl (hb hby at_160) rfl (l' := #[vI p0, vI p1, vI p2, vI p3, vI p4, vR b431, vI z456, vI v1, vI (133 : Int32), vI v458, .unset, .unset, .unset, .unset, .unset]) rfl k) ?_
       show own_Go p e below _ (T451.setTop (mkF m 162 #[vI p0, vI p1, vI p2, vI p3, vI p4, vR b431, vI z456, vI v1, vI (133 : Int32), vI v458, .unset, .unset, .unset, .unset, .unset] []))
       refine own_by (fun _ k => XS.goto X453.here hx rfl (pc0 := 162) (pc' := 196) rfl (hb hby at_162) (by decide) (by decide) k) ?_
       show own_Go p e below _ (T451.setTop (mkF m 196 #[vI p0, vI p1, vI p2, vI p3, vI p4, vR b431, vI z456, vI v1, vI (133 : Int32), vI v458, .unset, .unset, .unset, .unset, .unset] []))
       exact J472 _ _ (133 : Int32) X453 e454 N455 (Or.inr (Or.inl ⟨c459, c460, rfl⟩))
      ·skip
       refine own_by (fun _ k => XS.icmpYes X453.here hx rfl (pc0 := 154) (pc' := 165) rfl (hb hby at_154) rfl (feq c460).2 (by decide) (by decide) k) ?_
       show own_Go p e below _ (T451.setTop (mkF m 165 #[vI p0, vI p1, vI p2, vI p3, vI p4, vR b431, vI z456, vI v1, vR b424, vI v458, .unset, .unset, .unset, .unset, .unset] []))
       refine own_by (fun _ k => XS.iload X453.here hx rfl (hb hby at_165) rfl k) ?_
       show own_Go p e below _ (T451.setTop (mkF m 167 #[vI p0, vI p1, vI p2, vI p3, vI p4, vR b431, vI z456, vI v1, vR b424, vI v458, .unset, .unset, .unset, .unset, .unset] [(.int v458)]))
       refine own_by (fun _ k => XS.iconst X453.here hx rfl (hb hby at_167) k) ?_
       show own_Go p e below _ (T451.setTop (mkF m 168 #[vI p0, vI p1, vI p2, vI p3, vI p4, vR b431, vI z456, vI v1, vR b424, vI v458, .unset, .unset, .unset, .unset, .unset] [(.int (2 : Int32)), (.int v458)]))
       by_cases c461 : v458 = (2 : Int32)
       ·skip
        refine own_by (fun _ k => XS.icmpNo X453.here hx rfl (hb hby at_168) rfl (teq c461).2 k) ?_
        show own_Go p e below _ (T451.setTop (mkF m 171 #[vI p0, vI p1, vI p2, vI p3, vI p4, vR b431, vI z456, vI v1, vR b424, vI v458, .unset, .unset, .unset, .unset, .unset] []))
        refine own_by (fun _ k => XS.iload X453.here hx rfl (hb hby at_171) rfl k) ?_
        show own_Go p e below _ (T451.setTop (mkF m 173 #[vI p0, vI p1, vI p2, vI p3, vI p4, vR b431, vI z456, vI v1, vR b424, vI v458, .unset, .unset, .unset, .unset, .unset] [(.int p4)]))
        refine own_by (fun _ k => XS.iconst X453.here hx rfl (hb hby at_173) k) ?_
        show own_Go p e below _ (T451.setTop (mkF m 174 #[vI p0, vI p1, vI p2, vI p3, vI p4, vR b431, vI z456, vI v1, vR b424, vI v458, .unset, .unset, .unset, .unset, .unset] [(.int (1 : Int32)), (.int p4)]))
        refine own_by (fun _ k => XS.iand X453.here hx rfl (hb hby at_174) rfl k) ?_
        show own_Go p e below _ (T451.setTop (mkF m 175 #[vI p0, vI p1, vI p2, vI p3, vI p4, vR b431, vI z456, vI v1, vR b424, vI v458, .unset, .unset, .unset, .unset, .unset] [(.int (p4 &&& (1 : Int32)))]))
        have J463 : ∀ (T464 : State) (L465 : List Loc) (z469 : Int32), Stand p l e room_1 (s.setVm s.vm) m #[(.int p0), (.int p1), (.int p2), (.int p3), (.int p4)] below meth c T464 L465 3 10 → T464.heap = T434.heap → Fr n0 L465 → ((((p4 &&& (1 : Int32)) = (0 : Int32)) ∧ z469 = (13 : Int32)) ∨ ((¬ ((p4 &&& (1 : Int32)) = (0 : Int32))) ∧ z469 = (8232 : Int32))) → own_Go p e below (own_FinW Z consts_1 s 24 3200 (Q0 Z f_CS p0 p1 p2 p3 p4 h0 n0)) (T464.setTop (mkF m 186 #[vI p0, vI p1, vI p2, vI p3, vI p4, vR b431, vI z456, vI v1, vR b424, vI v458, .unset, .unset, .unset, .unset, .unset] [(.int z469)])) := by
         intro T464 L465 z469 X466 e467 N468 hj470
         refine own_by (fun _ k => XS.istore X466.here hx rfl (hb hby at_186) rfl (l' := #[vI p0, vI p1, vI p2, vI p3, vI p4, vR b431, vI z456, vI v1, vI z469, vI v458, .unset, .unset, .unset, .unset, .unset]) rfl k) ?_
         show own_Go p e below _ (T464.setTop (mkF m 188 #[vI p0, vI p1, vI p2, vI p3, vI p4, vR b431, vI z456, vI v1, vI z469, vI v458, .unset, .unset, .unset, .unset, .unset] []))
         refine own_by (fun _ k => XS.goto X466.here hx rfl (pc0 := 188) (pc' := 196) rfl (hb hby at_188) (by decide) (by decide) k) ?_
         show own_Go p e below _ (T464.setTop (mkF m 196 #[vI p0, vI p1, vI p2, vI p3, vI p4, vR b431, vI z456, vI v1, vI z469, vI v458, .unset, .unset, .unset, .unset, .unset] []))
         exact J472 _ _ z469 X466 e467 N468 (Or.inr (Or.inr (Or.inl ⟨z469, c459, c460, c461, hj470, rfl⟩)))
        by_cases c462 : (p4 &&& (1 : Int32)) = (0 : Int32)
        ·skip
         refine own_by (fun _ k => XS.ifNo X453.here hx rfl (hb hby at_175) rfl ((if0 _ _).trans (teq c462).2) k) ?_
         show own_Go p e below _ (T451.setTop (mkF m 178 #[vI p0, vI p1, vI p2, vI p3, vI p4, vR b431, vI z456, vI v1, vR b424, vI v458, .unset, .unset, .unset, .unset, .unset] []))
         refine own_by (fun _ k => XS.bipush X453.here hx rfl (hb hby at_178) k) ?_
         show own_Go p e below _ (T451.setTop (mkF m 180 #[vI p0, vI p1, vI p2, vI p3, vI p4, vR b431, vI z456, vI v1, vR b424, vI v458, .unset, .unset, .unset, .unset, .unset] [(.int (13 : Int32))]))
         refine own_by (fun _ k => XS.goto X453.here hx rfl (pc0 := 180) (pc' := 186) rfl (hb hby at_180) (by decide) (by decide) k) ?_
         show own_Go p e below _ (T451.setTop (mkF m 186 #[vI p0, vI p1, vI p2, vI p3, vI p4, vR b431, vI z456, vI v1, vR b424, vI v458, .unset, .unset, .unset, .unset, .unset] [(.int (13 : Int32))]))
         exact J463 _ _ (13 : Int32) X453 e454 N455 (Or.inl ⟨c462, rfl⟩)
        ·skip
         refine own_by (fun _ k => XS.ifYes X453.here hx rfl (pc0 := 175) (pc' := 183) rfl (hb hby at_175) rfl ((if0 _ _).trans (feq c462).2) (by decide) (by decide) k) ?_
         show own_Go p e below _ (T451.setTop (mkF m 183 #[vI p0, vI p1, vI p2, vI p3, vI p4, vR b431, vI z456, vI v1, vR b424, vI v458, .unset, .unset, .unset, .unset, .unset] []))
         refine own_by (fun _ k => XS.sipush X453.here hx rfl (hb hby at_183) k) ?_
         show own_Go p e below _ (T451.setTop (mkF m 186 #[vI p0, vI p1, vI p2, vI p3, vI p4, vR b431, vI z456, vI v1, vR b424, vI v458, .unset, .unset, .unset, .unset, .unset] [(.int (8232 : Int32))]))
         exact J463 _ _ (8232 : Int32) X453 e454 N455 (Or.inr (⟨c462, rfl⟩))
       ·skip
        refine own_by (fun _ k => XS.icmpYes X453.here hx rfl (pc0 := 168) (pc' := 191) rfl (hb hby at_168) rfl (feq c461).2 (by decide) (by decide) k) ?_
        show own_Go p e below _ (T451.setTop (mkF m 191 #[vI p0, vI p1, vI p2, vI p3, vI p4, vR b431, vI z456, vI v1, vR b424, vI v458, .unset, .unset, .unset, .unset, .unset] []))
        refine own_by (fun _ k => XS.iload X453.here hx rfl (hb hby at_191) rfl k) ?_
        show own_Go p e below _ (T451.setTop (mkF m 193 #[vI p0, vI p1, vI p2, vI p3, vI p4, vR b431, vI z456, vI v1, vR b424, vI v458, .unset, .unset, .unset, .unset, .unset] [(.int p4)]))
        refine own_by (fun _ k => XS.i2c X453.here hx rfl (hb hby at_193) rfl k) ?_
        show own_Go p e below _ (T451.setTop (mkF m 194 #[vI p0, vI p1, vI p2, vI p3, vI p4, vR b431, vI z456, vI v1, vR b424, vI v458, .unset, .unset, .unset, .unset, .unset] [(.int (p4.toUInt32.toUInt16.toUInt32.toInt32))]))
        refine own_by (fun _ k => XS.istore X453.here hx rfl (hb hby at_194) rfl (l' := #[vI p0, vI p1, vI p2, vI p3, vI p4, vR b431, vI z456, vI v1, vI (p4.toUInt32.toUInt16.toUInt32.toInt32), vI v458, .unset, .unset, .unset, .unset, .unset]) rfl k) ?_
        show own_Go p e below _ (T451.setTop (mkF m 196 #[vI p0, vI p1, vI p2, vI p3, vI p4, vR b431, vI z456, vI v1, vI (p4.toUInt32.toUInt16.toUInt32.toInt32), vI v458, .unset, .unset, .unset, .unset, .unset] []))
        generalize hv471 : (p4.toUInt32.toUInt16.toUInt32.toInt32) = v471
        show own_Go p e below _ (T451.setTop (mkF m 196 #[vI p0, vI p1, vI p2, vI p3, vI p4, vR b431, vI z456, vI v1, vI v471, vI v458, .unset, .unset, .unset, .unset, .unset] []))
        exact J472 _ _ v471 X453 e454 N455 (Or.inr (Or.inr (Or.inr (⟨v471, c459, c460, c461, hv471, rfl⟩))))
    by_cases c445 : (nar .char ((p1 &&& (255 : Int32)).toUInt32.toUInt16.toUInt32.toInt32)) = (49 : Int32)
    ·skip
     refine own_by (fun _ k => XS.icmpNo X434.here hx rfl (hb hby at_106) rfl (teq c445).2 k) ?_
     show own_Go p e below _ (T434.setTop (mkF m 109 #[vI p0, vI p1, vI p2, vI p3, vI p4, vR b431, .unset, vI v1, vR b424, .unset, .unset, .unset, .unset, .unset, .unset] []))
     refine own_by (fun _ k => XS.aload X434.here hx rfl (hb hby at_109) rfl rfl k) ?_
     show own_Go p e below _ (T434.setTop (mkF m 111 #[vI p0, vI p1, vI p2, vI p3, vI p4, vR b431, .unset, vI v1, vR b424, .unset, .unset, .unset, .unset, .unset, .unset] [(.ref b424)]))
     refine own_by (fun _ k => XS.iconst X434.here hx rfl (hb hby at_111) k) ?_
     show own_Go p e below _ (T434.setTop (mkF m 112 #[vI p0, vI p1, vI p2, vI p3, vI p4, vR b431, .unset, vI v1, vR b424, .unset, .unset, .unset, .unset, .unset, .unset] [(.int (1 : Int32)), (.ref b424)]))
     obtain ⟨cl446, Ar446, qq446, S446, M446, H446, G446⟩ := id F443
     have hin446 : ¬ ((1 : Int32) < 0 ∨ cl446.slots.size ≤ ((1 : Int32)).toNatClampNeg) := inb_of S446 ⟨by decide, by decide⟩
     refine own_by (fun t k => X434.caload hx (j := (1 : Int32)) (v := (.int (nar .char ((((p1.toUInt32 >>> ((8 : Int32) &&& 31).toUInt32).toInt32) &&& (255 : Int32)).toUInt32.toUInt16.toUInt32.toInt32)))) Ar446.1 (State.isArrayOf_alike hZ.alike Ar446.2.1) Ar446.2.2 hin446 (H446 _ (Nat.lt_of_not_le fun y => hin446 (Or.inr y))) (g := (mkF m 112 #[vI p0, vI p1, vI p2, vI p3, vI p4, vR b431, .unset, vI v1, vR b424, .unset, .unset, .unset, .unset, .unset, .unset] [(.int (1 : Int32)), (.ref b424)])) rfl rfl (hb hby at_112) _ k) ?_
     show own_Go p e below _ (T434.setTop (mkF m 113 #[vI p0, vI p1, vI p2, vI p3, vI p4, vR b431, .unset, vI v1, vR b424, .unset, .unset, .unset, .unset, .unset, .unset] [(.int (nar .char ((((p1.toUInt32 >>> ((8 : Int32) &&& 31).toUInt32).toInt32) &&& (255 : Int32)).toUInt32.toUInt16.toUInt32.toInt32)))]))
     refine own_by (fun _ k => XS.bipush X434.here hx rfl (hb hby at_113) k) ?_
     show own_Go p e below _ (T434.setTop (mkF m 115 #[vI p0, vI p1, vI p2, vI p3, vI p4, vR b431, .unset, vI v1, vR b424, .unset, .unset, .unset, .unset, .unset, .unset] [(.int (46 : Int32)), (.int (nar .char ((((p1.toUInt32 >>> ((8 : Int32) &&& 31).toUInt32).toInt32) &&& (255 : Int32)).toUInt32.toUInt16.toUInt32.toInt32)))]))
     by_cases c447 : (nar .char ((((p1.toUInt32 >>> ((8 : Int32) &&& 31).toUInt32).toInt32) &&& (255 : Int32)).toUInt32.toUInt16.toUInt32.toInt32)) = (46 : Int32)
     ·skip
      refine own_by (fun _ k => XS.icmpNo X434.here hx rfl (hb hby at_115) rfl (teq c447).2 k) ?_
      show own_Go p e below _ (T434.setTop (mkF m 118 #[vI p0, vI p1, vI p2, vI p3, vI p4, vR b431, .unset, vI v1, vR b424, .unset, .unset, .unset, .unset, .unset, .unset] []))
      refine own_by (fun _ k => XS.aload X434.here hx rfl (hb hby at_118) rfl rfl k) ?_
      show own_Go p e below _ (T434.setTop (mkF m 120 #[vI p0, vI p1, vI p2, vI p3, vI p4, vR b431, .unset, vI v1, vR b424, .unset, .unset, .unset, .unset, .unset, .unset] [(.ref b424)]))
      refine own_by (fun _ k => XS.iconst X434.here hx rfl (hb hby at_120) k) ?_
      show own_Go p e below _ (T434.setTop (mkF m 121 #[vI p0, vI p1, vI p2, vI p3, vI p4, vR b431, .unset, vI v1, vR b424, .unset, .unset, .unset, .unset, .unset, .unset] [(.int (2 : Int32)), (.ref b424)]))
      obtain ⟨cl448, Ar448, qq448, S448, M448, H448, G448⟩ := id F443
      have hin448 : ¬ ((2 : Int32) < 0 ∨ cl448.slots.size ≤ ((2 : Int32)).toNatClampNeg) := inb_of S448 ⟨by decide, by decide⟩
      refine own_by (fun t k => X434.caload hx (j := (2 : Int32)) (v := (.int (nar .char ((p2 &&& (255 : Int32)).toUInt32.toUInt16.toUInt32.toInt32)))) Ar448.1 (State.isArrayOf_alike hZ.alike Ar448.2.1) Ar448.2.2 hin448 (H448 _ (Nat.lt_of_not_le fun y => hin448 (Or.inr y))) (g := (mkF m 121 #[vI p0, vI p1, vI p2, vI p3, vI p4, vR b431, .unset, vI v1, vR b424, .unset, .unset, .unset, .unset, .unset, .unset] [(.int (2 : Int32)), (.ref b424)])) rfl rfl (hb hby at_121) _ k) ?_
      show own_Go p e below _ (T434.setTop (mkF m 122 #[vI p0, vI p1, vI p2, vI p3, vI p4, vR b431, .unset, vI v1, vR b424, .unset, .unset, .unset, .unset, .unset, .unset] [(.int (nar .char ((p2 &&& (255 : Int32)).toUInt32.toUInt16.toUInt32.toInt32)))]))
      refine own_by (fun _ k => XS.bipush X434.here hx rfl (hb hby at_122) k) ?_
      show own_Go p e below _ (T434.setTop (mkF m 124 #[vI p0, vI p1, vI p2, vI p3, vI p4, vR b431, .unset, vI v1, vR b424, .unset, .unset, .unset, .unset, .unset, .unset] [(.int (49 : Int32)), (.int (nar .char ((p2 &&& (255 : Int32)).toUInt32.toUInt16.toUInt32.toInt32)))]))
      by_cases c449 : (nar .char ((p2 &&& (255 : Int32)).toUInt32.toUInt16.toUInt32.toInt32)) = (49 : Int32)
      ·skip
       refine own_by (fun _ k => XS.icmpNo X434.here hx rfl (hb hby at_124) rfl (teq c449).2 k) ?_
       show own_Go p e below _ (T434.setTop (mkF m 127 #[vI p0, vI p1, vI p2, vI p3, vI p4, vR b431, .unset, vI v1, vR b424, .unset, .unset, .unset, .unset, .unset, .unset] []))
       refine own_by (fun _ k => XS.iconst X434.here hx rfl (hb hby at_127) k) ?_
       show own_Go p e below _ (T434.setTop (mkF m 128 #[vI p0, vI p1, vI p2, vI p3, vI p4, vR b431, .unset, vI v1, vR b424, .unset, .unset, .unset, .unset, .unset, .unset] [(.int (1 : Int32))]))
       refine own_by (fun _ k => XS.goto X434.here hx rfl (pc0 := 128) (pc' := 132) rfl (hb hby at_128) (by decide) (by decide) k) ?_
       show own_Go p e below _ (T434.setTop (mkF m 132 #[vI p0, vI p1, vI p2, vI p3, vI p4, vR b431, .unset, vI v1, vR b424, .unset, .unset, .unset, .unset, .unset, .unset] [(.int (1 : Int32))]))
       exact J450 _ _ (1 : Int32) X434 rfl N434 (Or.inl ⟨c445, c447, c449, rfl⟩)
      ·skip
       refine own_by (fun _ k => XS.icmpYes X434.here hx rfl (pc0 := 124) (pc' := 131) rfl (hb hby at_124) rfl (feq c449).2 (by decide) (by decide) k) ?_
       show own_Go p e below _ (T434.setTop (mkF m 131 #[vI p0, vI p1, vI p2, vI p3, vI p4, vR b431, .unset, vI v1, vR b424, .unset, .unset, .unset, .unset, .unset, .unset] []))
       refine own_by (fun _ k => XS.iconst X434.here hx rfl (hb hby at_131) k) ?_
       show own_Go p e below _ (T434.setTop (mkF m 132 #[vI p0, vI p1, vI p2, vI p3, vI p4, vR b431, .unset, vI v1, vR b424, .unset, .unset, .unset, .unset, .unset, .unset] [(.int (0 : Int32))]))
       exact J450 _ _ (0 : Int32) X434 rfl N434 (Or.inr (Or.inl ⟨c445, c447, c449, rfl⟩))
     ·skip
      refine own_by (fun _ k => XS.icmpYes X434.here hx rfl (pc0 := 115) (pc' := 131) rfl (hb hby at_115) rfl (feq c447).2 (by decide) (by decide) k) ?_
      show own_Go p e below _ (T434.setTop (mkF m 131 #[vI p0, vI p1, vI p2, vI p3, vI p4, vR b431, .unset, vI v1, vR b424, .unset, .unset, .unset, .unset, .unset, .unset] []))
      refine own_by (fun _ k => XS.iconst X434.here hx rfl (hb hby at_131) k) ?_
      show own_Go p e below _ (T434.setTop (mkF m 132 #[vI p0, vI p1, vI p2, vI p3, vI p4, vR b431, .unset, vI v1, vR b424, .unset, .unset, .unset, .unset, .unset, .unset] [(.int (0 : Int32))]))
      exact J450 _ _ (0 : Int32) X434 rfl N434 (Or.inr (Or.inr (Or.inl ⟨c445, c447, rfl⟩)))
    ·skip
     refine own_by (fun _ k => XS.icmpYes X434.here hx rfl (pc0 := 106) (pc' := 131) rfl (hb hby at_106) rfl (feq c445).2 (by decide) (by decide) k) ?_
     show own_Go p e below _ (T434.setTop (mkF m 131 #[vI p0, vI p1, vI p2, vI p3, vI p4, vR b431, .unset, vI v1, vR b424, .unset, .unset, .unset, .unset, .unset, .unset] []))
     refine own_by (fun _ k => XS.iconst X434.here hx rfl (hb hby at_131) k) ?_
     show own_Go p e below _ (T434.setTop (mkF m 132 #[vI p0, vI p1, vI p2, vI p3, vI p4, vR b431, .unset, vI v1, vR b424, .unset, .unset, .unset, .unset, .unset, .unset] [(.int (0 : Int32))]))
     exact J450 _ _ (0 : Int32) X434 rfl N434 (Or.inr (Or.inr (Or.inr (⟨c445, rfl⟩))))
set_option maxRecDepth 65536 in
set_option maxHeartbeats 40000000 in
theorem comes_1 {Post : Tables → Env → Array Value → State → Outcome → State → Prop} (hpost : ∀ tb e args s v u, (limb_1_1.after args s (.returned v) u = true ∧ limb_1_2.after args s (.returned v) u = true ∧ True) → ReturnedEndW s (.returned v) u (Jvm.fieldLocs frame_1_writes args s ++ Jvm.arrayLocs frame_1_arrays args s ++ Jvm.staticLocs frame_1_statics s) 24 3200 → Post tb e args s (.returned v) u) :
    ArmFor flags0 classFile x code maxLocals ret World_1 tables_1 room_1 Calls_1 rest_1 Pre_1 Post := by
  intro l hfl _ _ p e ha hc hk s m args below hf hA hF happ hP
  obtain ⟨hcalls, hrest, hpre⟩ := hP
  obtain ⟨-, -, -, hnamed, -, -, -, hat⟩ := (Spec.applies_iff hf).mp happ
  obtain ⟨hg, hn⟩ := and_e (Cond.before_iff.mp (show (Jvm.Cond.and given_1 narrow_1).before args s = true from hpre))
  obtain ⟨g0, r0⟩ := and_e hg
  obtain ⟨ga0, r1⟩ := and_e r0
  obtain ⟨ga1, r2⟩ := and_e r1
  obtain ⟨ga2, r3⟩ := and_e r2
  obtain ⟨ga3, r4⟩ := and_e r3
  obtain ⟨w0, w1, w2, w3, w4, rfl⟩ : ∃ w0 w1 w2 w3 w4 : Value, args = #[w0, w1, w2, w3, w4] := by
    have hs : args.size = 5 := by simpa [Cond.value, given_1] using g0
    obtain ⟨L⟩ := args
    match L, hs with
    | [w0, w1, w2, w3, w4], _ => exact ⟨w0, w1, w2, w3, w4, rfl⟩
  have hw := fun d (hd : d ∈ tables_1) => atoms_spec (ws := Jvm.Cond.code x code maxLocals ret :: tables_1) hat d (List.mem_cons_of_mem _ hd)
  have hwd := fun i {d : Jvm.Cond} (h : tables_1[i]? = some d) => hw d (List.mem_of_getElem? h)
  have hfit : Fit s := fun {y c} hc i hi => by
    obtain ⟨ha, rfl⟩ := Array.getElem?_eq_some_iff.mp hc
    have q := List.all_eq_true.mp ((Array.all_eq_true_iff_forall_mem.mp hF) _ (Array.getElem_mem ha)) i (List.mem_range.mpr hi)
    simpa [Array.getElem?_eq_getElem hi] using q
  obtain ⟨i0, ei0⟩ := is_v ga0
  obtain rfl : w0 = (.int i0) := Option.some.inj ei0
  obtain ⟨i1, ei1⟩ := is_v ga1
  obtain rfl : w1 = (.int i1) := Option.some.inj ei1
  obtain ⟨i2, ei2⟩ := is_v ga2
  obtain rfl : w2 = (.int i2) := Option.some.inj ei2
  obtain ⟨i3, ei3⟩ := is_v ga3
  obtain rfl : w3 = (.int i3) := Option.some.inj ei3
  obtain ⟨i4, ei4⟩ := is_v r4
  obtain rfl : w4 = (.int i4) := Option.some.inj ei4
  obtain ⟨hsets, hown0⟩ := atoms_of _ (rest_1_c_eq ▸ (show rest_1_c.before _ s = true from hrest))
  have se0 := hsets _ (List.mem_of_getElem? (i := 0) rfl)
  have se1 := hsets _ (List.mem_of_getElem? (i := 1) rfl)
  have se2 := hsets _ (List.mem_of_getElem? (i := 2) rfl)
  obtain ⟨f_CS, ev0⟩ := is_v (Cond.before_iff.mp se1)
  have hcw : Jvm.Lit.compactW.before _ s = true := se2
  have hn_CS : ¬ (f_CS = (0 : Int32)) := own_ne0 (Cond.before_iff.mp se2) ev0
  have hC0 : CHv s consts_1 s.vm s.heap := CHv.start (own_EW hw) (fun q hq => hcalls.1 q hq) hcw (hwd 16 rfl) (hwd 15 rfl)
  obtain ⟨n, o, h1, h2, h3, _, L, rfl, ⟨rfl, N⟩, -, hq⟩ := rm0 l s _ hw tables_1 f_CS i0 i1 i2 i3 i4 s.heap s.heap.size (Nat.le_refl _) (Sta.start ev0 (Or.inl se0)) hn_CS p e ha hc hk s m _ below hf ((Spec.applies_iff_loose hf).mp happ).1 ⟨rfl, State.Warmed39.refl s, rfl, hC0⟩ trivial
  refine ⟨n, _, h1, h2, h3, hpost _ _ _ _ _ _ ⟨Cond.after_iff.mpr rfl, Cond.after_iff.mpr (eq_i res_at (Term.int_eval (1)) rfl), trivial⟩ ⟨hq.1, hq.2.1, hq.2.2.1, (hq.2.2.2.sift fun y hy => Or.inr (N y hy)).mono (by decide) (by decide)⟩⟩
theorem main_1_1 : Claimed_1_1 := comes_1 fun _ _ _ _ _ _ h hF => ⟨h.1, hF⟩
theorem main_1_2 : Claimed_1_2 := comes_1 fun _ _ _ _ _ _ h hF => ⟨h.2.1, hF⟩
end Jvm.Pilot.@@N@@
namespace Jvm.Pilot.@@N@@
open Jvm Jvm.ClassFile Sem Op Lib Jvm.Free Jvm.Stand Jvm.Pilot.@@N@@.Jvm.D
/-! MADE BY PROGRAM (witnessworld.py) out of the Statement's table words and the real class files: 20 classes; the members and pool entries that the words name. The judged class is class 1, her method 1. -/
namespace start1
open Jvm.ClassFile
def u (s : String) : CpInfo := .utf8 (stringToUtf16 s)
/-- a pool by its gaps: so many unusable entries, then the entry; so many at the end -/
def gap : Nat → List CpInfo → List CpInfo
  | 0, r => r
  | n + 1, r => .unusable :: gap n r
def poolList (es : List (Nat × CpInfo)) (last : Nat) : List CpInfo := es.foldr (fun e r => gap e.1 (e.2 :: r)) (gap last [])
def pool (es : List (Nat × CpInfo)) (last : Nat) : Array CpInfo := ⟨poolList es last⟩
def fileOf (pool : Array CpInfo) (this : Nat) (attrs : Array Attribute := #[]) (ms : Array MethodInfo := #[]) (fl : Nat := 33) (sup : Nat := 0) (ifs : Array Nat := #[]) (fds : Array FieldInfo := #[]) : ClassFile where
  minorVersion := 0
  majorVersion := 65
  constantPool := pool
  accessFlags := fl
  thisClass := this
  superClass := sup
  interfaces := ifs
  fields := fds
  methods := ms
  attributes := attrs
def plain (name : String) (sup : Option ClassId) : Class where
  name := name
  kind := .ordinary
  loader := none
  accessFlags := 33
  super := sup
  interfaces := #[]
  cf := none
  fields := #[]
  methods := #[]
  instanceTypes := #[]
  staticTypes := #[]
  resolved := #[]
  callSites := []
  init := .initialized
  statics := none
  mirror := none

def pool0 : Array CpInfo := pool [(5, u "<init>"), (0, u "()V"), (1, .class_ 10), (1, u "java/lang/Object")] 113

def k0c0 : Code := { maxStack := 0, maxLocals := 1, code := object_method_1_code, exceptionTable := #[], attributes := #[] }
def k0m0 : Method := { name := "<init>", desc := "()V", sig := { parameters := [], returnType := none }, accessFlags := 1, code := some k0c0 }
/-- java/lang/Object -/
def k0 : Class := { plain "java/lang/Object" none with
  accessFlags := 33
  interfaces := #[]
  cf := some (fileOf pool0 8 #[] #[{ accessFlags := 1, nameIndex := 5, descriptorIndex := 6, attributes := #[] }] 33 0 #[] #[])
  fields := #[]
  methods := #[k0m0]
  instanceTypes := #[]
  staticTypes := #[]
  resolved := Array.replicate 124 none
  statics := none }

def pool1 : Array CpInfo := pool [(2, .class_ 4), (1, u "java/lang/Object"), (0, u "<init>"), (0, u "()V"), (0, .string 8), (0, u "1.1"), (0, .string 10), (0, u "1.0"), (0, .class_ 12), (0, u "java/lang/String"), (0, .methodref 11 14), (0, .nameAndType 5 15), (0, u "([C)V"), (0, .class_ 17), (0, u "com/example/margay/margay/index/LineCounter"), (0, .methodref 16 19), (0, .nameAndType 5 20), (0, u "(Ljava/lang/String;)V"), (0, .methodref 16 22), (0, .nameAndType 23 24), (0, u "endsLineWithCarriageReturn"), (0, u "(C)Z"), (0, .methodref 16 26), (0, .nameAndType 27 24), (0, u "endsLine"), (0, .methodref 16 29), (0, .nameAndType 30 31), (0, u "count"), (0, u "(C)V"), (0, .methodref 16 33), (0, .nameAndType 34 35), (0, u "line"), (0, u "()I"), (0, .methodref 16 37), (0, .nameAndType 38 35), (0, u "column"), (0, .class_ 40), (0, u "com/example/margay/margay/index/LineCounterEndsLineWithCarriageReturnPinLaw"), (2, u "law"), (0, u "(IIIII)Z")] 5

def k1m0 : Method := { name := "<init>", desc := "()V", sig := { parameters := [], returnType := none }, accessFlags := 1, code := none }
def k1c1 : Code := { maxStack := 4, maxLocals := 15, code := code, exceptionTable := #[], attributes := #[] }
def k1m1 : Method := { name := "law", desc := "(IIIII)Z", sig := { parameters := [.int, .int, .int, .int, .int], returnType := some .boolean }, accessFlags := 9, code := some k1c1 }
/-- com/example/margay/margay/index/LineCounterEndsLineWithCarriageReturnPinLaw -/
def k1 : Class := { plain "com/example/margay/margay/index/LineCounterEndsLineWithCarriageReturnPinLaw" (some 0) with
  accessFlags := 49
  interfaces := #[]
  cf := some (fileOf pool1 39 #[] #[{ accessFlags := 1, nameIndex := 5, descriptorIndex := 6, attributes := #[] }, { accessFlags := 9, nameIndex := 43, descriptorIndex := 44, attributes := #[] }] 49 2 #[] #[])
  fields := #[]
  methods := #[k1m0, k1m1]
  instanceTypes := #[]
  staticTypes := #[]
  resolved := Array.replicate 50 none
  statics := none }

def pool2 : Array CpInfo := pool [(1, .methodref 2 3), (0, .class_ 4), (0, .nameAndType 5 6), (0, u "java/lang/Object"), (0, u "<init>"), (0, u "()V"), (0, .fieldref 8 9), (0, .class_ 10), (0, .nameAndType 11 12), (0, u "com/example/margay/margay/index/LineCounter"), (0, u "line"), (0, u "I"), (0, .fieldref 8 14), (0, .nameAndType 15 12), (0, u "column"), (0, .string 17), (0, u "1.1"), (0, .methodref 19 20), (0, .class_ 21), (0, .nameAndType 22 23), (0, u "java/lang/String"), (0, u "equals"), (0, u "(Ljava/lang/Object;)Z"), (0, .fieldref 8 25), (0, .nameAndType 26 27), (0, u "xml11"), (0, u "Z"), (0, .fieldref 8 29), (0, .nameAndType 30 27), (0, u "afterCarriageReturn"), (0, .methodref 8 32), (0, .nameAndType 33 34), (0, u "endsLineWithCarriageReturn"), (0, u "(C)Z"), (0, .methodref 8 36), (0, .nameAndType 37 34), (0, u "endsLine"), (0, u "XML_1_1"), (0, u "Ljava/lang/String;"), (1, u "NEXT_LINE"), (0, u "C"), (1, u "LINE_SEPARATOR"), (1, u "(Ljava/lang/String;)V"), (2, u "count"), (0, u "(C)V"), (1, u "()I")] 2

def k2c0 : Code := { maxStack := 3, maxLocals := 2, code := prog_53_method_1_code, exceptionTable := #[], attributes := #[] }
def k2m0 : Method := { name := "<init>", desc := "(Ljava/lang/String;)V", sig := { parameters := [(.object "java/lang/String")], returnType := none }, accessFlags := 0, code := some k2c0 }
def k2c1 : Code := { maxStack := 3, maxLocals := 3, code := prog_53_method_2_code, exceptionTable := #[], attributes := #[] }
def k2m1 : Method := { name := "count", desc := "(C)V", sig := { parameters := [.char], returnType := none }, accessFlags := 0, code := some k2c1 }
def k2c2 : Code := { maxStack := 2, maxLocals := 2, code := prog_53_method_3_code, exceptionTable := #[], attributes := #[] }
def k2m2 : Method := { name := "endsLine", desc := "(C)Z", sig := { parameters := [.char], returnType := some .boolean }, accessFlags := 0, code := some k2c2 }
def k2c3 : Code := { maxStack := 2, maxLocals := 2, code := prog_53_method_4_code, exceptionTable := #[], attributes := #[] }
def k2m3 : Method := { name := "endsLineWithCarriageReturn", desc := "(C)Z", sig := { parameters := [.char], returnType := some .boolean }, accessFlags := 0, code := some k2c3 }
def k2c4 : Code := { maxStack := 1, maxLocals := 1, code := prog_53_method_5_code, exceptionTable := #[], attributes := #[] }
def k2m4 : Method := { name := "line", desc := "()I", sig := { parameters := [], returnType := some .int }, accessFlags := 0, code := some k2c4 }
def k2c5 : Code := { maxStack := 1, maxLocals := 1, code := prog_53_method_6_code, exceptionTable := #[], attributes := #[] }
def k2m5 : Method := { name := "column", desc := "()I", sig := { parameters := [], returnType := some .int }, accessFlags := 0, code := some k2c5 }
/-- com/example/margay/margay/index/LineCounter -/
def k2 : Class := { plain "com/example/margay/margay/index/LineCounter" (some 0) with
  accessFlags := 48
  interfaces := #[]
  cf := some (fileOf pool2 8 #[] #[{ accessFlags := 0, nameIndex := 5, descriptorIndex := 46, attributes := #[] }, { accessFlags := 0, nameIndex := 49, descriptorIndex := 50, attributes := #[] }, { accessFlags := 0, nameIndex := 37, descriptorIndex := 34, attributes := #[] }, { accessFlags := 0, nameIndex := 33, descriptorIndex := 34, attributes := #[] }, { accessFlags := 0, nameIndex := 11, descriptorIndex := 52, attributes := #[] }, { accessFlags := 0, nameIndex := 15, descriptorIndex := 52, attributes := #[] }] 48 2 #[] #[{ accessFlags := 26, nameIndex := 38, descriptorIndex := 39, attributes := #[] }, { accessFlags := 26, nameIndex := 41, descriptorIndex := 42, attributes := #[] }, { accessFlags := 26, nameIndex := 44, descriptorIndex := 42, attributes := #[] }, { accessFlags := 18, nameIndex := 26, descriptorIndex := 27, attributes := #[] }, { accessFlags := 2, nameIndex := 11, descriptorIndex := 12, attributes := #[] }, { accessFlags := 2, nameIndex := 15, descriptorIndex := 12, attributes := #[] }, { accessFlags := 2, nameIndex := 30, descriptorIndex := 27, attributes := #[] }])
  fields := #[{ name := "XML_1_1", type := (.object "java/lang/String"), accessFlags := 26, slot := 0, constantValue := 0 }, { name := "NEXT_LINE", type := .char, accessFlags := 26, slot := 1, constantValue := 0 }, { name := "LINE_SEPARATOR", type := .char, accessFlags := 26, slot := 2, constantValue := 0 }, { name := "xml11", type := .boolean, accessFlags := 18, slot := 0, constantValue := 0 }, { name := "line", type := .int, accessFlags := 2, slot := 1, constantValue := 0 }, { name := "column", type := .int, accessFlags := 2, slot := 2, constantValue := 0 }, { name := "afterCarriageReturn", type := .boolean, accessFlags := 2, slot := 3, constantValue := 0 }]
  methods := #[k2m0, k2m1, k2m2, k2m3, k2m4, k2m5]
  instanceTypes := #[.boolean, .int, .int, .boolean]
  staticTypes := #[(.object "java/lang/String"), .char, .char]
  resolved := Array.replicate 55 none
  statics := none }

def pool3 : Array CpInfo := pool [(1, .class_ 2), (0, u "java/io/Serializable"), (0, .class_ 4), (0, u "java/lang/Object")] 2

/-- java/io/Serializable -/
def k3 : Class := { plain "java/io/Serializable" (some 0) with
  accessFlags := 1537
  interfaces := #[]
  cf := some (fileOf pool3 1 #[] #[] 1537 3 #[] #[])
  fields := #[]
  methods := #[]
  instanceTypes := #[]
  staticTypes := #[]
  resolved := Array.replicate 7 none
  statics := none }

def pool4 : Array CpInfo := pool [(1, .class_ 2), (0, u "java/lang/Comparable"), (0, .class_ 4), (0, u "java/lang/Object")] 7

/-- java/lang/Comparable -/
def k4 : Class := { plain "java/lang/Comparable" (some 0) with
  accessFlags := 1537
  interfaces := #[]
  cf := some (fileOf pool4 1 #[] #[] 1537 3 #[] #[])
  fields := #[]
  methods := #[]
  instanceTypes := #[]
  staticTypes := #[]
  resolved := Array.replicate 12 none
  statics := none }

def pool5 : Array CpInfo := pool [(2, .class_ 4), (1, u "java/lang/CharSequence"), (42, .class_ 48), (0, u "java/lang/CharSequence$1CodePointIterator"), (10, .class_ 60), (0, u "java/lang/CharSequence$1CharIterator"), (5, .class_ 67), (0, u "java/lang/Object")] 63

/-- java/lang/CharSequence -/
def k5 : Class := { plain "java/lang/CharSequence" (some 0) with
  accessFlags := 1537
  interfaces := #[]
  cf := some (fileOf pool5 2 #[.nestMembers #[47, 59]] #[] 1537 66 #[] #[])
  fields := #[]
  methods := #[]
  instanceTypes := #[]
  staticTypes := #[]
  resolved := Array.replicate 131 none
  statics := none }

def pool6 : Array CpInfo := pool [(1, .class_ 2), (0, u "java/lang/constant/Constable"), (0, .class_ 4), (0, u "java/lang/Object")] 6

/-- java/lang/constant/Constable -/
def k6 : Class := { plain "java/lang/constant/Constable" (some 0) with
  accessFlags := 1537
  interfaces := #[]
  cf := some (fileOf pool6 1 #[] #[] 1537 3 #[] #[])
  fields := #[]
  methods := #[]
  instanceTypes := #[]
  staticTypes := #[]
  resolved := Array.replicate 11 none
  statics := none }

def pool7 : Array CpInfo := pool [(1, .class_ 2), (0, u "java/lang/constant/ConstantDesc"), (0, .class_ 4), (0, u "java/lang/Object")] 32

/-- java/lang/constant/ConstantDesc -/
def k7 : Class := { plain "java/lang/constant/ConstantDesc" (some 0) with
  accessFlags := 1537
  interfaces := #[]
  cf := some (fileOf pool7 1 #[] #[] 1537 3 #[] #[])
  fields := #[]
  methods := #[]
  instanceTypes := #[]
  staticTypes := #[]
  resolved := Array.replicate 37 none
  statics := none }

def pool8 : Array CpInfo := pool [(1, .methodref 2 3), (0, .class_ 4), (0, .nameAndType 5 6), (0, u "java/lang/Object"), (0, u "<init>"), (0, u "()V"), (2, .fieldref 10 11), (0, .class_ 12), (0, .nameAndType 13 14), (0, u "java/lang/String"), (0, u "value"), (0, u "[B"), (0, .fieldref 10 16), (0, .nameAndType 17 18), (0, u "coder"), (0, u "B"), (2, u "hash"), (0, u "I"), (2, u "hashIsZero"), (0, u "Z"), (0, .methodref 10 28), (0, .nameAndType 5 29), (0, u "([CIILjava/lang/Void;)V"), (8, .fieldref 10 39), (0, .nameAndType 40 26), (0, u "COMPACT_STRINGS"), (1, .class_ 44), (1, u "java/lang/StringUTF16"), (0, u "compress"), (1, .methodref 42 48), (0, .nameAndType 49 50), (0, u "coderFromArrayLen"), (0, u "([BI)B"), (56, .class_ 109), (1, u "java/lang/StringLatin1"), (67, .methodref 42 178), (0, .nameAndType 45 179), (0, u "([CII)[B"), (361, .methodref 107 542), (0, .nameAndType 543 544), (0, u "equals"), (0, u "([B[B)Z"), (28, u "(Ljava/lang/Object;)Z"), (1, .class_ 576), (0, u "java/lang/CharSequence"), (22, u "CASE_INSENSITIVE_ORDER"), (0, u "Ljava/util/Comparator;"), (409, u "([C)V"), (90, u "serialPersistentFields"), (0, u "[Ljava/io/ObjectStreamField;"), (0, .class_ 1104), (0, u "java/lang/String$CaseInsensitiveComparator"), (1, .class_ 1107), (0, u "java/io/Serializable"), (0, .class_ 1109), (0, u "java/lang/Comparable"), (0, .class_ 1111), (0, u "java/lang/constant/Constable"), (0, .class_ 1113), (0, u "java/lang/constant/ConstantDesc"), (2, u "serialVersionUID"), (0, u "J"), (3, u "REPL"), (0, u "C"), (2, u "LATIN1"), (1, u "UTF16")] 323

def k8m0 : Method := { name := "<init>", desc := "()V", sig := { parameters := [], returnType := none }, accessFlags := 1, code := none }
def k8c1 : Code := { maxStack := 5, maxLocals := 2, code := jdk_42_method_3_code, exceptionTable := #[], attributes := #[] }
def k8m1 : Method := { name := "<init>", desc := "([C)V", sig := { parameters := [(.array .char)], returnType := none }, accessFlags := 1, code := some k8c1 }
def k8c2 : Code := { maxStack := 2, maxLocals := 3, code := jdk_42_method_66_code, exceptionTable := #[], attributes := #[] }
def k8m2 : Method := { name := "equals", desc := "(Ljava/lang/Object;)Z", sig := { parameters := [(.object "java/lang/Object")], returnType := some .boolean }, accessFlags := 1, code := some k8c2 }
def k8c3 : Code := { maxStack := 4, maxLocals := 6, code := jdk_42_method_149_code, exceptionTable := #[], attributes := #[] }
def k8m3 : Method := { name := "<init>", desc := "([CIILjava/lang/Void;)V", sig := { parameters := [(.array .char), .int, .int, (.object "java/lang/Void")], returnType := none }, accessFlags := 2, code := some k8c3 }
/-- java/lang/String -/
def k8 : Class := { plain "java/lang/String" (some 0) with
  accessFlags := 49
  interfaces := #[3, 4, 5, 6, 7]
  cf := some (fileOf pool8 10 #[.nestMembers #[1103]] #[{ accessFlags := 1, nameIndex := 5, descriptorIndex := 6, attributes := #[] }, { accessFlags := 1, nameIndex := 5, descriptorIndex := 1010, attributes := #[] }, { accessFlags := 1, nameIndex := 543, descriptorIndex := 573, attributes := #[] }, { accessFlags := 2, nameIndex := 5, descriptorIndex := 29, attributes := #[] }] 49 2 #[1106, 1108, 575, 1110, 1112] #[{ accessFlags := 18, nameIndex := 13, descriptorIndex := 14, attributes := #[] }, { accessFlags := 18, nameIndex := 17, descriptorIndex := 18, attributes := #[] }, { accessFlags := 2, nameIndex := 21, descriptorIndex := 22, attributes := #[] }, { accessFlags := 2, nameIndex := 25, descriptorIndex := 26, attributes := #[] }, { accessFlags := 26, nameIndex := 1116, descriptorIndex := 1117, attributes := #[] }, { accessFlags := 24, nameIndex := 40, descriptorIndex := 26, attributes := #[] }, { accessFlags := 26, nameIndex := 1101, descriptorIndex := 1102, attributes := #[] }, { accessFlags := 26, nameIndex := 1121, descriptorIndex := 1122, attributes := #[] }, { accessFlags := 25, nameIndex := 599, descriptorIndex := 600, attributes := #[] }, { accessFlags := 24, nameIndex := 1125, descriptorIndex := 18, attributes := #[] }, { accessFlags := 24, nameIndex := 1127, descriptorIndex := 18, attributes := #[] }])
  fields := #[{ name := "value", type := (.array .byte), accessFlags := 18, slot := 0, constantValue := 0 }, { name := "coder", type := .byte, accessFlags := 18, slot := 1, constantValue := 0 }, { name := "hash", type := .int, accessFlags := 2, slot := 2, constantValue := 0 }, { name := "hashIsZero", type := .boolean, accessFlags := 2, slot := 3, constantValue := 0 }, { name := "serialVersionUID", type := .long, accessFlags := 26, slot := 0, constantValue := 0 }, { name := "COMPACT_STRINGS", type := .boolean, accessFlags := 24, slot := 1, constantValue := 0 }, { name := "serialPersistentFields", type := (.array (.object "java/io/ObjectStreamField")), accessFlags := 26, slot := 2, constantValue := 0 }, { name := "REPL", type := .char, accessFlags := 26, slot := 3, constantValue := 0 }, { name := "CASE_INSENSITIVE_ORDER", type := (.object "java/util/Comparator"), accessFlags := 25, slot := 4, constantValue := 0 }, { name := "LATIN1", type := .byte, accessFlags := 24, slot := 5, constantValue := 0 }, { name := "UTF16", type := .byte, accessFlags := 24, slot := 6, constantValue := 0 }]
  methods := #[k8m0, k8m1, k8m2, k8m3]
  instanceTypes := #[(.array .byte), .byte, .int, .boolean]
  staticTypes := #[.long, .boolean, (.array (.object "java/io/ObjectStreamField")), .char, (.object "java/util/Comparator"), .byte, .byte]
  resolved := Array.replicate 1451 none
  statics := some 0 }

def pool9 : Array CpInfo := pool [(6, .class_ 8), (1, u "java/lang/Object"), (0, u "<init>"), (0, u "()V"), (1, .class_ 14), (1, u "java/lang/StringUTF16"), (31, u "$assertionsDisabled"), (0, u "Z"), (13, u "HI_BYTE_SHIFT"), (0, u "I"), (2, u "LO_BYTE_SHIFT"), (49, .methodref 12 116), (0, .nameAndType 117 118), (0, u "compress"), (0, u "([CI[BII)I"), (3, u "([CII)[B"), (138, u "coderFromArrayLen"), (0, u "([BI)B"), (106, .class_ 371), (1, u "java/lang/StringUTF16$LinesSpliterator"), (58, u "MAX_LENGTH"), (196, .class_ 628), (0, u "java/lang/StringUTF16$CodePointsSpliterator"), (0, .class_ 630), (0, u "java/lang/StringUTF16$CharsSpliterator")] 4

def k9m0 : Method := { name := "<init>", desc := "()V", sig := { parameters := [], returnType := none }, accessFlags := 0, code := none }
def k9c1 : Code := { maxStack := 2, maxLocals := 2, code := jdk_52_method_15_code, exceptionTable := #[], attributes := #[] }
def k9m1 : Method := { name := "coderFromArrayLen", desc := "([BI)B", sig := { parameters := [(.array .byte), .int], returnType := some .byte }, accessFlags := 8, code := some k9c1 }
def k9c2 : Code := { maxStack := 5, maxLocals := 6, code := jdk_52_method_16_code, exceptionTable := #[], attributes := #[] }
def k9m2 : Method := { name := "compress", desc := "([CII)[B", sig := { parameters := [(.array .char), .int, .int], returnType := some (.array .byte) }, accessFlags := 9, code := some k9c2 }
def k9c3 : Code := { maxStack := 3, maxLocals := 7, code := jdk_52_method_21_code, exceptionTable := #[], attributes := #[] }
def k9m3 : Method := { name := "compress", desc := "([CI[BII)I", sig := { parameters := [(.array .char), .int, (.array .byte), .int, .int], returnType := some .int }, accessFlags := 9, code := some k9c3 }
/-- java/lang/StringUTF16 -/
def k9 : Class := { plain "java/lang/StringUTF16" (some 0) with
  accessFlags := 48
  interfaces := #[]
  cf := some (fileOf pool9 12 #[.nestMembers #[627, 629, 369]] #[{ accessFlags := 0, nameIndex := 9, descriptorIndex := 10, attributes := #[] }, { accessFlags := 8, nameIndex := 261, descriptorIndex := 262, attributes := #[] }, { accessFlags := 9, nameIndex := 117, descriptorIndex := 122, attributes := #[] }, { accessFlags := 9, nameIndex := 117, descriptorIndex := 118, attributes := #[] }] 48 6 #[] #[{ accessFlags := 26, nameIndex := 61, descriptorIndex := 62, attributes := #[] }, { accessFlags := 26, nameIndex := 65, descriptorIndex := 62, attributes := #[] }, { accessFlags := 24, nameIndex := 430, descriptorIndex := 62, attributes := #[] }, { accessFlags := 4120, nameIndex := 46, descriptorIndex := 47, attributes := #[] }])
  fields := #[{ name := "HI_BYTE_SHIFT", type := .int, accessFlags := 26, slot := 0, constantValue := 0 }, { name := "LO_BYTE_SHIFT", type := .int, accessFlags := 26, slot := 1, constantValue := 0 }, { name := "MAX_LENGTH", type := .int, accessFlags := 24, slot := 2, constantValue := 0 }, { name := "$assertionsDisabled", type := .boolean, accessFlags := 4120, slot := 3, constantValue := 0 }]
  methods := #[k9m0, k9m1, k9m2, k9m3]
  instanceTypes := #[]
  staticTypes := #[.int, .int, .int, .boolean]
  resolved := Array.replicate 635 none
  statics := none }

def pool10 : Array CpInfo := pool [(4, .class_ 6), (1, u "java/lang/Object"), (0, u "<init>"), (0, u "()V"), (5, .class_ 16), (1, u "java/lang/StringLatin1"), (104, u "$assertionsDisabled"), (0, u "Z"), (98, .class_ 223), (1, u "java/lang/StringLatin1$LinesSpliterator"), (57, u "equals"), (0, u "([B[B)Z"), (107, .class_ 391), (0, u "java/lang/StringLatin1$CharsSpliterator")] 3

def k10m0 : Method := { name := "<init>", desc := "()V", sig := { parameters := [], returnType := none }, accessFlags := 0, code := none }
def k10c1 : Code := { maxStack := 3, maxLocals := 3, code := jdk_43_method_13_code, exceptionTable := #[], attributes := #[] }
def k10m1 : Method := { name := "equals", desc := "([B[B)Z", sig := { parameters := [(.array .byte), (.array .byte)], returnType := some .boolean }, accessFlags := 9, code := some k10c1 }
/-- java/lang/StringLatin1 -/
def k10 : Class := { plain "java/lang/StringLatin1" (some 0) with
  accessFlags := 48
  interfaces := #[]
  cf := some (fileOf pool10 14 #[.nestMembers #[390, 221]] #[{ accessFlags := 0, nameIndex := 7, descriptorIndex := 8, attributes := #[] }, { accessFlags := 9, nameIndex := 281, descriptorIndex := 282, attributes := #[] }] 48 4 #[] #[{ accessFlags := 4120, nameIndex := 121, descriptorIndex := 122, attributes := #[] }])
  fields := #[{ name := "$assertionsDisabled", type := .boolean, accessFlags := 4120, slot := 0, constantValue := 0 }]
  methods := #[k10m0, k10m1]
  instanceTypes := #[]
  staticTypes := #[.boolean]
  resolved := Array.replicate 395 none
  statics := none }

def pool11 : Array CpInfo := pool [(2, .class_ 4), (1, u "java/lang/Object"), (0, u "<init>"), (0, u "()V"), (17, .class_ 26), (1, u "jdk/internal/util/Preconditions"), (28, .class_ 56), (0, u "jdk/internal/util/Preconditions$4"), (57, .class_ 115), (0, u "jdk/internal/util/Preconditions$1"), (7, u "SIOOBE_FORMATTER"), (0, u "Ljava/util/function/BiFunction;"), (0, .class_ 126), (0, u "jdk/internal/util/Preconditions$2"), (3, u "AIOOBE_FORMATTER"), (0, .class_ 132), (0, u "jdk/internal/util/Preconditions$3"), (3, u "IOOBE_FORMATTER")] 57

def k11m0 : Method := { name := "<init>", desc := "()V", sig := { parameters := [], returnType := none }, accessFlags := 1, code := none }
/-- jdk/internal/util/Preconditions -/
def k11 : Class := { plain "jdk/internal/util/Preconditions" (some 0) with
  accessFlags := 33
  interfaces := #[]
  cf := some (fileOf pool11 24 #[.nestMembers #[55, 131, 125, 114]] #[{ accessFlags := 1, nameIndex := 5, descriptorIndex := 6, attributes := #[] }] 33 2 #[] #[{ accessFlags := 25, nameIndex := 123, descriptorIndex := 124, attributes := #[] }, { accessFlags := 25, nameIndex := 130, descriptorIndex := 124, attributes := #[] }, { accessFlags := 25, nameIndex := 136, descriptorIndex := 124, attributes := #[] }])
  fields := #[{ name := "SIOOBE_FORMATTER", type := (.object "java/util/function/BiFunction"), accessFlags := 25, slot := 0, constantValue := 0 }, { name := "AIOOBE_FORMATTER", type := (.object "java/util/function/BiFunction"), accessFlags := 25, slot := 1, constantValue := 0 }, { name := "IOOBE_FORMATTER", type := (.object "java/util/function/BiFunction"), accessFlags := 25, slot := 2, constantValue := 0 }]
  methods := #[k11m0]
  instanceTypes := #[]
  staticTypes := #[(.object "java/util/function/BiFunction"), (.object "java/util/function/BiFunction"), (.object "java/util/function/BiFunction")]
  resolved := Array.replicate 194 none
  statics := some 1 }

def pool12 : Array CpInfo := pool [(9, u "<init>"), (6, .class_ 18), (1, u "java/lang/Object"), (0, u "()V"), (1, .class_ 23), (1, u "jdk/internal/util/ArraysSupport"), (0, u "LOG2_ARRAY_LONG_INDEX_SCALE"), (0, u "I"), (2, u "U"), (0, u "Ljdk/internal/misc/Unsafe;"), (8, u "BIG_ENDIAN"), (0, u "Z"), (8, u "LOG2_BYTE_BIT_SIZE"), (4, u "LOG2_ARRAY_INT_INDEX_SCALE"), (54, u "JLA"), (0, u "Ljdk/internal/access/JavaLangAccess;"), (11, u "LOG2_ARRAY_BOOLEAN_INDEX_SCALE"), (9, u "LOG2_ARRAY_BYTE_INDEX_SCALE"), (5, u "LOG2_ARRAY_CHAR_INDEX_SCALE"), (5, u "LOG2_ARRAY_SHORT_INDEX_SCALE"), (18, u "LOG2_ARRAY_FLOAT_INDEX_SCALE"), (24, u "LOG2_ARRAY_DOUBLE_INDEX_SCALE"), (89, u "T_BOOLEAN"), (2, u "T_CHAR"), (1, u "T_FLOAT"), (1, u "T_DOUBLE"), (1, u "T_BYTE"), (1, u "T_SHORT"), (1, u "T_INT"), (1, u "T_LONG"), (1, u "SOFT_MAX_ARRAY_LENGTH")] 83

def k12m0 : Method := { name := "<init>", desc := "()V", sig := { parameters := [], returnType := none }, accessFlags := 2, code := none }
/-- jdk/internal/util/ArraysSupport -/
def k12 : Class := { plain "jdk/internal/util/ArraysSupport" (some 0) with
  accessFlags := 33
  interfaces := #[]
  cf := some (fileOf pool12 21 #[] #[{ accessFlags := 2, nameIndex := 9, descriptorIndex := 19, attributes := #[] }] 33 16 #[] #[{ accessFlags := 24, nameIndex := 28, descriptorIndex := 29, attributes := #[] }, { accessFlags := 26, nameIndex := 38, descriptorIndex := 39, attributes := #[] }, { accessFlags := 25, nameIndex := 121, descriptorIndex := 25, attributes := #[] }, { accessFlags := 25, nameIndex := 131, descriptorIndex := 25, attributes := #[] }, { accessFlags := 25, nameIndex := 137, descriptorIndex := 25, attributes := #[] }, { accessFlags := 25, nameIndex := 143, descriptorIndex := 25, attributes := #[] }, { accessFlags := 25, nameIndex := 53, descriptorIndex := 25, attributes := #[] }, { accessFlags := 25, nameIndex := 24, descriptorIndex := 25, attributes := #[] }, { accessFlags := 25, nameIndex := 162, descriptorIndex := 25, attributes := #[] }, { accessFlags := 25, nameIndex := 187, descriptorIndex := 25, attributes := #[] }, { accessFlags := 26, nameIndex := 48, descriptorIndex := 25, attributes := #[] }, { accessFlags := 25, nameIndex := 277, descriptorIndex := 25, attributes := #[] }, { accessFlags := 25, nameIndex := 280, descriptorIndex := 25, attributes := #[] }, { accessFlags := 25, nameIndex := 282, descriptorIndex := 25, attributes := #[] }, { accessFlags := 25, nameIndex := 284, descriptorIndex := 25, attributes := #[] }, { accessFlags := 25, nameIndex := 286, descriptorIndex := 25, attributes := #[] }, { accessFlags := 25, nameIndex := 288, descriptorIndex := 25, attributes := #[] }, { accessFlags := 25, nameIndex := 290, descriptorIndex := 25, attributes := #[] }, { accessFlags := 25, nameIndex := 292, descriptorIndex := 25, attributes := #[] }, { accessFlags := 26, nameIndex := 108, descriptorIndex := 109, attributes := #[] }, { accessFlags := 25, nameIndex := 294, descriptorIndex := 25, attributes := #[] }])
  fields := #[{ name := "U", type := (.object "jdk/internal/misc/Unsafe"), accessFlags := 24, slot := 0, constantValue := 0 }, { name := "BIG_ENDIAN", type := .boolean, accessFlags := 26, slot := 1, constantValue := 0 }, { name := "LOG2_ARRAY_BOOLEAN_INDEX_SCALE", type := .int, accessFlags := 25, slot := 2, constantValue := 0 }, { name := "LOG2_ARRAY_BYTE_INDEX_SCALE", type := .int, accessFlags := 25, slot := 3, constantValue := 0 }, { name := "LOG2_ARRAY_CHAR_INDEX_SCALE", type := .int, accessFlags := 25, slot := 4, constantValue := 0 }, { name := "LOG2_ARRAY_SHORT_INDEX_SCALE", type := .int, accessFlags := 25, slot := 5, constantValue := 0 }, { name := "LOG2_ARRAY_INT_INDEX_SCALE", type := .int, accessFlags := 25, slot := 6, constantValue := 0 }, { name := "LOG2_ARRAY_LONG_INDEX_SCALE", type := .int, accessFlags := 25, slot := 7, constantValue := 0 }, { name := "LOG2_ARRAY_FLOAT_INDEX_SCALE", type := .int, accessFlags := 25, slot := 8, constantValue := 0 }, { name := "LOG2_ARRAY_DOUBLE_INDEX_SCALE", type := .int, accessFlags := 25, slot := 9, constantValue := 0 }, { name := "LOG2_BYTE_BIT_SIZE", type := .int, accessFlags := 26, slot := 10, constantValue := 0 }, { name := "T_BOOLEAN", type := .int, accessFlags := 25, slot := 11, constantValue := 0 }, { name := "T_CHAR", type := .int, accessFlags := 25, slot := 12, constantValue := 0 }, { name := "T_FLOAT", type := .int, accessFlags := 25, slot := 13, constantValue := 0 }, { name := "T_DOUBLE", type := .int, accessFlags := 25, slot := 14, constantValue := 0 }, { name := "T_BYTE", type := .int, accessFlags := 25, slot := 15, constantValue := 0 }, { name := "T_SHORT", type := .int, accessFlags := 25, slot := 16, constantValue := 0 }, { name := "T_INT", type := .int, accessFlags := 25, slot := 17, constantValue := 0 }, { name := "T_LONG", type := .int, accessFlags := 25, slot := 18, constantValue := 0 }, { name := "JLA", type := (.object "jdk/internal/access/JavaLangAccess"), accessFlags := 26, slot := 19, constantValue := 0 }, { name := "SOFT_MAX_ARRAY_LENGTH", type := .int, accessFlags := 25, slot := 20, constantValue := 0 }]
  methods := #[k12m0]
  instanceTypes := #[]
  staticTypes := #[(.object "jdk/internal/misc/Unsafe"), .boolean, .int, .int, .int, .int, .int, .int, .int, .int, .int, .int, .int, .int, .int, .int, .int, .int, .int, (.object "jdk/internal/access/JavaLangAccess"), .int]
  resolved := Array.replicate 378 none
  statics := none }

def pool13 : Array CpInfo := pool [(1, u "java/lang/Cloneable"), (0, .class_ 1), (0, u "java/lang/Object"), (0, .class_ 3)] 3

/-- java/lang/Cloneable -/
def k13 : Class := { plain "java/lang/Cloneable" (some 0) with
  accessFlags := 1537
  interfaces := #[]
  cf := some (fileOf pool13 2 #[] #[] 1537 4 #[] #[])
  fields := #[]
  methods := #[]
  instanceTypes := #[]
  staticTypes := #[]
  resolved := Array.replicate 8 none
  statics := none }

/-- the primitive byte -/
def k14 : Class := { plain "byte" none with kind := .primitive 'B', accessFlags := 0x411 }
/-- [B -/
def k15 : Class := { plain "[B" (some 0) with kind := .array 14 .byte, interfaces := #[13, 3], accessFlags := 1041 }

/-- the primitive char -/
def k16 : Class := { plain "char" none with kind := .primitive 'C', accessFlags := 0x411 }
/-- [C -/
def k17 : Class := { plain "[C" (some 0) with kind := .array 16 .char, interfaces := #[13, 3], accessFlags := 1041 }

/-- the primitive int -/
def k18 : Class := { plain "int" none with kind := .primitive 'I', accessFlags := 0x411 }
/-- [I -/
def k19 : Class := { plain "[I" (some 0) with kind := .array 18 .int, interfaces := #[13, 3], accessFlags := 1041 }

def heap : Heap := #[{ cls := 8, slots := #[.long 0, .int 1, .null, .int 0, .null, .int 0, .int 0], vm := .statics 8 },
  { cls := 11, slots := #[.null, .null, .null], vm := .statics 11 }]
def classes : Array Class := #[k0, k1, k2, k3, k4, k5, k6, k7, k8, k9, k10, k11, k12, k13, k14, k15, k16, k17, k18, k19]
def interned : List (Array UInt16 × Addr) := []
def slotsUsed : Nat := 10
def theMethod : MethodId := ⟨1, 1⟩
def args0 : Array Value := #[.int 3, .int 4, .int 5, .int 6, .int 7]
def aboutOver (below : List Frame) : State where
  vm := { classes := classes, interned := interned.toArray }
  heap := heap
  slotsUsed := slotsUsed
  threads := #[{ frames := .invoking theMethod args0 :: below }]
def below0 : List Frame := [.native { method := ⟨0, 0⟩, args := #[] }]
def about1 : State := aboutOver below0
def p0 : Program := .bare "" "" ""
def e0 : Env := launch0.env 0 0 0
theorem w_frames : about1.frames = Frame.invoking theMethod args0 :: below0 := rfl
set_option maxRecDepth 65536 in
theorem w_args : argsFit about1.vm theMethod args0 = true := by decide +kernel
set_option maxRecDepth 65536 in
theorem w_heap : heapFits about1 = true := by decide +kernel
set_option maxRecDepth 65536 in
theorem w_runnable : about1.curStatus? = some .runnable := by decide +kernel
set_option maxRecDepth 65536 in
theorem w_alone : about1.alone = true := by decide +kernel
set_option maxRecDepth 65536 in
theorem w_named : about1.methodNamed? x = some theMethod := by decide +kernel
set_option maxRecDepth 65536 in
theorem w_hears : about1.hears theMethod below0 = true := by decide +kernel
set_option maxRecDepth 65536 in
theorem w_ripe : about1.ripe theMethod args0 below0 = true := by decide +kernel
theorem w_running : about1.status = .running := rfl
set_option maxRecDepth 65536 in
theorem w_room : about1.hasRoom e0.platform room_1 = true :=
  launch0.hasRoom_least _ room_1 (by decide +kernel) (by decide +kernel) (by decide +kernel) (by decide +kernel) (by decide +kernel) (by decide +kernel)
theorem allAtoms_all (ts : List Jvm.Cond) (a : Array Jvm.Value) (st : Jvm.State) : (allAtoms ts).before a st = ts.all (fun c => c.before a st) := by
  induction ts with
  | nil => rfl
  | cons c t ih =>
    show (Jvm.Cond.and c (allAtoms t)).before a st = _
    rw [Jvm.Cond.before_and, ih, List.all_cons]
def words1 : List Jvm.Cond := Jvm.Cond.code x code maxLocals ret :: tables_1
/-- a 'code' word, met by the world's own term for the bytes: nothing is compared byte by byte -/
theorem code_word {y : MethodName} {bytes : ByteArray} {mx : Nat} {rt : Option FieldType} {a : Array Value} {s : State} {m : MethodId} {meth : Method} {c : Code} (h1 : s.methodNamed? y = some m) (h2 : s.vm.method? m = some meth) (h3 : meth.code = some c) (h4 : c.code = bytes)
    (h5 : (c.maxLocals == mx && c.exceptionTable.isEmpty && decide (c.maxStack ≤ mostOperands) && decide (meth.sig.returnType = rt) && !meth.locks && decide (parseMethodDescriptor y.desc = some meth.sig)) = true) : (Jvm.Cond.code y bytes mx rt).before a s = true := by
  simp only [Bool.and_eq_true, beq_iff_eq, Bool.not_eq_true', decide_eq_true_eq] at h5
  obtain ⟨⟨⟨⟨⟨g1, g2⟩, g3⟩, g4⟩, g5⟩, g6⟩ := h5
  simp [Cond.before, Cond.holds, Cond.value, h1, h2, h3, h4, g1, g2, g3, g4, g5, g6]
def isCode : Jvm.Cond → Bool
  | .code _ _ _ _ => true
  | _ => false
theorem all_split {L : List Jvm.Cond} {P : Jvm.Cond → Bool} (h1 : L.all (fun c => isCode c || P c) = true) (h2 : ∀ c ∈ L.filter isCode, P c = true) : L.all P = true := by
  refine List.all_eq_true.mpr fun c hc => ?_
  have h := List.all_eq_true.mp h1 c hc
  rcases Bool.eq_false_or_eq_true (isCode c) with hi | hi
  · exact h2 c (List.mem_filter.mpr ⟨hc, hi⟩)
  · simpa [hi] using h
set_option maxRecDepth 65536 in
theorem w_c0 : (Jvm.Cond.code x code maxLocals ret).before args0 about1 = true := code_word (m := ⟨1, 1⟩) (meth := k1m1) (c := k1c1) (by decide +kernel) rfl rfl rfl (by decide +kernel)
set_option maxRecDepth 65536 in
theorem w_c1 : (Jvm.Cond.code ({ cls := "com/example/margay/margay/index/LineCounter", name := "<init>", desc := "(Ljava/lang/String;)V" } : Jvm.MethodName) prog_53_method_1_code (2 : Nat) (Option.none : Option Jvm.ClassFile.FieldType)).before args0 about1 = true := code_word (m := ⟨2, 0⟩) (meth := k2m0) (c := k2c0) (by decide +kernel) rfl rfl rfl (by decide +kernel)
set_option maxRecDepth 65536 in
theorem w_c2 : (Jvm.Cond.code ({ cls := "java/lang/Object", name := "<init>", desc := "()V" } : Jvm.MethodName) object_method_1_code (1 : Nat) (Option.none : Option Jvm.ClassFile.FieldType)).before args0 about1 = true := code_word (m := ⟨0, 0⟩) (meth := k0m0) (c := k0c0) (by decide +kernel) rfl rfl rfl (by decide +kernel)
set_option maxRecDepth 65536 in
theorem w_c3 : (Jvm.Cond.code ({ cls := "java/lang/String", name := "equals", desc := "(Ljava/lang/Object;)Z" } : Jvm.MethodName) jdk_42_method_66_code (3 : Nat) (Option.some Jvm.ClassFile.FieldType.boolean)).before args0 about1 = true := code_word (m := ⟨8, 2⟩) (meth := k8m2) (c := k8c2) (by decide +kernel) rfl rfl rfl (by decide +kernel)
set_option maxRecDepth 65536 in
theorem w_c4 : (Jvm.Cond.code ({ cls := "com/example/margay/margay/index/LineCounter", name := "endsLineWithCarriageReturn", desc := "(C)Z" } : Jvm.MethodName) prog_53_method_4_code (2 : Nat) (Option.some Jvm.ClassFile.FieldType.boolean)).before args0 about1 = true := code_word (m := ⟨2, 3⟩) (meth := k2m3) (c := k2c3) (by decide +kernel) rfl rfl rfl (by decide +kernel)
set_option maxRecDepth 65536 in
theorem w_c5 : (Jvm.Cond.code ({ cls := "com/example/margay/margay/index/LineCounter", name := "endsLine", desc := "(C)Z" } : Jvm.MethodName) prog_53_method_3_code (2 : Nat) (Option.some Jvm.ClassFile.FieldType.boolean)).before args0 about1 = true := code_word (m := ⟨2, 2⟩) (meth := k2m2) (c := k2c2) (by decide +kernel) rfl rfl rfl (by decide +kernel)
set_option maxRecDepth 65536 in
theorem w_c6 : (Jvm.Cond.code ({ cls := "com/example/margay/margay/index/LineCounter", name := "count", desc := "(C)V" } : Jvm.MethodName) prog_53_method_2_code (3 : Nat) (Option.none : Option Jvm.ClassFile.FieldType)).before args0 about1 = true := code_word (m := ⟨2, 1⟩) (meth := k2m1) (c := k2c1) (by decide +kernel) rfl rfl rfl (by decide +kernel)
set_option maxRecDepth 65536 in
theorem w_c7 : (Jvm.Cond.code ({ cls := "com/example/margay/margay/index/LineCounter", name := "line", desc := "()I" } : Jvm.MethodName) prog_53_method_5_code (1 : Nat) (Option.some Jvm.ClassFile.FieldType.int)).before args0 about1 = true := code_word (m := ⟨2, 4⟩) (meth := k2m4) (c := k2c4) (by decide +kernel) rfl rfl rfl (by decide +kernel)
set_option maxRecDepth 65536 in
theorem w_c8 : (Jvm.Cond.code ({ cls := "com/example/margay/margay/index/LineCounter", name := "column", desc := "()I" } : Jvm.MethodName) prog_53_method_6_code (1 : Nat) (Option.some Jvm.ClassFile.FieldType.int)).before args0 about1 = true := code_word (m := ⟨2, 5⟩) (meth := k2m5) (c := k2c5) (by decide +kernel) rfl rfl rfl (by decide +kernel)
set_option maxRecDepth 65536 in
theorem w_c9 : (Jvm.Cond.code ({ cls := "java/lang/String", name := "<init>", desc := "([C)V" } : Jvm.MethodName) jdk_42_method_3_code (2 : Nat) (Option.none : Option Jvm.ClassFile.FieldType)).before args0 about1 = true := code_word (m := ⟨8, 1⟩) (meth := k8m1) (c := k8c1) (by decide +kernel) rfl rfl rfl (by decide +kernel)
set_option maxRecDepth 65536 in
theorem w_c10 : (Jvm.Cond.code ({ cls := "java/lang/String", name := "<init>", desc := "([CIILjava/lang/Void;)V" } : Jvm.MethodName) jdk_42_method_149_code (6 : Nat) (Option.none : Option Jvm.ClassFile.FieldType)).before args0 about1 = true := code_word (m := ⟨8, 3⟩) (meth := k8m3) (c := k8c3) (by decide +kernel) rfl rfl rfl (by decide +kernel)
set_option maxRecDepth 65536 in
theorem w_c11 : (Jvm.Cond.code ({ cls := "java/lang/StringUTF16", name := "compress", desc := "([CII)[B" } : Jvm.MethodName) jdk_52_method_16_code (6 : Nat) (Option.some (Jvm.ClassFile.FieldType.array Jvm.ClassFile.FieldType.byte))).before args0 about1 = true := code_word (m := ⟨9, 2⟩) (meth := k9m2) (c := k9c2) (by decide +kernel) rfl rfl rfl (by decide +kernel)
set_option maxRecDepth 65536 in
theorem w_c12 : (Jvm.Cond.code ({ cls := "java/lang/StringUTF16", name := "compress", desc := "([CI[BII)I" } : Jvm.MethodName) jdk_52_method_21_code (7 : Nat) (Option.some Jvm.ClassFile.FieldType.int)).before args0 about1 = true := code_word (m := ⟨9, 3⟩) (meth := k9m3) (c := k9c3) (by decide +kernel) rfl rfl rfl (by decide +kernel)
set_option maxRecDepth 65536 in
theorem w_c13 : (Jvm.Cond.code ({ cls := "java/lang/StringUTF16", name := "coderFromArrayLen", desc := "([BI)B" } : Jvm.MethodName) jdk_52_method_15_code (2 : Nat) (Option.some Jvm.ClassFile.FieldType.byte)).before args0 about1 = true := code_word (m := ⟨9, 1⟩) (meth := k9m1) (c := k9c1) (by decide +kernel) rfl rfl rfl (by decide +kernel)
set_option maxRecDepth 65536 in
theorem w_c14 : (Jvm.Cond.code ({ cls := "java/lang/StringLatin1", name := "equals", desc := "([B[B)Z" } : Jvm.MethodName) jdk_43_method_13_code (3 : Nat) (Option.some Jvm.ClassFile.FieldType.boolean)).before args0 about1 = true := code_word (m := ⟨10, 1⟩) (meth := k10m1) (c := k10c1) (by decide +kernel) rfl rfl rfl (by decide +kernel)
def codes1 : List Jvm.Cond := [Jvm.Cond.code x code maxLocals ret, Jvm.Cond.code ({ cls := "com/example/margay/margay/index/LineCounter", name := "<init>", desc := "(Ljava/lang/String;)V" } : Jvm.MethodName) prog_53_method_1_code (2 : Nat) (Option.none : Option Jvm.ClassFile.FieldType), Jvm.Cond.code ({ cls := "java/lang/Object", name := "<init>", desc := "()V" } : Jvm.MethodName) object_method_1_code (1 : Nat) (Option.none : Option Jvm.ClassFile.FieldType), Jvm.Cond.code ({ cls := "java/lang/String", name := "equals", desc := "(Ljava/lang/Object;)Z" } : Jvm.MethodName) jdk_42_method_66_code (3 : Nat) (Option.some Jvm.ClassFile.FieldType.boolean), Jvm.Cond.code ({ cls := "com/example/margay/margay/index/LineCounter", name := "endsLineWithCarriageReturn", desc := "(C)Z" } : Jvm.MethodName) prog_53_method_4_code (2 : Nat) (Option.some Jvm.ClassFile.FieldType.boolean), Jvm.Cond.code ({ cls := "com/example/margay/margay/index/LineCounter", name := "endsLine", desc := "(C)Z" } : Jvm.MethodName) prog_53_method_3_code (2 : Nat) (Option.some Jvm.ClassFile.FieldType.boolean), Jvm.Cond.code ({ cls := "com/example/margay/margay/index/LineCounter", name := "count", desc := "(C)V" } : Jvm.MethodName) prog_53_method_2_code (3 : Nat) (Option.none : Option Jvm.ClassFile.FieldType), Jvm.Cond.code ({ cls := "com/example/margay/margay/index/LineCounter", name := "line", desc := "()I" } : Jvm.MethodName) prog_53_method_5_code (1 : Nat) (Option.some Jvm.ClassFile.FieldType.int), Jvm.Cond.code ({ cls := "com/example/margay/margay/index/LineCounter", name := "column", desc := "()I" } : Jvm.MethodName) prog_53_method_6_code (1 : Nat) (Option.some Jvm.ClassFile.FieldType.int), Jvm.Cond.code ({ cls := "java/lang/String", name := "<init>", desc := "([C)V" } : Jvm.MethodName) jdk_42_method_3_code (2 : Nat) (Option.none : Option Jvm.ClassFile.FieldType), Jvm.Cond.code ({ cls := "java/lang/String", name := "<init>", desc := "([CIILjava/lang/Void;)V" } : Jvm.MethodName) jdk_42_method_149_code (6 : Nat) (Option.none : Option Jvm.ClassFile.FieldType), Jvm.Cond.code ({ cls := "java/lang/StringUTF16", name := "compress", desc := "([CII)[B" } : Jvm.MethodName) jdk_52_method_16_code (6 : Nat) (Option.some (Jvm.ClassFile.FieldType.array Jvm.ClassFile.FieldType.byte)), Jvm.Cond.code ({ cls := "java/lang/StringUTF16", name := "compress", desc := "([CI[BII)I" } : Jvm.MethodName) jdk_52_method_21_code (7 : Nat) (Option.some Jvm.ClassFile.FieldType.int), Jvm.Cond.code ({ cls := "java/lang/StringUTF16", name := "coderFromArrayLen", desc := "([BI)B" } : Jvm.MethodName) jdk_52_method_15_code (2 : Nat) (Option.some Jvm.ClassFile.FieldType.byte), Jvm.Cond.code ({ cls := "java/lang/StringLatin1", name := "equals", desc := "([B[B)Z" } : Jvm.MethodName) jdk_43_method_13_code (3 : Nat) (Option.some Jvm.ClassFile.FieldType.boolean)]
set_option maxRecDepth 65536 in
theorem codes_eq : words1.filter isCode = codes1 := rfl
theorem w_codes : ∀ c ∈ words1.filter isCode, c.before args0 about1 = true := by
  rw [codes_eq]
  intro c hc
  simp only [codes1, List.mem_cons, List.not_mem_nil, or_false] at hc
  rcases hc with rfl | rfl | rfl | rfl | rfl | rfl | rfl | rfl | rfl | rfl | rfl | rfl | rfl | rfl | rfl
  · exact w_c0
  · exact w_c1
  · exact w_c2
  · exact w_c3
  · exact w_c4
  · exact w_c5
  · exact w_c6
  · exact w_c7
  · exact w_c8
  · exact w_c9
  · exact w_c10
  · exact w_c11
  · exact w_c12
  · exact w_c13
  · exact w_c14
set_option maxRecDepth 65536 in
theorem w_t1 : (words1.take 24).all (fun c => isCode c || c.before args0 about1) = true := by decide +kernel
set_option maxRecDepth 65536 in
theorem w_t2 : ((words1.drop 24).take 24).all (fun c => isCode c || c.before args0 about1) = true := by decide +kernel
set_option maxRecDepth 65536 in
theorem w_t3 : (((words1.drop 24).drop 24).take 24).all (fun c => isCode c || c.before args0 about1) = true := by decide +kernel
set_option maxRecDepth 65536 in
theorem w_t4 : (((words1.drop 24).drop 24).drop 24).all (fun c => isCode c || c.before args0 about1) = true := by decide +kernel
theorem w_tables : (allAtoms (Jvm.Cond.code x code maxLocals ret :: tables_1)).before args0 about1 = true := by
  rw [allAtoms_all]
  show words1.all (fun c => c.before args0 about1) = true
  refine all_split ?_ w_codes
  rw [← List.take_append_drop 24 words1, List.all_append, w_t1, ← List.take_append_drop 24 (words1.drop 24), List.all_append, w_t2, ← List.take_append_drop 24 ((words1.drop 24).drop 24), List.all_append, w_t3, w_t4]
  rfl
set_option maxRecDepth 65536 in
theorem w_rest : rest_1_c.before args0 about1 = true := by decide +kernel
set_option maxRecDepth 65536 in
theorem w_case : (Jvm.Cond.and given_1 narrow_1).before args0 about1 = true := by decide +kernel
set_option maxRecDepth 65536 in
theorem w_consts : constsHeld consts_1 about1 := Jvm.Lit.constsHeldB_iff.mp (by decide +kernel)
theorem w_applies : (headSpec (Jvm.Cond.code x code maxLocals ret :: tables_1) room_1).applies x e0.platform about1 = true :=
  (Spec.applies_iff w_frames).mpr ⟨w_running, w_runnable, w_alone, w_named, w_hears, w_ripe, w_room, w_tables⟩
theorem atStart : AtStart classFile x code maxLocals ret World_1 tables_1 room_1 Calls_1 rest_1 Pre_1 launch0 p0 e0 about1 theMethod args0 below0 :=
  ⟨lists_1, trivial, launch0.admits_env _ _ _, launch0.least_env, fairChoices_fair.cas, fairChoices_fair.clock, w_frames, w_args, w_heap, w_applies, ⟨w_consts, trivial⟩, w_rest, w_case⟩
end start1
theorem witness_1 : WitnessClaimed_1 := ⟨start1.p0, start1.e0, start1.about1, start1.theMethod, start1.args0, start1.below0, start1.atStart⟩
end Jvm.Pilot.@@N@@
